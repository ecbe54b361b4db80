import JvmDerived
import JvmDerived.Pilot.@@N@@Statement
import JvmDerived.Pilot.@@N@@Code
set_option linter.unusedVariables false
set_option linter.unusedSimpArgs false
namespace Jvm.Pilot.@@N@@
open Jvm Jvm.ClassFile Sem Op Lib Jvm.Free Jvm.Stand Jvm.LawKit Jvm.RoadKit Bundle Jvm.Pilot.@@N@@.Jvm.D
section OwnKit
variable {p : Program} {l : Launch} {e : Env} {R : Room} {s : State} {m : MethodId} {args : Array Value} {below : List Frame} {meth : Method} {c : Code} {T U W : State} {locs : List Loc} {cells slots : Nat} {Q : Option Value → Heap → List Loc → Prop} {K N : Nat}
/-- from U the body comes to its end, and Q holds there -/
def own_Ends (p : Program) (e : Env) (below : List Frame) (s : State) (Q : Option Value → Heap → List Loc → Prop) (K N : Nat) (U : State) : Prop :=
  ∃ s₂ o, Steps p.tables e below U s₂ ∧ s₂.status = .running ∧ Ended s₂ below o ∧ ∃ v L, o = .returned v ∧ Q v s₂.heap L ∧ FrameEnd s o s₂ L K N
theorem own_by {V : State} (h : ∀ t, Steps p.tables e below V t → Steps p.tables e below U t) (k : own_Ends p e below s Q K N V) : own_Ends p e below s Q K N U := by
  obtain ⟨s2, o, h1, h2⟩ := k; exact ⟨s2, o, h _ h1, h2⟩
theorem own_ret0 (X : Stand p l e R s m args below meth c T locs cells slots) (hx : p.tables.exec = Jvm.exec) (hlk : meth.locks = false) {h : Heap} (eT : T.heap = h) {pc : Nat} {Ls : Array Slot} (hret : meth.sig.returnType = none)
    (hd : decode c.code pc = .ok (.return_, 1)) (hQ : Q none h locs) (hK : cells ≤ K) (hN : slots ≤ N) : own_Ends p e below s Q K N (T.setTop (mkF m pc Ls [])) := by
  obtain ⟨fs, hr, hrun, hended, hW, hsame⟩ := X.leave (v := none) (fun _ => rfl) hlk
  exact ⟨_, _, X.returnOut hx hret hd hr, hrun, hended, _, _, rfl, (by subst eT; exact hQ), ⟨_, rfl⟩, hW, hsame.mono hK hN⟩
theorem own_retI (X : Stand p l e R s m args below meth c T locs cells slots) (hx : p.tables.exec = Jvm.exec) (hlk : meth.locks = false) {h : Heap} (eT : T.heap = h) {pc : Nat} {Ls : Array Slot} {z : Int32} {rest : List Value} (hret : meth.sig.returnType = some .int)
    (hd : decode c.code pc = .ok (.ireturn, 1)) (hQ : Q (some (.int z)) h locs) (hK : cells ≤ K) (hN : slots ≤ N) : own_Ends p e below s Q K N (T.setTop (mkF m pc Ls (.int z :: rest))) := by
  obtain ⟨fs, hr, hrun, hended, hW, hsame⟩ := X.leave (v := some (.int z)) (fun h => by rw [hret] at h; cases h) hlk
  exact ⟨_, _, retOut X hx hret rfl (Or.inl ⟨rfl, Or.inl rfl, z, rfl⟩) hd hr, hrun, hended, _, _, rfl, (by subst eT; exact hQ), ⟨_, rfl⟩, hW, hsame.mono hK hN⟩
theorem own_retN (X : Stand p l e R s m args below meth c T locs cells slots) (hx : p.tables.exec = Jvm.exec) (hlk : meth.locks = false) {h : Heap} (eT : T.heap = h) {pc : Nat} {Ls : Array Slot} {z : Int32} {t : FieldType} {rest : List Value} (hret : meth.sig.returnType = some t) (ht : t = .boolean ∨ t = .byte ∨ t = .char ∨ t = .short) (hz : nar t z = z)
    (hd : decode c.code pc = .ok (.ireturn, 1)) (hQ : Q (some (.int z)) h locs) (hK : cells ≤ K) (hN : slots ≤ N) : own_Ends p e below s Q K N (T.setTop (mkF m pc Ls (.int z :: rest))) := by
  obtain ⟨fs, hr, hrun, hended, hW, hsame⟩ := X.leave (v := some (.int z)) (fun h => by rw [hret] at h; cases h) hlk
  exact ⟨_, _, retN X hx hret ht hd (by rw [hz]; exact hr), hrun, hended, _, _, rfl, (by subst eT; exact hQ), ⟨_, rfl⟩, hW, hsame.mono hK hN⟩
theorem own_retL (X : Stand p l e R s m args below meth c T locs cells slots) (hx : p.tables.exec = Jvm.exec) (hlk : meth.locks = false) {h : Heap} (eT : T.heap = h) {pc : Nat} {Ls : Array Slot} {z : Int64} {rest : List Value} (hret : meth.sig.returnType = some .long)
    (hd : decode c.code pc = .ok (.lreturn, 1)) (hQ : Q (some (.long z)) h locs) (hK : cells ≤ K) (hN : slots ≤ N) : own_Ends p e below s Q K N (T.setTop (mkF m pc Ls (.long z :: rest))) := by
  obtain ⟨fs, hr, hrun, hended, hW, hsame⟩ := X.leave (v := some (.long z)) (fun h => by rw [hret] at h; cases h) hlk
  exact ⟨_, _, retOut X hx hret rfl (Or.inr (Or.inl ⟨rfl, rfl, z, rfl⟩)) hd hr, hrun, hended, _, _, rfl, (by subst eT; exact hQ), ⟨_, rfl⟩, hW, hsame.mono hK hN⟩
theorem own_retA (X : Stand p l e R s m args below meth c T locs cells slots) (hx : p.tables.exec = Jvm.exec) (hlk : meth.locks = false) {h : Heap} (eT : T.heap = h) {pc : Nat} {Ls : Array Slot} {w : Value} {t : FieldType} {rest : List Value} (hw : w.isRef = true) (hret : meth.sig.returnType = some t) (ht : t.isReference = true)
    (hd : decode c.code pc = .ok (.areturn, 1)) (hQ : Q (some w) h locs) (hK : cells ≤ K) (hN : slots ≤ N) : own_Ends p e below s Q K N (T.setTop (mkF m pc Ls (w :: rest))) := by
  obtain ⟨fs, hr, hrun, hended, hW, hsame⟩ := X.leave (v := some w) (fun h => by rw [hret] at h; cases h) hlk
  exact ⟨_, _, retOut X hx hret (by cases t <;> cases w <;> first | rfl | (simp [FieldType.isReference] at ht) | (simp [Value.isRef] at hw)) (Or.inr (Or.inr (Or.inr (Or.inr ⟨rfl, ht, hw⟩)))) hd hr, hrun, hended, _, _, rfl, (by subst eT; exact hQ), ⟨_, rfl⟩, hW, hsame.mono hK hN⟩

theorem own_neg1 : (-1 : Int32).toInt = -1 := rfl
end OwnKit
theorem own_selPriv {s : State} {args args' : Array Value} {y : MethodName} {n : Nat} (wi : (Cond.instantiable y.cls n).before args s = true) (wp : (Cond.privateMethod y).before args' s = true) (wm : (Cond.instanceMethod y).before args s = true) (hy : y.cls ≠ "java/lang/invoke/MethodHandle" ∧ y.cls ≠ "java/lang/invoke/VarHandle") : (Cond.selects y.cls y y).before args s = true := by
  obtain ⟨c, k, h1, h2, h3, h4, -⟩ := Cond.instantiable_spec wi
  exact selects_self_of_private h1 h2 (Bool.or_eq_false_iff.mp h4).1 (Cond.privateMethod_at wp) wm hy
section OwnWords
variable {args : Array Value} {s : State} {t : Term} {x : Addr} {C n d : String} {cl : Cell} {ty : FieldType}
theorem own_evI {k : Int32} (h : (Cond.eq t (.int k)).value args s none s [] = some true) : t.eval args s none [] s = some (.int k) := by
  obtain ⟨y, z, h1, h2, h3, -⟩ := cmp_v (Or.inl h)
  have h2' : z = .int k := (Option.some.inj h2).symm
  subst h2'
  cases y with
  | int v =>
    have q : v = k := by simpa [Cond.value, h1, Term.eval] using h
    rw [h1, q]
  | _ => simp [Kin, Value.isRef] at h3
theorem own_fldS {k : Int32} (ht : t.eval args s none [] s = some (.ref x)) (h : (Cond.eq (.field t C n d) (.int k)).value args s none s [] = some true) : Fld s s.heap x C n d (.int k) :=
  Fld.start ((fld_at ht).symm.trans (own_evI h))
theorem own_lenEv {k : Int32} (ev : t.eval args s none [] s = some (.ref x)) (A : Arr s s.heap x cl ty) (h : (Cond.eq (.length t) (.int k)).value args s none s [] = some true) : cl.slots.size.toInt32 = k ∧ cl.slots.size < 2 ^ 31 := by
  have e := own_evI h
  have hat := A.fin (Vm.Alike.refl _)
  simp only [Term.eval, ev, hat, Option.bind_eq_bind, Option.bind_some] at e
  split at e
  · rename_i hlt
    exact ⟨Value.int.inj (Option.some.inj e), hlt⟩
  · cases e
theorem own_len256 (ev : t.eval args s none [] s = some (.ref x)) (A : Arr s s.heap x cl ty) (h : (Cond.eq (.length t) (.int 256)).value args s none s [] = some true) : cl.slots.size = 256 := by
  obtain ⟨h1, h2⟩ := own_lenEv ev A h
  have q := len_toInt h2
  rw [h1] at q
  have q' : (256 : Int32).toInt = 256 := rfl
  omega
theorem own_cacheEl {K : String} {E : Jvm.Cond} (ev : (Term.static K n d).eval args s none [] s = some (.ref x)) (A : Arr s s.heap x cl ty) (hsz : cl.slots.size = 256) (h : (Cond.all (.static K n d) (.and (.exactly (.elem (.static K n d) (.index 0)) C) E)).value args s none s [] = some true) : ∀ j, j < 256 → ∃ b, cl.slots[j]? = some (.ref b) ∧ Exa s s.heap b C := by
  intro j hj
  have hat := A.fin (Vm.Alike.refl _)
  obtain ⟨h1, -⟩ := and_e (Cond.all_elim ev hat h j (by rw [hsz]; exact hj))
  obtain ⟨b, eb⟩ := exa_v h1
  have evj : (Term.static K n d).eval args s none [j] s = some (.ref x) := ev
  have q := (elem_in eb evj (Term.index_eval j) A.1).2
  rw [show j.toInt32 = Int32.ofNat j from rfl, Int32.toNatClampNeg_ofNat_of_lt (by omega)] at q
  exact ⟨b, q, exa_at eb h1⟩
theorem own_elemI {i k : Int32} (ev : t.eval args s none [] s = some (.ref x)) (A : Arr s s.heap x cl ty) (h : (Cond.eq (.elem t (.int i)) (.int k)).value args s none s [] = some true) : ¬ (i < 0 ∨ cl.slots.size ≤ i.toNatClampNeg) ∧ cl.slots[i.toNatClampNeg]? = some (.int k) :=
  elem_in (own_evI h) ev (Term.int_eval i) A.1
end OwnWords

theorem own_d_jdk_18_1_0 : decode jdk_18_method_1_code 0 = .ok (.aload_n 0, 1) := by decide +kernel
theorem own_d_jdk_18_1_1 : decode jdk_18_method_1_code 1 = .ok (.invokespecial 1, 3) := by decide +kernel
theorem own_d_jdk_18_1_4 : decode jdk_18_method_1_code 4 = .ok (.return_, 1) := by decide +kernel
theorem own_d_jdk_29_66_0 : decode jdk_29_method_66_code 0 = .ok (.lload_n 0, 1) := by decide +kernel
theorem own_d_jdk_29_66_1 : decode jdk_29_method_66_code 1 = .ok (.lload_n 2, 1) := by decide +kernel
theorem own_d_jdk_29_66_2 : decode jdk_29_method_66_code 2 = .ok (.lcmp, 1) := by decide +kernel
theorem own_d_jdk_29_66_3 : decode jdk_29_method_66_code 3 = .ok (.ifCond .lt 7, 3) := by decide +kernel
theorem own_d_jdk_29_66_6 : decode jdk_29_method_66_code 6 = .ok (.lload_n 0, 1) := by decide +kernel
theorem own_d_jdk_29_66_7 : decode jdk_29_method_66_code 7 = .ok (.goto 4, 3) := by decide +kernel
theorem own_d_jdk_29_66_10 : decode jdk_29_method_66_code 10 = .ok (.lload_n 2, 1) := by decide +kernel
theorem own_d_jdk_29_66_11 : decode jdk_29_method_66_code 11 = .ok (.lreturn, 1) := by decide +kernel
theorem own_d_jdk_35_24_0 : decode jdk_35_method_24_code 0 = .ok (.sipush 128, 3) := by decide +kernel
theorem own_d_jdk_35_24_3 : decode jdk_35_method_24_code 3 = .ok (.istore_n 2, 1) := by decide +kernel
theorem own_d_jdk_35_24_4 : decode jdk_35_method_24_code 4 = .ok (.lload_n 0, 1) := by decide +kernel
theorem own_d_jdk_35_24_5 : decode jdk_35_method_24_code 5 = .ok (.ldc2_w 230, 3) := by decide +kernel
theorem own_d_jdk_35_24_8 : decode jdk_35_method_24_code 8 = .ok (.lcmp, 1) := by decide +kernel
theorem own_d_jdk_35_24_9 : decode jdk_35_method_24_code 9 = .ok (.ifCond .lt 22, 3) := by decide +kernel
theorem own_d_jdk_35_24_12 : decode jdk_35_method_24_code 12 = .ok (.lload_n 0, 1) := by decide +kernel
theorem own_d_jdk_35_24_13 : decode jdk_35_method_24_code 13 = .ok (.ldc2_w 232, 3) := by decide +kernel
theorem own_d_jdk_35_24_16 : decode jdk_35_method_24_code 16 = .ok (.lcmp, 1) := by decide +kernel
theorem own_d_jdk_35_24_17 : decode jdk_35_method_24_code 17 = .ok (.ifCond .gt 14, 3) := by decide +kernel
theorem own_d_jdk_35_24_20 : decode jdk_35_method_24_code 20 = .ok (.getstatic 234, 3) := by decide +kernel
theorem own_d_jdk_35_24_23 : decode jdk_35_method_24_code 23 = .ok (.lload_n 0, 1) := by decide +kernel
theorem own_d_jdk_35_24_24 : decode jdk_35_method_24_code 24 = .ok (.l2i, 1) := by decide +kernel
theorem own_d_jdk_35_24_25 : decode jdk_35_method_24_code 25 = .ok (.sipush 128, 3) := by decide +kernel
theorem own_d_jdk_35_24_28 : decode jdk_35_method_24_code 28 = .ok (.iadd, 1) := by decide +kernel
theorem own_d_jdk_35_24_29 : decode jdk_35_method_24_code 29 = .ok (.aaload, 1) := by decide +kernel
theorem own_d_jdk_35_24_30 : decode jdk_35_method_24_code 30 = .ok (.areturn, 1) := by decide +kernel
theorem own_d_jdk_35_24_31 : decode jdk_35_method_24_code 31 = .ok (.new 1, 3) := by decide +kernel
theorem own_d_jdk_35_24_34 : decode jdk_35_method_24_code 34 = .ok (.dup, 1) := by decide +kernel
theorem own_d_jdk_35_24_35 : decode jdk_35_method_24_code 35 = .ok (.lload_n 0, 1) := by decide +kernel
theorem own_d_jdk_35_24_36 : decode jdk_35_method_24_code 36 = .ok (.invokespecial 240, 3) := by decide +kernel
theorem own_d_jdk_35_24_39 : decode jdk_35_method_24_code 39 = .ok (.areturn, 1) := by decide +kernel
theorem own_d_jdk_35_26_0 : decode jdk_35_method_26_code 0 = .ok (.aload_n 0, 1) := by decide +kernel
theorem own_d_jdk_35_26_1 : decode jdk_35_method_26_code 1 = .ok (.invokespecial 270, 3) := by decide +kernel
theorem own_d_jdk_35_26_4 : decode jdk_35_method_26_code 4 = .ok (.aload_n 0, 1) := by decide +kernel
theorem own_d_jdk_35_26_5 : decode jdk_35_method_26_code 5 = .ok (.lload_n 1, 1) := by decide +kernel
theorem own_d_jdk_35_26_6 : decode jdk_35_method_26_code 6 = .ok (.putfield 273, 3) := by decide +kernel
theorem own_d_jdk_35_26_9 : decode jdk_35_method_26_code 9 = .ok (.return_, 1) := by decide +kernel
theorem own_d_prog_41_1_0 : decode prog_41_method_1_code 0 = .ok (.aload_n 0, 1) := by decide +kernel
theorem own_d_prog_41_1_1 : decode prog_41_method_1_code 1 = .ok (.invokespecial 1, 3) := by decide +kernel
theorem own_d_prog_41_1_4 : decode prog_41_method_1_code 4 = .ok (.lload_n 1, 1) := by decide +kernel
theorem own_d_prog_41_1_5 : decode prog_41_method_1_code 5 = .ok (.lconst 0, 1) := by decide +kernel
theorem own_d_prog_41_1_6 : decode prog_41_method_1_code 6 = .ok (.lcmp, 1) := by decide +kernel
theorem own_d_prog_41_1_7 : decode prog_41_method_1_code 7 = .ok (.ifCond .lt 16, 3) := by decide +kernel
theorem own_d_prog_41_1_10 : decode prog_41_method_1_code 10 = .ok (.lload_n 3, 1) := by decide +kernel
theorem own_d_prog_41_1_11 : decode prog_41_method_1_code 11 = .ok (.lconst 0, 1) := by decide +kernel
theorem own_d_prog_41_1_12 : decode prog_41_method_1_code 12 = .ok (.lcmp, 1) := by decide +kernel
theorem own_d_prog_41_1_13 : decode prog_41_method_1_code 13 = .ok (.ifCond .lt 10, 3) := by decide +kernel
theorem own_d_prog_41_1_16 : decode prog_41_method_1_code 16 = .ok (.lload 5, 2) := by decide +kernel
theorem own_d_prog_41_1_18 : decode prog_41_method_1_code 18 = .ok (.lload_n 1, 1) := by decide +kernel
theorem own_d_prog_41_1_19 : decode prog_41_method_1_code 19 = .ok (.lcmp, 1) := by decide +kernel
theorem own_d_prog_41_1_20 : decode prog_41_method_1_code 20 = .ok (.ifCond .ge 20, 3) := by decide +kernel
theorem own_d_prog_41_1_40 : decode prog_41_method_1_code 40 = .ok (.aload_n 0, 1) := by decide +kernel
theorem own_d_prog_41_1_41 : decode prog_41_method_1_code 41 = .ok (.lload_n 1, 1) := by decide +kernel
theorem own_d_prog_41_1_42 : decode prog_41_method_1_code 42 = .ok (.putfield 16, 3) := by decide +kernel
theorem own_d_prog_41_1_45 : decode prog_41_method_1_code 45 = .ok (.aload_n 0, 1) := by decide +kernel
theorem own_d_prog_41_1_46 : decode prog_41_method_1_code 46 = .ok (.lload_n 3, 1) := by decide +kernel
theorem own_d_prog_41_1_47 : decode prog_41_method_1_code 47 = .ok (.putfield 22, 3) := by decide +kernel
theorem own_d_prog_41_1_50 : decode prog_41_method_1_code 50 = .ok (.aload_n 0, 1) := by decide +kernel
theorem own_d_prog_41_1_51 : decode prog_41_method_1_code 51 = .ok (.lload 5, 2) := by decide +kernel
theorem own_d_prog_41_1_53 : decode prog_41_method_1_code 53 = .ok (.putfield 25, 3) := by decide +kernel
theorem own_d_prog_41_1_56 : decode prog_41_method_1_code 56 = .ok (.return_, 1) := by decide +kernel
theorem own_d_prog_41_5_0 : decode prog_41_method_5_code 0 = .ok (.aload_n 1, 1) := by decide +kernel
theorem own_d_prog_41_5_1 : decode prog_41_method_5_code 1 = .ok (.instanceof 17, 3) := by decide +kernel
theorem own_d_prog_41_5_4 : decode prog_41_method_5_code 4 = .ok (.ifCond .ne 5, 3) := by decide +kernel
theorem own_d_prog_41_5_7 : decode prog_41_method_5_code 7 = .ok (.iconst 0, 1) := by decide +kernel
theorem own_d_prog_41_5_8 : decode prog_41_method_5_code 8 = .ok (.ireturn, 1) := by decide +kernel
theorem own_d_prog_41_5_9 : decode prog_41_method_5_code 9 = .ok (.aload_n 1, 1) := by decide +kernel
theorem own_d_prog_41_5_10 : decode prog_41_method_5_code 10 = .ok (.checkcast 17, 3) := by decide +kernel
theorem own_d_prog_41_5_13 : decode prog_41_method_5_code 13 = .ok (.astore_n 2, 1) := by decide +kernel
theorem own_d_prog_41_5_14 : decode prog_41_method_5_code 14 = .ok (.aload_n 0, 1) := by decide +kernel
theorem own_d_prog_41_5_15 : decode prog_41_method_5_code 15 = .ok (.getfield 16, 3) := by decide +kernel
theorem own_d_prog_41_5_18 : decode prog_41_method_5_code 18 = .ok (.aload_n 2, 1) := by decide +kernel
theorem own_d_prog_41_5_19 : decode prog_41_method_5_code 19 = .ok (.getfield 16, 3) := by decide +kernel
theorem own_d_prog_41_5_22 : decode prog_41_method_5_code 22 = .ok (.lcmp, 1) := by decide +kernel
theorem own_d_prog_41_5_23 : decode prog_41_method_5_code 23 = .ok (.ifCond .ne 31, 3) := by decide +kernel
theorem own_d_prog_41_5_26 : decode prog_41_method_5_code 26 = .ok (.aload_n 0, 1) := by decide +kernel
theorem own_d_prog_41_5_27 : decode prog_41_method_5_code 27 = .ok (.getfield 22, 3) := by decide +kernel
theorem own_d_prog_41_5_30 : decode prog_41_method_5_code 30 = .ok (.aload_n 2, 1) := by decide +kernel
theorem own_d_prog_41_5_31 : decode prog_41_method_5_code 31 = .ok (.getfield 22, 3) := by decide +kernel
theorem own_d_prog_41_5_34 : decode prog_41_method_5_code 34 = .ok (.lcmp, 1) := by decide +kernel
theorem own_d_prog_41_5_35 : decode prog_41_method_5_code 35 = .ok (.ifCond .ne 19, 3) := by decide +kernel
theorem own_d_prog_41_5_38 : decode prog_41_method_5_code 38 = .ok (.aload_n 0, 1) := by decide +kernel
theorem own_d_prog_41_5_39 : decode prog_41_method_5_code 39 = .ok (.getfield 25, 3) := by decide +kernel
theorem own_d_prog_41_5_42 : decode prog_41_method_5_code 42 = .ok (.aload_n 2, 1) := by decide +kernel
theorem own_d_prog_41_5_43 : decode prog_41_method_5_code 43 = .ok (.getfield 25, 3) := by decide +kernel
theorem own_d_prog_41_5_46 : decode prog_41_method_5_code 46 = .ok (.lcmp, 1) := by decide +kernel
theorem own_d_prog_41_5_47 : decode prog_41_method_5_code 47 = .ok (.ifCond .ne 7, 3) := by decide +kernel
theorem own_d_prog_41_5_50 : decode prog_41_method_5_code 50 = .ok (.iconst 1, 1) := by decide +kernel
theorem own_d_prog_41_5_51 : decode prog_41_method_5_code 51 = .ok (.goto 4, 3) := by decide +kernel
theorem own_d_prog_41_5_54 : decode prog_41_method_5_code 54 = .ok (.iconst 0, 1) := by decide +kernel
theorem own_d_prog_41_5_55 : decode prog_41_method_5_code 55 = .ok (.ireturn, 1) := by decide +kernel
theorem own_pd0 : parseMethodDescriptor "()V" = some ⟨[], none⟩ := by decide +kernel
theorem own_pd1 : parseMethodDescriptor "(J)V" = some ⟨[.long], none⟩ := by decide +kernel
theorem own_pd2 : parseMethodDescriptor "(JJ)J" = some ⟨[.long, .long], some .long⟩ := by decide +kernel
theorem own_pd3 : parseMethodDescriptor "(JJJ)V" = some ⟨[.long, .long, .long], none⟩ := by decide +kernel
theorem own_pd4 : parseMethodDescriptor "(Ljava/lang/Object;)Z" = some ⟨[(.object "java/lang/Object")], some .boolean⟩ := by decide +kernel
theorem own_pd5 : parseMethodDescriptor "(J)Ljava/lang/Long;" = some ⟨[.long], some (.object "java/lang/Long")⟩ := by decide +kernel
theorem own_pn0 : plainName "com/example/balcon/balcon/storage/Mark" = true := by first | (simp [plainName, overriddenIn]; done) | decide +kernel
theorem own_pn1 : plainName "java/lang/Number" = true := by first | (simp [plainName, overriddenIn]; done) | decide +kernel
theorem own_pn2 : plainName "java/lang/Long" = true := by first | (simp [plainName, overriddenIn]; done) | decide +kernel
theorem own_pn3 : plainName "com/example/balcon/balcon/storage/MarkEqualsPinLaw" = true := by first | (simp [plainName, overriddenIn]; done) | decide +kernel
theorem own_placeI (w : Int32) (h1 : ¬ w < (-128 : Int32)) (h2 : ¬ (127 : Int32) < w) : ¬ ((w + (128 : Int32)) < 0 ∨ 256 ≤ (w + (128 : Int32)).toNatClampNeg) ∧ (w + (128 : Int32)).toNatClampNeg < 256 := by
  have e1 := c_iadd w 128
  have e2 := rng32 (w + 128)
  have e3 := rng32 w
  simp only [Int32.lt_iff_toInt_lt, Int32.reduceToInt, Int32.toNatClampNeg] at *
  have e4 : (-128 : Int32).toInt = -128 := rfl
  omega
theorem own_nsRoot {Z : State} {a0 : Array Value} {K : String} {n : Nat} (w : (Cond.noSuperclass "java/lang/Object").before a0 Z = true) (wi : (Cond.instantiable K n).before a0 Z = true) (hn : "java/lang/Object" ≠ K) : NS Z "java/lang/Object" K := by
  obtain ⟨c, k, h1, h2, h3, -⟩ := Cond.noSuperclass_spec w
  obtain ⟨t, kt, g1, -⟩ := Cond.instantiable_spec wi
  refine ⟨c, t, h1, g1, fun fuel => ?_⟩
  have ne := ids_ne h1 g1 hn
  rcases fuel with _ | f
  · rfl
  · simp [Vm.isSubclassAux, ne, h2, h3]
theorem own_notOf {Z : State} {a0 : Array Value} {C S K : String} {n : Nat} (w : (Cond.superclass C S).before a0 Z = true) (wi : (Cond.instantiable K n).before a0 Z = true) (N : NS Z C K) (hn : C ≠ K) : ∃ c t, Z.vm.findClass C = some c ∧ Z.vm.findClass K = some t ∧ Z.vm.assignable c t = false := by
  obtain ⟨c, t, f1, f2, hN⟩ := N
  obtain ⟨p, k, kp, -, h2, -, -, h5, -, h7⟩ := Cond.superclass_spec f1 w
  obtain ⟨t', kt, g1, g2, g3, g4, -⟩ := Cond.instantiable_spec wi
  cases f2.symm.trans g1
  have ne := ids_ne f1 f2 hn
  have gi : kt.isInterface = false := (Bool.or_eq_false_iff.mp g4).1
  exact ⟨c, t, f1, f2, by show Z.vm.assignableAux (255 + 1) c t = false; simp [Vm.assignableAux, ne, h2, g2, h5, g3, gi, Vm.isSubclass, hN]⟩
def own_eqM (a b c d e f : Int64) : Int32 := if a = b ∧ c = d ∧ e = f then 1 else 0
theorem own_eqM_symm (a b c d e f : Int64) : own_eqM a b c d e f = own_eqM b a d c f e := by unfold own_eqM; simp only [eq_comm]
theorem own_eqM_self (a c e : Int64) : own_eqM a a c c e e = 1 := if_pos ⟨rfl, rfl, rfl⟩
def own_maxL (x y : Int64) : Int64 := if x < y then y else x
theorem own_maxL_ge (x y : Int64) : ¬ own_maxL x y < x := by
  unfold own_maxL; split
  · rename_i h; simp only [Int64.lt_iff_toInt_lt] at *; omega
  · simp only [Int64.lt_iff_toInt_lt] at *; omega
theorem own_nn64 (x : Int64) : ¬ (x &&& (9223372036854775807 : Int64)) < (0 : Int64) := by
  have e : (x &&& (9223372036854775807 : Int64)).toInt = x.toInt % (2 ^ 63 : Nat) := c_maskL x 9223372036854775807 63 (by decide) (by decide)
  have e0 : (0 : Int64).toInt = 0 := rfl
  rw [Int64.lt_iff_toInt_lt, e, e0]; omega

def own_Q_own_rmax (Z : State) (q0 : Int64) (q1 : Int64) (h0 : Heap) (n0 : Nat) : Option Value → Heap → List Loc → Prop := fun v h L => v = some (.long (own_maxL q0 q1)) ∧ Fr n0 L ∧ h = h0
theorem own_ef_own_rmax (m : MethodId) (x0 : Int64) (x1 : Int64) : entryFrame m #[(.long x0), (.long x1)] 4 = mkF m 0 #[.val (.long x0), .second, .val (.long x1), .second] [] := by first | (simp [entryFrame, mkF, argsToLocals, Value.category]; done) | rfl
set_option maxRecDepth 65536 in
set_option maxHeartbeats 40000000 in
theorem own_rmax (l : Launch) (Z : State) (a0 : Array Value) (hw : ∀ d ∈ tables_1, d.before a0 Z = true) (ws : List Jvm.Cond) (q0 : Int64) (q1 : Int64) (h0 : Heap) (n0 : Nat) :
    MetFree l (⟨"java/lang/Math", "max", "(JJ)J"⟩ : MethodName) (head1 (Jvm.Cond.code (⟨"java/lang/Math", "max", "(JJ)J"⟩ : MethodName) jdk_29_method_66_code 4 (some .long) :: ws) ({ frames := 0, cells := 0, slots := 0, locals := 0 } : Room)) (fun a U => a = #[(.long q0), (.long q1)] ∧ Z.Warmed39 U.vm ∧ U.heap = h0) (fun _ _ _ _ _ => True) (fun _ U o U' => ∃ v L, o = .returned v ∧ (own_Q_own_rmax Z q0 q1 h0 n0) v U'.heap L ∧ FrameEnd U o U' L ({ frames := 0, cells := 0, slots := 0, locals := 0 } : Room).cells ({ frames := 0, cells := 0, slots := 0, locals := 0 } : Room).slots) := by
  refine MetFree.of_bodySF (Jvm.Free.JP.mathPlain rfl (by decide +kernel)) hisR ?_
  intro p e s m args below meth c s₁ Bd hml0 hP hK
  obtain ⟨rfl, hZ, hh⟩ := hP
  have hx := Bd.exec
  have hby := Bd.bytes
  have hml : c.maxLocals = 4 := hml0
  have hown : s.vm.findClass "java/lang/Math" = some m.cls := findClass_of_methodNamed Bd.named
  have hnm := (name_of_methodNamed Bd.named Bd.method).1
  have hlk : meth.locks = false := BodyLoose.notSynchronized Bd
  have X0 : Stand p l e ({ frames := 0, cells := 0, slots := 0, locals := 0 } : Room) s m #[(.long q0), (.long q1)] below meth c s₁ [] 0 0 := Stand.of_body Bd
  have e0 : s₁.heap = h0 := by rw [← hh, Bd.state]; rfl
  have N0 := Fr.nil n0
  show own_Ends p e below s (own_Q_own_rmax Z q0 q1 h0 n0) ({ frames := 0, cells := 0, slots := 0, locals := 0 } : Room).cells ({ frames := 0, cells := 0, slots := 0, locals := 0 } : Room).slots _
  refine own_by (V := s₁.setTop (mkF m 0 #[.val (.long q0), .second, .val (.long q1), .second] [])) (fun t k => castTop (own_ef_own_rmax m q0 q1) k) ?_
  refine own_by (V := s₁.setTop (mkF m 1 #[.val (.long q0), .second, .val (.long q1), .second] [(.long q0)])) (fun t k => XS.lloadN X0.here hx rfl (hb hby own_d_jdk_29_66_0) rfl  k) ?_
  refine own_by (V := s₁.setTop (mkF m 2 #[.val (.long q0), .second, .val (.long q1), .second] [(.long q1), (.long q0)])) (fun t k => XS.lloadN X0.here hx rfl (hb hby own_d_jdk_29_66_1) rfl  k) ?_
  refine own_by (V := s₁.setTop (mkF m 3 #[.val (.long q0), .second, .val (.long q1), .second] [(.int (lcmpW q0 q1))])) (fun t k => XS.lcmp X0.here hx rfl (hb hby own_d_jdk_29_66_2) rfl k) ?_
  by_cases hb3_1 : (lcmpW q0 q1) < (0 : Int32)
  · refine own_by (V := s₁.setTop (mkF m 10 #[.val (.long q0), .second, .val (.long q1), .second] [])) (fun t k => XS.ifYes X0.here hx rfl (pc0 := 3) (pc' := 10) rfl (hb hby own_d_jdk_29_66_3) rfl ((if0 _ _).trans (tlt hb3_1).1) (by decide) (by decide) k) ?_
    refine own_by (V := s₁.setTop (mkF m 11 #[.val (.long q0), .second, .val (.long q1), .second] [(.long q1)])) (fun t k => XS.lloadN X0.here hx rfl (hb hby own_d_jdk_29_66_10) rfl  k) ?_
    refine own_retL X0 hx hlk e0 Bd.returns (hb hby own_d_jdk_29_66_11) ?_ (by decide) (by decide)
    exact ⟨congrArg (fun z => some (Value.long z)) (show q1 = (own_maxL q0 q1) from by exact (if_pos ((lw_lt _ _).mp hb3_1)).symm), N0, rfl⟩
  · refine own_by (V := s₁.setTop (mkF m 6 #[.val (.long q0), .second, .val (.long q1), .second] [])) (fun t k => XS.ifNo X0.here hx rfl (hb hby own_d_jdk_29_66_3) rfl ((if0 _ _).trans (flt hb3_1).1) k) ?_
    refine own_by (V := s₁.setTop (mkF m 7 #[.val (.long q0), .second, .val (.long q1), .second] [(.long q0)])) (fun t k => XS.lloadN X0.here hx rfl (hb hby own_d_jdk_29_66_6) rfl  k) ?_
    refine own_by (V := s₁.setTop (mkF m 11 #[.val (.long q0), .second, .val (.long q1), .second] [(.long q0)])) (fun t k => XS.goto X0.here hx rfl (pc0 := 7) (pc' := 11) rfl (hb hby own_d_jdk_29_66_7) (by decide) (by decide) k) ?_
    refine own_retL X0 hx hlk e0 Bd.returns (hb hby own_d_jdk_29_66_11) ?_ (by decide) (by decide)
    exact ⟨congrArg (fun z => some (Value.long z)) (show q0 = (own_maxL q0 q1) from by exact (if_neg fun q => hb3_1 ((lw_lt _ _).mpr q)).symm), N0, rfl⟩
def own_Q_own_init (Z : State) (o0 : Addr) (q1 : Int64) (q2 : Int64) (q3 : Int64) (h0 : Heap) (n0 : Nat) : Option Value → Heap → List Loc → Prop := fun v h L => v = none ∧ Fr n0 L ∧ Keep h0 h [o0] ∧ Exa Z h o0 "com/example/balcon/balcon/storage/Mark" ∧ Fld Z h o0 "com/example/balcon/balcon/storage/Mark" "segmentBase" "J" (.long q1) ∧ Fld Z h o0 "com/example/balcon/balcon/storage/Mark" "position" "J" (.long q2) ∧ Fld Z h o0 "com/example/balcon/balcon/storage/Mark" "offset" "J" (.long q3)
theorem own_ef_own_init (m : MethodId) (x0 : Addr) (x1 : Int64) (x2 : Int64) (x3 : Int64) : entryFrame m #[(.ref x0), (.long x1), (.long x2), (.long x3)] 7 = mkF m 0 #[.val (.ref x0), .val (.long x1), .second, .val (.long x2), .second, .val (.long x3), .second] [] := by first | (simp [entryFrame, mkF, argsToLocals, Value.category]; done) | rfl
set_option maxRecDepth 65536 in
set_option maxHeartbeats 40000000 in
theorem own_init (l : Launch) (Z : State) (a0 : Array Value) (hw : ∀ d ∈ tables_1, d.before a0 Z = true) (ws : List Jvm.Cond) (o0 : Addr) (q1 : Int64) (q2 : Int64) (q3 : Int64) (h0 : Heap) (n0 : Nat) (Z0 : n0 ≤ h0.size) (g0 : n0 ≤ o0) (E0 : Exa Z h0 o0 "com/example/balcon/balcon/storage/Mark") (F_segmentBase : Fld Z h0 o0 "com/example/balcon/balcon/storage/Mark" "segmentBase" "J" (.long (0 : Int64))) (F_position : Fld Z h0 o0 "com/example/balcon/balcon/storage/Mark" "position" "J" (.long (0 : Int64))) (F_offset : Fld Z h0 o0 "com/example/balcon/balcon/storage/Mark" "offset" "J" (.long (0 : Int64))) (hp : ¬ q1 < (0 : Int64)) (hq : ¬ q2 < (0 : Int64)) (hr : ¬ q3 < q1) :
    MetFree l (⟨"com/example/balcon/balcon/storage/Mark", "<init>", "(JJJ)V"⟩ : MethodName) (head1 (Jvm.Cond.code (⟨"com/example/balcon/balcon/storage/Mark", "<init>", "(JJJ)V"⟩ : MethodName) prog_41_method_1_code 7 none :: ws) ({ frames := 1, cells := 0, slots := 0, locals := 12 } : Room)) (fun a U => a = #[(.ref o0), (.long q1), (.long q2), (.long q3)] ∧ Z.Warmed39 U.vm ∧ U.heap = h0) (fun _ _ _ _ _ => True) (fun _ U o U' => ∃ v L, o = .returned v ∧ (own_Q_own_init Z o0 q1 q2 q3 h0 n0) v U'.heap L ∧ FrameEnd U o U' L ({ frames := 1, cells := 0, slots := 0, locals := 12 } : Room).cells ({ frames := 1, cells := 0, slots := 0, locals := 12 } : Room).slots) := by
  refine MetFree.of_bodySF (plainFor_of_name own_pn0) hisR ?_
  intro p e s m args below meth c s₁ Bd hml0 hP hK
  obtain ⟨rfl, hZ, hh⟩ := hP
  have hx := Bd.exec
  have hby := Bd.bytes
  have hml : c.maxLocals = 7 := hml0
  have hown : s.vm.findClass "com/example/balcon/balcon/storage/Mark" = some m.cls := findClass_of_methodNamed Bd.named
  have hnm := (name_of_methodNamed Bd.named Bd.method).1
  have hlk : meth.locks = false := BodyLoose.notSynchronized Bd
  have X0 : Stand p l e ({ frames := 1, cells := 0, slots := 0, locals := 12 } : Room) s m #[(.ref o0), (.long q1), (.long q2), (.long q3)] below meth c s₁ [] 0 0 := Stand.of_body Bd
  have e0 : s₁.heap = h0 := by rw [← hh, Bd.state]; rfl
  have N0 := Fr.nil n0
  show own_Ends p e below s (own_Q_own_init Z o0 q1 q2 q3 h0 n0) ({ frames := 1, cells := 0, slots := 0, locals := 12 } : Room).cells ({ frames := 1, cells := 0, slots := 0, locals := 12 } : Room).slots _
  refine own_by (V := s₁.setTop (mkF m 0 #[.val (.ref o0), .val (.long q1), .second, .val (.long q2), .second, .val (.long q3), .second] [])) (fun t k => castTop (own_ef_own_init m o0 q1 q2 q3) k) ?_
  refine own_by (V := s₁.setTop (mkF m 1 #[.val (.ref o0), .val (.long q1), .second, .val (.long q2), .second, .val (.long q3), .second] [(.ref o0)])) (fun t k => XS.aloadN X0.here hx rfl (hb hby own_d_prog_41_1_0) rfl rfl k) ?_
  obtain ⟨T1, X1, e1, st1⟩ := initO X0 hx hZ hown (hw _ (List.mem_of_getElem? (i := 12) rfl)) (hw _ (List.mem_of_getElem? (i := 13) rfl)) (hw _ (List.mem_of_getElem? (i := 14) rfl)) e0 (g := (mkF m 1 #[.val (.ref o0), .val (.long q1), .second, .val (.long q2), .second, .val (.long q3), .second] [(.ref o0)])) rfl (by rw [hml]; rfl) rfl (hb hby own_d_prog_41_1_1) (by decide) (W := 0) (by show 2 * 0 + _ ≤ _; exact Nat.le_of_eq rfl) (by decide)
  refine own_by (V := T1.setTop (mkF m 4 #[.val (.ref o0), .val (.long q1), .second, .val (.long q2), .second, .val (.long q3), .second] [])) st1 ?_
  refine own_by (V := T1.setTop (mkF m 5 #[.val (.ref o0), .val (.long q1), .second, .val (.long q2), .second, .val (.long q3), .second] [(.long q1)])) (fun t k => XS.lloadN X1.here hx rfl (hb hby own_d_prog_41_1_4) rfl  k) ?_
  refine own_by (V := T1.setTop (mkF m 6 #[.val (.ref o0), .val (.long q1), .second, .val (.long q2), .second, .val (.long q3), .second] [(.long (0 : Int64)), (.long q1)])) (fun t k => XS.lconst X1.here hx rfl (hb hby own_d_prog_41_1_5) k) ?_
  refine own_by (V := T1.setTop (mkF m 7 #[.val (.ref o0), .val (.long q1), .second, .val (.long q2), .second, .val (.long q3), .second] [(.int (lcmpW q1 (0 : Int64)))])) (fun t k => XS.lcmp X1.here hx rfl (hb hby own_d_prog_41_1_6) rfl k) ?_
  have hb7_2 : ¬ ((lcmpW q1 (0 : Int64)) < (0 : Int32)) := fun q => hp ((lw_lt _ _).mp q)
  refine own_by (V := T1.setTop (mkF m 10 #[.val (.ref o0), .val (.long q1), .second, .val (.long q2), .second, .val (.long q3), .second] [])) (fun t k => XS.ifNo X1.here hx rfl (hb hby own_d_prog_41_1_7) rfl ((if0 _ _).trans (flt hb7_2).1) k) ?_
  refine own_by (V := T1.setTop (mkF m 11 #[.val (.ref o0), .val (.long q1), .second, .val (.long q2), .second, .val (.long q3), .second] [(.long q2)])) (fun t k => XS.lloadN X1.here hx rfl (hb hby own_d_prog_41_1_10) rfl  k) ?_
  refine own_by (V := T1.setTop (mkF m 12 #[.val (.ref o0), .val (.long q1), .second, .val (.long q2), .second, .val (.long q3), .second] [(.long (0 : Int64)), (.long q2)])) (fun t k => XS.lconst X1.here hx rfl (hb hby own_d_prog_41_1_11) k) ?_
  refine own_by (V := T1.setTop (mkF m 13 #[.val (.ref o0), .val (.long q1), .second, .val (.long q2), .second, .val (.long q3), .second] [(.int (lcmpW q2 (0 : Int64)))])) (fun t k => XS.lcmp X1.here hx rfl (hb hby own_d_prog_41_1_12) rfl k) ?_
  have hb13_3 : ¬ ((lcmpW q2 (0 : Int64)) < (0 : Int32)) := fun q => hq ((lw_lt _ _).mp q)
  refine own_by (V := T1.setTop (mkF m 16 #[.val (.ref o0), .val (.long q1), .second, .val (.long q2), .second, .val (.long q3), .second] [])) (fun t k => XS.ifNo X1.here hx rfl (hb hby own_d_prog_41_1_13) rfl ((if0 _ _).trans (flt hb13_3).1) k) ?_
  refine own_by (V := T1.setTop (mkF m 18 #[.val (.ref o0), .val (.long q1), .second, .val (.long q2), .second, .val (.long q3), .second] [(.long q3)])) (fun t k => XS.lload X1.here hx rfl (hb hby own_d_prog_41_1_16) rfl  k) ?_
  refine own_by (V := T1.setTop (mkF m 19 #[.val (.ref o0), .val (.long q1), .second, .val (.long q2), .second, .val (.long q3), .second] [(.long q1), (.long q3)])) (fun t k => XS.lloadN X1.here hx rfl (hb hby own_d_prog_41_1_18) rfl  k) ?_
  refine own_by (V := T1.setTop (mkF m 20 #[.val (.ref o0), .val (.long q1), .second, .val (.long q2), .second, .val (.long q3), .second] [(.int (lcmpW q3 q1))])) (fun t k => XS.lcmp X1.here hx rfl (hb hby own_d_prog_41_1_19) rfl k) ?_
  have hb20_4 : ¬ ((lcmpW q3 q1) < (0 : Int32)) := fun q => hr ((lw_lt _ _).mp q)
  refine own_by (V := T1.setTop (mkF m 40 #[.val (.ref o0), .val (.long q1), .second, .val (.long q2), .second, .val (.long q3), .second] [])) (fun t k => XS.ifYes X1.here hx rfl (pc0 := 20) (pc' := 40) rfl (hb hby own_d_prog_41_1_20) rfl ((if0 _ _).trans (flt hb20_4).2.1) (by decide) (by decide) k) ?_
  refine own_by (V := T1.setTop (mkF m 41 #[.val (.ref o0), .val (.long q1), .second, .val (.long q2), .second, .val (.long q3), .second] [(.ref o0)])) (fun t k => XS.aloadN X1.here hx rfl (hb hby own_d_prog_41_1_40) rfl rfl k) ?_
  refine own_by (V := T1.setTop (mkF m 42 #[.val (.ref o0), .val (.long q1), .second, .val (.long q2), .second, .val (.long q3), .second] [(.long q1), (.ref o0)])) (fun t k => XS.lloadN X1.here hx rfl (hb hby own_d_prog_41_1_41) rfl  k) ?_
  obtain ⟨T5, h5, X5, e5, W5, st5⟩ := putF X1 hx hZ hown (host := "") (Or.inl (hw _ (List.mem_of_getElem? (i := 15) rfl))) Via.refl e1 F_segmentBase E0 (Or.inr ⟨(hw _ (List.mem_of_getElem? (i := 16) rfl)), rfl, hnm⟩) (hw _ (List.mem_of_getElem? (i := 7) rfl)) (ty := .long) (by decide) rfl rfl (g := (mkF m 42 #[.val (.ref o0), .val (.long q1), .second, .val (.long q2), .second, .val (.long q3), .second] [(.long q1), (.ref o0)])) rfl rfl (hb hby own_d_prog_41_1_42)
  have N5 := Fr.snoc X5 N0 g0
  have K5 := (Keep.refl h0 [o0]).wr W5 (Or.inl (List.mem_singleton.mpr rfl))
  have Zs5 : n0 ≤ h5.size := by rw [W5.size]; exact Z0
  have f6 := E0.wr W5
  have f7 := F_segmentBase.same W5
  have f8 := F_position.other W5 (Or.inr (slot_ne (Or.inr (hw _ (List.mem_of_getElem? (i := 18) rfl))) (Or.inr (hw _ (List.mem_of_getElem? (i := 16) rfl))) (by decide) (t := .long) (t' := .long) (by decide) (by decide)))
  have f9 := F_offset.other W5 (Or.inr (slot_ne (Or.inr (hw _ (List.mem_of_getElem? (i := 20) rfl))) (Or.inr (hw _ (List.mem_of_getElem? (i := 16) rfl))) (by decide) (t := .long) (t' := .long) (by decide) (by decide)))
  refine own_by (V := T5.setTop (mkF m 45 #[.val (.ref o0), .val (.long q1), .second, .val (.long q2), .second, .val (.long q3), .second] [])) st5 ?_
  refine own_by (V := T5.setTop (mkF m 46 #[.val (.ref o0), .val (.long q1), .second, .val (.long q2), .second, .val (.long q3), .second] [(.ref o0)])) (fun t k => XS.aloadN X5.here hx rfl (hb hby own_d_prog_41_1_45) rfl rfl k) ?_
  refine own_by (V := T5.setTop (mkF m 47 #[.val (.ref o0), .val (.long q1), .second, .val (.long q2), .second, .val (.long q3), .second] [(.long q2), (.ref o0)])) (fun t k => XS.lloadN X5.here hx rfl (hb hby own_d_prog_41_1_46) rfl  k) ?_
  obtain ⟨T10, h10, X10, e10, W10, st10⟩ := putF X5 hx hZ hown (host := "") (Or.inl (hw _ (List.mem_of_getElem? (i := 17) rfl))) Via.refl e5 f8 f6 (Or.inr ⟨(hw _ (List.mem_of_getElem? (i := 18) rfl)), rfl, hnm⟩) (hw _ (List.mem_of_getElem? (i := 7) rfl)) (ty := .long) (by decide) rfl rfl (g := (mkF m 47 #[.val (.ref o0), .val (.long q1), .second, .val (.long q2), .second, .val (.long q3), .second] [(.long q2), (.ref o0)])) rfl rfl (hb hby own_d_prog_41_1_47)
  have N10 := Fr.snoc X10 N5 g0
  have K10 := K5.wr W10 (Or.inl (List.mem_singleton.mpr rfl))
  have Zs10 : n0 ≤ h10.size := by rw [W10.size]; exact Zs5
  have f11 := f6.wr W10
  have f12 := f7.other W10 (Or.inr (slot_ne (Or.inr (hw _ (List.mem_of_getElem? (i := 16) rfl))) (Or.inr (hw _ (List.mem_of_getElem? (i := 18) rfl))) (by decide) (t := .long) (t' := .long) (by decide) (by decide)))
  have f13 := f8.same W10
  have f14 := f9.other W10 (Or.inr (slot_ne (Or.inr (hw _ (List.mem_of_getElem? (i := 20) rfl))) (Or.inr (hw _ (List.mem_of_getElem? (i := 18) rfl))) (by decide) (t := .long) (t' := .long) (by decide) (by decide)))
  refine own_by (V := T10.setTop (mkF m 50 #[.val (.ref o0), .val (.long q1), .second, .val (.long q2), .second, .val (.long q3), .second] [])) st10 ?_
  refine own_by (V := T10.setTop (mkF m 51 #[.val (.ref o0), .val (.long q1), .second, .val (.long q2), .second, .val (.long q3), .second] [(.ref o0)])) (fun t k => XS.aloadN X10.here hx rfl (hb hby own_d_prog_41_1_50) rfl rfl k) ?_
  refine own_by (V := T10.setTop (mkF m 53 #[.val (.ref o0), .val (.long q1), .second, .val (.long q2), .second, .val (.long q3), .second] [(.long q3), (.ref o0)])) (fun t k => XS.lload X10.here hx rfl (hb hby own_d_prog_41_1_51) rfl  k) ?_
  obtain ⟨T15, h15, X15, e15, W15, st15⟩ := putF X10 hx hZ hown (host := "") (Or.inl (hw _ (List.mem_of_getElem? (i := 19) rfl))) Via.refl e10 f14 f11 (Or.inr ⟨(hw _ (List.mem_of_getElem? (i := 20) rfl)), rfl, hnm⟩) (hw _ (List.mem_of_getElem? (i := 7) rfl)) (ty := .long) (by decide) rfl rfl (g := (mkF m 53 #[.val (.ref o0), .val (.long q1), .second, .val (.long q2), .second, .val (.long q3), .second] [(.long q3), (.ref o0)])) rfl rfl (hb hby own_d_prog_41_1_53)
  have N15 := Fr.snoc X15 N10 g0
  have K15 := K10.wr W15 (Or.inl (List.mem_singleton.mpr rfl))
  have Zs15 : n0 ≤ h15.size := by rw [W15.size]; exact Zs10
  have f16 := f11.wr W15
  have f17 := f12.other W15 (Or.inr (slot_ne (Or.inr (hw _ (List.mem_of_getElem? (i := 16) rfl))) (Or.inr (hw _ (List.mem_of_getElem? (i := 20) rfl))) (by decide) (t := .long) (t' := .long) (by decide) (by decide)))
  have f18 := f13.other W15 (Or.inr (slot_ne (Or.inr (hw _ (List.mem_of_getElem? (i := 18) rfl))) (Or.inr (hw _ (List.mem_of_getElem? (i := 20) rfl))) (by decide) (t := .long) (t' := .long) (by decide) (by decide)))
  have f19 := f14.same W15
  refine own_by (V := T15.setTop (mkF m 56 #[.val (.ref o0), .val (.long q1), .second, .val (.long q2), .second, .val (.long q3), .second] [])) st15 ?_
  refine own_ret0 X15 hx hlk e15 Bd.returns (hb hby own_d_prog_41_1_56) ?_ (by decide) (by decide)
  exact ⟨rfl, N15, K15, f16, f17, f18, f19⟩
def own_Q_own_eqMark (Z : State) (o0 : Addr) (o1 : Addr) (u0_segmentBase : Int64) (u1_segmentBase : Int64) (u0_position : Int64) (u1_position : Int64) (u0_offset : Int64) (u1_offset : Int64) (h0 : Heap) (n0 : Nat) : Option Value → Heap → List Loc → Prop := fun v h L => v = some (.int (own_eqM u0_segmentBase u1_segmentBase u0_position u1_position u0_offset u1_offset)) ∧ Fr n0 L ∧ h = h0
theorem own_ef_own_eqMark (m : MethodId) (x0 : Addr) (x1 : Addr) : entryFrame m #[(.ref x0), (.ref x1)] 3 = mkF m 0 #[.val (.ref x0), .val (.ref x1), .unset] [] := by first | (simp [entryFrame, mkF, argsToLocals, Value.category]; done) | rfl
set_option maxRecDepth 65536 in
set_option maxHeartbeats 40000000 in
theorem own_eqMark (l : Launch) (Z : State) (a0 : Array Value) (hw : ∀ d ∈ tables_1, d.before a0 Z = true) (ws : List Jvm.Cond) (o0 : Addr) (o1 : Addr) (u0_segmentBase : Int64) (u1_segmentBase : Int64) (u0_position : Int64) (u1_position : Int64) (u0_offset : Int64) (u1_offset : Int64) (h0 : Heap) (n0 : Nat) (F0_segmentBase : Fld Z h0 o0 "com/example/balcon/balcon/storage/Mark" "segmentBase" "J" (.long u0_segmentBase)) (F1_segmentBase : Fld Z h0 o1 "com/example/balcon/balcon/storage/Mark" "segmentBase" "J" (.long u1_segmentBase)) (F0_position : Fld Z h0 o0 "com/example/balcon/balcon/storage/Mark" "position" "J" (.long u0_position)) (F1_position : Fld Z h0 o1 "com/example/balcon/balcon/storage/Mark" "position" "J" (.long u1_position)) (F0_offset : Fld Z h0 o0 "com/example/balcon/balcon/storage/Mark" "offset" "J" (.long u0_offset)) (F1_offset : Fld Z h0 o1 "com/example/balcon/balcon/storage/Mark" "offset" "J" (.long u1_offset)) (E1 : Exa Z h0 o1 "com/example/balcon/balcon/storage/Mark") :
    MetFree l (⟨"com/example/balcon/balcon/storage/Mark", "equals", "(Ljava/lang/Object;)Z"⟩ : MethodName) (head1 (Jvm.Cond.code (⟨"com/example/balcon/balcon/storage/Mark", "equals", "(Ljava/lang/Object;)Z"⟩ : MethodName) prog_41_method_5_code 3 (some .boolean) :: ws) ({ frames := 0, cells := 0, slots := 0, locals := 0 } : Room)) (fun a U => a = #[(.ref o0), (.ref o1)] ∧ Z.Warmed39 U.vm ∧ U.heap = h0) (fun _ _ _ _ _ => True) (fun _ U o U' => ∃ v L, o = .returned v ∧ (own_Q_own_eqMark Z o0 o1 u0_segmentBase u1_segmentBase u0_position u1_position u0_offset u1_offset h0 n0) v U'.heap L ∧ FrameEnd U o U' L ({ frames := 0, cells := 0, slots := 0, locals := 0 } : Room).cells ({ frames := 0, cells := 0, slots := 0, locals := 0 } : Room).slots) := by
  refine MetFree.of_bodySF (plainFor_of_name own_pn0) hisR ?_
  intro p e s m args below meth c s₁ Bd hml0 hP hK
  obtain ⟨rfl, hZ, hh⟩ := hP
  have hx := Bd.exec
  have hby := Bd.bytes
  have hml : c.maxLocals = 3 := hml0
  have hown : s.vm.findClass "com/example/balcon/balcon/storage/Mark" = some m.cls := findClass_of_methodNamed Bd.named
  have hnm := (name_of_methodNamed Bd.named Bd.method).1
  have hlk : meth.locks = false := BodyLoose.notSynchronized Bd
  have X0 : Stand p l e ({ frames := 0, cells := 0, slots := 0, locals := 0 } : Room) s m #[(.ref o0), (.ref o1)] below meth c s₁ [] 0 0 := Stand.of_body Bd
  have e0 : s₁.heap = h0 := by rw [← hh, Bd.state]; rfl
  have N0 := Fr.nil n0
  show own_Ends p e below s (own_Q_own_eqMark Z o0 o1 u0_segmentBase u1_segmentBase u0_position u1_position u0_offset u1_offset h0 n0) ({ frames := 0, cells := 0, slots := 0, locals := 0 } : Room).cells ({ frames := 0, cells := 0, slots := 0, locals := 0 } : Room).slots _
  refine own_by (V := s₁.setTop (mkF m 0 #[.val (.ref o0), .val (.ref o1), .unset] [])) (fun t k => castTop (own_ef_own_eqMark m o0 o1) k) ?_
  refine own_by (V := s₁.setTop (mkF m 1 #[.val (.ref o0), .val (.ref o1), .unset] [(.ref o1)])) (fun t k => XS.aloadN X0.here hx rfl (hb hby own_d_prog_41_5_0) rfl rfl k) ?_
  obtain ⟨T1, X1, e1, st1⟩ := instY X0 hx hZ hown (hw _ (List.mem_of_getElem? (i := 26) rfl)) e0 (Ins.self E1) (g := (mkF m 1 #[.val (.ref o0), .val (.ref o1), .unset] [(.ref o1)])) rfl rfl (hb hby own_d_prog_41_5_1)
  refine own_by (V := T1.setTop (mkF m 4 #[.val (.ref o0), .val (.ref o1), .unset] [(.int (1 : Int32))])) st1 ?_
  have hb4_2 : ¬ ((1 : Int32) = (0 : Int32)) := by decide
  refine own_by (V := T1.setTop (mkF m 9 #[.val (.ref o0), .val (.ref o1), .unset] [])) (fun t k => XS.ifYes X1.here hx rfl (pc0 := 4) (pc' := 9) rfl (hb hby own_d_prog_41_5_4) rfl ((if0 _ _).trans (feq hb4_2).2) (by decide) (by decide) k) ?_
  refine own_by (V := T1.setTop (mkF m 10 #[.val (.ref o0), .val (.ref o1), .unset] [(.ref o1)])) (fun t k => XS.aloadN X1.here hx rfl (hb hby own_d_prog_41_5_9) rfl rfl k) ?_
  obtain ⟨T3, X3, e3, st3⟩ := castY X1 hx hZ hown (hw _ (List.mem_of_getElem? (i := 26) rfl)) e1 (Ins.self E1) (g := (mkF m 10 #[.val (.ref o0), .val (.ref o1), .unset] [(.ref o1)])) rfl rfl (hb hby own_d_prog_41_5_10)
  refine own_by (V := T3.setTop (mkF m 13 #[.val (.ref o0), .val (.ref o1), .unset] [(.ref o1)])) st3 ?_
  refine own_by (V := T3.setTop (mkF m 14 #[.val (.ref o0), .val (.ref o1), .val (.ref o1)] [])) (fun t k => XS.astoreN X3.here hx rfl (hb hby own_d_prog_41_5_13) rfl rfl (l' := #[.val (.ref o0), .val (.ref o1), .val (.ref o1)]) rfl k) ?_
  refine own_by (V := T3.setTop (mkF m 15 #[.val (.ref o0), .val (.ref o1), .val (.ref o1)] [(.ref o0)])) (fun t k => XS.aloadN X3.here hx rfl (hb hby own_d_prog_41_5_14) rfl rfl k) ?_
  obtain ⟨T4, X4, e4, st4⟩ := getF X3 hx hZ hown (host := "") (Or.inl (hw _ (List.mem_of_getElem? (i := 15) rfl))) Via.refl e3 F0_segmentBase (g := (mkF m 15 #[.val (.ref o0), .val (.ref o1), .val (.ref o1)] [(.ref o0)])) rfl rfl (hb hby own_d_prog_41_5_15)
  refine own_by (V := T4.setTop (mkF m 18 #[.val (.ref o0), .val (.ref o1), .val (.ref o1)] [(.long u0_segmentBase)])) st4 ?_
  refine own_by (V := T4.setTop (mkF m 19 #[.val (.ref o0), .val (.ref o1), .val (.ref o1)] [(.ref o1), (.long u0_segmentBase)])) (fun t k => XS.aloadN X4.here hx rfl (hb hby own_d_prog_41_5_18) rfl rfl k) ?_
  obtain ⟨T5, X5, e5, st5⟩ := getF X4 hx hZ hown (host := "") (Or.inl (hw _ (List.mem_of_getElem? (i := 15) rfl))) Via.refl e4 F1_segmentBase (g := (mkF m 19 #[.val (.ref o0), .val (.ref o1), .val (.ref o1)] [(.ref o1), (.long u0_segmentBase)])) rfl rfl (hb hby own_d_prog_41_5_19)
  refine own_by (V := T5.setTop (mkF m 22 #[.val (.ref o0), .val (.ref o1), .val (.ref o1)] [(.long u1_segmentBase), (.long u0_segmentBase)])) st5 ?_
  refine own_by (V := T5.setTop (mkF m 23 #[.val (.ref o0), .val (.ref o1), .val (.ref o1)] [(.int (lcmpW u0_segmentBase u1_segmentBase))])) (fun t k => XS.lcmp X5.here hx rfl (hb hby own_d_prog_41_5_22) rfl k) ?_
  by_cases hb23_6 : (lcmpW u0_segmentBase u1_segmentBase) = (0 : Int32)
  · refine own_by (V := T5.setTop (mkF m 26 #[.val (.ref o0), .val (.ref o1), .val (.ref o1)] [])) (fun t k => XS.ifNo X5.here hx rfl (hb hby own_d_prog_41_5_23) rfl ((if0 _ _).trans (teq hb23_6).2) k) ?_
    refine own_by (V := T5.setTop (mkF m 27 #[.val (.ref o0), .val (.ref o1), .val (.ref o1)] [(.ref o0)])) (fun t k => XS.aloadN X5.here hx rfl (hb hby own_d_prog_41_5_26) rfl rfl k) ?_
    obtain ⟨T7, X7, e7, st7⟩ := getF X5 hx hZ hown (host := "") (Or.inl (hw _ (List.mem_of_getElem? (i := 17) rfl))) Via.refl e5 F0_position (g := (mkF m 27 #[.val (.ref o0), .val (.ref o1), .val (.ref o1)] [(.ref o0)])) rfl rfl (hb hby own_d_prog_41_5_27)
    refine own_by (V := T7.setTop (mkF m 30 #[.val (.ref o0), .val (.ref o1), .val (.ref o1)] [(.long u0_position)])) st7 ?_
    refine own_by (V := T7.setTop (mkF m 31 #[.val (.ref o0), .val (.ref o1), .val (.ref o1)] [(.ref o1), (.long u0_position)])) (fun t k => XS.aloadN X7.here hx rfl (hb hby own_d_prog_41_5_30) rfl rfl k) ?_
    obtain ⟨T8, X8, e8, st8⟩ := getF X7 hx hZ hown (host := "") (Or.inl (hw _ (List.mem_of_getElem? (i := 17) rfl))) Via.refl e7 F1_position (g := (mkF m 31 #[.val (.ref o0), .val (.ref o1), .val (.ref o1)] [(.ref o1), (.long u0_position)])) rfl rfl (hb hby own_d_prog_41_5_31)
    refine own_by (V := T8.setTop (mkF m 34 #[.val (.ref o0), .val (.ref o1), .val (.ref o1)] [(.long u1_position), (.long u0_position)])) st8 ?_
    refine own_by (V := T8.setTop (mkF m 35 #[.val (.ref o0), .val (.ref o1), .val (.ref o1)] [(.int (lcmpW u0_position u1_position))])) (fun t k => XS.lcmp X8.here hx rfl (hb hby own_d_prog_41_5_34) rfl k) ?_
    by_cases hb35_9 : (lcmpW u0_position u1_position) = (0 : Int32)
    · refine own_by (V := T8.setTop (mkF m 38 #[.val (.ref o0), .val (.ref o1), .val (.ref o1)] [])) (fun t k => XS.ifNo X8.here hx rfl (hb hby own_d_prog_41_5_35) rfl ((if0 _ _).trans (teq hb35_9).2) k) ?_
      refine own_by (V := T8.setTop (mkF m 39 #[.val (.ref o0), .val (.ref o1), .val (.ref o1)] [(.ref o0)])) (fun t k => XS.aloadN X8.here hx rfl (hb hby own_d_prog_41_5_38) rfl rfl k) ?_
      obtain ⟨T10, X10, e10, st10⟩ := getF X8 hx hZ hown (host := "") (Or.inl (hw _ (List.mem_of_getElem? (i := 19) rfl))) Via.refl e8 F0_offset (g := (mkF m 39 #[.val (.ref o0), .val (.ref o1), .val (.ref o1)] [(.ref o0)])) rfl rfl (hb hby own_d_prog_41_5_39)
      refine own_by (V := T10.setTop (mkF m 42 #[.val (.ref o0), .val (.ref o1), .val (.ref o1)] [(.long u0_offset)])) st10 ?_
      refine own_by (V := T10.setTop (mkF m 43 #[.val (.ref o0), .val (.ref o1), .val (.ref o1)] [(.ref o1), (.long u0_offset)])) (fun t k => XS.aloadN X10.here hx rfl (hb hby own_d_prog_41_5_42) rfl rfl k) ?_
      obtain ⟨T11, X11, e11, st11⟩ := getF X10 hx hZ hown (host := "") (Or.inl (hw _ (List.mem_of_getElem? (i := 19) rfl))) Via.refl e10 F1_offset (g := (mkF m 43 #[.val (.ref o0), .val (.ref o1), .val (.ref o1)] [(.ref o1), (.long u0_offset)])) rfl rfl (hb hby own_d_prog_41_5_43)
      refine own_by (V := T11.setTop (mkF m 46 #[.val (.ref o0), .val (.ref o1), .val (.ref o1)] [(.long u1_offset), (.long u0_offset)])) st11 ?_
      refine own_by (V := T11.setTop (mkF m 47 #[.val (.ref o0), .val (.ref o1), .val (.ref o1)] [(.int (lcmpW u0_offset u1_offset))])) (fun t k => XS.lcmp X11.here hx rfl (hb hby own_d_prog_41_5_46) rfl k) ?_
      by_cases hb47_12 : (lcmpW u0_offset u1_offset) = (0 : Int32)
      · refine own_by (V := T11.setTop (mkF m 50 #[.val (.ref o0), .val (.ref o1), .val (.ref o1)] [])) (fun t k => XS.ifNo X11.here hx rfl (hb hby own_d_prog_41_5_47) rfl ((if0 _ _).trans (teq hb47_12).2) k) ?_
        refine own_by (V := T11.setTop (mkF m 51 #[.val (.ref o0), .val (.ref o1), .val (.ref o1)] [(.int (1 : Int32))])) (fun t k => XS.iconst X11.here hx rfl (hb hby own_d_prog_41_5_50) k) ?_
        refine own_by (V := T11.setTop (mkF m 55 #[.val (.ref o0), .val (.ref o1), .val (.ref o1)] [(.int (1 : Int32))])) (fun t k => XS.goto X11.here hx rfl (pc0 := 51) (pc' := 55) rfl (hb hby own_d_prog_41_5_51) (by decide) (by decide) k) ?_
        refine own_retN X11 hx hlk e11 Bd.returns (t := .boolean) (by simp) rfl (hb hby own_d_prog_41_5_55) ?_ (by decide) (by decide)
        exact ⟨congrArg (fun z => some (Value.int z)) (show (1 : Int32) = (own_eqM u0_segmentBase u1_segmentBase u0_position u1_position u0_offset u1_offset) from by exact (if_pos ⟨(lw_eq _ _).mp hb23_6, (lw_eq _ _).mp hb35_9, (lw_eq _ _).mp hb47_12⟩).symm), N0, rfl⟩
      · refine own_by (V := T11.setTop (mkF m 54 #[.val (.ref o0), .val (.ref o1), .val (.ref o1)] [])) (fun t k => XS.ifYes X11.here hx rfl (pc0 := 47) (pc' := 54) rfl (hb hby own_d_prog_41_5_47) rfl ((if0 _ _).trans (feq hb47_12).2) (by decide) (by decide) k) ?_
        refine own_by (V := T11.setTop (mkF m 55 #[.val (.ref o0), .val (.ref o1), .val (.ref o1)] [(.int (0 : Int32))])) (fun t k => XS.iconst X11.here hx rfl (hb hby own_d_prog_41_5_54) k) ?_
        refine own_retN X11 hx hlk e11 Bd.returns (t := .boolean) (by simp) rfl (hb hby own_d_prog_41_5_55) ?_ (by decide) (by decide)
        exact ⟨congrArg (fun z => some (Value.int z)) (show (0 : Int32) = (own_eqM u0_segmentBase u1_segmentBase u0_position u1_position u0_offset u1_offset) from by exact (if_neg fun q => hb47_12 ((lw_eq _ _).mpr q.2.2)).symm), N0, rfl⟩
    · refine own_by (V := T8.setTop (mkF m 54 #[.val (.ref o0), .val (.ref o1), .val (.ref o1)] [])) (fun t k => XS.ifYes X8.here hx rfl (pc0 := 35) (pc' := 54) rfl (hb hby own_d_prog_41_5_35) rfl ((if0 _ _).trans (feq hb35_9).2) (by decide) (by decide) k) ?_
      refine own_by (V := T8.setTop (mkF m 55 #[.val (.ref o0), .val (.ref o1), .val (.ref o1)] [(.int (0 : Int32))])) (fun t k => XS.iconst X8.here hx rfl (hb hby own_d_prog_41_5_54) k) ?_
      refine own_retN X8 hx hlk e8 Bd.returns (t := .boolean) (by simp) rfl (hb hby own_d_prog_41_5_55) ?_ (by decide) (by decide)
      exact ⟨congrArg (fun z => some (Value.int z)) (show (0 : Int32) = (own_eqM u0_segmentBase u1_segmentBase u0_position u1_position u0_offset u1_offset) from by exact (if_neg fun q => hb35_9 ((lw_eq _ _).mpr q.2.1)).symm), N0, rfl⟩
  · refine own_by (V := T5.setTop (mkF m 54 #[.val (.ref o0), .val (.ref o1), .val (.ref o1)] [])) (fun t k => XS.ifYes X5.here hx rfl (pc0 := 23) (pc' := 54) rfl (hb hby own_d_prog_41_5_23) rfl ((if0 _ _).trans (feq hb23_6).2) (by decide) (by decide) k) ?_
    refine own_by (V := T5.setTop (mkF m 55 #[.val (.ref o0), .val (.ref o1), .val (.ref o1)] [(.int (0 : Int32))])) (fun t k => XS.iconst X5.here hx rfl (hb hby own_d_prog_41_5_54) k) ?_
    refine own_retN X5 hx hlk e5 Bd.returns (t := .boolean) (by simp) rfl (hb hby own_d_prog_41_5_55) ?_ (by decide) (by decide)
    exact ⟨congrArg (fun z => some (Value.int z)) (show (0 : Int32) = (own_eqM u0_segmentBase u1_segmentBase u0_position u1_position u0_offset u1_offset) from by exact (if_neg fun q => hb23_6 ((lw_eq _ _).mpr q.1)).symm), N0, rfl⟩
def own_Q_own_eqNull (Z : State) (o0 : Addr) (h0 : Heap) (n0 : Nat) : Option Value → Heap → List Loc → Prop := fun v h L => v = some (.int (0 : Int32)) ∧ Fr n0 L ∧ h = h0
theorem own_ef_own_eqNull (m : MethodId) (x0 : Addr) : entryFrame m #[(.ref x0), .null] 3 = mkF m 0 #[.val (.ref x0), .val .null, .unset] [] := by first | (simp [entryFrame, mkF, argsToLocals, Value.category]; done) | rfl
set_option maxRecDepth 65536 in
set_option maxHeartbeats 40000000 in
theorem own_eqNull (l : Launch) (Z : State) (a0 : Array Value) (hw : ∀ d ∈ tables_1, d.before a0 Z = true) (ws : List Jvm.Cond) (o0 : Addr) (h0 : Heap) (n0 : Nat) :
    MetFree l (⟨"com/example/balcon/balcon/storage/Mark", "equals", "(Ljava/lang/Object;)Z"⟩ : MethodName) (head1 (Jvm.Cond.code (⟨"com/example/balcon/balcon/storage/Mark", "equals", "(Ljava/lang/Object;)Z"⟩ : MethodName) prog_41_method_5_code 3 (some .boolean) :: ws) ({ frames := 0, cells := 0, slots := 0, locals := 0 } : Room)) (fun a U => a = #[(.ref o0), .null] ∧ Z.Warmed39 U.vm ∧ U.heap = h0) (fun _ _ _ _ _ => True) (fun _ U o U' => ∃ v L, o = .returned v ∧ (own_Q_own_eqNull Z o0 h0 n0) v U'.heap L ∧ FrameEnd U o U' L ({ frames := 0, cells := 0, slots := 0, locals := 0 } : Room).cells ({ frames := 0, cells := 0, slots := 0, locals := 0 } : Room).slots) := by
  refine MetFree.of_bodySF (plainFor_of_name own_pn0) hisR ?_
  intro p e s m args below meth c s₁ Bd hml0 hP hK
  obtain ⟨rfl, hZ, hh⟩ := hP
  have hx := Bd.exec
  have hby := Bd.bytes
  have hml : c.maxLocals = 3 := hml0
  have hown : s.vm.findClass "com/example/balcon/balcon/storage/Mark" = some m.cls := findClass_of_methodNamed Bd.named
  have hnm := (name_of_methodNamed Bd.named Bd.method).1
  have hlk : meth.locks = false := BodyLoose.notSynchronized Bd
  have X0 : Stand p l e ({ frames := 0, cells := 0, slots := 0, locals := 0 } : Room) s m #[(.ref o0), .null] below meth c s₁ [] 0 0 := Stand.of_body Bd
  have e0 : s₁.heap = h0 := by rw [← hh, Bd.state]; rfl
  have N0 := Fr.nil n0
  show own_Ends p e below s (own_Q_own_eqNull Z o0 h0 n0) ({ frames := 0, cells := 0, slots := 0, locals := 0 } : Room).cells ({ frames := 0, cells := 0, slots := 0, locals := 0 } : Room).slots _
  refine own_by (V := s₁.setTop (mkF m 0 #[.val (.ref o0), .val .null, .unset] [])) (fun t k => castTop (own_ef_own_eqNull m o0) k) ?_
  refine own_by (V := s₁.setTop (mkF m 1 #[.val (.ref o0), .val .null, .unset] [.null])) (fun t k => XS.aloadN X0.here hx rfl (hb hby own_d_prog_41_5_0) rfl rfl k) ?_
  refine own_by (V := s₁.setTop (mkF m 4 #[.val (.ref o0), .val .null, .unset] [(.int (0 : Int32))])) (Jvm.Stand.instanceofNull X0 hx (g := (mkF m 1 #[.val (.ref o0), .val .null, .unset] [.null])) rfl rfl (hb hby own_d_prog_41_5_1)) ?_
  have hb4_2 : ((0 : Int32) = (0 : Int32)) := by decide
  refine own_by (V := s₁.setTop (mkF m 7 #[.val (.ref o0), .val .null, .unset] [])) (fun t k => XS.ifNo X0.here hx rfl (hb hby own_d_prog_41_5_4) rfl ((if0 _ _).trans (teq hb4_2).2) k) ?_
  refine own_by (V := s₁.setTop (mkF m 8 #[.val (.ref o0), .val .null, .unset] [(.int (0 : Int32))])) (fun t k => XS.iconst X0.here hx rfl (hb hby own_d_prog_41_5_7) k) ?_
  refine own_retN X0 hx hlk e0 Bd.returns (t := .boolean) (by simp) rfl (hb hby own_d_prog_41_5_8) ?_ (by decide) (by decide)
  exact ⟨congrArg (fun z => some (Value.int z)) (show (0 : Int32) = (0 : Int32) from by rfl), N0, rfl⟩
def own_Q_own_eqBox (Z : State) (o0 : Addr) (o1 : Addr) (h0 : Heap) (n0 : Nat) : Option Value → Heap → List Loc → Prop := fun v h L => v = some (.int (0 : Int32)) ∧ Fr n0 L ∧ h = h0
theorem own_ef_own_eqBox (m : MethodId) (x0 : Addr) (x1 : Addr) : entryFrame m #[(.ref x0), (.ref x1)] 3 = mkF m 0 #[.val (.ref x0), .val (.ref x1), .unset] [] := by first | (simp [entryFrame, mkF, argsToLocals, Value.category]; done) | rfl
set_option maxRecDepth 65536 in
set_option maxHeartbeats 40000000 in
theorem own_eqBox (l : Launch) (Z : State) (a0 : Array Value) (hw : ∀ d ∈ tables_1, d.before a0 Z = true) (ws : List Jvm.Cond) (o0 : Addr) (o1 : Addr) (h0 : Heap) (n0 : Nat) (E1 : Exa Z h0 o1 "java/lang/Long") :
    MetFree l (⟨"com/example/balcon/balcon/storage/Mark", "equals", "(Ljava/lang/Object;)Z"⟩ : MethodName) (head1 (Jvm.Cond.code (⟨"com/example/balcon/balcon/storage/Mark", "equals", "(Ljava/lang/Object;)Z"⟩ : MethodName) prog_41_method_5_code 3 (some .boolean) :: ws) ({ frames := 0, cells := 0, slots := 0, locals := 0 } : Room)) (fun a U => a = #[(.ref o0), (.ref o1)] ∧ Z.Warmed39 U.vm ∧ U.heap = h0) (fun _ _ _ _ _ => True) (fun _ U o U' => ∃ v L, o = .returned v ∧ (own_Q_own_eqBox Z o0 o1 h0 n0) v U'.heap L ∧ FrameEnd U o U' L ({ frames := 0, cells := 0, slots := 0, locals := 0 } : Room).cells ({ frames := 0, cells := 0, slots := 0, locals := 0 } : Room).slots) := by
  refine MetFree.of_bodySF (plainFor_of_name own_pn0) hisR ?_
  intro p e s m args below meth c s₁ Bd hml0 hP hK
  obtain ⟨rfl, hZ, hh⟩ := hP
  have hx := Bd.exec
  have hby := Bd.bytes
  have hml : c.maxLocals = 3 := hml0
  have hown : s.vm.findClass "com/example/balcon/balcon/storage/Mark" = some m.cls := findClass_of_methodNamed Bd.named
  have hnm := (name_of_methodNamed Bd.named Bd.method).1
  have hlk : meth.locks = false := BodyLoose.notSynchronized Bd
  have X0 : Stand p l e ({ frames := 0, cells := 0, slots := 0, locals := 0 } : Room) s m #[(.ref o0), (.ref o1)] below meth c s₁ [] 0 0 := Stand.of_body Bd
  have e0 : s₁.heap = h0 := by rw [← hh, Bd.state]; rfl
  have N0 := Fr.nil n0
  show own_Ends p e below s (own_Q_own_eqBox Z o0 o1 h0 n0) ({ frames := 0, cells := 0, slots := 0, locals := 0 } : Room).cells ({ frames := 0, cells := 0, slots := 0, locals := 0 } : Room).slots _
  refine own_by (V := s₁.setTop (mkF m 0 #[.val (.ref o0), .val (.ref o1), .unset] [])) (fun t k => castTop (own_ef_own_eqBox m o0 o1) k) ?_
  refine own_by (V := s₁.setTop (mkF m 1 #[.val (.ref o0), .val (.ref o1), .unset] [(.ref o1)])) (fun t k => XS.aloadN X0.here hx rfl (hb hby own_d_prog_41_5_0) rfl rfl k) ?_
  obtain ⟨T1, X1, e1, st1⟩ := instNo X0 hx hZ hown (hw _ (List.mem_of_getElem? (i := 26) rfl)) e0 E1 (own_notOf (hw _ (List.mem_of_getElem? (i := 49) rfl)) (hw _ (List.mem_of_getElem? (i := 7) rfl)) (NS.step (hw _ (List.mem_of_getElem? (i := 49) rfl)) (NS.step (hw _ (List.mem_of_getElem? (i := 50) rfl)) (own_nsRoot (hw _ (List.mem_of_getElem? (i := 51) rfl)) (hw _ (List.mem_of_getElem? (i := 7) rfl)) (by decide)) (by decide)) (by decide)) (by decide)) (g := (mkF m 1 #[.val (.ref o0), .val (.ref o1), .unset] [(.ref o1)])) rfl rfl (hb hby own_d_prog_41_5_1)
  refine own_by (V := T1.setTop (mkF m 4 #[.val (.ref o0), .val (.ref o1), .unset] [(.int (0 : Int32))])) st1 ?_
  have hb4_2 : ((0 : Int32) = (0 : Int32)) := by decide
  refine own_by (V := T1.setTop (mkF m 7 #[.val (.ref o0), .val (.ref o1), .unset] [])) (fun t k => XS.ifNo X1.here hx rfl (hb hby own_d_prog_41_5_4) rfl ((if0 _ _).trans (teq hb4_2).2) k) ?_
  refine own_by (V := T1.setTop (mkF m 8 #[.val (.ref o0), .val (.ref o1), .unset] [(.int (0 : Int32))])) (fun t k => XS.iconst X1.here hx rfl (hb hby own_d_prog_41_5_7) k) ?_
  refine own_retN X1 hx hlk e1 Bd.returns (t := .boolean) (by simp) rfl (hb hby own_d_prog_41_5_8) ?_ (by decide) (by decide)
  exact ⟨congrArg (fun z => some (Value.int z)) (show (0 : Int32) = (0 : Int32) from by rfl), N0, rfl⟩
def own_Q_own_nb (Z : State) (o0 : Addr) (h0 : Heap) (n0 : Nat) : Option Value → Heap → List Loc → Prop := fun v h L => v = none ∧ Fr n0 L ∧ h = h0
theorem own_ef_own_nb (m : MethodId) (x0 : Addr) : entryFrame m #[(.ref x0)] 1 = mkF m 0 #[.val (.ref x0)] [] := by first | (simp [entryFrame, mkF, argsToLocals, Value.category]; done) | rfl
set_option maxRecDepth 65536 in
set_option maxHeartbeats 40000000 in
theorem own_nb (l : Launch) (Z : State) (a0 : Array Value) (hw : ∀ d ∈ tables_1, d.before a0 Z = true) (ws : List Jvm.Cond) (o0 : Addr) (h0 : Heap) (n0 : Nat) :
    MetFree l (⟨"java/lang/Number", "<init>", "()V"⟩ : MethodName) (head1 (Jvm.Cond.code (⟨"java/lang/Number", "<init>", "()V"⟩ : MethodName) jdk_18_method_1_code 1 none :: ws) ({ frames := 1, cells := 0, slots := 0, locals := 12 } : Room)) (fun a U => a = #[(.ref o0)] ∧ Z.Warmed39 U.vm ∧ U.heap = h0) (fun _ _ _ _ _ => True) (fun _ U o U' => ∃ v L, o = .returned v ∧ (own_Q_own_nb Z o0 h0 n0) v U'.heap L ∧ FrameEnd U o U' L ({ frames := 1, cells := 0, slots := 0, locals := 12 } : Room).cells ({ frames := 1, cells := 0, slots := 0, locals := 12 } : Room).slots) := by
  refine MetFree.of_bodySF (plainFor_of_name own_pn1) hisR ?_
  intro p e s m args below meth c s₁ Bd hml0 hP hK
  obtain ⟨rfl, hZ, hh⟩ := hP
  have hx := Bd.exec
  have hby := Bd.bytes
  have hml : c.maxLocals = 1 := hml0
  have hown : s.vm.findClass "java/lang/Number" = some m.cls := findClass_of_methodNamed Bd.named
  have hnm := (name_of_methodNamed Bd.named Bd.method).1
  have hlk : meth.locks = false := BodyLoose.notSynchronized Bd
  have X0 : Stand p l e ({ frames := 1, cells := 0, slots := 0, locals := 12 } : Room) s m #[(.ref o0)] below meth c s₁ [] 0 0 := Stand.of_body Bd
  have e0 : s₁.heap = h0 := by rw [← hh, Bd.state]; rfl
  have N0 := Fr.nil n0
  show own_Ends p e below s (own_Q_own_nb Z o0 h0 n0) ({ frames := 1, cells := 0, slots := 0, locals := 12 } : Room).cells ({ frames := 1, cells := 0, slots := 0, locals := 12 } : Room).slots _
  refine own_by (V := s₁.setTop (mkF m 0 #[.val (.ref o0)] [])) (fun t k => castTop (own_ef_own_nb m o0) k) ?_
  refine own_by (V := s₁.setTop (mkF m 1 #[.val (.ref o0)] [(.ref o0)])) (fun t k => XS.aloadN X0.here hx rfl (hb hby own_d_jdk_18_1_0) rfl rfl k) ?_
  obtain ⟨T1, X1, e1, st1⟩ := initO X0 hx hZ hown (hw _ (List.mem_of_getElem? (i := 46) rfl)) (hw _ (List.mem_of_getElem? (i := 13) rfl)) (hw _ (List.mem_of_getElem? (i := 14) rfl)) e0 (g := (mkF m 1 #[.val (.ref o0)] [(.ref o0)])) rfl (by rw [hml]; rfl) rfl (hb hby own_d_jdk_18_1_1) (by decide) (W := 0) (by show 2 * 0 + _ ≤ _; exact Nat.le_of_eq rfl) (by decide)
  refine own_by (V := T1.setTop (mkF m 4 #[.val (.ref o0)] [])) st1 ?_
  refine own_ret0 X1 hx hlk e1 Bd.returns (hb hby own_d_jdk_18_1_4) ?_ (by decide) (by decide)
  exact ⟨rfl, N0, rfl⟩
def own_Q_own_boxinit (Z : State) (o0 : Addr) (q1 : Int64) (h0 : Heap) (n0 : Nat) : Option Value → Heap → List Loc → Prop := fun v h L => v = none ∧ Fr n0 L ∧ Keep h0 h [o0] ∧ Exa Z h o0 "java/lang/Long" ∧ Fld Z h o0 "java/lang/Long" "value" "J" (.long q1)
theorem own_ef_own_boxinit (m : MethodId) (x0 : Addr) (x1 : Int64) : entryFrame m #[(.ref x0), (.long x1)] 3 = mkF m 0 #[.val (.ref x0), .val (.long x1), .second] [] := by first | (simp [entryFrame, mkF, argsToLocals, Value.category]; done) | rfl
set_option maxRecDepth 65536 in
set_option maxHeartbeats 40000000 in
theorem own_boxinit (l : Launch) (Z : State) (a0 : Array Value) (hw : ∀ d ∈ tables_1, d.before a0 Z = true) (ws : List Jvm.Cond) (o0 : Addr) (q1 : Int64) (h0 : Heap) (n0 : Nat) (Z0 : n0 ≤ h0.size) (g0 : n0 ≤ o0) (E0 : Exa Z h0 o0 "java/lang/Long") (F_value : Fld Z h0 o0 "java/lang/Long" "value" "J" (.long (0 : Int64))) :
    MetFree l (⟨"java/lang/Long", "<init>", "(J)V"⟩ : MethodName) (head1 (Jvm.Cond.code (⟨"java/lang/Long", "<init>", "(J)V"⟩ : MethodName) jdk_35_method_26_code 3 none :: ws) ({ frames := 2, cells := 0, slots := 0, locals := 24 } : Room)) (fun a U => a = #[(.ref o0), (.long q1)] ∧ Z.Warmed39 U.vm ∧ U.heap = h0) (fun _ _ _ _ _ => True) (fun _ U o U' => ∃ v L, o = .returned v ∧ (own_Q_own_boxinit Z o0 q1 h0 n0) v U'.heap L ∧ FrameEnd U o U' L ({ frames := 2, cells := 0, slots := 0, locals := 24 } : Room).cells ({ frames := 2, cells := 0, slots := 0, locals := 24 } : Room).slots) := by
  refine MetFree.of_bodySF (plainFor_of_name own_pn2) hisR ?_
  intro p e s m args below meth c s₁ Bd hml0 hP hK
  obtain ⟨rfl, hZ, hh⟩ := hP
  have hx := Bd.exec
  have hby := Bd.bytes
  have hml : c.maxLocals = 3 := hml0
  have hown : s.vm.findClass "java/lang/Long" = some m.cls := findClass_of_methodNamed Bd.named
  have hnm := (name_of_methodNamed Bd.named Bd.method).1
  have hlk : meth.locks = false := BodyLoose.notSynchronized Bd
  have X0 : Stand p l e ({ frames := 2, cells := 0, slots := 0, locals := 24 } : Room) s m #[(.ref o0), (.long q1)] below meth c s₁ [] 0 0 := Stand.of_body Bd
  have e0 : s₁.heap = h0 := by rw [← hh, Bd.state]; rfl
  have N0 := Fr.nil n0
  show own_Ends p e below s (own_Q_own_boxinit Z o0 q1 h0 n0) ({ frames := 2, cells := 0, slots := 0, locals := 24 } : Room).cells ({ frames := 2, cells := 0, slots := 0, locals := 24 } : Room).slots _
  refine own_by (V := s₁.setTop (mkF m 0 #[.val (.ref o0), .val (.long q1), .second] [])) (fun t k => castTop (own_ef_own_boxinit m o0 q1) k) ?_
  refine own_by (V := s₁.setTop (mkF m 1 #[.val (.ref o0), .val (.long q1), .second] [(.ref o0)])) (fun t k => XS.aloadN X0.here hx rfl (hb hby own_d_jdk_35_26_0) rfl rfl k) ?_
  obtain ⟨_, _, ⟨T1, Lq1, kq1, nq1⟩, -, X1, ⟨Lc1, hQ1, lq1, yq1, zq1⟩, st1⟩ := X0.specialBack hx (y := (⟨"java/lang/Number", "<init>", "()V"⟩ : MethodName)) rfl hown (mvT hZ (hw _ (List.mem_of_getElem? (i := 40) rfl))) (mvT hZ (hw _ (List.mem_of_getElem? (i := 41) rfl))) (mvT hZ (hw _ (List.mem_of_getElem? (i := 45) rfl))) (by decide) (backOf (W := 0) (own_nb l Z a0 hw [] o0 h0 n0 ) hZ (hw _ (List.mem_of_getElem? (i := 45) rfl)) (hw _ (List.mem_of_getElem? (i := 44) rfl)) (by decide) (by decide)) (g := (mkF m 1 #[.val (.ref o0), .val (.long q1), .second] [(.ref o0)])) rfl (by rw [hml]; rfl) (Steps.refl _) (a := o0) (argsL := []) (rest := []) (lenOf own_pd0 rfl) rfl (by show 2 * 0 + _ ≤ _; exact Nat.le_of_eq rfl) (hb hby own_d_jdk_35_26_1) (fun _ _ => ⟨rfl, e0, (by decide : 0 + 0 ≤ _), (by decide : 0 + 0 ≤ _)⟩)
  dsimp only [Pt.U, Pt.locs, Pt.cells, Pt.slots] at X1 lq1 yq1 zq1 st1 hQ1
  subst lq1 yq1 zq1
  obtain ⟨rfl, N1q, e1⟩ := hQ1
  have N1 := Fr.app N0 N1q
  refine own_by (V := T1.setTop (mkF m 4 #[.val (.ref o0), .val (.long q1), .second] [])) (fun t k => st1.trans k) ?_
  refine own_by (V := T1.setTop (mkF m 5 #[.val (.ref o0), .val (.long q1), .second] [(.ref o0)])) (fun t k => XS.aloadN X1.here hx rfl (hb hby own_d_jdk_35_26_4) rfl rfl k) ?_
  refine own_by (V := T1.setTop (mkF m 6 #[.val (.ref o0), .val (.long q1), .second] [(.long q1), (.ref o0)])) (fun t k => XS.lloadN X1.here hx rfl (hb hby own_d_jdk_35_26_5) rfl  k) ?_
  obtain ⟨T2, h2, X2, e2, W2, st2⟩ := putF X1 hx hZ hown (host := "") (Or.inl (hw _ (List.mem_of_getElem? (i := 47) rfl))) Via.refl e1 F_value E0 (Or.inr ⟨(hw _ (List.mem_of_getElem? (i := 48) rfl)), rfl, hnm⟩) (hw _ (List.mem_of_getElem? (i := 35) rfl)) (ty := .long) (by decide) rfl rfl (g := (mkF m 6 #[.val (.ref o0), .val (.long q1), .second] [(.long q1), (.ref o0)])) rfl rfl (hb hby own_d_jdk_35_26_6)
  have N2 := Fr.snoc X2 N1 g0
  have K2 := (Keep.refl h0 [o0]).wr W2 (Or.inl (List.mem_singleton.mpr rfl))
  have Zs2 : n0 ≤ h2.size := by rw [W2.size]; exact Z0
  have f3 := E0.wr W2
  have f4 := F_value.same W2
  refine own_by (V := T2.setTop (mkF m 9 #[.val (.ref o0), .val (.long q1), .second] [])) st2 ?_
  refine own_ret0 X2 hx hlk e2 Bd.returns (hb hby own_d_jdk_35_26_9) ?_ (by decide) (by decide)
  exact ⟨rfl, N2, K2, f3, f4⟩
def own_Q_own_valueOf (Z : State) (q0 : Int64) (wc : Addr) (clc : Cell) (h0 : Heap) (n0 : Nat) : Option Value → Heap → List Loc → Prop := fun v h L => ∃ r, v = some (.ref r) ∧ Fr n0 L ∧ Keep h0 h [] ∧ Exa Z h r "java/lang/Long"
theorem own_ef_own_valueOf (m : MethodId) (x0 : Int64) : entryFrame m #[(.long x0)] 3 = mkF m 0 #[.val (.long x0), .second, .unset] [] := by first | (simp [entryFrame, mkF, argsToLocals, Value.category]; done) | rfl
set_option maxRecDepth 65536 in
set_option maxHeartbeats 40000000 in
theorem own_valueOf (l : Launch) (Z : State) (a0 : Array Value) (hw : ∀ d ∈ tables_1, d.before a0 Z = true) (ws : List Jvm.Cond) (q0 : Int64) (wc : Addr) (clc : Cell) (h0 : Heap) (n0 : Nat) (Z0 : n0 ≤ h0.size) (SC : Sta Z h0 "java/lang/Long$LongCache" "cache" "[Ljava/lang/Long;" (.ref wc)) (AC : Arr Z h0 wc clc (.object "java/lang/Long")) (hsz : clc.slots.size = 256) (hel : ∀ j, j < 256 → ∃ b, clc.slots[j]? = some (.ref b) ∧ Exa Z h0 b "java/lang/Long") :
    MetFree l (⟨"java/lang/Long", "valueOf", "(J)Ljava/lang/Long;"⟩ : MethodName) (head1 (Jvm.Cond.code (⟨"java/lang/Long", "valueOf", "(J)Ljava/lang/Long;"⟩ : MethodName) jdk_35_method_24_code 3 (some (.object "java/lang/Long")) :: ws) ({ frames := 3, cells := 1, slots := 1, locals := 39 } : Room)) (fun a U => a = #[(.long q0)] ∧ Z.Warmed39 U.vm ∧ U.heap = h0) (fun _ _ _ _ _ => True) (fun _ U o U' => ∃ v L, o = .returned v ∧ (own_Q_own_valueOf Z q0 wc clc h0 n0) v U'.heap L ∧ FrameEnd U o U' L ({ frames := 3, cells := 1, slots := 1, locals := 39 } : Room).cells ({ frames := 3, cells := 1, slots := 1, locals := 39 } : Room).slots) := by
  refine MetFree.of_bodySF (plainFor_of_name own_pn2) hisR ?_
  intro p e s m args below meth c s₁ Bd hml0 hP hK
  obtain ⟨rfl, hZ, hh⟩ := hP
  have hx := Bd.exec
  have hby := Bd.bytes
  have hml : c.maxLocals = 3 := hml0
  have hown : s.vm.findClass "java/lang/Long" = some m.cls := findClass_of_methodNamed Bd.named
  have hnm := (name_of_methodNamed Bd.named Bd.method).1
  have hlk : meth.locks = false := BodyLoose.notSynchronized Bd
  have X0 : Stand p l e ({ frames := 3, cells := 1, slots := 1, locals := 39 } : Room) s m #[(.long q0)] below meth c s₁ [] 0 0 := Stand.of_body Bd
  have e0 : s₁.heap = h0 := by rw [← hh, Bd.state]; rfl
  have N0 := Fr.nil n0
  show own_Ends p e below s (own_Q_own_valueOf Z q0 wc clc h0 n0) ({ frames := 3, cells := 1, slots := 1, locals := 39 } : Room).cells ({ frames := 3, cells := 1, slots := 1, locals := 39 } : Room).slots _
  refine own_by (V := s₁.setTop (mkF m 0 #[.val (.long q0), .second, .unset] [])) (fun t k => castTop (own_ef_own_valueOf m q0) k) ?_
  refine own_by (V := s₁.setTop (mkF m 3 #[.val (.long q0), .second, .unset] [(.int (128 : Int32))])) (fun t k => XS.sipush X0.here hx rfl (hb hby own_d_jdk_35_24_0) k) ?_
  refine own_by (V := s₁.setTop (mkF m 4 #[.val (.long q0), .second, .val (.int (128 : Int32))] [])) (fun t k => XS.istoreN X0.here hx rfl (hb hby own_d_jdk_35_24_3) rfl (l' := #[.val (.long q0), .second, .val (.int (128 : Int32))]) rfl k) ?_
  refine own_by (V := s₁.setTop (mkF m 5 #[.val (.long q0), .second, .val (.int (128 : Int32))] [(.long q0)])) (fun t k => XS.lloadN X0.here hx rfl (hb hby own_d_jdk_35_24_4) rfl  k) ?_
  refine own_by (V := s₁.setTop (mkF m 8 #[.val (.long q0), .second, .val (.int (128 : Int32))] [(.long (-128 : Int64)), (.long q0)])) (Jvm.Stand.ldc2Long X0 hx hown (mvT hZ (hw _ (List.mem_of_getElem? (i := 32) rfl))) (g := (mkF m 5 #[.val (.long q0), .second, .val (.int (128 : Int32))] [(.long q0)])) rfl (hb hby own_d_jdk_35_24_5)) ?_
  refine own_by (V := s₁.setTop (mkF m 9 #[.val (.long q0), .second, .val (.int (128 : Int32))] [(.int (lcmpW q0 (-128 : Int64)))])) (fun t k => XS.lcmp X0.here hx rfl (hb hby own_d_jdk_35_24_8) rfl k) ?_
  by_cases hb9_1 : (lcmpW q0 (-128 : Int64)) < (0 : Int32)
  · refine own_by (V := s₁.setTop (mkF m 31 #[.val (.long q0), .second, .val (.int (128 : Int32))] [])) (fun t k => XS.ifYes X0.here hx rfl (pc0 := 9) (pc' := 31) rfl (hb hby own_d_jdk_35_24_9) rfl ((if0 _ _).trans (tlt hb9_1).1) (by decide) (by decide) k) ?_
    obtain ⟨T2, h2, X2, e2, E2, A2, D2, -, st2⟩ := newO X0 hx hZ hown (hw _ (List.mem_of_getElem? (i := 34) rfl)) (hw _ (List.mem_of_getElem? (i := 35) rfl)) (hw _ (List.mem_of_getElem? (i := 30) rfl)) e0 (g := (mkF m 31 #[.val (.long q0), .second, .val (.int (128 : Int32))] [])) rfl (hb hby own_d_jdk_35_24_31) (by decide) (by decide)
    obtain ⟨b2, g2⟩ : ∃ z, z = h0.size := ⟨_, rfl⟩
    rw [← g2] at A2 D2 st2
    have kb2 : h0.size ≤ b2 := Nat.le_trans (Keep.refl h0 []).1 (Nat.le_of_eq g2.symm)
    have f3 := SC.ext E2
    have K2 := (Keep.refl h0 []).ext E2
    have f5 : Fld Z h2 b2 "java/lang/Long" "value" "J" (.long (0 : Int64)) := D2 (Or.inr (hw _ (List.mem_of_getElem? (i := 48) rfl))) (ty := .long) (by decide)
    have gn2 : n0 ≤ b2 := Nat.le_trans Z0 (Nat.le_of_eq g2.symm)
    have Zs2 : n0 ≤ h2.size := Nat.le_trans Z0 E2.1
    refine own_by (V := T2.setTop (mkF m 34 #[.val (.long q0), .second, .val (.int (128 : Int32))] [(.ref b2)])) st2 ?_
    refine own_by (V := T2.setTop (mkF m 35 #[.val (.long q0), .second, .val (.int (128 : Int32))] [(.ref b2), (.ref b2)])) (fun t k => XS.dup X2.here hx rfl (hb hby own_d_jdk_35_24_34) rfl rfl k) ?_
    refine own_by (V := T2.setTop (mkF m 36 #[.val (.long q0), .second, .val (.int (128 : Int32))] [(.long q0), (.ref b2), (.ref b2)])) (fun t k => XS.lloadN X2.here hx rfl (hb hby own_d_jdk_35_24_35) rfl  k) ?_
    obtain ⟨_, _, ⟨T6, Lq6, kq6, nq6⟩, -, X6, ⟨Lc6, hQ6, lq6, yq6, zq6⟩, st6⟩ := X2.specialBack hx (y := (⟨"java/lang/Long", "<init>", "(J)V"⟩ : MethodName)) rfl hown (mvT hZ (hw _ (List.mem_of_getElem? (i := 36) rfl))) (mvT hZ (hw _ (List.mem_of_getElem? (i := 37) rfl))) (mvT hZ (hw _ (List.mem_of_getElem? (i := 39) rfl))) (by decide) (backOf (W := 1) (own_boxinit l Z a0 hw [] b2 q0 h2 n0 Zs2 gn2 A2 f5) hZ (hw _ (List.mem_of_getElem? (i := 39) rfl)) (hw _ (List.mem_of_getElem? (i := 30) rfl)) (by decide) (by decide)) (g := (mkF m 36 #[.val (.long q0), .second, .val (.int (128 : Int32))] [(.long q0), (.ref b2), (.ref b2)])) rfl (by rw [hml]; rfl) (Steps.refl _) (a := b2) (argsL := [(.long q0)]) (rest := [(.ref b2)]) (lenOf own_pd1 rfl) rfl (by show 2 * 0 + _ ≤ _; exact Nat.le_of_eq rfl) (hb hby own_d_jdk_35_24_36) (fun _ _ => ⟨rfl, e2, (by decide : 1 + 0 ≤ _), (by decide : 1 + 0 ≤ _)⟩)
    dsimp only [Pt.U, Pt.locs, Pt.cells, Pt.slots] at X6 lq6 yq6 zq6 st6 hQ6
    subst lq6 yq6 zq6
    obtain ⟨rfl, N6q, Kc6, Ec6, g6_0⟩ := hQ6
    have N6 := Fr.app N0 N6q
    have K6 := K2.trans Kc6 (allS (Or.inr kb2) all0)
    have Zs6 : n0 ≤ T6.heap.size := Nat.le_trans Zs2 Kc6.1
    refine own_by (V := T6.setTop (mkF m 39 #[.val (.long q0), .second, .val (.int (128 : Int32))] [(.ref b2)])) (fun t k => st6.trans k) ?_
    refine own_retA X6 hx hlk rfl (w := (.ref b2)) rfl Bd.returns rfl (hb hby own_d_jdk_35_24_39) ?_ (by decide) (by decide)
    exact ⟨b2, rfl, N6, K6, Ec6⟩
  · refine own_by (V := s₁.setTop (mkF m 12 #[.val (.long q0), .second, .val (.int (128 : Int32))] [])) (fun t k => XS.ifNo X0.here hx rfl (hb hby own_d_jdk_35_24_9) rfl ((if0 _ _).trans (flt hb9_1).1) k) ?_
    refine own_by (V := s₁.setTop (mkF m 13 #[.val (.long q0), .second, .val (.int (128 : Int32))] [(.long q0)])) (fun t k => XS.lloadN X0.here hx rfl (hb hby own_d_jdk_35_24_12) rfl  k) ?_
    refine own_by (V := s₁.setTop (mkF m 16 #[.val (.long q0), .second, .val (.int (128 : Int32))] [(.long (127 : Int64)), (.long q0)])) (Jvm.Stand.ldc2Long X0 hx hown (mvT hZ (hw _ (List.mem_of_getElem? (i := 33) rfl))) (g := (mkF m 13 #[.val (.long q0), .second, .val (.int (128 : Int32))] [(.long q0)])) rfl (hb hby own_d_jdk_35_24_13)) ?_
    refine own_by (V := s₁.setTop (mkF m 17 #[.val (.long q0), .second, .val (.int (128 : Int32))] [(.int (lcmpW q0 (127 : Int64)))])) (fun t k => XS.lcmp X0.here hx rfl (hb hby own_d_jdk_35_24_16) rfl k) ?_
    by_cases hb17_8 : (0 : Int32) < (lcmpW q0 (127 : Int64))
    · refine own_by (V := s₁.setTop (mkF m 31 #[.val (.long q0), .second, .val (.int (128 : Int32))] [])) (fun t k => XS.ifYes X0.here hx rfl (pc0 := 17) (pc' := 31) rfl (hb hby own_d_jdk_35_24_17) rfl ((if0 _ _).trans (tlt hb17_8).2.2.1) (by decide) (by decide) k) ?_
      obtain ⟨T9, h9, X9, e9, E9, A9, D9, -, st9⟩ := newO X0 hx hZ hown (hw _ (List.mem_of_getElem? (i := 34) rfl)) (hw _ (List.mem_of_getElem? (i := 35) rfl)) (hw _ (List.mem_of_getElem? (i := 30) rfl)) e0 (g := (mkF m 31 #[.val (.long q0), .second, .val (.int (128 : Int32))] [])) rfl (hb hby own_d_jdk_35_24_31) (by decide) (by decide)
      obtain ⟨b9, g9⟩ : ∃ z, z = h0.size := ⟨_, rfl⟩
      rw [← g9] at A9 D9 st9
      have kb9 : h0.size ≤ b9 := Nat.le_trans (Keep.refl h0 []).1 (Nat.le_of_eq g9.symm)
      have f10 := SC.ext E9
      have K9 := (Keep.refl h0 []).ext E9
      have f12 : Fld Z h9 b9 "java/lang/Long" "value" "J" (.long (0 : Int64)) := D9 (Or.inr (hw _ (List.mem_of_getElem? (i := 48) rfl))) (ty := .long) (by decide)
      have gn9 : n0 ≤ b9 := Nat.le_trans Z0 (Nat.le_of_eq g9.symm)
      have Zs9 : n0 ≤ h9.size := Nat.le_trans Z0 E9.1
      refine own_by (V := T9.setTop (mkF m 34 #[.val (.long q0), .second, .val (.int (128 : Int32))] [(.ref b9)])) st9 ?_
      refine own_by (V := T9.setTop (mkF m 35 #[.val (.long q0), .second, .val (.int (128 : Int32))] [(.ref b9), (.ref b9)])) (fun t k => XS.dup X9.here hx rfl (hb hby own_d_jdk_35_24_34) rfl rfl k) ?_
      refine own_by (V := T9.setTop (mkF m 36 #[.val (.long q0), .second, .val (.int (128 : Int32))] [(.long q0), (.ref b9), (.ref b9)])) (fun t k => XS.lloadN X9.here hx rfl (hb hby own_d_jdk_35_24_35) rfl  k) ?_
      obtain ⟨_, _, ⟨T13, Lq13, kq13, nq13⟩, -, X13, ⟨Lc13, hQ13, lq13, yq13, zq13⟩, st13⟩ := X9.specialBack hx (y := (⟨"java/lang/Long", "<init>", "(J)V"⟩ : MethodName)) rfl hown (mvT hZ (hw _ (List.mem_of_getElem? (i := 36) rfl))) (mvT hZ (hw _ (List.mem_of_getElem? (i := 37) rfl))) (mvT hZ (hw _ (List.mem_of_getElem? (i := 39) rfl))) (by decide) (backOf (W := 1) (own_boxinit l Z a0 hw [] b9 q0 h9 n0 Zs9 gn9 A9 f12) hZ (hw _ (List.mem_of_getElem? (i := 39) rfl)) (hw _ (List.mem_of_getElem? (i := 30) rfl)) (by decide) (by decide)) (g := (mkF m 36 #[.val (.long q0), .second, .val (.int (128 : Int32))] [(.long q0), (.ref b9), (.ref b9)])) rfl (by rw [hml]; rfl) (Steps.refl _) (a := b9) (argsL := [(.long q0)]) (rest := [(.ref b9)]) (lenOf own_pd1 rfl) rfl (by show 2 * 0 + _ ≤ _; exact Nat.le_of_eq rfl) (hb hby own_d_jdk_35_24_36) (fun _ _ => ⟨rfl, e9, (by decide : 1 + 0 ≤ _), (by decide : 1 + 0 ≤ _)⟩)
      dsimp only [Pt.U, Pt.locs, Pt.cells, Pt.slots] at X13 lq13 yq13 zq13 st13 hQ13
      subst lq13 yq13 zq13
      obtain ⟨rfl, N13q, Kc13, Ec13, g13_0⟩ := hQ13
      have N13 := Fr.app N0 N13q
      have K13 := K9.trans Kc13 (allS (Or.inr kb9) all0)
      have Zs13 : n0 ≤ T13.heap.size := Nat.le_trans Zs9 Kc13.1
      refine own_by (V := T13.setTop (mkF m 39 #[.val (.long q0), .second, .val (.int (128 : Int32))] [(.ref b9)])) (fun t k => st13.trans k) ?_
      refine own_retA X13 hx hlk rfl (w := (.ref b9)) rfl Bd.returns rfl (hb hby own_d_jdk_35_24_39) ?_ (by decide) (by decide)
      exact ⟨b9, rfl, N13, K13, Ec13⟩
    · refine own_by (V := s₁.setTop (mkF m 20 #[.val (.long q0), .second, .val (.int (128 : Int32))] [])) (fun t k => XS.ifNo X0.here hx rfl (hb hby own_d_jdk_35_24_17) rfl ((if0 _ _).trans (flt hb17_8).2.2.1) k) ?_
      obtain ⟨T15, X15, e15, st15⟩ := getS2 X0 hx hZ hown (host := "") (Or.inl (hw _ (List.mem_of_getElem? (i := 52) rfl))) Via.refl e0 SC (g := (mkF m 20 #[.val (.long q0), .second, .val (.int (128 : Int32))] [])) rfl (hb hby own_d_jdk_35_24_20)
      refine own_by (V := T15.setTop (mkF m 23 #[.val (.long q0), .second, .val (.int (128 : Int32))] [(.ref wc)])) st15 ?_
      refine own_by (V := T15.setTop (mkF m 24 #[.val (.long q0), .second, .val (.int (128 : Int32))] [(.long q0), (.ref wc)])) (fun t k => XS.lloadN X15.here hx rfl (hb hby own_d_jdk_35_24_23) rfl  k) ?_
      refine own_by (V := T15.setTop (mkF m 25 #[.val (.long q0), .second, .val (.int (128 : Int32))] [(.int (q0.toInt32)), (.ref wc)])) (fun t k => XS.l2i X15.here hx rfl (hb hby own_d_jdk_35_24_24) rfl k) ?_
      refine own_by (V := T15.setTop (mkF m 28 #[.val (.long q0), .second, .val (.int (128 : Int32))] [(.int (128 : Int32)), (.int (q0.toInt32)), (.ref wc)])) (fun t k => XS.sipush X15.here hx rfl (hb hby own_d_jdk_35_24_25) k) ?_
      refine own_by (V := T15.setTop (mkF m 29 #[.val (.long q0), .second, .val (.int (128 : Int32))] [(.int ((q0.toInt32) + (128 : Int32))), (.ref wc)])) (fun t k => XS.iadd X15.here hx rfl (hb hby own_d_jdk_35_24_28) rfl k) ?_
      obtain ⟨hp1, hp2⟩ := Jvm.Free.LongBox.place_okL q0 (fun q => hb9_1 ((lw_lt _ _).mpr q)) (fun q => hb17_8 ((lw_gt _ _).mpr q))
      obtain ⟨bx, hbx, Ebx⟩ := hel _ hp2
      refine own_by (V := T15.setTop (mkF m 30 #[.val (.long q0), .second, .val (.int (128 : Int32))] [(.ref bx)])) (X15.aaload hx (j := ((q0.toInt32) + (128 : Int32))) (v := .ref bx) (by rw [e15]; exact AC.1) (State.isArrayOf_alike hZ.alike AC.2.1) rfl AC.2.2 (by rw [hsz]; exact hp1) hbx (g := (mkF m 29 #[.val (.long q0), .second, .val (.int (128 : Int32))] [(.int ((q0.toInt32) + (128 : Int32))), (.ref wc)])) rfl rfl (hb hby own_d_jdk_35_24_29)) ?_
      refine own_retA X15 hx hlk e15 (w := (.ref bx)) rfl Bd.returns rfl (hb hby own_d_jdk_35_24_30) ?_ (by decide) (by decide)
      exact ⟨bx, rfl, N0, (Keep.refl h0 []), Ebx⟩
def own_Q_own_rm0 (Z : State) (q0 : Int64) (q1 : Int64) (q2 : Int64) (q3 : Int64) (q4 : Int64) (q5 : Int64) (h0 : Heap) (n0 : Nat) : Option Value → Heap → List Loc → Prop := fun v h L => v = some (.int 1) ∧ Fr n0 L
theorem own_ef_own_rm0 (m : MethodId) (x0 : Int64) (x1 : Int64) (x2 : Int64) (x3 : Int64) (x4 : Int64) (x5 : Int64) : entryFrame m #[(.long x0), (.long x1), (.long x2), (.long x3), (.long x4), (.long x5)] maxLocals = mkF m 0 #[.val (.long x0), .second, .val (.long x1), .second, .val (.long x2), .second, .val (.long x3), .second, .val (.long x4), .second, .val (.long x5), .second, .unset, .unset, .unset, .unset, .unset, .unset, .unset, .unset, .unset, .unset, .unset, .unset, .unset, .unset, .unset, .unset, .unset, .unset, .unset, .unset, .unset, .unset, .unset] [] := by first | (simp [entryFrame, mkF, argsToLocals, Value.category, maxLocals]; done) | rfl
set_option maxRecDepth 65536 in
set_option maxHeartbeats 40000000 in
theorem own_rm0 (l : Launch) (Z : State) (a0 : Array Value) (hw : ∀ d ∈ tables_1, d.before a0 Z = true) (ws : List Jvm.Cond) (q0 : Int64) (q1 : Int64) (q2 : Int64) (q3 : Int64) (q4 : Int64) (q5 : Int64) (h0 : Heap) (n0 : Nat) (Z0 : n0 ≤ h0.size) (O0 : Old Z n0 h0) (wc : Addr) (clc : Cell) (SC : Sta Z Z.heap "java/lang/Long$LongCache" "cache" "[Ljava/lang/Long;" (.ref wc)) (AC : Arr Z Z.heap wc clc (.object "java/lang/Long")) (hsz : clc.slots.size = 256) (hel : ∀ j, j < 256 → ∃ b, clc.slots[j]? = some (.ref b) ∧ Exa Z Z.heap b "java/lang/Long") :
    MetFree l x (head1 (Jvm.Cond.code x code maxLocals ret :: ws) room_1) (fun a U => a = #[(.long q0), (.long q1), (.long q2), (.long q3), (.long q4), (.long q5)] ∧ Z.Warmed39 U.vm ∧ U.heap = h0) (fun _ _ _ _ _ => True) (fun _ U o U' => ∃ v L, o = .returned v ∧ (own_Q_own_rm0 Z q0 q1 q2 q3 q4 q5 h0 n0) v U'.heap L ∧ FrameEnd U o U' L room_1.cells room_1.slots) := by
  refine MetFree.of_bodySF (plainFor_of_name own_pn3) hisR ?_
  intro p e s m args below meth c s₁ Bd hml0 hP hK
  obtain ⟨rfl, hZ, hh⟩ := hP
  have hx := Bd.exec
  have hby := Bd.bytes
  have hml : c.maxLocals = 35 := hml0
  have hown : s.vm.findClass "com/example/balcon/balcon/storage/MarkEqualsPinLaw" = some m.cls := findClass_of_methodNamed Bd.named
  have hnm := (name_of_methodNamed Bd.named Bd.method).1
  have hlk : meth.locks = false := BodyLoose.notSynchronized Bd
  have X0 : Stand p l e room_1 s m #[(.long q0), (.long q1), (.long q2), (.long q3), (.long q4), (.long q5)] below meth c s₁ [] 0 0 := Stand.of_body Bd
  have e0 : s₁.heap = h0 := by rw [← hh, Bd.state]; rfl
  have N0 := Fr.nil n0
  show own_Ends p e below s (own_Q_own_rm0 Z q0 q1 q2 q3 q4 q5 h0 n0) room_1.cells room_1.slots _
  refine own_by (V := s₁.setTop (mkF m 0 #[.val (.long q0), .second, .val (.long q1), .second, .val (.long q2), .second, .val (.long q3), .second, .val (.long q4), .second, .val (.long q5), .second, .unset, .unset, .unset, .unset, .unset, .unset, .unset, .unset, .unset, .unset, .unset, .unset, .unset, .unset, .unset, .unset, .unset, .unset, .unset, .unset, .unset, .unset, .unset] [])) (fun t k => castTop (own_ef_own_rm0 m q0 q1 q2 q3 q4 q5) k) ?_
  refine own_by (V := s₁.setTop (mkF m 2 #[.val (.long q0), .second, .val (.long q1), .second, .val (.long q2), .second, .val (.long q3), .second, .val (.long q4), .second, .val (.long q5), .second, .unset, .unset, .unset, .unset, .unset, .unset, .unset, .unset, .unset, .unset, .unset, .unset, .unset, .unset, .unset, .unset, .unset, .unset, .unset, .unset, .unset, .unset, .unset] [(.long q5)])) (fun t k => XS.lload X0.here hx rfl (hb hby at_0) rfl  k) ?_
  refine own_by (V := s₁.setTop (mkF m 5 #[.val (.long q0), .second, .val (.long q1), .second, .val (.long q2), .second, .val (.long q3), .second, .val (.long q4), .second, .val (.long q5), .second, .unset, .unset, .unset, .unset, .unset, .unset, .unset, .unset, .unset, .unset, .unset, .unset, .unset, .unset, .unset, .unset, .unset, .unset, .unset, .unset, .unset, .unset, .unset] [(.long (7 : Int64)), (.long q5)])) (Jvm.Stand.ldc2Long X0 hx hown (mvT hZ (hw _ (List.mem_of_getElem? (i := 0) rfl))) (g := (mkF m 2 #[.val (.long q0), .second, .val (.long q1), .second, .val (.long q2), .second, .val (.long q3), .second, .val (.long q4), .second, .val (.long q5), .second, .unset, .unset, .unset, .unset, .unset, .unset, .unset, .unset, .unset, .unset, .unset, .unset, .unset, .unset, .unset, .unset, .unset, .unset, .unset, .unset, .unset, .unset, .unset] [(.long q5)])) rfl (hb hby at_2)) ?_
  refine own_by (V := s₁.setTop (mkF m 6 #[.val (.long q0), .second, .val (.long q1), .second, .val (.long q2), .second, .val (.long q3), .second, .val (.long q4), .second, .val (.long q5), .second, .unset, .unset, .unset, .unset, .unset, .unset, .unset, .unset, .unset, .unset, .unset, .unset, .unset, .unset, .unset, .unset, .unset, .unset, .unset, .unset, .unset, .unset, .unset] [(.long (q5 &&& (7 : Int64)))])) (fun t k => XS.land X0.here hx rfl (hb hby at_5) rfl k) ?_
  refine own_by (V := s₁.setTop (mkF m 7 #[.val (.long q0), .second, .val (.long q1), .second, .val (.long q2), .second, .val (.long q3), .second, .val (.long q4), .second, .val (.long q5), .second, .unset, .unset, .unset, .unset, .unset, .unset, .unset, .unset, .unset, .unset, .unset, .unset, .unset, .unset, .unset, .unset, .unset, .unset, .unset, .unset, .unset, .unset, .unset] [(.int ((q5 &&& (7 : Int64)).toInt32))])) (fun t k => XS.l2i X0.here hx rfl (hb hby at_6) rfl k) ?_
  obtain ⟨z1, hz1⟩ : ∃ z : Int32, z = ((q5 &&& (7 : Int64)).toInt32) := ⟨_, rfl⟩
  rw [← hz1]
  refine own_by (V := s₁.setTop (mkF m 9 #[.val (.long q0), .second, .val (.long q1), .second, .val (.long q2), .second, .val (.long q3), .second, .val (.long q4), .second, .val (.long q5), .second, .val (.int z1), .unset, .unset, .unset, .unset, .unset, .unset, .unset, .unset, .unset, .unset, .unset, .unset, .unset, .unset, .unset, .unset, .unset, .unset, .unset, .unset, .unset, .unset] [])) (fun t k => XS.istore X0.here hx rfl (hb hby at_7) rfl (l' := #[.val (.long q0), .second, .val (.long q1), .second, .val (.long q2), .second, .val (.long q3), .second, .val (.long q4), .second, .val (.long q5), .second, .val (.int z1), .unset, .unset, .unset, .unset, .unset, .unset, .unset, .unset, .unset, .unset, .unset, .unset, .unset, .unset, .unset, .unset, .unset, .unset, .unset, .unset, .unset, .unset]) rfl k) ?_
  refine own_by (V := s₁.setTop (mkF m 10 #[.val (.long q0), .second, .val (.long q1), .second, .val (.long q2), .second, .val (.long q3), .second, .val (.long q4), .second, .val (.long q5), .second, .val (.int z1), .unset, .unset, .unset, .unset, .unset, .unset, .unset, .unset, .unset, .unset, .unset, .unset, .unset, .unset, .unset, .unset, .unset, .unset, .unset, .unset, .unset, .unset] [(.long q0)])) (fun t k => XS.lloadN X0.here hx rfl (hb hby at_9) rfl  k) ?_
  refine own_by (V := s₁.setTop (mkF m 13 #[.val (.long q0), .second, .val (.long q1), .second, .val (.long q2), .second, .val (.long q3), .second, .val (.long q4), .second, .val (.long q5), .second, .val (.int z1), .unset, .unset, .unset, .unset, .unset, .unset, .unset, .unset, .unset, .unset, .unset, .unset, .unset, .unset, .unset, .unset, .unset, .unset, .unset, .unset, .unset, .unset] [(.long (9223372036854775807 : Int64)), (.long q0)])) (Jvm.Stand.ldc2Long X0 hx hown (mvT hZ (hw _ (List.mem_of_getElem? (i := 1) rfl))) (g := (mkF m 10 #[.val (.long q0), .second, .val (.long q1), .second, .val (.long q2), .second, .val (.long q3), .second, .val (.long q4), .second, .val (.long q5), .second, .val (.int z1), .unset, .unset, .unset, .unset, .unset, .unset, .unset, .unset, .unset, .unset, .unset, .unset, .unset, .unset, .unset, .unset, .unset, .unset, .unset, .unset, .unset, .unset] [(.long q0)])) rfl (hb hby at_10)) ?_
  refine own_by (V := s₁.setTop (mkF m 14 #[.val (.long q0), .second, .val (.long q1), .second, .val (.long q2), .second, .val (.long q3), .second, .val (.long q4), .second, .val (.long q5), .second, .val (.int z1), .unset, .unset, .unset, .unset, .unset, .unset, .unset, .unset, .unset, .unset, .unset, .unset, .unset, .unset, .unset, .unset, .unset, .unset, .unset, .unset, .unset, .unset] [(.long (q0 &&& (9223372036854775807 : Int64)))])) (fun t k => XS.land X0.here hx rfl (hb hby at_13) rfl k) ?_
  obtain ⟨z2, hz2⟩ : ∃ z : Int64, z = (q0 &&& (9223372036854775807 : Int64)) := ⟨_, rfl⟩
  rw [← hz2]
  refine own_by (V := s₁.setTop (mkF m 16 #[.val (.long q0), .second, .val (.long q1), .second, .val (.long q2), .second, .val (.long q3), .second, .val (.long q4), .second, .val (.long q5), .second, .val (.int z1), .val (.long z2), .second, .unset, .unset, .unset, .unset, .unset, .unset, .unset, .unset, .unset, .unset, .unset, .unset, .unset, .unset, .unset, .unset, .unset, .unset, .unset, .unset] [])) (fun t k => XS.lstore X0.here hx rfl (hb hby at_14) rfl (l' := #[.val (.long q0), .second, .val (.long q1), .second, .val (.long q2), .second, .val (.long q3), .second, .val (.long q4), .second, .val (.long q5), .second, .val (.int z1), .val (.long z2), .second, .unset, .unset, .unset, .unset, .unset, .unset, .unset, .unset, .unset, .unset, .unset, .unset, .unset, .unset, .unset, .unset, .unset, .unset, .unset, .unset]) rfl k) ?_
  refine own_by (V := s₁.setTop (mkF m 17 #[.val (.long q0), .second, .val (.long q1), .second, .val (.long q2), .second, .val (.long q3), .second, .val (.long q4), .second, .val (.long q5), .second, .val (.int z1), .val (.long z2), .second, .unset, .unset, .unset, .unset, .unset, .unset, .unset, .unset, .unset, .unset, .unset, .unset, .unset, .unset, .unset, .unset, .unset, .unset, .unset, .unset] [(.long q1)])) (fun t k => XS.lloadN X0.here hx rfl (hb hby at_16) rfl  k) ?_
  refine own_by (V := s₁.setTop (mkF m 20 #[.val (.long q0), .second, .val (.long q1), .second, .val (.long q2), .second, .val (.long q3), .second, .val (.long q4), .second, .val (.long q5), .second, .val (.int z1), .val (.long z2), .second, .unset, .unset, .unset, .unset, .unset, .unset, .unset, .unset, .unset, .unset, .unset, .unset, .unset, .unset, .unset, .unset, .unset, .unset, .unset, .unset] [(.long (9223372036854775807 : Int64)), (.long q1)])) (Jvm.Stand.ldc2Long X0 hx hown (mvT hZ (hw _ (List.mem_of_getElem? (i := 1) rfl))) (g := (mkF m 17 #[.val (.long q0), .second, .val (.long q1), .second, .val (.long q2), .second, .val (.long q3), .second, .val (.long q4), .second, .val (.long q5), .second, .val (.int z1), .val (.long z2), .second, .unset, .unset, .unset, .unset, .unset, .unset, .unset, .unset, .unset, .unset, .unset, .unset, .unset, .unset, .unset, .unset, .unset, .unset, .unset, .unset] [(.long q1)])) rfl (hb hby at_17)) ?_
  refine own_by (V := s₁.setTop (mkF m 21 #[.val (.long q0), .second, .val (.long q1), .second, .val (.long q2), .second, .val (.long q3), .second, .val (.long q4), .second, .val (.long q5), .second, .val (.int z1), .val (.long z2), .second, .unset, .unset, .unset, .unset, .unset, .unset, .unset, .unset, .unset, .unset, .unset, .unset, .unset, .unset, .unset, .unset, .unset, .unset, .unset, .unset] [(.long (q1 &&& (9223372036854775807 : Int64)))])) (fun t k => XS.land X0.here hx rfl (hb hby at_20) rfl k) ?_
  obtain ⟨z3, hz3⟩ : ∃ z : Int64, z = (q1 &&& (9223372036854775807 : Int64)) := ⟨_, rfl⟩
  rw [← hz3]
  refine own_by (V := s₁.setTop (mkF m 23 #[.val (.long q0), .second, .val (.long q1), .second, .val (.long q2), .second, .val (.long q3), .second, .val (.long q4), .second, .val (.long q5), .second, .val (.int z1), .val (.long z2), .second, .val (.long z3), .second, .unset, .unset, .unset, .unset, .unset, .unset, .unset, .unset, .unset, .unset, .unset, .unset, .unset, .unset, .unset, .unset, .unset, .unset] [])) (fun t k => XS.lstore X0.here hx rfl (hb hby at_21) rfl (l' := #[.val (.long q0), .second, .val (.long q1), .second, .val (.long q2), .second, .val (.long q3), .second, .val (.long q4), .second, .val (.long q5), .second, .val (.int z1), .val (.long z2), .second, .val (.long z3), .second, .unset, .unset, .unset, .unset, .unset, .unset, .unset, .unset, .unset, .unset, .unset, .unset, .unset, .unset, .unset, .unset, .unset, .unset]) rfl k) ?_
  refine own_by (V := s₁.setTop (mkF m 25 #[.val (.long q0), .second, .val (.long q1), .second, .val (.long q2), .second, .val (.long q3), .second, .val (.long q4), .second, .val (.long q5), .second, .val (.int z1), .val (.long z2), .second, .val (.long z3), .second, .unset, .unset, .unset, .unset, .unset, .unset, .unset, .unset, .unset, .unset, .unset, .unset, .unset, .unset, .unset, .unset, .unset, .unset] [(.long z2)])) (fun t k => XS.lload X0.here hx rfl (hb hby at_23) rfl  k) ?_
  refine own_by (V := s₁.setTop (mkF m 27 #[.val (.long q0), .second, .val (.long q1), .second, .val (.long q2), .second, .val (.long q3), .second, .val (.long q4), .second, .val (.long q5), .second, .val (.int z1), .val (.long z2), .second, .val (.long z3), .second, .unset, .unset, .unset, .unset, .unset, .unset, .unset, .unset, .unset, .unset, .unset, .unset, .unset, .unset, .unset, .unset, .unset, .unset] [(.long q2), (.long z2)])) (fun t k => XS.lload X0.here hx rfl (hb hby at_25) rfl  k) ?_
  refine own_by (V := s₁.setTop (mkF m 30 #[.val (.long q0), .second, .val (.long q1), .second, .val (.long q2), .second, .val (.long q3), .second, .val (.long q4), .second, .val (.long q5), .second, .val (.int z1), .val (.long z2), .second, .val (.long z3), .second, .unset, .unset, .unset, .unset, .unset, .unset, .unset, .unset, .unset, .unset, .unset, .unset, .unset, .unset, .unset, .unset, .unset, .unset] [(.long (9223372036854775807 : Int64)), (.long q2), (.long z2)])) (Jvm.Stand.ldc2Long X0 hx hown (mvT hZ (hw _ (List.mem_of_getElem? (i := 1) rfl))) (g := (mkF m 27 #[.val (.long q0), .second, .val (.long q1), .second, .val (.long q2), .second, .val (.long q3), .second, .val (.long q4), .second, .val (.long q5), .second, .val (.int z1), .val (.long z2), .second, .val (.long z3), .second, .unset, .unset, .unset, .unset, .unset, .unset, .unset, .unset, .unset, .unset, .unset, .unset, .unset, .unset, .unset, .unset, .unset, .unset] [(.long q2), (.long z2)])) rfl (hb hby at_27)) ?_
  refine own_by (V := s₁.setTop (mkF m 31 #[.val (.long q0), .second, .val (.long q1), .second, .val (.long q2), .second, .val (.long q3), .second, .val (.long q4), .second, .val (.long q5), .second, .val (.int z1), .val (.long z2), .second, .val (.long z3), .second, .unset, .unset, .unset, .unset, .unset, .unset, .unset, .unset, .unset, .unset, .unset, .unset, .unset, .unset, .unset, .unset, .unset, .unset] [(.long (q2 &&& (9223372036854775807 : Int64))), (.long z2)])) (fun t k => XS.land X0.here hx rfl (hb hby at_30) rfl k) ?_
  obtain ⟨_, _, ⟨T4, Lq4, kq4, nq4⟩, -, X4, ⟨Lc4, hQ4, lq4, yq4, zq4⟩, st4⟩ := Jvm.LawKit.callS X0 hx (y := (⟨"java/lang/Math", "max", "(JJ)J"⟩ : MethodName)) hown (mvT hZ (hw _ (List.mem_of_getElem? (i := 2) rfl))) (mvT hZ (hw _ (List.mem_of_getElem? (i := 3) rfl))) (mvT hZ (hw _ (List.mem_of_getElem? (i := 4) rfl))) (mvT hZ (hw _ (List.mem_of_getElem? (i := 5) rfl))) (by decide) (backOf (W := 0) (own_rmax l Z a0 hw [] z2 (q2 &&& (9223372036854775807 : Int64)) h0 n0) hZ (hw _ (List.mem_of_getElem? (i := 5) rfl)) (hw _ (List.mem_of_getElem? (i := 4) rfl)) (by decide) (by decide)) (g := (mkF m 31 #[.val (.long q0), .second, .val (.long q1), .second, .val (.long q2), .second, .val (.long q3), .second, .val (.long q4), .second, .val (.long q5), .second, .val (.int z1), .val (.long z2), .second, .val (.long z3), .second, .unset, .unset, .unset, .unset, .unset, .unset, .unset, .unset, .unset, .unset, .unset, .unset, .unset, .unset, .unset, .unset, .unset, .unset] [(.long (q2 &&& (9223372036854775807 : Int64))), (.long z2)])) rfl (by rw [hml]; rfl) (argsL := [(.long z2), (.long (q2 &&& (9223372036854775807 : Int64)))]) (rest := []) (lenOf own_pd2 rfl) rfl (by show 2 * 0 + _ ≤ _; exact Nat.le_of_eq rfl) (hb hby at_31) (fun _ _ => ⟨rfl, e0, (by decide : 0 + 0 ≤ _), (by decide : 0 + 0 ≤ _)⟩)
  dsimp only [Pt.U, Pt.locs, Pt.cells, Pt.slots] at X4 lq4 yq4 zq4 st4 hQ4
  subst lq4 yq4 zq4
  obtain ⟨rfl, N4q, e4⟩ := hQ4
  have N4 := Fr.app N0 N4q
  refine own_by (V := T4.setTop (mkF m 34 #[.val (.long q0), .second, .val (.long q1), .second, .val (.long q2), .second, .val (.long q3), .second, .val (.long q4), .second, .val (.long q5), .second, .val (.int z1), .val (.long z2), .second, .val (.long z3), .second, .unset, .unset, .unset, .unset, .unset, .unset, .unset, .unset, .unset, .unset, .unset, .unset, .unset, .unset, .unset, .unset, .unset, .unset] [(.long (own_maxL z2 (q2 &&& (9223372036854775807 : Int64))))])) st4 ?_
  obtain ⟨z5, hz5⟩ : ∃ z : Int64, z = (own_maxL z2 (q2 &&& (9223372036854775807 : Int64))) := ⟨_, rfl⟩
  rw [← hz5]
  refine own_by (V := T4.setTop (mkF m 36 #[.val (.long q0), .second, .val (.long q1), .second, .val (.long q2), .second, .val (.long q3), .second, .val (.long q4), .second, .val (.long q5), .second, .val (.int z1), .val (.long z2), .second, .val (.long z3), .second, .val (.long z5), .second, .unset, .unset, .unset, .unset, .unset, .unset, .unset, .unset, .unset, .unset, .unset, .unset, .unset, .unset, .unset, .unset] [])) (fun t k => XS.lstore X4.here hx rfl (hb hby at_34) rfl (l' := #[.val (.long q0), .second, .val (.long q1), .second, .val (.long q2), .second, .val (.long q3), .second, .val (.long q4), .second, .val (.long q5), .second, .val (.int z1), .val (.long z2), .second, .val (.long z3), .second, .val (.long z5), .second, .unset, .unset, .unset, .unset, .unset, .unset, .unset, .unset, .unset, .unset, .unset, .unset, .unset, .unset, .unset, .unset]) rfl k) ?_
  refine own_by (V := T4.setTop (mkF m 38 #[.val (.long q0), .second, .val (.long q1), .second, .val (.long q2), .second, .val (.long q3), .second, .val (.long q4), .second, .val (.long q5), .second, .val (.int z1), .val (.long z2), .second, .val (.long z3), .second, .val (.long z5), .second, .unset, .unset, .unset, .unset, .unset, .unset, .unset, .unset, .unset, .unset, .unset, .unset, .unset, .unset, .unset, .unset] [(.int z1)])) (fun t k => XS.iload X4.here hx rfl (hb hby at_36) rfl  k) ?_
  refine own_by (V := T4.setTop (mkF m 39 #[.val (.long q0), .second, .val (.long q1), .second, .val (.long q2), .second, .val (.long q3), .second, .val (.long q4), .second, .val (.long q5), .second, .val (.int z1), .val (.long z2), .second, .val (.long z3), .second, .val (.long z5), .second, .unset, .unset, .unset, .unset, .unset, .unset, .unset, .unset, .unset, .unset, .unset, .unset, .unset, .unset, .unset, .unset] [(.int (1 : Int32)), (.int z1)])) (fun t k => XS.iconst X4.here hx rfl (hb hby at_38) k) ?_
  refine own_by (V := T4.setTop (mkF m 40 #[.val (.long q0), .second, .val (.long q1), .second, .val (.long q2), .second, .val (.long q3), .second, .val (.long q4), .second, .val (.long q5), .second, .val (.int z1), .val (.long z2), .second, .val (.long z3), .second, .val (.long z5), .second, .unset, .unset, .unset, .unset, .unset, .unset, .unset, .unset, .unset, .unset, .unset, .unset, .unset, .unset, .unset, .unset] [(.int (z1 &&& (1 : Int32)))])) (fun t k => XS.iand X4.here hx rfl (hb hby at_39) rfl k) ?_
  have hn13 : ¬ z2 < (0 : Int64) := by rw [hz2]; exact own_nn64 _
  have hn15 : ¬ z3 < (0 : Int64) := by rw [hz3]; exact own_nn64 _
  have hn17 : ¬ z5 < z2 := by rw [hz5]; exact own_maxL_ge _ _
  have J6 : ∀ (T6 : State) (l6 : List Loc) (sb2 : Int64) (X6 : Stand p l e room_1 s m #[(.long q0), (.long q1), (.long q2), (.long q3), (.long q4), (.long q5)] below meth c T6 l6 0 0) (e6 : T6.heap = h0) (N6 : Fr n0 l6) (hsb2 : ¬ sb2 < (0 : Int64)), own_Ends p e below s (own_Q_own_rm0 Z q0 q1 q2 q3 q4 q5 h0 n0) room_1.cells room_1.slots (T6.setTop (mkF m 54 #[.val (.long q0), .second, .val (.long q1), .second, .val (.long q2), .second, .val (.long q3), .second, .val (.long q4), .second, .val (.long q5), .second, .val (.int z1), .val (.long z2), .second, .val (.long z3), .second, .val (.long z5), .second, .unset, .unset, .unset, .unset, .unset, .unset, .unset, .unset, .unset, .unset, .unset, .unset, .unset, .unset, .unset, .unset] [(.long sb2)])) := by
    intro T6 l6 sb2 X6 e6 N6 hsb2
    refine own_by (V := T6.setTop (mkF m 56 #[.val (.long q0), .second, .val (.long q1), .second, .val (.long q2), .second, .val (.long q3), .second, .val (.long q4), .second, .val (.long q5), .second, .val (.int z1), .val (.long z2), .second, .val (.long z3), .second, .val (.long z5), .second, .val (.long sb2), .second, .unset, .unset, .unset, .unset, .unset, .unset, .unset, .unset, .unset, .unset, .unset, .unset, .unset, .unset] [])) (fun t k => XS.lstore X6.here hx rfl (hb hby at_54) rfl (l' := #[.val (.long q0), .second, .val (.long q1), .second, .val (.long q2), .second, .val (.long q3), .second, .val (.long q4), .second, .val (.long q5), .second, .val (.int z1), .val (.long z2), .second, .val (.long z3), .second, .val (.long z5), .second, .val (.long sb2), .second, .unset, .unset, .unset, .unset, .unset, .unset, .unset, .unset, .unset, .unset, .unset, .unset, .unset, .unset]) rfl k) ?_
    refine own_by (V := T6.setTop (mkF m 58 #[.val (.long q0), .second, .val (.long q1), .second, .val (.long q2), .second, .val (.long q3), .second, .val (.long q4), .second, .val (.long q5), .second, .val (.int z1), .val (.long z2), .second, .val (.long z3), .second, .val (.long z5), .second, .val (.long sb2), .second, .unset, .unset, .unset, .unset, .unset, .unset, .unset, .unset, .unset, .unset, .unset, .unset, .unset, .unset] [(.int z1)])) (fun t k => XS.iload X6.here hx rfl (hb hby at_56) rfl  k) ?_
    refine own_by (V := T6.setTop (mkF m 59 #[.val (.long q0), .second, .val (.long q1), .second, .val (.long q2), .second, .val (.long q3), .second, .val (.long q4), .second, .val (.long q5), .second, .val (.int z1), .val (.long z2), .second, .val (.long z3), .second, .val (.long z5), .second, .val (.long sb2), .second, .unset, .unset, .unset, .unset, .unset, .unset, .unset, .unset, .unset, .unset, .unset, .unset, .unset, .unset] [(.int (2 : Int32)), (.int z1)])) (fun t k => XS.iconst X6.here hx rfl (hb hby at_58) k) ?_
    refine own_by (V := T6.setTop (mkF m 60 #[.val (.long q0), .second, .val (.long q1), .second, .val (.long q2), .second, .val (.long q3), .second, .val (.long q4), .second, .val (.long q5), .second, .val (.int z1), .val (.long z2), .second, .val (.long z3), .second, .val (.long z5), .second, .val (.long sb2), .second, .unset, .unset, .unset, .unset, .unset, .unset, .unset, .unset, .unset, .unset, .unset, .unset, .unset, .unset] [(.int (z1 &&& (2 : Int32)))])) (fun t k => XS.iand X6.here hx rfl (hb hby at_59) rfl k) ?_
    have J7 : ∀ (T7 : State) (l7 : List Loc) (pos2 : Int64) (X7 : Stand p l e room_1 s m #[(.long q0), (.long q1), (.long q2), (.long q3), (.long q4), (.long q5)] below meth c T7 l7 0 0) (e7 : T7.heap = h0) (N7 : Fr n0 l7) (hpos2 : ¬ pos2 < (0 : Int64)), own_Ends p e below s (own_Q_own_rm0 Z q0 q1 q2 q3 q4 q5 h0 n0) room_1.cells room_1.slots (T7.setTop (mkF m 74 #[.val (.long q0), .second, .val (.long q1), .second, .val (.long q2), .second, .val (.long q3), .second, .val (.long q4), .second, .val (.long q5), .second, .val (.int z1), .val (.long z2), .second, .val (.long z3), .second, .val (.long z5), .second, .val (.long sb2), .second, .unset, .unset, .unset, .unset, .unset, .unset, .unset, .unset, .unset, .unset, .unset, .unset, .unset, .unset] [(.long pos2)])) := by
      intro T7 l7 pos2 X7 e7 N7 hpos2
      refine own_by (V := T7.setTop (mkF m 76 #[.val (.long q0), .second, .val (.long q1), .second, .val (.long q2), .second, .val (.long q3), .second, .val (.long q4), .second, .val (.long q5), .second, .val (.int z1), .val (.long z2), .second, .val (.long z3), .second, .val (.long z5), .second, .val (.long sb2), .second, .val (.long pos2), .second, .unset, .unset, .unset, .unset, .unset, .unset, .unset, .unset, .unset, .unset, .unset, .unset] [])) (fun t k => XS.lstore X7.here hx rfl (hb hby at_74) rfl (l' := #[.val (.long q0), .second, .val (.long q1), .second, .val (.long q2), .second, .val (.long q3), .second, .val (.long q4), .second, .val (.long q5), .second, .val (.int z1), .val (.long z2), .second, .val (.long z3), .second, .val (.long z5), .second, .val (.long sb2), .second, .val (.long pos2), .second, .unset, .unset, .unset, .unset, .unset, .unset, .unset, .unset, .unset, .unset, .unset, .unset]) rfl k) ?_
      refine own_by (V := T7.setTop (mkF m 78 #[.val (.long q0), .second, .val (.long q1), .second, .val (.long q2), .second, .val (.long q3), .second, .val (.long q4), .second, .val (.long q5), .second, .val (.int z1), .val (.long z2), .second, .val (.long z3), .second, .val (.long z5), .second, .val (.long sb2), .second, .val (.long pos2), .second, .unset, .unset, .unset, .unset, .unset, .unset, .unset, .unset, .unset, .unset, .unset, .unset] [(.int z1)])) (fun t k => XS.iload X7.here hx rfl (hb hby at_76) rfl  k) ?_
      refine own_by (V := T7.setTop (mkF m 79 #[.val (.long q0), .second, .val (.long q1), .second, .val (.long q2), .second, .val (.long q3), .second, .val (.long q4), .second, .val (.long q5), .second, .val (.int z1), .val (.long z2), .second, .val (.long z3), .second, .val (.long z5), .second, .val (.long sb2), .second, .val (.long pos2), .second, .unset, .unset, .unset, .unset, .unset, .unset, .unset, .unset, .unset, .unset, .unset, .unset] [(.int (4 : Int32)), (.int z1)])) (fun t k => XS.iconst X7.here hx rfl (hb hby at_78) k) ?_
      refine own_by (V := T7.setTop (mkF m 80 #[.val (.long q0), .second, .val (.long q1), .second, .val (.long q2), .second, .val (.long q3), .second, .val (.long q4), .second, .val (.long q5), .second, .val (.int z1), .val (.long z2), .second, .val (.long z3), .second, .val (.long z5), .second, .val (.long sb2), .second, .val (.long pos2), .second, .unset, .unset, .unset, .unset, .unset, .unset, .unset, .unset, .unset, .unset, .unset, .unset] [(.int (z1 &&& (4 : Int32)))])) (fun t k => XS.iand X7.here hx rfl (hb hby at_79) rfl k) ?_
      have J8 : ∀ (T8 : State) (l8 : List Loc) (off2 : Int64) (X8 : Stand p l e room_1 s m #[(.long q0), (.long q1), (.long q2), (.long q3), (.long q4), (.long q5)] below meth c T8 l8 0 0) (e8 : T8.heap = h0) (N8 : Fr n0 l8) (hoff2 : ¬ off2 < sb2), own_Ends p e below s (own_Q_own_rm0 Z q0 q1 q2 q3 q4 q5 h0 n0) room_1.cells room_1.slots (T8.setTop (mkF m 102 #[.val (.long q0), .second, .val (.long q1), .second, .val (.long q2), .second, .val (.long q3), .second, .val (.long q4), .second, .val (.long q5), .second, .val (.int z1), .val (.long z2), .second, .val (.long z3), .second, .val (.long z5), .second, .val (.long sb2), .second, .val (.long pos2), .second, .unset, .unset, .unset, .unset, .unset, .unset, .unset, .unset, .unset, .unset, .unset, .unset] [(.long off2)])) := by
        intro T8 l8 off2 X8 e8 N8 hoff2
        refine own_by (V := T8.setTop (mkF m 104 #[.val (.long q0), .second, .val (.long q1), .second, .val (.long q2), .second, .val (.long q3), .second, .val (.long q4), .second, .val (.long q5), .second, .val (.int z1), .val (.long z2), .second, .val (.long z3), .second, .val (.long z5), .second, .val (.long sb2), .second, .val (.long pos2), .second, .val (.long off2), .second, .unset, .unset, .unset, .unset, .unset, .unset, .unset, .unset, .unset, .unset] [])) (fun t k => XS.lstore X8.here hx rfl (hb hby at_102) rfl (l' := #[.val (.long q0), .second, .val (.long q1), .second, .val (.long q2), .second, .val (.long q3), .second, .val (.long q4), .second, .val (.long q5), .second, .val (.int z1), .val (.long z2), .second, .val (.long z3), .second, .val (.long z5), .second, .val (.long sb2), .second, .val (.long pos2), .second, .val (.long off2), .second, .unset, .unset, .unset, .unset, .unset, .unset, .unset, .unset, .unset, .unset]) rfl k) ?_
        obtain ⟨T9, h9, X9, e9, E9, A9, D9, -, st9⟩ := newO X8 hx hZ hown (hw _ (List.mem_of_getElem? (i := 6) rfl)) (hw _ (List.mem_of_getElem? (i := 7) rfl)) (hw _ (List.mem_of_getElem? (i := 8) rfl)) e8 (g := (mkF m 104 #[.val (.long q0), .second, .val (.long q1), .second, .val (.long q2), .second, .val (.long q3), .second, .val (.long q4), .second, .val (.long q5), .second, .val (.int z1), .val (.long z2), .second, .val (.long z3), .second, .val (.long z5), .second, .val (.long sb2), .second, .val (.long pos2), .second, .val (.long off2), .second, .unset, .unset, .unset, .unset, .unset, .unset, .unset, .unset, .unset, .unset] [])) rfl (hb hby at_104) (by decide) (by decide)
        obtain ⟨b9, g9⟩ : ∃ z, z = h0.size := ⟨_, rfl⟩
        rw [← g9] at A9 D9 st9
        have O9 := O0.ext E9
        have f10 : Fld Z h9 b9 "com/example/balcon/balcon/storage/Mark" "segmentBase" "J" (.long (0 : Int64)) := D9 (Or.inr (hw _ (List.mem_of_getElem? (i := 16) rfl))) (ty := .long) (by decide)
        have f11 : Fld Z h9 b9 "com/example/balcon/balcon/storage/Mark" "position" "J" (.long (0 : Int64)) := D9 (Or.inr (hw _ (List.mem_of_getElem? (i := 18) rfl))) (ty := .long) (by decide)
        have f12 : Fld Z h9 b9 "com/example/balcon/balcon/storage/Mark" "offset" "J" (.long (0 : Int64)) := D9 (Or.inr (hw _ (List.mem_of_getElem? (i := 20) rfl))) (ty := .long) (by decide)
        have gn9 : n0 ≤ b9 := Nat.le_trans Z0 (Nat.le_of_eq g9.symm)
        have Zs9 : n0 ≤ h9.size := Nat.le_trans Z0 E9.1
        refine own_by (V := T9.setTop (mkF m 107 #[.val (.long q0), .second, .val (.long q1), .second, .val (.long q2), .second, .val (.long q3), .second, .val (.long q4), .second, .val (.long q5), .second, .val (.int z1), .val (.long z2), .second, .val (.long z3), .second, .val (.long z5), .second, .val (.long sb2), .second, .val (.long pos2), .second, .val (.long off2), .second, .unset, .unset, .unset, .unset, .unset, .unset, .unset, .unset, .unset, .unset] [(.ref b9)])) st9 ?_
        refine own_by (V := T9.setTop (mkF m 108 #[.val (.long q0), .second, .val (.long q1), .second, .val (.long q2), .second, .val (.long q3), .second, .val (.long q4), .second, .val (.long q5), .second, .val (.int z1), .val (.long z2), .second, .val (.long z3), .second, .val (.long z5), .second, .val (.long sb2), .second, .val (.long pos2), .second, .val (.long off2), .second, .unset, .unset, .unset, .unset, .unset, .unset, .unset, .unset, .unset, .unset] [(.ref b9), (.ref b9)])) (fun t k => XS.dup X9.here hx rfl (hb hby at_107) rfl rfl k) ?_
        refine own_by (V := T9.setTop (mkF m 110 #[.val (.long q0), .second, .val (.long q1), .second, .val (.long q2), .second, .val (.long q3), .second, .val (.long q4), .second, .val (.long q5), .second, .val (.int z1), .val (.long z2), .second, .val (.long z3), .second, .val (.long z5), .second, .val (.long sb2), .second, .val (.long pos2), .second, .val (.long off2), .second, .unset, .unset, .unset, .unset, .unset, .unset, .unset, .unset, .unset, .unset] [(.long z2), (.ref b9), (.ref b9)])) (fun t k => XS.lload X9.here hx rfl (hb hby at_108) rfl  k) ?_
        refine own_by (V := T9.setTop (mkF m 112 #[.val (.long q0), .second, .val (.long q1), .second, .val (.long q2), .second, .val (.long q3), .second, .val (.long q4), .second, .val (.long q5), .second, .val (.int z1), .val (.long z2), .second, .val (.long z3), .second, .val (.long z5), .second, .val (.long sb2), .second, .val (.long pos2), .second, .val (.long off2), .second, .unset, .unset, .unset, .unset, .unset, .unset, .unset, .unset, .unset, .unset] [(.long z3), (.long z2), (.ref b9), (.ref b9)])) (fun t k => XS.lload X9.here hx rfl (hb hby at_110) rfl  k) ?_
        refine own_by (V := T9.setTop (mkF m 114 #[.val (.long q0), .second, .val (.long q1), .second, .val (.long q2), .second, .val (.long q3), .second, .val (.long q4), .second, .val (.long q5), .second, .val (.int z1), .val (.long z2), .second, .val (.long z3), .second, .val (.long z5), .second, .val (.long sb2), .second, .val (.long pos2), .second, .val (.long off2), .second, .unset, .unset, .unset, .unset, .unset, .unset, .unset, .unset, .unset, .unset] [(.long z5), (.long z3), (.long z2), (.ref b9), (.ref b9)])) (fun t k => XS.lload X9.here hx rfl (hb hby at_112) rfl  k) ?_
        obtain ⟨_, _, ⟨T13, Lq13, kq13, nq13⟩, -, X13, ⟨Lc13, hQ13, lq13, yq13, zq13⟩, st13⟩ := X9.specialBack hx (y := (⟨"com/example/balcon/balcon/storage/Mark", "<init>", "(JJJ)V"⟩ : MethodName)) rfl hown (mvT hZ (hw _ (List.mem_of_getElem? (i := 9) rfl))) (mvT hZ (hw _ (List.mem_of_getElem? (i := 10) rfl))) (mvT hZ (hw _ (List.mem_of_getElem? (i := 11) rfl))) (by decide) (backOf (W := 1) (own_init l Z a0 hw [] b9 z2 z3 z5 h9 n0 Zs9 gn9 A9 f10 f11 f12 hn13 hn15 hn17) hZ (hw _ (List.mem_of_getElem? (i := 11) rfl)) (hw _ (List.mem_of_getElem? (i := 8) rfl)) (by decide) (by decide)) (g := (mkF m 114 #[.val (.long q0), .second, .val (.long q1), .second, .val (.long q2), .second, .val (.long q3), .second, .val (.long q4), .second, .val (.long q5), .second, .val (.int z1), .val (.long z2), .second, .val (.long z3), .second, .val (.long z5), .second, .val (.long sb2), .second, .val (.long pos2), .second, .val (.long off2), .second, .unset, .unset, .unset, .unset, .unset, .unset, .unset, .unset, .unset, .unset] [(.long z5), (.long z3), (.long z2), (.ref b9), (.ref b9)])) rfl (by rw [hml]; rfl) (Steps.refl _) (a := b9) (argsL := [(.long z2), (.long z3), (.long z5)]) (rest := [(.ref b9)]) (lenOf own_pd3 rfl) rfl (by show 2 * 0 + _ ≤ _; exact Nat.le_of_eq rfl) (hb hby at_114) (fun _ _ => ⟨rfl, e9, (by decide : 1 + 0 ≤ _), (by decide : 3 + 0 ≤ _)⟩)
        dsimp only [Pt.U, Pt.locs, Pt.cells, Pt.slots] at X13 lq13 yq13 zq13 st13 hQ13
        subst lq13 yq13 zq13
        obtain ⟨rfl, N13q, Kc13, Ec13, g13_0, g13_1, g13_2⟩ := hQ13
        have N13 := Fr.app N8 N13q
        have O13 := O9.keep Kc13 (allS gn9 all0)
        have Zs13 : n0 ≤ T13.heap.size := Nat.le_trans Zs9 Kc13.1
        refine own_by (V := T13.setTop (mkF m 117 #[.val (.long q0), .second, .val (.long q1), .second, .val (.long q2), .second, .val (.long q3), .second, .val (.long q4), .second, .val (.long q5), .second, .val (.int z1), .val (.long z2), .second, .val (.long z3), .second, .val (.long z5), .second, .val (.long sb2), .second, .val (.long pos2), .second, .val (.long off2), .second, .unset, .unset, .unset, .unset, .unset, .unset, .unset, .unset, .unset, .unset] [(.ref b9)])) (fun t k => st13.trans k) ?_
        refine own_by (V := T13.setTop (mkF m 119 #[.val (.long q0), .second, .val (.long q1), .second, .val (.long q2), .second, .val (.long q3), .second, .val (.long q4), .second, .val (.long q5), .second, .val (.int z1), .val (.long z2), .second, .val (.long z3), .second, .val (.long z5), .second, .val (.long sb2), .second, .val (.long pos2), .second, .val (.long off2), .second, .val (.ref b9), .unset, .unset, .unset, .unset, .unset, .unset, .unset, .unset, .unset] [])) (fun t k => XS.astore X13.here hx rfl (hb hby at_117) rfl rfl (l' := #[.val (.long q0), .second, .val (.long q1), .second, .val (.long q2), .second, .val (.long q3), .second, .val (.long q4), .second, .val (.long q5), .second, .val (.int z1), .val (.long z2), .second, .val (.long z3), .second, .val (.long z5), .second, .val (.long sb2), .second, .val (.long pos2), .second, .val (.long off2), .second, .val (.ref b9), .unset, .unset, .unset, .unset, .unset, .unset, .unset, .unset, .unset]) rfl k) ?_
        obtain ⟨T14, h14, X14, e14, E14, A14, D14, -, st14⟩ := newO X13 hx hZ hown (hw _ (List.mem_of_getElem? (i := 6) rfl)) (hw _ (List.mem_of_getElem? (i := 7) rfl)) (hw _ (List.mem_of_getElem? (i := 8) rfl)) rfl (g := (mkF m 119 #[.val (.long q0), .second, .val (.long q1), .second, .val (.long q2), .second, .val (.long q3), .second, .val (.long q4), .second, .val (.long q5), .second, .val (.int z1), .val (.long z2), .second, .val (.long z3), .second, .val (.long z5), .second, .val (.long sb2), .second, .val (.long pos2), .second, .val (.long off2), .second, .val (.ref b9), .unset, .unset, .unset, .unset, .unset, .unset, .unset, .unset, .unset] [])) rfl (hb hby at_119) (by decide) (by decide)
        obtain ⟨b14, g14⟩ : ∃ z, z = T13.heap.size := ⟨_, rfl⟩
        rw [← g14] at A14 D14 st14
        have ne15 : b9 ≠ b14 := Nat.ne_of_lt (Nat.lt_of_lt_of_le Ec13.lt (Nat.le_of_eq g14.symm))
        have f16 := Ec13.ext E14
        have f17 := g13_0.ext E14
        have f18 := g13_1.ext E14
        have f19 := g13_2.ext E14
        have O14 := O13.ext E14
        have f22 : Fld Z h14 b14 "com/example/balcon/balcon/storage/Mark" "segmentBase" "J" (.long (0 : Int64)) := D14 (Or.inr (hw _ (List.mem_of_getElem? (i := 16) rfl))) (ty := .long) (by decide)
        have f23 : Fld Z h14 b14 "com/example/balcon/balcon/storage/Mark" "position" "J" (.long (0 : Int64)) := D14 (Or.inr (hw _ (List.mem_of_getElem? (i := 18) rfl))) (ty := .long) (by decide)
        have f24 : Fld Z h14 b14 "com/example/balcon/balcon/storage/Mark" "offset" "J" (.long (0 : Int64)) := D14 (Or.inr (hw _ (List.mem_of_getElem? (i := 20) rfl))) (ty := .long) (by decide)
        have gn14 : n0 ≤ b14 := Nat.le_trans Zs13 (Nat.le_of_eq g14.symm)
        have Zs14 : n0 ≤ h14.size := Nat.le_trans Zs13 E14.1
        refine own_by (V := T14.setTop (mkF m 122 #[.val (.long q0), .second, .val (.long q1), .second, .val (.long q2), .second, .val (.long q3), .second, .val (.long q4), .second, .val (.long q5), .second, .val (.int z1), .val (.long z2), .second, .val (.long z3), .second, .val (.long z5), .second, .val (.long sb2), .second, .val (.long pos2), .second, .val (.long off2), .second, .val (.ref b9), .unset, .unset, .unset, .unset, .unset, .unset, .unset, .unset, .unset] [(.ref b14)])) st14 ?_
        refine own_by (V := T14.setTop (mkF m 123 #[.val (.long q0), .second, .val (.long q1), .second, .val (.long q2), .second, .val (.long q3), .second, .val (.long q4), .second, .val (.long q5), .second, .val (.int z1), .val (.long z2), .second, .val (.long z3), .second, .val (.long z5), .second, .val (.long sb2), .second, .val (.long pos2), .second, .val (.long off2), .second, .val (.ref b9), .unset, .unset, .unset, .unset, .unset, .unset, .unset, .unset, .unset] [(.ref b14), (.ref b14)])) (fun t k => XS.dup X14.here hx rfl (hb hby at_122) rfl rfl k) ?_
        refine own_by (V := T14.setTop (mkF m 125 #[.val (.long q0), .second, .val (.long q1), .second, .val (.long q2), .second, .val (.long q3), .second, .val (.long q4), .second, .val (.long q5), .second, .val (.int z1), .val (.long z2), .second, .val (.long z3), .second, .val (.long z5), .second, .val (.long sb2), .second, .val (.long pos2), .second, .val (.long off2), .second, .val (.ref b9), .unset, .unset, .unset, .unset, .unset, .unset, .unset, .unset, .unset] [(.long sb2), (.ref b14), (.ref b14)])) (fun t k => XS.lload X14.here hx rfl (hb hby at_123) rfl  k) ?_
        refine own_by (V := T14.setTop (mkF m 127 #[.val (.long q0), .second, .val (.long q1), .second, .val (.long q2), .second, .val (.long q3), .second, .val (.long q4), .second, .val (.long q5), .second, .val (.int z1), .val (.long z2), .second, .val (.long z3), .second, .val (.long z5), .second, .val (.long sb2), .second, .val (.long pos2), .second, .val (.long off2), .second, .val (.ref b9), .unset, .unset, .unset, .unset, .unset, .unset, .unset, .unset, .unset] [(.long pos2), (.long sb2), (.ref b14), (.ref b14)])) (fun t k => XS.lload X14.here hx rfl (hb hby at_125) rfl  k) ?_
        refine own_by (V := T14.setTop (mkF m 129 #[.val (.long q0), .second, .val (.long q1), .second, .val (.long q2), .second, .val (.long q3), .second, .val (.long q4), .second, .val (.long q5), .second, .val (.int z1), .val (.long z2), .second, .val (.long z3), .second, .val (.long z5), .second, .val (.long sb2), .second, .val (.long pos2), .second, .val (.long off2), .second, .val (.ref b9), .unset, .unset, .unset, .unset, .unset, .unset, .unset, .unset, .unset] [(.long off2), (.long pos2), (.long sb2), (.ref b14), (.ref b14)])) (fun t k => XS.lload X14.here hx rfl (hb hby at_127) rfl  k) ?_
        obtain ⟨_, _, ⟨T25, Lq25, kq25, nq25⟩, -, X25, ⟨Lc25, hQ25, lq25, yq25, zq25⟩, st25⟩ := X14.specialBack hx (y := (⟨"com/example/balcon/balcon/storage/Mark", "<init>", "(JJJ)V"⟩ : MethodName)) rfl hown (mvT hZ (hw _ (List.mem_of_getElem? (i := 9) rfl))) (mvT hZ (hw _ (List.mem_of_getElem? (i := 10) rfl))) (mvT hZ (hw _ (List.mem_of_getElem? (i := 11) rfl))) (by decide) (backOf (W := 1) (own_init l Z a0 hw [] b14 sb2 pos2 off2 h14 n0 Zs14 gn14 A14 f22 f23 f24 hsb2 hpos2 hoff2) hZ (hw _ (List.mem_of_getElem? (i := 11) rfl)) (hw _ (List.mem_of_getElem? (i := 8) rfl)) (by decide) (by decide)) (g := (mkF m 129 #[.val (.long q0), .second, .val (.long q1), .second, .val (.long q2), .second, .val (.long q3), .second, .val (.long q4), .second, .val (.long q5), .second, .val (.int z1), .val (.long z2), .second, .val (.long z3), .second, .val (.long z5), .second, .val (.long sb2), .second, .val (.long pos2), .second, .val (.long off2), .second, .val (.ref b9), .unset, .unset, .unset, .unset, .unset, .unset, .unset, .unset, .unset] [(.long off2), (.long pos2), (.long sb2), (.ref b14), (.ref b14)])) rfl (by rw [hml]; rfl) (Steps.refl _) (a := b14) (argsL := [(.long sb2), (.long pos2), (.long off2)]) (rest := [(.ref b14)]) (lenOf own_pd3 rfl) rfl (by show 2 * 0 + _ ≤ _; exact Nat.le_of_eq rfl) (hb hby at_129) (fun _ _ => ⟨rfl, e14, (by decide : 2 + 0 ≤ _), (by decide : 6 + 0 ≤ _)⟩)
        dsimp only [Pt.U, Pt.locs, Pt.cells, Pt.slots] at X25 lq25 yq25 zq25 st25 hQ25
        subst lq25 yq25 zq25
        obtain ⟨rfl, N25q, Kc25, Ec25, g25_0, g25_1, g25_2⟩ := hQ25
        have N25 := Fr.app N13 N25q
        have f26 := f16.keep Kc25
        have f27 := f17.keep Kc25 (ninS ne15 nin0)
        have f28 := f18.keep Kc25 (ninS ne15 nin0)
        have f29 := f19.keep Kc25 (ninS ne15 nin0)
        have O25 := O14.keep Kc25 (allS gn14 all0)
        have Zs25 : n0 ≤ T25.heap.size := Nat.le_trans Zs14 Kc25.1
        refine own_by (V := T25.setTop (mkF m 132 #[.val (.long q0), .second, .val (.long q1), .second, .val (.long q2), .second, .val (.long q3), .second, .val (.long q4), .second, .val (.long q5), .second, .val (.int z1), .val (.long z2), .second, .val (.long z3), .second, .val (.long z5), .second, .val (.long sb2), .second, .val (.long pos2), .second, .val (.long off2), .second, .val (.ref b9), .unset, .unset, .unset, .unset, .unset, .unset, .unset, .unset, .unset] [(.ref b14)])) (fun t k => st25.trans k) ?_
        refine own_by (V := T25.setTop (mkF m 134 #[.val (.long q0), .second, .val (.long q1), .second, .val (.long q2), .second, .val (.long q3), .second, .val (.long q4), .second, .val (.long q5), .second, .val (.int z1), .val (.long z2), .second, .val (.long z3), .second, .val (.long z5), .second, .val (.long sb2), .second, .val (.long pos2), .second, .val (.long off2), .second, .val (.ref b9), .val (.ref b14), .unset, .unset, .unset, .unset, .unset, .unset, .unset, .unset] [])) (fun t k => XS.astore X25.here hx rfl (hb hby at_132) rfl rfl (l' := #[.val (.long q0), .second, .val (.long q1), .second, .val (.long q2), .second, .val (.long q3), .second, .val (.long q4), .second, .val (.long q5), .second, .val (.int z1), .val (.long z2), .second, .val (.long z3), .second, .val (.long z5), .second, .val (.long sb2), .second, .val (.long pos2), .second, .val (.long off2), .second, .val (.ref b9), .val (.ref b14), .unset, .unset, .unset, .unset, .unset, .unset, .unset, .unset]) rfl k) ?_
        obtain ⟨T30, h30, X30, e30, E30, A30, D30, -, st30⟩ := newO X25 hx hZ hown (hw _ (List.mem_of_getElem? (i := 6) rfl)) (hw _ (List.mem_of_getElem? (i := 7) rfl)) (hw _ (List.mem_of_getElem? (i := 8) rfl)) rfl (g := (mkF m 134 #[.val (.long q0), .second, .val (.long q1), .second, .val (.long q2), .second, .val (.long q3), .second, .val (.long q4), .second, .val (.long q5), .second, .val (.int z1), .val (.long z2), .second, .val (.long z3), .second, .val (.long z5), .second, .val (.long sb2), .second, .val (.long pos2), .second, .val (.long off2), .second, .val (.ref b9), .val (.ref b14), .unset, .unset, .unset, .unset, .unset, .unset, .unset, .unset] [])) rfl (hb hby at_134) (by decide) (by decide)
        obtain ⟨b30, g30⟩ : ∃ z, z = T25.heap.size := ⟨_, rfl⟩
        rw [← g30] at A30 D30 st30
        have ne31 : b9 ≠ b30 := Nat.ne_of_lt (Nat.lt_of_lt_of_le f26.lt (Nat.le_of_eq g30.symm))
        have ne32 : b14 ≠ b30 := Nat.ne_of_lt (Nat.lt_of_lt_of_le Ec25.lt (Nat.le_of_eq g30.symm))
        have f33 := f26.ext E30
        have f34 := f27.ext E30
        have f35 := f28.ext E30
        have f36 := f29.ext E30
        have f39 := Ec25.ext E30
        have f40 := g25_0.ext E30
        have f41 := g25_1.ext E30
        have f42 := g25_2.ext E30
        have O30 := O25.ext E30
        have f46 : Fld Z h30 b30 "com/example/balcon/balcon/storage/Mark" "segmentBase" "J" (.long (0 : Int64)) := D30 (Or.inr (hw _ (List.mem_of_getElem? (i := 16) rfl))) (ty := .long) (by decide)
        have f47 : Fld Z h30 b30 "com/example/balcon/balcon/storage/Mark" "position" "J" (.long (0 : Int64)) := D30 (Or.inr (hw _ (List.mem_of_getElem? (i := 18) rfl))) (ty := .long) (by decide)
        have f48 : Fld Z h30 b30 "com/example/balcon/balcon/storage/Mark" "offset" "J" (.long (0 : Int64)) := D30 (Or.inr (hw _ (List.mem_of_getElem? (i := 20) rfl))) (ty := .long) (by decide)
        have gn30 : n0 ≤ b30 := Nat.le_trans Zs25 (Nat.le_of_eq g30.symm)
        have Zs30 : n0 ≤ h30.size := Nat.le_trans Zs25 E30.1
        refine own_by (V := T30.setTop (mkF m 137 #[.val (.long q0), .second, .val (.long q1), .second, .val (.long q2), .second, .val (.long q3), .second, .val (.long q4), .second, .val (.long q5), .second, .val (.int z1), .val (.long z2), .second, .val (.long z3), .second, .val (.long z5), .second, .val (.long sb2), .second, .val (.long pos2), .second, .val (.long off2), .second, .val (.ref b9), .val (.ref b14), .unset, .unset, .unset, .unset, .unset, .unset, .unset, .unset] [(.ref b30)])) st30 ?_
        refine own_by (V := T30.setTop (mkF m 138 #[.val (.long q0), .second, .val (.long q1), .second, .val (.long q2), .second, .val (.long q3), .second, .val (.long q4), .second, .val (.long q5), .second, .val (.int z1), .val (.long z2), .second, .val (.long z3), .second, .val (.long z5), .second, .val (.long sb2), .second, .val (.long pos2), .second, .val (.long off2), .second, .val (.ref b9), .val (.ref b14), .unset, .unset, .unset, .unset, .unset, .unset, .unset, .unset] [(.ref b30), (.ref b30)])) (fun t k => XS.dup X30.here hx rfl (hb hby at_137) rfl rfl k) ?_
        refine own_by (V := T30.setTop (mkF m 140 #[.val (.long q0), .second, .val (.long q1), .second, .val (.long q2), .second, .val (.long q3), .second, .val (.long q4), .second, .val (.long q5), .second, .val (.int z1), .val (.long z2), .second, .val (.long z3), .second, .val (.long z5), .second, .val (.long sb2), .second, .val (.long pos2), .second, .val (.long off2), .second, .val (.ref b9), .val (.ref b14), .unset, .unset, .unset, .unset, .unset, .unset, .unset, .unset] [(.long z2), (.ref b30), (.ref b30)])) (fun t k => XS.lload X30.here hx rfl (hb hby at_138) rfl  k) ?_
        refine own_by (V := T30.setTop (mkF m 142 #[.val (.long q0), .second, .val (.long q1), .second, .val (.long q2), .second, .val (.long q3), .second, .val (.long q4), .second, .val (.long q5), .second, .val (.int z1), .val (.long z2), .second, .val (.long z3), .second, .val (.long z5), .second, .val (.long sb2), .second, .val (.long pos2), .second, .val (.long off2), .second, .val (.ref b9), .val (.ref b14), .unset, .unset, .unset, .unset, .unset, .unset, .unset, .unset] [(.long z3), (.long z2), (.ref b30), (.ref b30)])) (fun t k => XS.lload X30.here hx rfl (hb hby at_140) rfl  k) ?_
        refine own_by (V := T30.setTop (mkF m 144 #[.val (.long q0), .second, .val (.long q1), .second, .val (.long q2), .second, .val (.long q3), .second, .val (.long q4), .second, .val (.long q5), .second, .val (.int z1), .val (.long z2), .second, .val (.long z3), .second, .val (.long z5), .second, .val (.long sb2), .second, .val (.long pos2), .second, .val (.long off2), .second, .val (.ref b9), .val (.ref b14), .unset, .unset, .unset, .unset, .unset, .unset, .unset, .unset] [(.long z5), (.long z3), (.long z2), (.ref b30), (.ref b30)])) (fun t k => XS.lload X30.here hx rfl (hb hby at_142) rfl  k) ?_
        obtain ⟨_, _, ⟨T49, Lq49, kq49, nq49⟩, -, X49, ⟨Lc49, hQ49, lq49, yq49, zq49⟩, st49⟩ := X30.specialBack hx (y := (⟨"com/example/balcon/balcon/storage/Mark", "<init>", "(JJJ)V"⟩ : MethodName)) rfl hown (mvT hZ (hw _ (List.mem_of_getElem? (i := 9) rfl))) (mvT hZ (hw _ (List.mem_of_getElem? (i := 10) rfl))) (mvT hZ (hw _ (List.mem_of_getElem? (i := 11) rfl))) (by decide) (backOf (W := 1) (own_init l Z a0 hw [] b30 z2 z3 z5 h30 n0 Zs30 gn30 A30 f46 f47 f48 hn13 hn15 hn17) hZ (hw _ (List.mem_of_getElem? (i := 11) rfl)) (hw _ (List.mem_of_getElem? (i := 8) rfl)) (by decide) (by decide)) (g := (mkF m 144 #[.val (.long q0), .second, .val (.long q1), .second, .val (.long q2), .second, .val (.long q3), .second, .val (.long q4), .second, .val (.long q5), .second, .val (.int z1), .val (.long z2), .second, .val (.long z3), .second, .val (.long z5), .second, .val (.long sb2), .second, .val (.long pos2), .second, .val (.long off2), .second, .val (.ref b9), .val (.ref b14), .unset, .unset, .unset, .unset, .unset, .unset, .unset, .unset] [(.long z5), (.long z3), (.long z2), (.ref b30), (.ref b30)])) rfl (by rw [hml]; rfl) (Steps.refl _) (a := b30) (argsL := [(.long z2), (.long z3), (.long z5)]) (rest := [(.ref b30)]) (lenOf own_pd3 rfl) rfl (by show 2 * 0 + _ ≤ _; exact Nat.le_of_eq rfl) (hb hby at_144) (fun _ _ => ⟨rfl, e30, (by decide : 3 + 0 ≤ _), (by decide : 9 + 0 ≤ _)⟩)
        dsimp only [Pt.U, Pt.locs, Pt.cells, Pt.slots] at X49 lq49 yq49 zq49 st49 hQ49
        subst lq49 yq49 zq49
        obtain ⟨rfl, N49q, Kc49, Ec49, g49_0, g49_1, g49_2⟩ := hQ49
        have N49 := Fr.app N25 N49q
        have f50 := f33.keep Kc49
        have f51 := f34.keep Kc49 (ninS ne31 nin0)
        have f52 := f35.keep Kc49 (ninS ne31 nin0)
        have f53 := f36.keep Kc49 (ninS ne31 nin0)
        have f54 := f39.keep Kc49
        have f55 := f40.keep Kc49 (ninS ne32 nin0)
        have f56 := f41.keep Kc49 (ninS ne32 nin0)
        have f57 := f42.keep Kc49 (ninS ne32 nin0)
        have O49 := O30.keep Kc49 (allS gn30 all0)
        have Zs49 : n0 ≤ T49.heap.size := Nat.le_trans Zs30 Kc49.1
        refine own_by (V := T49.setTop (mkF m 147 #[.val (.long q0), .second, .val (.long q1), .second, .val (.long q2), .second, .val (.long q3), .second, .val (.long q4), .second, .val (.long q5), .second, .val (.int z1), .val (.long z2), .second, .val (.long z3), .second, .val (.long z5), .second, .val (.long sb2), .second, .val (.long pos2), .second, .val (.long off2), .second, .val (.ref b9), .val (.ref b14), .unset, .unset, .unset, .unset, .unset, .unset, .unset, .unset] [(.ref b30)])) (fun t k => st49.trans k) ?_
        refine own_by (V := T49.setTop (mkF m 149 #[.val (.long q0), .second, .val (.long q1), .second, .val (.long q2), .second, .val (.long q3), .second, .val (.long q4), .second, .val (.long q5), .second, .val (.int z1), .val (.long z2), .second, .val (.long z3), .second, .val (.long z5), .second, .val (.long sb2), .second, .val (.long pos2), .second, .val (.long off2), .second, .val (.ref b9), .val (.ref b14), .val (.ref b30), .unset, .unset, .unset, .unset, .unset, .unset, .unset] [])) (fun t k => XS.astore X49.here hx rfl (hb hby at_147) rfl rfl (l' := #[.val (.long q0), .second, .val (.long q1), .second, .val (.long q2), .second, .val (.long q3), .second, .val (.long q4), .second, .val (.long q5), .second, .val (.int z1), .val (.long z2), .second, .val (.long z3), .second, .val (.long z5), .second, .val (.long sb2), .second, .val (.long pos2), .second, .val (.long off2), .second, .val (.ref b9), .val (.ref b14), .val (.ref b30), .unset, .unset, .unset, .unset, .unset, .unset, .unset]) rfl k) ?_
        refine own_by (V := T49.setTop (mkF m 151 #[.val (.long q0), .second, .val (.long q1), .second, .val (.long q2), .second, .val (.long q3), .second, .val (.long q4), .second, .val (.long q5), .second, .val (.int z1), .val (.long z2), .second, .val (.long z3), .second, .val (.long z5), .second, .val (.long sb2), .second, .val (.long pos2), .second, .val (.long off2), .second, .val (.ref b9), .val (.ref b14), .val (.ref b30), .unset, .unset, .unset, .unset, .unset, .unset, .unset] [(.long z2)])) (fun t k => XS.lload X49.here hx rfl (hb hby at_149) rfl  k) ?_
        refine own_by (V := T49.setTop (mkF m 153 #[.val (.long q0), .second, .val (.long q1), .second, .val (.long q2), .second, .val (.long q3), .second, .val (.long q4), .second, .val (.long q5), .second, .val (.int z1), .val (.long z2), .second, .val (.long z3), .second, .val (.long z5), .second, .val (.long sb2), .second, .val (.long pos2), .second, .val (.long off2), .second, .val (.ref b9), .val (.ref b14), .val (.ref b30), .unset, .unset, .unset, .unset, .unset, .unset, .unset] [(.long sb2), (.long z2)])) (fun t k => XS.lload X49.here hx rfl (hb hby at_151) rfl  k) ?_
        refine own_by (V := T49.setTop (mkF m 154 #[.val (.long q0), .second, .val (.long q1), .second, .val (.long q2), .second, .val (.long q3), .second, .val (.long q4), .second, .val (.long q5), .second, .val (.int z1), .val (.long z2), .second, .val (.long z3), .second, .val (.long z5), .second, .val (.long sb2), .second, .val (.long pos2), .second, .val (.long off2), .second, .val (.ref b9), .val (.ref b14), .val (.ref b30), .unset, .unset, .unset, .unset, .unset, .unset, .unset] [(.int (lcmpW z2 sb2))])) (fun t k => XS.lcmp X49.here hx rfl (hb hby at_153) rfl k) ?_
        have J58 : ∀ (T58 : State) (l58 : List Loc) (v28 : Int32) (X58 : Stand p l e room_1 s m #[(.long q0), (.long q1), (.long q2), (.long q3), (.long q4), (.long q5)] below meth c T58 l58 3 9) (e58 : T58.heap = T49.heap) (N58 : Fr n0 l58) (hv28 : v28 = own_eqM z2 sb2 z3 pos2 z5 off2), own_Ends p e below s (own_Q_own_rm0 Z q0 q1 q2 q3 q4 q5 h0 n0) room_1.cells room_1.slots (T58.setTop (mkF m 178 #[.val (.long q0), .second, .val (.long q1), .second, .val (.long q2), .second, .val (.long q3), .second, .val (.long q4), .second, .val (.long q5), .second, .val (.int z1), .val (.long z2), .second, .val (.long z3), .second, .val (.long z5), .second, .val (.long sb2), .second, .val (.long pos2), .second, .val (.long off2), .second, .val (.ref b9), .val (.ref b14), .val (.ref b30), .unset, .unset, .unset, .unset, .unset, .unset, .unset] [(.int v28)])) := by
          intro T58 l58 v28 X58 e58 N58 hv28
          refine own_by (V := T58.setTop (mkF m 180 #[.val (.long q0), .second, .val (.long q1), .second, .val (.long q2), .second, .val (.long q3), .second, .val (.long q4), .second, .val (.long q5), .second, .val (.int z1), .val (.long z2), .second, .val (.long z3), .second, .val (.long z5), .second, .val (.long sb2), .second, .val (.long pos2), .second, .val (.long off2), .second, .val (.ref b9), .val (.ref b14), .val (.ref b30), .val (.int v28), .unset, .unset, .unset, .unset, .unset, .unset] [])) (fun t k => XS.istore X58.here hx rfl (hb hby at_178) rfl (l' := #[.val (.long q0), .second, .val (.long q1), .second, .val (.long q2), .second, .val (.long q3), .second, .val (.long q4), .second, .val (.long q5), .second, .val (.int z1), .val (.long z2), .second, .val (.long z3), .second, .val (.long z5), .second, .val (.long sb2), .second, .val (.long pos2), .second, .val (.long off2), .second, .val (.ref b9), .val (.ref b14), .val (.ref b30), .val (.int v28), .unset, .unset, .unset, .unset, .unset, .unset]) rfl k) ?_
          refine own_by (V := T58.setTop (mkF m 182 #[.val (.long q0), .second, .val (.long q1), .second, .val (.long q2), .second, .val (.long q3), .second, .val (.long q4), .second, .val (.long q5), .second, .val (.int z1), .val (.long z2), .second, .val (.long z3), .second, .val (.long z5), .second, .val (.long sb2), .second, .val (.long pos2), .second, .val (.long off2), .second, .val (.ref b9), .val (.ref b14), .val (.ref b30), .val (.int v28), .unset, .unset, .unset, .unset, .unset, .unset] [(.ref b9)])) (fun t k => XS.aload X58.here hx rfl (hb hby at_180) rfl rfl k) ?_
          refine own_by (V := T58.setTop (mkF m 184 #[.val (.long q0), .second, .val (.long q1), .second, .val (.long q2), .second, .val (.long q3), .second, .val (.long q4), .second, .val (.long q5), .second, .val (.int z1), .val (.long z2), .second, .val (.long z3), .second, .val (.long z5), .second, .val (.long sb2), .second, .val (.long pos2), .second, .val (.long off2), .second, .val (.ref b9), .val (.ref b14), .val (.ref b30), .val (.int v28), .unset, .unset, .unset, .unset, .unset, .unset] [(.ref b14), (.ref b9)])) (fun t k => XS.aload X58.here hx rfl (hb hby at_182) rfl rfl k) ?_
          obtain ⟨cq60, kq60, q60a, q60b, q60c⟩ := isOf hZ e58 f50
          obtain ⟨_, _, ⟨T59, Lq59, kq59, nq59⟩, -, X59, ⟨Lc59, hQ59, lq59, yq59, zq59⟩, st59⟩ := X58.virtualBack hx (y := (⟨"com/example/balcon/balcon/storage/Mark", "equals", "(Ljava/lang/Object;)Z"⟩ : MethodName)) (z := (⟨"com/example/balcon/balcon/storage/Mark", "equals", "(Ljava/lang/Object;)Z"⟩ : MethodName)) hown (mvT hZ (hw _ (List.mem_of_getElem? (i := 21) rfl))) (mvT hZ (hw _ (List.mem_of_getElem? (i := 22) rfl))) (notFace_of_selects (args := #[]) (mvT hZ (hw _ (List.mem_of_getElem? (i := 24) rfl)))) (mvT hZ (hw _ (List.mem_of_getElem? (i := 24) rfl))) (mvT hZ (hw _ (List.mem_of_getElem? (i := 23) rfl))) (by decide) (backOf (W := 0) (own_eqMark l Z a0 hw [] b9 b14 z2 sb2 z3 pos2 z5 off2 T49.heap n0 f51 f55 f52 f56 f53 f57 f54) hZ (hw _ (List.mem_of_getElem? (i := 25) rfl)) (hw _ (List.mem_of_getElem? (i := 8) rfl)) (by decide) (by decide)) q60a q60c (g := (mkF m 184 #[.val (.long q0), .second, .val (.long q1), .second, .val (.long q2), .second, .val (.long q3), .second, .val (.long q4), .second, .val (.long q5), .second, .val (.int z1), .val (.long z2), .second, .val (.long z3), .second, .val (.long z5), .second, .val (.long sb2), .second, .val (.long pos2), .second, .val (.long off2), .second, .val (.ref b9), .val (.ref b14), .val (.ref b30), .val (.int v28), .unset, .unset, .unset, .unset, .unset, .unset] [(.ref b14), (.ref b9)])) rfl (by rw [hml]; rfl) (Steps.refl _) (argsL := [(.ref b14)]) (rest := []) (lenOf own_pd4 rfl) rfl (by show 2 * 0 + _ ≤ _; exact Nat.le_of_eq rfl) (hb hby at_184) (fun _ _ => ⟨rfl, e58, (by decide : 3 + 0 ≤ _), (by decide : 9 + 0 ≤ _)⟩)
          dsimp only [Pt.U, Pt.locs, Pt.cells, Pt.slots] at X59 lq59 yq59 zq59 st59 hQ59
          subst lq59 yq59 zq59
          obtain ⟨rfl, N59q, e59⟩ := hQ59
          have N59 := Fr.app N58 N59q
          refine own_by (V := T59.setTop (mkF m 187 #[.val (.long q0), .second, .val (.long q1), .second, .val (.long q2), .second, .val (.long q3), .second, .val (.long q4), .second, .val (.long q5), .second, .val (.int z1), .val (.long z2), .second, .val (.long z3), .second, .val (.long z5), .second, .val (.long sb2), .second, .val (.long pos2), .second, .val (.long off2), .second, .val (.ref b9), .val (.ref b14), .val (.ref b30), .val (.int v28), .unset, .unset, .unset, .unset, .unset, .unset] [(.int (own_eqM z2 sb2 z3 pos2 z5 off2))])) (fun t k => st59.trans k) ?_
          refine own_by (V := T59.setTop (mkF m 189 #[.val (.long q0), .second, .val (.long q1), .second, .val (.long q2), .second, .val (.long q3), .second, .val (.long q4), .second, .val (.long q5), .second, .val (.int z1), .val (.long z2), .second, .val (.long z3), .second, .val (.long z5), .second, .val (.long sb2), .second, .val (.long pos2), .second, .val (.long off2), .second, .val (.ref b9), .val (.ref b14), .val (.ref b30), .val (.int v28), .val (.int (own_eqM z2 sb2 z3 pos2 z5 off2)), .unset, .unset, .unset, .unset, .unset] [])) (fun t k => XS.istore X59.here hx rfl (hb hby at_187) rfl (l' := #[.val (.long q0), .second, .val (.long q1), .second, .val (.long q2), .second, .val (.long q3), .second, .val (.long q4), .second, .val (.long q5), .second, .val (.int z1), .val (.long z2), .second, .val (.long z3), .second, .val (.long z5), .second, .val (.long sb2), .second, .val (.long pos2), .second, .val (.long off2), .second, .val (.ref b9), .val (.ref b14), .val (.ref b30), .val (.int v28), .val (.int (own_eqM z2 sb2 z3 pos2 z5 off2)), .unset, .unset, .unset, .unset, .unset]) rfl k) ?_
          refine own_by (V := T59.setTop (mkF m 191 #[.val (.long q0), .second, .val (.long q1), .second, .val (.long q2), .second, .val (.long q3), .second, .val (.long q4), .second, .val (.long q5), .second, .val (.int z1), .val (.long z2), .second, .val (.long z3), .second, .val (.long z5), .second, .val (.long sb2), .second, .val (.long pos2), .second, .val (.long off2), .second, .val (.ref b9), .val (.ref b14), .val (.ref b30), .val (.int v28), .val (.int (own_eqM z2 sb2 z3 pos2 z5 off2)), .unset, .unset, .unset, .unset, .unset] [(.ref b14)])) (fun t k => XS.aload X59.here hx rfl (hb hby at_189) rfl rfl k) ?_
          refine own_by (V := T59.setTop (mkF m 193 #[.val (.long q0), .second, .val (.long q1), .second, .val (.long q2), .second, .val (.long q3), .second, .val (.long q4), .second, .val (.long q5), .second, .val (.int z1), .val (.long z2), .second, .val (.long z3), .second, .val (.long z5), .second, .val (.long sb2), .second, .val (.long pos2), .second, .val (.long off2), .second, .val (.ref b9), .val (.ref b14), .val (.ref b30), .val (.int v28), .val (.int (own_eqM z2 sb2 z3 pos2 z5 off2)), .unset, .unset, .unset, .unset, .unset] [(.ref b9), (.ref b14)])) (fun t k => XS.aload X59.here hx rfl (hb hby at_191) rfl rfl k) ?_
          obtain ⟨cq62, kq62, q62a, q62b, q62c⟩ := isOf hZ e59 f54
          obtain ⟨_, _, ⟨T61, Lq61, kq61, nq61⟩, -, X61, ⟨Lc61, hQ61, lq61, yq61, zq61⟩, st61⟩ := X59.virtualBack hx (y := (⟨"com/example/balcon/balcon/storage/Mark", "equals", "(Ljava/lang/Object;)Z"⟩ : MethodName)) (z := (⟨"com/example/balcon/balcon/storage/Mark", "equals", "(Ljava/lang/Object;)Z"⟩ : MethodName)) hown (mvT hZ (hw _ (List.mem_of_getElem? (i := 21) rfl))) (mvT hZ (hw _ (List.mem_of_getElem? (i := 22) rfl))) (notFace_of_selects (args := #[]) (mvT hZ (hw _ (List.mem_of_getElem? (i := 24) rfl)))) (mvT hZ (hw _ (List.mem_of_getElem? (i := 24) rfl))) (mvT hZ (hw _ (List.mem_of_getElem? (i := 23) rfl))) (by decide) (backOf (W := 0) (own_eqMark l Z a0 hw [] b14 b9 sb2 z2 pos2 z3 off2 z5 T49.heap n0 f55 f51 f56 f52 f57 f53 f50) hZ (hw _ (List.mem_of_getElem? (i := 25) rfl)) (hw _ (List.mem_of_getElem? (i := 8) rfl)) (by decide) (by decide)) q62a q62c (g := (mkF m 193 #[.val (.long q0), .second, .val (.long q1), .second, .val (.long q2), .second, .val (.long q3), .second, .val (.long q4), .second, .val (.long q5), .second, .val (.int z1), .val (.long z2), .second, .val (.long z3), .second, .val (.long z5), .second, .val (.long sb2), .second, .val (.long pos2), .second, .val (.long off2), .second, .val (.ref b9), .val (.ref b14), .val (.ref b30), .val (.int v28), .val (.int (own_eqM z2 sb2 z3 pos2 z5 off2)), .unset, .unset, .unset, .unset, .unset] [(.ref b9), (.ref b14)])) rfl (by rw [hml]; rfl) (Steps.refl _) (argsL := [(.ref b9)]) (rest := []) (lenOf own_pd4 rfl) rfl (by show 2 * 0 + _ ≤ _; exact Nat.le_of_eq rfl) (hb hby at_193) (fun _ _ => ⟨rfl, e59, (by decide : 3 + 0 ≤ _), (by decide : 9 + 0 ≤ _)⟩)
          dsimp only [Pt.U, Pt.locs, Pt.cells, Pt.slots] at X61 lq61 yq61 zq61 st61 hQ61
          subst lq61 yq61 zq61
          obtain ⟨rfl, N61q, e61⟩ := hQ61
          have N61 := Fr.app N59 N61q
          refine own_by (V := T61.setTop (mkF m 196 #[.val (.long q0), .second, .val (.long q1), .second, .val (.long q2), .second, .val (.long q3), .second, .val (.long q4), .second, .val (.long q5), .second, .val (.int z1), .val (.long z2), .second, .val (.long z3), .second, .val (.long z5), .second, .val (.long sb2), .second, .val (.long pos2), .second, .val (.long off2), .second, .val (.ref b9), .val (.ref b14), .val (.ref b30), .val (.int v28), .val (.int (own_eqM z2 sb2 z3 pos2 z5 off2)), .unset, .unset, .unset, .unset, .unset] [(.int (own_eqM sb2 z2 pos2 z3 off2 z5))])) (fun t k => st61.trans k) ?_
          refine own_by (V := T61.setTop (mkF m 198 #[.val (.long q0), .second, .val (.long q1), .second, .val (.long q2), .second, .val (.long q3), .second, .val (.long q4), .second, .val (.long q5), .second, .val (.int z1), .val (.long z2), .second, .val (.long z3), .second, .val (.long z5), .second, .val (.long sb2), .second, .val (.long pos2), .second, .val (.long off2), .second, .val (.ref b9), .val (.ref b14), .val (.ref b30), .val (.int v28), .val (.int (own_eqM z2 sb2 z3 pos2 z5 off2)), .val (.int (own_eqM sb2 z2 pos2 z3 off2 z5)), .unset, .unset, .unset, .unset] [])) (fun t k => XS.istore X61.here hx rfl (hb hby at_196) rfl (l' := #[.val (.long q0), .second, .val (.long q1), .second, .val (.long q2), .second, .val (.long q3), .second, .val (.long q4), .second, .val (.long q5), .second, .val (.int z1), .val (.long z2), .second, .val (.long z3), .second, .val (.long z5), .second, .val (.long sb2), .second, .val (.long pos2), .second, .val (.long off2), .second, .val (.ref b9), .val (.ref b14), .val (.ref b30), .val (.int v28), .val (.int (own_eqM z2 sb2 z3 pos2 z5 off2)), .val (.int (own_eqM sb2 z2 pos2 z3 off2 z5)), .unset, .unset, .unset, .unset]) rfl k) ?_
          refine own_by (V := T61.setTop (mkF m 200 #[.val (.long q0), .second, .val (.long q1), .second, .val (.long q2), .second, .val (.long q3), .second, .val (.long q4), .second, .val (.long q5), .second, .val (.int z1), .val (.long z2), .second, .val (.long z3), .second, .val (.long z5), .second, .val (.long sb2), .second, .val (.long pos2), .second, .val (.long off2), .second, .val (.ref b9), .val (.ref b14), .val (.ref b30), .val (.int v28), .val (.int (own_eqM z2 sb2 z3 pos2 z5 off2)), .val (.int (own_eqM sb2 z2 pos2 z3 off2 z5)), .unset, .unset, .unset, .unset] [(.ref b9)])) (fun t k => XS.aload X61.here hx rfl (hb hby at_198) rfl rfl k) ?_
          refine own_by (V := T61.setTop (mkF m 202 #[.val (.long q0), .second, .val (.long q1), .second, .val (.long q2), .second, .val (.long q3), .second, .val (.long q4), .second, .val (.long q5), .second, .val (.int z1), .val (.long z2), .second, .val (.long z3), .second, .val (.long z5), .second, .val (.long sb2), .second, .val (.long pos2), .second, .val (.long off2), .second, .val (.ref b9), .val (.ref b14), .val (.ref b30), .val (.int v28), .val (.int (own_eqM z2 sb2 z3 pos2 z5 off2)), .val (.int (own_eqM sb2 z2 pos2 z3 off2 z5)), .unset, .unset, .unset, .unset] [(.ref b9), (.ref b9)])) (fun t k => XS.aload X61.here hx rfl (hb hby at_200) rfl rfl k) ?_
          obtain ⟨cq64, kq64, q64a, q64b, q64c⟩ := isOf hZ e61 f50
          obtain ⟨_, _, ⟨T63, Lq63, kq63, nq63⟩, -, X63, ⟨Lc63, hQ63, lq63, yq63, zq63⟩, st63⟩ := X61.virtualBack hx (y := (⟨"com/example/balcon/balcon/storage/Mark", "equals", "(Ljava/lang/Object;)Z"⟩ : MethodName)) (z := (⟨"com/example/balcon/balcon/storage/Mark", "equals", "(Ljava/lang/Object;)Z"⟩ : MethodName)) hown (mvT hZ (hw _ (List.mem_of_getElem? (i := 21) rfl))) (mvT hZ (hw _ (List.mem_of_getElem? (i := 22) rfl))) (notFace_of_selects (args := #[]) (mvT hZ (hw _ (List.mem_of_getElem? (i := 24) rfl)))) (mvT hZ (hw _ (List.mem_of_getElem? (i := 24) rfl))) (mvT hZ (hw _ (List.mem_of_getElem? (i := 23) rfl))) (by decide) (backOf (W := 0) (own_eqMark l Z a0 hw [] b9 b9 z2 z2 z3 z3 z5 z5 T49.heap n0 f51 f51 f52 f52 f53 f53 f50) hZ (hw _ (List.mem_of_getElem? (i := 25) rfl)) (hw _ (List.mem_of_getElem? (i := 8) rfl)) (by decide) (by decide)) q64a q64c (g := (mkF m 202 #[.val (.long q0), .second, .val (.long q1), .second, .val (.long q2), .second, .val (.long q3), .second, .val (.long q4), .second, .val (.long q5), .second, .val (.int z1), .val (.long z2), .second, .val (.long z3), .second, .val (.long z5), .second, .val (.long sb2), .second, .val (.long pos2), .second, .val (.long off2), .second, .val (.ref b9), .val (.ref b14), .val (.ref b30), .val (.int v28), .val (.int (own_eqM z2 sb2 z3 pos2 z5 off2)), .val (.int (own_eqM sb2 z2 pos2 z3 off2 z5)), .unset, .unset, .unset, .unset] [(.ref b9), (.ref b9)])) rfl (by rw [hml]; rfl) (Steps.refl _) (argsL := [(.ref b9)]) (rest := []) (lenOf own_pd4 rfl) rfl (by show 2 * 0 + _ ≤ _; exact Nat.le_of_eq rfl) (hb hby at_202) (fun _ _ => ⟨rfl, e61, (by decide : 3 + 0 ≤ _), (by decide : 9 + 0 ≤ _)⟩)
          dsimp only [Pt.U, Pt.locs, Pt.cells, Pt.slots] at X63 lq63 yq63 zq63 st63 hQ63
          subst lq63 yq63 zq63
          obtain ⟨rfl, N63q, e63⟩ := hQ63
          have N63 := Fr.app N61 N63q
          refine own_by (V := T63.setTop (mkF m 205 #[.val (.long q0), .second, .val (.long q1), .second, .val (.long q2), .second, .val (.long q3), .second, .val (.long q4), .second, .val (.long q5), .second, .val (.int z1), .val (.long z2), .second, .val (.long z3), .second, .val (.long z5), .second, .val (.long sb2), .second, .val (.long pos2), .second, .val (.long off2), .second, .val (.ref b9), .val (.ref b14), .val (.ref b30), .val (.int v28), .val (.int (own_eqM z2 sb2 z3 pos2 z5 off2)), .val (.int (own_eqM sb2 z2 pos2 z3 off2 z5)), .unset, .unset, .unset, .unset] [(.int (own_eqM z2 z2 z3 z3 z5 z5))])) (fun t k => st63.trans k) ?_
          refine own_by (V := T63.setTop (mkF m 207 #[.val (.long q0), .second, .val (.long q1), .second, .val (.long q2), .second, .val (.long q3), .second, .val (.long q4), .second, .val (.long q5), .second, .val (.int z1), .val (.long z2), .second, .val (.long z3), .second, .val (.long z5), .second, .val (.long sb2), .second, .val (.long pos2), .second, .val (.long off2), .second, .val (.ref b9), .val (.ref b14), .val (.ref b30), .val (.int v28), .val (.int (own_eqM z2 sb2 z3 pos2 z5 off2)), .val (.int (own_eqM sb2 z2 pos2 z3 off2 z5)), .val (.int (own_eqM z2 z2 z3 z3 z5 z5)), .unset, .unset, .unset] [])) (fun t k => XS.istore X63.here hx rfl (hb hby at_205) rfl (l' := #[.val (.long q0), .second, .val (.long q1), .second, .val (.long q2), .second, .val (.long q3), .second, .val (.long q4), .second, .val (.long q5), .second, .val (.int z1), .val (.long z2), .second, .val (.long z3), .second, .val (.long z5), .second, .val (.long sb2), .second, .val (.long pos2), .second, .val (.long off2), .second, .val (.ref b9), .val (.ref b14), .val (.ref b30), .val (.int v28), .val (.int (own_eqM z2 sb2 z3 pos2 z5 off2)), .val (.int (own_eqM sb2 z2 pos2 z3 off2 z5)), .val (.int (own_eqM z2 z2 z3 z3 z5 z5)), .unset, .unset, .unset]) rfl k) ?_
          refine own_by (V := T63.setTop (mkF m 209 #[.val (.long q0), .second, .val (.long q1), .second, .val (.long q2), .second, .val (.long q3), .second, .val (.long q4), .second, .val (.long q5), .second, .val (.int z1), .val (.long z2), .second, .val (.long z3), .second, .val (.long z5), .second, .val (.long sb2), .second, .val (.long pos2), .second, .val (.long off2), .second, .val (.ref b9), .val (.ref b14), .val (.ref b30), .val (.int v28), .val (.int (own_eqM z2 sb2 z3 pos2 z5 off2)), .val (.int (own_eqM sb2 z2 pos2 z3 off2 z5)), .val (.int (own_eqM z2 z2 z3 z3 z5 z5)), .unset, .unset, .unset] [(.ref b9)])) (fun t k => XS.aload X63.here hx rfl (hb hby at_207) rfl rfl k) ?_
          refine own_by (V := T63.setTop (mkF m 211 #[.val (.long q0), .second, .val (.long q1), .second, .val (.long q2), .second, .val (.long q3), .second, .val (.long q4), .second, .val (.long q5), .second, .val (.int z1), .val (.long z2), .second, .val (.long z3), .second, .val (.long z5), .second, .val (.long sb2), .second, .val (.long pos2), .second, .val (.long off2), .second, .val (.ref b9), .val (.ref b14), .val (.ref b30), .val (.int v28), .val (.int (own_eqM z2 sb2 z3 pos2 z5 off2)), .val (.int (own_eqM sb2 z2 pos2 z3 off2 z5)), .val (.int (own_eqM z2 z2 z3 z3 z5 z5)), .unset, .unset, .unset] [(.ref b30), (.ref b9)])) (fun t k => XS.aload X63.here hx rfl (hb hby at_209) rfl rfl k) ?_
          obtain ⟨cq66, kq66, q66a, q66b, q66c⟩ := isOf hZ e63 f50
          obtain ⟨_, _, ⟨T65, Lq65, kq65, nq65⟩, -, X65, ⟨Lc65, hQ65, lq65, yq65, zq65⟩, st65⟩ := X63.virtualBack hx (y := (⟨"com/example/balcon/balcon/storage/Mark", "equals", "(Ljava/lang/Object;)Z"⟩ : MethodName)) (z := (⟨"com/example/balcon/balcon/storage/Mark", "equals", "(Ljava/lang/Object;)Z"⟩ : MethodName)) hown (mvT hZ (hw _ (List.mem_of_getElem? (i := 21) rfl))) (mvT hZ (hw _ (List.mem_of_getElem? (i := 22) rfl))) (notFace_of_selects (args := #[]) (mvT hZ (hw _ (List.mem_of_getElem? (i := 24) rfl)))) (mvT hZ (hw _ (List.mem_of_getElem? (i := 24) rfl))) (mvT hZ (hw _ (List.mem_of_getElem? (i := 23) rfl))) (by decide) (backOf (W := 0) (own_eqMark l Z a0 hw [] b9 b30 z2 z2 z3 z3 z5 z5 T49.heap n0 f51 g49_0 f52 g49_1 f53 g49_2 Ec49) hZ (hw _ (List.mem_of_getElem? (i := 25) rfl)) (hw _ (List.mem_of_getElem? (i := 8) rfl)) (by decide) (by decide)) q66a q66c (g := (mkF m 211 #[.val (.long q0), .second, .val (.long q1), .second, .val (.long q2), .second, .val (.long q3), .second, .val (.long q4), .second, .val (.long q5), .second, .val (.int z1), .val (.long z2), .second, .val (.long z3), .second, .val (.long z5), .second, .val (.long sb2), .second, .val (.long pos2), .second, .val (.long off2), .second, .val (.ref b9), .val (.ref b14), .val (.ref b30), .val (.int v28), .val (.int (own_eqM z2 sb2 z3 pos2 z5 off2)), .val (.int (own_eqM sb2 z2 pos2 z3 off2 z5)), .val (.int (own_eqM z2 z2 z3 z3 z5 z5)), .unset, .unset, .unset] [(.ref b30), (.ref b9)])) rfl (by rw [hml]; rfl) (Steps.refl _) (argsL := [(.ref b30)]) (rest := []) (lenOf own_pd4 rfl) rfl (by show 2 * 0 + _ ≤ _; exact Nat.le_of_eq rfl) (hb hby at_211) (fun _ _ => ⟨rfl, e63, (by decide : 3 + 0 ≤ _), (by decide : 9 + 0 ≤ _)⟩)
          dsimp only [Pt.U, Pt.locs, Pt.cells, Pt.slots] at X65 lq65 yq65 zq65 st65 hQ65
          subst lq65 yq65 zq65
          obtain ⟨rfl, N65q, e65⟩ := hQ65
          have N65 := Fr.app N63 N65q
          refine own_by (V := T65.setTop (mkF m 214 #[.val (.long q0), .second, .val (.long q1), .second, .val (.long q2), .second, .val (.long q3), .second, .val (.long q4), .second, .val (.long q5), .second, .val (.int z1), .val (.long z2), .second, .val (.long z3), .second, .val (.long z5), .second, .val (.long sb2), .second, .val (.long pos2), .second, .val (.long off2), .second, .val (.ref b9), .val (.ref b14), .val (.ref b30), .val (.int v28), .val (.int (own_eqM z2 sb2 z3 pos2 z5 off2)), .val (.int (own_eqM sb2 z2 pos2 z3 off2 z5)), .val (.int (own_eqM z2 z2 z3 z3 z5 z5)), .unset, .unset, .unset] [(.int (own_eqM z2 z2 z3 z3 z5 z5))])) (fun t k => st65.trans k) ?_
          refine own_by (V := T65.setTop (mkF m 216 #[.val (.long q0), .second, .val (.long q1), .second, .val (.long q2), .second, .val (.long q3), .second, .val (.long q4), .second, .val (.long q5), .second, .val (.int z1), .val (.long z2), .second, .val (.long z3), .second, .val (.long z5), .second, .val (.long sb2), .second, .val (.long pos2), .second, .val (.long off2), .second, .val (.ref b9), .val (.ref b14), .val (.ref b30), .val (.int v28), .val (.int (own_eqM z2 sb2 z3 pos2 z5 off2)), .val (.int (own_eqM sb2 z2 pos2 z3 off2 z5)), .val (.int (own_eqM z2 z2 z3 z3 z5 z5)), .val (.int (own_eqM z2 z2 z3 z3 z5 z5)), .unset, .unset] [])) (fun t k => XS.istore X65.here hx rfl (hb hby at_214) rfl (l' := #[.val (.long q0), .second, .val (.long q1), .second, .val (.long q2), .second, .val (.long q3), .second, .val (.long q4), .second, .val (.long q5), .second, .val (.int z1), .val (.long z2), .second, .val (.long z3), .second, .val (.long z5), .second, .val (.long sb2), .second, .val (.long pos2), .second, .val (.long off2), .second, .val (.ref b9), .val (.ref b14), .val (.ref b30), .val (.int v28), .val (.int (own_eqM z2 sb2 z3 pos2 z5 off2)), .val (.int (own_eqM sb2 z2 pos2 z3 off2 z5)), .val (.int (own_eqM z2 z2 z3 z3 z5 z5)), .val (.int (own_eqM z2 z2 z3 z3 z5 z5)), .unset, .unset]) rfl k) ?_
          refine own_by (V := T65.setTop (mkF m 218 #[.val (.long q0), .second, .val (.long q1), .second, .val (.long q2), .second, .val (.long q3), .second, .val (.long q4), .second, .val (.long q5), .second, .val (.int z1), .val (.long z2), .second, .val (.long z3), .second, .val (.long z5), .second, .val (.long sb2), .second, .val (.long pos2), .second, .val (.long off2), .second, .val (.ref b9), .val (.ref b14), .val (.ref b30), .val (.int v28), .val (.int (own_eqM z2 sb2 z3 pos2 z5 off2)), .val (.int (own_eqM sb2 z2 pos2 z3 off2 z5)), .val (.int (own_eqM z2 z2 z3 z3 z5 z5)), .val (.int (own_eqM z2 z2 z3 z3 z5 z5)), .unset, .unset] [(.ref b9)])) (fun t k => XS.aload X65.here hx rfl (hb hby at_216) rfl rfl k) ?_
          refine own_by (V := T65.setTop (mkF m 219 #[.val (.long q0), .second, .val (.long q1), .second, .val (.long q2), .second, .val (.long q3), .second, .val (.long q4), .second, .val (.long q5), .second, .val (.int z1), .val (.long z2), .second, .val (.long z3), .second, .val (.long z5), .second, .val (.long sb2), .second, .val (.long pos2), .second, .val (.long off2), .second, .val (.ref b9), .val (.ref b14), .val (.ref b30), .val (.int v28), .val (.int (own_eqM z2 sb2 z3 pos2 z5 off2)), .val (.int (own_eqM sb2 z2 pos2 z3 off2 z5)), .val (.int (own_eqM z2 z2 z3 z3 z5 z5)), .val (.int (own_eqM z2 z2 z3 z3 z5 z5)), .unset, .unset] [.null, (.ref b9)])) (fun t k => XS.aconstNull X65.here hx rfl (hb hby at_218) k) ?_
          obtain ⟨cq68, kq68, q68a, q68b, q68c⟩ := isOf hZ e65 f50
          obtain ⟨_, _, ⟨T67, Lq67, kq67, nq67⟩, -, X67, ⟨Lc67, hQ67, lq67, yq67, zq67⟩, st67⟩ := X65.virtualBack hx (y := (⟨"com/example/balcon/balcon/storage/Mark", "equals", "(Ljava/lang/Object;)Z"⟩ : MethodName)) (z := (⟨"com/example/balcon/balcon/storage/Mark", "equals", "(Ljava/lang/Object;)Z"⟩ : MethodName)) hown (mvT hZ (hw _ (List.mem_of_getElem? (i := 21) rfl))) (mvT hZ (hw _ (List.mem_of_getElem? (i := 22) rfl))) (notFace_of_selects (args := #[]) (mvT hZ (hw _ (List.mem_of_getElem? (i := 24) rfl)))) (mvT hZ (hw _ (List.mem_of_getElem? (i := 24) rfl))) (mvT hZ (hw _ (List.mem_of_getElem? (i := 23) rfl))) (by decide) (backOf (W := 0) (own_eqNull l Z a0 hw [] b9 T49.heap n0 ) hZ (hw _ (List.mem_of_getElem? (i := 25) rfl)) (hw _ (List.mem_of_getElem? (i := 8) rfl)) (by decide) (by decide)) q68a q68c (g := (mkF m 219 #[.val (.long q0), .second, .val (.long q1), .second, .val (.long q2), .second, .val (.long q3), .second, .val (.long q4), .second, .val (.long q5), .second, .val (.int z1), .val (.long z2), .second, .val (.long z3), .second, .val (.long z5), .second, .val (.long sb2), .second, .val (.long pos2), .second, .val (.long off2), .second, .val (.ref b9), .val (.ref b14), .val (.ref b30), .val (.int v28), .val (.int (own_eqM z2 sb2 z3 pos2 z5 off2)), .val (.int (own_eqM sb2 z2 pos2 z3 off2 z5)), .val (.int (own_eqM z2 z2 z3 z3 z5 z5)), .val (.int (own_eqM z2 z2 z3 z3 z5 z5)), .unset, .unset] [.null, (.ref b9)])) rfl (by rw [hml]; rfl) (Steps.refl _) (argsL := [.null]) (rest := []) (lenOf own_pd4 rfl) rfl (by show 2 * 0 + _ ≤ _; exact Nat.le_of_eq rfl) (hb hby at_219) (fun _ _ => ⟨rfl, e65, (by decide : 3 + 0 ≤ _), (by decide : 9 + 0 ≤ _)⟩)
          dsimp only [Pt.U, Pt.locs, Pt.cells, Pt.slots] at X67 lq67 yq67 zq67 st67 hQ67
          subst lq67 yq67 zq67
          obtain ⟨rfl, N67q, e67⟩ := hQ67
          have N67 := Fr.app N65 N67q
          refine own_by (V := T67.setTop (mkF m 222 #[.val (.long q0), .second, .val (.long q1), .second, .val (.long q2), .second, .val (.long q3), .second, .val (.long q4), .second, .val (.long q5), .second, .val (.int z1), .val (.long z2), .second, .val (.long z3), .second, .val (.long z5), .second, .val (.long sb2), .second, .val (.long pos2), .second, .val (.long off2), .second, .val (.ref b9), .val (.ref b14), .val (.ref b30), .val (.int v28), .val (.int (own_eqM z2 sb2 z3 pos2 z5 off2)), .val (.int (own_eqM sb2 z2 pos2 z3 off2 z5)), .val (.int (own_eqM z2 z2 z3 z3 z5 z5)), .val (.int (own_eqM z2 z2 z3 z3 z5 z5)), .unset, .unset] [(.int (0 : Int32))])) (fun t k => st67.trans k) ?_
          refine own_by (V := T67.setTop (mkF m 224 #[.val (.long q0), .second, .val (.long q1), .second, .val (.long q2), .second, .val (.long q3), .second, .val (.long q4), .second, .val (.long q5), .second, .val (.int z1), .val (.long z2), .second, .val (.long z3), .second, .val (.long z5), .second, .val (.long sb2), .second, .val (.long pos2), .second, .val (.long off2), .second, .val (.ref b9), .val (.ref b14), .val (.ref b30), .val (.int v28), .val (.int (own_eqM z2 sb2 z3 pos2 z5 off2)), .val (.int (own_eqM sb2 z2 pos2 z3 off2 z5)), .val (.int (own_eqM z2 z2 z3 z3 z5 z5)), .val (.int (own_eqM z2 z2 z3 z3 z5 z5)), .val (.int (0 : Int32)), .unset] [])) (fun t k => XS.istore X67.here hx rfl (hb hby at_222) rfl (l' := #[.val (.long q0), .second, .val (.long q1), .second, .val (.long q2), .second, .val (.long q3), .second, .val (.long q4), .second, .val (.long q5), .second, .val (.int z1), .val (.long z2), .second, .val (.long z3), .second, .val (.long z5), .second, .val (.long sb2), .second, .val (.long pos2), .second, .val (.long off2), .second, .val (.ref b9), .val (.ref b14), .val (.ref b30), .val (.int v28), .val (.int (own_eqM z2 sb2 z3 pos2 z5 off2)), .val (.int (own_eqM sb2 z2 pos2 z3 off2 z5)), .val (.int (own_eqM z2 z2 z3 z3 z5 z5)), .val (.int (own_eqM z2 z2 z3 z3 z5 z5)), .val (.int (0 : Int32)), .unset]) rfl k) ?_
          refine own_by (V := T67.setTop (mkF m 226 #[.val (.long q0), .second, .val (.long q1), .second, .val (.long q2), .second, .val (.long q3), .second, .val (.long q4), .second, .val (.long q5), .second, .val (.int z1), .val (.long z2), .second, .val (.long z3), .second, .val (.long z5), .second, .val (.long sb2), .second, .val (.long pos2), .second, .val (.long off2), .second, .val (.ref b9), .val (.ref b14), .val (.ref b30), .val (.int v28), .val (.int (own_eqM z2 sb2 z3 pos2 z5 off2)), .val (.int (own_eqM sb2 z2 pos2 z3 off2 z5)), .val (.int (own_eqM z2 z2 z3 z3 z5 z5)), .val (.int (own_eqM z2 z2 z3 z3 z5 z5)), .val (.int (0 : Int32)), .unset] [(.ref b9)])) (fun t k => XS.aload X67.here hx rfl (hb hby at_224) rfl rfl k) ?_
          refine own_by (V := T67.setTop (mkF m 228 #[.val (.long q0), .second, .val (.long q1), .second, .val (.long q2), .second, .val (.long q3), .second, .val (.long q4), .second, .val (.long q5), .second, .val (.int z1), .val (.long z2), .second, .val (.long z3), .second, .val (.long z5), .second, .val (.long sb2), .second, .val (.long pos2), .second, .val (.long off2), .second, .val (.ref b9), .val (.ref b14), .val (.ref b30), .val (.int v28), .val (.int (own_eqM z2 sb2 z3 pos2 z5 off2)), .val (.int (own_eqM sb2 z2 pos2 z3 off2 z5)), .val (.int (own_eqM z2 z2 z3 z3 z5 z5)), .val (.int (own_eqM z2 z2 z3 z3 z5 z5)), .val (.int (0 : Int32)), .unset] [(.long z5), (.ref b9)])) (fun t k => XS.lload X67.here hx rfl (hb hby at_226) rfl  k) ?_
          obtain ⟨_, _, ⟨T69, Lq69, kq69, nq69⟩, -, X69, ⟨Lc69, hQ69, lq69, yq69, zq69⟩, st69⟩ := Jvm.LawKit.callS X67 hx (y := (⟨"java/lang/Long", "valueOf", "(J)Ljava/lang/Long;"⟩ : MethodName)) hown (mvT hZ (hw _ (List.mem_of_getElem? (i := 28) rfl))) (mvT hZ (hw _ (List.mem_of_getElem? (i := 29) rfl))) (mvT hZ (hw _ (List.mem_of_getElem? (i := 30) rfl))) (mvT hZ (hw _ (List.mem_of_getElem? (i := 31) rfl))) (by decide) (backOf (W := 1) (own_valueOf l Z a0 hw [] z5 wc clc T49.heap n0 Zs49 (SC.ext O49.2) (AC.ext O49.2) hsz (fun j hj => by obtain ⟨b, q1, q2⟩ := hel j hj; exact ⟨b, q1, q2.ext O49.2⟩)) hZ (hw _ (List.mem_of_getElem? (i := 31) rfl)) (hw _ (List.mem_of_getElem? (i := 30) rfl)) (by decide) (by decide)) (g := (mkF m 228 #[.val (.long q0), .second, .val (.long q1), .second, .val (.long q2), .second, .val (.long q3), .second, .val (.long q4), .second, .val (.long q5), .second, .val (.int z1), .val (.long z2), .second, .val (.long z3), .second, .val (.long z5), .second, .val (.long sb2), .second, .val (.long pos2), .second, .val (.long off2), .second, .val (.ref b9), .val (.ref b14), .val (.ref b30), .val (.int v28), .val (.int (own_eqM z2 sb2 z3 pos2 z5 off2)), .val (.int (own_eqM sb2 z2 pos2 z3 off2 z5)), .val (.int (own_eqM z2 z2 z3 z3 z5 z5)), .val (.int (own_eqM z2 z2 z3 z3 z5 z5)), .val (.int (0 : Int32)), .unset] [(.long z5), (.ref b9)])) rfl (by rw [hml]; rfl) (argsL := [(.long z5)]) (rest := [(.ref b9)]) (lenOf own_pd5 rfl) rfl (by show 2 * 0 + _ ≤ _; exact Nat.le_of_eq rfl) (hb hby at_228) (fun _ _ => ⟨rfl, e67, (by decide : 3 + 1 ≤ _), (by decide : 9 + 1 ≤ _)⟩)
          dsimp only [Pt.U, Pt.locs, Pt.cells, Pt.slots] at X69 lq69 yq69 zq69 st69 hQ69
          subst lq69 yq69 zq69
          obtain ⟨r69, rfl, N69q, Kc69, Ec69⟩ := hQ69
          have N69 := Fr.app N67 N69q
          have f70 := f50.keep Kc69
          have f71 := f51.keep Kc69 nin0
          have f72 := f52.keep Kc69 nin0
          have f73 := f53.keep Kc69 nin0
          have f74 := f54.keep Kc69
          have f75 := f55.keep Kc69 nin0
          have f76 := f56.keep Kc69 nin0
          have f77 := f57.keep Kc69 nin0
          have f78 := Ec49.keep Kc69
          have f79 := g49_0.keep Kc69 nin0
          have f80 := g49_1.keep Kc69 nin0
          have f81 := g49_2.keep Kc69 nin0
          have O69 := O49.keep Kc69 all0
          have Zs69 : n0 ≤ T69.heap.size := Nat.le_trans Zs49 Kc69.1
          refine own_by (V := T69.setTop (mkF m 231 #[.val (.long q0), .second, .val (.long q1), .second, .val (.long q2), .second, .val (.long q3), .second, .val (.long q4), .second, .val (.long q5), .second, .val (.int z1), .val (.long z2), .second, .val (.long z3), .second, .val (.long z5), .second, .val (.long sb2), .second, .val (.long pos2), .second, .val (.long off2), .second, .val (.ref b9), .val (.ref b14), .val (.ref b30), .val (.int v28), .val (.int (own_eqM z2 sb2 z3 pos2 z5 off2)), .val (.int (own_eqM sb2 z2 pos2 z3 off2 z5)), .val (.int (own_eqM z2 z2 z3 z3 z5 z5)), .val (.int (own_eqM z2 z2 z3 z3 z5 z5)), .val (.int (0 : Int32)), .unset] [(.ref r69), (.ref b9)])) st69 ?_
          obtain ⟨cq83, kq83, q83a, q83b, q83c⟩ := isOf hZ rfl f70
          obtain ⟨_, _, ⟨T82, Lq82, kq82, nq82⟩, -, X82, ⟨Lc82, hQ82, lq82, yq82, zq82⟩, st82⟩ := X69.virtualBack hx (y := (⟨"com/example/balcon/balcon/storage/Mark", "equals", "(Ljava/lang/Object;)Z"⟩ : MethodName)) (z := (⟨"com/example/balcon/balcon/storage/Mark", "equals", "(Ljava/lang/Object;)Z"⟩ : MethodName)) hown (mvT hZ (hw _ (List.mem_of_getElem? (i := 21) rfl))) (mvT hZ (hw _ (List.mem_of_getElem? (i := 22) rfl))) (notFace_of_selects (args := #[]) (mvT hZ (hw _ (List.mem_of_getElem? (i := 24) rfl)))) (mvT hZ (hw _ (List.mem_of_getElem? (i := 24) rfl))) (mvT hZ (hw _ (List.mem_of_getElem? (i := 23) rfl))) (by decide) (backOf (W := 0) (own_eqBox l Z a0 hw [] b9 r69 T69.heap n0 Ec69) hZ (hw _ (List.mem_of_getElem? (i := 25) rfl)) (hw _ (List.mem_of_getElem? (i := 8) rfl)) (by decide) (by decide)) q83a q83c (g := (mkF m 231 #[.val (.long q0), .second, .val (.long q1), .second, .val (.long q2), .second, .val (.long q3), .second, .val (.long q4), .second, .val (.long q5), .second, .val (.int z1), .val (.long z2), .second, .val (.long z3), .second, .val (.long z5), .second, .val (.long sb2), .second, .val (.long pos2), .second, .val (.long off2), .second, .val (.ref b9), .val (.ref b14), .val (.ref b30), .val (.int v28), .val (.int (own_eqM z2 sb2 z3 pos2 z5 off2)), .val (.int (own_eqM sb2 z2 pos2 z3 off2 z5)), .val (.int (own_eqM z2 z2 z3 z3 z5 z5)), .val (.int (own_eqM z2 z2 z3 z3 z5 z5)), .val (.int (0 : Int32)), .unset] [(.ref r69), (.ref b9)])) rfl (by rw [hml]; rfl) (Steps.refl _) (argsL := [(.ref r69)]) (rest := []) (lenOf own_pd4 rfl) rfl (by show 2 * 0 + _ ≤ _; exact Nat.le_of_eq rfl) (hb hby at_231) (fun _ _ => ⟨rfl, rfl, (by decide : 4 + 0 ≤ _), (by decide : 10 + 0 ≤ _)⟩)
          dsimp only [Pt.U, Pt.locs, Pt.cells, Pt.slots] at X82 lq82 yq82 zq82 st82 hQ82
          subst lq82 yq82 zq82
          obtain ⟨rfl, N82q, e82⟩ := hQ82
          have N82 := Fr.app N69 N82q
          refine own_by (V := T82.setTop (mkF m 234 #[.val (.long q0), .second, .val (.long q1), .second, .val (.long q2), .second, .val (.long q3), .second, .val (.long q4), .second, .val (.long q5), .second, .val (.int z1), .val (.long z2), .second, .val (.long z3), .second, .val (.long z5), .second, .val (.long sb2), .second, .val (.long pos2), .second, .val (.long off2), .second, .val (.ref b9), .val (.ref b14), .val (.ref b30), .val (.int v28), .val (.int (own_eqM z2 sb2 z3 pos2 z5 off2)), .val (.int (own_eqM sb2 z2 pos2 z3 off2 z5)), .val (.int (own_eqM z2 z2 z3 z3 z5 z5)), .val (.int (own_eqM z2 z2 z3 z3 z5 z5)), .val (.int (0 : Int32)), .unset] [(.int (0 : Int32))])) (fun t k => st82.trans k) ?_
          refine own_by (V := T82.setTop (mkF m 236 #[.val (.long q0), .second, .val (.long q1), .second, .val (.long q2), .second, .val (.long q3), .second, .val (.long q4), .second, .val (.long q5), .second, .val (.int z1), .val (.long z2), .second, .val (.long z3), .second, .val (.long z5), .second, .val (.long sb2), .second, .val (.long pos2), .second, .val (.long off2), .second, .val (.ref b9), .val (.ref b14), .val (.ref b30), .val (.int v28), .val (.int (own_eqM z2 sb2 z3 pos2 z5 off2)), .val (.int (own_eqM sb2 z2 pos2 z3 off2 z5)), .val (.int (own_eqM z2 z2 z3 z3 z5 z5)), .val (.int (own_eqM z2 z2 z3 z3 z5 z5)), .val (.int (0 : Int32)), .val (.int (0 : Int32))] [])) (fun t k => XS.istore X82.here hx rfl (hb hby at_234) rfl (l' := #[.val (.long q0), .second, .val (.long q1), .second, .val (.long q2), .second, .val (.long q3), .second, .val (.long q4), .second, .val (.long q5), .second, .val (.int z1), .val (.long z2), .second, .val (.long z3), .second, .val (.long z5), .second, .val (.long sb2), .second, .val (.long pos2), .second, .val (.long off2), .second, .val (.ref b9), .val (.ref b14), .val (.ref b30), .val (.int v28), .val (.int (own_eqM z2 sb2 z3 pos2 z5 off2)), .val (.int (own_eqM sb2 z2 pos2 z3 off2 z5)), .val (.int (own_eqM z2 z2 z3 z3 z5 z5)), .val (.int (own_eqM z2 z2 z3 z3 z5 z5)), .val (.int (0 : Int32)), .val (.int (0 : Int32))]) rfl k) ?_
          refine own_by (V := T82.setTop (mkF m 238 #[.val (.long q0), .second, .val (.long q1), .second, .val (.long q2), .second, .val (.long q3), .second, .val (.long q4), .second, .val (.long q5), .second, .val (.int z1), .val (.long z2), .second, .val (.long z3), .second, .val (.long z5), .second, .val (.long sb2), .second, .val (.long pos2), .second, .val (.long off2), .second, .val (.ref b9), .val (.ref b14), .val (.ref b30), .val (.int v28), .val (.int (own_eqM z2 sb2 z3 pos2 z5 off2)), .val (.int (own_eqM sb2 z2 pos2 z3 off2 z5)), .val (.int (own_eqM z2 z2 z3 z3 z5 z5)), .val (.int (own_eqM z2 z2 z3 z3 z5 z5)), .val (.int (0 : Int32)), .val (.int (0 : Int32))] [(.int (own_eqM z2 sb2 z3 pos2 z5 off2))])) (fun t k => XS.iload X82.here hx rfl (hb hby at_236) rfl  k) ?_
          refine own_by (V := T82.setTop (mkF m 240 #[.val (.long q0), .second, .val (.long q1), .second, .val (.long q2), .second, .val (.long q3), .second, .val (.long q4), .second, .val (.long q5), .second, .val (.int z1), .val (.long z2), .second, .val (.long z3), .second, .val (.long z5), .second, .val (.long sb2), .second, .val (.long pos2), .second, .val (.long off2), .second, .val (.ref b9), .val (.ref b14), .val (.ref b30), .val (.int v28), .val (.int (own_eqM z2 sb2 z3 pos2 z5 off2)), .val (.int (own_eqM sb2 z2 pos2 z3 off2 z5)), .val (.int (own_eqM z2 z2 z3 z3 z5 z5)), .val (.int (own_eqM z2 z2 z3 z3 z5 z5)), .val (.int (0 : Int32)), .val (.int (0 : Int32))] [(.int v28), (.int (own_eqM z2 sb2 z3 pos2 z5 off2))])) (fun t k => XS.iload X82.here hx rfl (hb hby at_238) rfl  k) ?_
          have hb240_84 : ((own_eqM z2 sb2 z3 pos2 z5 off2) = v28) := hv28.symm
          refine own_by (V := T82.setTop (mkF m 243 #[.val (.long q0), .second, .val (.long q1), .second, .val (.long q2), .second, .val (.long q3), .second, .val (.long q4), .second, .val (.long q5), .second, .val (.int z1), .val (.long z2), .second, .val (.long z3), .second, .val (.long z5), .second, .val (.long sb2), .second, .val (.long pos2), .second, .val (.long off2), .second, .val (.ref b9), .val (.ref b14), .val (.ref b30), .val (.int v28), .val (.int (own_eqM z2 sb2 z3 pos2 z5 off2)), .val (.int (own_eqM sb2 z2 pos2 z3 off2 z5)), .val (.int (own_eqM z2 z2 z3 z3 z5 z5)), .val (.int (own_eqM z2 z2 z3 z3 z5 z5)), .val (.int (0 : Int32)), .val (.int (0 : Int32))] [])) (fun t k => XS.icmpNo X82.here hx rfl (hb hby at_240) rfl (teq hb240_84).2 k) ?_
          refine own_by (V := T82.setTop (mkF m 245 #[.val (.long q0), .second, .val (.long q1), .second, .val (.long q2), .second, .val (.long q3), .second, .val (.long q4), .second, .val (.long q5), .second, .val (.int z1), .val (.long z2), .second, .val (.long z3), .second, .val (.long z5), .second, .val (.long sb2), .second, .val (.long pos2), .second, .val (.long off2), .second, .val (.ref b9), .val (.ref b14), .val (.ref b30), .val (.int v28), .val (.int (own_eqM z2 sb2 z3 pos2 z5 off2)), .val (.int (own_eqM sb2 z2 pos2 z3 off2 z5)), .val (.int (own_eqM z2 z2 z3 z3 z5 z5)), .val (.int (own_eqM z2 z2 z3 z3 z5 z5)), .val (.int (0 : Int32)), .val (.int (0 : Int32))] [(.int (own_eqM sb2 z2 pos2 z3 off2 z5))])) (fun t k => XS.iload X82.here hx rfl (hb hby at_243) rfl  k) ?_
          refine own_by (V := T82.setTop (mkF m 247 #[.val (.long q0), .second, .val (.long q1), .second, .val (.long q2), .second, .val (.long q3), .second, .val (.long q4), .second, .val (.long q5), .second, .val (.int z1), .val (.long z2), .second, .val (.long z3), .second, .val (.long z5), .second, .val (.long sb2), .second, .val (.long pos2), .second, .val (.long off2), .second, .val (.ref b9), .val (.ref b14), .val (.ref b30), .val (.int v28), .val (.int (own_eqM z2 sb2 z3 pos2 z5 off2)), .val (.int (own_eqM sb2 z2 pos2 z3 off2 z5)), .val (.int (own_eqM z2 z2 z3 z3 z5 z5)), .val (.int (own_eqM z2 z2 z3 z3 z5 z5)), .val (.int (0 : Int32)), .val (.int (0 : Int32))] [(.int v28), (.int (own_eqM sb2 z2 pos2 z3 off2 z5))])) (fun t k => XS.iload X82.here hx rfl (hb hby at_245) rfl  k) ?_
          have hb247_85 : ((own_eqM sb2 z2 pos2 z3 off2 z5) = v28) := by rw [hv28]; exact own_eqM_symm _ _ _ _ _ _
          refine own_by (V := T82.setTop (mkF m 250 #[.val (.long q0), .second, .val (.long q1), .second, .val (.long q2), .second, .val (.long q3), .second, .val (.long q4), .second, .val (.long q5), .second, .val (.int z1), .val (.long z2), .second, .val (.long z3), .second, .val (.long z5), .second, .val (.long sb2), .second, .val (.long pos2), .second, .val (.long off2), .second, .val (.ref b9), .val (.ref b14), .val (.ref b30), .val (.int v28), .val (.int (own_eqM z2 sb2 z3 pos2 z5 off2)), .val (.int (own_eqM sb2 z2 pos2 z3 off2 z5)), .val (.int (own_eqM z2 z2 z3 z3 z5 z5)), .val (.int (own_eqM z2 z2 z3 z3 z5 z5)), .val (.int (0 : Int32)), .val (.int (0 : Int32))] [])) (fun t k => XS.icmpNo X82.here hx rfl (hb hby at_247) rfl (teq hb247_85).2 k) ?_
          refine own_by (V := T82.setTop (mkF m 252 #[.val (.long q0), .second, .val (.long q1), .second, .val (.long q2), .second, .val (.long q3), .second, .val (.long q4), .second, .val (.long q5), .second, .val (.int z1), .val (.long z2), .second, .val (.long z3), .second, .val (.long z5), .second, .val (.long sb2), .second, .val (.long pos2), .second, .val (.long off2), .second, .val (.ref b9), .val (.ref b14), .val (.ref b30), .val (.int v28), .val (.int (own_eqM z2 sb2 z3 pos2 z5 off2)), .val (.int (own_eqM sb2 z2 pos2 z3 off2 z5)), .val (.int (own_eqM z2 z2 z3 z3 z5 z5)), .val (.int (own_eqM z2 z2 z3 z3 z5 z5)), .val (.int (0 : Int32)), .val (.int (0 : Int32))] [(.int (own_eqM z2 z2 z3 z3 z5 z5))])) (fun t k => XS.iload X82.here hx rfl (hb hby at_250) rfl  k) ?_
          have hb252_86 : ¬ ((own_eqM z2 z2 z3 z3 z5 z5) = (0 : Int32)) := by rw [own_eqM_self]; decide
          refine own_by (V := T82.setTop (mkF m 255 #[.val (.long q0), .second, .val (.long q1), .second, .val (.long q2), .second, .val (.long q3), .second, .val (.long q4), .second, .val (.long q5), .second, .val (.int z1), .val (.long z2), .second, .val (.long z3), .second, .val (.long z5), .second, .val (.long sb2), .second, .val (.long pos2), .second, .val (.long off2), .second, .val (.ref b9), .val (.ref b14), .val (.ref b30), .val (.int v28), .val (.int (own_eqM z2 sb2 z3 pos2 z5 off2)), .val (.int (own_eqM sb2 z2 pos2 z3 off2 z5)), .val (.int (own_eqM z2 z2 z3 z3 z5 z5)), .val (.int (own_eqM z2 z2 z3 z3 z5 z5)), .val (.int (0 : Int32)), .val (.int (0 : Int32))] [])) (fun t k => XS.ifNo X82.here hx rfl (hb hby at_252) rfl ((if0 _ _).trans (feq hb252_86).1) k) ?_
          refine own_by (V := T82.setTop (mkF m 257 #[.val (.long q0), .second, .val (.long q1), .second, .val (.long q2), .second, .val (.long q3), .second, .val (.long q4), .second, .val (.long q5), .second, .val (.int z1), .val (.long z2), .second, .val (.long z3), .second, .val (.long z5), .second, .val (.long sb2), .second, .val (.long pos2), .second, .val (.long off2), .second, .val (.ref b9), .val (.ref b14), .val (.ref b30), .val (.int v28), .val (.int (own_eqM z2 sb2 z3 pos2 z5 off2)), .val (.int (own_eqM sb2 z2 pos2 z3 off2 z5)), .val (.int (own_eqM z2 z2 z3 z3 z5 z5)), .val (.int (own_eqM z2 z2 z3 z3 z5 z5)), .val (.int (0 : Int32)), .val (.int (0 : Int32))] [(.int (own_eqM z2 z2 z3 z3 z5 z5))])) (fun t k => XS.iload X82.here hx rfl (hb hby at_255) rfl  k) ?_
          have hb257_87 : ¬ ((own_eqM z2 z2 z3 z3 z5 z5) = (0 : Int32)) := by rw [own_eqM_self]; decide
          refine own_by (V := T82.setTop (mkF m 260 #[.val (.long q0), .second, .val (.long q1), .second, .val (.long q2), .second, .val (.long q3), .second, .val (.long q4), .second, .val (.long q5), .second, .val (.int z1), .val (.long z2), .second, .val (.long z3), .second, .val (.long z5), .second, .val (.long sb2), .second, .val (.long pos2), .second, .val (.long off2), .second, .val (.ref b9), .val (.ref b14), .val (.ref b30), .val (.int v28), .val (.int (own_eqM z2 sb2 z3 pos2 z5 off2)), .val (.int (own_eqM sb2 z2 pos2 z3 off2 z5)), .val (.int (own_eqM z2 z2 z3 z3 z5 z5)), .val (.int (own_eqM z2 z2 z3 z3 z5 z5)), .val (.int (0 : Int32)), .val (.int (0 : Int32))] [])) (fun t k => XS.ifNo X82.here hx rfl (hb hby at_257) rfl ((if0 _ _).trans (feq hb257_87).1) k) ?_
          refine own_by (V := T82.setTop (mkF m 262 #[.val (.long q0), .second, .val (.long q1), .second, .val (.long q2), .second, .val (.long q3), .second, .val (.long q4), .second, .val (.long q5), .second, .val (.int z1), .val (.long z2), .second, .val (.long z3), .second, .val (.long z5), .second, .val (.long sb2), .second, .val (.long pos2), .second, .val (.long off2), .second, .val (.ref b9), .val (.ref b14), .val (.ref b30), .val (.int v28), .val (.int (own_eqM z2 sb2 z3 pos2 z5 off2)), .val (.int (own_eqM sb2 z2 pos2 z3 off2 z5)), .val (.int (own_eqM z2 z2 z3 z3 z5 z5)), .val (.int (own_eqM z2 z2 z3 z3 z5 z5)), .val (.int (0 : Int32)), .val (.int (0 : Int32))] [(.int (0 : Int32))])) (fun t k => XS.iload X82.here hx rfl (hb hby at_260) rfl  k) ?_
          have hb262_88 : ((0 : Int32) = (0 : Int32)) := by decide
          refine own_by (V := T82.setTop (mkF m 265 #[.val (.long q0), .second, .val (.long q1), .second, .val (.long q2), .second, .val (.long q3), .second, .val (.long q4), .second, .val (.long q5), .second, .val (.int z1), .val (.long z2), .second, .val (.long z3), .second, .val (.long z5), .second, .val (.long sb2), .second, .val (.long pos2), .second, .val (.long off2), .second, .val (.ref b9), .val (.ref b14), .val (.ref b30), .val (.int v28), .val (.int (own_eqM z2 sb2 z3 pos2 z5 off2)), .val (.int (own_eqM sb2 z2 pos2 z3 off2 z5)), .val (.int (own_eqM z2 z2 z3 z3 z5 z5)), .val (.int (own_eqM z2 z2 z3 z3 z5 z5)), .val (.int (0 : Int32)), .val (.int (0 : Int32))] [])) (fun t k => XS.ifNo X82.here hx rfl (hb hby at_262) rfl ((if0 _ _).trans (teq hb262_88).2) k) ?_
          refine own_by (V := T82.setTop (mkF m 267 #[.val (.long q0), .second, .val (.long q1), .second, .val (.long q2), .second, .val (.long q3), .second, .val (.long q4), .second, .val (.long q5), .second, .val (.int z1), .val (.long z2), .second, .val (.long z3), .second, .val (.long z5), .second, .val (.long sb2), .second, .val (.long pos2), .second, .val (.long off2), .second, .val (.ref b9), .val (.ref b14), .val (.ref b30), .val (.int v28), .val (.int (own_eqM z2 sb2 z3 pos2 z5 off2)), .val (.int (own_eqM sb2 z2 pos2 z3 off2 z5)), .val (.int (own_eqM z2 z2 z3 z3 z5 z5)), .val (.int (own_eqM z2 z2 z3 z3 z5 z5)), .val (.int (0 : Int32)), .val (.int (0 : Int32))] [(.int (0 : Int32))])) (fun t k => XS.iload X82.here hx rfl (hb hby at_265) rfl  k) ?_
          have hb267_89 : ((0 : Int32) = (0 : Int32)) := by decide
          refine own_by (V := T82.setTop (mkF m 270 #[.val (.long q0), .second, .val (.long q1), .second, .val (.long q2), .second, .val (.long q3), .second, .val (.long q4), .second, .val (.long q5), .second, .val (.int z1), .val (.long z2), .second, .val (.long z3), .second, .val (.long z5), .second, .val (.long sb2), .second, .val (.long pos2), .second, .val (.long off2), .second, .val (.ref b9), .val (.ref b14), .val (.ref b30), .val (.int v28), .val (.int (own_eqM z2 sb2 z3 pos2 z5 off2)), .val (.int (own_eqM sb2 z2 pos2 z3 off2 z5)), .val (.int (own_eqM z2 z2 z3 z3 z5 z5)), .val (.int (own_eqM z2 z2 z3 z3 z5 z5)), .val (.int (0 : Int32)), .val (.int (0 : Int32))] [])) (fun t k => XS.ifNo X82.here hx rfl (hb hby at_267) rfl ((if0 _ _).trans (teq hb267_89).2) k) ?_
          refine own_by (V := T82.setTop (mkF m 271 #[.val (.long q0), .second, .val (.long q1), .second, .val (.long q2), .second, .val (.long q3), .second, .val (.long q4), .second, .val (.long q5), .second, .val (.int z1), .val (.long z2), .second, .val (.long z3), .second, .val (.long z5), .second, .val (.long sb2), .second, .val (.long pos2), .second, .val (.long off2), .second, .val (.ref b9), .val (.ref b14), .val (.ref b30), .val (.int v28), .val (.int (own_eqM z2 sb2 z3 pos2 z5 off2)), .val (.int (own_eqM sb2 z2 pos2 z3 off2 z5)), .val (.int (own_eqM z2 z2 z3 z3 z5 z5)), .val (.int (own_eqM z2 z2 z3 z3 z5 z5)), .val (.int (0 : Int32)), .val (.int (0 : Int32))] [(.int (1 : Int32))])) (fun t k => XS.iconst X82.here hx rfl (hb hby at_270) k) ?_
          refine own_by (V := T82.setTop (mkF m 275 #[.val (.long q0), .second, .val (.long q1), .second, .val (.long q2), .second, .val (.long q3), .second, .val (.long q4), .second, .val (.long q5), .second, .val (.int z1), .val (.long z2), .second, .val (.long z3), .second, .val (.long z5), .second, .val (.long sb2), .second, .val (.long pos2), .second, .val (.long off2), .second, .val (.ref b9), .val (.ref b14), .val (.ref b30), .val (.int v28), .val (.int (own_eqM z2 sb2 z3 pos2 z5 off2)), .val (.int (own_eqM sb2 z2 pos2 z3 off2 z5)), .val (.int (own_eqM z2 z2 z3 z3 z5 z5)), .val (.int (own_eqM z2 z2 z3 z3 z5 z5)), .val (.int (0 : Int32)), .val (.int (0 : Int32))] [(.int (1 : Int32))])) (fun t k => XS.goto X82.here hx rfl (pc0 := 271) (pc' := 275) rfl (hb hby at_271) (by decide) (by decide) k) ?_
          refine own_retN X82 hx hlk e82 Bd.returns (t := .boolean) (by simp) rfl (hb hby at_275) ?_ (by decide) (by decide)
          exact ⟨rfl, N82⟩
        by_cases hb154_90 : (lcmpW z2 sb2) = (0 : Int32)
        · refine own_by (V := T49.setTop (mkF m 157 #[.val (.long q0), .second, .val (.long q1), .second, .val (.long q2), .second, .val (.long q3), .second, .val (.long q4), .second, .val (.long q5), .second, .val (.int z1), .val (.long z2), .second, .val (.long z3), .second, .val (.long z5), .second, .val (.long sb2), .second, .val (.long pos2), .second, .val (.long off2), .second, .val (.ref b9), .val (.ref b14), .val (.ref b30), .unset, .unset, .unset, .unset, .unset, .unset, .unset] [])) (fun t k => XS.ifNo X49.here hx rfl (hb hby at_154) rfl ((if0 _ _).trans (teq hb154_90).2) k) ?_
          refine own_by (V := T49.setTop (mkF m 159 #[.val (.long q0), .second, .val (.long q1), .second, .val (.long q2), .second, .val (.long q3), .second, .val (.long q4), .second, .val (.long q5), .second, .val (.int z1), .val (.long z2), .second, .val (.long z3), .second, .val (.long z5), .second, .val (.long sb2), .second, .val (.long pos2), .second, .val (.long off2), .second, .val (.ref b9), .val (.ref b14), .val (.ref b30), .unset, .unset, .unset, .unset, .unset, .unset, .unset] [(.long z3)])) (fun t k => XS.lload X49.here hx rfl (hb hby at_157) rfl  k) ?_
          refine own_by (V := T49.setTop (mkF m 161 #[.val (.long q0), .second, .val (.long q1), .second, .val (.long q2), .second, .val (.long q3), .second, .val (.long q4), .second, .val (.long q5), .second, .val (.int z1), .val (.long z2), .second, .val (.long z3), .second, .val (.long z5), .second, .val (.long sb2), .second, .val (.long pos2), .second, .val (.long off2), .second, .val (.ref b9), .val (.ref b14), .val (.ref b30), .unset, .unset, .unset, .unset, .unset, .unset, .unset] [(.long pos2), (.long z3)])) (fun t k => XS.lload X49.here hx rfl (hb hby at_159) rfl  k) ?_
          refine own_by (V := T49.setTop (mkF m 162 #[.val (.long q0), .second, .val (.long q1), .second, .val (.long q2), .second, .val (.long q3), .second, .val (.long q4), .second, .val (.long q5), .second, .val (.int z1), .val (.long z2), .second, .val (.long z3), .second, .val (.long z5), .second, .val (.long sb2), .second, .val (.long pos2), .second, .val (.long off2), .second, .val (.ref b9), .val (.ref b14), .val (.ref b30), .unset, .unset, .unset, .unset, .unset, .unset, .unset] [(.int (lcmpW z3 pos2))])) (fun t k => XS.lcmp X49.here hx rfl (hb hby at_161) rfl k) ?_
          by_cases hb162_91 : (lcmpW z3 pos2) = (0 : Int32)
          · refine own_by (V := T49.setTop (mkF m 165 #[.val (.long q0), .second, .val (.long q1), .second, .val (.long q2), .second, .val (.long q3), .second, .val (.long q4), .second, .val (.long q5), .second, .val (.int z1), .val (.long z2), .second, .val (.long z3), .second, .val (.long z5), .second, .val (.long sb2), .second, .val (.long pos2), .second, .val (.long off2), .second, .val (.ref b9), .val (.ref b14), .val (.ref b30), .unset, .unset, .unset, .unset, .unset, .unset, .unset] [])) (fun t k => XS.ifNo X49.here hx rfl (hb hby at_162) rfl ((if0 _ _).trans (teq hb162_91).2) k) ?_
            refine own_by (V := T49.setTop (mkF m 167 #[.val (.long q0), .second, .val (.long q1), .second, .val (.long q2), .second, .val (.long q3), .second, .val (.long q4), .second, .val (.long q5), .second, .val (.int z1), .val (.long z2), .second, .val (.long z3), .second, .val (.long z5), .second, .val (.long sb2), .second, .val (.long pos2), .second, .val (.long off2), .second, .val (.ref b9), .val (.ref b14), .val (.ref b30), .unset, .unset, .unset, .unset, .unset, .unset, .unset] [(.long z5)])) (fun t k => XS.lload X49.here hx rfl (hb hby at_165) rfl  k) ?_
            refine own_by (V := T49.setTop (mkF m 169 #[.val (.long q0), .second, .val (.long q1), .second, .val (.long q2), .second, .val (.long q3), .second, .val (.long q4), .second, .val (.long q5), .second, .val (.int z1), .val (.long z2), .second, .val (.long z3), .second, .val (.long z5), .second, .val (.long sb2), .second, .val (.long pos2), .second, .val (.long off2), .second, .val (.ref b9), .val (.ref b14), .val (.ref b30), .unset, .unset, .unset, .unset, .unset, .unset, .unset] [(.long off2), (.long z5)])) (fun t k => XS.lload X49.here hx rfl (hb hby at_167) rfl  k) ?_
            refine own_by (V := T49.setTop (mkF m 170 #[.val (.long q0), .second, .val (.long q1), .second, .val (.long q2), .second, .val (.long q3), .second, .val (.long q4), .second, .val (.long q5), .second, .val (.int z1), .val (.long z2), .second, .val (.long z3), .second, .val (.long z5), .second, .val (.long sb2), .second, .val (.long pos2), .second, .val (.long off2), .second, .val (.ref b9), .val (.ref b14), .val (.ref b30), .unset, .unset, .unset, .unset, .unset, .unset, .unset] [(.int (lcmpW z5 off2))])) (fun t k => XS.lcmp X49.here hx rfl (hb hby at_169) rfl k) ?_
            by_cases hb170_92 : (lcmpW z5 off2) = (0 : Int32)
            · refine own_by (V := T49.setTop (mkF m 173 #[.val (.long q0), .second, .val (.long q1), .second, .val (.long q2), .second, .val (.long q3), .second, .val (.long q4), .second, .val (.long q5), .second, .val (.int z1), .val (.long z2), .second, .val (.long z3), .second, .val (.long z5), .second, .val (.long sb2), .second, .val (.long pos2), .second, .val (.long off2), .second, .val (.ref b9), .val (.ref b14), .val (.ref b30), .unset, .unset, .unset, .unset, .unset, .unset, .unset] [])) (fun t k => XS.ifNo X49.here hx rfl (hb hby at_170) rfl ((if0 _ _).trans (teq hb170_92).2) k) ?_
              refine own_by (V := T49.setTop (mkF m 174 #[.val (.long q0), .second, .val (.long q1), .second, .val (.long q2), .second, .val (.long q3), .second, .val (.long q4), .second, .val (.long q5), .second, .val (.int z1), .val (.long z2), .second, .val (.long z3), .second, .val (.long z5), .second, .val (.long sb2), .second, .val (.long pos2), .second, .val (.long off2), .second, .val (.ref b9), .val (.ref b14), .val (.ref b30), .unset, .unset, .unset, .unset, .unset, .unset, .unset] [(.int (1 : Int32))])) (fun t k => XS.iconst X49.here hx rfl (hb hby at_173) k) ?_
              refine own_by (V := T49.setTop (mkF m 178 #[.val (.long q0), .second, .val (.long q1), .second, .val (.long q2), .second, .val (.long q3), .second, .val (.long q4), .second, .val (.long q5), .second, .val (.int z1), .val (.long z2), .second, .val (.long z3), .second, .val (.long z5), .second, .val (.long sb2), .second, .val (.long pos2), .second, .val (.long off2), .second, .val (.ref b9), .val (.ref b14), .val (.ref b30), .unset, .unset, .unset, .unset, .unset, .unset, .unset] [(.int (1 : Int32))])) (fun t k => XS.goto X49.here hx rfl (pc0 := 174) (pc' := 178) rfl (hb hby at_174) (by decide) (by decide) k) ?_
              exact J58 T49 _ (1 : Int32) (X49.more (by decide) (by decide)) rfl N49 (if_pos ⟨(lw_eq _ _).mp hb154_90, (lw_eq _ _).mp hb162_91, (lw_eq _ _).mp hb170_92⟩).symm
            · refine own_by (V := T49.setTop (mkF m 177 #[.val (.long q0), .second, .val (.long q1), .second, .val (.long q2), .second, .val (.long q3), .second, .val (.long q4), .second, .val (.long q5), .second, .val (.int z1), .val (.long z2), .second, .val (.long z3), .second, .val (.long z5), .second, .val (.long sb2), .second, .val (.long pos2), .second, .val (.long off2), .second, .val (.ref b9), .val (.ref b14), .val (.ref b30), .unset, .unset, .unset, .unset, .unset, .unset, .unset] [])) (fun t k => XS.ifYes X49.here hx rfl (pc0 := 170) (pc' := 177) rfl (hb hby at_170) rfl ((if0 _ _).trans (feq hb170_92).2) (by decide) (by decide) k) ?_
              refine own_by (V := T49.setTop (mkF m 178 #[.val (.long q0), .second, .val (.long q1), .second, .val (.long q2), .second, .val (.long q3), .second, .val (.long q4), .second, .val (.long q5), .second, .val (.int z1), .val (.long z2), .second, .val (.long z3), .second, .val (.long z5), .second, .val (.long sb2), .second, .val (.long pos2), .second, .val (.long off2), .second, .val (.ref b9), .val (.ref b14), .val (.ref b30), .unset, .unset, .unset, .unset, .unset, .unset, .unset] [(.int (0 : Int32))])) (fun t k => XS.iconst X49.here hx rfl (hb hby at_177) k) ?_
              exact J58 T49 _ (0 : Int32) (X49.more (by decide) (by decide)) rfl N49 (if_neg fun q => hb170_92 ((lw_eq _ _).mpr q.2.2)).symm
          · refine own_by (V := T49.setTop (mkF m 177 #[.val (.long q0), .second, .val (.long q1), .second, .val (.long q2), .second, .val (.long q3), .second, .val (.long q4), .second, .val (.long q5), .second, .val (.int z1), .val (.long z2), .second, .val (.long z3), .second, .val (.long z5), .second, .val (.long sb2), .second, .val (.long pos2), .second, .val (.long off2), .second, .val (.ref b9), .val (.ref b14), .val (.ref b30), .unset, .unset, .unset, .unset, .unset, .unset, .unset] [])) (fun t k => XS.ifYes X49.here hx rfl (pc0 := 162) (pc' := 177) rfl (hb hby at_162) rfl ((if0 _ _).trans (feq hb162_91).2) (by decide) (by decide) k) ?_
            refine own_by (V := T49.setTop (mkF m 178 #[.val (.long q0), .second, .val (.long q1), .second, .val (.long q2), .second, .val (.long q3), .second, .val (.long q4), .second, .val (.long q5), .second, .val (.int z1), .val (.long z2), .second, .val (.long z3), .second, .val (.long z5), .second, .val (.long sb2), .second, .val (.long pos2), .second, .val (.long off2), .second, .val (.ref b9), .val (.ref b14), .val (.ref b30), .unset, .unset, .unset, .unset, .unset, .unset, .unset] [(.int (0 : Int32))])) (fun t k => XS.iconst X49.here hx rfl (hb hby at_177) k) ?_
            exact J58 T49 _ (0 : Int32) (X49.more (by decide) (by decide)) rfl N49 (if_neg fun q => hb162_91 ((lw_eq _ _).mpr q.2.1)).symm
        · refine own_by (V := T49.setTop (mkF m 177 #[.val (.long q0), .second, .val (.long q1), .second, .val (.long q2), .second, .val (.long q3), .second, .val (.long q4), .second, .val (.long q5), .second, .val (.int z1), .val (.long z2), .second, .val (.long z3), .second, .val (.long z5), .second, .val (.long sb2), .second, .val (.long pos2), .second, .val (.long off2), .second, .val (.ref b9), .val (.ref b14), .val (.ref b30), .unset, .unset, .unset, .unset, .unset, .unset, .unset] [])) (fun t k => XS.ifYes X49.here hx rfl (pc0 := 154) (pc' := 177) rfl (hb hby at_154) rfl ((if0 _ _).trans (feq hb154_90).2) (by decide) (by decide) k) ?_
          refine own_by (V := T49.setTop (mkF m 178 #[.val (.long q0), .second, .val (.long q1), .second, .val (.long q2), .second, .val (.long q3), .second, .val (.long q4), .second, .val (.long q5), .second, .val (.int z1), .val (.long z2), .second, .val (.long z3), .second, .val (.long z5), .second, .val (.long sb2), .second, .val (.long pos2), .second, .val (.long off2), .second, .val (.ref b9), .val (.ref b14), .val (.ref b30), .unset, .unset, .unset, .unset, .unset, .unset, .unset] [(.int (0 : Int32))])) (fun t k => XS.iconst X49.here hx rfl (hb hby at_177) k) ?_
          exact J58 T49 _ (0 : Int32) (X49.more (by decide) (by decide)) rfl N49 (if_neg fun q => hb154_90 ((lw_eq _ _).mpr q.1)).symm
      by_cases hb80_93 : (z1 &&& (4 : Int32)) = (0 : Int32)
      · refine own_by (V := T7.setTop (mkF m 93 #[.val (.long q0), .second, .val (.long q1), .second, .val (.long q2), .second, .val (.long q3), .second, .val (.long q4), .second, .val (.long q5), .second, .val (.int z1), .val (.long z2), .second, .val (.long z3), .second, .val (.long z5), .second, .val (.long sb2), .second, .val (.long pos2), .second, .unset, .unset, .unset, .unset, .unset, .unset, .unset, .unset, .unset, .unset, .unset, .unset] [])) (fun t k => XS.ifYes X7.here hx rfl (pc0 := 80) (pc' := 93) rfl (hb hby at_80) rfl ((if0 _ _).trans (teq hb80_93).1) (by decide) (by decide) k) ?_
        refine own_by (V := T7.setTop (mkF m 95 #[.val (.long q0), .second, .val (.long q1), .second, .val (.long q2), .second, .val (.long q3), .second, .val (.long q4), .second, .val (.long q5), .second, .val (.int z1), .val (.long z2), .second, .val (.long z3), .second, .val (.long z5), .second, .val (.long sb2), .second, .val (.long pos2), .second, .unset, .unset, .unset, .unset, .unset, .unset, .unset, .unset, .unset, .unset, .unset, .unset] [(.long sb2)])) (fun t k => XS.lload X7.here hx rfl (hb hby at_93) rfl  k) ?_
        refine own_by (V := T7.setTop (mkF m 97 #[.val (.long q0), .second, .val (.long q1), .second, .val (.long q2), .second, .val (.long q3), .second, .val (.long q4), .second, .val (.long q5), .second, .val (.int z1), .val (.long z2), .second, .val (.long z3), .second, .val (.long z5), .second, .val (.long sb2), .second, .val (.long pos2), .second, .unset, .unset, .unset, .unset, .unset, .unset, .unset, .unset, .unset, .unset, .unset, .unset] [(.long q5), (.long sb2)])) (fun t k => XS.lload X7.here hx rfl (hb hby at_95) rfl  k) ?_
        refine own_by (V := T7.setTop (mkF m 98 #[.val (.long q0), .second, .val (.long q1), .second, .val (.long q2), .second, .val (.long q3), .second, .val (.long q4), .second, .val (.long q5), .second, .val (.int z1), .val (.long z2), .second, .val (.long z3), .second, .val (.long z5), .second, .val (.long sb2), .second, .val (.long pos2), .second, .unset, .unset, .unset, .unset, .unset, .unset, .unset, .unset, .unset, .unset, .unset, .unset] [(.int (3 : Int32)), (.long q5), (.long sb2)])) (fun t k => XS.iconst X7.here hx rfl (hb hby at_97) k) ?_
        refine own_by (V := T7.setTop (mkF m 99 #[.val (.long q0), .second, .val (.long q1), .second, .val (.long q2), .second, .val (.long q3), .second, .val (.long q4), .second, .val (.long q5), .second, .val (.int z1), .val (.long z2), .second, .val (.long z3), .second, .val (.long z5), .second, .val (.long sb2), .second, .val (.long pos2), .second, .unset, .unset, .unset, .unset, .unset, .unset, .unset, .unset, .unset, .unset, .unset, .unset] [(.long ((q5.toUInt64 >>> ((3 : Int32) &&& 0x3f).toInt64.toUInt64).toInt64)), (.long sb2)])) (fun t k => XS.lushr X7.here hx rfl (hb hby at_98) rfl k) ?_
        obtain ⟨_, _, ⟨T94, Lq94, kq94, nq94⟩, -, X94, ⟨Lc94, hQ94, lq94, yq94, zq94⟩, st94⟩ := Jvm.LawKit.callS X7 hx (y := (⟨"java/lang/Math", "max", "(JJ)J"⟩ : MethodName)) hown (mvT hZ (hw _ (List.mem_of_getElem? (i := 2) rfl))) (mvT hZ (hw _ (List.mem_of_getElem? (i := 3) rfl))) (mvT hZ (hw _ (List.mem_of_getElem? (i := 4) rfl))) (mvT hZ (hw _ (List.mem_of_getElem? (i := 5) rfl))) (by decide) (backOf (W := 0) (own_rmax l Z a0 hw [] sb2 ((q5.toUInt64 >>> ((3 : Int32) &&& 0x3f).toInt64.toUInt64).toInt64) h0 n0) hZ (hw _ (List.mem_of_getElem? (i := 5) rfl)) (hw _ (List.mem_of_getElem? (i := 4) rfl)) (by decide) (by decide)) (g := (mkF m 99 #[.val (.long q0), .second, .val (.long q1), .second, .val (.long q2), .second, .val (.long q3), .second, .val (.long q4), .second, .val (.long q5), .second, .val (.int z1), .val (.long z2), .second, .val (.long z3), .second, .val (.long z5), .second, .val (.long sb2), .second, .val (.long pos2), .second, .unset, .unset, .unset, .unset, .unset, .unset, .unset, .unset, .unset, .unset, .unset, .unset] [(.long ((q5.toUInt64 >>> ((3 : Int32) &&& 0x3f).toInt64.toUInt64).toInt64)), (.long sb2)])) rfl (by rw [hml]; rfl) (argsL := [(.long sb2), (.long ((q5.toUInt64 >>> ((3 : Int32) &&& 0x3f).toInt64.toUInt64).toInt64))]) (rest := []) (lenOf own_pd2 rfl) rfl (by show 2 * 0 + _ ≤ _; exact Nat.le_of_eq rfl) (hb hby at_99) (fun _ _ => ⟨rfl, e7, (by decide : 0 + 0 ≤ _), (by decide : 0 + 0 ≤ _)⟩)
        dsimp only [Pt.U, Pt.locs, Pt.cells, Pt.slots] at X94 lq94 yq94 zq94 st94 hQ94
        subst lq94 yq94 zq94
        obtain ⟨rfl, N94q, e94⟩ := hQ94
        have N94 := Fr.app N7 N94q
        refine own_by (V := T94.setTop (mkF m 102 #[.val (.long q0), .second, .val (.long q1), .second, .val (.long q2), .second, .val (.long q3), .second, .val (.long q4), .second, .val (.long q5), .second, .val (.int z1), .val (.long z2), .second, .val (.long z3), .second, .val (.long z5), .second, .val (.long sb2), .second, .val (.long pos2), .second, .unset, .unset, .unset, .unset, .unset, .unset, .unset, .unset, .unset, .unset, .unset, .unset] [(.long (own_maxL sb2 ((q5.toUInt64 >>> ((3 : Int32) &&& 0x3f).toInt64.toUInt64).toInt64)))])) st94 ?_
        exact J8 T94 _ (own_maxL sb2 ((q5.toUInt64 >>> ((3 : Int32) &&& 0x3f).toInt64.toUInt64).toInt64)) (X94.more (by decide) (by decide)) e94 N94 (own_maxL_ge _ _)
      · refine own_by (V := T7.setTop (mkF m 83 #[.val (.long q0), .second, .val (.long q1), .second, .val (.long q2), .second, .val (.long q3), .second, .val (.long q4), .second, .val (.long q5), .second, .val (.int z1), .val (.long z2), .second, .val (.long z3), .second, .val (.long z5), .second, .val (.long sb2), .second, .val (.long pos2), .second, .unset, .unset, .unset, .unset, .unset, .unset, .unset, .unset, .unset, .unset, .unset, .unset] [])) (fun t k => XS.ifNo X7.here hx rfl (hb hby at_80) rfl ((if0 _ _).trans (feq hb80_93).1) k) ?_
        refine own_by (V := T7.setTop (mkF m 85 #[.val (.long q0), .second, .val (.long q1), .second, .val (.long q2), .second, .val (.long q3), .second, .val (.long q4), .second, .val (.long q5), .second, .val (.int z1), .val (.long z2), .second, .val (.long z3), .second, .val (.long z5), .second, .val (.long sb2), .second, .val (.long pos2), .second, .unset, .unset, .unset, .unset, .unset, .unset, .unset, .unset, .unset, .unset, .unset, .unset] [(.long sb2)])) (fun t k => XS.lload X7.here hx rfl (hb hby at_83) rfl  k) ?_
        refine own_by (V := T7.setTop (mkF m 87 #[.val (.long q0), .second, .val (.long q1), .second, .val (.long q2), .second, .val (.long q3), .second, .val (.long q4), .second, .val (.long q5), .second, .val (.int z1), .val (.long z2), .second, .val (.long z3), .second, .val (.long z5), .second, .val (.long sb2), .second, .val (.long pos2), .second, .unset, .unset, .unset, .unset, .unset, .unset, .unset, .unset, .unset, .unset, .unset, .unset] [(.long z5), (.long sb2)])) (fun t k => XS.lload X7.here hx rfl (hb hby at_85) rfl  k) ?_
        obtain ⟨_, _, ⟨T95, Lq95, kq95, nq95⟩, -, X95, ⟨Lc95, hQ95, lq95, yq95, zq95⟩, st95⟩ := Jvm.LawKit.callS X7 hx (y := (⟨"java/lang/Math", "max", "(JJ)J"⟩ : MethodName)) hown (mvT hZ (hw _ (List.mem_of_getElem? (i := 2) rfl))) (mvT hZ (hw _ (List.mem_of_getElem? (i := 3) rfl))) (mvT hZ (hw _ (List.mem_of_getElem? (i := 4) rfl))) (mvT hZ (hw _ (List.mem_of_getElem? (i := 5) rfl))) (by decide) (backOf (W := 0) (own_rmax l Z a0 hw [] sb2 z5 h0 n0) hZ (hw _ (List.mem_of_getElem? (i := 5) rfl)) (hw _ (List.mem_of_getElem? (i := 4) rfl)) (by decide) (by decide)) (g := (mkF m 87 #[.val (.long q0), .second, .val (.long q1), .second, .val (.long q2), .second, .val (.long q3), .second, .val (.long q4), .second, .val (.long q5), .second, .val (.int z1), .val (.long z2), .second, .val (.long z3), .second, .val (.long z5), .second, .val (.long sb2), .second, .val (.long pos2), .second, .unset, .unset, .unset, .unset, .unset, .unset, .unset, .unset, .unset, .unset, .unset, .unset] [(.long z5), (.long sb2)])) rfl (by rw [hml]; rfl) (argsL := [(.long sb2), (.long z5)]) (rest := []) (lenOf own_pd2 rfl) rfl (by show 2 * 0 + _ ≤ _; exact Nat.le_of_eq rfl) (hb hby at_87) (fun _ _ => ⟨rfl, e7, (by decide : 0 + 0 ≤ _), (by decide : 0 + 0 ≤ _)⟩)
        dsimp only [Pt.U, Pt.locs, Pt.cells, Pt.slots] at X95 lq95 yq95 zq95 st95 hQ95
        subst lq95 yq95 zq95
        obtain ⟨rfl, N95q, e95⟩ := hQ95
        have N95 := Fr.app N7 N95q
        refine own_by (V := T95.setTop (mkF m 90 #[.val (.long q0), .second, .val (.long q1), .second, .val (.long q2), .second, .val (.long q3), .second, .val (.long q4), .second, .val (.long q5), .second, .val (.int z1), .val (.long z2), .second, .val (.long z3), .second, .val (.long z5), .second, .val (.long sb2), .second, .val (.long pos2), .second, .unset, .unset, .unset, .unset, .unset, .unset, .unset, .unset, .unset, .unset, .unset, .unset] [(.long (own_maxL sb2 z5))])) st95 ?_
        refine own_by (V := T95.setTop (mkF m 102 #[.val (.long q0), .second, .val (.long q1), .second, .val (.long q2), .second, .val (.long q3), .second, .val (.long q4), .second, .val (.long q5), .second, .val (.int z1), .val (.long z2), .second, .val (.long z3), .second, .val (.long z5), .second, .val (.long sb2), .second, .val (.long pos2), .second, .unset, .unset, .unset, .unset, .unset, .unset, .unset, .unset, .unset, .unset, .unset, .unset] [(.long (own_maxL sb2 z5))])) (fun t k => XS.goto X95.here hx rfl (pc0 := 90) (pc' := 102) rfl (hb hby at_90) (by decide) (by decide) k) ?_
        exact J8 T95 _ (own_maxL sb2 z5) (X95.more (by decide) (by decide)) e95 N95 (own_maxL_ge _ _)
    by_cases hb60_96 : (z1 &&& (2 : Int32)) = (0 : Int32)
    · refine own_by (V := T6.setTop (mkF m 68 #[.val (.long q0), .second, .val (.long q1), .second, .val (.long q2), .second, .val (.long q3), .second, .val (.long q4), .second, .val (.long q5), .second, .val (.int z1), .val (.long z2), .second, .val (.long z3), .second, .val (.long z5), .second, .val (.long sb2), .second, .unset, .unset, .unset, .unset, .unset, .unset, .unset, .unset, .unset, .unset, .unset, .unset, .unset, .unset] [])) (fun t k => XS.ifYes X6.here hx rfl (pc0 := 60) (pc' := 68) rfl (hb hby at_60) rfl ((if0 _ _).trans (teq hb60_96).1) (by decide) (by decide) k) ?_
      refine own_by (V := T6.setTop (mkF m 70 #[.val (.long q0), .second, .val (.long q1), .second, .val (.long q2), .second, .val (.long q3), .second, .val (.long q4), .second, .val (.long q5), .second, .val (.int z1), .val (.long z2), .second, .val (.long z3), .second, .val (.long z5), .second, .val (.long sb2), .second, .unset, .unset, .unset, .unset, .unset, .unset, .unset, .unset, .unset, .unset, .unset, .unset, .unset, .unset] [(.long q4)])) (fun t k => XS.lload X6.here hx rfl (hb hby at_68) rfl  k) ?_
      refine own_by (V := T6.setTop (mkF m 73 #[.val (.long q0), .second, .val (.long q1), .second, .val (.long q2), .second, .val (.long q3), .second, .val (.long q4), .second, .val (.long q5), .second, .val (.int z1), .val (.long z2), .second, .val (.long z3), .second, .val (.long z5), .second, .val (.long sb2), .second, .unset, .unset, .unset, .unset, .unset, .unset, .unset, .unset, .unset, .unset, .unset, .unset, .unset, .unset] [(.long (9223372036854775807 : Int64)), (.long q4)])) (Jvm.Stand.ldc2Long X6 hx hown (mvT hZ (hw _ (List.mem_of_getElem? (i := 1) rfl))) (g := (mkF m 70 #[.val (.long q0), .second, .val (.long q1), .second, .val (.long q2), .second, .val (.long q3), .second, .val (.long q4), .second, .val (.long q5), .second, .val (.int z1), .val (.long z2), .second, .val (.long z3), .second, .val (.long z5), .second, .val (.long sb2), .second, .unset, .unset, .unset, .unset, .unset, .unset, .unset, .unset, .unset, .unset, .unset, .unset, .unset, .unset] [(.long q4)])) rfl (hb hby at_70)) ?_
      refine own_by (V := T6.setTop (mkF m 74 #[.val (.long q0), .second, .val (.long q1), .second, .val (.long q2), .second, .val (.long q3), .second, .val (.long q4), .second, .val (.long q5), .second, .val (.int z1), .val (.long z2), .second, .val (.long z3), .second, .val (.long z5), .second, .val (.long sb2), .second, .unset, .unset, .unset, .unset, .unset, .unset, .unset, .unset, .unset, .unset, .unset, .unset, .unset, .unset] [(.long (q4 &&& (9223372036854775807 : Int64)))])) (fun t k => XS.land X6.here hx rfl (hb hby at_73) rfl k) ?_
      exact J7 T6 _ (q4 &&& (9223372036854775807 : Int64)) (X6.more (by decide) (by decide)) e6 N6 (own_nn64 _)
    · refine own_by (V := T6.setTop (mkF m 63 #[.val (.long q0), .second, .val (.long q1), .second, .val (.long q2), .second, .val (.long q3), .second, .val (.long q4), .second, .val (.long q5), .second, .val (.int z1), .val (.long z2), .second, .val (.long z3), .second, .val (.long z5), .second, .val (.long sb2), .second, .unset, .unset, .unset, .unset, .unset, .unset, .unset, .unset, .unset, .unset, .unset, .unset, .unset, .unset] [])) (fun t k => XS.ifNo X6.here hx rfl (hb hby at_60) rfl ((if0 _ _).trans (feq hb60_96).1) k) ?_
      refine own_by (V := T6.setTop (mkF m 65 #[.val (.long q0), .second, .val (.long q1), .second, .val (.long q2), .second, .val (.long q3), .second, .val (.long q4), .second, .val (.long q5), .second, .val (.int z1), .val (.long z2), .second, .val (.long z3), .second, .val (.long z5), .second, .val (.long sb2), .second, .unset, .unset, .unset, .unset, .unset, .unset, .unset, .unset, .unset, .unset, .unset, .unset, .unset, .unset] [(.long z3)])) (fun t k => XS.lload X6.here hx rfl (hb hby at_63) rfl  k) ?_
      refine own_by (V := T6.setTop (mkF m 74 #[.val (.long q0), .second, .val (.long q1), .second, .val (.long q2), .second, .val (.long q3), .second, .val (.long q4), .second, .val (.long q5), .second, .val (.int z1), .val (.long z2), .second, .val (.long z3), .second, .val (.long z5), .second, .val (.long sb2), .second, .unset, .unset, .unset, .unset, .unset, .unset, .unset, .unset, .unset, .unset, .unset, .unset, .unset, .unset] [(.long z3)])) (fun t k => XS.goto X6.here hx rfl (pc0 := 65) (pc' := 74) rfl (hb hby at_65) (by decide) (by decide) k) ?_
      exact J7 T6 _ z3 (X6.more (by decide) (by decide)) e6 N6 hn15
  by_cases hb40_97 : (z1 &&& (1 : Int32)) = (0 : Int32)
  · refine own_by (V := T4.setTop (mkF m 48 #[.val (.long q0), .second, .val (.long q1), .second, .val (.long q2), .second, .val (.long q3), .second, .val (.long q4), .second, .val (.long q5), .second, .val (.int z1), .val (.long z2), .second, .val (.long z3), .second, .val (.long z5), .second, .unset, .unset, .unset, .unset, .unset, .unset, .unset, .unset, .unset, .unset, .unset, .unset, .unset, .unset, .unset, .unset] [])) (fun t k => XS.ifYes X4.here hx rfl (pc0 := 40) (pc' := 48) rfl (hb hby at_40) rfl ((if0 _ _).trans (teq hb40_97).1) (by decide) (by decide) k) ?_
    refine own_by (V := T4.setTop (mkF m 50 #[.val (.long q0), .second, .val (.long q1), .second, .val (.long q2), .second, .val (.long q3), .second, .val (.long q4), .second, .val (.long q5), .second, .val (.int z1), .val (.long z2), .second, .val (.long z3), .second, .val (.long z5), .second, .unset, .unset, .unset, .unset, .unset, .unset, .unset, .unset, .unset, .unset, .unset, .unset, .unset, .unset, .unset, .unset] [(.long q3)])) (fun t k => XS.lload X4.here hx rfl (hb hby at_48) rfl  k) ?_
    refine own_by (V := T4.setTop (mkF m 53 #[.val (.long q0), .second, .val (.long q1), .second, .val (.long q2), .second, .val (.long q3), .second, .val (.long q4), .second, .val (.long q5), .second, .val (.int z1), .val (.long z2), .second, .val (.long z3), .second, .val (.long z5), .second, .unset, .unset, .unset, .unset, .unset, .unset, .unset, .unset, .unset, .unset, .unset, .unset, .unset, .unset, .unset, .unset] [(.long (9223372036854775807 : Int64)), (.long q3)])) (Jvm.Stand.ldc2Long X4 hx hown (mvT hZ (hw _ (List.mem_of_getElem? (i := 1) rfl))) (g := (mkF m 50 #[.val (.long q0), .second, .val (.long q1), .second, .val (.long q2), .second, .val (.long q3), .second, .val (.long q4), .second, .val (.long q5), .second, .val (.int z1), .val (.long z2), .second, .val (.long z3), .second, .val (.long z5), .second, .unset, .unset, .unset, .unset, .unset, .unset, .unset, .unset, .unset, .unset, .unset, .unset, .unset, .unset, .unset, .unset] [(.long q3)])) rfl (hb hby at_50)) ?_
    refine own_by (V := T4.setTop (mkF m 54 #[.val (.long q0), .second, .val (.long q1), .second, .val (.long q2), .second, .val (.long q3), .second, .val (.long q4), .second, .val (.long q5), .second, .val (.int z1), .val (.long z2), .second, .val (.long z3), .second, .val (.long z5), .second, .unset, .unset, .unset, .unset, .unset, .unset, .unset, .unset, .unset, .unset, .unset, .unset, .unset, .unset, .unset, .unset] [(.long (q3 &&& (9223372036854775807 : Int64)))])) (fun t k => XS.land X4.here hx rfl (hb hby at_53) rfl k) ?_
    exact J6 T4 _ (q3 &&& (9223372036854775807 : Int64)) (X4.more (by decide) (by decide)) e4 N4 (own_nn64 _)
  · refine own_by (V := T4.setTop (mkF m 43 #[.val (.long q0), .second, .val (.long q1), .second, .val (.long q2), .second, .val (.long q3), .second, .val (.long q4), .second, .val (.long q5), .second, .val (.int z1), .val (.long z2), .second, .val (.long z3), .second, .val (.long z5), .second, .unset, .unset, .unset, .unset, .unset, .unset, .unset, .unset, .unset, .unset, .unset, .unset, .unset, .unset, .unset, .unset] [])) (fun t k => XS.ifNo X4.here hx rfl (hb hby at_40) rfl ((if0 _ _).trans (feq hb40_97).1) k) ?_
    refine own_by (V := T4.setTop (mkF m 45 #[.val (.long q0), .second, .val (.long q1), .second, .val (.long q2), .second, .val (.long q3), .second, .val (.long q4), .second, .val (.long q5), .second, .val (.int z1), .val (.long z2), .second, .val (.long z3), .second, .val (.long z5), .second, .unset, .unset, .unset, .unset, .unset, .unset, .unset, .unset, .unset, .unset, .unset, .unset, .unset, .unset, .unset, .unset] [(.long z2)])) (fun t k => XS.lload X4.here hx rfl (hb hby at_43) rfl  k) ?_
    refine own_by (V := T4.setTop (mkF m 54 #[.val (.long q0), .second, .val (.long q1), .second, .val (.long q2), .second, .val (.long q3), .second, .val (.long q4), .second, .val (.long q5), .second, .val (.int z1), .val (.long z2), .second, .val (.long z3), .second, .val (.long z5), .second, .unset, .unset, .unset, .unset, .unset, .unset, .unset, .unset, .unset, .unset, .unset, .unset, .unset, .unset, .unset, .unset] [(.long z2)])) (fun t k => XS.goto X4.here hx rfl (pc0 := 45) (pc' := 54) rfl (hb hby at_45) (by decide) (by decide) k) ?_
    exact J6 T4 _ z2 (X4.more (by decide) (by decide)) e4 N4 hn13
set_option maxRecDepth 65536 in
set_option maxHeartbeats 40000000 in
theorem own_comes {Post : Tables → Env → Array Value → State → Outcome → State → Prop} (hpost : ∀ tb e args s v u, (limb_1_1.after args s (.returned v) u = true ∧ limb_1_2.after args s (.returned v) u = true ∧ True) → FrameEnd s (.returned v) u (Jvm.fieldLocs frame_1_writes args s ++ Jvm.arrayLocs frame_1_arrays args s ++ Jvm.staticLocs frame_1_statics s) 16 128 → Post tb e args s (.returned v) u) :
    ArmFor flags0 classFile x code maxLocals ret World_1 tables_1 room_1 Calls_1 rest_1 Pre_1 Post := by
  intro l hfl _ _ p e ha hc hk s m args below hf hA hF happ hP
  obtain ⟨hcalls, hrest, hpre⟩ := hP
  obtain ⟨-, -, -, hnamed, -, -, -, hat⟩ := (Spec.applies_iff hf).mp happ
  obtain ⟨hg, hn⟩ := and_e (Cond.before_iff.mp (show (Jvm.Cond.and given_1 narrow_1).before args s = true from hpre))
  obtain ⟨hc0, hr0⟩ := and_e hg
  obtain ⟨hv0, hr1⟩ := and_e hr0
  obtain ⟨hv1, hr2⟩ := and_e hr1
  obtain ⟨hv2, hr3⟩ := and_e hr2
  obtain ⟨hv3, hr4⟩ := and_e hr3
  obtain ⟨hv4, hr5⟩ := and_e hr4
  have hv5 := hr5
  obtain ⟨w0, w1, w2, w3, w4, w5, rfl⟩ : ∃ w0 w1 w2 w3 w4 w5 : Value, args = #[w0, w1, w2, w3, w4, w5] := by
    have hs : args.size = 6 := by simpa [Cond.value, given_1] using hc0
    obtain ⟨L⟩ := args
    match L, hs with
    | [w0, w1, w2, w3, w4, w5], _ => exact ⟨w0, w1, w2, w3, w4, w5, rfl⟩
  have hw := fun d (hd : d ∈ tables_1) => atoms_spec (ws := Jvm.Cond.code x code maxLocals ret :: tables_1) hat d (List.mem_cons_of_mem _ hd)
  have hfit : Fit s := fun {y c} hc i hi => by
    obtain ⟨ha, rfl⟩ := Array.getElem?_eq_some_iff.mp hc
    have q := List.all_eq_true.mp ((Array.all_eq_true_iff_forall_mem.mp hF) _ (Array.getElem_mem ha)) i (List.mem_range.mpr hi)
    simpa [Array.getElem?_eq_getElem hi] using q
  obtain ⟨hsets, hown0⟩ := atoms_of _ (rest_1_c_eq ▸ (show rest_1_c.before _ s = true from hrest))
  obtain ⟨i0, ei0⟩ := isL_v hv0
  obtain rfl : w0 = (.long i0) := Option.some.inj ei0
  obtain ⟨i1, ei1⟩ := isL_v hv1
  obtain rfl : w1 = (.long i1) := Option.some.inj ei1
  obtain ⟨i2, ei2⟩ := isL_v hv2
  obtain rfl : w2 = (.long i2) := Option.some.inj ei2
  obtain ⟨i3, ei3⟩ := isL_v hv3
  obtain rfl : w3 = (.long i3) := Option.some.inj ei3
  obtain ⟨i4, ei4⟩ := isL_v hv4
  obtain rfl : w4 = (.long i4) := Option.some.inj ei4
  obtain ⟨i5, ei5⟩ := isL_v hv5
  obtain rfl : w5 = (.long i5) := Option.some.inj ei5
  obtain ⟨wc, evc⟩ := arr_v (Cond.before_iff.mp (hsets _ (List.mem_of_getElem? (i := 2) rfl)))
  have SC := Sta.start evc (Or.inl (hsets _ (List.mem_of_getElem? (i := 1) rfl)))
  obtain ⟨clc, AC⟩ := Arr.start evc (Cond.before_iff.mp (hsets _ (List.mem_of_getElem? (i := 2) rfl)))
  have hsz : clc.slots.size = 256 := own_len256 evc AC (Cond.before_iff.mp (hsets _ (List.mem_of_getElem? (i := 4) rfl)))
  have hel : ∀ j, j < 256 → ∃ b, clc.slots[j]? = some (.ref b) ∧ Exa s s.heap b "java/lang/Long" := own_cacheEl evc AC hsz (Cond.before_iff.mp (hsets _ (List.mem_of_getElem? (i := 5) rfl)))
  obtain ⟨n, o, h1, h2, h3, _, L, rfl, ⟨rfl, N⟩, hq⟩ := own_rm0 l s _ hw tables_1 i0 i1 i2 i3 i4 i5  s.heap s.heap.size (Nat.le_refl _) (Old.start s) wc clc SC AC hsz hel p e ha hc hk s m _ below hf ((Spec.applies_iff_loose hf).mp happ).1 ⟨rfl, State.Warmed39.refl s, rfl⟩ trivial
  refine ⟨n, _, h1, h2, h3, hpost _ _ _ _ _ _ ⟨Cond.after_iff.mpr rfl, Cond.after_iff.mpr (eq_i res_at (Term.int_eval (1)) rfl), trivial⟩ ⟨hq.1, hq.2.1, (hq.2.2.sift fun y hy => Or.inr (N y hy)).mono (by decide) (by decide)⟩⟩
theorem main_1_1 : Claimed_1_1 := own_comes fun _ _ _ _ _ _ h hF => ⟨h.1, hF⟩
theorem main_1_2 : Claimed_1_2 := own_comes fun _ _ _ _ _ _ h hF => ⟨h.2.1, hF⟩

end Jvm.Pilot.@@N@@
namespace Jvm.Pilot.@@N@@
open Jvm Jvm.ClassFile Sem Op Lib Jvm.Free Jvm.Stand Jvm.Pilot.@@N@@.Jvm.D
/-! MADE BY PROGRAM (witnessworld.py) out of the Statement's table words and the real class files: 17 classes; the members and pool entries that the words name. The judged class is class 1, her method 1. -/
namespace start1
open Jvm.ClassFile
def u (s : String) : CpInfo := .utf8 (stringToUtf16 s)
/-- a pool by its gaps: so many unusable entries, then the entry; so many at the end -/
def gap : Nat → List CpInfo → List CpInfo
  | 0, r => r
  | n + 1, r => .unusable :: gap n r
def poolList (es : List (Nat × CpInfo)) (last : Nat) : List CpInfo := es.foldr (fun e r => gap e.1 (e.2 :: r)) (gap last [])
def pool (es : List (Nat × CpInfo)) (last : Nat) : Array CpInfo := ⟨poolList es last⟩
def fileOf (pool : Array CpInfo) (this : Nat) (attrs : Array Attribute := #[]) (ms : Array MethodInfo := #[]) (fl : Nat := 33) (sup : Nat := 0) (ifs : Array Nat := #[]) (fds : Array FieldInfo := #[]) : ClassFile where
  minorVersion := 0
  majorVersion := 65
  constantPool := pool
  accessFlags := fl
  thisClass := this
  superClass := sup
  interfaces := ifs
  fields := fds
  methods := ms
  attributes := attrs
def plain (name : String) (sup : Option ClassId) : Class where
  name := name
  kind := .ordinary
  loader := none
  accessFlags := 33
  super := sup
  interfaces := #[]
  cf := none
  fields := #[]
  methods := #[]
  instanceTypes := #[]
  staticTypes := #[]
  resolved := #[]
  callSites := []
  init := .initialized
  statics := none
  mirror := none

def pool0 : Array CpInfo := pool [(5, u "<init>"), (0, u "()V"), (1, .class_ 10), (1, u "java/lang/Object")] 113

def k0c0 : Code := { maxStack := 0, maxLocals := 1, code := object_method_1_code, exceptionTable := #[], attributes := #[] }
def k0m0 : Method := { name := "<init>", desc := "()V", sig := { parameters := [], returnType := none }, accessFlags := 1, code := some k0c0 }
/-- java/lang/Object -/
def k0 : Class := { plain "java/lang/Object" none with
  accessFlags := 33
  interfaces := #[]
  cf := some (fileOf pool0 8 #[] #[{ accessFlags := 1, nameIndex := 5, descriptorIndex := 6, attributes := #[] }] 33 0 #[] #[])
  fields := #[]
  methods := #[k0m0]
  instanceTypes := #[]
  staticTypes := #[]
  resolved := Array.replicate 124 none
  statics := none }

def pool1 : Array CpInfo := pool [(2, .class_ 4), (1, u "java/lang/Object"), (0, u "<init>"), (0, u "()V"), (0, .long 7), (1, .class_ 10), (0, u "java/lang/Long"), (0, .long 9223372036854775807), (1, .methodref 14 15), (0, .class_ 16), (0, .nameAndType 17 18), (0, u "java/lang/Math"), (0, u "max"), (0, u "(JJ)J"), (0, .class_ 20), (0, u "com/example/balcon/balcon/storage/Mark"), (0, .methodref 19 22), (0, .nameAndType 5 23), (0, u "(JJJ)V"), (0, .methodref 19 25), (0, .nameAndType 26 27), (0, u "equals"), (0, u "(Ljava/lang/Object;)Z"), (0, .methodref 9 29), (0, .nameAndType 30 31), (0, u "valueOf"), (0, u "(J)Ljava/lang/Long;"), (0, .class_ 33), (0, u "com/example/balcon/balcon/storage/MarkEqualsPinLaw"), (2, u "law"), (0, u "(JJJJJJ)Z")] 3

def k1m0 : Method := { name := "<init>", desc := "()V", sig := { parameters := [], returnType := none }, accessFlags := 1, code := none }
def k1c1 : Code := { maxStack := 8, maxLocals := 35, code := code, exceptionTable := #[], attributes := #[] }
def k1m1 : Method := { name := "law", desc := "(JJJJJJ)Z", sig := { parameters := [.long, .long, .long, .long, .long, .long], returnType := some .boolean }, accessFlags := 9, code := some k1c1 }
/-- com/example/balcon/balcon/storage/MarkEqualsPinLaw -/
def k1 : Class := { plain "com/example/balcon/balcon/storage/MarkEqualsPinLaw" (some 0) with
  accessFlags := 49
  interfaces := #[]
  cf := some (fileOf pool1 32 #[] #[{ accessFlags := 1, nameIndex := 5, descriptorIndex := 6, attributes := #[] }, { accessFlags := 9, nameIndex := 36, descriptorIndex := 37, attributes := #[] }] 49 2 #[] #[])
  fields := #[]
  methods := #[k1m0, k1m1]
  instanceTypes := #[]
  staticTypes := #[]
  resolved := Array.replicate 41 none
  statics := none }

def pool2 : Array CpInfo := pool [(1, .class_ 2), (0, u "java/lang/Math"), (1, .class_ 6), (1, u "java/lang/Object"), (0, u "<init>"), (0, u "()V"), (89, .class_ 100), (1, u "java/lang/Math$RandomNumberGeneratorHolder"), (20, u "(JJ)J"), (50, u "negativeZeroFloatBits"), (0, u "J"), (2, u "negativeZeroDoubleBits"), (21, u "max"), (46, u "$assertionsDisabled"), (0, u "Z"), (91, u "twoToTheDoubleScaleDown"), (0, u "D"), (4, u "twoToTheDoubleScaleUp"), (9, u "E"), (3, u "PI"), (2, u "TAU"), (2, u "DEGREES_TO_RADIANS"), (0, u "RADIANS_TO_DEGREES")] 94

def k2m0 : Method := { name := "<init>", desc := "()V", sig := { parameters := [], returnType := none }, accessFlags := 2, code := none }
def k2c1 : Code := { maxStack := 4, maxLocals := 4, code := jdk_29_method_66_code, exceptionTable := #[], attributes := #[] }
def k2m1 : Method := { name := "max", desc := "(JJ)J", sig := { parameters := [.long, .long], returnType := some .long }, accessFlags := 9, code := some k2c1 }
/-- java/lang/Math -/
def k2 : Class := { plain "java/lang/Math" (some 0) with
  accessFlags := 49
  interfaces := #[]
  cf := some (fileOf pool2 1 #[.nestMembers #[98]] #[{ accessFlags := 2, nameIndex := 7, descriptorIndex := 8, attributes := #[] }, { accessFlags := 9, nameIndex := 198, descriptorIndex := 121, attributes := #[] }] 49 4 #[] #[{ accessFlags := 25, nameIndex := 354, descriptorIndex := 339, attributes := #[] }, { accessFlags := 25, nameIndex := 358, descriptorIndex := 339, attributes := #[] }, { accessFlags := 25, nameIndex := 361, descriptorIndex := 339, attributes := #[] }, { accessFlags := 26, nameIndex := 364, descriptorIndex := 339, attributes := #[] }, { accessFlags := 26, nameIndex := 365, descriptorIndex := 339, attributes := #[] }, { accessFlags := 26, nameIndex := 172, descriptorIndex := 173, attributes := #[] }, { accessFlags := 26, nameIndex := 176, descriptorIndex := 173, attributes := #[] }, { accessFlags := 8, nameIndex := 344, descriptorIndex := 339, attributes := #[] }, { accessFlags := 8, nameIndex := 338, descriptorIndex := 339, attributes := #[] }, { accessFlags := 4120, nameIndex := 245, descriptorIndex := 246, attributes := #[] }])
  fields := #[{ name := "E", type := .double, accessFlags := 25, slot := 0, constantValue := 0 }, { name := "PI", type := .double, accessFlags := 25, slot := 1, constantValue := 0 }, { name := "TAU", type := .double, accessFlags := 25, slot := 2, constantValue := 0 }, { name := "DEGREES_TO_RADIANS", type := .double, accessFlags := 26, slot := 3, constantValue := 0 }, { name := "RADIANS_TO_DEGREES", type := .double, accessFlags := 26, slot := 4, constantValue := 0 }, { name := "negativeZeroFloatBits", type := .long, accessFlags := 26, slot := 5, constantValue := 0 }, { name := "negativeZeroDoubleBits", type := .long, accessFlags := 26, slot := 6, constantValue := 0 }, { name := "twoToTheDoubleScaleUp", type := .double, accessFlags := 8, slot := 7, constantValue := 0 }, { name := "twoToTheDoubleScaleDown", type := .double, accessFlags := 8, slot := 8, constantValue := 0 }, { name := "$assertionsDisabled", type := .boolean, accessFlags := 4120, slot := 9, constantValue := 0 }]
  methods := #[k2m0, k2m1]
  instanceTypes := #[]
  staticTypes := #[.double, .double, .double, .double, .double, .long, .long, .double, .double, .boolean]
  resolved := Array.replicate 460 none
  statics := none }

def pool3 : Array CpInfo := pool [(1, .methodref 2 3), (0, .class_ 4), (0, .nameAndType 5 6), (0, u "java/lang/Object"), (0, u "<init>"), (0, u "()V"), (9, .fieldref 17 18), (0, .class_ 19), (0, .nameAndType 20 21), (0, u "com/example/balcon/balcon/storage/Mark"), (0, u "segmentBase"), (0, u "J"), (0, .fieldref 17 23), (0, .nameAndType 24 21), (0, u "position"), (0, .fieldref 17 26), (0, .nameAndType 27 21), (0, u "offset"), (13, u "(JJJ)V"), (4, u "equals"), (0, u "(Ljava/lang/Object;)Z")] 23

def k3c0 : Code := { maxStack := 8, maxLocals := 7, code := prog_41_method_1_code, exceptionTable := #[], attributes := #[] }
def k3m0 : Method := { name := "<init>", desc := "(JJJ)V", sig := { parameters := [.long, .long, .long], returnType := none }, accessFlags := 1, code := some k3c0 }
def k3c1 : Code := { maxStack := 4, maxLocals := 3, code := prog_41_method_5_code, exceptionTable := #[], attributes := #[] }
def k3m1 : Method := { name := "equals", desc := "(Ljava/lang/Object;)Z", sig := { parameters := [(.object "java/lang/Object")], returnType := some .boolean }, accessFlags := 1, code := some k3c1 }
/-- com/example/balcon/balcon/storage/Mark -/
def k3 : Class := { plain "com/example/balcon/balcon/storage/Mark" (some 0) with
  accessFlags := 49
  interfaces := #[]
  cf := some (fileOf pool3 17 #[] #[{ accessFlags := 1, nameIndex := 5, descriptorIndex := 41, attributes := #[] }, { accessFlags := 1, nameIndex := 46, descriptorIndex := 47, attributes := #[] }] 49 2 #[] #[{ accessFlags := 18, nameIndex := 20, descriptorIndex := 21, attributes := #[] }, { accessFlags := 18, nameIndex := 24, descriptorIndex := 21, attributes := #[] }, { accessFlags := 18, nameIndex := 27, descriptorIndex := 21, attributes := #[] }])
  fields := #[{ name := "segmentBase", type := .long, accessFlags := 18, slot := 0, constantValue := 0 }, { name := "position", type := .long, accessFlags := 18, slot := 1, constantValue := 0 }, { name := "offset", type := .long, accessFlags := 18, slot := 2, constantValue := 0 }]
  methods := #[k3m0, k3m1]
  instanceTypes := #[.long, .long, .long]
  staticTypes := #[]
  resolved := Array.replicate 71 none
  statics := none }

def pool4 : Array CpInfo := pool [(1, .class_ 2), (0, u "java/io/Serializable"), (0, .class_ 4), (0, u "java/lang/Object")] 2

/-- java/io/Serializable -/
def k4 : Class := { plain "java/io/Serializable" (some 0) with
  accessFlags := 1537
  interfaces := #[]
  cf := some (fileOf pool4 1 #[] #[] 1537 3 #[] #[])
  fields := #[]
  methods := #[]
  instanceTypes := #[]
  staticTypes := #[]
  resolved := Array.replicate 7 none
  statics := none }

def pool5 : Array CpInfo := pool [(1, .methodref 2 3), (0, .class_ 4), (0, .nameAndType 5 6), (0, u "java/lang/Object"), (0, u "<init>"), (0, u "()V"), (1, .class_ 10), (1, u "java/lang/Number"), (2, .class_ 14), (0, u "java/io/Serializable"), (0, u "serialVersionUID"), (0, u "J")] 20

def k5c0 : Code := { maxStack := 1, maxLocals := 1, code := jdk_18_method_1_code, exceptionTable := #[], attributes := #[] }
def k5m0 : Method := { name := "<init>", desc := "()V", sig := { parameters := [], returnType := none }, accessFlags := 1, code := some k5c0 }
/-- java/lang/Number -/
def k5 : Class := { plain "java/lang/Number" (some 0) with
  accessFlags := 1057
  interfaces := #[4]
  cf := some (fileOf pool5 8 #[] #[{ accessFlags := 1, nameIndex := 5, descriptorIndex := 6, attributes := #[] }] 1057 2 #[13] #[{ accessFlags := 26, nameIndex := 15, descriptorIndex := 16, attributes := #[] }])
  fields := #[{ name := "serialVersionUID", type := .long, accessFlags := 26, slot := 0, constantValue := 0 }]
  methods := #[k5m0]
  instanceTypes := #[]
  staticTypes := #[.long]
  resolved := Array.replicate 37 none
  statics := none }

def pool6 : Array CpInfo := pool [(1, .class_ 2), (0, u "java/lang/Comparable"), (0, .class_ 4), (0, u "java/lang/Object")] 7

/-- java/lang/Comparable -/
def k6 : Class := { plain "java/lang/Comparable" (some 0) with
  accessFlags := 1537
  interfaces := #[]
  cf := some (fileOf pool6 1 #[] #[] 1537 3 #[] #[])
  fields := #[]
  methods := #[]
  instanceTypes := #[]
  staticTypes := #[]
  resolved := Array.replicate 12 none
  statics := none }

def pool7 : Array CpInfo := pool [(1, .class_ 2), (0, u "java/lang/constant/Constable"), (0, .class_ 4), (0, u "java/lang/Object")] 6

/-- java/lang/constant/Constable -/
def k7 : Class := { plain "java/lang/constant/Constable" (some 0) with
  accessFlags := 1537
  interfaces := #[]
  cf := some (fileOf pool7 1 #[] #[] 1537 3 #[] #[])
  fields := #[]
  methods := #[]
  instanceTypes := #[]
  staticTypes := #[]
  resolved := Array.replicate 11 none
  statics := none }

def pool8 : Array CpInfo := pool [(1, .class_ 2), (0, u "java/lang/constant/ConstantDesc"), (0, .class_ 4), (0, u "java/lang/Object")] 32

/-- java/lang/constant/ConstantDesc -/
def k8 : Class := { plain "java/lang/constant/ConstantDesc" (some 0) with
  accessFlags := 1537
  interfaces := #[]
  cf := some (fileOf pool8 1 #[] #[] 1537 3 #[] #[])
  fields := #[]
  methods := #[]
  instanceTypes := #[]
  staticTypes := #[]
  resolved := Array.replicate 37 none
  statics := none }

def pool9 : Array CpInfo := pool [(1, .class_ 2), (0, u "java/lang/Long"), (55, .nameAndType 59 60), (0, u "<init>"), (0, u "()V"), (24, u "valueOf"), (143, u "(J)Ljava/lang/Long;"), (0, .long 18446744073709551488), (1, .long 127), (1, .fieldref 235 236), (0, .class_ 237), (0, .nameAndType 238 239), (0, u "java/lang/Long$LongCache"), (0, u "cache"), (0, u "[Ljava/lang/Long;"), (0, .methodref 1 241), (0, .nameAndType 59 242), (0, u "(J)V"), (27, .methodref 271 58), (0, .class_ 272), (0, u "java/lang/Number"), (0, .fieldref 1 274), (0, .nameAndType 275 276), (0, u "value"), (0, u "J"), (84, u "TYPE"), (0, u "Ljava/lang/Class;"), (0, .class_ 364), (0, u "java/lang/Comparable"), (0, .class_ 366), (0, u "java/lang/constant/Constable"), (0, .class_ 368), (0, u "java/lang/constant/ConstantDesc"), (0, u "MIN_VALUE"), (1, u "MAX_VALUE"), (4, u "SIZE"), (0, u "I"), (1, u "BYTES"), (1, u "serialVersionUID")] 142

def k9c0 : Code := { maxStack := 4, maxLocals := 3, code := jdk_35_method_24_code, exceptionTable := #[], attributes := #[] }
def k9m0 : Method := { name := "valueOf", desc := "(J)Ljava/lang/Long;", sig := { parameters := [.long], returnType := some (.object "java/lang/Long") }, accessFlags := 9, code := some k9c0 }
def k9c1 : Code := { maxStack := 3, maxLocals := 3, code := jdk_35_method_26_code, exceptionTable := #[], attributes := #[] }
def k9m1 : Method := { name := "<init>", desc := "(J)V", sig := { parameters := [.long], returnType := none }, accessFlags := 1, code := some k9c1 }
/-- java/lang/Long -/
def k9 : Class := { plain "java/lang/Long" (some 5) with
  accessFlags := 49
  interfaces := #[6, 7, 8]
  cf := some (fileOf pool9 1 #[.nestMembers #[235]] #[{ accessFlags := 9, nameIndex := 85, descriptorIndex := 229, attributes := #[] }, { accessFlags := 1, nameIndex := 59, descriptorIndex := 242, attributes := #[] }] 49 271 #[363, 365, 367] #[{ accessFlags := 25, nameIndex := 369, descriptorIndex := 276, attributes := #[] }, { accessFlags := 25, nameIndex := 371, descriptorIndex := 276, attributes := #[] }, { accessFlags := 25, nameIndex := 361, descriptorIndex := 362, attributes := #[] }, { accessFlags := 18, nameIndex := 275, descriptorIndex := 276, attributes := #[] }, { accessFlags := 25, nameIndex := 376, descriptorIndex := 377, attributes := #[] }, { accessFlags := 25, nameIndex := 379, descriptorIndex := 377, attributes := #[] }, { accessFlags := 26, nameIndex := 381, descriptorIndex := 276, attributes := #[] }])
  fields := #[{ name := "MIN_VALUE", type := .long, accessFlags := 25, slot := 0, constantValue := 0 }, { name := "MAX_VALUE", type := .long, accessFlags := 25, slot := 1, constantValue := 0 }, { name := "TYPE", type := (.object "java/lang/Class"), accessFlags := 25, slot := 2, constantValue := 0 }, { name := "value", type := .long, accessFlags := 18, slot := 0, constantValue := 0 }, { name := "SIZE", type := .int, accessFlags := 25, slot := 3, constantValue := 0 }, { name := "BYTES", type := .int, accessFlags := 25, slot := 4, constantValue := 0 }, { name := "serialVersionUID", type := .long, accessFlags := 26, slot := 5, constantValue := 0 }]
  methods := #[k9m0, k9m1]
  instanceTypes := #[.long]
  staticTypes := #[.long, .long, (.object "java/lang/Class"), .int, .int, .long]
  resolved := Array.replicate 524 none
  statics := none }

def pool10 : Array CpInfo := pool [(2, .class_ 4), (1, u "java/lang/Object"), (0, u "<init>"), (0, u "()V"), (0, .class_ 8), (0, u "java/lang/Long"), (7, .class_ 18), (1, u "java/lang/Long$LongCache"), (0, u "$assertionsDisabled"), (0, u "Z"), (8, u "archivedCache"), (0, u "[Ljava/lang/Long;"), (7, u "cache")] 24

def k10m0 : Method := { name := "<init>", desc := "()V", sig := { parameters := [], returnType := none }, accessFlags := 2, code := none }
/-- java/lang/Long$LongCache -/
def k10 : Class := { plain "java/lang/Long$LongCache" (some 0) with
  accessFlags := 48
  interfaces := #[]
  cf := some (fileOf pool10 16 #[.nestHost 7] #[{ accessFlags := 2, nameIndex := 5, descriptorIndex := 6, attributes := #[] }] 48 2 #[] #[{ accessFlags := 24, nameIndex := 38, descriptorIndex := 30, attributes := #[] }, { accessFlags := 8, nameIndex := 29, descriptorIndex := 30, attributes := #[] }, { accessFlags := 4120, nameIndex := 19, descriptorIndex := 20, attributes := #[] }])
  fields := #[{ name := "cache", type := (.array (.object "java/lang/Long")), accessFlags := 24, slot := 0, constantValue := 0 }, { name := "archivedCache", type := (.array (.object "java/lang/Long")), accessFlags := 8, slot := 1, constantValue := 0 }, { name := "$assertionsDisabled", type := .boolean, accessFlags := 4120, slot := 2, constantValue := 0 }]
  methods := #[k10m0]
  instanceTypes := #[]
  staticTypes := #[(.array (.object "java/lang/Long")), (.array (.object "java/lang/Long")), .boolean]
  resolved := Array.replicate 63 none
  statics := some 0 }

def pool11 : Array CpInfo := pool [(1, u "java/lang/Cloneable"), (0, .class_ 1), (0, u "java/lang/Object"), (0, .class_ 3)] 3

/-- java/lang/Cloneable -/
def k11 : Class := { plain "java/lang/Cloneable" (some 0) with
  accessFlags := 1537
  interfaces := #[]
  cf := some (fileOf pool11 2 #[] #[] 1537 4 #[] #[])
  fields := #[]
  methods := #[]
  instanceTypes := #[]
  staticTypes := #[]
  resolved := Array.replicate 8 none
  statics := none }

/-- the primitive byte -/
def k12 : Class := { plain "byte" none with kind := .primitive 'B', accessFlags := 0x411 }
/-- [B -/
def k13 : Class := { plain "[B" (some 0) with kind := .array 12 .byte, interfaces := #[11, 4], accessFlags := 1041 }

/-- the primitive int -/
def k14 : Class := { plain "int" none with kind := .primitive 'I', accessFlags := 0x411 }
/-- [I -/
def k15 : Class := { plain "[I" (some 0) with kind := .array 14 .int, interfaces := #[11, 4], accessFlags := 1041 }

/-- [Ljava/lang/Long; -/
def k16 : Class := { plain "[Ljava/lang/Long;" (some 0) with kind := .array 9 (.object "java/lang/Long"), interfaces := #[11, 4], accessFlags := 1041 }

def heap : Heap := #[{ cls := 10, slots := #[.ref 1, .null, .int 0], vm := .statics 10 },
  { cls := 16, slots := #[.ref 2, .ref 3, .ref 4, .ref 5, .ref 6, .ref 7, .ref 8, .ref 9, .ref 10, .ref 11, .ref 12, .ref 13, .ref 14, .ref 15, .ref 16, .ref 17, .ref 18, .ref 19, .ref 20, .ref 21, .ref 22, .ref 23, .ref 24, .ref 25, .ref 26, .ref 27, .ref 28, .ref 29, .ref 30, .ref 31, .ref 32, .ref 33, .ref 34, .ref 35, .ref 36, .ref 37, .ref 38, .ref 39, .ref 40, .ref 41, .ref 42, .ref 43, .ref 44, .ref 45, .ref 46, .ref 47, .ref 48, .ref 49, .ref 50, .ref 51, .ref 52, .ref 53, .ref 54, .ref 55, .ref 56, .ref 57, .ref 58, .ref 59, .ref 60, .ref 61, .ref 62, .ref 63, .ref 64, .ref 65, .ref 66, .ref 67, .ref 68, .ref 69, .ref 70, .ref 71, .ref 72, .ref 73, .ref 74, .ref 75, .ref 76, .ref 77, .ref 78, .ref 79, .ref 80, .ref 81, .ref 82, .ref 83, .ref 84, .ref 85, .ref 86, .ref 87, .ref 88, .ref 89, .ref 90, .ref 91, .ref 92, .ref 93, .ref 94, .ref 95, .ref 96, .ref 97, .ref 98, .ref 99, .ref 100, .ref 101, .ref 102, .ref 103, .ref 104, .ref 105, .ref 106, .ref 107, .ref 108, .ref 109, .ref 110, .ref 111, .ref 112, .ref 113, .ref 114, .ref 115, .ref 116, .ref 117, .ref 118, .ref 119, .ref 120, .ref 121, .ref 122, .ref 123, .ref 124, .ref 125, .ref 126, .ref 127, .ref 128, .ref 129, .ref 130, .ref 131, .ref 132, .ref 133, .ref 134, .ref 135, .ref 136, .ref 137, .ref 138, .ref 139, .ref 140, .ref 141, .ref 142, .ref 143, .ref 144, .ref 145, .ref 146, .ref 147, .ref 148, .ref 149, .ref 150, .ref 151, .ref 152, .ref 153, .ref 154, .ref 155, .ref 156, .ref 157, .ref 158, .ref 159, .ref 160, .ref 161, .ref 162, .ref 163, .ref 164, .ref 165, .ref 166, .ref 167, .ref 168, .ref 169, .ref 170, .ref 171, .ref 172, .ref 173, .ref 174, .ref 175, .ref 176, .ref 177, .ref 178, .ref 179, .ref 180, .ref 181, .ref 182, .ref 183, .ref 184, .ref 185, .ref 186, .ref 187, .ref 188, .ref 189, .ref 190, .ref 191, .ref 192, .ref 193, .ref 194, .ref 195, .ref 196, .ref 197, .ref 198, .ref 199, .ref 200, .ref 201, .ref 202, .ref 203, .ref 204, .ref 205, .ref 206, .ref 207, .ref 208, .ref 209, .ref 210, .ref 211, .ref 212, .ref 213, .ref 214, .ref 215, .ref 216, .ref 217, .ref 218, .ref 219, .ref 220, .ref 221, .ref 222, .ref 223, .ref 224, .ref 225, .ref 226, .ref 227, .ref 228, .ref 229, .ref 230, .ref 231, .ref 232, .ref 233, .ref 234, .ref 235, .ref 236, .ref 237, .ref 238, .ref 239, .ref 240, .ref 241, .ref 242, .ref 243, .ref 244, .ref 245, .ref 246, .ref 247, .ref 248, .ref 249, .ref 250, .ref 251, .ref 252, .ref 253, .ref 254, .ref 255, .ref 256, .ref 257], vm := .none },
  { cls := 9, slots := #[.long (-128)], vm := .none },
  { cls := 9, slots := #[.long (-127)], vm := .none },
  { cls := 9, slots := #[.long (-126)], vm := .none },
  { cls := 9, slots := #[.long (-125)], vm := .none },
  { cls := 9, slots := #[.long (-124)], vm := .none },
  { cls := 9, slots := #[.long (-123)], vm := .none },
  { cls := 9, slots := #[.long (-122)], vm := .none },
  { cls := 9, slots := #[.long (-121)], vm := .none },
  { cls := 9, slots := #[.long (-120)], vm := .none },
  { cls := 9, slots := #[.long (-119)], vm := .none },
  { cls := 9, slots := #[.long (-118)], vm := .none },
  { cls := 9, slots := #[.long (-117)], vm := .none },
  { cls := 9, slots := #[.long (-116)], vm := .none },
  { cls := 9, slots := #[.long (-115)], vm := .none },
  { cls := 9, slots := #[.long (-114)], vm := .none },
  { cls := 9, slots := #[.long (-113)], vm := .none },
  { cls := 9, slots := #[.long (-112)], vm := .none },
  { cls := 9, slots := #[.long (-111)], vm := .none },
  { cls := 9, slots := #[.long (-110)], vm := .none },
  { cls := 9, slots := #[.long (-109)], vm := .none },
  { cls := 9, slots := #[.long (-108)], vm := .none },
  { cls := 9, slots := #[.long (-107)], vm := .none },
  { cls := 9, slots := #[.long (-106)], vm := .none },
  { cls := 9, slots := #[.long (-105)], vm := .none },
  { cls := 9, slots := #[.long (-104)], vm := .none },
  { cls := 9, slots := #[.long (-103)], vm := .none },
  { cls := 9, slots := #[.long (-102)], vm := .none },
  { cls := 9, slots := #[.long (-101)], vm := .none },
  { cls := 9, slots := #[.long (-100)], vm := .none },
  { cls := 9, slots := #[.long (-99)], vm := .none },
  { cls := 9, slots := #[.long (-98)], vm := .none },
  { cls := 9, slots := #[.long (-97)], vm := .none },
  { cls := 9, slots := #[.long (-96)], vm := .none },
  { cls := 9, slots := #[.long (-95)], vm := .none },
  { cls := 9, slots := #[.long (-94)], vm := .none },
  { cls := 9, slots := #[.long (-93)], vm := .none },
  { cls := 9, slots := #[.long (-92)], vm := .none },
  { cls := 9, slots := #[.long (-91)], vm := .none },
  { cls := 9, slots := #[.long (-90)], vm := .none },
  { cls := 9, slots := #[.long (-89)], vm := .none },
  { cls := 9, slots := #[.long (-88)], vm := .none },
  { cls := 9, slots := #[.long (-87)], vm := .none },
  { cls := 9, slots := #[.long (-86)], vm := .none },
  { cls := 9, slots := #[.long (-85)], vm := .none },
  { cls := 9, slots := #[.long (-84)], vm := .none },
  { cls := 9, slots := #[.long (-83)], vm := .none },
  { cls := 9, slots := #[.long (-82)], vm := .none },
  { cls := 9, slots := #[.long (-81)], vm := .none },
  { cls := 9, slots := #[.long (-80)], vm := .none },
  { cls := 9, slots := #[.long (-79)], vm := .none },
  { cls := 9, slots := #[.long (-78)], vm := .none },
  { cls := 9, slots := #[.long (-77)], vm := .none },
  { cls := 9, slots := #[.long (-76)], vm := .none },
  { cls := 9, slots := #[.long (-75)], vm := .none },
  { cls := 9, slots := #[.long (-74)], vm := .none },
  { cls := 9, slots := #[.long (-73)], vm := .none },
  { cls := 9, slots := #[.long (-72)], vm := .none },
  { cls := 9, slots := #[.long (-71)], vm := .none },
  { cls := 9, slots := #[.long (-70)], vm := .none },
  { cls := 9, slots := #[.long (-69)], vm := .none },
  { cls := 9, slots := #[.long (-68)], vm := .none },
  { cls := 9, slots := #[.long (-67)], vm := .none },
  { cls := 9, slots := #[.long (-66)], vm := .none },
  { cls := 9, slots := #[.long (-65)], vm := .none },
  { cls := 9, slots := #[.long (-64)], vm := .none },
  { cls := 9, slots := #[.long (-63)], vm := .none },
  { cls := 9, slots := #[.long (-62)], vm := .none },
  { cls := 9, slots := #[.long (-61)], vm := .none },
  { cls := 9, slots := #[.long (-60)], vm := .none },
  { cls := 9, slots := #[.long (-59)], vm := .none },
  { cls := 9, slots := #[.long (-58)], vm := .none },
  { cls := 9, slots := #[.long (-57)], vm := .none },
  { cls := 9, slots := #[.long (-56)], vm := .none },
  { cls := 9, slots := #[.long (-55)], vm := .none },
  { cls := 9, slots := #[.long (-54)], vm := .none },
  { cls := 9, slots := #[.long (-53)], vm := .none },
  { cls := 9, slots := #[.long (-52)], vm := .none },
  { cls := 9, slots := #[.long (-51)], vm := .none },
  { cls := 9, slots := #[.long (-50)], vm := .none },
  { cls := 9, slots := #[.long (-49)], vm := .none },
  { cls := 9, slots := #[.long (-48)], vm := .none },
  { cls := 9, slots := #[.long (-47)], vm := .none },
  { cls := 9, slots := #[.long (-46)], vm := .none },
  { cls := 9, slots := #[.long (-45)], vm := .none },
  { cls := 9, slots := #[.long (-44)], vm := .none },
  { cls := 9, slots := #[.long (-43)], vm := .none },
  { cls := 9, slots := #[.long (-42)], vm := .none },
  { cls := 9, slots := #[.long (-41)], vm := .none },
  { cls := 9, slots := #[.long (-40)], vm := .none },
  { cls := 9, slots := #[.long (-39)], vm := .none },
  { cls := 9, slots := #[.long (-38)], vm := .none },
  { cls := 9, slots := #[.long (-37)], vm := .none },
  { cls := 9, slots := #[.long (-36)], vm := .none },
  { cls := 9, slots := #[.long (-35)], vm := .none },
  { cls := 9, slots := #[.long (-34)], vm := .none },
  { cls := 9, slots := #[.long (-33)], vm := .none },
  { cls := 9, slots := #[.long (-32)], vm := .none },
  { cls := 9, slots := #[.long (-31)], vm := .none },
  { cls := 9, slots := #[.long (-30)], vm := .none },
  { cls := 9, slots := #[.long (-29)], vm := .none },
  { cls := 9, slots := #[.long (-28)], vm := .none },
  { cls := 9, slots := #[.long (-27)], vm := .none },
  { cls := 9, slots := #[.long (-26)], vm := .none },
  { cls := 9, slots := #[.long (-25)], vm := .none },
  { cls := 9, slots := #[.long (-24)], vm := .none },
  { cls := 9, slots := #[.long (-23)], vm := .none },
  { cls := 9, slots := #[.long (-22)], vm := .none },
  { cls := 9, slots := #[.long (-21)], vm := .none },
  { cls := 9, slots := #[.long (-20)], vm := .none },
  { cls := 9, slots := #[.long (-19)], vm := .none },
  { cls := 9, slots := #[.long (-18)], vm := .none },
  { cls := 9, slots := #[.long (-17)], vm := .none },
  { cls := 9, slots := #[.long (-16)], vm := .none },
  { cls := 9, slots := #[.long (-15)], vm := .none },
  { cls := 9, slots := #[.long (-14)], vm := .none },
  { cls := 9, slots := #[.long (-13)], vm := .none },
  { cls := 9, slots := #[.long (-12)], vm := .none },
  { cls := 9, slots := #[.long (-11)], vm := .none },
  { cls := 9, slots := #[.long (-10)], vm := .none },
  { cls := 9, slots := #[.long (-9)], vm := .none },
  { cls := 9, slots := #[.long (-8)], vm := .none },
  { cls := 9, slots := #[.long (-7)], vm := .none },
  { cls := 9, slots := #[.long (-6)], vm := .none },
  { cls := 9, slots := #[.long (-5)], vm := .none },
  { cls := 9, slots := #[.long (-4)], vm := .none },
  { cls := 9, slots := #[.long (-3)], vm := .none },
  { cls := 9, slots := #[.long (-2)], vm := .none },
  { cls := 9, slots := #[.long (-1)], vm := .none },
  { cls := 9, slots := #[.long 0], vm := .none },
  { cls := 9, slots := #[.long 1], vm := .none },
  { cls := 9, slots := #[.long 2], vm := .none },
  { cls := 9, slots := #[.long 3], vm := .none },
  { cls := 9, slots := #[.long 4], vm := .none },
  { cls := 9, slots := #[.long 5], vm := .none },
  { cls := 9, slots := #[.long 6], vm := .none },
  { cls := 9, slots := #[.long 7], vm := .none },
  { cls := 9, slots := #[.long 8], vm := .none },
  { cls := 9, slots := #[.long 9], vm := .none },
  { cls := 9, slots := #[.long 10], vm := .none },
  { cls := 9, slots := #[.long 11], vm := .none },
  { cls := 9, slots := #[.long 12], vm := .none },
  { cls := 9, slots := #[.long 13], vm := .none },
  { cls := 9, slots := #[.long 14], vm := .none },
  { cls := 9, slots := #[.long 15], vm := .none },
  { cls := 9, slots := #[.long 16], vm := .none },
  { cls := 9, slots := #[.long 17], vm := .none },
  { cls := 9, slots := #[.long 18], vm := .none },
  { cls := 9, slots := #[.long 19], vm := .none },
  { cls := 9, slots := #[.long 20], vm := .none },
  { cls := 9, slots := #[.long 21], vm := .none },
  { cls := 9, slots := #[.long 22], vm := .none },
  { cls := 9, slots := #[.long 23], vm := .none },
  { cls := 9, slots := #[.long 24], vm := .none },
  { cls := 9, slots := #[.long 25], vm := .none },
  { cls := 9, slots := #[.long 26], vm := .none },
  { cls := 9, slots := #[.long 27], vm := .none },
  { cls := 9, slots := #[.long 28], vm := .none },
  { cls := 9, slots := #[.long 29], vm := .none },
  { cls := 9, slots := #[.long 30], vm := .none },
  { cls := 9, slots := #[.long 31], vm := .none },
  { cls := 9, slots := #[.long 32], vm := .none },
  { cls := 9, slots := #[.long 33], vm := .none },
  { cls := 9, slots := #[.long 34], vm := .none },
  { cls := 9, slots := #[.long 35], vm := .none },
  { cls := 9, slots := #[.long 36], vm := .none },
  { cls := 9, slots := #[.long 37], vm := .none },
  { cls := 9, slots := #[.long 38], vm := .none },
  { cls := 9, slots := #[.long 39], vm := .none },
  { cls := 9, slots := #[.long 40], vm := .none },
  { cls := 9, slots := #[.long 41], vm := .none },
  { cls := 9, slots := #[.long 42], vm := .none },
  { cls := 9, slots := #[.long 43], vm := .none },
  { cls := 9, slots := #[.long 44], vm := .none },
  { cls := 9, slots := #[.long 45], vm := .none },
  { cls := 9, slots := #[.long 46], vm := .none },
  { cls := 9, slots := #[.long 47], vm := .none },
  { cls := 9, slots := #[.long 48], vm := .none },
  { cls := 9, slots := #[.long 49], vm := .none },
  { cls := 9, slots := #[.long 50], vm := .none },
  { cls := 9, slots := #[.long 51], vm := .none },
  { cls := 9, slots := #[.long 52], vm := .none },
  { cls := 9, slots := #[.long 53], vm := .none },
  { cls := 9, slots := #[.long 54], vm := .none },
  { cls := 9, slots := #[.long 55], vm := .none },
  { cls := 9, slots := #[.long 56], vm := .none },
  { cls := 9, slots := #[.long 57], vm := .none },
  { cls := 9, slots := #[.long 58], vm := .none },
  { cls := 9, slots := #[.long 59], vm := .none },
  { cls := 9, slots := #[.long 60], vm := .none },
  { cls := 9, slots := #[.long 61], vm := .none },
  { cls := 9, slots := #[.long 62], vm := .none },
  { cls := 9, slots := #[.long 63], vm := .none },
  { cls := 9, slots := #[.long 64], vm := .none },
  { cls := 9, slots := #[.long 65], vm := .none },
  { cls := 9, slots := #[.long 66], vm := .none },
  { cls := 9, slots := #[.long 67], vm := .none },
  { cls := 9, slots := #[.long 68], vm := .none },
  { cls := 9, slots := #[.long 69], vm := .none },
  { cls := 9, slots := #[.long 70], vm := .none },
  { cls := 9, slots := #[.long 71], vm := .none },
  { cls := 9, slots := #[.long 72], vm := .none },
  { cls := 9, slots := #[.long 73], vm := .none },
  { cls := 9, slots := #[.long 74], vm := .none },
  { cls := 9, slots := #[.long 75], vm := .none },
  { cls := 9, slots := #[.long 76], vm := .none },
  { cls := 9, slots := #[.long 77], vm := .none },
  { cls := 9, slots := #[.long 78], vm := .none },
  { cls := 9, slots := #[.long 79], vm := .none },
  { cls := 9, slots := #[.long 80], vm := .none },
  { cls := 9, slots := #[.long 81], vm := .none },
  { cls := 9, slots := #[.long 82], vm := .none },
  { cls := 9, slots := #[.long 83], vm := .none },
  { cls := 9, slots := #[.long 84], vm := .none },
  { cls := 9, slots := #[.long 85], vm := .none },
  { cls := 9, slots := #[.long 86], vm := .none },
  { cls := 9, slots := #[.long 87], vm := .none },
  { cls := 9, slots := #[.long 88], vm := .none },
  { cls := 9, slots := #[.long 89], vm := .none },
  { cls := 9, slots := #[.long 90], vm := .none },
  { cls := 9, slots := #[.long 91], vm := .none },
  { cls := 9, slots := #[.long 92], vm := .none },
  { cls := 9, slots := #[.long 93], vm := .none },
  { cls := 9, slots := #[.long 94], vm := .none },
  { cls := 9, slots := #[.long 95], vm := .none },
  { cls := 9, slots := #[.long 96], vm := .none },
  { cls := 9, slots := #[.long 97], vm := .none },
  { cls := 9, slots := #[.long 98], vm := .none },
  { cls := 9, slots := #[.long 99], vm := .none },
  { cls := 9, slots := #[.long 100], vm := .none },
  { cls := 9, slots := #[.long 101], vm := .none },
  { cls := 9, slots := #[.long 102], vm := .none },
  { cls := 9, slots := #[.long 103], vm := .none },
  { cls := 9, slots := #[.long 104], vm := .none },
  { cls := 9, slots := #[.long 105], vm := .none },
  { cls := 9, slots := #[.long 106], vm := .none },
  { cls := 9, slots := #[.long 107], vm := .none },
  { cls := 9, slots := #[.long 108], vm := .none },
  { cls := 9, slots := #[.long 109], vm := .none },
  { cls := 9, slots := #[.long 110], vm := .none },
  { cls := 9, slots := #[.long 111], vm := .none },
  { cls := 9, slots := #[.long 112], vm := .none },
  { cls := 9, slots := #[.long 113], vm := .none },
  { cls := 9, slots := #[.long 114], vm := .none },
  { cls := 9, slots := #[.long 115], vm := .none },
  { cls := 9, slots := #[.long 116], vm := .none },
  { cls := 9, slots := #[.long 117], vm := .none },
  { cls := 9, slots := #[.long 118], vm := .none },
  { cls := 9, slots := #[.long 119], vm := .none },
  { cls := 9, slots := #[.long 120], vm := .none },
  { cls := 9, slots := #[.long 121], vm := .none },
  { cls := 9, slots := #[.long 122], vm := .none },
  { cls := 9, slots := #[.long 123], vm := .none },
  { cls := 9, slots := #[.long 124], vm := .none },
  { cls := 9, slots := #[.long 125], vm := .none },
  { cls := 9, slots := #[.long 126], vm := .none },
  { cls := 9, slots := #[.long 127], vm := .none }]
def classes : Array Class := #[k0, k1, k2, k3, k4, k5, k6, k7, k8, k9, k10, k11, k12, k13, k14, k15, k16]
def interned : List (Array UInt16 × Addr) := []
def slotsUsed : Nat := 515
def theMethod : MethodId := ⟨1, 1⟩
def args0 : Array Value := #[.long 5, .long 7, .long 5, .long 7, .long 3, .long 9]
def aboutOver (below : List Frame) : State where
  vm := { classes := classes, interned := interned.toArray }
  heap := heap
  slotsUsed := slotsUsed
  threads := #[{ frames := .invoking theMethod args0 :: below }]
def below0 : List Frame := [.native { method := ⟨0, 0⟩, args := #[] }]
def about1 : State := aboutOver below0
def p0 : Program := .bare "" "" ""
def e0 : Env := launch0.env 0 0 0
theorem w_frames : about1.frames = Frame.invoking theMethod args0 :: below0 := rfl
set_option maxRecDepth 65536 in
theorem w_args : argsFit about1.vm theMethod args0 = true := by decide +kernel
set_option maxRecDepth 65536 in
theorem w_heap : heapFits about1 = true := by decide +kernel
set_option maxRecDepth 65536 in
theorem w_runnable : about1.curStatus? = some .runnable := by decide +kernel
set_option maxRecDepth 65536 in
theorem w_alone : about1.alone = true := by decide +kernel
set_option maxRecDepth 65536 in
theorem w_named : about1.methodNamed? x = some theMethod := by decide +kernel
set_option maxRecDepth 65536 in
theorem w_hears : about1.hears theMethod below0 = true := by decide +kernel
set_option maxRecDepth 65536 in
theorem w_ripe : about1.ripe theMethod args0 below0 = true := by decide +kernel
theorem w_running : about1.status = .running := rfl
set_option maxRecDepth 65536 in
theorem w_room : about1.hasRoom e0.platform room_1 = true :=
  launch0.hasRoom_least _ room_1 (by decide +kernel) (by decide +kernel) (by decide +kernel) (by decide +kernel) (by decide +kernel) (by decide +kernel)
theorem allAtoms_all (ts : List Jvm.Cond) (a : Array Jvm.Value) (st : Jvm.State) : (allAtoms ts).before a st = ts.all (fun c => c.before a st) := by
  induction ts with
  | nil => rfl
  | cons c t ih =>
    show (Jvm.Cond.and c (allAtoms t)).before a st = _
    rw [Jvm.Cond.before_and, ih, List.all_cons]
def words1 : List Jvm.Cond := Jvm.Cond.code x code maxLocals ret :: tables_1
/-- a 'code' word, met by the world's own term for the bytes: nothing is compared byte by byte -/
theorem code_word {y : MethodName} {bytes : ByteArray} {mx : Nat} {rt : Option FieldType} {a : Array Value} {s : State} {m : MethodId} {meth : Method} {c : Code} (h1 : s.methodNamed? y = some m) (h2 : s.vm.method? m = some meth) (h3 : meth.code = some c) (h4 : c.code = bytes)
    (h5 : (c.maxLocals == mx && c.exceptionTable.isEmpty && decide (c.maxStack ≤ mostOperands) && decide (meth.sig.returnType = rt) && !meth.locks && decide (parseMethodDescriptor y.desc = some meth.sig)) = true) : (Jvm.Cond.code y bytes mx rt).before a s = true := by
  simp only [Bool.and_eq_true, beq_iff_eq, Bool.not_eq_true', decide_eq_true_eq] at h5
  obtain ⟨⟨⟨⟨⟨g1, g2⟩, g3⟩, g4⟩, g5⟩, g6⟩ := h5
  simp [Cond.before, Cond.holds, Cond.value, h1, h2, h3, h4, g1, g2, g3, g4, g5, g6]
def isCode : Jvm.Cond → Bool
  | .code _ _ _ _ => true
  | _ => false
theorem all_split {L : List Jvm.Cond} {P : Jvm.Cond → Bool} (h1 : L.all (fun c => isCode c || P c) = true) (h2 : ∀ c ∈ L.filter isCode, P c = true) : L.all P = true := by
  refine List.all_eq_true.mpr fun c hc => ?_
  have h := List.all_eq_true.mp h1 c hc
  rcases Bool.eq_false_or_eq_true (isCode c) with hi | hi
  · exact h2 c (List.mem_filter.mpr ⟨hc, hi⟩)
  · simpa [hi] using h
set_option maxRecDepth 65536 in
theorem w_c0 : (Jvm.Cond.code x code maxLocals ret).before args0 about1 = true := code_word (m := ⟨1, 1⟩) (meth := k1m1) (c := k1c1) (by decide +kernel) rfl rfl rfl (by decide +kernel)
set_option maxRecDepth 65536 in
theorem w_c1 : (Jvm.Cond.code ({ cls := "java/lang/Math", name := "max", desc := "(JJ)J" } : Jvm.MethodName) jdk_29_method_66_code (4 : Nat) (Option.some Jvm.ClassFile.FieldType.long)).before args0 about1 = true := code_word (m := ⟨2, 1⟩) (meth := k2m1) (c := k2c1) (by decide +kernel) rfl rfl rfl (by decide +kernel)
set_option maxRecDepth 65536 in
theorem w_c2 : (Jvm.Cond.code ({ cls := "com/example/balcon/balcon/storage/Mark", name := "<init>", desc := "(JJJ)V" } : Jvm.MethodName) prog_41_method_1_code (7 : Nat) (Option.none : Option Jvm.ClassFile.FieldType)).before args0 about1 = true := code_word (m := ⟨3, 0⟩) (meth := k3m0) (c := k3c0) (by decide +kernel) rfl rfl rfl (by decide +kernel)
set_option maxRecDepth 65536 in
theorem w_c3 : (Jvm.Cond.code ({ cls := "java/lang/Object", name := "<init>", desc := "()V" } : Jvm.MethodName) object_method_1_code (1 : Nat) (Option.none : Option Jvm.ClassFile.FieldType)).before args0 about1 = true := code_word (m := ⟨0, 0⟩) (meth := k0m0) (c := k0c0) (by decide +kernel) rfl rfl rfl (by decide +kernel)
set_option maxRecDepth 65536 in
theorem w_c4 : (Jvm.Cond.code ({ cls := "com/example/balcon/balcon/storage/Mark", name := "equals", desc := "(Ljava/lang/Object;)Z" } : Jvm.MethodName) prog_41_method_5_code (3 : Nat) (Option.some Jvm.ClassFile.FieldType.boolean)).before args0 about1 = true := code_word (m := ⟨3, 1⟩) (meth := k3m1) (c := k3c1) (by decide +kernel) rfl rfl rfl (by decide +kernel)
set_option maxRecDepth 65536 in
theorem w_c5 : (Jvm.Cond.code ({ cls := "java/lang/Long", name := "valueOf", desc := "(J)Ljava/lang/Long;" } : Jvm.MethodName) jdk_35_method_24_code (3 : Nat) (Option.some (Jvm.ClassFile.FieldType.object "java/lang/Long"))).before args0 about1 = true := code_word (m := ⟨9, 0⟩) (meth := k9m0) (c := k9c0) (by decide +kernel) rfl rfl rfl (by decide +kernel)
set_option maxRecDepth 65536 in
theorem w_c6 : (Jvm.Cond.code ({ cls := "java/lang/Long", name := "<init>", desc := "(J)V" } : Jvm.MethodName) jdk_35_method_26_code (3 : Nat) (Option.none : Option Jvm.ClassFile.FieldType)).before args0 about1 = true := code_word (m := ⟨9, 1⟩) (meth := k9m1) (c := k9c1) (by decide +kernel) rfl rfl rfl (by decide +kernel)
set_option maxRecDepth 65536 in
theorem w_c7 : (Jvm.Cond.code ({ cls := "java/lang/Number", name := "<init>", desc := "()V" } : Jvm.MethodName) jdk_18_method_1_code (1 : Nat) (Option.none : Option Jvm.ClassFile.FieldType)).before args0 about1 = true := code_word (m := ⟨5, 0⟩) (meth := k5m0) (c := k5c0) (by decide +kernel) rfl rfl rfl (by decide +kernel)
def codes1 : List Jvm.Cond := [Jvm.Cond.code x code maxLocals ret, Jvm.Cond.code ({ cls := "java/lang/Math", name := "max", desc := "(JJ)J" } : Jvm.MethodName) jdk_29_method_66_code (4 : Nat) (Option.some Jvm.ClassFile.FieldType.long), Jvm.Cond.code ({ cls := "com/example/balcon/balcon/storage/Mark", name := "<init>", desc := "(JJJ)V" } : Jvm.MethodName) prog_41_method_1_code (7 : Nat) (Option.none : Option Jvm.ClassFile.FieldType), Jvm.Cond.code ({ cls := "java/lang/Object", name := "<init>", desc := "()V" } : Jvm.MethodName) object_method_1_code (1 : Nat) (Option.none : Option Jvm.ClassFile.FieldType), Jvm.Cond.code ({ cls := "com/example/balcon/balcon/storage/Mark", name := "equals", desc := "(Ljava/lang/Object;)Z" } : Jvm.MethodName) prog_41_method_5_code (3 : Nat) (Option.some Jvm.ClassFile.FieldType.boolean), Jvm.Cond.code ({ cls := "java/lang/Long", name := "valueOf", desc := "(J)Ljava/lang/Long;" } : Jvm.MethodName) jdk_35_method_24_code (3 : Nat) (Option.some (Jvm.ClassFile.FieldType.object "java/lang/Long")), Jvm.Cond.code ({ cls := "java/lang/Long", name := "<init>", desc := "(J)V" } : Jvm.MethodName) jdk_35_method_26_code (3 : Nat) (Option.none : Option Jvm.ClassFile.FieldType), Jvm.Cond.code ({ cls := "java/lang/Number", name := "<init>", desc := "()V" } : Jvm.MethodName) jdk_18_method_1_code (1 : Nat) (Option.none : Option Jvm.ClassFile.FieldType)]
set_option maxRecDepth 65536 in
theorem codes_eq : words1.filter isCode = codes1 := rfl
theorem w_codes : ∀ c ∈ words1.filter isCode, c.before args0 about1 = true := by
  rw [codes_eq]
  intro c hc
  simp only [codes1, List.mem_cons, List.not_mem_nil, or_false] at hc
  rcases hc with rfl | rfl | rfl | rfl | rfl | rfl | rfl | rfl
  · exact w_c0
  · exact w_c1
  · exact w_c2
  · exact w_c3
  · exact w_c4
  · exact w_c5
  · exact w_c6
  · exact w_c7
set_option maxRecDepth 65536 in
theorem w_t1 : (words1.take 24).all (fun c => isCode c || c.before args0 about1) = true := by decide +kernel
set_option maxRecDepth 65536 in
theorem w_t2 : ((words1.drop 24).take 24).all (fun c => isCode c || c.before args0 about1) = true := by decide +kernel
set_option maxRecDepth 65536 in
theorem w_t3 : ((words1.drop 24).drop 24).all (fun c => isCode c || c.before args0 about1) = true := by decide +kernel
theorem w_tables : (allAtoms (Jvm.Cond.code x code maxLocals ret :: tables_1)).before args0 about1 = true := by
  rw [allAtoms_all]
  show words1.all (fun c => c.before args0 about1) = true
  refine all_split ?_ w_codes
  rw [← List.take_append_drop 24 words1, List.all_append, w_t1, ← List.take_append_drop 24 (words1.drop 24), List.all_append, w_t2, w_t3]
  rfl
set_option maxRecDepth 65536 in
theorem w_rest : rest_1_c.before args0 about1 = true := by decide +kernel
set_option maxRecDepth 65536 in
theorem w_case : (Jvm.Cond.and given_1 narrow_1).before args0 about1 = true := by decide +kernel
theorem w_applies : (headSpec (Jvm.Cond.code x code maxLocals ret :: tables_1) room_1).applies x e0.platform about1 = true :=
  (Spec.applies_iff w_frames).mpr ⟨w_running, w_runnable, w_alone, w_named, w_hears, w_ripe, w_room, w_tables⟩
theorem atStart : AtStart classFile x code maxLocals ret World_1 tables_1 room_1 Calls_1 rest_1 Pre_1 launch0 p0 e0 about1 theMethod args0 below0 :=
  ⟨lists_1, trivial, launch0.admits_env _ _ _, launch0.least_env, fairChoices_fair.cas, fairChoices_fair.clock, w_frames, w_args, w_heap, w_applies, trivial, w_rest, w_case⟩
end start1
theorem witness_1 : WitnessClaimed_1 := ⟨start1.p0, start1.e0, start1.about1, start1.theMethod, start1.args0, start1.below0, start1.atStart⟩
end Jvm.Pilot.@@N@@
