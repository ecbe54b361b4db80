import JvmDerived
import JvmDerived.Pilot.@@N@@Statement
import JvmDerived.Pilot.@@N@@Code
set_option linter.unusedVariables false
set_option linter.unusedSimpArgs false
namespace Jvm.Pilot.@@N@@
open Jvm Jvm.ClassFile Sem Op Lib Jvm.Free Jvm.Stand Jvm.LawKit Jvm.RoadKit Bundle Jvm.Pilot.@@N@@.Jvm.D
section OwnKit
variable {p : Program} {l : Launch} {e : Env} {R : Room} {s : State} {m : MethodId} {args : Array Value} {below : List Frame} {meth : Method} {c : Code} {T U W : State} {locs : List Loc} {cells slots : Nat} {Q : Option Value → Heap → List Loc → Prop} {K N : Nat}
/-- from U the body comes to its end, and Q holds there -/
def own_Ends (p : Program) (e : Env) (below : List Frame) (s : State) (Q : Option Value → Heap → List Loc → Prop) (K N : Nat) (U : State) : Prop :=
  ∃ s₂ o, Steps p.tables e below U s₂ ∧ s₂.status = .running ∧ Ended s₂ below o ∧ ∃ v L, o = .returned v ∧ Q v s₂.heap L ∧ FrameEnd s o s₂ L K N
theorem own_by {V : State} (h : ∀ t, Steps p.tables e below V t → Steps p.tables e below U t) (k : own_Ends p e below s Q K N V) : own_Ends p e below s Q K N U := by
  obtain ⟨s2, o, h1, h2⟩ := k; exact ⟨s2, o, h _ h1, h2⟩
theorem own_ret0 (X : Stand p l e R s m args below meth c T locs cells slots) (hx : p.tables.exec = Jvm.exec) (hlk : meth.locks = false) {h : Heap} (eT : T.heap = h) {pc : Nat} {Ls : Array Slot} (hret : meth.sig.returnType = none)
    (hd : decode c.code pc = .ok (.return_, 1)) (hQ : Q none h locs) (hK : cells ≤ K) (hN : slots ≤ N) : own_Ends p e below s Q K N (T.setTop (mkF m pc Ls [])) := by
  obtain ⟨fs, hr, hrun, hended, hW, hsame⟩ := X.leave (v := none) (fun _ => rfl) hlk
  exact ⟨_, _, X.returnOut hx hret hd hr, hrun, hended, _, _, rfl, (by subst eT; exact hQ), ⟨_, rfl⟩, hW, hsame.mono hK hN⟩
theorem own_retI (X : Stand p l e R s m args below meth c T locs cells slots) (hx : p.tables.exec = Jvm.exec) (hlk : meth.locks = false) {h : Heap} (eT : T.heap = h) {pc : Nat} {Ls : Array Slot} {z : Int32} {rest : List Value} (hret : meth.sig.returnType = some .int)
    (hd : decode c.code pc = .ok (.ireturn, 1)) (hQ : Q (some (.int z)) h locs) (hK : cells ≤ K) (hN : slots ≤ N) : own_Ends p e below s Q K N (T.setTop (mkF m pc Ls (.int z :: rest))) := by
  obtain ⟨fs, hr, hrun, hended, hW, hsame⟩ := X.leave (v := some (.int z)) (fun h => by rw [hret] at h; cases h) hlk
  exact ⟨_, _, retOut X hx hret rfl (Or.inl ⟨rfl, Or.inl rfl, z, rfl⟩) hd hr, hrun, hended, _, _, rfl, (by subst eT; exact hQ), ⟨_, rfl⟩, hW, hsame.mono hK hN⟩
theorem own_retN (X : Stand p l e R s m args below meth c T locs cells slots) (hx : p.tables.exec = Jvm.exec) (hlk : meth.locks = false) {h : Heap} (eT : T.heap = h) {pc : Nat} {Ls : Array Slot} {z : Int32} {t : FieldType} {rest : List Value} (hret : meth.sig.returnType = some t) (ht : t = .boolean ∨ t = .byte ∨ t = .char ∨ t = .short) (hz : nar t z = z)
    (hd : decode c.code pc = .ok (.ireturn, 1)) (hQ : Q (some (.int z)) h locs) (hK : cells ≤ K) (hN : slots ≤ N) : own_Ends p e below s Q K N (T.setTop (mkF m pc Ls (.int z :: rest))) := by
  obtain ⟨fs, hr, hrun, hended, hW, hsame⟩ := X.leave (v := some (.int z)) (fun h => by rw [hret] at h; cases h) hlk
  exact ⟨_, _, retN X hx hret ht hd (by rw [hz]; exact hr), hrun, hended, _, _, rfl, (by subst eT; exact hQ), ⟨_, rfl⟩, hW, hsame.mono hK hN⟩
theorem own_retL (X : Stand p l e R s m args below meth c T locs cells slots) (hx : p.tables.exec = Jvm.exec) (hlk : meth.locks = false) {h : Heap} (eT : T.heap = h) {pc : Nat} {Ls : Array Slot} {z : Int64} {rest : List Value} (hret : meth.sig.returnType = some .long)
    (hd : decode c.code pc = .ok (.lreturn, 1)) (hQ : Q (some (.long z)) h locs) (hK : cells ≤ K) (hN : slots ≤ N) : own_Ends p e below s Q K N (T.setTop (mkF m pc Ls (.long z :: rest))) := by
  obtain ⟨fs, hr, hrun, hended, hW, hsame⟩ := X.leave (v := some (.long z)) (fun h => by rw [hret] at h; cases h) hlk
  exact ⟨_, _, retOut X hx hret rfl (Or.inr (Or.inl ⟨rfl, rfl, z, rfl⟩)) hd hr, hrun, hended, _, _, rfl, (by subst eT; exact hQ), ⟨_, rfl⟩, hW, hsame.mono hK hN⟩
theorem own_retA (X : Stand p l e R s m args below meth c T locs cells slots) (hx : p.tables.exec = Jvm.exec) (hlk : meth.locks = false) {h : Heap} (eT : T.heap = h) {pc : Nat} {Ls : Array Slot} {w : Value} {t : FieldType} {rest : List Value} (hw : w.isRef = true) (hret : meth.sig.returnType = some t) (ht : t.isReference = true)
    (hd : decode c.code pc = .ok (.areturn, 1)) (hQ : Q (some w) h locs) (hK : cells ≤ K) (hN : slots ≤ N) : own_Ends p e below s Q K N (T.setTop (mkF m pc Ls (w :: rest))) := by
  obtain ⟨fs, hr, hrun, hended, hW, hsame⟩ := X.leave (v := some w) (fun h => by rw [hret] at h; cases h) hlk
  exact ⟨_, _, retOut X hx hret (by cases t <;> cases w <;> first | rfl | (simp [FieldType.isReference] at ht) | (simp [Value.isRef] at hw)) (Or.inr (Or.inr (Or.inr (Or.inr ⟨rfl, ht, hw⟩)))) hd hr, hrun, hended, _, _, rfl, (by subst eT; exact hQ), ⟨_, rfl⟩, hW, hsame.mono hK hN⟩

theorem own_neg1 : (-1 : Int32).toInt = -1 := rfl
end OwnKit
theorem own_selPriv {s : State} {args args' : Array Value} {y : MethodName} {n : Nat} (wi : (Cond.instantiable y.cls n).before args s = true) (wp : (Cond.privateMethod y).before args' s = true) (wm : (Cond.instanceMethod y).before args s = true) (hy : y.cls ≠ "java/lang/invoke/MethodHandle" ∧ y.cls ≠ "java/lang/invoke/VarHandle") : (Cond.selects y.cls y y).before args s = true := by
  obtain ⟨c, k, h1, h2, h3, h4, -⟩ := Cond.instantiable_spec wi
  exact selects_self_of_private h1 h2 (Bool.or_eq_false_iff.mp h4).1 (Cond.privateMethod_at wp) wm hy
section OwnWords
variable {args : Array Value} {s : State} {t : Term} {x : Addr} {C n d : String} {cl : Cell} {ty : FieldType}
theorem own_evI {k : Int32} (h : (Cond.eq t (.int k)).value args s none s [] = some true) : t.eval args s none [] s = some (.int k) := by
  obtain ⟨y, z, h1, h2, h3, -⟩ := cmp_v (Or.inl h)
  have h2' : z = .int k := (Option.some.inj h2).symm
  subst h2'
  cases y with
  | int v =>
    have q : v = k := by simpa [Cond.value, h1, Term.eval] using h
    rw [h1, q]
  | _ => simp [Kin, Value.isRef] at h3
theorem own_fldS {k : Int32} (ht : t.eval args s none [] s = some (.ref x)) (h : (Cond.eq (.field t C n d) (.int k)).value args s none s [] = some true) : Fld s s.heap x C n d (.int k) :=
  Fld.start ((fld_at ht).symm.trans (own_evI h))
theorem own_lenEv {k : Int32} (ev : t.eval args s none [] s = some (.ref x)) (A : Arr s s.heap x cl ty) (h : (Cond.eq (.length t) (.int k)).value args s none s [] = some true) : cl.slots.size.toInt32 = k ∧ cl.slots.size < 2 ^ 31 := by
  have e := own_evI h
  have hat := A.fin (Vm.Alike.refl _)
  simp only [Term.eval, ev, hat, Option.bind_eq_bind, Option.bind_some] at e
  split at e
  · rename_i hlt
    exact ⟨Value.int.inj (Option.some.inj e), hlt⟩
  · cases e
theorem own_len256 (ev : t.eval args s none [] s = some (.ref x)) (A : Arr s s.heap x cl ty) (h : (Cond.eq (.length t) (.int 256)).value args s none s [] = some true) : cl.slots.size = 256 := by
  obtain ⟨h1, h2⟩ := own_lenEv ev A h
  have q := len_toInt h2
  rw [h1] at q
  have q' : (256 : Int32).toInt = 256 := rfl
  omega
theorem own_cacheEl {K : String} {E : Jvm.Cond} (ev : (Term.static K n d).eval args s none [] s = some (.ref x)) (A : Arr s s.heap x cl ty) (hsz : cl.slots.size = 256) (h : (Cond.all (.static K n d) (.and (.exactly (.elem (.static K n d) (.index 0)) C) E)).value args s none s [] = some true) : ∀ j, j < 256 → ∃ b, cl.slots[j]? = some (.ref b) ∧ Exa s s.heap b C := by
  intro j hj
  have hat := A.fin (Vm.Alike.refl _)
  obtain ⟨h1, -⟩ := and_e (Cond.all_elim ev hat h j (by rw [hsz]; exact hj))
  obtain ⟨b, eb⟩ := exa_v h1
  have evj : (Term.static K n d).eval args s none [j] s = some (.ref x) := ev
  have q := (elem_in eb evj (Term.index_eval j) A.1).2
  rw [show j.toInt32 = Int32.ofNat j from rfl, Int32.toNatClampNeg_ofNat_of_lt (by omega)] at q
  exact ⟨b, q, exa_at eb h1⟩
theorem own_elemI {i k : Int32} (ev : t.eval args s none [] s = some (.ref x)) (A : Arr s s.heap x cl ty) (h : (Cond.eq (.elem t (.int i)) (.int k)).value args s none s [] = some true) : ¬ (i < 0 ∨ cl.slots.size ≤ i.toNatClampNeg) ∧ cl.slots[i.toNatClampNeg]? = some (.int k) :=
  elem_in (own_evI h) ev (Term.int_eval i) A.1
end OwnWords

theorem own_d_jdk_33_40_0 : decode jdk_33_method_40_code 0 = .ok (.iload_n 0, 1) := by decide +kernel
theorem own_d_jdk_33_40_1 : decode jdk_33_method_40_code 1 = .ok (.iload_n 1, 1) := by decide +kernel
theorem own_d_jdk_33_40_2 : decode jdk_33_method_40_code 2 = .ok (.if_icmp .ge 7, 3) := by decide +kernel
theorem own_d_jdk_33_40_5 : decode jdk_33_method_40_code 5 = .ok (.iconst (-1), 1) := by decide +kernel
theorem own_d_jdk_33_40_6 : decode jdk_33_method_40_code 6 = .ok (.goto 13, 3) := by decide +kernel
theorem own_d_jdk_33_40_9 : decode jdk_33_method_40_code 9 = .ok (.iload_n 0, 1) := by decide +kernel
theorem own_d_jdk_33_40_10 : decode jdk_33_method_40_code 10 = .ok (.iload_n 1, 1) := by decide +kernel
theorem own_d_jdk_33_40_11 : decode jdk_33_method_40_code 11 = .ok (.if_icmp .ne 7, 3) := by decide +kernel
theorem own_d_jdk_33_40_14 : decode jdk_33_method_40_code 14 = .ok (.iconst 0, 1) := by decide +kernel
theorem own_d_jdk_33_40_15 : decode jdk_33_method_40_code 15 = .ok (.goto 4, 3) := by decide +kernel
theorem own_d_jdk_33_40_18 : decode jdk_33_method_40_code 18 = .ok (.iconst 1, 1) := by decide +kernel
theorem own_d_jdk_33_40_19 : decode jdk_33_method_40_code 19 = .ok (.ireturn, 1) := by decide +kernel
theorem own_d_jdk_37_2_0 : decode jdk_37_method_2_code 0 = .ok (.aload_n 0, 1) := by decide +kernel
theorem own_d_jdk_37_2_1 : decode jdk_37_method_2_code 1 = .ok (.getfield 7, 3) := by decide +kernel
theorem own_d_jdk_37_2_4 : decode jdk_37_method_2_code 4 = .ok (.ireturn, 1) := by decide +kernel
theorem own_d_prog_53_10_0 : decode prog_53_method_10_code 0 = .ok (.iload_n 1, 1) := by decide +kernel
theorem own_d_prog_53_10_1 : decode prog_53_method_10_code 1 = .ok (.bipush 13, 2) := by decide +kernel
theorem own_d_prog_53_10_3 : decode prog_53_method_10_code 3 = .ok (.if_icmp .eq 9, 3) := by decide +kernel
theorem own_d_prog_53_10_6 : decode prog_53_method_10_code 6 = .ok (.iload_n 1, 1) := by decide +kernel
theorem own_d_prog_53_10_7 : decode prog_53_method_10_code 7 = .ok (.bipush 10, 2) := by decide +kernel
theorem own_d_prog_53_10_9 : decode prog_53_method_10_code 9 = .ok (.if_icmp .ne 34, 3) := by decide +kernel
theorem own_d_prog_53_10_12 : decode prog_53_method_10_code 12 = .ok (.iload_n 1, 1) := by decide +kernel
theorem own_d_prog_53_10_13 : decode prog_53_method_10_code 13 = .ok (.bipush 13, 2) := by decide +kernel
theorem own_d_prog_53_10_15 : decode prog_53_method_10_code 15 = .ok (.if_icmp .eq 10, 3) := by decide +kernel
theorem own_d_prog_53_10_18 : decode prog_53_method_10_code 18 = .ok (.aload_n 0, 1) := by decide +kernel
theorem own_d_prog_53_10_19 : decode prog_53_method_10_code 19 = .ok (.getfield 36, 3) := by decide +kernel
theorem own_d_prog_53_10_22 : decode prog_53_method_10_code 22 = .ok (.ifCond .ne 13, 3) := by decide +kernel
theorem own_d_prog_53_10_25 : decode prog_53_method_10_code 25 = .ok (.aload_n 0, 1) := by decide +kernel
theorem own_d_prog_53_10_26 : decode prog_53_method_10_code 26 = .ok (.dup, 1) := by decide +kernel
theorem own_d_prog_53_10_27 : decode prog_53_method_10_code 27 = .ok (.getfield 23, 3) := by decide +kernel
theorem own_d_prog_53_10_30 : decode prog_53_method_10_code 30 = .ok (.iconst 1, 1) := by decide +kernel
theorem own_d_prog_53_10_31 : decode prog_53_method_10_code 31 = .ok (.iadd, 1) := by decide +kernel
theorem own_d_prog_53_10_32 : decode prog_53_method_10_code 32 = .ok (.putfield 23, 3) := by decide +kernel
theorem own_d_prog_53_10_35 : decode prog_53_method_10_code 35 = .ok (.aload_n 0, 1) := by decide +kernel
theorem own_d_prog_53_10_36 : decode prog_53_method_10_code 36 = .ok (.iconst 1, 1) := by decide +kernel
theorem own_d_prog_53_10_37 : decode prog_53_method_10_code 37 = .ok (.putfield 26, 3) := by decide +kernel
theorem own_d_prog_53_10_40 : decode prog_53_method_10_code 40 = .ok (.goto 13, 3) := by decide +kernel
theorem own_d_prog_53_10_43 : decode prog_53_method_10_code 43 = .ok (.aload_n 0, 1) := by decide +kernel
theorem own_d_prog_53_10_44 : decode prog_53_method_10_code 44 = .ok (.dup, 1) := by decide +kernel
theorem own_d_prog_53_10_45 : decode prog_53_method_10_code 45 = .ok (.getfield 26, 3) := by decide +kernel
theorem own_d_prog_53_10_48 : decode prog_53_method_10_code 48 = .ok (.iconst 1, 1) := by decide +kernel
theorem own_d_prog_53_10_49 : decode prog_53_method_10_code 49 = .ok (.iadd, 1) := by decide +kernel
theorem own_d_prog_53_10_50 : decode prog_53_method_10_code 50 = .ok (.putfield 26, 3) := by decide +kernel
theorem own_d_prog_53_10_53 : decode prog_53_method_10_code 53 = .ok (.aload_n 0, 1) := by decide +kernel
theorem own_d_prog_53_10_54 : decode prog_53_method_10_code 54 = .ok (.iload_n 1, 1) := by decide +kernel
theorem own_d_prog_53_10_55 : decode prog_53_method_10_code 55 = .ok (.bipush 13, 2) := by decide +kernel
theorem own_d_prog_53_10_57 : decode prog_53_method_10_code 57 = .ok (.if_icmp .ne 7, 3) := by decide +kernel
theorem own_d_prog_53_10_60 : decode prog_53_method_10_code 60 = .ok (.iconst 1, 1) := by decide +kernel
theorem own_d_prog_53_10_61 : decode prog_53_method_10_code 61 = .ok (.goto 4, 3) := by decide +kernel
theorem own_d_prog_53_10_64 : decode prog_53_method_10_code 64 = .ok (.iconst 0, 1) := by decide +kernel
theorem own_d_prog_53_10_65 : decode prog_53_method_10_code 65 = .ok (.putfield 36, 3) := by decide +kernel
theorem own_d_prog_53_10_68 : decode prog_53_method_10_code 68 = .ok (.return_, 1) := by decide +kernel
theorem own_d_prog_53_12_0 : decode prog_53_method_12_code 0 = .ok (.aload_n 0, 1) := by decide +kernel
theorem own_d_prog_53_12_1 : decode prog_53_method_12_code 1 = .ok (.getfield 44, 3) := by decide +kernel
theorem own_d_prog_53_12_4 : decode prog_53_method_12_code 4 = .ok (.ifCond .le 48, 3) := by decide +kernel
theorem own_d_prog_53_12_52 : decode prog_53_method_12_code 52 = .ok (.iload_n 1, 1) := by decide +kernel
theorem own_d_prog_53_12_53 : decode prog_53_method_12_code 53 = .ok (.sipush 194, 3) := by decide +kernel
theorem own_d_prog_53_12_56 : decode prog_53_method_12_code 56 = .ok (.if_icmp .lt 18, 3) := by decide +kernel
theorem own_d_prog_53_12_74 : decode prog_53_method_12_code 74 = .ok (.iload_n 1, 1) := by decide +kernel
theorem own_d_prog_53_12_75 : decode prog_53_method_12_code 75 = .ok (.sipush 224, 3) := by decide +kernel
theorem own_d_prog_53_12_78 : decode prog_53_method_12_code 78 = .ok (.if_icmp .lt 58, 3) := by decide +kernel
theorem own_d_prog_53_12_136 : decode prog_53_method_12_code 136 = .ok (.iload_n 1, 1) := by decide +kernel
theorem own_d_prog_53_12_137 : decode prog_53_method_12_code 137 = .ok (.sipush 240, 3) := by decide +kernel
theorem own_d_prog_53_12_140 : decode prog_53_method_12_code 140 = .ok (.if_icmp .lt 58, 3) := by decide +kernel
theorem own_d_prog_53_12_198 : decode prog_53_method_12_code 198 = .ok (.iload_n 1, 1) := by decide +kernel
theorem own_d_prog_53_12_199 : decode prog_53_method_12_code 199 = .ok (.sipush 128, 3) := by decide +kernel
theorem own_d_prog_53_12_202 : decode prog_53_method_12_code 202 = .ok (.if_icmp .ge 7, 3) := by decide +kernel
theorem own_d_prog_53_12_205 : decode prog_53_method_12_code 205 = .ok (.iconst 1, 1) := by decide +kernel
theorem own_d_prog_53_12_206 : decode prog_53_method_12_code 206 = .ok (.goto 4, 3) := by decide +kernel
theorem own_d_prog_53_12_210 : decode prog_53_method_12_code 210 = .ok (.ireturn, 1) := by decide +kernel
theorem own_d_prog_53_1_0 : decode prog_53_method_1_code 0 = .ok (.aload_n 0, 1) := by decide +kernel
theorem own_d_prog_53_1_1 : decode prog_53_method_1_code 1 = .ok (.invokespecial 1, 3) := by decide +kernel
theorem own_d_prog_53_1_4 : decode prog_53_method_1_code 4 = .ok (.aload_n 0, 1) := by decide +kernel
theorem own_d_prog_53_1_5 : decode prog_53_method_1_code 5 = .ok (.iconst (-1), 1) := by decide +kernel
theorem own_d_prog_53_1_6 : decode prog_53_method_1_code 6 = .ok (.putfield 7, 3) := by decide +kernel
theorem own_d_prog_53_1_9 : decode prog_53_method_1_code 9 = .ok (.aload_n 0, 1) := by decide +kernel
theorem own_d_prog_53_1_10 : decode prog_53_method_1_code 10 = .ok (.sipush 128, 3) := by decide +kernel
theorem own_d_prog_53_1_13 : decode prog_53_method_1_code 13 = .ok (.putfield 13, 3) := by decide +kernel
theorem own_d_prog_53_1_16 : decode prog_53_method_1_code 16 = .ok (.aload_n 0, 1) := by decide +kernel
theorem own_d_prog_53_1_17 : decode prog_53_method_1_code 17 = .ok (.sipush 191, 3) := by decide +kernel
theorem own_d_prog_53_1_20 : decode prog_53_method_1_code 20 = .ok (.putfield 16, 3) := by decide +kernel
theorem own_d_prog_53_1_23 : decode prog_53_method_1_code 23 = .ok (.aload_n 0, 1) := by decide +kernel
theorem own_d_prog_53_1_24 : decode prog_53_method_1_code 24 = .ok (.aload_n 1, 1) := by decide +kernel
theorem own_d_prog_53_1_25 : decode prog_53_method_1_code 25 = .ok (.putfield 19, 3) := by decide +kernel
theorem own_d_prog_53_1_28 : decode prog_53_method_1_code 28 = .ok (.aload_n 0, 1) := by decide +kernel
theorem own_d_prog_53_1_29 : decode prog_53_method_1_code 29 = .ok (.iconst 1, 1) := by decide +kernel
theorem own_d_prog_53_1_30 : decode prog_53_method_1_code 30 = .ok (.putfield 23, 3) := by decide +kernel
theorem own_d_prog_53_1_33 : decode prog_53_method_1_code 33 = .ok (.aload_n 0, 1) := by decide +kernel
theorem own_d_prog_53_1_34 : decode prog_53_method_1_code 34 = .ok (.iconst 1, 1) := by decide +kernel
theorem own_d_prog_53_1_35 : decode prog_53_method_1_code 35 = .ok (.putfield 26, 3) := by decide +kernel
theorem own_d_prog_53_1_38 : decode prog_53_method_1_code 38 = .ok (.return_, 1) := by decide +kernel
theorem own_d_prog_53_5_0 : decode prog_53_method_5_code 0 = .ok (.aload_n 0, 1) := by decide +kernel
theorem own_d_prog_53_5_1 : decode prog_53_method_5_code 1 = .ok (.getfield 32, 3) := by decide +kernel
theorem own_d_prog_53_5_4 : decode prog_53_method_5_code 4 = .ok (.lreturn, 1) := by decide +kernel
theorem own_d_prog_53_6_0 : decode prog_53_method_6_code 0 = .ok (.aload_n 0, 1) := by decide +kernel
theorem own_d_prog_53_6_1 : decode prog_53_method_6_code 1 = .ok (.getfield 23, 3) := by decide +kernel
theorem own_d_prog_53_6_4 : decode prog_53_method_6_code 4 = .ok (.ireturn, 1) := by decide +kernel
theorem own_d_prog_53_7_0 : decode prog_53_method_7_code 0 = .ok (.aload_n 0, 1) := by decide +kernel
theorem own_d_prog_53_7_1 : decode prog_53_method_7_code 1 = .ok (.getfield 23, 3) := by decide +kernel
theorem own_d_prog_53_7_4 : decode prog_53_method_7_code 4 = .ok (.iload_n 1, 1) := by decide +kernel
theorem own_d_prog_53_7_5 : decode prog_53_method_7_code 5 = .ok (.invokestatic 47, 3) := by decide +kernel
theorem own_d_prog_53_7_8 : decode prog_53_method_7_code 8 = .ok (.istore_n 3, 1) := by decide +kernel
theorem own_d_prog_53_7_9 : decode prog_53_method_7_code 9 = .ok (.iload_n 3, 1) := by decide +kernel
theorem own_d_prog_53_7_10 : decode prog_53_method_7_code 10 = .ok (.ifCond .eq 7, 3) := by decide +kernel
theorem own_d_prog_53_7_13 : decode prog_53_method_7_code 13 = .ok (.iload_n 3, 1) := by decide +kernel
theorem own_d_prog_53_7_14 : decode prog_53_method_7_code 14 = .ok (.goto 11, 3) := by decide +kernel
theorem own_d_prog_53_7_17 : decode prog_53_method_7_code 17 = .ok (.aload_n 0, 1) := by decide +kernel
theorem own_d_prog_53_7_18 : decode prog_53_method_7_code 18 = .ok (.getfield 26, 3) := by decide +kernel
theorem own_d_prog_53_7_21 : decode prog_53_method_7_code 21 = .ok (.iload_n 2, 1) := by decide +kernel
theorem own_d_prog_53_7_22 : decode prog_53_method_7_code 22 = .ok (.invokestatic 47, 3) := by decide +kernel
theorem own_d_prog_53_7_25 : decode prog_53_method_7_code 25 = .ok (.ireturn, 1) := by decide +kernel
theorem own_d_prog_53_8_0 : decode prog_53_method_8_code 0 = .ok (.getstatic 53, 3) := by decide +kernel
theorem own_d_prog_53_8_3 : decode prog_53_method_8_code 3 = .ok (.aload_n 0, 1) := by decide +kernel
theorem own_d_prog_53_8_4 : decode prog_53_method_8_code 4 = .ok (.getfield 19, 3) := by decide +kernel
theorem own_d_prog_53_8_7 : decode prog_53_method_8_code 7 = .ok (.invokevirtual 59, 3) := by decide +kernel
theorem own_d_prog_53_8_10 : decode prog_53_method_8_code 10 = .ok (.iaload, 1) := by decide +kernel
theorem own_d_prog_53_8_11 : decode prog_53_method_8_code 11 = .ok (.tableswitch 146 1 4 #[29, 29, 87, 129], 29) := by decide +kernel
theorem own_d_prog_53_8_98 : decode prog_53_method_8_code 98 = .ok (.aload_n 0, 1) := by decide +kernel
theorem own_d_prog_53_8_99 : decode prog_53_method_8_code 99 = .ok (.iload_n 1, 1) := by decide +kernel
theorem own_d_prog_53_8_100 : decode prog_53_method_8_code 100 = .ok (.invokevirtual 72, 3) := by decide +kernel
theorem own_d_prog_53_8_103 : decode prog_53_method_8_code 103 = .ok (.ifCond .ne 5, 3) := by decide +kernel
theorem own_d_prog_53_8_108 : decode prog_53_method_8_code 108 = .ok (.iload_n 1, 1) := by decide +kernel
theorem own_d_prog_53_8_109 : decode prog_53_method_8_code 109 = .ok (.sipush 240, 3) := by decide +kernel
theorem own_d_prog_53_8_112 : decode prog_53_method_8_code 112 = .ok (.if_icmp .lt 13, 3) := by decide +kernel
theorem own_d_prog_53_8_125 : decode prog_53_method_8_code 125 = .ok (.aload_n 0, 1) := by decide +kernel
theorem own_d_prog_53_8_126 : decode prog_53_method_8_code 126 = .ok (.getfield 44, 3) := by decide +kernel
theorem own_d_prog_53_8_129 : decode prog_53_method_8_code 129 = .ok (.ifCond .ne 33, 3) := by decide +kernel
theorem own_d_prog_53_8_132 : decode prog_53_method_8_code 132 = .ok (.aload_n 0, 1) := by decide +kernel
theorem own_d_prog_53_8_133 : decode prog_53_method_8_code 133 = .ok (.iload_n 1, 1) := by decide +kernel
theorem own_d_prog_53_8_134 : decode prog_53_method_8_code 134 = .ok (.invokevirtual 68, 3) := by decide +kernel
theorem own_d_prog_53_8_137 : decode prog_53_method_8_code 137 = .ok (.goto 25, 3) := by decide +kernel
theorem own_d_prog_53_8_140 : decode prog_53_method_8_code 140 = .ok (.iload_n 1, 1) := by decide +kernel
theorem own_d_prog_53_8_141 : decode prog_53_method_8_code 141 = .ok (.sipush 128, 3) := by decide +kernel
theorem own_d_prog_53_8_144 : decode prog_53_method_8_code 144 = .ok (.if_icmp .lt 5, 3) := by decide +kernel
theorem own_d_prog_53_8_149 : decode prog_53_method_8_code 149 = .ok (.aload_n 0, 1) := by decide +kernel
theorem own_d_prog_53_8_150 : decode prog_53_method_8_code 150 = .ok (.iload_n 1, 1) := by decide +kernel
theorem own_d_prog_53_8_151 : decode prog_53_method_8_code 151 = .ok (.invokevirtual 68, 3) := by decide +kernel
theorem own_d_prog_53_8_154 : decode prog_53_method_8_code 154 = .ok (.goto 8, 3) := by decide +kernel
theorem own_d_prog_53_8_157 : decode prog_53_method_8_code 157 = .ok (.aload_n 0, 1) := by decide +kernel
theorem own_d_prog_53_8_158 : decode prog_53_method_8_code 158 = .ok (.iload_n 1, 1) := by decide +kernel
theorem own_d_prog_53_8_159 : decode prog_53_method_8_code 159 = .ok (.invokevirtual 68, 3) := by decide +kernel
theorem own_d_prog_53_8_162 : decode prog_53_method_8_code 162 = .ok (.aload_n 0, 1) := by decide +kernel
theorem own_d_prog_53_8_163 : decode prog_53_method_8_code 163 = .ok (.dup, 1) := by decide +kernel
theorem own_d_prog_53_8_164 : decode prog_53_method_8_code 164 = .ok (.getfield 32, 3) := by decide +kernel
theorem own_d_prog_53_8_167 : decode prog_53_method_8_code 167 = .ok (.lconst 1, 1) := by decide +kernel
theorem own_d_prog_53_8_168 : decode prog_53_method_8_code 168 = .ok (.ladd, 1) := by decide +kernel
theorem own_d_prog_53_8_169 : decode prog_53_method_8_code 169 = .ok (.putfield 32, 3) := by decide +kernel
theorem own_d_prog_53_8_172 : decode prog_53_method_8_code 172 = .ok (.iconst 1, 1) := by decide +kernel
theorem own_d_prog_53_8_173 : decode prog_53_method_8_code 173 = .ok (.ireturn, 1) := by decide +kernel
theorem own_d_prog_53_9_0 : decode prog_53_method_9_code 0 = .ok (.aload_n 0, 1) := by decide +kernel
theorem own_d_prog_53_9_1 : decode prog_53_method_9_code 1 = .ok (.iconst 0, 1) := by decide +kernel
theorem own_d_prog_53_9_2 : decode prog_53_method_9_code 2 = .ok (.putfield 36, 3) := by decide +kernel
theorem own_d_prog_53_9_5 : decode prog_53_method_9_code 5 = .ok (.aload_n 0, 1) := by decide +kernel
theorem own_d_prog_53_9_6 : decode prog_53_method_9_code 6 = .ok (.dup, 1) := by decide +kernel
theorem own_d_prog_53_9_7 : decode prog_53_method_9_code 7 = .ok (.getfield 32, 3) := by decide +kernel
theorem own_d_prog_53_9_10 : decode prog_53_method_9_code 10 = .ok (.iload_n 1, 1) := by decide +kernel
theorem own_d_prog_53_9_11 : decode prog_53_method_9_code 11 = .ok (.i2l, 1) := by decide +kernel
theorem own_d_prog_53_9_12 : decode prog_53_method_9_code 12 = .ok (.ladd, 1) := by decide +kernel
theorem own_d_prog_53_9_13 : decode prog_53_method_9_code 13 = .ok (.putfield 32, 3) := by decide +kernel
theorem own_d_prog_53_9_16 : decode prog_53_method_9_code 16 = .ok (.aload_n 0, 1) := by decide +kernel
theorem own_d_prog_53_9_17 : decode prog_53_method_9_code 17 = .ok (.dup, 1) := by decide +kernel
theorem own_d_prog_53_9_18 : decode prog_53_method_9_code 18 = .ok (.getfield 26, 3) := by decide +kernel
theorem own_d_prog_53_9_21 : decode prog_53_method_9_code 21 = .ok (.iload_n 1, 1) := by decide +kernel
theorem own_d_prog_53_9_22 : decode prog_53_method_9_code 22 = .ok (.iadd, 1) := by decide +kernel
theorem own_d_prog_53_9_23 : decode prog_53_method_9_code 23 = .ok (.putfield 26, 3) := by decide +kernel
theorem own_d_prog_53_9_26 : decode prog_53_method_9_code 26 = .ok (.return_, 1) := by decide +kernel
theorem own_pd0 : parseMethodDescriptor "(II)I" = some ⟨[.int, .int], some .int⟩ := by decide +kernel
theorem own_pd1 : parseMethodDescriptor "()I" = some ⟨[], some .int⟩ := by decide +kernel
theorem own_pd2 : parseMethodDescriptor "(I)Z" = some ⟨[.int], some .boolean⟩ := by decide +kernel
theorem own_pd3 : parseMethodDescriptor "(I)V" = some ⟨[.int], none⟩ := by decide +kernel
theorem own_pd4 : parseMethodDescriptor "(Lcrossmarc/reading/CheckedEncoding;)V" = some ⟨[(.object "crossmarc/reading/CheckedEncoding")], none⟩ := by decide +kernel
theorem own_pd5 : parseMethodDescriptor "()J" = some ⟨[], some .long⟩ := by decide +kernel
theorem own_pn0 : plainName "crossmarc/reading/Cursor" = true := by first | (simp [plainName, overriddenIn]; done) | decide +kernel
theorem own_pn1 : plainName "java/lang/Integer" = true := by first | (simp [plainName, overriddenIn]; done) | decide +kernel
theorem own_pn2 : plainName "java/lang/Enum" = true := by first | (simp [plainName, overriddenIn]; done) | decide +kernel
theorem own_pn3 : plainName "crossmarc/reading/CursorPassAsciiTextPinLaw" = true := by first | (simp [plainName, overriddenIn]; done) | decide +kernel
def own_nl (b u : Int32) : Int32 := if u = 13 then 1 else if u = 10 then (if b = 0 then 1 else 0) else 0
def own_nc (col u : Int32) : Int32 := if u = 13 ∨ u = 10 then 1 else col + 1
def own_pcr (u : Int32) : Int32 := if u = 13 then 1 else 0
def own_cmp (a b : Int32) : Int32 := if a < b then -1 else if a = b then 0 else 1
def own_cmp2 (ln col a b : Int32) : Int32 := if own_cmp ln a = 0 then own_cmp col b else own_cmp ln a
theorem own_cmp_self (a : Int32) : own_cmp a a = 0 := by
  unfold own_cmp; rw [if_neg (by rw [Int32.lt_iff_toInt_lt]; omega), if_pos rfl]
theorem own_cmp2_self (a b : Int32) : own_cmp2 a b a b = 0 := by
  unfold own_cmp2; rw [own_cmp_self, if_pos rfl, own_cmp_self]
theorem own_lt_of {p k : Int32} (h : p < (128 : Int32)) (hk : 128 ≤ k.toInt) : p < k := by
  rw [Int32.lt_iff_toInt_lt] at *; have e : (128 : Int32).toInt = 128 := rfl; omega
theorem own_nl_no {b u : Int32} (h1 : ¬ u = 13) (h2 : ¬ u = 10) : own_nl b u = 0 := by unfold own_nl; rw [if_neg h1, if_neg h2]
theorem own_nc_no {c u : Int32} (h1 : ¬ u = 13) (h2 : ¬ u = 10) : own_nc c u = c + 1 := by unfold own_nc; rw [if_neg (by rintro (q | q); exact h1 q; exact h2 q)]
theorem own_first (x : Int32) : (13 : Int) < ((14 : Int32) + ((x &&& (2147483647 : Int32)) % (114 : Int32))).toInt ∧ ((14 : Int32) + ((x &&& (2147483647 : Int32)) % (114 : Int32))).toInt < 128 := by
  have e : (x &&& (2147483647 : Int32)).toInt = x.toInt % (2 ^ 31 : Nat) := c_mask x 2147483647 31 (by decide) (by decide)
  have e1 := (c_irem (x &&& (2147483647 : Int32)) 114 114 rfl).1 (by omega)
  have e2 := c_iadd 14 ((x &&& (2147483647 : Int32)) % (114 : Int32))
  have e3 := rng32 ((14 : Int32) + ((x &&& (2147483647 : Int32)) % (114 : Int32)))
  have e4 : (14 : Int32).toInt = 14 := rfl
  rw [e4] at e2; omega

def own_Q_own_cinit (Z : State) (o0 : Addr) (o1 : Addr) (h0 : Heap) (n0 : Nat) : Option Value → Heap → List Loc → Prop := fun v h L => v = none ∧ Fr n0 L ∧ Keep h0 h [o0] ∧ Exa Z h o0 "crossmarc/reading/Cursor" ∧ Fld Z h o0 "crossmarc/reading/Cursor" "half" "I" (.int (-1 : Int32)) ∧ Fld Z h o0 "crossmarc/reading/Cursor" "low" "I" (.int (128 : Int32)) ∧ Fld Z h o0 "crossmarc/reading/Cursor" "high" "I" (.int (191 : Int32)) ∧ Fld Z h o0 "crossmarc/reading/Cursor" "encoding" "Lcrossmarc/reading/CheckedEncoding;" (.ref o1) ∧ Fld Z h o0 "crossmarc/reading/Cursor" "line" "I" (.int (1 : Int32)) ∧ Fld Z h o0 "crossmarc/reading/Cursor" "column" "I" (.int (1 : Int32)) ∧ Fld Z h o0 "crossmarc/reading/Cursor" "needed" "I" (.int (0 : Int32)) ∧ Fld Z h o0 "crossmarc/reading/Cursor" "afterCr" "Z" (.int (0 : Int32)) ∧ Fld Z h o0 "crossmarc/reading/Cursor" "position" "J" (.long (0 : Int64))
theorem own_ef_own_cinit (m : MethodId) (x0 : Addr) (x1 : Addr) : entryFrame m #[(.ref x0), (.ref x1)] 2 = mkF m 0 #[.val (.ref x0), .val (.ref x1)] [] := by first | (simp [entryFrame, mkF, argsToLocals, Value.category]; done) | rfl
set_option maxRecDepth 65536 in
set_option maxHeartbeats 40000000 in
theorem own_cinit (l : Launch) (Z : State) (a0 : Array Value) (hw : ∀ d ∈ tables_1, d.before a0 Z = true) (ws : List Jvm.Cond) (o0 : Addr) (o1 : Addr) (h0 : Heap) (n0 : Nat) (Z0 : n0 ≤ h0.size) (g0 : n0 ≤ o0) (E0 : Exa Z h0 o0 "crossmarc/reading/Cursor") (F_half : Fld Z h0 o0 "crossmarc/reading/Cursor" "half" "I" (.int (0 : Int32))) (F_low : Fld Z h0 o0 "crossmarc/reading/Cursor" "low" "I" (.int (0 : Int32))) (F_high : Fld Z h0 o0 "crossmarc/reading/Cursor" "high" "I" (.int (0 : Int32))) (F_encoding : Fld Z h0 o0 "crossmarc/reading/Cursor" "encoding" "Lcrossmarc/reading/CheckedEncoding;" .null) (F_line : Fld Z h0 o0 "crossmarc/reading/Cursor" "line" "I" (.int (0 : Int32))) (F_column : Fld Z h0 o0 "crossmarc/reading/Cursor" "column" "I" (.int (0 : Int32))) (F_needed : Fld Z h0 o0 "crossmarc/reading/Cursor" "needed" "I" (.int (0 : Int32))) (F_afterCr : Fld Z h0 o0 "crossmarc/reading/Cursor" "afterCr" "Z" (.int (0 : Int32))) (F_position : Fld Z h0 o0 "crossmarc/reading/Cursor" "position" "J" (.long (0 : Int64))) :
    MetFree l (⟨"crossmarc/reading/Cursor", "<init>", "(Lcrossmarc/reading/CheckedEncoding;)V"⟩ : MethodName) (head1 (Jvm.Cond.code (⟨"crossmarc/reading/Cursor", "<init>", "(Lcrossmarc/reading/CheckedEncoding;)V"⟩ : MethodName) prog_53_method_1_code 2 none :: ws) ({ frames := 1, cells := 0, slots := 0, locals := 12 } : Room)) (fun a U => a = #[(.ref o0), (.ref o1)] ∧ Z.Warmed39 U.vm ∧ U.heap = h0) (fun _ _ _ _ _ => True) (fun _ U o U' => ∃ v L, o = .returned v ∧ (own_Q_own_cinit Z o0 o1 h0 n0) v U'.heap L ∧ FrameEnd U o U' L ({ frames := 1, cells := 0, slots := 0, locals := 12 } : Room).cells ({ frames := 1, cells := 0, slots := 0, locals := 12 } : Room).slots) := by
  refine MetFree.of_bodySF (plainFor_of_name own_pn0) hisR ?_
  intro p e s m args below meth c s₁ Bd hml0 hP hK
  obtain ⟨rfl, hZ, hh⟩ := hP
  have hx := Bd.exec
  have hby := Bd.bytes
  have hml : c.maxLocals = 2 := hml0
  have hown : s.vm.findClass "crossmarc/reading/Cursor" = some m.cls := findClass_of_methodNamed Bd.named
  have hnm := (name_of_methodNamed Bd.named Bd.method).1
  have hlk : meth.locks = false := BodyLoose.notSynchronized Bd
  have X0 : Stand p l e ({ frames := 1, cells := 0, slots := 0, locals := 12 } : Room) s m #[(.ref o0), (.ref o1)] below meth c s₁ [] 0 0 := Stand.of_body Bd
  have e0 : s₁.heap = h0 := by rw [← hh, Bd.state]; rfl
  have N0 := Fr.nil n0
  show own_Ends p e below s (own_Q_own_cinit Z o0 o1 h0 n0) ({ frames := 1, cells := 0, slots := 0, locals := 12 } : Room).cells ({ frames := 1, cells := 0, slots := 0, locals := 12 } : Room).slots _
  refine own_by (V := s₁.setTop (mkF m 0 #[.val (.ref o0), .val (.ref o1)] [])) (fun t k => castTop (own_ef_own_cinit m o0 o1) k) ?_
  refine own_by (V := s₁.setTop (mkF m 1 #[.val (.ref o0), .val (.ref o1)] [(.ref o0)])) (fun t k => XS.aloadN X0.here hx rfl (hb hby own_d_prog_53_1_0) rfl rfl k) ?_
  obtain ⟨T1, X1, e1, st1⟩ := initO X0 hx hZ hown (hw _ (List.mem_of_getElem? (i := 11) rfl)) (hw _ (List.mem_of_getElem? (i := 12) rfl)) (hw _ (List.mem_of_getElem? (i := 13) rfl)) e0 (g := (mkF m 1 #[.val (.ref o0), .val (.ref o1)] [(.ref o0)])) rfl (by rw [hml]; rfl) rfl (hb hby own_d_prog_53_1_1) (by decide) (W := 0) (by show 2 * 0 + _ ≤ _; exact Nat.le_of_eq rfl) (by decide)
  refine own_by (V := T1.setTop (mkF m 4 #[.val (.ref o0), .val (.ref o1)] [])) st1 ?_
  refine own_by (V := T1.setTop (mkF m 5 #[.val (.ref o0), .val (.ref o1)] [(.ref o0)])) (fun t k => XS.aloadN X1.here hx rfl (hb hby own_d_prog_53_1_4) rfl rfl k) ?_
  refine own_by (V := T1.setTop (mkF m 6 #[.val (.ref o0), .val (.ref o1)] [(.int (-1 : Int32)), (.ref o0)])) (fun t k => XS.iconst X1.here hx rfl (hb hby own_d_prog_53_1_5) k) ?_
  obtain ⟨T2, h2, X2, e2, W2, st2⟩ := putF X1 hx hZ hown (host := "") (Or.inl (hw _ (List.mem_of_getElem? (i := 14) rfl))) Via.refl e1 F_half E0 (Or.inl (hw _ (List.mem_of_getElem? (i := 15) rfl))) (hw _ (List.mem_of_getElem? (i := 6) rfl)) (ty := .int) (by decide) rfl rfl (g := (mkF m 6 #[.val (.ref o0), .val (.ref o1)] [(.int (-1 : Int32)), (.ref o0)])) rfl rfl (hb hby own_d_prog_53_1_6)
  have N2 := Fr.snoc X2 N0 g0
  have K2 := (Keep.refl h0 [o0]).wr W2 (Or.inl (List.mem_singleton.mpr rfl))
  have Zs2 : n0 ≤ h2.size := by rw [W2.size]; exact Z0
  have f3 := E0.wr W2
  have f4 := F_half.same W2
  have f5 := F_low.other W2 (Or.inr (slot_ne (Or.inl (hw _ (List.mem_of_getElem? (i := 17) rfl))) (Or.inl (hw _ (List.mem_of_getElem? (i := 15) rfl))) (by decide) (t := .int) (t' := .int) (by decide) (by decide)))
  have f6 := F_high.other W2 (Or.inr (slot_ne (Or.inl (hw _ (List.mem_of_getElem? (i := 19) rfl))) (Or.inl (hw _ (List.mem_of_getElem? (i := 15) rfl))) (by decide) (t := .int) (t' := .int) (by decide) (by decide)))
  have f7 := F_encoding.other W2 (Or.inr (slot_ne (Or.inr (hw _ (List.mem_of_getElem? (i := 21) rfl))) (Or.inl (hw _ (List.mem_of_getElem? (i := 15) rfl))) (by decide) (t := (.object "crossmarc/reading/CheckedEncoding")) (t' := .int) (by decide) (by decide)))
  have f8 := F_line.other W2 (Or.inr (slot_ne (Or.inl (hw _ (List.mem_of_getElem? (i := 23) rfl))) (Or.inl (hw _ (List.mem_of_getElem? (i := 15) rfl))) (by decide) (t := .int) (t' := .int) (by decide) (by decide)))
  have f9 := F_column.other W2 (Or.inr (slot_ne (Or.inl (hw _ (List.mem_of_getElem? (i := 25) rfl))) (Or.inl (hw _ (List.mem_of_getElem? (i := 15) rfl))) (by decide) (t := .int) (t' := .int) (by decide) (by decide)))
  have f10 := F_needed.other W2 (Or.inr (slot_ne (Or.inl (hw _ (List.mem_of_getElem? (i := 48) rfl))) (Or.inl (hw _ (List.mem_of_getElem? (i := 15) rfl))) (by decide) (t := .int) (t' := .int) (by decide) (by decide)))
  have f11 := F_afterCr.other W2 (Or.inr (slot_ne (Or.inl (hw _ (List.mem_of_getElem? (i := 55) rfl))) (Or.inl (hw _ (List.mem_of_getElem? (i := 15) rfl))) (by decide) (t := .boolean) (t' := .int) (by decide) (by decide)))
  have f12 := F_position.other W2 (Or.inr (slot_ne (Or.inl (hw _ (List.mem_of_getElem? (i := 57) rfl))) (Or.inl (hw _ (List.mem_of_getElem? (i := 15) rfl))) (by decide) (t := .long) (t' := .int) (by decide) (by decide)))
  refine own_by (V := T2.setTop (mkF m 9 #[.val (.ref o0), .val (.ref o1)] [])) st2 ?_
  refine own_by (V := T2.setTop (mkF m 10 #[.val (.ref o0), .val (.ref o1)] [(.ref o0)])) (fun t k => XS.aloadN X2.here hx rfl (hb hby own_d_prog_53_1_9) rfl rfl k) ?_
  refine own_by (V := T2.setTop (mkF m 13 #[.val (.ref o0), .val (.ref o1)] [(.int (128 : Int32)), (.ref o0)])) (fun t k => XS.sipush X2.here hx rfl (hb hby own_d_prog_53_1_10) k) ?_
  obtain ⟨T13, h13, X13, e13, W13, st13⟩ := putF X2 hx hZ hown (host := "") (Or.inl (hw _ (List.mem_of_getElem? (i := 16) rfl))) Via.refl e2 f5 f3 (Or.inl (hw _ (List.mem_of_getElem? (i := 17) rfl))) (hw _ (List.mem_of_getElem? (i := 6) rfl)) (ty := .int) (by decide) rfl rfl (g := (mkF m 13 #[.val (.ref o0), .val (.ref o1)] [(.int (128 : Int32)), (.ref o0)])) rfl rfl (hb hby own_d_prog_53_1_13)
  have N13 := Fr.snoc X13 N2 g0
  have K13 := K2.wr W13 (Or.inl (List.mem_singleton.mpr rfl))
  have Zs13 : n0 ≤ h13.size := by rw [W13.size]; exact Zs2
  have f14 := f3.wr W13
  have f15 := f4.other W13 (Or.inr (slot_ne (Or.inl (hw _ (List.mem_of_getElem? (i := 15) rfl))) (Or.inl (hw _ (List.mem_of_getElem? (i := 17) rfl))) (by decide) (t := .int) (t' := .int) (by decide) (by decide)))
  have f16 := f5.same W13
  have f17 := f6.other W13 (Or.inr (slot_ne (Or.inl (hw _ (List.mem_of_getElem? (i := 19) rfl))) (Or.inl (hw _ (List.mem_of_getElem? (i := 17) rfl))) (by decide) (t := .int) (t' := .int) (by decide) (by decide)))
  have f18 := f7.other W13 (Or.inr (slot_ne (Or.inr (hw _ (List.mem_of_getElem? (i := 21) rfl))) (Or.inl (hw _ (List.mem_of_getElem? (i := 17) rfl))) (by decide) (t := (.object "crossmarc/reading/CheckedEncoding")) (t' := .int) (by decide) (by decide)))
  have f19 := f8.other W13 (Or.inr (slot_ne (Or.inl (hw _ (List.mem_of_getElem? (i := 23) rfl))) (Or.inl (hw _ (List.mem_of_getElem? (i := 17) rfl))) (by decide) (t := .int) (t' := .int) (by decide) (by decide)))
  have f20 := f9.other W13 (Or.inr (slot_ne (Or.inl (hw _ (List.mem_of_getElem? (i := 25) rfl))) (Or.inl (hw _ (List.mem_of_getElem? (i := 17) rfl))) (by decide) (t := .int) (t' := .int) (by decide) (by decide)))
  have f21 := f10.other W13 (Or.inr (slot_ne (Or.inl (hw _ (List.mem_of_getElem? (i := 48) rfl))) (Or.inl (hw _ (List.mem_of_getElem? (i := 17) rfl))) (by decide) (t := .int) (t' := .int) (by decide) (by decide)))
  have f22 := f11.other W13 (Or.inr (slot_ne (Or.inl (hw _ (List.mem_of_getElem? (i := 55) rfl))) (Or.inl (hw _ (List.mem_of_getElem? (i := 17) rfl))) (by decide) (t := .boolean) (t' := .int) (by decide) (by decide)))
  have f23 := f12.other W13 (Or.inr (slot_ne (Or.inl (hw _ (List.mem_of_getElem? (i := 57) rfl))) (Or.inl (hw _ (List.mem_of_getElem? (i := 17) rfl))) (by decide) (t := .long) (t' := .int) (by decide) (by decide)))
  refine own_by (V := T13.setTop (mkF m 16 #[.val (.ref o0), .val (.ref o1)] [])) st13 ?_
  refine own_by (V := T13.setTop (mkF m 17 #[.val (.ref o0), .val (.ref o1)] [(.ref o0)])) (fun t k => XS.aloadN X13.here hx rfl (hb hby own_d_prog_53_1_16) rfl rfl k) ?_
  refine own_by (V := T13.setTop (mkF m 20 #[.val (.ref o0), .val (.ref o1)] [(.int (191 : Int32)), (.ref o0)])) (fun t k => XS.sipush X13.here hx rfl (hb hby own_d_prog_53_1_17) k) ?_
  obtain ⟨T24, h24, X24, e24, W24, st24⟩ := putF X13 hx hZ hown (host := "") (Or.inl (hw _ (List.mem_of_getElem? (i := 18) rfl))) Via.refl e13 f17 f14 (Or.inl (hw _ (List.mem_of_getElem? (i := 19) rfl))) (hw _ (List.mem_of_getElem? (i := 6) rfl)) (ty := .int) (by decide) rfl rfl (g := (mkF m 20 #[.val (.ref o0), .val (.ref o1)] [(.int (191 : Int32)), (.ref o0)])) rfl rfl (hb hby own_d_prog_53_1_20)
  have N24 := Fr.snoc X24 N13 g0
  have K24 := K13.wr W24 (Or.inl (List.mem_singleton.mpr rfl))
  have Zs24 : n0 ≤ h24.size := by rw [W24.size]; exact Zs13
  have f25 := f14.wr W24
  have f26 := f15.other W24 (Or.inr (slot_ne (Or.inl (hw _ (List.mem_of_getElem? (i := 15) rfl))) (Or.inl (hw _ (List.mem_of_getElem? (i := 19) rfl))) (by decide) (t := .int) (t' := .int) (by decide) (by decide)))
  have f27 := f16.other W24 (Or.inr (slot_ne (Or.inl (hw _ (List.mem_of_getElem? (i := 17) rfl))) (Or.inl (hw _ (List.mem_of_getElem? (i := 19) rfl))) (by decide) (t := .int) (t' := .int) (by decide) (by decide)))
  have f28 := f17.same W24
  have f29 := f18.other W24 (Or.inr (slot_ne (Or.inr (hw _ (List.mem_of_getElem? (i := 21) rfl))) (Or.inl (hw _ (List.mem_of_getElem? (i := 19) rfl))) (by decide) (t := (.object "crossmarc/reading/CheckedEncoding")) (t' := .int) (by decide) (by decide)))
  have f30 := f19.other W24 (Or.inr (slot_ne (Or.inl (hw _ (List.mem_of_getElem? (i := 23) rfl))) (Or.inl (hw _ (List.mem_of_getElem? (i := 19) rfl))) (by decide) (t := .int) (t' := .int) (by decide) (by decide)))
  have f31 := f20.other W24 (Or.inr (slot_ne (Or.inl (hw _ (List.mem_of_getElem? (i := 25) rfl))) (Or.inl (hw _ (List.mem_of_getElem? (i := 19) rfl))) (by decide) (t := .int) (t' := .int) (by decide) (by decide)))
  have f32 := f21.other W24 (Or.inr (slot_ne (Or.inl (hw _ (List.mem_of_getElem? (i := 48) rfl))) (Or.inl (hw _ (List.mem_of_getElem? (i := 19) rfl))) (by decide) (t := .int) (t' := .int) (by decide) (by decide)))
  have f33 := f22.other W24 (Or.inr (slot_ne (Or.inl (hw _ (List.mem_of_getElem? (i := 55) rfl))) (Or.inl (hw _ (List.mem_of_getElem? (i := 19) rfl))) (by decide) (t := .boolean) (t' := .int) (by decide) (by decide)))
  have f34 := f23.other W24 (Or.inr (slot_ne (Or.inl (hw _ (List.mem_of_getElem? (i := 57) rfl))) (Or.inl (hw _ (List.mem_of_getElem? (i := 19) rfl))) (by decide) (t := .long) (t' := .int) (by decide) (by decide)))
  refine own_by (V := T24.setTop (mkF m 23 #[.val (.ref o0), .val (.ref o1)] [])) st24 ?_
  refine own_by (V := T24.setTop (mkF m 24 #[.val (.ref o0), .val (.ref o1)] [(.ref o0)])) (fun t k => XS.aloadN X24.here hx rfl (hb hby own_d_prog_53_1_23) rfl rfl k) ?_
  refine own_by (V := T24.setTop (mkF m 25 #[.val (.ref o0), .val (.ref o1)] [(.ref o1), (.ref o0)])) (fun t k => XS.aloadN X24.here hx rfl (hb hby own_d_prog_53_1_24) rfl rfl k) ?_
  obtain ⟨T35, h35, X35, e35, W35, st35⟩ := putF X24 hx hZ hown (host := "") (Or.inl (hw _ (List.mem_of_getElem? (i := 20) rfl))) Via.refl e24 f29 f25 (Or.inr ⟨(hw _ (List.mem_of_getElem? (i := 21) rfl)), rfl, hnm⟩) (hw _ (List.mem_of_getElem? (i := 6) rfl)) (ty := (.object "crossmarc/reading/CheckedEncoding")) (by decide) rfl rfl (g := (mkF m 25 #[.val (.ref o0), .val (.ref o1)] [(.ref o1), (.ref o0)])) rfl rfl (hb hby own_d_prog_53_1_25)
  have N35 := Fr.snoc X35 N24 g0
  have K35 := K24.wr W35 (Or.inl (List.mem_singleton.mpr rfl))
  have Zs35 : n0 ≤ h35.size := by rw [W35.size]; exact Zs24
  have f36 := f25.wr W35
  have f37 := f26.other W35 (Or.inr (slot_ne (Or.inl (hw _ (List.mem_of_getElem? (i := 15) rfl))) (Or.inr (hw _ (List.mem_of_getElem? (i := 21) rfl))) (by decide) (t := .int) (t' := (.object "crossmarc/reading/CheckedEncoding")) (by decide) (by decide)))
  have f38 := f27.other W35 (Or.inr (slot_ne (Or.inl (hw _ (List.mem_of_getElem? (i := 17) rfl))) (Or.inr (hw _ (List.mem_of_getElem? (i := 21) rfl))) (by decide) (t := .int) (t' := (.object "crossmarc/reading/CheckedEncoding")) (by decide) (by decide)))
  have f39 := f28.other W35 (Or.inr (slot_ne (Or.inl (hw _ (List.mem_of_getElem? (i := 19) rfl))) (Or.inr (hw _ (List.mem_of_getElem? (i := 21) rfl))) (by decide) (t := .int) (t' := (.object "crossmarc/reading/CheckedEncoding")) (by decide) (by decide)))
  have f40 := f29.same W35
  have f41 := f30.other W35 (Or.inr (slot_ne (Or.inl (hw _ (List.mem_of_getElem? (i := 23) rfl))) (Or.inr (hw _ (List.mem_of_getElem? (i := 21) rfl))) (by decide) (t := .int) (t' := (.object "crossmarc/reading/CheckedEncoding")) (by decide) (by decide)))
  have f42 := f31.other W35 (Or.inr (slot_ne (Or.inl (hw _ (List.mem_of_getElem? (i := 25) rfl))) (Or.inr (hw _ (List.mem_of_getElem? (i := 21) rfl))) (by decide) (t := .int) (t' := (.object "crossmarc/reading/CheckedEncoding")) (by decide) (by decide)))
  have f43 := f32.other W35 (Or.inr (slot_ne (Or.inl (hw _ (List.mem_of_getElem? (i := 48) rfl))) (Or.inr (hw _ (List.mem_of_getElem? (i := 21) rfl))) (by decide) (t := .int) (t' := (.object "crossmarc/reading/CheckedEncoding")) (by decide) (by decide)))
  have f44 := f33.other W35 (Or.inr (slot_ne (Or.inl (hw _ (List.mem_of_getElem? (i := 55) rfl))) (Or.inr (hw _ (List.mem_of_getElem? (i := 21) rfl))) (by decide) (t := .boolean) (t' := (.object "crossmarc/reading/CheckedEncoding")) (by decide) (by decide)))
  have f45 := f34.other W35 (Or.inr (slot_ne (Or.inl (hw _ (List.mem_of_getElem? (i := 57) rfl))) (Or.inr (hw _ (List.mem_of_getElem? (i := 21) rfl))) (by decide) (t := .long) (t' := (.object "crossmarc/reading/CheckedEncoding")) (by decide) (by decide)))
  refine own_by (V := T35.setTop (mkF m 28 #[.val (.ref o0), .val (.ref o1)] [])) st35 ?_
  refine own_by (V := T35.setTop (mkF m 29 #[.val (.ref o0), .val (.ref o1)] [(.ref o0)])) (fun t k => XS.aloadN X35.here hx rfl (hb hby own_d_prog_53_1_28) rfl rfl k) ?_
  refine own_by (V := T35.setTop (mkF m 30 #[.val (.ref o0), .val (.ref o1)] [(.int (1 : Int32)), (.ref o0)])) (fun t k => XS.iconst X35.here hx rfl (hb hby own_d_prog_53_1_29) k) ?_
  obtain ⟨T46, h46, X46, e46, W46, st46⟩ := putF X35 hx hZ hown (host := "") (Or.inl (hw _ (List.mem_of_getElem? (i := 22) rfl))) Via.refl e35 f41 f36 (Or.inl (hw _ (List.mem_of_getElem? (i := 23) rfl))) (hw _ (List.mem_of_getElem? (i := 6) rfl)) (ty := .int) (by decide) rfl rfl (g := (mkF m 30 #[.val (.ref o0), .val (.ref o1)] [(.int (1 : Int32)), (.ref o0)])) rfl rfl (hb hby own_d_prog_53_1_30)
  have N46 := Fr.snoc X46 N35 g0
  have K46 := K35.wr W46 (Or.inl (List.mem_singleton.mpr rfl))
  have Zs46 : n0 ≤ h46.size := by rw [W46.size]; exact Zs35
  have f47 := f36.wr W46
  have f48 := f37.other W46 (Or.inr (slot_ne (Or.inl (hw _ (List.mem_of_getElem? (i := 15) rfl))) (Or.inl (hw _ (List.mem_of_getElem? (i := 23) rfl))) (by decide) (t := .int) (t' := .int) (by decide) (by decide)))
  have f49 := f38.other W46 (Or.inr (slot_ne (Or.inl (hw _ (List.mem_of_getElem? (i := 17) rfl))) (Or.inl (hw _ (List.mem_of_getElem? (i := 23) rfl))) (by decide) (t := .int) (t' := .int) (by decide) (by decide)))
  have f50 := f39.other W46 (Or.inr (slot_ne (Or.inl (hw _ (List.mem_of_getElem? (i := 19) rfl))) (Or.inl (hw _ (List.mem_of_getElem? (i := 23) rfl))) (by decide) (t := .int) (t' := .int) (by decide) (by decide)))
  have f51 := f40.other W46 (Or.inr (slot_ne (Or.inr (hw _ (List.mem_of_getElem? (i := 21) rfl))) (Or.inl (hw _ (List.mem_of_getElem? (i := 23) rfl))) (by decide) (t := (.object "crossmarc/reading/CheckedEncoding")) (t' := .int) (by decide) (by decide)))
  have f52 := f41.same W46
  have f53 := f42.other W46 (Or.inr (slot_ne (Or.inl (hw _ (List.mem_of_getElem? (i := 25) rfl))) (Or.inl (hw _ (List.mem_of_getElem? (i := 23) rfl))) (by decide) (t := .int) (t' := .int) (by decide) (by decide)))
  have f54 := f43.other W46 (Or.inr (slot_ne (Or.inl (hw _ (List.mem_of_getElem? (i := 48) rfl))) (Or.inl (hw _ (List.mem_of_getElem? (i := 23) rfl))) (by decide) (t := .int) (t' := .int) (by decide) (by decide)))
  have f55 := f44.other W46 (Or.inr (slot_ne (Or.inl (hw _ (List.mem_of_getElem? (i := 55) rfl))) (Or.inl (hw _ (List.mem_of_getElem? (i := 23) rfl))) (by decide) (t := .boolean) (t' := .int) (by decide) (by decide)))
  have f56 := f45.other W46 (Or.inr (slot_ne (Or.inl (hw _ (List.mem_of_getElem? (i := 57) rfl))) (Or.inl (hw _ (List.mem_of_getElem? (i := 23) rfl))) (by decide) (t := .long) (t' := .int) (by decide) (by decide)))
  refine own_by (V := T46.setTop (mkF m 33 #[.val (.ref o0), .val (.ref o1)] [])) st46 ?_
  refine own_by (V := T46.setTop (mkF m 34 #[.val (.ref o0), .val (.ref o1)] [(.ref o0)])) (fun t k => XS.aloadN X46.here hx rfl (hb hby own_d_prog_53_1_33) rfl rfl k) ?_
  refine own_by (V := T46.setTop (mkF m 35 #[.val (.ref o0), .val (.ref o1)] [(.int (1 : Int32)), (.ref o0)])) (fun t k => XS.iconst X46.here hx rfl (hb hby own_d_prog_53_1_34) k) ?_
  obtain ⟨T57, h57, X57, e57, W57, st57⟩ := putF X46 hx hZ hown (host := "") (Or.inl (hw _ (List.mem_of_getElem? (i := 24) rfl))) Via.refl e46 f53 f47 (Or.inl (hw _ (List.mem_of_getElem? (i := 25) rfl))) (hw _ (List.mem_of_getElem? (i := 6) rfl)) (ty := .int) (by decide) rfl rfl (g := (mkF m 35 #[.val (.ref o0), .val (.ref o1)] [(.int (1 : Int32)), (.ref o0)])) rfl rfl (hb hby own_d_prog_53_1_35)
  have N57 := Fr.snoc X57 N46 g0
  have K57 := K46.wr W57 (Or.inl (List.mem_singleton.mpr rfl))
  have Zs57 : n0 ≤ h57.size := by rw [W57.size]; exact Zs46
  have f58 := f47.wr W57
  have f59 := f48.other W57 (Or.inr (slot_ne (Or.inl (hw _ (List.mem_of_getElem? (i := 15) rfl))) (Or.inl (hw _ (List.mem_of_getElem? (i := 25) rfl))) (by decide) (t := .int) (t' := .int) (by decide) (by decide)))
  have f60 := f49.other W57 (Or.inr (slot_ne (Or.inl (hw _ (List.mem_of_getElem? (i := 17) rfl))) (Or.inl (hw _ (List.mem_of_getElem? (i := 25) rfl))) (by decide) (t := .int) (t' := .int) (by decide) (by decide)))
  have f61 := f50.other W57 (Or.inr (slot_ne (Or.inl (hw _ (List.mem_of_getElem? (i := 19) rfl))) (Or.inl (hw _ (List.mem_of_getElem? (i := 25) rfl))) (by decide) (t := .int) (t' := .int) (by decide) (by decide)))
  have f62 := f51.other W57 (Or.inr (slot_ne (Or.inr (hw _ (List.mem_of_getElem? (i := 21) rfl))) (Or.inl (hw _ (List.mem_of_getElem? (i := 25) rfl))) (by decide) (t := (.object "crossmarc/reading/CheckedEncoding")) (t' := .int) (by decide) (by decide)))
  have f63 := f52.other W57 (Or.inr (slot_ne (Or.inl (hw _ (List.mem_of_getElem? (i := 23) rfl))) (Or.inl (hw _ (List.mem_of_getElem? (i := 25) rfl))) (by decide) (t := .int) (t' := .int) (by decide) (by decide)))
  have f64 := f53.same W57
  have f65 := f54.other W57 (Or.inr (slot_ne (Or.inl (hw _ (List.mem_of_getElem? (i := 48) rfl))) (Or.inl (hw _ (List.mem_of_getElem? (i := 25) rfl))) (by decide) (t := .int) (t' := .int) (by decide) (by decide)))
  have f66 := f55.other W57 (Or.inr (slot_ne (Or.inl (hw _ (List.mem_of_getElem? (i := 55) rfl))) (Or.inl (hw _ (List.mem_of_getElem? (i := 25) rfl))) (by decide) (t := .boolean) (t' := .int) (by decide) (by decide)))
  have f67 := f56.other W57 (Or.inr (slot_ne (Or.inl (hw _ (List.mem_of_getElem? (i := 57) rfl))) (Or.inl (hw _ (List.mem_of_getElem? (i := 25) rfl))) (by decide) (t := .long) (t' := .int) (by decide) (by decide)))
  refine own_by (V := T57.setTop (mkF m 38 #[.val (.ref o0), .val (.ref o1)] [])) st57 ?_
  refine own_ret0 X57 hx hlk e57 Bd.returns (hb hby own_d_prog_53_1_38) ?_ (by decide) (by decide)
  exact ⟨rfl, N57, K57, f58, f59, f60, f61, f62, f63, f64, f65, f66, f67⟩
def own_Q_own_ascii (Z : State) (o0 : Addr) (p1 : Int32) (u_half : Int32) (u_low : Int32) (u_high : Int32) (u_encoding : Value) (u_line : Int32) (u_column : Int32) (u_needed : Int32) (u_afterCr : Int32) (u_position : Int64) (h0 : Heap) (n0 : Nat) : Option Value → Heap → List Loc → Prop := fun v h L => v = none ∧ Fr n0 L ∧ Keep h0 h [o0] ∧ Exa Z h o0 "crossmarc/reading/Cursor" ∧ Fld Z h o0 "crossmarc/reading/Cursor" "half" "I" (.int u_half) ∧ Fld Z h o0 "crossmarc/reading/Cursor" "low" "I" (.int u_low) ∧ Fld Z h o0 "crossmarc/reading/Cursor" "high" "I" (.int u_high) ∧ Fld Z h o0 "crossmarc/reading/Cursor" "encoding" "Lcrossmarc/reading/CheckedEncoding;" u_encoding ∧ Fld Z h o0 "crossmarc/reading/Cursor" "line" "I" (.int u_line) ∧ Fld Z h o0 "crossmarc/reading/Cursor" "column" "I" (.int (u_column + p1)) ∧ Fld Z h o0 "crossmarc/reading/Cursor" "needed" "I" (.int u_needed) ∧ Fld Z h o0 "crossmarc/reading/Cursor" "afterCr" "Z" (.int (0 : Int32)) ∧ Fld Z h o0 "crossmarc/reading/Cursor" "position" "J" (.long (u_position + (p1.toInt64)))
theorem own_ef_own_ascii (m : MethodId) (x0 : Addr) (x1 : Int32) : entryFrame m #[(.ref x0), (.int x1)] 2 = mkF m 0 #[.val (.ref x0), .val (.int x1)] [] := by first | (simp [entryFrame, mkF, argsToLocals, Value.category]; done) | rfl
set_option maxRecDepth 65536 in
set_option maxHeartbeats 40000000 in
theorem own_ascii (l : Launch) (Z : State) (a0 : Array Value) (hw : ∀ d ∈ tables_1, d.before a0 Z = true) (ws : List Jvm.Cond) (o0 : Addr) (p1 : Int32) (u_half : Int32) (u_low : Int32) (u_high : Int32) (u_encoding : Value) (u_line : Int32) (u_column : Int32) (u_needed : Int32) (u_afterCr : Int32) (u_position : Int64) (h0 : Heap) (n0 : Nat) (Z0 : n0 ≤ h0.size) (g0 : n0 ≤ o0) (E0 : Exa Z h0 o0 "crossmarc/reading/Cursor") (F_half : Fld Z h0 o0 "crossmarc/reading/Cursor" "half" "I" (.int u_half)) (F_low : Fld Z h0 o0 "crossmarc/reading/Cursor" "low" "I" (.int u_low)) (F_high : Fld Z h0 o0 "crossmarc/reading/Cursor" "high" "I" (.int u_high)) (F_encoding : Fld Z h0 o0 "crossmarc/reading/Cursor" "encoding" "Lcrossmarc/reading/CheckedEncoding;" u_encoding) (F_line : Fld Z h0 o0 "crossmarc/reading/Cursor" "line" "I" (.int u_line)) (F_column : Fld Z h0 o0 "crossmarc/reading/Cursor" "column" "I" (.int u_column)) (F_needed : Fld Z h0 o0 "crossmarc/reading/Cursor" "needed" "I" (.int u_needed)) (F_afterCr : Fld Z h0 o0 "crossmarc/reading/Cursor" "afterCr" "Z" (.int u_afterCr)) (F_position : Fld Z h0 o0 "crossmarc/reading/Cursor" "position" "J" (.long u_position)) :
    MetFree l (⟨"crossmarc/reading/Cursor", "passAsciiText", "(I)V"⟩ : MethodName) (head1 (Jvm.Cond.code (⟨"crossmarc/reading/Cursor", "passAsciiText", "(I)V"⟩ : MethodName) prog_53_method_9_code 2 none :: ws) ({ frames := 0, cells := 0, slots := 0, locals := 0 } : Room)) (fun a U => a = #[(.ref o0), (.int p1)] ∧ Z.Warmed39 U.vm ∧ U.heap = h0) (fun _ _ _ _ _ => True) (fun _ U o U' => ∃ v L, o = .returned v ∧ (own_Q_own_ascii Z o0 p1 u_half u_low u_high u_encoding u_line u_column u_needed u_afterCr u_position h0 n0) v U'.heap L ∧ FrameEnd U o U' L ({ frames := 0, cells := 0, slots := 0, locals := 0 } : Room).cells ({ frames := 0, cells := 0, slots := 0, locals := 0 } : Room).slots) := by
  refine MetFree.of_bodySF (plainFor_of_name own_pn0) hisR ?_
  intro p e s m args below meth c s₁ Bd hml0 hP hK
  obtain ⟨rfl, hZ, hh⟩ := hP
  have hx := Bd.exec
  have hby := Bd.bytes
  have hml : c.maxLocals = 2 := hml0
  have hown : s.vm.findClass "crossmarc/reading/Cursor" = some m.cls := findClass_of_methodNamed Bd.named
  have hnm := (name_of_methodNamed Bd.named Bd.method).1
  have hlk : meth.locks = false := BodyLoose.notSynchronized Bd
  have X0 : Stand p l e ({ frames := 0, cells := 0, slots := 0, locals := 0 } : Room) s m #[(.ref o0), (.int p1)] below meth c s₁ [] 0 0 := Stand.of_body Bd
  have e0 : s₁.heap = h0 := by rw [← hh, Bd.state]; rfl
  have N0 := Fr.nil n0
  show own_Ends p e below s (own_Q_own_ascii Z o0 p1 u_half u_low u_high u_encoding u_line u_column u_needed u_afterCr u_position h0 n0) ({ frames := 0, cells := 0, slots := 0, locals := 0 } : Room).cells ({ frames := 0, cells := 0, slots := 0, locals := 0 } : Room).slots _
  refine own_by (V := s₁.setTop (mkF m 0 #[.val (.ref o0), .val (.int p1)] [])) (fun t k => castTop (own_ef_own_ascii m o0 p1) k) ?_
  refine own_by (V := s₁.setTop (mkF m 1 #[.val (.ref o0), .val (.int p1)] [(.ref o0)])) (fun t k => XS.aloadN X0.here hx rfl (hb hby own_d_prog_53_9_0) rfl rfl k) ?_
  refine own_by (V := s₁.setTop (mkF m 2 #[.val (.ref o0), .val (.int p1)] [(.int (0 : Int32)), (.ref o0)])) (fun t k => XS.iconst X0.here hx rfl (hb hby own_d_prog_53_9_1) k) ?_
  obtain ⟨T1, h1, X1, e1, W1, st1⟩ := putFN X0 hx hZ hown (hw _ (List.mem_of_getElem? (i := 54) rfl)) Via.refl e0 F_afterCr E0 (Or.inl (hw _ (List.mem_of_getElem? (i := 55) rfl))) (hw _ (List.mem_of_getElem? (i := 6) rfl)) (ty := .boolean) (v' := (.int (0 : Int32))) (by decide) rfl rfl (g := (mkF m 2 #[.val (.ref o0), .val (.int p1)] [(.int (0 : Int32)), (.ref o0)])) rfl rfl (hb hby own_d_prog_53_9_2)
  have N1 := Fr.snoc X1 N0 g0
  have K1 := (Keep.refl h0 [o0]).wr W1 (Or.inl (List.mem_singleton.mpr rfl))
  have Zs1 : n0 ≤ h1.size := by rw [W1.size]; exact Z0
  have f2 := E0.wr W1
  have f3 := F_half.other W1 (Or.inr (slot_ne (Or.inl (hw _ (List.mem_of_getElem? (i := 15) rfl))) (Or.inl (hw _ (List.mem_of_getElem? (i := 55) rfl))) (by decide) (t := .int) (t' := .boolean) (by decide) (by decide)))
  have f4 := F_low.other W1 (Or.inr (slot_ne (Or.inl (hw _ (List.mem_of_getElem? (i := 17) rfl))) (Or.inl (hw _ (List.mem_of_getElem? (i := 55) rfl))) (by decide) (t := .int) (t' := .boolean) (by decide) (by decide)))
  have f5 := F_high.other W1 (Or.inr (slot_ne (Or.inl (hw _ (List.mem_of_getElem? (i := 19) rfl))) (Or.inl (hw _ (List.mem_of_getElem? (i := 55) rfl))) (by decide) (t := .int) (t' := .boolean) (by decide) (by decide)))
  have f6 := F_encoding.other W1 (Or.inr (slot_ne (Or.inr (hw _ (List.mem_of_getElem? (i := 21) rfl))) (Or.inl (hw _ (List.mem_of_getElem? (i := 55) rfl))) (by decide) (t := (.object "crossmarc/reading/CheckedEncoding")) (t' := .boolean) (by decide) (by decide)))
  have f7 := F_line.other W1 (Or.inr (slot_ne (Or.inl (hw _ (List.mem_of_getElem? (i := 23) rfl))) (Or.inl (hw _ (List.mem_of_getElem? (i := 55) rfl))) (by decide) (t := .int) (t' := .boolean) (by decide) (by decide)))
  have f8 := F_column.other W1 (Or.inr (slot_ne (Or.inl (hw _ (List.mem_of_getElem? (i := 25) rfl))) (Or.inl (hw _ (List.mem_of_getElem? (i := 55) rfl))) (by decide) (t := .int) (t' := .boolean) (by decide) (by decide)))
  have f9 := F_needed.other W1 (Or.inr (slot_ne (Or.inl (hw _ (List.mem_of_getElem? (i := 48) rfl))) (Or.inl (hw _ (List.mem_of_getElem? (i := 55) rfl))) (by decide) (t := .int) (t' := .boolean) (by decide) (by decide)))
  have f10 := F_afterCr.same W1
  have f11 := F_position.other W1 (Or.inr (slot_ne (Or.inl (hw _ (List.mem_of_getElem? (i := 57) rfl))) (Or.inl (hw _ (List.mem_of_getElem? (i := 55) rfl))) (by decide) (t := .long) (t' := .boolean) (by decide) (by decide)))
  refine own_by (V := T1.setTop (mkF m 5 #[.val (.ref o0), .val (.int p1)] [])) st1 ?_
  refine own_by (V := T1.setTop (mkF m 6 #[.val (.ref o0), .val (.int p1)] [(.ref o0)])) (fun t k => XS.aloadN X1.here hx rfl (hb hby own_d_prog_53_9_5) rfl rfl k) ?_
  refine own_by (V := T1.setTop (mkF m 7 #[.val (.ref o0), .val (.int p1)] [(.ref o0), (.ref o0)])) (fun t k => XS.dup X1.here hx rfl (hb hby own_d_prog_53_9_6) rfl rfl k) ?_
  obtain ⟨T12, X12, e12, st12⟩ := getF X1 hx hZ hown (host := "") (Or.inl (hw _ (List.mem_of_getElem? (i := 56) rfl))) Via.refl e1 f11 (g := (mkF m 7 #[.val (.ref o0), .val (.int p1)] [(.ref o0), (.ref o0)])) rfl rfl (hb hby own_d_prog_53_9_7)
  refine own_by (V := T12.setTop (mkF m 10 #[.val (.ref o0), .val (.int p1)] [(.long u_position), (.ref o0)])) st12 ?_
  refine own_by (V := T12.setTop (mkF m 11 #[.val (.ref o0), .val (.int p1)] [(.int p1), (.long u_position), (.ref o0)])) (fun t k => XS.iloadN X12.here hx rfl (hb hby own_d_prog_53_9_10) rfl  k) ?_
  refine own_by (V := T12.setTop (mkF m 12 #[.val (.ref o0), .val (.int p1)] [(.long (p1.toInt64)), (.long u_position), (.ref o0)])) (fun t k => XS.i2l X12.here hx rfl (hb hby own_d_prog_53_9_11) rfl k) ?_
  refine own_by (V := T12.setTop (mkF m 13 #[.val (.ref o0), .val (.int p1)] [(.long (u_position + (p1.toInt64))), (.ref o0)])) (fun t k => XS.ladd X12.here hx rfl (hb hby own_d_prog_53_9_12) rfl k) ?_
  obtain ⟨T13, h13, X13, e13, W13, st13⟩ := putF X12 hx hZ hown (host := "") (Or.inl (hw _ (List.mem_of_getElem? (i := 56) rfl))) Via.refl e12 f11 f2 (Or.inl (hw _ (List.mem_of_getElem? (i := 57) rfl))) (hw _ (List.mem_of_getElem? (i := 6) rfl)) (ty := .long) (by decide) rfl rfl (g := (mkF m 13 #[.val (.ref o0), .val (.int p1)] [(.long (u_position + (p1.toInt64))), (.ref o0)])) rfl rfl (hb hby own_d_prog_53_9_13)
  have N13 := Fr.snoc X13 N1 g0
  have K13 := K1.wr W13 (Or.inl (List.mem_singleton.mpr rfl))
  have Zs13 : n0 ≤ h13.size := by rw [W13.size]; exact Zs1
  have f14 := f2.wr W13
  have f15 := f3.other W13 (Or.inr (slot_ne (Or.inl (hw _ (List.mem_of_getElem? (i := 15) rfl))) (Or.inl (hw _ (List.mem_of_getElem? (i := 57) rfl))) (by decide) (t := .int) (t' := .long) (by decide) (by decide)))
  have f16 := f4.other W13 (Or.inr (slot_ne (Or.inl (hw _ (List.mem_of_getElem? (i := 17) rfl))) (Or.inl (hw _ (List.mem_of_getElem? (i := 57) rfl))) (by decide) (t := .int) (t' := .long) (by decide) (by decide)))
  have f17 := f5.other W13 (Or.inr (slot_ne (Or.inl (hw _ (List.mem_of_getElem? (i := 19) rfl))) (Or.inl (hw _ (List.mem_of_getElem? (i := 57) rfl))) (by decide) (t := .int) (t' := .long) (by decide) (by decide)))
  have f18 := f6.other W13 (Or.inr (slot_ne (Or.inr (hw _ (List.mem_of_getElem? (i := 21) rfl))) (Or.inl (hw _ (List.mem_of_getElem? (i := 57) rfl))) (by decide) (t := (.object "crossmarc/reading/CheckedEncoding")) (t' := .long) (by decide) (by decide)))
  have f19 := f7.other W13 (Or.inr (slot_ne (Or.inl (hw _ (List.mem_of_getElem? (i := 23) rfl))) (Or.inl (hw _ (List.mem_of_getElem? (i := 57) rfl))) (by decide) (t := .int) (t' := .long) (by decide) (by decide)))
  have f20 := f8.other W13 (Or.inr (slot_ne (Or.inl (hw _ (List.mem_of_getElem? (i := 25) rfl))) (Or.inl (hw _ (List.mem_of_getElem? (i := 57) rfl))) (by decide) (t := .int) (t' := .long) (by decide) (by decide)))
  have f21 := f9.other W13 (Or.inr (slot_ne (Or.inl (hw _ (List.mem_of_getElem? (i := 48) rfl))) (Or.inl (hw _ (List.mem_of_getElem? (i := 57) rfl))) (by decide) (t := .int) (t' := .long) (by decide) (by decide)))
  have f22 := f10.other W13 (Or.inr (slot_ne (Or.inl (hw _ (List.mem_of_getElem? (i := 55) rfl))) (Or.inl (hw _ (List.mem_of_getElem? (i := 57) rfl))) (by decide) (t := .boolean) (t' := .long) (by decide) (by decide)))
  have f23 := f11.same W13
  refine own_by (V := T13.setTop (mkF m 16 #[.val (.ref o0), .val (.int p1)] [])) st13 ?_
  refine own_by (V := T13.setTop (mkF m 17 #[.val (.ref o0), .val (.int p1)] [(.ref o0)])) (fun t k => XS.aloadN X13.here hx rfl (hb hby own_d_prog_53_9_16) rfl rfl k) ?_
  refine own_by (V := T13.setTop (mkF m 18 #[.val (.ref o0), .val (.int p1)] [(.ref o0), (.ref o0)])) (fun t k => XS.dup X13.here hx rfl (hb hby own_d_prog_53_9_17) rfl rfl k) ?_
  obtain ⟨T24, X24, e24, st24⟩ := getF X13 hx hZ hown (host := "") (Or.inl (hw _ (List.mem_of_getElem? (i := 24) rfl))) Via.refl e13 f20 (g := (mkF m 18 #[.val (.ref o0), .val (.int p1)] [(.ref o0), (.ref o0)])) rfl rfl (hb hby own_d_prog_53_9_18)
  refine own_by (V := T24.setTop (mkF m 21 #[.val (.ref o0), .val (.int p1)] [(.int u_column), (.ref o0)])) st24 ?_
  refine own_by (V := T24.setTop (mkF m 22 #[.val (.ref o0), .val (.int p1)] [(.int p1), (.int u_column), (.ref o0)])) (fun t k => XS.iloadN X24.here hx rfl (hb hby own_d_prog_53_9_21) rfl  k) ?_
  refine own_by (V := T24.setTop (mkF m 23 #[.val (.ref o0), .val (.int p1)] [(.int (u_column + p1)), (.ref o0)])) (fun t k => XS.iadd X24.here hx rfl (hb hby own_d_prog_53_9_22) rfl k) ?_
  obtain ⟨T25, h25, X25, e25, W25, st25⟩ := putF X24 hx hZ hown (host := "") (Or.inl (hw _ (List.mem_of_getElem? (i := 24) rfl))) Via.refl e24 f20 f14 (Or.inl (hw _ (List.mem_of_getElem? (i := 25) rfl))) (hw _ (List.mem_of_getElem? (i := 6) rfl)) (ty := .int) (by decide) rfl rfl (g := (mkF m 23 #[.val (.ref o0), .val (.int p1)] [(.int (u_column + p1)), (.ref o0)])) rfl rfl (hb hby own_d_prog_53_9_23)
  have N25 := Fr.snoc X25 N13 g0
  have K25 := K13.wr W25 (Or.inl (List.mem_singleton.mpr rfl))
  have Zs25 : n0 ≤ h25.size := by rw [W25.size]; exact Zs13
  have f26 := f14.wr W25
  have f27 := f15.other W25 (Or.inr (slot_ne (Or.inl (hw _ (List.mem_of_getElem? (i := 15) rfl))) (Or.inl (hw _ (List.mem_of_getElem? (i := 25) rfl))) (by decide) (t := .int) (t' := .int) (by decide) (by decide)))
  have f28 := f16.other W25 (Or.inr (slot_ne (Or.inl (hw _ (List.mem_of_getElem? (i := 17) rfl))) (Or.inl (hw _ (List.mem_of_getElem? (i := 25) rfl))) (by decide) (t := .int) (t' := .int) (by decide) (by decide)))
  have f29 := f17.other W25 (Or.inr (slot_ne (Or.inl (hw _ (List.mem_of_getElem? (i := 19) rfl))) (Or.inl (hw _ (List.mem_of_getElem? (i := 25) rfl))) (by decide) (t := .int) (t' := .int) (by decide) (by decide)))
  have f30 := f18.other W25 (Or.inr (slot_ne (Or.inr (hw _ (List.mem_of_getElem? (i := 21) rfl))) (Or.inl (hw _ (List.mem_of_getElem? (i := 25) rfl))) (by decide) (t := (.object "crossmarc/reading/CheckedEncoding")) (t' := .int) (by decide) (by decide)))
  have f31 := f19.other W25 (Or.inr (slot_ne (Or.inl (hw _ (List.mem_of_getElem? (i := 23) rfl))) (Or.inl (hw _ (List.mem_of_getElem? (i := 25) rfl))) (by decide) (t := .int) (t' := .int) (by decide) (by decide)))
  have f32 := f20.same W25
  have f33 := f21.other W25 (Or.inr (slot_ne (Or.inl (hw _ (List.mem_of_getElem? (i := 48) rfl))) (Or.inl (hw _ (List.mem_of_getElem? (i := 25) rfl))) (by decide) (t := .int) (t' := .int) (by decide) (by decide)))
  have f34 := f22.other W25 (Or.inr (slot_ne (Or.inl (hw _ (List.mem_of_getElem? (i := 55) rfl))) (Or.inl (hw _ (List.mem_of_getElem? (i := 25) rfl))) (by decide) (t := .boolean) (t' := .int) (by decide) (by decide)))
  have f35 := f23.other W25 (Or.inr (slot_ne (Or.inl (hw _ (List.mem_of_getElem? (i := 57) rfl))) (Or.inl (hw _ (List.mem_of_getElem? (i := 25) rfl))) (by decide) (t := .long) (t' := .int) (by decide) (by decide)))
  refine own_by (V := T25.setTop (mkF m 26 #[.val (.ref o0), .val (.int p1)] [])) st25 ?_
  refine own_ret0 X25 hx hlk e25 Bd.returns (hb hby own_d_prog_53_9_26) ?_ (by decide) (by decide)
  exact ⟨rfl, N25, K25, f26, f27, f28, f29, f30, f31, f32, f33, f34, f35⟩
def own_Q_own_pass (Z : State) (o0 : Addr) (p1 : Int32) (u_half : Int32) (u_low : Int32) (u_high : Int32) (u_encoding : Value) (u_line : Int32) (u_column : Int32) (u_needed : Int32) (u_afterCr : Int32) (u_position : Int64) (h0 : Heap) (n0 : Nat) : Option Value → Heap → List Loc → Prop := fun v h L => v = none ∧ Fr n0 L ∧ Keep h0 h [o0] ∧ Exa Z h o0 "crossmarc/reading/Cursor" ∧ Fld Z h o0 "crossmarc/reading/Cursor" "half" "I" (.int u_half) ∧ Fld Z h o0 "crossmarc/reading/Cursor" "low" "I" (.int u_low) ∧ Fld Z h o0 "crossmarc/reading/Cursor" "high" "I" (.int u_high) ∧ Fld Z h o0 "crossmarc/reading/Cursor" "encoding" "Lcrossmarc/reading/CheckedEncoding;" u_encoding ∧ Fld Z h o0 "crossmarc/reading/Cursor" "line" "I" (.int (u_line + (own_nl u_afterCr p1))) ∧ Fld Z h o0 "crossmarc/reading/Cursor" "column" "I" (.int (own_nc u_column p1)) ∧ Fld Z h o0 "crossmarc/reading/Cursor" "needed" "I" (.int u_needed) ∧ Fld Z h o0 "crossmarc/reading/Cursor" "afterCr" "Z" (.int (own_pcr p1)) ∧ Fld Z h o0 "crossmarc/reading/Cursor" "position" "J" (.long u_position)
theorem own_ef_own_pass (m : MethodId) (x0 : Addr) (x1 : Int32) : entryFrame m #[(.ref x0), (.int x1)] 2 = mkF m 0 #[.val (.ref x0), .val (.int x1)] [] := by first | (simp [entryFrame, mkF, argsToLocals, Value.category]; done) | rfl
set_option maxRecDepth 65536 in
set_option maxHeartbeats 40000000 in
theorem own_pass (l : Launch) (Z : State) (a0 : Array Value) (hw : ∀ d ∈ tables_1, d.before a0 Z = true) (ws : List Jvm.Cond) (o0 : Addr) (p1 : Int32) (u_half : Int32) (u_low : Int32) (u_high : Int32) (u_encoding : Value) (u_line : Int32) (u_column : Int32) (u_needed : Int32) (u_afterCr : Int32) (u_position : Int64) (h0 : Heap) (n0 : Nat) (Z0 : n0 ≤ h0.size) (g0 : n0 ≤ o0) (E0 : Exa Z h0 o0 "crossmarc/reading/Cursor") (F_half : Fld Z h0 o0 "crossmarc/reading/Cursor" "half" "I" (.int u_half)) (F_low : Fld Z h0 o0 "crossmarc/reading/Cursor" "low" "I" (.int u_low)) (F_high : Fld Z h0 o0 "crossmarc/reading/Cursor" "high" "I" (.int u_high)) (F_encoding : Fld Z h0 o0 "crossmarc/reading/Cursor" "encoding" "Lcrossmarc/reading/CheckedEncoding;" u_encoding) (F_line : Fld Z h0 o0 "crossmarc/reading/Cursor" "line" "I" (.int u_line)) (F_column : Fld Z h0 o0 "crossmarc/reading/Cursor" "column" "I" (.int u_column)) (F_needed : Fld Z h0 o0 "crossmarc/reading/Cursor" "needed" "I" (.int u_needed)) (F_afterCr : Fld Z h0 o0 "crossmarc/reading/Cursor" "afterCr" "Z" (.int u_afterCr)) (F_position : Fld Z h0 o0 "crossmarc/reading/Cursor" "position" "J" (.long u_position)) :
    MetFree l (⟨"crossmarc/reading/Cursor", "pass", "(I)V"⟩ : MethodName) (head1 (Jvm.Cond.code (⟨"crossmarc/reading/Cursor", "pass", "(I)V"⟩ : MethodName) prog_53_method_10_code 2 none :: ws) ({ frames := 0, cells := 0, slots := 0, locals := 0 } : Room)) (fun a U => a = #[(.ref o0), (.int p1)] ∧ Z.Warmed39 U.vm ∧ U.heap = h0) (fun _ _ _ _ _ => True) (fun _ U o U' => ∃ v L, o = .returned v ∧ (own_Q_own_pass Z o0 p1 u_half u_low u_high u_encoding u_line u_column u_needed u_afterCr u_position h0 n0) v U'.heap L ∧ FrameEnd U o U' L ({ frames := 0, cells := 0, slots := 0, locals := 0 } : Room).cells ({ frames := 0, cells := 0, slots := 0, locals := 0 } : Room).slots) := by
  refine MetFree.of_bodySF (plainFor_of_name own_pn0) hisR ?_
  intro p e s m args below meth c s₁ Bd hml0 hP hK
  obtain ⟨rfl, hZ, hh⟩ := hP
  have hx := Bd.exec
  have hby := Bd.bytes
  have hml : c.maxLocals = 2 := hml0
  have hown : s.vm.findClass "crossmarc/reading/Cursor" = some m.cls := findClass_of_methodNamed Bd.named
  have hnm := (name_of_methodNamed Bd.named Bd.method).1
  have hlk : meth.locks = false := BodyLoose.notSynchronized Bd
  have X0 : Stand p l e ({ frames := 0, cells := 0, slots := 0, locals := 0 } : Room) s m #[(.ref o0), (.int p1)] below meth c s₁ [] 0 0 := Stand.of_body Bd
  have e0 : s₁.heap = h0 := by rw [← hh, Bd.state]; rfl
  have N0 := Fr.nil n0
  show own_Ends p e below s (own_Q_own_pass Z o0 p1 u_half u_low u_high u_encoding u_line u_column u_needed u_afterCr u_position h0 n0) ({ frames := 0, cells := 0, slots := 0, locals := 0 } : Room).cells ({ frames := 0, cells := 0, slots := 0, locals := 0 } : Room).slots _
  refine own_by (V := s₁.setTop (mkF m 0 #[.val (.ref o0), .val (.int p1)] [])) (fun t k => castTop (own_ef_own_pass m o0 p1) k) ?_
  refine own_by (V := s₁.setTop (mkF m 1 #[.val (.ref o0), .val (.int p1)] [(.int p1)])) (fun t k => XS.iloadN X0.here hx rfl (hb hby own_d_prog_53_10_0) rfl  k) ?_
  refine own_by (V := s₁.setTop (mkF m 3 #[.val (.ref o0), .val (.int p1)] [(.int (13 : Int32)), (.int p1)])) (fun t k => XS.bipush X0.here hx rfl (hb hby own_d_prog_53_10_1) k) ?_
  by_cases hb3_1 : p1 = (13 : Int32)
  · refine own_by (V := s₁.setTop (mkF m 12 #[.val (.ref o0), .val (.int p1)] [])) (fun t k => XS.icmpYes X0.here hx rfl (pc0 := 3) (pc' := 12) rfl (hb hby own_d_prog_53_10_3) rfl (teq hb3_1).1 (by decide) (by decide) k) ?_
    refine own_by (V := s₁.setTop (mkF m 13 #[.val (.ref o0), .val (.int p1)] [(.int p1)])) (fun t k => XS.iloadN X0.here hx rfl (hb hby own_d_prog_53_10_12) rfl  k) ?_
    refine own_by (V := s₁.setTop (mkF m 15 #[.val (.ref o0), .val (.int p1)] [(.int (13 : Int32)), (.int p1)])) (fun t k => XS.bipush X0.here hx rfl (hb hby own_d_prog_53_10_13) k) ?_
    have hb15_2 : (p1 = (13 : Int32)) := hb3_1
    refine own_by (V := s₁.setTop (mkF m 25 #[.val (.ref o0), .val (.int p1)] [])) (fun t k => XS.icmpYes X0.here hx rfl (pc0 := 15) (pc' := 25) rfl (hb hby own_d_prog_53_10_15) rfl (teq hb15_2).1 (by decide) (by decide) k) ?_
    refine own_by (V := s₁.setTop (mkF m 26 #[.val (.ref o0), .val (.int p1)] [(.ref o0)])) (fun t k => XS.aloadN X0.here hx rfl (hb hby own_d_prog_53_10_25) rfl rfl k) ?_
    refine own_by (V := s₁.setTop (mkF m 27 #[.val (.ref o0), .val (.int p1)] [(.ref o0), (.ref o0)])) (fun t k => XS.dup X0.here hx rfl (hb hby own_d_prog_53_10_26) rfl rfl k) ?_
    obtain ⟨T3, X3, e3, st3⟩ := getF X0 hx hZ hown (host := "") (Or.inl (hw _ (List.mem_of_getElem? (i := 22) rfl))) Via.refl e0 F_line (g := (mkF m 27 #[.val (.ref o0), .val (.int p1)] [(.ref o0), (.ref o0)])) rfl rfl (hb hby own_d_prog_53_10_27)
    refine own_by (V := T3.setTop (mkF m 30 #[.val (.ref o0), .val (.int p1)] [(.int u_line), (.ref o0)])) st3 ?_
    refine own_by (V := T3.setTop (mkF m 31 #[.val (.ref o0), .val (.int p1)] [(.int (1 : Int32)), (.int u_line), (.ref o0)])) (fun t k => XS.iconst X3.here hx rfl (hb hby own_d_prog_53_10_30) k) ?_
    refine own_by (V := T3.setTop (mkF m 32 #[.val (.ref o0), .val (.int p1)] [(.int (u_line + (1 : Int32))), (.ref o0)])) (fun t k => XS.iadd X3.here hx rfl (hb hby own_d_prog_53_10_31) rfl k) ?_
    obtain ⟨T4, h4, X4, e4, W4, st4⟩ := putF X3 hx hZ hown (host := "") (Or.inl (hw _ (List.mem_of_getElem? (i := 22) rfl))) Via.refl e3 F_line E0 (Or.inl (hw _ (List.mem_of_getElem? (i := 23) rfl))) (hw _ (List.mem_of_getElem? (i := 6) rfl)) (ty := .int) (by decide) rfl rfl (g := (mkF m 32 #[.val (.ref o0), .val (.int p1)] [(.int (u_line + (1 : Int32))), (.ref o0)])) rfl rfl (hb hby own_d_prog_53_10_32)
    have N4 := Fr.snoc X4 N0 g0
    have K4 := (Keep.refl h0 [o0]).wr W4 (Or.inl (List.mem_singleton.mpr rfl))
    have Zs4 : n0 ≤ h4.size := by rw [W4.size]; exact Z0
    have f5 := E0.wr W4
    have f6 := F_half.other W4 (Or.inr (slot_ne (Or.inl (hw _ (List.mem_of_getElem? (i := 15) rfl))) (Or.inl (hw _ (List.mem_of_getElem? (i := 23) rfl))) (by decide) (t := .int) (t' := .int) (by decide) (by decide)))
    have f7 := F_low.other W4 (Or.inr (slot_ne (Or.inl (hw _ (List.mem_of_getElem? (i := 17) rfl))) (Or.inl (hw _ (List.mem_of_getElem? (i := 23) rfl))) (by decide) (t := .int) (t' := .int) (by decide) (by decide)))
    have f8 := F_high.other W4 (Or.inr (slot_ne (Or.inl (hw _ (List.mem_of_getElem? (i := 19) rfl))) (Or.inl (hw _ (List.mem_of_getElem? (i := 23) rfl))) (by decide) (t := .int) (t' := .int) (by decide) (by decide)))
    have f9 := F_encoding.other W4 (Or.inr (slot_ne (Or.inr (hw _ (List.mem_of_getElem? (i := 21) rfl))) (Or.inl (hw _ (List.mem_of_getElem? (i := 23) rfl))) (by decide) (t := (.object "crossmarc/reading/CheckedEncoding")) (t' := .int) (by decide) (by decide)))
    have f10 := F_line.same W4
    have f11 := F_column.other W4 (Or.inr (slot_ne (Or.inl (hw _ (List.mem_of_getElem? (i := 25) rfl))) (Or.inl (hw _ (List.mem_of_getElem? (i := 23) rfl))) (by decide) (t := .int) (t' := .int) (by decide) (by decide)))
    have f12 := F_needed.other W4 (Or.inr (slot_ne (Or.inl (hw _ (List.mem_of_getElem? (i := 48) rfl))) (Or.inl (hw _ (List.mem_of_getElem? (i := 23) rfl))) (by decide) (t := .int) (t' := .int) (by decide) (by decide)))
    have f13 := F_afterCr.other W4 (Or.inr (slot_ne (Or.inl (hw _ (List.mem_of_getElem? (i := 55) rfl))) (Or.inl (hw _ (List.mem_of_getElem? (i := 23) rfl))) (by decide) (t := .boolean) (t' := .int) (by decide) (by decide)))
    have f14 := F_position.other W4 (Or.inr (slot_ne (Or.inl (hw _ (List.mem_of_getElem? (i := 57) rfl))) (Or.inl (hw _ (List.mem_of_getElem? (i := 23) rfl))) (by decide) (t := .long) (t' := .int) (by decide) (by decide)))
    refine own_by (V := T4.setTop (mkF m 35 #[.val (.ref o0), .val (.int p1)] [])) st4 ?_
    refine own_by (V := T4.setTop (mkF m 36 #[.val (.ref o0), .val (.int p1)] [(.ref o0)])) (fun t k => XS.aloadN X4.here hx rfl (hb hby own_d_prog_53_10_35) rfl rfl k) ?_
    refine own_by (V := T4.setTop (mkF m 37 #[.val (.ref o0), .val (.int p1)] [(.int (1 : Int32)), (.ref o0)])) (fun t k => XS.iconst X4.here hx rfl (hb hby own_d_prog_53_10_36) k) ?_
    obtain ⟨T15, h15, X15, e15, W15, st15⟩ := putF X4 hx hZ hown (host := "") (Or.inl (hw _ (List.mem_of_getElem? (i := 24) rfl))) Via.refl e4 f11 f5 (Or.inl (hw _ (List.mem_of_getElem? (i := 25) rfl))) (hw _ (List.mem_of_getElem? (i := 6) rfl)) (ty := .int) (by decide) rfl rfl (g := (mkF m 37 #[.val (.ref o0), .val (.int p1)] [(.int (1 : Int32)), (.ref o0)])) rfl rfl (hb hby own_d_prog_53_10_37)
    have N15 := Fr.snoc X15 N4 g0
    have K15 := K4.wr W15 (Or.inl (List.mem_singleton.mpr rfl))
    have Zs15 : n0 ≤ h15.size := by rw [W15.size]; exact Zs4
    have f16 := f5.wr W15
    have f17 := f6.other W15 (Or.inr (slot_ne (Or.inl (hw _ (List.mem_of_getElem? (i := 15) rfl))) (Or.inl (hw _ (List.mem_of_getElem? (i := 25) rfl))) (by decide) (t := .int) (t' := .int) (by decide) (by decide)))
    have f18 := f7.other W15 (Or.inr (slot_ne (Or.inl (hw _ (List.mem_of_getElem? (i := 17) rfl))) (Or.inl (hw _ (List.mem_of_getElem? (i := 25) rfl))) (by decide) (t := .int) (t' := .int) (by decide) (by decide)))
    have f19 := f8.other W15 (Or.inr (slot_ne (Or.inl (hw _ (List.mem_of_getElem? (i := 19) rfl))) (Or.inl (hw _ (List.mem_of_getElem? (i := 25) rfl))) (by decide) (t := .int) (t' := .int) (by decide) (by decide)))
    have f20 := f9.other W15 (Or.inr (slot_ne (Or.inr (hw _ (List.mem_of_getElem? (i := 21) rfl))) (Or.inl (hw _ (List.mem_of_getElem? (i := 25) rfl))) (by decide) (t := (.object "crossmarc/reading/CheckedEncoding")) (t' := .int) (by decide) (by decide)))
    have f21 := f10.other W15 (Or.inr (slot_ne (Or.inl (hw _ (List.mem_of_getElem? (i := 23) rfl))) (Or.inl (hw _ (List.mem_of_getElem? (i := 25) rfl))) (by decide) (t := .int) (t' := .int) (by decide) (by decide)))
    have f22 := f11.same W15
    have f23 := f12.other W15 (Or.inr (slot_ne (Or.inl (hw _ (List.mem_of_getElem? (i := 48) rfl))) (Or.inl (hw _ (List.mem_of_getElem? (i := 25) rfl))) (by decide) (t := .int) (t' := .int) (by decide) (by decide)))
    have f24 := f13.other W15 (Or.inr (slot_ne (Or.inl (hw _ (List.mem_of_getElem? (i := 55) rfl))) (Or.inl (hw _ (List.mem_of_getElem? (i := 25) rfl))) (by decide) (t := .boolean) (t' := .int) (by decide) (by decide)))
    have f25 := f14.other W15 (Or.inr (slot_ne (Or.inl (hw _ (List.mem_of_getElem? (i := 57) rfl))) (Or.inl (hw _ (List.mem_of_getElem? (i := 25) rfl))) (by decide) (t := .long) (t' := .int) (by decide) (by decide)))
    refine own_by (V := T15.setTop (mkF m 40 #[.val (.ref o0), .val (.int p1)] [])) st15 ?_
    refine own_by (V := T15.setTop (mkF m 53 #[.val (.ref o0), .val (.int p1)] [])) (fun t k => XS.goto X15.here hx rfl (pc0 := 40) (pc' := 53) rfl (hb hby own_d_prog_53_10_40) (by decide) (by decide) k) ?_
    refine own_by (V := T15.setTop (mkF m 54 #[.val (.ref o0), .val (.int p1)] [(.ref o0)])) (fun t k => XS.aloadN X15.here hx rfl (hb hby own_d_prog_53_10_53) rfl rfl k) ?_
    refine own_by (V := T15.setTop (mkF m 55 #[.val (.ref o0), .val (.int p1)] [(.int p1), (.ref o0)])) (fun t k => XS.iloadN X15.here hx rfl (hb hby own_d_prog_53_10_54) rfl  k) ?_
    refine own_by (V := T15.setTop (mkF m 57 #[.val (.ref o0), .val (.int p1)] [(.int (13 : Int32)), (.int p1), (.ref o0)])) (fun t k => XS.bipush X15.here hx rfl (hb hby own_d_prog_53_10_55) k) ?_
    have hb57_26 : (p1 = (13 : Int32)) := hb3_1
    refine own_by (V := T15.setTop (mkF m 60 #[.val (.ref o0), .val (.int p1)] [(.ref o0)])) (fun t k => XS.icmpNo X15.here hx rfl (hb hby own_d_prog_53_10_57) rfl (teq hb57_26).2 k) ?_
    refine own_by (V := T15.setTop (mkF m 61 #[.val (.ref o0), .val (.int p1)] [(.int (1 : Int32)), (.ref o0)])) (fun t k => XS.iconst X15.here hx rfl (hb hby own_d_prog_53_10_60) k) ?_
    refine own_by (V := T15.setTop (mkF m 65 #[.val (.ref o0), .val (.int p1)] [(.int (1 : Int32)), (.ref o0)])) (fun t k => XS.goto X15.here hx rfl (pc0 := 61) (pc' := 65) rfl (hb hby own_d_prog_53_10_61) (by decide) (by decide) k) ?_
    obtain ⟨T27, h27, X27, e27, W27, st27⟩ := putFN X15 hx hZ hown (hw _ (List.mem_of_getElem? (i := 54) rfl)) Via.refl e15 f24 f16 (Or.inl (hw _ (List.mem_of_getElem? (i := 55) rfl))) (hw _ (List.mem_of_getElem? (i := 6) rfl)) (ty := .boolean) (v' := (.int (1 : Int32))) (by decide) rfl rfl (g := (mkF m 65 #[.val (.ref o0), .val (.int p1)] [(.int (1 : Int32)), (.ref o0)])) rfl rfl (hb hby own_d_prog_53_10_65)
    have N27 := Fr.snoc X27 N15 g0
    have K27 := K15.wr W27 (Or.inl (List.mem_singleton.mpr rfl))
    have Zs27 : n0 ≤ h27.size := by rw [W27.size]; exact Zs15
    have f28 := f16.wr W27
    have f29 := f17.other W27 (Or.inr (slot_ne (Or.inl (hw _ (List.mem_of_getElem? (i := 15) rfl))) (Or.inl (hw _ (List.mem_of_getElem? (i := 55) rfl))) (by decide) (t := .int) (t' := .boolean) (by decide) (by decide)))
    have f30 := f18.other W27 (Or.inr (slot_ne (Or.inl (hw _ (List.mem_of_getElem? (i := 17) rfl))) (Or.inl (hw _ (List.mem_of_getElem? (i := 55) rfl))) (by decide) (t := .int) (t' := .boolean) (by decide) (by decide)))
    have f31 := f19.other W27 (Or.inr (slot_ne (Or.inl (hw _ (List.mem_of_getElem? (i := 19) rfl))) (Or.inl (hw _ (List.mem_of_getElem? (i := 55) rfl))) (by decide) (t := .int) (t' := .boolean) (by decide) (by decide)))
    have f32 := f20.other W27 (Or.inr (slot_ne (Or.inr (hw _ (List.mem_of_getElem? (i := 21) rfl))) (Or.inl (hw _ (List.mem_of_getElem? (i := 55) rfl))) (by decide) (t := (.object "crossmarc/reading/CheckedEncoding")) (t' := .boolean) (by decide) (by decide)))
    have f33 := f21.other W27 (Or.inr (slot_ne (Or.inl (hw _ (List.mem_of_getElem? (i := 23) rfl))) (Or.inl (hw _ (List.mem_of_getElem? (i := 55) rfl))) (by decide) (t := .int) (t' := .boolean) (by decide) (by decide)))
    have f34 := f22.other W27 (Or.inr (slot_ne (Or.inl (hw _ (List.mem_of_getElem? (i := 25) rfl))) (Or.inl (hw _ (List.mem_of_getElem? (i := 55) rfl))) (by decide) (t := .int) (t' := .boolean) (by decide) (by decide)))
    have f35 := f23.other W27 (Or.inr (slot_ne (Or.inl (hw _ (List.mem_of_getElem? (i := 48) rfl))) (Or.inl (hw _ (List.mem_of_getElem? (i := 55) rfl))) (by decide) (t := .int) (t' := .boolean) (by decide) (by decide)))
    have f36 := f24.same W27
    have f37 := f25.other W27 (Or.inr (slot_ne (Or.inl (hw _ (List.mem_of_getElem? (i := 57) rfl))) (Or.inl (hw _ (List.mem_of_getElem? (i := 55) rfl))) (by decide) (t := .long) (t' := .boolean) (by decide) (by decide)))
    refine own_by (V := T27.setTop (mkF m 68 #[.val (.ref o0), .val (.int p1)] [])) st27 ?_
    refine own_ret0 X27 hx hlk e27 Bd.returns (hb hby own_d_prog_53_10_68) ?_ (by decide) (by decide)
    exact ⟨rfl, N27, K27, f28, f29, f30, f31, f32, (by rw [show (u_line + (own_nl u_afterCr p1)) = (u_line + (1 : Int32)) from by simp [own_nl, own_nc, own_pcr, hb3_1, hb15_2, hb57_26]]; exact f33), (by rw [show (own_nc u_column p1) = (1 : Int32) from by simp [own_nl, own_nc, own_pcr, hb3_1, hb15_2, hb57_26]]; exact f34), f35, (by rw [show (own_pcr p1) = (1 : Int32) from by simp [own_nl, own_nc, own_pcr, hb3_1, hb15_2, hb57_26]]; exact f36), f37⟩
  · refine own_by (V := s₁.setTop (mkF m 6 #[.val (.ref o0), .val (.int p1)] [])) (fun t k => XS.icmpNo X0.here hx rfl (hb hby own_d_prog_53_10_3) rfl (feq hb3_1).1 k) ?_
    refine own_by (V := s₁.setTop (mkF m 7 #[.val (.ref o0), .val (.int p1)] [(.int p1)])) (fun t k => XS.iloadN X0.here hx rfl (hb hby own_d_prog_53_10_6) rfl  k) ?_
    refine own_by (V := s₁.setTop (mkF m 9 #[.val (.ref o0), .val (.int p1)] [(.int (10 : Int32)), (.int p1)])) (fun t k => XS.bipush X0.here hx rfl (hb hby own_d_prog_53_10_7) k) ?_
    by_cases hb9_38 : p1 = (10 : Int32)
    · refine own_by (V := s₁.setTop (mkF m 12 #[.val (.ref o0), .val (.int p1)] [])) (fun t k => XS.icmpNo X0.here hx rfl (hb hby own_d_prog_53_10_9) rfl (teq hb9_38).2 k) ?_
      refine own_by (V := s₁.setTop (mkF m 13 #[.val (.ref o0), .val (.int p1)] [(.int p1)])) (fun t k => XS.iloadN X0.here hx rfl (hb hby own_d_prog_53_10_12) rfl  k) ?_
      refine own_by (V := s₁.setTop (mkF m 15 #[.val (.ref o0), .val (.int p1)] [(.int (13 : Int32)), (.int p1)])) (fun t k => XS.bipush X0.here hx rfl (hb hby own_d_prog_53_10_13) k) ?_
      have hb15_39 : ¬ (p1 = (13 : Int32)) := hb3_1
      refine own_by (V := s₁.setTop (mkF m 18 #[.val (.ref o0), .val (.int p1)] [])) (fun t k => XS.icmpNo X0.here hx rfl (hb hby own_d_prog_53_10_15) rfl (feq hb15_39).1 k) ?_
      refine own_by (V := s₁.setTop (mkF m 19 #[.val (.ref o0), .val (.int p1)] [(.ref o0)])) (fun t k => XS.aloadN X0.here hx rfl (hb hby own_d_prog_53_10_18) rfl rfl k) ?_
      obtain ⟨T40, X40, e40, st40⟩ := getF X0 hx hZ hown (host := "") (Or.inl (hw _ (List.mem_of_getElem? (i := 54) rfl))) Via.refl e0 F_afterCr (g := (mkF m 19 #[.val (.ref o0), .val (.int p1)] [(.ref o0)])) rfl rfl (hb hby own_d_prog_53_10_19)
      refine own_by (V := T40.setTop (mkF m 22 #[.val (.ref o0), .val (.int p1)] [(.int u_afterCr)])) st40 ?_
      by_cases hb22_41 : u_afterCr = (0 : Int32)
      · refine own_by (V := T40.setTop (mkF m 25 #[.val (.ref o0), .val (.int p1)] [])) (fun t k => XS.ifNo X40.here hx rfl (hb hby own_d_prog_53_10_22) rfl ((if0 _ _).trans (teq hb22_41).2) k) ?_
        refine own_by (V := T40.setTop (mkF m 26 #[.val (.ref o0), .val (.int p1)] [(.ref o0)])) (fun t k => XS.aloadN X40.here hx rfl (hb hby own_d_prog_53_10_25) rfl rfl k) ?_
        refine own_by (V := T40.setTop (mkF m 27 #[.val (.ref o0), .val (.int p1)] [(.ref o0), (.ref o0)])) (fun t k => XS.dup X40.here hx rfl (hb hby own_d_prog_53_10_26) rfl rfl k) ?_
        obtain ⟨T42, X42, e42, st42⟩ := getF X40 hx hZ hown (host := "") (Or.inl (hw _ (List.mem_of_getElem? (i := 22) rfl))) Via.refl e40 F_line (g := (mkF m 27 #[.val (.ref o0), .val (.int p1)] [(.ref o0), (.ref o0)])) rfl rfl (hb hby own_d_prog_53_10_27)
        refine own_by (V := T42.setTop (mkF m 30 #[.val (.ref o0), .val (.int p1)] [(.int u_line), (.ref o0)])) st42 ?_
        refine own_by (V := T42.setTop (mkF m 31 #[.val (.ref o0), .val (.int p1)] [(.int (1 : Int32)), (.int u_line), (.ref o0)])) (fun t k => XS.iconst X42.here hx rfl (hb hby own_d_prog_53_10_30) k) ?_
        refine own_by (V := T42.setTop (mkF m 32 #[.val (.ref o0), .val (.int p1)] [(.int (u_line + (1 : Int32))), (.ref o0)])) (fun t k => XS.iadd X42.here hx rfl (hb hby own_d_prog_53_10_31) rfl k) ?_
        obtain ⟨T43, h43, X43, e43, W43, st43⟩ := putF X42 hx hZ hown (host := "") (Or.inl (hw _ (List.mem_of_getElem? (i := 22) rfl))) Via.refl e42 F_line E0 (Or.inl (hw _ (List.mem_of_getElem? (i := 23) rfl))) (hw _ (List.mem_of_getElem? (i := 6) rfl)) (ty := .int) (by decide) rfl rfl (g := (mkF m 32 #[.val (.ref o0), .val (.int p1)] [(.int (u_line + (1 : Int32))), (.ref o0)])) rfl rfl (hb hby own_d_prog_53_10_32)
        have N43 := Fr.snoc X43 N0 g0
        have K43 := (Keep.refl h0 [o0]).wr W43 (Or.inl (List.mem_singleton.mpr rfl))
        have Zs43 : n0 ≤ h43.size := by rw [W43.size]; exact Z0
        have f44 := E0.wr W43
        have f45 := F_half.other W43 (Or.inr (slot_ne (Or.inl (hw _ (List.mem_of_getElem? (i := 15) rfl))) (Or.inl (hw _ (List.mem_of_getElem? (i := 23) rfl))) (by decide) (t := .int) (t' := .int) (by decide) (by decide)))
        have f46 := F_low.other W43 (Or.inr (slot_ne (Or.inl (hw _ (List.mem_of_getElem? (i := 17) rfl))) (Or.inl (hw _ (List.mem_of_getElem? (i := 23) rfl))) (by decide) (t := .int) (t' := .int) (by decide) (by decide)))
        have f47 := F_high.other W43 (Or.inr (slot_ne (Or.inl (hw _ (List.mem_of_getElem? (i := 19) rfl))) (Or.inl (hw _ (List.mem_of_getElem? (i := 23) rfl))) (by decide) (t := .int) (t' := .int) (by decide) (by decide)))
        have f48 := F_encoding.other W43 (Or.inr (slot_ne (Or.inr (hw _ (List.mem_of_getElem? (i := 21) rfl))) (Or.inl (hw _ (List.mem_of_getElem? (i := 23) rfl))) (by decide) (t := (.object "crossmarc/reading/CheckedEncoding")) (t' := .int) (by decide) (by decide)))
        have f49 := F_line.same W43
        have f50 := F_column.other W43 (Or.inr (slot_ne (Or.inl (hw _ (List.mem_of_getElem? (i := 25) rfl))) (Or.inl (hw _ (List.mem_of_getElem? (i := 23) rfl))) (by decide) (t := .int) (t' := .int) (by decide) (by decide)))
        have f51 := F_needed.other W43 (Or.inr (slot_ne (Or.inl (hw _ (List.mem_of_getElem? (i := 48) rfl))) (Or.inl (hw _ (List.mem_of_getElem? (i := 23) rfl))) (by decide) (t := .int) (t' := .int) (by decide) (by decide)))
        have f52 := F_afterCr.other W43 (Or.inr (slot_ne (Or.inl (hw _ (List.mem_of_getElem? (i := 55) rfl))) (Or.inl (hw _ (List.mem_of_getElem? (i := 23) rfl))) (by decide) (t := .boolean) (t' := .int) (by decide) (by decide)))
        have f53 := F_position.other W43 (Or.inr (slot_ne (Or.inl (hw _ (List.mem_of_getElem? (i := 57) rfl))) (Or.inl (hw _ (List.mem_of_getElem? (i := 23) rfl))) (by decide) (t := .long) (t' := .int) (by decide) (by decide)))
        refine own_by (V := T43.setTop (mkF m 35 #[.val (.ref o0), .val (.int p1)] [])) st43 ?_
        refine own_by (V := T43.setTop (mkF m 36 #[.val (.ref o0), .val (.int p1)] [(.ref o0)])) (fun t k => XS.aloadN X43.here hx rfl (hb hby own_d_prog_53_10_35) rfl rfl k) ?_
        refine own_by (V := T43.setTop (mkF m 37 #[.val (.ref o0), .val (.int p1)] [(.int (1 : Int32)), (.ref o0)])) (fun t k => XS.iconst X43.here hx rfl (hb hby own_d_prog_53_10_36) k) ?_
        obtain ⟨T54, h54, X54, e54, W54, st54⟩ := putF X43 hx hZ hown (host := "") (Or.inl (hw _ (List.mem_of_getElem? (i := 24) rfl))) Via.refl e43 f50 f44 (Or.inl (hw _ (List.mem_of_getElem? (i := 25) rfl))) (hw _ (List.mem_of_getElem? (i := 6) rfl)) (ty := .int) (by decide) rfl rfl (g := (mkF m 37 #[.val (.ref o0), .val (.int p1)] [(.int (1 : Int32)), (.ref o0)])) rfl rfl (hb hby own_d_prog_53_10_37)
        have N54 := Fr.snoc X54 N43 g0
        have K54 := K43.wr W54 (Or.inl (List.mem_singleton.mpr rfl))
        have Zs54 : n0 ≤ h54.size := by rw [W54.size]; exact Zs43
        have f55 := f44.wr W54
        have f56 := f45.other W54 (Or.inr (slot_ne (Or.inl (hw _ (List.mem_of_getElem? (i := 15) rfl))) (Or.inl (hw _ (List.mem_of_getElem? (i := 25) rfl))) (by decide) (t := .int) (t' := .int) (by decide) (by decide)))
        have f57 := f46.other W54 (Or.inr (slot_ne (Or.inl (hw _ (List.mem_of_getElem? (i := 17) rfl))) (Or.inl (hw _ (List.mem_of_getElem? (i := 25) rfl))) (by decide) (t := .int) (t' := .int) (by decide) (by decide)))
        have f58 := f47.other W54 (Or.inr (slot_ne (Or.inl (hw _ (List.mem_of_getElem? (i := 19) rfl))) (Or.inl (hw _ (List.mem_of_getElem? (i := 25) rfl))) (by decide) (t := .int) (t' := .int) (by decide) (by decide)))
        have f59 := f48.other W54 (Or.inr (slot_ne (Or.inr (hw _ (List.mem_of_getElem? (i := 21) rfl))) (Or.inl (hw _ (List.mem_of_getElem? (i := 25) rfl))) (by decide) (t := (.object "crossmarc/reading/CheckedEncoding")) (t' := .int) (by decide) (by decide)))
        have f60 := f49.other W54 (Or.inr (slot_ne (Or.inl (hw _ (List.mem_of_getElem? (i := 23) rfl))) (Or.inl (hw _ (List.mem_of_getElem? (i := 25) rfl))) (by decide) (t := .int) (t' := .int) (by decide) (by decide)))
        have f61 := f50.same W54
        have f62 := f51.other W54 (Or.inr (slot_ne (Or.inl (hw _ (List.mem_of_getElem? (i := 48) rfl))) (Or.inl (hw _ (List.mem_of_getElem? (i := 25) rfl))) (by decide) (t := .int) (t' := .int) (by decide) (by decide)))
        have f63 := f52.other W54 (Or.inr (slot_ne (Or.inl (hw _ (List.mem_of_getElem? (i := 55) rfl))) (Or.inl (hw _ (List.mem_of_getElem? (i := 25) rfl))) (by decide) (t := .boolean) (t' := .int) (by decide) (by decide)))
        have f64 := f53.other W54 (Or.inr (slot_ne (Or.inl (hw _ (List.mem_of_getElem? (i := 57) rfl))) (Or.inl (hw _ (List.mem_of_getElem? (i := 25) rfl))) (by decide) (t := .long) (t' := .int) (by decide) (by decide)))
        refine own_by (V := T54.setTop (mkF m 40 #[.val (.ref o0), .val (.int p1)] [])) st54 ?_
        refine own_by (V := T54.setTop (mkF m 53 #[.val (.ref o0), .val (.int p1)] [])) (fun t k => XS.goto X54.here hx rfl (pc0 := 40) (pc' := 53) rfl (hb hby own_d_prog_53_10_40) (by decide) (by decide) k) ?_
        refine own_by (V := T54.setTop (mkF m 54 #[.val (.ref o0), .val (.int p1)] [(.ref o0)])) (fun t k => XS.aloadN X54.here hx rfl (hb hby own_d_prog_53_10_53) rfl rfl k) ?_
        refine own_by (V := T54.setTop (mkF m 55 #[.val (.ref o0), .val (.int p1)] [(.int p1), (.ref o0)])) (fun t k => XS.iloadN X54.here hx rfl (hb hby own_d_prog_53_10_54) rfl  k) ?_
        refine own_by (V := T54.setTop (mkF m 57 #[.val (.ref o0), .val (.int p1)] [(.int (13 : Int32)), (.int p1), (.ref o0)])) (fun t k => XS.bipush X54.here hx rfl (hb hby own_d_prog_53_10_55) k) ?_
        have hb57_65 : ¬ (p1 = (13 : Int32)) := hb3_1
        refine own_by (V := T54.setTop (mkF m 64 #[.val (.ref o0), .val (.int p1)] [(.ref o0)])) (fun t k => XS.icmpYes X54.here hx rfl (pc0 := 57) (pc' := 64) rfl (hb hby own_d_prog_53_10_57) rfl (feq hb57_65).2 (by decide) (by decide) k) ?_
        refine own_by (V := T54.setTop (mkF m 65 #[.val (.ref o0), .val (.int p1)] [(.int (0 : Int32)), (.ref o0)])) (fun t k => XS.iconst X54.here hx rfl (hb hby own_d_prog_53_10_64) k) ?_
        obtain ⟨T66, h66, X66, e66, W66, st66⟩ := putFN X54 hx hZ hown (hw _ (List.mem_of_getElem? (i := 54) rfl)) Via.refl e54 f63 f55 (Or.inl (hw _ (List.mem_of_getElem? (i := 55) rfl))) (hw _ (List.mem_of_getElem? (i := 6) rfl)) (ty := .boolean) (v' := (.int (0 : Int32))) (by decide) rfl rfl (g := (mkF m 65 #[.val (.ref o0), .val (.int p1)] [(.int (0 : Int32)), (.ref o0)])) rfl rfl (hb hby own_d_prog_53_10_65)
        have N66 := Fr.snoc X66 N54 g0
        have K66 := K54.wr W66 (Or.inl (List.mem_singleton.mpr rfl))
        have Zs66 : n0 ≤ h66.size := by rw [W66.size]; exact Zs54
        have f67 := f55.wr W66
        have f68 := f56.other W66 (Or.inr (slot_ne (Or.inl (hw _ (List.mem_of_getElem? (i := 15) rfl))) (Or.inl (hw _ (List.mem_of_getElem? (i := 55) rfl))) (by decide) (t := .int) (t' := .boolean) (by decide) (by decide)))
        have f69 := f57.other W66 (Or.inr (slot_ne (Or.inl (hw _ (List.mem_of_getElem? (i := 17) rfl))) (Or.inl (hw _ (List.mem_of_getElem? (i := 55) rfl))) (by decide) (t := .int) (t' := .boolean) (by decide) (by decide)))
        have f70 := f58.other W66 (Or.inr (slot_ne (Or.inl (hw _ (List.mem_of_getElem? (i := 19) rfl))) (Or.inl (hw _ (List.mem_of_getElem? (i := 55) rfl))) (by decide) (t := .int) (t' := .boolean) (by decide) (by decide)))
        have f71 := f59.other W66 (Or.inr (slot_ne (Or.inr (hw _ (List.mem_of_getElem? (i := 21) rfl))) (Or.inl (hw _ (List.mem_of_getElem? (i := 55) rfl))) (by decide) (t := (.object "crossmarc/reading/CheckedEncoding")) (t' := .boolean) (by decide) (by decide)))
        have f72 := f60.other W66 (Or.inr (slot_ne (Or.inl (hw _ (List.mem_of_getElem? (i := 23) rfl))) (Or.inl (hw _ (List.mem_of_getElem? (i := 55) rfl))) (by decide) (t := .int) (t' := .boolean) (by decide) (by decide)))
        have f73 := f61.other W66 (Or.inr (slot_ne (Or.inl (hw _ (List.mem_of_getElem? (i := 25) rfl))) (Or.inl (hw _ (List.mem_of_getElem? (i := 55) rfl))) (by decide) (t := .int) (t' := .boolean) (by decide) (by decide)))
        have f74 := f62.other W66 (Or.inr (slot_ne (Or.inl (hw _ (List.mem_of_getElem? (i := 48) rfl))) (Or.inl (hw _ (List.mem_of_getElem? (i := 55) rfl))) (by decide) (t := .int) (t' := .boolean) (by decide) (by decide)))
        have f75 := f63.same W66
        have f76 := f64.other W66 (Or.inr (slot_ne (Or.inl (hw _ (List.mem_of_getElem? (i := 57) rfl))) (Or.inl (hw _ (List.mem_of_getElem? (i := 55) rfl))) (by decide) (t := .long) (t' := .boolean) (by decide) (by decide)))
        refine own_by (V := T66.setTop (mkF m 68 #[.val (.ref o0), .val (.int p1)] [])) st66 ?_
        refine own_ret0 X66 hx hlk e66 Bd.returns (hb hby own_d_prog_53_10_68) ?_ (by decide) (by decide)
        exact ⟨rfl, N66, K66, f67, f68, f69, f70, f71, (by rw [show (u_line + (own_nl u_afterCr p1)) = (u_line + (1 : Int32)) from by simp [own_nl, own_nc, own_pcr, hb3_1, hb9_38, hb15_39, hb22_41, hb57_65]]; exact f72), (by rw [show (own_nc u_column p1) = (1 : Int32) from by simp [own_nl, own_nc, own_pcr, hb3_1, hb9_38, hb15_39, hb22_41, hb57_65]]; exact f73), f74, (by rw [show (own_pcr p1) = (0 : Int32) from by simp [own_nl, own_nc, own_pcr, hb3_1, hb9_38, hb15_39, hb22_41, hb57_65]]; exact f75), f76⟩
      · refine own_by (V := T40.setTop (mkF m 35 #[.val (.ref o0), .val (.int p1)] [])) (fun t k => XS.ifYes X40.here hx rfl (pc0 := 22) (pc' := 35) rfl (hb hby own_d_prog_53_10_22) rfl ((if0 _ _).trans (feq hb22_41).2) (by decide) (by decide) k) ?_
        refine own_by (V := T40.setTop (mkF m 36 #[.val (.ref o0), .val (.int p1)] [(.ref o0)])) (fun t k => XS.aloadN X40.here hx rfl (hb hby own_d_prog_53_10_35) rfl rfl k) ?_
        refine own_by (V := T40.setTop (mkF m 37 #[.val (.ref o0), .val (.int p1)] [(.int (1 : Int32)), (.ref o0)])) (fun t k => XS.iconst X40.here hx rfl (hb hby own_d_prog_53_10_36) k) ?_
        obtain ⟨T77, h77, X77, e77, W77, st77⟩ := putF X40 hx hZ hown (host := "") (Or.inl (hw _ (List.mem_of_getElem? (i := 24) rfl))) Via.refl e40 F_column E0 (Or.inl (hw _ (List.mem_of_getElem? (i := 25) rfl))) (hw _ (List.mem_of_getElem? (i := 6) rfl)) (ty := .int) (by decide) rfl rfl (g := (mkF m 37 #[.val (.ref o0), .val (.int p1)] [(.int (1 : Int32)), (.ref o0)])) rfl rfl (hb hby own_d_prog_53_10_37)
        have N77 := Fr.snoc X77 N0 g0
        have K77 := (Keep.refl h0 [o0]).wr W77 (Or.inl (List.mem_singleton.mpr rfl))
        have Zs77 : n0 ≤ h77.size := by rw [W77.size]; exact Z0
        have f78 := E0.wr W77
        have f79 := F_half.other W77 (Or.inr (slot_ne (Or.inl (hw _ (List.mem_of_getElem? (i := 15) rfl))) (Or.inl (hw _ (List.mem_of_getElem? (i := 25) rfl))) (by decide) (t := .int) (t' := .int) (by decide) (by decide)))
        have f80 := F_low.other W77 (Or.inr (slot_ne (Or.inl (hw _ (List.mem_of_getElem? (i := 17) rfl))) (Or.inl (hw _ (List.mem_of_getElem? (i := 25) rfl))) (by decide) (t := .int) (t' := .int) (by decide) (by decide)))
        have f81 := F_high.other W77 (Or.inr (slot_ne (Or.inl (hw _ (List.mem_of_getElem? (i := 19) rfl))) (Or.inl (hw _ (List.mem_of_getElem? (i := 25) rfl))) (by decide) (t := .int) (t' := .int) (by decide) (by decide)))
        have f82 := F_encoding.other W77 (Or.inr (slot_ne (Or.inr (hw _ (List.mem_of_getElem? (i := 21) rfl))) (Or.inl (hw _ (List.mem_of_getElem? (i := 25) rfl))) (by decide) (t := (.object "crossmarc/reading/CheckedEncoding")) (t' := .int) (by decide) (by decide)))
        have f83 := F_line.other W77 (Or.inr (slot_ne (Or.inl (hw _ (List.mem_of_getElem? (i := 23) rfl))) (Or.inl (hw _ (List.mem_of_getElem? (i := 25) rfl))) (by decide) (t := .int) (t' := .int) (by decide) (by decide)))
        have f84 := F_column.same W77
        have f85 := F_needed.other W77 (Or.inr (slot_ne (Or.inl (hw _ (List.mem_of_getElem? (i := 48) rfl))) (Or.inl (hw _ (List.mem_of_getElem? (i := 25) rfl))) (by decide) (t := .int) (t' := .int) (by decide) (by decide)))
        have f86 := F_afterCr.other W77 (Or.inr (slot_ne (Or.inl (hw _ (List.mem_of_getElem? (i := 55) rfl))) (Or.inl (hw _ (List.mem_of_getElem? (i := 25) rfl))) (by decide) (t := .boolean) (t' := .int) (by decide) (by decide)))
        have f87 := F_position.other W77 (Or.inr (slot_ne (Or.inl (hw _ (List.mem_of_getElem? (i := 57) rfl))) (Or.inl (hw _ (List.mem_of_getElem? (i := 25) rfl))) (by decide) (t := .long) (t' := .int) (by decide) (by decide)))
        refine own_by (V := T77.setTop (mkF m 40 #[.val (.ref o0), .val (.int p1)] [])) st77 ?_
        refine own_by (V := T77.setTop (mkF m 53 #[.val (.ref o0), .val (.int p1)] [])) (fun t k => XS.goto X77.here hx rfl (pc0 := 40) (pc' := 53) rfl (hb hby own_d_prog_53_10_40) (by decide) (by decide) k) ?_
        refine own_by (V := T77.setTop (mkF m 54 #[.val (.ref o0), .val (.int p1)] [(.ref o0)])) (fun t k => XS.aloadN X77.here hx rfl (hb hby own_d_prog_53_10_53) rfl rfl k) ?_
        refine own_by (V := T77.setTop (mkF m 55 #[.val (.ref o0), .val (.int p1)] [(.int p1), (.ref o0)])) (fun t k => XS.iloadN X77.here hx rfl (hb hby own_d_prog_53_10_54) rfl  k) ?_
        refine own_by (V := T77.setTop (mkF m 57 #[.val (.ref o0), .val (.int p1)] [(.int (13 : Int32)), (.int p1), (.ref o0)])) (fun t k => XS.bipush X77.here hx rfl (hb hby own_d_prog_53_10_55) k) ?_
        have hb57_88 : ¬ (p1 = (13 : Int32)) := hb3_1
        refine own_by (V := T77.setTop (mkF m 64 #[.val (.ref o0), .val (.int p1)] [(.ref o0)])) (fun t k => XS.icmpYes X77.here hx rfl (pc0 := 57) (pc' := 64) rfl (hb hby own_d_prog_53_10_57) rfl (feq hb57_88).2 (by decide) (by decide) k) ?_
        refine own_by (V := T77.setTop (mkF m 65 #[.val (.ref o0), .val (.int p1)] [(.int (0 : Int32)), (.ref o0)])) (fun t k => XS.iconst X77.here hx rfl (hb hby own_d_prog_53_10_64) k) ?_
        obtain ⟨T89, h89, X89, e89, W89, st89⟩ := putFN X77 hx hZ hown (hw _ (List.mem_of_getElem? (i := 54) rfl)) Via.refl e77 f86 f78 (Or.inl (hw _ (List.mem_of_getElem? (i := 55) rfl))) (hw _ (List.mem_of_getElem? (i := 6) rfl)) (ty := .boolean) (v' := (.int (0 : Int32))) (by decide) rfl rfl (g := (mkF m 65 #[.val (.ref o0), .val (.int p1)] [(.int (0 : Int32)), (.ref o0)])) rfl rfl (hb hby own_d_prog_53_10_65)
        have N89 := Fr.snoc X89 N77 g0
        have K89 := K77.wr W89 (Or.inl (List.mem_singleton.mpr rfl))
        have Zs89 : n0 ≤ h89.size := by rw [W89.size]; exact Zs77
        have f90 := f78.wr W89
        have f91 := f79.other W89 (Or.inr (slot_ne (Or.inl (hw _ (List.mem_of_getElem? (i := 15) rfl))) (Or.inl (hw _ (List.mem_of_getElem? (i := 55) rfl))) (by decide) (t := .int) (t' := .boolean) (by decide) (by decide)))
        have f92 := f80.other W89 (Or.inr (slot_ne (Or.inl (hw _ (List.mem_of_getElem? (i := 17) rfl))) (Or.inl (hw _ (List.mem_of_getElem? (i := 55) rfl))) (by decide) (t := .int) (t' := .boolean) (by decide) (by decide)))
        have f93 := f81.other W89 (Or.inr (slot_ne (Or.inl (hw _ (List.mem_of_getElem? (i := 19) rfl))) (Or.inl (hw _ (List.mem_of_getElem? (i := 55) rfl))) (by decide) (t := .int) (t' := .boolean) (by decide) (by decide)))
        have f94 := f82.other W89 (Or.inr (slot_ne (Or.inr (hw _ (List.mem_of_getElem? (i := 21) rfl))) (Or.inl (hw _ (List.mem_of_getElem? (i := 55) rfl))) (by decide) (t := (.object "crossmarc/reading/CheckedEncoding")) (t' := .boolean) (by decide) (by decide)))
        have f95 := f83.other W89 (Or.inr (slot_ne (Or.inl (hw _ (List.mem_of_getElem? (i := 23) rfl))) (Or.inl (hw _ (List.mem_of_getElem? (i := 55) rfl))) (by decide) (t := .int) (t' := .boolean) (by decide) (by decide)))
        have f96 := f84.other W89 (Or.inr (slot_ne (Or.inl (hw _ (List.mem_of_getElem? (i := 25) rfl))) (Or.inl (hw _ (List.mem_of_getElem? (i := 55) rfl))) (by decide) (t := .int) (t' := .boolean) (by decide) (by decide)))
        have f97 := f85.other W89 (Or.inr (slot_ne (Or.inl (hw _ (List.mem_of_getElem? (i := 48) rfl))) (Or.inl (hw _ (List.mem_of_getElem? (i := 55) rfl))) (by decide) (t := .int) (t' := .boolean) (by decide) (by decide)))
        have f98 := f86.same W89
        have f99 := f87.other W89 (Or.inr (slot_ne (Or.inl (hw _ (List.mem_of_getElem? (i := 57) rfl))) (Or.inl (hw _ (List.mem_of_getElem? (i := 55) rfl))) (by decide) (t := .long) (t' := .boolean) (by decide) (by decide)))
        refine own_by (V := T89.setTop (mkF m 68 #[.val (.ref o0), .val (.int p1)] [])) st89 ?_
        refine own_ret0 X89 hx hlk e89 Bd.returns (hb hby own_d_prog_53_10_68) ?_ (by decide) (by decide)
        exact ⟨rfl, N89, K89, f90, f91, f92, f93, f94, (by rw [show (u_line + (own_nl u_afterCr p1)) = u_line from by simp [own_nl, own_nc, own_pcr, hb3_1, hb9_38, hb15_39, hb22_41, hb57_88]]; exact f95), (by rw [show (own_nc u_column p1) = (1 : Int32) from by simp [own_nl, own_nc, own_pcr, hb3_1, hb9_38, hb15_39, hb22_41, hb57_88]]; exact f96), f97, (by rw [show (own_pcr p1) = (0 : Int32) from by simp [own_nl, own_nc, own_pcr, hb3_1, hb9_38, hb15_39, hb22_41, hb57_88]]; exact f98), f99⟩
    · refine own_by (V := s₁.setTop (mkF m 43 #[.val (.ref o0), .val (.int p1)] [])) (fun t k => XS.icmpYes X0.here hx rfl (pc0 := 9) (pc' := 43) rfl (hb hby own_d_prog_53_10_9) rfl (feq hb9_38).2 (by decide) (by decide) k) ?_
      refine own_by (V := s₁.setTop (mkF m 44 #[.val (.ref o0), .val (.int p1)] [(.ref o0)])) (fun t k => XS.aloadN X0.here hx rfl (hb hby own_d_prog_53_10_43) rfl rfl k) ?_
      refine own_by (V := s₁.setTop (mkF m 45 #[.val (.ref o0), .val (.int p1)] [(.ref o0), (.ref o0)])) (fun t k => XS.dup X0.here hx rfl (hb hby own_d_prog_53_10_44) rfl rfl k) ?_
      obtain ⟨T100, X100, e100, st100⟩ := getF X0 hx hZ hown (host := "") (Or.inl (hw _ (List.mem_of_getElem? (i := 24) rfl))) Via.refl e0 F_column (g := (mkF m 45 #[.val (.ref o0), .val (.int p1)] [(.ref o0), (.ref o0)])) rfl rfl (hb hby own_d_prog_53_10_45)
      refine own_by (V := T100.setTop (mkF m 48 #[.val (.ref o0), .val (.int p1)] [(.int u_column), (.ref o0)])) st100 ?_
      refine own_by (V := T100.setTop (mkF m 49 #[.val (.ref o0), .val (.int p1)] [(.int (1 : Int32)), (.int u_column), (.ref o0)])) (fun t k => XS.iconst X100.here hx rfl (hb hby own_d_prog_53_10_48) k) ?_
      refine own_by (V := T100.setTop (mkF m 50 #[.val (.ref o0), .val (.int p1)] [(.int (u_column + (1 : Int32))), (.ref o0)])) (fun t k => XS.iadd X100.here hx rfl (hb hby own_d_prog_53_10_49) rfl k) ?_
      obtain ⟨T101, h101, X101, e101, W101, st101⟩ := putF X100 hx hZ hown (host := "") (Or.inl (hw _ (List.mem_of_getElem? (i := 24) rfl))) Via.refl e100 F_column E0 (Or.inl (hw _ (List.mem_of_getElem? (i := 25) rfl))) (hw _ (List.mem_of_getElem? (i := 6) rfl)) (ty := .int) (by decide) rfl rfl (g := (mkF m 50 #[.val (.ref o0), .val (.int p1)] [(.int (u_column + (1 : Int32))), (.ref o0)])) rfl rfl (hb hby own_d_prog_53_10_50)
      have N101 := Fr.snoc X101 N0 g0
      have K101 := (Keep.refl h0 [o0]).wr W101 (Or.inl (List.mem_singleton.mpr rfl))
      have Zs101 : n0 ≤ h101.size := by rw [W101.size]; exact Z0
      have f102 := E0.wr W101
      have f103 := F_half.other W101 (Or.inr (slot_ne (Or.inl (hw _ (List.mem_of_getElem? (i := 15) rfl))) (Or.inl (hw _ (List.mem_of_getElem? (i := 25) rfl))) (by decide) (t := .int) (t' := .int) (by decide) (by decide)))
      have f104 := F_low.other W101 (Or.inr (slot_ne (Or.inl (hw _ (List.mem_of_getElem? (i := 17) rfl))) (Or.inl (hw _ (List.mem_of_getElem? (i := 25) rfl))) (by decide) (t := .int) (t' := .int) (by decide) (by decide)))
      have f105 := F_high.other W101 (Or.inr (slot_ne (Or.inl (hw _ (List.mem_of_getElem? (i := 19) rfl))) (Or.inl (hw _ (List.mem_of_getElem? (i := 25) rfl))) (by decide) (t := .int) (t' := .int) (by decide) (by decide)))
      have f106 := F_encoding.other W101 (Or.inr (slot_ne (Or.inr (hw _ (List.mem_of_getElem? (i := 21) rfl))) (Or.inl (hw _ (List.mem_of_getElem? (i := 25) rfl))) (by decide) (t := (.object "crossmarc/reading/CheckedEncoding")) (t' := .int) (by decide) (by decide)))
      have f107 := F_line.other W101 (Or.inr (slot_ne (Or.inl (hw _ (List.mem_of_getElem? (i := 23) rfl))) (Or.inl (hw _ (List.mem_of_getElem? (i := 25) rfl))) (by decide) (t := .int) (t' := .int) (by decide) (by decide)))
      have f108 := F_column.same W101
      have f109 := F_needed.other W101 (Or.inr (slot_ne (Or.inl (hw _ (List.mem_of_getElem? (i := 48) rfl))) (Or.inl (hw _ (List.mem_of_getElem? (i := 25) rfl))) (by decide) (t := .int) (t' := .int) (by decide) (by decide)))
      have f110 := F_afterCr.other W101 (Or.inr (slot_ne (Or.inl (hw _ (List.mem_of_getElem? (i := 55) rfl))) (Or.inl (hw _ (List.mem_of_getElem? (i := 25) rfl))) (by decide) (t := .boolean) (t' := .int) (by decide) (by decide)))
      have f111 := F_position.other W101 (Or.inr (slot_ne (Or.inl (hw _ (List.mem_of_getElem? (i := 57) rfl))) (Or.inl (hw _ (List.mem_of_getElem? (i := 25) rfl))) (by decide) (t := .long) (t' := .int) (by decide) (by decide)))
      refine own_by (V := T101.setTop (mkF m 53 #[.val (.ref o0), .val (.int p1)] [])) st101 ?_
      refine own_by (V := T101.setTop (mkF m 54 #[.val (.ref o0), .val (.int p1)] [(.ref o0)])) (fun t k => XS.aloadN X101.here hx rfl (hb hby own_d_prog_53_10_53) rfl rfl k) ?_
      refine own_by (V := T101.setTop (mkF m 55 #[.val (.ref o0), .val (.int p1)] [(.int p1), (.ref o0)])) (fun t k => XS.iloadN X101.here hx rfl (hb hby own_d_prog_53_10_54) rfl  k) ?_
      refine own_by (V := T101.setTop (mkF m 57 #[.val (.ref o0), .val (.int p1)] [(.int (13 : Int32)), (.int p1), (.ref o0)])) (fun t k => XS.bipush X101.here hx rfl (hb hby own_d_prog_53_10_55) k) ?_
      have hb57_112 : ¬ (p1 = (13 : Int32)) := hb3_1
      refine own_by (V := T101.setTop (mkF m 64 #[.val (.ref o0), .val (.int p1)] [(.ref o0)])) (fun t k => XS.icmpYes X101.here hx rfl (pc0 := 57) (pc' := 64) rfl (hb hby own_d_prog_53_10_57) rfl (feq hb57_112).2 (by decide) (by decide) k) ?_
      refine own_by (V := T101.setTop (mkF m 65 #[.val (.ref o0), .val (.int p1)] [(.int (0 : Int32)), (.ref o0)])) (fun t k => XS.iconst X101.here hx rfl (hb hby own_d_prog_53_10_64) k) ?_
      obtain ⟨T113, h113, X113, e113, W113, st113⟩ := putFN X101 hx hZ hown (hw _ (List.mem_of_getElem? (i := 54) rfl)) Via.refl e101 f110 f102 (Or.inl (hw _ (List.mem_of_getElem? (i := 55) rfl))) (hw _ (List.mem_of_getElem? (i := 6) rfl)) (ty := .boolean) (v' := (.int (0 : Int32))) (by decide) rfl rfl (g := (mkF m 65 #[.val (.ref o0), .val (.int p1)] [(.int (0 : Int32)), (.ref o0)])) rfl rfl (hb hby own_d_prog_53_10_65)
      have N113 := Fr.snoc X113 N101 g0
      have K113 := K101.wr W113 (Or.inl (List.mem_singleton.mpr rfl))
      have Zs113 : n0 ≤ h113.size := by rw [W113.size]; exact Zs101
      have f114 := f102.wr W113
      have f115 := f103.other W113 (Or.inr (slot_ne (Or.inl (hw _ (List.mem_of_getElem? (i := 15) rfl))) (Or.inl (hw _ (List.mem_of_getElem? (i := 55) rfl))) (by decide) (t := .int) (t' := .boolean) (by decide) (by decide)))
      have f116 := f104.other W113 (Or.inr (slot_ne (Or.inl (hw _ (List.mem_of_getElem? (i := 17) rfl))) (Or.inl (hw _ (List.mem_of_getElem? (i := 55) rfl))) (by decide) (t := .int) (t' := .boolean) (by decide) (by decide)))
      have f117 := f105.other W113 (Or.inr (slot_ne (Or.inl (hw _ (List.mem_of_getElem? (i := 19) rfl))) (Or.inl (hw _ (List.mem_of_getElem? (i := 55) rfl))) (by decide) (t := .int) (t' := .boolean) (by decide) (by decide)))
      have f118 := f106.other W113 (Or.inr (slot_ne (Or.inr (hw _ (List.mem_of_getElem? (i := 21) rfl))) (Or.inl (hw _ (List.mem_of_getElem? (i := 55) rfl))) (by decide) (t := (.object "crossmarc/reading/CheckedEncoding")) (t' := .boolean) (by decide) (by decide)))
      have f119 := f107.other W113 (Or.inr (slot_ne (Or.inl (hw _ (List.mem_of_getElem? (i := 23) rfl))) (Or.inl (hw _ (List.mem_of_getElem? (i := 55) rfl))) (by decide) (t := .int) (t' := .boolean) (by decide) (by decide)))
      have f120 := f108.other W113 (Or.inr (slot_ne (Or.inl (hw _ (List.mem_of_getElem? (i := 25) rfl))) (Or.inl (hw _ (List.mem_of_getElem? (i := 55) rfl))) (by decide) (t := .int) (t' := .boolean) (by decide) (by decide)))
      have f121 := f109.other W113 (Or.inr (slot_ne (Or.inl (hw _ (List.mem_of_getElem? (i := 48) rfl))) (Or.inl (hw _ (List.mem_of_getElem? (i := 55) rfl))) (by decide) (t := .int) (t' := .boolean) (by decide) (by decide)))
      have f122 := f110.same W113
      have f123 := f111.other W113 (Or.inr (slot_ne (Or.inl (hw _ (List.mem_of_getElem? (i := 57) rfl))) (Or.inl (hw _ (List.mem_of_getElem? (i := 55) rfl))) (by decide) (t := .long) (t' := .boolean) (by decide) (by decide)))
      refine own_by (V := T113.setTop (mkF m 68 #[.val (.ref o0), .val (.int p1)] [])) st113 ?_
      refine own_ret0 X113 hx hlk e113 Bd.returns (hb hby own_d_prog_53_10_68) ?_ (by decide) (by decide)
      exact ⟨rfl, N113, K113, f114, f115, f116, f117, f118, (by rw [show (u_line + (own_nl u_afterCr p1)) = u_line from by simp [own_nl, own_nc, own_pcr, hb3_1, hb9_38, hb57_112]]; exact f119), (by rw [show (own_nc u_column p1) = (u_column + (1 : Int32)) from by simp [own_nl, own_nc, own_pcr, hb3_1, hb9_38, hb57_112]]; exact f120), f121, (by rw [show (own_pcr p1) = (0 : Int32) from by simp [own_nl, own_nc, own_pcr, hb3_1, hb9_38, hb57_112]]; exact f122), f123⟩
def own_Q_own_compare (Z : State) (p0 : Int32) (p1 : Int32) (h0 : Heap) (n0 : Nat) : Option Value → Heap → List Loc → Prop := fun v h L => v = some (.int (own_cmp p0 p1)) ∧ Fr n0 L ∧ h = h0
theorem own_ef_own_compare (m : MethodId) (x0 : Int32) (x1 : Int32) : entryFrame m #[(.int x0), (.int x1)] 2 = mkF m 0 #[.val (.int x0), .val (.int x1)] [] := by first | (simp [entryFrame, mkF, argsToLocals, Value.category]; done) | rfl
set_option maxRecDepth 65536 in
set_option maxHeartbeats 40000000 in
theorem own_compare (l : Launch) (Z : State) (a0 : Array Value) (hw : ∀ d ∈ tables_1, d.before a0 Z = true) (ws : List Jvm.Cond) (p0 : Int32) (p1 : Int32) (h0 : Heap) (n0 : Nat) :
    MetFree l (⟨"java/lang/Integer", "compare", "(II)I"⟩ : MethodName) (head1 (Jvm.Cond.code (⟨"java/lang/Integer", "compare", "(II)I"⟩ : MethodName) jdk_33_method_40_code 2 (some .int) :: ws) ({ frames := 0, cells := 0, slots := 0, locals := 0 } : Room)) (fun a U => a = #[(.int p0), (.int p1)] ∧ Z.Warmed39 U.vm ∧ U.heap = h0) (fun _ _ _ _ _ => True) (fun _ U o U' => ∃ v L, o = .returned v ∧ (own_Q_own_compare Z p0 p1 h0 n0) v U'.heap L ∧ FrameEnd U o U' L ({ frames := 0, cells := 0, slots := 0, locals := 0 } : Room).cells ({ frames := 0, cells := 0, slots := 0, locals := 0 } : Room).slots) := by
  refine MetFree.of_bodySF (plainFor_of_name own_pn1) hisR ?_
  intro p e s m args below meth c s₁ Bd hml0 hP hK
  obtain ⟨rfl, hZ, hh⟩ := hP
  have hx := Bd.exec
  have hby := Bd.bytes
  have hml : c.maxLocals = 2 := hml0
  have hown : s.vm.findClass "java/lang/Integer" = some m.cls := findClass_of_methodNamed Bd.named
  have hnm := (name_of_methodNamed Bd.named Bd.method).1
  have hlk : meth.locks = false := BodyLoose.notSynchronized Bd
  have X0 : Stand p l e ({ frames := 0, cells := 0, slots := 0, locals := 0 } : Room) s m #[(.int p0), (.int p1)] below meth c s₁ [] 0 0 := Stand.of_body Bd
  have e0 : s₁.heap = h0 := by rw [← hh, Bd.state]; rfl
  have N0 := Fr.nil n0
  show own_Ends p e below s (own_Q_own_compare Z p0 p1 h0 n0) ({ frames := 0, cells := 0, slots := 0, locals := 0 } : Room).cells ({ frames := 0, cells := 0, slots := 0, locals := 0 } : Room).slots _
  refine own_by (V := s₁.setTop (mkF m 0 #[.val (.int p0), .val (.int p1)] [])) (fun t k => castTop (own_ef_own_compare m p0 p1) k) ?_
  refine own_by (V := s₁.setTop (mkF m 1 #[.val (.int p0), .val (.int p1)] [(.int p0)])) (fun t k => XS.iloadN X0.here hx rfl (hb hby own_d_jdk_33_40_0) rfl  k) ?_
  refine own_by (V := s₁.setTop (mkF m 2 #[.val (.int p0), .val (.int p1)] [(.int p1), (.int p0)])) (fun t k => XS.iloadN X0.here hx rfl (hb hby own_d_jdk_33_40_1) rfl  k) ?_
  by_cases hb2_1 : p0 < p1
  · refine own_by (V := s₁.setTop (mkF m 5 #[.val (.int p0), .val (.int p1)] [])) (fun t k => XS.icmpNo X0.here hx rfl (hb hby own_d_jdk_33_40_2) rfl (tlt hb2_1).2.1 k) ?_
    refine own_by (V := s₁.setTop (mkF m 6 #[.val (.int p0), .val (.int p1)] [(.int (-1 : Int32))])) (fun t k => XS.iconst X0.here hx rfl (hb hby own_d_jdk_33_40_5) k) ?_
    refine own_by (V := s₁.setTop (mkF m 19 #[.val (.int p0), .val (.int p1)] [(.int (-1 : Int32))])) (fun t k => XS.goto X0.here hx rfl (pc0 := 6) (pc' := 19) rfl (hb hby own_d_jdk_33_40_6) (by decide) (by decide) k) ?_
    refine own_retI X0 hx hlk e0 Bd.returns (hb hby own_d_jdk_33_40_19) ?_ (by decide) (by decide)
    exact ⟨congrArg (fun z => some (Value.int z)) (show (-1 : Int32) = (own_cmp p0 p1) from by (unfold own_cmp; rw [if_pos hb2_1])), N0, rfl⟩
  · refine own_by (V := s₁.setTop (mkF m 9 #[.val (.int p0), .val (.int p1)] [])) (fun t k => XS.icmpYes X0.here hx rfl (pc0 := 2) (pc' := 9) rfl (hb hby own_d_jdk_33_40_2) rfl (flt hb2_1).2.1 (by decide) (by decide) k) ?_
    refine own_by (V := s₁.setTop (mkF m 10 #[.val (.int p0), .val (.int p1)] [(.int p0)])) (fun t k => XS.iloadN X0.here hx rfl (hb hby own_d_jdk_33_40_9) rfl  k) ?_
    refine own_by (V := s₁.setTop (mkF m 11 #[.val (.int p0), .val (.int p1)] [(.int p1), (.int p0)])) (fun t k => XS.iloadN X0.here hx rfl (hb hby own_d_jdk_33_40_10) rfl  k) ?_
    by_cases hb11_2 : p0 = p1
    · refine own_by (V := s₁.setTop (mkF m 14 #[.val (.int p0), .val (.int p1)] [])) (fun t k => XS.icmpNo X0.here hx rfl (hb hby own_d_jdk_33_40_11) rfl (teq hb11_2).2 k) ?_
      refine own_by (V := s₁.setTop (mkF m 15 #[.val (.int p0), .val (.int p1)] [(.int (0 : Int32))])) (fun t k => XS.iconst X0.here hx rfl (hb hby own_d_jdk_33_40_14) k) ?_
      refine own_by (V := s₁.setTop (mkF m 19 #[.val (.int p0), .val (.int p1)] [(.int (0 : Int32))])) (fun t k => XS.goto X0.here hx rfl (pc0 := 15) (pc' := 19) rfl (hb hby own_d_jdk_33_40_15) (by decide) (by decide) k) ?_
      refine own_retI X0 hx hlk e0 Bd.returns (hb hby own_d_jdk_33_40_19) ?_ (by decide) (by decide)
      exact ⟨congrArg (fun z => some (Value.int z)) (show (0 : Int32) = (own_cmp p0 p1) from by (unfold own_cmp; rw [if_neg hb2_1, if_pos hb11_2])), N0, rfl⟩
    · refine own_by (V := s₁.setTop (mkF m 18 #[.val (.int p0), .val (.int p1)] [])) (fun t k => XS.icmpYes X0.here hx rfl (pc0 := 11) (pc' := 18) rfl (hb hby own_d_jdk_33_40_11) rfl (feq hb11_2).2 (by decide) (by decide) k) ?_
      refine own_by (V := s₁.setTop (mkF m 19 #[.val (.int p0), .val (.int p1)] [(.int (1 : Int32))])) (fun t k => XS.iconst X0.here hx rfl (hb hby own_d_jdk_33_40_18) k) ?_
      refine own_retI X0 hx hlk e0 Bd.returns (hb hby own_d_jdk_33_40_19) ?_ (by decide) (by decide)
      exact ⟨congrArg (fun z => some (Value.int z)) (show (1 : Int32) = (own_cmp p0 p1) from by (unfold own_cmp; rw [if_neg hb2_1, if_neg hb11_2])), N0, rfl⟩
def own_Q_own_compareTo (Z : State) (o0 : Addr) (p1 : Int32) (p2 : Int32) (ln : Int32) (col : Int32) (h0 : Heap) (n0 : Nat) : Option Value → Heap → List Loc → Prop := fun v h L => v = some (.int (own_cmp2 ln col p1 p2)) ∧ Fr n0 L ∧ h = h0
theorem own_ef_own_compareTo (m : MethodId) (x0 : Addr) (x1 : Int32) (x2 : Int32) : entryFrame m #[(.ref x0), (.int x1), (.int x2)] 4 = mkF m 0 #[.val (.ref x0), .val (.int x1), .val (.int x2), .unset] [] := by first | (simp [entryFrame, mkF, argsToLocals, Value.category]; done) | rfl
set_option maxRecDepth 65536 in
set_option maxHeartbeats 40000000 in
theorem own_compareTo (l : Launch) (Z : State) (a0 : Array Value) (hw : ∀ d ∈ tables_1, d.before a0 Z = true) (ws : List Jvm.Cond) (o0 : Addr) (p1 : Int32) (p2 : Int32) (ln : Int32) (col : Int32) (h0 : Heap) (n0 : Nat) (F1 : Fld Z h0 o0 "crossmarc/reading/Cursor" "line" "I" (.int ln)) (F2 : Fld Z h0 o0 "crossmarc/reading/Cursor" "column" "I" (.int col)) :
    MetFree l (⟨"crossmarc/reading/Cursor", "compareTo", "(II)I"⟩ : MethodName) (head1 (Jvm.Cond.code (⟨"crossmarc/reading/Cursor", "compareTo", "(II)I"⟩ : MethodName) prog_53_method_7_code 4 (some .int) :: ws) ({ frames := 1, cells := 0, slots := 0, locals := 13 } : Room)) (fun a U => a = #[(.ref o0), (.int p1), (.int p2)] ∧ Z.Warmed39 U.vm ∧ U.heap = h0) (fun _ _ _ _ _ => True) (fun _ U o U' => ∃ v L, o = .returned v ∧ (own_Q_own_compareTo Z o0 p1 p2 ln col h0 n0) v U'.heap L ∧ FrameEnd U o U' L ({ frames := 1, cells := 0, slots := 0, locals := 13 } : Room).cells ({ frames := 1, cells := 0, slots := 0, locals := 13 } : Room).slots) := by
  refine MetFree.of_bodySF (plainFor_of_name own_pn0) hisR ?_
  intro p e s m args below meth c s₁ Bd hml0 hP hK
  obtain ⟨rfl, hZ, hh⟩ := hP
  have hx := Bd.exec
  have hby := Bd.bytes
  have hml : c.maxLocals = 4 := hml0
  have hown : s.vm.findClass "crossmarc/reading/Cursor" = some m.cls := findClass_of_methodNamed Bd.named
  have hnm := (name_of_methodNamed Bd.named Bd.method).1
  have hlk : meth.locks = false := BodyLoose.notSynchronized Bd
  have X0 : Stand p l e ({ frames := 1, cells := 0, slots := 0, locals := 13 } : Room) s m #[(.ref o0), (.int p1), (.int p2)] below meth c s₁ [] 0 0 := Stand.of_body Bd
  have e0 : s₁.heap = h0 := by rw [← hh, Bd.state]; rfl
  have N0 := Fr.nil n0
  show own_Ends p e below s (own_Q_own_compareTo Z o0 p1 p2 ln col h0 n0) ({ frames := 1, cells := 0, slots := 0, locals := 13 } : Room).cells ({ frames := 1, cells := 0, slots := 0, locals := 13 } : Room).slots _
  refine own_by (V := s₁.setTop (mkF m 0 #[.val (.ref o0), .val (.int p1), .val (.int p2), .unset] [])) (fun t k => castTop (own_ef_own_compareTo m o0 p1 p2) k) ?_
  refine own_by (V := s₁.setTop (mkF m 1 #[.val (.ref o0), .val (.int p1), .val (.int p2), .unset] [(.ref o0)])) (fun t k => XS.aloadN X0.here hx rfl (hb hby own_d_prog_53_7_0) rfl rfl k) ?_
  obtain ⟨T1, X1, e1, st1⟩ := getF X0 hx hZ hown (host := "") (Or.inl (hw _ (List.mem_of_getElem? (i := 22) rfl))) Via.refl e0 F1 (g := (mkF m 1 #[.val (.ref o0), .val (.int p1), .val (.int p2), .unset] [(.ref o0)])) rfl rfl (hb hby own_d_prog_53_7_1)
  refine own_by (V := T1.setTop (mkF m 4 #[.val (.ref o0), .val (.int p1), .val (.int p2), .unset] [(.int ln)])) st1 ?_
  refine own_by (V := T1.setTop (mkF m 5 #[.val (.ref o0), .val (.int p1), .val (.int p2), .unset] [(.int p1), (.int ln)])) (fun t k => XS.iloadN X1.here hx rfl (hb hby own_d_prog_53_7_4) rfl  k) ?_
  obtain ⟨_, _, ⟨T2, Lq2, kq2, nq2⟩, -, X2, ⟨Lc2, hQ2, lq2, yq2, zq2⟩, st2⟩ := Jvm.LawKit.callS X1 hx (y := (⟨"java/lang/Integer", "compare", "(II)I"⟩ : MethodName)) hown (mvT hZ (hw _ (List.mem_of_getElem? (i := 78) rfl))) (mvT hZ (hw _ (List.mem_of_getElem? (i := 79) rfl))) (mvT hZ (hw _ (List.mem_of_getElem? (i := 80) rfl))) (mvT hZ (hw _ (List.mem_of_getElem? (i := 81) rfl))) (by decide) (backOf (W := 0) (own_compare l Z a0 hw [] ln p1 h0 n0) hZ (hw _ (List.mem_of_getElem? (i := 81) rfl)) (hw _ (List.mem_of_getElem? (i := 80) rfl)) (by decide) (by decide)) (g := (mkF m 5 #[.val (.ref o0), .val (.int p1), .val (.int p2), .unset] [(.int p1), (.int ln)])) rfl (by rw [hml]; rfl) (argsL := [(.int ln), (.int p1)]) (rest := []) (lenOf own_pd0 rfl) rfl (by show 2 * 0 + _ ≤ _; exact Nat.le_of_eq rfl) (hb hby own_d_prog_53_7_5) (fun _ _ => ⟨rfl, e1, (by decide : 0 + 0 ≤ _), (by decide : 0 + 0 ≤ _)⟩)
  dsimp only [Pt.U, Pt.locs, Pt.cells, Pt.slots] at X2 lq2 yq2 zq2 st2 hQ2
  subst lq2 yq2 zq2
  obtain ⟨rfl, N2q, e2⟩ := hQ2
  have N2 := Fr.app N0 N2q
  refine own_by (V := T2.setTop (mkF m 8 #[.val (.ref o0), .val (.int p1), .val (.int p2), .unset] [(.int (own_cmp ln p1))])) st2 ?_
  refine own_by (V := T2.setTop (mkF m 9 #[.val (.ref o0), .val (.int p1), .val (.int p2), .val (.int (own_cmp ln p1))] [])) (fun t k => XS.istoreN X2.here hx rfl (hb hby own_d_prog_53_7_8) rfl (l' := #[.val (.ref o0), .val (.int p1), .val (.int p2), .val (.int (own_cmp ln p1))]) rfl k) ?_
  refine own_by (V := T2.setTop (mkF m 10 #[.val (.ref o0), .val (.int p1), .val (.int p2), .val (.int (own_cmp ln p1))] [(.int (own_cmp ln p1))])) (fun t k => XS.iloadN X2.here hx rfl (hb hby own_d_prog_53_7_9) rfl  k) ?_
  by_cases hb10_3 : (own_cmp ln p1) = (0 : Int32)
  · refine own_by (V := T2.setTop (mkF m 17 #[.val (.ref o0), .val (.int p1), .val (.int p2), .val (.int (own_cmp ln p1))] [])) (fun t k => XS.ifYes X2.here hx rfl (pc0 := 10) (pc' := 17) rfl (hb hby own_d_prog_53_7_10) rfl ((if0 _ _).trans (teq hb10_3).1) (by decide) (by decide) k) ?_
    refine own_by (V := T2.setTop (mkF m 18 #[.val (.ref o0), .val (.int p1), .val (.int p2), .val (.int (own_cmp ln p1))] [(.ref o0)])) (fun t k => XS.aloadN X2.here hx rfl (hb hby own_d_prog_53_7_17) rfl rfl k) ?_
    obtain ⟨T4, X4, e4, st4⟩ := getF X2 hx hZ hown (host := "") (Or.inl (hw _ (List.mem_of_getElem? (i := 24) rfl))) Via.refl e2 F2 (g := (mkF m 18 #[.val (.ref o0), .val (.int p1), .val (.int p2), .val (.int (own_cmp ln p1))] [(.ref o0)])) rfl rfl (hb hby own_d_prog_53_7_18)
    refine own_by (V := T4.setTop (mkF m 21 #[.val (.ref o0), .val (.int p1), .val (.int p2), .val (.int (own_cmp ln p1))] [(.int col)])) st4 ?_
    refine own_by (V := T4.setTop (mkF m 22 #[.val (.ref o0), .val (.int p1), .val (.int p2), .val (.int (own_cmp ln p1))] [(.int p2), (.int col)])) (fun t k => XS.iloadN X4.here hx rfl (hb hby own_d_prog_53_7_21) rfl  k) ?_
    obtain ⟨_, _, ⟨T5, Lq5, kq5, nq5⟩, -, X5, ⟨Lc5, hQ5, lq5, yq5, zq5⟩, st5⟩ := Jvm.LawKit.callS X4 hx (y := (⟨"java/lang/Integer", "compare", "(II)I"⟩ : MethodName)) hown (mvT hZ (hw _ (List.mem_of_getElem? (i := 78) rfl))) (mvT hZ (hw _ (List.mem_of_getElem? (i := 79) rfl))) (mvT hZ (hw _ (List.mem_of_getElem? (i := 80) rfl))) (mvT hZ (hw _ (List.mem_of_getElem? (i := 81) rfl))) (by decide) (backOf (W := 0) (own_compare l Z a0 hw [] col p2 h0 n0) hZ (hw _ (List.mem_of_getElem? (i := 81) rfl)) (hw _ (List.mem_of_getElem? (i := 80) rfl)) (by decide) (by decide)) (g := (mkF m 22 #[.val (.ref o0), .val (.int p1), .val (.int p2), .val (.int (own_cmp ln p1))] [(.int p2), (.int col)])) rfl (by rw [hml]; rfl) (argsL := [(.int col), (.int p2)]) (rest := []) (lenOf own_pd0 rfl) rfl (by show 2 * 0 + _ ≤ _; exact Nat.le_of_eq rfl) (hb hby own_d_prog_53_7_22) (fun _ _ => ⟨rfl, e4, (by decide : 0 + 0 ≤ _), (by decide : 0 + 0 ≤ _)⟩)
    dsimp only [Pt.U, Pt.locs, Pt.cells, Pt.slots] at X5 lq5 yq5 zq5 st5 hQ5
    subst lq5 yq5 zq5
    obtain ⟨rfl, N5q, e5⟩ := hQ5
    have N5 := Fr.app N2 N5q
    refine own_by (V := T5.setTop (mkF m 25 #[.val (.ref o0), .val (.int p1), .val (.int p2), .val (.int (own_cmp ln p1))] [(.int (own_cmp col p2))])) st5 ?_
    refine own_retI X5 hx hlk e5 Bd.returns (hb hby own_d_prog_53_7_25) ?_ (by decide) (by decide)
    exact ⟨congrArg (fun z => some (Value.int z)) (show (own_cmp col p2) = (own_cmp2 ln col p1 p2) from by exact (if_pos hb10_3).symm), N5, rfl⟩
  · refine own_by (V := T2.setTop (mkF m 13 #[.val (.ref o0), .val (.int p1), .val (.int p2), .val (.int (own_cmp ln p1))] [])) (fun t k => XS.ifNo X2.here hx rfl (hb hby own_d_prog_53_7_10) rfl ((if0 _ _).trans (feq hb10_3).1) k) ?_
    refine own_by (V := T2.setTop (mkF m 14 #[.val (.ref o0), .val (.int p1), .val (.int p2), .val (.int (own_cmp ln p1))] [(.int (own_cmp ln p1))])) (fun t k => XS.iloadN X2.here hx rfl (hb hby own_d_prog_53_7_13) rfl  k) ?_
    refine own_by (V := T2.setTop (mkF m 25 #[.val (.ref o0), .val (.int p1), .val (.int p2), .val (.int (own_cmp ln p1))] [(.int (own_cmp ln p1))])) (fun t k => XS.goto X2.here hx rfl (pc0 := 14) (pc' := 25) rfl (hb hby own_d_prog_53_7_14) (by decide) (by decide) k) ?_
    refine own_retI X2 hx hlk e2 Bd.returns (hb hby own_d_prog_53_7_25) ?_ (by decide) (by decide)
    exact ⟨congrArg (fun z => some (Value.int z)) (show (own_cmp ln p1) = (own_cmp2 ln col p1 p2) from by exact (if_neg hb10_3).symm), N2, rfl⟩
def own_Q_own_position (Z : State) (o0 : Addr) (u : Int64) (h0 : Heap) (n0 : Nat) : Option Value → Heap → List Loc → Prop := fun v h L => v = some (.long u) ∧ Fr n0 L ∧ h = h0
theorem own_ef_own_position (m : MethodId) (x0 : Addr) : entryFrame m #[(.ref x0)] 1 = mkF m 0 #[.val (.ref x0)] [] := by first | (simp [entryFrame, mkF, argsToLocals, Value.category]; done) | rfl
set_option maxRecDepth 65536 in
set_option maxHeartbeats 40000000 in
theorem own_position (l : Launch) (Z : State) (a0 : Array Value) (hw : ∀ d ∈ tables_1, d.before a0 Z = true) (ws : List Jvm.Cond) (o0 : Addr) (u : Int64) (h0 : Heap) (n0 : Nat) (F1 : Fld Z h0 o0 "crossmarc/reading/Cursor" "position" "J" (.long u)) :
    MetFree l (⟨"crossmarc/reading/Cursor", "position", "()J"⟩ : MethodName) (head1 (Jvm.Cond.code (⟨"crossmarc/reading/Cursor", "position", "()J"⟩ : MethodName) prog_53_method_5_code 1 (some .long) :: ws) ({ frames := 0, cells := 0, slots := 0, locals := 0 } : Room)) (fun a U => a = #[(.ref o0)] ∧ Z.Warmed39 U.vm ∧ U.heap = h0) (fun _ _ _ _ _ => True) (fun _ U o U' => ∃ v L, o = .returned v ∧ (own_Q_own_position Z o0 u h0 n0) v U'.heap L ∧ FrameEnd U o U' L ({ frames := 0, cells := 0, slots := 0, locals := 0 } : Room).cells ({ frames := 0, cells := 0, slots := 0, locals := 0 } : Room).slots) := by
  refine MetFree.of_bodySF (plainFor_of_name own_pn0) hisR ?_
  intro p e s m args below meth c s₁ Bd hml0 hP hK
  obtain ⟨rfl, hZ, hh⟩ := hP
  have hx := Bd.exec
  have hby := Bd.bytes
  have hml : c.maxLocals = 1 := hml0
  have hown : s.vm.findClass "crossmarc/reading/Cursor" = some m.cls := findClass_of_methodNamed Bd.named
  have hnm := (name_of_methodNamed Bd.named Bd.method).1
  have hlk : meth.locks = false := BodyLoose.notSynchronized Bd
  have X0 : Stand p l e ({ frames := 0, cells := 0, slots := 0, locals := 0 } : Room) s m #[(.ref o0)] below meth c s₁ [] 0 0 := Stand.of_body Bd
  have e0 : s₁.heap = h0 := by rw [← hh, Bd.state]; rfl
  have N0 := Fr.nil n0
  show own_Ends p e below s (own_Q_own_position Z o0 u h0 n0) ({ frames := 0, cells := 0, slots := 0, locals := 0 } : Room).cells ({ frames := 0, cells := 0, slots := 0, locals := 0 } : Room).slots _
  refine own_by (V := s₁.setTop (mkF m 0 #[.val (.ref o0)] [])) (fun t k => castTop (own_ef_own_position m o0) k) ?_
  refine own_by (V := s₁.setTop (mkF m 1 #[.val (.ref o0)] [(.ref o0)])) (fun t k => XS.aloadN X0.here hx rfl (hb hby own_d_prog_53_5_0) rfl rfl k) ?_
  obtain ⟨T1, X1, e1, st1⟩ := getF X0 hx hZ hown (host := "") (Or.inl (hw _ (List.mem_of_getElem? (i := 56) rfl))) Via.refl e0 F1 (g := (mkF m 1 #[.val (.ref o0)] [(.ref o0)])) rfl rfl (hb hby own_d_prog_53_5_1)
  refine own_by (V := T1.setTop (mkF m 4 #[.val (.ref o0)] [(.long u)])) st1 ?_
  refine own_retL X1 hx hlk e1 Bd.returns (hb hby own_d_prog_53_5_4) ?_ (by decide) (by decide)
  exact ⟨congrArg (fun z => some (Value.long z)) (show u = u from by rfl), N0, rfl⟩
def own_Q_own_line (Z : State) (o0 : Addr) (u : Int32) (h0 : Heap) (n0 : Nat) : Option Value → Heap → List Loc → Prop := fun v h L => v = some (.int u) ∧ Fr n0 L ∧ h = h0
theorem own_ef_own_line (m : MethodId) (x0 : Addr) : entryFrame m #[(.ref x0)] 1 = mkF m 0 #[.val (.ref x0)] [] := by first | (simp [entryFrame, mkF, argsToLocals, Value.category]; done) | rfl
set_option maxRecDepth 65536 in
set_option maxHeartbeats 40000000 in
theorem own_line (l : Launch) (Z : State) (a0 : Array Value) (hw : ∀ d ∈ tables_1, d.before a0 Z = true) (ws : List Jvm.Cond) (o0 : Addr) (u : Int32) (h0 : Heap) (n0 : Nat) (F1 : Fld Z h0 o0 "crossmarc/reading/Cursor" "line" "I" (.int u)) :
    MetFree l (⟨"crossmarc/reading/Cursor", "line", "()I"⟩ : MethodName) (head1 (Jvm.Cond.code (⟨"crossmarc/reading/Cursor", "line", "()I"⟩ : MethodName) prog_53_method_6_code 1 (some .int) :: ws) ({ frames := 0, cells := 0, slots := 0, locals := 0 } : Room)) (fun a U => a = #[(.ref o0)] ∧ Z.Warmed39 U.vm ∧ U.heap = h0) (fun _ _ _ _ _ => True) (fun _ U o U' => ∃ v L, o = .returned v ∧ (own_Q_own_line Z o0 u h0 n0) v U'.heap L ∧ FrameEnd U o U' L ({ frames := 0, cells := 0, slots := 0, locals := 0 } : Room).cells ({ frames := 0, cells := 0, slots := 0, locals := 0 } : Room).slots) := by
  refine MetFree.of_bodySF (plainFor_of_name own_pn0) hisR ?_
  intro p e s m args below meth c s₁ Bd hml0 hP hK
  obtain ⟨rfl, hZ, hh⟩ := hP
  have hx := Bd.exec
  have hby := Bd.bytes
  have hml : c.maxLocals = 1 := hml0
  have hown : s.vm.findClass "crossmarc/reading/Cursor" = some m.cls := findClass_of_methodNamed Bd.named
  have hnm := (name_of_methodNamed Bd.named Bd.method).1
  have hlk : meth.locks = false := BodyLoose.notSynchronized Bd
  have X0 : Stand p l e ({ frames := 0, cells := 0, slots := 0, locals := 0 } : Room) s m #[(.ref o0)] below meth c s₁ [] 0 0 := Stand.of_body Bd
  have e0 : s₁.heap = h0 := by rw [← hh, Bd.state]; rfl
  have N0 := Fr.nil n0
  show own_Ends p e below s (own_Q_own_line Z o0 u h0 n0) ({ frames := 0, cells := 0, slots := 0, locals := 0 } : Room).cells ({ frames := 0, cells := 0, slots := 0, locals := 0 } : Room).slots _
  refine own_by (V := s₁.setTop (mkF m 0 #[.val (.ref o0)] [])) (fun t k => castTop (own_ef_own_line m o0) k) ?_
  refine own_by (V := s₁.setTop (mkF m 1 #[.val (.ref o0)] [(.ref o0)])) (fun t k => XS.aloadN X0.here hx rfl (hb hby own_d_prog_53_6_0) rfl rfl k) ?_
  obtain ⟨T1, X1, e1, st1⟩ := getF X0 hx hZ hown (host := "") (Or.inl (hw _ (List.mem_of_getElem? (i := 22) rfl))) Via.refl e0 F1 (g := (mkF m 1 #[.val (.ref o0)] [(.ref o0)])) rfl rfl (hb hby own_d_prog_53_6_1)
  refine own_by (V := T1.setTop (mkF m 4 #[.val (.ref o0)] [(.int u)])) st1 ?_
  refine own_retI X1 hx hlk e1 Bd.returns (hb hby own_d_prog_53_6_4) ?_ (by decide) (by decide)
  exact ⟨congrArg (fun z => some (Value.int z)) (show u = u from by rfl), N0, rfl⟩
def own_Q_own_ord (Z : State) (o0 : Addr) (u : Int32) (h0 : Heap) (n0 : Nat) : Option Value → Heap → List Loc → Prop := fun v h L => v = some (.int u) ∧ Fr n0 L ∧ h = h0
theorem own_ef_own_ord (m : MethodId) (x0 : Addr) : entryFrame m #[(.ref x0)] 1 = mkF m 0 #[.val (.ref x0)] [] := by first | (simp [entryFrame, mkF, argsToLocals, Value.category]; done) | rfl
set_option maxRecDepth 65536 in
set_option maxHeartbeats 40000000 in
theorem own_ord (l : Launch) (Z : State) (a0 : Array Value) (hw : ∀ d ∈ tables_1, d.before a0 Z = true) (ws : List Jvm.Cond) (o0 : Addr) (u : Int32) (h0 : Heap) (n0 : Nat) (F1 : Fld Z h0 o0 "java/lang/Enum" "ordinal" "I" (.int u)) :
    MetFree l (⟨"java/lang/Enum", "ordinal", "()I"⟩ : MethodName) (head1 (Jvm.Cond.code (⟨"java/lang/Enum", "ordinal", "()I"⟩ : MethodName) jdk_37_method_2_code 1 (some .int) :: ws) ({ frames := 0, cells := 0, slots := 0, locals := 0 } : Room)) (fun a U => a = #[(.ref o0)] ∧ Z.Warmed39 U.vm ∧ U.heap = h0) (fun _ _ _ _ _ => True) (fun _ U o U' => ∃ v L, o = .returned v ∧ (own_Q_own_ord Z o0 u h0 n0) v U'.heap L ∧ FrameEnd U o U' L ({ frames := 0, cells := 0, slots := 0, locals := 0 } : Room).cells ({ frames := 0, cells := 0, slots := 0, locals := 0 } : Room).slots) := by
  refine MetFree.of_bodySF (plainFor_of_name own_pn2) hisR ?_
  intro p e s m args below meth c s₁ Bd hml0 hP hK
  obtain ⟨rfl, hZ, hh⟩ := hP
  have hx := Bd.exec
  have hby := Bd.bytes
  have hml : c.maxLocals = 1 := hml0
  have hown : s.vm.findClass "java/lang/Enum" = some m.cls := findClass_of_methodNamed Bd.named
  have hnm := (name_of_methodNamed Bd.named Bd.method).1
  have hlk : meth.locks = false := BodyLoose.notSynchronized Bd
  have X0 : Stand p l e ({ frames := 0, cells := 0, slots := 0, locals := 0 } : Room) s m #[(.ref o0)] below meth c s₁ [] 0 0 := Stand.of_body Bd
  have e0 : s₁.heap = h0 := by rw [← hh, Bd.state]; rfl
  have N0 := Fr.nil n0
  show own_Ends p e below s (own_Q_own_ord Z o0 u h0 n0) ({ frames := 0, cells := 0, slots := 0, locals := 0 } : Room).cells ({ frames := 0, cells := 0, slots := 0, locals := 0 } : Room).slots _
  refine own_by (V := s₁.setTop (mkF m 0 #[.val (.ref o0)] [])) (fun t k => castTop (own_ef_own_ord m o0) k) ?_
  refine own_by (V := s₁.setTop (mkF m 1 #[.val (.ref o0)] [(.ref o0)])) (fun t k => XS.aloadN X0.here hx rfl (hb hby own_d_jdk_37_2_0) rfl rfl k) ?_
  obtain ⟨T1, X1, e1, st1⟩ := getF X0 hx hZ hown (host := "") (Or.inl (hw _ (List.mem_of_getElem? (i := 41) rfl))) Via.refl e0 F1 (g := (mkF m 1 #[.val (.ref o0)] [(.ref o0)])) rfl rfl (hb hby own_d_jdk_37_2_1)
  refine own_by (V := T1.setTop (mkF m 4 #[.val (.ref o0)] [(.int u)])) st1 ?_
  refine own_retI X1 hx hlk e1 Bd.returns (hb hby own_d_jdk_37_2_4) ?_ (by decide) (by decide)
  exact ⟨congrArg (fun z => some (Value.int z)) (show u = u from by rfl), N0, rfl⟩
def own_Q_own_utf8 (Z : State) (o0 : Addr) (p1 : Int32) (h0 : Heap) (n0 : Nat) : Option Value → Heap → List Loc → Prop := fun v h L => v = some (.int (1 : Int32)) ∧ Fr n0 L ∧ h = h0
theorem own_ef_own_utf8 (m : MethodId) (x0 : Addr) (x1 : Int32) : entryFrame m #[(.ref x0), (.int x1)] 2 = mkF m 0 #[.val (.ref x0), .val (.int x1)] [] := by first | (simp [entryFrame, mkF, argsToLocals, Value.category]; done) | rfl
set_option maxRecDepth 65536 in
set_option maxHeartbeats 40000000 in
theorem own_utf8 (l : Launch) (Z : State) (a0 : Array Value) (hw : ∀ d ∈ tables_1, d.before a0 Z = true) (ws : List Jvm.Cond) (o0 : Addr) (p1 : Int32) (h0 : Heap) (n0 : Nat) (F1 : Fld Z h0 o0 "crossmarc/reading/Cursor" "needed" "I" (.int (0 : Int32))) (hp : p1 < (128 : Int32)) :
    MetFree l (⟨"crossmarc/reading/Cursor", "utf8", "(I)Z"⟩ : MethodName) (head1 (Jvm.Cond.code (⟨"crossmarc/reading/Cursor", "utf8", "(I)Z"⟩ : MethodName) prog_53_method_12_code 2 (some .boolean) :: ws) ({ frames := 0, cells := 0, slots := 0, locals := 0 } : Room)) (fun a U => a = #[(.ref o0), (.int p1)] ∧ Z.Warmed39 U.vm ∧ U.heap = h0) (fun _ _ _ _ _ => True) (fun _ U o U' => ∃ v L, o = .returned v ∧ (own_Q_own_utf8 Z o0 p1 h0 n0) v U'.heap L ∧ FrameEnd U o U' L ({ frames := 0, cells := 0, slots := 0, locals := 0 } : Room).cells ({ frames := 0, cells := 0, slots := 0, locals := 0 } : Room).slots) := by
  refine MetFree.of_bodySF (plainFor_of_name own_pn0) hisR ?_
  intro p e s m args below meth c s₁ Bd hml0 hP hK
  obtain ⟨rfl, hZ, hh⟩ := hP
  have hx := Bd.exec
  have hby := Bd.bytes
  have hml : c.maxLocals = 2 := hml0
  have hown : s.vm.findClass "crossmarc/reading/Cursor" = some m.cls := findClass_of_methodNamed Bd.named
  have hnm := (name_of_methodNamed Bd.named Bd.method).1
  have hlk : meth.locks = false := BodyLoose.notSynchronized Bd
  have X0 : Stand p l e ({ frames := 0, cells := 0, slots := 0, locals := 0 } : Room) s m #[(.ref o0), (.int p1)] below meth c s₁ [] 0 0 := Stand.of_body Bd
  have e0 : s₁.heap = h0 := by rw [← hh, Bd.state]; rfl
  have N0 := Fr.nil n0
  show own_Ends p e below s (own_Q_own_utf8 Z o0 p1 h0 n0) ({ frames := 0, cells := 0, slots := 0, locals := 0 } : Room).cells ({ frames := 0, cells := 0, slots := 0, locals := 0 } : Room).slots _
  refine own_by (V := s₁.setTop (mkF m 0 #[.val (.ref o0), .val (.int p1)] [])) (fun t k => castTop (own_ef_own_utf8 m o0 p1) k) ?_
  refine own_by (V := s₁.setTop (mkF m 1 #[.val (.ref o0), .val (.int p1)] [(.ref o0)])) (fun t k => XS.aloadN X0.here hx rfl (hb hby own_d_prog_53_12_0) rfl rfl k) ?_
  obtain ⟨T1, X1, e1, st1⟩ := getF X0 hx hZ hown (host := "") (Or.inl (hw _ (List.mem_of_getElem? (i := 47) rfl))) Via.refl e0 F1 (g := (mkF m 1 #[.val (.ref o0), .val (.int p1)] [(.ref o0)])) rfl rfl (hb hby own_d_prog_53_12_1)
  refine own_by (V := T1.setTop (mkF m 4 #[.val (.ref o0), .val (.int p1)] [(.int (0 : Int32))])) st1 ?_
  have hb4_2 : ¬ ((0 : Int32) < (0 : Int32)) := by decide
  refine own_by (V := T1.setTop (mkF m 52 #[.val (.ref o0), .val (.int p1)] [])) (fun t k => XS.ifYes X1.here hx rfl (pc0 := 4) (pc' := 52) rfl (hb hby own_d_prog_53_12_4) rfl ((if0 _ _).trans (flt hb4_2).2.2.2) (by decide) (by decide) k) ?_
  refine own_by (V := T1.setTop (mkF m 53 #[.val (.ref o0), .val (.int p1)] [(.int p1)])) (fun t k => XS.iloadN X1.here hx rfl (hb hby own_d_prog_53_12_52) rfl  k) ?_
  refine own_by (V := T1.setTop (mkF m 56 #[.val (.ref o0), .val (.int p1)] [(.int (194 : Int32)), (.int p1)])) (fun t k => XS.sipush X1.here hx rfl (hb hby own_d_prog_53_12_53) k) ?_
  have hb56_3 : (p1 < (194 : Int32)) := own_lt_of hp (by decide)
  refine own_by (V := T1.setTop (mkF m 74 #[.val (.ref o0), .val (.int p1)] [])) (fun t k => XS.icmpYes X1.here hx rfl (pc0 := 56) (pc' := 74) rfl (hb hby own_d_prog_53_12_56) rfl (tlt hb56_3).1 (by decide) (by decide) k) ?_
  refine own_by (V := T1.setTop (mkF m 75 #[.val (.ref o0), .val (.int p1)] [(.int p1)])) (fun t k => XS.iloadN X1.here hx rfl (hb hby own_d_prog_53_12_74) rfl  k) ?_
  refine own_by (V := T1.setTop (mkF m 78 #[.val (.ref o0), .val (.int p1)] [(.int (224 : Int32)), (.int p1)])) (fun t k => XS.sipush X1.here hx rfl (hb hby own_d_prog_53_12_75) k) ?_
  have hb78_4 : (p1 < (224 : Int32)) := own_lt_of hp (by decide)
  refine own_by (V := T1.setTop (mkF m 136 #[.val (.ref o0), .val (.int p1)] [])) (fun t k => XS.icmpYes X1.here hx rfl (pc0 := 78) (pc' := 136) rfl (hb hby own_d_prog_53_12_78) rfl (tlt hb78_4).1 (by decide) (by decide) k) ?_
  refine own_by (V := T1.setTop (mkF m 137 #[.val (.ref o0), .val (.int p1)] [(.int p1)])) (fun t k => XS.iloadN X1.here hx rfl (hb hby own_d_prog_53_12_136) rfl  k) ?_
  refine own_by (V := T1.setTop (mkF m 140 #[.val (.ref o0), .val (.int p1)] [(.int (240 : Int32)), (.int p1)])) (fun t k => XS.sipush X1.here hx rfl (hb hby own_d_prog_53_12_137) k) ?_
  have hb140_5 : (p1 < (240 : Int32)) := own_lt_of hp (by decide)
  refine own_by (V := T1.setTop (mkF m 198 #[.val (.ref o0), .val (.int p1)] [])) (fun t k => XS.icmpYes X1.here hx rfl (pc0 := 140) (pc' := 198) rfl (hb hby own_d_prog_53_12_140) rfl (tlt hb140_5).1 (by decide) (by decide) k) ?_
  refine own_by (V := T1.setTop (mkF m 199 #[.val (.ref o0), .val (.int p1)] [(.int p1)])) (fun t k => XS.iloadN X1.here hx rfl (hb hby own_d_prog_53_12_198) rfl  k) ?_
  refine own_by (V := T1.setTop (mkF m 202 #[.val (.ref o0), .val (.int p1)] [(.int (128 : Int32)), (.int p1)])) (fun t k => XS.sipush X1.here hx rfl (hb hby own_d_prog_53_12_199) k) ?_
  have hb202_6 : (p1 < (128 : Int32)) := hp
  refine own_by (V := T1.setTop (mkF m 205 #[.val (.ref o0), .val (.int p1)] [])) (fun t k => XS.icmpNo X1.here hx rfl (hb hby own_d_prog_53_12_202) rfl (tlt hb202_6).2.1 k) ?_
  refine own_by (V := T1.setTop (mkF m 206 #[.val (.ref o0), .val (.int p1)] [(.int (1 : Int32))])) (fun t k => XS.iconst X1.here hx rfl (hb hby own_d_prog_53_12_205) k) ?_
  refine own_by (V := T1.setTop (mkF m 210 #[.val (.ref o0), .val (.int p1)] [(.int (1 : Int32))])) (fun t k => XS.goto X1.here hx rfl (pc0 := 206) (pc' := 210) rfl (hb hby own_d_prog_53_12_206) (by decide) (by decide) k) ?_
  refine own_retN X1 hx hlk e1 Bd.returns (t := .boolean) (by simp) rfl (hb hby own_d_prog_53_12_210) ?_ (by decide) (by decide)
  exact ⟨congrArg (fun z => some (Value.int z)) (show (1 : Int32) = (1 : Int32) from by rfl), N0, rfl⟩
def own_Q_own_take (Z : State) (o0 : Addr) (p1 : Int32) (u_half : Int32) (u_low : Int32) (u_high : Int32) (u_line : Int32) (u_column : Int32) (u_afterCr : Int32) (u_position : Int64) (we wm : Addr) (clm : Cell) (od sw : Int32) (h0 : Heap) (n0 : Nat) : Option Value → Heap → List Loc → Prop := fun v h L => v = some (.int (1 : Int32)) ∧ Fr n0 L ∧ Keep h0 h [o0] ∧ Exa Z h o0 "crossmarc/reading/Cursor" ∧ Fld Z h o0 "crossmarc/reading/Cursor" "half" "I" (.int u_half) ∧ Fld Z h o0 "crossmarc/reading/Cursor" "low" "I" (.int u_low) ∧ Fld Z h o0 "crossmarc/reading/Cursor" "high" "I" (.int u_high) ∧ Fld Z h o0 "crossmarc/reading/Cursor" "encoding" "Lcrossmarc/reading/CheckedEncoding;" (.ref we) ∧ Fld Z h o0 "crossmarc/reading/Cursor" "line" "I" (.int (u_line + (own_nl u_afterCr p1))) ∧ Fld Z h o0 "crossmarc/reading/Cursor" "column" "I" (.int (own_nc u_column p1)) ∧ Fld Z h o0 "crossmarc/reading/Cursor" "needed" "I" (.int (0 : Int32)) ∧ Fld Z h o0 "crossmarc/reading/Cursor" "afterCr" "Z" (.int (own_pcr p1)) ∧ Fld Z h o0 "crossmarc/reading/Cursor" "position" "J" (.long (u_position + (1 : Int64)))
theorem own_ef_own_take (m : MethodId) (x0 : Addr) (x1 : Int32) : entryFrame m #[(.ref x0), (.int x1)] 2 = mkF m 0 #[.val (.ref x0), .val (.int x1)] [] := by first | (simp [entryFrame, mkF, argsToLocals, Value.category]; done) | rfl
set_option maxRecDepth 65536 in
set_option maxHeartbeats 40000000 in
theorem own_take (l : Launch) (Z : State) (a0 : Array Value) (hw : ∀ d ∈ tables_1, d.before a0 Z = true) (ws : List Jvm.Cond) (o0 : Addr) (p1 : Int32) (u_half : Int32) (u_low : Int32) (u_high : Int32) (u_line : Int32) (u_column : Int32) (u_afterCr : Int32) (u_position : Int64) (we wm : Addr) (clm : Cell) (od sw : Int32) (h0 : Heap) (n0 : Nat) (Z0 : n0 ≤ h0.size) (g0 : n0 ≤ o0) (E0 : Exa Z h0 o0 "crossmarc/reading/Cursor") (F_half : Fld Z h0 o0 "crossmarc/reading/Cursor" "half" "I" (.int u_half)) (F_low : Fld Z h0 o0 "crossmarc/reading/Cursor" "low" "I" (.int u_low)) (F_high : Fld Z h0 o0 "crossmarc/reading/Cursor" "high" "I" (.int u_high)) (F_encoding : Fld Z h0 o0 "crossmarc/reading/Cursor" "encoding" "Lcrossmarc/reading/CheckedEncoding;" (.ref we)) (F_line : Fld Z h0 o0 "crossmarc/reading/Cursor" "line" "I" (.int u_line)) (F_column : Fld Z h0 o0 "crossmarc/reading/Cursor" "column" "I" (.int u_column)) (F_needed : Fld Z h0 o0 "crossmarc/reading/Cursor" "needed" "I" (.int (0 : Int32))) (F_afterCr : Fld Z h0 o0 "crossmarc/reading/Cursor" "afterCr" "Z" (.int u_afterCr)) (F_position : Fld Z h0 o0 "crossmarc/reading/Cursor" "position" "J" (.long u_position)) (hp : p1 < (128 : Int32)) (Ee : Exa Z h0 we "crossmarc/reading/CheckedEncoding") (Fe : Fld Z h0 we "java/lang/Enum" "ordinal" "I" (.int od)) (hne : we ≠ o0) (Sm : Sta Z h0 "crossmarc/reading/Cursor$1" "$SwitchMap$crossmarc$reading$CheckedEncoding" "[I" (.ref wm)) (Am : Arr Z h0 wm clm .int) (hm : ¬ (od < 0 ∨ clm.slots.size ≤ od.toNatClampNeg) ∧ clm.slots[od.toNatClampNeg]? = some (.int sw)) (hsw : sw = 3 ∨ sw = 4 ∨ sw = 5) :
    MetFree l (⟨"crossmarc/reading/Cursor", "take", "(I)Z"⟩ : MethodName) (head1 (Jvm.Cond.code (⟨"crossmarc/reading/Cursor", "take", "(I)Z"⟩ : MethodName) prog_53_method_8_code 2 (some .boolean) :: ws) ({ frames := 1, cells := 0, slots := 0, locals := 13 } : Room)) (fun a U => a = #[(.ref o0), (.int p1)] ∧ Z.Warmed39 U.vm ∧ U.heap = h0) (fun _ _ _ _ _ => True) (fun _ U o U' => ∃ v L, o = .returned v ∧ (own_Q_own_take Z o0 p1 u_half u_low u_high u_line u_column u_afterCr u_position we wm clm od sw h0 n0) v U'.heap L ∧ FrameEnd U o U' L ({ frames := 1, cells := 0, slots := 0, locals := 13 } : Room).cells ({ frames := 1, cells := 0, slots := 0, locals := 13 } : Room).slots) := by
  refine MetFree.of_bodySF (plainFor_of_name own_pn0) hisR ?_
  intro p e s m args below meth c s₁ Bd hml0 hP hK
  obtain ⟨rfl, hZ, hh⟩ := hP
  have hx := Bd.exec
  have hby := Bd.bytes
  have hml : c.maxLocals = 2 := hml0
  have hown : s.vm.findClass "crossmarc/reading/Cursor" = some m.cls := findClass_of_methodNamed Bd.named
  have hnm := (name_of_methodNamed Bd.named Bd.method).1
  have hlk : meth.locks = false := BodyLoose.notSynchronized Bd
  have X0 : Stand p l e ({ frames := 1, cells := 0, slots := 0, locals := 13 } : Room) s m #[(.ref o0), (.int p1)] below meth c s₁ [] 0 0 := Stand.of_body Bd
  have e0 : s₁.heap = h0 := by rw [← hh, Bd.state]; rfl
  have N0 := Fr.nil n0
  show own_Ends p e below s (own_Q_own_take Z o0 p1 u_half u_low u_high u_line u_column u_afterCr u_position we wm clm od sw h0 n0) ({ frames := 1, cells := 0, slots := 0, locals := 13 } : Room).cells ({ frames := 1, cells := 0, slots := 0, locals := 13 } : Room).slots _
  refine own_by (V := s₁.setTop (mkF m 0 #[.val (.ref o0), .val (.int p1)] [])) (fun t k => castTop (own_ef_own_take m o0 p1) k) ?_
  obtain ⟨T1, X1, e1, st1⟩ := getS2 X0 hx hZ hown (host := "") (Or.inl (hw _ (List.mem_of_getElem? (i := 31) rfl))) Via.refl e0 Sm (g := (mkF m 0 #[.val (.ref o0), .val (.int p1)] [])) rfl (hb hby own_d_prog_53_8_0)
  refine own_by (V := T1.setTop (mkF m 3 #[.val (.ref o0), .val (.int p1)] [(.ref wm)])) st1 ?_
  refine own_by (V := T1.setTop (mkF m 4 #[.val (.ref o0), .val (.int p1)] [(.ref o0), (.ref wm)])) (fun t k => XS.aloadN X1.here hx rfl (hb hby own_d_prog_53_8_3) rfl rfl k) ?_
  obtain ⟨T2, X2, e2, st2⟩ := getF X1 hx hZ hown (host := "") (Or.inl (hw _ (List.mem_of_getElem? (i := 20) rfl))) Via.refl e1 F_encoding (g := (mkF m 4 #[.val (.ref o0), .val (.int p1)] [(.ref o0), (.ref wm)])) rfl rfl (hb hby own_d_prog_53_8_4)
  refine own_by (V := T2.setTop (mkF m 7 #[.val (.ref o0), .val (.int p1)] [(.ref we), (.ref wm)])) st2 ?_
  obtain ⟨cq4, kq4, q4a, q4b, q4c⟩ := isOf hZ e2 Ee
  obtain ⟨_, _, ⟨T3, Lq3, kq3, nq3⟩, -, X3, ⟨Lc3, hQ3, lq3, yq3, zq3⟩, st3⟩ := X2.virtualBackUp hx (x := (⟨"crossmarc/reading/CheckedEncoding", "ordinal", "()I"⟩ : MethodName)) (y := (⟨"java/lang/Enum", "ordinal", "()I"⟩ : MethodName)) (owner := "java/lang/Enum") hown (mvT hZ (hw _ (List.mem_of_getElem? (i := 34) rfl))) (mvT hZ (hw _ (List.mem_of_getElem? (i := 35) rfl))) (mvT hZ (hw _ (List.mem_of_getElem? (i := 36) rfl))) (by decide) (mvT hZ (hw _ (List.mem_of_getElem? (i := 38) rfl))) (mvT hZ (hw _ (List.mem_of_getElem? (i := 37) rfl))) (backOf (W := 1) (own_ord l Z a0 hw [] we od h0 n0 Fe) hZ (hw _ (List.mem_of_getElem? (i := 40) rfl)) (hw _ (List.mem_of_getElem? (i := 39) rfl)) (by decide) (by decide)) q4a q4c (g := (mkF m 7 #[.val (.ref o0), .val (.int p1)] [(.ref we), (.ref wm)])) rfl (by rw [hml]; rfl) (Steps.refl _) (argsL := []) (rest := [(.ref wm)]) (lenOf own_pd1 rfl) rfl (by show 2 * 0 + _ ≤ _; exact Nat.le_of_eq rfl) (hb hby own_d_prog_53_8_7) (fun _ _ => ⟨rfl, e2, (by decide : 0 + 0 ≤ _), (by decide : 0 + 0 ≤ _)⟩)
  dsimp only [Pt.U, Pt.locs, Pt.cells, Pt.slots] at X3 lq3 yq3 zq3 st3 hQ3
  subst lq3 yq3 zq3
  obtain ⟨rfl, N3q, e3⟩ := hQ3
  have N3 := Fr.app N0 N3q
  refine own_by (V := T3.setTop (mkF m 10 #[.val (.ref o0), .val (.int p1)] [(.int od), (.ref wm)])) (fun t k => st3.trans k) ?_
  refine own_by (V := T3.setTop (mkF m 11 #[.val (.ref o0), .val (.int p1)] [(.int sw)])) (X3.iaload hx (j := od) (v := .int sw) (by rw [e3]; exact Am.1) (State.isArrayOf_alike hZ.alike Am.2.1) Am.2.2 hm.1 hm.2 (g := (mkF m 10 #[.val (.ref o0), .val (.int p1)] [(.int od), (.ref wm)])) rfl rfl (hb hby own_d_prog_53_8_10)) ?_
  rcases hsw with q | q | q
  · subst q
    refine own_by (V := T3.setTop (mkF m 98 #[.val (.ref o0), .val (.int p1)] [])) (fun t k => XS.tswIn X3.here hx rfl (pc0 := 11) (pc' := 98) rfl (hb hby own_d_prog_53_8_11) rfl (by decide) rfl (by decide) (by decide) k) ?_
    refine own_by (V := T3.setTop (mkF m 99 #[.val (.ref o0), .val (.int p1)] [(.ref o0)])) (fun t k => XS.aloadN X3.here hx rfl (hb hby own_d_prog_53_8_98) rfl rfl k) ?_
    refine own_by (V := T3.setTop (mkF m 100 #[.val (.ref o0), .val (.int p1)] [(.int p1), (.ref o0)])) (fun t k => XS.iloadN X3.here hx rfl (hb hby own_d_prog_53_8_99) rfl  k) ?_
    obtain ⟨cq6, q6a, q6b⟩ := E0.cell
    obtain ⟨_, _, ⟨T5, Lq5, kq5, nq5⟩, -, X5, ⟨Lc5, hQ5, lq5, yq5, zq5⟩, st5⟩ := X3.privateBack hx (y := (⟨"crossmarc/reading/Cursor", "utf8", "(I)Z"⟩ : MethodName)) hown (mvT hZ (hw _ (List.mem_of_getElem? (i := 43) rfl))) (mvT hZ (hw _ (List.mem_of_getElem? (i := 44) rfl))) (own_selPriv (mvT hZ (hw _ (List.mem_of_getElem? (i := 6) rfl))) (mvP hZ (hw _ (List.mem_of_getElem? (i := 45) rfl)) (args := #[])) (mvT hZ (hw _ (List.mem_of_getElem? (i := 44) rfl))) (by decide)) (Cond.privateMethod_at (mvP hZ (hw _ (List.mem_of_getElem? (i := 45) rfl)) (args := #[]))) (mvT hZ (hw _ (List.mem_of_getElem? (i := 46) rfl))) (by decide) (backOf (W := 0) (own_utf8 l Z a0 hw [] o0 p1 h0 n0 F_needed hp) hZ (hw _ (List.mem_of_getElem? (i := 46) rfl)) (hw _ (List.mem_of_getElem? (i := 7) rfl)) (by decide) (by decide)) (g := (mkF m 100 #[.val (.ref o0), .val (.int p1)] [(.int p1), (.ref o0)])) rfl (by rw [hml]; rfl) (Steps.refl _) (a := o0) (by rw [e3]; exact q6a) q6b (argsL := [(.int p1)]) (rest := []) (lenOf own_pd2 rfl) rfl (by show 2 * 0 + _ ≤ _; exact Nat.le_of_eq rfl) (hb hby own_d_prog_53_8_100) (fun _ _ => ⟨rfl, e3, (by decide : 0 + 0 ≤ _), (by decide : 0 + 0 ≤ _)⟩)
    dsimp only [Pt.U, Pt.locs, Pt.cells, Pt.slots] at X5 lq5 yq5 zq5 st5 hQ5
    subst lq5 yq5 zq5
    obtain ⟨rfl, N5q, e5⟩ := hQ5
    have N5 := Fr.app N3 N5q
    refine own_by (V := T5.setTop (mkF m 103 #[.val (.ref o0), .val (.int p1)] [(.int (1 : Int32))])) (fun t k => st5.trans k) ?_
    have hb103_7 : ¬ ((1 : Int32) = (0 : Int32)) := by decide
    refine own_by (V := T5.setTop (mkF m 108 #[.val (.ref o0), .val (.int p1)] [])) (fun t k => XS.ifYes X5.here hx rfl (pc0 := 103) (pc' := 108) rfl (hb hby own_d_prog_53_8_103) rfl ((if0 _ _).trans (feq hb103_7).2) (by decide) (by decide) k) ?_
    refine own_by (V := T5.setTop (mkF m 109 #[.val (.ref o0), .val (.int p1)] [(.int p1)])) (fun t k => XS.iloadN X5.here hx rfl (hb hby own_d_prog_53_8_108) rfl  k) ?_
    refine own_by (V := T5.setTop (mkF m 112 #[.val (.ref o0), .val (.int p1)] [(.int (240 : Int32)), (.int p1)])) (fun t k => XS.sipush X5.here hx rfl (hb hby own_d_prog_53_8_109) k) ?_
    have hb112_8 : (p1 < (240 : Int32)) := own_lt_of hp (by decide)
    refine own_by (V := T5.setTop (mkF m 125 #[.val (.ref o0), .val (.int p1)] [])) (fun t k => XS.icmpYes X5.here hx rfl (pc0 := 112) (pc' := 125) rfl (hb hby own_d_prog_53_8_112) rfl (tlt hb112_8).1 (by decide) (by decide) k) ?_
    refine own_by (V := T5.setTop (mkF m 126 #[.val (.ref o0), .val (.int p1)] [(.ref o0)])) (fun t k => XS.aloadN X5.here hx rfl (hb hby own_d_prog_53_8_125) rfl rfl k) ?_
    obtain ⟨T9, X9, e9, st9⟩ := getF X5 hx hZ hown (host := "") (Or.inl (hw _ (List.mem_of_getElem? (i := 47) rfl))) Via.refl e5 F_needed (g := (mkF m 126 #[.val (.ref o0), .val (.int p1)] [(.ref o0)])) rfl rfl (hb hby own_d_prog_53_8_126)
    refine own_by (V := T9.setTop (mkF m 129 #[.val (.ref o0), .val (.int p1)] [(.int (0 : Int32))])) st9 ?_
    have hb129_10 : ((0 : Int32) = (0 : Int32)) := by decide
    refine own_by (V := T9.setTop (mkF m 132 #[.val (.ref o0), .val (.int p1)] [])) (fun t k => XS.ifNo X9.here hx rfl (hb hby own_d_prog_53_8_129) rfl ((if0 _ _).trans (teq hb129_10).2) k) ?_
    refine own_by (V := T9.setTop (mkF m 133 #[.val (.ref o0), .val (.int p1)] [(.ref o0)])) (fun t k => XS.aloadN X9.here hx rfl (hb hby own_d_prog_53_8_132) rfl rfl k) ?_
    refine own_by (V := T9.setTop (mkF m 134 #[.val (.ref o0), .val (.int p1)] [(.int p1), (.ref o0)])) (fun t k => XS.iloadN X9.here hx rfl (hb hby own_d_prog_53_8_133) rfl  k) ?_
    obtain ⟨cq12, kq12, q12a, q12b, q12c⟩ := isOf hZ e9 E0
    obtain ⟨_, _, ⟨T11, Lq11, kq11, nq11⟩, -, X11, ⟨Lc11, hQ11, lq11, yq11, zq11⟩, st11⟩ := X9.virtualBack hx (y := (⟨"crossmarc/reading/Cursor", "pass", "(I)V"⟩ : MethodName)) (z := (⟨"crossmarc/reading/Cursor", "pass", "(I)V"⟩ : MethodName)) hown (mvT hZ (hw _ (List.mem_of_getElem? (i := 49) rfl))) (mvT hZ (hw _ (List.mem_of_getElem? (i := 50) rfl))) (notFace_of_selects (args := #[]) (mvT hZ (hw _ (List.mem_of_getElem? (i := 52) rfl)))) (mvT hZ (hw _ (List.mem_of_getElem? (i := 52) rfl))) (mvT hZ (hw _ (List.mem_of_getElem? (i := 51) rfl))) (by decide) (backOf (W := 0) (own_pass l Z a0 hw [] o0 p1 u_half u_low u_high (.ref we) u_line u_column (0 : Int32) u_afterCr u_position h0 n0 Z0 g0 E0 F_half F_low F_high F_encoding F_line F_column F_needed F_afterCr F_position) hZ (hw _ (List.mem_of_getElem? (i := 53) rfl)) (hw _ (List.mem_of_getElem? (i := 7) rfl)) (by decide) (by decide)) q12a q12c (g := (mkF m 134 #[.val (.ref o0), .val (.int p1)] [(.int p1), (.ref o0)])) rfl (by rw [hml]; rfl) (Steps.refl _) (argsL := [(.int p1)]) (rest := []) (lenOf own_pd3 rfl) rfl (by show 2 * 0 + _ ≤ _; exact Nat.le_of_eq rfl) (hb hby own_d_prog_53_8_134) (fun _ _ => ⟨rfl, e9, (by decide : 0 + 0 ≤ _), (by decide : 0 + 0 ≤ _)⟩)
    dsimp only [Pt.U, Pt.locs, Pt.cells, Pt.slots] at X11 lq11 yq11 zq11 st11 hQ11
    subst lq11 yq11 zq11
    obtain ⟨rfl, N11q, Kc11, Ec11, g11_0, g11_1, g11_2, g11_3, g11_4, g11_5, g11_6, g11_7, g11_8⟩ := hQ11
    have N11 := Fr.app N5 N11q
    have f13 := Ee.keep Kc11
    have f14 := Fe.keep Kc11 (ninS hne nin0)
    have K11 := (Keep.refl h0 [o0]).trans Kc11 (allS (Or.inl (List.mem_singleton.mpr rfl)) all0)
    have Zs11 : n0 ≤ T11.heap.size := Nat.le_trans Z0 Kc11.1
    refine own_by (V := T11.setTop (mkF m 137 #[.val (.ref o0), .val (.int p1)] [])) (fun t k => st11.trans k) ?_
    refine own_by (V := T11.setTop (mkF m 162 #[.val (.ref o0), .val (.int p1)] [])) (fun t k => XS.goto X11.here hx rfl (pc0 := 137) (pc' := 162) rfl (hb hby own_d_prog_53_8_137) (by decide) (by decide) k) ?_
    refine own_by (V := T11.setTop (mkF m 163 #[.val (.ref o0), .val (.int p1)] [(.ref o0)])) (fun t k => XS.aloadN X11.here hx rfl (hb hby own_d_prog_53_8_162) rfl rfl k) ?_
    refine own_by (V := T11.setTop (mkF m 164 #[.val (.ref o0), .val (.int p1)] [(.ref o0), (.ref o0)])) (fun t k => XS.dup X11.here hx rfl (hb hby own_d_prog_53_8_163) rfl rfl k) ?_
    obtain ⟨T16, X16, e16, st16⟩ := getF X11 hx hZ hown (host := "") (Or.inl (hw _ (List.mem_of_getElem? (i := 56) rfl))) Via.refl rfl g11_8 (g := (mkF m 164 #[.val (.ref o0), .val (.int p1)] [(.ref o0), (.ref o0)])) rfl rfl (hb hby own_d_prog_53_8_164)
    refine own_by (V := T16.setTop (mkF m 167 #[.val (.ref o0), .val (.int p1)] [(.long u_position), (.ref o0)])) st16 ?_
    refine own_by (V := T16.setTop (mkF m 168 #[.val (.ref o0), .val (.int p1)] [(.long (1 : Int64)), (.long u_position), (.ref o0)])) (fun t k => XS.lconst X16.here hx rfl (hb hby own_d_prog_53_8_167) k) ?_
    refine own_by (V := T16.setTop (mkF m 169 #[.val (.ref o0), .val (.int p1)] [(.long (u_position + (1 : Int64))), (.ref o0)])) (fun t k => XS.ladd X16.here hx rfl (hb hby own_d_prog_53_8_168) rfl k) ?_
    obtain ⟨T17, h17, X17, e17, W17, st17⟩ := putF X16 hx hZ hown (host := "") (Or.inl (hw _ (List.mem_of_getElem? (i := 56) rfl))) Via.refl e16 g11_8 Ec11 (Or.inl (hw _ (List.mem_of_getElem? (i := 57) rfl))) (hw _ (List.mem_of_getElem? (i := 6) rfl)) (ty := .long) (by decide) rfl rfl (g := (mkF m 169 #[.val (.ref o0), .val (.int p1)] [(.long (u_position + (1 : Int64))), (.ref o0)])) rfl rfl (hb hby own_d_prog_53_8_169)
    have N17 := Fr.snoc X17 N11 g0
    have K17 := K11.wr W17 (Or.inl (List.mem_singleton.mpr rfl))
    have Zs17 : n0 ≤ h17.size := by rw [W17.size]; exact Zs11
    have f18 := Ec11.wr W17
    have f19 := g11_0.other W17 (Or.inr (slot_ne (Or.inl (hw _ (List.mem_of_getElem? (i := 15) rfl))) (Or.inl (hw _ (List.mem_of_getElem? (i := 57) rfl))) (by decide) (t := .int) (t' := .long) (by decide) (by decide)))
    have f20 := g11_1.other W17 (Or.inr (slot_ne (Or.inl (hw _ (List.mem_of_getElem? (i := 17) rfl))) (Or.inl (hw _ (List.mem_of_getElem? (i := 57) rfl))) (by decide) (t := .int) (t' := .long) (by decide) (by decide)))
    have f21 := g11_2.other W17 (Or.inr (slot_ne (Or.inl (hw _ (List.mem_of_getElem? (i := 19) rfl))) (Or.inl (hw _ (List.mem_of_getElem? (i := 57) rfl))) (by decide) (t := .int) (t' := .long) (by decide) (by decide)))
    have f22 := g11_3.other W17 (Or.inr (slot_ne (Or.inr (hw _ (List.mem_of_getElem? (i := 21) rfl))) (Or.inl (hw _ (List.mem_of_getElem? (i := 57) rfl))) (by decide) (t := (.object "crossmarc/reading/CheckedEncoding")) (t' := .long) (by decide) (by decide)))
    have f23 := g11_4.other W17 (Or.inr (slot_ne (Or.inl (hw _ (List.mem_of_getElem? (i := 23) rfl))) (Or.inl (hw _ (List.mem_of_getElem? (i := 57) rfl))) (by decide) (t := .int) (t' := .long) (by decide) (by decide)))
    have f24 := g11_5.other W17 (Or.inr (slot_ne (Or.inl (hw _ (List.mem_of_getElem? (i := 25) rfl))) (Or.inl (hw _ (List.mem_of_getElem? (i := 57) rfl))) (by decide) (t := .int) (t' := .long) (by decide) (by decide)))
    have f25 := g11_6.other W17 (Or.inr (slot_ne (Or.inl (hw _ (List.mem_of_getElem? (i := 48) rfl))) (Or.inl (hw _ (List.mem_of_getElem? (i := 57) rfl))) (by decide) (t := .int) (t' := .long) (by decide) (by decide)))
    have f26 := g11_7.other W17 (Or.inr (slot_ne (Or.inl (hw _ (List.mem_of_getElem? (i := 55) rfl))) (Or.inl (hw _ (List.mem_of_getElem? (i := 57) rfl))) (by decide) (t := .boolean) (t' := .long) (by decide) (by decide)))
    have f27 := g11_8.same W17
    have f28 := f13.wr W17
    have f29 := f14.other W17 (Or.inl hne)
    refine own_by (V := T17.setTop (mkF m 172 #[.val (.ref o0), .val (.int p1)] [])) st17 ?_
    refine own_by (V := T17.setTop (mkF m 173 #[.val (.ref o0), .val (.int p1)] [(.int (1 : Int32))])) (fun t k => XS.iconst X17.here hx rfl (hb hby own_d_prog_53_8_172) k) ?_
    refine own_retN X17 hx hlk e17 Bd.returns (t := .boolean) (by simp) rfl (hb hby own_d_prog_53_8_173) ?_ (by decide) (by decide)
    exact ⟨rfl, N17, K17, f18, f19, f20, f21, f22, f23, f24, f25, f26, f27⟩
  · subst q
    refine own_by (V := T3.setTop (mkF m 140 #[.val (.ref o0), .val (.int p1)] [])) (fun t k => XS.tswIn X3.here hx rfl (pc0 := 11) (pc' := 140) rfl (hb hby own_d_prog_53_8_11) rfl (by decide) rfl (by decide) (by decide) k) ?_
    refine own_by (V := T3.setTop (mkF m 141 #[.val (.ref o0), .val (.int p1)] [(.int p1)])) (fun t k => XS.iloadN X3.here hx rfl (hb hby own_d_prog_53_8_140) rfl  k) ?_
    refine own_by (V := T3.setTop (mkF m 144 #[.val (.ref o0), .val (.int p1)] [(.int (128 : Int32)), (.int p1)])) (fun t k => XS.sipush X3.here hx rfl (hb hby own_d_prog_53_8_141) k) ?_
    have hb144_30 : (p1 < (128 : Int32)) := hp
    refine own_by (V := T3.setTop (mkF m 149 #[.val (.ref o0), .val (.int p1)] [])) (fun t k => XS.icmpYes X3.here hx rfl (pc0 := 144) (pc' := 149) rfl (hb hby own_d_prog_53_8_144) rfl (tlt hb144_30).1 (by decide) (by decide) k) ?_
    refine own_by (V := T3.setTop (mkF m 150 #[.val (.ref o0), .val (.int p1)] [(.ref o0)])) (fun t k => XS.aloadN X3.here hx rfl (hb hby own_d_prog_53_8_149) rfl rfl k) ?_
    refine own_by (V := T3.setTop (mkF m 151 #[.val (.ref o0), .val (.int p1)] [(.int p1), (.ref o0)])) (fun t k => XS.iloadN X3.here hx rfl (hb hby own_d_prog_53_8_150) rfl  k) ?_
    obtain ⟨cq32, kq32, q32a, q32b, q32c⟩ := isOf hZ e3 E0
    obtain ⟨_, _, ⟨T31, Lq31, kq31, nq31⟩, -, X31, ⟨Lc31, hQ31, lq31, yq31, zq31⟩, st31⟩ := X3.virtualBack hx (y := (⟨"crossmarc/reading/Cursor", "pass", "(I)V"⟩ : MethodName)) (z := (⟨"crossmarc/reading/Cursor", "pass", "(I)V"⟩ : MethodName)) hown (mvT hZ (hw _ (List.mem_of_getElem? (i := 49) rfl))) (mvT hZ (hw _ (List.mem_of_getElem? (i := 50) rfl))) (notFace_of_selects (args := #[]) (mvT hZ (hw _ (List.mem_of_getElem? (i := 52) rfl)))) (mvT hZ (hw _ (List.mem_of_getElem? (i := 52) rfl))) (mvT hZ (hw _ (List.mem_of_getElem? (i := 51) rfl))) (by decide) (backOf (W := 0) (own_pass l Z a0 hw [] o0 p1 u_half u_low u_high (.ref we) u_line u_column (0 : Int32) u_afterCr u_position h0 n0 Z0 g0 E0 F_half F_low F_high F_encoding F_line F_column F_needed F_afterCr F_position) hZ (hw _ (List.mem_of_getElem? (i := 53) rfl)) (hw _ (List.mem_of_getElem? (i := 7) rfl)) (by decide) (by decide)) q32a q32c (g := (mkF m 151 #[.val (.ref o0), .val (.int p1)] [(.int p1), (.ref o0)])) rfl (by rw [hml]; rfl) (Steps.refl _) (argsL := [(.int p1)]) (rest := []) (lenOf own_pd3 rfl) rfl (by show 2 * 0 + _ ≤ _; exact Nat.le_of_eq rfl) (hb hby own_d_prog_53_8_151) (fun _ _ => ⟨rfl, e3, (by decide : 0 + 0 ≤ _), (by decide : 0 + 0 ≤ _)⟩)
    dsimp only [Pt.U, Pt.locs, Pt.cells, Pt.slots] at X31 lq31 yq31 zq31 st31 hQ31
    subst lq31 yq31 zq31
    obtain ⟨rfl, N31q, Kc31, Ec31, g31_0, g31_1, g31_2, g31_3, g31_4, g31_5, g31_6, g31_7, g31_8⟩ := hQ31
    have N31 := Fr.app N3 N31q
    have f33 := Ee.keep Kc31
    have f34 := Fe.keep Kc31 (ninS hne nin0)
    have K31 := (Keep.refl h0 [o0]).trans Kc31 (allS (Or.inl (List.mem_singleton.mpr rfl)) all0)
    have Zs31 : n0 ≤ T31.heap.size := Nat.le_trans Z0 Kc31.1
    refine own_by (V := T31.setTop (mkF m 154 #[.val (.ref o0), .val (.int p1)] [])) (fun t k => st31.trans k) ?_
    refine own_by (V := T31.setTop (mkF m 162 #[.val (.ref o0), .val (.int p1)] [])) (fun t k => XS.goto X31.here hx rfl (pc0 := 154) (pc' := 162) rfl (hb hby own_d_prog_53_8_154) (by decide) (by decide) k) ?_
    refine own_by (V := T31.setTop (mkF m 163 #[.val (.ref o0), .val (.int p1)] [(.ref o0)])) (fun t k => XS.aloadN X31.here hx rfl (hb hby own_d_prog_53_8_162) rfl rfl k) ?_
    refine own_by (V := T31.setTop (mkF m 164 #[.val (.ref o0), .val (.int p1)] [(.ref o0), (.ref o0)])) (fun t k => XS.dup X31.here hx rfl (hb hby own_d_prog_53_8_163) rfl rfl k) ?_
    obtain ⟨T36, X36, e36, st36⟩ := getF X31 hx hZ hown (host := "") (Or.inl (hw _ (List.mem_of_getElem? (i := 56) rfl))) Via.refl rfl g31_8 (g := (mkF m 164 #[.val (.ref o0), .val (.int p1)] [(.ref o0), (.ref o0)])) rfl rfl (hb hby own_d_prog_53_8_164)
    refine own_by (V := T36.setTop (mkF m 167 #[.val (.ref o0), .val (.int p1)] [(.long u_position), (.ref o0)])) st36 ?_
    refine own_by (V := T36.setTop (mkF m 168 #[.val (.ref o0), .val (.int p1)] [(.long (1 : Int64)), (.long u_position), (.ref o0)])) (fun t k => XS.lconst X36.here hx rfl (hb hby own_d_prog_53_8_167) k) ?_
    refine own_by (V := T36.setTop (mkF m 169 #[.val (.ref o0), .val (.int p1)] [(.long (u_position + (1 : Int64))), (.ref o0)])) (fun t k => XS.ladd X36.here hx rfl (hb hby own_d_prog_53_8_168) rfl k) ?_
    obtain ⟨T37, h37, X37, e37, W37, st37⟩ := putF X36 hx hZ hown (host := "") (Or.inl (hw _ (List.mem_of_getElem? (i := 56) rfl))) Via.refl e36 g31_8 Ec31 (Or.inl (hw _ (List.mem_of_getElem? (i := 57) rfl))) (hw _ (List.mem_of_getElem? (i := 6) rfl)) (ty := .long) (by decide) rfl rfl (g := (mkF m 169 #[.val (.ref o0), .val (.int p1)] [(.long (u_position + (1 : Int64))), (.ref o0)])) rfl rfl (hb hby own_d_prog_53_8_169)
    have N37 := Fr.snoc X37 N31 g0
    have K37 := K31.wr W37 (Or.inl (List.mem_singleton.mpr rfl))
    have Zs37 : n0 ≤ h37.size := by rw [W37.size]; exact Zs31
    have f38 := Ec31.wr W37
    have f39 := g31_0.other W37 (Or.inr (slot_ne (Or.inl (hw _ (List.mem_of_getElem? (i := 15) rfl))) (Or.inl (hw _ (List.mem_of_getElem? (i := 57) rfl))) (by decide) (t := .int) (t' := .long) (by decide) (by decide)))
    have f40 := g31_1.other W37 (Or.inr (slot_ne (Or.inl (hw _ (List.mem_of_getElem? (i := 17) rfl))) (Or.inl (hw _ (List.mem_of_getElem? (i := 57) rfl))) (by decide) (t := .int) (t' := .long) (by decide) (by decide)))
    have f41 := g31_2.other W37 (Or.inr (slot_ne (Or.inl (hw _ (List.mem_of_getElem? (i := 19) rfl))) (Or.inl (hw _ (List.mem_of_getElem? (i := 57) rfl))) (by decide) (t := .int) (t' := .long) (by decide) (by decide)))
    have f42 := g31_3.other W37 (Or.inr (slot_ne (Or.inr (hw _ (List.mem_of_getElem? (i := 21) rfl))) (Or.inl (hw _ (List.mem_of_getElem? (i := 57) rfl))) (by decide) (t := (.object "crossmarc/reading/CheckedEncoding")) (t' := .long) (by decide) (by decide)))
    have f43 := g31_4.other W37 (Or.inr (slot_ne (Or.inl (hw _ (List.mem_of_getElem? (i := 23) rfl))) (Or.inl (hw _ (List.mem_of_getElem? (i := 57) rfl))) (by decide) (t := .int) (t' := .long) (by decide) (by decide)))
    have f44 := g31_5.other W37 (Or.inr (slot_ne (Or.inl (hw _ (List.mem_of_getElem? (i := 25) rfl))) (Or.inl (hw _ (List.mem_of_getElem? (i := 57) rfl))) (by decide) (t := .int) (t' := .long) (by decide) (by decide)))
    have f45 := g31_6.other W37 (Or.inr (slot_ne (Or.inl (hw _ (List.mem_of_getElem? (i := 48) rfl))) (Or.inl (hw _ (List.mem_of_getElem? (i := 57) rfl))) (by decide) (t := .int) (t' := .long) (by decide) (by decide)))
    have f46 := g31_7.other W37 (Or.inr (slot_ne (Or.inl (hw _ (List.mem_of_getElem? (i := 55) rfl))) (Or.inl (hw _ (List.mem_of_getElem? (i := 57) rfl))) (by decide) (t := .boolean) (t' := .long) (by decide) (by decide)))
    have f47 := g31_8.same W37
    have f48 := f33.wr W37
    have f49 := f34.other W37 (Or.inl hne)
    refine own_by (V := T37.setTop (mkF m 172 #[.val (.ref o0), .val (.int p1)] [])) st37 ?_
    refine own_by (V := T37.setTop (mkF m 173 #[.val (.ref o0), .val (.int p1)] [(.int (1 : Int32))])) (fun t k => XS.iconst X37.here hx rfl (hb hby own_d_prog_53_8_172) k) ?_
    refine own_retN X37 hx hlk e37 Bd.returns (t := .boolean) (by simp) rfl (hb hby own_d_prog_53_8_173) ?_ (by decide) (by decide)
    exact ⟨rfl, N37, K37, f38, f39, f40, f41, f42, f43, f44, f45, f46, f47⟩
  · subst q
    refine own_by (V := T3.setTop (mkF m 157 #[.val (.ref o0), .val (.int p1)] [])) (fun t k => XS.tswOut X3.here hx rfl (pc0 := 11) (pc' := 157) rfl (hb hby own_d_prog_53_8_11) rfl (by decide) (by decide) (by decide) k) ?_
    refine own_by (V := T3.setTop (mkF m 158 #[.val (.ref o0), .val (.int p1)] [(.ref o0)])) (fun t k => XS.aloadN X3.here hx rfl (hb hby own_d_prog_53_8_157) rfl rfl k) ?_
    refine own_by (V := T3.setTop (mkF m 159 #[.val (.ref o0), .val (.int p1)] [(.int p1), (.ref o0)])) (fun t k => XS.iloadN X3.here hx rfl (hb hby own_d_prog_53_8_158) rfl  k) ?_
    obtain ⟨cq51, kq51, q51a, q51b, q51c⟩ := isOf hZ e3 E0
    obtain ⟨_, _, ⟨T50, Lq50, kq50, nq50⟩, -, X50, ⟨Lc50, hQ50, lq50, yq50, zq50⟩, st50⟩ := X3.virtualBack hx (y := (⟨"crossmarc/reading/Cursor", "pass", "(I)V"⟩ : MethodName)) (z := (⟨"crossmarc/reading/Cursor", "pass", "(I)V"⟩ : MethodName)) hown (mvT hZ (hw _ (List.mem_of_getElem? (i := 49) rfl))) (mvT hZ (hw _ (List.mem_of_getElem? (i := 50) rfl))) (notFace_of_selects (args := #[]) (mvT hZ (hw _ (List.mem_of_getElem? (i := 52) rfl)))) (mvT hZ (hw _ (List.mem_of_getElem? (i := 52) rfl))) (mvT hZ (hw _ (List.mem_of_getElem? (i := 51) rfl))) (by decide) (backOf (W := 0) (own_pass l Z a0 hw [] o0 p1 u_half u_low u_high (.ref we) u_line u_column (0 : Int32) u_afterCr u_position h0 n0 Z0 g0 E0 F_half F_low F_high F_encoding F_line F_column F_needed F_afterCr F_position) hZ (hw _ (List.mem_of_getElem? (i := 53) rfl)) (hw _ (List.mem_of_getElem? (i := 7) rfl)) (by decide) (by decide)) q51a q51c (g := (mkF m 159 #[.val (.ref o0), .val (.int p1)] [(.int p1), (.ref o0)])) rfl (by rw [hml]; rfl) (Steps.refl _) (argsL := [(.int p1)]) (rest := []) (lenOf own_pd3 rfl) rfl (by show 2 * 0 + _ ≤ _; exact Nat.le_of_eq rfl) (hb hby own_d_prog_53_8_159) (fun _ _ => ⟨rfl, e3, (by decide : 0 + 0 ≤ _), (by decide : 0 + 0 ≤ _)⟩)
    dsimp only [Pt.U, Pt.locs, Pt.cells, Pt.slots] at X50 lq50 yq50 zq50 st50 hQ50
    subst lq50 yq50 zq50
    obtain ⟨rfl, N50q, Kc50, Ec50, g50_0, g50_1, g50_2, g50_3, g50_4, g50_5, g50_6, g50_7, g50_8⟩ := hQ50
    have N50 := Fr.app N3 N50q
    have f52 := Ee.keep Kc50
    have f53 := Fe.keep Kc50 (ninS hne nin0)
    have K50 := (Keep.refl h0 [o0]).trans Kc50 (allS (Or.inl (List.mem_singleton.mpr rfl)) all0)
    have Zs50 : n0 ≤ T50.heap.size := Nat.le_trans Z0 Kc50.1
    refine own_by (V := T50.setTop (mkF m 162 #[.val (.ref o0), .val (.int p1)] [])) (fun t k => st50.trans k) ?_
    refine own_by (V := T50.setTop (mkF m 163 #[.val (.ref o0), .val (.int p1)] [(.ref o0)])) (fun t k => XS.aloadN X50.here hx rfl (hb hby own_d_prog_53_8_162) rfl rfl k) ?_
    refine own_by (V := T50.setTop (mkF m 164 #[.val (.ref o0), .val (.int p1)] [(.ref o0), (.ref o0)])) (fun t k => XS.dup X50.here hx rfl (hb hby own_d_prog_53_8_163) rfl rfl k) ?_
    obtain ⟨T55, X55, e55, st55⟩ := getF X50 hx hZ hown (host := "") (Or.inl (hw _ (List.mem_of_getElem? (i := 56) rfl))) Via.refl rfl g50_8 (g := (mkF m 164 #[.val (.ref o0), .val (.int p1)] [(.ref o0), (.ref o0)])) rfl rfl (hb hby own_d_prog_53_8_164)
    refine own_by (V := T55.setTop (mkF m 167 #[.val (.ref o0), .val (.int p1)] [(.long u_position), (.ref o0)])) st55 ?_
    refine own_by (V := T55.setTop (mkF m 168 #[.val (.ref o0), .val (.int p1)] [(.long (1 : Int64)), (.long u_position), (.ref o0)])) (fun t k => XS.lconst X55.here hx rfl (hb hby own_d_prog_53_8_167) k) ?_
    refine own_by (V := T55.setTop (mkF m 169 #[.val (.ref o0), .val (.int p1)] [(.long (u_position + (1 : Int64))), (.ref o0)])) (fun t k => XS.ladd X55.here hx rfl (hb hby own_d_prog_53_8_168) rfl k) ?_
    obtain ⟨T56, h56, X56, e56, W56, st56⟩ := putF X55 hx hZ hown (host := "") (Or.inl (hw _ (List.mem_of_getElem? (i := 56) rfl))) Via.refl e55 g50_8 Ec50 (Or.inl (hw _ (List.mem_of_getElem? (i := 57) rfl))) (hw _ (List.mem_of_getElem? (i := 6) rfl)) (ty := .long) (by decide) rfl rfl (g := (mkF m 169 #[.val (.ref o0), .val (.int p1)] [(.long (u_position + (1 : Int64))), (.ref o0)])) rfl rfl (hb hby own_d_prog_53_8_169)
    have N56 := Fr.snoc X56 N50 g0
    have K56 := K50.wr W56 (Or.inl (List.mem_singleton.mpr rfl))
    have Zs56 : n0 ≤ h56.size := by rw [W56.size]; exact Zs50
    have f57 := Ec50.wr W56
    have f58 := g50_0.other W56 (Or.inr (slot_ne (Or.inl (hw _ (List.mem_of_getElem? (i := 15) rfl))) (Or.inl (hw _ (List.mem_of_getElem? (i := 57) rfl))) (by decide) (t := .int) (t' := .long) (by decide) (by decide)))
    have f59 := g50_1.other W56 (Or.inr (slot_ne (Or.inl (hw _ (List.mem_of_getElem? (i := 17) rfl))) (Or.inl (hw _ (List.mem_of_getElem? (i := 57) rfl))) (by decide) (t := .int) (t' := .long) (by decide) (by decide)))
    have f60 := g50_2.other W56 (Or.inr (slot_ne (Or.inl (hw _ (List.mem_of_getElem? (i := 19) rfl))) (Or.inl (hw _ (List.mem_of_getElem? (i := 57) rfl))) (by decide) (t := .int) (t' := .long) (by decide) (by decide)))
    have f61 := g50_3.other W56 (Or.inr (slot_ne (Or.inr (hw _ (List.mem_of_getElem? (i := 21) rfl))) (Or.inl (hw _ (List.mem_of_getElem? (i := 57) rfl))) (by decide) (t := (.object "crossmarc/reading/CheckedEncoding")) (t' := .long) (by decide) (by decide)))
    have f62 := g50_4.other W56 (Or.inr (slot_ne (Or.inl (hw _ (List.mem_of_getElem? (i := 23) rfl))) (Or.inl (hw _ (List.mem_of_getElem? (i := 57) rfl))) (by decide) (t := .int) (t' := .long) (by decide) (by decide)))
    have f63 := g50_5.other W56 (Or.inr (slot_ne (Or.inl (hw _ (List.mem_of_getElem? (i := 25) rfl))) (Or.inl (hw _ (List.mem_of_getElem? (i := 57) rfl))) (by decide) (t := .int) (t' := .long) (by decide) (by decide)))
    have f64 := g50_6.other W56 (Or.inr (slot_ne (Or.inl (hw _ (List.mem_of_getElem? (i := 48) rfl))) (Or.inl (hw _ (List.mem_of_getElem? (i := 57) rfl))) (by decide) (t := .int) (t' := .long) (by decide) (by decide)))
    have f65 := g50_7.other W56 (Or.inr (slot_ne (Or.inl (hw _ (List.mem_of_getElem? (i := 55) rfl))) (Or.inl (hw _ (List.mem_of_getElem? (i := 57) rfl))) (by decide) (t := .boolean) (t' := .long) (by decide) (by decide)))
    have f66 := g50_8.same W56
    have f67 := f52.wr W56
    have f68 := f53.other W56 (Or.inl hne)
    refine own_by (V := T56.setTop (mkF m 172 #[.val (.ref o0), .val (.int p1)] [])) st56 ?_
    refine own_by (V := T56.setTop (mkF m 173 #[.val (.ref o0), .val (.int p1)] [(.int (1 : Int32))])) (fun t k => XS.iconst X56.here hx rfl (hb hby own_d_prog_53_8_172) k) ?_
    refine own_retN X56 hx hlk e56 Bd.returns (t := .boolean) (by simp) rfl (hb hby own_d_prog_53_8_173) ?_ (by decide) (by decide)
    exact ⟨rfl, N56, K56, f57, f58, f59, f60, f61, f62, f63, f64, f65, f66⟩
def own_Q_own_rm0 (Z : State) (p0 : Int32) (p1 : Int32) (p2 : Int32) (p3 : Int32) (h0 : Heap) (n0 : Nat) : Option Value → Heap → List Loc → Prop := fun v h L => v = some (.int 1) ∧ Fr n0 L
theorem own_ef_own_rm0 (m : MethodId) (x0 : Int32) (x1 : Int32) (x2 : Int32) (x3 : Int32) : entryFrame m #[(.int x0), (.int x1), (.int x2), (.int x3)] maxLocals = mkF m 0 #[.val (.int x0), .val (.int x1), .val (.int x2), .val (.int x3), .unset, .unset, .unset, .unset, .unset, .unset, .unset, .unset, .unset, .unset] [] := by first | (simp [entryFrame, mkF, argsToLocals, Value.category, maxLocals]; done) | rfl
set_option maxRecDepth 65536 in
set_option maxHeartbeats 40000000 in
theorem own_rm0 (l : Launch) (Z : State) (a0 : Array Value) (hw : ∀ d ∈ tables_1, d.before a0 Z = true) (ws : List Jvm.Cond) (p0 : Int32) (p1 : Int32) (p2 : Int32) (p3 : Int32) (h0 : Heap) (n0 : Nat) (Z0 : n0 ≤ h0.size) (O0 : Old Z n0 h0) (w0 w1 w2 wm : Addr) (clm : Cell) (S0 : Sta Z Z.heap "crossmarc/reading/CheckedEncoding" "UTF_8" "Lcrossmarc/reading/CheckedEncoding;" (.ref w0)) (E0 : Exa Z Z.heap w0 "crossmarc/reading/CheckedEncoding") (G0 : Fld Z Z.heap w0 "java/lang/Enum" "ordinal" "I" (.int (0 : Int32))) (M0 : ¬ ((0 : Int32) < 0 ∨ clm.slots.size ≤ (0 : Int32).toNatClampNeg) ∧ clm.slots[(0 : Int32).toNatClampNeg]? = some (.int (3 : Int32))) (S1 : Sta Z Z.heap "crossmarc/reading/CheckedEncoding" "US_ASCII" "Lcrossmarc/reading/CheckedEncoding;" (.ref w1)) (E1 : Exa Z Z.heap w1 "crossmarc/reading/CheckedEncoding") (G1 : Fld Z Z.heap w1 "java/lang/Enum" "ordinal" "I" (.int (1 : Int32))) (M1 : ¬ ((1 : Int32) < 0 ∨ clm.slots.size ≤ (1 : Int32).toNatClampNeg) ∧ clm.slots[(1 : Int32).toNatClampNeg]? = some (.int (4 : Int32))) (S2 : Sta Z Z.heap "crossmarc/reading/CheckedEncoding" "SINGLE_BYTE" "Lcrossmarc/reading/CheckedEncoding;" (.ref w2)) (E2 : Exa Z Z.heap w2 "crossmarc/reading/CheckedEncoding") (G2 : Fld Z Z.heap w2 "java/lang/Enum" "ordinal" "I" (.int (4 : Int32))) (M2 : ¬ ((4 : Int32) < 0 ∨ clm.slots.size ≤ (4 : Int32).toNatClampNeg) ∧ clm.slots[(4 : Int32).toNatClampNeg]? = some (.int (5 : Int32))) (Sm : Sta Z Z.heap "crossmarc/reading/Cursor$1" "$SwitchMap$crossmarc$reading$CheckedEncoding" "[I" (.ref wm)) (Am : Arr Z Z.heap wm clm .int) :
    MetFree l x (head1 (Jvm.Cond.code x code maxLocals ret :: ws) room_1) (fun a U => a = #[(.int p0), (.int p1), (.int p2), (.int p3)] ∧ Z.Warmed39 U.vm ∧ U.heap = h0) (fun _ _ _ _ _ => True) (fun _ U o U' => ∃ v L, o = .returned v ∧ (own_Q_own_rm0 Z p0 p1 p2 p3 h0 n0) v U'.heap L ∧ FrameEnd U o U' L room_1.cells room_1.slots) := by
  refine MetFree.of_bodySF (plainFor_of_name own_pn3) hisR ?_
  intro p e s m args below meth c s₁ Bd hml0 hP hK
  obtain ⟨rfl, hZ, hh⟩ := hP
  have hx := Bd.exec
  have hby := Bd.bytes
  have hml : c.maxLocals = 14 := hml0
  have hown : s.vm.findClass "crossmarc/reading/CursorPassAsciiTextPinLaw" = some m.cls := findClass_of_methodNamed Bd.named
  have hnm := (name_of_methodNamed Bd.named Bd.method).1
  have hlk : meth.locks = false := BodyLoose.notSynchronized Bd
  have X0 : Stand p l e room_1 s m #[(.int p0), (.int p1), (.int p2), (.int p3)] below meth c s₁ [] 0 0 := Stand.of_body Bd
  have e0 : s₁.heap = h0 := by rw [← hh, Bd.state]; rfl
  have N0 := Fr.nil n0
  show own_Ends p e below s (own_Q_own_rm0 Z p0 p1 p2 p3 h0 n0) room_1.cells room_1.slots _
  refine own_by (V := s₁.setTop (mkF m 0 #[.val (.int p0), .val (.int p1), .val (.int p2), .val (.int p3), .unset, .unset, .unset, .unset, .unset, .unset, .unset, .unset, .unset, .unset] [])) (fun t k => castTop (own_ef_own_rm0 m p0 p1 p2 p3) k) ?_
  refine own_by (V := s₁.setTop (mkF m 1 #[.val (.int p0), .val (.int p1), .val (.int p2), .val (.int p3), .unset, .unset, .unset, .unset, .unset, .unset, .unset, .unset, .unset, .unset] [(.int p0)])) (fun t k => XS.iloadN X0.here hx rfl (hb hby at_0) rfl  k) ?_
  refine own_by (V := s₁.setTop (mkF m 3 #[.val (.int p0), .val (.int p1), .val (.int p2), .val (.int p3), .unset, .unset, .unset, .unset, .unset, .unset, .unset, .unset, .unset, .unset] [(.int (2147483647 : Int32)), (.int p0)])) (Jvm.Stand.ldcInt X0 hx hown (mvT hZ (hw _ (List.mem_of_getElem? (i := 0) rfl))) (g := (mkF m 1 #[.val (.int p0), .val (.int p1), .val (.int p2), .val (.int p3), .unset, .unset, .unset, .unset, .unset, .unset, .unset, .unset, .unset, .unset] [(.int p0)])) rfl (hb hby at_1)) ?_
  refine own_by (V := s₁.setTop (mkF m 4 #[.val (.int p0), .val (.int p1), .val (.int p2), .val (.int p3), .unset, .unset, .unset, .unset, .unset, .unset, .unset, .unset, .unset, .unset] [(.int (p0 &&& (2147483647 : Int32)))])) (fun t k => XS.iand X0.here hx rfl (hb hby at_3) rfl k) ?_
  refine own_by (V := s₁.setTop (mkF m 5 #[.val (.int p0), .val (.int p1), .val (.int p2), .val (.int p3), .unset, .unset, .unset, .unset, .unset, .unset, .unset, .unset, .unset, .unset] [(.int (3 : Int32)), (.int (p0 &&& (2147483647 : Int32)))])) (fun t k => XS.iconst X0.here hx rfl (hb hby at_4) k) ?_
  refine own_by (V := s₁.setTop (mkF m 6 #[.val (.int p0), .val (.int p1), .val (.int p2), .val (.int p3), .unset, .unset, .unset, .unset, .unset, .unset, .unset, .unset, .unset, .unset] [(.int ((p0 &&& (2147483647 : Int32)) % (3 : Int32)))])) (fun t k => iremM X0 hx rfl (hb hby at_5) rfl (by decide) k) ?_
  obtain ⟨z1, hz1⟩ : ∃ z : Int32, z = ((p0 &&& (2147483647 : Int32)) % (3 : Int32)) := ⟨_, rfl⟩
  rw [← hz1]
  refine own_by (V := s₁.setTop (mkF m 8 #[.val (.int p0), .val (.int p1), .val (.int p2), .val (.int p3), .val (.int z1), .unset, .unset, .unset, .unset, .unset, .unset, .unset, .unset, .unset] [])) (fun t k => XS.istore X0.here hx rfl (hb hby at_6) rfl (l' := #[.val (.int p0), .val (.int p1), .val (.int p2), .val (.int p3), .val (.int z1), .unset, .unset, .unset, .unset, .unset, .unset, .unset, .unset, .unset]) rfl k) ?_
  refine own_by (V := s₁.setTop (mkF m 10 #[.val (.int p0), .val (.int p1), .val (.int p2), .val (.int p3), .val (.int z1), .unset, .unset, .unset, .unset, .unset, .unset, .unset, .unset, .unset] [(.int z1)])) (fun t k => XS.iload X0.here hx rfl (hb hby at_8) rfl  k) ?_
  have J2 : ∀ (T2 : State) (l2 : List Loc) (we : Addr) (od : Int32) (sw : Int32) (X2 : Stand p l e room_1 s m #[(.int p0), (.int p1), (.int p2), (.int p3)] below meth c T2 l2 0 0) (e2 : T2.heap = h0) (N2 : Fr n0 l2) (Ee : Exa Z Z.heap we "crossmarc/reading/CheckedEncoding") (Fe : Fld Z Z.heap we "java/lang/Enum" "ordinal" "I" (.int od)) (hm : ¬ (od < 0 ∨ clm.slots.size ≤ od.toNatClampNeg) ∧ clm.slots[od.toNatClampNeg]? = some (.int sw)) (hsw : sw = 3 ∨ sw = 4 ∨ sw = 5), own_Ends p e below s (own_Q_own_rm0 Z p0 p1 p2 p3 h0 n0) room_1.cells room_1.slots (T2.setTop (mkF m 34 #[.val (.int p0), .val (.int p1), .val (.int p2), .val (.int p3), .val (.int z1), .unset, .unset, .unset, .unset, .unset, .unset, .unset, .unset, .unset] [(.ref we)])) := by
    intro T2 l2 we od sw X2 e2 N2 Ee Fe hm hsw
    refine own_by (V := T2.setTop (mkF m 36 #[.val (.int p0), .val (.int p1), .val (.int p2), .val (.int p3), .val (.int z1), .val (.ref we), .unset, .unset, .unset, .unset, .unset, .unset, .unset, .unset] [])) (fun t k => XS.astore X2.here hx rfl (hb hby at_34) rfl rfl (l' := #[.val (.int p0), .val (.int p1), .val (.int p2), .val (.int p3), .val (.int z1), .val (.ref we), .unset, .unset, .unset, .unset, .unset, .unset, .unset, .unset]) rfl k) ?_
    refine own_by (V := T2.setTop (mkF m 37 #[.val (.int p0), .val (.int p1), .val (.int p2), .val (.int p3), .val (.int z1), .val (.ref we), .unset, .unset, .unset, .unset, .unset, .unset, .unset, .unset] [(.int p1)])) (fun t k => XS.iloadN X2.here hx rfl (hb hby at_36) rfl  k) ?_
    refine own_by (V := T2.setTop (mkF m 38 #[.val (.int p0), .val (.int p1), .val (.int p2), .val (.int p3), .val (.int z1), .val (.ref we), .unset, .unset, .unset, .unset, .unset, .unset, .unset, .unset] [(.int (1 : Int32)), (.int p1)])) (fun t k => XS.iconst X2.here hx rfl (hb hby at_37) k) ?_
    refine own_by (V := T2.setTop (mkF m 39 #[.val (.int p0), .val (.int p1), .val (.int p2), .val (.int p3), .val (.int z1), .val (.ref we), .unset, .unset, .unset, .unset, .unset, .unset, .unset, .unset] [(.int (p1 &&& (1 : Int32)))])) (fun t k => XS.iand X2.here hx rfl (hb hby at_38) rfl k) ?_
    by_cases hb39_3 : (p1 &&& (1 : Int32)) = (0 : Int32)
    · refine own_by (V := T2.setTop (mkF m 46 #[.val (.int p0), .val (.int p1), .val (.int p2), .val (.int p3), .val (.int z1), .val (.ref we), .unset, .unset, .unset, .unset, .unset, .unset, .unset, .unset] [])) (fun t k => XS.ifYes X2.here hx rfl (pc0 := 39) (pc' := 46) rfl (hb hby at_39) rfl ((if0 _ _).trans (teq hb39_3).1) (by decide) (by decide) k) ?_
      refine own_by (V := T2.setTop (mkF m 47 #[.val (.int p0), .val (.int p1), .val (.int p2), .val (.int p3), .val (.int z1), .val (.ref we), .unset, .unset, .unset, .unset, .unset, .unset, .unset, .unset] [(.int (0 : Int32))])) (fun t k => XS.iconst X2.here hx rfl (hb hby at_46) k) ?_
      refine own_by (V := T2.setTop (mkF m 49 #[.val (.int p0), .val (.int p1), .val (.int p2), .val (.int p3), .val (.int z1), .val (.ref we), .val (.int (0 : Int32)), .unset, .unset, .unset, .unset, .unset, .unset, .unset] [])) (fun t k => XS.istore X2.here hx rfl (hb hby at_47) rfl (l' := #[.val (.int p0), .val (.int p1), .val (.int p2), .val (.int p3), .val (.int z1), .val (.ref we), .val (.int (0 : Int32)), .unset, .unset, .unset, .unset, .unset, .unset, .unset]) rfl k) ?_
      refine own_by (V := T2.setTop (mkF m 51 #[.val (.int p0), .val (.int p1), .val (.int p2), .val (.int p3), .val (.int z1), .val (.ref we), .val (.int (0 : Int32)), .unset, .unset, .unset, .unset, .unset, .unset, .unset] [(.int (0 : Int32))])) (fun t k => XS.iload X2.here hx rfl (hb hby at_49) rfl  k) ?_
      have hb51_4 : ((0 : Int32) = (0 : Int32)) := by decide
      refine own_by (V := T2.setTop (mkF m 59 #[.val (.int p0), .val (.int p1), .val (.int p2), .val (.int p3), .val (.int z1), .val (.ref we), .val (.int (0 : Int32)), .unset, .unset, .unset, .unset, .unset, .unset, .unset] [])) (fun t k => XS.ifYes X2.here hx rfl (pc0 := 51) (pc' := 59) rfl (hb hby at_51) rfl ((if0 _ _).trans (teq hb51_4).1) (by decide) (by decide) k) ?_
      refine own_by (V := T2.setTop (mkF m 61 #[.val (.int p0), .val (.int p1), .val (.int p2), .val (.int p3), .val (.int z1), .val (.ref we), .val (.int (0 : Int32)), .unset, .unset, .unset, .unset, .unset, .unset, .unset] [(.int (14 : Int32))])) (fun t k => XS.bipush X2.here hx rfl (hb hby at_59) k) ?_
      refine own_by (V := T2.setTop (mkF m 62 #[.val (.int p0), .val (.int p1), .val (.int p2), .val (.int p3), .val (.int z1), .val (.ref we), .val (.int (0 : Int32)), .unset, .unset, .unset, .unset, .unset, .unset, .unset] [(.int p2), (.int (14 : Int32))])) (fun t k => XS.iloadN X2.here hx rfl (hb hby at_61) rfl  k) ?_
      refine own_by (V := T2.setTop (mkF m 64 #[.val (.int p0), .val (.int p1), .val (.int p2), .val (.int p3), .val (.int z1), .val (.ref we), .val (.int (0 : Int32)), .unset, .unset, .unset, .unset, .unset, .unset, .unset] [(.int (2147483647 : Int32)), (.int p2), (.int (14 : Int32))])) (Jvm.Stand.ldcInt X2 hx hown (mvT hZ (hw _ (List.mem_of_getElem? (i := 0) rfl))) (g := (mkF m 62 #[.val (.int p0), .val (.int p1), .val (.int p2), .val (.int p3), .val (.int z1), .val (.ref we), .val (.int (0 : Int32)), .unset, .unset, .unset, .unset, .unset, .unset, .unset] [(.int p2), (.int (14 : Int32))])) rfl (hb hby at_62)) ?_
      refine own_by (V := T2.setTop (mkF m 65 #[.val (.int p0), .val (.int p1), .val (.int p2), .val (.int p3), .val (.int z1), .val (.ref we), .val (.int (0 : Int32)), .unset, .unset, .unset, .unset, .unset, .unset, .unset] [(.int (p2 &&& (2147483647 : Int32))), (.int (14 : Int32))])) (fun t k => XS.iand X2.here hx rfl (hb hby at_64) rfl k) ?_
      refine own_by (V := T2.setTop (mkF m 67 #[.val (.int p0), .val (.int p1), .val (.int p2), .val (.int p3), .val (.int z1), .val (.ref we), .val (.int (0 : Int32)), .unset, .unset, .unset, .unset, .unset, .unset, .unset] [(.int (114 : Int32)), (.int (p2 &&& (2147483647 : Int32))), (.int (14 : Int32))])) (fun t k => XS.bipush X2.here hx rfl (hb hby at_65) k) ?_
      refine own_by (V := T2.setTop (mkF m 68 #[.val (.int p0), .val (.int p1), .val (.int p2), .val (.int p3), .val (.int z1), .val (.ref we), .val (.int (0 : Int32)), .unset, .unset, .unset, .unset, .unset, .unset, .unset] [(.int ((p2 &&& (2147483647 : Int32)) % (114 : Int32))), (.int (14 : Int32))])) (fun t k => iremM X2 hx rfl (hb hby at_67) rfl (by decide) k) ?_
      refine own_by (V := T2.setTop (mkF m 69 #[.val (.int p0), .val (.int p1), .val (.int p2), .val (.int p3), .val (.int z1), .val (.ref we), .val (.int (0 : Int32)), .unset, .unset, .unset, .unset, .unset, .unset, .unset] [(.int ((14 : Int32) + ((p2 &&& (2147483647 : Int32)) % (114 : Int32))))])) (fun t k => XS.iadd X2.here hx rfl (hb hby at_68) rfl k) ?_
      obtain ⟨z5, hz5⟩ : ∃ z : Int32, z = ((14 : Int32) + ((p2 &&& (2147483647 : Int32)) % (114 : Int32))) := ⟨_, rfl⟩
      rw [← hz5]
      refine own_by (V := T2.setTop (mkF m 71 #[.val (.int p0), .val (.int p1), .val (.int p2), .val (.int p3), .val (.int z1), .val (.ref we), .val (.int (0 : Int32)), .val (.int z5), .unset, .unset, .unset, .unset, .unset, .unset] [])) (fun t k => XS.istore X2.here hx rfl (hb hby at_69) rfl (l' := #[.val (.int p0), .val (.int p1), .val (.int p2), .val (.int p3), .val (.int z1), .val (.ref we), .val (.int (0 : Int32)), .val (.int z5), .unset, .unset, .unset, .unset, .unset, .unset]) rfl k) ?_
      refine own_by (V := T2.setTop (mkF m 72 #[.val (.int p0), .val (.int p1), .val (.int p2), .val (.int p3), .val (.int z1), .val (.ref we), .val (.int (0 : Int32)), .val (.int z5), .unset, .unset, .unset, .unset, .unset, .unset] [(.int p3)])) (fun t k => XS.iloadN X2.here hx rfl (hb hby at_71) rfl  k) ?_
      refine own_by (V := T2.setTop (mkF m 74 #[.val (.int p0), .val (.int p1), .val (.int p2), .val (.int p3), .val (.int z1), .val (.ref we), .val (.int (0 : Int32)), .val (.int z5), .unset, .unset, .unset, .unset, .unset, .unset] [(.int (1073741823 : Int32)), (.int p3)])) (Jvm.Stand.ldcInt X2 hx hown (mvT hZ (hw _ (List.mem_of_getElem? (i := 4) rfl))) (g := (mkF m 72 #[.val (.int p0), .val (.int p1), .val (.int p2), .val (.int p3), .val (.int z1), .val (.ref we), .val (.int (0 : Int32)), .val (.int z5), .unset, .unset, .unset, .unset, .unset, .unset] [(.int p3)])) rfl (hb hby at_72)) ?_
      refine own_by (V := T2.setTop (mkF m 75 #[.val (.int p0), .val (.int p1), .val (.int p2), .val (.int p3), .val (.int z1), .val (.ref we), .val (.int (0 : Int32)), .val (.int z5), .unset, .unset, .unset, .unset, .unset, .unset] [(.int (p3 &&& (1073741823 : Int32)))])) (fun t k => XS.iand X2.here hx rfl (hb hby at_74) rfl k) ?_
      obtain ⟨z6, hz6⟩ : ∃ z : Int32, z = (p3 &&& (1073741823 : Int32)) := ⟨_, rfl⟩
      rw [← hz6]
      refine own_by (V := T2.setTop (mkF m 77 #[.val (.int p0), .val (.int p1), .val (.int p2), .val (.int p3), .val (.int z1), .val (.ref we), .val (.int (0 : Int32)), .val (.int z5), .val (.int z6), .unset, .unset, .unset, .unset, .unset] [])) (fun t k => XS.istore X2.here hx rfl (hb hby at_75) rfl (l' := #[.val (.int p0), .val (.int p1), .val (.int p2), .val (.int p3), .val (.int z1), .val (.ref we), .val (.int (0 : Int32)), .val (.int z5), .val (.int z6), .unset, .unset, .unset, .unset, .unset]) rfl k) ?_
      obtain ⟨T7, h7, X7, e7, E7, A7, D7, -, st7⟩ := newO X2 hx hZ hown (hw _ (List.mem_of_getElem? (i := 5) rfl)) (hw _ (List.mem_of_getElem? (i := 6) rfl)) (hw _ (List.mem_of_getElem? (i := 7) rfl)) e2 (g := (mkF m 77 #[.val (.int p0), .val (.int p1), .val (.int p2), .val (.int p3), .val (.int z1), .val (.ref we), .val (.int (0 : Int32)), .val (.int z5), .val (.int z6), .unset, .unset, .unset, .unset, .unset] [])) rfl (hb hby at_77) (by decide) (by decide)
      obtain ⟨b7, g7⟩ : ∃ z, z = h0.size := ⟨_, rfl⟩
      rw [← g7] at A7 D7 st7
      have O7 := O0.ext E7
      have f11 : Fld Z h7 b7 "crossmarc/reading/Cursor" "half" "I" (.int (0 : Int32)) := D7 (Or.inl (hw _ (List.mem_of_getElem? (i := 15) rfl))) (ty := .int) (by decide)
      have f12 : Fld Z h7 b7 "crossmarc/reading/Cursor" "low" "I" (.int (0 : Int32)) := D7 (Or.inl (hw _ (List.mem_of_getElem? (i := 17) rfl))) (ty := .int) (by decide)
      have f13 : Fld Z h7 b7 "crossmarc/reading/Cursor" "high" "I" (.int (0 : Int32)) := D7 (Or.inl (hw _ (List.mem_of_getElem? (i := 19) rfl))) (ty := .int) (by decide)
      have f14 : Fld Z h7 b7 "crossmarc/reading/Cursor" "encoding" "Lcrossmarc/reading/CheckedEncoding;" .null := D7 (Or.inr (hw _ (List.mem_of_getElem? (i := 21) rfl))) (ty := (.object "crossmarc/reading/CheckedEncoding")) (by decide)
      have f15 : Fld Z h7 b7 "crossmarc/reading/Cursor" "line" "I" (.int (0 : Int32)) := D7 (Or.inl (hw _ (List.mem_of_getElem? (i := 23) rfl))) (ty := .int) (by decide)
      have f16 : Fld Z h7 b7 "crossmarc/reading/Cursor" "column" "I" (.int (0 : Int32)) := D7 (Or.inl (hw _ (List.mem_of_getElem? (i := 25) rfl))) (ty := .int) (by decide)
      have f17 : Fld Z h7 b7 "crossmarc/reading/Cursor" "needed" "I" (.int (0 : Int32)) := D7 (Or.inl (hw _ (List.mem_of_getElem? (i := 48) rfl))) (ty := .int) (by decide)
      have f18 : Fld Z h7 b7 "crossmarc/reading/Cursor" "afterCr" "Z" (.int (0 : Int32)) := D7 (Or.inl (hw _ (List.mem_of_getElem? (i := 55) rfl))) (ty := .boolean) (by decide)
      have f19 : Fld Z h7 b7 "crossmarc/reading/Cursor" "position" "J" (.long (0 : Int64)) := D7 (Or.inl (hw _ (List.mem_of_getElem? (i := 57) rfl))) (ty := .long) (by decide)
      have gn7 : n0 ≤ b7 := Nat.le_trans Z0 (Nat.le_of_eq g7.symm)
      have Zs7 : n0 ≤ h7.size := Nat.le_trans Z0 E7.1
      refine own_by (V := T7.setTop (mkF m 80 #[.val (.int p0), .val (.int p1), .val (.int p2), .val (.int p3), .val (.int z1), .val (.ref we), .val (.int (0 : Int32)), .val (.int z5), .val (.int z6), .unset, .unset, .unset, .unset, .unset] [(.ref b7)])) st7 ?_
      refine own_by (V := T7.setTop (mkF m 81 #[.val (.int p0), .val (.int p1), .val (.int p2), .val (.int p3), .val (.int z1), .val (.ref we), .val (.int (0 : Int32)), .val (.int z5), .val (.int z6), .unset, .unset, .unset, .unset, .unset] [(.ref b7), (.ref b7)])) (fun t k => XS.dup X7.here hx rfl (hb hby at_80) rfl rfl k) ?_
      refine own_by (V := T7.setTop (mkF m 83 #[.val (.int p0), .val (.int p1), .val (.int p2), .val (.int p3), .val (.int z1), .val (.ref we), .val (.int (0 : Int32)), .val (.int z5), .val (.int z6), .unset, .unset, .unset, .unset, .unset] [(.ref we), (.ref b7), (.ref b7)])) (fun t k => XS.aload X7.here hx rfl (hb hby at_81) rfl rfl k) ?_
      obtain ⟨_, _, ⟨T20, Lq20, kq20, nq20⟩, -, X20, ⟨Lc20, hQ20, lq20, yq20, zq20⟩, st20⟩ := X7.specialBack hx (y := (⟨"crossmarc/reading/Cursor", "<init>", "(Lcrossmarc/reading/CheckedEncoding;)V"⟩ : MethodName)) rfl hown (mvT hZ (hw _ (List.mem_of_getElem? (i := 8) rfl))) (mvT hZ (hw _ (List.mem_of_getElem? (i := 9) rfl))) (mvT hZ (hw _ (List.mem_of_getElem? (i := 10) rfl))) (by decide) (backOf (W := 1) (own_cinit l Z a0 hw [] b7 we h7 n0 Zs7 gn7 A7 f11 f12 f13 f14 f15 f16 f17 f18 f19) hZ (hw _ (List.mem_of_getElem? (i := 10) rfl)) (hw _ (List.mem_of_getElem? (i := 7) rfl)) (by decide) (by decide)) (g := (mkF m 83 #[.val (.int p0), .val (.int p1), .val (.int p2), .val (.int p3), .val (.int z1), .val (.ref we), .val (.int (0 : Int32)), .val (.int z5), .val (.int z6), .unset, .unset, .unset, .unset, .unset] [(.ref we), (.ref b7), (.ref b7)])) rfl (by rw [hml]; rfl) (Steps.refl _) (a := b7) (argsL := [(.ref we)]) (rest := [(.ref b7)]) (lenOf own_pd4 rfl) rfl (by show 2 * 0 + _ ≤ _; exact Nat.le_of_eq rfl) (hb hby at_83) (fun _ _ => ⟨rfl, e7, (by decide : 1 + 0 ≤ _), (by decide : 9 + 0 ≤ _)⟩)
      dsimp only [Pt.U, Pt.locs, Pt.cells, Pt.slots] at X20 lq20 yq20 zq20 st20 hQ20
      subst lq20 yq20 zq20
      obtain ⟨rfl, N20q, Kc20, Ec20, g20_0, g20_1, g20_2, g20_3, g20_4, g20_5, g20_6, g20_7, g20_8⟩ := hQ20
      have N20 := Fr.app N2 N20q
      have O20 := O7.keep Kc20 (allS gn7 all0)
      have Zs20 : n0 ≤ T20.heap.size := Nat.le_trans Zs7 Kc20.1
      refine own_by (V := T20.setTop (mkF m 86 #[.val (.int p0), .val (.int p1), .val (.int p2), .val (.int p3), .val (.int z1), .val (.ref we), .val (.int (0 : Int32)), .val (.int z5), .val (.int z6), .unset, .unset, .unset, .unset, .unset] [(.ref b7)])) (fun t k => st20.trans k) ?_
      refine own_by (V := T20.setTop (mkF m 88 #[.val (.int p0), .val (.int p1), .val (.int p2), .val (.int p3), .val (.int z1), .val (.ref we), .val (.int (0 : Int32)), .val (.int z5), .val (.int z6), .val (.ref b7), .unset, .unset, .unset, .unset] [])) (fun t k => XS.astore X20.here hx rfl (hb hby at_86) rfl rfl (l' := #[.val (.int p0), .val (.int p1), .val (.int p2), .val (.int p3), .val (.int z1), .val (.ref we), .val (.int (0 : Int32)), .val (.int z5), .val (.int z6), .val (.ref b7), .unset, .unset, .unset, .unset]) rfl k) ?_
      refine own_by (V := T20.setTop (mkF m 90 #[.val (.int p0), .val (.int p1), .val (.int p2), .val (.int p3), .val (.int z1), .val (.ref we), .val (.int (0 : Int32)), .val (.int z5), .val (.int z6), .val (.ref b7), .unset, .unset, .unset, .unset] [(.ref b7)])) (fun t k => XS.aload X20.here hx rfl (hb hby at_88) rfl rfl k) ?_
      refine own_by (V := T20.setTop (mkF m 92 #[.val (.int p0), .val (.int p1), .val (.int p2), .val (.int p3), .val (.int z1), .val (.ref we), .val (.int (0 : Int32)), .val (.int z5), .val (.int z6), .val (.ref b7), .unset, .unset, .unset, .unset] [(.int z5), (.ref b7)])) (fun t k => XS.iload X20.here hx rfl (hb hby at_90) rfl  k) ?_
      obtain ⟨cq22, kq22, q22a, q22b, q22c⟩ := isOf hZ rfl Ec20
      obtain ⟨_, _, ⟨T21, Lq21, kq21, nq21⟩, -, X21, ⟨Lc21, hQ21, lq21, yq21, zq21⟩, st21⟩ := X20.virtualBack hx (y := (⟨"crossmarc/reading/Cursor", "take", "(I)Z"⟩ : MethodName)) (z := (⟨"crossmarc/reading/Cursor", "take", "(I)Z"⟩ : MethodName)) hown (mvT hZ (hw _ (List.mem_of_getElem? (i := 26) rfl))) (mvT hZ (hw _ (List.mem_of_getElem? (i := 27) rfl))) (notFace_of_selects (args := #[]) (mvT hZ (hw _ (List.mem_of_getElem? (i := 29) rfl)))) (mvT hZ (hw _ (List.mem_of_getElem? (i := 29) rfl))) (mvT hZ (hw _ (List.mem_of_getElem? (i := 28) rfl))) (by decide) (backOf (W := 0) (own_take l Z a0 hw [] b7 z5 (-1 : Int32) (128 : Int32) (191 : Int32) (1 : Int32) (1 : Int32) (0 : Int32) (0 : Int64) we wm clm od sw T20.heap n0 Zs20 gn7 Ec20 g20_0 g20_1 g20_2 g20_3 g20_4 g20_5 g20_6 g20_7 g20_8 (by rw [Int32.lt_iff_toInt_lt, hz5]; exact (own_first _).2) (Ee.ext O20.2) (Fe.ext O20.2) (O20.ne Ee.lt gn7) (Sm.ext O20.2) (Am.ext O20.2) hm hsw) hZ (hw _ (List.mem_of_getElem? (i := 30) rfl)) (hw _ (List.mem_of_getElem? (i := 7) rfl)) (by decide) (by decide)) q22a q22c (g := (mkF m 92 #[.val (.int p0), .val (.int p1), .val (.int p2), .val (.int p3), .val (.int z1), .val (.ref we), .val (.int (0 : Int32)), .val (.int z5), .val (.int z6), .val (.ref b7), .unset, .unset, .unset, .unset] [(.int z5), (.ref b7)])) rfl (by rw [hml]; rfl) (Steps.refl _) (argsL := [(.int z5)]) (rest := []) (lenOf own_pd2 rfl) rfl (by show 2 * 0 + _ ≤ _; exact Nat.le_of_eq rfl) (hb hby at_92) (fun _ _ => ⟨rfl, rfl, (by decide : 1 + 0 ≤ _), (by decide : 9 + 0 ≤ _)⟩)
      dsimp only [Pt.U, Pt.locs, Pt.cells, Pt.slots] at X21 lq21 yq21 zq21 st21 hQ21
      subst lq21 yq21 zq21
      obtain ⟨rfl, N21q, Kc21, Ec21, g21_0, g21_1, g21_2, g21_3, g21_4, g21_5, g21_6, g21_7, g21_8⟩ := hQ21
      have N21 := Fr.app N20 N21q
      have O21 := O20.keep Kc21 (allS gn7 all0)
      have Zs21 : n0 ≤ T21.heap.size := Nat.le_trans Zs20 Kc21.1
      refine own_by (V := T21.setTop (mkF m 95 #[.val (.int p0), .val (.int p1), .val (.int p2), .val (.int p3), .val (.int z1), .val (.ref we), .val (.int (0 : Int32)), .val (.int z5), .val (.int z6), .val (.ref b7), .unset, .unset, .unset, .unset] [(.int (1 : Int32))])) (fun t k => st21.trans k) ?_
      have h13_23 : ¬ z5 = 13 := fun q => by have q1 := (own_first p2).1; rw [← hz5, q] at q1; exact absurd q1 (by decide)
      have h10_23 : ¬ z5 = 10 := fun q => by have q1 := (own_first p2).1; rw [← hz5, q] at q1; exact absurd q1 (by decide)
      have q24 : ((1 : Int32) + (own_nl (0 : Int32) z5)) = (1 : Int32) := by rw [own_nl_no h13_23 h10_23]; decide
      rw [q24] at g21_4
      have q25 : (own_nc (1 : Int32) z5) = (2 : Int32) := by rw [own_nc_no h13_23 h10_23]; decide
      rw [q25] at g21_5
      have q26 : (own_pcr z5) = (0 : Int32) := if_neg h13_23
      rw [q26] at g21_7
      have hb95_27 : ¬ ((1 : Int32) = (0 : Int32)) := by decide
      refine own_by (V := T21.setTop (mkF m 100 #[.val (.int p0), .val (.int p1), .val (.int p2), .val (.int p3), .val (.int z1), .val (.ref we), .val (.int (0 : Int32)), .val (.int z5), .val (.int z6), .val (.ref b7), .unset, .unset, .unset, .unset] [])) (fun t k => XS.ifYes X21.here hx rfl (pc0 := 95) (pc' := 100) rfl (hb hby at_95) rfl ((if0 _ _).trans (feq hb95_27).2) (by decide) (by decide) k) ?_
      refine own_by (V := T21.setTop (mkF m 102 #[.val (.int p0), .val (.int p1), .val (.int p2), .val (.int p3), .val (.int z1), .val (.ref we), .val (.int (0 : Int32)), .val (.int z5), .val (.int z6), .val (.ref b7), .unset, .unset, .unset, .unset] [(.int (0 : Int32))])) (fun t k => XS.iload X21.here hx rfl (hb hby at_100) rfl  k) ?_
      have hb102_28 : ((0 : Int32) = (0 : Int32)) := by decide
      refine own_by (V := T21.setTop (mkF m 109 #[.val (.int p0), .val (.int p1), .val (.int p2), .val (.int p3), .val (.int z1), .val (.ref we), .val (.int (0 : Int32)), .val (.int z5), .val (.int z6), .val (.ref b7), .unset, .unset, .unset, .unset] [])) (fun t k => XS.ifYes X21.here hx rfl (pc0 := 102) (pc' := 109) rfl (hb hby at_102) rfl ((if0 _ _).trans (teq hb102_28).1) (by decide) (by decide) k) ?_
      refine own_by (V := T21.setTop (mkF m 110 #[.val (.int p0), .val (.int p1), .val (.int p2), .val (.int p3), .val (.int z1), .val (.ref we), .val (.int (0 : Int32)), .val (.int z5), .val (.int z6), .val (.ref b7), .unset, .unset, .unset, .unset] [(.int (1 : Int32))])) (fun t k => XS.iconst X21.here hx rfl (hb hby at_109) k) ?_
      refine own_by (V := T21.setTop (mkF m 112 #[.val (.int p0), .val (.int p1), .val (.int p2), .val (.int p3), .val (.int z1), .val (.ref we), .val (.int (0 : Int32)), .val (.int z5), .val (.int z6), .val (.ref b7), .val (.int (1 : Int32)), .unset, .unset, .unset] [])) (fun t k => XS.istore X21.here hx rfl (hb hby at_110) rfl (l' := #[.val (.int p0), .val (.int p1), .val (.int p2), .val (.int p3), .val (.int z1), .val (.ref we), .val (.int (0 : Int32)), .val (.int z5), .val (.int z6), .val (.ref b7), .val (.int (1 : Int32)), .unset, .unset, .unset]) rfl k) ?_
      refine own_by (V := T21.setTop (mkF m 114 #[.val (.int p0), .val (.int p1), .val (.int p2), .val (.int p3), .val (.int z1), .val (.ref we), .val (.int (0 : Int32)), .val (.int z5), .val (.int z6), .val (.ref b7), .val (.int (1 : Int32)), .unset, .unset, .unset] [(.int (0 : Int32))])) (fun t k => XS.iload X21.here hx rfl (hb hby at_112) rfl  k) ?_
      have hb114_29 : ((0 : Int32) = (0 : Int32)) := by decide
      refine own_by (V := T21.setTop (mkF m 121 #[.val (.int p0), .val (.int p1), .val (.int p2), .val (.int p3), .val (.int z1), .val (.ref we), .val (.int (0 : Int32)), .val (.int z5), .val (.int z6), .val (.ref b7), .val (.int (1 : Int32)), .unset, .unset, .unset] [])) (fun t k => XS.ifYes X21.here hx rfl (pc0 := 114) (pc' := 121) rfl (hb hby at_114) rfl ((if0 _ _).trans (teq hb114_29).1) (by decide) (by decide) k) ?_
      refine own_by (V := T21.setTop (mkF m 122 #[.val (.int p0), .val (.int p1), .val (.int p2), .val (.int p3), .val (.int z1), .val (.ref we), .val (.int (0 : Int32)), .val (.int z5), .val (.int z6), .val (.ref b7), .val (.int (1 : Int32)), .unset, .unset, .unset] [(.int (2 : Int32))])) (fun t k => XS.iconst X21.here hx rfl (hb hby at_121) k) ?_
      refine own_by (V := T21.setTop (mkF m 124 #[.val (.int p0), .val (.int p1), .val (.int p2), .val (.int p3), .val (.int z1), .val (.ref we), .val (.int (0 : Int32)), .val (.int z5), .val (.int z6), .val (.ref b7), .val (.int (1 : Int32)), .val (.int (2 : Int32)), .unset, .unset] [])) (fun t k => XS.istore X21.here hx rfl (hb hby at_122) rfl (l' := #[.val (.int p0), .val (.int p1), .val (.int p2), .val (.int p3), .val (.int z1), .val (.ref we), .val (.int (0 : Int32)), .val (.int z5), .val (.int z6), .val (.ref b7), .val (.int (1 : Int32)), .val (.int (2 : Int32)), .unset, .unset]) rfl k) ?_
      refine own_by (V := T21.setTop (mkF m 126 #[.val (.int p0), .val (.int p1), .val (.int p2), .val (.int p3), .val (.int z1), .val (.ref we), .val (.int (0 : Int32)), .val (.int z5), .val (.int z6), .val (.ref b7), .val (.int (1 : Int32)), .val (.int (2 : Int32)), .unset, .unset] [(.ref b7)])) (fun t k => XS.aload X21.here hx rfl (hb hby at_124) rfl rfl k) ?_
      refine own_by (V := T21.setTop (mkF m 128 #[.val (.int p0), .val (.int p1), .val (.int p2), .val (.int p3), .val (.int z1), .val (.ref we), .val (.int (0 : Int32)), .val (.int z5), .val (.int z6), .val (.ref b7), .val (.int (1 : Int32)), .val (.int (2 : Int32)), .unset, .unset] [(.int z6), (.ref b7)])) (fun t k => XS.iload X21.here hx rfl (hb hby at_126) rfl  k) ?_
      obtain ⟨cq31, kq31, q31a, q31b, q31c⟩ := isOf hZ rfl Ec21
      obtain ⟨_, _, ⟨T30, Lq30, kq30, nq30⟩, -, X30, ⟨Lc30, hQ30, lq30, yq30, zq30⟩, st30⟩ := X21.virtualBack hx (y := (⟨"crossmarc/reading/Cursor", "passAsciiText", "(I)V"⟩ : MethodName)) (z := (⟨"crossmarc/reading/Cursor", "passAsciiText", "(I)V"⟩ : MethodName)) hown (mvT hZ (hw _ (List.mem_of_getElem? (i := 58) rfl))) (mvT hZ (hw _ (List.mem_of_getElem? (i := 59) rfl))) (notFace_of_selects (args := #[]) (mvT hZ (hw _ (List.mem_of_getElem? (i := 61) rfl)))) (mvT hZ (hw _ (List.mem_of_getElem? (i := 61) rfl))) (mvT hZ (hw _ (List.mem_of_getElem? (i := 60) rfl))) (by decide) (backOf (W := 0) (own_ascii l Z a0 hw [] b7 z6 (-1 : Int32) (128 : Int32) (191 : Int32) (.ref we) (1 : Int32) (2 : Int32) (0 : Int32) (0 : Int32) ((0 : Int64) + (1 : Int64)) T21.heap n0 Zs21 gn7 Ec21 g21_0 g21_1 g21_2 g21_3 g21_4 g21_5 g21_6 g21_7 g21_8) hZ (hw _ (List.mem_of_getElem? (i := 62) rfl)) (hw _ (List.mem_of_getElem? (i := 7) rfl)) (by decide) (by decide)) q31a q31c (g := (mkF m 128 #[.val (.int p0), .val (.int p1), .val (.int p2), .val (.int p3), .val (.int z1), .val (.ref we), .val (.int (0 : Int32)), .val (.int z5), .val (.int z6), .val (.ref b7), .val (.int (1 : Int32)), .val (.int (2 : Int32)), .unset, .unset] [(.int z6), (.ref b7)])) rfl (by rw [hml]; rfl) (Steps.refl _) (argsL := [(.int z6)]) (rest := []) (lenOf own_pd3 rfl) rfl (by show 2 * 0 + _ ≤ _; exact Nat.le_of_eq rfl) (hb hby at_128) (fun _ _ => ⟨rfl, rfl, (by decide : 1 + 0 ≤ _), (by decide : 9 + 0 ≤ _)⟩)
      dsimp only [Pt.U, Pt.locs, Pt.cells, Pt.slots] at X30 lq30 yq30 zq30 st30 hQ30
      subst lq30 yq30 zq30
      obtain ⟨rfl, N30q, Kc30, Ec30, g30_0, g30_1, g30_2, g30_3, g30_4, g30_5, g30_6, g30_7, g30_8⟩ := hQ30
      have N30 := Fr.app N21 N30q
      have O30 := O21.keep Kc30 (allS gn7 all0)
      have Zs30 : n0 ≤ T30.heap.size := Nat.le_trans Zs21 Kc30.1
      refine own_by (V := T30.setTop (mkF m 131 #[.val (.int p0), .val (.int p1), .val (.int p2), .val (.int p3), .val (.int z1), .val (.ref we), .val (.int (0 : Int32)), .val (.int z5), .val (.int z6), .val (.ref b7), .val (.int (1 : Int32)), .val (.int (2 : Int32)), .unset, .unset] [])) (fun t k => st30.trans k) ?_
      refine own_by (V := T30.setTop (mkF m 133 #[.val (.int p0), .val (.int p1), .val (.int p2), .val (.int p3), .val (.int z1), .val (.ref we), .val (.int (0 : Int32)), .val (.int z5), .val (.int z6), .val (.ref b7), .val (.int (1 : Int32)), .val (.int (2 : Int32)), .unset, .unset] [(.ref b7)])) (fun t k => XS.aload X30.here hx rfl (hb hby at_131) rfl rfl k) ?_
      obtain ⟨cq33, kq33, q33a, q33b, q33c⟩ := isOf hZ rfl Ec30
      obtain ⟨_, _, ⟨T32, Lq32, kq32, nq32⟩, -, X32, ⟨Lc32, hQ32, lq32, yq32, zq32⟩, st32⟩ := X30.virtualBack hx (y := (⟨"crossmarc/reading/Cursor", "position", "()J"⟩ : MethodName)) (z := (⟨"crossmarc/reading/Cursor", "position", "()J"⟩ : MethodName)) hown (mvT hZ (hw _ (List.mem_of_getElem? (i := 63) rfl))) (mvT hZ (hw _ (List.mem_of_getElem? (i := 64) rfl))) (notFace_of_selects (args := #[]) (mvT hZ (hw _ (List.mem_of_getElem? (i := 66) rfl)))) (mvT hZ (hw _ (List.mem_of_getElem? (i := 66) rfl))) (mvT hZ (hw _ (List.mem_of_getElem? (i := 65) rfl))) (by decide) (backOf (W := 0) (own_position l Z a0 hw [] b7 (((0 : Int64) + (1 : Int64)) + (z6.toInt64)) T30.heap n0 g30_8) hZ (hw _ (List.mem_of_getElem? (i := 67) rfl)) (hw _ (List.mem_of_getElem? (i := 7) rfl)) (by decide) (by decide)) q33a q33c (g := (mkF m 133 #[.val (.int p0), .val (.int p1), .val (.int p2), .val (.int p3), .val (.int z1), .val (.ref we), .val (.int (0 : Int32)), .val (.int z5), .val (.int z6), .val (.ref b7), .val (.int (1 : Int32)), .val (.int (2 : Int32)), .unset, .unset] [(.ref b7)])) rfl (by rw [hml]; rfl) (Steps.refl _) (argsL := []) (rest := []) (lenOf own_pd5 rfl) rfl (by show 2 * 0 + _ ≤ _; exact Nat.le_of_eq rfl) (hb hby at_133) (fun _ _ => ⟨rfl, rfl, (by decide : 1 + 0 ≤ _), (by decide : 9 + 0 ≤ _)⟩)
      dsimp only [Pt.U, Pt.locs, Pt.cells, Pt.slots] at X32 lq32 yq32 zq32 st32 hQ32
      subst lq32 yq32 zq32
      obtain ⟨rfl, N32q, e32⟩ := hQ32
      have N32 := Fr.app N30 N32q
      refine own_by (V := T32.setTop (mkF m 136 #[.val (.int p0), .val (.int p1), .val (.int p2), .val (.int p3), .val (.int z1), .val (.ref we), .val (.int (0 : Int32)), .val (.int z5), .val (.int z6), .val (.ref b7), .val (.int (1 : Int32)), .val (.int (2 : Int32)), .unset, .unset] [(.long (((0 : Int64) + (1 : Int64)) + (z6.toInt64)))])) (fun t k => st32.trans k) ?_
      refine own_by (V := T32.setTop (mkF m 137 #[.val (.int p0), .val (.int p1), .val (.int p2), .val (.int p3), .val (.int z1), .val (.ref we), .val (.int (0 : Int32)), .val (.int z5), .val (.int z6), .val (.ref b7), .val (.int (1 : Int32)), .val (.int (2 : Int32)), .unset, .unset] [(.long (1 : Int64)), (.long (((0 : Int64) + (1 : Int64)) + (z6.toInt64)))])) (fun t k => XS.lconst X32.here hx rfl (hb hby at_136) k) ?_
      refine own_by (V := T32.setTop (mkF m 139 #[.val (.int p0), .val (.int p1), .val (.int p2), .val (.int p3), .val (.int z1), .val (.ref we), .val (.int (0 : Int32)), .val (.int z5), .val (.int z6), .val (.ref b7), .val (.int (1 : Int32)), .val (.int (2 : Int32)), .unset, .unset] [(.int z6), (.long (1 : Int64)), (.long (((0 : Int64) + (1 : Int64)) + (z6.toInt64)))])) (fun t k => XS.iload X32.here hx rfl (hb hby at_137) rfl  k) ?_
      refine own_by (V := T32.setTop (mkF m 140 #[.val (.int p0), .val (.int p1), .val (.int p2), .val (.int p3), .val (.int z1), .val (.ref we), .val (.int (0 : Int32)), .val (.int z5), .val (.int z6), .val (.ref b7), .val (.int (1 : Int32)), .val (.int (2 : Int32)), .unset, .unset] [(.long (z6.toInt64)), (.long (1 : Int64)), (.long (((0 : Int64) + (1 : Int64)) + (z6.toInt64)))])) (fun t k => XS.i2l X32.here hx rfl (hb hby at_139) rfl k) ?_
      refine own_by (V := T32.setTop (mkF m 141 #[.val (.int p0), .val (.int p1), .val (.int p2), .val (.int p3), .val (.int z1), .val (.ref we), .val (.int (0 : Int32)), .val (.int z5), .val (.int z6), .val (.ref b7), .val (.int (1 : Int32)), .val (.int (2 : Int32)), .unset, .unset] [(.long ((1 : Int64) + (z6.toInt64))), (.long (((0 : Int64) + (1 : Int64)) + (z6.toInt64)))])) (fun t k => XS.ladd X32.here hx rfl (hb hby at_140) rfl k) ?_
      refine own_by (V := T32.setTop (mkF m 142 #[.val (.int p0), .val (.int p1), .val (.int p2), .val (.int p3), .val (.int z1), .val (.ref we), .val (.int (0 : Int32)), .val (.int z5), .val (.int z6), .val (.ref b7), .val (.int (1 : Int32)), .val (.int (2 : Int32)), .unset, .unset] [(.int (lcmpW (((0 : Int64) + (1 : Int64)) + (z6.toInt64)) ((1 : Int64) + (z6.toInt64))))])) (fun t k => XS.lcmp X32.here hx rfl (hb hby at_141) rfl k) ?_
      have hb142_34 : ((lcmpW (((0 : Int64) + (1 : Int64)) + (z6.toInt64)) ((1 : Int64) + (z6.toInt64))) = (0 : Int32)) := (lw_eq _ _).mpr (by rw [Int64.zero_add])
      refine own_by (V := T32.setTop (mkF m 145 #[.val (.int p0), .val (.int p1), .val (.int p2), .val (.int p3), .val (.int z1), .val (.ref we), .val (.int (0 : Int32)), .val (.int z5), .val (.int z6), .val (.ref b7), .val (.int (1 : Int32)), .val (.int (2 : Int32)), .unset, .unset] [])) (fun t k => XS.ifNo X32.here hx rfl (hb hby at_142) rfl ((if0 _ _).trans (teq hb142_34).2) k) ?_
      refine own_by (V := T32.setTop (mkF m 147 #[.val (.int p0), .val (.int p1), .val (.int p2), .val (.int p3), .val (.int z1), .val (.ref we), .val (.int (0 : Int32)), .val (.int z5), .val (.int z6), .val (.ref b7), .val (.int (1 : Int32)), .val (.int (2 : Int32)), .unset, .unset] [(.ref b7)])) (fun t k => XS.aload X32.here hx rfl (hb hby at_145) rfl rfl k) ?_
      obtain ⟨cq36, kq36, q36a, q36b, q36c⟩ := isOf hZ e32 Ec30
      obtain ⟨_, _, ⟨T35, Lq35, kq35, nq35⟩, -, X35, ⟨Lc35, hQ35, lq35, yq35, zq35⟩, st35⟩ := X32.virtualBack hx (y := (⟨"crossmarc/reading/Cursor", "line", "()I"⟩ : MethodName)) (z := (⟨"crossmarc/reading/Cursor", "line", "()I"⟩ : MethodName)) hown (mvT hZ (hw _ (List.mem_of_getElem? (i := 68) rfl))) (mvT hZ (hw _ (List.mem_of_getElem? (i := 69) rfl))) (notFace_of_selects (args := #[]) (mvT hZ (hw _ (List.mem_of_getElem? (i := 71) rfl)))) (mvT hZ (hw _ (List.mem_of_getElem? (i := 71) rfl))) (mvT hZ (hw _ (List.mem_of_getElem? (i := 70) rfl))) (by decide) (backOf (W := 0) (own_line l Z a0 hw [] b7 (1 : Int32) T30.heap n0 g30_4) hZ (hw _ (List.mem_of_getElem? (i := 72) rfl)) (hw _ (List.mem_of_getElem? (i := 7) rfl)) (by decide) (by decide)) q36a q36c (g := (mkF m 147 #[.val (.int p0), .val (.int p1), .val (.int p2), .val (.int p3), .val (.int z1), .val (.ref we), .val (.int (0 : Int32)), .val (.int z5), .val (.int z6), .val (.ref b7), .val (.int (1 : Int32)), .val (.int (2 : Int32)), .unset, .unset] [(.ref b7)])) rfl (by rw [hml]; rfl) (Steps.refl _) (argsL := []) (rest := []) (lenOf own_pd1 rfl) rfl (by show 2 * 0 + _ ≤ _; exact Nat.le_of_eq rfl) (hb hby at_147) (fun _ _ => ⟨rfl, e32, (by decide : 1 + 0 ≤ _), (by decide : 9 + 0 ≤ _)⟩)
      dsimp only [Pt.U, Pt.locs, Pt.cells, Pt.slots] at X35 lq35 yq35 zq35 st35 hQ35
      subst lq35 yq35 zq35
      obtain ⟨rfl, N35q, e35⟩ := hQ35
      have N35 := Fr.app N32 N35q
      refine own_by (V := T35.setTop (mkF m 150 #[.val (.int p0), .val (.int p1), .val (.int p2), .val (.int p3), .val (.int z1), .val (.ref we), .val (.int (0 : Int32)), .val (.int z5), .val (.int z6), .val (.ref b7), .val (.int (1 : Int32)), .val (.int (2 : Int32)), .unset, .unset] [(.int (1 : Int32))])) (fun t k => st35.trans k) ?_
      refine own_by (V := T35.setTop (mkF m 152 #[.val (.int p0), .val (.int p1), .val (.int p2), .val (.int p3), .val (.int z1), .val (.ref we), .val (.int (0 : Int32)), .val (.int z5), .val (.int z6), .val (.ref b7), .val (.int (1 : Int32)), .val (.int (2 : Int32)), .unset, .unset] [(.int (1 : Int32)), (.int (1 : Int32))])) (fun t k => XS.iload X35.here hx rfl (hb hby at_150) rfl  k) ?_
      have hb152_37 : ((1 : Int32) = (1 : Int32)) := rfl
      refine own_by (V := T35.setTop (mkF m 155 #[.val (.int p0), .val (.int p1), .val (.int p2), .val (.int p3), .val (.int z1), .val (.ref we), .val (.int (0 : Int32)), .val (.int z5), .val (.int z6), .val (.ref b7), .val (.int (1 : Int32)), .val (.int (2 : Int32)), .unset, .unset] [])) (fun t k => XS.icmpNo X35.here hx rfl (hb hby at_152) rfl (teq hb152_37).2 k) ?_
      refine own_by (V := T35.setTop (mkF m 157 #[.val (.int p0), .val (.int p1), .val (.int p2), .val (.int p3), .val (.int z1), .val (.ref we), .val (.int (0 : Int32)), .val (.int z5), .val (.int z6), .val (.ref b7), .val (.int (1 : Int32)), .val (.int (2 : Int32)), .unset, .unset] [(.ref b7)])) (fun t k => XS.aload X35.here hx rfl (hb hby at_155) rfl rfl k) ?_
      refine own_by (V := T35.setTop (mkF m 159 #[.val (.int p0), .val (.int p1), .val (.int p2), .val (.int p3), .val (.int z1), .val (.ref we), .val (.int (0 : Int32)), .val (.int z5), .val (.int z6), .val (.ref b7), .val (.int (1 : Int32)), .val (.int (2 : Int32)), .unset, .unset] [(.int (1 : Int32)), (.ref b7)])) (fun t k => XS.iload X35.here hx rfl (hb hby at_157) rfl  k) ?_
      refine own_by (V := T35.setTop (mkF m 161 #[.val (.int p0), .val (.int p1), .val (.int p2), .val (.int p3), .val (.int z1), .val (.ref we), .val (.int (0 : Int32)), .val (.int z5), .val (.int z6), .val (.ref b7), .val (.int (1 : Int32)), .val (.int (2 : Int32)), .unset, .unset] [(.int (2 : Int32)), (.int (1 : Int32)), (.ref b7)])) (fun t k => XS.iload X35.here hx rfl (hb hby at_159) rfl  k) ?_
      refine own_by (V := T35.setTop (mkF m 163 #[.val (.int p0), .val (.int p1), .val (.int p2), .val (.int p3), .val (.int z1), .val (.ref we), .val (.int (0 : Int32)), .val (.int z5), .val (.int z6), .val (.ref b7), .val (.int (1 : Int32)), .val (.int (2 : Int32)), .unset, .unset] [(.int z6), (.int (2 : Int32)), (.int (1 : Int32)), (.ref b7)])) (fun t k => XS.iload X35.here hx rfl (hb hby at_161) rfl  k) ?_
      refine own_by (V := T35.setTop (mkF m 164 #[.val (.int p0), .val (.int p1), .val (.int p2), .val (.int p3), .val (.int z1), .val (.ref we), .val (.int (0 : Int32)), .val (.int z5), .val (.int z6), .val (.ref b7), .val (.int (1 : Int32)), .val (.int (2 : Int32)), .unset, .unset] [(.int ((2 : Int32) + z6)), (.int (1 : Int32)), (.ref b7)])) (fun t k => XS.iadd X35.here hx rfl (hb hby at_163) rfl k) ?_
      obtain ⟨cq39, kq39, q39a, q39b, q39c⟩ := isOf hZ e35 Ec30
      obtain ⟨_, _, ⟨T38, Lq38, kq38, nq38⟩, -, X38, ⟨Lc38, hQ38, lq38, yq38, zq38⟩, st38⟩ := X35.virtualBack hx (y := (⟨"crossmarc/reading/Cursor", "compareTo", "(II)I"⟩ : MethodName)) (z := (⟨"crossmarc/reading/Cursor", "compareTo", "(II)I"⟩ : MethodName)) hown (mvT hZ (hw _ (List.mem_of_getElem? (i := 73) rfl))) (mvT hZ (hw _ (List.mem_of_getElem? (i := 74) rfl))) (notFace_of_selects (args := #[]) (mvT hZ (hw _ (List.mem_of_getElem? (i := 76) rfl)))) (mvT hZ (hw _ (List.mem_of_getElem? (i := 76) rfl))) (mvT hZ (hw _ (List.mem_of_getElem? (i := 75) rfl))) (by decide) (backOf (W := 0) (own_compareTo l Z a0 hw [] b7 (1 : Int32) ((2 : Int32) + z6) (1 : Int32) ((2 : Int32) + z6) T30.heap n0 g30_4 g30_5) hZ (hw _ (List.mem_of_getElem? (i := 77) rfl)) (hw _ (List.mem_of_getElem? (i := 7) rfl)) (by decide) (by decide)) q39a q39c (g := (mkF m 164 #[.val (.int p0), .val (.int p1), .val (.int p2), .val (.int p3), .val (.int z1), .val (.ref we), .val (.int (0 : Int32)), .val (.int z5), .val (.int z6), .val (.ref b7), .val (.int (1 : Int32)), .val (.int (2 : Int32)), .unset, .unset] [(.int ((2 : Int32) + z6)), (.int (1 : Int32)), (.ref b7)])) rfl (by rw [hml]; rfl) (Steps.refl _) (argsL := [(.int (1 : Int32)), (.int ((2 : Int32) + z6))]) (rest := []) (lenOf own_pd0 rfl) rfl (by show 2 * 0 + _ ≤ _; exact Nat.le_of_eq rfl) (hb hby at_164) (fun _ _ => ⟨rfl, e35, (by decide : 1 + 0 ≤ _), (by decide : 9 + 0 ≤ _)⟩)
      dsimp only [Pt.U, Pt.locs, Pt.cells, Pt.slots] at X38 lq38 yq38 zq38 st38 hQ38
      subst lq38 yq38 zq38
      obtain ⟨rfl, N38q, e38⟩ := hQ38
      have N38 := Fr.app N35 N38q
      refine own_by (V := T38.setTop (mkF m 167 #[.val (.int p0), .val (.int p1), .val (.int p2), .val (.int p3), .val (.int z1), .val (.ref we), .val (.int (0 : Int32)), .val (.int z5), .val (.int z6), .val (.ref b7), .val (.int (1 : Int32)), .val (.int (2 : Int32)), .unset, .unset] [(.int (own_cmp2 (1 : Int32) ((2 : Int32) + z6) (1 : Int32) ((2 : Int32) + z6)))])) (fun t k => st38.trans k) ?_
      have hb167_40 : ((own_cmp2 (1 : Int32) ((2 : Int32) + z6) (1 : Int32) ((2 : Int32) + z6)) = (0 : Int32)) := own_cmp2_self _ _
      refine own_by (V := T38.setTop (mkF m 170 #[.val (.int p0), .val (.int p1), .val (.int p2), .val (.int p3), .val (.int z1), .val (.ref we), .val (.int (0 : Int32)), .val (.int z5), .val (.int z6), .val (.ref b7), .val (.int (1 : Int32)), .val (.int (2 : Int32)), .unset, .unset] [])) (fun t k => XS.ifNo X38.here hx rfl (hb hby at_167) rfl ((if0 _ _).trans (teq hb167_40).2) k) ?_
      refine own_by (V := T38.setTop (mkF m 171 #[.val (.int p0), .val (.int p1), .val (.int p2), .val (.int p3), .val (.int z1), .val (.ref we), .val (.int (0 : Int32)), .val (.int z5), .val (.int z6), .val (.ref b7), .val (.int (1 : Int32)), .val (.int (2 : Int32)), .unset, .unset] [(.int (1 : Int32))])) (fun t k => XS.iconst X38.here hx rfl (hb hby at_170) k) ?_
      refine own_by (V := T38.setTop (mkF m 175 #[.val (.int p0), .val (.int p1), .val (.int p2), .val (.int p3), .val (.int z1), .val (.ref we), .val (.int (0 : Int32)), .val (.int z5), .val (.int z6), .val (.ref b7), .val (.int (1 : Int32)), .val (.int (2 : Int32)), .unset, .unset] [(.int (1 : Int32))])) (fun t k => XS.goto X38.here hx rfl (pc0 := 171) (pc' := 175) rfl (hb hby at_171) (by decide) (by decide) k) ?_
      refine own_by (V := T38.setTop (mkF m 177 #[.val (.int p0), .val (.int p1), .val (.int p2), .val (.int p3), .val (.int z1), .val (.ref we), .val (.int (0 : Int32)), .val (.int z5), .val (.int z6), .val (.ref b7), .val (.int (1 : Int32)), .val (.int (2 : Int32)), .val (.int (1 : Int32)), .unset] [])) (fun t k => XS.istore X38.here hx rfl (hb hby at_175) rfl (l' := #[.val (.int p0), .val (.int p1), .val (.int p2), .val (.int p3), .val (.int z1), .val (.ref we), .val (.int (0 : Int32)), .val (.int z5), .val (.int z6), .val (.ref b7), .val (.int (1 : Int32)), .val (.int (2 : Int32)), .val (.int (1 : Int32)), .unset]) rfl k) ?_
      refine own_by (V := T38.setTop (mkF m 179 #[.val (.int p0), .val (.int p1), .val (.int p2), .val (.int p3), .val (.int z1), .val (.ref we), .val (.int (0 : Int32)), .val (.int z5), .val (.int z6), .val (.ref b7), .val (.int (1 : Int32)), .val (.int (2 : Int32)), .val (.int (1 : Int32)), .unset] [(.ref b7)])) (fun t k => XS.aload X38.here hx rfl (hb hby at_177) rfl rfl k) ?_
      refine own_by (V := T38.setTop (mkF m 181 #[.val (.int p0), .val (.int p1), .val (.int p2), .val (.int p3), .val (.int z1), .val (.ref we), .val (.int (0 : Int32)), .val (.int z5), .val (.int z6), .val (.ref b7), .val (.int (1 : Int32)), .val (.int (2 : Int32)), .val (.int (1 : Int32)), .unset] [(.int (10 : Int32)), (.ref b7)])) (fun t k => XS.bipush X38.here hx rfl (hb hby at_179) k) ?_
      obtain ⟨cq42, kq42, q42a, q42b, q42c⟩ := isOf hZ e38 Ec30
      obtain ⟨_, _, ⟨T41, Lq41, kq41, nq41⟩, -, X41, ⟨Lc41, hQ41, lq41, yq41, zq41⟩, st41⟩ := X38.virtualBack hx (y := (⟨"crossmarc/reading/Cursor", "pass", "(I)V"⟩ : MethodName)) (z := (⟨"crossmarc/reading/Cursor", "pass", "(I)V"⟩ : MethodName)) hown (mvT hZ (hw _ (List.mem_of_getElem? (i := 82) rfl))) (mvT hZ (hw _ (List.mem_of_getElem? (i := 50) rfl))) (notFace_of_selects (args := #[]) (mvT hZ (hw _ (List.mem_of_getElem? (i := 52) rfl)))) (mvT hZ (hw _ (List.mem_of_getElem? (i := 52) rfl))) (mvT hZ (hw _ (List.mem_of_getElem? (i := 51) rfl))) (by decide) (backOf (W := 0) (own_pass l Z a0 hw [] b7 (10 : Int32) (-1 : Int32) (128 : Int32) (191 : Int32) (.ref we) (1 : Int32) ((2 : Int32) + z6) (0 : Int32) (0 : Int32) (((0 : Int64) + (1 : Int64)) + (z6.toInt64)) T30.heap n0 Zs30 gn7 Ec30 g30_0 g30_1 g30_2 g30_3 g30_4 g30_5 g30_6 g30_7 g30_8) hZ (hw _ (List.mem_of_getElem? (i := 53) rfl)) (hw _ (List.mem_of_getElem? (i := 7) rfl)) (by decide) (by decide)) q42a q42c (g := (mkF m 181 #[.val (.int p0), .val (.int p1), .val (.int p2), .val (.int p3), .val (.int z1), .val (.ref we), .val (.int (0 : Int32)), .val (.int z5), .val (.int z6), .val (.ref b7), .val (.int (1 : Int32)), .val (.int (2 : Int32)), .val (.int (1 : Int32)), .unset] [(.int (10 : Int32)), (.ref b7)])) rfl (by rw [hml]; rfl) (Steps.refl _) (argsL := [(.int (10 : Int32))]) (rest := []) (lenOf own_pd3 rfl) rfl (by show 2 * 0 + _ ≤ _; exact Nat.le_of_eq rfl) (hb hby at_181) (fun _ _ => ⟨rfl, e38, (by decide : 1 + 0 ≤ _), (by decide : 9 + 0 ≤ _)⟩)
      dsimp only [Pt.U, Pt.locs, Pt.cells, Pt.slots] at X41 lq41 yq41 zq41 st41 hQ41
      subst lq41 yq41 zq41
      obtain ⟨rfl, N41q, Kc41, Ec41, g41_0, g41_1, g41_2, g41_3, g41_4, g41_5, g41_6, g41_7, g41_8⟩ := hQ41
      have N41 := Fr.app N38 N41q
      have O41 := O30.keep Kc41 (allS gn7 all0)
      have Zs41 : n0 ≤ T41.heap.size := Nat.le_trans Zs30 Kc41.1
      refine own_by (V := T41.setTop (mkF m 184 #[.val (.int p0), .val (.int p1), .val (.int p2), .val (.int p3), .val (.int z1), .val (.ref we), .val (.int (0 : Int32)), .val (.int z5), .val (.int z6), .val (.ref b7), .val (.int (1 : Int32)), .val (.int (2 : Int32)), .val (.int (1 : Int32)), .unset] [])) (fun t k => st41.trans k) ?_
      have q43 : ((1 : Int32) + (own_nl (0 : Int32) (10 : Int32))) = (2 : Int32) := by decide
      rw [q43] at g41_4
      have q44 : (own_nc ((2 : Int32) + z6) (10 : Int32)) = (1 : Int32) := if_pos (Or.inr rfl)
      rw [q44] at g41_5
      refine own_by (V := T41.setTop (mkF m 186 #[.val (.int p0), .val (.int p1), .val (.int p2), .val (.int p3), .val (.int z1), .val (.ref we), .val (.int (0 : Int32)), .val (.int z5), .val (.int z6), .val (.ref b7), .val (.int (1 : Int32)), .val (.int (2 : Int32)), .val (.int (1 : Int32)), .unset] [(.int z6)])) (fun t k => XS.iload X41.here hx rfl (hb hby at_184) rfl  k) ?_
      by_cases hb186_45 : z6 = (0 : Int32)
      · refine own_by (V := T41.setTop (mkF m 189 #[.val (.int p0), .val (.int p1), .val (.int p2), .val (.int p3), .val (.int z1), .val (.ref we), .val (.int (0 : Int32)), .val (.int z5), .val (.int z6), .val (.ref b7), .val (.int (1 : Int32)), .val (.int (2 : Int32)), .val (.int (1 : Int32)), .unset] [])) (fun t k => XS.ifNo X41.here hx rfl (hb hby at_186) rfl ((if0 _ _).trans (teq hb186_45).2) k) ?_
        refine own_by (V := T41.setTop (mkF m 191 #[.val (.int p0), .val (.int p1), .val (.int p2), .val (.int p3), .val (.int z1), .val (.ref we), .val (.int (0 : Int32)), .val (.int z5), .val (.int z6), .val (.ref b7), .val (.int (1 : Int32)), .val (.int (2 : Int32)), .val (.int (1 : Int32)), .unset] [(.int (0 : Int32))])) (fun t k => XS.iload X41.here hx rfl (hb hby at_189) rfl  k) ?_
        have hb191_46 : ((0 : Int32) = (0 : Int32)) := by decide
        refine own_by (V := T41.setTop (mkF m 194 #[.val (.int p0), .val (.int p1), .val (.int p2), .val (.int p3), .val (.int z1), .val (.ref we), .val (.int (0 : Int32)), .val (.int z5), .val (.int z6), .val (.ref b7), .val (.int (1 : Int32)), .val (.int (2 : Int32)), .val (.int (1 : Int32)), .unset] [])) (fun t k => XS.ifNo X41.here hx rfl (hb hby at_191) rfl ((if0 _ _).trans (teq hb191_46).2) k) ?_
        refine own_by (V := T41.setTop (mkF m 196 #[.val (.int p0), .val (.int p1), .val (.int p2), .val (.int p3), .val (.int z1), .val (.ref we), .val (.int (0 : Int32)), .val (.int z5), .val (.int z6), .val (.ref b7), .val (.int (1 : Int32)), .val (.int (2 : Int32)), .val (.int (1 : Int32)), .unset] [(.ref b7)])) (fun t k => XS.aload X41.here hx rfl (hb hby at_194) rfl rfl k) ?_
        obtain ⟨cq48, kq48, q48a, q48b, q48c⟩ := isOf hZ rfl Ec41
        obtain ⟨_, _, ⟨T47, Lq47, kq47, nq47⟩, -, X47, ⟨Lc47, hQ47, lq47, yq47, zq47⟩, st47⟩ := X41.virtualBack hx (y := (⟨"crossmarc/reading/Cursor", "line", "()I"⟩ : MethodName)) (z := (⟨"crossmarc/reading/Cursor", "line", "()I"⟩ : MethodName)) hown (mvT hZ (hw _ (List.mem_of_getElem? (i := 68) rfl))) (mvT hZ (hw _ (List.mem_of_getElem? (i := 69) rfl))) (notFace_of_selects (args := #[]) (mvT hZ (hw _ (List.mem_of_getElem? (i := 71) rfl)))) (mvT hZ (hw _ (List.mem_of_getElem? (i := 71) rfl))) (mvT hZ (hw _ (List.mem_of_getElem? (i := 70) rfl))) (by decide) (backOf (W := 0) (own_line l Z a0 hw [] b7 (2 : Int32) T41.heap n0 g41_4) hZ (hw _ (List.mem_of_getElem? (i := 72) rfl)) (hw _ (List.mem_of_getElem? (i := 7) rfl)) (by decide) (by decide)) q48a q48c (g := (mkF m 196 #[.val (.int p0), .val (.int p1), .val (.int p2), .val (.int p3), .val (.int z1), .val (.ref we), .val (.int (0 : Int32)), .val (.int z5), .val (.int z6), .val (.ref b7), .val (.int (1 : Int32)), .val (.int (2 : Int32)), .val (.int (1 : Int32)), .unset] [(.ref b7)])) rfl (by rw [hml]; rfl) (Steps.refl _) (argsL := []) (rest := []) (lenOf own_pd1 rfl) rfl (by show 2 * 0 + _ ≤ _; exact Nat.le_of_eq rfl) (hb hby at_196) (fun _ _ => ⟨rfl, rfl, (by decide : 1 + 0 ≤ _), (by decide : 9 + 0 ≤ _)⟩)
        dsimp only [Pt.U, Pt.locs, Pt.cells, Pt.slots] at X47 lq47 yq47 zq47 st47 hQ47
        subst lq47 yq47 zq47
        obtain ⟨rfl, N47q, e47⟩ := hQ47
        have N47 := Fr.app N41 N47q
        refine own_by (V := T47.setTop (mkF m 199 #[.val (.int p0), .val (.int p1), .val (.int p2), .val (.int p3), .val (.int z1), .val (.ref we), .val (.int (0 : Int32)), .val (.int z5), .val (.int z6), .val (.ref b7), .val (.int (1 : Int32)), .val (.int (2 : Int32)), .val (.int (1 : Int32)), .unset] [(.int (2 : Int32))])) (fun t k => st47.trans k) ?_
        refine own_by (V := T47.setTop (mkF m 201 #[.val (.int p0), .val (.int p1), .val (.int p2), .val (.int p3), .val (.int z1), .val (.ref we), .val (.int (0 : Int32)), .val (.int z5), .val (.int z6), .val (.ref b7), .val (.int (1 : Int32)), .val (.int (2 : Int32)), .val (.int (1 : Int32)), .unset] [(.int (1 : Int32)), (.int (2 : Int32))])) (fun t k => XS.iload X47.here hx rfl (hb hby at_199) rfl  k) ?_
        refine own_by (V := T47.setTop (mkF m 202 #[.val (.int p0), .val (.int p1), .val (.int p2), .val (.int p3), .val (.int z1), .val (.ref we), .val (.int (0 : Int32)), .val (.int z5), .val (.int z6), .val (.ref b7), .val (.int (1 : Int32)), .val (.int (2 : Int32)), .val (.int (1 : Int32)), .unset] [(.int (1 : Int32)), (.int (1 : Int32)), (.int (2 : Int32))])) (fun t k => XS.iconst X47.here hx rfl (hb hby at_201) k) ?_
        refine own_by (V := T47.setTop (mkF m 203 #[.val (.int p0), .val (.int p1), .val (.int p2), .val (.int p3), .val (.int z1), .val (.ref we), .val (.int (0 : Int32)), .val (.int z5), .val (.int z6), .val (.ref b7), .val (.int (1 : Int32)), .val (.int (2 : Int32)), .val (.int (1 : Int32)), .unset] [(.int ((1 : Int32) + (1 : Int32))), (.int (2 : Int32))])) (fun t k => XS.iadd X47.here hx rfl (hb hby at_202) rfl k) ?_
        have hb203_49 : ((2 : Int32) = ((1 : Int32) + (1 : Int32))) := by decide
        refine own_by (V := T47.setTop (mkF m 206 #[.val (.int p0), .val (.int p1), .val (.int p2), .val (.int p3), .val (.int z1), .val (.ref we), .val (.int (0 : Int32)), .val (.int z5), .val (.int z6), .val (.ref b7), .val (.int (1 : Int32)), .val (.int (2 : Int32)), .val (.int (1 : Int32)), .unset] [])) (fun t k => XS.icmpNo X47.here hx rfl (hb hby at_203) rfl (teq hb203_49).2 k) ?_
        refine own_by (V := T47.setTop (mkF m 208 #[.val (.int p0), .val (.int p1), .val (.int p2), .val (.int p3), .val (.int z1), .val (.ref we), .val (.int (0 : Int32)), .val (.int z5), .val (.int z6), .val (.ref b7), .val (.int (1 : Int32)), .val (.int (2 : Int32)), .val (.int (1 : Int32)), .unset] [(.ref b7)])) (fun t k => XS.aload X47.here hx rfl (hb hby at_206) rfl rfl k) ?_
        refine own_by (V := T47.setTop (mkF m 210 #[.val (.int p0), .val (.int p1), .val (.int p2), .val (.int p3), .val (.int z1), .val (.ref we), .val (.int (0 : Int32)), .val (.int z5), .val (.int z6), .val (.ref b7), .val (.int (1 : Int32)), .val (.int (2 : Int32)), .val (.int (1 : Int32)), .unset] [(.int (1 : Int32)), (.ref b7)])) (fun t k => XS.iload X47.here hx rfl (hb hby at_208) rfl  k) ?_
        refine own_by (V := T47.setTop (mkF m 211 #[.val (.int p0), .val (.int p1), .val (.int p2), .val (.int p3), .val (.int z1), .val (.ref we), .val (.int (0 : Int32)), .val (.int z5), .val (.int z6), .val (.ref b7), .val (.int (1 : Int32)), .val (.int (2 : Int32)), .val (.int (1 : Int32)), .unset] [(.int (1 : Int32)), (.int (1 : Int32)), (.ref b7)])) (fun t k => XS.iconst X47.here hx rfl (hb hby at_210) k) ?_
        refine own_by (V := T47.setTop (mkF m 212 #[.val (.int p0), .val (.int p1), .val (.int p2), .val (.int p3), .val (.int z1), .val (.ref we), .val (.int (0 : Int32)), .val (.int z5), .val (.int z6), .val (.ref b7), .val (.int (1 : Int32)), .val (.int (2 : Int32)), .val (.int (1 : Int32)), .unset] [(.int ((1 : Int32) + (1 : Int32))), (.ref b7)])) (fun t k => XS.iadd X47.here hx rfl (hb hby at_211) rfl k) ?_
        refine own_by (V := T47.setTop (mkF m 213 #[.val (.int p0), .val (.int p1), .val (.int p2), .val (.int p3), .val (.int z1), .val (.ref we), .val (.int (0 : Int32)), .val (.int z5), .val (.int z6), .val (.ref b7), .val (.int (1 : Int32)), .val (.int (2 : Int32)), .val (.int (1 : Int32)), .unset] [(.int (1 : Int32)), (.int ((1 : Int32) + (1 : Int32))), (.ref b7)])) (fun t k => XS.iconst X47.here hx rfl (hb hby at_212) k) ?_
        obtain ⟨cq51, kq51, q51a, q51b, q51c⟩ := isOf hZ e47 Ec41
        obtain ⟨_, _, ⟨T50, Lq50, kq50, nq50⟩, -, X50, ⟨Lc50, hQ50, lq50, yq50, zq50⟩, st50⟩ := X47.virtualBack hx (y := (⟨"crossmarc/reading/Cursor", "compareTo", "(II)I"⟩ : MethodName)) (z := (⟨"crossmarc/reading/Cursor", "compareTo", "(II)I"⟩ : MethodName)) hown (mvT hZ (hw _ (List.mem_of_getElem? (i := 73) rfl))) (mvT hZ (hw _ (List.mem_of_getElem? (i := 74) rfl))) (notFace_of_selects (args := #[]) (mvT hZ (hw _ (List.mem_of_getElem? (i := 76) rfl)))) (mvT hZ (hw _ (List.mem_of_getElem? (i := 76) rfl))) (mvT hZ (hw _ (List.mem_of_getElem? (i := 75) rfl))) (by decide) (backOf (W := 0) (own_compareTo l Z a0 hw [] b7 ((1 : Int32) + (1 : Int32)) (1 : Int32) (2 : Int32) (1 : Int32) T41.heap n0 g41_4 g41_5) hZ (hw _ (List.mem_of_getElem? (i := 77) rfl)) (hw _ (List.mem_of_getElem? (i := 7) rfl)) (by decide) (by decide)) q51a q51c (g := (mkF m 213 #[.val (.int p0), .val (.int p1), .val (.int p2), .val (.int p3), .val (.int z1), .val (.ref we), .val (.int (0 : Int32)), .val (.int z5), .val (.int z6), .val (.ref b7), .val (.int (1 : Int32)), .val (.int (2 : Int32)), .val (.int (1 : Int32)), .unset] [(.int (1 : Int32)), (.int ((1 : Int32) + (1 : Int32))), (.ref b7)])) rfl (by rw [hml]; rfl) (Steps.refl _) (argsL := [(.int ((1 : Int32) + (1 : Int32))), (.int (1 : Int32))]) (rest := []) (lenOf own_pd0 rfl) rfl (by show 2 * 0 + _ ≤ _; exact Nat.le_of_eq rfl) (hb hby at_213) (fun _ _ => ⟨rfl, e47, (by decide : 1 + 0 ≤ _), (by decide : 9 + 0 ≤ _)⟩)
        dsimp only [Pt.U, Pt.locs, Pt.cells, Pt.slots] at X50 lq50 yq50 zq50 st50 hQ50
        subst lq50 yq50 zq50
        obtain ⟨rfl, N50q, e50⟩ := hQ50
        have N50 := Fr.app N47 N50q
        refine own_by (V := T50.setTop (mkF m 216 #[.val (.int p0), .val (.int p1), .val (.int p2), .val (.int p3), .val (.int z1), .val (.ref we), .val (.int (0 : Int32)), .val (.int z5), .val (.int z6), .val (.ref b7), .val (.int (1 : Int32)), .val (.int (2 : Int32)), .val (.int (1 : Int32)), .unset] [(.int (own_cmp2 (2 : Int32) (1 : Int32) ((1 : Int32) + (1 : Int32)) (1 : Int32)))])) (fun t k => st50.trans k) ?_
        have hb216_52 : ((own_cmp2 (2 : Int32) (1 : Int32) ((1 : Int32) + (1 : Int32)) (1 : Int32)) = (0 : Int32)) := by decide
        refine own_by (V := T50.setTop (mkF m 219 #[.val (.int p0), .val (.int p1), .val (.int p2), .val (.int p3), .val (.int z1), .val (.ref we), .val (.int (0 : Int32)), .val (.int z5), .val (.int z6), .val (.ref b7), .val (.int (1 : Int32)), .val (.int (2 : Int32)), .val (.int (1 : Int32)), .unset] [])) (fun t k => XS.ifNo X50.here hx rfl (hb hby at_216) rfl ((if0 _ _).trans (teq hb216_52).2) k) ?_
        refine own_by (V := T50.setTop (mkF m 220 #[.val (.int p0), .val (.int p1), .val (.int p2), .val (.int p3), .val (.int z1), .val (.ref we), .val (.int (0 : Int32)), .val (.int z5), .val (.int z6), .val (.ref b7), .val (.int (1 : Int32)), .val (.int (2 : Int32)), .val (.int (1 : Int32)), .unset] [(.int (1 : Int32))])) (fun t k => XS.iconst X50.here hx rfl (hb hby at_219) k) ?_
        refine own_by (V := T50.setTop (mkF m 224 #[.val (.int p0), .val (.int p1), .val (.int p2), .val (.int p3), .val (.int z1), .val (.ref we), .val (.int (0 : Int32)), .val (.int z5), .val (.int z6), .val (.ref b7), .val (.int (1 : Int32)), .val (.int (2 : Int32)), .val (.int (1 : Int32)), .unset] [(.int (1 : Int32))])) (fun t k => XS.goto X50.here hx rfl (pc0 := 220) (pc' := 224) rfl (hb hby at_220) (by decide) (by decide) k) ?_
        refine own_by (V := T50.setTop (mkF m 226 #[.val (.int p0), .val (.int p1), .val (.int p2), .val (.int p3), .val (.int z1), .val (.ref we), .val (.int (0 : Int32)), .val (.int z5), .val (.int z6), .val (.ref b7), .val (.int (1 : Int32)), .val (.int (2 : Int32)), .val (.int (1 : Int32)), .val (.int (1 : Int32))] [])) (fun t k => XS.istore X50.here hx rfl (hb hby at_224) rfl (l' := #[.val (.int p0), .val (.int p1), .val (.int p2), .val (.int p3), .val (.int z1), .val (.ref we), .val (.int (0 : Int32)), .val (.int z5), .val (.int z6), .val (.ref b7), .val (.int (1 : Int32)), .val (.int (2 : Int32)), .val (.int (1 : Int32)), .val (.int (1 : Int32))]) rfl k) ?_
        refine own_by (V := T50.setTop (mkF m 228 #[.val (.int p0), .val (.int p1), .val (.int p2), .val (.int p3), .val (.int z1), .val (.ref we), .val (.int (0 : Int32)), .val (.int z5), .val (.int z6), .val (.ref b7), .val (.int (1 : Int32)), .val (.int (2 : Int32)), .val (.int (1 : Int32)), .val (.int (1 : Int32))] [(.int (1 : Int32))])) (fun t k => XS.iload X50.here hx rfl (hb hby at_226) rfl  k) ?_
        have hb228_53 : ¬ ((1 : Int32) = (0 : Int32)) := by decide
        refine own_by (V := T50.setTop (mkF m 231 #[.val (.int p0), .val (.int p1), .val (.int p2), .val (.int p3), .val (.int z1), .val (.ref we), .val (.int (0 : Int32)), .val (.int z5), .val (.int z6), .val (.ref b7), .val (.int (1 : Int32)), .val (.int (2 : Int32)), .val (.int (1 : Int32)), .val (.int (1 : Int32))] [])) (fun t k => XS.ifNo X50.here hx rfl (hb hby at_228) rfl ((if0 _ _).trans (feq hb228_53).1) k) ?_
        refine own_by (V := T50.setTop (mkF m 233 #[.val (.int p0), .val (.int p1), .val (.int p2), .val (.int p3), .val (.int z1), .val (.ref we), .val (.int (0 : Int32)), .val (.int z5), .val (.int z6), .val (.ref b7), .val (.int (1 : Int32)), .val (.int (2 : Int32)), .val (.int (1 : Int32)), .val (.int (1 : Int32))] [(.int (1 : Int32))])) (fun t k => XS.iload X50.here hx rfl (hb hby at_231) rfl  k) ?_
        have hb233_54 : ¬ ((1 : Int32) = (0 : Int32)) := by decide
        refine own_by (V := T50.setTop (mkF m 236 #[.val (.int p0), .val (.int p1), .val (.int p2), .val (.int p3), .val (.int z1), .val (.ref we), .val (.int (0 : Int32)), .val (.int z5), .val (.int z6), .val (.ref b7), .val (.int (1 : Int32)), .val (.int (2 : Int32)), .val (.int (1 : Int32)), .val (.int (1 : Int32))] [])) (fun t k => XS.ifNo X50.here hx rfl (hb hby at_233) rfl ((if0 _ _).trans (feq hb233_54).1) k) ?_
        refine own_by (V := T50.setTop (mkF m 237 #[.val (.int p0), .val (.int p1), .val (.int p2), .val (.int p3), .val (.int z1), .val (.ref we), .val (.int (0 : Int32)), .val (.int z5), .val (.int z6), .val (.ref b7), .val (.int (1 : Int32)), .val (.int (2 : Int32)), .val (.int (1 : Int32)), .val (.int (1 : Int32))] [(.int (1 : Int32))])) (fun t k => XS.iconst X50.here hx rfl (hb hby at_236) k) ?_
        refine own_by (V := T50.setTop (mkF m 241 #[.val (.int p0), .val (.int p1), .val (.int p2), .val (.int p3), .val (.int z1), .val (.ref we), .val (.int (0 : Int32)), .val (.int z5), .val (.int z6), .val (.ref b7), .val (.int (1 : Int32)), .val (.int (2 : Int32)), .val (.int (1 : Int32)), .val (.int (1 : Int32))] [(.int (1 : Int32))])) (fun t k => XS.goto X50.here hx rfl (pc0 := 237) (pc' := 241) rfl (hb hby at_237) (by decide) (by decide) k) ?_
        refine own_retN X50 hx hlk e50 Bd.returns (t := .boolean) (by simp) rfl (hb hby at_241) ?_ (by decide) (by decide)
        exact ⟨rfl, N50⟩
      · refine own_by (V := T41.setTop (mkF m 194 #[.val (.int p0), .val (.int p1), .val (.int p2), .val (.int p3), .val (.int z1), .val (.ref we), .val (.int (0 : Int32)), .val (.int z5), .val (.int z6), .val (.ref b7), .val (.int (1 : Int32)), .val (.int (2 : Int32)), .val (.int (1 : Int32)), .unset] [])) (fun t k => XS.ifYes X41.here hx rfl (pc0 := 186) (pc' := 194) rfl (hb hby at_186) rfl ((if0 _ _).trans (feq hb186_45).2) (by decide) (by decide) k) ?_
        refine own_by (V := T41.setTop (mkF m 196 #[.val (.int p0), .val (.int p1), .val (.int p2), .val (.int p3), .val (.int z1), .val (.ref we), .val (.int (0 : Int32)), .val (.int z5), .val (.int z6), .val (.ref b7), .val (.int (1 : Int32)), .val (.int (2 : Int32)), .val (.int (1 : Int32)), .unset] [(.ref b7)])) (fun t k => XS.aload X41.here hx rfl (hb hby at_194) rfl rfl k) ?_
        obtain ⟨cq56, kq56, q56a, q56b, q56c⟩ := isOf hZ rfl Ec41
        obtain ⟨_, _, ⟨T55, Lq55, kq55, nq55⟩, -, X55, ⟨Lc55, hQ55, lq55, yq55, zq55⟩, st55⟩ := X41.virtualBack hx (y := (⟨"crossmarc/reading/Cursor", "line", "()I"⟩ : MethodName)) (z := (⟨"crossmarc/reading/Cursor", "line", "()I"⟩ : MethodName)) hown (mvT hZ (hw _ (List.mem_of_getElem? (i := 68) rfl))) (mvT hZ (hw _ (List.mem_of_getElem? (i := 69) rfl))) (notFace_of_selects (args := #[]) (mvT hZ (hw _ (List.mem_of_getElem? (i := 71) rfl)))) (mvT hZ (hw _ (List.mem_of_getElem? (i := 71) rfl))) (mvT hZ (hw _ (List.mem_of_getElem? (i := 70) rfl))) (by decide) (backOf (W := 0) (own_line l Z a0 hw [] b7 (2 : Int32) T41.heap n0 g41_4) hZ (hw _ (List.mem_of_getElem? (i := 72) rfl)) (hw _ (List.mem_of_getElem? (i := 7) rfl)) (by decide) (by decide)) q56a q56c (g := (mkF m 196 #[.val (.int p0), .val (.int p1), .val (.int p2), .val (.int p3), .val (.int z1), .val (.ref we), .val (.int (0 : Int32)), .val (.int z5), .val (.int z6), .val (.ref b7), .val (.int (1 : Int32)), .val (.int (2 : Int32)), .val (.int (1 : Int32)), .unset] [(.ref b7)])) rfl (by rw [hml]; rfl) (Steps.refl _) (argsL := []) (rest := []) (lenOf own_pd1 rfl) rfl (by show 2 * 0 + _ ≤ _; exact Nat.le_of_eq rfl) (hb hby at_196) (fun _ _ => ⟨rfl, rfl, (by decide : 1 + 0 ≤ _), (by decide : 9 + 0 ≤ _)⟩)
        dsimp only [Pt.U, Pt.locs, Pt.cells, Pt.slots] at X55 lq55 yq55 zq55 st55 hQ55
        subst lq55 yq55 zq55
        obtain ⟨rfl, N55q, e55⟩ := hQ55
        have N55 := Fr.app N41 N55q
        refine own_by (V := T55.setTop (mkF m 199 #[.val (.int p0), .val (.int p1), .val (.int p2), .val (.int p3), .val (.int z1), .val (.ref we), .val (.int (0 : Int32)), .val (.int z5), .val (.int z6), .val (.ref b7), .val (.int (1 : Int32)), .val (.int (2 : Int32)), .val (.int (1 : Int32)), .unset] [(.int (2 : Int32))])) (fun t k => st55.trans k) ?_
        refine own_by (V := T55.setTop (mkF m 201 #[.val (.int p0), .val (.int p1), .val (.int p2), .val (.int p3), .val (.int z1), .val (.ref we), .val (.int (0 : Int32)), .val (.int z5), .val (.int z6), .val (.ref b7), .val (.int (1 : Int32)), .val (.int (2 : Int32)), .val (.int (1 : Int32)), .unset] [(.int (1 : Int32)), (.int (2 : Int32))])) (fun t k => XS.iload X55.here hx rfl (hb hby at_199) rfl  k) ?_
        refine own_by (V := T55.setTop (mkF m 202 #[.val (.int p0), .val (.int p1), .val (.int p2), .val (.int p3), .val (.int z1), .val (.ref we), .val (.int (0 : Int32)), .val (.int z5), .val (.int z6), .val (.ref b7), .val (.int (1 : Int32)), .val (.int (2 : Int32)), .val (.int (1 : Int32)), .unset] [(.int (1 : Int32)), (.int (1 : Int32)), (.int (2 : Int32))])) (fun t k => XS.iconst X55.here hx rfl (hb hby at_201) k) ?_
        refine own_by (V := T55.setTop (mkF m 203 #[.val (.int p0), .val (.int p1), .val (.int p2), .val (.int p3), .val (.int z1), .val (.ref we), .val (.int (0 : Int32)), .val (.int z5), .val (.int z6), .val (.ref b7), .val (.int (1 : Int32)), .val (.int (2 : Int32)), .val (.int (1 : Int32)), .unset] [(.int ((1 : Int32) + (1 : Int32))), (.int (2 : Int32))])) (fun t k => XS.iadd X55.here hx rfl (hb hby at_202) rfl k) ?_
        have hb203_57 : ((2 : Int32) = ((1 : Int32) + (1 : Int32))) := by decide
        refine own_by (V := T55.setTop (mkF m 206 #[.val (.int p0), .val (.int p1), .val (.int p2), .val (.int p3), .val (.int z1), .val (.ref we), .val (.int (0 : Int32)), .val (.int z5), .val (.int z6), .val (.ref b7), .val (.int (1 : Int32)), .val (.int (2 : Int32)), .val (.int (1 : Int32)), .unset] [])) (fun t k => XS.icmpNo X55.here hx rfl (hb hby at_203) rfl (teq hb203_57).2 k) ?_
        refine own_by (V := T55.setTop (mkF m 208 #[.val (.int p0), .val (.int p1), .val (.int p2), .val (.int p3), .val (.int z1), .val (.ref we), .val (.int (0 : Int32)), .val (.int z5), .val (.int z6), .val (.ref b7), .val (.int (1 : Int32)), .val (.int (2 : Int32)), .val (.int (1 : Int32)), .unset] [(.ref b7)])) (fun t k => XS.aload X55.here hx rfl (hb hby at_206) rfl rfl k) ?_
        refine own_by (V := T55.setTop (mkF m 210 #[.val (.int p0), .val (.int p1), .val (.int p2), .val (.int p3), .val (.int z1), .val (.ref we), .val (.int (0 : Int32)), .val (.int z5), .val (.int z6), .val (.ref b7), .val (.int (1 : Int32)), .val (.int (2 : Int32)), .val (.int (1 : Int32)), .unset] [(.int (1 : Int32)), (.ref b7)])) (fun t k => XS.iload X55.here hx rfl (hb hby at_208) rfl  k) ?_
        refine own_by (V := T55.setTop (mkF m 211 #[.val (.int p0), .val (.int p1), .val (.int p2), .val (.int p3), .val (.int z1), .val (.ref we), .val (.int (0 : Int32)), .val (.int z5), .val (.int z6), .val (.ref b7), .val (.int (1 : Int32)), .val (.int (2 : Int32)), .val (.int (1 : Int32)), .unset] [(.int (1 : Int32)), (.int (1 : Int32)), (.ref b7)])) (fun t k => XS.iconst X55.here hx rfl (hb hby at_210) k) ?_
        refine own_by (V := T55.setTop (mkF m 212 #[.val (.int p0), .val (.int p1), .val (.int p2), .val (.int p3), .val (.int z1), .val (.ref we), .val (.int (0 : Int32)), .val (.int z5), .val (.int z6), .val (.ref b7), .val (.int (1 : Int32)), .val (.int (2 : Int32)), .val (.int (1 : Int32)), .unset] [(.int ((1 : Int32) + (1 : Int32))), (.ref b7)])) (fun t k => XS.iadd X55.here hx rfl (hb hby at_211) rfl k) ?_
        refine own_by (V := T55.setTop (mkF m 213 #[.val (.int p0), .val (.int p1), .val (.int p2), .val (.int p3), .val (.int z1), .val (.ref we), .val (.int (0 : Int32)), .val (.int z5), .val (.int z6), .val (.ref b7), .val (.int (1 : Int32)), .val (.int (2 : Int32)), .val (.int (1 : Int32)), .unset] [(.int (1 : Int32)), (.int ((1 : Int32) + (1 : Int32))), (.ref b7)])) (fun t k => XS.iconst X55.here hx rfl (hb hby at_212) k) ?_
        obtain ⟨cq59, kq59, q59a, q59b, q59c⟩ := isOf hZ e55 Ec41
        obtain ⟨_, _, ⟨T58, Lq58, kq58, nq58⟩, -, X58, ⟨Lc58, hQ58, lq58, yq58, zq58⟩, st58⟩ := X55.virtualBack hx (y := (⟨"crossmarc/reading/Cursor", "compareTo", "(II)I"⟩ : MethodName)) (z := (⟨"crossmarc/reading/Cursor", "compareTo", "(II)I"⟩ : MethodName)) hown (mvT hZ (hw _ (List.mem_of_getElem? (i := 73) rfl))) (mvT hZ (hw _ (List.mem_of_getElem? (i := 74) rfl))) (notFace_of_selects (args := #[]) (mvT hZ (hw _ (List.mem_of_getElem? (i := 76) rfl)))) (mvT hZ (hw _ (List.mem_of_getElem? (i := 76) rfl))) (mvT hZ (hw _ (List.mem_of_getElem? (i := 75) rfl))) (by decide) (backOf (W := 0) (own_compareTo l Z a0 hw [] b7 ((1 : Int32) + (1 : Int32)) (1 : Int32) (2 : Int32) (1 : Int32) T41.heap n0 g41_4 g41_5) hZ (hw _ (List.mem_of_getElem? (i := 77) rfl)) (hw _ (List.mem_of_getElem? (i := 7) rfl)) (by decide) (by decide)) q59a q59c (g := (mkF m 213 #[.val (.int p0), .val (.int p1), .val (.int p2), .val (.int p3), .val (.int z1), .val (.ref we), .val (.int (0 : Int32)), .val (.int z5), .val (.int z6), .val (.ref b7), .val (.int (1 : Int32)), .val (.int (2 : Int32)), .val (.int (1 : Int32)), .unset] [(.int (1 : Int32)), (.int ((1 : Int32) + (1 : Int32))), (.ref b7)])) rfl (by rw [hml]; rfl) (Steps.refl _) (argsL := [(.int ((1 : Int32) + (1 : Int32))), (.int (1 : Int32))]) (rest := []) (lenOf own_pd0 rfl) rfl (by show 2 * 0 + _ ≤ _; exact Nat.le_of_eq rfl) (hb hby at_213) (fun _ _ => ⟨rfl, e55, (by decide : 1 + 0 ≤ _), (by decide : 9 + 0 ≤ _)⟩)
        dsimp only [Pt.U, Pt.locs, Pt.cells, Pt.slots] at X58 lq58 yq58 zq58 st58 hQ58
        subst lq58 yq58 zq58
        obtain ⟨rfl, N58q, e58⟩ := hQ58
        have N58 := Fr.app N55 N58q
        refine own_by (V := T58.setTop (mkF m 216 #[.val (.int p0), .val (.int p1), .val (.int p2), .val (.int p3), .val (.int z1), .val (.ref we), .val (.int (0 : Int32)), .val (.int z5), .val (.int z6), .val (.ref b7), .val (.int (1 : Int32)), .val (.int (2 : Int32)), .val (.int (1 : Int32)), .unset] [(.int (own_cmp2 (2 : Int32) (1 : Int32) ((1 : Int32) + (1 : Int32)) (1 : Int32)))])) (fun t k => st58.trans k) ?_
        have hb216_60 : ((own_cmp2 (2 : Int32) (1 : Int32) ((1 : Int32) + (1 : Int32)) (1 : Int32)) = (0 : Int32)) := by decide
        refine own_by (V := T58.setTop (mkF m 219 #[.val (.int p0), .val (.int p1), .val (.int p2), .val (.int p3), .val (.int z1), .val (.ref we), .val (.int (0 : Int32)), .val (.int z5), .val (.int z6), .val (.ref b7), .val (.int (1 : Int32)), .val (.int (2 : Int32)), .val (.int (1 : Int32)), .unset] [])) (fun t k => XS.ifNo X58.here hx rfl (hb hby at_216) rfl ((if0 _ _).trans (teq hb216_60).2) k) ?_
        refine own_by (V := T58.setTop (mkF m 220 #[.val (.int p0), .val (.int p1), .val (.int p2), .val (.int p3), .val (.int z1), .val (.ref we), .val (.int (0 : Int32)), .val (.int z5), .val (.int z6), .val (.ref b7), .val (.int (1 : Int32)), .val (.int (2 : Int32)), .val (.int (1 : Int32)), .unset] [(.int (1 : Int32))])) (fun t k => XS.iconst X58.here hx rfl (hb hby at_219) k) ?_
        refine own_by (V := T58.setTop (mkF m 224 #[.val (.int p0), .val (.int p1), .val (.int p2), .val (.int p3), .val (.int z1), .val (.ref we), .val (.int (0 : Int32)), .val (.int z5), .val (.int z6), .val (.ref b7), .val (.int (1 : Int32)), .val (.int (2 : Int32)), .val (.int (1 : Int32)), .unset] [(.int (1 : Int32))])) (fun t k => XS.goto X58.here hx rfl (pc0 := 220) (pc' := 224) rfl (hb hby at_220) (by decide) (by decide) k) ?_
        refine own_by (V := T58.setTop (mkF m 226 #[.val (.int p0), .val (.int p1), .val (.int p2), .val (.int p3), .val (.int z1), .val (.ref we), .val (.int (0 : Int32)), .val (.int z5), .val (.int z6), .val (.ref b7), .val (.int (1 : Int32)), .val (.int (2 : Int32)), .val (.int (1 : Int32)), .val (.int (1 : Int32))] [])) (fun t k => XS.istore X58.here hx rfl (hb hby at_224) rfl (l' := #[.val (.int p0), .val (.int p1), .val (.int p2), .val (.int p3), .val (.int z1), .val (.ref we), .val (.int (0 : Int32)), .val (.int z5), .val (.int z6), .val (.ref b7), .val (.int (1 : Int32)), .val (.int (2 : Int32)), .val (.int (1 : Int32)), .val (.int (1 : Int32))]) rfl k) ?_
        refine own_by (V := T58.setTop (mkF m 228 #[.val (.int p0), .val (.int p1), .val (.int p2), .val (.int p3), .val (.int z1), .val (.ref we), .val (.int (0 : Int32)), .val (.int z5), .val (.int z6), .val (.ref b7), .val (.int (1 : Int32)), .val (.int (2 : Int32)), .val (.int (1 : Int32)), .val (.int (1 : Int32))] [(.int (1 : Int32))])) (fun t k => XS.iload X58.here hx rfl (hb hby at_226) rfl  k) ?_
        have hb228_61 : ¬ ((1 : Int32) = (0 : Int32)) := by decide
        refine own_by (V := T58.setTop (mkF m 231 #[.val (.int p0), .val (.int p1), .val (.int p2), .val (.int p3), .val (.int z1), .val (.ref we), .val (.int (0 : Int32)), .val (.int z5), .val (.int z6), .val (.ref b7), .val (.int (1 : Int32)), .val (.int (2 : Int32)), .val (.int (1 : Int32)), .val (.int (1 : Int32))] [])) (fun t k => XS.ifNo X58.here hx rfl (hb hby at_228) rfl ((if0 _ _).trans (feq hb228_61).1) k) ?_
        refine own_by (V := T58.setTop (mkF m 233 #[.val (.int p0), .val (.int p1), .val (.int p2), .val (.int p3), .val (.int z1), .val (.ref we), .val (.int (0 : Int32)), .val (.int z5), .val (.int z6), .val (.ref b7), .val (.int (1 : Int32)), .val (.int (2 : Int32)), .val (.int (1 : Int32)), .val (.int (1 : Int32))] [(.int (1 : Int32))])) (fun t k => XS.iload X58.here hx rfl (hb hby at_231) rfl  k) ?_
        have hb233_62 : ¬ ((1 : Int32) = (0 : Int32)) := by decide
        refine own_by (V := T58.setTop (mkF m 236 #[.val (.int p0), .val (.int p1), .val (.int p2), .val (.int p3), .val (.int z1), .val (.ref we), .val (.int (0 : Int32)), .val (.int z5), .val (.int z6), .val (.ref b7), .val (.int (1 : Int32)), .val (.int (2 : Int32)), .val (.int (1 : Int32)), .val (.int (1 : Int32))] [])) (fun t k => XS.ifNo X58.here hx rfl (hb hby at_233) rfl ((if0 _ _).trans (feq hb233_62).1) k) ?_
        refine own_by (V := T58.setTop (mkF m 237 #[.val (.int p0), .val (.int p1), .val (.int p2), .val (.int p3), .val (.int z1), .val (.ref we), .val (.int (0 : Int32)), .val (.int z5), .val (.int z6), .val (.ref b7), .val (.int (1 : Int32)), .val (.int (2 : Int32)), .val (.int (1 : Int32)), .val (.int (1 : Int32))] [(.int (1 : Int32))])) (fun t k => XS.iconst X58.here hx rfl (hb hby at_236) k) ?_
        refine own_by (V := T58.setTop (mkF m 241 #[.val (.int p0), .val (.int p1), .val (.int p2), .val (.int p3), .val (.int z1), .val (.ref we), .val (.int (0 : Int32)), .val (.int z5), .val (.int z6), .val (.ref b7), .val (.int (1 : Int32)), .val (.int (2 : Int32)), .val (.int (1 : Int32)), .val (.int (1 : Int32))] [(.int (1 : Int32))])) (fun t k => XS.goto X58.here hx rfl (pc0 := 237) (pc' := 241) rfl (hb hby at_237) (by decide) (by decide) k) ?_
        refine own_retN X58 hx hlk e58 Bd.returns (t := .boolean) (by simp) rfl (hb hby at_241) ?_ (by decide) (by decide)
        exact ⟨rfl, N58⟩
    · refine own_by (V := T2.setTop (mkF m 42 #[.val (.int p0), .val (.int p1), .val (.int p2), .val (.int p3), .val (.int z1), .val (.ref we), .unset, .unset, .unset, .unset, .unset, .unset, .unset, .unset] [])) (fun t k => XS.ifNo X2.here hx rfl (hb hby at_39) rfl ((if0 _ _).trans (feq hb39_3).1) k) ?_
      refine own_by (V := T2.setTop (mkF m 43 #[.val (.int p0), .val (.int p1), .val (.int p2), .val (.int p3), .val (.int z1), .val (.ref we), .unset, .unset, .unset, .unset, .unset, .unset, .unset, .unset] [(.int (1 : Int32))])) (fun t k => XS.iconst X2.here hx rfl (hb hby at_42) k) ?_
      refine own_by (V := T2.setTop (mkF m 47 #[.val (.int p0), .val (.int p1), .val (.int p2), .val (.int p3), .val (.int z1), .val (.ref we), .unset, .unset, .unset, .unset, .unset, .unset, .unset, .unset] [(.int (1 : Int32))])) (fun t k => XS.goto X2.here hx rfl (pc0 := 43) (pc' := 47) rfl (hb hby at_43) (by decide) (by decide) k) ?_
      refine own_by (V := T2.setTop (mkF m 49 #[.val (.int p0), .val (.int p1), .val (.int p2), .val (.int p3), .val (.int z1), .val (.ref we), .val (.int (1 : Int32)), .unset, .unset, .unset, .unset, .unset, .unset, .unset] [])) (fun t k => XS.istore X2.here hx rfl (hb hby at_47) rfl (l' := #[.val (.int p0), .val (.int p1), .val (.int p2), .val (.int p3), .val (.int z1), .val (.ref we), .val (.int (1 : Int32)), .unset, .unset, .unset, .unset, .unset, .unset, .unset]) rfl k) ?_
      refine own_by (V := T2.setTop (mkF m 51 #[.val (.int p0), .val (.int p1), .val (.int p2), .val (.int p3), .val (.int z1), .val (.ref we), .val (.int (1 : Int32)), .unset, .unset, .unset, .unset, .unset, .unset, .unset] [(.int (1 : Int32))])) (fun t k => XS.iload X2.here hx rfl (hb hby at_49) rfl  k) ?_
      have hb51_63 : ¬ ((1 : Int32) = (0 : Int32)) := by decide
      refine own_by (V := T2.setTop (mkF m 54 #[.val (.int p0), .val (.int p1), .val (.int p2), .val (.int p3), .val (.int z1), .val (.ref we), .val (.int (1 : Int32)), .unset, .unset, .unset, .unset, .unset, .unset, .unset] [])) (fun t k => XS.ifNo X2.here hx rfl (hb hby at_51) rfl ((if0 _ _).trans (feq hb51_63).1) k) ?_
      refine own_by (V := T2.setTop (mkF m 56 #[.val (.int p0), .val (.int p1), .val (.int p2), .val (.int p3), .val (.int z1), .val (.ref we), .val (.int (1 : Int32)), .unset, .unset, .unset, .unset, .unset, .unset, .unset] [(.int (13 : Int32))])) (fun t k => XS.bipush X2.here hx rfl (hb hby at_54) k) ?_
      refine own_by (V := T2.setTop (mkF m 69 #[.val (.int p0), .val (.int p1), .val (.int p2), .val (.int p3), .val (.int z1), .val (.ref we), .val (.int (1 : Int32)), .unset, .unset, .unset, .unset, .unset, .unset, .unset] [(.int (13 : Int32))])) (fun t k => XS.goto X2.here hx rfl (pc0 := 56) (pc' := 69) rfl (hb hby at_56) (by decide) (by decide) k) ?_
      refine own_by (V := T2.setTop (mkF m 71 #[.val (.int p0), .val (.int p1), .val (.int p2), .val (.int p3), .val (.int z1), .val (.ref we), .val (.int (1 : Int32)), .val (.int (13 : Int32)), .unset, .unset, .unset, .unset, .unset, .unset] [])) (fun t k => XS.istore X2.here hx rfl (hb hby at_69) rfl (l' := #[.val (.int p0), .val (.int p1), .val (.int p2), .val (.int p3), .val (.int z1), .val (.ref we), .val (.int (1 : Int32)), .val (.int (13 : Int32)), .unset, .unset, .unset, .unset, .unset, .unset]) rfl k) ?_
      refine own_by (V := T2.setTop (mkF m 72 #[.val (.int p0), .val (.int p1), .val (.int p2), .val (.int p3), .val (.int z1), .val (.ref we), .val (.int (1 : Int32)), .val (.int (13 : Int32)), .unset, .unset, .unset, .unset, .unset, .unset] [(.int p3)])) (fun t k => XS.iloadN X2.here hx rfl (hb hby at_71) rfl  k) ?_
      refine own_by (V := T2.setTop (mkF m 74 #[.val (.int p0), .val (.int p1), .val (.int p2), .val (.int p3), .val (.int z1), .val (.ref we), .val (.int (1 : Int32)), .val (.int (13 : Int32)), .unset, .unset, .unset, .unset, .unset, .unset] [(.int (1073741823 : Int32)), (.int p3)])) (Jvm.Stand.ldcInt X2 hx hown (mvT hZ (hw _ (List.mem_of_getElem? (i := 4) rfl))) (g := (mkF m 72 #[.val (.int p0), .val (.int p1), .val (.int p2), .val (.int p3), .val (.int z1), .val (.ref we), .val (.int (1 : Int32)), .val (.int (13 : Int32)), .unset, .unset, .unset, .unset, .unset, .unset] [(.int p3)])) rfl (hb hby at_72)) ?_
      refine own_by (V := T2.setTop (mkF m 75 #[.val (.int p0), .val (.int p1), .val (.int p2), .val (.int p3), .val (.int z1), .val (.ref we), .val (.int (1 : Int32)), .val (.int (13 : Int32)), .unset, .unset, .unset, .unset, .unset, .unset] [(.int (p3 &&& (1073741823 : Int32)))])) (fun t k => XS.iand X2.here hx rfl (hb hby at_74) rfl k) ?_
      obtain ⟨z64, hz64⟩ : ∃ z : Int32, z = (p3 &&& (1073741823 : Int32)) := ⟨_, rfl⟩
      rw [← hz64]
      refine own_by (V := T2.setTop (mkF m 77 #[.val (.int p0), .val (.int p1), .val (.int p2), .val (.int p3), .val (.int z1), .val (.ref we), .val (.int (1 : Int32)), .val (.int (13 : Int32)), .val (.int z64), .unset, .unset, .unset, .unset, .unset] [])) (fun t k => XS.istore X2.here hx rfl (hb hby at_75) rfl (l' := #[.val (.int p0), .val (.int p1), .val (.int p2), .val (.int p3), .val (.int z1), .val (.ref we), .val (.int (1 : Int32)), .val (.int (13 : Int32)), .val (.int z64), .unset, .unset, .unset, .unset, .unset]) rfl k) ?_
      obtain ⟨T65, h65, X65, e65, E65, A65, D65, -, st65⟩ := newO X2 hx hZ hown (hw _ (List.mem_of_getElem? (i := 5) rfl)) (hw _ (List.mem_of_getElem? (i := 6) rfl)) (hw _ (List.mem_of_getElem? (i := 7) rfl)) e2 (g := (mkF m 77 #[.val (.int p0), .val (.int p1), .val (.int p2), .val (.int p3), .val (.int z1), .val (.ref we), .val (.int (1 : Int32)), .val (.int (13 : Int32)), .val (.int z64), .unset, .unset, .unset, .unset, .unset] [])) rfl (hb hby at_77) (by decide) (by decide)
      obtain ⟨b65, g65⟩ : ∃ z, z = h0.size := ⟨_, rfl⟩
      rw [← g65] at A65 D65 st65
      have O65 := O0.ext E65
      have f69 : Fld Z h65 b65 "crossmarc/reading/Cursor" "half" "I" (.int (0 : Int32)) := D65 (Or.inl (hw _ (List.mem_of_getElem? (i := 15) rfl))) (ty := .int) (by decide)
      have f70 : Fld Z h65 b65 "crossmarc/reading/Cursor" "low" "I" (.int (0 : Int32)) := D65 (Or.inl (hw _ (List.mem_of_getElem? (i := 17) rfl))) (ty := .int) (by decide)
      have f71 : Fld Z h65 b65 "crossmarc/reading/Cursor" "high" "I" (.int (0 : Int32)) := D65 (Or.inl (hw _ (List.mem_of_getElem? (i := 19) rfl))) (ty := .int) (by decide)
      have f72 : Fld Z h65 b65 "crossmarc/reading/Cursor" "encoding" "Lcrossmarc/reading/CheckedEncoding;" .null := D65 (Or.inr (hw _ (List.mem_of_getElem? (i := 21) rfl))) (ty := (.object "crossmarc/reading/CheckedEncoding")) (by decide)
      have f73 : Fld Z h65 b65 "crossmarc/reading/Cursor" "line" "I" (.int (0 : Int32)) := D65 (Or.inl (hw _ (List.mem_of_getElem? (i := 23) rfl))) (ty := .int) (by decide)
      have f74 : Fld Z h65 b65 "crossmarc/reading/Cursor" "column" "I" (.int (0 : Int32)) := D65 (Or.inl (hw _ (List.mem_of_getElem? (i := 25) rfl))) (ty := .int) (by decide)
      have f75 : Fld Z h65 b65 "crossmarc/reading/Cursor" "needed" "I" (.int (0 : Int32)) := D65 (Or.inl (hw _ (List.mem_of_getElem? (i := 48) rfl))) (ty := .int) (by decide)
      have f76 : Fld Z h65 b65 "crossmarc/reading/Cursor" "afterCr" "Z" (.int (0 : Int32)) := D65 (Or.inl (hw _ (List.mem_of_getElem? (i := 55) rfl))) (ty := .boolean) (by decide)
      have f77 : Fld Z h65 b65 "crossmarc/reading/Cursor" "position" "J" (.long (0 : Int64)) := D65 (Or.inl (hw _ (List.mem_of_getElem? (i := 57) rfl))) (ty := .long) (by decide)
      have gn65 : n0 ≤ b65 := Nat.le_trans Z0 (Nat.le_of_eq g65.symm)
      have Zs65 : n0 ≤ h65.size := Nat.le_trans Z0 E65.1
      refine own_by (V := T65.setTop (mkF m 80 #[.val (.int p0), .val (.int p1), .val (.int p2), .val (.int p3), .val (.int z1), .val (.ref we), .val (.int (1 : Int32)), .val (.int (13 : Int32)), .val (.int z64), .unset, .unset, .unset, .unset, .unset] [(.ref b65)])) st65 ?_
      refine own_by (V := T65.setTop (mkF m 81 #[.val (.int p0), .val (.int p1), .val (.int p2), .val (.int p3), .val (.int z1), .val (.ref we), .val (.int (1 : Int32)), .val (.int (13 : Int32)), .val (.int z64), .unset, .unset, .unset, .unset, .unset] [(.ref b65), (.ref b65)])) (fun t k => XS.dup X65.here hx rfl (hb hby at_80) rfl rfl k) ?_
      refine own_by (V := T65.setTop (mkF m 83 #[.val (.int p0), .val (.int p1), .val (.int p2), .val (.int p3), .val (.int z1), .val (.ref we), .val (.int (1 : Int32)), .val (.int (13 : Int32)), .val (.int z64), .unset, .unset, .unset, .unset, .unset] [(.ref we), (.ref b65), (.ref b65)])) (fun t k => XS.aload X65.here hx rfl (hb hby at_81) rfl rfl k) ?_
      obtain ⟨_, _, ⟨T78, Lq78, kq78, nq78⟩, -, X78, ⟨Lc78, hQ78, lq78, yq78, zq78⟩, st78⟩ := X65.specialBack hx (y := (⟨"crossmarc/reading/Cursor", "<init>", "(Lcrossmarc/reading/CheckedEncoding;)V"⟩ : MethodName)) rfl hown (mvT hZ (hw _ (List.mem_of_getElem? (i := 8) rfl))) (mvT hZ (hw _ (List.mem_of_getElem? (i := 9) rfl))) (mvT hZ (hw _ (List.mem_of_getElem? (i := 10) rfl))) (by decide) (backOf (W := 1) (own_cinit l Z a0 hw [] b65 we h65 n0 Zs65 gn65 A65 f69 f70 f71 f72 f73 f74 f75 f76 f77) hZ (hw _ (List.mem_of_getElem? (i := 10) rfl)) (hw _ (List.mem_of_getElem? (i := 7) rfl)) (by decide) (by decide)) (g := (mkF m 83 #[.val (.int p0), .val (.int p1), .val (.int p2), .val (.int p3), .val (.int z1), .val (.ref we), .val (.int (1 : Int32)), .val (.int (13 : Int32)), .val (.int z64), .unset, .unset, .unset, .unset, .unset] [(.ref we), (.ref b65), (.ref b65)])) rfl (by rw [hml]; rfl) (Steps.refl _) (a := b65) (argsL := [(.ref we)]) (rest := [(.ref b65)]) (lenOf own_pd4 rfl) rfl (by show 2 * 0 + _ ≤ _; exact Nat.le_of_eq rfl) (hb hby at_83) (fun _ _ => ⟨rfl, e65, (by decide : 1 + 0 ≤ _), (by decide : 9 + 0 ≤ _)⟩)
      dsimp only [Pt.U, Pt.locs, Pt.cells, Pt.slots] at X78 lq78 yq78 zq78 st78 hQ78
      subst lq78 yq78 zq78
      obtain ⟨rfl, N78q, Kc78, Ec78, g78_0, g78_1, g78_2, g78_3, g78_4, g78_5, g78_6, g78_7, g78_8⟩ := hQ78
      have N78 := Fr.app N2 N78q
      have O78 := O65.keep Kc78 (allS gn65 all0)
      have Zs78 : n0 ≤ T78.heap.size := Nat.le_trans Zs65 Kc78.1
      refine own_by (V := T78.setTop (mkF m 86 #[.val (.int p0), .val (.int p1), .val (.int p2), .val (.int p3), .val (.int z1), .val (.ref we), .val (.int (1 : Int32)), .val (.int (13 : Int32)), .val (.int z64), .unset, .unset, .unset, .unset, .unset] [(.ref b65)])) (fun t k => st78.trans k) ?_
      refine own_by (V := T78.setTop (mkF m 88 #[.val (.int p0), .val (.int p1), .val (.int p2), .val (.int p3), .val (.int z1), .val (.ref we), .val (.int (1 : Int32)), .val (.int (13 : Int32)), .val (.int z64), .val (.ref b65), .unset, .unset, .unset, .unset] [])) (fun t k => XS.astore X78.here hx rfl (hb hby at_86) rfl rfl (l' := #[.val (.int p0), .val (.int p1), .val (.int p2), .val (.int p3), .val (.int z1), .val (.ref we), .val (.int (1 : Int32)), .val (.int (13 : Int32)), .val (.int z64), .val (.ref b65), .unset, .unset, .unset, .unset]) rfl k) ?_
      refine own_by (V := T78.setTop (mkF m 90 #[.val (.int p0), .val (.int p1), .val (.int p2), .val (.int p3), .val (.int z1), .val (.ref we), .val (.int (1 : Int32)), .val (.int (13 : Int32)), .val (.int z64), .val (.ref b65), .unset, .unset, .unset, .unset] [(.ref b65)])) (fun t k => XS.aload X78.here hx rfl (hb hby at_88) rfl rfl k) ?_
      refine own_by (V := T78.setTop (mkF m 92 #[.val (.int p0), .val (.int p1), .val (.int p2), .val (.int p3), .val (.int z1), .val (.ref we), .val (.int (1 : Int32)), .val (.int (13 : Int32)), .val (.int z64), .val (.ref b65), .unset, .unset, .unset, .unset] [(.int (13 : Int32)), (.ref b65)])) (fun t k => XS.iload X78.here hx rfl (hb hby at_90) rfl  k) ?_
      obtain ⟨cq80, kq80, q80a, q80b, q80c⟩ := isOf hZ rfl Ec78
      obtain ⟨_, _, ⟨T79, Lq79, kq79, nq79⟩, -, X79, ⟨Lc79, hQ79, lq79, yq79, zq79⟩, st79⟩ := X78.virtualBack hx (y := (⟨"crossmarc/reading/Cursor", "take", "(I)Z"⟩ : MethodName)) (z := (⟨"crossmarc/reading/Cursor", "take", "(I)Z"⟩ : MethodName)) hown (mvT hZ (hw _ (List.mem_of_getElem? (i := 26) rfl))) (mvT hZ (hw _ (List.mem_of_getElem? (i := 27) rfl))) (notFace_of_selects (args := #[]) (mvT hZ (hw _ (List.mem_of_getElem? (i := 29) rfl)))) (mvT hZ (hw _ (List.mem_of_getElem? (i := 29) rfl))) (mvT hZ (hw _ (List.mem_of_getElem? (i := 28) rfl))) (by decide) (backOf (W := 0) (own_take l Z a0 hw [] b65 (13 : Int32) (-1 : Int32) (128 : Int32) (191 : Int32) (1 : Int32) (1 : Int32) (0 : Int32) (0 : Int64) we wm clm od sw T78.heap n0 Zs78 gn65 Ec78 g78_0 g78_1 g78_2 g78_3 g78_4 g78_5 g78_6 g78_7 g78_8 (by decide) (Ee.ext O78.2) (Fe.ext O78.2) (O78.ne Ee.lt gn65) (Sm.ext O78.2) (Am.ext O78.2) hm hsw) hZ (hw _ (List.mem_of_getElem? (i := 30) rfl)) (hw _ (List.mem_of_getElem? (i := 7) rfl)) (by decide) (by decide)) q80a q80c (g := (mkF m 92 #[.val (.int p0), .val (.int p1), .val (.int p2), .val (.int p3), .val (.int z1), .val (.ref we), .val (.int (1 : Int32)), .val (.int (13 : Int32)), .val (.int z64), .val (.ref b65), .unset, .unset, .unset, .unset] [(.int (13 : Int32)), (.ref b65)])) rfl (by rw [hml]; rfl) (Steps.refl _) (argsL := [(.int (13 : Int32))]) (rest := []) (lenOf own_pd2 rfl) rfl (by show 2 * 0 + _ ≤ _; exact Nat.le_of_eq rfl) (hb hby at_92) (fun _ _ => ⟨rfl, rfl, (by decide : 1 + 0 ≤ _), (by decide : 9 + 0 ≤ _)⟩)
      dsimp only [Pt.U, Pt.locs, Pt.cells, Pt.slots] at X79 lq79 yq79 zq79 st79 hQ79
      subst lq79 yq79 zq79
      obtain ⟨rfl, N79q, Kc79, Ec79, g79_0, g79_1, g79_2, g79_3, g79_4, g79_5, g79_6, g79_7, g79_8⟩ := hQ79
      have N79 := Fr.app N78 N79q
      have O79 := O78.keep Kc79 (allS gn65 all0)
      have Zs79 : n0 ≤ T79.heap.size := Nat.le_trans Zs78 Kc79.1
      refine own_by (V := T79.setTop (mkF m 95 #[.val (.int p0), .val (.int p1), .val (.int p2), .val (.int p3), .val (.int z1), .val (.ref we), .val (.int (1 : Int32)), .val (.int (13 : Int32)), .val (.int z64), .val (.ref b65), .unset, .unset, .unset, .unset] [(.int (1 : Int32))])) (fun t k => st79.trans k) ?_
      have q82 : ((1 : Int32) + (own_nl (0 : Int32) (13 : Int32))) = (2 : Int32) := by decide
      rw [q82] at g79_4
      have q83 : (own_nc (1 : Int32) (13 : Int32)) = (1 : Int32) := by decide
      rw [q83] at g79_5
      have q84 : (own_pcr (13 : Int32)) = (1 : Int32) := by decide
      rw [q84] at g79_7
      have hb95_85 : ¬ ((1 : Int32) = (0 : Int32)) := by decide
      refine own_by (V := T79.setTop (mkF m 100 #[.val (.int p0), .val (.int p1), .val (.int p2), .val (.int p3), .val (.int z1), .val (.ref we), .val (.int (1 : Int32)), .val (.int (13 : Int32)), .val (.int z64), .val (.ref b65), .unset, .unset, .unset, .unset] [])) (fun t k => XS.ifYes X79.here hx rfl (pc0 := 95) (pc' := 100) rfl (hb hby at_95) rfl ((if0 _ _).trans (feq hb95_85).2) (by decide) (by decide) k) ?_
      refine own_by (V := T79.setTop (mkF m 102 #[.val (.int p0), .val (.int p1), .val (.int p2), .val (.int p3), .val (.int z1), .val (.ref we), .val (.int (1 : Int32)), .val (.int (13 : Int32)), .val (.int z64), .val (.ref b65), .unset, .unset, .unset, .unset] [(.int (1 : Int32))])) (fun t k => XS.iload X79.here hx rfl (hb hby at_100) rfl  k) ?_
      have hb102_86 : ¬ ((1 : Int32) = (0 : Int32)) := by decide
      refine own_by (V := T79.setTop (mkF m 105 #[.val (.int p0), .val (.int p1), .val (.int p2), .val (.int p3), .val (.int z1), .val (.ref we), .val (.int (1 : Int32)), .val (.int (13 : Int32)), .val (.int z64), .val (.ref b65), .unset, .unset, .unset, .unset] [])) (fun t k => XS.ifNo X79.here hx rfl (hb hby at_102) rfl ((if0 _ _).trans (feq hb102_86).1) k) ?_
      refine own_by (V := T79.setTop (mkF m 106 #[.val (.int p0), .val (.int p1), .val (.int p2), .val (.int p3), .val (.int z1), .val (.ref we), .val (.int (1 : Int32)), .val (.int (13 : Int32)), .val (.int z64), .val (.ref b65), .unset, .unset, .unset, .unset] [(.int (2 : Int32))])) (fun t k => XS.iconst X79.here hx rfl (hb hby at_105) k) ?_
      refine own_by (V := T79.setTop (mkF m 110 #[.val (.int p0), .val (.int p1), .val (.int p2), .val (.int p3), .val (.int z1), .val (.ref we), .val (.int (1 : Int32)), .val (.int (13 : Int32)), .val (.int z64), .val (.ref b65), .unset, .unset, .unset, .unset] [(.int (2 : Int32))])) (fun t k => XS.goto X79.here hx rfl (pc0 := 106) (pc' := 110) rfl (hb hby at_106) (by decide) (by decide) k) ?_
      refine own_by (V := T79.setTop (mkF m 112 #[.val (.int p0), .val (.int p1), .val (.int p2), .val (.int p3), .val (.int z1), .val (.ref we), .val (.int (1 : Int32)), .val (.int (13 : Int32)), .val (.int z64), .val (.ref b65), .val (.int (2 : Int32)), .unset, .unset, .unset] [])) (fun t k => XS.istore X79.here hx rfl (hb hby at_110) rfl (l' := #[.val (.int p0), .val (.int p1), .val (.int p2), .val (.int p3), .val (.int z1), .val (.ref we), .val (.int (1 : Int32)), .val (.int (13 : Int32)), .val (.int z64), .val (.ref b65), .val (.int (2 : Int32)), .unset, .unset, .unset]) rfl k) ?_
      refine own_by (V := T79.setTop (mkF m 114 #[.val (.int p0), .val (.int p1), .val (.int p2), .val (.int p3), .val (.int z1), .val (.ref we), .val (.int (1 : Int32)), .val (.int (13 : Int32)), .val (.int z64), .val (.ref b65), .val (.int (2 : Int32)), .unset, .unset, .unset] [(.int (1 : Int32))])) (fun t k => XS.iload X79.here hx rfl (hb hby at_112) rfl  k) ?_
      have hb114_87 : ¬ ((1 : Int32) = (0 : Int32)) := by decide
      refine own_by (V := T79.setTop (mkF m 117 #[.val (.int p0), .val (.int p1), .val (.int p2), .val (.int p3), .val (.int z1), .val (.ref we), .val (.int (1 : Int32)), .val (.int (13 : Int32)), .val (.int z64), .val (.ref b65), .val (.int (2 : Int32)), .unset, .unset, .unset] [])) (fun t k => XS.ifNo X79.here hx rfl (hb hby at_114) rfl ((if0 _ _).trans (feq hb114_87).1) k) ?_
      refine own_by (V := T79.setTop (mkF m 118 #[.val (.int p0), .val (.int p1), .val (.int p2), .val (.int p3), .val (.int z1), .val (.ref we), .val (.int (1 : Int32)), .val (.int (13 : Int32)), .val (.int z64), .val (.ref b65), .val (.int (2 : Int32)), .unset, .unset, .unset] [(.int (1 : Int32))])) (fun t k => XS.iconst X79.here hx rfl (hb hby at_117) k) ?_
      refine own_by (V := T79.setTop (mkF m 122 #[.val (.int p0), .val (.int p1), .val (.int p2), .val (.int p3), .val (.int z1), .val (.ref we), .val (.int (1 : Int32)), .val (.int (13 : Int32)), .val (.int z64), .val (.ref b65), .val (.int (2 : Int32)), .unset, .unset, .unset] [(.int (1 : Int32))])) (fun t k => XS.goto X79.here hx rfl (pc0 := 118) (pc' := 122) rfl (hb hby at_118) (by decide) (by decide) k) ?_
      refine own_by (V := T79.setTop (mkF m 124 #[.val (.int p0), .val (.int p1), .val (.int p2), .val (.int p3), .val (.int z1), .val (.ref we), .val (.int (1 : Int32)), .val (.int (13 : Int32)), .val (.int z64), .val (.ref b65), .val (.int (2 : Int32)), .val (.int (1 : Int32)), .unset, .unset] [])) (fun t k => XS.istore X79.here hx rfl (hb hby at_122) rfl (l' := #[.val (.int p0), .val (.int p1), .val (.int p2), .val (.int p3), .val (.int z1), .val (.ref we), .val (.int (1 : Int32)), .val (.int (13 : Int32)), .val (.int z64), .val (.ref b65), .val (.int (2 : Int32)), .val (.int (1 : Int32)), .unset, .unset]) rfl k) ?_
      refine own_by (V := T79.setTop (mkF m 126 #[.val (.int p0), .val (.int p1), .val (.int p2), .val (.int p3), .val (.int z1), .val (.ref we), .val (.int (1 : Int32)), .val (.int (13 : Int32)), .val (.int z64), .val (.ref b65), .val (.int (2 : Int32)), .val (.int (1 : Int32)), .unset, .unset] [(.ref b65)])) (fun t k => XS.aload X79.here hx rfl (hb hby at_124) rfl rfl k) ?_
      refine own_by (V := T79.setTop (mkF m 128 #[.val (.int p0), .val (.int p1), .val (.int p2), .val (.int p3), .val (.int z1), .val (.ref we), .val (.int (1 : Int32)), .val (.int (13 : Int32)), .val (.int z64), .val (.ref b65), .val (.int (2 : Int32)), .val (.int (1 : Int32)), .unset, .unset] [(.int z64), (.ref b65)])) (fun t k => XS.iload X79.here hx rfl (hb hby at_126) rfl  k) ?_
      obtain ⟨cq89, kq89, q89a, q89b, q89c⟩ := isOf hZ rfl Ec79
      obtain ⟨_, _, ⟨T88, Lq88, kq88, nq88⟩, -, X88, ⟨Lc88, hQ88, lq88, yq88, zq88⟩, st88⟩ := X79.virtualBack hx (y := (⟨"crossmarc/reading/Cursor", "passAsciiText", "(I)V"⟩ : MethodName)) (z := (⟨"crossmarc/reading/Cursor", "passAsciiText", "(I)V"⟩ : MethodName)) hown (mvT hZ (hw _ (List.mem_of_getElem? (i := 58) rfl))) (mvT hZ (hw _ (List.mem_of_getElem? (i := 59) rfl))) (notFace_of_selects (args := #[]) (mvT hZ (hw _ (List.mem_of_getElem? (i := 61) rfl)))) (mvT hZ (hw _ (List.mem_of_getElem? (i := 61) rfl))) (mvT hZ (hw _ (List.mem_of_getElem? (i := 60) rfl))) (by decide) (backOf (W := 0) (own_ascii l Z a0 hw [] b65 z64 (-1 : Int32) (128 : Int32) (191 : Int32) (.ref we) (2 : Int32) (1 : Int32) (0 : Int32) (1 : Int32) ((0 : Int64) + (1 : Int64)) T79.heap n0 Zs79 gn65 Ec79 g79_0 g79_1 g79_2 g79_3 g79_4 g79_5 g79_6 g79_7 g79_8) hZ (hw _ (List.mem_of_getElem? (i := 62) rfl)) (hw _ (List.mem_of_getElem? (i := 7) rfl)) (by decide) (by decide)) q89a q89c (g := (mkF m 128 #[.val (.int p0), .val (.int p1), .val (.int p2), .val (.int p3), .val (.int z1), .val (.ref we), .val (.int (1 : Int32)), .val (.int (13 : Int32)), .val (.int z64), .val (.ref b65), .val (.int (2 : Int32)), .val (.int (1 : Int32)), .unset, .unset] [(.int z64), (.ref b65)])) rfl (by rw [hml]; rfl) (Steps.refl _) (argsL := [(.int z64)]) (rest := []) (lenOf own_pd3 rfl) rfl (by show 2 * 0 + _ ≤ _; exact Nat.le_of_eq rfl) (hb hby at_128) (fun _ _ => ⟨rfl, rfl, (by decide : 1 + 0 ≤ _), (by decide : 9 + 0 ≤ _)⟩)
      dsimp only [Pt.U, Pt.locs, Pt.cells, Pt.slots] at X88 lq88 yq88 zq88 st88 hQ88
      subst lq88 yq88 zq88
      obtain ⟨rfl, N88q, Kc88, Ec88, g88_0, g88_1, g88_2, g88_3, g88_4, g88_5, g88_6, g88_7, g88_8⟩ := hQ88
      have N88 := Fr.app N79 N88q
      have O88 := O79.keep Kc88 (allS gn65 all0)
      have Zs88 : n0 ≤ T88.heap.size := Nat.le_trans Zs79 Kc88.1
      refine own_by (V := T88.setTop (mkF m 131 #[.val (.int p0), .val (.int p1), .val (.int p2), .val (.int p3), .val (.int z1), .val (.ref we), .val (.int (1 : Int32)), .val (.int (13 : Int32)), .val (.int z64), .val (.ref b65), .val (.int (2 : Int32)), .val (.int (1 : Int32)), .unset, .unset] [])) (fun t k => st88.trans k) ?_
      refine own_by (V := T88.setTop (mkF m 133 #[.val (.int p0), .val (.int p1), .val (.int p2), .val (.int p3), .val (.int z1), .val (.ref we), .val (.int (1 : Int32)), .val (.int (13 : Int32)), .val (.int z64), .val (.ref b65), .val (.int (2 : Int32)), .val (.int (1 : Int32)), .unset, .unset] [(.ref b65)])) (fun t k => XS.aload X88.here hx rfl (hb hby at_131) rfl rfl k) ?_
      obtain ⟨cq91, kq91, q91a, q91b, q91c⟩ := isOf hZ rfl Ec88
      obtain ⟨_, _, ⟨T90, Lq90, kq90, nq90⟩, -, X90, ⟨Lc90, hQ90, lq90, yq90, zq90⟩, st90⟩ := X88.virtualBack hx (y := (⟨"crossmarc/reading/Cursor", "position", "()J"⟩ : MethodName)) (z := (⟨"crossmarc/reading/Cursor", "position", "()J"⟩ : MethodName)) hown (mvT hZ (hw _ (List.mem_of_getElem? (i := 63) rfl))) (mvT hZ (hw _ (List.mem_of_getElem? (i := 64) rfl))) (notFace_of_selects (args := #[]) (mvT hZ (hw _ (List.mem_of_getElem? (i := 66) rfl)))) (mvT hZ (hw _ (List.mem_of_getElem? (i := 66) rfl))) (mvT hZ (hw _ (List.mem_of_getElem? (i := 65) rfl))) (by decide) (backOf (W := 0) (own_position l Z a0 hw [] b65 (((0 : Int64) + (1 : Int64)) + (z64.toInt64)) T88.heap n0 g88_8) hZ (hw _ (List.mem_of_getElem? (i := 67) rfl)) (hw _ (List.mem_of_getElem? (i := 7) rfl)) (by decide) (by decide)) q91a q91c (g := (mkF m 133 #[.val (.int p0), .val (.int p1), .val (.int p2), .val (.int p3), .val (.int z1), .val (.ref we), .val (.int (1 : Int32)), .val (.int (13 : Int32)), .val (.int z64), .val (.ref b65), .val (.int (2 : Int32)), .val (.int (1 : Int32)), .unset, .unset] [(.ref b65)])) rfl (by rw [hml]; rfl) (Steps.refl _) (argsL := []) (rest := []) (lenOf own_pd5 rfl) rfl (by show 2 * 0 + _ ≤ _; exact Nat.le_of_eq rfl) (hb hby at_133) (fun _ _ => ⟨rfl, rfl, (by decide : 1 + 0 ≤ _), (by decide : 9 + 0 ≤ _)⟩)
      dsimp only [Pt.U, Pt.locs, Pt.cells, Pt.slots] at X90 lq90 yq90 zq90 st90 hQ90
      subst lq90 yq90 zq90
      obtain ⟨rfl, N90q, e90⟩ := hQ90
      have N90 := Fr.app N88 N90q
      refine own_by (V := T90.setTop (mkF m 136 #[.val (.int p0), .val (.int p1), .val (.int p2), .val (.int p3), .val (.int z1), .val (.ref we), .val (.int (1 : Int32)), .val (.int (13 : Int32)), .val (.int z64), .val (.ref b65), .val (.int (2 : Int32)), .val (.int (1 : Int32)), .unset, .unset] [(.long (((0 : Int64) + (1 : Int64)) + (z64.toInt64)))])) (fun t k => st90.trans k) ?_
      refine own_by (V := T90.setTop (mkF m 137 #[.val (.int p0), .val (.int p1), .val (.int p2), .val (.int p3), .val (.int z1), .val (.ref we), .val (.int (1 : Int32)), .val (.int (13 : Int32)), .val (.int z64), .val (.ref b65), .val (.int (2 : Int32)), .val (.int (1 : Int32)), .unset, .unset] [(.long (1 : Int64)), (.long (((0 : Int64) + (1 : Int64)) + (z64.toInt64)))])) (fun t k => XS.lconst X90.here hx rfl (hb hby at_136) k) ?_
      refine own_by (V := T90.setTop (mkF m 139 #[.val (.int p0), .val (.int p1), .val (.int p2), .val (.int p3), .val (.int z1), .val (.ref we), .val (.int (1 : Int32)), .val (.int (13 : Int32)), .val (.int z64), .val (.ref b65), .val (.int (2 : Int32)), .val (.int (1 : Int32)), .unset, .unset] [(.int z64), (.long (1 : Int64)), (.long (((0 : Int64) + (1 : Int64)) + (z64.toInt64)))])) (fun t k => XS.iload X90.here hx rfl (hb hby at_137) rfl  k) ?_
      refine own_by (V := T90.setTop (mkF m 140 #[.val (.int p0), .val (.int p1), .val (.int p2), .val (.int p3), .val (.int z1), .val (.ref we), .val (.int (1 : Int32)), .val (.int (13 : Int32)), .val (.int z64), .val (.ref b65), .val (.int (2 : Int32)), .val (.int (1 : Int32)), .unset, .unset] [(.long (z64.toInt64)), (.long (1 : Int64)), (.long (((0 : Int64) + (1 : Int64)) + (z64.toInt64)))])) (fun t k => XS.i2l X90.here hx rfl (hb hby at_139) rfl k) ?_
      refine own_by (V := T90.setTop (mkF m 141 #[.val (.int p0), .val (.int p1), .val (.int p2), .val (.int p3), .val (.int z1), .val (.ref we), .val (.int (1 : Int32)), .val (.int (13 : Int32)), .val (.int z64), .val (.ref b65), .val (.int (2 : Int32)), .val (.int (1 : Int32)), .unset, .unset] [(.long ((1 : Int64) + (z64.toInt64))), (.long (((0 : Int64) + (1 : Int64)) + (z64.toInt64)))])) (fun t k => XS.ladd X90.here hx rfl (hb hby at_140) rfl k) ?_
      refine own_by (V := T90.setTop (mkF m 142 #[.val (.int p0), .val (.int p1), .val (.int p2), .val (.int p3), .val (.int z1), .val (.ref we), .val (.int (1 : Int32)), .val (.int (13 : Int32)), .val (.int z64), .val (.ref b65), .val (.int (2 : Int32)), .val (.int (1 : Int32)), .unset, .unset] [(.int (lcmpW (((0 : Int64) + (1 : Int64)) + (z64.toInt64)) ((1 : Int64) + (z64.toInt64))))])) (fun t k => XS.lcmp X90.here hx rfl (hb hby at_141) rfl k) ?_
      have hb142_92 : ((lcmpW (((0 : Int64) + (1 : Int64)) + (z64.toInt64)) ((1 : Int64) + (z64.toInt64))) = (0 : Int32)) := (lw_eq _ _).mpr (by rw [Int64.zero_add])
      refine own_by (V := T90.setTop (mkF m 145 #[.val (.int p0), .val (.int p1), .val (.int p2), .val (.int p3), .val (.int z1), .val (.ref we), .val (.int (1 : Int32)), .val (.int (13 : Int32)), .val (.int z64), .val (.ref b65), .val (.int (2 : Int32)), .val (.int (1 : Int32)), .unset, .unset] [])) (fun t k => XS.ifNo X90.here hx rfl (hb hby at_142) rfl ((if0 _ _).trans (teq hb142_92).2) k) ?_
      refine own_by (V := T90.setTop (mkF m 147 #[.val (.int p0), .val (.int p1), .val (.int p2), .val (.int p3), .val (.int z1), .val (.ref we), .val (.int (1 : Int32)), .val (.int (13 : Int32)), .val (.int z64), .val (.ref b65), .val (.int (2 : Int32)), .val (.int (1 : Int32)), .unset, .unset] [(.ref b65)])) (fun t k => XS.aload X90.here hx rfl (hb hby at_145) rfl rfl k) ?_
      obtain ⟨cq94, kq94, q94a, q94b, q94c⟩ := isOf hZ e90 Ec88
      obtain ⟨_, _, ⟨T93, Lq93, kq93, nq93⟩, -, X93, ⟨Lc93, hQ93, lq93, yq93, zq93⟩, st93⟩ := X90.virtualBack hx (y := (⟨"crossmarc/reading/Cursor", "line", "()I"⟩ : MethodName)) (z := (⟨"crossmarc/reading/Cursor", "line", "()I"⟩ : MethodName)) hown (mvT hZ (hw _ (List.mem_of_getElem? (i := 68) rfl))) (mvT hZ (hw _ (List.mem_of_getElem? (i := 69) rfl))) (notFace_of_selects (args := #[]) (mvT hZ (hw _ (List.mem_of_getElem? (i := 71) rfl)))) (mvT hZ (hw _ (List.mem_of_getElem? (i := 71) rfl))) (mvT hZ (hw _ (List.mem_of_getElem? (i := 70) rfl))) (by decide) (backOf (W := 0) (own_line l Z a0 hw [] b65 (2 : Int32) T88.heap n0 g88_4) hZ (hw _ (List.mem_of_getElem? (i := 72) rfl)) (hw _ (List.mem_of_getElem? (i := 7) rfl)) (by decide) (by decide)) q94a q94c (g := (mkF m 147 #[.val (.int p0), .val (.int p1), .val (.int p2), .val (.int p3), .val (.int z1), .val (.ref we), .val (.int (1 : Int32)), .val (.int (13 : Int32)), .val (.int z64), .val (.ref b65), .val (.int (2 : Int32)), .val (.int (1 : Int32)), .unset, .unset] [(.ref b65)])) rfl (by rw [hml]; rfl) (Steps.refl _) (argsL := []) (rest := []) (lenOf own_pd1 rfl) rfl (by show 2 * 0 + _ ≤ _; exact Nat.le_of_eq rfl) (hb hby at_147) (fun _ _ => ⟨rfl, e90, (by decide : 1 + 0 ≤ _), (by decide : 9 + 0 ≤ _)⟩)
      dsimp only [Pt.U, Pt.locs, Pt.cells, Pt.slots] at X93 lq93 yq93 zq93 st93 hQ93
      subst lq93 yq93 zq93
      obtain ⟨rfl, N93q, e93⟩ := hQ93
      have N93 := Fr.app N90 N93q
      refine own_by (V := T93.setTop (mkF m 150 #[.val (.int p0), .val (.int p1), .val (.int p2), .val (.int p3), .val (.int z1), .val (.ref we), .val (.int (1 : Int32)), .val (.int (13 : Int32)), .val (.int z64), .val (.ref b65), .val (.int (2 : Int32)), .val (.int (1 : Int32)), .unset, .unset] [(.int (2 : Int32))])) (fun t k => st93.trans k) ?_
      refine own_by (V := T93.setTop (mkF m 152 #[.val (.int p0), .val (.int p1), .val (.int p2), .val (.int p3), .val (.int z1), .val (.ref we), .val (.int (1 : Int32)), .val (.int (13 : Int32)), .val (.int z64), .val (.ref b65), .val (.int (2 : Int32)), .val (.int (1 : Int32)), .unset, .unset] [(.int (2 : Int32)), (.int (2 : Int32))])) (fun t k => XS.iload X93.here hx rfl (hb hby at_150) rfl  k) ?_
      have hb152_95 : ((2 : Int32) = (2 : Int32)) := rfl
      refine own_by (V := T93.setTop (mkF m 155 #[.val (.int p0), .val (.int p1), .val (.int p2), .val (.int p3), .val (.int z1), .val (.ref we), .val (.int (1 : Int32)), .val (.int (13 : Int32)), .val (.int z64), .val (.ref b65), .val (.int (2 : Int32)), .val (.int (1 : Int32)), .unset, .unset] [])) (fun t k => XS.icmpNo X93.here hx rfl (hb hby at_152) rfl (teq hb152_95).2 k) ?_
      refine own_by (V := T93.setTop (mkF m 157 #[.val (.int p0), .val (.int p1), .val (.int p2), .val (.int p3), .val (.int z1), .val (.ref we), .val (.int (1 : Int32)), .val (.int (13 : Int32)), .val (.int z64), .val (.ref b65), .val (.int (2 : Int32)), .val (.int (1 : Int32)), .unset, .unset] [(.ref b65)])) (fun t k => XS.aload X93.here hx rfl (hb hby at_155) rfl rfl k) ?_
      refine own_by (V := T93.setTop (mkF m 159 #[.val (.int p0), .val (.int p1), .val (.int p2), .val (.int p3), .val (.int z1), .val (.ref we), .val (.int (1 : Int32)), .val (.int (13 : Int32)), .val (.int z64), .val (.ref b65), .val (.int (2 : Int32)), .val (.int (1 : Int32)), .unset, .unset] [(.int (2 : Int32)), (.ref b65)])) (fun t k => XS.iload X93.here hx rfl (hb hby at_157) rfl  k) ?_
      refine own_by (V := T93.setTop (mkF m 161 #[.val (.int p0), .val (.int p1), .val (.int p2), .val (.int p3), .val (.int z1), .val (.ref we), .val (.int (1 : Int32)), .val (.int (13 : Int32)), .val (.int z64), .val (.ref b65), .val (.int (2 : Int32)), .val (.int (1 : Int32)), .unset, .unset] [(.int (1 : Int32)), (.int (2 : Int32)), (.ref b65)])) (fun t k => XS.iload X93.here hx rfl (hb hby at_159) rfl  k) ?_
      refine own_by (V := T93.setTop (mkF m 163 #[.val (.int p0), .val (.int p1), .val (.int p2), .val (.int p3), .val (.int z1), .val (.ref we), .val (.int (1 : Int32)), .val (.int (13 : Int32)), .val (.int z64), .val (.ref b65), .val (.int (2 : Int32)), .val (.int (1 : Int32)), .unset, .unset] [(.int z64), (.int (1 : Int32)), (.int (2 : Int32)), (.ref b65)])) (fun t k => XS.iload X93.here hx rfl (hb hby at_161) rfl  k) ?_
      refine own_by (V := T93.setTop (mkF m 164 #[.val (.int p0), .val (.int p1), .val (.int p2), .val (.int p3), .val (.int z1), .val (.ref we), .val (.int (1 : Int32)), .val (.int (13 : Int32)), .val (.int z64), .val (.ref b65), .val (.int (2 : Int32)), .val (.int (1 : Int32)), .unset, .unset] [(.int ((1 : Int32) + z64)), (.int (2 : Int32)), (.ref b65)])) (fun t k => XS.iadd X93.here hx rfl (hb hby at_163) rfl k) ?_
      obtain ⟨cq97, kq97, q97a, q97b, q97c⟩ := isOf hZ e93 Ec88
      obtain ⟨_, _, ⟨T96, Lq96, kq96, nq96⟩, -, X96, ⟨Lc96, hQ96, lq96, yq96, zq96⟩, st96⟩ := X93.virtualBack hx (y := (⟨"crossmarc/reading/Cursor", "compareTo", "(II)I"⟩ : MethodName)) (z := (⟨"crossmarc/reading/Cursor", "compareTo", "(II)I"⟩ : MethodName)) hown (mvT hZ (hw _ (List.mem_of_getElem? (i := 73) rfl))) (mvT hZ (hw _ (List.mem_of_getElem? (i := 74) rfl))) (notFace_of_selects (args := #[]) (mvT hZ (hw _ (List.mem_of_getElem? (i := 76) rfl)))) (mvT hZ (hw _ (List.mem_of_getElem? (i := 76) rfl))) (mvT hZ (hw _ (List.mem_of_getElem? (i := 75) rfl))) (by decide) (backOf (W := 0) (own_compareTo l Z a0 hw [] b65 (2 : Int32) ((1 : Int32) + z64) (2 : Int32) ((1 : Int32) + z64) T88.heap n0 g88_4 g88_5) hZ (hw _ (List.mem_of_getElem? (i := 77) rfl)) (hw _ (List.mem_of_getElem? (i := 7) rfl)) (by decide) (by decide)) q97a q97c (g := (mkF m 164 #[.val (.int p0), .val (.int p1), .val (.int p2), .val (.int p3), .val (.int z1), .val (.ref we), .val (.int (1 : Int32)), .val (.int (13 : Int32)), .val (.int z64), .val (.ref b65), .val (.int (2 : Int32)), .val (.int (1 : Int32)), .unset, .unset] [(.int ((1 : Int32) + z64)), (.int (2 : Int32)), (.ref b65)])) rfl (by rw [hml]; rfl) (Steps.refl _) (argsL := [(.int (2 : Int32)), (.int ((1 : Int32) + z64))]) (rest := []) (lenOf own_pd0 rfl) rfl (by show 2 * 0 + _ ≤ _; exact Nat.le_of_eq rfl) (hb hby at_164) (fun _ _ => ⟨rfl, e93, (by decide : 1 + 0 ≤ _), (by decide : 9 + 0 ≤ _)⟩)
      dsimp only [Pt.U, Pt.locs, Pt.cells, Pt.slots] at X96 lq96 yq96 zq96 st96 hQ96
      subst lq96 yq96 zq96
      obtain ⟨rfl, N96q, e96⟩ := hQ96
      have N96 := Fr.app N93 N96q
      refine own_by (V := T96.setTop (mkF m 167 #[.val (.int p0), .val (.int p1), .val (.int p2), .val (.int p3), .val (.int z1), .val (.ref we), .val (.int (1 : Int32)), .val (.int (13 : Int32)), .val (.int z64), .val (.ref b65), .val (.int (2 : Int32)), .val (.int (1 : Int32)), .unset, .unset] [(.int (own_cmp2 (2 : Int32) ((1 : Int32) + z64) (2 : Int32) ((1 : Int32) + z64)))])) (fun t k => st96.trans k) ?_
      have hb167_98 : ((own_cmp2 (2 : Int32) ((1 : Int32) + z64) (2 : Int32) ((1 : Int32) + z64)) = (0 : Int32)) := own_cmp2_self _ _
      refine own_by (V := T96.setTop (mkF m 170 #[.val (.int p0), .val (.int p1), .val (.int p2), .val (.int p3), .val (.int z1), .val (.ref we), .val (.int (1 : Int32)), .val (.int (13 : Int32)), .val (.int z64), .val (.ref b65), .val (.int (2 : Int32)), .val (.int (1 : Int32)), .unset, .unset] [])) (fun t k => XS.ifNo X96.here hx rfl (hb hby at_167) rfl ((if0 _ _).trans (teq hb167_98).2) k) ?_
      refine own_by (V := T96.setTop (mkF m 171 #[.val (.int p0), .val (.int p1), .val (.int p2), .val (.int p3), .val (.int z1), .val (.ref we), .val (.int (1 : Int32)), .val (.int (13 : Int32)), .val (.int z64), .val (.ref b65), .val (.int (2 : Int32)), .val (.int (1 : Int32)), .unset, .unset] [(.int (1 : Int32))])) (fun t k => XS.iconst X96.here hx rfl (hb hby at_170) k) ?_
      refine own_by (V := T96.setTop (mkF m 175 #[.val (.int p0), .val (.int p1), .val (.int p2), .val (.int p3), .val (.int z1), .val (.ref we), .val (.int (1 : Int32)), .val (.int (13 : Int32)), .val (.int z64), .val (.ref b65), .val (.int (2 : Int32)), .val (.int (1 : Int32)), .unset, .unset] [(.int (1 : Int32))])) (fun t k => XS.goto X96.here hx rfl (pc0 := 171) (pc' := 175) rfl (hb hby at_171) (by decide) (by decide) k) ?_
      refine own_by (V := T96.setTop (mkF m 177 #[.val (.int p0), .val (.int p1), .val (.int p2), .val (.int p3), .val (.int z1), .val (.ref we), .val (.int (1 : Int32)), .val (.int (13 : Int32)), .val (.int z64), .val (.ref b65), .val (.int (2 : Int32)), .val (.int (1 : Int32)), .val (.int (1 : Int32)), .unset] [])) (fun t k => XS.istore X96.here hx rfl (hb hby at_175) rfl (l' := #[.val (.int p0), .val (.int p1), .val (.int p2), .val (.int p3), .val (.int z1), .val (.ref we), .val (.int (1 : Int32)), .val (.int (13 : Int32)), .val (.int z64), .val (.ref b65), .val (.int (2 : Int32)), .val (.int (1 : Int32)), .val (.int (1 : Int32)), .unset]) rfl k) ?_
      refine own_by (V := T96.setTop (mkF m 179 #[.val (.int p0), .val (.int p1), .val (.int p2), .val (.int p3), .val (.int z1), .val (.ref we), .val (.int (1 : Int32)), .val (.int (13 : Int32)), .val (.int z64), .val (.ref b65), .val (.int (2 : Int32)), .val (.int (1 : Int32)), .val (.int (1 : Int32)), .unset] [(.ref b65)])) (fun t k => XS.aload X96.here hx rfl (hb hby at_177) rfl rfl k) ?_
      refine own_by (V := T96.setTop (mkF m 181 #[.val (.int p0), .val (.int p1), .val (.int p2), .val (.int p3), .val (.int z1), .val (.ref we), .val (.int (1 : Int32)), .val (.int (13 : Int32)), .val (.int z64), .val (.ref b65), .val (.int (2 : Int32)), .val (.int (1 : Int32)), .val (.int (1 : Int32)), .unset] [(.int (10 : Int32)), (.ref b65)])) (fun t k => XS.bipush X96.here hx rfl (hb hby at_179) k) ?_
      obtain ⟨cq100, kq100, q100a, q100b, q100c⟩ := isOf hZ e96 Ec88
      obtain ⟨_, _, ⟨T99, Lq99, kq99, nq99⟩, -, X99, ⟨Lc99, hQ99, lq99, yq99, zq99⟩, st99⟩ := X96.virtualBack hx (y := (⟨"crossmarc/reading/Cursor", "pass", "(I)V"⟩ : MethodName)) (z := (⟨"crossmarc/reading/Cursor", "pass", "(I)V"⟩ : MethodName)) hown (mvT hZ (hw _ (List.mem_of_getElem? (i := 82) rfl))) (mvT hZ (hw _ (List.mem_of_getElem? (i := 50) rfl))) (notFace_of_selects (args := #[]) (mvT hZ (hw _ (List.mem_of_getElem? (i := 52) rfl)))) (mvT hZ (hw _ (List.mem_of_getElem? (i := 52) rfl))) (mvT hZ (hw _ (List.mem_of_getElem? (i := 51) rfl))) (by decide) (backOf (W := 0) (own_pass l Z a0 hw [] b65 (10 : Int32) (-1 : Int32) (128 : Int32) (191 : Int32) (.ref we) (2 : Int32) ((1 : Int32) + z64) (0 : Int32) (0 : Int32) (((0 : Int64) + (1 : Int64)) + (z64.toInt64)) T88.heap n0 Zs88 gn65 Ec88 g88_0 g88_1 g88_2 g88_3 g88_4 g88_5 g88_6 g88_7 g88_8) hZ (hw _ (List.mem_of_getElem? (i := 53) rfl)) (hw _ (List.mem_of_getElem? (i := 7) rfl)) (by decide) (by decide)) q100a q100c (g := (mkF m 181 #[.val (.int p0), .val (.int p1), .val (.int p2), .val (.int p3), .val (.int z1), .val (.ref we), .val (.int (1 : Int32)), .val (.int (13 : Int32)), .val (.int z64), .val (.ref b65), .val (.int (2 : Int32)), .val (.int (1 : Int32)), .val (.int (1 : Int32)), .unset] [(.int (10 : Int32)), (.ref b65)])) rfl (by rw [hml]; rfl) (Steps.refl _) (argsL := [(.int (10 : Int32))]) (rest := []) (lenOf own_pd3 rfl) rfl (by show 2 * 0 + _ ≤ _; exact Nat.le_of_eq rfl) (hb hby at_181) (fun _ _ => ⟨rfl, e96, (by decide : 1 + 0 ≤ _), (by decide : 9 + 0 ≤ _)⟩)
      dsimp only [Pt.U, Pt.locs, Pt.cells, Pt.slots] at X99 lq99 yq99 zq99 st99 hQ99
      subst lq99 yq99 zq99
      obtain ⟨rfl, N99q, Kc99, Ec99, g99_0, g99_1, g99_2, g99_3, g99_4, g99_5, g99_6, g99_7, g99_8⟩ := hQ99
      have N99 := Fr.app N96 N99q
      have O99 := O88.keep Kc99 (allS gn65 all0)
      have Zs99 : n0 ≤ T99.heap.size := Nat.le_trans Zs88 Kc99.1
      refine own_by (V := T99.setTop (mkF m 184 #[.val (.int p0), .val (.int p1), .val (.int p2), .val (.int p3), .val (.int z1), .val (.ref we), .val (.int (1 : Int32)), .val (.int (13 : Int32)), .val (.int z64), .val (.ref b65), .val (.int (2 : Int32)), .val (.int (1 : Int32)), .val (.int (1 : Int32)), .unset] [])) (fun t k => st99.trans k) ?_
      have q101 : ((2 : Int32) + (own_nl (0 : Int32) (10 : Int32))) = (3 : Int32) := by decide
      rw [q101] at g99_4
      have q102 : (own_nc ((1 : Int32) + z64) (10 : Int32)) = (1 : Int32) := if_pos (Or.inr rfl)
      rw [q102] at g99_5
      refine own_by (V := T99.setTop (mkF m 186 #[.val (.int p0), .val (.int p1), .val (.int p2), .val (.int p3), .val (.int z1), .val (.ref we), .val (.int (1 : Int32)), .val (.int (13 : Int32)), .val (.int z64), .val (.ref b65), .val (.int (2 : Int32)), .val (.int (1 : Int32)), .val (.int (1 : Int32)), .unset] [(.int z64)])) (fun t k => XS.iload X99.here hx rfl (hb hby at_184) rfl  k) ?_
      by_cases hb186_103 : z64 = (0 : Int32)
      · refine own_by (V := T99.setTop (mkF m 189 #[.val (.int p0), .val (.int p1), .val (.int p2), .val (.int p3), .val (.int z1), .val (.ref we), .val (.int (1 : Int32)), .val (.int (13 : Int32)), .val (.int z64), .val (.ref b65), .val (.int (2 : Int32)), .val (.int (1 : Int32)), .val (.int (1 : Int32)), .unset] [])) (fun t k => XS.ifNo X99.here hx rfl (hb hby at_186) rfl ((if0 _ _).trans (teq hb186_103).2) k) ?_
        refine own_by (V := T99.setTop (mkF m 191 #[.val (.int p0), .val (.int p1), .val (.int p2), .val (.int p3), .val (.int z1), .val (.ref we), .val (.int (1 : Int32)), .val (.int (13 : Int32)), .val (.int z64), .val (.ref b65), .val (.int (2 : Int32)), .val (.int (1 : Int32)), .val (.int (1 : Int32)), .unset] [(.int (1 : Int32))])) (fun t k => XS.iload X99.here hx rfl (hb hby at_189) rfl  k) ?_
        have hb191_104 : ¬ ((1 : Int32) = (0 : Int32)) := by decide
        refine own_by (V := T99.setTop (mkF m 219 #[.val (.int p0), .val (.int p1), .val (.int p2), .val (.int p3), .val (.int z1), .val (.ref we), .val (.int (1 : Int32)), .val (.int (13 : Int32)), .val (.int z64), .val (.ref b65), .val (.int (2 : Int32)), .val (.int (1 : Int32)), .val (.int (1 : Int32)), .unset] [])) (fun t k => XS.ifYes X99.here hx rfl (pc0 := 191) (pc' := 219) rfl (hb hby at_191) rfl ((if0 _ _).trans (feq hb191_104).2) (by decide) (by decide) k) ?_
        refine own_by (V := T99.setTop (mkF m 220 #[.val (.int p0), .val (.int p1), .val (.int p2), .val (.int p3), .val (.int z1), .val (.ref we), .val (.int (1 : Int32)), .val (.int (13 : Int32)), .val (.int z64), .val (.ref b65), .val (.int (2 : Int32)), .val (.int (1 : Int32)), .val (.int (1 : Int32)), .unset] [(.int (1 : Int32))])) (fun t k => XS.iconst X99.here hx rfl (hb hby at_219) k) ?_
        refine own_by (V := T99.setTop (mkF m 224 #[.val (.int p0), .val (.int p1), .val (.int p2), .val (.int p3), .val (.int z1), .val (.ref we), .val (.int (1 : Int32)), .val (.int (13 : Int32)), .val (.int z64), .val (.ref b65), .val (.int (2 : Int32)), .val (.int (1 : Int32)), .val (.int (1 : Int32)), .unset] [(.int (1 : Int32))])) (fun t k => XS.goto X99.here hx rfl (pc0 := 220) (pc' := 224) rfl (hb hby at_220) (by decide) (by decide) k) ?_
        refine own_by (V := T99.setTop (mkF m 226 #[.val (.int p0), .val (.int p1), .val (.int p2), .val (.int p3), .val (.int z1), .val (.ref we), .val (.int (1 : Int32)), .val (.int (13 : Int32)), .val (.int z64), .val (.ref b65), .val (.int (2 : Int32)), .val (.int (1 : Int32)), .val (.int (1 : Int32)), .val (.int (1 : Int32))] [])) (fun t k => XS.istore X99.here hx rfl (hb hby at_224) rfl (l' := #[.val (.int p0), .val (.int p1), .val (.int p2), .val (.int p3), .val (.int z1), .val (.ref we), .val (.int (1 : Int32)), .val (.int (13 : Int32)), .val (.int z64), .val (.ref b65), .val (.int (2 : Int32)), .val (.int (1 : Int32)), .val (.int (1 : Int32)), .val (.int (1 : Int32))]) rfl k) ?_
        refine own_by (V := T99.setTop (mkF m 228 #[.val (.int p0), .val (.int p1), .val (.int p2), .val (.int p3), .val (.int z1), .val (.ref we), .val (.int (1 : Int32)), .val (.int (13 : Int32)), .val (.int z64), .val (.ref b65), .val (.int (2 : Int32)), .val (.int (1 : Int32)), .val (.int (1 : Int32)), .val (.int (1 : Int32))] [(.int (1 : Int32))])) (fun t k => XS.iload X99.here hx rfl (hb hby at_226) rfl  k) ?_
        have hb228_105 : ¬ ((1 : Int32) = (0 : Int32)) := by decide
        refine own_by (V := T99.setTop (mkF m 231 #[.val (.int p0), .val (.int p1), .val (.int p2), .val (.int p3), .val (.int z1), .val (.ref we), .val (.int (1 : Int32)), .val (.int (13 : Int32)), .val (.int z64), .val (.ref b65), .val (.int (2 : Int32)), .val (.int (1 : Int32)), .val (.int (1 : Int32)), .val (.int (1 : Int32))] [])) (fun t k => XS.ifNo X99.here hx rfl (hb hby at_228) rfl ((if0 _ _).trans (feq hb228_105).1) k) ?_
        refine own_by (V := T99.setTop (mkF m 233 #[.val (.int p0), .val (.int p1), .val (.int p2), .val (.int p3), .val (.int z1), .val (.ref we), .val (.int (1 : Int32)), .val (.int (13 : Int32)), .val (.int z64), .val (.ref b65), .val (.int (2 : Int32)), .val (.int (1 : Int32)), .val (.int (1 : Int32)), .val (.int (1 : Int32))] [(.int (1 : Int32))])) (fun t k => XS.iload X99.here hx rfl (hb hby at_231) rfl  k) ?_
        have hb233_106 : ¬ ((1 : Int32) = (0 : Int32)) := by decide
        refine own_by (V := T99.setTop (mkF m 236 #[.val (.int p0), .val (.int p1), .val (.int p2), .val (.int p3), .val (.int z1), .val (.ref we), .val (.int (1 : Int32)), .val (.int (13 : Int32)), .val (.int z64), .val (.ref b65), .val (.int (2 : Int32)), .val (.int (1 : Int32)), .val (.int (1 : Int32)), .val (.int (1 : Int32))] [])) (fun t k => XS.ifNo X99.here hx rfl (hb hby at_233) rfl ((if0 _ _).trans (feq hb233_106).1) k) ?_
        refine own_by (V := T99.setTop (mkF m 237 #[.val (.int p0), .val (.int p1), .val (.int p2), .val (.int p3), .val (.int z1), .val (.ref we), .val (.int (1 : Int32)), .val (.int (13 : Int32)), .val (.int z64), .val (.ref b65), .val (.int (2 : Int32)), .val (.int (1 : Int32)), .val (.int (1 : Int32)), .val (.int (1 : Int32))] [(.int (1 : Int32))])) (fun t k => XS.iconst X99.here hx rfl (hb hby at_236) k) ?_
        refine own_by (V := T99.setTop (mkF m 241 #[.val (.int p0), .val (.int p1), .val (.int p2), .val (.int p3), .val (.int z1), .val (.ref we), .val (.int (1 : Int32)), .val (.int (13 : Int32)), .val (.int z64), .val (.ref b65), .val (.int (2 : Int32)), .val (.int (1 : Int32)), .val (.int (1 : Int32)), .val (.int (1 : Int32))] [(.int (1 : Int32))])) (fun t k => XS.goto X99.here hx rfl (pc0 := 237) (pc' := 241) rfl (hb hby at_237) (by decide) (by decide) k) ?_
        refine own_retN X99 hx hlk rfl Bd.returns (t := .boolean) (by simp) rfl (hb hby at_241) ?_ (by decide) (by decide)
        exact ⟨rfl, N99⟩
      · refine own_by (V := T99.setTop (mkF m 194 #[.val (.int p0), .val (.int p1), .val (.int p2), .val (.int p3), .val (.int z1), .val (.ref we), .val (.int (1 : Int32)), .val (.int (13 : Int32)), .val (.int z64), .val (.ref b65), .val (.int (2 : Int32)), .val (.int (1 : Int32)), .val (.int (1 : Int32)), .unset] [])) (fun t k => XS.ifYes X99.here hx rfl (pc0 := 186) (pc' := 194) rfl (hb hby at_186) rfl ((if0 _ _).trans (feq hb186_103).2) (by decide) (by decide) k) ?_
        refine own_by (V := T99.setTop (mkF m 196 #[.val (.int p0), .val (.int p1), .val (.int p2), .val (.int p3), .val (.int z1), .val (.ref we), .val (.int (1 : Int32)), .val (.int (13 : Int32)), .val (.int z64), .val (.ref b65), .val (.int (2 : Int32)), .val (.int (1 : Int32)), .val (.int (1 : Int32)), .unset] [(.ref b65)])) (fun t k => XS.aload X99.here hx rfl (hb hby at_194) rfl rfl k) ?_
        obtain ⟨cq108, kq108, q108a, q108b, q108c⟩ := isOf hZ rfl Ec99
        obtain ⟨_, _, ⟨T107, Lq107, kq107, nq107⟩, -, X107, ⟨Lc107, hQ107, lq107, yq107, zq107⟩, st107⟩ := X99.virtualBack hx (y := (⟨"crossmarc/reading/Cursor", "line", "()I"⟩ : MethodName)) (z := (⟨"crossmarc/reading/Cursor", "line", "()I"⟩ : MethodName)) hown (mvT hZ (hw _ (List.mem_of_getElem? (i := 68) rfl))) (mvT hZ (hw _ (List.mem_of_getElem? (i := 69) rfl))) (notFace_of_selects (args := #[]) (mvT hZ (hw _ (List.mem_of_getElem? (i := 71) rfl)))) (mvT hZ (hw _ (List.mem_of_getElem? (i := 71) rfl))) (mvT hZ (hw _ (List.mem_of_getElem? (i := 70) rfl))) (by decide) (backOf (W := 0) (own_line l Z a0 hw [] b65 (3 : Int32) T99.heap n0 g99_4) hZ (hw _ (List.mem_of_getElem? (i := 72) rfl)) (hw _ (List.mem_of_getElem? (i := 7) rfl)) (by decide) (by decide)) q108a q108c (g := (mkF m 196 #[.val (.int p0), .val (.int p1), .val (.int p2), .val (.int p3), .val (.int z1), .val (.ref we), .val (.int (1 : Int32)), .val (.int (13 : Int32)), .val (.int z64), .val (.ref b65), .val (.int (2 : Int32)), .val (.int (1 : Int32)), .val (.int (1 : Int32)), .unset] [(.ref b65)])) rfl (by rw [hml]; rfl) (Steps.refl _) (argsL := []) (rest := []) (lenOf own_pd1 rfl) rfl (by show 2 * 0 + _ ≤ _; exact Nat.le_of_eq rfl) (hb hby at_196) (fun _ _ => ⟨rfl, rfl, (by decide : 1 + 0 ≤ _), (by decide : 9 + 0 ≤ _)⟩)
        dsimp only [Pt.U, Pt.locs, Pt.cells, Pt.slots] at X107 lq107 yq107 zq107 st107 hQ107
        subst lq107 yq107 zq107
        obtain ⟨rfl, N107q, e107⟩ := hQ107
        have N107 := Fr.app N99 N107q
        refine own_by (V := T107.setTop (mkF m 199 #[.val (.int p0), .val (.int p1), .val (.int p2), .val (.int p3), .val (.int z1), .val (.ref we), .val (.int (1 : Int32)), .val (.int (13 : Int32)), .val (.int z64), .val (.ref b65), .val (.int (2 : Int32)), .val (.int (1 : Int32)), .val (.int (1 : Int32)), .unset] [(.int (3 : Int32))])) (fun t k => st107.trans k) ?_
        refine own_by (V := T107.setTop (mkF m 201 #[.val (.int p0), .val (.int p1), .val (.int p2), .val (.int p3), .val (.int z1), .val (.ref we), .val (.int (1 : Int32)), .val (.int (13 : Int32)), .val (.int z64), .val (.ref b65), .val (.int (2 : Int32)), .val (.int (1 : Int32)), .val (.int (1 : Int32)), .unset] [(.int (2 : Int32)), (.int (3 : Int32))])) (fun t k => XS.iload X107.here hx rfl (hb hby at_199) rfl  k) ?_
        refine own_by (V := T107.setTop (mkF m 202 #[.val (.int p0), .val (.int p1), .val (.int p2), .val (.int p3), .val (.int z1), .val (.ref we), .val (.int (1 : Int32)), .val (.int (13 : Int32)), .val (.int z64), .val (.ref b65), .val (.int (2 : Int32)), .val (.int (1 : Int32)), .val (.int (1 : Int32)), .unset] [(.int (1 : Int32)), (.int (2 : Int32)), (.int (3 : Int32))])) (fun t k => XS.iconst X107.here hx rfl (hb hby at_201) k) ?_
        refine own_by (V := T107.setTop (mkF m 203 #[.val (.int p0), .val (.int p1), .val (.int p2), .val (.int p3), .val (.int z1), .val (.ref we), .val (.int (1 : Int32)), .val (.int (13 : Int32)), .val (.int z64), .val (.ref b65), .val (.int (2 : Int32)), .val (.int (1 : Int32)), .val (.int (1 : Int32)), .unset] [(.int ((2 : Int32) + (1 : Int32))), (.int (3 : Int32))])) (fun t k => XS.iadd X107.here hx rfl (hb hby at_202) rfl k) ?_
        have hb203_109 : ((3 : Int32) = ((2 : Int32) + (1 : Int32))) := by decide
        refine own_by (V := T107.setTop (mkF m 206 #[.val (.int p0), .val (.int p1), .val (.int p2), .val (.int p3), .val (.int z1), .val (.ref we), .val (.int (1 : Int32)), .val (.int (13 : Int32)), .val (.int z64), .val (.ref b65), .val (.int (2 : Int32)), .val (.int (1 : Int32)), .val (.int (1 : Int32)), .unset] [])) (fun t k => XS.icmpNo X107.here hx rfl (hb hby at_203) rfl (teq hb203_109).2 k) ?_
        refine own_by (V := T107.setTop (mkF m 208 #[.val (.int p0), .val (.int p1), .val (.int p2), .val (.int p3), .val (.int z1), .val (.ref we), .val (.int (1 : Int32)), .val (.int (13 : Int32)), .val (.int z64), .val (.ref b65), .val (.int (2 : Int32)), .val (.int (1 : Int32)), .val (.int (1 : Int32)), .unset] [(.ref b65)])) (fun t k => XS.aload X107.here hx rfl (hb hby at_206) rfl rfl k) ?_
        refine own_by (V := T107.setTop (mkF m 210 #[.val (.int p0), .val (.int p1), .val (.int p2), .val (.int p3), .val (.int z1), .val (.ref we), .val (.int (1 : Int32)), .val (.int (13 : Int32)), .val (.int z64), .val (.ref b65), .val (.int (2 : Int32)), .val (.int (1 : Int32)), .val (.int (1 : Int32)), .unset] [(.int (2 : Int32)), (.ref b65)])) (fun t k => XS.iload X107.here hx rfl (hb hby at_208) rfl  k) ?_
        refine own_by (V := T107.setTop (mkF m 211 #[.val (.int p0), .val (.int p1), .val (.int p2), .val (.int p3), .val (.int z1), .val (.ref we), .val (.int (1 : Int32)), .val (.int (13 : Int32)), .val (.int z64), .val (.ref b65), .val (.int (2 : Int32)), .val (.int (1 : Int32)), .val (.int (1 : Int32)), .unset] [(.int (1 : Int32)), (.int (2 : Int32)), (.ref b65)])) (fun t k => XS.iconst X107.here hx rfl (hb hby at_210) k) ?_
        refine own_by (V := T107.setTop (mkF m 212 #[.val (.int p0), .val (.int p1), .val (.int p2), .val (.int p3), .val (.int z1), .val (.ref we), .val (.int (1 : Int32)), .val (.int (13 : Int32)), .val (.int z64), .val (.ref b65), .val (.int (2 : Int32)), .val (.int (1 : Int32)), .val (.int (1 : Int32)), .unset] [(.int ((2 : Int32) + (1 : Int32))), (.ref b65)])) (fun t k => XS.iadd X107.here hx rfl (hb hby at_211) rfl k) ?_
        refine own_by (V := T107.setTop (mkF m 213 #[.val (.int p0), .val (.int p1), .val (.int p2), .val (.int p3), .val (.int z1), .val (.ref we), .val (.int (1 : Int32)), .val (.int (13 : Int32)), .val (.int z64), .val (.ref b65), .val (.int (2 : Int32)), .val (.int (1 : Int32)), .val (.int (1 : Int32)), .unset] [(.int (1 : Int32)), (.int ((2 : Int32) + (1 : Int32))), (.ref b65)])) (fun t k => XS.iconst X107.here hx rfl (hb hby at_212) k) ?_
        obtain ⟨cq111, kq111, q111a, q111b, q111c⟩ := isOf hZ e107 Ec99
        obtain ⟨_, _, ⟨T110, Lq110, kq110, nq110⟩, -, X110, ⟨Lc110, hQ110, lq110, yq110, zq110⟩, st110⟩ := X107.virtualBack hx (y := (⟨"crossmarc/reading/Cursor", "compareTo", "(II)I"⟩ : MethodName)) (z := (⟨"crossmarc/reading/Cursor", "compareTo", "(II)I"⟩ : MethodName)) hown (mvT hZ (hw _ (List.mem_of_getElem? (i := 73) rfl))) (mvT hZ (hw _ (List.mem_of_getElem? (i := 74) rfl))) (notFace_of_selects (args := #[]) (mvT hZ (hw _ (List.mem_of_getElem? (i := 76) rfl)))) (mvT hZ (hw _ (List.mem_of_getElem? (i := 76) rfl))) (mvT hZ (hw _ (List.mem_of_getElem? (i := 75) rfl))) (by decide) (backOf (W := 0) (own_compareTo l Z a0 hw [] b65 ((2 : Int32) + (1 : Int32)) (1 : Int32) (3 : Int32) (1 : Int32) T99.heap n0 g99_4 g99_5) hZ (hw _ (List.mem_of_getElem? (i := 77) rfl)) (hw _ (List.mem_of_getElem? (i := 7) rfl)) (by decide) (by decide)) q111a q111c (g := (mkF m 213 #[.val (.int p0), .val (.int p1), .val (.int p2), .val (.int p3), .val (.int z1), .val (.ref we), .val (.int (1 : Int32)), .val (.int (13 : Int32)), .val (.int z64), .val (.ref b65), .val (.int (2 : Int32)), .val (.int (1 : Int32)), .val (.int (1 : Int32)), .unset] [(.int (1 : Int32)), (.int ((2 : Int32) + (1 : Int32))), (.ref b65)])) rfl (by rw [hml]; rfl) (Steps.refl _) (argsL := [(.int ((2 : Int32) + (1 : Int32))), (.int (1 : Int32))]) (rest := []) (lenOf own_pd0 rfl) rfl (by show 2 * 0 + _ ≤ _; exact Nat.le_of_eq rfl) (hb hby at_213) (fun _ _ => ⟨rfl, e107, (by decide : 1 + 0 ≤ _), (by decide : 9 + 0 ≤ _)⟩)
        dsimp only [Pt.U, Pt.locs, Pt.cells, Pt.slots] at X110 lq110 yq110 zq110 st110 hQ110
        subst lq110 yq110 zq110
        obtain ⟨rfl, N110q, e110⟩ := hQ110
        have N110 := Fr.app N107 N110q
        refine own_by (V := T110.setTop (mkF m 216 #[.val (.int p0), .val (.int p1), .val (.int p2), .val (.int p3), .val (.int z1), .val (.ref we), .val (.int (1 : Int32)), .val (.int (13 : Int32)), .val (.int z64), .val (.ref b65), .val (.int (2 : Int32)), .val (.int (1 : Int32)), .val (.int (1 : Int32)), .unset] [(.int (own_cmp2 (3 : Int32) (1 : Int32) ((2 : Int32) + (1 : Int32)) (1 : Int32)))])) (fun t k => st110.trans k) ?_
        have hb216_112 : ((own_cmp2 (3 : Int32) (1 : Int32) ((2 : Int32) + (1 : Int32)) (1 : Int32)) = (0 : Int32)) := by decide
        refine own_by (V := T110.setTop (mkF m 219 #[.val (.int p0), .val (.int p1), .val (.int p2), .val (.int p3), .val (.int z1), .val (.ref we), .val (.int (1 : Int32)), .val (.int (13 : Int32)), .val (.int z64), .val (.ref b65), .val (.int (2 : Int32)), .val (.int (1 : Int32)), .val (.int (1 : Int32)), .unset] [])) (fun t k => XS.ifNo X110.here hx rfl (hb hby at_216) rfl ((if0 _ _).trans (teq hb216_112).2) k) ?_
        refine own_by (V := T110.setTop (mkF m 220 #[.val (.int p0), .val (.int p1), .val (.int p2), .val (.int p3), .val (.int z1), .val (.ref we), .val (.int (1 : Int32)), .val (.int (13 : Int32)), .val (.int z64), .val (.ref b65), .val (.int (2 : Int32)), .val (.int (1 : Int32)), .val (.int (1 : Int32)), .unset] [(.int (1 : Int32))])) (fun t k => XS.iconst X110.here hx rfl (hb hby at_219) k) ?_
        refine own_by (V := T110.setTop (mkF m 224 #[.val (.int p0), .val (.int p1), .val (.int p2), .val (.int p3), .val (.int z1), .val (.ref we), .val (.int (1 : Int32)), .val (.int (13 : Int32)), .val (.int z64), .val (.ref b65), .val (.int (2 : Int32)), .val (.int (1 : Int32)), .val (.int (1 : Int32)), .unset] [(.int (1 : Int32))])) (fun t k => XS.goto X110.here hx rfl (pc0 := 220) (pc' := 224) rfl (hb hby at_220) (by decide) (by decide) k) ?_
        refine own_by (V := T110.setTop (mkF m 226 #[.val (.int p0), .val (.int p1), .val (.int p2), .val (.int p3), .val (.int z1), .val (.ref we), .val (.int (1 : Int32)), .val (.int (13 : Int32)), .val (.int z64), .val (.ref b65), .val (.int (2 : Int32)), .val (.int (1 : Int32)), .val (.int (1 : Int32)), .val (.int (1 : Int32))] [])) (fun t k => XS.istore X110.here hx rfl (hb hby at_224) rfl (l' := #[.val (.int p0), .val (.int p1), .val (.int p2), .val (.int p3), .val (.int z1), .val (.ref we), .val (.int (1 : Int32)), .val (.int (13 : Int32)), .val (.int z64), .val (.ref b65), .val (.int (2 : Int32)), .val (.int (1 : Int32)), .val (.int (1 : Int32)), .val (.int (1 : Int32))]) rfl k) ?_
        refine own_by (V := T110.setTop (mkF m 228 #[.val (.int p0), .val (.int p1), .val (.int p2), .val (.int p3), .val (.int z1), .val (.ref we), .val (.int (1 : Int32)), .val (.int (13 : Int32)), .val (.int z64), .val (.ref b65), .val (.int (2 : Int32)), .val (.int (1 : Int32)), .val (.int (1 : Int32)), .val (.int (1 : Int32))] [(.int (1 : Int32))])) (fun t k => XS.iload X110.here hx rfl (hb hby at_226) rfl  k) ?_
        have hb228_113 : ¬ ((1 : Int32) = (0 : Int32)) := by decide
        refine own_by (V := T110.setTop (mkF m 231 #[.val (.int p0), .val (.int p1), .val (.int p2), .val (.int p3), .val (.int z1), .val (.ref we), .val (.int (1 : Int32)), .val (.int (13 : Int32)), .val (.int z64), .val (.ref b65), .val (.int (2 : Int32)), .val (.int (1 : Int32)), .val (.int (1 : Int32)), .val (.int (1 : Int32))] [])) (fun t k => XS.ifNo X110.here hx rfl (hb hby at_228) rfl ((if0 _ _).trans (feq hb228_113).1) k) ?_
        refine own_by (V := T110.setTop (mkF m 233 #[.val (.int p0), .val (.int p1), .val (.int p2), .val (.int p3), .val (.int z1), .val (.ref we), .val (.int (1 : Int32)), .val (.int (13 : Int32)), .val (.int z64), .val (.ref b65), .val (.int (2 : Int32)), .val (.int (1 : Int32)), .val (.int (1 : Int32)), .val (.int (1 : Int32))] [(.int (1 : Int32))])) (fun t k => XS.iload X110.here hx rfl (hb hby at_231) rfl  k) ?_
        have hb233_114 : ¬ ((1 : Int32) = (0 : Int32)) := by decide
        refine own_by (V := T110.setTop (mkF m 236 #[.val (.int p0), .val (.int p1), .val (.int p2), .val (.int p3), .val (.int z1), .val (.ref we), .val (.int (1 : Int32)), .val (.int (13 : Int32)), .val (.int z64), .val (.ref b65), .val (.int (2 : Int32)), .val (.int (1 : Int32)), .val (.int (1 : Int32)), .val (.int (1 : Int32))] [])) (fun t k => XS.ifNo X110.here hx rfl (hb hby at_233) rfl ((if0 _ _).trans (feq hb233_114).1) k) ?_
        refine own_by (V := T110.setTop (mkF m 237 #[.val (.int p0), .val (.int p1), .val (.int p2), .val (.int p3), .val (.int z1), .val (.ref we), .val (.int (1 : Int32)), .val (.int (13 : Int32)), .val (.int z64), .val (.ref b65), .val (.int (2 : Int32)), .val (.int (1 : Int32)), .val (.int (1 : Int32)), .val (.int (1 : Int32))] [(.int (1 : Int32))])) (fun t k => XS.iconst X110.here hx rfl (hb hby at_236) k) ?_
        refine own_by (V := T110.setTop (mkF m 241 #[.val (.int p0), .val (.int p1), .val (.int p2), .val (.int p3), .val (.int z1), .val (.ref we), .val (.int (1 : Int32)), .val (.int (13 : Int32)), .val (.int z64), .val (.ref b65), .val (.int (2 : Int32)), .val (.int (1 : Int32)), .val (.int (1 : Int32)), .val (.int (1 : Int32))] [(.int (1 : Int32))])) (fun t k => XS.goto X110.here hx rfl (pc0 := 237) (pc' := 241) rfl (hb hby at_237) (by decide) (by decide) k) ?_
        refine own_retN X110 hx hlk e110 Bd.returns (t := .boolean) (by simp) rfl (hb hby at_241) ?_ (by decide) (by decide)
        exact ⟨rfl, N110⟩
  by_cases hb10_115 : z1 = (0 : Int32)
  · refine own_by (V := s₁.setTop (mkF m 13 #[.val (.int p0), .val (.int p1), .val (.int p2), .val (.int p3), .val (.int z1), .unset, .unset, .unset, .unset, .unset, .unset, .unset, .unset, .unset] [])) (fun t k => XS.ifNo X0.here hx rfl (hb hby at_10) rfl ((if0 _ _).trans (teq hb10_115).2) k) ?_
    obtain ⟨T116, X116, e116, st116⟩ := getS2 X0 hx hZ hown (host := "") (Or.inl (hw _ (List.mem_of_getElem? (i := 1) rfl))) Via.refl e0 (S0.ext O0.2) (g := (mkF m 13 #[.val (.int p0), .val (.int p1), .val (.int p2), .val (.int p3), .val (.int z1), .unset, .unset, .unset, .unset, .unset, .unset, .unset, .unset, .unset] [])) rfl (hb hby at_13)
    refine own_by (V := T116.setTop (mkF m 16 #[.val (.int p0), .val (.int p1), .val (.int p2), .val (.int p3), .val (.int z1), .unset, .unset, .unset, .unset, .unset, .unset, .unset, .unset, .unset] [(.ref w0)])) st116 ?_
    refine own_by (V := T116.setTop (mkF m 34 #[.val (.int p0), .val (.int p1), .val (.int p2), .val (.int p3), .val (.int z1), .unset, .unset, .unset, .unset, .unset, .unset, .unset, .unset, .unset] [(.ref w0)])) (fun t k => XS.goto X116.here hx rfl (pc0 := 16) (pc' := 34) rfl (hb hby at_16) (by decide) (by decide) k) ?_
    exact J2 T116 _ w0 (0 : Int32) (3 : Int32) (X116.more (by decide) (by decide)) e116 N0 E0 G0 M0 (by decide)
  · refine own_by (V := s₁.setTop (mkF m 19 #[.val (.int p0), .val (.int p1), .val (.int p2), .val (.int p3), .val (.int z1), .unset, .unset, .unset, .unset, .unset, .unset, .unset, .unset, .unset] [])) (fun t k => XS.ifYes X0.here hx rfl (pc0 := 10) (pc' := 19) rfl (hb hby at_10) rfl ((if0 _ _).trans (feq hb10_115).2) (by decide) (by decide) k) ?_
    refine own_by (V := s₁.setTop (mkF m 21 #[.val (.int p0), .val (.int p1), .val (.int p2), .val (.int p3), .val (.int z1), .unset, .unset, .unset, .unset, .unset, .unset, .unset, .unset, .unset] [(.int z1)])) (fun t k => XS.iload X0.here hx rfl (hb hby at_19) rfl  k) ?_
    refine own_by (V := s₁.setTop (mkF m 22 #[.val (.int p0), .val (.int p1), .val (.int p2), .val (.int p3), .val (.int z1), .unset, .unset, .unset, .unset, .unset, .unset, .unset, .unset, .unset] [(.int (1 : Int32)), (.int z1)])) (fun t k => XS.iconst X0.here hx rfl (hb hby at_21) k) ?_
    by_cases hb22_117 : z1 = (1 : Int32)
    · refine own_by (V := s₁.setTop (mkF m 25 #[.val (.int p0), .val (.int p1), .val (.int p2), .val (.int p3), .val (.int z1), .unset, .unset, .unset, .unset, .unset, .unset, .unset, .unset, .unset] [])) (fun t k => XS.icmpNo X0.here hx rfl (hb hby at_22) rfl (teq hb22_117).2 k) ?_
      obtain ⟨T118, X118, e118, st118⟩ := getS2 X0 hx hZ hown (host := "") (Or.inl (hw _ (List.mem_of_getElem? (i := 83) rfl))) Via.refl e0 (S1.ext O0.2) (g := (mkF m 25 #[.val (.int p0), .val (.int p1), .val (.int p2), .val (.int p3), .val (.int z1), .unset, .unset, .unset, .unset, .unset, .unset, .unset, .unset, .unset] [])) rfl (hb hby at_25)
      refine own_by (V := T118.setTop (mkF m 28 #[.val (.int p0), .val (.int p1), .val (.int p2), .val (.int p3), .val (.int z1), .unset, .unset, .unset, .unset, .unset, .unset, .unset, .unset, .unset] [(.ref w1)])) st118 ?_
      refine own_by (V := T118.setTop (mkF m 34 #[.val (.int p0), .val (.int p1), .val (.int p2), .val (.int p3), .val (.int z1), .unset, .unset, .unset, .unset, .unset, .unset, .unset, .unset, .unset] [(.ref w1)])) (fun t k => XS.goto X118.here hx rfl (pc0 := 28) (pc' := 34) rfl (hb hby at_28) (by decide) (by decide) k) ?_
      exact J2 T118 _ w1 (1 : Int32) (4 : Int32) (X118.more (by decide) (by decide)) e118 N0 E1 G1 M1 (by decide)
    · refine own_by (V := s₁.setTop (mkF m 31 #[.val (.int p0), .val (.int p1), .val (.int p2), .val (.int p3), .val (.int z1), .unset, .unset, .unset, .unset, .unset, .unset, .unset, .unset, .unset] [])) (fun t k => XS.icmpYes X0.here hx rfl (pc0 := 22) (pc' := 31) rfl (hb hby at_22) rfl (feq hb22_117).2 (by decide) (by decide) k) ?_
      obtain ⟨T119, X119, e119, st119⟩ := getS2 X0 hx hZ hown (host := "") (Or.inl (hw _ (List.mem_of_getElem? (i := 85) rfl))) Via.refl e0 (S2.ext O0.2) (g := (mkF m 31 #[.val (.int p0), .val (.int p1), .val (.int p2), .val (.int p3), .val (.int z1), .unset, .unset, .unset, .unset, .unset, .unset, .unset, .unset, .unset] [])) rfl (hb hby at_31)
      refine own_by (V := T119.setTop (mkF m 34 #[.val (.int p0), .val (.int p1), .val (.int p2), .val (.int p3), .val (.int z1), .unset, .unset, .unset, .unset, .unset, .unset, .unset, .unset, .unset] [(.ref w2)])) st119 ?_
      exact J2 T119 _ w2 (4 : Int32) (5 : Int32) (X119.more (by decide) (by decide)) e119 N0 E2 G2 M2 (by decide)
set_option maxRecDepth 65536 in
set_option maxHeartbeats 40000000 in
theorem own_comes {Post : Tables → Env → Array Value → State → Outcome → State → Prop} (hpost : ∀ tb e args s v u, (limb_1_1.after args s (.returned v) u = true ∧ limb_1_2.after args s (.returned v) u = true ∧ True) → FrameEnd s (.returned v) u (Jvm.fieldLocs frame_1_writes args s ++ Jvm.arrayLocs frame_1_arrays args s ++ Jvm.staticLocs frame_1_statics s) 16 128 → Post tb e args s (.returned v) u) :
    ArmFor flags0 classFile x code maxLocals ret World_1 tables_1 room_1 Calls_1 rest_1 Pre_1 Post := by
  intro l hfl _ _ p e ha hc hk s m args below hf hA hF happ hP
  obtain ⟨hcalls, hrest, hpre⟩ := hP
  obtain ⟨-, -, -, hnamed, -, -, -, hat⟩ := (Spec.applies_iff hf).mp happ
  obtain ⟨hg, hn⟩ := and_e (Cond.before_iff.mp (show (Jvm.Cond.and given_1 narrow_1).before args s = true from hpre))
  obtain ⟨hc0, hr0⟩ := and_e hg
  obtain ⟨hv0, hr1⟩ := and_e hr0
  obtain ⟨hv1, hr2⟩ := and_e hr1
  obtain ⟨hv2, hr3⟩ := and_e hr2
  have hv3 := hr3
  obtain ⟨w0, w1, w2, w3, rfl⟩ : ∃ w0 w1 w2 w3 : Value, args = #[w0, w1, w2, w3] := by
    have hs : args.size = 4 := by simpa [Cond.value, given_1] using hc0
    obtain ⟨L⟩ := args
    match L, hs with
    | [w0, w1, w2, w3], _ => exact ⟨w0, w1, w2, w3, rfl⟩
  have hw := fun d (hd : d ∈ tables_1) => atoms_spec (ws := Jvm.Cond.code x code maxLocals ret :: tables_1) hat d (List.mem_cons_of_mem _ hd)
  have hfit : Fit s := fun {y c} hc i hi => by
    obtain ⟨ha, rfl⟩ := Array.getElem?_eq_some_iff.mp hc
    have q := List.all_eq_true.mp ((Array.all_eq_true_iff_forall_mem.mp hF) _ (Array.getElem_mem ha)) i (List.mem_range.mpr hi)
    simpa [Array.getElem?_eq_getElem hi] using q
  obtain ⟨i0, ei0⟩ := is_v hv0
  obtain rfl : w0 = (.int i0) := Option.some.inj ei0
  obtain ⟨i1, ei1⟩ := is_v hv1
  obtain rfl : w1 = (.int i1) := Option.some.inj ei1
  obtain ⟨i2, ei2⟩ := is_v hv2
  obtain rfl : w2 = (.int i2) := Option.some.inj ei2
  obtain ⟨i3, ei3⟩ := is_v hv3
  obtain rfl : w3 = (.int i3) := Option.some.inj ei3
  obtain ⟨hx0, hq0⟩ := and_e hn
  obtain ⟨hma, hq1⟩ := and_e hq0
  obtain ⟨hml0, hq2⟩ := and_e hq1
  obtain ⟨ho0, hq3⟩ := and_e hq2
  obtain ⟨hx1, hq4⟩ := and_e hq3
  obtain ⟨ho1, hq5⟩ := and_e hq4
  obtain ⟨hx2, hq6⟩ := and_e hq5
  obtain ⟨ho2, hq7⟩ := and_e hq6
  obtain ⟨he0, hq8⟩ := and_e hq7
  obtain ⟨he1, hq9⟩ := and_e hq8
  obtain ⟨he2, hq10⟩ := and_e hq9
  obtain ⟨he3, he4⟩ := and_e hq10
  obtain ⟨wm, evm⟩ := arr_v hma
  have Sm := Sta.start evm (Or.inr ⟨(hw _ (List.mem_of_getElem? (i := 32) rfl)), (hw _ (List.mem_of_getElem? (i := 33) rfl))⟩)
  obtain ⟨clm, Am⟩ := Arr.start evm hma
  obtain ⟨v0, ev0⟩ := exa_v hx0
  have S0 := Sta.start ev0 (Or.inr ⟨(hw _ (List.mem_of_getElem? (i := 2) rfl)), (hw _ (List.mem_of_getElem? (i := 3) rfl))⟩)
  have E0 := Exa.start ev0 hx0
  have G0 := own_fldS ev0 ho0
  have M0 := own_elemI evm Am he0
  obtain ⟨v1, ev1⟩ := exa_v hx1
  have S1 := Sta.start ev1 (Or.inr ⟨(hw _ (List.mem_of_getElem? (i := 2) rfl)), (hw _ (List.mem_of_getElem? (i := 84) rfl))⟩)
  have E1 := Exa.start ev1 hx1
  have G1 := own_fldS ev1 ho1
  have M1 := own_elemI evm Am he1
  obtain ⟨v2, ev2⟩ := exa_v hx2
  have S2 := Sta.start ev2 (Or.inr ⟨(hw _ (List.mem_of_getElem? (i := 2) rfl)), (hw _ (List.mem_of_getElem? (i := 86) rfl))⟩)
  have E2 := Exa.start ev2 hx2
  have G2 := own_fldS ev2 ho2
  have M2 := own_elemI evm Am he4
  obtain ⟨n, o, h1, h2, h3, _, L, rfl, ⟨rfl, N⟩, hq⟩ := own_rm0 l s _ hw tables_1 i0 i1 i2 i3  s.heap s.heap.size (Nat.le_refl _) (Old.start s) v0 v1 v2 wm clm S0 E0 G0 M0 S1 E1 G1 M1 S2 E2 G2 M2 Sm Am p e ha hc hk s m _ below hf ((Spec.applies_iff_loose hf).mp happ).1 ⟨rfl, State.Warmed39.refl s, rfl⟩ trivial
  refine ⟨n, _, h1, h2, h3, hpost _ _ _ _ _ _ ⟨Cond.after_iff.mpr rfl, Cond.after_iff.mpr (eq_i res_at (Term.int_eval (1)) rfl), trivial⟩ ⟨hq.1, hq.2.1, (hq.2.2.sift fun y hy => Or.inr (N y hy)).mono (by decide) (by decide)⟩⟩
theorem main_1_1 : Claimed_1_1 := own_comes fun _ _ _ _ _ _ h hF => ⟨h.1, hF⟩
theorem main_1_2 : Claimed_1_2 := own_comes fun _ _ _ _ _ _ h hF => ⟨h.2.1, hF⟩

end Jvm.Pilot.@@N@@
namespace Jvm.Pilot.@@N@@
open Jvm Jvm.ClassFile Sem Op Lib Jvm.Free Jvm.Stand Jvm.Pilot.@@N@@.Jvm.D
/-! MADE BY PROGRAM (witnessworld.py) out of the Statement's table words and the real class files: 17 classes; the members and pool entries that the words name. The judged class is class 1, her method 1. -/
namespace start1
open Jvm.ClassFile
def u (s : String) : CpInfo := .utf8 (stringToUtf16 s)
/-- a pool by its gaps: so many unusable entries, then the entry; so many at the end -/
def gap : Nat → List CpInfo → List CpInfo
  | 0, r => r
  | n + 1, r => .unusable :: gap n r
def poolList (es : List (Nat × CpInfo)) (last : Nat) : List CpInfo := es.foldr (fun e r => gap e.1 (e.2 :: r)) (gap last [])
def pool (es : List (Nat × CpInfo)) (last : Nat) : Array CpInfo := ⟨poolList es last⟩
def fileOf (pool : Array CpInfo) (this : Nat) (attrs : Array Attribute := #[]) (ms : Array MethodInfo := #[]) (fl : Nat := 33) (sup : Nat := 0) (ifs : Array Nat := #[]) (fds : Array FieldInfo := #[]) : ClassFile where
  minorVersion := 0
  majorVersion := 65
  constantPool := pool
  accessFlags := fl
  thisClass := this
  superClass := sup
  interfaces := ifs
  fields := fds
  methods := ms
  attributes := attrs
def plain (name : String) (sup : Option ClassId) : Class where
  name := name
  kind := .ordinary
  loader := none
  accessFlags := 33
  super := sup
  interfaces := #[]
  cf := none
  fields := #[]
  methods := #[]
  instanceTypes := #[]
  staticTypes := #[]
  resolved := #[]
  callSites := []
  init := .initialized
  statics := none
  mirror := none

def pool0 : Array CpInfo := pool [(5, u "<init>"), (0, u "()V"), (1, .class_ 10), (1, u "java/lang/Object")] 113

def k0c0 : Code := { maxStack := 0, maxLocals := 1, code := object_method_1_code, exceptionTable := #[], attributes := #[] }
def k0m0 : Method := { name := "<init>", desc := "()V", sig := { parameters := [], returnType := none }, accessFlags := 1, code := some k0c0 }
/-- java/lang/Object -/
def k0 : Class := { plain "java/lang/Object" none with
  accessFlags := 33
  interfaces := #[]
  cf := some (fileOf pool0 8 #[] #[{ accessFlags := 1, nameIndex := 5, descriptorIndex := 6, attributes := #[] }] 33 0 #[] #[])
  fields := #[]
  methods := #[k0m0]
  instanceTypes := #[]
  staticTypes := #[]
  resolved := Array.replicate 124 none
  statics := none }

def pool1 : Array CpInfo := pool [(2, .class_ 4), (1, u "java/lang/Object"), (0, u "<init>"), (0, u "()V"), (0, .integer 2147483647), (0, .fieldref 9 10), (0, .class_ 11), (0, .nameAndType 12 13), (0, u "crossmarc/reading/CheckedEncoding"), (0, u "UTF_8"), (0, u "Lcrossmarc/reading/CheckedEncoding;"), (0, .fieldref 9 15), (0, .nameAndType 16 13), (0, u "US_ASCII"), (0, .fieldref 9 18), (0, .nameAndType 19 13), (0, u "SINGLE_BYTE"), (0, .integer 1073741823), (0, .class_ 22), (0, u "crossmarc/reading/Cursor"), (0, .methodref 21 24), (0, .nameAndType 5 25), (0, u "(Lcrossmarc/reading/CheckedEncoding;)V"), (0, .methodref 21 27), (0, .nameAndType 28 29), (0, u "take"), (0, u "(I)Z"), (0, .methodref 21 31), (0, .nameAndType 32 33), (0, u "passAsciiText"), (0, u "(I)V"), (0, .methodref 21 35), (0, .nameAndType 36 37), (0, u "position"), (0, u "()J"), (0, .methodref 21 39), (0, .nameAndType 40 41), (0, u "line"), (0, u "()I"), (0, .methodref 21 43), (0, .nameAndType 44 45), (0, u "compareTo"), (0, u "(II)I"), (0, .methodref 21 47), (0, .nameAndType 48 33), (0, u "pass"), (0, .class_ 50), (0, u "crossmarc/reading/CursorPassAsciiTextPinLaw"), (2, u "law"), (0, u "(IIII)Z")] 3

def k1m0 : Method := { name := "<init>", desc := "()V", sig := { parameters := [], returnType := none }, accessFlags := 1, code := none }
def k1c1 : Code := { maxStack := 6, maxLocals := 14, code := code, exceptionTable := #[], attributes := #[] }
def k1m1 : Method := { name := "law", desc := "(IIII)Z", sig := { parameters := [.int, .int, .int, .int], returnType := some .boolean }, accessFlags := 9, code := some k1c1 }
/-- crossmarc/reading/CursorPassAsciiTextPinLaw -/
def k1 : Class := { plain "crossmarc/reading/CursorPassAsciiTextPinLaw" (some 0) with
  accessFlags := 49
  interfaces := #[]
  cf := some (fileOf pool1 49 #[] #[{ accessFlags := 1, nameIndex := 5, descriptorIndex := 6, attributes := #[] }, { accessFlags := 9, nameIndex := 53, descriptorIndex := 54, attributes := #[] }] 49 2 #[] #[])
  fields := #[]
  methods := #[k1m0, k1m1]
  instanceTypes := #[]
  staticTypes := #[]
  resolved := Array.replicate 58 none
  statics := none }

def pool2 : Array CpInfo := pool [(1, .class_ 2), (0, u "java/lang/constant/Constable"), (0, .class_ 4), (0, u "java/lang/Object")] 6

/-- java/lang/constant/Constable -/
def k2 : Class := { plain "java/lang/constant/Constable" (some 0) with
  accessFlags := 1537
  interfaces := #[]
  cf := some (fileOf pool2 1 #[] #[] 1537 3 #[] #[])
  fields := #[]
  methods := #[]
  instanceTypes := #[]
  staticTypes := #[]
  resolved := Array.replicate 11 none
  statics := none }

def pool3 : Array CpInfo := pool [(1, .class_ 2), (0, u "java/lang/Comparable"), (0, .class_ 4), (0, u "java/lang/Object")] 7

/-- java/lang/Comparable -/
def k3 : Class := { plain "java/lang/Comparable" (some 0) with
  accessFlags := 1537
  interfaces := #[]
  cf := some (fileOf pool3 1 #[] #[] 1537 3 #[] #[])
  fields := #[]
  methods := #[]
  instanceTypes := #[]
  staticTypes := #[]
  resolved := Array.replicate 12 none
  statics := none }

def pool4 : Array CpInfo := pool [(1, .class_ 2), (0, u "java/io/Serializable"), (0, .class_ 4), (0, u "java/lang/Object")] 2

/-- java/io/Serializable -/
def k4 : Class := { plain "java/io/Serializable" (some 0) with
  accessFlags := 1537
  interfaces := #[]
  cf := some (fileOf pool4 1 #[] #[] 1537 3 #[] #[])
  fields := #[]
  methods := #[]
  instanceTypes := #[]
  staticTypes := #[]
  resolved := Array.replicate 7 none
  statics := none }

def pool5 : Array CpInfo := pool [(2, .class_ 4), (1, u "java/lang/Enum"), (0, u "name"), (0, u "Ljava/lang/String;"), (0, .fieldref 2 8), (0, .nameAndType 9 10), (0, u "ordinal"), (0, u "I"), (1, .class_ 14), (1, u "java/lang/Object"), (4, u "hash"), (86, .class_ 108), (1, u "java/lang/Enum$EnumDesc"), (2, .class_ 112), (0, u "java/lang/constant/Constable"), (0, .class_ 114), (0, u "java/lang/Comparable"), (0, .class_ 116), (0, u "java/io/Serializable"), (9, u "()I")] 77

def k5c0 : Code := { maxStack := 1, maxLocals := 1, code := jdk_37_method_2_code, exceptionTable := #[], attributes := #[] }
def k5m0 : Method := { name := "ordinal", desc := "()I", sig := { parameters := [], returnType := some .int }, accessFlags := 17, code := some k5c0 }
/-- java/lang/Enum -/
def k5 : Class := { plain "java/lang/Enum" (some 0) with
  accessFlags := 1057
  interfaces := #[2, 3, 4]
  cf := some (fileOf pool5 2 #[.nestMembers #[106]] #[{ accessFlags := 17, nameIndex := 9, descriptorIndex := 126, attributes := #[] }] 1057 12 #[111, 113, 115] #[{ accessFlags := 18, nameIndex := 5, descriptorIndex := 6, attributes := #[] }, { accessFlags := 18, nameIndex := 9, descriptorIndex := 10, attributes := #[] }, { accessFlags := 2, nameIndex := 19, descriptorIndex := 10, attributes := #[] }])
  fields := #[{ name := "name", type := (.object "java/lang/String"), accessFlags := 18, slot := 0, constantValue := 0 }, { name := "ordinal", type := .int, accessFlags := 18, slot := 1, constantValue := 0 }, { name := "hash", type := .int, accessFlags := 2, slot := 2, constantValue := 0 }]
  methods := #[k5m0]
  instanceTypes := #[(.object "java/lang/String"), .int, .int]
  staticTypes := #[]
  resolved := Array.replicate 204 none
  statics := none }

def pool6 : Array CpInfo := pool [(1, .class_ 2), (0, u "crossmarc/reading/CheckedEncoding"), (2, u "UTF_8"), (0, u "Lcrossmarc/reading/CheckedEncoding;"), (2, u "US_ASCII"), (2, u "UTF_16BE"), (2, u "UTF_16LE"), (2, u "SINGLE_BYTE"), (2, u "$VALUES"), (0, u "[Lcrossmarc/reading/CheckedEncoding;"), (6, .class_ 31), (1, u "java/lang/Enum"), (8, u "charset"), (0, u "Ljava/nio/charset/Charset;")] 97

/-- crossmarc/reading/CheckedEncoding -/
def k6 : Class := { plain "crossmarc/reading/CheckedEncoding" (some 5) with
  accessFlags := 16432
  interfaces := #[]
  cf := some (fileOf pool6 1 #[] #[] 16432 29 #[] #[{ accessFlags := 16409, nameIndex := 5, descriptorIndex := 6, attributes := #[] }, { accessFlags := 16409, nameIndex := 9, descriptorIndex := 6, attributes := #[] }, { accessFlags := 16409, nameIndex := 12, descriptorIndex := 6, attributes := #[] }, { accessFlags := 16409, nameIndex := 15, descriptorIndex := 6, attributes := #[] }, { accessFlags := 16409, nameIndex := 18, descriptorIndex := 6, attributes := #[] }, { accessFlags := 16, nameIndex := 40, descriptorIndex := 41, attributes := #[] }, { accessFlags := 4122, nameIndex := 21, descriptorIndex := 22, attributes := #[] }])
  fields := #[{ name := "UTF_8", type := (.object "crossmarc/reading/CheckedEncoding"), accessFlags := 16409, slot := 0, constantValue := 0 }, { name := "US_ASCII", type := (.object "crossmarc/reading/CheckedEncoding"), accessFlags := 16409, slot := 1, constantValue := 0 }, { name := "UTF_16BE", type := (.object "crossmarc/reading/CheckedEncoding"), accessFlags := 16409, slot := 2, constantValue := 0 }, { name := "UTF_16LE", type := (.object "crossmarc/reading/CheckedEncoding"), accessFlags := 16409, slot := 3, constantValue := 0 }, { name := "SINGLE_BYTE", type := (.object "crossmarc/reading/CheckedEncoding"), accessFlags := 16409, slot := 4, constantValue := 0 }, { name := "charset", type := (.object "java/nio/charset/Charset"), accessFlags := 16, slot := 3, constantValue := 0 }, { name := "$VALUES", type := (.array (.object "crossmarc/reading/CheckedEncoding")), accessFlags := 4122, slot := 5, constantValue := 0 }]
  methods := #[]
  instanceTypes := #[(.object "java/lang/String"), .int, .int, (.object "java/nio/charset/Charset")]
  staticTypes := #[(.object "crossmarc/reading/CheckedEncoding"), (.object "crossmarc/reading/CheckedEncoding"), (.object "crossmarc/reading/CheckedEncoding"), (.object "crossmarc/reading/CheckedEncoding"), (.object "crossmarc/reading/CheckedEncoding"), (.array (.object "crossmarc/reading/CheckedEncoding"))]
  resolved := Array.replicate 139 none
  statics := some 0 }

def pool7 : Array CpInfo := pool [(1, .methodref 2 3), (0, .class_ 4), (0, .nameAndType 5 6), (0, u "java/lang/Object"), (0, u "<init>"), (0, u "()V"), (0, .fieldref 8 9), (0, .class_ 10), (0, .nameAndType 11 12), (0, u "crossmarc/reading/Cursor"), (0, u "half"), (0, u "I"), (0, .fieldref 8 14), (0, .nameAndType 15 12), (0, u "low"), (0, .fieldref 8 17), (0, .nameAndType 18 12), (0, u "high"), (0, .fieldref 8 20), (0, .nameAndType 21 22), (0, u "encoding"), (0, u "Lcrossmarc/reading/CheckedEncoding;"), (0, .fieldref 8 24), (0, .nameAndType 25 12), (0, u "line"), (0, .fieldref 8 27), (0, .nameAndType 28 12), (0, u "column"), (2, u "(Lcrossmarc/reading/CheckedEncoding;)V"), (0, .fieldref 8 33), (0, .nameAndType 34 35), (0, u "position"), (0, u "J"), (0, .fieldref 8 37), (0, .nameAndType 38 39), (0, u "afterCr"), (0, u "Z"), (4, .fieldref 8 45), (0, .nameAndType 46 12), (0, u "needed"), (0, .methodref 48 49), (0, .class_ 50), (0, .nameAndType 51 52), (0, u "java/lang/Integer"), (0, u "compare"), (0, u "(II)I"), (0, .fieldref 54 55), (0, .class_ 56), (0, .nameAndType 57 58), (0, u "crossmarc/reading/Cursor$1"), (0, u "$SwitchMap$crossmarc$reading$CheckedEncoding"), (0, u "[I"), (0, .methodref 60 61), (0, .class_ 62), (0, .nameAndType 63 64), (0, u "crossmarc/reading/CheckedEncoding"), (0, u "ordinal"), (0, u "()I"), (3, .methodref 8 69), (0, .nameAndType 70 71), (0, u "pass"), (0, u "(I)V"), (0, .methodref 8 73), (0, .nameAndType 74 75), (0, u "utf8"), (0, u "(I)Z"), (10, u "()J"), (0, u "compareTo"), (1, u "take"), (0, u "passAsciiText")] 6

def k7c0 : Code := { maxStack := 2, maxLocals := 2, code := prog_53_method_1_code, exceptionTable := #[], attributes := #[] }
def k7m0 : Method := { name := "<init>", desc := "(Lcrossmarc/reading/CheckedEncoding;)V", sig := { parameters := [(.object "crossmarc/reading/CheckedEncoding")], returnType := none }, accessFlags := 0, code := some k7c0 }
def k7c1 : Code := { maxStack := 2, maxLocals := 1, code := prog_53_method_5_code, exceptionTable := #[], attributes := #[] }
def k7m1 : Method := { name := "position", desc := "()J", sig := { parameters := [], returnType := some .long }, accessFlags := 0, code := some k7c1 }
def k7c2 : Code := { maxStack := 1, maxLocals := 1, code := prog_53_method_6_code, exceptionTable := #[], attributes := #[] }
def k7m2 : Method := { name := "line", desc := "()I", sig := { parameters := [], returnType := some .int }, accessFlags := 0, code := some k7c2 }
def k7c3 : Code := { maxStack := 2, maxLocals := 4, code := prog_53_method_7_code, exceptionTable := #[], attributes := #[] }
def k7m3 : Method := { name := "compareTo", desc := "(II)I", sig := { parameters := [.int, .int], returnType := some .int }, accessFlags := 0, code := some k7c3 }
def k7c4 : Code := { maxStack := 5, maxLocals := 2, code := prog_53_method_8_code, exceptionTable := #[], attributes := #[] }
def k7m4 : Method := { name := "take", desc := "(I)Z", sig := { parameters := [.int], returnType := some .boolean }, accessFlags := 0, code := some k7c4 }
def k7c5 : Code := { maxStack := 5, maxLocals := 2, code := prog_53_method_9_code, exceptionTable := #[], attributes := #[] }
def k7m5 : Method := { name := "passAsciiText", desc := "(I)V", sig := { parameters := [.int], returnType := none }, accessFlags := 0, code := some k7c5 }
def k7c6 : Code := { maxStack := 3, maxLocals := 2, code := prog_53_method_10_code, exceptionTable := #[], attributes := #[] }
def k7m6 : Method := { name := "pass", desc := "(I)V", sig := { parameters := [.int], returnType := none }, accessFlags := 0, code := some k7c6 }
def k7c7 : Code := { maxStack := 3, maxLocals := 2, code := prog_53_method_12_code, exceptionTable := #[], attributes := #[] }
def k7m7 : Method := { name := "utf8", desc := "(I)Z", sig := { parameters := [.int], returnType := some .boolean }, accessFlags := 2, code := some k7c7 }
/-- crossmarc/reading/Cursor -/
def k7 : Class := { plain "crossmarc/reading/Cursor" (some 0) with
  accessFlags := 48
  interfaces := #[]
  cf := some (fileOf pool7 8 #[.nestMembers #[54]] #[{ accessFlags := 0, nameIndex := 5, descriptorIndex := 31, attributes := #[] }, { accessFlags := 0, nameIndex := 34, descriptorIndex := 86, attributes := #[] }, { accessFlags := 0, nameIndex := 25, descriptorIndex := 64, attributes := #[] }, { accessFlags := 0, nameIndex := 87, descriptorIndex := 52, attributes := #[] }, { accessFlags := 0, nameIndex := 89, descriptorIndex := 75, attributes := #[] }, { accessFlags := 0, nameIndex := 90, descriptorIndex := 71, attributes := #[] }, { accessFlags := 0, nameIndex := 70, descriptorIndex := 71, attributes := #[] }, { accessFlags := 2, nameIndex := 74, descriptorIndex := 75, attributes := #[] }] 48 2 #[] #[{ accessFlags := 18, nameIndex := 21, descriptorIndex := 22, attributes := #[] }, { accessFlags := 2, nameIndex := 34, descriptorIndex := 35, attributes := #[] }, { accessFlags := 2, nameIndex := 25, descriptorIndex := 12, attributes := #[] }, { accessFlags := 2, nameIndex := 28, descriptorIndex := 12, attributes := #[] }, { accessFlags := 2, nameIndex := 38, descriptorIndex := 39, attributes := #[] }, { accessFlags := 2, nameIndex := 11, descriptorIndex := 12, attributes := #[] }, { accessFlags := 2, nameIndex := 46, descriptorIndex := 12, attributes := #[] }, { accessFlags := 2, nameIndex := 15, descriptorIndex := 12, attributes := #[] }, { accessFlags := 2, nameIndex := 18, descriptorIndex := 12, attributes := #[] }])
  fields := #[{ name := "encoding", type := (.object "crossmarc/reading/CheckedEncoding"), accessFlags := 18, slot := 0, constantValue := 0 }, { name := "position", type := .long, accessFlags := 2, slot := 1, constantValue := 0 }, { name := "line", type := .int, accessFlags := 2, slot := 2, constantValue := 0 }, { name := "column", type := .int, accessFlags := 2, slot := 3, constantValue := 0 }, { name := "afterCr", type := .boolean, accessFlags := 2, slot := 4, constantValue := 0 }, { name := "half", type := .int, accessFlags := 2, slot := 5, constantValue := 0 }, { name := "needed", type := .int, accessFlags := 2, slot := 6, constantValue := 0 }, { name := "low", type := .int, accessFlags := 2, slot := 7, constantValue := 0 }, { name := "high", type := .int, accessFlags := 2, slot := 8, constantValue := 0 }]
  methods := #[k7m0, k7m1, k7m2, k7m3, k7m4, k7m5, k7m6, k7m7]
  instanceTypes := #[(.object "crossmarc/reading/CheckedEncoding"), .long, .int, .int, .boolean, .int, .int, .int, .int]
  staticTypes := #[]
  resolved := Array.replicate 97 none
  statics := none }

def pool8 : Array CpInfo := pool [(8, .class_ 10), (1, u "crossmarc/reading/Cursor$1"), (0, u "$SwitchMap$crossmarc$reading$CheckedEncoding"), (0, u "[I"), (22, .class_ 36), (0, u "java/lang/Object"), (8, .class_ 46), (0, u "crossmarc/reading/Cursor")] 2

/-- crossmarc/reading/Cursor$1 -/
def k8 : Class := { plain "crossmarc/reading/Cursor$1" (some 0) with
  accessFlags := 4128
  interfaces := #[]
  cf := some (fileOf pool8 8 #[.nestHost 45] #[] 4128 35 #[] #[{ accessFlags := 4120, nameIndex := 11, descriptorIndex := 12, attributes := #[] }])
  fields := #[{ name := "$SwitchMap$crossmarc$reading$CheckedEncoding", type := (.array .int), accessFlags := 4120, slot := 0, constantValue := 0 }]
  methods := #[]
  instanceTypes := #[]
  staticTypes := #[(.array .int)]
  resolved := Array.replicate 49 none
  statics := some 1 }

def pool9 : Array CpInfo := pool [(2, .class_ 4), (1, u "java/lang/Object"), (0, u "<init>"), (0, u "()V"), (1, .class_ 10), (1, u "java/lang/Number"), (2, .class_ 14), (0, u "java/io/Serializable"), (0, u "serialVersionUID"), (0, u "J")] 20

def k9m0 : Method := { name := "<init>", desc := "()V", sig := { parameters := [], returnType := none }, accessFlags := 1, code := none }
/-- java/lang/Number -/
def k9 : Class := { plain "java/lang/Number" (some 0) with
  accessFlags := 1057
  interfaces := #[4]
  cf := some (fileOf pool9 8 #[] #[{ accessFlags := 1, nameIndex := 5, descriptorIndex := 6, attributes := #[] }] 1057 2 #[13] #[{ accessFlags := 26, nameIndex := 15, descriptorIndex := 16, attributes := #[] }])
  fields := #[{ name := "serialVersionUID", type := .long, accessFlags := 26, slot := 0, constantValue := 0 }]
  methods := #[k9m0]
  instanceTypes := #[]
  staticTypes := #[.long]
  resolved := Array.replicate 37 none
  statics := none }

def pool10 : Array CpInfo := pool [(1, .class_ 2), (0, u "java/lang/constant/ConstantDesc"), (0, .class_ 4), (0, u "java/lang/Object")] 32

/-- java/lang/constant/ConstantDesc -/
def k10 : Class := { plain "java/lang/constant/ConstantDesc" (some 0) with
  accessFlags := 1537
  interfaces := #[]
  cf := some (fileOf pool10 1 #[] #[] 1537 3 #[] #[])
  fields := #[]
  methods := #[]
  instanceTypes := #[]
  staticTypes := #[]
  resolved := Array.replicate 37 none
  statics := none }

def pool11 : Array CpInfo := pool [(1, .class_ 2), (0, u "java/lang/Integer"), (16, u "digits"), (0, u "[C"), (39, u "(II)I"), (24, u "DigitOnes"), (0, u "[B"), (2, u "DigitTens"), (99, .class_ 190), (0, u "java/lang/Integer$IntegerCache"), (3, u "I"), (8, .class_ 204), (0, u "java/lang/Number"), (2, u "value"), (53, u "compare"), (40, u "TYPE"), (0, u "Ljava/lang/Class;"), (0, .class_ 305), (0, u "java/lang/Comparable"), (0, .class_ 307), (0, u "java/lang/constant/Constable"), (0, .class_ 309), (0, u "java/lang/constant/ConstantDesc"), (0, u "MIN_VALUE"), (1, u "MAX_VALUE"), (3, u "SIZE"), (1, u "BYTES"), (1, u "serialVersionUID"), (0, u "J")] 131

def k11c0 : Code := { maxStack := 2, maxLocals := 2, code := jdk_33_method_40_code, exceptionTable := #[], attributes := #[] }
def k11m0 : Method := { name := "compare", desc := "(II)I", sig := { parameters := [.int, .int], returnType := some .int }, accessFlags := 9, code := some k11c0 }
/-- java/lang/Integer -/
def k11 : Class := { plain "java/lang/Integer" (some 9) with
  accessFlags := 49
  interfaces := #[3, 2, 10]
  cf := some (fileOf pool11 1 #[.nestMembers #[189]] #[{ accessFlags := 9, nameIndex := 261, descriptorIndex := 60, attributes := #[] }] 49 203 #[304, 306, 308] #[{ accessFlags := 25, nameIndex := 310, descriptorIndex := 194, attributes := #[] }, { accessFlags := 25, nameIndex := 312, descriptorIndex := 194, attributes := #[] }, { accessFlags := 25, nameIndex := 302, descriptorIndex := 303, attributes := #[] }, { accessFlags := 24, nameIndex := 19, descriptorIndex := 20, attributes := #[] }, { accessFlags := 24, nameIndex := 89, descriptorIndex := 86, attributes := #[] }, { accessFlags := 24, nameIndex := 85, descriptorIndex := 86, attributes := #[] }, { accessFlags := 18, nameIndex := 207, descriptorIndex := 194, attributes := #[] }, { accessFlags := 25, nameIndex := 316, descriptorIndex := 194, attributes := #[] }, { accessFlags := 25, nameIndex := 318, descriptorIndex := 194, attributes := #[] }, { accessFlags := 26, nameIndex := 320, descriptorIndex := 321, attributes := #[] }])
  fields := #[{ name := "MIN_VALUE", type := .int, accessFlags := 25, slot := 0, constantValue := 0 }, { name := "MAX_VALUE", type := .int, accessFlags := 25, slot := 1, constantValue := 0 }, { name := "TYPE", type := (.object "java/lang/Class"), accessFlags := 25, slot := 2, constantValue := 0 }, { name := "digits", type := (.array .char), accessFlags := 24, slot := 3, constantValue := 0 }, { name := "DigitTens", type := (.array .byte), accessFlags := 24, slot := 4, constantValue := 0 }, { name := "DigitOnes", type := (.array .byte), accessFlags := 24, slot := 5, constantValue := 0 }, { name := "value", type := .int, accessFlags := 18, slot := 0, constantValue := 0 }, { name := "SIZE", type := .int, accessFlags := 25, slot := 6, constantValue := 0 }, { name := "BYTES", type := .int, accessFlags := 25, slot := 7, constantValue := 0 }, { name := "serialVersionUID", type := .long, accessFlags := 26, slot := 8, constantValue := 0 }]
  methods := #[k11m0]
  instanceTypes := #[.int]
  staticTypes := #[.int, .int, (.object "java/lang/Class"), (.array .char), (.array .byte), (.array .byte), .int, .int, .long]
  resolved := Array.replicate 453 none
  statics := none }

def pool12 : Array CpInfo := pool [(1, u "java/lang/Cloneable"), (0, .class_ 1), (0, u "java/lang/Object"), (0, .class_ 3)] 3

/-- java/lang/Cloneable -/
def k12 : Class := { plain "java/lang/Cloneable" (some 0) with
  accessFlags := 1537
  interfaces := #[]
  cf := some (fileOf pool12 2 #[] #[] 1537 4 #[] #[])
  fields := #[]
  methods := #[]
  instanceTypes := #[]
  staticTypes := #[]
  resolved := Array.replicate 8 none
  statics := none }

/-- the primitive byte -/
def k13 : Class := { plain "byte" none with kind := .primitive 'B', accessFlags := 0x411 }
/-- [B -/
def k14 : Class := { plain "[B" (some 0) with kind := .array 13 .byte, interfaces := #[12, 4], accessFlags := 1041 }

/-- the primitive int -/
def k15 : Class := { plain "int" none with kind := .primitive 'I', accessFlags := 0x411 }
/-- [I -/
def k16 : Class := { plain "[I" (some 0) with kind := .array 15 .int, interfaces := #[12, 4], accessFlags := 1041 }

def heap : Heap := #[{ cls := 6, slots := #[.ref 2, .ref 3, .null, .null, .ref 4, .null], vm := .statics 6 },
  { cls := 8, slots := #[.ref 5], vm := .statics 8 },
  { cls := 6, slots := #[.null, .int 0, .int 0, .null], vm := .none },
  { cls := 6, slots := #[.null, .int 1, .int 0, .null], vm := .none },
  { cls := 6, slots := #[.null, .int 4, .int 0, .null], vm := .none },
  { cls := 16, slots := #[.int 3, .int 4, .int 1, .int 2, .int 5], vm := .none }]
def classes : Array Class := #[k0, k1, k2, k3, k4, k5, k6, k7, k8, k9, k10, k11, k12, k13, k14, k15, k16]
def interned : List (Array UInt16 × Addr) := []
def slotsUsed : Nat := 24
def theMethod : MethodId := ⟨1, 1⟩
def args0 : Array Value := #[.int 5, .int 7, .int 65, .int 66]
def aboutOver (below : List Frame) : State where
  vm := { classes := classes, interned := interned.toArray }
  heap := heap
  slotsUsed := slotsUsed
  threads := #[{ frames := .invoking theMethod args0 :: below }]
def below0 : List Frame := [.native { method := ⟨0, 0⟩, args := #[] }]
def about1 : State := aboutOver below0
def p0 : Program := .bare "" "" ""
def e0 : Env := launch0.env 0 0 0
theorem w_frames : about1.frames = Frame.invoking theMethod args0 :: below0 := rfl
set_option maxRecDepth 65536 in
theorem w_args : argsFit about1.vm theMethod args0 = true := by decide +kernel
set_option maxRecDepth 65536 in
theorem w_heap : heapFits about1 = true := by decide +kernel
set_option maxRecDepth 65536 in
theorem w_runnable : about1.curStatus? = some .runnable := by decide +kernel
set_option maxRecDepth 65536 in
theorem w_alone : about1.alone = true := by decide +kernel
set_option maxRecDepth 65536 in
theorem w_named : about1.methodNamed? x = some theMethod := by decide +kernel
set_option maxRecDepth 65536 in
theorem w_hears : about1.hears theMethod below0 = true := by decide +kernel
set_option maxRecDepth 65536 in
theorem w_ripe : about1.ripe theMethod args0 below0 = true := by decide +kernel
theorem w_running : about1.status = .running := rfl
set_option maxRecDepth 65536 in
theorem w_room : about1.hasRoom e0.platform room_1 = true :=
  launch0.hasRoom_least _ room_1 (by decide +kernel) (by decide +kernel) (by decide +kernel) (by decide +kernel) (by decide +kernel) (by decide +kernel)
theorem allAtoms_all (ts : List Jvm.Cond) (a : Array Jvm.Value) (st : Jvm.State) : (allAtoms ts).before a st = ts.all (fun c => c.before a st) := by
  induction ts with
  | nil => rfl
  | cons c t ih =>
    show (Jvm.Cond.and c (allAtoms t)).before a st = _
    rw [Jvm.Cond.before_and, ih, List.all_cons]
def words1 : List Jvm.Cond := Jvm.Cond.code x code maxLocals ret :: tables_1
/-- a 'code' word, met by the world's own term for the bytes: nothing is compared byte by byte -/
theorem code_word {y : MethodName} {bytes : ByteArray} {mx : Nat} {rt : Option FieldType} {a : Array Value} {s : State} {m : MethodId} {meth : Method} {c : Code} (h1 : s.methodNamed? y = some m) (h2 : s.vm.method? m = some meth) (h3 : meth.code = some c) (h4 : c.code = bytes)
    (h5 : (c.maxLocals == mx && c.exceptionTable.isEmpty && decide (c.maxStack ≤ mostOperands) && decide (meth.sig.returnType = rt) && !meth.locks && decide (parseMethodDescriptor y.desc = some meth.sig)) = true) : (Jvm.Cond.code y bytes mx rt).before a s = true := by
  simp only [Bool.and_eq_true, beq_iff_eq, Bool.not_eq_true', decide_eq_true_eq] at h5
  obtain ⟨⟨⟨⟨⟨g1, g2⟩, g3⟩, g4⟩, g5⟩, g6⟩ := h5
  simp [Cond.before, Cond.holds, Cond.value, h1, h2, h3, h4, g1, g2, g3, g4, g5, g6]
def isCode : Jvm.Cond → Bool
  | .code _ _ _ _ => true
  | _ => false
theorem all_split {L : List Jvm.Cond} {P : Jvm.Cond → Bool} (h1 : L.all (fun c => isCode c || P c) = true) (h2 : ∀ c ∈ L.filter isCode, P c = true) : L.all P = true := by
  refine List.all_eq_true.mpr fun c hc => ?_
  have h := List.all_eq_true.mp h1 c hc
  rcases Bool.eq_false_or_eq_true (isCode c) with hi | hi
  · exact h2 c (List.mem_filter.mpr ⟨hc, hi⟩)
  · simpa [hi] using h
set_option maxRecDepth 65536 in
theorem w_c0 : (Jvm.Cond.code x code maxLocals ret).before args0 about1 = true := code_word (m := ⟨1, 1⟩) (meth := k1m1) (c := k1c1) (by decide +kernel) rfl rfl rfl (by decide +kernel)
set_option maxRecDepth 65536 in
theorem w_c1 : (Jvm.Cond.code ({ cls := "crossmarc/reading/Cursor", name := "<init>", desc := "(Lcrossmarc/reading/CheckedEncoding;)V" } : Jvm.MethodName) prog_53_method_1_code (2 : Nat) (Option.none : Option Jvm.ClassFile.FieldType)).before args0 about1 = true := code_word (m := ⟨7, 0⟩) (meth := k7m0) (c := k7c0) (by decide +kernel) rfl rfl rfl (by decide +kernel)
set_option maxRecDepth 65536 in
theorem w_c2 : (Jvm.Cond.code ({ cls := "java/lang/Object", name := "<init>", desc := "()V" } : Jvm.MethodName) object_method_1_code (1 : Nat) (Option.none : Option Jvm.ClassFile.FieldType)).before args0 about1 = true := code_word (m := ⟨0, 0⟩) (meth := k0m0) (c := k0c0) (by decide +kernel) rfl rfl rfl (by decide +kernel)
set_option maxRecDepth 65536 in
theorem w_c3 : (Jvm.Cond.code ({ cls := "crossmarc/reading/Cursor", name := "take", desc := "(I)Z" } : Jvm.MethodName) prog_53_method_8_code (2 : Nat) (Option.some Jvm.ClassFile.FieldType.boolean)).before args0 about1 = true := code_word (m := ⟨7, 4⟩) (meth := k7m4) (c := k7c4) (by decide +kernel) rfl rfl rfl (by decide +kernel)
set_option maxRecDepth 65536 in
theorem w_c4 : (Jvm.Cond.code ({ cls := "java/lang/Enum", name := "ordinal", desc := "()I" } : Jvm.MethodName) jdk_37_method_2_code (1 : Nat) (Option.some Jvm.ClassFile.FieldType.int)).before args0 about1 = true := code_word (m := ⟨5, 0⟩) (meth := k5m0) (c := k5c0) (by decide +kernel) rfl rfl rfl (by decide +kernel)
set_option maxRecDepth 65536 in
theorem w_c5 : (Jvm.Cond.code ({ cls := "crossmarc/reading/Cursor", name := "utf8", desc := "(I)Z" } : Jvm.MethodName) prog_53_method_12_code (2 : Nat) (Option.some Jvm.ClassFile.FieldType.boolean)).before args0 about1 = true := code_word (m := ⟨7, 7⟩) (meth := k7m7) (c := k7c7) (by decide +kernel) rfl rfl rfl (by decide +kernel)
set_option maxRecDepth 65536 in
theorem w_c6 : (Jvm.Cond.code ({ cls := "crossmarc/reading/Cursor", name := "pass", desc := "(I)V" } : Jvm.MethodName) prog_53_method_10_code (2 : Nat) (Option.none : Option Jvm.ClassFile.FieldType)).before args0 about1 = true := code_word (m := ⟨7, 6⟩) (meth := k7m6) (c := k7c6) (by decide +kernel) rfl rfl rfl (by decide +kernel)
set_option maxRecDepth 65536 in
theorem w_c7 : (Jvm.Cond.code ({ cls := "crossmarc/reading/Cursor", name := "passAsciiText", desc := "(I)V" } : Jvm.MethodName) prog_53_method_9_code (2 : Nat) (Option.none : Option Jvm.ClassFile.FieldType)).before args0 about1 = true := code_word (m := ⟨7, 5⟩) (meth := k7m5) (c := k7c5) (by decide +kernel) rfl rfl rfl (by decide +kernel)
set_option maxRecDepth 65536 in
theorem w_c8 : (Jvm.Cond.code ({ cls := "crossmarc/reading/Cursor", name := "position", desc := "()J" } : Jvm.MethodName) prog_53_method_5_code (1 : Nat) (Option.some Jvm.ClassFile.FieldType.long)).before args0 about1 = true := code_word (m := ⟨7, 1⟩) (meth := k7m1) (c := k7c1) (by decide +kernel) rfl rfl rfl (by decide +kernel)
set_option maxRecDepth 65536 in
theorem w_c9 : (Jvm.Cond.code ({ cls := "crossmarc/reading/Cursor", name := "line", desc := "()I" } : Jvm.MethodName) prog_53_method_6_code (1 : Nat) (Option.some Jvm.ClassFile.FieldType.int)).before args0 about1 = true := code_word (m := ⟨7, 2⟩) (meth := k7m2) (c := k7c2) (by decide +kernel) rfl rfl rfl (by decide +kernel)
set_option maxRecDepth 65536 in
theorem w_c10 : (Jvm.Cond.code ({ cls := "crossmarc/reading/Cursor", name := "compareTo", desc := "(II)I" } : Jvm.MethodName) prog_53_method_7_code (4 : Nat) (Option.some Jvm.ClassFile.FieldType.int)).before args0 about1 = true := code_word (m := ⟨7, 3⟩) (meth := k7m3) (c := k7c3) (by decide +kernel) rfl rfl rfl (by decide +kernel)
set_option maxRecDepth 65536 in
theorem w_c11 : (Jvm.Cond.code ({ cls := "java/lang/Integer", name := "compare", desc := "(II)I" } : Jvm.MethodName) jdk_33_method_40_code (2 : Nat) (Option.some Jvm.ClassFile.FieldType.int)).before args0 about1 = true := code_word (m := ⟨11, 0⟩) (meth := k11m0) (c := k11c0) (by decide +kernel) rfl rfl rfl (by decide +kernel)
def codes1 : List Jvm.Cond := [Jvm.Cond.code x code maxLocals ret, Jvm.Cond.code ({ cls := "crossmarc/reading/Cursor", name := "<init>", desc := "(Lcrossmarc/reading/CheckedEncoding;)V" } : Jvm.MethodName) prog_53_method_1_code (2 : Nat) (Option.none : Option Jvm.ClassFile.FieldType), Jvm.Cond.code ({ cls := "java/lang/Object", name := "<init>", desc := "()V" } : Jvm.MethodName) object_method_1_code (1 : Nat) (Option.none : Option Jvm.ClassFile.FieldType), Jvm.Cond.code ({ cls := "crossmarc/reading/Cursor", name := "take", desc := "(I)Z" } : Jvm.MethodName) prog_53_method_8_code (2 : Nat) (Option.some Jvm.ClassFile.FieldType.boolean), Jvm.Cond.code ({ cls := "java/lang/Enum", name := "ordinal", desc := "()I" } : Jvm.MethodName) jdk_37_method_2_code (1 : Nat) (Option.some Jvm.ClassFile.FieldType.int), Jvm.Cond.code ({ cls := "crossmarc/reading/Cursor", name := "utf8", desc := "(I)Z" } : Jvm.MethodName) prog_53_method_12_code (2 : Nat) (Option.some Jvm.ClassFile.FieldType.boolean), Jvm.Cond.code ({ cls := "crossmarc/reading/Cursor", name := "pass", desc := "(I)V" } : Jvm.MethodName) prog_53_method_10_code (2 : Nat) (Option.none : Option Jvm.ClassFile.FieldType), Jvm.Cond.code ({ cls := "crossmarc/reading/Cursor", name := "passAsciiText", desc := "(I)V" } : Jvm.MethodName) prog_53_method_9_code (2 : Nat) (Option.none : Option Jvm.ClassFile.FieldType), Jvm.Cond.code ({ cls := "crossmarc/reading/Cursor", name := "position", desc := "()J" } : Jvm.MethodName) prog_53_method_5_code (1 : Nat) (Option.some Jvm.ClassFile.FieldType.long), Jvm.Cond.code ({ cls := "crossmarc/reading/Cursor", name := "line", desc := "()I" } : Jvm.MethodName) prog_53_method_6_code (1 : Nat) (Option.some Jvm.ClassFile.FieldType.int), Jvm.Cond.code ({ cls := "crossmarc/reading/Cursor", name := "compareTo", desc := "(II)I" } : Jvm.MethodName) prog_53_method_7_code (4 : Nat) (Option.some Jvm.ClassFile.FieldType.int), Jvm.Cond.code ({ cls := "java/lang/Integer", name := "compare", desc := "(II)I" } : Jvm.MethodName) jdk_33_method_40_code (2 : Nat) (Option.some Jvm.ClassFile.FieldType.int)]
set_option maxRecDepth 65536 in
theorem codes_eq : words1.filter isCode = codes1 := rfl
theorem w_codes : ∀ c ∈ words1.filter isCode, c.before args0 about1 = true := by
  rw [codes_eq]
  intro c hc
  simp only [codes1, List.mem_cons, List.not_mem_nil, or_false] at hc
  rcases hc with rfl | rfl | rfl | rfl | rfl | rfl | rfl | rfl | rfl | rfl | rfl | rfl
  · exact w_c0
  · exact w_c1
  · exact w_c2
  · exact w_c3
  · exact w_c4
  · exact w_c5
  · exact w_c6
  · exact w_c7
  · exact w_c8
  · exact w_c9
  · exact w_c10
  · exact w_c11
set_option maxRecDepth 65536 in
theorem w_t1 : (words1.take 24).all (fun c => isCode c || c.before args0 about1) = true := by decide +kernel
set_option maxRecDepth 65536 in
theorem w_t2 : ((words1.drop 24).take 24).all (fun c => isCode c || c.before args0 about1) = true := by decide +kernel
set_option maxRecDepth 65536 in
theorem w_t3 : (((words1.drop 24).drop 24).take 24).all (fun c => isCode c || c.before args0 about1) = true := by decide +kernel
set_option maxRecDepth 65536 in
theorem w_t4 : (((words1.drop 24).drop 24).drop 24).all (fun c => isCode c || c.before args0 about1) = true := by decide +kernel
theorem w_tables : (allAtoms (Jvm.Cond.code x code maxLocals ret :: tables_1)).before args0 about1 = true := by
  rw [allAtoms_all]
  show words1.all (fun c => c.before args0 about1) = true
  refine all_split ?_ w_codes
  rw [← List.take_append_drop 24 words1, List.all_append, w_t1, ← List.take_append_drop 24 (words1.drop 24), List.all_append, w_t2, ← List.take_append_drop 24 ((words1.drop 24).drop 24), List.all_append, w_t3, w_t4]
  rfl
set_option maxRecDepth 65536 in
theorem w_case : (Jvm.Cond.and given_1 narrow_1).before args0 about1 = true := by decide +kernel
theorem w_applies : (headSpec (Jvm.Cond.code x code maxLocals ret :: tables_1) room_1).applies x e0.platform about1 = true :=
  (Spec.applies_iff w_frames).mpr ⟨w_running, w_runnable, w_alone, w_named, w_hears, w_ripe, w_room, w_tables⟩
theorem atStart : AtStart classFile x code maxLocals ret World_1 tables_1 room_1 Calls_1 rest_1 Pre_1 launch0 p0 e0 about1 theMethod args0 below0 :=
  ⟨lists_1, trivial, launch0.admits_env _ _ _, launch0.least_env, fairChoices_fair.cas, fairChoices_fair.clock, w_frames, w_args, w_heap, w_applies, trivial, trivial, w_case⟩
end start1
theorem witness_1 : WitnessClaimed_1 := ⟨start1.p0, start1.e0, start1.about1, start1.theMethod, start1.args0, start1.below0, start1.atStart⟩
end Jvm.Pilot.@@N@@
