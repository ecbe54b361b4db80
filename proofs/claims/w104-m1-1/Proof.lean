import JvmDerived
import JvmDerived.Pilot.@@N@@Statement
import JvmDerived.Pilot.@@N@@Code
set_option linter.unusedVariables false
set_option linter.unusedSimpArgs false
namespace Jvm.Pilot.@@N@@
open Jvm Jvm.ClassFile Sem Op Lib Jvm.Free Jvm.Stand Jvm.LawKit Jvm.RoadKit Bundle Jvm.Pilot.@@N@@.Jvm.D
section OwnKit
variable {p : Program} {l : Launch} {e : Env} {R : Room} {s : State} {m : MethodId} {args : Array Value} {below : List Frame} {meth : Method} {c : Code} {T U W : State} {locs : List Loc} {cells slots : Nat} {Q : Option Value → Heap → List Loc → Prop} {K N : Nat}
/-- from U the body comes to its end, and Q holds there -/
def own_Ends (p : Program) (e : Env) (below : List Frame) (s : State) (Q : Option Value → Heap → List Loc → Prop) (K N : Nat) (U : State) : Prop :=
  ∃ s₂ o, Steps p.tables e below U s₂ ∧ s₂.status = .running ∧ Ended s₂ below o ∧ ∃ v L, o = .returned v ∧ Q v s₂.heap L ∧ FrameEnd s o s₂ L K N
theorem own_by {V : State} (h : ∀ t, Steps p.tables e below V t → Steps p.tables e below U t) (k : own_Ends p e below s Q K N V) : own_Ends p e below s Q K N U := by
  obtain ⟨s2, o, h1, h2⟩ := k; exact ⟨s2, o, h _ h1, h2⟩
theorem own_ret0 (X : Stand p l e R s m args below meth c T locs cells slots) (hx : p.tables.exec = Jvm.exec) (hlk : meth.locks = false) {h : Heap} (eT : T.heap = h) {pc : Nat} {Ls : Array Slot} (hret : meth.sig.returnType = none)
    (hd : decode c.code pc = .ok (.return_, 1)) (hQ : Q none h locs) (hK : cells ≤ K) (hN : slots ≤ N) : own_Ends p e below s Q K N (T.setTop (mkF m pc Ls [])) := by
  obtain ⟨fs, hr, hrun, hended, hW, hsame⟩ := X.leave (v := none) (fun _ => rfl) hlk
  exact ⟨_, _, X.returnOut hx hret hd hr, hrun, hended, _, _, rfl, (by subst eT; exact hQ), ⟨_, rfl⟩, hW, hsame.mono hK hN⟩
theorem own_retI (X : Stand p l e R s m args below meth c T locs cells slots) (hx : p.tables.exec = Jvm.exec) (hlk : meth.locks = false) {h : Heap} (eT : T.heap = h) {pc : Nat} {Ls : Array Slot} {z : Int32} {rest : List Value} (hret : meth.sig.returnType = some .int)
    (hd : decode c.code pc = .ok (.ireturn, 1)) (hQ : Q (some (.int z)) h locs) (hK : cells ≤ K) (hN : slots ≤ N) : own_Ends p e below s Q K N (T.setTop (mkF m pc Ls (.int z :: rest))) := by
  obtain ⟨fs, hr, hrun, hended, hW, hsame⟩ := X.leave (v := some (.int z)) (fun h => by rw [hret] at h; cases h) hlk
  exact ⟨_, _, retOut X hx hret rfl (Or.inl ⟨rfl, Or.inl rfl, z, rfl⟩) hd hr, hrun, hended, _, _, rfl, (by subst eT; exact hQ), ⟨_, rfl⟩, hW, hsame.mono hK hN⟩
theorem own_retN (X : Stand p l e R s m args below meth c T locs cells slots) (hx : p.tables.exec = Jvm.exec) (hlk : meth.locks = false) {h : Heap} (eT : T.heap = h) {pc : Nat} {Ls : Array Slot} {z : Int32} {t : FieldType} {rest : List Value} (hret : meth.sig.returnType = some t) (ht : t = .boolean ∨ t = .byte ∨ t = .char ∨ t = .short) (hz : nar t z = z)
    (hd : decode c.code pc = .ok (.ireturn, 1)) (hQ : Q (some (.int z)) h locs) (hK : cells ≤ K) (hN : slots ≤ N) : own_Ends p e below s Q K N (T.setTop (mkF m pc Ls (.int z :: rest))) := by
  obtain ⟨fs, hr, hrun, hended, hW, hsame⟩ := X.leave (v := some (.int z)) (fun h => by rw [hret] at h; cases h) hlk
  exact ⟨_, _, retN X hx hret ht hd (by rw [hz]; exact hr), hrun, hended, _, _, rfl, (by subst eT; exact hQ), ⟨_, rfl⟩, hW, hsame.mono hK hN⟩
theorem own_retL (X : Stand p l e R s m args below meth c T locs cells slots) (hx : p.tables.exec = Jvm.exec) (hlk : meth.locks = false) {h : Heap} (eT : T.heap = h) {pc : Nat} {Ls : Array Slot} {z : Int64} {rest : List Value} (hret : meth.sig.returnType = some .long)
    (hd : decode c.code pc = .ok (.lreturn, 1)) (hQ : Q (some (.long z)) h locs) (hK : cells ≤ K) (hN : slots ≤ N) : own_Ends p e below s Q K N (T.setTop (mkF m pc Ls (.long z :: rest))) := by
  obtain ⟨fs, hr, hrun, hended, hW, hsame⟩ := X.leave (v := some (.long z)) (fun h => by rw [hret] at h; cases h) hlk
  exact ⟨_, _, retOut X hx hret rfl (Or.inr (Or.inl ⟨rfl, rfl, z, rfl⟩)) hd hr, hrun, hended, _, _, rfl, (by subst eT; exact hQ), ⟨_, rfl⟩, hW, hsame.mono hK hN⟩
theorem own_retA (X : Stand p l e R s m args below meth c T locs cells slots) (hx : p.tables.exec = Jvm.exec) (hlk : meth.locks = false) {h : Heap} (eT : T.heap = h) {pc : Nat} {Ls : Array Slot} {w : Value} {t : FieldType} {rest : List Value} (hw : w.isRef = true) (hret : meth.sig.returnType = some t) (ht : t.isReference = true)
    (hd : decode c.code pc = .ok (.areturn, 1)) (hQ : Q (some w) h locs) (hK : cells ≤ K) (hN : slots ≤ N) : own_Ends p e below s Q K N (T.setTop (mkF m pc Ls (w :: rest))) := by
  obtain ⟨fs, hr, hrun, hended, hW, hsame⟩ := X.leave (v := some w) (fun h => by rw [hret] at h; cases h) hlk
  exact ⟨_, _, retOut X hx hret (by cases t <;> cases w <;> first | rfl | (simp [FieldType.isReference] at ht) | (simp [Value.isRef] at hw)) (Or.inr (Or.inr (Or.inr (Or.inr ⟨rfl, ht, hw⟩)))) hd hr, hrun, hended, _, _, rfl, (by subst eT; exact hQ), ⟨_, rfl⟩, hW, hsame.mono hK hN⟩

theorem own_neg1 : (-1 : Int32).toInt = -1 := rfl
end OwnKit
theorem own_selPriv {s : State} {args args' : Array Value} {y : MethodName} {n : Nat} (wi : (Cond.instantiable y.cls n).before args s = true) (wp : (Cond.privateMethod y).before args' s = true) (wm : (Cond.instanceMethod y).before args s = true) (hy : y.cls ≠ "java/lang/invoke/MethodHandle" ∧ y.cls ≠ "java/lang/invoke/VarHandle") : (Cond.selects y.cls y y).before args s = true := by
  obtain ⟨c, k, h1, h2, h3, h4, -⟩ := Cond.instantiable_spec wi
  exact selects_self_of_private h1 h2 (Bool.or_eq_false_iff.mp h4).1 (Cond.privateMethod_at wp) wm hy
section OwnWords
variable {args : Array Value} {s : State} {t : Term} {x : Addr} {C n d : String} {cl : Cell} {ty : FieldType}
theorem own_evI {k : Int32} (h : (Cond.eq t (.int k)).value args s none s [] = some true) : t.eval args s none [] s = some (.int k) := by
  obtain ⟨y, z, h1, h2, h3, -⟩ := cmp_v (Or.inl h)
  have h2' : z = .int k := (Option.some.inj h2).symm
  subst h2'
  cases y with
  | int v =>
    have q : v = k := by simpa [Cond.value, h1, Term.eval] using h
    rw [h1, q]
  | _ => simp [Kin, Value.isRef] at h3
theorem own_fldS {k : Int32} (ht : t.eval args s none [] s = some (.ref x)) (h : (Cond.eq (.field t C n d) (.int k)).value args s none s [] = some true) : Fld s s.heap x C n d (.int k) :=
  Fld.start ((fld_at ht).symm.trans (own_evI h))
theorem own_lenEv {k : Int32} (ev : t.eval args s none [] s = some (.ref x)) (A : Arr s s.heap x cl ty) (h : (Cond.eq (.length t) (.int k)).value args s none s [] = some true) : cl.slots.size.toInt32 = k ∧ cl.slots.size < 2 ^ 31 := by
  have e := own_evI h
  have hat := A.fin (Vm.Alike.refl _)
  simp only [Term.eval, ev, hat, Option.bind_eq_bind, Option.bind_some] at e
  split at e
  · rename_i hlt
    exact ⟨Value.int.inj (Option.some.inj e), hlt⟩
  · cases e
theorem own_len256 (ev : t.eval args s none [] s = some (.ref x)) (A : Arr s s.heap x cl ty) (h : (Cond.eq (.length t) (.int 256)).value args s none s [] = some true) : cl.slots.size = 256 := by
  obtain ⟨h1, h2⟩ := own_lenEv ev A h
  have q := len_toInt h2
  rw [h1] at q
  have q' : (256 : Int32).toInt = 256 := rfl
  omega
theorem own_cacheEl {K : String} {E : Jvm.Cond} (ev : (Term.static K n d).eval args s none [] s = some (.ref x)) (A : Arr s s.heap x cl ty) (hsz : cl.slots.size = 256) (h : (Cond.all (.static K n d) (.and (.exactly (.elem (.static K n d) (.index 0)) C) E)).value args s none s [] = some true) : ∀ j, j < 256 → ∃ b, cl.slots[j]? = some (.ref b) ∧ Exa s s.heap b C := by
  intro j hj
  have hat := A.fin (Vm.Alike.refl _)
  obtain ⟨h1, -⟩ := and_e (Cond.all_elim ev hat h j (by rw [hsz]; exact hj))
  obtain ⟨b, eb⟩ := exa_v h1
  have evj : (Term.static K n d).eval args s none [j] s = some (.ref x) := ev
  have q := (elem_in eb evj (Term.index_eval j) A.1).2
  rw [show j.toInt32 = Int32.ofNat j from rfl, Int32.toNatClampNeg_ofNat_of_lt (by omega)] at q
  exact ⟨b, q, exa_at eb h1⟩
theorem own_elemI {i k : Int32} (ev : t.eval args s none [] s = some (.ref x)) (A : Arr s s.heap x cl ty) (h : (Cond.eq (.elem t (.int i)) (.int k)).value args s none s [] = some true) : ¬ (i < 0 ∨ cl.slots.size ≤ i.toNatClampNeg) ∧ cl.slots[i.toNatClampNeg]? = some (.int k) :=
  elem_in (own_evI h) ev (Term.int_eval i) A.1
end OwnWords

theorem own_d_method_2_0 : decode method_2_code 0 = .ok (.iload_n 0, 1) := by decide +kernel
theorem own_d_method_2_1 : decode method_2_code 1 = .ok (.iload_n 1, 1) := by decide +kernel
theorem own_d_method_2_2 : decode method_2_code 2 = .ok (.if_icmp .lt 12, 3) := by decide +kernel
theorem own_d_method_2_5 : decode method_2_code 5 = .ok (.iload_n 0, 1) := by decide +kernel
theorem own_d_method_2_6 : decode method_2_code 6 = .ok (.iload_n 2, 1) := by decide +kernel
theorem own_d_method_2_7 : decode method_2_code 7 = .ok (.if_icmp .gt 7, 3) := by decide +kernel
theorem own_d_method_2_10 : decode method_2_code 10 = .ok (.iconst 1, 1) := by decide +kernel
theorem own_d_method_2_11 : decode method_2_code 11 = .ok (.goto 4, 3) := by decide +kernel
theorem own_d_method_2_14 : decode method_2_code 14 = .ok (.iconst 0, 1) := by decide +kernel
theorem own_d_method_2_15 : decode method_2_code 15 = .ok (.ireturn, 1) := by decide +kernel
theorem own_d_method_3_0 : decode method_3_code 0 = .ok (.iload_n 0, 1) := by decide +kernel
theorem own_d_method_3_1 : decode method_3_code 1 = .ok (.bipush 58, 2) := by decide +kernel
theorem own_d_method_3_3 : decode method_3_code 3 = .ok (.if_icmp .eq 31, 3) := by decide +kernel
theorem own_d_method_3_6 : decode method_3_code 6 = .ok (.iload_n 0, 1) := by decide +kernel
theorem own_d_method_3_7 : decode method_3_code 7 = .ok (.bipush 65, 2) := by decide +kernel
theorem own_d_method_3_9 : decode method_3_code 9 = .ok (.bipush 90, 2) := by decide +kernel
theorem own_d_method_3_11 : decode method_3_code 11 = .ok (.invokestatic 7, 3) := by decide +kernel
theorem own_d_method_3_14 : decode method_3_code 14 = .ok (.ifCond .ne 20, 3) := by decide +kernel
theorem own_d_method_3_17 : decode method_3_code 17 = .ok (.iload_n 0, 1) := by decide +kernel
theorem own_d_method_3_18 : decode method_3_code 18 = .ok (.bipush 95, 2) := by decide +kernel
theorem own_d_method_3_20 : decode method_3_code 20 = .ok (.if_icmp .eq 14, 3) := by decide +kernel
theorem own_d_method_3_23 : decode method_3_code 23 = .ok (.iload_n 0, 1) := by decide +kernel
theorem own_d_method_3_24 : decode method_3_code 24 = .ok (.bipush 97, 2) := by decide +kernel
theorem own_d_method_3_26 : decode method_3_code 26 = .ok (.bipush 122, 2) := by decide +kernel
theorem own_d_method_3_28 : decode method_3_code 28 = .ok (.invokestatic 7, 3) := by decide +kernel
theorem own_d_method_3_31 : decode method_3_code 31 = .ok (.ifCond .eq 7, 3) := by decide +kernel
theorem own_d_method_3_34 : decode method_3_code 34 = .ok (.iconst 1, 1) := by decide +kernel
theorem own_d_method_3_35 : decode method_3_code 35 = .ok (.goto 4, 3) := by decide +kernel
theorem own_d_method_3_38 : decode method_3_code 38 = .ok (.iconst 0, 1) := by decide +kernel
theorem own_d_method_3_39 : decode method_3_code 39 = .ok (.istore_n 1, 1) := by decide +kernel
theorem own_d_method_3_40 : decode method_3_code 40 = .ok (.iload_n 0, 1) := by decide +kernel
theorem own_d_method_3_41 : decode method_3_code 41 = .ok (.sipush 192, 3) := by decide +kernel
theorem own_d_method_3_44 : decode method_3_code 44 = .ok (.sipush 214, 3) := by decide +kernel
theorem own_d_method_3_47 : decode method_3_code 47 = .ok (.invokestatic 7, 3) := by decide +kernel
theorem own_d_method_3_50 : decode method_3_code 50 = .ok (.ifCond .ne 29, 3) := by decide +kernel
theorem own_d_method_3_53 : decode method_3_code 53 = .ok (.iload_n 0, 1) := by decide +kernel
theorem own_d_method_3_54 : decode method_3_code 54 = .ok (.sipush 216, 3) := by decide +kernel
theorem own_d_method_3_57 : decode method_3_code 57 = .ok (.sipush 246, 3) := by decide +kernel
theorem own_d_method_3_60 : decode method_3_code 60 = .ok (.invokestatic 7, 3) := by decide +kernel
theorem own_d_method_3_63 : decode method_3_code 63 = .ok (.ifCond .ne 16, 3) := by decide +kernel
theorem own_d_method_3_66 : decode method_3_code 66 = .ok (.iload_n 0, 1) := by decide +kernel
theorem own_d_method_3_67 : decode method_3_code 67 = .ok (.sipush 248, 3) := by decide +kernel
theorem own_d_method_3_70 : decode method_3_code 70 = .ok (.sipush 767, 3) := by decide +kernel
theorem own_d_method_3_73 : decode method_3_code 73 = .ok (.invokestatic 7, 3) := by decide +kernel
theorem own_d_method_3_76 : decode method_3_code 76 = .ok (.ifCond .eq 7, 3) := by decide +kernel
theorem own_d_method_3_79 : decode method_3_code 79 = .ok (.iconst 1, 1) := by decide +kernel
theorem own_d_method_3_80 : decode method_3_code 80 = .ok (.goto 4, 3) := by decide +kernel
theorem own_d_method_3_83 : decode method_3_code 83 = .ok (.iconst 0, 1) := by decide +kernel
theorem own_d_method_3_84 : decode method_3_code 84 = .ok (.istore_n 2, 1) := by decide +kernel
theorem own_d_method_3_85 : decode method_3_code 85 = .ok (.iload_n 0, 1) := by decide +kernel
theorem own_d_method_3_86 : decode method_3_code 86 = .ok (.sipush 880, 3) := by decide +kernel
theorem own_d_method_3_89 : decode method_3_code 89 = .ok (.sipush 893, 3) := by decide +kernel
theorem own_d_method_3_92 : decode method_3_code 92 = .ok (.invokestatic 7, 3) := by decide +kernel
theorem own_d_method_3_95 : decode method_3_code 95 = .ok (.ifCond .ne 16, 3) := by decide +kernel
theorem own_d_method_3_98 : decode method_3_code 98 = .ok (.iload_n 0, 1) := by decide +kernel
theorem own_d_method_3_99 : decode method_3_code 99 = .ok (.sipush 895, 3) := by decide +kernel
theorem own_d_method_3_102 : decode method_3_code 102 = .ok (.sipush 8191, 3) := by decide +kernel
theorem own_d_method_3_105 : decode method_3_code 105 = .ok (.invokestatic 7, 3) := by decide +kernel
theorem own_d_method_3_108 : decode method_3_code 108 = .ok (.ifCond .eq 7, 3) := by decide +kernel
theorem own_d_method_3_111 : decode method_3_code 111 = .ok (.iconst 1, 1) := by decide +kernel
theorem own_d_method_3_112 : decode method_3_code 112 = .ok (.goto 4, 3) := by decide +kernel
theorem own_d_method_3_115 : decode method_3_code 115 = .ok (.iconst 0, 1) := by decide +kernel
theorem own_d_method_3_116 : decode method_3_code 116 = .ok (.istore_n 3, 1) := by decide +kernel
theorem own_d_method_3_117 : decode method_3_code 117 = .ok (.iload_n 0, 1) := by decide +kernel
theorem own_d_method_3_118 : decode method_3_code 118 = .ok (.sipush 8204, 3) := by decide +kernel
theorem own_d_method_3_121 : decode method_3_code 121 = .ok (.sipush 8205, 3) := by decide +kernel
theorem own_d_method_3_124 : decode method_3_code 124 = .ok (.invokestatic 7, 3) := by decide +kernel
theorem own_d_method_3_127 : decode method_3_code 127 = .ok (.istore 4, 2) := by decide +kernel
theorem own_d_method_3_129 : decode method_3_code 129 = .ok (.iload_n 0, 1) := by decide +kernel
theorem own_d_method_3_130 : decode method_3_code 130 = .ok (.sipush 8304, 3) := by decide +kernel
theorem own_d_method_3_133 : decode method_3_code 133 = .ok (.sipush 8591, 3) := by decide +kernel
theorem own_d_method_3_136 : decode method_3_code 136 = .ok (.invokestatic 7, 3) := by decide +kernel
theorem own_d_method_3_139 : decode method_3_code 139 = .ok (.ifCond .ne 16, 3) := by decide +kernel
theorem own_d_method_3_142 : decode method_3_code 142 = .ok (.iload_n 0, 1) := by decide +kernel
theorem own_d_method_3_143 : decode method_3_code 143 = .ok (.sipush 11264, 3) := by decide +kernel
theorem own_d_method_3_146 : decode method_3_code 146 = .ok (.sipush 12271, 3) := by decide +kernel
theorem own_d_method_3_149 : decode method_3_code 149 = .ok (.invokestatic 7, 3) := by decide +kernel
theorem own_d_method_3_152 : decode method_3_code 152 = .ok (.ifCond .eq 7, 3) := by decide +kernel
theorem own_d_method_3_155 : decode method_3_code 155 = .ok (.iconst 1, 1) := by decide +kernel
theorem own_d_method_3_156 : decode method_3_code 156 = .ok (.goto 4, 3) := by decide +kernel
theorem own_d_method_3_159 : decode method_3_code 159 = .ok (.iconst 0, 1) := by decide +kernel
theorem own_d_method_3_160 : decode method_3_code 160 = .ok (.istore 5, 2) := by decide +kernel
theorem own_d_method_3_162 : decode method_3_code 162 = .ok (.iload_n 0, 1) := by decide +kernel
theorem own_d_method_3_163 : decode method_3_code 163 = .ok (.sipush 12289, 3) := by decide +kernel
theorem own_d_method_3_166 : decode method_3_code 166 = .ok (.ldc 13, 2) := by decide +kernel
theorem own_d_method_3_168 : decode method_3_code 168 = .ok (.invokestatic 7, 3) := by decide +kernel
theorem own_d_method_3_171 : decode method_3_code 171 = .ok (.istore 6, 2) := by decide +kernel
theorem own_d_method_3_173 : decode method_3_code 173 = .ok (.iload_n 0, 1) := by decide +kernel
theorem own_d_method_3_174 : decode method_3_code 174 = .ok (.ldc 14, 2) := by decide +kernel
theorem own_d_method_3_176 : decode method_3_code 176 = .ok (.ldc 15, 2) := by decide +kernel
theorem own_d_method_3_178 : decode method_3_code 178 = .ok (.invokestatic 7, 3) := by decide +kernel
theorem own_d_method_3_181 : decode method_3_code 181 = .ok (.istore 7, 2) := by decide +kernel
theorem own_d_method_3_183 : decode method_3_code 183 = .ok (.iload_n 0, 1) := by decide +kernel
theorem own_d_method_3_184 : decode method_3_code 184 = .ok (.ldc 16, 2) := by decide +kernel
theorem own_d_method_3_186 : decode method_3_code 186 = .ok (.ldc 17, 2) := by decide +kernel
theorem own_d_method_3_188 : decode method_3_code 188 = .ok (.invokestatic 7, 3) := by decide +kernel
theorem own_d_method_3_191 : decode method_3_code 191 = .ok (.ifCond .ne 14, 3) := by decide +kernel
theorem own_d_method_3_194 : decode method_3_code 194 = .ok (.iload_n 0, 1) := by decide +kernel
theorem own_d_method_3_195 : decode method_3_code 195 = .ok (.ldc 18, 2) := by decide +kernel
theorem own_d_method_3_197 : decode method_3_code 197 = .ok (.ldc 19, 2) := by decide +kernel
theorem own_d_method_3_199 : decode method_3_code 199 = .ok (.invokestatic 7, 3) := by decide +kernel
theorem own_d_method_3_202 : decode method_3_code 202 = .ok (.ifCond .eq 7, 3) := by decide +kernel
theorem own_d_method_3_205 : decode method_3_code 205 = .ok (.iconst 1, 1) := by decide +kernel
theorem own_d_method_3_206 : decode method_3_code 206 = .ok (.goto 4, 3) := by decide +kernel
theorem own_d_method_3_209 : decode method_3_code 209 = .ok (.iconst 0, 1) := by decide +kernel
theorem own_d_method_3_210 : decode method_3_code 210 = .ok (.istore 8, 2) := by decide +kernel
theorem own_d_method_3_212 : decode method_3_code 212 = .ok (.iload_n 1, 1) := by decide +kernel
theorem own_d_method_3_213 : decode method_3_code 213 = .ok (.ifCond .ne 36, 3) := by decide +kernel
theorem own_d_method_3_216 : decode method_3_code 216 = .ok (.iload_n 2, 1) := by decide +kernel
theorem own_d_method_3_217 : decode method_3_code 217 = .ok (.ifCond .ne 32, 3) := by decide +kernel
theorem own_d_method_3_220 : decode method_3_code 220 = .ok (.iload_n 3, 1) := by decide +kernel
theorem own_d_method_3_221 : decode method_3_code 221 = .ok (.ifCond .ne 28, 3) := by decide +kernel
theorem own_d_method_3_224 : decode method_3_code 224 = .ok (.iload 4, 2) := by decide +kernel
theorem own_d_method_3_226 : decode method_3_code 226 = .ok (.ifCond .ne 23, 3) := by decide +kernel
theorem own_d_method_3_229 : decode method_3_code 229 = .ok (.iload 5, 2) := by decide +kernel
theorem own_d_method_3_231 : decode method_3_code 231 = .ok (.ifCond .ne 18, 3) := by decide +kernel
theorem own_d_method_3_234 : decode method_3_code 234 = .ok (.iload 6, 2) := by decide +kernel
theorem own_d_method_3_236 : decode method_3_code 236 = .ok (.ifCond .ne 13, 3) := by decide +kernel
theorem own_d_method_3_239 : decode method_3_code 239 = .ok (.iload 7, 2) := by decide +kernel
theorem own_d_method_3_241 : decode method_3_code 241 = .ok (.ifCond .ne 8, 3) := by decide +kernel
theorem own_d_method_3_244 : decode method_3_code 244 = .ok (.iload 8, 2) := by decide +kernel
theorem own_d_method_3_246 : decode method_3_code 246 = .ok (.ifCond .eq 7, 3) := by decide +kernel
theorem own_d_method_3_249 : decode method_3_code 249 = .ok (.iconst 1, 1) := by decide +kernel
theorem own_d_method_3_250 : decode method_3_code 250 = .ok (.goto 4, 3) := by decide +kernel
theorem own_d_method_3_253 : decode method_3_code 253 = .ok (.iconst 0, 1) := by decide +kernel
theorem own_d_method_3_254 : decode method_3_code 254 = .ok (.ireturn, 1) := by decide +kernel
theorem own_d_prog_199_7_0 : decode prog_199_method_7_code 0 = .ok (.iload_n 0, 1) := by decide +kernel
theorem own_d_prog_199_7_1 : decode prog_199_method_7_code 1 = .ok (.getstatic 42, 3) := by decide +kernel
theorem own_d_prog_199_7_4 : decode prog_199_method_7_code 4 = .ok (.arraylength, 1) := by decide +kernel
theorem own_d_prog_199_7_5 : decode prog_199_method_7_code 5 = .ok (.if_icmp .ge 22, 3) := by decide +kernel
theorem own_d_prog_199_7_8 : decode prog_199_method_7_code 8 = .ok (.getstatic 42, 3) := by decide +kernel
theorem own_d_prog_199_7_11 : decode prog_199_method_7_code 11 = .ok (.iload_n 0, 1) := by decide +kernel
theorem own_d_prog_199_7_12 : decode prog_199_method_7_code 12 = .ok (.baload, 1) := by decide +kernel
theorem own_d_prog_199_7_13 : decode prog_199_method_7_code 13 = .ok (.iconst 1, 1) := by decide +kernel
theorem own_d_prog_199_7_14 : decode prog_199_method_7_code 14 = .ok (.iand, 1) := by decide +kernel
theorem own_d_prog_199_7_15 : decode prog_199_method_7_code 15 = .ok (.ifCond .eq 7, 3) := by decide +kernel
theorem own_d_prog_199_7_18 : decode prog_199_method_7_code 18 = .ok (.iconst 1, 1) := by decide +kernel
theorem own_d_prog_199_7_19 : decode prog_199_method_7_code 19 = .ok (.goto 4, 3) := by decide +kernel
theorem own_d_prog_199_7_22 : decode prog_199_method_7_code 22 = .ok (.iconst 0, 1) := by decide +kernel
theorem own_d_prog_199_7_23 : decode prog_199_method_7_code 23 = .ok (.istore_n 1, 1) := by decide +kernel
theorem own_d_prog_199_7_24 : decode prog_199_method_7_code 24 = .ok (.goto 158, 3) := by decide +kernel
theorem own_d_prog_199_7_27 : decode prog_199_method_7_code 27 = .ok (.iload_n 0, 1) := by decide +kernel
theorem own_d_prog_199_7_28 : decode prog_199_method_7_code 28 = .ok (.sipush 192, 3) := by decide +kernel
theorem own_d_prog_199_7_31 : decode prog_199_method_7_code 31 = .ok (.if_icmp .lt 10, 3) := by decide +kernel
theorem own_d_prog_199_7_34 : decode prog_199_method_7_code 34 = .ok (.iload_n 0, 1) := by decide +kernel
theorem own_d_prog_199_7_35 : decode prog_199_method_7_code 35 = .ok (.sipush 214, 3) := by decide +kernel
theorem own_d_prog_199_7_38 : decode prog_199_method_7_code 38 = .ok (.if_icmp .le 138, 3) := by decide +kernel
theorem own_d_prog_199_7_41 : decode prog_199_method_7_code 41 = .ok (.iload_n 0, 1) := by decide +kernel
theorem own_d_prog_199_7_42 : decode prog_199_method_7_code 42 = .ok (.sipush 216, 3) := by decide +kernel
theorem own_d_prog_199_7_45 : decode prog_199_method_7_code 45 = .ok (.if_icmp .lt 10, 3) := by decide +kernel
theorem own_d_prog_199_7_48 : decode prog_199_method_7_code 48 = .ok (.iload_n 0, 1) := by decide +kernel
theorem own_d_prog_199_7_49 : decode prog_199_method_7_code 49 = .ok (.sipush 246, 3) := by decide +kernel
theorem own_d_prog_199_7_52 : decode prog_199_method_7_code 52 = .ok (.if_icmp .le 124, 3) := by decide +kernel
theorem own_d_prog_199_7_55 : decode prog_199_method_7_code 55 = .ok (.iload_n 0, 1) := by decide +kernel
theorem own_d_prog_199_7_56 : decode prog_199_method_7_code 56 = .ok (.sipush 248, 3) := by decide +kernel
theorem own_d_prog_199_7_59 : decode prog_199_method_7_code 59 = .ok (.if_icmp .lt 10, 3) := by decide +kernel
theorem own_d_prog_199_7_62 : decode prog_199_method_7_code 62 = .ok (.iload_n 0, 1) := by decide +kernel
theorem own_d_prog_199_7_63 : decode prog_199_method_7_code 63 = .ok (.sipush 767, 3) := by decide +kernel
theorem own_d_prog_199_7_66 : decode prog_199_method_7_code 66 = .ok (.if_icmp .le 110, 3) := by decide +kernel
theorem own_d_prog_199_7_69 : decode prog_199_method_7_code 69 = .ok (.iload_n 0, 1) := by decide +kernel
theorem own_d_prog_199_7_70 : decode prog_199_method_7_code 70 = .ok (.sipush 880, 3) := by decide +kernel
theorem own_d_prog_199_7_73 : decode prog_199_method_7_code 73 = .ok (.if_icmp .lt 10, 3) := by decide +kernel
theorem own_d_prog_199_7_76 : decode prog_199_method_7_code 76 = .ok (.iload_n 0, 1) := by decide +kernel
theorem own_d_prog_199_7_77 : decode prog_199_method_7_code 77 = .ok (.sipush 893, 3) := by decide +kernel
theorem own_d_prog_199_7_80 : decode prog_199_method_7_code 80 = .ok (.if_icmp .le 96, 3) := by decide +kernel
theorem own_d_prog_199_7_83 : decode prog_199_method_7_code 83 = .ok (.iload_n 0, 1) := by decide +kernel
theorem own_d_prog_199_7_84 : decode prog_199_method_7_code 84 = .ok (.sipush 895, 3) := by decide +kernel
theorem own_d_prog_199_7_87 : decode prog_199_method_7_code 87 = .ok (.if_icmp .lt 10, 3) := by decide +kernel
theorem own_d_prog_199_7_90 : decode prog_199_method_7_code 90 = .ok (.iload_n 0, 1) := by decide +kernel
theorem own_d_prog_199_7_91 : decode prog_199_method_7_code 91 = .ok (.sipush 8191, 3) := by decide +kernel
theorem own_d_prog_199_7_94 : decode prog_199_method_7_code 94 = .ok (.if_icmp .le 82, 3) := by decide +kernel
theorem own_d_prog_199_7_97 : decode prog_199_method_7_code 97 = .ok (.iload_n 0, 1) := by decide +kernel
theorem own_d_prog_199_7_98 : decode prog_199_method_7_code 98 = .ok (.sipush 8204, 3) := by decide +kernel
theorem own_d_prog_199_7_101 : decode prog_199_method_7_code 101 = .ok (.if_icmp .eq 75, 3) := by decide +kernel
theorem own_d_prog_199_7_104 : decode prog_199_method_7_code 104 = .ok (.iload_n 0, 1) := by decide +kernel
theorem own_d_prog_199_7_105 : decode prog_199_method_7_code 105 = .ok (.sipush 8205, 3) := by decide +kernel
theorem own_d_prog_199_7_108 : decode prog_199_method_7_code 108 = .ok (.if_icmp .eq 68, 3) := by decide +kernel
theorem own_d_prog_199_7_111 : decode prog_199_method_7_code 111 = .ok (.iload_n 0, 1) := by decide +kernel
theorem own_d_prog_199_7_112 : decode prog_199_method_7_code 112 = .ok (.sipush 8304, 3) := by decide +kernel
theorem own_d_prog_199_7_115 : decode prog_199_method_7_code 115 = .ok (.if_icmp .lt 10, 3) := by decide +kernel
theorem own_d_prog_199_7_118 : decode prog_199_method_7_code 118 = .ok (.iload_n 0, 1) := by decide +kernel
theorem own_d_prog_199_7_119 : decode prog_199_method_7_code 119 = .ok (.sipush 8591, 3) := by decide +kernel
theorem own_d_prog_199_7_122 : decode prog_199_method_7_code 122 = .ok (.if_icmp .le 54, 3) := by decide +kernel
theorem own_d_prog_199_7_125 : decode prog_199_method_7_code 125 = .ok (.iload_n 0, 1) := by decide +kernel
theorem own_d_prog_199_7_126 : decode prog_199_method_7_code 126 = .ok (.sipush 11264, 3) := by decide +kernel
theorem own_d_prog_199_7_129 : decode prog_199_method_7_code 129 = .ok (.if_icmp .lt 10, 3) := by decide +kernel
theorem own_d_prog_199_7_132 : decode prog_199_method_7_code 132 = .ok (.iload_n 0, 1) := by decide +kernel
theorem own_d_prog_199_7_133 : decode prog_199_method_7_code 133 = .ok (.sipush 12271, 3) := by decide +kernel
theorem own_d_prog_199_7_136 : decode prog_199_method_7_code 136 = .ok (.if_icmp .le 40, 3) := by decide +kernel
theorem own_d_prog_199_7_139 : decode prog_199_method_7_code 139 = .ok (.iload_n 0, 1) := by decide +kernel
theorem own_d_prog_199_7_140 : decode prog_199_method_7_code 140 = .ok (.sipush 12289, 3) := by decide +kernel
theorem own_d_prog_199_7_143 : decode prog_199_method_7_code 143 = .ok (.if_icmp .lt 9, 3) := by decide +kernel
theorem own_d_prog_199_7_146 : decode prog_199_method_7_code 146 = .ok (.iload_n 0, 1) := by decide +kernel
theorem own_d_prog_199_7_147 : decode prog_199_method_7_code 147 = .ok (.ldc 46, 2) := by decide +kernel
theorem own_d_prog_199_7_149 : decode prog_199_method_7_code 149 = .ok (.if_icmp .le 27, 3) := by decide +kernel
theorem own_d_prog_199_7_152 : decode prog_199_method_7_code 152 = .ok (.iload_n 0, 1) := by decide +kernel
theorem own_d_prog_199_7_153 : decode prog_199_method_7_code 153 = .ok (.ldc 47, 2) := by decide +kernel
theorem own_d_prog_199_7_155 : decode prog_199_method_7_code 155 = .ok (.if_icmp .lt 9, 3) := by decide +kernel
theorem own_d_prog_199_7_158 : decode prog_199_method_7_code 158 = .ok (.iload_n 0, 1) := by decide +kernel
theorem own_d_prog_199_7_159 : decode prog_199_method_7_code 159 = .ok (.ldc 48, 2) := by decide +kernel
theorem own_d_prog_199_7_161 : decode prog_199_method_7_code 161 = .ok (.if_icmp .le 15, 3) := by decide +kernel
theorem own_d_prog_199_7_164 : decode prog_199_method_7_code 164 = .ok (.iload_n 0, 1) := by decide +kernel
theorem own_d_prog_199_7_165 : decode prog_199_method_7_code 165 = .ok (.ldc 49, 2) := by decide +kernel
theorem own_d_prog_199_7_167 : decode prog_199_method_7_code 167 = .ok (.if_icmp .lt 13, 3) := by decide +kernel
theorem own_d_prog_199_7_170 : decode prog_199_method_7_code 170 = .ok (.iload_n 0, 1) := by decide +kernel
theorem own_d_prog_199_7_171 : decode prog_199_method_7_code 171 = .ok (.ldc 39, 2) := by decide +kernel
theorem own_d_prog_199_7_173 : decode prog_199_method_7_code 173 = .ok (.if_icmp .gt 7, 3) := by decide +kernel
theorem own_d_prog_199_7_176 : decode prog_199_method_7_code 176 = .ok (.iconst 1, 1) := by decide +kernel
theorem own_d_prog_199_7_177 : decode prog_199_method_7_code 177 = .ok (.goto 4, 3) := by decide +kernel
theorem own_d_prog_199_7_180 : decode prog_199_method_7_code 180 = .ok (.iconst 0, 1) := by decide +kernel
theorem own_d_prog_199_7_181 : decode prog_199_method_7_code 181 = .ok (.istore_n 1, 1) := by decide +kernel
theorem own_d_prog_199_7_182 : decode prog_199_method_7_code 182 = .ok (.iload_n 1, 1) := by decide +kernel
theorem own_d_prog_199_7_183 : decode prog_199_method_7_code 183 = .ok (.ireturn, 1) := by decide +kernel
theorem own_pd0 : parseMethodDescriptor "(III)Z" = some ⟨[.int, .int, .int], some .boolean⟩ := by decide +kernel
theorem own_pd1 : parseMethodDescriptor "(C)Z" = some ⟨[.char], some .boolean⟩ := by decide +kernel
theorem own_pd2 : parseMethodDescriptor "(I)Z" = some ⟨[.int], some .boolean⟩ := by decide +kernel
theorem own_pn0 : plainName "com/example/canox/canox/xml/XmlCharsIsNameStartPinLaw" = true := by first | (simp [plainName, overriddenIn]; done) | decide +kernel
theorem own_pn1 : plainName "com/example/canox/canox/xml/XmlChars" = true := by first | (simp [plainName, overriddenIn]; done) | decide +kernel
def own_in (u lo hi : Int32) : Int32 := if lo.toInt ≤ u.toInt ∧ u.toInt ≤ hi.toInt then 1 else 0
theorem own_in0 (u lo hi : Int32) : own_in u lo hi = 0 ↔ ¬ (lo.toInt ≤ u.toInt ∧ u.toInt ≤ hi.toInt) := by unfold own_in; split <;> simp_all
theorem own_in1 (u lo hi : Int32) : own_in u lo hi = if lo.toInt ≤ u.toInt ∧ u.toInt ≤ hi.toInt then 1 else 0 := rfl
theorem own_ite0 (P : Prop) [Decidable P] : (if P then (1 : Int32) else 0) = 0 ↔ ¬ P := by split <;> simp_all
def own_ns (p0 : Int32) : Int32 := if (58 ≤ p0.toInt ∧ p0.toInt ≤ 58) ∨ (65 ≤ p0.toInt ∧ p0.toInt ≤ 90) ∨ (95 ≤ p0.toInt ∧ p0.toInt ≤ 95) ∨ (97 ≤ p0.toInt ∧ p0.toInt ≤ 122) ∨ (192 ≤ p0.toInt ∧ p0.toInt ≤ 214) ∨ (216 ≤ p0.toInt ∧ p0.toInt ≤ 246) ∨ (248 ≤ p0.toInt ∧ p0.toInt ≤ 767) ∨ (880 ≤ p0.toInt ∧ p0.toInt ≤ 893) ∨ (895 ≤ p0.toInt ∧ p0.toInt ≤ 8191) ∨ (8204 ≤ p0.toInt ∧ p0.toInt ≤ 8205) ∨ (8304 ≤ p0.toInt ∧ p0.toInt ≤ 8591) ∨ (11264 ≤ p0.toInt ∧ p0.toInt ≤ 12271) ∨ (12289 ≤ p0.toInt ∧ p0.toInt ≤ 55295) ∨ (55296 ≤ p0.toInt ∧ p0.toInt ≤ 56191) ∨ (63744 ≤ p0.toInt ∧ p0.toInt ≤ 64975) ∨ (65008 ≤ p0.toInt ∧ p0.toInt ≤ 65533) then 1 else 0
def own_asc (p0 : Int32) : Prop := (58 ≤ p0.toInt ∧ p0.toInt ≤ 58) ∨ (65 ≤ p0.toInt ∧ p0.toInt ≤ 90) ∨ (95 ≤ p0.toInt ∧ p0.toInt ≤ 95) ∨ (97 ≤ p0.toInt ∧ p0.toInt ≤ 122)
theorem own_ns_asc0 (p0 : Int32) (h0 : ¬ p0 < (0 : Int32)) (h1 : p0 < (128 : Int32)) (h : ¬ own_asc p0) : (0 : Int32) = own_ns p0 := by
  simp only [Int32.lt_iff_toInt_lt, Int32.reduceToInt] at h0 h1
  exact (if_neg fun q => h (by unfold own_asc; omega)).symm
theorem own_ns_asc1 (p0 : Int32) (h0 : ¬ p0 < (0 : Int32)) (h1 : p0 < (128 : Int32)) (h : ¬ ¬ own_asc p0) : (1 : Int32) = own_ns p0 := by
  have q := Classical.not_not.mp h
  unfold own_asc at q
  exact (if_pos (by omega)).symm
theorem own_ns_no (p0 : Int32) (h0 : ¬ p0 < (128 : Int32)) (h1 : ¬ (192 ≤ p0.toInt ∧ p0.toInt ≤ 214)) (h2 : ¬ (216 ≤ p0.toInt ∧ p0.toInt ≤ 246)) (h3 : ¬ (248 ≤ p0.toInt ∧ p0.toInt ≤ 767)) (h4 : ¬ (880 ≤ p0.toInt ∧ p0.toInt ≤ 893)) (h5 : ¬ (895 ≤ p0.toInt ∧ p0.toInt ≤ 8191)) (h6 : ¬ (8204 ≤ p0.toInt ∧ p0.toInt ≤ 8205)) (h7 : ¬ (8304 ≤ p0.toInt ∧ p0.toInt ≤ 8591)) (h8 : ¬ (11264 ≤ p0.toInt ∧ p0.toInt ≤ 12271)) (h9 : ¬ (12289 ≤ p0.toInt ∧ p0.toInt ≤ 56191)) (h10 : ¬ (63744 ≤ p0.toInt ∧ p0.toInt ≤ 64975)) (hl : ¬ (65008 ≤ p0.toInt ∧ p0.toInt ≤ 65533)) : (0 : Int32) = own_ns p0 := by
  simp only [Int32.lt_iff_toInt_lt, Int32.reduceToInt] at h0
  refine (if_neg fun q => ?_).symm
  rcases q with q | q | q | q | q | q | q | q | q | q | q | q | q | q | q | q <;> first | exact hl q | exact h1 q | exact h2 q | exact h3 q | exact h4 q | exact h5 q | exact h6 q | exact h7 q | exact h8 q | exact h9 q | exact h10 q | (clear hl h1 h2 h3 h4 h5 h6 h7 h8 h10; omega) | omega
theorem own_nnc (x : Int32) : ¬ (x.toUInt32.toUInt16.toUInt32.toInt32) < (0 : Int32) := by
  have e := (c_i2c x).2.1
  rw [Int32.lt_iff_toInt_lt]; simp only [Int32.reduceToInt]; omega
theorem own_tabl (x j : Int32) (h0 : ¬ j < (0 : Int32)) (h1 : j < (128 : Int32)) (g0 : (10 : Int32) ≤ j ∨ x = (0 : Int32)) (g1 : ¬ j = (10 : Int32) ∨ x = (4 : Int32)) (g2 : ¬ j = (11 : Int32) ∨ x = (0 : Int32)) (g3 : ¬ j = (12 : Int32) ∨ x = (0 : Int32)) (g4 : ¬ j = (13 : Int32) ∨ x = (4 : Int32)) (g5 : j < (14 : Int32) ∨ ¬ j < (32 : Int32) ∨ x = (0 : Int32)) (g6 : ¬ j = (32 : Int32) ∨ x = (4 : Int32)) (g7 : ¬ j = (33 : Int32) ∨ x = (4 : Int32)) (g8 : ¬ j = (34 : Int32) ∨ x = (0 : Int32)) (g9 : ¬ j = (35 : Int32) ∨ x = (4 : Int32)) (g10 : ¬ j = (36 : Int32) ∨ x = (4 : Int32)) (g11 : ¬ j = (37 : Int32) ∨ x = (4 : Int32)) (g12 : ¬ j = (38 : Int32) ∨ x = (0 : Int32)) (g13 : j < (39 : Int32) ∨ ¬ j < (45 : Int32) ∨ x = (4 : Int32)) (g14 : ¬ j = (45 : Int32) ∨ x = (6 : Int32)) (g15 : ¬ j = (46 : Int32) ∨ x = (6 : Int32)) (g16 : ¬ j = (47 : Int32) ∨ x = (4 : Int32)) (g17 : j < (48 : Int32) ∨ ¬ j < (58 : Int32) ∨ x = (6 : Int32)) (g18 : ¬ j = (58 : Int32) ∨ x = (7 : Int32)) (g19 : ¬ j = (59 : Int32) ∨ x = (4 : Int32)) (g20 : ¬ j = (60 : Int32) ∨ x = (0 : Int32)) (g21 : ¬ j = (61 : Int32) ∨ x = (4 : Int32)) (g22 : ¬ j = (62 : Int32) ∨ x = (0 : Int32)) (g23 : ¬ j = (63 : Int32) ∨ x = (4 : Int32)) (g24 : ¬ j = (64 : Int32) ∨ x = (4 : Int32)) (g25 : j < (65 : Int32) ∨ ¬ j < (91 : Int32) ∨ x = (7 : Int32)) (g26 : j < (91 : Int32) ∨ ¬ j < (95 : Int32) ∨ x = (0 : Int32)) (g27 : ¬ j = (95 : Int32) ∨ x = (7 : Int32)) (g28 : ¬ j = (96 : Int32) ∨ x = (0 : Int32)) (g29 : j < (97 : Int32) ∨ ¬ j < (123 : Int32) ∨ x = (7 : Int32)) (g30 : j < (123 : Int32) ∨ x = (0 : Int32)) : ((x &&& (1 : Int32)) = (0 : Int32) ↔ ¬ own_asc j) := by
  have hd : (own_asc j ∧ x = 7) ∨ (¬ own_asc j ∧ (x = 0 ∨ x = 4 ∨ x = 6)) := by
    unfold own_asc
    simp only [Int32.lt_iff_toInt_lt, Int32.le_iff_toInt_le, ← Int32.toInt_inj, Int32.reduceToInt] at *
    omega
  rcases hd with ⟨h, rfl⟩ | ⟨h, rfl | rfl | rfl⟩
  · exact ⟨fun q => absurd q (by decide), fun q => absurd h q⟩
  all_goals exact ⟨fun _ => h, fun _ => by decide⟩
theorem own_elAt {args : Array Value} {s : State} {x : Addr} {cl : Cell} {n : Int32} (ev : (Term.static "com/example/canox/canox/xml/XmlChars" "ASCII" "[B").eval args s none [] s = some (.ref x)) (T : Tab s s.heap x cl .byte n) {j : Int32} (h0 : ¬ j < 0) (h1 : j < n) : (Term.elem (Term.static "com/example/canox/canox/xml/XmlChars" "ASCII" "[B") (.index 0)).eval args s none [j.toNatClampNeg] s = some (.int (atv cl j)) := by
  have hi := inb_of T.2.1 ⟨h0, h1⟩
  have evj : (Term.static "com/example/canox/canox/xml/XmlChars" "ASCII" "[B").eval args s none [j.toNatClampNeg] s = some (.ref x) := ev
  rw [elem_f evj (idx_at h0) (T.1.fin (Vm.Alike.refl _)) h0]
  exact T.2.2.2 j hi
theorem own_allAt {args : Array Value} {s : State} {x : Addr} {cl : Cell} {n : Int32} {B : Jvm.Cond} (ev : (Term.static "com/example/canox/canox/xml/XmlChars" "ASCII" "[B").eval args s none [] s = some (.ref x)) (T : Tab s s.heap x cl .byte n) {j : Int32} (h0 : ¬ j < 0) (h1 : j < n) (h : (Cond.all (Term.static "com/example/canox/canox/xml/XmlChars" "ASCII" "[B") B).value args s none s [] = some true) : B.value args s none s [j.toNatClampNeg] = some true :=
  Cond.all_elim ev (T.1.fin (Vm.Alike.refl _)) h _ (Nat.lt_of_not_le fun q => inb_of T.2.1 ⟨h0, h1⟩ (Or.inr q))

def own_Q_own_rm3 (Z : State) (p0 : Int32) (p1 : Int32) (p2 : Int32) (h0 : Heap) (n0 : Nat) : Option Value → Heap → List Loc → Prop := fun v h L => v = some (.int (own_in p0 p1 p2)) ∧ Fr n0 L ∧ h = h0
theorem own_ef_own_rm3 (m : MethodId) (x0 : Int32) (x1 : Int32) (x2 : Int32) : entryFrame m #[(.int x0), (.int x1), (.int x2)] 3 = mkF m 0 #[.val (.int x0), .val (.int x1), .val (.int x2)] [] := by first | (simp [entryFrame, mkF, argsToLocals, Value.category]; done) | rfl
set_option maxRecDepth 65536 in
set_option maxHeartbeats 40000000 in
theorem own_rm3 (l : Launch) (Z : State) (a0 : Array Value) (hw : ∀ d ∈ tables_1, d.before a0 Z = true) (ws : List Jvm.Cond) (p0 : Int32) (p1 : Int32) (p2 : Int32) (h0 : Heap) (n0 : Nat) :
    MetFree l (⟨"com/example/canox/canox/xml/XmlCharsIsNameStartPinLaw", "in", "(III)Z"⟩ : MethodName) (head1 (Jvm.Cond.code (⟨"com/example/canox/canox/xml/XmlCharsIsNameStartPinLaw", "in", "(III)Z"⟩ : MethodName) method_2_code 3 (some .boolean) :: ws) ({ frames := 0, cells := 0, slots := 0, locals := 0 } : Room)) (fun a U => a = #[(.int p0), (.int p1), (.int p2)] ∧ Z.Warmed39 U.vm ∧ U.heap = h0) (fun _ _ _ _ _ => True) (fun _ U o U' => ∃ v L, o = .returned v ∧ (own_Q_own_rm3 Z p0 p1 p2 h0 n0) v U'.heap L ∧ FrameEnd U o U' L ({ frames := 0, cells := 0, slots := 0, locals := 0 } : Room).cells ({ frames := 0, cells := 0, slots := 0, locals := 0 } : Room).slots) := by
  refine MetFree.of_bodySF (plainFor_of_name own_pn0) hisR ?_
  intro p e s m args below meth c s₁ Bd hml0 hP hK
  obtain ⟨rfl, hZ, hh⟩ := hP
  have hx := Bd.exec
  have hby := Bd.bytes
  have hml : c.maxLocals = 3 := hml0
  have hown : s.vm.findClass "com/example/canox/canox/xml/XmlCharsIsNameStartPinLaw" = some m.cls := findClass_of_methodNamed Bd.named
  have hnm := (name_of_methodNamed Bd.named Bd.method).1
  have hlk : meth.locks = false := BodyLoose.notSynchronized Bd
  have X0 : Stand p l e ({ frames := 0, cells := 0, slots := 0, locals := 0 } : Room) s m #[(.int p0), (.int p1), (.int p2)] below meth c s₁ [] 0 0 := Stand.of_body Bd
  have e0 : s₁.heap = h0 := by rw [← hh, Bd.state]; rfl
  have N0 := Fr.nil n0
  show own_Ends p e below s (own_Q_own_rm3 Z p0 p1 p2 h0 n0) ({ frames := 0, cells := 0, slots := 0, locals := 0 } : Room).cells ({ frames := 0, cells := 0, slots := 0, locals := 0 } : Room).slots _
  refine own_by (V := s₁.setTop (mkF m 0 #[.val (.int p0), .val (.int p1), .val (.int p2)] [])) (fun t k => castTop (own_ef_own_rm3 m p0 p1 p2) k) ?_
  refine own_by (V := s₁.setTop (mkF m 1 #[.val (.int p0), .val (.int p1), .val (.int p2)] [(.int p0)])) (fun t k => XS.iloadN X0.here hx rfl (hb hby own_d_method_2_0) rfl  k) ?_
  refine own_by (V := s₁.setTop (mkF m 2 #[.val (.int p0), .val (.int p1), .val (.int p2)] [(.int p1), (.int p0)])) (fun t k => XS.iloadN X0.here hx rfl (hb hby own_d_method_2_1) rfl  k) ?_
  by_cases hb2_1 : p0 < p1
  · refine own_by (V := s₁.setTop (mkF m 14 #[.val (.int p0), .val (.int p1), .val (.int p2)] [])) (fun t k => XS.icmpYes X0.here hx rfl (pc0 := 2) (pc' := 14) rfl (hb hby own_d_method_2_2) rfl (tlt hb2_1).1 (by decide) (by decide) k) ?_
    refine own_by (V := s₁.setTop (mkF m 15 #[.val (.int p0), .val (.int p1), .val (.int p2)] [(.int (0 : Int32))])) (fun t k => XS.iconst X0.here hx rfl (hb hby own_d_method_2_14) k) ?_
    refine own_retN X0 hx hlk e0 Bd.returns (t := .boolean) (by simp) rfl (hb hby own_d_method_2_15) ?_ (by decide) (by decide)
    exact ⟨congrArg (fun z => some (Value.int z)) (show (0 : Int32) = (own_in p0 p1 p2) from by ((try simp only [Int32.lt_iff_toInt_lt, ← Int32.toInt_inj, own_neg1, Int32.reduceToInt] at hb2_1); exact (if_neg (by omega)).symm)), N0, rfl⟩
  · refine own_by (V := s₁.setTop (mkF m 5 #[.val (.int p0), .val (.int p1), .val (.int p2)] [])) (fun t k => XS.icmpNo X0.here hx rfl (hb hby own_d_method_2_2) rfl (flt hb2_1).1 k) ?_
    refine own_by (V := s₁.setTop (mkF m 6 #[.val (.int p0), .val (.int p1), .val (.int p2)] [(.int p0)])) (fun t k => XS.iloadN X0.here hx rfl (hb hby own_d_method_2_5) rfl  k) ?_
    refine own_by (V := s₁.setTop (mkF m 7 #[.val (.int p0), .val (.int p1), .val (.int p2)] [(.int p2), (.int p0)])) (fun t k => XS.iloadN X0.here hx rfl (hb hby own_d_method_2_6) rfl  k) ?_
    by_cases hb7_2 : p2 < p0
    · refine own_by (V := s₁.setTop (mkF m 14 #[.val (.int p0), .val (.int p1), .val (.int p2)] [])) (fun t k => XS.icmpYes X0.here hx rfl (pc0 := 7) (pc' := 14) rfl (hb hby own_d_method_2_7) rfl (tlt hb7_2).2.2.1 (by decide) (by decide) k) ?_
      refine own_by (V := s₁.setTop (mkF m 15 #[.val (.int p0), .val (.int p1), .val (.int p2)] [(.int (0 : Int32))])) (fun t k => XS.iconst X0.here hx rfl (hb hby own_d_method_2_14) k) ?_
      refine own_retN X0 hx hlk e0 Bd.returns (t := .boolean) (by simp) rfl (hb hby own_d_method_2_15) ?_ (by decide) (by decide)
      exact ⟨congrArg (fun z => some (Value.int z)) (show (0 : Int32) = (own_in p0 p1 p2) from by ((try simp only [Int32.lt_iff_toInt_lt, ← Int32.toInt_inj, own_neg1, Int32.reduceToInt] at hb2_1); (try simp only [Int32.lt_iff_toInt_lt, ← Int32.toInt_inj, own_neg1, Int32.reduceToInt] at hb7_2); exact (if_neg (by omega)).symm)), N0, rfl⟩
    · refine own_by (V := s₁.setTop (mkF m 10 #[.val (.int p0), .val (.int p1), .val (.int p2)] [])) (fun t k => XS.icmpNo X0.here hx rfl (hb hby own_d_method_2_7) rfl (flt hb7_2).2.2.1 k) ?_
      refine own_by (V := s₁.setTop (mkF m 11 #[.val (.int p0), .val (.int p1), .val (.int p2)] [(.int (1 : Int32))])) (fun t k => XS.iconst X0.here hx rfl (hb hby own_d_method_2_10) k) ?_
      refine own_by (V := s₁.setTop (mkF m 15 #[.val (.int p0), .val (.int p1), .val (.int p2)] [(.int (1 : Int32))])) (fun t k => XS.goto X0.here hx rfl (pc0 := 11) (pc' := 15) rfl (hb hby own_d_method_2_11) (by decide) (by decide) k) ?_
      refine own_retN X0 hx hlk e0 Bd.returns (t := .boolean) (by simp) rfl (hb hby own_d_method_2_15) ?_ (by decide) (by decide)
      exact ⟨congrArg (fun z => some (Value.int z)) (show (1 : Int32) = (own_in p0 p1 p2) from by ((try simp only [Int32.lt_iff_toInt_lt, ← Int32.toInt_inj, own_neg1, Int32.reduceToInt] at hb2_1); (try simp only [Int32.lt_iff_toInt_lt, ← Int32.toInt_inj, own_neg1, Int32.reduceToInt] at hb7_2); exact (if_pos (by omega)).symm)), N0, rfl⟩
def own_Q_own_rm2 (Z : State) (p0 : Int32) (h0 : Heap) (n0 : Nat) : Option Value → Heap → List Loc → Prop := fun v h L => v = some (.int (own_ns p0)) ∧ Fr n0 L ∧ h = h0
theorem own_ef_own_rm2 (m : MethodId) (x0 : Int32) : entryFrame m #[(.int x0)] 9 = mkF m 0 #[.val (.int x0), .unset, .unset, .unset, .unset, .unset, .unset, .unset, .unset] [] := by first | (simp [entryFrame, mkF, argsToLocals, Value.category]; done) | rfl
set_option maxRecDepth 65536 in
set_option maxHeartbeats 40000000 in
theorem own_rm2 (l : Launch) (Z : State) (a0 : Array Value) (hw : ∀ d ∈ tables_1, d.before a0 Z = true) (ws : List Jvm.Cond) (p0 : Int32) (h0 : Heap) (n0 : Nat) :
    MetFree l (⟨"com/example/canox/canox/xml/XmlCharsIsNameStartPinLaw", "expected", "(I)Z"⟩ : MethodName) (head1 (Jvm.Cond.code (⟨"com/example/canox/canox/xml/XmlCharsIsNameStartPinLaw", "expected", "(I)Z"⟩ : MethodName) method_3_code 9 (some .boolean) :: ws) ({ frames := 1, cells := 0, slots := 0, locals := 14 } : Room)) (fun a U => a = #[(.int p0)] ∧ Z.Warmed39 U.vm ∧ U.heap = h0) (fun _ _ _ _ _ => True) (fun _ U o U' => ∃ v L, o = .returned v ∧ (own_Q_own_rm2 Z p0 h0 n0) v U'.heap L ∧ FrameEnd U o U' L ({ frames := 1, cells := 0, slots := 0, locals := 14 } : Room).cells ({ frames := 1, cells := 0, slots := 0, locals := 14 } : Room).slots) := by
  refine MetFree.of_bodySF (plainFor_of_name own_pn0) hisR ?_
  intro p e s m args below meth c s₁ Bd hml0 hP hK
  obtain ⟨rfl, hZ, hh⟩ := hP
  have hx := Bd.exec
  have hby := Bd.bytes
  have hml : c.maxLocals = 9 := hml0
  have hown : s.vm.findClass "com/example/canox/canox/xml/XmlCharsIsNameStartPinLaw" = some m.cls := findClass_of_methodNamed Bd.named
  have hnm := (name_of_methodNamed Bd.named Bd.method).1
  have hlk : meth.locks = false := BodyLoose.notSynchronized Bd
  have X0 : Stand p l e ({ frames := 1, cells := 0, slots := 0, locals := 14 } : Room) s m #[(.int p0)] below meth c s₁ [] 0 0 := Stand.of_body Bd
  have e0 : s₁.heap = h0 := by rw [← hh, Bd.state]; rfl
  have N0 := Fr.nil n0
  show own_Ends p e below s (own_Q_own_rm2 Z p0 h0 n0) ({ frames := 1, cells := 0, slots := 0, locals := 14 } : Room).cells ({ frames := 1, cells := 0, slots := 0, locals := 14 } : Room).slots _
  refine own_by (V := s₁.setTop (mkF m 0 #[.val (.int p0), .unset, .unset, .unset, .unset, .unset, .unset, .unset, .unset] [])) (fun t k => castTop (own_ef_own_rm2 m p0) k) ?_
  refine own_by (V := s₁.setTop (mkF m 1 #[.val (.int p0), .unset, .unset, .unset, .unset, .unset, .unset, .unset, .unset] [(.int p0)])) (fun t k => XS.iloadN X0.here hx rfl (hb hby own_d_method_3_0) rfl  k) ?_
  refine own_by (V := s₁.setTop (mkF m 3 #[.val (.int p0), .unset, .unset, .unset, .unset, .unset, .unset, .unset, .unset] [(.int (58 : Int32)), (.int p0)])) (fun t k => XS.bipush X0.here hx rfl (hb hby own_d_method_3_1) k) ?_
  have J1 : ∀ (T1 : State) (l1 : List Loc) (v1 : Int32) (X1 : Stand p l e ({ frames := 1, cells := 0, slots := 0, locals := 14 } : Room) s m #[(.int p0)] below meth c T1 l1 0 0) (e1 : T1.heap = h0) (N1 : Fr n0 l1) (hv1 : v1 = if (58 ≤ p0.toInt ∧ p0.toInt ≤ 58) ∨ (65 ≤ p0.toInt ∧ p0.toInt ≤ 90) ∨ (95 ≤ p0.toInt ∧ p0.toInt ≤ 95) ∨ (97 ≤ p0.toInt ∧ p0.toInt ≤ 122) then 1 else 0), own_Ends p e below s (own_Q_own_rm2 Z p0 h0 n0) ({ frames := 1, cells := 0, slots := 0, locals := 14 } : Room).cells ({ frames := 1, cells := 0, slots := 0, locals := 14 } : Room).slots (T1.setTop (mkF m 39 #[.val (.int p0), .unset, .unset, .unset, .unset, .unset, .unset, .unset, .unset] [(.int v1)])) := by
    intro T1 l1 v1 X1 e1 N1 hv1
    refine own_by (V := T1.setTop (mkF m 40 #[.val (.int p0), .val (.int v1), .unset, .unset, .unset, .unset, .unset, .unset, .unset] [])) (fun t k => XS.istoreN X1.here hx rfl (hb hby own_d_method_3_39) rfl (l' := #[.val (.int p0), .val (.int v1), .unset, .unset, .unset, .unset, .unset, .unset, .unset]) rfl k) ?_
    refine own_by (V := T1.setTop (mkF m 41 #[.val (.int p0), .val (.int v1), .unset, .unset, .unset, .unset, .unset, .unset, .unset] [(.int p0)])) (fun t k => XS.iloadN X1.here hx rfl (hb hby own_d_method_3_40) rfl  k) ?_
    refine own_by (V := T1.setTop (mkF m 44 #[.val (.int p0), .val (.int v1), .unset, .unset, .unset, .unset, .unset, .unset, .unset] [(.int (192 : Int32)), (.int p0)])) (fun t k => XS.sipush X1.here hx rfl (hb hby own_d_method_3_41) k) ?_
    refine own_by (V := T1.setTop (mkF m 47 #[.val (.int p0), .val (.int v1), .unset, .unset, .unset, .unset, .unset, .unset, .unset] [(.int (214 : Int32)), (.int (192 : Int32)), (.int p0)])) (fun t k => XS.sipush X1.here hx rfl (hb hby own_d_method_3_44) k) ?_
    obtain ⟨_, _, ⟨T2, Lq2, kq2, nq2⟩, -, X2, ⟨Lc2, hQ2, lq2, yq2, zq2⟩, st2⟩ := Jvm.LawKit.callS X1 hx (y := (⟨"com/example/canox/canox/xml/XmlCharsIsNameStartPinLaw", "in", "(III)Z"⟩ : MethodName)) hown (mvT hZ (hw _ (List.mem_of_getElem? (i := 11) rfl))) (mvT hZ (hw _ (List.mem_of_getElem? (i := 12) rfl))) (mvT hZ (hw _ (List.mem_of_getElem? (i := 9) rfl))) (mvT hZ (hw _ (List.mem_of_getElem? (i := 13) rfl))) (by decide) (backOf (W := 0) (own_rm3 l Z a0 hw [] p0 (192 : Int32) (214 : Int32) h0 n0) hZ (hw _ (List.mem_of_getElem? (i := 13) rfl)) (hw _ (List.mem_of_getElem? (i := 9) rfl)) (by decide) (by decide)) (g := (mkF m 47 #[.val (.int p0), .val (.int v1), .unset, .unset, .unset, .unset, .unset, .unset, .unset] [(.int (214 : Int32)), (.int (192 : Int32)), (.int p0)])) rfl (by rw [hml]; rfl) (argsL := [(.int p0), (.int (192 : Int32)), (.int (214 : Int32))]) (rest := []) (lenOf own_pd0 rfl) rfl (by show 2 * 0 + _ ≤ _; exact Nat.le_of_eq rfl) (hb hby own_d_method_3_47) (fun _ _ => ⟨rfl, e1, (by decide : 0 + 0 ≤ _), (by decide : 0 + 0 ≤ _)⟩)
    dsimp only [Pt.U, Pt.locs, Pt.cells, Pt.slots] at X2 lq2 yq2 zq2 st2 hQ2
    subst lq2 yq2 zq2
    obtain ⟨rfl, N2q, e2⟩ := hQ2
    have N2 := Fr.app N1 N2q
    refine own_by (V := T2.setTop (mkF m 50 #[.val (.int p0), .val (.int v1), .unset, .unset, .unset, .unset, .unset, .unset, .unset] [(.int (own_in p0 (192 : Int32) (214 : Int32)))])) st2 ?_
    have J3 : ∀ (T3 : State) (l3 : List Loc) (v2 : Int32) (X3 : Stand p l e ({ frames := 1, cells := 0, slots := 0, locals := 14 } : Room) s m #[(.int p0)] below meth c T3 l3 0 0) (e3 : T3.heap = h0) (N3 : Fr n0 l3) (hv2 : v2 = if (192 ≤ p0.toInt ∧ p0.toInt ≤ 214) ∨ (216 ≤ p0.toInt ∧ p0.toInt ≤ 246) ∨ (248 ≤ p0.toInt ∧ p0.toInt ≤ 767) then 1 else 0), own_Ends p e below s (own_Q_own_rm2 Z p0 h0 n0) ({ frames := 1, cells := 0, slots := 0, locals := 14 } : Room).cells ({ frames := 1, cells := 0, slots := 0, locals := 14 } : Room).slots (T3.setTop (mkF m 84 #[.val (.int p0), .val (.int v1), .unset, .unset, .unset, .unset, .unset, .unset, .unset] [(.int v2)])) := by
      intro T3 l3 v2 X3 e3 N3 hv2
      refine own_by (V := T3.setTop (mkF m 85 #[.val (.int p0), .val (.int v1), .val (.int v2), .unset, .unset, .unset, .unset, .unset, .unset] [])) (fun t k => XS.istoreN X3.here hx rfl (hb hby own_d_method_3_84) rfl (l' := #[.val (.int p0), .val (.int v1), .val (.int v2), .unset, .unset, .unset, .unset, .unset, .unset]) rfl k) ?_
      refine own_by (V := T3.setTop (mkF m 86 #[.val (.int p0), .val (.int v1), .val (.int v2), .unset, .unset, .unset, .unset, .unset, .unset] [(.int p0)])) (fun t k => XS.iloadN X3.here hx rfl (hb hby own_d_method_3_85) rfl  k) ?_
      refine own_by (V := T3.setTop (mkF m 89 #[.val (.int p0), .val (.int v1), .val (.int v2), .unset, .unset, .unset, .unset, .unset, .unset] [(.int (880 : Int32)), (.int p0)])) (fun t k => XS.sipush X3.here hx rfl (hb hby own_d_method_3_86) k) ?_
      refine own_by (V := T3.setTop (mkF m 92 #[.val (.int p0), .val (.int v1), .val (.int v2), .unset, .unset, .unset, .unset, .unset, .unset] [(.int (893 : Int32)), (.int (880 : Int32)), (.int p0)])) (fun t k => XS.sipush X3.here hx rfl (hb hby own_d_method_3_89) k) ?_
      obtain ⟨_, _, ⟨T4, Lq4, kq4, nq4⟩, -, X4, ⟨Lc4, hQ4, lq4, yq4, zq4⟩, st4⟩ := Jvm.LawKit.callS X3 hx (y := (⟨"com/example/canox/canox/xml/XmlCharsIsNameStartPinLaw", "in", "(III)Z"⟩ : MethodName)) hown (mvT hZ (hw _ (List.mem_of_getElem? (i := 11) rfl))) (mvT hZ (hw _ (List.mem_of_getElem? (i := 12) rfl))) (mvT hZ (hw _ (List.mem_of_getElem? (i := 9) rfl))) (mvT hZ (hw _ (List.mem_of_getElem? (i := 13) rfl))) (by decide) (backOf (W := 0) (own_rm3 l Z a0 hw [] p0 (880 : Int32) (893 : Int32) h0 n0) hZ (hw _ (List.mem_of_getElem? (i := 13) rfl)) (hw _ (List.mem_of_getElem? (i := 9) rfl)) (by decide) (by decide)) (g := (mkF m 92 #[.val (.int p0), .val (.int v1), .val (.int v2), .unset, .unset, .unset, .unset, .unset, .unset] [(.int (893 : Int32)), (.int (880 : Int32)), (.int p0)])) rfl (by rw [hml]; rfl) (argsL := [(.int p0), (.int (880 : Int32)), (.int (893 : Int32))]) (rest := []) (lenOf own_pd0 rfl) rfl (by show 2 * 0 + _ ≤ _; exact Nat.le_of_eq rfl) (hb hby own_d_method_3_92) (fun _ _ => ⟨rfl, e3, (by decide : 0 + 0 ≤ _), (by decide : 0 + 0 ≤ _)⟩)
      dsimp only [Pt.U, Pt.locs, Pt.cells, Pt.slots] at X4 lq4 yq4 zq4 st4 hQ4
      subst lq4 yq4 zq4
      obtain ⟨rfl, N4q, e4⟩ := hQ4
      have N4 := Fr.app N3 N4q
      refine own_by (V := T4.setTop (mkF m 95 #[.val (.int p0), .val (.int v1), .val (.int v2), .unset, .unset, .unset, .unset, .unset, .unset] [(.int (own_in p0 (880 : Int32) (893 : Int32)))])) st4 ?_
      have J5 : ∀ (T5 : State) (l5 : List Loc) (v3 : Int32) (X5 : Stand p l e ({ frames := 1, cells := 0, slots := 0, locals := 14 } : Room) s m #[(.int p0)] below meth c T5 l5 0 0) (e5 : T5.heap = h0) (N5 : Fr n0 l5) (hv3 : v3 = if (880 ≤ p0.toInt ∧ p0.toInt ≤ 893) ∨ (895 ≤ p0.toInt ∧ p0.toInt ≤ 8191) then 1 else 0), own_Ends p e below s (own_Q_own_rm2 Z p0 h0 n0) ({ frames := 1, cells := 0, slots := 0, locals := 14 } : Room).cells ({ frames := 1, cells := 0, slots := 0, locals := 14 } : Room).slots (T5.setTop (mkF m 116 #[.val (.int p0), .val (.int v1), .val (.int v2), .unset, .unset, .unset, .unset, .unset, .unset] [(.int v3)])) := by
        intro T5 l5 v3 X5 e5 N5 hv3
        refine own_by (V := T5.setTop (mkF m 117 #[.val (.int p0), .val (.int v1), .val (.int v2), .val (.int v3), .unset, .unset, .unset, .unset, .unset] [])) (fun t k => XS.istoreN X5.here hx rfl (hb hby own_d_method_3_116) rfl (l' := #[.val (.int p0), .val (.int v1), .val (.int v2), .val (.int v3), .unset, .unset, .unset, .unset, .unset]) rfl k) ?_
        refine own_by (V := T5.setTop (mkF m 118 #[.val (.int p0), .val (.int v1), .val (.int v2), .val (.int v3), .unset, .unset, .unset, .unset, .unset] [(.int p0)])) (fun t k => XS.iloadN X5.here hx rfl (hb hby own_d_method_3_117) rfl  k) ?_
        refine own_by (V := T5.setTop (mkF m 121 #[.val (.int p0), .val (.int v1), .val (.int v2), .val (.int v3), .unset, .unset, .unset, .unset, .unset] [(.int (8204 : Int32)), (.int p0)])) (fun t k => XS.sipush X5.here hx rfl (hb hby own_d_method_3_118) k) ?_
        refine own_by (V := T5.setTop (mkF m 124 #[.val (.int p0), .val (.int v1), .val (.int v2), .val (.int v3), .unset, .unset, .unset, .unset, .unset] [(.int (8205 : Int32)), (.int (8204 : Int32)), (.int p0)])) (fun t k => XS.sipush X5.here hx rfl (hb hby own_d_method_3_121) k) ?_
        obtain ⟨_, _, ⟨T6, Lq6, kq6, nq6⟩, -, X6, ⟨Lc6, hQ6, lq6, yq6, zq6⟩, st6⟩ := Jvm.LawKit.callS X5 hx (y := (⟨"com/example/canox/canox/xml/XmlCharsIsNameStartPinLaw", "in", "(III)Z"⟩ : MethodName)) hown (mvT hZ (hw _ (List.mem_of_getElem? (i := 11) rfl))) (mvT hZ (hw _ (List.mem_of_getElem? (i := 12) rfl))) (mvT hZ (hw _ (List.mem_of_getElem? (i := 9) rfl))) (mvT hZ (hw _ (List.mem_of_getElem? (i := 13) rfl))) (by decide) (backOf (W := 0) (own_rm3 l Z a0 hw [] p0 (8204 : Int32) (8205 : Int32) h0 n0) hZ (hw _ (List.mem_of_getElem? (i := 13) rfl)) (hw _ (List.mem_of_getElem? (i := 9) rfl)) (by decide) (by decide)) (g := (mkF m 124 #[.val (.int p0), .val (.int v1), .val (.int v2), .val (.int v3), .unset, .unset, .unset, .unset, .unset] [(.int (8205 : Int32)), (.int (8204 : Int32)), (.int p0)])) rfl (by rw [hml]; rfl) (argsL := [(.int p0), (.int (8204 : Int32)), (.int (8205 : Int32))]) (rest := []) (lenOf own_pd0 rfl) rfl (by show 2 * 0 + _ ≤ _; exact Nat.le_of_eq rfl) (hb hby own_d_method_3_124) (fun _ _ => ⟨rfl, e5, (by decide : 0 + 0 ≤ _), (by decide : 0 + 0 ≤ _)⟩)
        dsimp only [Pt.U, Pt.locs, Pt.cells, Pt.slots] at X6 lq6 yq6 zq6 st6 hQ6
        subst lq6 yq6 zq6
        obtain ⟨rfl, N6q, e6⟩ := hQ6
        have N6 := Fr.app N5 N6q
        refine own_by (V := T6.setTop (mkF m 127 #[.val (.int p0), .val (.int v1), .val (.int v2), .val (.int v3), .unset, .unset, .unset, .unset, .unset] [(.int (own_in p0 (8204 : Int32) (8205 : Int32)))])) st6 ?_
        refine own_by (V := T6.setTop (mkF m 129 #[.val (.int p0), .val (.int v1), .val (.int v2), .val (.int v3), .val (.int (own_in p0 (8204 : Int32) (8205 : Int32))), .unset, .unset, .unset, .unset] [])) (fun t k => XS.istore X6.here hx rfl (hb hby own_d_method_3_127) rfl (l' := #[.val (.int p0), .val (.int v1), .val (.int v2), .val (.int v3), .val (.int (own_in p0 (8204 : Int32) (8205 : Int32))), .unset, .unset, .unset, .unset]) rfl k) ?_
        refine own_by (V := T6.setTop (mkF m 130 #[.val (.int p0), .val (.int v1), .val (.int v2), .val (.int v3), .val (.int (own_in p0 (8204 : Int32) (8205 : Int32))), .unset, .unset, .unset, .unset] [(.int p0)])) (fun t k => XS.iloadN X6.here hx rfl (hb hby own_d_method_3_129) rfl  k) ?_
        refine own_by (V := T6.setTop (mkF m 133 #[.val (.int p0), .val (.int v1), .val (.int v2), .val (.int v3), .val (.int (own_in p0 (8204 : Int32) (8205 : Int32))), .unset, .unset, .unset, .unset] [(.int (8304 : Int32)), (.int p0)])) (fun t k => XS.sipush X6.here hx rfl (hb hby own_d_method_3_130) k) ?_
        refine own_by (V := T6.setTop (mkF m 136 #[.val (.int p0), .val (.int v1), .val (.int v2), .val (.int v3), .val (.int (own_in p0 (8204 : Int32) (8205 : Int32))), .unset, .unset, .unset, .unset] [(.int (8591 : Int32)), (.int (8304 : Int32)), (.int p0)])) (fun t k => XS.sipush X6.here hx rfl (hb hby own_d_method_3_133) k) ?_
        obtain ⟨_, _, ⟨T7, Lq7, kq7, nq7⟩, -, X7, ⟨Lc7, hQ7, lq7, yq7, zq7⟩, st7⟩ := Jvm.LawKit.callS X6 hx (y := (⟨"com/example/canox/canox/xml/XmlCharsIsNameStartPinLaw", "in", "(III)Z"⟩ : MethodName)) hown (mvT hZ (hw _ (List.mem_of_getElem? (i := 11) rfl))) (mvT hZ (hw _ (List.mem_of_getElem? (i := 12) rfl))) (mvT hZ (hw _ (List.mem_of_getElem? (i := 9) rfl))) (mvT hZ (hw _ (List.mem_of_getElem? (i := 13) rfl))) (by decide) (backOf (W := 0) (own_rm3 l Z a0 hw [] p0 (8304 : Int32) (8591 : Int32) h0 n0) hZ (hw _ (List.mem_of_getElem? (i := 13) rfl)) (hw _ (List.mem_of_getElem? (i := 9) rfl)) (by decide) (by decide)) (g := (mkF m 136 #[.val (.int p0), .val (.int v1), .val (.int v2), .val (.int v3), .val (.int (own_in p0 (8204 : Int32) (8205 : Int32))), .unset, .unset, .unset, .unset] [(.int (8591 : Int32)), (.int (8304 : Int32)), (.int p0)])) rfl (by rw [hml]; rfl) (argsL := [(.int p0), (.int (8304 : Int32)), (.int (8591 : Int32))]) (rest := []) (lenOf own_pd0 rfl) rfl (by show 2 * 0 + _ ≤ _; exact Nat.le_of_eq rfl) (hb hby own_d_method_3_136) (fun _ _ => ⟨rfl, e6, (by decide : 0 + 0 ≤ _), (by decide : 0 + 0 ≤ _)⟩)
        dsimp only [Pt.U, Pt.locs, Pt.cells, Pt.slots] at X7 lq7 yq7 zq7 st7 hQ7
        subst lq7 yq7 zq7
        obtain ⟨rfl, N7q, e7⟩ := hQ7
        have N7 := Fr.app N6 N7q
        refine own_by (V := T7.setTop (mkF m 139 #[.val (.int p0), .val (.int v1), .val (.int v2), .val (.int v3), .val (.int (own_in p0 (8204 : Int32) (8205 : Int32))), .unset, .unset, .unset, .unset] [(.int (own_in p0 (8304 : Int32) (8591 : Int32)))])) st7 ?_
        have J8 : ∀ (T8 : State) (l8 : List Loc) (v5 : Int32) (X8 : Stand p l e ({ frames := 1, cells := 0, slots := 0, locals := 14 } : Room) s m #[(.int p0)] below meth c T8 l8 0 0) (e8 : T8.heap = h0) (N8 : Fr n0 l8) (hv5 : v5 = if (8304 ≤ p0.toInt ∧ p0.toInt ≤ 8591) ∨ (11264 ≤ p0.toInt ∧ p0.toInt ≤ 12271) then 1 else 0), own_Ends p e below s (own_Q_own_rm2 Z p0 h0 n0) ({ frames := 1, cells := 0, slots := 0, locals := 14 } : Room).cells ({ frames := 1, cells := 0, slots := 0, locals := 14 } : Room).slots (T8.setTop (mkF m 160 #[.val (.int p0), .val (.int v1), .val (.int v2), .val (.int v3), .val (.int (own_in p0 (8204 : Int32) (8205 : Int32))), .unset, .unset, .unset, .unset] [(.int v5)])) := by
          intro T8 l8 v5 X8 e8 N8 hv5
          refine own_by (V := T8.setTop (mkF m 162 #[.val (.int p0), .val (.int v1), .val (.int v2), .val (.int v3), .val (.int (own_in p0 (8204 : Int32) (8205 : Int32))), .val (.int v5), .unset, .unset, .unset] [])) (fun t k => XS.istore X8.here hx rfl (hb hby own_d_method_3_160) rfl (l' := #[.val (.int p0), .val (.int v1), .val (.int v2), .val (.int v3), .val (.int (own_in p0 (8204 : Int32) (8205 : Int32))), .val (.int v5), .unset, .unset, .unset]) rfl k) ?_
          refine own_by (V := T8.setTop (mkF m 163 #[.val (.int p0), .val (.int v1), .val (.int v2), .val (.int v3), .val (.int (own_in p0 (8204 : Int32) (8205 : Int32))), .val (.int v5), .unset, .unset, .unset] [(.int p0)])) (fun t k => XS.iloadN X8.here hx rfl (hb hby own_d_method_3_162) rfl  k) ?_
          refine own_by (V := T8.setTop (mkF m 166 #[.val (.int p0), .val (.int v1), .val (.int v2), .val (.int v3), .val (.int (own_in p0 (8204 : Int32) (8205 : Int32))), .val (.int v5), .unset, .unset, .unset] [(.int (12289 : Int32)), (.int p0)])) (fun t k => XS.sipush X8.here hx rfl (hb hby own_d_method_3_163) k) ?_
          refine own_by (V := T8.setTop (mkF m 168 #[.val (.int p0), .val (.int v1), .val (.int v2), .val (.int v3), .val (.int (own_in p0 (8204 : Int32) (8205 : Int32))), .val (.int v5), .unset, .unset, .unset] [(.int (55295 : Int32)), (.int (12289 : Int32)), (.int p0)])) (Jvm.Stand.ldcInt X8 hx hown (mvT hZ (hw _ (List.mem_of_getElem? (i := 14) rfl))) (g := (mkF m 166 #[.val (.int p0), .val (.int v1), .val (.int v2), .val (.int v3), .val (.int (own_in p0 (8204 : Int32) (8205 : Int32))), .val (.int v5), .unset, .unset, .unset] [(.int (12289 : Int32)), (.int p0)])) rfl (hb hby own_d_method_3_166)) ?_
          obtain ⟨_, _, ⟨T9, Lq9, kq9, nq9⟩, -, X9, ⟨Lc9, hQ9, lq9, yq9, zq9⟩, st9⟩ := Jvm.LawKit.callS X8 hx (y := (⟨"com/example/canox/canox/xml/XmlCharsIsNameStartPinLaw", "in", "(III)Z"⟩ : MethodName)) hown (mvT hZ (hw _ (List.mem_of_getElem? (i := 11) rfl))) (mvT hZ (hw _ (List.mem_of_getElem? (i := 12) rfl))) (mvT hZ (hw _ (List.mem_of_getElem? (i := 9) rfl))) (mvT hZ (hw _ (List.mem_of_getElem? (i := 13) rfl))) (by decide) (backOf (W := 0) (own_rm3 l Z a0 hw [] p0 (12289 : Int32) (55295 : Int32) h0 n0) hZ (hw _ (List.mem_of_getElem? (i := 13) rfl)) (hw _ (List.mem_of_getElem? (i := 9) rfl)) (by decide) (by decide)) (g := (mkF m 168 #[.val (.int p0), .val (.int v1), .val (.int v2), .val (.int v3), .val (.int (own_in p0 (8204 : Int32) (8205 : Int32))), .val (.int v5), .unset, .unset, .unset] [(.int (55295 : Int32)), (.int (12289 : Int32)), (.int p0)])) rfl (by rw [hml]; rfl) (argsL := [(.int p0), (.int (12289 : Int32)), (.int (55295 : Int32))]) (rest := []) (lenOf own_pd0 rfl) rfl (by show 2 * 0 + _ ≤ _; exact Nat.le_of_eq rfl) (hb hby own_d_method_3_168) (fun _ _ => ⟨rfl, e8, (by decide : 0 + 0 ≤ _), (by decide : 0 + 0 ≤ _)⟩)
          dsimp only [Pt.U, Pt.locs, Pt.cells, Pt.slots] at X9 lq9 yq9 zq9 st9 hQ9
          subst lq9 yq9 zq9
          obtain ⟨rfl, N9q, e9⟩ := hQ9
          have N9 := Fr.app N8 N9q
          refine own_by (V := T9.setTop (mkF m 171 #[.val (.int p0), .val (.int v1), .val (.int v2), .val (.int v3), .val (.int (own_in p0 (8204 : Int32) (8205 : Int32))), .val (.int v5), .unset, .unset, .unset] [(.int (own_in p0 (12289 : Int32) (55295 : Int32)))])) st9 ?_
          refine own_by (V := T9.setTop (mkF m 173 #[.val (.int p0), .val (.int v1), .val (.int v2), .val (.int v3), .val (.int (own_in p0 (8204 : Int32) (8205 : Int32))), .val (.int v5), .val (.int (own_in p0 (12289 : Int32) (55295 : Int32))), .unset, .unset] [])) (fun t k => XS.istore X9.here hx rfl (hb hby own_d_method_3_171) rfl (l' := #[.val (.int p0), .val (.int v1), .val (.int v2), .val (.int v3), .val (.int (own_in p0 (8204 : Int32) (8205 : Int32))), .val (.int v5), .val (.int (own_in p0 (12289 : Int32) (55295 : Int32))), .unset, .unset]) rfl k) ?_
          refine own_by (V := T9.setTop (mkF m 174 #[.val (.int p0), .val (.int v1), .val (.int v2), .val (.int v3), .val (.int (own_in p0 (8204 : Int32) (8205 : Int32))), .val (.int v5), .val (.int (own_in p0 (12289 : Int32) (55295 : Int32))), .unset, .unset] [(.int p0)])) (fun t k => XS.iloadN X9.here hx rfl (hb hby own_d_method_3_173) rfl  k) ?_
          refine own_by (V := T9.setTop (mkF m 176 #[.val (.int p0), .val (.int v1), .val (.int v2), .val (.int v3), .val (.int (own_in p0 (8204 : Int32) (8205 : Int32))), .val (.int v5), .val (.int (own_in p0 (12289 : Int32) (55295 : Int32))), .unset, .unset] [(.int (55296 : Int32)), (.int p0)])) (Jvm.Stand.ldcInt X9 hx hown (mvT hZ (hw _ (List.mem_of_getElem? (i := 15) rfl))) (g := (mkF m 174 #[.val (.int p0), .val (.int v1), .val (.int v2), .val (.int v3), .val (.int (own_in p0 (8204 : Int32) (8205 : Int32))), .val (.int v5), .val (.int (own_in p0 (12289 : Int32) (55295 : Int32))), .unset, .unset] [(.int p0)])) rfl (hb hby own_d_method_3_174)) ?_
          refine own_by (V := T9.setTop (mkF m 178 #[.val (.int p0), .val (.int v1), .val (.int v2), .val (.int v3), .val (.int (own_in p0 (8204 : Int32) (8205 : Int32))), .val (.int v5), .val (.int (own_in p0 (12289 : Int32) (55295 : Int32))), .unset, .unset] [(.int (56191 : Int32)), (.int (55296 : Int32)), (.int p0)])) (Jvm.Stand.ldcInt X9 hx hown (mvT hZ (hw _ (List.mem_of_getElem? (i := 16) rfl))) (g := (mkF m 176 #[.val (.int p0), .val (.int v1), .val (.int v2), .val (.int v3), .val (.int (own_in p0 (8204 : Int32) (8205 : Int32))), .val (.int v5), .val (.int (own_in p0 (12289 : Int32) (55295 : Int32))), .unset, .unset] [(.int (55296 : Int32)), (.int p0)])) rfl (hb hby own_d_method_3_176)) ?_
          obtain ⟨_, _, ⟨T10, Lq10, kq10, nq10⟩, -, X10, ⟨Lc10, hQ10, lq10, yq10, zq10⟩, st10⟩ := Jvm.LawKit.callS X9 hx (y := (⟨"com/example/canox/canox/xml/XmlCharsIsNameStartPinLaw", "in", "(III)Z"⟩ : MethodName)) hown (mvT hZ (hw _ (List.mem_of_getElem? (i := 11) rfl))) (mvT hZ (hw _ (List.mem_of_getElem? (i := 12) rfl))) (mvT hZ (hw _ (List.mem_of_getElem? (i := 9) rfl))) (mvT hZ (hw _ (List.mem_of_getElem? (i := 13) rfl))) (by decide) (backOf (W := 0) (own_rm3 l Z a0 hw [] p0 (55296 : Int32) (56191 : Int32) h0 n0) hZ (hw _ (List.mem_of_getElem? (i := 13) rfl)) (hw _ (List.mem_of_getElem? (i := 9) rfl)) (by decide) (by decide)) (g := (mkF m 178 #[.val (.int p0), .val (.int v1), .val (.int v2), .val (.int v3), .val (.int (own_in p0 (8204 : Int32) (8205 : Int32))), .val (.int v5), .val (.int (own_in p0 (12289 : Int32) (55295 : Int32))), .unset, .unset] [(.int (56191 : Int32)), (.int (55296 : Int32)), (.int p0)])) rfl (by rw [hml]; rfl) (argsL := [(.int p0), (.int (55296 : Int32)), (.int (56191 : Int32))]) (rest := []) (lenOf own_pd0 rfl) rfl (by show 2 * 0 + _ ≤ _; exact Nat.le_of_eq rfl) (hb hby own_d_method_3_178) (fun _ _ => ⟨rfl, e9, (by decide : 0 + 0 ≤ _), (by decide : 0 + 0 ≤ _)⟩)
          dsimp only [Pt.U, Pt.locs, Pt.cells, Pt.slots] at X10 lq10 yq10 zq10 st10 hQ10
          subst lq10 yq10 zq10
          obtain ⟨rfl, N10q, e10⟩ := hQ10
          have N10 := Fr.app N9 N10q
          refine own_by (V := T10.setTop (mkF m 181 #[.val (.int p0), .val (.int v1), .val (.int v2), .val (.int v3), .val (.int (own_in p0 (8204 : Int32) (8205 : Int32))), .val (.int v5), .val (.int (own_in p0 (12289 : Int32) (55295 : Int32))), .unset, .unset] [(.int (own_in p0 (55296 : Int32) (56191 : Int32)))])) st10 ?_
          refine own_by (V := T10.setTop (mkF m 183 #[.val (.int p0), .val (.int v1), .val (.int v2), .val (.int v3), .val (.int (own_in p0 (8204 : Int32) (8205 : Int32))), .val (.int v5), .val (.int (own_in p0 (12289 : Int32) (55295 : Int32))), .val (.int (own_in p0 (55296 : Int32) (56191 : Int32))), .unset] [])) (fun t k => XS.istore X10.here hx rfl (hb hby own_d_method_3_181) rfl (l' := #[.val (.int p0), .val (.int v1), .val (.int v2), .val (.int v3), .val (.int (own_in p0 (8204 : Int32) (8205 : Int32))), .val (.int v5), .val (.int (own_in p0 (12289 : Int32) (55295 : Int32))), .val (.int (own_in p0 (55296 : Int32) (56191 : Int32))), .unset]) rfl k) ?_
          refine own_by (V := T10.setTop (mkF m 184 #[.val (.int p0), .val (.int v1), .val (.int v2), .val (.int v3), .val (.int (own_in p0 (8204 : Int32) (8205 : Int32))), .val (.int v5), .val (.int (own_in p0 (12289 : Int32) (55295 : Int32))), .val (.int (own_in p0 (55296 : Int32) (56191 : Int32))), .unset] [(.int p0)])) (fun t k => XS.iloadN X10.here hx rfl (hb hby own_d_method_3_183) rfl  k) ?_
          refine own_by (V := T10.setTop (mkF m 186 #[.val (.int p0), .val (.int v1), .val (.int v2), .val (.int v3), .val (.int (own_in p0 (8204 : Int32) (8205 : Int32))), .val (.int v5), .val (.int (own_in p0 (12289 : Int32) (55295 : Int32))), .val (.int (own_in p0 (55296 : Int32) (56191 : Int32))), .unset] [(.int (63744 : Int32)), (.int p0)])) (Jvm.Stand.ldcInt X10 hx hown (mvT hZ (hw _ (List.mem_of_getElem? (i := 17) rfl))) (g := (mkF m 184 #[.val (.int p0), .val (.int v1), .val (.int v2), .val (.int v3), .val (.int (own_in p0 (8204 : Int32) (8205 : Int32))), .val (.int v5), .val (.int (own_in p0 (12289 : Int32) (55295 : Int32))), .val (.int (own_in p0 (55296 : Int32) (56191 : Int32))), .unset] [(.int p0)])) rfl (hb hby own_d_method_3_184)) ?_
          refine own_by (V := T10.setTop (mkF m 188 #[.val (.int p0), .val (.int v1), .val (.int v2), .val (.int v3), .val (.int (own_in p0 (8204 : Int32) (8205 : Int32))), .val (.int v5), .val (.int (own_in p0 (12289 : Int32) (55295 : Int32))), .val (.int (own_in p0 (55296 : Int32) (56191 : Int32))), .unset] [(.int (64975 : Int32)), (.int (63744 : Int32)), (.int p0)])) (Jvm.Stand.ldcInt X10 hx hown (mvT hZ (hw _ (List.mem_of_getElem? (i := 18) rfl))) (g := (mkF m 186 #[.val (.int p0), .val (.int v1), .val (.int v2), .val (.int v3), .val (.int (own_in p0 (8204 : Int32) (8205 : Int32))), .val (.int v5), .val (.int (own_in p0 (12289 : Int32) (55295 : Int32))), .val (.int (own_in p0 (55296 : Int32) (56191 : Int32))), .unset] [(.int (63744 : Int32)), (.int p0)])) rfl (hb hby own_d_method_3_186)) ?_
          obtain ⟨_, _, ⟨T11, Lq11, kq11, nq11⟩, -, X11, ⟨Lc11, hQ11, lq11, yq11, zq11⟩, st11⟩ := Jvm.LawKit.callS X10 hx (y := (⟨"com/example/canox/canox/xml/XmlCharsIsNameStartPinLaw", "in", "(III)Z"⟩ : MethodName)) hown (mvT hZ (hw _ (List.mem_of_getElem? (i := 11) rfl))) (mvT hZ (hw _ (List.mem_of_getElem? (i := 12) rfl))) (mvT hZ (hw _ (List.mem_of_getElem? (i := 9) rfl))) (mvT hZ (hw _ (List.mem_of_getElem? (i := 13) rfl))) (by decide) (backOf (W := 0) (own_rm3 l Z a0 hw [] p0 (63744 : Int32) (64975 : Int32) h0 n0) hZ (hw _ (List.mem_of_getElem? (i := 13) rfl)) (hw _ (List.mem_of_getElem? (i := 9) rfl)) (by decide) (by decide)) (g := (mkF m 188 #[.val (.int p0), .val (.int v1), .val (.int v2), .val (.int v3), .val (.int (own_in p0 (8204 : Int32) (8205 : Int32))), .val (.int v5), .val (.int (own_in p0 (12289 : Int32) (55295 : Int32))), .val (.int (own_in p0 (55296 : Int32) (56191 : Int32))), .unset] [(.int (64975 : Int32)), (.int (63744 : Int32)), (.int p0)])) rfl (by rw [hml]; rfl) (argsL := [(.int p0), (.int (63744 : Int32)), (.int (64975 : Int32))]) (rest := []) (lenOf own_pd0 rfl) rfl (by show 2 * 0 + _ ≤ _; exact Nat.le_of_eq rfl) (hb hby own_d_method_3_188) (fun _ _ => ⟨rfl, e10, (by decide : 0 + 0 ≤ _), (by decide : 0 + 0 ≤ _)⟩)
          dsimp only [Pt.U, Pt.locs, Pt.cells, Pt.slots] at X11 lq11 yq11 zq11 st11 hQ11
          subst lq11 yq11 zq11
          obtain ⟨rfl, N11q, e11⟩ := hQ11
          have N11 := Fr.app N10 N11q
          refine own_by (V := T11.setTop (mkF m 191 #[.val (.int p0), .val (.int v1), .val (.int v2), .val (.int v3), .val (.int (own_in p0 (8204 : Int32) (8205 : Int32))), .val (.int v5), .val (.int (own_in p0 (12289 : Int32) (55295 : Int32))), .val (.int (own_in p0 (55296 : Int32) (56191 : Int32))), .unset] [(.int (own_in p0 (63744 : Int32) (64975 : Int32)))])) st11 ?_
          have J12 : ∀ (T12 : State) (l12 : List Loc) (v8 : Int32) (X12 : Stand p l e ({ frames := 1, cells := 0, slots := 0, locals := 14 } : Room) s m #[(.int p0)] below meth c T12 l12 0 0) (e12 : T12.heap = h0) (N12 : Fr n0 l12) (hv8 : v8 = if (63744 ≤ p0.toInt ∧ p0.toInt ≤ 64975) ∨ (65008 ≤ p0.toInt ∧ p0.toInt ≤ 65533) then 1 else 0), own_Ends p e below s (own_Q_own_rm2 Z p0 h0 n0) ({ frames := 1, cells := 0, slots := 0, locals := 14 } : Room).cells ({ frames := 1, cells := 0, slots := 0, locals := 14 } : Room).slots (T12.setTop (mkF m 210 #[.val (.int p0), .val (.int v1), .val (.int v2), .val (.int v3), .val (.int (own_in p0 (8204 : Int32) (8205 : Int32))), .val (.int v5), .val (.int (own_in p0 (12289 : Int32) (55295 : Int32))), .val (.int (own_in p0 (55296 : Int32) (56191 : Int32))), .unset] [(.int v8)])) := by
            intro T12 l12 v8 X12 e12 N12 hv8
            refine own_by (V := T12.setTop (mkF m 212 #[.val (.int p0), .val (.int v1), .val (.int v2), .val (.int v3), .val (.int (own_in p0 (8204 : Int32) (8205 : Int32))), .val (.int v5), .val (.int (own_in p0 (12289 : Int32) (55295 : Int32))), .val (.int (own_in p0 (55296 : Int32) (56191 : Int32))), .val (.int v8)] [])) (fun t k => XS.istore X12.here hx rfl (hb hby own_d_method_3_210) rfl (l' := #[.val (.int p0), .val (.int v1), .val (.int v2), .val (.int v3), .val (.int (own_in p0 (8204 : Int32) (8205 : Int32))), .val (.int v5), .val (.int (own_in p0 (12289 : Int32) (55295 : Int32))), .val (.int (own_in p0 (55296 : Int32) (56191 : Int32))), .val (.int v8)]) rfl k) ?_
            refine own_by (V := T12.setTop (mkF m 213 #[.val (.int p0), .val (.int v1), .val (.int v2), .val (.int v3), .val (.int (own_in p0 (8204 : Int32) (8205 : Int32))), .val (.int v5), .val (.int (own_in p0 (12289 : Int32) (55295 : Int32))), .val (.int (own_in p0 (55296 : Int32) (56191 : Int32))), .val (.int v8)] [(.int v1)])) (fun t k => XS.iloadN X12.here hx rfl (hb hby own_d_method_3_212) rfl  k) ?_
            by_cases hb213_13 : v1 = (0 : Int32)
            · refine own_by (V := T12.setTop (mkF m 216 #[.val (.int p0), .val (.int v1), .val (.int v2), .val (.int v3), .val (.int (own_in p0 (8204 : Int32) (8205 : Int32))), .val (.int v5), .val (.int (own_in p0 (12289 : Int32) (55295 : Int32))), .val (.int (own_in p0 (55296 : Int32) (56191 : Int32))), .val (.int v8)] [])) (fun t k => XS.ifNo X12.here hx rfl (hb hby own_d_method_3_213) rfl ((if0 _ _).trans (teq hb213_13).2) k) ?_
              refine own_by (V := T12.setTop (mkF m 217 #[.val (.int p0), .val (.int v1), .val (.int v2), .val (.int v3), .val (.int (own_in p0 (8204 : Int32) (8205 : Int32))), .val (.int v5), .val (.int (own_in p0 (12289 : Int32) (55295 : Int32))), .val (.int (own_in p0 (55296 : Int32) (56191 : Int32))), .val (.int v8)] [(.int v2)])) (fun t k => XS.iloadN X12.here hx rfl (hb hby own_d_method_3_216) rfl  k) ?_
              by_cases hb217_14 : v2 = (0 : Int32)
              · refine own_by (V := T12.setTop (mkF m 220 #[.val (.int p0), .val (.int v1), .val (.int v2), .val (.int v3), .val (.int (own_in p0 (8204 : Int32) (8205 : Int32))), .val (.int v5), .val (.int (own_in p0 (12289 : Int32) (55295 : Int32))), .val (.int (own_in p0 (55296 : Int32) (56191 : Int32))), .val (.int v8)] [])) (fun t k => XS.ifNo X12.here hx rfl (hb hby own_d_method_3_217) rfl ((if0 _ _).trans (teq hb217_14).2) k) ?_
                refine own_by (V := T12.setTop (mkF m 221 #[.val (.int p0), .val (.int v1), .val (.int v2), .val (.int v3), .val (.int (own_in p0 (8204 : Int32) (8205 : Int32))), .val (.int v5), .val (.int (own_in p0 (12289 : Int32) (55295 : Int32))), .val (.int (own_in p0 (55296 : Int32) (56191 : Int32))), .val (.int v8)] [(.int v3)])) (fun t k => XS.iloadN X12.here hx rfl (hb hby own_d_method_3_220) rfl  k) ?_
                by_cases hb221_15 : v3 = (0 : Int32)
                · refine own_by (V := T12.setTop (mkF m 224 #[.val (.int p0), .val (.int v1), .val (.int v2), .val (.int v3), .val (.int (own_in p0 (8204 : Int32) (8205 : Int32))), .val (.int v5), .val (.int (own_in p0 (12289 : Int32) (55295 : Int32))), .val (.int (own_in p0 (55296 : Int32) (56191 : Int32))), .val (.int v8)] [])) (fun t k => XS.ifNo X12.here hx rfl (hb hby own_d_method_3_221) rfl ((if0 _ _).trans (teq hb221_15).2) k) ?_
                  refine own_by (V := T12.setTop (mkF m 226 #[.val (.int p0), .val (.int v1), .val (.int v2), .val (.int v3), .val (.int (own_in p0 (8204 : Int32) (8205 : Int32))), .val (.int v5), .val (.int (own_in p0 (12289 : Int32) (55295 : Int32))), .val (.int (own_in p0 (55296 : Int32) (56191 : Int32))), .val (.int v8)] [(.int (own_in p0 (8204 : Int32) (8205 : Int32)))])) (fun t k => XS.iload X12.here hx rfl (hb hby own_d_method_3_224) rfl  k) ?_
                  by_cases hb226_16 : (own_in p0 (8204 : Int32) (8205 : Int32)) = (0 : Int32)
                  · refine own_by (V := T12.setTop (mkF m 229 #[.val (.int p0), .val (.int v1), .val (.int v2), .val (.int v3), .val (.int (own_in p0 (8204 : Int32) (8205 : Int32))), .val (.int v5), .val (.int (own_in p0 (12289 : Int32) (55295 : Int32))), .val (.int (own_in p0 (55296 : Int32) (56191 : Int32))), .val (.int v8)] [])) (fun t k => XS.ifNo X12.here hx rfl (hb hby own_d_method_3_226) rfl ((if0 _ _).trans (teq hb226_16).2) k) ?_
                    refine own_by (V := T12.setTop (mkF m 231 #[.val (.int p0), .val (.int v1), .val (.int v2), .val (.int v3), .val (.int (own_in p0 (8204 : Int32) (8205 : Int32))), .val (.int v5), .val (.int (own_in p0 (12289 : Int32) (55295 : Int32))), .val (.int (own_in p0 (55296 : Int32) (56191 : Int32))), .val (.int v8)] [(.int v5)])) (fun t k => XS.iload X12.here hx rfl (hb hby own_d_method_3_229) rfl  k) ?_
                    by_cases hb231_17 : v5 = (0 : Int32)
                    · refine own_by (V := T12.setTop (mkF m 234 #[.val (.int p0), .val (.int v1), .val (.int v2), .val (.int v3), .val (.int (own_in p0 (8204 : Int32) (8205 : Int32))), .val (.int v5), .val (.int (own_in p0 (12289 : Int32) (55295 : Int32))), .val (.int (own_in p0 (55296 : Int32) (56191 : Int32))), .val (.int v8)] [])) (fun t k => XS.ifNo X12.here hx rfl (hb hby own_d_method_3_231) rfl ((if0 _ _).trans (teq hb231_17).2) k) ?_
                      refine own_by (V := T12.setTop (mkF m 236 #[.val (.int p0), .val (.int v1), .val (.int v2), .val (.int v3), .val (.int (own_in p0 (8204 : Int32) (8205 : Int32))), .val (.int v5), .val (.int (own_in p0 (12289 : Int32) (55295 : Int32))), .val (.int (own_in p0 (55296 : Int32) (56191 : Int32))), .val (.int v8)] [(.int (own_in p0 (12289 : Int32) (55295 : Int32)))])) (fun t k => XS.iload X12.here hx rfl (hb hby own_d_method_3_234) rfl  k) ?_
                      by_cases hb236_18 : (own_in p0 (12289 : Int32) (55295 : Int32)) = (0 : Int32)
                      · refine own_by (V := T12.setTop (mkF m 239 #[.val (.int p0), .val (.int v1), .val (.int v2), .val (.int v3), .val (.int (own_in p0 (8204 : Int32) (8205 : Int32))), .val (.int v5), .val (.int (own_in p0 (12289 : Int32) (55295 : Int32))), .val (.int (own_in p0 (55296 : Int32) (56191 : Int32))), .val (.int v8)] [])) (fun t k => XS.ifNo X12.here hx rfl (hb hby own_d_method_3_236) rfl ((if0 _ _).trans (teq hb236_18).2) k) ?_
                        refine own_by (V := T12.setTop (mkF m 241 #[.val (.int p0), .val (.int v1), .val (.int v2), .val (.int v3), .val (.int (own_in p0 (8204 : Int32) (8205 : Int32))), .val (.int v5), .val (.int (own_in p0 (12289 : Int32) (55295 : Int32))), .val (.int (own_in p0 (55296 : Int32) (56191 : Int32))), .val (.int v8)] [(.int (own_in p0 (55296 : Int32) (56191 : Int32)))])) (fun t k => XS.iload X12.here hx rfl (hb hby own_d_method_3_239) rfl  k) ?_
                        by_cases hb241_19 : (own_in p0 (55296 : Int32) (56191 : Int32)) = (0 : Int32)
                        · refine own_by (V := T12.setTop (mkF m 244 #[.val (.int p0), .val (.int v1), .val (.int v2), .val (.int v3), .val (.int (own_in p0 (8204 : Int32) (8205 : Int32))), .val (.int v5), .val (.int (own_in p0 (12289 : Int32) (55295 : Int32))), .val (.int (own_in p0 (55296 : Int32) (56191 : Int32))), .val (.int v8)] [])) (fun t k => XS.ifNo X12.here hx rfl (hb hby own_d_method_3_241) rfl ((if0 _ _).trans (teq hb241_19).2) k) ?_
                          refine own_by (V := T12.setTop (mkF m 246 #[.val (.int p0), .val (.int v1), .val (.int v2), .val (.int v3), .val (.int (own_in p0 (8204 : Int32) (8205 : Int32))), .val (.int v5), .val (.int (own_in p0 (12289 : Int32) (55295 : Int32))), .val (.int (own_in p0 (55296 : Int32) (56191 : Int32))), .val (.int v8)] [(.int v8)])) (fun t k => XS.iload X12.here hx rfl (hb hby own_d_method_3_244) rfl  k) ?_
                          by_cases hb246_20 : v8 = (0 : Int32)
                          · refine own_by (V := T12.setTop (mkF m 253 #[.val (.int p0), .val (.int v1), .val (.int v2), .val (.int v3), .val (.int (own_in p0 (8204 : Int32) (8205 : Int32))), .val (.int v5), .val (.int (own_in p0 (12289 : Int32) (55295 : Int32))), .val (.int (own_in p0 (55296 : Int32) (56191 : Int32))), .val (.int v8)] [])) (fun t k => XS.ifYes X12.here hx rfl (pc0 := 246) (pc' := 253) rfl (hb hby own_d_method_3_246) rfl ((if0 _ _).trans (teq hb246_20).1) (by decide) (by decide) k) ?_
                            refine own_by (V := T12.setTop (mkF m 254 #[.val (.int p0), .val (.int v1), .val (.int v2), .val (.int v3), .val (.int (own_in p0 (8204 : Int32) (8205 : Int32))), .val (.int v5), .val (.int (own_in p0 (12289 : Int32) (55295 : Int32))), .val (.int (own_in p0 (55296 : Int32) (56191 : Int32))), .val (.int v8)] [(.int (0 : Int32))])) (fun t k => XS.iconst X12.here hx rfl (hb hby own_d_method_3_253) k) ?_
                            refine own_retN X12 hx hlk e12 Bd.returns (t := .boolean) (by simp) rfl (hb hby own_d_method_3_254) ?_ (by decide) (by decide)
                            exact ⟨congrArg (fun z => some (Value.int z)) (show (0 : Int32) = (own_ns p0) from by ((try simp only [hv1, hv2, hv3, hv5, hv8, own_in0, own_ite0, Int32.reduceToInt] at hb213_13); (try simp only [hv1, hv2, hv3, hv5, hv8, own_in0, own_ite0, Int32.reduceToInt] at hb217_14); (try simp only [hv1, hv2, hv3, hv5, hv8, own_in0, own_ite0, Int32.reduceToInt] at hb221_15); (try simp only [hv1, hv2, hv3, hv5, hv8, own_in0, own_ite0, Int32.reduceToInt] at hb226_16); (try simp only [hv1, hv2, hv3, hv5, hv8, own_in0, own_ite0, Int32.reduceToInt] at hb231_17); (try simp only [hv1, hv2, hv3, hv5, hv8, own_in0, own_ite0, Int32.reduceToInt] at hb236_18); (try simp only [hv1, hv2, hv3, hv5, hv8, own_in0, own_ite0, Int32.reduceToInt] at hb241_19); (try simp only [hv1, hv2, hv3, hv5, hv8, own_in0, own_ite0, Int32.reduceToInt] at hb246_20); exact (if_neg (by omega)).symm)), N12, rfl⟩
                          · refine own_by (V := T12.setTop (mkF m 249 #[.val (.int p0), .val (.int v1), .val (.int v2), .val (.int v3), .val (.int (own_in p0 (8204 : Int32) (8205 : Int32))), .val (.int v5), .val (.int (own_in p0 (12289 : Int32) (55295 : Int32))), .val (.int (own_in p0 (55296 : Int32) (56191 : Int32))), .val (.int v8)] [])) (fun t k => XS.ifNo X12.here hx rfl (hb hby own_d_method_3_246) rfl ((if0 _ _).trans (feq hb246_20).1) k) ?_
                            refine own_by (V := T12.setTop (mkF m 250 #[.val (.int p0), .val (.int v1), .val (.int v2), .val (.int v3), .val (.int (own_in p0 (8204 : Int32) (8205 : Int32))), .val (.int v5), .val (.int (own_in p0 (12289 : Int32) (55295 : Int32))), .val (.int (own_in p0 (55296 : Int32) (56191 : Int32))), .val (.int v8)] [(.int (1 : Int32))])) (fun t k => XS.iconst X12.here hx rfl (hb hby own_d_method_3_249) k) ?_
                            refine own_by (V := T12.setTop (mkF m 254 #[.val (.int p0), .val (.int v1), .val (.int v2), .val (.int v3), .val (.int (own_in p0 (8204 : Int32) (8205 : Int32))), .val (.int v5), .val (.int (own_in p0 (12289 : Int32) (55295 : Int32))), .val (.int (own_in p0 (55296 : Int32) (56191 : Int32))), .val (.int v8)] [(.int (1 : Int32))])) (fun t k => XS.goto X12.here hx rfl (pc0 := 250) (pc' := 254) rfl (hb hby own_d_method_3_250) (by decide) (by decide) k) ?_
                            refine own_retN X12 hx hlk e12 Bd.returns (t := .boolean) (by simp) rfl (hb hby own_d_method_3_254) ?_ (by decide) (by decide)
                            exact ⟨congrArg (fun z => some (Value.int z)) (show (1 : Int32) = (own_ns p0) from by ((try simp only [hv1, hv2, hv3, hv5, hv8, own_in0, own_ite0, Int32.reduceToInt] at hb213_13); (try simp only [hv1, hv2, hv3, hv5, hv8, own_in0, own_ite0, Int32.reduceToInt] at hb217_14); (try simp only [hv1, hv2, hv3, hv5, hv8, own_in0, own_ite0, Int32.reduceToInt] at hb221_15); (try simp only [hv1, hv2, hv3, hv5, hv8, own_in0, own_ite0, Int32.reduceToInt] at hb226_16); (try simp only [hv1, hv2, hv3, hv5, hv8, own_in0, own_ite0, Int32.reduceToInt] at hb231_17); (try simp only [hv1, hv2, hv3, hv5, hv8, own_in0, own_ite0, Int32.reduceToInt] at hb236_18); (try simp only [hv1, hv2, hv3, hv5, hv8, own_in0, own_ite0, Int32.reduceToInt] at hb241_19); (try simp only [hv1, hv2, hv3, hv5, hv8, own_in0, own_ite0, Int32.reduceToInt] at hb246_20); exact (if_pos (by omega)).symm)), N12, rfl⟩
                        · refine own_by (V := T12.setTop (mkF m 249 #[.val (.int p0), .val (.int v1), .val (.int v2), .val (.int v3), .val (.int (own_in p0 (8204 : Int32) (8205 : Int32))), .val (.int v5), .val (.int (own_in p0 (12289 : Int32) (55295 : Int32))), .val (.int (own_in p0 (55296 : Int32) (56191 : Int32))), .val (.int v8)] [])) (fun t k => XS.ifYes X12.here hx rfl (pc0 := 241) (pc' := 249) rfl (hb hby own_d_method_3_241) rfl ((if0 _ _).trans (feq hb241_19).2) (by decide) (by decide) k) ?_
                          refine own_by (V := T12.setTop (mkF m 250 #[.val (.int p0), .val (.int v1), .val (.int v2), .val (.int v3), .val (.int (own_in p0 (8204 : Int32) (8205 : Int32))), .val (.int v5), .val (.int (own_in p0 (12289 : Int32) (55295 : Int32))), .val (.int (own_in p0 (55296 : Int32) (56191 : Int32))), .val (.int v8)] [(.int (1 : Int32))])) (fun t k => XS.iconst X12.here hx rfl (hb hby own_d_method_3_249) k) ?_
                          refine own_by (V := T12.setTop (mkF m 254 #[.val (.int p0), .val (.int v1), .val (.int v2), .val (.int v3), .val (.int (own_in p0 (8204 : Int32) (8205 : Int32))), .val (.int v5), .val (.int (own_in p0 (12289 : Int32) (55295 : Int32))), .val (.int (own_in p0 (55296 : Int32) (56191 : Int32))), .val (.int v8)] [(.int (1 : Int32))])) (fun t k => XS.goto X12.here hx rfl (pc0 := 250) (pc' := 254) rfl (hb hby own_d_method_3_250) (by decide) (by decide) k) ?_
                          refine own_retN X12 hx hlk e12 Bd.returns (t := .boolean) (by simp) rfl (hb hby own_d_method_3_254) ?_ (by decide) (by decide)
                          exact ⟨congrArg (fun z => some (Value.int z)) (show (1 : Int32) = (own_ns p0) from by ((try simp only [hv1, hv2, hv3, hv5, hv8, own_in0, own_ite0, Int32.reduceToInt] at hb213_13); (try simp only [hv1, hv2, hv3, hv5, hv8, own_in0, own_ite0, Int32.reduceToInt] at hb217_14); (try simp only [hv1, hv2, hv3, hv5, hv8, own_in0, own_ite0, Int32.reduceToInt] at hb221_15); (try simp only [hv1, hv2, hv3, hv5, hv8, own_in0, own_ite0, Int32.reduceToInt] at hb226_16); (try simp only [hv1, hv2, hv3, hv5, hv8, own_in0, own_ite0, Int32.reduceToInt] at hb231_17); (try simp only [hv1, hv2, hv3, hv5, hv8, own_in0, own_ite0, Int32.reduceToInt] at hb236_18); (try simp only [hv1, hv2, hv3, hv5, hv8, own_in0, own_ite0, Int32.reduceToInt] at hb241_19); exact (if_pos (by omega)).symm)), N12, rfl⟩
                      · refine own_by (V := T12.setTop (mkF m 249 #[.val (.int p0), .val (.int v1), .val (.int v2), .val (.int v3), .val (.int (own_in p0 (8204 : Int32) (8205 : Int32))), .val (.int v5), .val (.int (own_in p0 (12289 : Int32) (55295 : Int32))), .val (.int (own_in p0 (55296 : Int32) (56191 : Int32))), .val (.int v8)] [])) (fun t k => XS.ifYes X12.here hx rfl (pc0 := 236) (pc' := 249) rfl (hb hby own_d_method_3_236) rfl ((if0 _ _).trans (feq hb236_18).2) (by decide) (by decide) k) ?_
                        refine own_by (V := T12.setTop (mkF m 250 #[.val (.int p0), .val (.int v1), .val (.int v2), .val (.int v3), .val (.int (own_in p0 (8204 : Int32) (8205 : Int32))), .val (.int v5), .val (.int (own_in p0 (12289 : Int32) (55295 : Int32))), .val (.int (own_in p0 (55296 : Int32) (56191 : Int32))), .val (.int v8)] [(.int (1 : Int32))])) (fun t k => XS.iconst X12.here hx rfl (hb hby own_d_method_3_249) k) ?_
                        refine own_by (V := T12.setTop (mkF m 254 #[.val (.int p0), .val (.int v1), .val (.int v2), .val (.int v3), .val (.int (own_in p0 (8204 : Int32) (8205 : Int32))), .val (.int v5), .val (.int (own_in p0 (12289 : Int32) (55295 : Int32))), .val (.int (own_in p0 (55296 : Int32) (56191 : Int32))), .val (.int v8)] [(.int (1 : Int32))])) (fun t k => XS.goto X12.here hx rfl (pc0 := 250) (pc' := 254) rfl (hb hby own_d_method_3_250) (by decide) (by decide) k) ?_
                        refine own_retN X12 hx hlk e12 Bd.returns (t := .boolean) (by simp) rfl (hb hby own_d_method_3_254) ?_ (by decide) (by decide)
                        exact ⟨congrArg (fun z => some (Value.int z)) (show (1 : Int32) = (own_ns p0) from by ((try simp only [hv1, hv2, hv3, hv5, hv8, own_in0, own_ite0, Int32.reduceToInt] at hb213_13); (try simp only [hv1, hv2, hv3, hv5, hv8, own_in0, own_ite0, Int32.reduceToInt] at hb217_14); (try simp only [hv1, hv2, hv3, hv5, hv8, own_in0, own_ite0, Int32.reduceToInt] at hb221_15); (try simp only [hv1, hv2, hv3, hv5, hv8, own_in0, own_ite0, Int32.reduceToInt] at hb226_16); (try simp only [hv1, hv2, hv3, hv5, hv8, own_in0, own_ite0, Int32.reduceToInt] at hb231_17); (try simp only [hv1, hv2, hv3, hv5, hv8, own_in0, own_ite0, Int32.reduceToInt] at hb236_18); exact (if_pos (by omega)).symm)), N12, rfl⟩
                    · refine own_by (V := T12.setTop (mkF m 249 #[.val (.int p0), .val (.int v1), .val (.int v2), .val (.int v3), .val (.int (own_in p0 (8204 : Int32) (8205 : Int32))), .val (.int v5), .val (.int (own_in p0 (12289 : Int32) (55295 : Int32))), .val (.int (own_in p0 (55296 : Int32) (56191 : Int32))), .val (.int v8)] [])) (fun t k => XS.ifYes X12.here hx rfl (pc0 := 231) (pc' := 249) rfl (hb hby own_d_method_3_231) rfl ((if0 _ _).trans (feq hb231_17).2) (by decide) (by decide) k) ?_
                      refine own_by (V := T12.setTop (mkF m 250 #[.val (.int p0), .val (.int v1), .val (.int v2), .val (.int v3), .val (.int (own_in p0 (8204 : Int32) (8205 : Int32))), .val (.int v5), .val (.int (own_in p0 (12289 : Int32) (55295 : Int32))), .val (.int (own_in p0 (55296 : Int32) (56191 : Int32))), .val (.int v8)] [(.int (1 : Int32))])) (fun t k => XS.iconst X12.here hx rfl (hb hby own_d_method_3_249) k) ?_
                      refine own_by (V := T12.setTop (mkF m 254 #[.val (.int p0), .val (.int v1), .val (.int v2), .val (.int v3), .val (.int (own_in p0 (8204 : Int32) (8205 : Int32))), .val (.int v5), .val (.int (own_in p0 (12289 : Int32) (55295 : Int32))), .val (.int (own_in p0 (55296 : Int32) (56191 : Int32))), .val (.int v8)] [(.int (1 : Int32))])) (fun t k => XS.goto X12.here hx rfl (pc0 := 250) (pc' := 254) rfl (hb hby own_d_method_3_250) (by decide) (by decide) k) ?_
                      refine own_retN X12 hx hlk e12 Bd.returns (t := .boolean) (by simp) rfl (hb hby own_d_method_3_254) ?_ (by decide) (by decide)
                      exact ⟨congrArg (fun z => some (Value.int z)) (show (1 : Int32) = (own_ns p0) from by ((try simp only [hv1, hv2, hv3, hv5, hv8, own_in0, own_ite0, Int32.reduceToInt] at hb213_13); (try simp only [hv1, hv2, hv3, hv5, hv8, own_in0, own_ite0, Int32.reduceToInt] at hb217_14); (try simp only [hv1, hv2, hv3, hv5, hv8, own_in0, own_ite0, Int32.reduceToInt] at hb221_15); (try simp only [hv1, hv2, hv3, hv5, hv8, own_in0, own_ite0, Int32.reduceToInt] at hb226_16); (try simp only [hv1, hv2, hv3, hv5, hv8, own_in0, own_ite0, Int32.reduceToInt] at hb231_17); exact (if_pos (by omega)).symm)), N12, rfl⟩
                  · refine own_by (V := T12.setTop (mkF m 249 #[.val (.int p0), .val (.int v1), .val (.int v2), .val (.int v3), .val (.int (own_in p0 (8204 : Int32) (8205 : Int32))), .val (.int v5), .val (.int (own_in p0 (12289 : Int32) (55295 : Int32))), .val (.int (own_in p0 (55296 : Int32) (56191 : Int32))), .val (.int v8)] [])) (fun t k => XS.ifYes X12.here hx rfl (pc0 := 226) (pc' := 249) rfl (hb hby own_d_method_3_226) rfl ((if0 _ _).trans (feq hb226_16).2) (by decide) (by decide) k) ?_
                    refine own_by (V := T12.setTop (mkF m 250 #[.val (.int p0), .val (.int v1), .val (.int v2), .val (.int v3), .val (.int (own_in p0 (8204 : Int32) (8205 : Int32))), .val (.int v5), .val (.int (own_in p0 (12289 : Int32) (55295 : Int32))), .val (.int (own_in p0 (55296 : Int32) (56191 : Int32))), .val (.int v8)] [(.int (1 : Int32))])) (fun t k => XS.iconst X12.here hx rfl (hb hby own_d_method_3_249) k) ?_
                    refine own_by (V := T12.setTop (mkF m 254 #[.val (.int p0), .val (.int v1), .val (.int v2), .val (.int v3), .val (.int (own_in p0 (8204 : Int32) (8205 : Int32))), .val (.int v5), .val (.int (own_in p0 (12289 : Int32) (55295 : Int32))), .val (.int (own_in p0 (55296 : Int32) (56191 : Int32))), .val (.int v8)] [(.int (1 : Int32))])) (fun t k => XS.goto X12.here hx rfl (pc0 := 250) (pc' := 254) rfl (hb hby own_d_method_3_250) (by decide) (by decide) k) ?_
                    refine own_retN X12 hx hlk e12 Bd.returns (t := .boolean) (by simp) rfl (hb hby own_d_method_3_254) ?_ (by decide) (by decide)
                    exact ⟨congrArg (fun z => some (Value.int z)) (show (1 : Int32) = (own_ns p0) from by ((try simp only [hv1, hv2, hv3, hv5, hv8, own_in0, own_ite0, Int32.reduceToInt] at hb213_13); (try simp only [hv1, hv2, hv3, hv5, hv8, own_in0, own_ite0, Int32.reduceToInt] at hb217_14); (try simp only [hv1, hv2, hv3, hv5, hv8, own_in0, own_ite0, Int32.reduceToInt] at hb221_15); (try simp only [hv1, hv2, hv3, hv5, hv8, own_in0, own_ite0, Int32.reduceToInt] at hb226_16); exact (if_pos (by omega)).symm)), N12, rfl⟩
                · refine own_by (V := T12.setTop (mkF m 249 #[.val (.int p0), .val (.int v1), .val (.int v2), .val (.int v3), .val (.int (own_in p0 (8204 : Int32) (8205 : Int32))), .val (.int v5), .val (.int (own_in p0 (12289 : Int32) (55295 : Int32))), .val (.int (own_in p0 (55296 : Int32) (56191 : Int32))), .val (.int v8)] [])) (fun t k => XS.ifYes X12.here hx rfl (pc0 := 221) (pc' := 249) rfl (hb hby own_d_method_3_221) rfl ((if0 _ _).trans (feq hb221_15).2) (by decide) (by decide) k) ?_
                  refine own_by (V := T12.setTop (mkF m 250 #[.val (.int p0), .val (.int v1), .val (.int v2), .val (.int v3), .val (.int (own_in p0 (8204 : Int32) (8205 : Int32))), .val (.int v5), .val (.int (own_in p0 (12289 : Int32) (55295 : Int32))), .val (.int (own_in p0 (55296 : Int32) (56191 : Int32))), .val (.int v8)] [(.int (1 : Int32))])) (fun t k => XS.iconst X12.here hx rfl (hb hby own_d_method_3_249) k) ?_
                  refine own_by (V := T12.setTop (mkF m 254 #[.val (.int p0), .val (.int v1), .val (.int v2), .val (.int v3), .val (.int (own_in p0 (8204 : Int32) (8205 : Int32))), .val (.int v5), .val (.int (own_in p0 (12289 : Int32) (55295 : Int32))), .val (.int (own_in p0 (55296 : Int32) (56191 : Int32))), .val (.int v8)] [(.int (1 : Int32))])) (fun t k => XS.goto X12.here hx rfl (pc0 := 250) (pc' := 254) rfl (hb hby own_d_method_3_250) (by decide) (by decide) k) ?_
                  refine own_retN X12 hx hlk e12 Bd.returns (t := .boolean) (by simp) rfl (hb hby own_d_method_3_254) ?_ (by decide) (by decide)
                  exact ⟨congrArg (fun z => some (Value.int z)) (show (1 : Int32) = (own_ns p0) from by ((try simp only [hv1, hv2, hv3, hv5, hv8, own_in0, own_ite0, Int32.reduceToInt] at hb213_13); (try simp only [hv1, hv2, hv3, hv5, hv8, own_in0, own_ite0, Int32.reduceToInt] at hb217_14); (try simp only [hv1, hv2, hv3, hv5, hv8, own_in0, own_ite0, Int32.reduceToInt] at hb221_15); exact (if_pos (by omega)).symm)), N12, rfl⟩
              · refine own_by (V := T12.setTop (mkF m 249 #[.val (.int p0), .val (.int v1), .val (.int v2), .val (.int v3), .val (.int (own_in p0 (8204 : Int32) (8205 : Int32))), .val (.int v5), .val (.int (own_in p0 (12289 : Int32) (55295 : Int32))), .val (.int (own_in p0 (55296 : Int32) (56191 : Int32))), .val (.int v8)] [])) (fun t k => XS.ifYes X12.here hx rfl (pc0 := 217) (pc' := 249) rfl (hb hby own_d_method_3_217) rfl ((if0 _ _).trans (feq hb217_14).2) (by decide) (by decide) k) ?_
                refine own_by (V := T12.setTop (mkF m 250 #[.val (.int p0), .val (.int v1), .val (.int v2), .val (.int v3), .val (.int (own_in p0 (8204 : Int32) (8205 : Int32))), .val (.int v5), .val (.int (own_in p0 (12289 : Int32) (55295 : Int32))), .val (.int (own_in p0 (55296 : Int32) (56191 : Int32))), .val (.int v8)] [(.int (1 : Int32))])) (fun t k => XS.iconst X12.here hx rfl (hb hby own_d_method_3_249) k) ?_
                refine own_by (V := T12.setTop (mkF m 254 #[.val (.int p0), .val (.int v1), .val (.int v2), .val (.int v3), .val (.int (own_in p0 (8204 : Int32) (8205 : Int32))), .val (.int v5), .val (.int (own_in p0 (12289 : Int32) (55295 : Int32))), .val (.int (own_in p0 (55296 : Int32) (56191 : Int32))), .val (.int v8)] [(.int (1 : Int32))])) (fun t k => XS.goto X12.here hx rfl (pc0 := 250) (pc' := 254) rfl (hb hby own_d_method_3_250) (by decide) (by decide) k) ?_
                refine own_retN X12 hx hlk e12 Bd.returns (t := .boolean) (by simp) rfl (hb hby own_d_method_3_254) ?_ (by decide) (by decide)
                exact ⟨congrArg (fun z => some (Value.int z)) (show (1 : Int32) = (own_ns p0) from by ((try simp only [hv1, hv2, hv3, hv5, hv8, own_in0, own_ite0, Int32.reduceToInt] at hb213_13); (try simp only [hv1, hv2, hv3, hv5, hv8, own_in0, own_ite0, Int32.reduceToInt] at hb217_14); exact (if_pos (by omega)).symm)), N12, rfl⟩
            · refine own_by (V := T12.setTop (mkF m 249 #[.val (.int p0), .val (.int v1), .val (.int v2), .val (.int v3), .val (.int (own_in p0 (8204 : Int32) (8205 : Int32))), .val (.int v5), .val (.int (own_in p0 (12289 : Int32) (55295 : Int32))), .val (.int (own_in p0 (55296 : Int32) (56191 : Int32))), .val (.int v8)] [])) (fun t k => XS.ifYes X12.here hx rfl (pc0 := 213) (pc' := 249) rfl (hb hby own_d_method_3_213) rfl ((if0 _ _).trans (feq hb213_13).2) (by decide) (by decide) k) ?_
              refine own_by (V := T12.setTop (mkF m 250 #[.val (.int p0), .val (.int v1), .val (.int v2), .val (.int v3), .val (.int (own_in p0 (8204 : Int32) (8205 : Int32))), .val (.int v5), .val (.int (own_in p0 (12289 : Int32) (55295 : Int32))), .val (.int (own_in p0 (55296 : Int32) (56191 : Int32))), .val (.int v8)] [(.int (1 : Int32))])) (fun t k => XS.iconst X12.here hx rfl (hb hby own_d_method_3_249) k) ?_
              refine own_by (V := T12.setTop (mkF m 254 #[.val (.int p0), .val (.int v1), .val (.int v2), .val (.int v3), .val (.int (own_in p0 (8204 : Int32) (8205 : Int32))), .val (.int v5), .val (.int (own_in p0 (12289 : Int32) (55295 : Int32))), .val (.int (own_in p0 (55296 : Int32) (56191 : Int32))), .val (.int v8)] [(.int (1 : Int32))])) (fun t k => XS.goto X12.here hx rfl (pc0 := 250) (pc' := 254) rfl (hb hby own_d_method_3_250) (by decide) (by decide) k) ?_
              refine own_retN X12 hx hlk e12 Bd.returns (t := .boolean) (by simp) rfl (hb hby own_d_method_3_254) ?_ (by decide) (by decide)
              exact ⟨congrArg (fun z => some (Value.int z)) (show (1 : Int32) = (own_ns p0) from by ((try simp only [hv1, hv2, hv3, hv5, hv8, own_in0, own_ite0, Int32.reduceToInt] at hb213_13); exact (if_pos (by omega)).symm)), N12, rfl⟩
          by_cases hb191_21 : (own_in p0 (63744 : Int32) (64975 : Int32)) = (0 : Int32)
          · refine own_by (V := T11.setTop (mkF m 194 #[.val (.int p0), .val (.int v1), .val (.int v2), .val (.int v3), .val (.int (own_in p0 (8204 : Int32) (8205 : Int32))), .val (.int v5), .val (.int (own_in p0 (12289 : Int32) (55295 : Int32))), .val (.int (own_in p0 (55296 : Int32) (56191 : Int32))), .unset] [])) (fun t k => XS.ifNo X11.here hx rfl (hb hby own_d_method_3_191) rfl ((if0 _ _).trans (teq hb191_21).2) k) ?_
            refine own_by (V := T11.setTop (mkF m 195 #[.val (.int p0), .val (.int v1), .val (.int v2), .val (.int v3), .val (.int (own_in p0 (8204 : Int32) (8205 : Int32))), .val (.int v5), .val (.int (own_in p0 (12289 : Int32) (55295 : Int32))), .val (.int (own_in p0 (55296 : Int32) (56191 : Int32))), .unset] [(.int p0)])) (fun t k => XS.iloadN X11.here hx rfl (hb hby own_d_method_3_194) rfl  k) ?_
            refine own_by (V := T11.setTop (mkF m 197 #[.val (.int p0), .val (.int v1), .val (.int v2), .val (.int v3), .val (.int (own_in p0 (8204 : Int32) (8205 : Int32))), .val (.int v5), .val (.int (own_in p0 (12289 : Int32) (55295 : Int32))), .val (.int (own_in p0 (55296 : Int32) (56191 : Int32))), .unset] [(.int (65008 : Int32)), (.int p0)])) (Jvm.Stand.ldcInt X11 hx hown (mvT hZ (hw _ (List.mem_of_getElem? (i := 19) rfl))) (g := (mkF m 195 #[.val (.int p0), .val (.int v1), .val (.int v2), .val (.int v3), .val (.int (own_in p0 (8204 : Int32) (8205 : Int32))), .val (.int v5), .val (.int (own_in p0 (12289 : Int32) (55295 : Int32))), .val (.int (own_in p0 (55296 : Int32) (56191 : Int32))), .unset] [(.int p0)])) rfl (hb hby own_d_method_3_195)) ?_
            refine own_by (V := T11.setTop (mkF m 199 #[.val (.int p0), .val (.int v1), .val (.int v2), .val (.int v3), .val (.int (own_in p0 (8204 : Int32) (8205 : Int32))), .val (.int v5), .val (.int (own_in p0 (12289 : Int32) (55295 : Int32))), .val (.int (own_in p0 (55296 : Int32) (56191 : Int32))), .unset] [(.int (65533 : Int32)), (.int (65008 : Int32)), (.int p0)])) (Jvm.Stand.ldcInt X11 hx hown (mvT hZ (hw _ (List.mem_of_getElem? (i := 20) rfl))) (g := (mkF m 197 #[.val (.int p0), .val (.int v1), .val (.int v2), .val (.int v3), .val (.int (own_in p0 (8204 : Int32) (8205 : Int32))), .val (.int v5), .val (.int (own_in p0 (12289 : Int32) (55295 : Int32))), .val (.int (own_in p0 (55296 : Int32) (56191 : Int32))), .unset] [(.int (65008 : Int32)), (.int p0)])) rfl (hb hby own_d_method_3_197)) ?_
            obtain ⟨_, _, ⟨T22, Lq22, kq22, nq22⟩, -, X22, ⟨Lc22, hQ22, lq22, yq22, zq22⟩, st22⟩ := Jvm.LawKit.callS X11 hx (y := (⟨"com/example/canox/canox/xml/XmlCharsIsNameStartPinLaw", "in", "(III)Z"⟩ : MethodName)) hown (mvT hZ (hw _ (List.mem_of_getElem? (i := 11) rfl))) (mvT hZ (hw _ (List.mem_of_getElem? (i := 12) rfl))) (mvT hZ (hw _ (List.mem_of_getElem? (i := 9) rfl))) (mvT hZ (hw _ (List.mem_of_getElem? (i := 13) rfl))) (by decide) (backOf (W := 0) (own_rm3 l Z a0 hw [] p0 (65008 : Int32) (65533 : Int32) h0 n0) hZ (hw _ (List.mem_of_getElem? (i := 13) rfl)) (hw _ (List.mem_of_getElem? (i := 9) rfl)) (by decide) (by decide)) (g := (mkF m 199 #[.val (.int p0), .val (.int v1), .val (.int v2), .val (.int v3), .val (.int (own_in p0 (8204 : Int32) (8205 : Int32))), .val (.int v5), .val (.int (own_in p0 (12289 : Int32) (55295 : Int32))), .val (.int (own_in p0 (55296 : Int32) (56191 : Int32))), .unset] [(.int (65533 : Int32)), (.int (65008 : Int32)), (.int p0)])) rfl (by rw [hml]; rfl) (argsL := [(.int p0), (.int (65008 : Int32)), (.int (65533 : Int32))]) (rest := []) (lenOf own_pd0 rfl) rfl (by show 2 * 0 + _ ≤ _; exact Nat.le_of_eq rfl) (hb hby own_d_method_3_199) (fun _ _ => ⟨rfl, e11, (by decide : 0 + 0 ≤ _), (by decide : 0 + 0 ≤ _)⟩)
            dsimp only [Pt.U, Pt.locs, Pt.cells, Pt.slots] at X22 lq22 yq22 zq22 st22 hQ22
            subst lq22 yq22 zq22
            obtain ⟨rfl, N22q, e22⟩ := hQ22
            have N22 := Fr.app N11 N22q
            refine own_by (V := T22.setTop (mkF m 202 #[.val (.int p0), .val (.int v1), .val (.int v2), .val (.int v3), .val (.int (own_in p0 (8204 : Int32) (8205 : Int32))), .val (.int v5), .val (.int (own_in p0 (12289 : Int32) (55295 : Int32))), .val (.int (own_in p0 (55296 : Int32) (56191 : Int32))), .unset] [(.int (own_in p0 (65008 : Int32) (65533 : Int32)))])) st22 ?_
            by_cases hb202_23 : (own_in p0 (65008 : Int32) (65533 : Int32)) = (0 : Int32)
            · refine own_by (V := T22.setTop (mkF m 209 #[.val (.int p0), .val (.int v1), .val (.int v2), .val (.int v3), .val (.int (own_in p0 (8204 : Int32) (8205 : Int32))), .val (.int v5), .val (.int (own_in p0 (12289 : Int32) (55295 : Int32))), .val (.int (own_in p0 (55296 : Int32) (56191 : Int32))), .unset] [])) (fun t k => XS.ifYes X22.here hx rfl (pc0 := 202) (pc' := 209) rfl (hb hby own_d_method_3_202) rfl ((if0 _ _).trans (teq hb202_23).1) (by decide) (by decide) k) ?_
              refine own_by (V := T22.setTop (mkF m 210 #[.val (.int p0), .val (.int v1), .val (.int v2), .val (.int v3), .val (.int (own_in p0 (8204 : Int32) (8205 : Int32))), .val (.int v5), .val (.int (own_in p0 (12289 : Int32) (55295 : Int32))), .val (.int (own_in p0 (55296 : Int32) (56191 : Int32))), .unset] [(.int (0 : Int32))])) (fun t k => XS.iconst X22.here hx rfl (hb hby own_d_method_3_209) k) ?_
              exact J12 T22 _ (0 : Int32) (X22.more (by decide) (by decide)) e22 N22 (by ((try simp only [own_in0, own_ite0, Int32.reduceToInt] at hb191_21); (try simp only [own_in0, own_ite0, Int32.reduceToInt] at hb202_23); (try simp only [own_in0, own_ite0, Int32.lt_iff_toInt_lt, ← Int32.toInt_inj, own_neg1, Int32.reduceToInt] at hb191_21); (try simp only [own_in0, own_ite0, Int32.lt_iff_toInt_lt, ← Int32.toInt_inj, own_neg1, Int32.reduceToInt] at hb202_23); exact (if_neg (by omega)).symm))
            · refine own_by (V := T22.setTop (mkF m 205 #[.val (.int p0), .val (.int v1), .val (.int v2), .val (.int v3), .val (.int (own_in p0 (8204 : Int32) (8205 : Int32))), .val (.int v5), .val (.int (own_in p0 (12289 : Int32) (55295 : Int32))), .val (.int (own_in p0 (55296 : Int32) (56191 : Int32))), .unset] [])) (fun t k => XS.ifNo X22.here hx rfl (hb hby own_d_method_3_202) rfl ((if0 _ _).trans (feq hb202_23).1) k) ?_
              refine own_by (V := T22.setTop (mkF m 206 #[.val (.int p0), .val (.int v1), .val (.int v2), .val (.int v3), .val (.int (own_in p0 (8204 : Int32) (8205 : Int32))), .val (.int v5), .val (.int (own_in p0 (12289 : Int32) (55295 : Int32))), .val (.int (own_in p0 (55296 : Int32) (56191 : Int32))), .unset] [(.int (1 : Int32))])) (fun t k => XS.iconst X22.here hx rfl (hb hby own_d_method_3_205) k) ?_
              refine own_by (V := T22.setTop (mkF m 210 #[.val (.int p0), .val (.int v1), .val (.int v2), .val (.int v3), .val (.int (own_in p0 (8204 : Int32) (8205 : Int32))), .val (.int v5), .val (.int (own_in p0 (12289 : Int32) (55295 : Int32))), .val (.int (own_in p0 (55296 : Int32) (56191 : Int32))), .unset] [(.int (1 : Int32))])) (fun t k => XS.goto X22.here hx rfl (pc0 := 206) (pc' := 210) rfl (hb hby own_d_method_3_206) (by decide) (by decide) k) ?_
              exact J12 T22 _ (1 : Int32) (X22.more (by decide) (by decide)) e22 N22 (by ((try simp only [own_in0, own_ite0, Int32.reduceToInt] at hb191_21); (try simp only [own_in0, own_ite0, Int32.reduceToInt] at hb202_23); (try simp only [own_in0, own_ite0, Int32.lt_iff_toInt_lt, ← Int32.toInt_inj, own_neg1, Int32.reduceToInt] at hb191_21); (try simp only [own_in0, own_ite0, Int32.lt_iff_toInt_lt, ← Int32.toInt_inj, own_neg1, Int32.reduceToInt] at hb202_23); exact (if_pos (by omega)).symm))
          · refine own_by (V := T11.setTop (mkF m 205 #[.val (.int p0), .val (.int v1), .val (.int v2), .val (.int v3), .val (.int (own_in p0 (8204 : Int32) (8205 : Int32))), .val (.int v5), .val (.int (own_in p0 (12289 : Int32) (55295 : Int32))), .val (.int (own_in p0 (55296 : Int32) (56191 : Int32))), .unset] [])) (fun t k => XS.ifYes X11.here hx rfl (pc0 := 191) (pc' := 205) rfl (hb hby own_d_method_3_191) rfl ((if0 _ _).trans (feq hb191_21).2) (by decide) (by decide) k) ?_
            refine own_by (V := T11.setTop (mkF m 206 #[.val (.int p0), .val (.int v1), .val (.int v2), .val (.int v3), .val (.int (own_in p0 (8204 : Int32) (8205 : Int32))), .val (.int v5), .val (.int (own_in p0 (12289 : Int32) (55295 : Int32))), .val (.int (own_in p0 (55296 : Int32) (56191 : Int32))), .unset] [(.int (1 : Int32))])) (fun t k => XS.iconst X11.here hx rfl (hb hby own_d_method_3_205) k) ?_
            refine own_by (V := T11.setTop (mkF m 210 #[.val (.int p0), .val (.int v1), .val (.int v2), .val (.int v3), .val (.int (own_in p0 (8204 : Int32) (8205 : Int32))), .val (.int v5), .val (.int (own_in p0 (12289 : Int32) (55295 : Int32))), .val (.int (own_in p0 (55296 : Int32) (56191 : Int32))), .unset] [(.int (1 : Int32))])) (fun t k => XS.goto X11.here hx rfl (pc0 := 206) (pc' := 210) rfl (hb hby own_d_method_3_206) (by decide) (by decide) k) ?_
            exact J12 T11 _ (1 : Int32) (X11.more (by decide) (by decide)) e11 N11 (by ((try simp only [own_in0, own_ite0, Int32.reduceToInt] at hb191_21); (try simp only [own_in0, own_ite0, Int32.lt_iff_toInt_lt, ← Int32.toInt_inj, own_neg1, Int32.reduceToInt] at hb191_21); exact (if_pos (by omega)).symm))
        by_cases hb139_24 : (own_in p0 (8304 : Int32) (8591 : Int32)) = (0 : Int32)
        · refine own_by (V := T7.setTop (mkF m 142 #[.val (.int p0), .val (.int v1), .val (.int v2), .val (.int v3), .val (.int (own_in p0 (8204 : Int32) (8205 : Int32))), .unset, .unset, .unset, .unset] [])) (fun t k => XS.ifNo X7.here hx rfl (hb hby own_d_method_3_139) rfl ((if0 _ _).trans (teq hb139_24).2) k) ?_
          refine own_by (V := T7.setTop (mkF m 143 #[.val (.int p0), .val (.int v1), .val (.int v2), .val (.int v3), .val (.int (own_in p0 (8204 : Int32) (8205 : Int32))), .unset, .unset, .unset, .unset] [(.int p0)])) (fun t k => XS.iloadN X7.here hx rfl (hb hby own_d_method_3_142) rfl  k) ?_
          refine own_by (V := T7.setTop (mkF m 146 #[.val (.int p0), .val (.int v1), .val (.int v2), .val (.int v3), .val (.int (own_in p0 (8204 : Int32) (8205 : Int32))), .unset, .unset, .unset, .unset] [(.int (11264 : Int32)), (.int p0)])) (fun t k => XS.sipush X7.here hx rfl (hb hby own_d_method_3_143) k) ?_
          refine own_by (V := T7.setTop (mkF m 149 #[.val (.int p0), .val (.int v1), .val (.int v2), .val (.int v3), .val (.int (own_in p0 (8204 : Int32) (8205 : Int32))), .unset, .unset, .unset, .unset] [(.int (12271 : Int32)), (.int (11264 : Int32)), (.int p0)])) (fun t k => XS.sipush X7.here hx rfl (hb hby own_d_method_3_146) k) ?_
          obtain ⟨_, _, ⟨T25, Lq25, kq25, nq25⟩, -, X25, ⟨Lc25, hQ25, lq25, yq25, zq25⟩, st25⟩ := Jvm.LawKit.callS X7 hx (y := (⟨"com/example/canox/canox/xml/XmlCharsIsNameStartPinLaw", "in", "(III)Z"⟩ : MethodName)) hown (mvT hZ (hw _ (List.mem_of_getElem? (i := 11) rfl))) (mvT hZ (hw _ (List.mem_of_getElem? (i := 12) rfl))) (mvT hZ (hw _ (List.mem_of_getElem? (i := 9) rfl))) (mvT hZ (hw _ (List.mem_of_getElem? (i := 13) rfl))) (by decide) (backOf (W := 0) (own_rm3 l Z a0 hw [] p0 (11264 : Int32) (12271 : Int32) h0 n0) hZ (hw _ (List.mem_of_getElem? (i := 13) rfl)) (hw _ (List.mem_of_getElem? (i := 9) rfl)) (by decide) (by decide)) (g := (mkF m 149 #[.val (.int p0), .val (.int v1), .val (.int v2), .val (.int v3), .val (.int (own_in p0 (8204 : Int32) (8205 : Int32))), .unset, .unset, .unset, .unset] [(.int (12271 : Int32)), (.int (11264 : Int32)), (.int p0)])) rfl (by rw [hml]; rfl) (argsL := [(.int p0), (.int (11264 : Int32)), (.int (12271 : Int32))]) (rest := []) (lenOf own_pd0 rfl) rfl (by show 2 * 0 + _ ≤ _; exact Nat.le_of_eq rfl) (hb hby own_d_method_3_149) (fun _ _ => ⟨rfl, e7, (by decide : 0 + 0 ≤ _), (by decide : 0 + 0 ≤ _)⟩)
          dsimp only [Pt.U, Pt.locs, Pt.cells, Pt.slots] at X25 lq25 yq25 zq25 st25 hQ25
          subst lq25 yq25 zq25
          obtain ⟨rfl, N25q, e25⟩ := hQ25
          have N25 := Fr.app N7 N25q
          refine own_by (V := T25.setTop (mkF m 152 #[.val (.int p0), .val (.int v1), .val (.int v2), .val (.int v3), .val (.int (own_in p0 (8204 : Int32) (8205 : Int32))), .unset, .unset, .unset, .unset] [(.int (own_in p0 (11264 : Int32) (12271 : Int32)))])) st25 ?_
          by_cases hb152_26 : (own_in p0 (11264 : Int32) (12271 : Int32)) = (0 : Int32)
          · refine own_by (V := T25.setTop (mkF m 159 #[.val (.int p0), .val (.int v1), .val (.int v2), .val (.int v3), .val (.int (own_in p0 (8204 : Int32) (8205 : Int32))), .unset, .unset, .unset, .unset] [])) (fun t k => XS.ifYes X25.here hx rfl (pc0 := 152) (pc' := 159) rfl (hb hby own_d_method_3_152) rfl ((if0 _ _).trans (teq hb152_26).1) (by decide) (by decide) k) ?_
            refine own_by (V := T25.setTop (mkF m 160 #[.val (.int p0), .val (.int v1), .val (.int v2), .val (.int v3), .val (.int (own_in p0 (8204 : Int32) (8205 : Int32))), .unset, .unset, .unset, .unset] [(.int (0 : Int32))])) (fun t k => XS.iconst X25.here hx rfl (hb hby own_d_method_3_159) k) ?_
            exact J8 T25 _ (0 : Int32) (X25.more (by decide) (by decide)) e25 N25 (by ((try simp only [own_in0, own_ite0, Int32.reduceToInt] at hb139_24); (try simp only [own_in0, own_ite0, Int32.reduceToInt] at hb152_26); (try simp only [own_in0, own_ite0, Int32.lt_iff_toInt_lt, ← Int32.toInt_inj, own_neg1, Int32.reduceToInt] at hb139_24); (try simp only [own_in0, own_ite0, Int32.lt_iff_toInt_lt, ← Int32.toInt_inj, own_neg1, Int32.reduceToInt] at hb152_26); exact (if_neg (by omega)).symm))
          · refine own_by (V := T25.setTop (mkF m 155 #[.val (.int p0), .val (.int v1), .val (.int v2), .val (.int v3), .val (.int (own_in p0 (8204 : Int32) (8205 : Int32))), .unset, .unset, .unset, .unset] [])) (fun t k => XS.ifNo X25.here hx rfl (hb hby own_d_method_3_152) rfl ((if0 _ _).trans (feq hb152_26).1) k) ?_
            refine own_by (V := T25.setTop (mkF m 156 #[.val (.int p0), .val (.int v1), .val (.int v2), .val (.int v3), .val (.int (own_in p0 (8204 : Int32) (8205 : Int32))), .unset, .unset, .unset, .unset] [(.int (1 : Int32))])) (fun t k => XS.iconst X25.here hx rfl (hb hby own_d_method_3_155) k) ?_
            refine own_by (V := T25.setTop (mkF m 160 #[.val (.int p0), .val (.int v1), .val (.int v2), .val (.int v3), .val (.int (own_in p0 (8204 : Int32) (8205 : Int32))), .unset, .unset, .unset, .unset] [(.int (1 : Int32))])) (fun t k => XS.goto X25.here hx rfl (pc0 := 156) (pc' := 160) rfl (hb hby own_d_method_3_156) (by decide) (by decide) k) ?_
            exact J8 T25 _ (1 : Int32) (X25.more (by decide) (by decide)) e25 N25 (by ((try simp only [own_in0, own_ite0, Int32.reduceToInt] at hb139_24); (try simp only [own_in0, own_ite0, Int32.reduceToInt] at hb152_26); (try simp only [own_in0, own_ite0, Int32.lt_iff_toInt_lt, ← Int32.toInt_inj, own_neg1, Int32.reduceToInt] at hb139_24); (try simp only [own_in0, own_ite0, Int32.lt_iff_toInt_lt, ← Int32.toInt_inj, own_neg1, Int32.reduceToInt] at hb152_26); exact (if_pos (by omega)).symm))
        · refine own_by (V := T7.setTop (mkF m 155 #[.val (.int p0), .val (.int v1), .val (.int v2), .val (.int v3), .val (.int (own_in p0 (8204 : Int32) (8205 : Int32))), .unset, .unset, .unset, .unset] [])) (fun t k => XS.ifYes X7.here hx rfl (pc0 := 139) (pc' := 155) rfl (hb hby own_d_method_3_139) rfl ((if0 _ _).trans (feq hb139_24).2) (by decide) (by decide) k) ?_
          refine own_by (V := T7.setTop (mkF m 156 #[.val (.int p0), .val (.int v1), .val (.int v2), .val (.int v3), .val (.int (own_in p0 (8204 : Int32) (8205 : Int32))), .unset, .unset, .unset, .unset] [(.int (1 : Int32))])) (fun t k => XS.iconst X7.here hx rfl (hb hby own_d_method_3_155) k) ?_
          refine own_by (V := T7.setTop (mkF m 160 #[.val (.int p0), .val (.int v1), .val (.int v2), .val (.int v3), .val (.int (own_in p0 (8204 : Int32) (8205 : Int32))), .unset, .unset, .unset, .unset] [(.int (1 : Int32))])) (fun t k => XS.goto X7.here hx rfl (pc0 := 156) (pc' := 160) rfl (hb hby own_d_method_3_156) (by decide) (by decide) k) ?_
          exact J8 T7 _ (1 : Int32) (X7.more (by decide) (by decide)) e7 N7 (by ((try simp only [own_in0, own_ite0, Int32.reduceToInt] at hb139_24); (try simp only [own_in0, own_ite0, Int32.lt_iff_toInt_lt, ← Int32.toInt_inj, own_neg1, Int32.reduceToInt] at hb139_24); exact (if_pos (by omega)).symm))
      by_cases hb95_27 : (own_in p0 (880 : Int32) (893 : Int32)) = (0 : Int32)
      · refine own_by (V := T4.setTop (mkF m 98 #[.val (.int p0), .val (.int v1), .val (.int v2), .unset, .unset, .unset, .unset, .unset, .unset] [])) (fun t k => XS.ifNo X4.here hx rfl (hb hby own_d_method_3_95) rfl ((if0 _ _).trans (teq hb95_27).2) k) ?_
        refine own_by (V := T4.setTop (mkF m 99 #[.val (.int p0), .val (.int v1), .val (.int v2), .unset, .unset, .unset, .unset, .unset, .unset] [(.int p0)])) (fun t k => XS.iloadN X4.here hx rfl (hb hby own_d_method_3_98) rfl  k) ?_
        refine own_by (V := T4.setTop (mkF m 102 #[.val (.int p0), .val (.int v1), .val (.int v2), .unset, .unset, .unset, .unset, .unset, .unset] [(.int (895 : Int32)), (.int p0)])) (fun t k => XS.sipush X4.here hx rfl (hb hby own_d_method_3_99) k) ?_
        refine own_by (V := T4.setTop (mkF m 105 #[.val (.int p0), .val (.int v1), .val (.int v2), .unset, .unset, .unset, .unset, .unset, .unset] [(.int (8191 : Int32)), (.int (895 : Int32)), (.int p0)])) (fun t k => XS.sipush X4.here hx rfl (hb hby own_d_method_3_102) k) ?_
        obtain ⟨_, _, ⟨T28, Lq28, kq28, nq28⟩, -, X28, ⟨Lc28, hQ28, lq28, yq28, zq28⟩, st28⟩ := Jvm.LawKit.callS X4 hx (y := (⟨"com/example/canox/canox/xml/XmlCharsIsNameStartPinLaw", "in", "(III)Z"⟩ : MethodName)) hown (mvT hZ (hw _ (List.mem_of_getElem? (i := 11) rfl))) (mvT hZ (hw _ (List.mem_of_getElem? (i := 12) rfl))) (mvT hZ (hw _ (List.mem_of_getElem? (i := 9) rfl))) (mvT hZ (hw _ (List.mem_of_getElem? (i := 13) rfl))) (by decide) (backOf (W := 0) (own_rm3 l Z a0 hw [] p0 (895 : Int32) (8191 : Int32) h0 n0) hZ (hw _ (List.mem_of_getElem? (i := 13) rfl)) (hw _ (List.mem_of_getElem? (i := 9) rfl)) (by decide) (by decide)) (g := (mkF m 105 #[.val (.int p0), .val (.int v1), .val (.int v2), .unset, .unset, .unset, .unset, .unset, .unset] [(.int (8191 : Int32)), (.int (895 : Int32)), (.int p0)])) rfl (by rw [hml]; rfl) (argsL := [(.int p0), (.int (895 : Int32)), (.int (8191 : Int32))]) (rest := []) (lenOf own_pd0 rfl) rfl (by show 2 * 0 + _ ≤ _; exact Nat.le_of_eq rfl) (hb hby own_d_method_3_105) (fun _ _ => ⟨rfl, e4, (by decide : 0 + 0 ≤ _), (by decide : 0 + 0 ≤ _)⟩)
        dsimp only [Pt.U, Pt.locs, Pt.cells, Pt.slots] at X28 lq28 yq28 zq28 st28 hQ28
        subst lq28 yq28 zq28
        obtain ⟨rfl, N28q, e28⟩ := hQ28
        have N28 := Fr.app N4 N28q
        refine own_by (V := T28.setTop (mkF m 108 #[.val (.int p0), .val (.int v1), .val (.int v2), .unset, .unset, .unset, .unset, .unset, .unset] [(.int (own_in p0 (895 : Int32) (8191 : Int32)))])) st28 ?_
        by_cases hb108_29 : (own_in p0 (895 : Int32) (8191 : Int32)) = (0 : Int32)
        · refine own_by (V := T28.setTop (mkF m 115 #[.val (.int p0), .val (.int v1), .val (.int v2), .unset, .unset, .unset, .unset, .unset, .unset] [])) (fun t k => XS.ifYes X28.here hx rfl (pc0 := 108) (pc' := 115) rfl (hb hby own_d_method_3_108) rfl ((if0 _ _).trans (teq hb108_29).1) (by decide) (by decide) k) ?_
          refine own_by (V := T28.setTop (mkF m 116 #[.val (.int p0), .val (.int v1), .val (.int v2), .unset, .unset, .unset, .unset, .unset, .unset] [(.int (0 : Int32))])) (fun t k => XS.iconst X28.here hx rfl (hb hby own_d_method_3_115) k) ?_
          exact J5 T28 _ (0 : Int32) (X28.more (by decide) (by decide)) e28 N28 (by ((try simp only [own_in0, own_ite0, Int32.reduceToInt] at hb95_27); (try simp only [own_in0, own_ite0, Int32.reduceToInt] at hb108_29); (try simp only [own_in0, own_ite0, Int32.lt_iff_toInt_lt, ← Int32.toInt_inj, own_neg1, Int32.reduceToInt] at hb95_27); (try simp only [own_in0, own_ite0, Int32.lt_iff_toInt_lt, ← Int32.toInt_inj, own_neg1, Int32.reduceToInt] at hb108_29); exact (if_neg (by omega)).symm))
        · refine own_by (V := T28.setTop (mkF m 111 #[.val (.int p0), .val (.int v1), .val (.int v2), .unset, .unset, .unset, .unset, .unset, .unset] [])) (fun t k => XS.ifNo X28.here hx rfl (hb hby own_d_method_3_108) rfl ((if0 _ _).trans (feq hb108_29).1) k) ?_
          refine own_by (V := T28.setTop (mkF m 112 #[.val (.int p0), .val (.int v1), .val (.int v2), .unset, .unset, .unset, .unset, .unset, .unset] [(.int (1 : Int32))])) (fun t k => XS.iconst X28.here hx rfl (hb hby own_d_method_3_111) k) ?_
          refine own_by (V := T28.setTop (mkF m 116 #[.val (.int p0), .val (.int v1), .val (.int v2), .unset, .unset, .unset, .unset, .unset, .unset] [(.int (1 : Int32))])) (fun t k => XS.goto X28.here hx rfl (pc0 := 112) (pc' := 116) rfl (hb hby own_d_method_3_112) (by decide) (by decide) k) ?_
          exact J5 T28 _ (1 : Int32) (X28.more (by decide) (by decide)) e28 N28 (by ((try simp only [own_in0, own_ite0, Int32.reduceToInt] at hb95_27); (try simp only [own_in0, own_ite0, Int32.reduceToInt] at hb108_29); (try simp only [own_in0, own_ite0, Int32.lt_iff_toInt_lt, ← Int32.toInt_inj, own_neg1, Int32.reduceToInt] at hb95_27); (try simp only [own_in0, own_ite0, Int32.lt_iff_toInt_lt, ← Int32.toInt_inj, own_neg1, Int32.reduceToInt] at hb108_29); exact (if_pos (by omega)).symm))
      · refine own_by (V := T4.setTop (mkF m 111 #[.val (.int p0), .val (.int v1), .val (.int v2), .unset, .unset, .unset, .unset, .unset, .unset] [])) (fun t k => XS.ifYes X4.here hx rfl (pc0 := 95) (pc' := 111) rfl (hb hby own_d_method_3_95) rfl ((if0 _ _).trans (feq hb95_27).2) (by decide) (by decide) k) ?_
        refine own_by (V := T4.setTop (mkF m 112 #[.val (.int p0), .val (.int v1), .val (.int v2), .unset, .unset, .unset, .unset, .unset, .unset] [(.int (1 : Int32))])) (fun t k => XS.iconst X4.here hx rfl (hb hby own_d_method_3_111) k) ?_
        refine own_by (V := T4.setTop (mkF m 116 #[.val (.int p0), .val (.int v1), .val (.int v2), .unset, .unset, .unset, .unset, .unset, .unset] [(.int (1 : Int32))])) (fun t k => XS.goto X4.here hx rfl (pc0 := 112) (pc' := 116) rfl (hb hby own_d_method_3_112) (by decide) (by decide) k) ?_
        exact J5 T4 _ (1 : Int32) (X4.more (by decide) (by decide)) e4 N4 (by ((try simp only [own_in0, own_ite0, Int32.reduceToInt] at hb95_27); (try simp only [own_in0, own_ite0, Int32.lt_iff_toInt_lt, ← Int32.toInt_inj, own_neg1, Int32.reduceToInt] at hb95_27); exact (if_pos (by omega)).symm))
    by_cases hb50_30 : (own_in p0 (192 : Int32) (214 : Int32)) = (0 : Int32)
    · refine own_by (V := T2.setTop (mkF m 53 #[.val (.int p0), .val (.int v1), .unset, .unset, .unset, .unset, .unset, .unset, .unset] [])) (fun t k => XS.ifNo X2.here hx rfl (hb hby own_d_method_3_50) rfl ((if0 _ _).trans (teq hb50_30).2) k) ?_
      refine own_by (V := T2.setTop (mkF m 54 #[.val (.int p0), .val (.int v1), .unset, .unset, .unset, .unset, .unset, .unset, .unset] [(.int p0)])) (fun t k => XS.iloadN X2.here hx rfl (hb hby own_d_method_3_53) rfl  k) ?_
      refine own_by (V := T2.setTop (mkF m 57 #[.val (.int p0), .val (.int v1), .unset, .unset, .unset, .unset, .unset, .unset, .unset] [(.int (216 : Int32)), (.int p0)])) (fun t k => XS.sipush X2.here hx rfl (hb hby own_d_method_3_54) k) ?_
      refine own_by (V := T2.setTop (mkF m 60 #[.val (.int p0), .val (.int v1), .unset, .unset, .unset, .unset, .unset, .unset, .unset] [(.int (246 : Int32)), (.int (216 : Int32)), (.int p0)])) (fun t k => XS.sipush X2.here hx rfl (hb hby own_d_method_3_57) k) ?_
      obtain ⟨_, _, ⟨T31, Lq31, kq31, nq31⟩, -, X31, ⟨Lc31, hQ31, lq31, yq31, zq31⟩, st31⟩ := Jvm.LawKit.callS X2 hx (y := (⟨"com/example/canox/canox/xml/XmlCharsIsNameStartPinLaw", "in", "(III)Z"⟩ : MethodName)) hown (mvT hZ (hw _ (List.mem_of_getElem? (i := 11) rfl))) (mvT hZ (hw _ (List.mem_of_getElem? (i := 12) rfl))) (mvT hZ (hw _ (List.mem_of_getElem? (i := 9) rfl))) (mvT hZ (hw _ (List.mem_of_getElem? (i := 13) rfl))) (by decide) (backOf (W := 0) (own_rm3 l Z a0 hw [] p0 (216 : Int32) (246 : Int32) h0 n0) hZ (hw _ (List.mem_of_getElem? (i := 13) rfl)) (hw _ (List.mem_of_getElem? (i := 9) rfl)) (by decide) (by decide)) (g := (mkF m 60 #[.val (.int p0), .val (.int v1), .unset, .unset, .unset, .unset, .unset, .unset, .unset] [(.int (246 : Int32)), (.int (216 : Int32)), (.int p0)])) rfl (by rw [hml]; rfl) (argsL := [(.int p0), (.int (216 : Int32)), (.int (246 : Int32))]) (rest := []) (lenOf own_pd0 rfl) rfl (by show 2 * 0 + _ ≤ _; exact Nat.le_of_eq rfl) (hb hby own_d_method_3_60) (fun _ _ => ⟨rfl, e2, (by decide : 0 + 0 ≤ _), (by decide : 0 + 0 ≤ _)⟩)
      dsimp only [Pt.U, Pt.locs, Pt.cells, Pt.slots] at X31 lq31 yq31 zq31 st31 hQ31
      subst lq31 yq31 zq31
      obtain ⟨rfl, N31q, e31⟩ := hQ31
      have N31 := Fr.app N2 N31q
      refine own_by (V := T31.setTop (mkF m 63 #[.val (.int p0), .val (.int v1), .unset, .unset, .unset, .unset, .unset, .unset, .unset] [(.int (own_in p0 (216 : Int32) (246 : Int32)))])) st31 ?_
      by_cases hb63_32 : (own_in p0 (216 : Int32) (246 : Int32)) = (0 : Int32)
      · refine own_by (V := T31.setTop (mkF m 66 #[.val (.int p0), .val (.int v1), .unset, .unset, .unset, .unset, .unset, .unset, .unset] [])) (fun t k => XS.ifNo X31.here hx rfl (hb hby own_d_method_3_63) rfl ((if0 _ _).trans (teq hb63_32).2) k) ?_
        refine own_by (V := T31.setTop (mkF m 67 #[.val (.int p0), .val (.int v1), .unset, .unset, .unset, .unset, .unset, .unset, .unset] [(.int p0)])) (fun t k => XS.iloadN X31.here hx rfl (hb hby own_d_method_3_66) rfl  k) ?_
        refine own_by (V := T31.setTop (mkF m 70 #[.val (.int p0), .val (.int v1), .unset, .unset, .unset, .unset, .unset, .unset, .unset] [(.int (248 : Int32)), (.int p0)])) (fun t k => XS.sipush X31.here hx rfl (hb hby own_d_method_3_67) k) ?_
        refine own_by (V := T31.setTop (mkF m 73 #[.val (.int p0), .val (.int v1), .unset, .unset, .unset, .unset, .unset, .unset, .unset] [(.int (767 : Int32)), (.int (248 : Int32)), (.int p0)])) (fun t k => XS.sipush X31.here hx rfl (hb hby own_d_method_3_70) k) ?_
        obtain ⟨_, _, ⟨T33, Lq33, kq33, nq33⟩, -, X33, ⟨Lc33, hQ33, lq33, yq33, zq33⟩, st33⟩ := Jvm.LawKit.callS X31 hx (y := (⟨"com/example/canox/canox/xml/XmlCharsIsNameStartPinLaw", "in", "(III)Z"⟩ : MethodName)) hown (mvT hZ (hw _ (List.mem_of_getElem? (i := 11) rfl))) (mvT hZ (hw _ (List.mem_of_getElem? (i := 12) rfl))) (mvT hZ (hw _ (List.mem_of_getElem? (i := 9) rfl))) (mvT hZ (hw _ (List.mem_of_getElem? (i := 13) rfl))) (by decide) (backOf (W := 0) (own_rm3 l Z a0 hw [] p0 (248 : Int32) (767 : Int32) h0 n0) hZ (hw _ (List.mem_of_getElem? (i := 13) rfl)) (hw _ (List.mem_of_getElem? (i := 9) rfl)) (by decide) (by decide)) (g := (mkF m 73 #[.val (.int p0), .val (.int v1), .unset, .unset, .unset, .unset, .unset, .unset, .unset] [(.int (767 : Int32)), (.int (248 : Int32)), (.int p0)])) rfl (by rw [hml]; rfl) (argsL := [(.int p0), (.int (248 : Int32)), (.int (767 : Int32))]) (rest := []) (lenOf own_pd0 rfl) rfl (by show 2 * 0 + _ ≤ _; exact Nat.le_of_eq rfl) (hb hby own_d_method_3_73) (fun _ _ => ⟨rfl, e31, (by decide : 0 + 0 ≤ _), (by decide : 0 + 0 ≤ _)⟩)
        dsimp only [Pt.U, Pt.locs, Pt.cells, Pt.slots] at X33 lq33 yq33 zq33 st33 hQ33
        subst lq33 yq33 zq33
        obtain ⟨rfl, N33q, e33⟩ := hQ33
        have N33 := Fr.app N31 N33q
        refine own_by (V := T33.setTop (mkF m 76 #[.val (.int p0), .val (.int v1), .unset, .unset, .unset, .unset, .unset, .unset, .unset] [(.int (own_in p0 (248 : Int32) (767 : Int32)))])) st33 ?_
        by_cases hb76_34 : (own_in p0 (248 : Int32) (767 : Int32)) = (0 : Int32)
        · refine own_by (V := T33.setTop (mkF m 83 #[.val (.int p0), .val (.int v1), .unset, .unset, .unset, .unset, .unset, .unset, .unset] [])) (fun t k => XS.ifYes X33.here hx rfl (pc0 := 76) (pc' := 83) rfl (hb hby own_d_method_3_76) rfl ((if0 _ _).trans (teq hb76_34).1) (by decide) (by decide) k) ?_
          refine own_by (V := T33.setTop (mkF m 84 #[.val (.int p0), .val (.int v1), .unset, .unset, .unset, .unset, .unset, .unset, .unset] [(.int (0 : Int32))])) (fun t k => XS.iconst X33.here hx rfl (hb hby own_d_method_3_83) k) ?_
          exact J3 T33 _ (0 : Int32) (X33.more (by decide) (by decide)) e33 N33 (by ((try simp only [own_in0, own_ite0, Int32.reduceToInt] at hb50_30); (try simp only [own_in0, own_ite0, Int32.reduceToInt] at hb63_32); (try simp only [own_in0, own_ite0, Int32.reduceToInt] at hb76_34); (try simp only [own_in0, own_ite0, Int32.lt_iff_toInt_lt, ← Int32.toInt_inj, own_neg1, Int32.reduceToInt] at hb50_30); (try simp only [own_in0, own_ite0, Int32.lt_iff_toInt_lt, ← Int32.toInt_inj, own_neg1, Int32.reduceToInt] at hb63_32); (try simp only [own_in0, own_ite0, Int32.lt_iff_toInt_lt, ← Int32.toInt_inj, own_neg1, Int32.reduceToInt] at hb76_34); exact (if_neg (by omega)).symm))
        · refine own_by (V := T33.setTop (mkF m 79 #[.val (.int p0), .val (.int v1), .unset, .unset, .unset, .unset, .unset, .unset, .unset] [])) (fun t k => XS.ifNo X33.here hx rfl (hb hby own_d_method_3_76) rfl ((if0 _ _).trans (feq hb76_34).1) k) ?_
          refine own_by (V := T33.setTop (mkF m 80 #[.val (.int p0), .val (.int v1), .unset, .unset, .unset, .unset, .unset, .unset, .unset] [(.int (1 : Int32))])) (fun t k => XS.iconst X33.here hx rfl (hb hby own_d_method_3_79) k) ?_
          refine own_by (V := T33.setTop (mkF m 84 #[.val (.int p0), .val (.int v1), .unset, .unset, .unset, .unset, .unset, .unset, .unset] [(.int (1 : Int32))])) (fun t k => XS.goto X33.here hx rfl (pc0 := 80) (pc' := 84) rfl (hb hby own_d_method_3_80) (by decide) (by decide) k) ?_
          exact J3 T33 _ (1 : Int32) (X33.more (by decide) (by decide)) e33 N33 (by ((try simp only [own_in0, own_ite0, Int32.reduceToInt] at hb50_30); (try simp only [own_in0, own_ite0, Int32.reduceToInt] at hb63_32); (try simp only [own_in0, own_ite0, Int32.reduceToInt] at hb76_34); (try simp only [own_in0, own_ite0, Int32.lt_iff_toInt_lt, ← Int32.toInt_inj, own_neg1, Int32.reduceToInt] at hb50_30); (try simp only [own_in0, own_ite0, Int32.lt_iff_toInt_lt, ← Int32.toInt_inj, own_neg1, Int32.reduceToInt] at hb63_32); (try simp only [own_in0, own_ite0, Int32.lt_iff_toInt_lt, ← Int32.toInt_inj, own_neg1, Int32.reduceToInt] at hb76_34); exact (if_pos (by omega)).symm))
      · refine own_by (V := T31.setTop (mkF m 79 #[.val (.int p0), .val (.int v1), .unset, .unset, .unset, .unset, .unset, .unset, .unset] [])) (fun t k => XS.ifYes X31.here hx rfl (pc0 := 63) (pc' := 79) rfl (hb hby own_d_method_3_63) rfl ((if0 _ _).trans (feq hb63_32).2) (by decide) (by decide) k) ?_
        refine own_by (V := T31.setTop (mkF m 80 #[.val (.int p0), .val (.int v1), .unset, .unset, .unset, .unset, .unset, .unset, .unset] [(.int (1 : Int32))])) (fun t k => XS.iconst X31.here hx rfl (hb hby own_d_method_3_79) k) ?_
        refine own_by (V := T31.setTop (mkF m 84 #[.val (.int p0), .val (.int v1), .unset, .unset, .unset, .unset, .unset, .unset, .unset] [(.int (1 : Int32))])) (fun t k => XS.goto X31.here hx rfl (pc0 := 80) (pc' := 84) rfl (hb hby own_d_method_3_80) (by decide) (by decide) k) ?_
        exact J3 T31 _ (1 : Int32) (X31.more (by decide) (by decide)) e31 N31 (by ((try simp only [own_in0, own_ite0, Int32.reduceToInt] at hb50_30); (try simp only [own_in0, own_ite0, Int32.reduceToInt] at hb63_32); (try simp only [own_in0, own_ite0, Int32.lt_iff_toInt_lt, ← Int32.toInt_inj, own_neg1, Int32.reduceToInt] at hb50_30); (try simp only [own_in0, own_ite0, Int32.lt_iff_toInt_lt, ← Int32.toInt_inj, own_neg1, Int32.reduceToInt] at hb63_32); exact (if_pos (by omega)).symm))
    · refine own_by (V := T2.setTop (mkF m 79 #[.val (.int p0), .val (.int v1), .unset, .unset, .unset, .unset, .unset, .unset, .unset] [])) (fun t k => XS.ifYes X2.here hx rfl (pc0 := 50) (pc' := 79) rfl (hb hby own_d_method_3_50) rfl ((if0 _ _).trans (feq hb50_30).2) (by decide) (by decide) k) ?_
      refine own_by (V := T2.setTop (mkF m 80 #[.val (.int p0), .val (.int v1), .unset, .unset, .unset, .unset, .unset, .unset, .unset] [(.int (1 : Int32))])) (fun t k => XS.iconst X2.here hx rfl (hb hby own_d_method_3_79) k) ?_
      refine own_by (V := T2.setTop (mkF m 84 #[.val (.int p0), .val (.int v1), .unset, .unset, .unset, .unset, .unset, .unset, .unset] [(.int (1 : Int32))])) (fun t k => XS.goto X2.here hx rfl (pc0 := 80) (pc' := 84) rfl (hb hby own_d_method_3_80) (by decide) (by decide) k) ?_
      exact J3 T2 _ (1 : Int32) (X2.more (by decide) (by decide)) e2 N2 (by ((try simp only [own_in0, own_ite0, Int32.reduceToInt] at hb50_30); (try simp only [own_in0, own_ite0, Int32.lt_iff_toInt_lt, ← Int32.toInt_inj, own_neg1, Int32.reduceToInt] at hb50_30); exact (if_pos (by omega)).symm))
  by_cases hb3_35 : p0 = (58 : Int32)
  · refine own_by (V := s₁.setTop (mkF m 34 #[.val (.int p0), .unset, .unset, .unset, .unset, .unset, .unset, .unset, .unset] [])) (fun t k => XS.icmpYes X0.here hx rfl (pc0 := 3) (pc' := 34) rfl (hb hby own_d_method_3_3) rfl (teq hb3_35).1 (by decide) (by decide) k) ?_
    refine own_by (V := s₁.setTop (mkF m 35 #[.val (.int p0), .unset, .unset, .unset, .unset, .unset, .unset, .unset, .unset] [(.int (1 : Int32))])) (fun t k => XS.iconst X0.here hx rfl (hb hby own_d_method_3_34) k) ?_
    refine own_by (V := s₁.setTop (mkF m 39 #[.val (.int p0), .unset, .unset, .unset, .unset, .unset, .unset, .unset, .unset] [(.int (1 : Int32))])) (fun t k => XS.goto X0.here hx rfl (pc0 := 35) (pc' := 39) rfl (hb hby own_d_method_3_35) (by decide) (by decide) k) ?_
    exact J1 s₁ _ (1 : Int32) (X0.more (by decide) (by decide)) e0 N0 (by ((try simp only [own_in0, own_ite0, Int32.reduceToInt] at hb3_35); (try simp only [own_in0, own_ite0, Int32.lt_iff_toInt_lt, ← Int32.toInt_inj, own_neg1, Int32.reduceToInt] at hb3_35); exact (if_pos (by omega)).symm))
  · refine own_by (V := s₁.setTop (mkF m 6 #[.val (.int p0), .unset, .unset, .unset, .unset, .unset, .unset, .unset, .unset] [])) (fun t k => XS.icmpNo X0.here hx rfl (hb hby own_d_method_3_3) rfl (feq hb3_35).1 k) ?_
    refine own_by (V := s₁.setTop (mkF m 7 #[.val (.int p0), .unset, .unset, .unset, .unset, .unset, .unset, .unset, .unset] [(.int p0)])) (fun t k => XS.iloadN X0.here hx rfl (hb hby own_d_method_3_6) rfl  k) ?_
    refine own_by (V := s₁.setTop (mkF m 9 #[.val (.int p0), .unset, .unset, .unset, .unset, .unset, .unset, .unset, .unset] [(.int (65 : Int32)), (.int p0)])) (fun t k => XS.bipush X0.here hx rfl (hb hby own_d_method_3_7) k) ?_
    refine own_by (V := s₁.setTop (mkF m 11 #[.val (.int p0), .unset, .unset, .unset, .unset, .unset, .unset, .unset, .unset] [(.int (90 : Int32)), (.int (65 : Int32)), (.int p0)])) (fun t k => XS.bipush X0.here hx rfl (hb hby own_d_method_3_9) k) ?_
    obtain ⟨_, _, ⟨T36, Lq36, kq36, nq36⟩, -, X36, ⟨Lc36, hQ36, lq36, yq36, zq36⟩, st36⟩ := Jvm.LawKit.callS X0 hx (y := (⟨"com/example/canox/canox/xml/XmlCharsIsNameStartPinLaw", "in", "(III)Z"⟩ : MethodName)) hown (mvT hZ (hw _ (List.mem_of_getElem? (i := 11) rfl))) (mvT hZ (hw _ (List.mem_of_getElem? (i := 12) rfl))) (mvT hZ (hw _ (List.mem_of_getElem? (i := 9) rfl))) (mvT hZ (hw _ (List.mem_of_getElem? (i := 13) rfl))) (by decide) (backOf (W := 0) (own_rm3 l Z a0 hw [] p0 (65 : Int32) (90 : Int32) h0 n0) hZ (hw _ (List.mem_of_getElem? (i := 13) rfl)) (hw _ (List.mem_of_getElem? (i := 9) rfl)) (by decide) (by decide)) (g := (mkF m 11 #[.val (.int p0), .unset, .unset, .unset, .unset, .unset, .unset, .unset, .unset] [(.int (90 : Int32)), (.int (65 : Int32)), (.int p0)])) rfl (by rw [hml]; rfl) (argsL := [(.int p0), (.int (65 : Int32)), (.int (90 : Int32))]) (rest := []) (lenOf own_pd0 rfl) rfl (by show 2 * 0 + _ ≤ _; exact Nat.le_of_eq rfl) (hb hby own_d_method_3_11) (fun _ _ => ⟨rfl, e0, (by decide : 0 + 0 ≤ _), (by decide : 0 + 0 ≤ _)⟩)
    dsimp only [Pt.U, Pt.locs, Pt.cells, Pt.slots] at X36 lq36 yq36 zq36 st36 hQ36
    subst lq36 yq36 zq36
    obtain ⟨rfl, N36q, e36⟩ := hQ36
    have N36 := Fr.app N0 N36q
    refine own_by (V := T36.setTop (mkF m 14 #[.val (.int p0), .unset, .unset, .unset, .unset, .unset, .unset, .unset, .unset] [(.int (own_in p0 (65 : Int32) (90 : Int32)))])) st36 ?_
    by_cases hb14_37 : (own_in p0 (65 : Int32) (90 : Int32)) = (0 : Int32)
    · refine own_by (V := T36.setTop (mkF m 17 #[.val (.int p0), .unset, .unset, .unset, .unset, .unset, .unset, .unset, .unset] [])) (fun t k => XS.ifNo X36.here hx rfl (hb hby own_d_method_3_14) rfl ((if0 _ _).trans (teq hb14_37).2) k) ?_
      refine own_by (V := T36.setTop (mkF m 18 #[.val (.int p0), .unset, .unset, .unset, .unset, .unset, .unset, .unset, .unset] [(.int p0)])) (fun t k => XS.iloadN X36.here hx rfl (hb hby own_d_method_3_17) rfl  k) ?_
      refine own_by (V := T36.setTop (mkF m 20 #[.val (.int p0), .unset, .unset, .unset, .unset, .unset, .unset, .unset, .unset] [(.int (95 : Int32)), (.int p0)])) (fun t k => XS.bipush X36.here hx rfl (hb hby own_d_method_3_18) k) ?_
      by_cases hb20_38 : p0 = (95 : Int32)
      · refine own_by (V := T36.setTop (mkF m 34 #[.val (.int p0), .unset, .unset, .unset, .unset, .unset, .unset, .unset, .unset] [])) (fun t k => XS.icmpYes X36.here hx rfl (pc0 := 20) (pc' := 34) rfl (hb hby own_d_method_3_20) rfl (teq hb20_38).1 (by decide) (by decide) k) ?_
        refine own_by (V := T36.setTop (mkF m 35 #[.val (.int p0), .unset, .unset, .unset, .unset, .unset, .unset, .unset, .unset] [(.int (1 : Int32))])) (fun t k => XS.iconst X36.here hx rfl (hb hby own_d_method_3_34) k) ?_
        refine own_by (V := T36.setTop (mkF m 39 #[.val (.int p0), .unset, .unset, .unset, .unset, .unset, .unset, .unset, .unset] [(.int (1 : Int32))])) (fun t k => XS.goto X36.here hx rfl (pc0 := 35) (pc' := 39) rfl (hb hby own_d_method_3_35) (by decide) (by decide) k) ?_
        exact J1 T36 _ (1 : Int32) (X36.more (by decide) (by decide)) e36 N36 (by ((try simp only [own_in0, own_ite0, Int32.reduceToInt] at hb3_35); (try simp only [own_in0, own_ite0, Int32.reduceToInt] at hb14_37); (try simp only [own_in0, own_ite0, Int32.reduceToInt] at hb20_38); (try simp only [own_in0, own_ite0, Int32.lt_iff_toInt_lt, ← Int32.toInt_inj, own_neg1, Int32.reduceToInt] at hb3_35); (try simp only [own_in0, own_ite0, Int32.lt_iff_toInt_lt, ← Int32.toInt_inj, own_neg1, Int32.reduceToInt] at hb14_37); (try simp only [own_in0, own_ite0, Int32.lt_iff_toInt_lt, ← Int32.toInt_inj, own_neg1, Int32.reduceToInt] at hb20_38); exact (if_pos (by omega)).symm))
      · refine own_by (V := T36.setTop (mkF m 23 #[.val (.int p0), .unset, .unset, .unset, .unset, .unset, .unset, .unset, .unset] [])) (fun t k => XS.icmpNo X36.here hx rfl (hb hby own_d_method_3_20) rfl (feq hb20_38).1 k) ?_
        refine own_by (V := T36.setTop (mkF m 24 #[.val (.int p0), .unset, .unset, .unset, .unset, .unset, .unset, .unset, .unset] [(.int p0)])) (fun t k => XS.iloadN X36.here hx rfl (hb hby own_d_method_3_23) rfl  k) ?_
        refine own_by (V := T36.setTop (mkF m 26 #[.val (.int p0), .unset, .unset, .unset, .unset, .unset, .unset, .unset, .unset] [(.int (97 : Int32)), (.int p0)])) (fun t k => XS.bipush X36.here hx rfl (hb hby own_d_method_3_24) k) ?_
        refine own_by (V := T36.setTop (mkF m 28 #[.val (.int p0), .unset, .unset, .unset, .unset, .unset, .unset, .unset, .unset] [(.int (122 : Int32)), (.int (97 : Int32)), (.int p0)])) (fun t k => XS.bipush X36.here hx rfl (hb hby own_d_method_3_26) k) ?_
        obtain ⟨_, _, ⟨T39, Lq39, kq39, nq39⟩, -, X39, ⟨Lc39, hQ39, lq39, yq39, zq39⟩, st39⟩ := Jvm.LawKit.callS X36 hx (y := (⟨"com/example/canox/canox/xml/XmlCharsIsNameStartPinLaw", "in", "(III)Z"⟩ : MethodName)) hown (mvT hZ (hw _ (List.mem_of_getElem? (i := 11) rfl))) (mvT hZ (hw _ (List.mem_of_getElem? (i := 12) rfl))) (mvT hZ (hw _ (List.mem_of_getElem? (i := 9) rfl))) (mvT hZ (hw _ (List.mem_of_getElem? (i := 13) rfl))) (by decide) (backOf (W := 0) (own_rm3 l Z a0 hw [] p0 (97 : Int32) (122 : Int32) h0 n0) hZ (hw _ (List.mem_of_getElem? (i := 13) rfl)) (hw _ (List.mem_of_getElem? (i := 9) rfl)) (by decide) (by decide)) (g := (mkF m 28 #[.val (.int p0), .unset, .unset, .unset, .unset, .unset, .unset, .unset, .unset] [(.int (122 : Int32)), (.int (97 : Int32)), (.int p0)])) rfl (by rw [hml]; rfl) (argsL := [(.int p0), (.int (97 : Int32)), (.int (122 : Int32))]) (rest := []) (lenOf own_pd0 rfl) rfl (by show 2 * 0 + _ ≤ _; exact Nat.le_of_eq rfl) (hb hby own_d_method_3_28) (fun _ _ => ⟨rfl, e36, (by decide : 0 + 0 ≤ _), (by decide : 0 + 0 ≤ _)⟩)
        dsimp only [Pt.U, Pt.locs, Pt.cells, Pt.slots] at X39 lq39 yq39 zq39 st39 hQ39
        subst lq39 yq39 zq39
        obtain ⟨rfl, N39q, e39⟩ := hQ39
        have N39 := Fr.app N36 N39q
        refine own_by (V := T39.setTop (mkF m 31 #[.val (.int p0), .unset, .unset, .unset, .unset, .unset, .unset, .unset, .unset] [(.int (own_in p0 (97 : Int32) (122 : Int32)))])) st39 ?_
        by_cases hb31_40 : (own_in p0 (97 : Int32) (122 : Int32)) = (0 : Int32)
        · refine own_by (V := T39.setTop (mkF m 38 #[.val (.int p0), .unset, .unset, .unset, .unset, .unset, .unset, .unset, .unset] [])) (fun t k => XS.ifYes X39.here hx rfl (pc0 := 31) (pc' := 38) rfl (hb hby own_d_method_3_31) rfl ((if0 _ _).trans (teq hb31_40).1) (by decide) (by decide) k) ?_
          refine own_by (V := T39.setTop (mkF m 39 #[.val (.int p0), .unset, .unset, .unset, .unset, .unset, .unset, .unset, .unset] [(.int (0 : Int32))])) (fun t k => XS.iconst X39.here hx rfl (hb hby own_d_method_3_38) k) ?_
          exact J1 T39 _ (0 : Int32) (X39.more (by decide) (by decide)) e39 N39 (by ((try simp only [own_in0, own_ite0, Int32.reduceToInt] at hb3_35); (try simp only [own_in0, own_ite0, Int32.reduceToInt] at hb14_37); (try simp only [own_in0, own_ite0, Int32.reduceToInt] at hb20_38); (try simp only [own_in0, own_ite0, Int32.reduceToInt] at hb31_40); (try simp only [own_in0, own_ite0, Int32.lt_iff_toInt_lt, ← Int32.toInt_inj, own_neg1, Int32.reduceToInt] at hb3_35); (try simp only [own_in0, own_ite0, Int32.lt_iff_toInt_lt, ← Int32.toInt_inj, own_neg1, Int32.reduceToInt] at hb14_37); (try simp only [own_in0, own_ite0, Int32.lt_iff_toInt_lt, ← Int32.toInt_inj, own_neg1, Int32.reduceToInt] at hb20_38); (try simp only [own_in0, own_ite0, Int32.lt_iff_toInt_lt, ← Int32.toInt_inj, own_neg1, Int32.reduceToInt] at hb31_40); exact (if_neg (by omega)).symm))
        · refine own_by (V := T39.setTop (mkF m 34 #[.val (.int p0), .unset, .unset, .unset, .unset, .unset, .unset, .unset, .unset] [])) (fun t k => XS.ifNo X39.here hx rfl (hb hby own_d_method_3_31) rfl ((if0 _ _).trans (feq hb31_40).1) k) ?_
          refine own_by (V := T39.setTop (mkF m 35 #[.val (.int p0), .unset, .unset, .unset, .unset, .unset, .unset, .unset, .unset] [(.int (1 : Int32))])) (fun t k => XS.iconst X39.here hx rfl (hb hby own_d_method_3_34) k) ?_
          refine own_by (V := T39.setTop (mkF m 39 #[.val (.int p0), .unset, .unset, .unset, .unset, .unset, .unset, .unset, .unset] [(.int (1 : Int32))])) (fun t k => XS.goto X39.here hx rfl (pc0 := 35) (pc' := 39) rfl (hb hby own_d_method_3_35) (by decide) (by decide) k) ?_
          exact J1 T39 _ (1 : Int32) (X39.more (by decide) (by decide)) e39 N39 (by ((try simp only [own_in0, own_ite0, Int32.reduceToInt] at hb3_35); (try simp only [own_in0, own_ite0, Int32.reduceToInt] at hb14_37); (try simp only [own_in0, own_ite0, Int32.reduceToInt] at hb20_38); (try simp only [own_in0, own_ite0, Int32.reduceToInt] at hb31_40); (try simp only [own_in0, own_ite0, Int32.lt_iff_toInt_lt, ← Int32.toInt_inj, own_neg1, Int32.reduceToInt] at hb3_35); (try simp only [own_in0, own_ite0, Int32.lt_iff_toInt_lt, ← Int32.toInt_inj, own_neg1, Int32.reduceToInt] at hb14_37); (try simp only [own_in0, own_ite0, Int32.lt_iff_toInt_lt, ← Int32.toInt_inj, own_neg1, Int32.reduceToInt] at hb20_38); (try simp only [own_in0, own_ite0, Int32.lt_iff_toInt_lt, ← Int32.toInt_inj, own_neg1, Int32.reduceToInt] at hb31_40); exact (if_pos (by omega)).symm))
    · refine own_by (V := T36.setTop (mkF m 34 #[.val (.int p0), .unset, .unset, .unset, .unset, .unset, .unset, .unset, .unset] [])) (fun t k => XS.ifYes X36.here hx rfl (pc0 := 14) (pc' := 34) rfl (hb hby own_d_method_3_14) rfl ((if0 _ _).trans (feq hb14_37).2) (by decide) (by decide) k) ?_
      refine own_by (V := T36.setTop (mkF m 35 #[.val (.int p0), .unset, .unset, .unset, .unset, .unset, .unset, .unset, .unset] [(.int (1 : Int32))])) (fun t k => XS.iconst X36.here hx rfl (hb hby own_d_method_3_34) k) ?_
      refine own_by (V := T36.setTop (mkF m 39 #[.val (.int p0), .unset, .unset, .unset, .unset, .unset, .unset, .unset, .unset] [(.int (1 : Int32))])) (fun t k => XS.goto X36.here hx rfl (pc0 := 35) (pc' := 39) rfl (hb hby own_d_method_3_35) (by decide) (by decide) k) ?_
      exact J1 T36 _ (1 : Int32) (X36.more (by decide) (by decide)) e36 N36 (by ((try simp only [own_in0, own_ite0, Int32.reduceToInt] at hb3_35); (try simp only [own_in0, own_ite0, Int32.reduceToInt] at hb14_37); (try simp only [own_in0, own_ite0, Int32.lt_iff_toInt_lt, ← Int32.toInt_inj, own_neg1, Int32.reduceToInt] at hb3_35); (try simp only [own_in0, own_ite0, Int32.lt_iff_toInt_lt, ← Int32.toInt_inj, own_neg1, Int32.reduceToInt] at hb14_37); exact (if_pos (by omega)).symm))
def own_Q_own_rm1 (Z : State) (p0 : Int32) (wA : Addr) (clA : Cell) (h0 : Heap) (n0 : Nat) : Option Value → Heap → List Loc → Prop := fun v h L => v = some (.int (own_ns p0)) ∧ Fr n0 L ∧ h = h0
theorem own_ef_own_rm1 (m : MethodId) (x0 : Int32) : entryFrame m #[(.int x0)] 2 = mkF m 0 #[.val (.int x0), .unset] [] := by first | (simp [entryFrame, mkF, argsToLocals, Value.category]; done) | rfl
set_option maxRecDepth 65536 in
set_option maxHeartbeats 40000000 in
theorem own_rm1 (l : Launch) (Z : State) (a0 : Array Value) (hw : ∀ d ∈ tables_1, d.before a0 Z = true) (ws : List Jvm.Cond) (p0 : Int32) (wA : Addr) (clA : Cell) (h0 : Heap) (n0 : Nat) (SA : Sta Z h0 "com/example/canox/canox/xml/XmlChars" "ASCII" "[B" (.ref wA)) (AA : Arr Z h0 wA clA .byte) (hlen : clA.slots.size.toInt32 = (128 : Int32)) (hel : ∀ j : Int32, ¬ j < 0 → j < (128 : Int32) → ∃ xv, ¬ (j < 0 ∨ clA.slots.size ≤ j.toNatClampNeg) ∧ clA.slots[j.toNatClampNeg]? = some (.int xv) ∧ ((xv &&& (1 : Int32)) = (0 : Int32) ↔ ¬ own_asc j)) (hp0 : ¬ p0 < (0 : Int32)) :
    MetFree l (⟨"com/example/canox/canox/xml/XmlChars", "isNameStart", "(C)Z"⟩ : MethodName) (head1 (Jvm.Cond.code (⟨"com/example/canox/canox/xml/XmlChars", "isNameStart", "(C)Z"⟩ : MethodName) prog_199_method_7_code 2 (some .boolean) :: ws) ({ frames := 0, cells := 0, slots := 0, locals := 0 } : Room)) (fun a U => a = #[(.int p0)] ∧ Z.Warmed39 U.vm ∧ U.heap = h0) (fun _ _ _ _ _ => True) (fun _ U o U' => ∃ v L, o = .returned v ∧ (own_Q_own_rm1 Z p0 wA clA h0 n0) v U'.heap L ∧ FrameEnd U o U' L ({ frames := 0, cells := 0, slots := 0, locals := 0 } : Room).cells ({ frames := 0, cells := 0, slots := 0, locals := 0 } : Room).slots) := by
  refine MetFree.of_bodySF (plainFor_of_name own_pn1) hisR ?_
  intro p e s m args below meth c s₁ Bd hml0 hP hK
  obtain ⟨rfl, hZ, hh⟩ := hP
  have hx := Bd.exec
  have hby := Bd.bytes
  have hml : c.maxLocals = 2 := hml0
  have hown : s.vm.findClass "com/example/canox/canox/xml/XmlChars" = some m.cls := findClass_of_methodNamed Bd.named
  have hnm := (name_of_methodNamed Bd.named Bd.method).1
  have hlk : meth.locks = false := BodyLoose.notSynchronized Bd
  have X0 : Stand p l e ({ frames := 0, cells := 0, slots := 0, locals := 0 } : Room) s m #[(.int p0)] below meth c s₁ [] 0 0 := Stand.of_body Bd
  have e0 : s₁.heap = h0 := by rw [← hh, Bd.state]; rfl
  have N0 := Fr.nil n0
  show own_Ends p e below s (own_Q_own_rm1 Z p0 wA clA h0 n0) ({ frames := 0, cells := 0, slots := 0, locals := 0 } : Room).cells ({ frames := 0, cells := 0, slots := 0, locals := 0 } : Room).slots _
  refine own_by (V := s₁.setTop (mkF m 0 #[.val (.int p0), .unset] [])) (fun t k => castTop (own_ef_own_rm1 m p0) k) ?_
  refine own_by (V := s₁.setTop (mkF m 1 #[.val (.int p0), .unset] [(.int p0)])) (fun t k => XS.iloadN X0.here hx rfl (hb hby own_d_prog_199_7_0) rfl  k) ?_
  obtain ⟨T1, X1, e1, st1⟩ := getS2 X0 hx hZ hown (host := "") (Or.inl (hw _ (List.mem_of_getElem? (i := 5) rfl))) Via.refl e0 SA (g := (mkF m 1 #[.val (.int p0), .unset] [(.int p0)])) rfl (hb hby own_d_prog_199_7_1)
  refine own_by (V := T1.setTop (mkF m 4 #[.val (.int p0), .unset] [(.ref wA), (.int p0)])) st1 ?_
  refine own_by (V := T1.setTop (mkF m 5 #[.val (.int p0), .unset] [(.int (128 : Int32)), (.int p0)])) (by have q := X1.arraylength hx (cell := clA) (by rw [e1]; exact AA.1) (State.isArrayOf_alike hZ.alike AA.2.1) (g := (mkF m 4 #[.val (.int p0), .unset] [(.ref wA), (.int p0)])) rfl (rest := [(.int p0)]) rfl (hb hby own_d_prog_199_7_4); rw [hlen] at q; exact q) ?_
  by_cases hb5_2 : p0 < (128 : Int32)
  · refine own_by (V := T1.setTop (mkF m 8 #[.val (.int p0), .unset] [])) (fun t k => XS.icmpNo X1.here hx rfl (hb hby own_d_prog_199_7_5) rfl (tlt hb5_2).2.1 k) ?_
    obtain ⟨T3, X3, e3, st3⟩ := getS2 X1 hx hZ hown (host := "") (Or.inl (hw _ (List.mem_of_getElem? (i := 5) rfl))) Via.refl e1 SA (g := (mkF m 8 #[.val (.int p0), .unset] [])) rfl (hb hby own_d_prog_199_7_8)
    refine own_by (V := T3.setTop (mkF m 11 #[.val (.int p0), .unset] [(.ref wA)])) st3 ?_
    refine own_by (V := T3.setTop (mkF m 12 #[.val (.int p0), .unset] [(.int p0), (.ref wA)])) (fun t k => XS.iloadN X3.here hx rfl (hb hby own_d_prog_199_7_11) rfl  k) ?_
    obtain ⟨xv, hin, hat, hod⟩ := hel p0 hp0 hb5_2
    refine own_by (V := T3.setTop (mkF m 13 #[.val (.int p0), .unset] [(.int xv)])) (X3.baloadBytes hx (j := p0) (v := .int xv) (by rw [e3]; exact AA.1) (State.isArrayOf_alike hZ.alike AA.2.1) AA.2.2 hin hat (g := (mkF m 12 #[.val (.int p0), .unset] [(.int p0), (.ref wA)])) rfl rfl (hb hby own_d_prog_199_7_12)) ?_
    refine own_by (V := T3.setTop (mkF m 14 #[.val (.int p0), .unset] [(.int (1 : Int32)), (.int xv)])) (fun t k => XS.iconst X3.here hx rfl (hb hby own_d_prog_199_7_13) k) ?_
    refine own_by (V := T3.setTop (mkF m 15 #[.val (.int p0), .unset] [(.int (xv &&& (1 : Int32)))])) (fun t k => XS.iand X3.here hx rfl (hb hby own_d_prog_199_7_14) rfl k) ?_
    by_cases hb15_4 : (xv &&& (1 : Int32)) = (0 : Int32)
    · refine own_by (V := T3.setTop (mkF m 22 #[.val (.int p0), .unset] [])) (fun t k => XS.ifYes X3.here hx rfl (pc0 := 15) (pc' := 22) rfl (hb hby own_d_prog_199_7_15) rfl ((if0 _ _).trans (teq hb15_4).1) (by decide) (by decide) k) ?_
      refine own_by (V := T3.setTop (mkF m 23 #[.val (.int p0), .unset] [(.int (0 : Int32))])) (fun t k => XS.iconst X3.here hx rfl (hb hby own_d_prog_199_7_22) k) ?_
      refine own_by (V := T3.setTop (mkF m 24 #[.val (.int p0), .val (.int (0 : Int32))] [])) (fun t k => XS.istoreN X3.here hx rfl (hb hby own_d_prog_199_7_23) rfl (l' := #[.val (.int p0), .val (.int (0 : Int32))]) rfl k) ?_
      refine own_by (V := T3.setTop (mkF m 182 #[.val (.int p0), .val (.int (0 : Int32))] [])) (fun t k => XS.goto X3.here hx rfl (pc0 := 24) (pc' := 182) rfl (hb hby own_d_prog_199_7_24) (by decide) (by decide) k) ?_
      refine own_by (V := T3.setTop (mkF m 183 #[.val (.int p0), .val (.int (0 : Int32))] [(.int (0 : Int32))])) (fun t k => XS.iloadN X3.here hx rfl (hb hby own_d_prog_199_7_182) rfl  k) ?_
      refine own_retN X3 hx hlk e3 Bd.returns (t := .boolean) (by simp) rfl (hb hby own_d_prog_199_7_183) ?_ (by decide) (by decide)
      exact ⟨congrArg (fun z => some (Value.int z)) (show (0 : Int32) = (own_ns p0) from by exact own_ns_asc0 p0 hp0 hb5_2 (fun q => hod.mp hb15_4 q)), N0, rfl⟩
    · refine own_by (V := T3.setTop (mkF m 18 #[.val (.int p0), .unset] [])) (fun t k => XS.ifNo X3.here hx rfl (hb hby own_d_prog_199_7_15) rfl ((if0 _ _).trans (feq hb15_4).1) k) ?_
      refine own_by (V := T3.setTop (mkF m 19 #[.val (.int p0), .unset] [(.int (1 : Int32))])) (fun t k => XS.iconst X3.here hx rfl (hb hby own_d_prog_199_7_18) k) ?_
      refine own_by (V := T3.setTop (mkF m 23 #[.val (.int p0), .unset] [(.int (1 : Int32))])) (fun t k => XS.goto X3.here hx rfl (pc0 := 19) (pc' := 23) rfl (hb hby own_d_prog_199_7_19) (by decide) (by decide) k) ?_
      refine own_by (V := T3.setTop (mkF m 24 #[.val (.int p0), .val (.int (1 : Int32))] [])) (fun t k => XS.istoreN X3.here hx rfl (hb hby own_d_prog_199_7_23) rfl (l' := #[.val (.int p0), .val (.int (1 : Int32))]) rfl k) ?_
      refine own_by (V := T3.setTop (mkF m 182 #[.val (.int p0), .val (.int (1 : Int32))] [])) (fun t k => XS.goto X3.here hx rfl (pc0 := 24) (pc' := 182) rfl (hb hby own_d_prog_199_7_24) (by decide) (by decide) k) ?_
      refine own_by (V := T3.setTop (mkF m 183 #[.val (.int p0), .val (.int (1 : Int32))] [(.int (1 : Int32))])) (fun t k => XS.iloadN X3.here hx rfl (hb hby own_d_prog_199_7_182) rfl  k) ?_
      refine own_retN X3 hx hlk e3 Bd.returns (t := .boolean) (by simp) rfl (hb hby own_d_prog_199_7_183) ?_ (by decide) (by decide)
      exact ⟨congrArg (fun z => some (Value.int z)) (show (1 : Int32) = (own_ns p0) from by exact own_ns_asc1 p0 hp0 hb5_2 (fun q => hb15_4 (hod.mpr q))), N0, rfl⟩
  · refine own_by (V := T1.setTop (mkF m 27 #[.val (.int p0), .unset] [])) (fun t k => XS.icmpYes X1.here hx rfl (pc0 := 5) (pc' := 27) rfl (hb hby own_d_prog_199_7_5) rfl (flt hb5_2).2.1 (by decide) (by decide) k) ?_
    refine own_by (V := T1.setTop (mkF m 28 #[.val (.int p0), .unset] [(.int p0)])) (fun t k => XS.iloadN X1.here hx rfl (hb hby own_d_prog_199_7_27) rfl  k) ?_
    refine own_by (V := T1.setTop (mkF m 31 #[.val (.int p0), .unset] [(.int (192 : Int32)), (.int p0)])) (fun t k => XS.sipush X1.here hx rfl (hb hby own_d_prog_199_7_28) k) ?_
    have J5 : ∀ (T5 : State) (l5 : List Loc) (X5 : Stand p l e ({ frames := 0, cells := 0, slots := 0, locals := 0 } : Room) s m #[(.int p0)] below meth c T5 l5 0 0) (e5 : T5.heap = h0) (N5 : Fr n0 l5) (hr0 : ¬ (192 ≤ p0.toInt ∧ p0.toInt ≤ 214)), own_Ends p e below s (own_Q_own_rm1 Z p0 wA clA h0 n0) ({ frames := 0, cells := 0, slots := 0, locals := 0 } : Room).cells ({ frames := 0, cells := 0, slots := 0, locals := 0 } : Room).slots (T5.setTop (mkF m 41 #[.val (.int p0), .unset] [])) := by
      intro T5 l5  X5 e5 N5 hr0
      refine own_by (V := T5.setTop (mkF m 42 #[.val (.int p0), .unset] [(.int p0)])) (fun t k => XS.iloadN X5.here hx rfl (hb hby own_d_prog_199_7_41) rfl  k) ?_
      refine own_by (V := T5.setTop (mkF m 45 #[.val (.int p0), .unset] [(.int (216 : Int32)), (.int p0)])) (fun t k => XS.sipush X5.here hx rfl (hb hby own_d_prog_199_7_42) k) ?_
      have J6 : ∀ (T6 : State) (l6 : List Loc) (X6 : Stand p l e ({ frames := 0, cells := 0, slots := 0, locals := 0 } : Room) s m #[(.int p0)] below meth c T6 l6 0 0) (e6 : T6.heap = h0) (N6 : Fr n0 l6) (hr1 : ¬ (216 ≤ p0.toInt ∧ p0.toInt ≤ 246)), own_Ends p e below s (own_Q_own_rm1 Z p0 wA clA h0 n0) ({ frames := 0, cells := 0, slots := 0, locals := 0 } : Room).cells ({ frames := 0, cells := 0, slots := 0, locals := 0 } : Room).slots (T6.setTop (mkF m 55 #[.val (.int p0), .unset] [])) := by
        intro T6 l6  X6 e6 N6 hr1
        refine own_by (V := T6.setTop (mkF m 56 #[.val (.int p0), .unset] [(.int p0)])) (fun t k => XS.iloadN X6.here hx rfl (hb hby own_d_prog_199_7_55) rfl  k) ?_
        refine own_by (V := T6.setTop (mkF m 59 #[.val (.int p0), .unset] [(.int (248 : Int32)), (.int p0)])) (fun t k => XS.sipush X6.here hx rfl (hb hby own_d_prog_199_7_56) k) ?_
        have J7 : ∀ (T7 : State) (l7 : List Loc) (X7 : Stand p l e ({ frames := 0, cells := 0, slots := 0, locals := 0 } : Room) s m #[(.int p0)] below meth c T7 l7 0 0) (e7 : T7.heap = h0) (N7 : Fr n0 l7) (hr2 : ¬ (248 ≤ p0.toInt ∧ p0.toInt ≤ 767)), own_Ends p e below s (own_Q_own_rm1 Z p0 wA clA h0 n0) ({ frames := 0, cells := 0, slots := 0, locals := 0 } : Room).cells ({ frames := 0, cells := 0, slots := 0, locals := 0 } : Room).slots (T7.setTop (mkF m 69 #[.val (.int p0), .unset] [])) := by
          intro T7 l7  X7 e7 N7 hr2
          refine own_by (V := T7.setTop (mkF m 70 #[.val (.int p0), .unset] [(.int p0)])) (fun t k => XS.iloadN X7.here hx rfl (hb hby own_d_prog_199_7_69) rfl  k) ?_
          refine own_by (V := T7.setTop (mkF m 73 #[.val (.int p0), .unset] [(.int (880 : Int32)), (.int p0)])) (fun t k => XS.sipush X7.here hx rfl (hb hby own_d_prog_199_7_70) k) ?_
          have J8 : ∀ (T8 : State) (l8 : List Loc) (X8 : Stand p l e ({ frames := 0, cells := 0, slots := 0, locals := 0 } : Room) s m #[(.int p0)] below meth c T8 l8 0 0) (e8 : T8.heap = h0) (N8 : Fr n0 l8) (hr3 : ¬ (880 ≤ p0.toInt ∧ p0.toInt ≤ 893)), own_Ends p e below s (own_Q_own_rm1 Z p0 wA clA h0 n0) ({ frames := 0, cells := 0, slots := 0, locals := 0 } : Room).cells ({ frames := 0, cells := 0, slots := 0, locals := 0 } : Room).slots (T8.setTop (mkF m 83 #[.val (.int p0), .unset] [])) := by
            intro T8 l8  X8 e8 N8 hr3
            refine own_by (V := T8.setTop (mkF m 84 #[.val (.int p0), .unset] [(.int p0)])) (fun t k => XS.iloadN X8.here hx rfl (hb hby own_d_prog_199_7_83) rfl  k) ?_
            refine own_by (V := T8.setTop (mkF m 87 #[.val (.int p0), .unset] [(.int (895 : Int32)), (.int p0)])) (fun t k => XS.sipush X8.here hx rfl (hb hby own_d_prog_199_7_84) k) ?_
            have J9 : ∀ (T9 : State) (l9 : List Loc) (X9 : Stand p l e ({ frames := 0, cells := 0, slots := 0, locals := 0 } : Room) s m #[(.int p0)] below meth c T9 l9 0 0) (e9 : T9.heap = h0) (N9 : Fr n0 l9) (hr4 : ¬ (895 ≤ p0.toInt ∧ p0.toInt ≤ 8191)), own_Ends p e below s (own_Q_own_rm1 Z p0 wA clA h0 n0) ({ frames := 0, cells := 0, slots := 0, locals := 0 } : Room).cells ({ frames := 0, cells := 0, slots := 0, locals := 0 } : Room).slots (T9.setTop (mkF m 97 #[.val (.int p0), .unset] [])) := by
              intro T9 l9  X9 e9 N9 hr4
              refine own_by (V := T9.setTop (mkF m 98 #[.val (.int p0), .unset] [(.int p0)])) (fun t k => XS.iloadN X9.here hx rfl (hb hby own_d_prog_199_7_97) rfl  k) ?_
              refine own_by (V := T9.setTop (mkF m 101 #[.val (.int p0), .unset] [(.int (8204 : Int32)), (.int p0)])) (fun t k => XS.sipush X9.here hx rfl (hb hby own_d_prog_199_7_98) k) ?_
              have J10 : ∀ (T10 : State) (l10 : List Loc) (X10 : Stand p l e ({ frames := 0, cells := 0, slots := 0, locals := 0 } : Room) s m #[(.int p0)] below meth c T10 l10 0 0) (e10 : T10.heap = h0) (N10 : Fr n0 l10) (hr5 : ¬ (8204 ≤ p0.toInt ∧ p0.toInt ≤ 8205)), own_Ends p e below s (own_Q_own_rm1 Z p0 wA clA h0 n0) ({ frames := 0, cells := 0, slots := 0, locals := 0 } : Room).cells ({ frames := 0, cells := 0, slots := 0, locals := 0 } : Room).slots (T10.setTop (mkF m 111 #[.val (.int p0), .unset] [])) := by
                intro T10 l10  X10 e10 N10 hr5
                refine own_by (V := T10.setTop (mkF m 112 #[.val (.int p0), .unset] [(.int p0)])) (fun t k => XS.iloadN X10.here hx rfl (hb hby own_d_prog_199_7_111) rfl  k) ?_
                refine own_by (V := T10.setTop (mkF m 115 #[.val (.int p0), .unset] [(.int (8304 : Int32)), (.int p0)])) (fun t k => XS.sipush X10.here hx rfl (hb hby own_d_prog_199_7_112) k) ?_
                have J11 : ∀ (T11 : State) (l11 : List Loc) (X11 : Stand p l e ({ frames := 0, cells := 0, slots := 0, locals := 0 } : Room) s m #[(.int p0)] below meth c T11 l11 0 0) (e11 : T11.heap = h0) (N11 : Fr n0 l11) (hr6 : ¬ (8304 ≤ p0.toInt ∧ p0.toInt ≤ 8591)), own_Ends p e below s (own_Q_own_rm1 Z p0 wA clA h0 n0) ({ frames := 0, cells := 0, slots := 0, locals := 0 } : Room).cells ({ frames := 0, cells := 0, slots := 0, locals := 0 } : Room).slots (T11.setTop (mkF m 125 #[.val (.int p0), .unset] [])) := by
                  intro T11 l11  X11 e11 N11 hr6
                  refine own_by (V := T11.setTop (mkF m 126 #[.val (.int p0), .unset] [(.int p0)])) (fun t k => XS.iloadN X11.here hx rfl (hb hby own_d_prog_199_7_125) rfl  k) ?_
                  refine own_by (V := T11.setTop (mkF m 129 #[.val (.int p0), .unset] [(.int (11264 : Int32)), (.int p0)])) (fun t k => XS.sipush X11.here hx rfl (hb hby own_d_prog_199_7_126) k) ?_
                  have J12 : ∀ (T12 : State) (l12 : List Loc) (X12 : Stand p l e ({ frames := 0, cells := 0, slots := 0, locals := 0 } : Room) s m #[(.int p0)] below meth c T12 l12 0 0) (e12 : T12.heap = h0) (N12 : Fr n0 l12) (hr7 : ¬ (11264 ≤ p0.toInt ∧ p0.toInt ≤ 12271)), own_Ends p e below s (own_Q_own_rm1 Z p0 wA clA h0 n0) ({ frames := 0, cells := 0, slots := 0, locals := 0 } : Room).cells ({ frames := 0, cells := 0, slots := 0, locals := 0 } : Room).slots (T12.setTop (mkF m 139 #[.val (.int p0), .unset] [])) := by
                    intro T12 l12  X12 e12 N12 hr7
                    refine own_by (V := T12.setTop (mkF m 140 #[.val (.int p0), .unset] [(.int p0)])) (fun t k => XS.iloadN X12.here hx rfl (hb hby own_d_prog_199_7_139) rfl  k) ?_
                    refine own_by (V := T12.setTop (mkF m 143 #[.val (.int p0), .unset] [(.int (12289 : Int32)), (.int p0)])) (fun t k => XS.sipush X12.here hx rfl (hb hby own_d_prog_199_7_140) k) ?_
                    have J13 : ∀ (T13 : State) (l13 : List Loc) (X13 : Stand p l e ({ frames := 0, cells := 0, slots := 0, locals := 0 } : Room) s m #[(.int p0)] below meth c T13 l13 0 0) (e13 : T13.heap = h0) (N13 : Fr n0 l13) (hr8 : ¬ (12289 ≤ p0.toInt ∧ p0.toInt ≤ 56191)), own_Ends p e below s (own_Q_own_rm1 Z p0 wA clA h0 n0) ({ frames := 0, cells := 0, slots := 0, locals := 0 } : Room).cells ({ frames := 0, cells := 0, slots := 0, locals := 0 } : Room).slots (T13.setTop (mkF m 152 #[.val (.int p0), .unset] [])) := by
                      intro T13 l13  X13 e13 N13 hr8
                      refine own_by (V := T13.setTop (mkF m 153 #[.val (.int p0), .unset] [(.int p0)])) (fun t k => XS.iloadN X13.here hx rfl (hb hby own_d_prog_199_7_152) rfl  k) ?_
                      refine own_by (V := T13.setTop (mkF m 155 #[.val (.int p0), .unset] [(.int (63744 : Int32)), (.int p0)])) (Jvm.Stand.ldcInt X13 hx hown (mvT hZ (hw _ (List.mem_of_getElem? (i := 22) rfl))) (g := (mkF m 153 #[.val (.int p0), .unset] [(.int p0)])) rfl (hb hby own_d_prog_199_7_153)) ?_
                      have J14 : ∀ (T14 : State) (l14 : List Loc) (X14 : Stand p l e ({ frames := 0, cells := 0, slots := 0, locals := 0 } : Room) s m #[(.int p0)] below meth c T14 l14 0 0) (e14 : T14.heap = h0) (N14 : Fr n0 l14) (hr9 : ¬ (63744 ≤ p0.toInt ∧ p0.toInt ≤ 64975)), own_Ends p e below s (own_Q_own_rm1 Z p0 wA clA h0 n0) ({ frames := 0, cells := 0, slots := 0, locals := 0 } : Room).cells ({ frames := 0, cells := 0, slots := 0, locals := 0 } : Room).slots (T14.setTop (mkF m 164 #[.val (.int p0), .unset] [])) := by
                        intro T14 l14  X14 e14 N14 hr9
                        refine own_by (V := T14.setTop (mkF m 165 #[.val (.int p0), .unset] [(.int p0)])) (fun t k => XS.iloadN X14.here hx rfl (hb hby own_d_prog_199_7_164) rfl  k) ?_
                        refine own_by (V := T14.setTop (mkF m 167 #[.val (.int p0), .unset] [(.int (65008 : Int32)), (.int p0)])) (Jvm.Stand.ldcInt X14 hx hown (mvT hZ (hw _ (List.mem_of_getElem? (i := 24) rfl))) (g := (mkF m 165 #[.val (.int p0), .unset] [(.int p0)])) rfl (hb hby own_d_prog_199_7_165)) ?_
                        by_cases hb167_15 : p0 < (65008 : Int32)
                        · refine own_by (V := T14.setTop (mkF m 180 #[.val (.int p0), .unset] [])) (fun t k => XS.icmpYes X14.here hx rfl (pc0 := 167) (pc' := 180) rfl (hb hby own_d_prog_199_7_167) rfl (tlt hb167_15).1 (by decide) (by decide) k) ?_
                          refine own_by (V := T14.setTop (mkF m 181 #[.val (.int p0), .unset] [(.int (0 : Int32))])) (fun t k => XS.iconst X14.here hx rfl (hb hby own_d_prog_199_7_180) k) ?_
                          refine own_by (V := T14.setTop (mkF m 182 #[.val (.int p0), .val (.int (0 : Int32))] [])) (fun t k => XS.istoreN X14.here hx rfl (hb hby own_d_prog_199_7_181) rfl (l' := #[.val (.int p0), .val (.int (0 : Int32))]) rfl k) ?_
                          refine own_by (V := T14.setTop (mkF m 183 #[.val (.int p0), .val (.int (0 : Int32))] [(.int (0 : Int32))])) (fun t k => XS.iloadN X14.here hx rfl (hb hby own_d_prog_199_7_182) rfl  k) ?_
                          refine own_retN X14 hx hlk e14 Bd.returns (t := .boolean) (by simp) rfl (hb hby own_d_prog_199_7_183) ?_ (by decide) (by decide)
                          exact ⟨congrArg (fun z => some (Value.int z)) (show (0 : Int32) = (own_ns p0) from by ((try simp only [Int32.lt_iff_toInt_lt, ← Int32.toInt_inj, own_neg1, Int32.reduceToInt] at hb167_15); exact own_ns_no p0 hb5_2 hr0 hr1 hr2 hr3 hr4 hr5 hr6 hr7 hr8 hr9 (by omega))), N14, rfl⟩
                        · refine own_by (V := T14.setTop (mkF m 170 #[.val (.int p0), .unset] [])) (fun t k => XS.icmpNo X14.here hx rfl (hb hby own_d_prog_199_7_167) rfl (flt hb167_15).1 k) ?_
                          refine own_by (V := T14.setTop (mkF m 171 #[.val (.int p0), .unset] [(.int p0)])) (fun t k => XS.iloadN X14.here hx rfl (hb hby own_d_prog_199_7_170) rfl  k) ?_
                          refine own_by (V := T14.setTop (mkF m 173 #[.val (.int p0), .unset] [(.int (65533 : Int32)), (.int p0)])) (Jvm.Stand.ldcInt X14 hx hown (mvT hZ (hw _ (List.mem_of_getElem? (i := 25) rfl))) (g := (mkF m 171 #[.val (.int p0), .unset] [(.int p0)])) rfl (hb hby own_d_prog_199_7_171)) ?_
                          by_cases hb173_16 : (65533 : Int32) < p0
                          · refine own_by (V := T14.setTop (mkF m 180 #[.val (.int p0), .unset] [])) (fun t k => XS.icmpYes X14.here hx rfl (pc0 := 173) (pc' := 180) rfl (hb hby own_d_prog_199_7_173) rfl (tlt hb173_16).2.2.1 (by decide) (by decide) k) ?_
                            refine own_by (V := T14.setTop (mkF m 181 #[.val (.int p0), .unset] [(.int (0 : Int32))])) (fun t k => XS.iconst X14.here hx rfl (hb hby own_d_prog_199_7_180) k) ?_
                            refine own_by (V := T14.setTop (mkF m 182 #[.val (.int p0), .val (.int (0 : Int32))] [])) (fun t k => XS.istoreN X14.here hx rfl (hb hby own_d_prog_199_7_181) rfl (l' := #[.val (.int p0), .val (.int (0 : Int32))]) rfl k) ?_
                            refine own_by (V := T14.setTop (mkF m 183 #[.val (.int p0), .val (.int (0 : Int32))] [(.int (0 : Int32))])) (fun t k => XS.iloadN X14.here hx rfl (hb hby own_d_prog_199_7_182) rfl  k) ?_
                            refine own_retN X14 hx hlk e14 Bd.returns (t := .boolean) (by simp) rfl (hb hby own_d_prog_199_7_183) ?_ (by decide) (by decide)
                            exact ⟨congrArg (fun z => some (Value.int z)) (show (0 : Int32) = (own_ns p0) from by ((try simp only [Int32.lt_iff_toInt_lt, ← Int32.toInt_inj, own_neg1, Int32.reduceToInt] at hb167_15); (try simp only [Int32.lt_iff_toInt_lt, ← Int32.toInt_inj, own_neg1, Int32.reduceToInt] at hb173_16); exact own_ns_no p0 hb5_2 hr0 hr1 hr2 hr3 hr4 hr5 hr6 hr7 hr8 hr9 (by omega))), N14, rfl⟩
                          · refine own_by (V := T14.setTop (mkF m 176 #[.val (.int p0), .unset] [])) (fun t k => XS.icmpNo X14.here hx rfl (hb hby own_d_prog_199_7_173) rfl (flt hb173_16).2.2.1 k) ?_
                            refine own_by (V := T14.setTop (mkF m 177 #[.val (.int p0), .unset] [(.int (1 : Int32))])) (fun t k => XS.iconst X14.here hx rfl (hb hby own_d_prog_199_7_176) k) ?_
                            refine own_by (V := T14.setTop (mkF m 181 #[.val (.int p0), .unset] [(.int (1 : Int32))])) (fun t k => XS.goto X14.here hx rfl (pc0 := 177) (pc' := 181) rfl (hb hby own_d_prog_199_7_177) (by decide) (by decide) k) ?_
                            refine own_by (V := T14.setTop (mkF m 182 #[.val (.int p0), .val (.int (1 : Int32))] [])) (fun t k => XS.istoreN X14.here hx rfl (hb hby own_d_prog_199_7_181) rfl (l' := #[.val (.int p0), .val (.int (1 : Int32))]) rfl k) ?_
                            refine own_by (V := T14.setTop (mkF m 183 #[.val (.int p0), .val (.int (1 : Int32))] [(.int (1 : Int32))])) (fun t k => XS.iloadN X14.here hx rfl (hb hby own_d_prog_199_7_182) rfl  k) ?_
                            refine own_retN X14 hx hlk e14 Bd.returns (t := .boolean) (by simp) rfl (hb hby own_d_prog_199_7_183) ?_ (by decide) (by decide)
                            exact ⟨congrArg (fun z => some (Value.int z)) (show (1 : Int32) = (own_ns p0) from by ((try simp only [Int32.lt_iff_toInt_lt, ← Int32.toInt_inj, own_neg1, Int32.reduceToInt] at hb167_15); (try simp only [Int32.lt_iff_toInt_lt, ← Int32.toInt_inj, own_neg1, Int32.reduceToInt] at hb173_16); exact (if_pos (by omega)).symm)), N14, rfl⟩
                      by_cases hb155_17 : p0 < (63744 : Int32)
                      · refine own_by (V := T13.setTop (mkF m 164 #[.val (.int p0), .unset] [])) (fun t k => XS.icmpYes X13.here hx rfl (pc0 := 155) (pc' := 164) rfl (hb hby own_d_prog_199_7_155) rfl (tlt hb155_17).1 (by decide) (by decide) k) ?_
                        exact J14 T13 _  (X13.more (by decide) (by decide)) e13 N13 (by (try simp only [Int32.lt_iff_toInt_lt, ← Int32.toInt_inj, own_neg1, Int32.reduceToInt] at hb155_17); omega)
                      · refine own_by (V := T13.setTop (mkF m 158 #[.val (.int p0), .unset] [])) (fun t k => XS.icmpNo X13.here hx rfl (hb hby own_d_prog_199_7_155) rfl (flt hb155_17).1 k) ?_
                        refine own_by (V := T13.setTop (mkF m 159 #[.val (.int p0), .unset] [(.int p0)])) (fun t k => XS.iloadN X13.here hx rfl (hb hby own_d_prog_199_7_158) rfl  k) ?_
                        refine own_by (V := T13.setTop (mkF m 161 #[.val (.int p0), .unset] [(.int (64975 : Int32)), (.int p0)])) (Jvm.Stand.ldcInt X13 hx hown (mvT hZ (hw _ (List.mem_of_getElem? (i := 23) rfl))) (g := (mkF m 159 #[.val (.int p0), .unset] [(.int p0)])) rfl (hb hby own_d_prog_199_7_159)) ?_
                        by_cases hb161_18 : (64975 : Int32) < p0
                        · refine own_by (V := T13.setTop (mkF m 164 #[.val (.int p0), .unset] [])) (fun t k => XS.icmpNo X13.here hx rfl (hb hby own_d_prog_199_7_161) rfl (tlt hb161_18).2.2.2 k) ?_
                          exact J14 T13 _  (X13.more (by decide) (by decide)) e13 N13 (by (try simp only [Int32.lt_iff_toInt_lt, ← Int32.toInt_inj, own_neg1, Int32.reduceToInt] at hb155_17); (try simp only [Int32.lt_iff_toInt_lt, ← Int32.toInt_inj, own_neg1, Int32.reduceToInt] at hb161_18); omega)
                        · refine own_by (V := T13.setTop (mkF m 176 #[.val (.int p0), .unset] [])) (fun t k => XS.icmpYes X13.here hx rfl (pc0 := 161) (pc' := 176) rfl (hb hby own_d_prog_199_7_161) rfl (flt hb161_18).2.2.2 (by decide) (by decide) k) ?_
                          refine own_by (V := T13.setTop (mkF m 177 #[.val (.int p0), .unset] [(.int (1 : Int32))])) (fun t k => XS.iconst X13.here hx rfl (hb hby own_d_prog_199_7_176) k) ?_
                          refine own_by (V := T13.setTop (mkF m 181 #[.val (.int p0), .unset] [(.int (1 : Int32))])) (fun t k => XS.goto X13.here hx rfl (pc0 := 177) (pc' := 181) rfl (hb hby own_d_prog_199_7_177) (by decide) (by decide) k) ?_
                          refine own_by (V := T13.setTop (mkF m 182 #[.val (.int p0), .val (.int (1 : Int32))] [])) (fun t k => XS.istoreN X13.here hx rfl (hb hby own_d_prog_199_7_181) rfl (l' := #[.val (.int p0), .val (.int (1 : Int32))]) rfl k) ?_
                          refine own_by (V := T13.setTop (mkF m 183 #[.val (.int p0), .val (.int (1 : Int32))] [(.int (1 : Int32))])) (fun t k => XS.iloadN X13.here hx rfl (hb hby own_d_prog_199_7_182) rfl  k) ?_
                          refine own_retN X13 hx hlk e13 Bd.returns (t := .boolean) (by simp) rfl (hb hby own_d_prog_199_7_183) ?_ (by decide) (by decide)
                          exact ⟨congrArg (fun z => some (Value.int z)) (show (1 : Int32) = (own_ns p0) from by ((try simp only [Int32.lt_iff_toInt_lt, ← Int32.toInt_inj, own_neg1, Int32.reduceToInt] at hb155_17); (try simp only [Int32.lt_iff_toInt_lt, ← Int32.toInt_inj, own_neg1, Int32.reduceToInt] at hb161_18); exact (if_pos (by omega)).symm)), N13, rfl⟩
                    by_cases hb143_19 : p0 < (12289 : Int32)
                    · refine own_by (V := T12.setTop (mkF m 152 #[.val (.int p0), .unset] [])) (fun t k => XS.icmpYes X12.here hx rfl (pc0 := 143) (pc' := 152) rfl (hb hby own_d_prog_199_7_143) rfl (tlt hb143_19).1 (by decide) (by decide) k) ?_
                      exact J13 T12 _  (X12.more (by decide) (by decide)) e12 N12 (by (try simp only [Int32.lt_iff_toInt_lt, ← Int32.toInt_inj, own_neg1, Int32.reduceToInt] at hb143_19); omega)
                    · refine own_by (V := T12.setTop (mkF m 146 #[.val (.int p0), .unset] [])) (fun t k => XS.icmpNo X12.here hx rfl (hb hby own_d_prog_199_7_143) rfl (flt hb143_19).1 k) ?_
                      refine own_by (V := T12.setTop (mkF m 147 #[.val (.int p0), .unset] [(.int p0)])) (fun t k => XS.iloadN X12.here hx rfl (hb hby own_d_prog_199_7_146) rfl  k) ?_
                      refine own_by (V := T12.setTop (mkF m 149 #[.val (.int p0), .unset] [(.int (56191 : Int32)), (.int p0)])) (Jvm.Stand.ldcInt X12 hx hown (mvT hZ (hw _ (List.mem_of_getElem? (i := 21) rfl))) (g := (mkF m 147 #[.val (.int p0), .unset] [(.int p0)])) rfl (hb hby own_d_prog_199_7_147)) ?_
                      by_cases hb149_20 : (56191 : Int32) < p0
                      · refine own_by (V := T12.setTop (mkF m 152 #[.val (.int p0), .unset] [])) (fun t k => XS.icmpNo X12.here hx rfl (hb hby own_d_prog_199_7_149) rfl (tlt hb149_20).2.2.2 k) ?_
                        exact J13 T12 _  (X12.more (by decide) (by decide)) e12 N12 (by (try simp only [Int32.lt_iff_toInt_lt, ← Int32.toInt_inj, own_neg1, Int32.reduceToInt] at hb143_19); (try simp only [Int32.lt_iff_toInt_lt, ← Int32.toInt_inj, own_neg1, Int32.reduceToInt] at hb149_20); omega)
                      · refine own_by (V := T12.setTop (mkF m 176 #[.val (.int p0), .unset] [])) (fun t k => XS.icmpYes X12.here hx rfl (pc0 := 149) (pc' := 176) rfl (hb hby own_d_prog_199_7_149) rfl (flt hb149_20).2.2.2 (by decide) (by decide) k) ?_
                        refine own_by (V := T12.setTop (mkF m 177 #[.val (.int p0), .unset] [(.int (1 : Int32))])) (fun t k => XS.iconst X12.here hx rfl (hb hby own_d_prog_199_7_176) k) ?_
                        refine own_by (V := T12.setTop (mkF m 181 #[.val (.int p0), .unset] [(.int (1 : Int32))])) (fun t k => XS.goto X12.here hx rfl (pc0 := 177) (pc' := 181) rfl (hb hby own_d_prog_199_7_177) (by decide) (by decide) k) ?_
                        refine own_by (V := T12.setTop (mkF m 182 #[.val (.int p0), .val (.int (1 : Int32))] [])) (fun t k => XS.istoreN X12.here hx rfl (hb hby own_d_prog_199_7_181) rfl (l' := #[.val (.int p0), .val (.int (1 : Int32))]) rfl k) ?_
                        refine own_by (V := T12.setTop (mkF m 183 #[.val (.int p0), .val (.int (1 : Int32))] [(.int (1 : Int32))])) (fun t k => XS.iloadN X12.here hx rfl (hb hby own_d_prog_199_7_182) rfl  k) ?_
                        refine own_retN X12 hx hlk e12 Bd.returns (t := .boolean) (by simp) rfl (hb hby own_d_prog_199_7_183) ?_ (by decide) (by decide)
                        exact ⟨congrArg (fun z => some (Value.int z)) (show (1 : Int32) = (own_ns p0) from by ((try simp only [Int32.lt_iff_toInt_lt, ← Int32.toInt_inj, own_neg1, Int32.reduceToInt] at hb143_19); (try simp only [Int32.lt_iff_toInt_lt, ← Int32.toInt_inj, own_neg1, Int32.reduceToInt] at hb149_20); exact (if_pos (by omega)).symm)), N12, rfl⟩
                  by_cases hb129_21 : p0 < (11264 : Int32)
                  · refine own_by (V := T11.setTop (mkF m 139 #[.val (.int p0), .unset] [])) (fun t k => XS.icmpYes X11.here hx rfl (pc0 := 129) (pc' := 139) rfl (hb hby own_d_prog_199_7_129) rfl (tlt hb129_21).1 (by decide) (by decide) k) ?_
                    exact J12 T11 _  (X11.more (by decide) (by decide)) e11 N11 (by (try simp only [Int32.lt_iff_toInt_lt, ← Int32.toInt_inj, own_neg1, Int32.reduceToInt] at hb129_21); omega)
                  · refine own_by (V := T11.setTop (mkF m 132 #[.val (.int p0), .unset] [])) (fun t k => XS.icmpNo X11.here hx rfl (hb hby own_d_prog_199_7_129) rfl (flt hb129_21).1 k) ?_
                    refine own_by (V := T11.setTop (mkF m 133 #[.val (.int p0), .unset] [(.int p0)])) (fun t k => XS.iloadN X11.here hx rfl (hb hby own_d_prog_199_7_132) rfl  k) ?_
                    refine own_by (V := T11.setTop (mkF m 136 #[.val (.int p0), .unset] [(.int (12271 : Int32)), (.int p0)])) (fun t k => XS.sipush X11.here hx rfl (hb hby own_d_prog_199_7_133) k) ?_
                    by_cases hb136_22 : (12271 : Int32) < p0
                    · refine own_by (V := T11.setTop (mkF m 139 #[.val (.int p0), .unset] [])) (fun t k => XS.icmpNo X11.here hx rfl (hb hby own_d_prog_199_7_136) rfl (tlt hb136_22).2.2.2 k) ?_
                      exact J12 T11 _  (X11.more (by decide) (by decide)) e11 N11 (by (try simp only [Int32.lt_iff_toInt_lt, ← Int32.toInt_inj, own_neg1, Int32.reduceToInt] at hb129_21); (try simp only [Int32.lt_iff_toInt_lt, ← Int32.toInt_inj, own_neg1, Int32.reduceToInt] at hb136_22); omega)
                    · refine own_by (V := T11.setTop (mkF m 176 #[.val (.int p0), .unset] [])) (fun t k => XS.icmpYes X11.here hx rfl (pc0 := 136) (pc' := 176) rfl (hb hby own_d_prog_199_7_136) rfl (flt hb136_22).2.2.2 (by decide) (by decide) k) ?_
                      refine own_by (V := T11.setTop (mkF m 177 #[.val (.int p0), .unset] [(.int (1 : Int32))])) (fun t k => XS.iconst X11.here hx rfl (hb hby own_d_prog_199_7_176) k) ?_
                      refine own_by (V := T11.setTop (mkF m 181 #[.val (.int p0), .unset] [(.int (1 : Int32))])) (fun t k => XS.goto X11.here hx rfl (pc0 := 177) (pc' := 181) rfl (hb hby own_d_prog_199_7_177) (by decide) (by decide) k) ?_
                      refine own_by (V := T11.setTop (mkF m 182 #[.val (.int p0), .val (.int (1 : Int32))] [])) (fun t k => XS.istoreN X11.here hx rfl (hb hby own_d_prog_199_7_181) rfl (l' := #[.val (.int p0), .val (.int (1 : Int32))]) rfl k) ?_
                      refine own_by (V := T11.setTop (mkF m 183 #[.val (.int p0), .val (.int (1 : Int32))] [(.int (1 : Int32))])) (fun t k => XS.iloadN X11.here hx rfl (hb hby own_d_prog_199_7_182) rfl  k) ?_
                      refine own_retN X11 hx hlk e11 Bd.returns (t := .boolean) (by simp) rfl (hb hby own_d_prog_199_7_183) ?_ (by decide) (by decide)
                      exact ⟨congrArg (fun z => some (Value.int z)) (show (1 : Int32) = (own_ns p0) from by ((try simp only [Int32.lt_iff_toInt_lt, ← Int32.toInt_inj, own_neg1, Int32.reduceToInt] at hb129_21); (try simp only [Int32.lt_iff_toInt_lt, ← Int32.toInt_inj, own_neg1, Int32.reduceToInt] at hb136_22); exact (if_pos (by omega)).symm)), N11, rfl⟩
                by_cases hb115_23 : p0 < (8304 : Int32)
                · refine own_by (V := T10.setTop (mkF m 125 #[.val (.int p0), .unset] [])) (fun t k => XS.icmpYes X10.here hx rfl (pc0 := 115) (pc' := 125) rfl (hb hby own_d_prog_199_7_115) rfl (tlt hb115_23).1 (by decide) (by decide) k) ?_
                  exact J11 T10 _  (X10.more (by decide) (by decide)) e10 N10 (by (try simp only [Int32.lt_iff_toInt_lt, ← Int32.toInt_inj, own_neg1, Int32.reduceToInt] at hb115_23); omega)
                · refine own_by (V := T10.setTop (mkF m 118 #[.val (.int p0), .unset] [])) (fun t k => XS.icmpNo X10.here hx rfl (hb hby own_d_prog_199_7_115) rfl (flt hb115_23).1 k) ?_
                  refine own_by (V := T10.setTop (mkF m 119 #[.val (.int p0), .unset] [(.int p0)])) (fun t k => XS.iloadN X10.here hx rfl (hb hby own_d_prog_199_7_118) rfl  k) ?_
                  refine own_by (V := T10.setTop (mkF m 122 #[.val (.int p0), .unset] [(.int (8591 : Int32)), (.int p0)])) (fun t k => XS.sipush X10.here hx rfl (hb hby own_d_prog_199_7_119) k) ?_
                  by_cases hb122_24 : (8591 : Int32) < p0
                  · refine own_by (V := T10.setTop (mkF m 125 #[.val (.int p0), .unset] [])) (fun t k => XS.icmpNo X10.here hx rfl (hb hby own_d_prog_199_7_122) rfl (tlt hb122_24).2.2.2 k) ?_
                    exact J11 T10 _  (X10.more (by decide) (by decide)) e10 N10 (by (try simp only [Int32.lt_iff_toInt_lt, ← Int32.toInt_inj, own_neg1, Int32.reduceToInt] at hb115_23); (try simp only [Int32.lt_iff_toInt_lt, ← Int32.toInt_inj, own_neg1, Int32.reduceToInt] at hb122_24); omega)
                  · refine own_by (V := T10.setTop (mkF m 176 #[.val (.int p0), .unset] [])) (fun t k => XS.icmpYes X10.here hx rfl (pc0 := 122) (pc' := 176) rfl (hb hby own_d_prog_199_7_122) rfl (flt hb122_24).2.2.2 (by decide) (by decide) k) ?_
                    refine own_by (V := T10.setTop (mkF m 177 #[.val (.int p0), .unset] [(.int (1 : Int32))])) (fun t k => XS.iconst X10.here hx rfl (hb hby own_d_prog_199_7_176) k) ?_
                    refine own_by (V := T10.setTop (mkF m 181 #[.val (.int p0), .unset] [(.int (1 : Int32))])) (fun t k => XS.goto X10.here hx rfl (pc0 := 177) (pc' := 181) rfl (hb hby own_d_prog_199_7_177) (by decide) (by decide) k) ?_
                    refine own_by (V := T10.setTop (mkF m 182 #[.val (.int p0), .val (.int (1 : Int32))] [])) (fun t k => XS.istoreN X10.here hx rfl (hb hby own_d_prog_199_7_181) rfl (l' := #[.val (.int p0), .val (.int (1 : Int32))]) rfl k) ?_
                    refine own_by (V := T10.setTop (mkF m 183 #[.val (.int p0), .val (.int (1 : Int32))] [(.int (1 : Int32))])) (fun t k => XS.iloadN X10.here hx rfl (hb hby own_d_prog_199_7_182) rfl  k) ?_
                    refine own_retN X10 hx hlk e10 Bd.returns (t := .boolean) (by simp) rfl (hb hby own_d_prog_199_7_183) ?_ (by decide) (by decide)
                    exact ⟨congrArg (fun z => some (Value.int z)) (show (1 : Int32) = (own_ns p0) from by ((try simp only [Int32.lt_iff_toInt_lt, ← Int32.toInt_inj, own_neg1, Int32.reduceToInt] at hb115_23); (try simp only [Int32.lt_iff_toInt_lt, ← Int32.toInt_inj, own_neg1, Int32.reduceToInt] at hb122_24); exact (if_pos (by omega)).symm)), N10, rfl⟩
              by_cases hb101_25 : p0 = (8204 : Int32)
              · refine own_by (V := T9.setTop (mkF m 176 #[.val (.int p0), .unset] [])) (fun t k => XS.icmpYes X9.here hx rfl (pc0 := 101) (pc' := 176) rfl (hb hby own_d_prog_199_7_101) rfl (teq hb101_25).1 (by decide) (by decide) k) ?_
                refine own_by (V := T9.setTop (mkF m 177 #[.val (.int p0), .unset] [(.int (1 : Int32))])) (fun t k => XS.iconst X9.here hx rfl (hb hby own_d_prog_199_7_176) k) ?_
                refine own_by (V := T9.setTop (mkF m 181 #[.val (.int p0), .unset] [(.int (1 : Int32))])) (fun t k => XS.goto X9.here hx rfl (pc0 := 177) (pc' := 181) rfl (hb hby own_d_prog_199_7_177) (by decide) (by decide) k) ?_
                refine own_by (V := T9.setTop (mkF m 182 #[.val (.int p0), .val (.int (1 : Int32))] [])) (fun t k => XS.istoreN X9.here hx rfl (hb hby own_d_prog_199_7_181) rfl (l' := #[.val (.int p0), .val (.int (1 : Int32))]) rfl k) ?_
                refine own_by (V := T9.setTop (mkF m 183 #[.val (.int p0), .val (.int (1 : Int32))] [(.int (1 : Int32))])) (fun t k => XS.iloadN X9.here hx rfl (hb hby own_d_prog_199_7_182) rfl  k) ?_
                refine own_retN X9 hx hlk e9 Bd.returns (t := .boolean) (by simp) rfl (hb hby own_d_prog_199_7_183) ?_ (by decide) (by decide)
                exact ⟨congrArg (fun z => some (Value.int z)) (show (1 : Int32) = (own_ns p0) from by ((try simp only [Int32.lt_iff_toInt_lt, ← Int32.toInt_inj, own_neg1, Int32.reduceToInt] at hb101_25); exact (if_pos (by omega)).symm)), N9, rfl⟩
              · refine own_by (V := T9.setTop (mkF m 104 #[.val (.int p0), .unset] [])) (fun t k => XS.icmpNo X9.here hx rfl (hb hby own_d_prog_199_7_101) rfl (feq hb101_25).1 k) ?_
                refine own_by (V := T9.setTop (mkF m 105 #[.val (.int p0), .unset] [(.int p0)])) (fun t k => XS.iloadN X9.here hx rfl (hb hby own_d_prog_199_7_104) rfl  k) ?_
                refine own_by (V := T9.setTop (mkF m 108 #[.val (.int p0), .unset] [(.int (8205 : Int32)), (.int p0)])) (fun t k => XS.sipush X9.here hx rfl (hb hby own_d_prog_199_7_105) k) ?_
                by_cases hb108_26 : p0 = (8205 : Int32)
                · refine own_by (V := T9.setTop (mkF m 176 #[.val (.int p0), .unset] [])) (fun t k => XS.icmpYes X9.here hx rfl (pc0 := 108) (pc' := 176) rfl (hb hby own_d_prog_199_7_108) rfl (teq hb108_26).1 (by decide) (by decide) k) ?_
                  refine own_by (V := T9.setTop (mkF m 177 #[.val (.int p0), .unset] [(.int (1 : Int32))])) (fun t k => XS.iconst X9.here hx rfl (hb hby own_d_prog_199_7_176) k) ?_
                  refine own_by (V := T9.setTop (mkF m 181 #[.val (.int p0), .unset] [(.int (1 : Int32))])) (fun t k => XS.goto X9.here hx rfl (pc0 := 177) (pc' := 181) rfl (hb hby own_d_prog_199_7_177) (by decide) (by decide) k) ?_
                  refine own_by (V := T9.setTop (mkF m 182 #[.val (.int p0), .val (.int (1 : Int32))] [])) (fun t k => XS.istoreN X9.here hx rfl (hb hby own_d_prog_199_7_181) rfl (l' := #[.val (.int p0), .val (.int (1 : Int32))]) rfl k) ?_
                  refine own_by (V := T9.setTop (mkF m 183 #[.val (.int p0), .val (.int (1 : Int32))] [(.int (1 : Int32))])) (fun t k => XS.iloadN X9.here hx rfl (hb hby own_d_prog_199_7_182) rfl  k) ?_
                  refine own_retN X9 hx hlk e9 Bd.returns (t := .boolean) (by simp) rfl (hb hby own_d_prog_199_7_183) ?_ (by decide) (by decide)
                  exact ⟨congrArg (fun z => some (Value.int z)) (show (1 : Int32) = (own_ns p0) from by ((try simp only [Int32.lt_iff_toInt_lt, ← Int32.toInt_inj, own_neg1, Int32.reduceToInt] at hb101_25); (try simp only [Int32.lt_iff_toInt_lt, ← Int32.toInt_inj, own_neg1, Int32.reduceToInt] at hb108_26); exact (if_pos (by omega)).symm)), N9, rfl⟩
                · refine own_by (V := T9.setTop (mkF m 111 #[.val (.int p0), .unset] [])) (fun t k => XS.icmpNo X9.here hx rfl (hb hby own_d_prog_199_7_108) rfl (feq hb108_26).1 k) ?_
                  exact J10 T9 _  (X9.more (by decide) (by decide)) e9 N9 (by (try simp only [Int32.lt_iff_toInt_lt, ← Int32.toInt_inj, own_neg1, Int32.reduceToInt] at hb101_25); (try simp only [Int32.lt_iff_toInt_lt, ← Int32.toInt_inj, own_neg1, Int32.reduceToInt] at hb108_26); omega)
            by_cases hb87_27 : p0 < (895 : Int32)
            · refine own_by (V := T8.setTop (mkF m 97 #[.val (.int p0), .unset] [])) (fun t k => XS.icmpYes X8.here hx rfl (pc0 := 87) (pc' := 97) rfl (hb hby own_d_prog_199_7_87) rfl (tlt hb87_27).1 (by decide) (by decide) k) ?_
              exact J9 T8 _  (X8.more (by decide) (by decide)) e8 N8 (by (try simp only [Int32.lt_iff_toInt_lt, ← Int32.toInt_inj, own_neg1, Int32.reduceToInt] at hb87_27); omega)
            · refine own_by (V := T8.setTop (mkF m 90 #[.val (.int p0), .unset] [])) (fun t k => XS.icmpNo X8.here hx rfl (hb hby own_d_prog_199_7_87) rfl (flt hb87_27).1 k) ?_
              refine own_by (V := T8.setTop (mkF m 91 #[.val (.int p0), .unset] [(.int p0)])) (fun t k => XS.iloadN X8.here hx rfl (hb hby own_d_prog_199_7_90) rfl  k) ?_
              refine own_by (V := T8.setTop (mkF m 94 #[.val (.int p0), .unset] [(.int (8191 : Int32)), (.int p0)])) (fun t k => XS.sipush X8.here hx rfl (hb hby own_d_prog_199_7_91) k) ?_
              by_cases hb94_28 : (8191 : Int32) < p0
              · refine own_by (V := T8.setTop (mkF m 97 #[.val (.int p0), .unset] [])) (fun t k => XS.icmpNo X8.here hx rfl (hb hby own_d_prog_199_7_94) rfl (tlt hb94_28).2.2.2 k) ?_
                exact J9 T8 _  (X8.more (by decide) (by decide)) e8 N8 (by (try simp only [Int32.lt_iff_toInt_lt, ← Int32.toInt_inj, own_neg1, Int32.reduceToInt] at hb87_27); (try simp only [Int32.lt_iff_toInt_lt, ← Int32.toInt_inj, own_neg1, Int32.reduceToInt] at hb94_28); omega)
              · refine own_by (V := T8.setTop (mkF m 176 #[.val (.int p0), .unset] [])) (fun t k => XS.icmpYes X8.here hx rfl (pc0 := 94) (pc' := 176) rfl (hb hby own_d_prog_199_7_94) rfl (flt hb94_28).2.2.2 (by decide) (by decide) k) ?_
                refine own_by (V := T8.setTop (mkF m 177 #[.val (.int p0), .unset] [(.int (1 : Int32))])) (fun t k => XS.iconst X8.here hx rfl (hb hby own_d_prog_199_7_176) k) ?_
                refine own_by (V := T8.setTop (mkF m 181 #[.val (.int p0), .unset] [(.int (1 : Int32))])) (fun t k => XS.goto X8.here hx rfl (pc0 := 177) (pc' := 181) rfl (hb hby own_d_prog_199_7_177) (by decide) (by decide) k) ?_
                refine own_by (V := T8.setTop (mkF m 182 #[.val (.int p0), .val (.int (1 : Int32))] [])) (fun t k => XS.istoreN X8.here hx rfl (hb hby own_d_prog_199_7_181) rfl (l' := #[.val (.int p0), .val (.int (1 : Int32))]) rfl k) ?_
                refine own_by (V := T8.setTop (mkF m 183 #[.val (.int p0), .val (.int (1 : Int32))] [(.int (1 : Int32))])) (fun t k => XS.iloadN X8.here hx rfl (hb hby own_d_prog_199_7_182) rfl  k) ?_
                refine own_retN X8 hx hlk e8 Bd.returns (t := .boolean) (by simp) rfl (hb hby own_d_prog_199_7_183) ?_ (by decide) (by decide)
                exact ⟨congrArg (fun z => some (Value.int z)) (show (1 : Int32) = (own_ns p0) from by ((try simp only [Int32.lt_iff_toInt_lt, ← Int32.toInt_inj, own_neg1, Int32.reduceToInt] at hb87_27); (try simp only [Int32.lt_iff_toInt_lt, ← Int32.toInt_inj, own_neg1, Int32.reduceToInt] at hb94_28); exact (if_pos (by omega)).symm)), N8, rfl⟩
          by_cases hb73_29 : p0 < (880 : Int32)
          · refine own_by (V := T7.setTop (mkF m 83 #[.val (.int p0), .unset] [])) (fun t k => XS.icmpYes X7.here hx rfl (pc0 := 73) (pc' := 83) rfl (hb hby own_d_prog_199_7_73) rfl (tlt hb73_29).1 (by decide) (by decide) k) ?_
            exact J8 T7 _  (X7.more (by decide) (by decide)) e7 N7 (by (try simp only [Int32.lt_iff_toInt_lt, ← Int32.toInt_inj, own_neg1, Int32.reduceToInt] at hb73_29); omega)
          · refine own_by (V := T7.setTop (mkF m 76 #[.val (.int p0), .unset] [])) (fun t k => XS.icmpNo X7.here hx rfl (hb hby own_d_prog_199_7_73) rfl (flt hb73_29).1 k) ?_
            refine own_by (V := T7.setTop (mkF m 77 #[.val (.int p0), .unset] [(.int p0)])) (fun t k => XS.iloadN X7.here hx rfl (hb hby own_d_prog_199_7_76) rfl  k) ?_
            refine own_by (V := T7.setTop (mkF m 80 #[.val (.int p0), .unset] [(.int (893 : Int32)), (.int p0)])) (fun t k => XS.sipush X7.here hx rfl (hb hby own_d_prog_199_7_77) k) ?_
            by_cases hb80_30 : (893 : Int32) < p0
            · refine own_by (V := T7.setTop (mkF m 83 #[.val (.int p0), .unset] [])) (fun t k => XS.icmpNo X7.here hx rfl (hb hby own_d_prog_199_7_80) rfl (tlt hb80_30).2.2.2 k) ?_
              exact J8 T7 _  (X7.more (by decide) (by decide)) e7 N7 (by (try simp only [Int32.lt_iff_toInt_lt, ← Int32.toInt_inj, own_neg1, Int32.reduceToInt] at hb73_29); (try simp only [Int32.lt_iff_toInt_lt, ← Int32.toInt_inj, own_neg1, Int32.reduceToInt] at hb80_30); omega)
            · refine own_by (V := T7.setTop (mkF m 176 #[.val (.int p0), .unset] [])) (fun t k => XS.icmpYes X7.here hx rfl (pc0 := 80) (pc' := 176) rfl (hb hby own_d_prog_199_7_80) rfl (flt hb80_30).2.2.2 (by decide) (by decide) k) ?_
              refine own_by (V := T7.setTop (mkF m 177 #[.val (.int p0), .unset] [(.int (1 : Int32))])) (fun t k => XS.iconst X7.here hx rfl (hb hby own_d_prog_199_7_176) k) ?_
              refine own_by (V := T7.setTop (mkF m 181 #[.val (.int p0), .unset] [(.int (1 : Int32))])) (fun t k => XS.goto X7.here hx rfl (pc0 := 177) (pc' := 181) rfl (hb hby own_d_prog_199_7_177) (by decide) (by decide) k) ?_
              refine own_by (V := T7.setTop (mkF m 182 #[.val (.int p0), .val (.int (1 : Int32))] [])) (fun t k => XS.istoreN X7.here hx rfl (hb hby own_d_prog_199_7_181) rfl (l' := #[.val (.int p0), .val (.int (1 : Int32))]) rfl k) ?_
              refine own_by (V := T7.setTop (mkF m 183 #[.val (.int p0), .val (.int (1 : Int32))] [(.int (1 : Int32))])) (fun t k => XS.iloadN X7.here hx rfl (hb hby own_d_prog_199_7_182) rfl  k) ?_
              refine own_retN X7 hx hlk e7 Bd.returns (t := .boolean) (by simp) rfl (hb hby own_d_prog_199_7_183) ?_ (by decide) (by decide)
              exact ⟨congrArg (fun z => some (Value.int z)) (show (1 : Int32) = (own_ns p0) from by ((try simp only [Int32.lt_iff_toInt_lt, ← Int32.toInt_inj, own_neg1, Int32.reduceToInt] at hb73_29); (try simp only [Int32.lt_iff_toInt_lt, ← Int32.toInt_inj, own_neg1, Int32.reduceToInt] at hb80_30); exact (if_pos (by omega)).symm)), N7, rfl⟩
        by_cases hb59_31 : p0 < (248 : Int32)
        · refine own_by (V := T6.setTop (mkF m 69 #[.val (.int p0), .unset] [])) (fun t k => XS.icmpYes X6.here hx rfl (pc0 := 59) (pc' := 69) rfl (hb hby own_d_prog_199_7_59) rfl (tlt hb59_31).1 (by decide) (by decide) k) ?_
          exact J7 T6 _  (X6.more (by decide) (by decide)) e6 N6 (by (try simp only [Int32.lt_iff_toInt_lt, ← Int32.toInt_inj, own_neg1, Int32.reduceToInt] at hb59_31); omega)
        · refine own_by (V := T6.setTop (mkF m 62 #[.val (.int p0), .unset] [])) (fun t k => XS.icmpNo X6.here hx rfl (hb hby own_d_prog_199_7_59) rfl (flt hb59_31).1 k) ?_
          refine own_by (V := T6.setTop (mkF m 63 #[.val (.int p0), .unset] [(.int p0)])) (fun t k => XS.iloadN X6.here hx rfl (hb hby own_d_prog_199_7_62) rfl  k) ?_
          refine own_by (V := T6.setTop (mkF m 66 #[.val (.int p0), .unset] [(.int (767 : Int32)), (.int p0)])) (fun t k => XS.sipush X6.here hx rfl (hb hby own_d_prog_199_7_63) k) ?_
          by_cases hb66_32 : (767 : Int32) < p0
          · refine own_by (V := T6.setTop (mkF m 69 #[.val (.int p0), .unset] [])) (fun t k => XS.icmpNo X6.here hx rfl (hb hby own_d_prog_199_7_66) rfl (tlt hb66_32).2.2.2 k) ?_
            exact J7 T6 _  (X6.more (by decide) (by decide)) e6 N6 (by (try simp only [Int32.lt_iff_toInt_lt, ← Int32.toInt_inj, own_neg1, Int32.reduceToInt] at hb59_31); (try simp only [Int32.lt_iff_toInt_lt, ← Int32.toInt_inj, own_neg1, Int32.reduceToInt] at hb66_32); omega)
          · refine own_by (V := T6.setTop (mkF m 176 #[.val (.int p0), .unset] [])) (fun t k => XS.icmpYes X6.here hx rfl (pc0 := 66) (pc' := 176) rfl (hb hby own_d_prog_199_7_66) rfl (flt hb66_32).2.2.2 (by decide) (by decide) k) ?_
            refine own_by (V := T6.setTop (mkF m 177 #[.val (.int p0), .unset] [(.int (1 : Int32))])) (fun t k => XS.iconst X6.here hx rfl (hb hby own_d_prog_199_7_176) k) ?_
            refine own_by (V := T6.setTop (mkF m 181 #[.val (.int p0), .unset] [(.int (1 : Int32))])) (fun t k => XS.goto X6.here hx rfl (pc0 := 177) (pc' := 181) rfl (hb hby own_d_prog_199_7_177) (by decide) (by decide) k) ?_
            refine own_by (V := T6.setTop (mkF m 182 #[.val (.int p0), .val (.int (1 : Int32))] [])) (fun t k => XS.istoreN X6.here hx rfl (hb hby own_d_prog_199_7_181) rfl (l' := #[.val (.int p0), .val (.int (1 : Int32))]) rfl k) ?_
            refine own_by (V := T6.setTop (mkF m 183 #[.val (.int p0), .val (.int (1 : Int32))] [(.int (1 : Int32))])) (fun t k => XS.iloadN X6.here hx rfl (hb hby own_d_prog_199_7_182) rfl  k) ?_
            refine own_retN X6 hx hlk e6 Bd.returns (t := .boolean) (by simp) rfl (hb hby own_d_prog_199_7_183) ?_ (by decide) (by decide)
            exact ⟨congrArg (fun z => some (Value.int z)) (show (1 : Int32) = (own_ns p0) from by ((try simp only [Int32.lt_iff_toInt_lt, ← Int32.toInt_inj, own_neg1, Int32.reduceToInt] at hb59_31); (try simp only [Int32.lt_iff_toInt_lt, ← Int32.toInt_inj, own_neg1, Int32.reduceToInt] at hb66_32); exact (if_pos (by omega)).symm)), N6, rfl⟩
      by_cases hb45_33 : p0 < (216 : Int32)
      · refine own_by (V := T5.setTop (mkF m 55 #[.val (.int p0), .unset] [])) (fun t k => XS.icmpYes X5.here hx rfl (pc0 := 45) (pc' := 55) rfl (hb hby own_d_prog_199_7_45) rfl (tlt hb45_33).1 (by decide) (by decide) k) ?_
        exact J6 T5 _  (X5.more (by decide) (by decide)) e5 N5 (by (try simp only [Int32.lt_iff_toInt_lt, ← Int32.toInt_inj, own_neg1, Int32.reduceToInt] at hb45_33); omega)
      · refine own_by (V := T5.setTop (mkF m 48 #[.val (.int p0), .unset] [])) (fun t k => XS.icmpNo X5.here hx rfl (hb hby own_d_prog_199_7_45) rfl (flt hb45_33).1 k) ?_
        refine own_by (V := T5.setTop (mkF m 49 #[.val (.int p0), .unset] [(.int p0)])) (fun t k => XS.iloadN X5.here hx rfl (hb hby own_d_prog_199_7_48) rfl  k) ?_
        refine own_by (V := T5.setTop (mkF m 52 #[.val (.int p0), .unset] [(.int (246 : Int32)), (.int p0)])) (fun t k => XS.sipush X5.here hx rfl (hb hby own_d_prog_199_7_49) k) ?_
        by_cases hb52_34 : (246 : Int32) < p0
        · refine own_by (V := T5.setTop (mkF m 55 #[.val (.int p0), .unset] [])) (fun t k => XS.icmpNo X5.here hx rfl (hb hby own_d_prog_199_7_52) rfl (tlt hb52_34).2.2.2 k) ?_
          exact J6 T5 _  (X5.more (by decide) (by decide)) e5 N5 (by (try simp only [Int32.lt_iff_toInt_lt, ← Int32.toInt_inj, own_neg1, Int32.reduceToInt] at hb45_33); (try simp only [Int32.lt_iff_toInt_lt, ← Int32.toInt_inj, own_neg1, Int32.reduceToInt] at hb52_34); omega)
        · refine own_by (V := T5.setTop (mkF m 176 #[.val (.int p0), .unset] [])) (fun t k => XS.icmpYes X5.here hx rfl (pc0 := 52) (pc' := 176) rfl (hb hby own_d_prog_199_7_52) rfl (flt hb52_34).2.2.2 (by decide) (by decide) k) ?_
          refine own_by (V := T5.setTop (mkF m 177 #[.val (.int p0), .unset] [(.int (1 : Int32))])) (fun t k => XS.iconst X5.here hx rfl (hb hby own_d_prog_199_7_176) k) ?_
          refine own_by (V := T5.setTop (mkF m 181 #[.val (.int p0), .unset] [(.int (1 : Int32))])) (fun t k => XS.goto X5.here hx rfl (pc0 := 177) (pc' := 181) rfl (hb hby own_d_prog_199_7_177) (by decide) (by decide) k) ?_
          refine own_by (V := T5.setTop (mkF m 182 #[.val (.int p0), .val (.int (1 : Int32))] [])) (fun t k => XS.istoreN X5.here hx rfl (hb hby own_d_prog_199_7_181) rfl (l' := #[.val (.int p0), .val (.int (1 : Int32))]) rfl k) ?_
          refine own_by (V := T5.setTop (mkF m 183 #[.val (.int p0), .val (.int (1 : Int32))] [(.int (1 : Int32))])) (fun t k => XS.iloadN X5.here hx rfl (hb hby own_d_prog_199_7_182) rfl  k) ?_
          refine own_retN X5 hx hlk e5 Bd.returns (t := .boolean) (by simp) rfl (hb hby own_d_prog_199_7_183) ?_ (by decide) (by decide)
          exact ⟨congrArg (fun z => some (Value.int z)) (show (1 : Int32) = (own_ns p0) from by ((try simp only [Int32.lt_iff_toInt_lt, ← Int32.toInt_inj, own_neg1, Int32.reduceToInt] at hb45_33); (try simp only [Int32.lt_iff_toInt_lt, ← Int32.toInt_inj, own_neg1, Int32.reduceToInt] at hb52_34); exact (if_pos (by omega)).symm)), N5, rfl⟩
    by_cases hb31_35 : p0 < (192 : Int32)
    · refine own_by (V := T1.setTop (mkF m 41 #[.val (.int p0), .unset] [])) (fun t k => XS.icmpYes X1.here hx rfl (pc0 := 31) (pc' := 41) rfl (hb hby own_d_prog_199_7_31) rfl (tlt hb31_35).1 (by decide) (by decide) k) ?_
      exact J5 T1 _  (X1.more (by decide) (by decide)) e1 N0 (by (try simp only [Int32.lt_iff_toInt_lt, ← Int32.toInt_inj, own_neg1, Int32.reduceToInt] at hb31_35); omega)
    · refine own_by (V := T1.setTop (mkF m 34 #[.val (.int p0), .unset] [])) (fun t k => XS.icmpNo X1.here hx rfl (hb hby own_d_prog_199_7_31) rfl (flt hb31_35).1 k) ?_
      refine own_by (V := T1.setTop (mkF m 35 #[.val (.int p0), .unset] [(.int p0)])) (fun t k => XS.iloadN X1.here hx rfl (hb hby own_d_prog_199_7_34) rfl  k) ?_
      refine own_by (V := T1.setTop (mkF m 38 #[.val (.int p0), .unset] [(.int (214 : Int32)), (.int p0)])) (fun t k => XS.sipush X1.here hx rfl (hb hby own_d_prog_199_7_35) k) ?_
      by_cases hb38_36 : (214 : Int32) < p0
      · refine own_by (V := T1.setTop (mkF m 41 #[.val (.int p0), .unset] [])) (fun t k => XS.icmpNo X1.here hx rfl (hb hby own_d_prog_199_7_38) rfl (tlt hb38_36).2.2.2 k) ?_
        exact J5 T1 _  (X1.more (by decide) (by decide)) e1 N0 (by (try simp only [Int32.lt_iff_toInt_lt, ← Int32.toInt_inj, own_neg1, Int32.reduceToInt] at hb31_35); (try simp only [Int32.lt_iff_toInt_lt, ← Int32.toInt_inj, own_neg1, Int32.reduceToInt] at hb38_36); omega)
      · refine own_by (V := T1.setTop (mkF m 176 #[.val (.int p0), .unset] [])) (fun t k => XS.icmpYes X1.here hx rfl (pc0 := 38) (pc' := 176) rfl (hb hby own_d_prog_199_7_38) rfl (flt hb38_36).2.2.2 (by decide) (by decide) k) ?_
        refine own_by (V := T1.setTop (mkF m 177 #[.val (.int p0), .unset] [(.int (1 : Int32))])) (fun t k => XS.iconst X1.here hx rfl (hb hby own_d_prog_199_7_176) k) ?_
        refine own_by (V := T1.setTop (mkF m 181 #[.val (.int p0), .unset] [(.int (1 : Int32))])) (fun t k => XS.goto X1.here hx rfl (pc0 := 177) (pc' := 181) rfl (hb hby own_d_prog_199_7_177) (by decide) (by decide) k) ?_
        refine own_by (V := T1.setTop (mkF m 182 #[.val (.int p0), .val (.int (1 : Int32))] [])) (fun t k => XS.istoreN X1.here hx rfl (hb hby own_d_prog_199_7_181) rfl (l' := #[.val (.int p0), .val (.int (1 : Int32))]) rfl k) ?_
        refine own_by (V := T1.setTop (mkF m 183 #[.val (.int p0), .val (.int (1 : Int32))] [(.int (1 : Int32))])) (fun t k => XS.iloadN X1.here hx rfl (hb hby own_d_prog_199_7_182) rfl  k) ?_
        refine own_retN X1 hx hlk e1 Bd.returns (t := .boolean) (by simp) rfl (hb hby own_d_prog_199_7_183) ?_ (by decide) (by decide)
        exact ⟨congrArg (fun z => some (Value.int z)) (show (1 : Int32) = (own_ns p0) from by ((try simp only [Int32.lt_iff_toInt_lt, ← Int32.toInt_inj, own_neg1, Int32.reduceToInt] at hb31_35); (try simp only [Int32.lt_iff_toInt_lt, ← Int32.toInt_inj, own_neg1, Int32.reduceToInt] at hb38_36); exact (if_pos (by omega)).symm)), N0, rfl⟩
def own_Q_own_rm0 (Z : State) (p0 : Int32) (wA : Addr) (clA : Cell) (h0 : Heap) (n0 : Nat) : Option Value → Heap → List Loc → Prop := fun v h L => v = some (.int 1) ∧ Fr n0 L
theorem own_ef_own_rm0 (m : MethodId) (x0 : Int32) : entryFrame m #[(.int x0)] maxLocals = mkF m 0 #[.val (.int x0), .unset, .unset] [] := by first | (simp [entryFrame, mkF, argsToLocals, Value.category, maxLocals]; done) | rfl
set_option maxRecDepth 65536 in
set_option maxHeartbeats 40000000 in
theorem own_rm0 (l : Launch) (Z : State) (a0 : Array Value) (hw : ∀ d ∈ tables_1, d.before a0 Z = true) (ws : List Jvm.Cond) (p0 : Int32) (wA : Addr) (clA : Cell) (h0 : Heap) (n0 : Nat) (SA : Sta Z h0 "com/example/canox/canox/xml/XmlChars" "ASCII" "[B" (.ref wA)) (AA : Arr Z h0 wA clA .byte) (hlen : clA.slots.size.toInt32 = (128 : Int32)) (hel : ∀ j : Int32, ¬ j < 0 → j < (128 : Int32) → ∃ xv, ¬ (j < 0 ∨ clA.slots.size ≤ j.toNatClampNeg) ∧ clA.slots[j.toNatClampNeg]? = some (.int xv) ∧ ((xv &&& (1 : Int32)) = (0 : Int32) ↔ ¬ own_asc j)) :
    MetFree l x (head1 (Jvm.Cond.code x code maxLocals ret :: ws) room_1) (fun a U => a = #[(.int p0)] ∧ Z.Warmed39 U.vm ∧ U.heap = h0) (fun _ _ _ _ _ => True) (fun _ U o U' => ∃ v L, o = .returned v ∧ (own_Q_own_rm0 Z p0 wA clA h0 n0) v U'.heap L ∧ FrameEnd U o U' L room_1.cells room_1.slots) := by
  refine MetFree.of_bodySF (plainFor_of_name own_pn0) hisR ?_
  intro p e s m args below meth c s₁ Bd hml0 hP hK
  obtain ⟨rfl, hZ, hh⟩ := hP
  have hx := Bd.exec
  have hby := Bd.bytes
  have hml : c.maxLocals = 3 := hml0
  have hown : s.vm.findClass "com/example/canox/canox/xml/XmlCharsIsNameStartPinLaw" = some m.cls := findClass_of_methodNamed Bd.named
  have hnm := (name_of_methodNamed Bd.named Bd.method).1
  have hlk : meth.locks = false := BodyLoose.notSynchronized Bd
  have X0 : Stand p l e room_1 s m #[(.int p0)] below meth c s₁ [] 0 0 := Stand.of_body Bd
  have e0 : s₁.heap = h0 := by rw [← hh, Bd.state]; rfl
  have N0 := Fr.nil n0
  show own_Ends p e below s (own_Q_own_rm0 Z p0 wA clA h0 n0) room_1.cells room_1.slots _
  refine own_by (V := s₁.setTop (mkF m 0 #[.val (.int p0), .unset, .unset] [])) (fun t k => castTop (own_ef_own_rm0 m p0) k) ?_
  refine own_by (V := s₁.setTop (mkF m 1 #[.val (.int p0), .unset, .unset] [(.int p0)])) (fun t k => XS.iloadN X0.here hx rfl (hb hby at_0) rfl  k) ?_
  refine own_by (V := s₁.setTop (mkF m 3 #[.val (.int p0), .unset, .unset] [(.int (65535 : Int32)), (.int p0)])) (Jvm.Stand.ldcInt X0 hx hown (mvT hZ (hw _ (List.mem_of_getElem? (i := 0) rfl))) (g := (mkF m 1 #[.val (.int p0), .unset, .unset] [(.int p0)])) rfl (hb hby at_1)) ?_
  refine own_by (V := s₁.setTop (mkF m 4 #[.val (.int p0), .unset, .unset] [(.int (p0 &&& (65535 : Int32)))])) (fun t k => XS.iand X0.here hx rfl (hb hby at_3) rfl k) ?_
  refine own_by (V := s₁.setTop (mkF m 5 #[.val (.int p0), .unset, .unset] [(.int ((p0 &&& (65535 : Int32)).toUInt32.toUInt16.toUInt32.toInt32))])) (fun t k => XS.i2c X0.here hx rfl (hb hby at_4) rfl k) ?_
  obtain ⟨z1, hz1⟩ : ∃ z : Int32, z = ((p0 &&& (65535 : Int32)).toUInt32.toUInt16.toUInt32.toInt32) := ⟨_, rfl⟩
  rw [← hz1]
  refine own_by (V := s₁.setTop (mkF m 6 #[.val (.int p0), .val (.int z1), .unset] [])) (fun t k => XS.istoreN X0.here hx rfl (hb hby at_5) rfl (l' := #[.val (.int p0), .val (.int z1), .unset]) rfl k) ?_
  refine own_by (V := s₁.setTop (mkF m 7 #[.val (.int p0), .val (.int z1), .unset] [(.int z1)])) (fun t k => XS.iloadN X0.here hx rfl (hb hby at_6) rfl  k) ?_
  refine own_by (V := s₁.setTop (mkF m 8 #[.val (.int p0), .val (.int z1), .val (.int z1)] [])) (fun t k => XS.istoreN X0.here hx rfl (hb hby at_7) rfl (l' := #[.val (.int p0), .val (.int z1), .val (.int z1)]) rfl k) ?_
  refine own_by (V := s₁.setTop (mkF m 9 #[.val (.int p0), .val (.int z1), .val (.int z1)] [(.int z1)])) (fun t k => XS.iloadN X0.here hx rfl (hb hby at_8) rfl  k) ?_
  obtain ⟨_, _, ⟨T2, Lq2, kq2, nq2⟩, -, X2, ⟨Lc2, hQ2, lq2, yq2, zq2⟩, st2⟩ := Jvm.LawKit.callS X0 hx (y := (⟨"com/example/canox/canox/xml/XmlChars", "isNameStart", "(C)Z"⟩ : MethodName)) hown (mvT hZ (hw _ (List.mem_of_getElem? (i := 1) rfl))) (mvT hZ (hw _ (List.mem_of_getElem? (i := 2) rfl))) (mvT hZ (hw _ (List.mem_of_getElem? (i := 3) rfl))) (mvT hZ (hw _ (List.mem_of_getElem? (i := 4) rfl))) (by decide) (backOf (W := 0) (own_rm1 l Z a0 hw [] z1 wA clA h0 n0 SA AA hlen hel (by rw [hz1]; exact own_nnc _)) hZ (hw _ (List.mem_of_getElem? (i := 4) rfl)) (hw _ (List.mem_of_getElem? (i := 3) rfl)) (by decide) (by decide)) (g := (mkF m 9 #[.val (.int p0), .val (.int z1), .val (.int z1)] [(.int z1)])) rfl (by rw [hml]; rfl) (argsL := [(.int z1)]) (rest := []) (lenOf own_pd1 rfl) rfl (by show 2 * 0 + _ ≤ _; exact Nat.le_of_eq rfl) (hb hby at_9) (fun _ _ => ⟨rfl, e0, (by decide : 0 + 0 ≤ _), (by decide : 0 + 0 ≤ _)⟩)
  dsimp only [Pt.U, Pt.locs, Pt.cells, Pt.slots] at X2 lq2 yq2 zq2 st2 hQ2
  subst lq2 yq2 zq2
  obtain ⟨rfl, N2q, e2⟩ := hQ2
  have N2 := Fr.app N0 N2q
  refine own_by (V := T2.setTop (mkF m 12 #[.val (.int p0), .val (.int z1), .val (.int z1)] [(.int (own_ns z1))])) st2 ?_
  refine own_by (V := T2.setTop (mkF m 13 #[.val (.int p0), .val (.int z1), .val (.int z1)] [(.int z1), (.int (own_ns z1))])) (fun t k => XS.iloadN X2.here hx rfl (hb hby at_12) rfl  k) ?_
  obtain ⟨_, _, ⟨T3, Lq3, kq3, nq3⟩, -, X3, ⟨Lc3, hQ3, lq3, yq3, zq3⟩, st3⟩ := Jvm.LawKit.callS X2 hx (y := (⟨"com/example/canox/canox/xml/XmlCharsIsNameStartPinLaw", "expected", "(I)Z"⟩ : MethodName)) hown (mvT hZ (hw _ (List.mem_of_getElem? (i := 7) rfl))) (mvT hZ (hw _ (List.mem_of_getElem? (i := 8) rfl))) (mvT hZ (hw _ (List.mem_of_getElem? (i := 9) rfl))) (mvT hZ (hw _ (List.mem_of_getElem? (i := 10) rfl))) (by decide) (backOf (W := 1) (own_rm2 l Z a0 hw [] z1 h0 n0) hZ (hw _ (List.mem_of_getElem? (i := 10) rfl)) (hw _ (List.mem_of_getElem? (i := 9) rfl)) (by decide) (by decide)) (g := (mkF m 13 #[.val (.int p0), .val (.int z1), .val (.int z1)] [(.int z1), (.int (own_ns z1))])) rfl (by rw [hml]; rfl) (argsL := [(.int z1)]) (rest := [(.int (own_ns z1))]) (lenOf own_pd2 rfl) rfl (by show 2 * 0 + _ ≤ _; exact Nat.le_of_eq rfl) (hb hby at_13) (fun _ _ => ⟨rfl, e2, (by decide : 0 + 0 ≤ _), (by decide : 0 + 0 ≤ _)⟩)
  dsimp only [Pt.U, Pt.locs, Pt.cells, Pt.slots] at X3 lq3 yq3 zq3 st3 hQ3
  subst lq3 yq3 zq3
  obtain ⟨rfl, N3q, e3⟩ := hQ3
  have N3 := Fr.app N2 N3q
  refine own_by (V := T3.setTop (mkF m 16 #[.val (.int p0), .val (.int z1), .val (.int z1)] [(.int (own_ns z1)), (.int (own_ns z1))])) st3 ?_
  have hb16_4 : ((own_ns z1) = (own_ns z1)) := rfl
  refine own_by (V := T3.setTop (mkF m 19 #[.val (.int p0), .val (.int z1), .val (.int z1)] [])) (fun t k => XS.icmpNo X3.here hx rfl (hb hby at_16) rfl (teq hb16_4).2 k) ?_
  refine own_by (V := T3.setTop (mkF m 20 #[.val (.int p0), .val (.int z1), .val (.int z1)] [(.int (1 : Int32))])) (fun t k => XS.iconst X3.here hx rfl (hb hby at_19) k) ?_
  refine own_by (V := T3.setTop (mkF m 24 #[.val (.int p0), .val (.int z1), .val (.int z1)] [(.int (1 : Int32))])) (fun t k => XS.goto X3.here hx rfl (pc0 := 20) (pc' := 24) rfl (hb hby at_20) (by decide) (by decide) k) ?_
  refine own_retN X3 hx hlk e3 Bd.returns (t := .boolean) (by simp) rfl (hb hby at_24) ?_ (by decide) (by decide)
  exact ⟨rfl, N3⟩
set_option maxRecDepth 65536 in
set_option maxHeartbeats 40000000 in
theorem own_comes {Post : Tables → Env → Array Value → State → Outcome → State → Prop} (hpost : ∀ tb e args s v u, (limb_1_1.after args s (.returned v) u = true ∧ limb_1_2.after args s (.returned v) u = true ∧ True) → FrameEnd s (.returned v) u (Jvm.fieldLocs frame_1_writes args s ++ Jvm.arrayLocs frame_1_arrays args s ++ Jvm.staticLocs frame_1_statics s) 0 0 → Post tb e args s (.returned v) u) :
    ArmFor flags0 classFile x code maxLocals ret World_1 tables_1 room_1 Calls_1 rest_1 Pre_1 Post := by
  intro l hfl _ _ p e ha hc hk s m args below hf hA hF happ hP
  obtain ⟨hcalls, hrest, hpre⟩ := hP
  obtain ⟨-, -, -, hnamed, -, -, -, hat⟩ := (Spec.applies_iff hf).mp happ
  obtain ⟨hg, hn⟩ := and_e (Cond.before_iff.mp (show (Jvm.Cond.and given_1 narrow_1).before args s = true from hpre))
  obtain ⟨hc0, hr0⟩ := and_e hg
  have hv0 := hr0
  obtain ⟨w0, rfl⟩ : ∃ w0 : Value, args = #[w0] := by
    have hs : args.size = 1 := by simpa [Cond.value, given_1] using hc0
    obtain ⟨L⟩ := args
    match L, hs with
    | [w0], _ => exact ⟨w0, rfl⟩
  have hw := fun d (hd : d ∈ tables_1) => atoms_spec (ws := Jvm.Cond.code x code maxLocals ret :: tables_1) hat d (List.mem_cons_of_mem _ hd)
  have hfit : Fit s := fun {y c} hc i hi => by
    obtain ⟨ha, rfl⟩ := Array.getElem?_eq_some_iff.mp hc
    have q := List.all_eq_true.mp ((Array.all_eq_true_iff_forall_mem.mp hF) _ (Array.getElem_mem ha)) i (List.mem_range.mpr hi)
    simpa [Array.getElem?_eq_getElem hi] using q
  obtain ⟨i0, ei0⟩ := is_v hv0
  obtain rfl : w0 = (.int i0) := Option.some.inj ei0
  obtain ⟨hf0, hr_0⟩ := and_e hn
  obtain ⟨hf1, hr_1⟩ := and_e hr_0
  obtain ⟨hf2, hr_2⟩ := and_e hr_1
  obtain ⟨hf3, hr_3⟩ := and_e hr_2
  obtain ⟨hf4, hr_4⟩ := and_e hr_3
  obtain ⟨hf5, hr_5⟩ := and_e hr_4
  obtain ⟨hf6, hr_6⟩ := and_e hr_5
  obtain ⟨hf7, hr_7⟩ := and_e hr_6
  obtain ⟨hf8, hr_8⟩ := and_e hr_7
  obtain ⟨hf9, hr_9⟩ := and_e hr_8
  obtain ⟨hf10, hr_10⟩ := and_e hr_9
  obtain ⟨hf11, hr_11⟩ := and_e hr_10
  obtain ⟨hf12, hr_12⟩ := and_e hr_11
  obtain ⟨hf13, hr_13⟩ := and_e hr_12
  obtain ⟨hf14, hr_14⟩ := and_e hr_13
  obtain ⟨hf15, hr_15⟩ := and_e hr_14
  obtain ⟨hf16, hr_16⟩ := and_e hr_15
  obtain ⟨hf17, hr_17⟩ := and_e hr_16
  obtain ⟨hf18, hr_18⟩ := and_e hr_17
  obtain ⟨hf19, hr_19⟩ := and_e hr_18
  obtain ⟨hf20, hr_20⟩ := and_e hr_19
  obtain ⟨hf21, hr_21⟩ := and_e hr_20
  obtain ⟨hf22, hr_22⟩ := and_e hr_21
  obtain ⟨hf23, hr_23⟩ := and_e hr_22
  obtain ⟨hf24, hr_24⟩ := and_e hr_23
  obtain ⟨hf25, hr_25⟩ := and_e hr_24
  obtain ⟨hf26, hr_26⟩ := and_e hr_25
  obtain ⟨hf27, hr_27⟩ := and_e hr_26
  obtain ⟨hf28, hr_28⟩ := and_e hr_27
  obtain ⟨hf29, hr_29⟩ := and_e hr_28
  obtain ⟨hf30, hr_30⟩ := and_e hr_29
  obtain ⟨hf31, hf32⟩ := and_e hr_30
  obtain ⟨wA, evA⟩ := arr_v hf0
  have SA := Sta.start evA (Or.inr ⟨(hw _ (List.mem_of_getElem? (i := 3) rfl)), (hw _ (List.mem_of_getElem? (i := 6) rfl))⟩)
  obtain ⟨clA, AA⟩ := Arr.start evA hf0
  obtain ⟨hlen, hlt⟩ := own_lenEv evA AA hf1
  have TA := Tab.start hfit AA (Or.inr (Or.inr (Or.inl rfl))) hlt hlen (by decide)
  have hel : ∀ j : Int32, ¬ j < 0 → j < (128 : Int32) → ∃ xv, ¬ (j < 0 ∨ clA.slots.size ≤ j.toNatClampNeg) ∧ clA.slots[j.toNatClampNeg]? = some (.int xv) ∧ ((xv &&& (1 : Int32)) = (0 : Int32) ↔ ¬ own_asc j) := by
    intro j h0 h1
    have hi := inb_of TA.2.1 ⟨h0, h1⟩
    have hE := own_elAt evA TA h0 h1
    have g0 := or_e2 (Cond.le_ints (Term.int_eval _) (idx_at h0)) (Cond.eq_ints hE (Term.int_eval _)) (own_allAt evA TA h0 h1 hf2)
    have g1 := one_at (atv_of (own_elemI evA AA hf3).2) j
    have g2 := one_at (atv_of (own_elemI evA AA hf4).2) j
    have g3 := one_at (atv_of (own_elemI evA AA hf5).2) j
    have g4 := one_at (atv_of (own_elemI evA AA hf6).2) j
    have g5 := or3 (own_allAt evA TA h0 h1 hf7) (Cond.lt_ints (idx_at h0) (Term.int_eval _)) (Cond.le_ints (Term.int_eval _) (idx_at h0)) (Cond.eq_ints hE (Term.int_eval _))
    have g6 := one_at (atv_of (own_elemI evA AA hf8).2) j
    have g7 := one_at (atv_of (own_elemI evA AA hf9).2) j
    have g8 := one_at (atv_of (own_elemI evA AA hf10).2) j
    have g9 := one_at (atv_of (own_elemI evA AA hf11).2) j
    have g10 := one_at (atv_of (own_elemI evA AA hf12).2) j
    have g11 := one_at (atv_of (own_elemI evA AA hf13).2) j
    have g12 := one_at (atv_of (own_elemI evA AA hf14).2) j
    have g13 := or3 (own_allAt evA TA h0 h1 hf15) (Cond.lt_ints (idx_at h0) (Term.int_eval _)) (Cond.le_ints (Term.int_eval _) (idx_at h0)) (Cond.eq_ints hE (Term.int_eval _))
    have g14 := one_at (atv_of (own_elemI evA AA hf16).2) j
    have g15 := one_at (atv_of (own_elemI evA AA hf17).2) j
    have g16 := one_at (atv_of (own_elemI evA AA hf18).2) j
    have g17 := or3 (own_allAt evA TA h0 h1 hf19) (Cond.lt_ints (idx_at h0) (Term.int_eval _)) (Cond.le_ints (Term.int_eval _) (idx_at h0)) (Cond.eq_ints hE (Term.int_eval _))
    have g18 := one_at (atv_of (own_elemI evA AA hf20).2) j
    have g19 := one_at (atv_of (own_elemI evA AA hf21).2) j
    have g20 := one_at (atv_of (own_elemI evA AA hf22).2) j
    have g21 := one_at (atv_of (own_elemI evA AA hf23).2) j
    have g22 := one_at (atv_of (own_elemI evA AA hf24).2) j
    have g23 := one_at (atv_of (own_elemI evA AA hf25).2) j
    have g24 := one_at (atv_of (own_elemI evA AA hf26).2) j
    have g25 := or3 (own_allAt evA TA h0 h1 hf27) (Cond.lt_ints (idx_at h0) (Term.int_eval _)) (Cond.le_ints (Term.int_eval _) (idx_at h0)) (Cond.eq_ints hE (Term.int_eval _))
    have g26 := or3 (own_allAt evA TA h0 h1 hf28) (Cond.lt_ints (idx_at h0) (Term.int_eval _)) (Cond.le_ints (Term.int_eval _) (idx_at h0)) (Cond.eq_ints hE (Term.int_eval _))
    have g27 := one_at (atv_of (own_elemI evA AA hf29).2) j
    have g28 := one_at (atv_of (own_elemI evA AA hf30).2) j
    have g29 := or3 (own_allAt evA TA h0 h1 hf31) (Cond.lt_ints (idx_at h0) (Term.int_eval _)) (Cond.le_ints (Term.int_eval _) (idx_at h0)) (Cond.eq_ints hE (Term.int_eval _))
    have g30 := or_e2 (Cond.lt_ints (idx_at h0) (Term.int_eval _)) (Cond.eq_ints hE (Term.int_eval _)) (own_allAt evA TA h0 h1 hf32)
    exact ⟨_, hi, TA.2.2.2 j hi, own_tabl _ j h0 h1 g0 g1 g2 g3 g4 g5 g6 g7 g8 g9 g10 g11 g12 g13 g14 g15 g16 g17 g18 g19 g20 g21 g22 g23 g24 g25 g26 g27 g28 g29 g30⟩
  obtain ⟨n, o, h1, h2, h3, _, L, rfl, ⟨rfl, N⟩, hq⟩ := own_rm0 l s _ hw tables_1 i0 wA clA s.heap s.heap.size SA AA hlen hel p e ha hc hk s m _ below hf ((Spec.applies_iff_loose hf).mp happ).1 ⟨rfl, State.Warmed39.refl s, rfl⟩ trivial
  refine ⟨n, _, h1, h2, h3, hpost _ _ _ _ _ _ ⟨Cond.after_iff.mpr rfl, Cond.after_iff.mpr (eq_i res_at (Term.int_eval (1)) rfl), trivial⟩ ⟨hq.1, hq.2.1, (hq.2.2.sift fun y hy => Or.inr (N y hy)).mono (by decide) (by decide)⟩⟩
theorem main_1_1 : Claimed_1_1 := own_comes fun _ _ _ _ _ _ h hF => ⟨h.1, hF⟩
theorem main_1_2 : Claimed_1_2 := own_comes fun _ _ _ _ _ _ h hF => ⟨h.2.1, hF⟩

end Jvm.Pilot.@@N@@
namespace Jvm.Pilot.@@N@@
open Jvm Jvm.ClassFile Sem Op Lib Jvm.Free Jvm.Stand Jvm.Pilot.@@N@@.Jvm.D
/-! MADE BY PROGRAM (witnessworld.py) out of the Statement's table words and the real class files: 9 classes; the members and pool entries that the words name. The judged class is class 1, her method 3. -/
namespace start1
open Jvm.ClassFile
def u (s : String) : CpInfo := .utf8 (stringToUtf16 s)
/-- a pool by its gaps: so many unusable entries, then the entry; so many at the end -/
def gap : Nat → List CpInfo → List CpInfo
  | 0, r => r
  | n + 1, r => .unusable :: gap n r
def poolList (es : List (Nat × CpInfo)) (last : Nat) : List CpInfo := es.foldr (fun e r => gap e.1 (e.2 :: r)) (gap last [])
def pool (es : List (Nat × CpInfo)) (last : Nat) : Array CpInfo := ⟨poolList es last⟩
def fileOf (pool : Array CpInfo) (this : Nat) (attrs : Array Attribute := #[]) (ms : Array MethodInfo := #[]) (fl : Nat := 33) (sup : Nat := 0) (ifs : Array Nat := #[]) (fds : Array FieldInfo := #[]) : ClassFile where
  minorVersion := 0
  majorVersion := 65
  constantPool := pool
  accessFlags := fl
  thisClass := this
  superClass := sup
  interfaces := ifs
  fields := fds
  methods := ms
  attributes := attrs
def plain (name : String) (sup : Option ClassId) : Class where
  name := name
  kind := .ordinary
  loader := none
  accessFlags := 33
  super := sup
  interfaces := #[]
  cf := none
  fields := #[]
  methods := #[]
  instanceTypes := #[]
  staticTypes := #[]
  resolved := #[]
  callSites := []
  init := .initialized
  statics := none
  mirror := none

def pool0 : Array CpInfo := pool [(5, u "<init>"), (0, u "()V"), (1, .class_ 10), (1, u "java/lang/Object")] 113

def k0m0 : Method := { name := "<init>", desc := "()V", sig := { parameters := [], returnType := none }, accessFlags := 1, code := none }
/-- java/lang/Object -/
def k0 : Class := { plain "java/lang/Object" none with
  accessFlags := 33
  interfaces := #[]
  cf := some (fileOf pool0 8 #[] #[{ accessFlags := 1, nameIndex := 5, descriptorIndex := 6, attributes := #[] }] 33 0 #[] #[])
  fields := #[]
  methods := #[k0m0]
  instanceTypes := #[]
  staticTypes := #[]
  resolved := Array.replicate 124 none
  statics := none }

def pool1 : Array CpInfo := pool [(2, .class_ 4), (1, u "java/lang/Object"), (0, u "<init>"), (0, u "()V"), (0, .methodref 8 9), (0, .class_ 10), (0, .nameAndType 11 12), (0, u "com/example/canox/canox/xml/XmlCharsIsNameStartPinLaw"), (0, u "in"), (0, u "(III)Z"), (0, .integer 55295), (0, .integer 55296), (0, .integer 56191), (0, .integer 63744), (0, .integer 64975), (0, .integer 65008), (0, .integer 65533), (0, .integer 65535), (0, .methodref 22 23), (0, .class_ 24), (0, .nameAndType 25 26), (0, u "com/example/canox/canox/xml/XmlChars"), (0, u "isNameStart"), (0, u "(C)Z"), (0, .methodref 8 28), (0, .nameAndType 29 30), (0, u "expected"), (0, u "(I)Z"), (3, u "law")] 2

def k1m0 : Method := { name := "<init>", desc := "()V", sig := { parameters := [], returnType := none }, accessFlags := 2, code := none }
def k1c1 : Code := { maxStack := 2, maxLocals := 3, code := method_2_code, exceptionTable := #[], attributes := #[] }
def k1m1 : Method := { name := "in", desc := "(III)Z", sig := { parameters := [.int, .int, .int], returnType := some .boolean }, accessFlags := 10, code := some k1c1 }
def k1c2 : Code := { maxStack := 3, maxLocals := 9, code := method_3_code, exceptionTable := #[], attributes := #[] }
def k1m2 : Method := { name := "expected", desc := "(I)Z", sig := { parameters := [.int], returnType := some .boolean }, accessFlags := 10, code := some k1c2 }
def k1c3 : Code := { maxStack := 2, maxLocals := 3, code := code, exceptionTable := #[], attributes := #[] }
def k1m3 : Method := { name := "law", desc := "(I)Z", sig := { parameters := [.int], returnType := some .boolean }, accessFlags := 9, code := some k1c3 }
/-- com/example/canox/canox/xml/XmlCharsIsNameStartPinLaw -/
def k1 : Class := { plain "com/example/canox/canox/xml/XmlCharsIsNameStartPinLaw" (some 0) with
  accessFlags := 49
  interfaces := #[]
  cf := some (fileOf pool1 8 #[] #[{ accessFlags := 2, nameIndex := 5, descriptorIndex := 6, attributes := #[] }, { accessFlags := 10, nameIndex := 11, descriptorIndex := 12, attributes := #[] }, { accessFlags := 10, nameIndex := 29, descriptorIndex := 30, attributes := #[] }, { accessFlags := 9, nameIndex := 34, descriptorIndex := 30, attributes := #[] }] 49 2 #[] #[])
  fields := #[]
  methods := #[k1m0, k1m1, k1m2, k1m3]
  instanceTypes := #[]
  staticTypes := #[]
  resolved := Array.replicate 37 none
  statics := none }

def pool2 : Array CpInfo := pool [(2, .class_ 4), (1, u "java/lang/Object"), (0, u "<init>"), (0, u "()V"), (16, .class_ 25), (1, u "com/example/canox/canox/xml/XmlChars"), (13, .integer 65533), (2, .fieldref 23 43), (0, .nameAndType 44 45), (0, u "ASCII"), (0, u "[B"), (0, .integer 56191), (0, .integer 63744), (0, .integer 64975), (0, .integer 65008), (2, u "isNameStart"), (0, u "(C)Z"), (41, u "NAME_START"), (0, u "B"), (2, u "NAME"), (1, u "PUBLIC_ID")] 17

def k2m0 : Method := { name := "<init>", desc := "()V", sig := { parameters := [], returnType := none }, accessFlags := 2, code := none }
def k2c1 : Code := { maxStack := 2, maxLocals := 2, code := prog_199_method_7_code, exceptionTable := #[], attributes := #[] }
def k2m1 : Method := { name := "isNameStart", desc := "(C)Z", sig := { parameters := [.char], returnType := some .boolean }, accessFlags := 9, code := some k2c1 }
/-- com/example/canox/canox/xml/XmlChars -/
def k2 : Class := { plain "com/example/canox/canox/xml/XmlChars" (some 0) with
  accessFlags := 49
  interfaces := #[]
  cf := some (fileOf pool2 23 #[] #[{ accessFlags := 2, nameIndex := 5, descriptorIndex := 6, attributes := #[] }, { accessFlags := 9, nameIndex := 52, descriptorIndex := 53, attributes := #[] }] 49 2 #[] #[{ accessFlags := 26, nameIndex := 95, descriptorIndex := 96, attributes := #[] }, { accessFlags := 26, nameIndex := 99, descriptorIndex := 96, attributes := #[] }, { accessFlags := 26, nameIndex := 101, descriptorIndex := 96, attributes := #[] }, { accessFlags := 26, nameIndex := 44, descriptorIndex := 45, attributes := #[] }])
  fields := #[{ name := "NAME_START", type := .byte, accessFlags := 26, slot := 0, constantValue := 0 }, { name := "NAME", type := .byte, accessFlags := 26, slot := 1, constantValue := 0 }, { name := "PUBLIC_ID", type := .byte, accessFlags := 26, slot := 2, constantValue := 0 }, { name := "ASCII", type := (.array .byte), accessFlags := 26, slot := 3, constantValue := 0 }]
  methods := #[k2m0, k2m1]
  instanceTypes := #[]
  staticTypes := #[.byte, .byte, .byte, (.array .byte)]
  resolved := Array.replicate 119 none
  statics := some 0 }

def pool3 : Array CpInfo := pool [(1, u "java/lang/Cloneable"), (0, .class_ 1), (0, u "java/lang/Object"), (0, .class_ 3)] 3

/-- java/lang/Cloneable -/
def k3 : Class := { plain "java/lang/Cloneable" (some 0) with
  accessFlags := 1537
  interfaces := #[]
  cf := some (fileOf pool3 2 #[] #[] 1537 4 #[] #[])
  fields := #[]
  methods := #[]
  instanceTypes := #[]
  staticTypes := #[]
  resolved := Array.replicate 8 none
  statics := none }

def pool4 : Array CpInfo := pool [(1, u "java/io/Serializable"), (0, .class_ 1), (0, u "java/lang/Object"), (0, .class_ 3)] 3

/-- java/io/Serializable -/
def k4 : Class := { plain "java/io/Serializable" (some 0) with
  accessFlags := 1537
  interfaces := #[]
  cf := some (fileOf pool4 2 #[] #[] 1537 4 #[] #[])
  fields := #[]
  methods := #[]
  instanceTypes := #[]
  staticTypes := #[]
  resolved := Array.replicate 8 none
  statics := none }

/-- the primitive byte -/
def k5 : Class := { plain "byte" none with kind := .primitive 'B', accessFlags := 0x411 }
/-- [B -/
def k6 : Class := { plain "[B" (some 0) with kind := .array 5 .byte, interfaces := #[3, 4], accessFlags := 1041 }

/-- the primitive int -/
def k7 : Class := { plain "int" none with kind := .primitive 'I', accessFlags := 0x411 }
/-- [I -/
def k8 : Class := { plain "[I" (some 0) with kind := .array 7 .int, interfaces := #[3, 4], accessFlags := 1041 }

def heap : Heap := #[{ cls := 2, slots := #[.int 0, .int 0, .int 0, .ref 1], vm := .statics 2 },
  { cls := 6, slots := #[.int 0, .int 0, .int 0, .int 0, .int 0, .int 0, .int 0, .int 0, .int 0, .int 0, .int 4, .int 0, .int 0, .int 4, .int 0, .int 0, .int 0, .int 0, .int 0, .int 0, .int 0, .int 0, .int 0, .int 0, .int 0, .int 0, .int 0, .int 0, .int 0, .int 0, .int 0, .int 0, .int 4, .int 4, .int 0, .int 4, .int 4, .int 4, .int 0, .int 4, .int 4, .int 4, .int 4, .int 4, .int 4, .int 6, .int 6, .int 4, .int 6, .int 6, .int 6, .int 6, .int 6, .int 6, .int 6, .int 6, .int 6, .int 6, .int 7, .int 4, .int 0, .int 4, .int 0, .int 4, .int 4, .int 7, .int 7, .int 7, .int 7, .int 7, .int 7, .int 7, .int 7, .int 7, .int 7, .int 7, .int 7, .int 7, .int 7, .int 7, .int 7, .int 7, .int 7, .int 7, .int 7, .int 7, .int 7, .int 7, .int 7, .int 7, .int 7, .int 0, .int 0, .int 0, .int 0, .int 7, .int 0, .int 7, .int 7, .int 7, .int 7, .int 7, .int 7, .int 7, .int 7, .int 7, .int 7, .int 7, .int 7, .int 7, .int 7, .int 7, .int 7, .int 7, .int 7, .int 7, .int 7, .int 7, .int 7, .int 7, .int 7, .int 7, .int 7, .int 0, .int 0, .int 0, .int 0, .int 0], vm := .none }]
def classes : Array Class := #[k0, k1, k2, k3, k4, k5, k6, k7, k8]
def interned : List (Array UInt16 × Addr) := []
def slotsUsed : Nat := 132
def theMethod : MethodId := ⟨1, 3⟩
def args0 : Array Value := #[.int 65]
def aboutOver (below : List Frame) : State where
  vm := { classes := classes, interned := interned.toArray }
  heap := heap
  slotsUsed := slotsUsed
  threads := #[{ frames := .invoking theMethod args0 :: below }]
def below0 : List Frame := [.native { method := ⟨0, 0⟩, args := #[] }]
def about1 : State := aboutOver below0
def p0 : Program := .bare "" "" ""
def e0 : Env := launch0.env 0 0 0
theorem w_frames : about1.frames = Frame.invoking theMethod args0 :: below0 := rfl
set_option maxRecDepth 65536 in
theorem w_args : argsFit about1.vm theMethod args0 = true := by decide +kernel
set_option maxRecDepth 65536 in
theorem w_heap : heapFits about1 = true := by decide +kernel
set_option maxRecDepth 65536 in
theorem w_runnable : about1.curStatus? = some .runnable := by decide +kernel
set_option maxRecDepth 65536 in
theorem w_alone : about1.alone = true := by decide +kernel
set_option maxRecDepth 65536 in
theorem w_named : about1.methodNamed? x = some theMethod := by decide +kernel
set_option maxRecDepth 65536 in
theorem w_hears : about1.hears theMethod below0 = true := by decide +kernel
set_option maxRecDepth 65536 in
theorem w_ripe : about1.ripe theMethod args0 below0 = true := by decide +kernel
theorem w_running : about1.status = .running := rfl
set_option maxRecDepth 65536 in
theorem w_room : about1.hasRoom e0.platform room_1 = true :=
  launch0.hasRoom_least _ room_1 (by decide +kernel) (by decide +kernel) (by decide +kernel) (by decide +kernel) (by decide +kernel) (by decide +kernel)
theorem allAtoms_all (ts : List Jvm.Cond) (a : Array Jvm.Value) (st : Jvm.State) : (allAtoms ts).before a st = ts.all (fun c => c.before a st) := by
  induction ts with
  | nil => rfl
  | cons c t ih =>
    show (Jvm.Cond.and c (allAtoms t)).before a st = _
    rw [Jvm.Cond.before_and, ih, List.all_cons]
def words1 : List Jvm.Cond := Jvm.Cond.code x code maxLocals ret :: tables_1
/-- a 'code' word, met by the world's own term for the bytes: nothing is compared byte by byte -/
theorem code_word {y : MethodName} {bytes : ByteArray} {mx : Nat} {rt : Option FieldType} {a : Array Value} {s : State} {m : MethodId} {meth : Method} {c : Code} (h1 : s.methodNamed? y = some m) (h2 : s.vm.method? m = some meth) (h3 : meth.code = some c) (h4 : c.code = bytes)
    (h5 : (c.maxLocals == mx && c.exceptionTable.isEmpty && decide (c.maxStack ≤ mostOperands) && decide (meth.sig.returnType = rt) && !meth.locks && decide (parseMethodDescriptor y.desc = some meth.sig)) = true) : (Jvm.Cond.code y bytes mx rt).before a s = true := by
  simp only [Bool.and_eq_true, beq_iff_eq, Bool.not_eq_true', decide_eq_true_eq] at h5
  obtain ⟨⟨⟨⟨⟨g1, g2⟩, g3⟩, g4⟩, g5⟩, g6⟩ := h5
  simp [Cond.before, Cond.holds, Cond.value, h1, h2, h3, h4, g1, g2, g3, g4, g5, g6]
def isCode : Jvm.Cond → Bool
  | .code _ _ _ _ => true
  | _ => false
theorem all_split {L : List Jvm.Cond} {P : Jvm.Cond → Bool} (h1 : L.all (fun c => isCode c || P c) = true) (h2 : ∀ c ∈ L.filter isCode, P c = true) : L.all P = true := by
  refine List.all_eq_true.mpr fun c hc => ?_
  have h := List.all_eq_true.mp h1 c hc
  rcases Bool.eq_false_or_eq_true (isCode c) with hi | hi
  · exact h2 c (List.mem_filter.mpr ⟨hc, hi⟩)
  · simpa [hi] using h
set_option maxRecDepth 65536 in
theorem w_c0 : (Jvm.Cond.code x code maxLocals ret).before args0 about1 = true := code_word (m := ⟨1, 3⟩) (meth := k1m3) (c := k1c3) (by decide +kernel) rfl rfl rfl (by decide +kernel)
set_option maxRecDepth 65536 in
theorem w_c1 : (Jvm.Cond.code ({ cls := "com/example/canox/canox/xml/XmlChars", name := "isNameStart", desc := "(C)Z" } : Jvm.MethodName) prog_199_method_7_code (2 : Nat) (Option.some Jvm.ClassFile.FieldType.boolean)).before args0 about1 = true := code_word (m := ⟨2, 1⟩) (meth := k2m1) (c := k2c1) (by decide +kernel) rfl rfl rfl (by decide +kernel)
set_option maxRecDepth 65536 in
theorem w_c2 : (Jvm.Cond.code ({ cls := "com/example/canox/canox/xml/XmlCharsIsNameStartPinLaw", name := "expected", desc := "(I)Z" } : Jvm.MethodName) method_3_code (9 : Nat) (Option.some Jvm.ClassFile.FieldType.boolean)).before args0 about1 = true := code_word (m := ⟨1, 2⟩) (meth := k1m2) (c := k1c2) (by decide +kernel) rfl rfl rfl (by decide +kernel)
set_option maxRecDepth 65536 in
theorem w_c3 : (Jvm.Cond.code ({ cls := "com/example/canox/canox/xml/XmlCharsIsNameStartPinLaw", name := "in", desc := "(III)Z" } : Jvm.MethodName) method_2_code (3 : Nat) (Option.some Jvm.ClassFile.FieldType.boolean)).before args0 about1 = true := code_word (m := ⟨1, 1⟩) (meth := k1m1) (c := k1c1) (by decide +kernel) rfl rfl rfl (by decide +kernel)
def codes1 : List Jvm.Cond := [Jvm.Cond.code x code maxLocals ret, Jvm.Cond.code ({ cls := "com/example/canox/canox/xml/XmlChars", name := "isNameStart", desc := "(C)Z" } : Jvm.MethodName) prog_199_method_7_code (2 : Nat) (Option.some Jvm.ClassFile.FieldType.boolean), Jvm.Cond.code ({ cls := "com/example/canox/canox/xml/XmlCharsIsNameStartPinLaw", name := "expected", desc := "(I)Z" } : Jvm.MethodName) method_3_code (9 : Nat) (Option.some Jvm.ClassFile.FieldType.boolean), Jvm.Cond.code ({ cls := "com/example/canox/canox/xml/XmlCharsIsNameStartPinLaw", name := "in", desc := "(III)Z" } : Jvm.MethodName) method_2_code (3 : Nat) (Option.some Jvm.ClassFile.FieldType.boolean)]
set_option maxRecDepth 65536 in
theorem codes_eq : words1.filter isCode = codes1 := rfl
theorem w_codes : ∀ c ∈ words1.filter isCode, c.before args0 about1 = true := by
  rw [codes_eq]
  intro c hc
  simp only [codes1, List.mem_cons, List.not_mem_nil, or_false] at hc
  rcases hc with rfl | rfl | rfl | rfl
  · exact w_c0
  · exact w_c1
  · exact w_c2
  · exact w_c3
set_option maxRecDepth 65536 in
theorem w_t1 : (words1.take 24).all (fun c => isCode c || c.before args0 about1) = true := by decide +kernel
set_option maxRecDepth 65536 in
theorem w_t2 : (words1.drop 24).all (fun c => isCode c || c.before args0 about1) = true := by decide +kernel
theorem w_tables : (allAtoms (Jvm.Cond.code x code maxLocals ret :: tables_1)).before args0 about1 = true := by
  rw [allAtoms_all]
  show words1.all (fun c => c.before args0 about1) = true
  refine all_split ?_ w_codes
  rw [← List.take_append_drop 24 words1, List.all_append, w_t1, w_t2]
  rfl
set_option maxRecDepth 65536 in
theorem w_case : (Jvm.Cond.and given_1 narrow_1).before args0 about1 = true := by decide +kernel
theorem w_applies : (headSpec (Jvm.Cond.code x code maxLocals ret :: tables_1) room_1).applies x e0.platform about1 = true :=
  (Spec.applies_iff w_frames).mpr ⟨w_running, w_runnable, w_alone, w_named, w_hears, w_ripe, w_room, w_tables⟩
theorem atStart : AtStart classFile x code maxLocals ret World_1 tables_1 room_1 Calls_1 rest_1 Pre_1 launch0 p0 e0 about1 theMethod args0 below0 :=
  ⟨lists_1, trivial, launch0.admits_env _ _ _, launch0.least_env, fairChoices_fair.cas, fairChoices_fair.clock, w_frames, w_args, w_heap, w_applies, trivial, trivial, w_case⟩
end start1
theorem witness_1 : WitnessClaimed_1 := ⟨start1.p0, start1.e0, start1.about1, start1.theMethod, start1.args0, start1.below0, start1.atStart⟩
end Jvm.Pilot.@@N@@
