import JvmDerived
import JvmDerived.Pilot.@@N@@Statement
import JvmDerived.Pilot.@@N@@Code
set_option linter.unusedVariables false
set_option linter.unusedSimpArgs false
namespace Jvm.Pilot.@@N@@
open Jvm Jvm.ClassFile Sem Op Lib Jvm.Free Jvm.Stand Jvm.LawKit Jvm.RoadKit Bundle Jvm.Pilot.@@N@@.Jvm.D
section Own
def Bs : Bool → State → State → Nat → Prop
  | false, s0, s, _ => s = s0
  | true, s0, s, k => ∃ vm0, s = s0.setVm vm0 ∧ s0.Since vm0 k
def En : Bool → State → Outcome → State → List Loc → Nat → Nat → Prop
  | false => FrameEnd
  | true => ReturnedEndW
/-- from any state that stands at this heap, pc, locals and stack the run comes to an end that Q takes; wd: constants may have been interned -/
def Wk (l : Launch) (Z : State) (n0 : Nat) (own nm : String) (bytes : ByteArray) (maxL : Nat) (ret : Option FieldType) (R : Room) (kc ks : Nat) (wd : Bool) (Q : Option Value → Heap → Prop) (h : Heap) (cl sl pc : Nat) (ls : Array Slot) (st : List Value) : Prop :=
  ∀ (p : Program) (e : Env) (s0 s : State) (m : MethodId) (args : Array Value) (below : List Frame) (meth : Method) (c : Code) (T : State) (locs : List Loc) (k0 : Nat),
    p.tables.exec = Jvm.exec → c.code = bytes → c.maxLocals = maxL → s.vm.findClass own = some m.cls → meth.name = nm → meth.sig.returnType = ret → meth.locks = false → Z.Warmed39 s.vm →
    Bs wd s0 s k0 → k0 ≤ h.size →
    Stand p l e R s m args below meth c T locs cl sl → T.heap = h → Fr n0 locs →
    ∃ s₂ o, Steps p.tables e below (T.setTop (mkF m pc ls st)) s₂ ∧ s₂.status = .running ∧ Ended s₂ below o ∧ ∃ v L, o = .returned v ∧ (Fr n0 L ∧ Q v s₂.heap) ∧ En wd s0 o s₂ L kc ks
/-- a method's contract: from heap h, with the arguments as', it returns as Q says; new places alone are written -/
def Met (l : Launch) (Z : State) (n0 : Nat) (y : MethodName) (bytes : ByteArray) (maxL : Nat) (ret : Option FieldType) (rm : Room) (as' : Array Value) (h : Heap) (Q : Option Value → Heap → Prop) : Prop :=
  ∀ ws : List Jvm.Cond, MetFree l y (head1 (Jvm.Cond.code y bytes maxL ret :: ws) rm) (fun a U => a = as' ∧ Z.Warmed39 U.vm ∧ U.heap = h) (fun _ _ _ _ _ => True) (fun _ U o U' => ∃ v L, o = .returned v ∧ (Fr n0 L ∧ Q v U'.heap) ∧ FrameEnd U o U' L rm.cells rm.slots)
def MetW (l : Launch) (Z : State) (n0 : Nat) (y : MethodName) (bytes : ByteArray) (maxL : Nat) (ret : Option FieldType) (rm : Room) (as' : Array Value) (h : Heap) (Q : Option Value → Heap → Prop) : Prop :=
  ∀ ws : List Jvm.Cond, MetFree l y (head1 (Jvm.Cond.code y bytes maxL ret :: ws) rm) (fun a U => a = as' ∧ Z.Warmed39 U.vm ∧ U.heap = h) (fun _ _ _ _ _ => True) (fun _ U o U' => ∃ v L, o = .returned v ∧ (Fr n0 L ∧ Q v U'.heap) ∧ ReturnedEndW U o U' L rm.cells rm.slots)
def icP : ClassFile.Cond → Int32 → Int32 → Prop
  | .eq, x, y => x = y | .ne, x, y => ¬ x = y | .lt, x, y => x < y | .ge, x, y => ¬ x < y | .gt, x, y => y < x | .le, x, y => ¬ y < x
def icN : ClassFile.Cond → Int32 → Int32 → Prop
  | .eq, x, y => ¬ x = y | .ne, x, y => x = y | .lt, x, y => ¬ x < y | .ge, x, y => x < y | .gt, x, y => ¬ y < x | .le, x, y => y < x
def acP : ACond → Value → Value → Prop
  | .eq, x, y => x = y | .ne, x, y => ¬ x = y
def acN : ACond → Value → Value → Prop
  | .eq, x, y => ¬ x = y | .ne, x, y => x = y
theorem ic_t {cd : ClassFile.Cond} {x y : Int32} (q : icP cd x y) : if_icmp.holds cd x y = true := by
  cases cd
  · exact (teq q).1
  · exact (feq q).2
  · exact (tlt q).1
  · exact (flt q).2.1
  · exact (tlt q).2.2.1
  · exact (flt q).2.2.2
theorem ic_f {cd : ClassFile.Cond} {x y : Int32} (q : icN cd x y) : if_icmp.holds cd x y = false := by
  cases cd
  · exact (feq q).1
  · exact (teq q).2
  · exact (flt q).1
  · exact (tlt q).2.1
  · exact (flt q).2.2.1
  · exact (tlt q).2.2.2
theorem ic_or (cd : ClassFile.Cond) (x y : Int32) : icP cd x y ∨ icN cd x y := by
  cases cd <;> simp only [icP, icN] <;> first | exact Decidable.em _ | exact (Decidable.em _).symm
theorem ac_t {cd : ACond} {x y : Value} (q : acP cd x y) : XT.acmp cd x y = true := by
  cases cd
  · exact decide_eq_true (show x = y from q)
  · exact decide_eq_true (show x ≠ y from q)
theorem ac_f {cd : ACond} {x y : Value} (q : acN cd x y) : XT.acmp cd x y = false := by
  cases cd
  · exact decide_eq_false (show ¬ x = y from q)
  · exact decide_eq_false (fun z : x ≠ y => z q)
theorem ac_or (cd : ACond) (x y : Value) : acP cd x y ∨ acN cd x y := by
  cases cd <;> simp only [acP, acN] <;> first | exact Classical.em _ | exact (Classical.em _).symm
variable {l : Launch} {Z : State} {a0 : Array Value} {n0 : Nat} {own nm : String} {bytes : ByteArray} {maxL : Nat} {ret : Option FieldType} {R : Room} {kc ks : Nat} {wd : Bool} {Q : Option Value → Heap → Prop} {h : Heap} {cl sl pc q : Nat} {ls ls' : Array Slot} {st st' rest : List Value}
theorem Met.mono {y : MethodName} {rm : Room} {as' : Array Value} {Q' : Option Value → Heap → Prop} (M : Met l Z n0 y bytes maxL ret rm as' h Q) (f : ∀ v h', Q v h' → Q' v h') : Met l Z n0 y bytes maxL ret rm as' h Q' := fun ws p e a1 a2 a3 s m args below b1 b2 b3 b4 => by
  obtain ⟨n, o, c1, c2, c3, v, L, c4, c5, c6⟩ := M ws p e a1 a2 a3 s m args below b1 b2 b3 b4
  exact ⟨n, o, c1, c2, c3, v, L, c4, ⟨c5.1, f _ _ c5.2⟩, c6⟩
theorem Met.of_wk {y : MethodName} {rm : Room} {as' : Array Value} (hp : plainFor y = true) (he : ∀ m, entryFrame m as' maxL = mkF m 0 ls []) (k : Wk l Z n0 y.cls y.name bytes maxL ret rm rm.cells rm.slots false Q h 0 0 0 ls []) : Met l Z n0 y bytes maxL ret rm as' h Q := by
  intro ws
  refine MetFree.of_bodySF hp hisR ?_
  intro p e s m args below meth c s₁ Bd hml0 hP hK
  obtain ⟨rfl, hZ, hh⟩ := hP
  have X0 : Stand p l e rm s m args below meth c s₁ [] 0 0 := Stand.of_body Bd
  have e0 : s₁.heap = h := by rw [← hh, Bd.state]; rfl
  rw [he m]
  exact k p e s s m _ below meth c s₁ [] 0 Bd.exec Bd.bytes hml0 (findClass_of_methodNamed Bd.named) (name_of_methodNamed Bd.named Bd.method).1 Bd.returns Bd.notSynchronized hZ rfl (Nat.zero_le _) X0 e0 (Fr.nil n0)
theorem MetW.of_wk {y : MethodName} {rm : Room} {as' : Array Value} (hp : plainFor y = true) (he : ∀ m, entryFrame m as' maxL = mkF m 0 ls []) (k : Wk l Z n0 y.cls y.name bytes maxL ret rm rm.cells rm.slots true Q h 0 0 0 ls []) : MetW l Z n0 y bytes maxL ret rm as' h Q := by
  intro ws
  refine MetFree.of_bodySF hp hisR ?_
  intro p e s m args below meth c s₁ Bd hml0 hP hK
  obtain ⟨rfl, hZ, hh⟩ := hP
  have X0 : Stand p l e rm s m args below meth c s₁ [] 0 0 := Stand.of_body Bd
  have e0 : s₁.heap = h := by rw [← hh, Bd.state]; rfl
  rw [he m]
  exact k p e s s m _ below meth c s₁ [] 0 Bd.exec Bd.bytes hml0 (findClass_of_methodNamed Bd.named) (name_of_methodNamed Bd.named Bd.method).1 Bd.returns Bd.notSynchronized hZ ⟨s.vm, rfl, (State.WarmedH.refl s).since 0⟩ (Nat.zero_le _) X0 e0 (Fr.nil n0)
theorem Met.sz {y : MethodName} {rm : Room} {as' : Array Value} (M : Met l Z n0 y bytes maxL ret rm as' h Q) : MetFree l y (head1 [Jvm.Cond.code y bytes maxL ret] rm) (fun a U => a = as' ∧ Z.Warmed39 U.vm ∧ U.heap = h) (fun _ _ _ _ _ => True) (fun _ U o U' => ∃ v L, o = .returned v ∧ ((Fr n0 L ∧ Q v U'.heap) ∧ h.size ≤ U'.heap.size) ∧ FrameEnd U o U' L rm.cells rm.slots) := fun p e a1 a2 a3 s m args below b1 b2 b3 b4 => by
  obtain ⟨n, o, c1, c2, c3, v, L, c4, c5, c6⟩ := M [] p e a1 a2 a3 s m args below b1 b2 b3 b4
  refine ⟨n, o, c1, c2, c3, v, L, c4, ⟨c5, ?_⟩, c6⟩
  have q := c6.2.2.2.1
  rw [b3.2.2] at q
  exact q
theorem Wk.step (hs : ∀ {p : Program} {e : Env} {s : State} {m : MethodId} {args : Array Value} {below : List Frame} {meth : Method} {c : Code} {T : State} {locs : List Loc}, p.tables.exec = Jvm.exec → c.code = bytes → s.vm.findClass own = some m.cls → Z.Warmed39 s.vm → Stand p l e R s m args below meth c T locs cl sl → T.heap = h →
      ∀ target, Steps p.tables e below (T.setTop (mkF m q ls' st')) target → Steps p.tables e below (T.setTop (mkF m pc ls st)) target)
    (k : Wk l Z n0 own nm bytes maxL ret R kc ks wd Q h cl sl q ls' st') : Wk l Z n0 own nm bytes maxL ret R kc ks wd Q h cl sl pc ls st := by
  intro p e s0 s m args below meth c T locs k0 hx hby hml hown hnm hret hlk hZ B hk X eT N
  obtain ⟨s₂, o, h1, r⟩ := k p e s0 s m args below meth c T locs k0 hx hby hml hown hnm hret hlk hZ B hk X eT N
  exact ⟨s₂, o, hs hx hby hown hZ X eT _ h1, r⟩
theorem Wk.stepW (hs : ∀ {p : Program} {e : Env} {s : State} {m : MethodId} {args : Array Value} {below : List Frame} {meth : Method} {c : Code} {T : State} {locs : List Loc}, p.tables.exec = Jvm.exec → c.code = bytes → s.vm.findClass own = some m.cls → Z.Warmed39 s.vm → Stand p l e R s m args below meth c T locs cl sl → T.heap = h →
      ∃ T', Stand p l e R s m args below meth c T' locs cl sl ∧ T'.heap = h ∧ ∀ target, Steps p.tables e below (T'.setTop (mkF m q ls' st')) target → Steps p.tables e below (T.setTop (mkF m pc ls st)) target)
    (k : Wk l Z n0 own nm bytes maxL ret R kc ks wd Q h cl sl q ls' st') : Wk l Z n0 own nm bytes maxL ret R kc ks wd Q h cl sl pc ls st := by
  intro p e s0 s m args below meth c T locs k0 hx hby hml hown hnm hret hlk hZ B hk X eT N
  obtain ⟨T', X', eT', st⟩ := hs hx hby hown hZ X eT
  obtain ⟨s₂, o, h1, r⟩ := k p e s0 s m args below meth c T' locs k0 hx hby hml hown hnm hret hlk hZ B hk X' eT' N
  exact ⟨s₂, o, st _ h1, r⟩
theorem Wk.iloadN {i : Fin 4} {v : Int32} (hd : decode bytes pc = .ok (.iload_n i, 1)) (hq : pc + 1 = q) (hl : ls[i.val]? = some (.val (.int v))) (k : Wk l Z n0 own nm bytes maxL ret R kc ks wd Q h cl sl q ls (.int v :: st)) : Wk l Z n0 own nm bytes maxL ret R kc ks wd Q h cl sl pc ls st := by
  subst hq; exact Wk.step (fun hx hby _ _ X _ _ k => XS.iloadN X.here hx rfl (hb hby hd) hl k) k
theorem Wk.iload {i : Nat} {v : Int32} (hd : decode bytes pc = .ok (.iload i, 2)) (hq : pc + 2 = q) (hl : ls[i]? = some (.val (.int v))) (k : Wk l Z n0 own nm bytes maxL ret R kc ks wd Q h cl sl q ls (.int v :: st)) : Wk l Z n0 own nm bytes maxL ret R kc ks wd Q h cl sl pc ls st := by
  subst hq; exact Wk.step (fun hx hby _ _ X _ _ k => XS.iload X.here hx rfl (hb hby hd) hl k) k
theorem Wk.lloadN {i : Fin 4} {v : Int64} (hd : decode bytes pc = .ok (.lload_n i, 1)) (hq : pc + 1 = q) (hl : ls[i.val]? = some (.val (.long v))) (k : Wk l Z n0 own nm bytes maxL ret R kc ks wd Q h cl sl q ls (.long v :: st)) : Wk l Z n0 own nm bytes maxL ret R kc ks wd Q h cl sl pc ls st := by
  subst hq; exact Wk.step (fun hx hby _ _ X _ _ k => XT.lloadN X.here hx rfl (hb hby hd) hl k) k
theorem Wk.lload {i : Nat} {v : Int64} (hd : decode bytes pc = .ok (.lload i, 2)) (hq : pc + 2 = q) (hl : ls[i]? = some (.val (.long v))) (k : Wk l Z n0 own nm bytes maxL ret R kc ks wd Q h cl sl q ls (.long v :: st)) : Wk l Z n0 own nm bytes maxL ret R kc ks wd Q h cl sl pc ls st := by
  subst hq; exact Wk.step (fun hx hby _ _ X _ _ k => XT.lload X.here hx rfl (hb hby hd) hl k) k
theorem Wk.aloadN {i : Fin 4} {v : Value} (hd : decode bytes pc = .ok (.aload_n i, 1)) (hq : pc + 1 = q) (hl : ls[i.val]? = some (.val v)) (hv : v.isRef = true) (k : Wk l Z n0 own nm bytes maxL ret R kc ks wd Q h cl sl q ls (v :: st)) : Wk l Z n0 own nm bytes maxL ret R kc ks wd Q h cl sl pc ls st := by
  subst hq; exact Wk.step (fun hx hby _ _ X _ _ k => XS.aloadN X.here hx rfl (hb hby hd) hl hv k) k
theorem Wk.aload {i : Nat} {v : Value} (hd : decode bytes pc = .ok (.aload i, 2)) (hq : pc + 2 = q) (hl : ls[i]? = some (.val v)) (hv : v.isRef = true) (k : Wk l Z n0 own nm bytes maxL ret R kc ks wd Q h cl sl q ls (v :: st)) : Wk l Z n0 own nm bytes maxL ret R kc ks wd Q h cl sl pc ls st := by
  subst hq; exact Wk.step (fun hx hby _ _ X _ _ k => XS.aload X.here hx rfl (hb hby hd) hl hv k) k
theorem Wk.istoreN {i : Fin 4} {v : Int32} (hd : decode bytes pc = .ok (.istore_n i, 1)) (hq : pc + 1 = q) (hl : storeLocals ls i.val (.int v) = some ls') (k : Wk l Z n0 own nm bytes maxL ret R kc ks wd Q h cl sl q ls' st) : Wk l Z n0 own nm bytes maxL ret R kc ks wd Q h cl sl pc ls (.int v :: st) := by
  subst hq; exact Wk.step (fun hx hby _ _ X _ _ k => XS.istoreN X.here hx rfl (hb hby hd) rfl hl k) k
theorem Wk.istore {i : Nat} {v : Int32} (hd : decode bytes pc = .ok (.istore i, 2)) (hq : pc + 2 = q) (hl : storeLocals ls i (.int v) = some ls') (k : Wk l Z n0 own nm bytes maxL ret R kc ks wd Q h cl sl q ls' st) : Wk l Z n0 own nm bytes maxL ret R kc ks wd Q h cl sl pc ls (.int v :: st) := by
  subst hq; exact Wk.step (fun hx hby _ _ X _ _ k => XS.istore X.here hx rfl (hb hby hd) rfl hl k) k
theorem Wk.lstoreN {i : Fin 4} {v : Int64} (hd : decode bytes pc = .ok (.lstore_n i, 1)) (hq : pc + 1 = q) (hl : storeLocals ls i.val (.long v) = some ls') (k : Wk l Z n0 own nm bytes maxL ret R kc ks wd Q h cl sl q ls' st) : Wk l Z n0 own nm bytes maxL ret R kc ks wd Q h cl sl pc ls (.long v :: st) := by
  subst hq; exact Wk.step (fun hx hby _ _ X _ _ k => XT.lstoreN X.here hx rfl (hb hby hd) rfl hl k) k
theorem Wk.lstore {i : Nat} {v : Int64} (hd : decode bytes pc = .ok (.lstore i, 2)) (hq : pc + 2 = q) (hl : storeLocals ls i (.long v) = some ls') (k : Wk l Z n0 own nm bytes maxL ret R kc ks wd Q h cl sl q ls' st) : Wk l Z n0 own nm bytes maxL ret R kc ks wd Q h cl sl pc ls (.long v :: st) := by
  subst hq; exact Wk.step (fun hx hby _ _ X _ _ k => XT.lstore X.here hx rfl (hb hby hd) rfl hl k) k
theorem Wk.astoreN {i : Fin 4} {v : Value} (hd : decode bytes pc = .ok (.astore_n i, 1)) (hq : pc + 1 = q) (hv : v.isRef = true) (hl : storeLocals ls i.val v = some ls') (k : Wk l Z n0 own nm bytes maxL ret R kc ks wd Q h cl sl q ls' st) : Wk l Z n0 own nm bytes maxL ret R kc ks wd Q h cl sl pc ls (v :: st) := by
  subst hq; exact Wk.step (fun hx hby _ _ X _ _ k => XS.astoreN X.here hx rfl (hb hby hd) rfl hv hl k) k
theorem Wk.astore {i : Nat} {v : Value} (hd : decode bytes pc = .ok (.astore i, 2)) (hq : pc + 2 = q) (hv : v.isRef = true) (hl : storeLocals ls i v = some ls') (k : Wk l Z n0 own nm bytes maxL ret R kc ks wd Q h cl sl q ls' st) : Wk l Z n0 own nm bytes maxL ret R kc ks wd Q h cl sl pc ls (v :: st) := by
  subst hq; exact Wk.step (fun hx hby _ _ X _ _ k => XS.astore X.here hx rfl (hb hby hd) rfl hv hl k) k
theorem Wk.iconst {i : Int} {v : Int32} (hd : decode bytes pc = .ok (.iconst i, 1)) (hq : pc + 1 = q) (hv : Int32.ofInt i = v) (k : Wk l Z n0 own nm bytes maxL ret R kc ks wd Q h cl sl q ls (.int v :: st)) : Wk l Z n0 own nm bytes maxL ret R kc ks wd Q h cl sl pc ls st := by
  subst hq hv; exact Wk.step (fun hx hby _ _ X _ _ k => XS.iconst X.here hx rfl (hb hby hd) k) k
theorem Wk.bipush {i : Int} {v : Int32} (hd : decode bytes pc = .ok (.bipush i, 2)) (hq : pc + 2 = q) (hv : (Int8.ofInt i).toInt32 = v) (k : Wk l Z n0 own nm bytes maxL ret R kc ks wd Q h cl sl q ls (.int v :: st)) : Wk l Z n0 own nm bytes maxL ret R kc ks wd Q h cl sl pc ls st := by
  subst hq hv; exact Wk.step (fun hx hby _ _ X _ _ k => XS.bipush X.here hx rfl (hb hby hd) k) k
theorem Wk.sipush {i : Int} {v : Int32} (hd : decode bytes pc = .ok (.sipush i, 3)) (hq : pc + 3 = q) (hv : (Int16.ofInt i).toInt32 = v) (k : Wk l Z n0 own nm bytes maxL ret R kc ks wd Q h cl sl q ls (.int v :: st)) : Wk l Z n0 own nm bytes maxL ret R kc ks wd Q h cl sl pc ls st := by
  subst hq hv; exact Wk.step (fun hx hby _ _ X _ _ k => XS.sipush X.here hx rfl (hb hby hd) k) k
theorem Wk.lconst {i : Fin 2} {v : Int64} (hd : decode bytes pc = .ok (.lconst i, 1)) (hq : pc + 1 = q) (hv : Int64.ofNat i = v) (k : Wk l Z n0 own nm bytes maxL ret R kc ks wd Q h cl sl q ls (.long v :: st)) : Wk l Z n0 own nm bytes maxL ret R kc ks wd Q h cl sl pc ls st := by
  subst hq hv; exact Wk.step (fun hx hby _ _ X _ _ k => XT.lconst X.here hx rfl (hb hby hd) k) k
theorem Wk.null  (hd : decode bytes pc = .ok (.aconst_null, 1)) (hq : pc + 1 = q)  (k : Wk l Z n0 own nm bytes maxL ret R kc ks wd Q h cl sl q ls (.null :: st)) : Wk l Z n0 own nm bytes maxL ret R kc ks wd Q h cl sl pc ls st := by
  subst hq; exact Wk.step (fun hx hby _ _ X _ _ k => XS.aconstNull X.here hx rfl (hb hby hd) k) k
theorem Wk.ldcI {i : Nat} {v : Int32} (w : (Jvm.Cond.constant own i v).before a0 Z = true) (hd : decode bytes pc = .ok (.ldc i, 2)) (hq : pc + 2 = q) (k : Wk l Z n0 own nm bytes maxL ret R kc ks wd Q h cl sl q ls (.int v :: st)) : Wk l Z n0 own nm bytes maxL ret R kc ks wd Q h cl sl pc ls st := by
  subst hq; exact Wk.step (fun hx hby hown hZ X _ t k => X.ldcInt hx hown (mv hZ w) (g := mkF _ pc ls st) rfl (hb hby hd) t k) k
theorem Wk.ldc2 {i : Nat} {v : Int64} (w : (Jvm.Cond.constantLong own i v).before a0 Z = true) (hd : decode bytes pc = .ok (.ldc2_w i, 3)) (hq : pc + 3 = q) (k : Wk l Z n0 own nm bytes maxL ret R kc ks wd Q h cl sl q ls (.long v :: st)) : Wk l Z n0 own nm bytes maxL ret R kc ks wd Q h cl sl pc ls st := by
  subst hq; exact Wk.step (fun hx hby hown hZ X _ t k => X.ldc2Long hx hown (mv hZ w) (g := mkF _ pc ls st) rfl (hb hby hd) t k) k
theorem Wk.iadd {x y v : Int32} (hd : decode bytes pc = .ok (.iadd, 1)) (hq : pc + 1 = q) (hv : x + y = v) (k : Wk l Z n0 own nm bytes maxL ret R kc ks wd Q h cl sl q ls (.int v :: st)) : Wk l Z n0 own nm bytes maxL ret R kc ks wd Q h cl sl pc ls (.int y :: .int x :: st) := by
  subst hq hv; exact Wk.step (fun hx hby _ _ X _ _ k => XS.iadd X.here hx rfl (hb hby hd) rfl k) k
theorem Wk.isub {x y v : Int32} (hd : decode bytes pc = .ok (.isub, 1)) (hq : pc + 1 = q) (hv : x - y = v) (k : Wk l Z n0 own nm bytes maxL ret R kc ks wd Q h cl sl q ls (.int v :: st)) : Wk l Z n0 own nm bytes maxL ret R kc ks wd Q h cl sl pc ls (.int y :: .int x :: st) := by
  subst hq hv; exact Wk.step (fun hx hby _ _ X _ _ k => XS.isub X.here hx rfl (hb hby hd) rfl k) k
theorem Wk.iand {x y v : Int32} (hd : decode bytes pc = .ok (.iand, 1)) (hq : pc + 1 = q) (hv : x &&& y = v) (k : Wk l Z n0 own nm bytes maxL ret R kc ks wd Q h cl sl q ls (.int v :: st)) : Wk l Z n0 own nm bytes maxL ret R kc ks wd Q h cl sl pc ls (.int y :: .int x :: st) := by
  subst hq hv; exact Wk.step (fun hx hby _ _ X _ _ k => XS.iand X.here hx rfl (hb hby hd) rfl k) k
theorem Wk.imul {x y v : Int32} (hd : decode bytes pc = .ok (.imul, 1)) (hq : pc + 1 = q) (hv : x * y = v) (k : Wk l Z n0 own nm bytes maxL ret R kc ks wd Q h cl sl q ls (.int v :: st)) : Wk l Z n0 own nm bytes maxL ret R kc ks wd Q h cl sl pc ls (.int y :: .int x :: st) := by
  subst hq hv; exact Wk.step (fun hx hby _ _ X _ _ k => XS.imul X.here hx rfl (hb hby hd) rfl k) k
theorem Wk.ishr {x y v : Int32} (hd : decode bytes pc = .ok (.ishr, 1)) (hq : pc + 1 = q) (hv : x >>> (y &&& 31) = v) (k : Wk l Z n0 own nm bytes maxL ret R kc ks wd Q h cl sl q ls (.int v :: st)) : Wk l Z n0 own nm bytes maxL ret R kc ks wd Q h cl sl pc ls (.int y :: .int x :: st) := by
  subst hq hv; exact Wk.step (fun hx hby _ _ X _ _ k => XT.ishr X.here hx rfl (hb hby hd) rfl k) k
theorem Wk.iushr {x y v : Int32} (hd : decode bytes pc = .ok (.iushr, 1)) (hq : pc + 1 = q) (hv : XT.ushr x y = v) (k : Wk l Z n0 own nm bytes maxL ret R kc ks wd Q h cl sl q ls (.int v :: st)) : Wk l Z n0 own nm bytes maxL ret R kc ks wd Q h cl sl pc ls (.int y :: .int x :: st) := by
  subst hq hv; exact Wk.step (fun hx hby _ _ X _ _ k => XT.iushr X.here hx rfl (hb hby hd) rfl k) k
theorem Wk.irem {x y v : Int32} (hd : decode bytes pc = .ok (.irem, 1)) (hq : pc + 1 = q) (hy : y ≠ 0) (hv : x % y = v) (k : Wk l Z n0 own nm bytes maxL ret R kc ks wd Q h cl sl q ls (.int v :: st)) : Wk l Z n0 own nm bytes maxL ret R kc ks wd Q h cl sl pc ls (.int y :: .int x :: st) := by
  subst hq hv; exact Wk.step (fun hx hby _ _ X _ _ k => iremM X hx (g := mkF _ pc ls (.int y :: .int x :: st)) rfl (hb hby hd) rfl hy k) k
theorem Wk.idiv {x y v : Int32} (hd : decode bytes pc = .ok (.idiv, 1)) (hq : pc + 1 = q) (hy : y ≠ 0) (hv : x / y = v) (k : Wk l Z n0 own nm bytes maxL ret R kc ks wd Q h cl sl q ls (.int v :: st)) : Wk l Z n0 own nm bytes maxL ret R kc ks wd Q h cl sl pc ls (.int y :: .int x :: st) := by
  subst hq hv; exact Wk.step (fun hx hby _ _ X _ _ k => XS.idiv X.here hx rfl (hb hby hd) rfl hy k) k
theorem Wk.i2b {x v : Int32} (hd : decode bytes pc = .ok (.i2b, 1)) (hq : pc + 1 = q) (hv : x.toInt8.toInt32 = v) (k : Wk l Z n0 own nm bytes maxL ret R kc ks wd Q h cl sl q ls (.int v :: st)) : Wk l Z n0 own nm bytes maxL ret R kc ks wd Q h cl sl pc ls (.int x :: st) := by
  subst hq hv; exact Wk.step (fun hx hby _ _ X _ _ k => XT.i2b X.here hx rfl (hb hby hd) rfl k) k
theorem Wk.i2s {x v : Int32} (hd : decode bytes pc = .ok (.i2s, 1)) (hq : pc + 1 = q) (hv : x.toInt16.toInt32 = v) (k : Wk l Z n0 own nm bytes maxL ret R kc ks wd Q h cl sl q ls (.int v :: st)) : Wk l Z n0 own nm bytes maxL ret R kc ks wd Q h cl sl pc ls (.int x :: st) := by
  subst hq hv; exact Wk.step (fun hx hby _ _ X _ _ k => XT.i2s X.here hx rfl (hb hby hd) rfl k) k
theorem Wk.i2l {x : Int32} {v : Int64} (hd : decode bytes pc = .ok (.i2l, 1)) (hq : pc + 1 = q) (hv : x.toInt64 = v) (k : Wk l Z n0 own nm bytes maxL ret R kc ks wd Q h cl sl q ls (.long v :: st)) : Wk l Z n0 own nm bytes maxL ret R kc ks wd Q h cl sl pc ls (.int x :: st) := by
  subst hq hv; exact Wk.step (fun hx hby _ _ X _ _ k => XT.i2l X.here hx rfl (hb hby hd) rfl k) k
theorem Wk.l2i {x : Int64} {v : Int32} (hd : decode bytes pc = .ok (.l2i, 1)) (hq : pc + 1 = q) (hv : x.toInt32 = v) (k : Wk l Z n0 own nm bytes maxL ret R kc ks wd Q h cl sl q ls (.int v :: st)) : Wk l Z n0 own nm bytes maxL ret R kc ks wd Q h cl sl pc ls (.long x :: st) := by
  subst hq hv; exact Wk.step (fun hx hby _ _ X _ _ k => XT.l2i X.here hx rfl (hb hby hd) rfl k) k
theorem Wk.ladd {x y v : Int64} (hd : decode bytes pc = .ok (.ladd, 1)) (hq : pc + 1 = q) (hv : x + y = v) (k : Wk l Z n0 own nm bytes maxL ret R kc ks wd Q h cl sl q ls (.long v :: st)) : Wk l Z n0 own nm bytes maxL ret R kc ks wd Q h cl sl pc ls (.long y :: .long x :: st) := by
  subst hq hv; exact Wk.step (fun hx hby _ _ X _ _ k => XT.ladd X.here hx rfl (hb hby hd) rfl k) k
theorem Wk.lsub {x y v : Int64} (hd : decode bytes pc = .ok (.lsub, 1)) (hq : pc + 1 = q) (hv : x - y = v) (k : Wk l Z n0 own nm bytes maxL ret R kc ks wd Q h cl sl q ls (.long v :: st)) : Wk l Z n0 own nm bytes maxL ret R kc ks wd Q h cl sl pc ls (.long y :: .long x :: st) := by
  subst hq hv; exact Wk.step (fun hx hby _ _ X _ _ k => XT.lsub X.here hx rfl (hb hby hd) rfl k) k
theorem Wk.lmul {x y v : Int64} (hd : decode bytes pc = .ok (.lmul, 1)) (hq : pc + 1 = q) (hv : x * y = v) (k : Wk l Z n0 own nm bytes maxL ret R kc ks wd Q h cl sl q ls (.long v :: st)) : Wk l Z n0 own nm bytes maxL ret R kc ks wd Q h cl sl pc ls (.long y :: .long x :: st) := by
  subst hq hv; exact Wk.step (fun hx hby _ _ X _ _ k => XT.lmul X.here hx rfl (hb hby hd) rfl k) k
theorem Wk.lneg {x v : Int64} (hd : decode bytes pc = .ok (.lneg, 1)) (hq : pc + 1 = q) (hv : -x = v) (k : Wk l Z n0 own nm bytes maxL ret R kc ks wd Q h cl sl q ls (.long v :: st)) : Wk l Z n0 own nm bytes maxL ret R kc ks wd Q h cl sl pc ls (.long x :: st) := by
  subst hq hv; exact Wk.step (fun hx hby _ _ X _ _ k => XT.lneg X.here hx rfl (hb hby hd) rfl k) k
theorem Wk.lcmp {x y : Int64} {v : Int32} (hd : decode bytes pc = .ok (.lcmp, 1)) (hq : pc + 1 = q) (hv : XT.cmpL x y = v) (k : Wk l Z n0 own nm bytes maxL ret R kc ks wd Q h cl sl q ls (.int v :: st)) : Wk l Z n0 own nm bytes maxL ret R kc ks wd Q h cl sl pc ls (.long y :: .long x :: st) := by
  subst hq hv; exact Wk.step (fun hx hby _ _ X _ _ k => XT.lcmp X.here hx rfl (hb hby hd) rfl k) k
theorem Wk.iinc {i : Nat} {cst : Int} {x v : Int32} (hd : decode bytes pc = .ok (.iinc i cst, 3)) (hq : pc + 3 = q) (hl : ls[i]? = some (.val (.int x))) (hv : x + Int32.ofInt cst = v) (hl' : storeLocals ls i (.int v) = some ls') (k : Wk l Z n0 own nm bytes maxL ret R kc ks wd Q h cl sl q ls' st) : Wk l Z n0 own nm bytes maxL ret R kc ks wd Q h cl sl pc ls st := by
  subst hq hv; exact Wk.step (fun hx hby _ _ X _ _ k => XS.iinc X.here hx rfl (hb hby hd) hl hl' k) k
theorem Wk.dup {x : Value} (hd : decode bytes pc = .ok (.dup, 1)) (hq : pc + 1 = q) (hc : x.category = 1) (k : Wk l Z n0 own nm bytes maxL ret R kc ks wd Q h cl sl q ls (x :: x :: st)) : Wk l Z n0 own nm bytes maxL ret R kc ks wd Q h cl sl pc ls (x :: st) := by
  subst hq; exact Wk.step (fun hx hby _ _ X _ _ k => XS.dup X.here hx rfl (hb hby hd) rfl hc k) k
theorem Wk.dupX1 {x y : Value} (hd : decode bytes pc = .ok (.dup_x1, 1)) (hq : pc + 1 = q) (hc : x.category = 1) (hc' : y.category = 1) (k : Wk l Z n0 own nm bytes maxL ret R kc ks wd Q h cl sl q ls (x :: y :: x :: st)) : Wk l Z n0 own nm bytes maxL ret R kc ks wd Q h cl sl pc ls (x :: y :: st) := by
  subst hq; exact Wk.step (fun hx hby _ _ X _ _ k => XT.dupX1 X.here hx rfl (hb hby hd) rfl hc hc' k) k
theorem Wk.pop {x : Value} (hd : decode bytes pc = .ok (.pop, 1)) (hq : pc + 1 = q) (hc : x.category = 1) (k : Wk l Z n0 own nm bytes maxL ret R kc ks wd Q h cl sl q ls st) : Wk l Z n0 own nm bytes maxL ret R kc ks wd Q h cl sl pc ls (x :: st) := by
  subst hq; exact Wk.step (fun hx hby _ _ X _ _ k => XT.pop X.here hx rfl (hb hby hd) rfl hc k) k
theorem Wk.goto {o : Int} (hd : decode bytes pc = .ok (.goto o, 3)) (ho : 0 ≤ (pc : Int) + o) (hp : ((pc : Int) + o).toNat = q) (k : Wk l Z n0 own nm bytes maxL ret R kc ks wd Q h cl sl q ls st) : Wk l Z n0 own nm bytes maxL ret R kc ks wd Q h cl sl pc ls st :=
  Wk.step (fun hx hby _ _ X _ _ k => XS.goto X.here hx rfl rfl (hb hby hd) ho hp k) k
theorem Wk.icmpT {cd : ClassFile.Cond} {o : Int} {x y : Int32} (hd : decode bytes pc = .ok (.if_icmp cd o, 3)) (ho : 0 ≤ (pc : Int) + o) (hp : ((pc : Int) + o).toNat = q) (hc : icP cd x y) (k : Wk l Z n0 own nm bytes maxL ret R kc ks wd Q h cl sl q ls st) : Wk l Z n0 own nm bytes maxL ret R kc ks wd Q h cl sl pc ls (.int y :: .int x :: st) :=
  Wk.step (fun hx hby _ _ X _ _ k => XS.icmpYes X.here hx rfl rfl (hb hby hd) rfl (ic_t hc) ho hp k) k
theorem Wk.icmpF {cd : ClassFile.Cond} {o : Int} {x y : Int32} (hd : decode bytes pc = .ok (.if_icmp cd o, 3)) (hq : pc + 3 = q) (hc : icN cd x y) (k : Wk l Z n0 own nm bytes maxL ret R kc ks wd Q h cl sl q ls st) : Wk l Z n0 own nm bytes maxL ret R kc ks wd Q h cl sl pc ls (.int y :: .int x :: st) := by
  subst hq; exact Wk.step (fun hx hby _ _ X _ _ k => XS.icmpNo X.here hx rfl (hb hby hd) rfl (ic_f hc) k) k
theorem Wk.icmp {cd : ClassFile.Cond} {o : Int} {x y : Int32} {q' : Nat} (hd : decode bytes pc = .ok (.if_icmp cd o, 3)) (ho : 0 ≤ (pc : Int) + o) (hp : ((pc : Int) + o).toNat = q) (hq : pc + 3 = q') (kT : icP cd x y → Wk l Z n0 own nm bytes maxL ret R kc ks wd Q h cl sl q ls st) (kF : icN cd x y → Wk l Z n0 own nm bytes maxL ret R kc ks wd Q h cl sl q' ls st) : Wk l Z n0 own nm bytes maxL ret R kc ks wd Q h cl sl pc ls (.int y :: .int x :: st) :=
  (ic_or cd x y).elim (fun z => Wk.icmpT hd ho hp z (kT z)) (fun z => Wk.icmpF hd hq z (kF z))
theorem Wk.ifcT {cd : ClassFile.Cond} {o : Int} {x : Int32} (hd : decode bytes pc = .ok (.ifCond cd o, 3)) (ho : 0 ≤ (pc : Int) + o) (hp : ((pc : Int) + o).toNat = q) (hc : icP cd x 0) (k : Wk l Z n0 own nm bytes maxL ret R kc ks wd Q h cl sl q ls st) : Wk l Z n0 own nm bytes maxL ret R kc ks wd Q h cl sl pc ls (.int x :: st) :=
  Wk.step (fun hx hby _ _ X _ _ k => XS.ifYes X.here hx rfl rfl (hb hby hd) rfl ((if0 cd x).trans (ic_t hc)) ho hp k) k
theorem Wk.ifcF {cd : ClassFile.Cond} {o : Int} {x : Int32} (hd : decode bytes pc = .ok (.ifCond cd o, 3)) (hq : pc + 3 = q) (hc : icN cd x 0) (k : Wk l Z n0 own nm bytes maxL ret R kc ks wd Q h cl sl q ls st) : Wk l Z n0 own nm bytes maxL ret R kc ks wd Q h cl sl pc ls (.int x :: st) := by
  subst hq; exact Wk.step (fun hx hby _ _ X _ _ k => XS.ifNo X.here hx rfl (hb hby hd) rfl ((if0 cd x).trans (ic_f hc)) k) k
theorem Wk.ifc {cd : ClassFile.Cond} {o : Int} {x : Int32} {q' : Nat} (hd : decode bytes pc = .ok (.ifCond cd o, 3)) (ho : 0 ≤ (pc : Int) + o) (hp : ((pc : Int) + o).toNat = q) (hq : pc + 3 = q') (kT : icP cd x 0 → Wk l Z n0 own nm bytes maxL ret R kc ks wd Q h cl sl q ls st) (kF : icN cd x 0 → Wk l Z n0 own nm bytes maxL ret R kc ks wd Q h cl sl q' ls st) : Wk l Z n0 own nm bytes maxL ret R kc ks wd Q h cl sl pc ls (.int x :: st) :=
  (ic_or cd x 0).elim (fun z => Wk.ifcT hd ho hp z (kT z)) (fun z => Wk.ifcF hd hq z (kF z))
theorem Wk.acmpT {cd : ACond} {o : Int} {x y : Value} (hd : decode bytes pc = .ok (.if_acmp cd o, 3)) (ho : 0 ≤ (pc : Int) + o) (hp : ((pc : Int) + o).toNat = q) (hx' : x.isRef = true) (hy' : y.isRef = true) (hc : acP cd x y) (k : Wk l Z n0 own nm bytes maxL ret R kc ks wd Q h cl sl q ls st) : Wk l Z n0 own nm bytes maxL ret R kc ks wd Q h cl sl pc ls (y :: x :: st) :=
  Wk.step (fun hx hby _ _ X _ _ k => XT.acmpYes X.here hx rfl rfl (hb hby hd) rfl hx' hy' (ac_t hc) ho hp k) k
theorem Wk.acmpF {cd : ACond} {o : Int} {x y : Value} (hd : decode bytes pc = .ok (.if_acmp cd o, 3)) (hq : pc + 3 = q) (hx' : x.isRef = true) (hy' : y.isRef = true) (hc : acN cd x y) (k : Wk l Z n0 own nm bytes maxL ret R kc ks wd Q h cl sl q ls st) : Wk l Z n0 own nm bytes maxL ret R kc ks wd Q h cl sl pc ls (y :: x :: st) := by
  subst hq; exact Wk.step (fun hx hby _ _ X _ _ k => XT.acmpNo X.here hx rfl (hb hby hd) rfl hx' hy' (ac_f hc) k) k
theorem Wk.acmp {cd : ACond} {o : Int} {x y : Value} {q' : Nat} (hd : decode bytes pc = .ok (.if_acmp cd o, 3)) (ho : 0 ≤ (pc : Int) + o) (hp : ((pc : Int) + o).toNat = q) (hq : pc + 3 = q') (hx' : x.isRef = true) (hy' : y.isRef = true) (kT : acP cd x y → Wk l Z n0 own nm bytes maxL ret R kc ks wd Q h cl sl q ls st) (kF : acN cd x y → Wk l Z n0 own nm bytes maxL ret R kc ks wd Q h cl sl q' ls st) : Wk l Z n0 own nm bytes maxL ret R kc ks wd Q h cl sl pc ls (y :: x :: st) :=
  (ac_or cd x y).elim (fun z => Wk.acmpT hd ho hp hx' hy' z (kT z)) (fun z => Wk.acmpF hd hq hx' hy' z (kF z))
theorem Wk.ifnullT {o : Int} (hd : decode bytes pc = .ok (.ifnull o, 3)) (ho : 0 ≤ (pc : Int) + o) (hp : ((pc : Int) + o).toNat = q) (k : Wk l Z n0 own nm bytes maxL ret R kc ks wd Q h cl sl q ls st) : Wk l Z n0 own nm bytes maxL ret R kc ks wd Q h cl sl pc ls (.null :: st) :=
  Wk.step (fun hx hby _ _ X _ _ k => XS.ifnullYes X.here hx rfl rfl (hb hby hd) rfl ho hp k) k
theorem Wk.ifnullF {o : Int} {b : Addr} (hd : decode bytes pc = .ok (.ifnull o, 3)) (hq : pc + 3 = q) (k : Wk l Z n0 own nm bytes maxL ret R kc ks wd Q h cl sl q ls st) : Wk l Z n0 own nm bytes maxL ret R kc ks wd Q h cl sl pc ls (.ref b :: st) := by
  subst hq; exact Wk.step (fun hx hby _ _ X _ _ k => XS.ifnullNo X.here hx rfl (hb hby hd) rfl k) k
theorem Wk.ifnonnullT {o : Int} {b : Addr} (hd : decode bytes pc = .ok (.ifnonnull o, 3)) (ho : 0 ≤ (pc : Int) + o) (hp : ((pc : Int) + o).toNat = q) (k : Wk l Z n0 own nm bytes maxL ret R kc ks wd Q h cl sl q ls st) : Wk l Z n0 own nm bytes maxL ret R kc ks wd Q h cl sl pc ls (.ref b :: st) :=
  Wk.step (fun hx hby _ _ X _ _ k => XT.ifnonnullYes X.here hx rfl rfl (hb hby hd) rfl ho hp k) k
theorem Wk.ifnonnullF {o : Int} (hd : decode bytes pc = .ok (.ifnonnull o, 3)) (hq : pc + 3 = q) (k : Wk l Z n0 own nm bytes maxL ret R kc ks wd Q h cl sl q ls st) : Wk l Z n0 own nm bytes maxL ret R kc ks wd Q h cl sl pc ls (.null :: st) := by
  subst hq; exact Wk.step (fun hx hby _ _ X _ _ k => XT.ifnonnullNo X.here hx rfl (hb hby hd) rfl k) k
theorem Wk.tsw {dflt low high : Int} {offs : Array Int} {len : Nat} {o : Int} {i : Int32} (hd : decode bytes pc = .ok (.tableswitch dflt low high offs, len)) (hin : ¬ (i.toInt < low ∨ i.toInt > high)) (hoff : offs[(i.toInt - low).toNat]? = some o) (ho : 0 ≤ (pc : Int) + o) (hp : ((pc : Int) + o).toNat = q) (k : Wk l Z n0 own nm bytes maxL ret R kc ks wd Q h cl sl q ls st) : Wk l Z n0 own nm bytes maxL ret R kc ks wd Q h cl sl pc ls (.int i :: st) :=
  Wk.step (fun hx hby _ _ X _ _ k => XS.tswIn X.here hx rfl rfl (hb hby hd) rfl hin hoff ho hp k) k
theorem Wk.getS {O n d R0 : String} {i : Nat} {v : Value} (w : (Jvm.Cond.fieldLink own i R0 n d).before a0 Z = true) (via : Via Z R0 O n d) (F : Sta Z h O n d v) (hd : decode bytes pc = .ok (.getstatic i, 3)) (hq : pc + 3 = q) (k : Wk l Z n0 own nm bytes maxL ret R kc ks wd Q h cl sl q ls (v :: st)) : Wk l Z n0 own nm bytes maxL ret R kc ks wd Q h cl sl pc ls st := by
  subst hq; exact Wk.stepW (fun hx hby hown hZ X eT => RoadKit.getS (host := "") X hx hZ hown w via eT F (g := mkF _ pc ls st) rfl (hb hby hd)) k
theorem Wk.getF {O n d R0 : String} {i : Nat} {a : Addr} {v : Value} (w : (Jvm.Cond.fieldLink own i R0 n d).before a0 Z = true) (via : Via Z R0 O n d) (F : Fld Z h a O n d v) (hd : decode bytes pc = .ok (.getfield i, 3)) (hq : pc + 3 = q) (k : Wk l Z n0 own nm bytes maxL ret R kc ks wd Q h cl sl q ls (v :: st)) : Wk l Z n0 own nm bytes maxL ret R kc ks wd Q h cl sl pc ls (.ref a :: st) := by
  subst hq; exact Wk.stepW (fun hx hby hown hZ X eT => RoadKit.getF (host := "") X hx hZ hown (Or.inl w) via eT F (g := mkF _ pc ls (.ref a :: st)) rfl rfl (hb hby hd)) k
theorem Wk.alen {a : Addr} {c0 : Cell} {ty : FieldType} {v : Int32} (A : Arr Z h a c0 ty) (hv : c0.slots.size.toInt32 = v) (hd : decode bytes pc = .ok (.arraylength, 1)) (hq : pc + 1 = q) (k : Wk l Z n0 own nm bytes maxL ret R kc ks wd Q h cl sl q ls (.int v :: st)) : Wk l Z n0 own nm bytes maxL ret R kc ks wd Q h cl sl pc ls (.ref a :: st) := by
  subst hq hv; exact Wk.step (fun hx hby _ hZ X eT t k => X.arraylength hx (by rw [eT]; exact A.1) (State.isArrayOf_alike hZ.alike A.2.1) (g := mkF _ pc ls (.ref a :: st)) rfl rfl (hb hby hd) t k) k
theorem Wk.aaload {a : Addr} {c0 : Cell} {ty : FieldType} {j : Int32} {v : Value} (A : Arr Z h a c0 ty) (hty : ty.isReference = true) (hin : ¬ (j < 0 ∨ c0.slots.size ≤ j.toNatClampNeg)) (hv : c0.slots[j.toNatClampNeg]? = some v) (hd : decode bytes pc = .ok (.aaload, 1)) (hq : pc + 1 = q) (k : Wk l Z n0 own nm bytes maxL ret R kc ks wd Q h cl sl q ls (v :: st)) : Wk l Z n0 own nm bytes maxL ret R kc ks wd Q h cl sl pc ls (.int j :: .ref a :: st) := by
  subst hq; exact Wk.step (fun hx hby _ hZ X eT t k => X.aaload hx (by rw [eT]; exact A.1) (State.isArrayOf_alike hZ.alike A.2.1) hty A.2.2 hin hv (g := mkF _ pc ls (.int j :: .ref a :: st)) rfl rfl (hb hby hd) t k) k
theorem Wk.baloadB {a : Addr} {c0 : Cell} {j : Int32} {v : Value} (A : Arr Z h a c0 .byte) (hin : ¬ (j < 0 ∨ c0.slots.size ≤ j.toNatClampNeg)) (hv : c0.slots[j.toNatClampNeg]? = some v) (hd : decode bytes pc = .ok (.baload, 1)) (hq : pc + 1 = q) (k : Wk l Z n0 own nm bytes maxL ret R kc ks wd Q h cl sl q ls (v :: st)) : Wk l Z n0 own nm bytes maxL ret R kc ks wd Q h cl sl pc ls (.int j :: .ref a :: st) := by
  subst hq; exact Wk.step (fun hx hby _ hZ X eT t k => X.baloadBytes hx (by rw [eT]; exact A.1) (State.isArrayOf_alike hZ.alike A.2.1) A.2.2 hin hv (g := mkF _ pc ls (.int j :: .ref a :: st)) rfl rfl (hb hby hd) t k) k
theorem Wk.baloadZ {a : Addr} {c0 : Cell} {j : Int32} {v : Value} (A : Arr Z h a c0 .boolean) (hin : ¬ (j < 0 ∨ c0.slots.size ≤ j.toNatClampNeg)) (hv : c0.slots[j.toNatClampNeg]? = some v) (hd : decode bytes pc = .ok (.baload, 1)) (hq : pc + 1 = q) (k : Wk l Z n0 own nm bytes maxL ret R kc ks wd Q h cl sl q ls (v :: st)) : Wk l Z n0 own nm bytes maxL ret R kc ks wd Q h cl sl pc ls (.int j :: .ref a :: st) := by
  subst hq; exact Wk.step (fun hx hby _ hZ X eT t k => X.baloadBooleans hx (by rw [eT]; exact A.1) (State.isArrayOf_alike hZ.alike A.2.1) A.2.2 hin hv (g := mkF _ pc ls (.int j :: .ref a :: st)) rfl rfl (hb hby hd) t k) k
theorem Wk.retG {w : Value} {t : FieldType} {i : Instr} (hret : ret = some t) (hn : narrow t w = w)
    (hi : (i = .ireturn ∧ (t = .int ∨ t = .boolean ∨ t = .byte ∨ t = .char ∨ t = .short) ∧ ∃ z, w = .int z) ∨ (i = .lreturn ∧ t = .long ∧ ∃ z, w = .long z) ∨ (i = .dreturn ∧ t = .double ∧ ∃ z, w = .double z) ∨ (i = .freturn ∧ t = .float ∧ ∃ z, w = .float z) ∨ (i = .areturn ∧ t.isReference = true ∧ w.isRef = true))
    (hd : decode bytes pc = .ok (i, 1)) (hc : cl ≤ kc) (hs : sl ≤ ks) (hQ : Q (some w) h) : Wk l Z n0 own nm bytes maxL ret R kc ks wd Q h cl sl pc ls (w :: st) := by
  intro p e s0 s m args below meth c T locs k0 hx hby hml hown hnm hr hlk hZ B hk X eT N
  cases wd
  · obtain rfl : s = s0 := B
    obtain ⟨fs, hr', hrun, hended, hW, hsame⟩ := X.leave (v := some w) (fun q => by rw [hr, hret] at q; cases q) hlk
    exact ⟨_, _, RoadKit.retOut X hx (hr.trans hret) hn hi (hb hby hd) hr', hrun, hended, _, _, rfl, ⟨N, by show Q _ T.heap; rw [eT]; exact hQ⟩, ⟨_, rfl⟩, hW, hsame.mono hc hs⟩
  · obtain ⟨vm0, rfl, hS⟩ := B
    obtain ⟨fs, hr', hrun, hended, hE⟩ := X.leaveW hS (by rw [eT]; exact hk) (v := some w) (fun q => by rw [hr, hret] at q; cases q) hlk
    exact ⟨_, _, RoadKit.retOut X hx (hr.trans hret) hn hi (hb hby hd) hr', hrun, hended, _, _, rfl, ⟨N, by show Q _ T.heap; rw [eT]; exact hQ⟩, hE.1, hE.2.1, hE.2.2.1, hE.2.2.2.mono hc hs⟩
theorem Wk.retI {z : Int32} (hret : ret = some .int) (hd : decode bytes pc = .ok (.ireturn, 1)) (hc : cl ≤ kc) (hs : sl ≤ ks) (hQ : Q (some (.int z)) h) : Wk l Z n0 own nm bytes maxL ret R kc ks wd Q h cl sl pc ls (.int z :: st) :=
  Wk.retG hret rfl (Or.inl ⟨rfl, Or.inl rfl, z, rfl⟩) hd hc hs hQ
theorem Wk.retZ {z : Int32} (hret : ret = some .boolean) (hz : narrow .boolean (.int z) = .int z) (hd : decode bytes pc = .ok (.ireturn, 1)) (hc : cl ≤ kc) (hs : sl ≤ ks) (hQ : Q (some (.int z)) h) : Wk l Z n0 own nm bytes maxL ret R kc ks wd Q h cl sl pc ls (.int z :: st) :=
  Wk.retG hret hz (Or.inl ⟨rfl, Or.inr (Or.inl rfl), z, rfl⟩) hd hc hs hQ
theorem Wk.retB {z : Int32} (hret : ret = some .byte) (hz : narrow .byte (.int z) = .int z) (hd : decode bytes pc = .ok (.ireturn, 1)) (hc : cl ≤ kc) (hs : sl ≤ ks) (hQ : Q (some (.int z)) h) : Wk l Z n0 own nm bytes maxL ret R kc ks wd Q h cl sl pc ls (.int z :: st) :=
  Wk.retG hret hz (Or.inl ⟨rfl, Or.inr (Or.inr (Or.inl rfl)), z, rfl⟩) hd hc hs hQ
theorem Wk.retL {z : Int64} (hret : ret = some .long) (hd : decode bytes pc = .ok (.lreturn, 1)) (hc : cl ≤ kc) (hs : sl ≤ ks) (hQ : Q (some (.long z)) h) : Wk l Z n0 own nm bytes maxL ret R kc ks wd Q h cl sl pc ls (.long z :: st) :=
  Wk.retG hret rfl (Or.inr (Or.inl ⟨rfl, rfl, z, rfl⟩)) hd hc hs hQ
theorem own_narR {t : FieldType} {w : Value} (h1 : t.isReference = true) (h2 : w.isRef = true) : narrow t w = w := by
  cases t <;> cases w <;> first | rfl | (simp [FieldType.isReference] at h1; done) | (simp [Value.isRef] at h2; done)
theorem Wk.retA {w : Value} {t : FieldType} (hret : ret = some t) (ht : t.isReference = true) (hw : w.isRef = true) (hd : decode bytes pc = .ok (.areturn, 1)) (hc : cl ≤ kc) (hs : sl ≤ ks) (hQ : Q (some w) h) : Wk l Z n0 own nm bytes maxL ret R kc ks wd Q h cl sl pc ls (w :: st) :=
  Wk.retG hret (own_narR ht hw) (Or.inr (Or.inr (Or.inr (Or.inr ⟨rfl, ht, hw⟩)))) hd hc hs hQ
theorem Wk.retV (hret : ret = none) (hd : decode bytes pc = .ok (.return_, 1)) (hc : cl ≤ kc) (hs : sl ≤ ks) (hQ : Q none h) : Wk l Z n0 own nm bytes maxL ret R kc ks wd Q h cl sl pc ls [] := by
  intro p e s0 s m args below meth c T locs k0 hx hby hml hown hnm hr hlk hZ B hk X eT N
  cases wd
  · obtain rfl : s = s0 := B
    obtain ⟨fs, hr', hrun, hended, hW, hsame⟩ := X.leave (v := none) (fun _ => rfl) hlk
    exact ⟨_, _, X.returnOut hx (hr.trans hret) (hb hby hd) hr', hrun, hended, _, _, rfl, ⟨N, by show Q _ T.heap; rw [eT]; exact hQ⟩, ⟨_, rfl⟩, hW, hsame.mono hc hs⟩
  · obtain ⟨vm0, rfl, hS⟩ := B
    obtain ⟨fs, hr', hrun, hended, hE⟩ := X.leaveW hS (by rw [eT]; exact hk) (v := none) (fun _ => rfl) hlk
    exact ⟨_, _, X.returnOut hx (hr.trans hret) (hb hby hd) hr', hrun, hended, _, _, rfl, ⟨N, by show Q _ T.heap; rw [eT]; exact hQ⟩, hE.1, hE.2.1, hE.2.2.1, hE.2.2.2.mono hc hs⟩
theorem Wk.callS {i : Nat} {y : MethodName} {by' : ByteArray} {mL : Nat} {rt : Option FieldType} {rm : Room} {argsL rest : List Value} {Q' : Value → Heap → Prop} {ps : List FieldType} {r' : Option FieldType}
    (hM : Met l Z n0 y by' mL rt rm argsL.toArray h (fun v h' => ∃ w, v = some w ∧ Q' w h'))
    (w1 : (Jvm.Cond.methodLink own i y).before a0 Z = true) (w2 : (Jvm.Cond.static y).before a0 Z = true) (w3 : (Jvm.Cond.initialized y.cls).before a0 Z = true) (w4 : (Jvm.Cond.code y by' mL rt).before a0 Z = true) (hy : y.cls ≠ "java/lang/invoke/MethodHandle" ∧ y.cls ≠ "java/lang/invoke/VarHandle")
    (hds : parseMethodDescriptor y.desc = some ⟨ps, r'⟩) (hln : argsL.length = ps.length) (hst : st = argsL.reverse ++ rest) (hls : ls.size = maxL) (hd : decode bytes pc = .ok (.invokestatic i, 3)) (hq : pc + 3 = q)
    {W : Nat} (hW : (rest.map fun v => v.category).sum = W) (hf : rm.frames + 1 ≤ R.frames) (hlo : W + (mL + 11) + rm.locals ≤ R.locals) (hce : cl + rm.cells ≤ R.cells) (hsl : sl + rm.slots ≤ R.slots)
    (k : ∀ w h', Q' w h' → Wk l Z n0 own nm bytes maxL ret R kc ks wd Q h' (cl + rm.cells) (sl + rm.slots) q ls (w :: rest)) : Wk l Z n0 own nm bytes maxL ret R kc ks wd Q h cl sl pc ls st := by
  subst hq hst hW
  intro p e s0 s m args below meth c T locs k0 hx hby hml hown hnm hr hlk hZ B hk X eT N
  obtain ⟨v, _, ⟨T', L', k', n'⟩, -, X', ⟨Lc, ⟨⟨N', hQ⟩, hsz⟩, l', y', z'⟩, stp⟩ := Jvm.LawKit.callS X hx (y := y) hown (mvT hZ w1) (mvT hZ w2) (mvT hZ w3) (mvT hZ w4) hy (backOf (W := (rest.map fun v => v.category).sum) (Q := fun v h' L => (Fr n0 L ∧ (fun v h' => ∃ w, v = some w ∧ Q' w h') v h') ∧ h.size ≤ h'.size) (Met.sz hM) hZ w4 w3 hf hlo) (g := mkF m pc ls (argsL.reverse ++ rest)) rfl (by rw [hml]; exact hls) (argsL := argsL) (rest := rest) (lenOf hds hln) rfl (by show 2 * 0 + _ ≤ _; omega) (hb hby hd) (fun _ _ => ⟨rfl, eT, hce, hsl⟩)
  dsimp only [Pt.U, Pt.locs, Pt.cells, Pt.slots] at X' l' y' z' stp hQ hsz
  subst l' y' z'
  obtain ⟨w, rfl, hQ⟩ := hQ
  obtain ⟨s₂, o, h1, r⟩ := k w T'.heap hQ p e s0 s m args below meth c T' _ k0 hx hby hml hown hnm hr hlk hZ B (Nat.le_trans hk hsz) X' rfl (Fr.app N N')
  exact ⟨s₂, o, stp _ h1, r⟩
theorem Wk.callS1 {i : Nat} {y : MethodName} {by' : ByteArray} {mL : Nat} {rt : Option FieldType} {fr lo : Nat} {argsL rest : List Value} {v0 : Value} {ps : List FieldType} {r' : Option FieldType}
    (hM : Met l Z n0 y by' mL rt ⟨fr, 0, 0, lo⟩ argsL.toArray h (fun v h' => v = some v0 ∧ h' = h))
    (w1 : (Jvm.Cond.methodLink own i y).before a0 Z = true) (w2 : (Jvm.Cond.static y).before a0 Z = true) (w3 : (Jvm.Cond.initialized y.cls).before a0 Z = true) (w4 : (Jvm.Cond.code y by' mL rt).before a0 Z = true) (hy : y.cls ≠ "java/lang/invoke/MethodHandle" ∧ y.cls ≠ "java/lang/invoke/VarHandle")
    (hds : parseMethodDescriptor y.desc = some ⟨ps, r'⟩) (hln : argsL.length = ps.length) (hst : st = argsL.reverse ++ rest) (hls : ls.size = maxL) (hd : decode bytes pc = .ok (.invokestatic i, 3)) (hq : pc + 3 = q)
    {W : Nat} (hW : (rest.map fun v => v.category).sum = W) (hf : fr + 1 ≤ R.frames) (hlo : W + (mL + 11) + lo ≤ R.locals) (hce : cl ≤ R.cells) (hsl : sl ≤ R.slots)
    (k : Wk l Z n0 own nm bytes maxL ret R kc ks wd Q h cl sl q ls (v0 :: rest)) : Wk l Z n0 own nm bytes maxL ret R kc ks wd Q h cl sl pc ls st :=
  Wk.callS (Q' := fun w h' => w = v0 ∧ h' = h) (rm := ⟨fr, 0, 0, lo⟩) (hM.mono fun v h' z => ⟨v0, z.1, rfl, z.2⟩) w1 w2 w3 w4 hy hds hln hst hls hd hq hW hf hlo hce hsl (fun w h' z => by obtain ⟨rfl, rfl⟩ := z; exact k)
theorem Wk.callS0 {i : Nat} {y : MethodName} {by' : ByteArray} {mL : Nat} {rt : Option FieldType} {rm : Room} {argsL rest : List Value} {Q' : Heap → Prop} {ps : List FieldType} {r' : Option FieldType}
    (hM : Met l Z n0 y by' mL rt rm argsL.toArray h (fun v h' => v = none ∧ Q' h'))
    (w1 : (Jvm.Cond.methodLink own i y).before a0 Z = true) (w2 : (Jvm.Cond.static y).before a0 Z = true) (w3 : (Jvm.Cond.initialized y.cls).before a0 Z = true) (w4 : (Jvm.Cond.code y by' mL rt).before a0 Z = true) (hy : y.cls ≠ "java/lang/invoke/MethodHandle" ∧ y.cls ≠ "java/lang/invoke/VarHandle")
    (hds : parseMethodDescriptor y.desc = some ⟨ps, r'⟩) (hln : argsL.length = ps.length) (hst : st = argsL.reverse ++ rest) (hls : ls.size = maxL) (hd : decode bytes pc = .ok (.invokestatic i, 3)) (hq : pc + 3 = q)
    {W : Nat} (hW : (rest.map fun v => v.category).sum = W) (hf : rm.frames + 1 ≤ R.frames) (hlo : W + (mL + 11) + rm.locals ≤ R.locals) (hce : cl + rm.cells ≤ R.cells) (hsl : sl + rm.slots ≤ R.slots)
    (k : ∀ h', Q' h' → Wk l Z n0 own nm bytes maxL ret R kc ks wd Q h' (cl + rm.cells) (sl + rm.slots) q ls rest) : Wk l Z n0 own nm bytes maxL ret R kc ks wd Q h cl sl pc ls st := by
  subst hq hst hW
  intro p e s0 s m args below meth c T locs k0 hx hby hml hown hnm hr hlk hZ B hk X eT N
  obtain ⟨v, _, ⟨T', L', k', n'⟩, -, X', ⟨Lc, ⟨⟨N', hQ⟩, hsz⟩, l', y', z'⟩, stp⟩ := Jvm.LawKit.callS X hx (y := y) hown (mvT hZ w1) (mvT hZ w2) (mvT hZ w3) (mvT hZ w4) hy (backOf (W := (rest.map fun v => v.category).sum) (Q := fun v h' L => (Fr n0 L ∧ (fun v h' => v = none ∧ Q' h') v h') ∧ h.size ≤ h'.size) (Met.sz hM) hZ w4 w3 hf hlo) (g := mkF m pc ls (argsL.reverse ++ rest)) rfl (by rw [hml]; exact hls) (argsL := argsL) (rest := rest) (lenOf hds hln) rfl (by show 2 * 0 + _ ≤ _; omega) (hb hby hd) (fun _ _ => ⟨rfl, eT, hce, hsl⟩)
  dsimp only [Pt.U, Pt.locs, Pt.cells, Pt.slots] at X' l' y' z' stp hQ hsz
  subst l' y' z'
  obtain ⟨rfl, hQ⟩ := hQ
  obtain ⟨s₂, o, h1, r⟩ := k T'.heap hQ p e s0 s m args below meth c T' _ k0 hx hby hml hown hnm hr hlk hZ B (Nat.le_trans hk hsz) X' rfl (Fr.app N N')
  exact ⟨s₂, o, stp _ h1, r⟩
theorem Wk.callV {i : Nat} {C : String} {y : MethodName} {by' : ByteArray} {mL : Nat} {rt : Option FieldType} {rm : Room} {a : Addr} {argsL rest : List Value} {Q' : Value → Heap → Prop} {ps : List FieldType} {r' : Option FieldType}
    (hM : Met l Z n0 y by' mL rt rm (.ref a :: argsL).toArray h (fun v h' => ∃ w, v = some w ∧ Q' w h')) (E : Exa Z h a C)
    (w1 : (Jvm.Cond.methodLink own i y).before a0 Z = true) (w2 : (Jvm.Cond.declares y).before a0 Z = true) (w3 : (Jvm.Cond.selects C y y).before a0 Z = true) (w4 : (Jvm.Cond.instanceMethod y).before a0 Z = true) (w5 : (Jvm.Cond.code y by' mL rt).before a0 Z = true) (w6 : (Jvm.Cond.initialized y.cls).before a0 Z = true) (hy : y.cls ≠ "java/lang/invoke/MethodHandle" ∧ y.cls ≠ "java/lang/invoke/VarHandle")
    (hds : parseMethodDescriptor y.desc = some ⟨ps, r'⟩) (hln : argsL.length = ps.length) (hst : st = argsL.reverse ++ .ref a :: rest) (hls : ls.size = maxL) (hd : decode bytes pc = .ok (.invokevirtual i, 3)) (hq : pc + 3 = q)
    {W : Nat} (hW : (rest.map fun v => v.category).sum = W) (hf : rm.frames + 1 ≤ R.frames) (hlo : W + (mL + 11) + rm.locals ≤ R.locals) (hce : cl + rm.cells ≤ R.cells) (hsl : sl + rm.slots ≤ R.slots)
    (k : ∀ w h', Q' w h' → Wk l Z n0 own nm bytes maxL ret R kc ks wd Q h' (cl + rm.cells) (sl + rm.slots) q ls (w :: rest)) : Wk l Z n0 own nm bytes maxL ret R kc ks wd Q h cl sl pc ls st := by
  subst hq hst hW
  intro p e s0 s m args below meth c T locs k0 hx hby hml hown hnm hr hlk hZ B hk X eT N
  obtain ⟨cq, kq, q1, q2, q3⟩ := isOf hZ eT E
  obtain ⟨v, _, ⟨T', L', k', n'⟩, -, X', ⟨Lc, ⟨⟨N', hQ⟩, hsz⟩, l', y', z'⟩, stp⟩ := X.virtualBack hx (y := y) (z := y) hown (mvT hZ w1) (mvT hZ w2) (notFace_of_selects (args := #[]) (mvT hZ w3)) (mvT hZ w3) (mvT hZ w4) hy (backOf (W := (rest.map fun v => v.category).sum) (Q := fun v h' L => (Fr n0 L ∧ (fun v h' => ∃ w, v = some w ∧ Q' w h') v h') ∧ h.size ≤ h'.size) (Met.sz hM) hZ w5 w6 hf hlo) q1 q3 (g := mkF m pc ls (argsL.reverse ++ .ref a :: rest)) rfl (by rw [hml]; exact hls) (Steps.refl _) (argsL := argsL) (rest := rest) (lenOf hds hln) rfl (by show 2 * 0 + _ ≤ _; omega) (hb hby hd) (fun _ _ => ⟨rfl, eT, hce, hsl⟩)
  dsimp only [Pt.U, Pt.locs, Pt.cells, Pt.slots] at X' l' y' z' stp hQ hsz
  subst l' y' z'
  obtain ⟨w, rfl, hQ⟩ := hQ
  obtain ⟨s₂, o, h1, r⟩ := k w T'.heap hQ p e s0 s m args below meth c T' _ k0 hx hby hml hown hnm hr hlk hZ B (Nat.le_trans hk hsz) X' rfl (Fr.app N N')
  exact ⟨s₂, o, stp.trans h1, r⟩
theorem Wk.callV1 {i : Nat} {C : String} {y : MethodName} {by' : ByteArray} {mL : Nat} {rt : Option FieldType} {fr lo : Nat} {a : Addr} {argsL rest : List Value} {v0 : Value} {ps : List FieldType} {r' : Option FieldType}
    (hM : Met l Z n0 y by' mL rt ⟨fr, 0, 0, lo⟩ (.ref a :: argsL).toArray h (fun v h' => v = some v0 ∧ h' = h)) (E : Exa Z h a C)
    (w1 : (Jvm.Cond.methodLink own i y).before a0 Z = true) (w2 : (Jvm.Cond.declares y).before a0 Z = true) (w3 : (Jvm.Cond.selects C y y).before a0 Z = true) (w4 : (Jvm.Cond.instanceMethod y).before a0 Z = true) (w5 : (Jvm.Cond.code y by' mL rt).before a0 Z = true) (w6 : (Jvm.Cond.initialized y.cls).before a0 Z = true) (hy : y.cls ≠ "java/lang/invoke/MethodHandle" ∧ y.cls ≠ "java/lang/invoke/VarHandle")
    (hds : parseMethodDescriptor y.desc = some ⟨ps, r'⟩) (hln : argsL.length = ps.length) (hst : st = argsL.reverse ++ .ref a :: rest) (hls : ls.size = maxL) (hd : decode bytes pc = .ok (.invokevirtual i, 3)) (hq : pc + 3 = q)
    {W : Nat} (hW : (rest.map fun v => v.category).sum = W) (hf : fr + 1 ≤ R.frames) (hlo : W + (mL + 11) + lo ≤ R.locals) (hce : cl ≤ R.cells) (hsl : sl ≤ R.slots)
    (k : Wk l Z n0 own nm bytes maxL ret R kc ks wd Q h cl sl q ls (v0 :: rest)) : Wk l Z n0 own nm bytes maxL ret R kc ks wd Q h cl sl pc ls st :=
  Wk.callV (Q' := fun w h' => w = v0 ∧ h' = h) (rm := ⟨fr, 0, 0, lo⟩) (hM.mono fun v h' z => ⟨v0, z.1, rfl, z.2⟩) E w1 w2 w3 w4 w5 w6 hy hds hln hst hls hd hq hW hf hlo hce hsl (fun w h' z => by obtain ⟨rfl, rfl⟩ := z; exact k)
theorem Wk.callV0 {i : Nat} {C : String} {y : MethodName} {by' : ByteArray} {mL : Nat} {rt : Option FieldType} {rm : Room} {a : Addr} {argsL rest : List Value} {Q' : Heap → Prop} {ps : List FieldType} {r' : Option FieldType}
    (hM : Met l Z n0 y by' mL rt rm (.ref a :: argsL).toArray h (fun v h' => v = none ∧ Q' h')) (E : Exa Z h a C)
    (w1 : (Jvm.Cond.methodLink own i y).before a0 Z = true) (w2 : (Jvm.Cond.declares y).before a0 Z = true) (w3 : (Jvm.Cond.selects C y y).before a0 Z = true) (w4 : (Jvm.Cond.instanceMethod y).before a0 Z = true) (w5 : (Jvm.Cond.code y by' mL rt).before a0 Z = true) (w6 : (Jvm.Cond.initialized y.cls).before a0 Z = true) (hy : y.cls ≠ "java/lang/invoke/MethodHandle" ∧ y.cls ≠ "java/lang/invoke/VarHandle")
    (hds : parseMethodDescriptor y.desc = some ⟨ps, r'⟩) (hln : argsL.length = ps.length) (hst : st = argsL.reverse ++ .ref a :: rest) (hls : ls.size = maxL) (hd : decode bytes pc = .ok (.invokevirtual i, 3)) (hq : pc + 3 = q)
    {W : Nat} (hW : (rest.map fun v => v.category).sum = W) (hf : rm.frames + 1 ≤ R.frames) (hlo : W + (mL + 11) + rm.locals ≤ R.locals) (hce : cl + rm.cells ≤ R.cells) (hsl : sl + rm.slots ≤ R.slots)
    (k : ∀ h', Q' h' → Wk l Z n0 own nm bytes maxL ret R kc ks wd Q h' (cl + rm.cells) (sl + rm.slots) q ls rest) : Wk l Z n0 own nm bytes maxL ret R kc ks wd Q h cl sl pc ls st := by
  subst hq hst hW
  intro p e s0 s m args below meth c T locs k0 hx hby hml hown hnm hr hlk hZ B hk X eT N
  obtain ⟨cq, kq, q1, q2, q3⟩ := isOf hZ eT E
  obtain ⟨v, _, ⟨T', L', k', n'⟩, -, X', ⟨Lc, ⟨⟨N', hQ⟩, hsz⟩, l', y', z'⟩, stp⟩ := X.virtualBack hx (y := y) (z := y) hown (mvT hZ w1) (mvT hZ w2) (notFace_of_selects (args := #[]) (mvT hZ w3)) (mvT hZ w3) (mvT hZ w4) hy (backOf (W := (rest.map fun v => v.category).sum) (Q := fun v h' L => (Fr n0 L ∧ (fun v h' => v = none ∧ Q' h') v h') ∧ h.size ≤ h'.size) (Met.sz hM) hZ w5 w6 hf hlo) q1 q3 (g := mkF m pc ls (argsL.reverse ++ .ref a :: rest)) rfl (by rw [hml]; exact hls) (Steps.refl _) (argsL := argsL) (rest := rest) (lenOf hds hln) rfl (by show 2 * 0 + _ ≤ _; omega) (hb hby hd) (fun _ _ => ⟨rfl, eT, hce, hsl⟩)
  dsimp only [Pt.U, Pt.locs, Pt.cells, Pt.slots] at X' l' y' z' stp hQ hsz
  subst l' y' z'
  obtain ⟨rfl, hQ⟩ := hQ
  obtain ⟨s₂, o, h1, r⟩ := k T'.heap hQ p e s0 s m args below meth c T' _ k0 hx hby hml hown hnm hr hlk hZ B (Nat.le_trans hk hsz) X' rfl (Fr.app N N')
  exact ⟨s₂, o, stp.trans h1, r⟩
theorem Wk.callU {i : Nat} {C owner : String} {y z : MethodName} {by' : ByteArray} {mL : Nat} {rt : Option FieldType} {rm : Room} {a : Addr} {argsL rest : List Value} {Q' : Value → Heap → Prop} {ps : List FieldType} {r' : Option FieldType}
    (hM : Met l Z n0 z by' mL rt rm (.ref a :: argsL).toArray h (fun v h' => ∃ w, v = some w ∧ Q' w h')) (E : Exa Z h a C)
    (w1 : (Jvm.Cond.methodLink own i y).before a0 Z = true) (w2 : (Jvm.Cond.sameMethod y.cls owner y.name y.desc).before a0 Z = true) (w3 : (Jvm.Cond.declares ⟨owner, y.name, y.desc⟩).before a0 Z = true) (w4 : (Jvm.Cond.selects C y z).before a0 Z = true) (w5 : (Jvm.Cond.instanceMethod z).before a0 Z = true) (w6 : (Jvm.Cond.code z by' mL rt).before a0 Z = true) (w7 : (Jvm.Cond.initialized z.cls).before a0 Z = true) (hy : owner ≠ "java/lang/invoke/MethodHandle" ∧ owner ≠ "java/lang/invoke/VarHandle")
    (hds : parseMethodDescriptor y.desc = some ⟨ps, r'⟩) (hln : argsL.length = ps.length) (hst : st = argsL.reverse ++ .ref a :: rest) (hls : ls.size = maxL) (hd : decode bytes pc = .ok (.invokevirtual i, 3)) (hq : pc + 3 = q)
    {W : Nat} (hW : (rest.map fun v => v.category).sum = W) (hf : rm.frames + 1 ≤ R.frames) (hlo : W + (mL + 11) + rm.locals ≤ R.locals) (hce : cl + rm.cells ≤ R.cells) (hsl : sl + rm.slots ≤ R.slots)
    (k : ∀ w h', Q' w h' → Wk l Z n0 own nm bytes maxL ret R kc ks wd Q h' (cl + rm.cells) (sl + rm.slots) q ls (w :: rest)) : Wk l Z n0 own nm bytes maxL ret R kc ks wd Q h cl sl pc ls st := by
  subst hq hst hW
  intro p e s0 s m args below meth c T locs k0 hx hby hml hown hnm hr hlk hZ B hk X eT N
  obtain ⟨cq, kq, q1, q2, q3⟩ := isOf hZ eT E
  obtain ⟨v, _, ⟨T', L', k', n'⟩, -, X', ⟨Lc, ⟨⟨N', hQ⟩, hsz⟩, l', y', z'⟩, stp⟩ := X.virtualBackUp hx (x := y) (y := z) (owner := owner) hown (mvT hZ w1) (mvT hZ w2) (mvT hZ w3) hy (mvT hZ w4) (mvT hZ w5) (backOf (W := (rest.map fun v => v.category).sum) (Q := fun v h' L => (Fr n0 L ∧ (fun v h' => ∃ w, v = some w ∧ Q' w h') v h') ∧ h.size ≤ h'.size) (Met.sz hM) hZ w6 w7 hf hlo) q1 q3 (g := mkF m pc ls (argsL.reverse ++ .ref a :: rest)) rfl (by rw [hml]; exact hls) (Steps.refl _) (argsL := argsL) (rest := rest) (lenOf hds hln) rfl (by show 2 * 0 + _ ≤ _; omega) (hb hby hd) (fun _ _ => ⟨rfl, eT, hce, hsl⟩)
  dsimp only [Pt.U, Pt.locs, Pt.cells, Pt.slots] at X' l' y' z' stp hQ hsz
  subst l' y' z'
  obtain ⟨w, rfl, hQ⟩ := hQ
  obtain ⟨s₂, o, h1, r⟩ := k w T'.heap hQ p e s0 s m args below meth c T' _ k0 hx hby hml hown hnm hr hlk hZ B (Nat.le_trans hk hsz) X' rfl (Fr.app N N')
  exact ⟨s₂, o, stp.trans h1, r⟩
theorem Wk.callU1 {i : Nat} {C owner : String} {y z : MethodName} {by' : ByteArray} {mL : Nat} {rt : Option FieldType} {fr lo : Nat} {a : Addr} {argsL rest : List Value} {v0 : Value} {ps : List FieldType} {r' : Option FieldType}
    (hM : Met l Z n0 z by' mL rt ⟨fr, 0, 0, lo⟩ (.ref a :: argsL).toArray h (fun v h' => v = some v0 ∧ h' = h)) (E : Exa Z h a C)
    (w1 : (Jvm.Cond.methodLink own i y).before a0 Z = true) (w2 : (Jvm.Cond.sameMethod y.cls owner y.name y.desc).before a0 Z = true) (w3 : (Jvm.Cond.declares ⟨owner, y.name, y.desc⟩).before a0 Z = true) (w4 : (Jvm.Cond.selects C y z).before a0 Z = true) (w5 : (Jvm.Cond.instanceMethod z).before a0 Z = true) (w6 : (Jvm.Cond.code z by' mL rt).before a0 Z = true) (w7 : (Jvm.Cond.initialized z.cls).before a0 Z = true) (hy : owner ≠ "java/lang/invoke/MethodHandle" ∧ owner ≠ "java/lang/invoke/VarHandle")
    (hds : parseMethodDescriptor y.desc = some ⟨ps, r'⟩) (hln : argsL.length = ps.length) (hst : st = argsL.reverse ++ .ref a :: rest) (hls : ls.size = maxL) (hd : decode bytes pc = .ok (.invokevirtual i, 3)) (hq : pc + 3 = q)
    {W : Nat} (hW : (rest.map fun v => v.category).sum = W) (hf : fr + 1 ≤ R.frames) (hlo : W + (mL + 11) + lo ≤ R.locals) (hce : cl ≤ R.cells) (hsl : sl ≤ R.slots)
    (k : Wk l Z n0 own nm bytes maxL ret R kc ks wd Q h cl sl q ls (v0 :: rest)) : Wk l Z n0 own nm bytes maxL ret R kc ks wd Q h cl sl pc ls st :=
  Wk.callU (Q' := fun w h' => w = v0 ∧ h' = h) (rm := ⟨fr, 0, 0, lo⟩) (hM.mono fun v h' z => ⟨v0, z.1, rfl, z.2⟩) E w1 w2 w3 w4 w5 w6 w7 hy hds hln hst hls hd hq hW hf hlo hce hsl (fun w h' z => by obtain ⟨rfl, rfl⟩ := z; exact k)
theorem Wk.callS2 {i : Nat} {y : MethodName} {by' : ByteArray} {mL : Nat} {rt : Option FieldType} {fr lo : Nat} {argsL rest : List Value} {P : Value → Prop} {ps : List FieldType} {r' : Option FieldType}
    (hM : Met l Z n0 y by' mL rt ⟨fr, 0, 0, lo⟩ argsL.toArray h (fun v h' => (∃ w, v = some w ∧ P w) ∧ h' = h))
    (w1 : (Jvm.Cond.methodLink own i y).before a0 Z = true) (w2 : (Jvm.Cond.static y).before a0 Z = true) (w3 : (Jvm.Cond.initialized y.cls).before a0 Z = true) (w4 : (Jvm.Cond.code y by' mL rt).before a0 Z = true) (hy : y.cls ≠ "java/lang/invoke/MethodHandle" ∧ y.cls ≠ "java/lang/invoke/VarHandle")
    (hds : parseMethodDescriptor y.desc = some ⟨ps, r'⟩) (hln : argsL.length = ps.length) (hst : st = argsL.reverse ++ rest) (hls : ls.size = maxL) (hd : decode bytes pc = .ok (.invokestatic i, 3)) (hq : pc + 3 = q)
    {W : Nat} (hW : (rest.map fun v => v.category).sum = W) (hf : fr + 1 ≤ R.frames) (hlo : W + (mL + 11) + lo ≤ R.locals) (hce : cl ≤ R.cells) (hsl : sl ≤ R.slots)
    (k : ∀ w, P w → Wk l Z n0 own nm bytes maxL ret R kc ks wd Q h cl sl q ls (w :: rest)) : Wk l Z n0 own nm bytes maxL ret R kc ks wd Q h cl sl pc ls st :=
  Wk.callS (Q' := fun w h' => P w ∧ h' = h) (rm := ⟨fr, 0, 0, lo⟩) (hM.mono fun v h' z => by obtain ⟨⟨w, e, p⟩, q⟩ := z; exact ⟨w, e, p, q⟩) w1 w2 w3 w4 hy hds hln hst hls hd hq hW hf hlo hce hsl (fun w h' z => by obtain ⟨z1, rfl⟩ := z; exact k w z1)
theorem Wk.callV2 {i : Nat} {C : String} {y : MethodName} {a : Addr} {by' : ByteArray} {mL : Nat} {rt : Option FieldType} {fr lo : Nat} {argsL rest : List Value} {P : Value → Prop} {ps : List FieldType} {r' : Option FieldType}
    (hM : Met l Z n0 y by' mL rt ⟨fr, 0, 0, lo⟩ (.ref a :: argsL).toArray h (fun v h' => (∃ w, v = some w ∧ P w) ∧ h' = h)) (E : Exa Z h a C)
    (w1 : (Jvm.Cond.methodLink own i y).before a0 Z = true) (w2 : (Jvm.Cond.declares y).before a0 Z = true) (w3 : (Jvm.Cond.selects C y y).before a0 Z = true) (w4 : (Jvm.Cond.instanceMethod y).before a0 Z = true) (w5 : (Jvm.Cond.code y by' mL rt).before a0 Z = true) (w6 : (Jvm.Cond.initialized y.cls).before a0 Z = true) (hy : y.cls ≠ "java/lang/invoke/MethodHandle" ∧ y.cls ≠ "java/lang/invoke/VarHandle")
    (hds : parseMethodDescriptor y.desc = some ⟨ps, r'⟩) (hln : argsL.length = ps.length) (hst : st = argsL.reverse ++ .ref a :: rest) (hls : ls.size = maxL) (hd : decode bytes pc = .ok (.invokevirtual i, 3)) (hq : pc + 3 = q)
    {W : Nat} (hW : (rest.map fun v => v.category).sum = W) (hf : fr + 1 ≤ R.frames) (hlo : W + (mL + 11) + lo ≤ R.locals) (hce : cl ≤ R.cells) (hsl : sl ≤ R.slots)
    (k : ∀ w, P w → Wk l Z n0 own nm bytes maxL ret R kc ks wd Q h cl sl q ls (w :: rest)) : Wk l Z n0 own nm bytes maxL ret R kc ks wd Q h cl sl pc ls st :=
  Wk.callV (Q' := fun w h' => P w ∧ h' = h) (rm := ⟨fr, 0, 0, lo⟩) (hM.mono fun v h' z => by obtain ⟨⟨w, e, p⟩, q⟩ := z; exact ⟨w, e, p, q⟩) E w1 w2 w3 w4 w5 w6 hy hds hln hst hls hd hq hW hf hlo hce hsl (fun w h' z => by obtain ⟨z1, rfl⟩ := z; exact k w z1)
/-! the case's words -/
theorem own_exa {args : Array Value} {C n d K : String} (hx : (Jvm.Cond.exactly (.static C n d) K).value args Z none Z [] = some true) (wi : (Jvm.Cond.initialized C).before args Z = true) (wl : (Jvm.Cond.laysStatic C n d).before args Z = true) :
    ∃ a, (Term.static C n d).eval args Z none [] Z = some (.ref a) ∧ Sta Z Z.heap C n d (.ref a) ∧ Exa Z Z.heap a K := by
  obtain ⟨a, ev⟩ := exa_v hx
  exact ⟨a, ev, Sta.start ev (Or.inr ⟨wi, wl⟩), Exa.start ev hx⟩
theorem own_arr {args : Array Value} {C n d : String} {ty : FieldType} (hx : (Jvm.Cond.arrayOf (.static C n d) ty).value args Z none Z [] = some true) (wi : (Jvm.Cond.initialized C).before args Z = true) (wl : (Jvm.Cond.laysStatic C n d).before args Z = true) :
    ∃ a c, (Term.static C n d).eval args Z none [] Z = some (.ref a) ∧ Sta Z Z.heap C n d (.ref a) ∧ Arr Z Z.heap a c ty := by
  obtain ⟨a, ev⟩ := arr_v hx
  obtain ⟨c, A⟩ := Arr.start ev hx
  exact ⟨a, c, ev, Sta.start ev (Or.inr ⟨wi, wl⟩), A⟩
theorem own_eqi {args : Array Value} {t u : Term} {y : Int32} {idx : List Nat} (h : (Jvm.Cond.eq t u).value args Z none Z idx = some true) (hu : u.eval args Z none idx Z = some (.int y)) : t.eval args Z none idx Z = some (.int y) := by
  obtain ⟨x, y', h1, h2, k1, k2⟩ := cmp_v (Or.inl h)
  cases hu.symm.trans h2
  obtain ⟨z, rfl⟩ := k2
  have e : z = y := by simpa [Cond.value, h1, hu] using h
  rw [h1, e]
theorem own_eqr {args : Array Value} {t u : Term} {y : Addr} {idx : List Nat} (h : (Jvm.Cond.eq t u).value args Z none Z idx = some true) (hu : u.eval args Z none idx Z = some (.ref y)) : t.eval args Z none idx Z = some (.ref y) := by
  obtain ⟨x, y', h1, h2, k1, k2⟩ := cmp_v (Or.inl h)
  cases hu.symm.trans h2
  have e := gotT (eq_R h1 hu k2.2 rfl) h
  rw [h1, e]
theorem own_fld {args : Array Value} {t : Term} {O f d : String} {a : Addr} {v : Value} (ev : t.eval args Z none [] Z = some (.ref a)) (e : (Term.field t O f d).eval args Z none [] Z = some v) : Fld Z Z.heap a O f d v :=
  Fld.start ((fld_at ev).symm.trans e)
theorem own_len {args : Array Value} {t : Term} {a : Addr} {c : Cell} {ty : FieldType} {n : Int32} {k : Nat} (ev : t.eval args Z none [] Z = some (.ref a)) (A : Arr Z Z.heap a c ty) (e : (Term.length t).eval args Z none [] Z = some (.int n)) (hk : n.toInt = (k : Int)) : c.slots.size = k := by
  have hA : Z.arrayAt? a = some c := A.fin (Vm.Alike.refl _)
  have hs : c.slots.size < 2 ^ 31 := by
    by_cases q : c.slots.size < 2 ^ 31
    · exact q
    · simp [Term.eval, ev, hA, q] at e
  have e2 := (len_f ev hA hs).symm.trans e
  have e3 : c.slots.size.toInt32 = n := by injection e2 with e2; injection e2
  have e4 := len_toInt hs
  rw [e3, hk] at e4
  exact (Int.ofNat.inj e4).symm
theorem own_elem {args : Array Value} {t : Term} {a : Addr} {c : Cell} {ty : FieldType} {i : Int32} {v : Value} {idx : List Nat} (ev : t.eval args Z none idx Z = some (.ref a)) (A : Arr Z Z.heap a c ty) (e : (Term.elem t (.int i)).eval args Z none idx Z = some v) : c.slots[i.toNatClampNeg]? = some v :=
  (elem_in e ev (Term.int_eval i) A.1).2
theorem own_all {args : Array Value} {C n d : String} {c : Jvm.Cond} {a : Addr} {cl : Cell} {ty : FieldType} (ev : (Term.static C n d).eval args Z none [] Z = some (.ref a)) (A : Arr Z Z.heap a cl ty) (h : (Jvm.Cond.all (.static C n d) c).value args Z none Z [] = some true) (k : Nat) (hk : k < cl.slots.size) : c.value args Z none Z [k] = some true :=
  Cond.all_elim ev (A.fin (Vm.Alike.refl _)) h k hk
theorem own_tk {args : Array Value} {C n d : String} {a : Addr} {cl : Cell} {ty : FieldType} {v : Int32} {k : Nat} (ev : (Term.static C n d).eval args Z none [] Z = some (.ref a)) (A : Arr Z Z.heap a cl ty) (hk : k < 256) (h : (Jvm.Cond.eq (.elem (.static C n d) (.index 0)) (.int v)).value args Z none Z [k] = some true) : cl.slots[k]? = some (.int v) := by
  have ev' : (Term.static C n d).eval args Z none [k] Z = some (.ref a) := ev
  have e := (elem_in (own_eqi h (Term.int_eval v)) ev' (Term.index_eval k) A.1).2
  have q : k.toInt32.toNatClampNeg = k := by simp only [Int32.toNatClampNeg, len_toInt (show k < 2 ^ 31 by omega)]; rfl
  rwa [q] at e
theorem own_or {args : Array Value} {G X : Jvm.Cond} {P : Prop} [Decidable P] {idx : List Nat} (h : (Jvm.Cond.or G X).value args Z none Z idx = some true) (hG : G.value args Z none Z idx = some (decide P)) (np : ¬ P) : X.value args Z none Z idx = some true := by
  rwa [Cond.or_of_right (by rw [hG]; simp [np])] at h
theorem own_kle {a : Int32} {k m : Nat} (ha : a.toInt = (m : Int)) (hk : k < 256) : a ≤ k.toInt32 ↔ m ≤ k := by
  rw [Int32.le_iff_toInt_le, ha, len_toInt (show k < 2 ^ 31 by omega)]; omega
theorem own_klt {a : Int32} {k m : Nat} (ha : a.toInt = (m : Int)) (hk : k < 256) : k.toInt32 < a ↔ k < m := by
  rw [Int32.lt_iff_toInt_lt, ha, len_toInt (show k < 2 ^ 31 by omega)]; omega
theorem own_neR {a b : Addr} (h : a ≠ b) : ¬ (Value.ref a) = (Value.ref b) := fun e => h (Value.ref.inj e)
theorem own_neN {a : Addr} : ¬ (Value.ref a) = Value.null := fun e => nomatch e
theorem own_nNe {a : Addr} : ¬ Value.null = (Value.ref a) := fun e => nomatch e
/-- (x & 0x7fffffff) % n lies from 0 to n - 1 -/
theorem own_mod (x n : Int32) (hn : 0 < n.toInt) : 0 ≤ ((x &&& 2147483647) % n).toInt ∧ ((x &&& 2147483647) % n).toInt < n.toInt := by
  have h1 := c_and x 2147483647 (by decide)
  rw [Int32.toInt_mod]
  have h2 := Int.tmod_nonneg n.toInt h1.1
  have h3 := Int.tmod_lt_of_pos (x &&& 2147483647).toInt hn
  exact ⟨h2, h3⟩
theorem own_cl_lt (x y : Int64) : XT.cmpL x y < 0 ↔ x < y := by unfold XT.cmpL; split <;> (try split) <;> simp_all [Int64.lt_iff_toInt_lt, ← Int64.toInt_inj] <;> omega
theorem own_cl_gt (x y : Int64) : 0 < XT.cmpL x y ↔ y < x := by unfold XT.cmpL; split <;> (try split) <;> simp_all [Int64.lt_iff_toInt_lt, ← Int64.toInt_inj] <;> omega
theorem own_cl_eq (x y : Int64) : XT.cmpL x y = 0 ↔ x = y := by unfold XT.cmpL; split <;> (try split) <;> simp_all [Int64.lt_iff_toInt_lt, ← Int64.toInt_inj] <;> omega
theorem own_i32 {x y : Int32} (e : x.toInt = y.toInt) : x = y := Int32.toInt_inj.mp e
end Own
section Own2
variable {l : Launch} {Z : State} {a0 : Array Value} {n0 : Nat} {own nm : String} {bytes : ByteArray} {maxL : Nat} {ret : Option FieldType} {R : Room} {kc ks : Nat} {wd : Bool} {Q : Option Value → Heap → Prop} {h : Heap} {cl sl pc q : Nat} {ls ls' : Array Slot} {st st' rest : List Value}
theorem own_hit {h' : Heap} {a : Addr} {sl n j : Nat} {v : Value} {c : Cell} (W : Wr h h' a sl v) (S : c.slots.size = n) (hj : sl = j) (hl : j < n) : (c.setSlot sl v).slots[j]? = some v := by
  subst hj S; simp [Cell.setSlot, hl]
theorem own_miss {h' : Heap} {a : Addr} {sl j : Nat} {v w : Value} {c : Cell} (W : Wr h h' a sl v) (hj : sl ≠ j) (e : c.slots[j]? = some w) : (c.setSlot sl v).slots[j]? = some w := by
  rw [← e]; exact Array.getElem?_setIfInBounds_ne hj
theorem own_szs {h' : Heap} {a : Addr} {sl n : Nat} {v : Value} {c : Cell} (W : Wr h h' a sl v) (S : c.slots.size = n) : (c.setSlot sl v).slots.size = n := (sz_set _ _ _).trans S
theorem own_ge (O : Old Z n0 h) : n0 ≤ h.size := by have := O.1; have := O.2.1; omega
theorem Wk.new {i n : Nat} {C : String} (w : (Jvm.Cond.classLink own i C).before a0 Z = true) (wi : (Jvm.Cond.instantiable C n).before a0 Z = true) (wz : (Jvm.Cond.initialized C).before a0 Z = true) (hd : decode bytes pc = .ok (.new i, 3)) (hq : pc + 3 = q) (hc : cl + 1 ≤ R.cells) (hl : sl + n ≤ R.slots)
    (k : ∀ h' a, a = h.size → Ext h h' → Exa Z h' a C → (∀ {O f d : String} {ty : FieldType}, Laid Z a0 C O f d → parseFieldDescriptor d = some ty → Fld Z h' a O f d (defaultValue ty)) → Wk l Z n0 own nm bytes maxL ret R kc ks wd Q h' (cl + 1) (sl + n) q ls (.ref a :: st)) : Wk l Z n0 own nm bytes maxL ret R kc ks wd Q h cl sl pc ls st := by
  subst hq
  intro p e s0 s m args below meth c T locs k0 hx hby hml hown hnm hr hlk hZ B hk X eT N
  obtain ⟨T', h', X', e', E, A, D, -, stp⟩ := newO X hx hZ hown w wi wz eT (g := mkF m pc ls st) rfl (hb hby hd) hc hl
  obtain ⟨s₂, o, h1, r⟩ := k h' _ rfl E A D p e s0 s m args below meth c T' _ k0 hx hby hml hown hnm hr hlk hZ B (Nat.le_trans hk E.1) X' e' N
  exact ⟨s₂, o, stp _ h1, r⟩
theorem Wk.putF {O f d C R0 : String} {i kk : Nat} {ty : FieldType} {a : Addr} {v old : Value} (w : (Jvm.Cond.fieldLink own i R0 f d).before a0 Z = true) (via : Via Z R0 O f d) (F : Fld Z h a O f d old) (E : Exa Z h a C) (L : (Jvm.Cond.lays C O f d).before a0 Z = true ∨ ((Jvm.Cond.laysFinal C O f d).before a0 Z = true ∧ own = O ∧ nm = "<init>")) (wi : (Jvm.Cond.instantiable C kk).before a0 Z = true)
    (hty : parseFieldDescriptor d = some ty) (hn : narrow ty v = v) (hf : fits ty v = true) (hd : decode bytes pc = .ok (.putfield i, 3)) (hq : pc + 3 = q) (ha : n0 ≤ a)
    (k : ∀ h', Wr h h' a (RoadKit.slotOf Z O f d) v → Wk l Z n0 own nm bytes maxL ret R kc ks wd Q h' cl sl q ls st) : Wk l Z n0 own nm bytes maxL ret R kc ks wd Q h cl sl pc ls (v :: .ref a :: st) := by
  subst hq
  intro p e s0 s m args below meth c T locs k0 hx hby hml hown hnm hr hlk hZ B hk X eT N
  obtain ⟨T', h', X', e', W', stp⟩ := RoadKit.putF X hx hZ hown (host := "") (Or.inl w) via eT F E (L.imp id fun z => ⟨z.1, z.2.1, hnm.trans z.2.2⟩) wi hty hn hf (g := mkF m pc ls (v :: .ref a :: st)) rfl rfl (hb hby hd)
  obtain ⟨s₂, o, h1, r⟩ := k h' W' p e s0 s m args below meth c T' _ k0 hx hby hml hown hnm hr hlk hZ B (by rw [W'.size]; exact hk) X' e' (Fr.snoc X' N ha)
  exact ⟨s₂, o, stp _ h1, r⟩
theorem Wk.initO {i : Nat} {a : Addr} {W : Nat} (w1 : (Jvm.Cond.methodLink own i Lib.objectInit).before a0 Z = true) (w2 : (Jvm.Cond.instanceMethod Lib.objectInit).before a0 Z = true) (w3 : (Jvm.Cond.code Lib.objectInit ⟨#[0xb1]⟩ 1 none).before a0 Z = true) (hd : decode bytes pc = .ok (.invokespecial i, 3)) (hq : pc + 3 = q) (hls : ls.size = maxL) (hf : 1 ≤ R.frames) (hW : (st.map fun v => v.category).sum = W) (hl : W + 12 ≤ R.locals)
    (k : Wk l Z n0 own nm bytes maxL ret R kc ks wd Q h cl sl q ls st) : Wk l Z n0 own nm bytes maxL ret R kc ks wd Q h cl sl pc ls (.ref a :: st) := by
  subst hq hW
  intro p e s0 s m args below meth c T locs k0 hx hby hml hown hnm hr hlk hZ B hk X eT N
  obtain ⟨T', X', e', stp⟩ := RoadKit.initO X hx hZ hown w1 w2 w3 eT (g := mkF m pc ls (.ref a :: st)) rfl (by rw [hml]; exact hls) rfl (hb hby hd) hf (W := (st.map fun v => v.category).sum) (by show 2 * 0 + _ ≤ _; omega) hl
  obtain ⟨s₂, o, h1, r⟩ := k p e s0 s m args below meth c T' _ k0 hx hby hml hown hnm hr hlk hZ B hk X' e' N
  exact ⟨s₂, o, stp _ h1, r⟩
theorem Wk.special {i : Nat} {y : MethodName} {by' : ByteArray} {mL : Nat} {rm : Room} {a : Addr} {argsL rest : List Value} {Q' : Heap → Prop} {ps : List FieldType} {r' : Option FieldType}
    (hM : Met l Z n0 y by' mL none rm (.ref a :: argsL).toArray h (fun v h' => v = none ∧ Q' h'))
    (hy1 : y.name = "<init>") (w1 : (Jvm.Cond.methodLink own i y).before a0 Z = true) (w2 : (Jvm.Cond.instanceMethod y).before a0 Z = true) (w3 : (Jvm.Cond.code y by' mL none).before a0 Z = true) (w4 : (Jvm.Cond.initialized y.cls).before a0 Z = true) (hy : y.cls ≠ "java/lang/invoke/MethodHandle" ∧ y.cls ≠ "java/lang/invoke/VarHandle")
    (hds : parseMethodDescriptor y.desc = some ⟨ps, r'⟩) (hln : argsL.length = ps.length) (hst : st = argsL.reverse ++ .ref a :: rest) (hls : ls.size = maxL) (hd : decode bytes pc = .ok (.invokespecial i, 3)) (hq : pc + 3 = q)
    {W : Nat} (hW : (rest.map fun v => v.category).sum = W) (hf : rm.frames + 1 ≤ R.frames) (hlo : W + (mL + 11) + rm.locals ≤ R.locals) (hce : cl + rm.cells ≤ R.cells) (hsl : sl + rm.slots ≤ R.slots)
    (k : ∀ h', Q' h' → Wk l Z n0 own nm bytes maxL ret R kc ks wd Q h' (cl + rm.cells) (sl + rm.slots) q ls rest) : Wk l Z n0 own nm bytes maxL ret R kc ks wd Q h cl sl pc ls st := by
  subst hq hst hW
  intro p e s0 s m args below meth c T locs k0 hx hby hml hown hnm hr hlk hZ B hk X eT N
  obtain ⟨v, _, ⟨T', L', k', n'⟩, -, X', ⟨Lc, ⟨⟨N', hQ⟩, hsz⟩, l', y', z'⟩, stp⟩ := X.specialBack hx (y := y) hy1 hown (mvT hZ w1) (mvT hZ w2) (mvT hZ w3) hy (backOf (W := (rest.map fun v => v.category).sum) (Q := fun v h' L => (Fr n0 L ∧ (fun v h' => v = none ∧ Q' h') v h') ∧ h.size ≤ h'.size) (Met.sz hM) hZ w3 w4 hf hlo) (g := mkF m pc ls (argsL.reverse ++ .ref a :: rest)) rfl (by rw [hml]; exact hls) (Steps.refl _) (a := a) (argsL := argsL) (rest := rest) (lenOf hds hln) rfl (by show 2 * 0 + _ ≤ _; omega) (hb hby hd) (fun _ _ => ⟨rfl, eT, hce, hsl⟩)
  dsimp only [Pt.U, Pt.locs, Pt.cells, Pt.slots] at X' l' y' z' stp hQ hsz
  subst l' y' z'
  obtain ⟨rfl, hQ⟩ := hQ
  obtain ⟨s₂, o, h1, r⟩ := k T'.heap hQ p e s0 s m args below meth c T' _ k0 hx hby hml hown hnm hr hlk hZ B (Nat.le_trans hk hsz) X' rfl (Fr.app N N')
  exact ⟨s₂, o, stp.trans h1, r⟩
theorem Wk.newP {aty : ArrayType} {n : Int32} (w : (Jvm.Cond.arrayClass (newarray.typeOf aty)).before a0 Z = true) (hd : decode bytes pc = .ok (.newarray aty, 2)) (hq : pc + 2 = q) (hn : ¬ n < 0) {cap : Nat} (hcap : n.toNatClampNeg ≤ cap) (hb8 : cap * 8 ≤ 536870912) (hc : cl + 1 ≤ R.cells) (hl : sl + cap ≤ R.slots)
    (k : ∀ h' a cA, a = h.size → Ext h h' → Arr Z h' a (newA cA (newarray.typeOf aty) n) (newarray.typeOf aty) → Wk l Z n0 own nm bytes maxL ret R kc ks wd Q h' (cl + 1) (sl + cap) q ls (.ref a :: st)) : Wk l Z n0 own nm bytes maxL ret R kc ks wd Q h cl sl pc ls (.int n :: st) := by
  subst hq
  intro p e s0 s m args below meth c T locs k0 hx hby hml hown hnm hr hlk hZ B hk X eT N
  obtain ⟨T', h', cA, X', e', E, A, stp⟩ := RoadKit.newP X hx hZ w eT (g := mkF m pc ls (.int n :: st)) rfl (hb hby hd) rfl hn hcap hb8 hc hl
  obtain ⟨s₂, o, h1, r⟩ := k h' _ cA rfl E A p e s0 s m args below meth c T' _ k0 hx hby hml hown hnm hr hlk hZ B (Nat.le_trans hk E.1) X' e' N
  exact ⟨s₂, o, stp _ h1, r⟩
theorem Wk.newR {i : Nat} {C : String} {n : Int32} (w1 : (Jvm.Cond.classLink own i C).before a0 Z = true) (w2 : (Jvm.Cond.arrayOver (.object C)).before a0 Z = true) (hd : decode bytes pc = .ok (.anewarray i, 3)) (hq : pc + 3 = q) (hn : ¬ n < 0) {cap : Nat} (hcap : n.toNatClampNeg ≤ cap) (hb8 : cap * 8 ≤ 536870912) (hc : cl + 1 ≤ R.cells) (hl : sl + cap ≤ R.slots)
    (k : ∀ h' a cA, a = h.size → Ext h h' → Arr Z h' a (newA cA (.object C) n) (.object C) → Ovr Z cA C → Wk l Z n0 own nm bytes maxL ret R kc ks wd Q h' (cl + 1) (sl + cap) q ls (.ref a :: st)) : Wk l Z n0 own nm bytes maxL ret R kc ks wd Q h cl sl pc ls (.int n :: st) := by
  subst hq
  intro p e s0 s m args below meth c T locs k0 hx hby hml hown hnm hr hlk hZ B hk X eT N
  obtain ⟨T', h', cA, X', e', E, A, -, O, stp⟩ := RoadKit.newRE X hx hZ hown w1 w2 eT (g := mkF m pc ls (.int n :: st)) rfl (hb hby hd) rfl hn hcap hb8 hc hl rfl
  obtain ⟨s₂, o, h1, r⟩ := k h' _ cA rfl E A O p e s0 s m args below meth c T' _ k0 hx hby hml hown hnm hr hlk hZ B (Nat.le_trans hk E.1) X' e' N
  exact ⟨s₂, o, stp _ h1, r⟩
theorem Wk.stB {a : Addr} {c0 : Cell} {j x v : Int32} (A : Arr Z h a c0 .byte) (hj : ¬ (j < 0 ∨ c0.slots.size ≤ j.toNatClampNeg)) (hv : nar .byte x = v) (hd : decode bytes pc = .ok (.bastore, 1)) (hq : pc + 1 = q) (ha : n0 ≤ a)
    (k : ∀ h', Wr h h' a j.toNatClampNeg (.int v) → Wk l Z n0 own nm bytes maxL ret R kc ks wd Q h' cl sl q ls st) : Wk l Z n0 own nm bytes maxL ret R kc ks wd Q h cl sl pc ls (.int x :: .int j :: .ref a :: st) := by
  subst hq hv
  intro p e s0 s m args below meth c T locs k0 hx hby hml hown hnm hr hlk hZ B hk X eT N
  obtain ⟨T', h', X', e', W', stp⟩ := RoadKit.stB X hx hZ eT A hj (g := mkF m pc ls (.int x :: .int j :: .ref a :: st)) rfl rfl (hb hby hd)
  obtain ⟨s₂, o, h1, r⟩ := k h' W' p e s0 s m args below meth c T' _ k0 hx hby hml hown hnm hr hlk hZ B (by rw [W'.size]; exact hk) X' e' (Fr.snoc X' N ha)
  exact ⟨s₂, o, stp _ h1, r⟩
theorem Wk.stR {a : Addr} {c0 : Cell} {ty : FieldType} {j : Int32} {v : Value} (A : Arr Z h a c0 ty) (hj : ¬ (j < 0 ∨ c0.slots.size ≤ j.toNatClampNeg)) (hty : ty.isReference = true) (F : Sto Z h a v) (hv : v.isRef = true) (hd : decode bytes pc = .ok (.aastore, 1)) (hq : pc + 1 = q) (ha : n0 ≤ a)
    (k : ∀ h', Wr h h' a j.toNatClampNeg v → Wk l Z n0 own nm bytes maxL ret R kc ks wd Q h' cl sl q ls st) : Wk l Z n0 own nm bytes maxL ret R kc ks wd Q h cl sl pc ls (v :: .int j :: .ref a :: st) := by
  subst hq
  intro p e s0 s m args below meth c T locs k0 hx hby hml hown hnm hr hlk hZ B hk X eT N
  obtain ⟨T', h', X', e', W', stp⟩ := RoadKit.stR X hx hZ eT A hj hty F (g := mkF m pc ls (v :: .int j :: .ref a :: st)) rfl rfl (hb hby hd)
  obtain ⟨s₂, o, h1, r⟩ := k h' W' p e s0 s m args below meth c T' _ k0 hx hby hml hown hnm hr hlk hZ B (by rw [W'.size]; exact hk) X' e' (Fr.snoc X' N ha)
  exact ⟨s₂, o, stp _ h1, r⟩
theorem Wk.castY {i : Nat} {K : String} {a : Addr} (w : (Jvm.Cond.classLink own i K).before a0 Z = true) (F : Ins Z h a K true) (hd : decode bytes pc = .ok (.checkcast i, 3)) (hq : pc + 3 = q) (k : Wk l Z n0 own nm bytes maxL ret R kc ks wd Q h cl sl q ls (.ref a :: st)) : Wk l Z n0 own nm bytes maxL ret R kc ks wd Q h cl sl pc ls (.ref a :: st) := by
  subst hq; exact Wk.stepW (fun hx hby hown hZ X eT => RoadKit.castY X hx hZ hown w eT F (g := mkF _ pc ls (.ref a :: st)) rfl rfl (hb hby hd)) k
theorem Wk.instNull {i : Nat} (hd : decode bytes pc = .ok (.instanceof i, 3)) (hq : pc + 3 = q) (k : Wk l Z n0 own nm bytes maxL ret R kc ks wd Q h cl sl q ls (.int 0 :: st)) : Wk l Z n0 own nm bytes maxL ret R kc ks wd Q h cl sl pc ls (.null :: st) := by
  subst hq; exact Wk.step (fun hx hby _ _ X _ t k => X.instanceofNull hx (g := mkF _ pc ls (.null :: st)) rfl rfl (hb hby hd) t k) k
theorem own_nsroot {O K : String} {n : Nat} (w : (Jvm.Cond.noSuperclass O).before a0 Z = true) (wi : (Jvm.Cond.instantiable K n).before a0 Z = true) (hn : O ≠ K) : NS Z O K := by
  obtain ⟨c, k, h1, h2, h3, -, -⟩ := Cond.noSuperclass_spec w
  obtain ⟨t, kt, g1, -⟩ := Cond.instantiable_spec wi
  have ne := ids_ne h1 g1 hn
  exact ⟨c, t, h1, g1, fun fuel => by cases fuel <;> simp [Vm.isSubclassAux, ne, h2, h3]⟩
theorem own_nsno {C S K : String} {n : Nat} (w : (Jvm.Cond.superclass C S).before a0 Z = true) (wi : (Jvm.Cond.instantiable K n).before a0 Z = true) (m : NS Z C K) (hn : C ≠ K) : ∃ c t, Z.vm.findClass C = some c ∧ Z.vm.findClass K = some t ∧ Z.vm.assignable c t = false := by
  obtain ⟨c, t, h0, g0, n3⟩ := m
  obtain ⟨p, k, kp, h1, h2, h3, h4, h5, -, h7⟩ := Cond.superclass_spec h0 w
  obtain ⟨t', kt, g1, g2, g3, g4, -⟩ := Cond.instantiable_spec wi
  cases g0.symm.trans g1
  have ne := ids_ne h0 g0 hn
  have g5 : kt.isInterface = false := by cases hi : kt.isInterface <;> simp [hi] at g4 ⊢
  refine ⟨c, t, h0, g0, ?_⟩
  show Z.vm.assignableAux (255 + 1) c t = false
  simp [Vm.assignableAux, ne, h2, g2, h5, g3, g5, Vm.isSubclass, n3]
theorem Wk.instY {i : Nat} {K : String} {a : Addr} (w : (Jvm.Cond.classLink own i K).before a0 Z = true) (F : Ins Z h a K true) (hd : decode bytes pc = .ok (.instanceof i, 3)) (hq : pc + 3 = q) (k : Wk l Z n0 own nm bytes maxL ret R kc ks wd Q h cl sl q ls (.int 1 :: st)) : Wk l Z n0 own nm bytes maxL ret R kc ks wd Q h cl sl pc ls (.ref a :: st) := by
  subst hq; exact Wk.stepW (fun hx hby hown hZ X eT => RoadKit.instY X hx hZ hown w eT F (g := mkF _ pc ls (.ref a :: st)) rfl rfl (hb hby hd)) k
theorem Wk.instNo {i : Nat} {K C : String} {a : Addr} (w : (Jvm.Cond.classLink own i K).before a0 Z = true) (E : Exa Z h a C) (F : ∃ c t, Z.vm.findClass C = some c ∧ Z.vm.findClass K = some t ∧ Z.vm.assignable c t = false) (hd : decode bytes pc = .ok (.instanceof i, 3)) (hq : pc + 3 = q) (k : Wk l Z n0 own nm bytes maxL ret R kc ks wd Q h cl sl q ls (.int 0 :: st)) : Wk l Z n0 own nm bytes maxL ret R kc ks wd Q h cl sl pc ls (.ref a :: st) := by
  subst hq; exact Wk.stepW (fun hx hby hown hZ X eT => RoadKit.instNo X hx hZ hown w eT E F (g := mkF _ pc ls (.ref a :: st)) rfl rfl (hb hby hd)) k
theorem Wk.ldcS {i n : Nat} {text : String} (w : (Jvm.Cond.stringLink own i text).before a0 Z = true) (wS : ∀ a ∈ Bundle.stringAtoms, a.before a0 Z = true) (hd : decode bytes pc = .ok (.ldc i, 2)) (hq : pc + 2 = q) (hn : 4 * text.toList.length ≤ n) (hbig : n ≤ 536870912) (hc : cl + 2 ≤ R.cells) (hl : sl + (n + 4) ≤ R.slots)
    (k : ∀ h' a, Ext h h' → Wk l Z n0 own nm bytes maxL ret R kc ks true Q h' (cl + 2) (sl + (n + 4)) q ls (.ref a :: st)) : Wk l Z n0 own nm bytes maxL ret R kc ks true Q h cl sl pc ls st := by
  subst hq
  intro p e s0 s m args below meth c T locs k0 hx hby hml hown hnm hr hlk hZ B hk X eT N
  obtain ⟨vm0, rfl, hS⟩ := B
  obtain ⟨a, T', h', k1, X', e', E, hS', hk', hZ', hown', stp⟩ := RoadKit.ldcS X hx hZ hown w wS eT hS hk (g := mkF m pc ls st) rfl (hb hby hd) hn hbig hc hl
  obtain ⟨s₂, o, h1, r⟩ := k h' a E p e s0 (s0.setVm T'.vm) m args below meth c T' _ k1 hx hby hml hown' hnm hr hlk hZ' ⟨_, rfl, hS'⟩ hk' X' e' N
  exact ⟨s₂, o, stp _ h1, r⟩
end Own2


theorem w_0 {a0 : Array Value} {Z : State} (hw : ∀ d ∈ tables_1, d.before a0 Z = true) : (Jvm.Cond.classLink "com/example/annals/annals/storage/TypedColumnRoundsSomeValuesPinLaw" (13 : Nat) "com/example/annals/annals/storage/TypedColumn").before a0 Z = true := hw _ (List.mem_of_getElem? (i := 0) rfl)
theorem w_1 {a0 : Array Value} {Z : State} (hw : ∀ d ∈ tables_1, d.before a0 Z = true) : (Jvm.Cond.instantiable "com/example/annals/annals/storage/TypedColumn" (8 : Nat)).before a0 Z = true := hw _ (List.mem_of_getElem? (i := 1) rfl)
theorem w_2 {a0 : Array Value} {Z : State} (hw : ∀ d ∈ tables_1, d.before a0 Z = true) : (Jvm.Cond.initialized "com/example/annals/annals/storage/TypedColumn").before a0 Z = true := hw _ (List.mem_of_getElem? (i := 2) rfl)
theorem w_3 {a0 : Array Value} {Z : State} (hw : ∀ d ∈ tables_1, d.before a0 Z = true) : (Jvm.Cond.stringLink "com/example/annals/annals/storage/TypedColumnRoundsSomeValuesPinLaw" (15 : Nat) "a").before a0 Z = true := hw _ (List.mem_of_getElem? (i := 3) rfl)
theorem w_4 {a0 : Array Value} {Z : State} (hw : ∀ d ∈ tables_1, d.before a0 Z = true) : (Jvm.Cond.initialized "java/lang/String").before a0 Z = true := hw _ (List.mem_of_getElem? (i := 4) rfl)
theorem w_5 {a0 : Array Value} {Z : State} (hw : ∀ d ∈ tables_1, d.before a0 Z = true) : (Jvm.Cond.instantiable "java/lang/String" (4 : Nat)).before a0 Z = true := hw _ (List.mem_of_getElem? (i := 5) rfl)
theorem w_6 {a0 : Array Value} {Z : State} (hw : ∀ d ∈ tables_1, d.before a0 Z = true) : (Jvm.Cond.arrayClass Jvm.ClassFile.FieldType.byte).before a0 Z = true := hw _ (List.mem_of_getElem? (i := 6) rfl)
theorem w_7 {a0 : Array Value} {Z : State} (hw : ∀ d ∈ tables_1, d.before a0 Z = true) : (Jvm.Cond.laysFinal "java/lang/String" "java/lang/String" "value" "[B").before a0 Z = true := hw _ (List.mem_of_getElem? (i := 7) rfl)
theorem w_8 {a0 : Array Value} {Z : State} (hw : ∀ d ∈ tables_1, d.before a0 Z = true) : (Jvm.Cond.laysFinal "java/lang/String" "java/lang/String" "coder" "B").before a0 Z = true := hw _ (List.mem_of_getElem? (i := 8) rfl)
theorem w_9 {a0 : Array Value} {Z : State} (hw : ∀ d ∈ tables_1, d.before a0 Z = true) : (Jvm.Cond.soleField "java/lang/String" "value").before a0 Z = true := hw _ (List.mem_of_getElem? (i := 9) rfl)
theorem w_10 {a0 : Array Value} {Z : State} (hw : ∀ d ∈ tables_1, d.before a0 Z = true) : (Jvm.Cond.soleField "java/lang/String" "coder").before a0 Z = true := hw _ (List.mem_of_getElem? (i := 10) rfl)
theorem w_11 {a0 : Array Value} {Z : State} (hw : ∀ d ∈ tables_1, d.before a0 Z = true) : (Jvm.Cond.stringLink "com/example/annals/annals/storage/TypedColumnRoundsSomeValuesPinLaw" (17 : Nat) "t").before a0 Z = true := hw _ (List.mem_of_getElem? (i := 11) rfl)
theorem w_12 {a0 : Array Value} {Z : State} (hw : ∀ d ∈ tables_1, d.before a0 Z = true) : (Jvm.Cond.stringLink "com/example/annals/annals/storage/TypedColumnRoundsSomeValuesPinLaw" (19 : Nat) "k").before a0 Z = true := hw _ (List.mem_of_getElem? (i := 12) rfl)
theorem w_13 {a0 : Array Value} {Z : State} (hw : ∀ d ∈ tables_1, d.before a0 Z = true) : (Jvm.Cond.methodLink "com/example/annals/annals/storage/TypedColumnRoundsSomeValuesPinLaw" (21 : Nat) ({ cls := "com/example/annals/annals/storage/TypedColumn", name := "<init>", desc := "(Ljava/lang/String;Ljava/lang/String;Ljava/lang/String;Ljava/lang/Long;Ljava/lang/Long;Ljava/lang/Long;Ljava/lang/Long;Ljava/lang/Long;)V" } : Jvm.MethodName)).before a0 Z = true := hw _ (List.mem_of_getElem? (i := 13) rfl)
theorem w_14 {a0 : Array Value} {Z : State} (hw : ∀ d ∈ tables_1, d.before a0 Z = true) : (Jvm.Cond.instanceMethod ({ cls := "com/example/annals/annals/storage/TypedColumn", name := "<init>", desc := "(Ljava/lang/String;Ljava/lang/String;Ljava/lang/String;Ljava/lang/Long;Ljava/lang/Long;Ljava/lang/Long;Ljava/lang/Long;Ljava/lang/Long;)V" } : Jvm.MethodName)).before a0 Z = true := hw _ (List.mem_of_getElem? (i := 14) rfl)
theorem w_15 {a0 : Array Value} {Z : State} (hw : ∀ d ∈ tables_1, d.before a0 Z = true) : (Jvm.Cond.code ({ cls := "com/example/annals/annals/storage/TypedColumn", name := "<init>", desc := "(Ljava/lang/String;Ljava/lang/String;Ljava/lang/String;Ljava/lang/Long;Ljava/lang/Long;Ljava/lang/Long;Ljava/lang/Long;Ljava/lang/Long;)V" } : Jvm.MethodName) prog_29_method_1_code (9 : Nat) (Option.none : Option Jvm.ClassFile.FieldType)).before a0 Z = true := hw _ (List.mem_of_getElem? (i := 15) rfl)
theorem w_16 {a0 : Array Value} {Z : State} (hw : ∀ d ∈ tables_1, d.before a0 Z = true) : (Jvm.Cond.methodLink "com/example/annals/annals/storage/TypedColumn" (1 : Nat) ({ cls := "java/lang/Record", name := "<init>", desc := "()V" } : Jvm.MethodName)).before a0 Z = true := hw _ (List.mem_of_getElem? (i := 16) rfl)
theorem w_17 {a0 : Array Value} {Z : State} (hw : ∀ d ∈ tables_1, d.before a0 Z = true) : (Jvm.Cond.instanceMethod ({ cls := "java/lang/Record", name := "<init>", desc := "()V" } : Jvm.MethodName)).before a0 Z = true := hw _ (List.mem_of_getElem? (i := 17) rfl)
theorem w_18 {a0 : Array Value} {Z : State} (hw : ∀ d ∈ tables_1, d.before a0 Z = true) : (Jvm.Cond.declares ({ cls := "java/lang/Record", name := "<init>", desc := "()V" } : Jvm.MethodName)).before a0 Z = true := hw _ (List.mem_of_getElem? (i := 18) rfl)
theorem w_19 {a0 : Array Value} {Z : State} (hw : ∀ d ∈ tables_1, d.before a0 Z = true) : (Jvm.Cond.initialized "java/lang/Record").before a0 Z = true := hw _ (List.mem_of_getElem? (i := 19) rfl)
theorem w_20 {a0 : Array Value} {Z : State} (hw : ∀ d ∈ tables_1, d.before a0 Z = true) : (Jvm.Cond.code ({ cls := "java/lang/Record", name := "<init>", desc := "()V" } : Jvm.MethodName) jdk_30_method_1_code (1 : Nat) (Option.none : Option Jvm.ClassFile.FieldType)).before a0 Z = true := hw _ (List.mem_of_getElem? (i := 20) rfl)
theorem w_21 {a0 : Array Value} {Z : State} (hw : ∀ d ∈ tables_1, d.before a0 Z = true) : (Jvm.Cond.methodLink "java/lang/Record" (1 : Nat) ({ cls := "java/lang/Object", name := "<init>", desc := "()V" } : Jvm.MethodName)).before a0 Z = true := hw _ (List.mem_of_getElem? (i := 21) rfl)
theorem w_22 {a0 : Array Value} {Z : State} (hw : ∀ d ∈ tables_1, d.before a0 Z = true) : (Jvm.Cond.instanceMethod ({ cls := "java/lang/Object", name := "<init>", desc := "()V" } : Jvm.MethodName)).before a0 Z = true := hw _ (List.mem_of_getElem? (i := 22) rfl)
theorem w_23 {a0 : Array Value} {Z : State} (hw : ∀ d ∈ tables_1, d.before a0 Z = true) : (Jvm.Cond.code ({ cls := "java/lang/Object", name := "<init>", desc := "()V" } : Jvm.MethodName) object_method_1_code (1 : Nat) (Option.none : Option Jvm.ClassFile.FieldType)).before a0 Z = true := hw _ (List.mem_of_getElem? (i := 23) rfl)
theorem w_24 {a0 : Array Value} {Z : State} (hw : ∀ d ∈ tables_1, d.before a0 Z = true) : (Jvm.Cond.fieldLink "com/example/annals/annals/storage/TypedColumn" (7 : Nat) "com/example/annals/annals/storage/TypedColumn" "name" "Ljava/lang/String;").before a0 Z = true := hw _ (List.mem_of_getElem? (i := 24) rfl)
theorem w_25 {a0 : Array Value} {Z : State} (hw : ∀ d ∈ tables_1, d.before a0 Z = true) : (Jvm.Cond.laysFinal "com/example/annals/annals/storage/TypedColumn" "com/example/annals/annals/storage/TypedColumn" "name" "Ljava/lang/String;").before a0 Z = true := hw _ (List.mem_of_getElem? (i := 25) rfl)
theorem w_26 {a0 : Array Value} {Z : State} (hw : ∀ d ∈ tables_1, d.before a0 Z = true) : (Jvm.Cond.fieldLink "com/example/annals/annals/storage/TypedColumn" (13 : Nat) "com/example/annals/annals/storage/TypedColumn" "type" "Ljava/lang/String;").before a0 Z = true := hw _ (List.mem_of_getElem? (i := 26) rfl)
theorem w_27 {a0 : Array Value} {Z : State} (hw : ∀ d ∈ tables_1, d.before a0 Z = true) : (Jvm.Cond.laysFinal "com/example/annals/annals/storage/TypedColumn" "com/example/annals/annals/storage/TypedColumn" "type" "Ljava/lang/String;").before a0 Z = true := hw _ (List.mem_of_getElem? (i := 27) rfl)
theorem w_28 {a0 : Array Value} {Z : State} (hw : ∀ d ∈ tables_1, d.before a0 Z = true) : (Jvm.Cond.fieldLink "com/example/annals/annals/storage/TypedColumn" (16 : Nat) "com/example/annals/annals/storage/TypedColumn" "kind" "Ljava/lang/String;").before a0 Z = true := hw _ (List.mem_of_getElem? (i := 28) rfl)
theorem w_29 {a0 : Array Value} {Z : State} (hw : ∀ d ∈ tables_1, d.before a0 Z = true) : (Jvm.Cond.laysFinal "com/example/annals/annals/storage/TypedColumn" "com/example/annals/annals/storage/TypedColumn" "kind" "Ljava/lang/String;").before a0 Z = true := hw _ (List.mem_of_getElem? (i := 29) rfl)
theorem w_30 {a0 : Array Value} {Z : State} (hw : ∀ d ∈ tables_1, d.before a0 Z = true) : (Jvm.Cond.fieldLink "com/example/annals/annals/storage/TypedColumn" (19 : Nat) "com/example/annals/annals/storage/TypedColumn" "length" "Ljava/lang/Long;").before a0 Z = true := hw _ (List.mem_of_getElem? (i := 30) rfl)
theorem w_31 {a0 : Array Value} {Z : State} (hw : ∀ d ∈ tables_1, d.before a0 Z = true) : (Jvm.Cond.laysFinal "com/example/annals/annals/storage/TypedColumn" "com/example/annals/annals/storage/TypedColumn" "length" "Ljava/lang/Long;").before a0 Z = true := hw _ (List.mem_of_getElem? (i := 31) rfl)
theorem w_32 {a0 : Array Value} {Z : State} (hw : ∀ d ∈ tables_1, d.before a0 Z = true) : (Jvm.Cond.fieldLink "com/example/annals/annals/storage/TypedColumn" (23 : Nat) "com/example/annals/annals/storage/TypedColumn" "precision" "Ljava/lang/Long;").before a0 Z = true := hw _ (List.mem_of_getElem? (i := 32) rfl)
theorem w_33 {a0 : Array Value} {Z : State} (hw : ∀ d ∈ tables_1, d.before a0 Z = true) : (Jvm.Cond.laysFinal "com/example/annals/annals/storage/TypedColumn" "com/example/annals/annals/storage/TypedColumn" "precision" "Ljava/lang/Long;").before a0 Z = true := hw _ (List.mem_of_getElem? (i := 33) rfl)
theorem w_34 {a0 : Array Value} {Z : State} (hw : ∀ d ∈ tables_1, d.before a0 Z = true) : (Jvm.Cond.fieldLink "com/example/annals/annals/storage/TypedColumn" (26 : Nat) "com/example/annals/annals/storage/TypedColumn" "radix" "Ljava/lang/Long;").before a0 Z = true := hw _ (List.mem_of_getElem? (i := 34) rfl)
theorem w_35 {a0 : Array Value} {Z : State} (hw : ∀ d ∈ tables_1, d.before a0 Z = true) : (Jvm.Cond.laysFinal "com/example/annals/annals/storage/TypedColumn" "com/example/annals/annals/storage/TypedColumn" "radix" "Ljava/lang/Long;").before a0 Z = true := hw _ (List.mem_of_getElem? (i := 35) rfl)
theorem w_36 {a0 : Array Value} {Z : State} (hw : ∀ d ∈ tables_1, d.before a0 Z = true) : (Jvm.Cond.fieldLink "com/example/annals/annals/storage/TypedColumn" (29 : Nat) "com/example/annals/annals/storage/TypedColumn" "scale" "Ljava/lang/Long;").before a0 Z = true := hw _ (List.mem_of_getElem? (i := 36) rfl)
theorem w_37 {a0 : Array Value} {Z : State} (hw : ∀ d ∈ tables_1, d.before a0 Z = true) : (Jvm.Cond.laysFinal "com/example/annals/annals/storage/TypedColumn" "com/example/annals/annals/storage/TypedColumn" "scale" "Ljava/lang/Long;").before a0 Z = true := hw _ (List.mem_of_getElem? (i := 37) rfl)
theorem w_38 {a0 : Array Value} {Z : State} (hw : ∀ d ∈ tables_1, d.before a0 Z = true) : (Jvm.Cond.fieldLink "com/example/annals/annals/storage/TypedColumn" (32 : Nat) "com/example/annals/annals/storage/TypedColumn" "fraction" "Ljava/lang/Long;").before a0 Z = true := hw _ (List.mem_of_getElem? (i := 38) rfl)
theorem w_39 {a0 : Array Value} {Z : State} (hw : ∀ d ∈ tables_1, d.before a0 Z = true) : (Jvm.Cond.laysFinal "com/example/annals/annals/storage/TypedColumn" "com/example/annals/annals/storage/TypedColumn" "fraction" "Ljava/lang/Long;").before a0 Z = true := hw _ (List.mem_of_getElem? (i := 39) rfl)
theorem w_40 {a0 : Array Value} {Z : State} (hw : ∀ d ∈ tables_1, d.before a0 Z = true) : (Jvm.Cond.stringLink "com/example/annals/annals/storage/TypedColumnRoundsSomeValuesPinLaw" (24 : Nat) "b").before a0 Z = true := hw _ (List.mem_of_getElem? (i := 40) rfl)
theorem w_41 {a0 : Array Value} {Z : State} (hw : ∀ d ∈ tables_1, d.before a0 Z = true) : (Jvm.Cond.stringLink "com/example/annals/annals/storage/TypedColumnRoundsSomeValuesPinLaw" (26 : Nat) "u").before a0 Z = true := hw _ (List.mem_of_getElem? (i := 41) rfl)
theorem w_42 {a0 : Array Value} {Z : State} (hw : ∀ d ∈ tables_1, d.before a0 Z = true) : (Jvm.Cond.stringLink "com/example/annals/annals/storage/TypedColumnRoundsSomeValuesPinLaw" (28 : Nat) "c").before a0 Z = true := hw _ (List.mem_of_getElem? (i := 42) rfl)
theorem w_43 {a0 : Array Value} {Z : State} (hw : ∀ d ∈ tables_1, d.before a0 Z = true) : (Jvm.Cond.stringLink "com/example/annals/annals/storage/TypedColumnRoundsSomeValuesPinLaw" (30 : Nat) "v").before a0 Z = true := hw _ (List.mem_of_getElem? (i := 43) rfl)
theorem w_44 {a0 : Array Value} {Z : State} (hw : ∀ d ∈ tables_1, d.before a0 Z = true) : (Jvm.Cond.methodLink "com/example/annals/annals/storage/TypedColumnRoundsSomeValuesPinLaw" (32 : Nat) ({ cls := "com/example/annals/annals/storage/TypedColumn", name := "roundsSomeValues", desc := "()Z" } : Jvm.MethodName)).before a0 Z = true := hw _ (List.mem_of_getElem? (i := 44) rfl)
theorem w_45 {a0 : Array Value} {Z : State} (hw : ∀ d ∈ tables_1, d.before a0 Z = true) : (Jvm.Cond.declares ({ cls := "com/example/annals/annals/storage/TypedColumn", name := "roundsSomeValues", desc := "()Z" } : Jvm.MethodName)).before a0 Z = true := hw _ (List.mem_of_getElem? (i := 45) rfl)
theorem w_46 {a0 : Array Value} {Z : State} (hw : ∀ d ∈ tables_1, d.before a0 Z = true) : (Jvm.Cond.instanceMethod ({ cls := "com/example/annals/annals/storage/TypedColumn", name := "roundsSomeValues", desc := "()Z" } : Jvm.MethodName)).before a0 Z = true := hw _ (List.mem_of_getElem? (i := 46) rfl)
theorem w_47 {a0 : Array Value} {Z : State} (hw : ∀ d ∈ tables_1, d.before a0 Z = true) : (Jvm.Cond.selects "com/example/annals/annals/storage/TypedColumn" ({ cls := "com/example/annals/annals/storage/TypedColumn", name := "roundsSomeValues", desc := "()Z" } : Jvm.MethodName) ({ cls := "com/example/annals/annals/storage/TypedColumn", name := "roundsSomeValues", desc := "()Z" } : Jvm.MethodName)).before a0 Z = true := hw _ (List.mem_of_getElem? (i := 47) rfl)
theorem w_48 {a0 : Array Value} {Z : State} (hw : ∀ d ∈ tables_1, d.before a0 Z = true) : (Jvm.Cond.code ({ cls := "com/example/annals/annals/storage/TypedColumn", name := "roundsSomeValues", desc := "()Z" } : Jvm.MethodName) prog_29_method_5_code (1 : Nat) (Option.some Jvm.ClassFile.FieldType.boolean)).before a0 Z = true := hw _ (List.mem_of_getElem? (i := 48) rfl)
theorem w_49 {a0 : Array Value} {Z : State} (hw : ∀ d ∈ tables_1, d.before a0 Z = true) : (Jvm.Cond.methodLink "com/example/annals/annals/storage/TypedColumnRoundsSomeValuesPinLaw" (36 : Nat) ({ cls := "com/example/annals/annals/storage/TypedColumn", name := "roundsValuesOf", desc := "(Lcom/example/annals/annals/storage/TypedColumn;)Z" } : Jvm.MethodName)).before a0 Z = true := hw _ (List.mem_of_getElem? (i := 49) rfl)
theorem w_50 {a0 : Array Value} {Z : State} (hw : ∀ d ∈ tables_1, d.before a0 Z = true) : (Jvm.Cond.declares ({ cls := "com/example/annals/annals/storage/TypedColumn", name := "roundsValuesOf", desc := "(Lcom/example/annals/annals/storage/TypedColumn;)Z" } : Jvm.MethodName)).before a0 Z = true := hw _ (List.mem_of_getElem? (i := 50) rfl)
theorem w_51 {a0 : Array Value} {Z : State} (hw : ∀ d ∈ tables_1, d.before a0 Z = true) : (Jvm.Cond.instanceMethod ({ cls := "com/example/annals/annals/storage/TypedColumn", name := "roundsValuesOf", desc := "(Lcom/example/annals/annals/storage/TypedColumn;)Z" } : Jvm.MethodName)).before a0 Z = true := hw _ (List.mem_of_getElem? (i := 51) rfl)
theorem w_52 {a0 : Array Value} {Z : State} (hw : ∀ d ∈ tables_1, d.before a0 Z = true) : (Jvm.Cond.selects "com/example/annals/annals/storage/TypedColumn" ({ cls := "com/example/annals/annals/storage/TypedColumn", name := "roundsValuesOf", desc := "(Lcom/example/annals/annals/storage/TypedColumn;)Z" } : Jvm.MethodName) ({ cls := "com/example/annals/annals/storage/TypedColumn", name := "roundsValuesOf", desc := "(Lcom/example/annals/annals/storage/TypedColumn;)Z" } : Jvm.MethodName)).before a0 Z = true := hw _ (List.mem_of_getElem? (i := 52) rfl)
theorem w_53 {a0 : Array Value} {Z : State} (hw : ∀ d ∈ tables_1, d.before a0 Z = true) : (Jvm.Cond.code ({ cls := "com/example/annals/annals/storage/TypedColumn", name := "roundsValuesOf", desc := "(Lcom/example/annals/annals/storage/TypedColumn;)Z" } : Jvm.MethodName) prog_29_method_4_code (2 : Nat) (Option.some Jvm.ClassFile.FieldType.boolean)).before a0 Z = true := hw _ (List.mem_of_getElem? (i := 53) rfl)
theorem w_54 {a0 : Array Value} {Z : State} (hw : ∀ d ∈ tables_1, d.before a0 Z = true) : (Jvm.Cond.methodLink "com/example/annals/annals/storage/TypedColumnRoundsSomeValuesPinLaw" (7 : Nat) ({ cls := "java/lang/Long", name := "valueOf", desc := "(J)Ljava/lang/Long;" } : Jvm.MethodName)).before a0 Z = true := hw _ (List.mem_of_getElem? (i := 54) rfl)
theorem w_55 {a0 : Array Value} {Z : State} (hw : ∀ d ∈ tables_1, d.before a0 Z = true) : (Jvm.Cond.static ({ cls := "java/lang/Long", name := "valueOf", desc := "(J)Ljava/lang/Long;" } : Jvm.MethodName)).before a0 Z = true := hw _ (List.mem_of_getElem? (i := 55) rfl)
theorem w_56 {a0 : Array Value} {Z : State} (hw : ∀ d ∈ tables_1, d.before a0 Z = true) : (Jvm.Cond.initialized "java/lang/Long").before a0 Z = true := hw _ (List.mem_of_getElem? (i := 56) rfl)
theorem w_57 {a0 : Array Value} {Z : State} (hw : ∀ d ∈ tables_1, d.before a0 Z = true) : (Jvm.Cond.code ({ cls := "java/lang/Long", name := "valueOf", desc := "(J)Ljava/lang/Long;" } : Jvm.MethodName) jdk_35_method_24_code (3 : Nat) (Option.some (Jvm.ClassFile.FieldType.object "java/lang/Long"))).before a0 Z = true := hw _ (List.mem_of_getElem? (i := 57) rfl)
theorem w_58 {a0 : Array Value} {Z : State} (hw : ∀ d ∈ tables_1, d.before a0 Z = true) : (Jvm.Cond.constantLong "java/lang/Long" (230 : Nat) (-128 : Int64)).before a0 Z = true := hw _ (List.mem_of_getElem? (i := 58) rfl)
theorem w_59 {a0 : Array Value} {Z : State} (hw : ∀ d ∈ tables_1, d.before a0 Z = true) : (Jvm.Cond.classLink "java/lang/Long" (1 : Nat) "java/lang/Long").before a0 Z = true := hw _ (List.mem_of_getElem? (i := 59) rfl)
theorem w_60 {a0 : Array Value} {Z : State} (hw : ∀ d ∈ tables_1, d.before a0 Z = true) : (Jvm.Cond.instantiable "java/lang/Long" (1 : Nat)).before a0 Z = true := hw _ (List.mem_of_getElem? (i := 60) rfl)
theorem w_61 {a0 : Array Value} {Z : State} (hw : ∀ d ∈ tables_1, d.before a0 Z = true) : (Jvm.Cond.methodLink "java/lang/Long" (240 : Nat) ({ cls := "java/lang/Long", name := "<init>", desc := "(J)V" } : Jvm.MethodName)).before a0 Z = true := hw _ (List.mem_of_getElem? (i := 61) rfl)
theorem w_62 {a0 : Array Value} {Z : State} (hw : ∀ d ∈ tables_1, d.before a0 Z = true) : (Jvm.Cond.instanceMethod ({ cls := "java/lang/Long", name := "<init>", desc := "(J)V" } : Jvm.MethodName)).before a0 Z = true := hw _ (List.mem_of_getElem? (i := 62) rfl)
theorem w_63 {a0 : Array Value} {Z : State} (hw : ∀ d ∈ tables_1, d.before a0 Z = true) : (Jvm.Cond.castable "java/lang/Long" "java/lang/Long").before a0 Z = true := hw _ (List.mem_of_getElem? (i := 63) rfl)
theorem w_64 {a0 : Array Value} {Z : State} (hw : ∀ d ∈ tables_1, d.before a0 Z = true) : (Jvm.Cond.code ({ cls := "java/lang/Long", name := "<init>", desc := "(J)V" } : Jvm.MethodName) jdk_35_method_26_code (3 : Nat) (Option.none : Option Jvm.ClassFile.FieldType)).before a0 Z = true := hw _ (List.mem_of_getElem? (i := 64) rfl)
theorem w_65 {a0 : Array Value} {Z : State} (hw : ∀ d ∈ tables_1, d.before a0 Z = true) : (Jvm.Cond.methodLink "java/lang/Long" (270 : Nat) ({ cls := "java/lang/Number", name := "<init>", desc := "()V" } : Jvm.MethodName)).before a0 Z = true := hw _ (List.mem_of_getElem? (i := 65) rfl)
theorem w_66 {a0 : Array Value} {Z : State} (hw : ∀ d ∈ tables_1, d.before a0 Z = true) : (Jvm.Cond.instanceMethod ({ cls := "java/lang/Number", name := "<init>", desc := "()V" } : Jvm.MethodName)).before a0 Z = true := hw _ (List.mem_of_getElem? (i := 66) rfl)
theorem w_67 {a0 : Array Value} {Z : State} (hw : ∀ d ∈ tables_1, d.before a0 Z = true) : (Jvm.Cond.declares ({ cls := "java/lang/Number", name := "<init>", desc := "()V" } : Jvm.MethodName)).before a0 Z = true := hw _ (List.mem_of_getElem? (i := 67) rfl)
theorem w_68 {a0 : Array Value} {Z : State} (hw : ∀ d ∈ tables_1, d.before a0 Z = true) : (Jvm.Cond.castable "java/lang/Long" "java/lang/Number").before a0 Z = true := hw _ (List.mem_of_getElem? (i := 68) rfl)
theorem w_69 {a0 : Array Value} {Z : State} (hw : ∀ d ∈ tables_1, d.before a0 Z = true) : (Jvm.Cond.initialized "java/lang/Number").before a0 Z = true := hw _ (List.mem_of_getElem? (i := 69) rfl)
theorem w_70 {a0 : Array Value} {Z : State} (hw : ∀ d ∈ tables_1, d.before a0 Z = true) : (Jvm.Cond.code ({ cls := "java/lang/Number", name := "<init>", desc := "()V" } : Jvm.MethodName) jdk_18_method_1_code (1 : Nat) (Option.none : Option Jvm.ClassFile.FieldType)).before a0 Z = true := hw _ (List.mem_of_getElem? (i := 70) rfl)
theorem w_71 {a0 : Array Value} {Z : State} (hw : ∀ d ∈ tables_1, d.before a0 Z = true) : (Jvm.Cond.methodLink "java/lang/Number" (1 : Nat) ({ cls := "java/lang/Object", name := "<init>", desc := "()V" } : Jvm.MethodName)).before a0 Z = true := hw _ (List.mem_of_getElem? (i := 71) rfl)
theorem w_72 {a0 : Array Value} {Z : State} (hw : ∀ d ∈ tables_1, d.before a0 Z = true) : (Jvm.Cond.fieldLink "java/lang/Long" (273 : Nat) "java/lang/Long" "value" "J").before a0 Z = true := hw _ (List.mem_of_getElem? (i := 72) rfl)
theorem w_73 {a0 : Array Value} {Z : State} (hw : ∀ d ∈ tables_1, d.before a0 Z = true) : (Jvm.Cond.laysFinal "java/lang/Long" "java/lang/Long" "value" "J").before a0 Z = true := hw _ (List.mem_of_getElem? (i := 73) rfl)
theorem w_74 {a0 : Array Value} {Z : State} (hw : ∀ d ∈ tables_1, d.before a0 Z = true) : (Jvm.Cond.constantLong "java/lang/Long" (232 : Nat) (127 : Int64)).before a0 Z = true := hw _ (List.mem_of_getElem? (i := 74) rfl)
theorem w_75 {a0 : Array Value} {Z : State} (hw : ∀ d ∈ tables_1, d.before a0 Z = true) : (Jvm.Cond.fieldLink "java/lang/Long" (234 : Nat) "java/lang/Long$LongCache" "cache" "[Ljava/lang/Long;").before a0 Z = true := hw _ (List.mem_of_getElem? (i := 75) rfl)
theorem w_76 {a0 : Array Value} {Z : State} (hw : ∀ d ∈ tables_1, d.before a0 Z = true) : (Jvm.Cond.initialized "java/lang/Long$LongCache").before a0 Z = true := hw _ (List.mem_of_getElem? (i := 76) rfl)
theorem w_77 {a0 : Array Value} {Z : State} (hw : ∀ d ∈ tables_1, d.before a0 Z = true) : (Jvm.Cond.methodLink "com/example/annals/annals/storage/TypedColumn" (92 : Nat) ({ cls := "com/example/annals/annals/storage/TypedColumn", name := "atLeast", desc := "(Ljava/lang/Long;Ljava/lang/Long;)Z" } : Jvm.MethodName)).before a0 Z = true := hw _ (List.mem_of_getElem? (i := 77) rfl)
theorem w_78 {a0 : Array Value} {Z : State} (hw : ∀ d ∈ tables_1, d.before a0 Z = true) : (Jvm.Cond.static ({ cls := "com/example/annals/annals/storage/TypedColumn", name := "atLeast", desc := "(Ljava/lang/Long;Ljava/lang/Long;)Z" } : Jvm.MethodName)).before a0 Z = true := hw _ (List.mem_of_getElem? (i := 78) rfl)
theorem w_79 {a0 : Array Value} {Z : State} (hw : ∀ d ∈ tables_1, d.before a0 Z = true) : (Jvm.Cond.code ({ cls := "com/example/annals/annals/storage/TypedColumn", name := "atLeast", desc := "(Ljava/lang/Long;Ljava/lang/Long;)Z" } : Jvm.MethodName) prog_29_method_7_code (2 : Nat) (Option.some Jvm.ClassFile.FieldType.boolean)).before a0 Z = true := hw _ (List.mem_of_getElem? (i := 79) rfl)
theorem w_80 {a0 : Array Value} {Z : State} (hw : ∀ d ∈ tables_1, d.before a0 Z = true) : (Jvm.Cond.methodLink "com/example/annals/annals/storage/TypedColumn" (103 : Nat) ({ cls := "java/lang/Long", name := "longValue", desc := "()J" } : Jvm.MethodName)).before a0 Z = true := hw _ (List.mem_of_getElem? (i := 80) rfl)
theorem w_81 {a0 : Array Value} {Z : State} (hw : ∀ d ∈ tables_1, d.before a0 Z = true) : (Jvm.Cond.declares ({ cls := "java/lang/Long", name := "longValue", desc := "()J" } : Jvm.MethodName)).before a0 Z = true := hw _ (List.mem_of_getElem? (i := 81) rfl)
theorem w_82 {a0 : Array Value} {Z : State} (hw : ∀ d ∈ tables_1, d.before a0 Z = true) : (Jvm.Cond.instanceMethod ({ cls := "java/lang/Long", name := "longValue", desc := "()J" } : Jvm.MethodName)).before a0 Z = true := hw _ (List.mem_of_getElem? (i := 82) rfl)
theorem w_83 {a0 : Array Value} {Z : State} (hw : ∀ d ∈ tables_1, d.before a0 Z = true) : (Jvm.Cond.selects "java/lang/Long" ({ cls := "java/lang/Long", name := "longValue", desc := "()J" } : Jvm.MethodName) ({ cls := "java/lang/Long", name := "longValue", desc := "()J" } : Jvm.MethodName)).before a0 Z = true := hw _ (List.mem_of_getElem? (i := 83) rfl)
theorem w_84 {a0 : Array Value} {Z : State} (hw : ∀ d ∈ tables_1, d.before a0 Z = true) : (Jvm.Cond.code ({ cls := "java/lang/Long", name := "longValue", desc := "()J" } : Jvm.MethodName) jdk_35_method_31_code (1 : Nat) (Option.some Jvm.ClassFile.FieldType.long)).before a0 Z = true := hw _ (List.mem_of_getElem? (i := 84) rfl)
theorem pn_0 : plainName "java/lang/Record" = true := by first | (simp [plainName, overriddenIn]; done) | decide +kernel
theorem pn_1 : plainName "java/lang/Number" = true := by first | (simp [plainName, overriddenIn]; done) | decide +kernel
theorem pn_2 : plainName "java/lang/Long" = true := by first | (simp [plainName, overriddenIn]; done) | decide +kernel
theorem pn_3 : plainName "com/example/annals/annals/storage/TypedColumn" = true := by first | (simp [plainName, overriddenIn]; done) | decide +kernel
theorem pn_4 : plainName "com/example/annals/annals/storage/TypedColumnRoundsSomeValuesPinLaw" = true := by first | (simp [plainName, overriddenIn]; done) | decide +kernel
theorem pd_0 : parseMethodDescriptor "()V" = some ⟨[], none⟩ := by decide +kernel
theorem pd_1 : parseMethodDescriptor "(J)V" = some ⟨[.long], none⟩ := by decide +kernel
theorem pd_2 : parseMethodDescriptor "()J" = some ⟨[], (some .long)⟩ := by decide +kernel
theorem pd_3 : parseMethodDescriptor "(Ljava/lang/Long;Ljava/lang/Long;)Z" = some ⟨[(.object "java/lang/Long"), (.object "java/lang/Long")], (some .boolean)⟩ := by decide +kernel
theorem pd_4 : parseMethodDescriptor "(Ljava/lang/String;Ljava/lang/String;Ljava/lang/String;Ljava/lang/Long;Ljava/lang/Long;Ljava/lang/Long;Ljava/lang/Long;Ljava/lang/Long;)V" = some ⟨[(.object "java/lang/String"), (.object "java/lang/String"), (.object "java/lang/String"), (.object "java/lang/Long"), (.object "java/lang/Long"), (.object "java/lang/Long"), (.object "java/lang/Long"), (.object "java/lang/Long")], none⟩ := by decide +kernel
theorem pd_5 : parseMethodDescriptor "()Z" = some ⟨[], (some .boolean)⟩ := by decide +kernel
theorem pd_6 : parseMethodDescriptor "(Lcom/example/annals/annals/storage/TypedColumn;)Z" = some ⟨[(.object "com/example/annals/annals/storage/TypedColumn")], (some .boolean)⟩ := by decide +kernel
theorem pd_7 : parseMethodDescriptor "(J)Ljava/lang/Long;" = some ⟨[.long], (some (.object "java/lang/Long"))⟩ := by decide +kernel
theorem ef_0 (m : MethodId) (x0 : Addr) : entryFrame m #[(.ref x0)] 1 = mkF m 0 #[.val (.ref x0)] [] := by first | (simp [entryFrame, mkF, argsToLocals, Value.category, maxLocals]; done) | rfl
theorem ef_1 (m : MethodId) (x0 : Addr) (x1 : Int64) : entryFrame m #[(.ref x0), (.long x1)] 3 = mkF m 0 #[.val (.ref x0), .val (.long x1), .second] [] := by first | (simp [entryFrame, mkF, argsToLocals, Value.category, maxLocals]; done) | rfl
theorem ef_2 (m : MethodId) (x0 : Int64) : entryFrame m #[(.long x0)] 3 = mkF m 0 #[.val (.long x0), .second, .unset] [] := by first | (simp [entryFrame, mkF, argsToLocals, Value.category, maxLocals]; done) | rfl
theorem ef_3 (m : MethodId) (x0 : Addr) : entryFrame m #[(.ref x0), .null] 2 = mkF m 0 #[.val (.ref x0), .val .null] [] := by first | (simp [entryFrame, mkF, argsToLocals, Value.category, maxLocals]; done) | rfl
theorem ef_4 (m : MethodId) (x0 : Addr) (x1 : Addr) : entryFrame m #[(.ref x0), (.ref x1)] 2 = mkF m 0 #[.val (.ref x0), .val (.ref x1)] [] := by first | (simp [entryFrame, mkF, argsToLocals, Value.category, maxLocals]; done) | rfl
theorem ef_5 (m : MethodId) (x0 : Int32) (x1 : Int64) (x2 : Int64) (x3 : Int64) (x4 : Int64) (x5 : Int64) : entryFrame m #[(.int x0), (.long x1), (.long x2), (.long x3), (.long x4), (.long x5)] maxLocals = mkF m 0 #[.val (.int x0), .val (.long x1), .second, .val (.long x2), .second, .val (.long x3), .second, .val (.long x4), .second, .val (.long x5), .second, .unset, .unset, .unset, .unset, .unset, .unset, .unset, .unset, .unset, .unset, .unset, .unset, .unset, .unset, .unset, .unset, .unset] [] := by first | (simp [entryFrame, mkF, argsToLocals, Value.category, maxLocals]; done) | rfl
theorem d10_0 : decode jdk_35_method_31_code 0 = .ok (.aload_n 0, 1) := by decide +kernel
theorem d10_1 : decode jdk_35_method_31_code 1 = .ok (.getfield 273, 3) := by decide +kernel
theorem d10_4 : decode jdk_35_method_31_code 4 = .ok (.lreturn, 1) := by decide +kernel
theorem d1_0 : decode prog_29_method_1_code 0 = .ok (.aload_n 0, 1) := by decide +kernel
theorem d1_1 : decode prog_29_method_1_code 1 = .ok (.invokespecial 1, 3) := by decide +kernel
theorem d1_4 : decode prog_29_method_1_code 4 = .ok (.aload_n 0, 1) := by decide +kernel
theorem d1_5 : decode prog_29_method_1_code 5 = .ok (.aload_n 1, 1) := by decide +kernel
theorem d1_6 : decode prog_29_method_1_code 6 = .ok (.putfield 7, 3) := by decide +kernel
theorem d1_9 : decode prog_29_method_1_code 9 = .ok (.aload_n 0, 1) := by decide +kernel
theorem d1_10 : decode prog_29_method_1_code 10 = .ok (.aload_n 2, 1) := by decide +kernel
theorem d1_11 : decode prog_29_method_1_code 11 = .ok (.putfield 13, 3) := by decide +kernel
theorem d1_14 : decode prog_29_method_1_code 14 = .ok (.aload_n 0, 1) := by decide +kernel
theorem d1_15 : decode prog_29_method_1_code 15 = .ok (.aload_n 3, 1) := by decide +kernel
theorem d1_16 : decode prog_29_method_1_code 16 = .ok (.putfield 16, 3) := by decide +kernel
theorem d1_19 : decode prog_29_method_1_code 19 = .ok (.aload_n 0, 1) := by decide +kernel
theorem d1_20 : decode prog_29_method_1_code 20 = .ok (.aload 4, 2) := by decide +kernel
theorem d1_22 : decode prog_29_method_1_code 22 = .ok (.putfield 19, 3) := by decide +kernel
theorem d1_25 : decode prog_29_method_1_code 25 = .ok (.aload_n 0, 1) := by decide +kernel
theorem d1_26 : decode prog_29_method_1_code 26 = .ok (.aload 5, 2) := by decide +kernel
theorem d1_28 : decode prog_29_method_1_code 28 = .ok (.putfield 23, 3) := by decide +kernel
theorem d1_31 : decode prog_29_method_1_code 31 = .ok (.aload_n 0, 1) := by decide +kernel
theorem d1_32 : decode prog_29_method_1_code 32 = .ok (.aload 6, 2) := by decide +kernel
theorem d1_34 : decode prog_29_method_1_code 34 = .ok (.putfield 26, 3) := by decide +kernel
theorem d1_37 : decode prog_29_method_1_code 37 = .ok (.aload_n 0, 1) := by decide +kernel
theorem d1_38 : decode prog_29_method_1_code 38 = .ok (.aload 7, 2) := by decide +kernel
theorem d1_40 : decode prog_29_method_1_code 40 = .ok (.putfield 29, 3) := by decide +kernel
theorem d1_43 : decode prog_29_method_1_code 43 = .ok (.aload_n 0, 1) := by decide +kernel
theorem d1_44 : decode prog_29_method_1_code 44 = .ok (.aload 8, 2) := by decide +kernel
theorem d1_46 : decode prog_29_method_1_code 46 = .ok (.putfield 32, 3) := by decide +kernel
theorem d1_49 : decode prog_29_method_1_code 49 = .ok (.return_, 1) := by decide +kernel
theorem d2_0 : decode jdk_30_method_1_code 0 = .ok (.aload_n 0, 1) := by decide +kernel
theorem d2_1 : decode jdk_30_method_1_code 1 = .ok (.invokespecial 1, 3) := by decide +kernel
theorem d2_4 : decode jdk_30_method_1_code 4 = .ok (.return_, 1) := by decide +kernel
theorem d4_0 : decode prog_29_method_5_code 0 = .ok (.aload_n 0, 1) := by decide +kernel
theorem d4_1 : decode prog_29_method_5_code 1 = .ok (.getfield 29, 3) := by decide +kernel
theorem d4_4 : decode prog_29_method_5_code 4 = .ok (.ifnonnull 10, 3) := by decide +kernel
theorem d4_7 : decode prog_29_method_5_code 7 = .ok (.aload_n 0, 1) := by decide +kernel
theorem d4_8 : decode prog_29_method_5_code 8 = .ok (.getfield 32, 3) := by decide +kernel
theorem d4_11 : decode prog_29_method_5_code 11 = .ok (.ifnull 7, 3) := by decide +kernel
theorem d4_14 : decode prog_29_method_5_code 14 = .ok (.iconst 1, 1) := by decide +kernel
theorem d4_15 : decode prog_29_method_5_code 15 = .ok (.goto 4, 3) := by decide +kernel
theorem d4_18 : decode prog_29_method_5_code 18 = .ok (.iconst 0, 1) := by decide +kernel
theorem d4_19 : decode prog_29_method_5_code 19 = .ok (.ireturn, 1) := by decide +kernel
theorem d5_0 : decode prog_29_method_4_code 0 = .ok (.aload_n 0, 1) := by decide +kernel
theorem d5_1 : decode prog_29_method_4_code 1 = .ok (.getfield 29, 3) := by decide +kernel
theorem d5_4 : decode prog_29_method_4_code 4 = .ok (.ifnull 17, 3) := by decide +kernel
theorem d5_7 : decode prog_29_method_4_code 7 = .ok (.aload_n 0, 1) := by decide +kernel
theorem d5_8 : decode prog_29_method_4_code 8 = .ok (.getfield 29, 3) := by decide +kernel
theorem d5_11 : decode prog_29_method_4_code 11 = .ok (.aload_n 1, 1) := by decide +kernel
theorem d5_12 : decode prog_29_method_4_code 12 = .ok (.getfield 29, 3) := by decide +kernel
theorem d5_15 : decode prog_29_method_4_code 15 = .ok (.invokestatic 92, 3) := by decide +kernel
theorem d5_18 : decode prog_29_method_4_code 18 = .ok (.ifCond .eq 24, 3) := by decide +kernel
theorem d5_21 : decode prog_29_method_4_code 21 = .ok (.aload_n 0, 1) := by decide +kernel
theorem d5_22 : decode prog_29_method_4_code 22 = .ok (.getfield 32, 3) := by decide +kernel
theorem d5_25 : decode prog_29_method_4_code 25 = .ok (.ifnull 21, 3) := by decide +kernel
theorem d5_28 : decode prog_29_method_4_code 28 = .ok (.aload_n 0, 1) := by decide +kernel
theorem d5_29 : decode prog_29_method_4_code 29 = .ok (.getfield 32, 3) := by decide +kernel
theorem d5_32 : decode prog_29_method_4_code 32 = .ok (.aload_n 1, 1) := by decide +kernel
theorem d5_33 : decode prog_29_method_4_code 33 = .ok (.getfield 32, 3) := by decide +kernel
theorem d5_36 : decode prog_29_method_4_code 36 = .ok (.invokestatic 92, 3) := by decide +kernel
theorem d5_39 : decode prog_29_method_4_code 39 = .ok (.ifCond .ne 7, 3) := by decide +kernel
theorem d5_42 : decode prog_29_method_4_code 42 = .ok (.iconst 1, 1) := by decide +kernel
theorem d5_43 : decode prog_29_method_4_code 43 = .ok (.goto 4, 3) := by decide +kernel
theorem d5_46 : decode prog_29_method_4_code 46 = .ok (.iconst 0, 1) := by decide +kernel
theorem d5_47 : decode prog_29_method_4_code 47 = .ok (.ireturn, 1) := by decide +kernel
theorem d6_0 : decode jdk_35_method_24_code 0 = .ok (.sipush 128, 3) := by decide +kernel
theorem d6_3 : decode jdk_35_method_24_code 3 = .ok (.istore_n 2, 1) := by decide +kernel
theorem d6_4 : decode jdk_35_method_24_code 4 = .ok (.lload_n 0, 1) := by decide +kernel
theorem d6_5 : decode jdk_35_method_24_code 5 = .ok (.ldc2_w 230, 3) := by decide +kernel
theorem d6_8 : decode jdk_35_method_24_code 8 = .ok (.lcmp, 1) := by decide +kernel
theorem d6_9 : decode jdk_35_method_24_code 9 = .ok (.ifCond .lt 22, 3) := by decide +kernel
theorem d6_12 : decode jdk_35_method_24_code 12 = .ok (.lload_n 0, 1) := by decide +kernel
theorem d6_13 : decode jdk_35_method_24_code 13 = .ok (.ldc2_w 232, 3) := by decide +kernel
theorem d6_16 : decode jdk_35_method_24_code 16 = .ok (.lcmp, 1) := by decide +kernel
theorem d6_17 : decode jdk_35_method_24_code 17 = .ok (.ifCond .gt 14, 3) := by decide +kernel
theorem d6_20 : decode jdk_35_method_24_code 20 = .ok (.getstatic 234, 3) := by decide +kernel
theorem d6_23 : decode jdk_35_method_24_code 23 = .ok (.lload_n 0, 1) := by decide +kernel
theorem d6_24 : decode jdk_35_method_24_code 24 = .ok (.l2i, 1) := by decide +kernel
theorem d6_25 : decode jdk_35_method_24_code 25 = .ok (.sipush 128, 3) := by decide +kernel
theorem d6_28 : decode jdk_35_method_24_code 28 = .ok (.iadd, 1) := by decide +kernel
theorem d6_29 : decode jdk_35_method_24_code 29 = .ok (.aaload, 1) := by decide +kernel
theorem d6_30 : decode jdk_35_method_24_code 30 = .ok (.areturn, 1) := by decide +kernel
theorem d6_31 : decode jdk_35_method_24_code 31 = .ok (.new 1, 3) := by decide +kernel
theorem d6_34 : decode jdk_35_method_24_code 34 = .ok (.dup, 1) := by decide +kernel
theorem d6_35 : decode jdk_35_method_24_code 35 = .ok (.lload_n 0, 1) := by decide +kernel
theorem d6_36 : decode jdk_35_method_24_code 36 = .ok (.invokespecial 240, 3) := by decide +kernel
theorem d6_39 : decode jdk_35_method_24_code 39 = .ok (.areturn, 1) := by decide +kernel
theorem d7_0 : decode jdk_35_method_26_code 0 = .ok (.aload_n 0, 1) := by decide +kernel
theorem d7_1 : decode jdk_35_method_26_code 1 = .ok (.invokespecial 270, 3) := by decide +kernel
theorem d7_4 : decode jdk_35_method_26_code 4 = .ok (.aload_n 0, 1) := by decide +kernel
theorem d7_5 : decode jdk_35_method_26_code 5 = .ok (.lload_n 1, 1) := by decide +kernel
theorem d7_6 : decode jdk_35_method_26_code 6 = .ok (.putfield 273, 3) := by decide +kernel
theorem d7_9 : decode jdk_35_method_26_code 9 = .ok (.return_, 1) := by decide +kernel
theorem d8_0 : decode jdk_18_method_1_code 0 = .ok (.aload_n 0, 1) := by decide +kernel
theorem d8_1 : decode jdk_18_method_1_code 1 = .ok (.invokespecial 1, 3) := by decide +kernel
theorem d8_4 : decode jdk_18_method_1_code 4 = .ok (.return_, 1) := by decide +kernel
theorem d9_0 : decode prog_29_method_7_code 0 = .ok (.aload_n 0, 1) := by decide +kernel
theorem d9_1 : decode prog_29_method_7_code 1 = .ok (.ifnull 19, 3) := by decide +kernel
theorem d9_4 : decode prog_29_method_7_code 4 = .ok (.aload_n 1, 1) := by decide +kernel
theorem d9_5 : decode prog_29_method_7_code 5 = .ok (.ifnull 19, 3) := by decide +kernel
theorem d9_8 : decode prog_29_method_7_code 8 = .ok (.aload_n 0, 1) := by decide +kernel
theorem d9_9 : decode prog_29_method_7_code 9 = .ok (.invokevirtual 103, 3) := by decide +kernel
theorem d9_12 : decode prog_29_method_7_code 12 = .ok (.aload_n 1, 1) := by decide +kernel
theorem d9_13 : decode prog_29_method_7_code 13 = .ok (.invokevirtual 103, 3) := by decide +kernel
theorem d9_16 : decode prog_29_method_7_code 16 = .ok (.lcmp, 1) := by decide +kernel
theorem d9_17 : decode prog_29_method_7_code 17 = .ok (.ifCond .lt 7, 3) := by decide +kernel
theorem d9_20 : decode prog_29_method_7_code 20 = .ok (.iconst 1, 1) := by decide +kernel
theorem d9_21 : decode prog_29_method_7_code 21 = .ok (.goto 4, 3) := by decide +kernel
theorem d9_24 : decode prog_29_method_7_code 24 = .ok (.iconst 0, 1) := by decide +kernel
theorem d9_25 : decode prog_29_method_7_code 25 = .ok (.ireturn, 1) := by decide +kernel
/-- null, or a Long below n -/
def LN (Z : State) (h : Heap) (n : Nat) (v : Value) : Prop := v = .null ∨ ∃ a x, v = .ref a ∧ a < n ∧ Exa Z h a "java/lang/Long" ∧ Fld Z h a "java/lang/Long" "value" "J" (.long x)
theorem LN.isRef {Z : State} {h : Heap} {n : Nat} {v : Value} (F : LN Z h n v) : v.isRef = true := by
  rcases F with rfl | ⟨a, x, rfl, -⟩ <;> rfl
theorem LN.ext {Z : State} {h h' : Heap} {n : Nat} {v : Value} (F : LN Z h n v) (E : Ext h h') : LN Z h' n v := by
  rcases F with rfl | ⟨a, x, rfl, h1, h2, h3⟩
  · exact Or.inl rfl
  · exact Or.inr ⟨a, x, rfl, h1, h2.ext E, h3.ext E⟩
theorem LN.up {Z : State} {h : Heap} {n m : Nat} {v : Value} (F : LN Z h n v) (q : n ≤ m) : LN Z h m v := by
  rcases F with rfl | ⟨a, x, rfl, h1, h2, h3⟩
  · exact Or.inl rfl
  · exact Or.inr ⟨a, x, rfl, Nat.lt_of_lt_of_le h1 q, h2, h3⟩
theorem LN.keep {Z : State} {h h' : Heap} {n : Nat} {v : Value} {ws : List Addr} (F : LN Z h n v) (K : Keep h h' ws) (q : ∀ w ∈ ws, n ≤ w) : LN Z h' n v := by
  rcases F with rfl | ⟨a, x, rfl, h1, h2, h3⟩
  · exact Or.inl rfl
  · exact Or.inr ⟨a, x, rfl, h1, h2.keep K, h3.keep K fun z => absurd h1 (Nat.not_lt.mpr (q _ z))⟩
theorem own_fitR {C : String} {v : Value} (q : v.isRef = true) : fits (.object C) v = true := by
  rcases ref_cases q with rfl | ⟨a, rfl⟩ <;> rfl
def OwnF (Z : State) (h : Heap) (a_C : Addr) (c_C : Cell) : Prop := Sta Z h "java/lang/Long$LongCache" "cache" "[Ljava/lang/Long;" (.ref a_C) ∧ Arr Z h a_C c_C (.object "java/lang/Long") ∧ c_C.slots.size = 256 ∧ ∀ k, k < 256 → ∃ a x, c_C.slots[k]? = some (Value.ref a) ∧ Exa Z h a "java/lang/Long" ∧ Fld Z h a "java/lang/Long" "value" "J" (.long x)
theorem OwnF.ext {Z : State} {h h' : Heap} {a_C : Addr} {c_C : Cell} (F : OwnF Z h a_C c_C) (E : Ext h h') : OwnF Z h' a_C c_C :=
  ⟨F.1.ext E, F.2.1.ext E, F.2.2.1, fun k hk => by obtain ⟨a, x, h1, h2, h3⟩ := F.2.2.2 k hk; exact ⟨a, x, h1, h2.ext E, h3.ext E⟩⟩
theorem own_ix {z : Int64} (h1 : ¬ XT.cmpL z (-128 : Int64) < (0 : Int32)) (h2 : ¬ (0 : Int32) < XT.cmpL z (127 : Int64)) : 0 ≤ (z.toInt32 + (128 : Int32)).toInt ∧ (z.toInt32 + (128 : Int32)).toInt < 256 := by
  rw [own_cl_lt, Int64.lt_iff_toInt_lt] at h1
  rw [own_cl_gt, Int64.lt_iff_toInt_lt] at h2
  have e1 : (-128 : Int64).toInt = -128 := by decide
  have e2 : (127 : Int64).toInt = 127 := by decide
  have e3 : (128 : Int32).toInt = 128 := by decide
  have c0 := c_l2i z
  have r0 := rng32 z.toInt32
  have c := c_iadd z.toInt32 128
  have r := rng32 (z.toInt32 + 128)
  omega
theorem own_in {x : Int32} {n : Nat} (h1 : 0 ≤ x.toInt) (h2 : x.toInt < (n : Int)) : ¬ (x < 0 ∨ n ≤ x.toNatClampNeg) := by
  simp only [Int32.lt_iff_toInt_lt, Int32.reduceToInt, Int32.toNatClampNeg]; omega
theorem own_cl {x : Int32} {n : Nat} (h1 : 0 ≤ x.toInt) (h2 : x.toInt < (n : Int)) : x.toNatClampNeg < n := by
  simp only [Int32.toNatClampNeg]; omega
theorem own_k1 {h h1 h2 : Heap} {b : Addr} (E : Ext h h1) (g : b = h.size) (K : Keep h1 h2 [b]) : Keep h h2 [] := by
  refine ((Keep.refl h []).ext E).trans K fun x hx => Or.inr ?_
  cases List.mem_singleton.mp hx
  exact Nat.le_of_eq g.symm
def B01 (w : Value) : Prop := w = .int (0 : Int32) ∨ w = .int (1 : Int32)
theorem own_ek {Z : State} {args : Array Value} {C n d K O f : String} {a : Addr} {cl : Cell} {ty : FieldType} {k : Nat} {u : Term} {y : Int64} (ev : (Term.static C n d).eval args Z none [] Z = some (.ref a)) (A : Arr Z Z.heap a cl ty) (hk : k < 256) (h : (Jvm.Cond.exactly (.elem (.static C n d) (.index 0)) K).value args Z none Z [k] = some true)
    (h2 : (Jvm.Cond.eq (.field (.elem (.static C n d) (.index 0)) O f "J") u).value args Z none Z [k] = some true) (hu : u.eval args Z none [k] Z = some (.long y)) : ∃ b x, cl.slots[k]? = some (Value.ref b) ∧ Exa Z Z.heap b K ∧ Fld Z Z.heap b O f "J" (.long x) := by
  obtain ⟨b, eb⟩ := exa_v h
  have ev' : (Term.static C n d).eval args Z none [k] Z = some (.ref a) := ev
  have e := (elem_in eb ev' (Term.index_eval k) A.1).2
  have q : k.toInt32.toNatClampNeg = k := by simp only [Int32.toNatClampNeg, len_toInt (show k < 2 ^ 31 by omega)]; rfl
  rw [q] at e
  obtain ⟨x, y', g1, g2, k1, k2⟩ := cmp_v (Or.inl h2)
  cases hu.symm.trans g2
  obtain ⟨z, rfl⟩ := k2
  exact ⟨b, z, e, exa_at eb h, Fld.start ((fld_at eb).symm.trans g1)⟩
set_option maxRecDepth 65536 in
set_option maxHeartbeats 40000000 in
theorem m_rec {l : Launch} {Z : State} {a0 : Array Value} {n0 : Nat} {h : Heap} (hw : ∀ d ∈ tables_1, d.before a0 Z = true) {a : Addr} : Met l Z n0 (⟨"java/lang/Record", "<init>", "()V"⟩ : MethodName) jdk_30_method_1_code 1 (Option.none : Option Jvm.ClassFile.FieldType) (⟨1, 0, 0, 12⟩ : Room) #[(.ref a)] h (fun v h' => v = none ∧ h' = h) := by
  refine Met.of_wk (ls := #[.val (.ref a)]) (plainFor_of_name pn_0) (fun m => ef_0 m a) ?_
  show Wk l Z n0 "java/lang/Record" "<init>" jdk_30_method_1_code 1 (Option.none : Option Jvm.ClassFile.FieldType) (⟨1, 0, 0, 12⟩ : Room) 0 0 false (fun v h' => v = none ∧ h' = h) h 0 0 0 #[.val (.ref a)] []
  refine Wk.aloadN (q := 1) d2_0 rfl rfl rfl ?_
  refine Wk.initO (q := 4) (W := 0) (w_21 hw) (w_22 hw) (w_23 hw) d2_1 rfl rfl (by decide) rfl (by decide) ?_
  exact Wk.retV rfl d2_4 (by decide) (by decide) ⟨rfl, rfl⟩
set_option maxRecDepth 65536 in
set_option maxHeartbeats 40000000 in
theorem m_num {l : Launch} {Z : State} {a0 : Array Value} {n0 : Nat} {h : Heap} (hw : ∀ d ∈ tables_1, d.before a0 Z = true) {a : Addr} : Met l Z n0 (⟨"java/lang/Number", "<init>", "()V"⟩ : MethodName) jdk_18_method_1_code 1 (Option.none : Option Jvm.ClassFile.FieldType) (⟨1, 0, 0, 12⟩ : Room) #[(.ref a)] h (fun v h' => v = none ∧ h' = h) := by
  refine Met.of_wk (ls := #[.val (.ref a)]) (plainFor_of_name pn_1) (fun m => ef_0 m a) ?_
  show Wk l Z n0 "java/lang/Number" "<init>" jdk_18_method_1_code 1 (Option.none : Option Jvm.ClassFile.FieldType) (⟨1, 0, 0, 12⟩ : Room) 0 0 false (fun v h' => v = none ∧ h' = h) h 0 0 0 #[.val (.ref a)] []
  refine Wk.aloadN (q := 1) d8_0 rfl rfl rfl ?_
  refine Wk.initO (q := 4) (W := 0) (w_71 hw) (w_22 hw) (w_23 hw) d8_1 rfl rfl (by decide) rfl (by decide) ?_
  exact Wk.retV rfl d8_4 (by decide) (by decide) ⟨rfl, rfl⟩
set_option maxRecDepth 65536 in
set_option maxHeartbeats 40000000 in
theorem m_li {l : Launch} {Z : State} {a0 : Array Value} {n0 : Nat} {h : Heap} (hw : ∀ d ∈ tables_1, d.before a0 Z = true) {a : Addr} (z0 : Int64) (ge : n0 ≤ a) (x : Exa Z h a "java/lang/Long") (f0 : Fld Z h a "java/lang/Long" "value" "J" (.long (0 : Int64))) : Met l Z n0 (⟨"java/lang/Long", "<init>", "(J)V"⟩ : MethodName) jdk_35_method_26_code 3 (Option.none : Option Jvm.ClassFile.FieldType) (⟨2, 0, 0, 24⟩ : Room) #[(.ref a), (.long z0)] h (fun v h' => v = none ∧ Keep h h' [a] ∧ Exa Z h' a "java/lang/Long" ∧ Fld Z h' a "java/lang/Long" "value" "J" (.long z0)) := by
  refine Met.of_wk (ls := #[.val (.ref a), .val (.long z0), .second]) (plainFor_of_name pn_2) (fun m => ef_1 m a z0) ?_
  show Wk l Z n0 "java/lang/Long" "<init>" jdk_35_method_26_code 3 (Option.none : Option Jvm.ClassFile.FieldType) (⟨2, 0, 0, 24⟩ : Room) 0 0 false (fun v h' => v = none ∧ Keep h h' [a] ∧ Exa Z h' a "java/lang/Long" ∧ Fld Z h' a "java/lang/Long" "value" "J" (.long z0)) h 0 0 0 #[.val (.ref a), .val (.long z0), .second] []
  have K := Keep.refl h [a]
  refine Wk.aloadN (q := 1) d7_0 rfl rfl rfl ?_
  refine Wk.special (q := 4) (a := a) (argsL := []) (rest := []) (rm := (⟨1, 0, 0, 12⟩ : Room)) (Q' := fun h' => h' = h) (m_num hw) rfl (w_65 hw) (w_66 hw) (w_70 hw) (w_69 hw) (by decide) pd_0 rfl rfl rfl d7_1 rfl (W := 0) rfl (by decide) (by decide) (by decide) (by decide) ?_
  rintro h rfl
  refine Wk.aloadN (q := 5) d7_4 rfl rfl rfl ?_
  refine Wk.lloadN (q := 6) d7_5 rfl rfl ?_
  refine Wk.putF (q := 9) (w_72 hw) Via.refl f0 x (Or.inr ⟨(w_73 hw), rfl, rfl⟩) (w_60 hw) (ty := .long) (by decide) rfl rfl d7_6 rfl ge ?_
  intro h2 W2
  have K := K.wr W2 (Or.inl (List.mem_of_getElem? (i := 0) rfl))
  have x := x.wr W2
  have f0 := f0.same W2
  exact Wk.retV rfl d7_9 (by decide) (by decide) ⟨rfl, K, x, f0⟩
set_option maxRecDepth 65536 in
set_option maxHeartbeats 40000000 in
theorem m_val {l : Launch} {Z : State} {a0 : Array Value} {n0 : Nat} {h : Heap} (hw : ∀ d ∈ tables_1, d.before a0 Z = true) {a_C : Addr} {c_C : Cell} (F : OwnF Z h a_C c_C) (hn : n0 ≤ h.size) (z0 : Int64) : Met l Z n0 (⟨"java/lang/Long", "valueOf", "(J)Ljava/lang/Long;"⟩ : MethodName) jdk_35_method_24_code 3 (Option.some (Jvm.ClassFile.FieldType.object "java/lang/Long")) (⟨3, 1, 1, 39⟩ : Room) #[(.long z0)] h (fun v h' => ∃ w, v = some w ∧ ∃ b x, w = .ref b ∧ Exa Z h' b "java/lang/Long" ∧ Fld Z h' b "java/lang/Long" "value" "J" (.long x) ∧ Keep h h' []) := by
  refine Met.of_wk (ls := #[.val (.long z0), .second, .unset]) (plainFor_of_name pn_2) (fun m => ef_2 m z0) ?_
  show Wk l Z n0 "java/lang/Long" "valueOf" jdk_35_method_24_code 3 (Option.some (Jvm.ClassFile.FieldType.object "java/lang/Long")) (⟨3, 1, 1, 39⟩ : Room) 1 1 false (fun v h' => ∃ w, v = some w ∧ ∃ b x, w = .ref b ∧ Exa Z h' b "java/lang/Long" ∧ Fld Z h' b "java/lang/Long" "value" "J" (.long x) ∧ Keep h h' []) h 0 0 0 #[.val (.long z0), .second, .unset] []
  refine Wk.sipush (q := 3) (v := (128 : Int32)) d6_0 rfl rfl ?_
  refine Wk.istoreN (q := 4) (ls' := #[.val (.long z0), .second, .val (.int (128 : Int32))]) d6_3 rfl rfl ?_
  refine Wk.lloadN (q := 5) d6_4 rfl rfl ?_
  refine Wk.ldc2 (q := 8) (w_58 hw) d6_5 rfl ?_
  refine Wk.lcmp (q := 9) (v := (XT.cmpL z0 (-128 : Int64))) d6_8 rfl rfl ?_
  refine Wk.ifc (q := 31) (q' := 12) d6_9 (by decide) rfl rfl (fun (h1 : (XT.cmpL z0 (-128 : Int64)) < (0 : Int32)) => ?_) (fun (h1 : ¬ (XT.cmpL z0 (-128 : Int64)) < (0 : Int32)) => ?_)
  · refine Wk.new (q := 34) (w_59 hw) (w_60 hw) (w_56 hw) d6_31 rfl (by decide) (by decide) ?_
    intro h1 b g1 E1 x D1
    have ge : n0 ≤ b := g1 ▸ hn
    have f0 : Fld Z h1 b "java/lang/Long" "value" "J" (.long (0 : Int64)) := D1 (Or.inr (w_73 hw)) (ty := .long) (by decide)
    refine Wk.dup (q := 35) d6_34 rfl rfl ?_
    refine Wk.lloadN (q := 36) d6_35 rfl rfl ?_
    refine Wk.special (q := 39) (a := b) (argsL := [(.long z0)]) (rest := [(.ref b)]) (rm := (⟨2, 0, 0, 24⟩ : Room)) (Q' := fun h' => Keep h1 h' [b] ∧ Exa Z h' b "java/lang/Long" ∧ Fld Z h' b "java/lang/Long" "value" "J" (.long z0)) (m_li hw z0 ge x f0) rfl (w_61 hw) (w_62 hw) (w_64 hw) (w_56 hw) (by decide) pd_1 rfl rfl rfl d6_36 rfl (W := 1) rfl (by decide) (by decide) (by decide) (by decide) ?_
    rintro h2 ⟨K, x, f0⟩
    exact Wk.retA rfl rfl rfl d6_39 (by decide) (by decide) ⟨_, rfl, b, _, rfl, x, f0, own_k1 E1 g1 K⟩
  · refine Wk.lloadN (q := 13) d6_12 rfl rfl ?_
    refine Wk.ldc2 (q := 16) (w_74 hw) d6_13 rfl ?_
    refine Wk.lcmp (q := 17) (v := (XT.cmpL z0 (127 : Int64))) d6_16 rfl rfl ?_
    refine Wk.ifc (q := 31) (q' := 20) d6_17 (by decide) rfl rfl (fun (h2 : (0 : Int32) < (XT.cmpL z0 (127 : Int64))) => ?_) (fun (h2 : ¬ (0 : Int32) < (XT.cmpL z0 (127 : Int64))) => ?_)
    · refine Wk.new (q := 34) (w_59 hw) (w_60 hw) (w_56 hw) d6_31 rfl (by decide) (by decide) ?_
      intro h1 b g1 E1 x D1
      have ge : n0 ≤ b := g1 ▸ hn
      have f0 : Fld Z h1 b "java/lang/Long" "value" "J" (.long (0 : Int64)) := D1 (Or.inr (w_73 hw)) (ty := .long) (by decide)
      refine Wk.dup (q := 35) d6_34 rfl rfl ?_
      refine Wk.lloadN (q := 36) d6_35 rfl rfl ?_
      refine Wk.special (q := 39) (a := b) (argsL := [(.long z0)]) (rest := [(.ref b)]) (rm := (⟨2, 0, 0, 24⟩ : Room)) (Q' := fun h' => Keep h1 h' [b] ∧ Exa Z h' b "java/lang/Long" ∧ Fld Z h' b "java/lang/Long" "value" "J" (.long z0)) (m_li hw z0 ge x f0) rfl (w_61 hw) (w_62 hw) (w_64 hw) (w_56 hw) (by decide) pd_1 rfl rfl rfl d6_36 rfl (W := 1) rfl (by decide) (by decide) (by decide) (by decide) ?_
      rintro h2 ⟨K, x, f0⟩
      exact Wk.retA rfl rfl rfl d6_39 (by decide) (by decide) ⟨_, rfl, b, _, rfl, x, f0, own_k1 E1 g1 K⟩
    · refine Wk.getS (q := 23) (w_75 hw) Via.refl F.1 d6_20 rfl ?_
      refine Wk.lloadN (q := 24) d6_23 rfl rfl ?_
      refine Wk.l2i (q := 25) (v := z0.toInt32) d6_24 rfl rfl ?_
      refine Wk.sipush (q := 28) (v := (128 : Int32)) d6_25 rfl rfl ?_
      refine Wk.iadd (q := 29) (v := (z0.toInt32 + (128 : Int32))) d6_28 rfl rfl ?_
      obtain ⟨b, y, eb, xb, fb⟩ := F.2.2.2 (z0.toInt32 + (128 : Int32)).toNatClampNeg (own_cl (own_ix h1 h2).1 (own_ix h1 h2).2)
      refine Wk.aaload (q := 30) F.2.1 rfl (by rw [F.2.2.1]; exact own_in (own_ix h1 h2).1 (own_ix h1 h2).2) eb d6_29 rfl ?_
      exact Wk.retA rfl rfl rfl d6_30 (by decide) (by decide) ⟨_, rfl, b, y, rfl, xb, fb, Keep.refl _ _⟩
set_option maxRecDepth 65536 in
set_option maxHeartbeats 40000000 in
theorem m_lv {l : Launch} {Z : State} {a0 : Array Value} {n0 : Nat} {h : Heap} (hw : ∀ d ∈ tables_1, d.before a0 Z = true) {a : Addr} {x0 : Int64} (f0 : Fld Z h a "java/lang/Long" "value" "J" (.long x0)) : Met l Z n0 (⟨"java/lang/Long", "longValue", "()J"⟩ : MethodName) jdk_35_method_31_code 1 (Option.some Jvm.ClassFile.FieldType.long) (⟨0, 0, 0, 0⟩ : Room) #[(.ref a)] h (fun v h' => v = some (.long x0) ∧ h' = h) := by
  refine Met.of_wk (ls := #[.val (.ref a)]) (plainFor_of_name pn_2) (fun m => ef_0 m a) ?_
  show Wk l Z n0 "java/lang/Long" "longValue" jdk_35_method_31_code 1 (Option.some Jvm.ClassFile.FieldType.long) (⟨0, 0, 0, 0⟩ : Room) 0 0 false (fun v h' => v = some (.long x0) ∧ h' = h) h 0 0 0 #[.val (.ref a)] []
  refine Wk.aloadN (q := 1) d10_0 rfl rfl rfl ?_
  refine Wk.getF (q := 4) (w_72 hw) Via.refl f0 d10_1 rfl ?_
  exact Wk.retL rfl d10_4 (by decide) (by decide) ⟨rfl, rfl⟩
set_option maxRecDepth 65536 in
set_option maxHeartbeats 40000000 in
theorem m_al0 {l : Launch} {Z : State} {a0 : Array Value} {n0 : Nat} {h : Heap} (hw : ∀ d ∈ tables_1, d.before a0 Z = true) {a : Addr} : Met l Z n0 (⟨"com/example/annals/annals/storage/TypedColumn", "atLeast", "(Ljava/lang/Long;Ljava/lang/Long;)Z"⟩ : MethodName) prog_29_method_7_code 2 (Option.some Jvm.ClassFile.FieldType.boolean) (⟨1, 0, 0, 14⟩ : Room) #[(.ref a), .null] h (fun v h' => v = some (.int (0 : Int32)) ∧ h' = h) := by
  refine Met.of_wk (ls := #[.val (.ref a), .val .null]) (plainFor_of_name pn_3) (fun m => ef_3 m a) ?_
  show Wk l Z n0 "com/example/annals/annals/storage/TypedColumn" "atLeast" prog_29_method_7_code 2 (Option.some Jvm.ClassFile.FieldType.boolean) (⟨1, 0, 0, 14⟩ : Room) 0 0 false (fun v h' => v = some (.int (0 : Int32)) ∧ h' = h) h 0 0 0 #[.val (.ref a), .val .null] []
  refine Wk.aloadN (q := 1) d9_0 rfl rfl rfl ?_
  refine Wk.ifnullF (q := 4) d9_1 rfl ?_
  refine Wk.aloadN (q := 5) d9_4 rfl rfl rfl ?_
  refine Wk.ifnullT (q := 24) d9_5 (by decide) rfl ?_
  refine Wk.iconst (q := 25) (v := (0 : Int32)) d9_24 rfl rfl ?_
  exact Wk.retZ rfl rfl d9_25 (by decide) (by decide) ⟨rfl, rfl⟩
set_option maxRecDepth 65536 in
set_option maxHeartbeats 40000000 in
theorem m_al1 {l : Launch} {Z : State} {a0 : Array Value} {n0 : Nat} {h : Heap} (hw : ∀ d ∈ tables_1, d.before a0 Z = true) {a b : Addr} {x0 y0 : Int64} (xa : Exa Z h a "java/lang/Long") (fx : Fld Z h a "java/lang/Long" "value" "J" (.long x0)) (xb : Exa Z h b "java/lang/Long") (fy : Fld Z h b "java/lang/Long" "value" "J" (.long y0)) : Met l Z n0 (⟨"com/example/annals/annals/storage/TypedColumn", "atLeast", "(Ljava/lang/Long;Ljava/lang/Long;)Z"⟩ : MethodName) prog_29_method_7_code 2 (Option.some Jvm.ClassFile.FieldType.boolean) (⟨1, 0, 0, 14⟩ : Room) #[(.ref a), (.ref b)] h (fun v h' => (∃ w, v = some w ∧ B01 w) ∧ h' = h) := by
  refine Met.of_wk (ls := #[.val (.ref a), .val (.ref b)]) (plainFor_of_name pn_3) (fun m => ef_4 m a b) ?_
  show Wk l Z n0 "com/example/annals/annals/storage/TypedColumn" "atLeast" prog_29_method_7_code 2 (Option.some Jvm.ClassFile.FieldType.boolean) (⟨1, 0, 0, 14⟩ : Room) 0 0 false (fun v h' => (∃ w, v = some w ∧ B01 w) ∧ h' = h) h 0 0 0 #[.val (.ref a), .val (.ref b)] []
  refine Wk.aloadN (q := 1) d9_0 rfl rfl rfl ?_
  refine Wk.ifnullF (q := 4) d9_1 rfl ?_
  refine Wk.aloadN (q := 5) d9_4 rfl rfl rfl ?_
  refine Wk.ifnullF (q := 8) d9_5 rfl ?_
  refine Wk.aloadN (q := 9) d9_8 rfl rfl rfl ?_
  refine Wk.callV1 (a := a) (q := 12) (argsL := []) (rest := []) (fr := 0) (lo := 0) (v0 := (.long x0)) (m_lv hw fx) xa (w_80 hw) (w_81 hw) (w_83 hw) (w_82 hw) (w_84 hw) (w_56 hw) (by decide) pd_2 rfl rfl rfl d9_9 rfl (W := 0) rfl (by decide) (by decide) (by decide) (by decide) ?_
  refine Wk.aloadN (q := 13) d9_12 rfl rfl rfl ?_
  refine Wk.callV1 (a := b) (q := 16) (argsL := []) (rest := [(.long x0)]) (fr := 0) (lo := 0) (v0 := (.long y0)) (m_lv hw fy) xb (w_80 hw) (w_81 hw) (w_83 hw) (w_82 hw) (w_84 hw) (w_56 hw) (by decide) pd_2 rfl rfl rfl d9_13 rfl (W := 2) rfl (by decide) (by decide) (by decide) (by decide) ?_
  refine Wk.lcmp (q := 17) (v := (XT.cmpL x0 y0)) d9_16 rfl rfl ?_
  refine Wk.ifc (q := 24) (q' := 20) d9_17 (by decide) rfl rfl (fun (h1 : (XT.cmpL x0 y0) < (0 : Int32)) => ?_) (fun (h1 : ¬ (XT.cmpL x0 y0) < (0 : Int32)) => ?_)
  · refine Wk.iconst (q := 25) (v := (0 : Int32)) d9_24 rfl rfl ?_
    exact Wk.retZ rfl rfl d9_25 (by decide) (by decide) ⟨⟨_, rfl, Or.inl rfl⟩, rfl⟩
  · refine Wk.iconst (q := 21) (v := (1 : Int32)) d9_20 rfl rfl ?_
    refine Wk.goto (q := 25) d9_21 (by decide) rfl ?_
    exact Wk.retZ rfl rfl d9_25 (by decide) (by decide) ⟨⟨_, rfl, Or.inr rfl⟩, rfl⟩
theorem m_al2 {l : Launch} {Z : State} {a0 : Array Value} {n0 : Nat} {h : Heap} (hw : ∀ d ∈ tables_1, d.before a0 Z = true) {a : Addr} {x0 : Int64} {w : Value} {n : Nat} (xa : Exa Z h a "java/lang/Long") (fx : Fld Z h a "java/lang/Long" "value" "J" (.long x0)) (L : LN Z h n w) : Met l Z n0 (⟨"com/example/annals/annals/storage/TypedColumn", "atLeast", "(Ljava/lang/Long;Ljava/lang/Long;)Z"⟩ : MethodName) prog_29_method_7_code 2 (Option.some Jvm.ClassFile.FieldType.boolean) (⟨1, 0, 0, 14⟩ : Room) #[.ref a, w] h (fun v h' => (∃ w, v = some w ∧ B01 w) ∧ h' = h) := by
  rcases L with rfl | ⟨b, y0, rfl, -, xb, fy⟩
  · exact (m_al0 hw).mono fun v h' z => ⟨⟨_, z.1, Or.inl rfl⟩, z.2⟩
  · exact m_al1 hw xa fx xb fy
theorem own_cat {v : Value} (q : v.isRef = true) : v.category = 1 := by
  rcases ref_cases q with rfl | ⟨a, rfl⟩ <;> rfl
theorem ef_tc (m : MethodId) (a : Addr) (v0 : Value) (v1 : Value) (v2 : Value) (v3 : Value) (v4 : Value) (v5 : Value) (v6 : Value) (v7 : Value) (q0 : v0.isRef = true) (q1 : v1.isRef = true) (q2 : v2.isRef = true) (q3 : v3.isRef = true) (q4 : v4.isRef = true) (q5 : v5.isRef = true) (q6 : v6.isRef = true) (q7 : v7.isRef = true) : entryFrame m #[.ref a, v0, v1, v2, v3, v4, v5, v6, v7] 9 = mkF m 0 #[.val (.ref a), .val v0, .val v1, .val v2, .val v3, .val v4, .val v5, .val v6, .val v7] [] := by
  simp [entryFrame, mkF, argsToLocals, show (Value.ref a).category = 1 from rfl, own_cat q0, own_cat q1, own_cat q2, own_cat q3, own_cat q4, own_cat q5, own_cat q6, own_cat q7]
set_option maxRecDepth 65536 in
set_option maxHeartbeats 40000000 in
theorem m_tc {l : Launch} {Z : State} {a0 : Array Value} {n0 : Nat} {h : Heap} (hw : ∀ d ∈ tables_1, d.before a0 Z = true) {a : Addr} (v0 : Value) (v1 : Value) (v2 : Value) (v3 : Value) (v4 : Value) (v5 : Value) (v6 : Value) (v7 : Value) (q0 : v0.isRef = true) (q1 : v1.isRef = true) (q2 : v2.isRef = true) (q3 : v3.isRef = true) (q4 : v4.isRef = true) (q5 : v5.isRef = true) (q6 : v6.isRef = true) (q7 : v7.isRef = true) (ge : n0 ≤ a) (x : Exa Z h a "com/example/annals/annals/storage/TypedColumn") (f0 : Fld Z h a "com/example/annals/annals/storage/TypedColumn" "name" "Ljava/lang/String;" .null) (f1 : Fld Z h a "com/example/annals/annals/storage/TypedColumn" "type" "Ljava/lang/String;" .null) (f2 : Fld Z h a "com/example/annals/annals/storage/TypedColumn" "kind" "Ljava/lang/String;" .null) (f3 : Fld Z h a "com/example/annals/annals/storage/TypedColumn" "length" "Ljava/lang/Long;" .null) (f4 : Fld Z h a "com/example/annals/annals/storage/TypedColumn" "precision" "Ljava/lang/Long;" .null) (f5 : Fld Z h a "com/example/annals/annals/storage/TypedColumn" "radix" "Ljava/lang/Long;" .null) (f6 : Fld Z h a "com/example/annals/annals/storage/TypedColumn" "scale" "Ljava/lang/Long;" .null) (f7 : Fld Z h a "com/example/annals/annals/storage/TypedColumn" "fraction" "Ljava/lang/Long;" .null) : Met l Z n0 (⟨"com/example/annals/annals/storage/TypedColumn", "<init>", "(Ljava/lang/String;Ljava/lang/String;Ljava/lang/String;Ljava/lang/Long;Ljava/lang/Long;Ljava/lang/Long;Ljava/lang/Long;Ljava/lang/Long;)V"⟩ : MethodName) prog_29_method_1_code 9 (Option.none : Option Jvm.ClassFile.FieldType) (⟨2, 0, 0, 24⟩ : Room) #[(.ref a), v0, v1, v2, v3, v4, v5, v6, v7] h (fun v h' => v = none ∧ Keep h h' [a] ∧ Exa Z h' a "com/example/annals/annals/storage/TypedColumn" ∧ Fld Z h' a "com/example/annals/annals/storage/TypedColumn" "scale" "Ljava/lang/Long;" v6 ∧ Fld Z h' a "com/example/annals/annals/storage/TypedColumn" "fraction" "Ljava/lang/Long;" v7) := by
  refine Met.of_wk (ls := #[.val (.ref a), .val v0, .val v1, .val v2, .val v3, .val v4, .val v5, .val v6, .val v7]) (plainFor_of_name pn_3) (fun m => ef_tc m a v0 v1 v2 v3 v4 v5 v6 v7 q0 q1 q2 q3 q4 q5 q6 q7) ?_
  show Wk l Z n0 "com/example/annals/annals/storage/TypedColumn" "<init>" prog_29_method_1_code 9 (Option.none : Option Jvm.ClassFile.FieldType) (⟨2, 0, 0, 24⟩ : Room) 0 0 false (fun v h' => v = none ∧ Keep h h' [a] ∧ Exa Z h' a "com/example/annals/annals/storage/TypedColumn" ∧ Fld Z h' a "com/example/annals/annals/storage/TypedColumn" "scale" "Ljava/lang/Long;" v6 ∧ Fld Z h' a "com/example/annals/annals/storage/TypedColumn" "fraction" "Ljava/lang/Long;" v7) h 0 0 0 #[.val (.ref a), .val v0, .val v1, .val v2, .val v3, .val v4, .val v5, .val v6, .val v7] []
  have K := Keep.refl h [a]
  refine Wk.aloadN (q := 1) d1_0 rfl rfl rfl ?_
  refine Wk.special (q := 4) (a := a) (argsL := []) (rest := []) (rm := (⟨1, 0, 0, 12⟩ : Room)) (Q' := fun h' => h' = h) (m_rec hw) rfl (w_16 hw) (w_17 hw) (w_20 hw) (w_19 hw) (by decide) pd_0 rfl rfl rfl d1_1 rfl (W := 0) rfl (by decide) (by decide) (by decide) (by decide) ?_
  rintro h rfl
  refine Wk.aloadN (q := 5) d1_4 rfl rfl rfl ?_
  refine Wk.aloadN (q := 6) d1_5 rfl rfl q0 ?_
  refine Wk.putF (q := 9) (w_24 hw) Via.refl f0 x (Or.inr ⟨(w_25 hw), rfl, rfl⟩) (w_1 hw) (ty := (.object "java/lang/String")) (by decide) (own_narR rfl q0) (own_fitR q0) d1_6 rfl ge ?_
  intro h2 W2
  have K := K.wr W2 (Or.inl (List.mem_of_getElem? (i := 0) rfl))
  have x := x.wr W2
  have f0 := f0.same W2
  have f1 := f1.other W2 (Or.inr (slot_ne (Or.inr (w_27 hw)) (Or.inr (w_25 hw)) (by decide) (t := (.object "java/lang/String")) (t' := (.object "java/lang/String")) (by decide) (by decide)))
  have f2 := f2.other W2 (Or.inr (slot_ne (Or.inr (w_29 hw)) (Or.inr (w_25 hw)) (by decide) (t := (.object "java/lang/String")) (t' := (.object "java/lang/String")) (by decide) (by decide)))
  have f3 := f3.other W2 (Or.inr (slot_ne (Or.inr (w_31 hw)) (Or.inr (w_25 hw)) (by decide) (t := (.object "java/lang/Long")) (t' := (.object "java/lang/String")) (by decide) (by decide)))
  have f4 := f4.other W2 (Or.inr (slot_ne (Or.inr (w_33 hw)) (Or.inr (w_25 hw)) (by decide) (t := (.object "java/lang/Long")) (t' := (.object "java/lang/String")) (by decide) (by decide)))
  have f5 := f5.other W2 (Or.inr (slot_ne (Or.inr (w_35 hw)) (Or.inr (w_25 hw)) (by decide) (t := (.object "java/lang/Long")) (t' := (.object "java/lang/String")) (by decide) (by decide)))
  have f6 := f6.other W2 (Or.inr (slot_ne (Or.inr (w_37 hw)) (Or.inr (w_25 hw)) (by decide) (t := (.object "java/lang/Long")) (t' := (.object "java/lang/String")) (by decide) (by decide)))
  have f7 := f7.other W2 (Or.inr (slot_ne (Or.inr (w_39 hw)) (Or.inr (w_25 hw)) (by decide) (t := (.object "java/lang/Long")) (t' := (.object "java/lang/String")) (by decide) (by decide)))
  refine Wk.aloadN (q := 10) d1_9 rfl rfl rfl ?_
  refine Wk.aloadN (q := 11) d1_10 rfl rfl q1 ?_
  refine Wk.putF (q := 14) (w_26 hw) Via.refl f1 x (Or.inr ⟨(w_27 hw), rfl, rfl⟩) (w_1 hw) (ty := (.object "java/lang/String")) (by decide) (own_narR rfl q1) (own_fitR q1) d1_11 rfl ge ?_
  intro h2 W2
  have K := K.wr W2 (Or.inl (List.mem_of_getElem? (i := 0) rfl))
  have x := x.wr W2
  have f1 := f1.same W2
  have f2 := f2.other W2 (Or.inr (slot_ne (Or.inr (w_29 hw)) (Or.inr (w_27 hw)) (by decide) (t := (.object "java/lang/String")) (t' := (.object "java/lang/String")) (by decide) (by decide)))
  have f3 := f3.other W2 (Or.inr (slot_ne (Or.inr (w_31 hw)) (Or.inr (w_27 hw)) (by decide) (t := (.object "java/lang/Long")) (t' := (.object "java/lang/String")) (by decide) (by decide)))
  have f4 := f4.other W2 (Or.inr (slot_ne (Or.inr (w_33 hw)) (Or.inr (w_27 hw)) (by decide) (t := (.object "java/lang/Long")) (t' := (.object "java/lang/String")) (by decide) (by decide)))
  have f5 := f5.other W2 (Or.inr (slot_ne (Or.inr (w_35 hw)) (Or.inr (w_27 hw)) (by decide) (t := (.object "java/lang/Long")) (t' := (.object "java/lang/String")) (by decide) (by decide)))
  have f6 := f6.other W2 (Or.inr (slot_ne (Or.inr (w_37 hw)) (Or.inr (w_27 hw)) (by decide) (t := (.object "java/lang/Long")) (t' := (.object "java/lang/String")) (by decide) (by decide)))
  have f7 := f7.other W2 (Or.inr (slot_ne (Or.inr (w_39 hw)) (Or.inr (w_27 hw)) (by decide) (t := (.object "java/lang/Long")) (t' := (.object "java/lang/String")) (by decide) (by decide)))
  refine Wk.aloadN (q := 15) d1_14 rfl rfl rfl ?_
  refine Wk.aloadN (q := 16) d1_15 rfl rfl q2 ?_
  refine Wk.putF (q := 19) (w_28 hw) Via.refl f2 x (Or.inr ⟨(w_29 hw), rfl, rfl⟩) (w_1 hw) (ty := (.object "java/lang/String")) (by decide) (own_narR rfl q2) (own_fitR q2) d1_16 rfl ge ?_
  intro h2 W2
  have K := K.wr W2 (Or.inl (List.mem_of_getElem? (i := 0) rfl))
  have x := x.wr W2
  have f2 := f2.same W2
  have f3 := f3.other W2 (Or.inr (slot_ne (Or.inr (w_31 hw)) (Or.inr (w_29 hw)) (by decide) (t := (.object "java/lang/Long")) (t' := (.object "java/lang/String")) (by decide) (by decide)))
  have f4 := f4.other W2 (Or.inr (slot_ne (Or.inr (w_33 hw)) (Or.inr (w_29 hw)) (by decide) (t := (.object "java/lang/Long")) (t' := (.object "java/lang/String")) (by decide) (by decide)))
  have f5 := f5.other W2 (Or.inr (slot_ne (Or.inr (w_35 hw)) (Or.inr (w_29 hw)) (by decide) (t := (.object "java/lang/Long")) (t' := (.object "java/lang/String")) (by decide) (by decide)))
  have f6 := f6.other W2 (Or.inr (slot_ne (Or.inr (w_37 hw)) (Or.inr (w_29 hw)) (by decide) (t := (.object "java/lang/Long")) (t' := (.object "java/lang/String")) (by decide) (by decide)))
  have f7 := f7.other W2 (Or.inr (slot_ne (Or.inr (w_39 hw)) (Or.inr (w_29 hw)) (by decide) (t := (.object "java/lang/Long")) (t' := (.object "java/lang/String")) (by decide) (by decide)))
  refine Wk.aloadN (q := 20) d1_19 rfl rfl rfl ?_
  refine Wk.aload (q := 22) d1_20 rfl rfl q3 ?_
  refine Wk.putF (q := 25) (w_30 hw) Via.refl f3 x (Or.inr ⟨(w_31 hw), rfl, rfl⟩) (w_1 hw) (ty := (.object "java/lang/Long")) (by decide) (own_narR rfl q3) (own_fitR q3) d1_22 rfl ge ?_
  intro h2 W2
  have K := K.wr W2 (Or.inl (List.mem_of_getElem? (i := 0) rfl))
  have x := x.wr W2
  have f3 := f3.same W2
  have f4 := f4.other W2 (Or.inr (slot_ne (Or.inr (w_33 hw)) (Or.inr (w_31 hw)) (by decide) (t := (.object "java/lang/Long")) (t' := (.object "java/lang/Long")) (by decide) (by decide)))
  have f5 := f5.other W2 (Or.inr (slot_ne (Or.inr (w_35 hw)) (Or.inr (w_31 hw)) (by decide) (t := (.object "java/lang/Long")) (t' := (.object "java/lang/Long")) (by decide) (by decide)))
  have f6 := f6.other W2 (Or.inr (slot_ne (Or.inr (w_37 hw)) (Or.inr (w_31 hw)) (by decide) (t := (.object "java/lang/Long")) (t' := (.object "java/lang/Long")) (by decide) (by decide)))
  have f7 := f7.other W2 (Or.inr (slot_ne (Or.inr (w_39 hw)) (Or.inr (w_31 hw)) (by decide) (t := (.object "java/lang/Long")) (t' := (.object "java/lang/Long")) (by decide) (by decide)))
  refine Wk.aloadN (q := 26) d1_25 rfl rfl rfl ?_
  refine Wk.aload (q := 28) d1_26 rfl rfl q4 ?_
  refine Wk.putF (q := 31) (w_32 hw) Via.refl f4 x (Or.inr ⟨(w_33 hw), rfl, rfl⟩) (w_1 hw) (ty := (.object "java/lang/Long")) (by decide) (own_narR rfl q4) (own_fitR q4) d1_28 rfl ge ?_
  intro h2 W2
  have K := K.wr W2 (Or.inl (List.mem_of_getElem? (i := 0) rfl))
  have x := x.wr W2
  have f4 := f4.same W2
  have f5 := f5.other W2 (Or.inr (slot_ne (Or.inr (w_35 hw)) (Or.inr (w_33 hw)) (by decide) (t := (.object "java/lang/Long")) (t' := (.object "java/lang/Long")) (by decide) (by decide)))
  have f6 := f6.other W2 (Or.inr (slot_ne (Or.inr (w_37 hw)) (Or.inr (w_33 hw)) (by decide) (t := (.object "java/lang/Long")) (t' := (.object "java/lang/Long")) (by decide) (by decide)))
  have f7 := f7.other W2 (Or.inr (slot_ne (Or.inr (w_39 hw)) (Or.inr (w_33 hw)) (by decide) (t := (.object "java/lang/Long")) (t' := (.object "java/lang/Long")) (by decide) (by decide)))
  refine Wk.aloadN (q := 32) d1_31 rfl rfl rfl ?_
  refine Wk.aload (q := 34) d1_32 rfl rfl q5 ?_
  refine Wk.putF (q := 37) (w_34 hw) Via.refl f5 x (Or.inr ⟨(w_35 hw), rfl, rfl⟩) (w_1 hw) (ty := (.object "java/lang/Long")) (by decide) (own_narR rfl q5) (own_fitR q5) d1_34 rfl ge ?_
  intro h2 W2
  have K := K.wr W2 (Or.inl (List.mem_of_getElem? (i := 0) rfl))
  have x := x.wr W2
  have f5 := f5.same W2
  have f6 := f6.other W2 (Or.inr (slot_ne (Or.inr (w_37 hw)) (Or.inr (w_35 hw)) (by decide) (t := (.object "java/lang/Long")) (t' := (.object "java/lang/Long")) (by decide) (by decide)))
  have f7 := f7.other W2 (Or.inr (slot_ne (Or.inr (w_39 hw)) (Or.inr (w_35 hw)) (by decide) (t := (.object "java/lang/Long")) (t' := (.object "java/lang/Long")) (by decide) (by decide)))
  refine Wk.aloadN (q := 38) d1_37 rfl rfl rfl ?_
  refine Wk.aload (q := 40) d1_38 rfl rfl q6 ?_
  refine Wk.putF (q := 43) (w_36 hw) Via.refl f6 x (Or.inr ⟨(w_37 hw), rfl, rfl⟩) (w_1 hw) (ty := (.object "java/lang/Long")) (by decide) (own_narR rfl q6) (own_fitR q6) d1_40 rfl ge ?_
  intro h2 W2
  have K := K.wr W2 (Or.inl (List.mem_of_getElem? (i := 0) rfl))
  have x := x.wr W2
  have f6 := f6.same W2
  have f7 := f7.other W2 (Or.inr (slot_ne (Or.inr (w_39 hw)) (Or.inr (w_37 hw)) (by decide) (t := (.object "java/lang/Long")) (t' := (.object "java/lang/Long")) (by decide) (by decide)))
  refine Wk.aloadN (q := 44) d1_43 rfl rfl rfl ?_
  refine Wk.aload (q := 46) d1_44 rfl rfl q7 ?_
  refine Wk.putF (q := 49) (w_38 hw) Via.refl f7 x (Or.inr ⟨(w_39 hw), rfl, rfl⟩) (w_1 hw) (ty := (.object "java/lang/Long")) (by decide) (own_narR rfl q7) (own_fitR q7) d1_46 rfl ge ?_
  intro h2 W2
  have K := K.wr W2 (Or.inl (List.mem_of_getElem? (i := 0) rfl))
  have x := x.wr W2
  have f6 := f6.other W2 (Or.inr (slot_ne (Or.inr (w_37 hw)) (Or.inr (w_39 hw)) (by decide) (t := (.object "java/lang/Long")) (t' := (.object "java/lang/Long")) (by decide) (by decide)))
  have f7 := f7.same W2
  exact Wk.retV rfl d1_49 (by decide) (by decide) ⟨rfl, K, x, f6, f7⟩
set_option maxRecDepth 65536 in
set_option maxHeartbeats 40000000 in
theorem m_rs_nn {l : Launch} {Z : State} {a0 : Array Value} {n0 : Nat} {h : Heap} (hw : ∀ d ∈ tables_1, d.before a0 Z = true) {a : Addr} (f6 : Fld Z h a "com/example/annals/annals/storage/TypedColumn" "scale" "Ljava/lang/Long;" .null) (f7 : Fld Z h a "com/example/annals/annals/storage/TypedColumn" "fraction" "Ljava/lang/Long;" .null) : Met l Z n0 (⟨"com/example/annals/annals/storage/TypedColumn", "roundsSomeValues", "()Z"⟩ : MethodName) prog_29_method_5_code 1 (Option.some Jvm.ClassFile.FieldType.boolean) (⟨0, 0, 0, 0⟩ : Room) #[(.ref a)] h (fun v h' => v = some (.int (0 : Int32)) ∧ h' = h) := by
  refine Met.of_wk (ls := #[.val (.ref a)]) (plainFor_of_name pn_3) (fun m => ef_0 m a) ?_
  show Wk l Z n0 "com/example/annals/annals/storage/TypedColumn" "roundsSomeValues" prog_29_method_5_code 1 (Option.some Jvm.ClassFile.FieldType.boolean) (⟨0, 0, 0, 0⟩ : Room) 0 0 false (fun v h' => v = some (.int (0 : Int32)) ∧ h' = h) h 0 0 0 #[.val (.ref a)] []
  refine Wk.aloadN (q := 1) d4_0 rfl rfl rfl ?_
  refine Wk.getF (q := 4) (w_36 hw) Via.refl f6 d4_1 rfl ?_
  refine Wk.ifnonnullF (q := 7) d4_4 rfl ?_
  refine Wk.aloadN (q := 8) d4_7 rfl rfl rfl ?_
  refine Wk.getF (q := 11) (w_38 hw) Via.refl f7 d4_8 rfl ?_
  refine Wk.ifnullT (q := 18) d4_11 (by decide) rfl ?_
  refine Wk.iconst (q := 19) (v := (0 : Int32)) d4_18 rfl rfl ?_
  exact Wk.retZ rfl rfl d4_19 (by decide) (by decide) ⟨rfl, rfl⟩
set_option maxRecDepth 65536 in
set_option maxHeartbeats 40000000 in
theorem m_rvU_nn {l : Launch} {Z : State} {a0 : Array Value} {n0 : Nat} {h : Heap} (hw : ∀ d ∈ tables_1, d.before a0 Z = true) {a : Addr} (f6 : Fld Z h a "com/example/annals/annals/storage/TypedColumn" "scale" "Ljava/lang/Long;" .null) (f7 : Fld Z h a "com/example/annals/annals/storage/TypedColumn" "fraction" "Ljava/lang/Long;" .null) {o : Addr} (g6 : Fld Z h o "com/example/annals/annals/storage/TypedColumn" "scale" "Ljava/lang/Long;" .null) (g7 : Fld Z h o "com/example/annals/annals/storage/TypedColumn" "fraction" "Ljava/lang/Long;" .null) : Met l Z n0 (⟨"com/example/annals/annals/storage/TypedColumn", "roundsValuesOf", "(Lcom/example/annals/annals/storage/TypedColumn;)Z"⟩ : MethodName) prog_29_method_4_code 2 (Option.some Jvm.ClassFile.FieldType.boolean) (⟨2, 0, 0, 27⟩ : Room) #[(.ref a), (.ref o)] h (fun v h' => v = some (.int (0 : Int32)) ∧ h' = h) := by
  refine Met.of_wk (ls := #[.val (.ref a), .val (.ref o)]) (plainFor_of_name pn_3) (fun m => ef_4 m a o) ?_
  show Wk l Z n0 "com/example/annals/annals/storage/TypedColumn" "roundsValuesOf" prog_29_method_4_code 2 (Option.some Jvm.ClassFile.FieldType.boolean) (⟨2, 0, 0, 27⟩ : Room) 0 0 false (fun v h' => v = some (.int (0 : Int32)) ∧ h' = h) h 0 0 0 #[.val (.ref a), .val (.ref o)] []
  refine Wk.aloadN (q := 1) d5_0 rfl rfl rfl ?_
  refine Wk.getF (q := 4) (w_36 hw) Via.refl f6 d5_1 rfl ?_
  refine Wk.ifnullT (q := 21) d5_4 (by decide) rfl ?_
  refine Wk.aloadN (q := 22) d5_21 rfl rfl rfl ?_
  refine Wk.getF (q := 25) (w_38 hw) Via.refl f7 d5_22 rfl ?_
  refine Wk.ifnullT (q := 46) d5_25 (by decide) rfl ?_
  refine Wk.iconst (q := 47) (v := (0 : Int32)) d5_46 rfl rfl ?_
  exact Wk.retZ rfl rfl d5_47 (by decide) (by decide) ⟨rfl, rfl⟩
set_option maxRecDepth 65536 in
set_option maxHeartbeats 40000000 in
theorem m_rvO_nn {l : Launch} {Z : State} {a0 : Array Value} {n0 : Nat} {h : Heap} (hw : ∀ d ∈ tables_1, d.before a0 Z = true) {a : Addr} (f6 : Fld Z h a "com/example/annals/annals/storage/TypedColumn" "scale" "Ljava/lang/Long;" .null) (f7 : Fld Z h a "com/example/annals/annals/storage/TypedColumn" "fraction" "Ljava/lang/Long;" .null) {o : Addr} {w6 w7 : Value} {n : Nat} (g6 : Fld Z h o "com/example/annals/annals/storage/TypedColumn" "scale" "Ljava/lang/Long;" w6) (g7 : Fld Z h o "com/example/annals/annals/storage/TypedColumn" "fraction" "Ljava/lang/Long;" w7) (l6 : LN Z h n w6) (l7 : LN Z h n w7) : Met l Z n0 (⟨"com/example/annals/annals/storage/TypedColumn", "roundsValuesOf", "(Lcom/example/annals/annals/storage/TypedColumn;)Z"⟩ : MethodName) prog_29_method_4_code 2 (Option.some Jvm.ClassFile.FieldType.boolean) (⟨2, 0, 0, 27⟩ : Room) #[(.ref a), (.ref o)] h (fun v h' => v = some (.int (0 : Int32)) ∧ h' = h) := by
  refine Met.of_wk (ls := #[.val (.ref a), .val (.ref o)]) (plainFor_of_name pn_3) (fun m => ef_4 m a o) ?_
  show Wk l Z n0 "com/example/annals/annals/storage/TypedColumn" "roundsValuesOf" prog_29_method_4_code 2 (Option.some Jvm.ClassFile.FieldType.boolean) (⟨2, 0, 0, 27⟩ : Room) 0 0 false (fun v h' => v = some (.int (0 : Int32)) ∧ h' = h) h 0 0 0 #[.val (.ref a), .val (.ref o)] []
  refine Wk.aloadN (q := 1) d5_0 rfl rfl rfl ?_
  refine Wk.getF (q := 4) (w_36 hw) Via.refl f6 d5_1 rfl ?_
  refine Wk.ifnullT (q := 21) d5_4 (by decide) rfl ?_
  refine Wk.aloadN (q := 22) d5_21 rfl rfl rfl ?_
  refine Wk.getF (q := 25) (w_38 hw) Via.refl f7 d5_22 rfl ?_
  refine Wk.ifnullT (q := 46) d5_25 (by decide) rfl ?_
  refine Wk.iconst (q := 47) (v := (0 : Int32)) d5_46 rfl rfl ?_
  exact Wk.retZ rfl rfl d5_47 (by decide) (by decide) ⟨rfl, rfl⟩
set_option maxRecDepth 65536 in
set_option maxHeartbeats 40000000 in
theorem m_rs_nr {l : Launch} {Z : State} {a0 : Array Value} {n0 : Nat} {h : Heap} (hw : ∀ d ∈ tables_1, d.before a0 Z = true) {a : Addr} {af : Addr} (f6 : Fld Z h a "com/example/annals/annals/storage/TypedColumn" "scale" "Ljava/lang/Long;" .null) (f7 : Fld Z h a "com/example/annals/annals/storage/TypedColumn" "fraction" "Ljava/lang/Long;" (.ref af)) : Met l Z n0 (⟨"com/example/annals/annals/storage/TypedColumn", "roundsSomeValues", "()Z"⟩ : MethodName) prog_29_method_5_code 1 (Option.some Jvm.ClassFile.FieldType.boolean) (⟨0, 0, 0, 0⟩ : Room) #[(.ref a)] h (fun v h' => v = some (.int (1 : Int32)) ∧ h' = h) := by
  refine Met.of_wk (ls := #[.val (.ref a)]) (plainFor_of_name pn_3) (fun m => ef_0 m a) ?_
  show Wk l Z n0 "com/example/annals/annals/storage/TypedColumn" "roundsSomeValues" prog_29_method_5_code 1 (Option.some Jvm.ClassFile.FieldType.boolean) (⟨0, 0, 0, 0⟩ : Room) 0 0 false (fun v h' => v = some (.int (1 : Int32)) ∧ h' = h) h 0 0 0 #[.val (.ref a)] []
  refine Wk.aloadN (q := 1) d4_0 rfl rfl rfl ?_
  refine Wk.getF (q := 4) (w_36 hw) Via.refl f6 d4_1 rfl ?_
  refine Wk.ifnonnullF (q := 7) d4_4 rfl ?_
  refine Wk.aloadN (q := 8) d4_7 rfl rfl rfl ?_
  refine Wk.getF (q := 11) (w_38 hw) Via.refl f7 d4_8 rfl ?_
  refine Wk.ifnullF (q := 14) d4_11 rfl ?_
  refine Wk.iconst (q := 15) (v := (1 : Int32)) d4_14 rfl rfl ?_
  refine Wk.goto (q := 19) d4_15 (by decide) rfl ?_
  exact Wk.retZ rfl rfl d4_19 (by decide) (by decide) ⟨rfl, rfl⟩
set_option maxRecDepth 65536 in
set_option maxHeartbeats 40000000 in
theorem m_rvU_nr {l : Launch} {Z : State} {a0 : Array Value} {n0 : Nat} {h : Heap} (hw : ∀ d ∈ tables_1, d.before a0 Z = true) {a : Addr} {af : Addr} {xf : Int64} (ef : Exa Z h af "java/lang/Long") (gf : Fld Z h af "java/lang/Long" "value" "J" (.long xf)) (f6 : Fld Z h a "com/example/annals/annals/storage/TypedColumn" "scale" "Ljava/lang/Long;" .null) (f7 : Fld Z h a "com/example/annals/annals/storage/TypedColumn" "fraction" "Ljava/lang/Long;" (.ref af)) {o : Addr} (g6 : Fld Z h o "com/example/annals/annals/storage/TypedColumn" "scale" "Ljava/lang/Long;" .null) (g7 : Fld Z h o "com/example/annals/annals/storage/TypedColumn" "fraction" "Ljava/lang/Long;" .null) : Met l Z n0 (⟨"com/example/annals/annals/storage/TypedColumn", "roundsValuesOf", "(Lcom/example/annals/annals/storage/TypedColumn;)Z"⟩ : MethodName) prog_29_method_4_code 2 (Option.some Jvm.ClassFile.FieldType.boolean) (⟨2, 0, 0, 27⟩ : Room) #[(.ref a), (.ref o)] h (fun v h' => v = some (.int (1 : Int32)) ∧ h' = h) := by
  refine Met.of_wk (ls := #[.val (.ref a), .val (.ref o)]) (plainFor_of_name pn_3) (fun m => ef_4 m a o) ?_
  show Wk l Z n0 "com/example/annals/annals/storage/TypedColumn" "roundsValuesOf" prog_29_method_4_code 2 (Option.some Jvm.ClassFile.FieldType.boolean) (⟨2, 0, 0, 27⟩ : Room) 0 0 false (fun v h' => v = some (.int (1 : Int32)) ∧ h' = h) h 0 0 0 #[.val (.ref a), .val (.ref o)] []
  refine Wk.aloadN (q := 1) d5_0 rfl rfl rfl ?_
  refine Wk.getF (q := 4) (w_36 hw) Via.refl f6 d5_1 rfl ?_
  refine Wk.ifnullT (q := 21) d5_4 (by decide) rfl ?_
  refine Wk.aloadN (q := 22) d5_21 rfl rfl rfl ?_
  refine Wk.getF (q := 25) (w_38 hw) Via.refl f7 d5_22 rfl ?_
  refine Wk.ifnullF (q := 28) d5_25 rfl ?_
  refine Wk.aloadN (q := 29) d5_28 rfl rfl rfl ?_
  refine Wk.getF (q := 32) (w_38 hw) Via.refl f7 d5_29 rfl ?_
  refine Wk.aloadN (q := 33) d5_32 rfl rfl rfl ?_
  refine Wk.getF (q := 36) (w_38 hw) Via.refl g7 d5_33 rfl ?_
  refine Wk.callS1 (q := 39) (argsL := [(.ref af), .null]) (rest := []) (fr := 1) (lo := 14) (v0 := (.int (0 : Int32))) (m_al0 hw) (w_77 hw) (w_78 hw) (w_2 hw) (w_79 hw) (by decide) pd_3 rfl rfl rfl d5_36 rfl (W := 0) rfl (by decide) (by decide) (by decide) (by decide) ?_
  refine Wk.ifcF (q := 42) d5_39 rfl (by decide : (0 : Int32) = (0 : Int32)) ?_
  refine Wk.iconst (q := 43) (v := (1 : Int32)) d5_42 rfl rfl ?_
  refine Wk.goto (q := 47) d5_43 (by decide) rfl ?_
  exact Wk.retZ rfl rfl d5_47 (by decide) (by decide) ⟨rfl, rfl⟩
set_option maxRecDepth 65536 in
set_option maxHeartbeats 40000000 in
theorem m_rvO_nr {l : Launch} {Z : State} {a0 : Array Value} {n0 : Nat} {h : Heap} (hw : ∀ d ∈ tables_1, d.before a0 Z = true) {a : Addr} {af : Addr} {xf : Int64} (ef : Exa Z h af "java/lang/Long") (gf : Fld Z h af "java/lang/Long" "value" "J" (.long xf)) (f6 : Fld Z h a "com/example/annals/annals/storage/TypedColumn" "scale" "Ljava/lang/Long;" .null) (f7 : Fld Z h a "com/example/annals/annals/storage/TypedColumn" "fraction" "Ljava/lang/Long;" (.ref af)) {o : Addr} {w6 w7 : Value} {n : Nat} (g6 : Fld Z h o "com/example/annals/annals/storage/TypedColumn" "scale" "Ljava/lang/Long;" w6) (g7 : Fld Z h o "com/example/annals/annals/storage/TypedColumn" "fraction" "Ljava/lang/Long;" w7) (l6 : LN Z h n w6) (l7 : LN Z h n w7) : Met l Z n0 (⟨"com/example/annals/annals/storage/TypedColumn", "roundsValuesOf", "(Lcom/example/annals/annals/storage/TypedColumn;)Z"⟩ : MethodName) prog_29_method_4_code 2 (Option.some Jvm.ClassFile.FieldType.boolean) (⟨2, 0, 0, 27⟩ : Room) #[(.ref a), (.ref o)] h (fun v h' => (∃ w, v = some w ∧ B01 w) ∧ h' = h) := by
  refine Met.of_wk (ls := #[.val (.ref a), .val (.ref o)]) (plainFor_of_name pn_3) (fun m => ef_4 m a o) ?_
  show Wk l Z n0 "com/example/annals/annals/storage/TypedColumn" "roundsValuesOf" prog_29_method_4_code 2 (Option.some Jvm.ClassFile.FieldType.boolean) (⟨2, 0, 0, 27⟩ : Room) 0 0 false (fun v h' => (∃ w, v = some w ∧ B01 w) ∧ h' = h) h 0 0 0 #[.val (.ref a), .val (.ref o)] []
  refine Wk.aloadN (q := 1) d5_0 rfl rfl rfl ?_
  refine Wk.getF (q := 4) (w_36 hw) Via.refl f6 d5_1 rfl ?_
  refine Wk.ifnullT (q := 21) d5_4 (by decide) rfl ?_
  refine Wk.aloadN (q := 22) d5_21 rfl rfl rfl ?_
  refine Wk.getF (q := 25) (w_38 hw) Via.refl f7 d5_22 rfl ?_
  refine Wk.ifnullF (q := 28) d5_25 rfl ?_
  refine Wk.aloadN (q := 29) d5_28 rfl rfl rfl ?_
  refine Wk.getF (q := 32) (w_38 hw) Via.refl f7 d5_29 rfl ?_
  refine Wk.aloadN (q := 33) d5_32 rfl rfl rfl ?_
  refine Wk.getF (q := 36) (w_38 hw) Via.refl g7 d5_33 rfl ?_
  refine Wk.callS2 (q := 39) (argsL := [(.ref af), w7]) (rest := []) (fr := 1) (lo := 14) (P := B01) (m_al2 hw ef gf l7) (w_77 hw) (w_78 hw) (w_2 hw) (w_79 hw) (by decide) pd_3 rfl rfl rfl d5_36 rfl (W := 0) rfl (by decide) (by decide) (by decide) (by decide) ?_
  rintro _ (rfl | rfl)
  · refine Wk.ifcF (q := 42) d5_39 rfl (by decide : (0 : Int32) = (0 : Int32)) ?_
    refine Wk.iconst (q := 43) (v := (1 : Int32)) d5_42 rfl rfl ?_
    refine Wk.goto (q := 47) d5_43 (by decide) rfl ?_
    exact Wk.retZ rfl rfl d5_47 (by decide) (by decide) ⟨⟨_, rfl, Or.inr rfl⟩, rfl⟩
  · refine Wk.ifcT (q := 46) d5_39 (by decide) rfl (by decide : ¬ (1 : Int32) = (0 : Int32)) ?_
    refine Wk.iconst (q := 47) (v := (0 : Int32)) d5_46 rfl rfl ?_
    exact Wk.retZ rfl rfl d5_47 (by decide) (by decide) ⟨⟨_, rfl, Or.inl rfl⟩, rfl⟩
set_option maxRecDepth 65536 in
set_option maxHeartbeats 40000000 in
theorem m_rs_rn {l : Launch} {Z : State} {a0 : Array Value} {n0 : Nat} {h : Heap} (hw : ∀ d ∈ tables_1, d.before a0 Z = true) {a : Addr} {as : Addr} (f6 : Fld Z h a "com/example/annals/annals/storage/TypedColumn" "scale" "Ljava/lang/Long;" (.ref as)) (f7 : Fld Z h a "com/example/annals/annals/storage/TypedColumn" "fraction" "Ljava/lang/Long;" .null) : Met l Z n0 (⟨"com/example/annals/annals/storage/TypedColumn", "roundsSomeValues", "()Z"⟩ : MethodName) prog_29_method_5_code 1 (Option.some Jvm.ClassFile.FieldType.boolean) (⟨0, 0, 0, 0⟩ : Room) #[(.ref a)] h (fun v h' => v = some (.int (1 : Int32)) ∧ h' = h) := by
  refine Met.of_wk (ls := #[.val (.ref a)]) (plainFor_of_name pn_3) (fun m => ef_0 m a) ?_
  show Wk l Z n0 "com/example/annals/annals/storage/TypedColumn" "roundsSomeValues" prog_29_method_5_code 1 (Option.some Jvm.ClassFile.FieldType.boolean) (⟨0, 0, 0, 0⟩ : Room) 0 0 false (fun v h' => v = some (.int (1 : Int32)) ∧ h' = h) h 0 0 0 #[.val (.ref a)] []
  refine Wk.aloadN (q := 1) d4_0 rfl rfl rfl ?_
  refine Wk.getF (q := 4) (w_36 hw) Via.refl f6 d4_1 rfl ?_
  refine Wk.ifnonnullT (q := 14) d4_4 (by decide) rfl ?_
  refine Wk.iconst (q := 15) (v := (1 : Int32)) d4_14 rfl rfl ?_
  refine Wk.goto (q := 19) d4_15 (by decide) rfl ?_
  exact Wk.retZ rfl rfl d4_19 (by decide) (by decide) ⟨rfl, rfl⟩
set_option maxRecDepth 65536 in
set_option maxHeartbeats 40000000 in
theorem m_rvU_rn {l : Launch} {Z : State} {a0 : Array Value} {n0 : Nat} {h : Heap} (hw : ∀ d ∈ tables_1, d.before a0 Z = true) {a : Addr} {as : Addr} {xs : Int64} (es : Exa Z h as "java/lang/Long") (gs : Fld Z h as "java/lang/Long" "value" "J" (.long xs)) (f6 : Fld Z h a "com/example/annals/annals/storage/TypedColumn" "scale" "Ljava/lang/Long;" (.ref as)) (f7 : Fld Z h a "com/example/annals/annals/storage/TypedColumn" "fraction" "Ljava/lang/Long;" .null) {o : Addr} (g6 : Fld Z h o "com/example/annals/annals/storage/TypedColumn" "scale" "Ljava/lang/Long;" .null) (g7 : Fld Z h o "com/example/annals/annals/storage/TypedColumn" "fraction" "Ljava/lang/Long;" .null) : Met l Z n0 (⟨"com/example/annals/annals/storage/TypedColumn", "roundsValuesOf", "(Lcom/example/annals/annals/storage/TypedColumn;)Z"⟩ : MethodName) prog_29_method_4_code 2 (Option.some Jvm.ClassFile.FieldType.boolean) (⟨2, 0, 0, 27⟩ : Room) #[(.ref a), (.ref o)] h (fun v h' => v = some (.int (1 : Int32)) ∧ h' = h) := by
  refine Met.of_wk (ls := #[.val (.ref a), .val (.ref o)]) (plainFor_of_name pn_3) (fun m => ef_4 m a o) ?_
  show Wk l Z n0 "com/example/annals/annals/storage/TypedColumn" "roundsValuesOf" prog_29_method_4_code 2 (Option.some Jvm.ClassFile.FieldType.boolean) (⟨2, 0, 0, 27⟩ : Room) 0 0 false (fun v h' => v = some (.int (1 : Int32)) ∧ h' = h) h 0 0 0 #[.val (.ref a), .val (.ref o)] []
  refine Wk.aloadN (q := 1) d5_0 rfl rfl rfl ?_
  refine Wk.getF (q := 4) (w_36 hw) Via.refl f6 d5_1 rfl ?_
  refine Wk.ifnullF (q := 7) d5_4 rfl ?_
  refine Wk.aloadN (q := 8) d5_7 rfl rfl rfl ?_
  refine Wk.getF (q := 11) (w_36 hw) Via.refl f6 d5_8 rfl ?_
  refine Wk.aloadN (q := 12) d5_11 rfl rfl rfl ?_
  refine Wk.getF (q := 15) (w_36 hw) Via.refl g6 d5_12 rfl ?_
  refine Wk.callS1 (q := 18) (argsL := [(.ref as), .null]) (rest := []) (fr := 1) (lo := 14) (v0 := (.int (0 : Int32))) (m_al0 hw) (w_77 hw) (w_78 hw) (w_2 hw) (w_79 hw) (by decide) pd_3 rfl rfl rfl d5_15 rfl (W := 0) rfl (by decide) (by decide) (by decide) (by decide) ?_
  refine Wk.ifcT (q := 42) d5_18 (by decide) rfl (by decide : (0 : Int32) = (0 : Int32)) ?_
  refine Wk.iconst (q := 43) (v := (1 : Int32)) d5_42 rfl rfl ?_
  refine Wk.goto (q := 47) d5_43 (by decide) rfl ?_
  exact Wk.retZ rfl rfl d5_47 (by decide) (by decide) ⟨rfl, rfl⟩
set_option maxRecDepth 65536 in
set_option maxHeartbeats 40000000 in
theorem m_rvO_rn {l : Launch} {Z : State} {a0 : Array Value} {n0 : Nat} {h : Heap} (hw : ∀ d ∈ tables_1, d.before a0 Z = true) {a : Addr} {as : Addr} {xs : Int64} (es : Exa Z h as "java/lang/Long") (gs : Fld Z h as "java/lang/Long" "value" "J" (.long xs)) (f6 : Fld Z h a "com/example/annals/annals/storage/TypedColumn" "scale" "Ljava/lang/Long;" (.ref as)) (f7 : Fld Z h a "com/example/annals/annals/storage/TypedColumn" "fraction" "Ljava/lang/Long;" .null) {o : Addr} {w6 w7 : Value} {n : Nat} (g6 : Fld Z h o "com/example/annals/annals/storage/TypedColumn" "scale" "Ljava/lang/Long;" w6) (g7 : Fld Z h o "com/example/annals/annals/storage/TypedColumn" "fraction" "Ljava/lang/Long;" w7) (l6 : LN Z h n w6) (l7 : LN Z h n w7) : Met l Z n0 (⟨"com/example/annals/annals/storage/TypedColumn", "roundsValuesOf", "(Lcom/example/annals/annals/storage/TypedColumn;)Z"⟩ : MethodName) prog_29_method_4_code 2 (Option.some Jvm.ClassFile.FieldType.boolean) (⟨2, 0, 0, 27⟩ : Room) #[(.ref a), (.ref o)] h (fun v h' => (∃ w, v = some w ∧ B01 w) ∧ h' = h) := by
  refine Met.of_wk (ls := #[.val (.ref a), .val (.ref o)]) (plainFor_of_name pn_3) (fun m => ef_4 m a o) ?_
  show Wk l Z n0 "com/example/annals/annals/storage/TypedColumn" "roundsValuesOf" prog_29_method_4_code 2 (Option.some Jvm.ClassFile.FieldType.boolean) (⟨2, 0, 0, 27⟩ : Room) 0 0 false (fun v h' => (∃ w, v = some w ∧ B01 w) ∧ h' = h) h 0 0 0 #[.val (.ref a), .val (.ref o)] []
  refine Wk.aloadN (q := 1) d5_0 rfl rfl rfl ?_
  refine Wk.getF (q := 4) (w_36 hw) Via.refl f6 d5_1 rfl ?_
  refine Wk.ifnullF (q := 7) d5_4 rfl ?_
  refine Wk.aloadN (q := 8) d5_7 rfl rfl rfl ?_
  refine Wk.getF (q := 11) (w_36 hw) Via.refl f6 d5_8 rfl ?_
  refine Wk.aloadN (q := 12) d5_11 rfl rfl rfl ?_
  refine Wk.getF (q := 15) (w_36 hw) Via.refl g6 d5_12 rfl ?_
  refine Wk.callS2 (q := 18) (argsL := [(.ref as), w6]) (rest := []) (fr := 1) (lo := 14) (P := B01) (m_al2 hw es gs l6) (w_77 hw) (w_78 hw) (w_2 hw) (w_79 hw) (by decide) pd_3 rfl rfl rfl d5_15 rfl (W := 0) rfl (by decide) (by decide) (by decide) (by decide) ?_
  rintro _ (rfl | rfl)
  · refine Wk.ifcT (q := 42) d5_18 (by decide) rfl (by decide : (0 : Int32) = (0 : Int32)) ?_
    refine Wk.iconst (q := 43) (v := (1 : Int32)) d5_42 rfl rfl ?_
    refine Wk.goto (q := 47) d5_43 (by decide) rfl ?_
    exact Wk.retZ rfl rfl d5_47 (by decide) (by decide) ⟨⟨_, rfl, Or.inr rfl⟩, rfl⟩
  · refine Wk.ifcF (q := 21) d5_18 rfl (by decide : ¬ (1 : Int32) = (0 : Int32)) ?_
    refine Wk.aloadN (q := 22) d5_21 rfl rfl rfl ?_
    refine Wk.getF (q := 25) (w_38 hw) Via.refl f7 d5_22 rfl ?_
    refine Wk.ifnullT (q := 46) d5_25 (by decide) rfl ?_
    refine Wk.iconst (q := 47) (v := (0 : Int32)) d5_46 rfl rfl ?_
    exact Wk.retZ rfl rfl d5_47 (by decide) (by decide) ⟨⟨_, rfl, Or.inl rfl⟩, rfl⟩
set_option maxRecDepth 65536 in
set_option maxHeartbeats 40000000 in
theorem m_rs_rr {l : Launch} {Z : State} {a0 : Array Value} {n0 : Nat} {h : Heap} (hw : ∀ d ∈ tables_1, d.before a0 Z = true) {a : Addr} {as : Addr} {af : Addr} (f6 : Fld Z h a "com/example/annals/annals/storage/TypedColumn" "scale" "Ljava/lang/Long;" (.ref as)) (f7 : Fld Z h a "com/example/annals/annals/storage/TypedColumn" "fraction" "Ljava/lang/Long;" (.ref af)) : Met l Z n0 (⟨"com/example/annals/annals/storage/TypedColumn", "roundsSomeValues", "()Z"⟩ : MethodName) prog_29_method_5_code 1 (Option.some Jvm.ClassFile.FieldType.boolean) (⟨0, 0, 0, 0⟩ : Room) #[(.ref a)] h (fun v h' => v = some (.int (1 : Int32)) ∧ h' = h) := by
  refine Met.of_wk (ls := #[.val (.ref a)]) (plainFor_of_name pn_3) (fun m => ef_0 m a) ?_
  show Wk l Z n0 "com/example/annals/annals/storage/TypedColumn" "roundsSomeValues" prog_29_method_5_code 1 (Option.some Jvm.ClassFile.FieldType.boolean) (⟨0, 0, 0, 0⟩ : Room) 0 0 false (fun v h' => v = some (.int (1 : Int32)) ∧ h' = h) h 0 0 0 #[.val (.ref a)] []
  refine Wk.aloadN (q := 1) d4_0 rfl rfl rfl ?_
  refine Wk.getF (q := 4) (w_36 hw) Via.refl f6 d4_1 rfl ?_
  refine Wk.ifnonnullT (q := 14) d4_4 (by decide) rfl ?_
  refine Wk.iconst (q := 15) (v := (1 : Int32)) d4_14 rfl rfl ?_
  refine Wk.goto (q := 19) d4_15 (by decide) rfl ?_
  exact Wk.retZ rfl rfl d4_19 (by decide) (by decide) ⟨rfl, rfl⟩
set_option maxRecDepth 65536 in
set_option maxHeartbeats 40000000 in
theorem m_rvU_rr {l : Launch} {Z : State} {a0 : Array Value} {n0 : Nat} {h : Heap} (hw : ∀ d ∈ tables_1, d.before a0 Z = true) {a : Addr} {as : Addr} {xs : Int64} (es : Exa Z h as "java/lang/Long") (gs : Fld Z h as "java/lang/Long" "value" "J" (.long xs)) {af : Addr} {xf : Int64} (ef : Exa Z h af "java/lang/Long") (gf : Fld Z h af "java/lang/Long" "value" "J" (.long xf)) (f6 : Fld Z h a "com/example/annals/annals/storage/TypedColumn" "scale" "Ljava/lang/Long;" (.ref as)) (f7 : Fld Z h a "com/example/annals/annals/storage/TypedColumn" "fraction" "Ljava/lang/Long;" (.ref af)) {o : Addr} (g6 : Fld Z h o "com/example/annals/annals/storage/TypedColumn" "scale" "Ljava/lang/Long;" .null) (g7 : Fld Z h o "com/example/annals/annals/storage/TypedColumn" "fraction" "Ljava/lang/Long;" .null) : Met l Z n0 (⟨"com/example/annals/annals/storage/TypedColumn", "roundsValuesOf", "(Lcom/example/annals/annals/storage/TypedColumn;)Z"⟩ : MethodName) prog_29_method_4_code 2 (Option.some Jvm.ClassFile.FieldType.boolean) (⟨2, 0, 0, 27⟩ : Room) #[(.ref a), (.ref o)] h (fun v h' => v = some (.int (1 : Int32)) ∧ h' = h) := by
  refine Met.of_wk (ls := #[.val (.ref a), .val (.ref o)]) (plainFor_of_name pn_3) (fun m => ef_4 m a o) ?_
  show Wk l Z n0 "com/example/annals/annals/storage/TypedColumn" "roundsValuesOf" prog_29_method_4_code 2 (Option.some Jvm.ClassFile.FieldType.boolean) (⟨2, 0, 0, 27⟩ : Room) 0 0 false (fun v h' => v = some (.int (1 : Int32)) ∧ h' = h) h 0 0 0 #[.val (.ref a), .val (.ref o)] []
  refine Wk.aloadN (q := 1) d5_0 rfl rfl rfl ?_
  refine Wk.getF (q := 4) (w_36 hw) Via.refl f6 d5_1 rfl ?_
  refine Wk.ifnullF (q := 7) d5_4 rfl ?_
  refine Wk.aloadN (q := 8) d5_7 rfl rfl rfl ?_
  refine Wk.getF (q := 11) (w_36 hw) Via.refl f6 d5_8 rfl ?_
  refine Wk.aloadN (q := 12) d5_11 rfl rfl rfl ?_
  refine Wk.getF (q := 15) (w_36 hw) Via.refl g6 d5_12 rfl ?_
  refine Wk.callS1 (q := 18) (argsL := [(.ref as), .null]) (rest := []) (fr := 1) (lo := 14) (v0 := (.int (0 : Int32))) (m_al0 hw) (w_77 hw) (w_78 hw) (w_2 hw) (w_79 hw) (by decide) pd_3 rfl rfl rfl d5_15 rfl (W := 0) rfl (by decide) (by decide) (by decide) (by decide) ?_
  refine Wk.ifcT (q := 42) d5_18 (by decide) rfl (by decide : (0 : Int32) = (0 : Int32)) ?_
  refine Wk.iconst (q := 43) (v := (1 : Int32)) d5_42 rfl rfl ?_
  refine Wk.goto (q := 47) d5_43 (by decide) rfl ?_
  exact Wk.retZ rfl rfl d5_47 (by decide) (by decide) ⟨rfl, rfl⟩
set_option maxRecDepth 65536 in
set_option maxHeartbeats 40000000 in
theorem m_rvO_rr {l : Launch} {Z : State} {a0 : Array Value} {n0 : Nat} {h : Heap} (hw : ∀ d ∈ tables_1, d.before a0 Z = true) {a : Addr} {as : Addr} {xs : Int64} (es : Exa Z h as "java/lang/Long") (gs : Fld Z h as "java/lang/Long" "value" "J" (.long xs)) {af : Addr} {xf : Int64} (ef : Exa Z h af "java/lang/Long") (gf : Fld Z h af "java/lang/Long" "value" "J" (.long xf)) (f6 : Fld Z h a "com/example/annals/annals/storage/TypedColumn" "scale" "Ljava/lang/Long;" (.ref as)) (f7 : Fld Z h a "com/example/annals/annals/storage/TypedColumn" "fraction" "Ljava/lang/Long;" (.ref af)) {o : Addr} {w6 w7 : Value} {n : Nat} (g6 : Fld Z h o "com/example/annals/annals/storage/TypedColumn" "scale" "Ljava/lang/Long;" w6) (g7 : Fld Z h o "com/example/annals/annals/storage/TypedColumn" "fraction" "Ljava/lang/Long;" w7) (l6 : LN Z h n w6) (l7 : LN Z h n w7) : Met l Z n0 (⟨"com/example/annals/annals/storage/TypedColumn", "roundsValuesOf", "(Lcom/example/annals/annals/storage/TypedColumn;)Z"⟩ : MethodName) prog_29_method_4_code 2 (Option.some Jvm.ClassFile.FieldType.boolean) (⟨2, 0, 0, 27⟩ : Room) #[(.ref a), (.ref o)] h (fun v h' => (∃ w, v = some w ∧ B01 w) ∧ h' = h) := by
  refine Met.of_wk (ls := #[.val (.ref a), .val (.ref o)]) (plainFor_of_name pn_3) (fun m => ef_4 m a o) ?_
  show Wk l Z n0 "com/example/annals/annals/storage/TypedColumn" "roundsValuesOf" prog_29_method_4_code 2 (Option.some Jvm.ClassFile.FieldType.boolean) (⟨2, 0, 0, 27⟩ : Room) 0 0 false (fun v h' => (∃ w, v = some w ∧ B01 w) ∧ h' = h) h 0 0 0 #[.val (.ref a), .val (.ref o)] []
  refine Wk.aloadN (q := 1) d5_0 rfl rfl rfl ?_
  refine Wk.getF (q := 4) (w_36 hw) Via.refl f6 d5_1 rfl ?_
  refine Wk.ifnullF (q := 7) d5_4 rfl ?_
  refine Wk.aloadN (q := 8) d5_7 rfl rfl rfl ?_
  refine Wk.getF (q := 11) (w_36 hw) Via.refl f6 d5_8 rfl ?_
  refine Wk.aloadN (q := 12) d5_11 rfl rfl rfl ?_
  refine Wk.getF (q := 15) (w_36 hw) Via.refl g6 d5_12 rfl ?_
  refine Wk.callS2 (q := 18) (argsL := [(.ref as), w6]) (rest := []) (fr := 1) (lo := 14) (P := B01) (m_al2 hw es gs l6) (w_77 hw) (w_78 hw) (w_2 hw) (w_79 hw) (by decide) pd_3 rfl rfl rfl d5_15 rfl (W := 0) rfl (by decide) (by decide) (by decide) (by decide) ?_
  rintro _ (rfl | rfl)
  · refine Wk.ifcT (q := 42) d5_18 (by decide) rfl (by decide : (0 : Int32) = (0 : Int32)) ?_
    refine Wk.iconst (q := 43) (v := (1 : Int32)) d5_42 rfl rfl ?_
    refine Wk.goto (q := 47) d5_43 (by decide) rfl ?_
    exact Wk.retZ rfl rfl d5_47 (by decide) (by decide) ⟨⟨_, rfl, Or.inr rfl⟩, rfl⟩
  · refine Wk.ifcF (q := 21) d5_18 rfl (by decide : ¬ (1 : Int32) = (0 : Int32)) ?_
    refine Wk.aloadN (q := 22) d5_21 rfl rfl rfl ?_
    refine Wk.getF (q := 25) (w_38 hw) Via.refl f7 d5_22 rfl ?_
    refine Wk.ifnullF (q := 28) d5_25 rfl ?_
    refine Wk.aloadN (q := 29) d5_28 rfl rfl rfl ?_
    refine Wk.getF (q := 32) (w_38 hw) Via.refl f7 d5_29 rfl ?_
    refine Wk.aloadN (q := 33) d5_32 rfl rfl rfl ?_
    refine Wk.getF (q := 36) (w_38 hw) Via.refl g7 d5_33 rfl ?_
    refine Wk.callS2 (q := 39) (argsL := [(.ref af), w7]) (rest := []) (fr := 1) (lo := 14) (P := B01) (m_al2 hw ef gf l7) (w_77 hw) (w_78 hw) (w_2 hw) (w_79 hw) (by decide) pd_3 rfl rfl rfl d5_36 rfl (W := 0) rfl (by decide) (by decide) (by decide) (by decide) ?_
    rintro _ (rfl | rfl)
    · refine Wk.ifcF (q := 42) d5_39 rfl (by decide : (0 : Int32) = (0 : Int32)) ?_
      refine Wk.iconst (q := 43) (v := (1 : Int32)) d5_42 rfl rfl ?_
      refine Wk.goto (q := 47) d5_43 (by decide) rfl ?_
      exact Wk.retZ rfl rfl d5_47 (by decide) (by decide) ⟨⟨_, rfl, Or.inr rfl⟩, rfl⟩
    · refine Wk.ifcT (q := 46) d5_39 (by decide) rfl (by decide : ¬ (1 : Int32) = (0 : Int32)) ?_
      refine Wk.iconst (q := 47) (v := (0 : Int32)) d5_46 rfl rfl ?_
      exact Wk.retZ rfl rfl d5_47 (by decide) (by decide) ⟨⟨_, rfl, Or.inl rfl⟩, rfl⟩
theorem own_wS {a0 : Array Value} {Z : State} (hw : ∀ d ∈ tables_1, d.before a0 Z = true) : ∀ a ∈ Bundle.stringAtoms, a.before a0 Z = true := fun d hd => by
  simp only [Bundle.stringAtoms, List.mem_cons, List.not_mem_nil, or_false] at hd
  rcases hd with rfl | rfl | rfl | rfl | rfl | rfl | rfl
  · exact (w_4 hw)
  · exact (w_5 hw)
  · exact (w_6 hw)
  · exact (w_7 hw)
  · exact (w_8 hw)
  · exact (w_9 hw)
  · exact (w_10 hw)
theorem own_lr {Z : State} {h : Heap} {n : Nat} {a : Addr} (F : LN Z h n (.ref a)) : ∃ b x, a = b ∧ b < n ∧ Exa Z h b "java/lang/Long" ∧ Fld Z h b "java/lang/Long" "value" "J" (.long x) := by
  rcases F with q | ⟨b, x, q, r⟩
  · cases q
  · exact ⟨b, x, Value.ref.inj q, r⟩
set_option maxRecDepth 65536 in
set_option maxHeartbeats 40000000 in
theorem t145_nn {l : Launch} {Z : State} {a0 : Array Value} {n0 n1 : Nat} {h : Heap} (hw : ∀ d ∈ tables_1, d.before a0 Z = true) (hn : n0 ≤ h.size) (hm : n1 ≤ h.size) (p0 : Int32) (p1 p2 p3 p4 p5 : Int64) (z13 z14 z15 : Int32) {u18 u19 u20 : Value} (L18 : LN Z h n1 u18) (L19 : LN Z h n1 u19) (L20 : LN Z h n1 u20) : Wk l Z n0 "com/example/annals/annals/storage/TypedColumnRoundsSomeValuesPinLaw" "law" code maxLocals ret room_1 40 7360 true (fun v _ => v = some (.int (1 : Int32))) h 5 5 145 #[.val (.int p0), .val (.long p1), .second, .val (.long p2), .second, .val (.long p3), .second, .val (.long p4), .second, .val (.long p5), .second, .val (.int (0 : Int32)), .val (.int (0 : Int32)), .val (.int z13), .val (.int z14), .val (.int z15), .val .null, .val .null, .val u18, .val u19, .val u20, .unset, .unset, .unset, .unset, .unset, .unset, .unset] [] := by
  refine Wk.new (q := 148) (w_0 hw) (w_1 hw) (w_2 hw) at_145 rfl (by decide) (by decide) ?_
  intro h1 o1 go1 E1 xo1 D1
  have geo1 : n0 ≤ o1 := go1 ▸ hn
  have gmo1 : n1 ≤ o1 := go1 ▸ hm
  have hn := Nat.le_trans hn E1.1
  have hm := Nat.le_trans hm E1.1
  have L18 := L18.ext E1
  have L19 := L19.ext E1
  have L20 := L20.ext E1
  have fo1_0 : Fld Z h1 o1 "com/example/annals/annals/storage/TypedColumn" "name" "Ljava/lang/String;" .null := D1 (Or.inr (w_25 hw)) (ty := (.object "java/lang/String")) (by decide)
  have fo1_1 : Fld Z h1 o1 "com/example/annals/annals/storage/TypedColumn" "type" "Ljava/lang/String;" .null := D1 (Or.inr (w_27 hw)) (ty := (.object "java/lang/String")) (by decide)
  have fo1_2 : Fld Z h1 o1 "com/example/annals/annals/storage/TypedColumn" "kind" "Ljava/lang/String;" .null := D1 (Or.inr (w_29 hw)) (ty := (.object "java/lang/String")) (by decide)
  have fo1_3 : Fld Z h1 o1 "com/example/annals/annals/storage/TypedColumn" "length" "Ljava/lang/Long;" .null := D1 (Or.inr (w_31 hw)) (ty := (.object "java/lang/Long")) (by decide)
  have fo1_4 : Fld Z h1 o1 "com/example/annals/annals/storage/TypedColumn" "precision" "Ljava/lang/Long;" .null := D1 (Or.inr (w_33 hw)) (ty := (.object "java/lang/Long")) (by decide)
  have fo1_5 : Fld Z h1 o1 "com/example/annals/annals/storage/TypedColumn" "radix" "Ljava/lang/Long;" .null := D1 (Or.inr (w_35 hw)) (ty := (.object "java/lang/Long")) (by decide)
  have fo1_6 : Fld Z h1 o1 "com/example/annals/annals/storage/TypedColumn" "scale" "Ljava/lang/Long;" .null := D1 (Or.inr (w_37 hw)) (ty := (.object "java/lang/Long")) (by decide)
  have fo1_7 : Fld Z h1 o1 "com/example/annals/annals/storage/TypedColumn" "fraction" "Ljava/lang/Long;" .null := D1 (Or.inr (w_39 hw)) (ty := (.object "java/lang/Long")) (by decide)
  refine Wk.dup (q := 149) at_148 rfl rfl ?_
  refine Wk.ldcS (q := 151) (n := 4) (w_3 hw) (own_wS hw) at_149 rfl (by decide) (by decide) (by decide) (by decide) ?_
  intro h1 t1 E1
  have hn := Nat.le_trans hn E1.1
  have hm := Nat.le_trans hm E1.1
  have L18 := L18.ext E1
  have L19 := L19.ext E1
  have L20 := L20.ext E1
  have xo1 := xo1.ext E1
  have fo1_0 := fo1_0.ext E1
  have fo1_1 := fo1_1.ext E1
  have fo1_2 := fo1_2.ext E1
  have fo1_3 := fo1_3.ext E1
  have fo1_4 := fo1_4.ext E1
  have fo1_5 := fo1_5.ext E1
  have fo1_6 := fo1_6.ext E1
  have fo1_7 := fo1_7.ext E1
  refine Wk.ldcS (q := 153) (n := 4) (w_11 hw) (own_wS hw) at_151 rfl (by decide) (by decide) (by decide) (by decide) ?_
  intro h1 t2 E1
  have hn := Nat.le_trans hn E1.1
  have hm := Nat.le_trans hm E1.1
  have L18 := L18.ext E1
  have L19 := L19.ext E1
  have L20 := L20.ext E1
  have xo1 := xo1.ext E1
  have fo1_0 := fo1_0.ext E1
  have fo1_1 := fo1_1.ext E1
  have fo1_2 := fo1_2.ext E1
  have fo1_3 := fo1_3.ext E1
  have fo1_4 := fo1_4.ext E1
  have fo1_5 := fo1_5.ext E1
  have fo1_6 := fo1_6.ext E1
  have fo1_7 := fo1_7.ext E1
  refine Wk.ldcS (q := 155) (n := 4) (w_12 hw) (own_wS hw) at_153 rfl (by decide) (by decide) (by decide) (by decide) ?_
  intro h1 t3 E1
  have hn := Nat.le_trans hn E1.1
  have hm := Nat.le_trans hm E1.1
  have L18 := L18.ext E1
  have L19 := L19.ext E1
  have L20 := L20.ext E1
  have xo1 := xo1.ext E1
  have fo1_0 := fo1_0.ext E1
  have fo1_1 := fo1_1.ext E1
  have fo1_2 := fo1_2.ext E1
  have fo1_3 := fo1_3.ext E1
  have fo1_4 := fo1_4.ext E1
  have fo1_5 := fo1_5.ext E1
  have fo1_6 := fo1_6.ext E1
  have fo1_7 := fo1_7.ext E1
  refine Wk.null (q := 156) at_155 rfl ?_
  refine Wk.aload (q := 158) at_156 rfl rfl L18.isRef ?_
  refine Wk.null (q := 159) at_158 rfl ?_
  refine Wk.aload (q := 161) at_159 rfl rfl rfl ?_
  refine Wk.aload (q := 163) at_161 rfl rfl rfl ?_
  refine Wk.special (q := 166) (a := o1) (argsL := [(.ref t1), (.ref t2), (.ref t3), .null, u18, .null, .null, .null]) (rest := [(.ref o1)]) (rm := (⟨2, 0, 0, 24⟩ : Room)) (Q' := fun h' => Keep _ h' [o1] ∧ Exa Z h' o1 "com/example/annals/annals/storage/TypedColumn" ∧ Fld Z h' o1 "com/example/annals/annals/storage/TypedColumn" "scale" "Ljava/lang/Long;" .null ∧ Fld Z h' o1 "com/example/annals/annals/storage/TypedColumn" "fraction" "Ljava/lang/Long;" .null) (m_tc hw (.ref t1) (.ref t2) (.ref t3) .null u18 .null .null .null rfl rfl rfl rfl L18.isRef rfl rfl rfl geo1 xo1 fo1_0 fo1_1 fo1_2 fo1_3 fo1_4 fo1_5 fo1_6 fo1_7) rfl (w_13 hw) (w_14 hw) (w_15 hw) (w_2 hw) (by decide) pd_4 rfl rfl rfl at_163 rfl (W := 1) rfl (by decide) (by decide) (by decide) (by decide) ?_
  rintro h2 ⟨K2, xo1, fo1_6, fo1_7⟩
  have hn := Nat.le_trans hn K2.1
  have hm := Nat.le_trans hm K2.1
  have L18 := L18.keep K2 (allS gmo1 all0)
  have L19 := L19.keep K2 (allS gmo1 all0)
  have L20 := L20.keep K2 (allS gmo1 all0)
  refine Wk.astore (q := 168) (ls' := #[.val (.int p0), .val (.long p1), .second, .val (.long p2), .second, .val (.long p3), .second, .val (.long p4), .second, .val (.long p5), .second, .val (.int (0 : Int32)), .val (.int (0 : Int32)), .val (.int z13), .val (.int z14), .val (.int z15), .val .null, .val .null, .val u18, .val u19, .val u20, .val (.ref o1), .unset, .unset, .unset, .unset, .unset, .unset]) at_166 rfl rfl rfl ?_
  refine Wk.new (q := 171) (w_0 hw) (w_1 hw) (w_2 hw) at_168 rfl (by decide) (by decide) ?_
  intro h1 o2 go2 E1 xo2 D1
  have geo2 : n0 ≤ o2 := go2 ▸ hn
  have gmo2 : n1 ≤ o2 := go2 ▸ hm
  have ne_o1_o2 : o1 ≠ o2 := Nat.ne_of_lt (Nat.lt_of_lt_of_eq xo1.lt go2.symm)
  have hn := Nat.le_trans hn E1.1
  have hm := Nat.le_trans hm E1.1
  have L18 := L18.ext E1
  have L19 := L19.ext E1
  have L20 := L20.ext E1
  have xo1 := xo1.ext E1
  have fo1_6 := fo1_6.ext E1
  have fo1_7 := fo1_7.ext E1
  have fo2_0 : Fld Z h1 o2 "com/example/annals/annals/storage/TypedColumn" "name" "Ljava/lang/String;" .null := D1 (Or.inr (w_25 hw)) (ty := (.object "java/lang/String")) (by decide)
  have fo2_1 : Fld Z h1 o2 "com/example/annals/annals/storage/TypedColumn" "type" "Ljava/lang/String;" .null := D1 (Or.inr (w_27 hw)) (ty := (.object "java/lang/String")) (by decide)
  have fo2_2 : Fld Z h1 o2 "com/example/annals/annals/storage/TypedColumn" "kind" "Ljava/lang/String;" .null := D1 (Or.inr (w_29 hw)) (ty := (.object "java/lang/String")) (by decide)
  have fo2_3 : Fld Z h1 o2 "com/example/annals/annals/storage/TypedColumn" "length" "Ljava/lang/Long;" .null := D1 (Or.inr (w_31 hw)) (ty := (.object "java/lang/Long")) (by decide)
  have fo2_4 : Fld Z h1 o2 "com/example/annals/annals/storage/TypedColumn" "precision" "Ljava/lang/Long;" .null := D1 (Or.inr (w_33 hw)) (ty := (.object "java/lang/Long")) (by decide)
  have fo2_5 : Fld Z h1 o2 "com/example/annals/annals/storage/TypedColumn" "radix" "Ljava/lang/Long;" .null := D1 (Or.inr (w_35 hw)) (ty := (.object "java/lang/Long")) (by decide)
  have fo2_6 : Fld Z h1 o2 "com/example/annals/annals/storage/TypedColumn" "scale" "Ljava/lang/Long;" .null := D1 (Or.inr (w_37 hw)) (ty := (.object "java/lang/Long")) (by decide)
  have fo2_7 : Fld Z h1 o2 "com/example/annals/annals/storage/TypedColumn" "fraction" "Ljava/lang/Long;" .null := D1 (Or.inr (w_39 hw)) (ty := (.object "java/lang/Long")) (by decide)
  refine Wk.dup (q := 172) at_171 rfl rfl ?_
  refine Wk.ldcS (q := 174) (n := 4) (w_40 hw) (own_wS hw) at_172 rfl (by decide) (by decide) (by decide) (by decide) ?_
  intro h1 t4 E1
  have hn := Nat.le_trans hn E1.1
  have hm := Nat.le_trans hm E1.1
  have L18 := L18.ext E1
  have L19 := L19.ext E1
  have L20 := L20.ext E1
  have xo2 := xo2.ext E1
  have fo2_0 := fo2_0.ext E1
  have fo2_1 := fo2_1.ext E1
  have fo2_2 := fo2_2.ext E1
  have fo2_3 := fo2_3.ext E1
  have fo2_4 := fo2_4.ext E1
  have fo2_5 := fo2_5.ext E1
  have fo2_6 := fo2_6.ext E1
  have fo2_7 := fo2_7.ext E1
  have xo1 := xo1.ext E1
  have fo1_6 := fo1_6.ext E1
  have fo1_7 := fo1_7.ext E1
  refine Wk.ldcS (q := 176) (n := 4) (w_41 hw) (own_wS hw) at_174 rfl (by decide) (by decide) (by decide) (by decide) ?_
  intro h1 t5 E1
  have hn := Nat.le_trans hn E1.1
  have hm := Nat.le_trans hm E1.1
  have L18 := L18.ext E1
  have L19 := L19.ext E1
  have L20 := L20.ext E1
  have xo2 := xo2.ext E1
  have fo2_0 := fo2_0.ext E1
  have fo2_1 := fo2_1.ext E1
  have fo2_2 := fo2_2.ext E1
  have fo2_3 := fo2_3.ext E1
  have fo2_4 := fo2_4.ext E1
  have fo2_5 := fo2_5.ext E1
  have fo2_6 := fo2_6.ext E1
  have fo2_7 := fo2_7.ext E1
  have xo1 := xo1.ext E1
  have fo1_6 := fo1_6.ext E1
  have fo1_7 := fo1_7.ext E1
  refine Wk.ldcS (q := 178) (n := 4) (w_12 hw) (own_wS hw) at_176 rfl (by decide) (by decide) (by decide) (by decide) ?_
  intro h1 t6 E1
  have hn := Nat.le_trans hn E1.1
  have hm := Nat.le_trans hm E1.1
  have L18 := L18.ext E1
  have L19 := L19.ext E1
  have L20 := L20.ext E1
  have xo2 := xo2.ext E1
  have fo2_0 := fo2_0.ext E1
  have fo2_1 := fo2_1.ext E1
  have fo2_2 := fo2_2.ext E1
  have fo2_3 := fo2_3.ext E1
  have fo2_4 := fo2_4.ext E1
  have fo2_5 := fo2_5.ext E1
  have fo2_6 := fo2_6.ext E1
  have fo2_7 := fo2_7.ext E1
  have xo1 := xo1.ext E1
  have fo1_6 := fo1_6.ext E1
  have fo1_7 := fo1_7.ext E1
  refine Wk.null (q := 179) at_178 rfl ?_
  refine Wk.null (q := 180) at_179 rfl ?_
  refine Wk.null (q := 181) at_180 rfl ?_
  refine Wk.null (q := 182) at_181 rfl ?_
  refine Wk.null (q := 183) at_182 rfl ?_
  refine Wk.special (q := 186) (a := o2) (argsL := [(.ref t4), (.ref t5), (.ref t6), .null, .null, .null, .null, .null]) (rest := [(.ref o2)]) (rm := (⟨2, 0, 0, 24⟩ : Room)) (Q' := fun h' => Keep _ h' [o2] ∧ Exa Z h' o2 "com/example/annals/annals/storage/TypedColumn" ∧ Fld Z h' o2 "com/example/annals/annals/storage/TypedColumn" "scale" "Ljava/lang/Long;" .null ∧ Fld Z h' o2 "com/example/annals/annals/storage/TypedColumn" "fraction" "Ljava/lang/Long;" .null) (m_tc hw (.ref t4) (.ref t5) (.ref t6) .null .null .null .null .null rfl rfl rfl rfl rfl rfl rfl rfl geo2 xo2 fo2_0 fo2_1 fo2_2 fo2_3 fo2_4 fo2_5 fo2_6 fo2_7) rfl (w_13 hw) (w_14 hw) (w_15 hw) (w_2 hw) (by decide) pd_4 rfl rfl rfl at_183 rfl (W := 1) rfl (by decide) (by decide) (by decide) (by decide) ?_
  rintro h2 ⟨K2, xo2, fo2_6, fo2_7⟩
  have hn := Nat.le_trans hn K2.1
  have hm := Nat.le_trans hm K2.1
  have L18 := L18.keep K2 (allS gmo2 all0)
  have L19 := L19.keep K2 (allS gmo2 all0)
  have L20 := L20.keep K2 (allS gmo2 all0)
  have xo1 := xo1.keep K2
  have fo1_6 := fo1_6.keep K2 (ninS ne_o1_o2 nin0)
  have fo1_7 := fo1_7.keep K2 (ninS ne_o1_o2 nin0)
  refine Wk.astore (q := 188) (ls' := #[.val (.int p0), .val (.long p1), .second, .val (.long p2), .second, .val (.long p3), .second, .val (.long p4), .second, .val (.long p5), .second, .val (.int (0 : Int32)), .val (.int (0 : Int32)), .val (.int z13), .val (.int z14), .val (.int z15), .val .null, .val .null, .val u18, .val u19, .val u20, .val (.ref o1), .val (.ref o2), .unset, .unset, .unset, .unset, .unset]) at_186 rfl rfl rfl ?_
  refine Wk.new (q := 191) (w_0 hw) (w_1 hw) (w_2 hw) at_188 rfl (by decide) (by decide) ?_
  intro h1 o3 go3 E1 xo3 D1
  have geo3 : n0 ≤ o3 := go3 ▸ hn
  have gmo3 : n1 ≤ o3 := go3 ▸ hm
  have ne_o1_o3 : o1 ≠ o3 := Nat.ne_of_lt (Nat.lt_of_lt_of_eq xo1.lt go3.symm)
  have ne_o2_o3 : o2 ≠ o3 := Nat.ne_of_lt (Nat.lt_of_lt_of_eq xo2.lt go3.symm)
  have hn := Nat.le_trans hn E1.1
  have hm := Nat.le_trans hm E1.1
  have L18 := L18.ext E1
  have L19 := L19.ext E1
  have L20 := L20.ext E1
  have xo1 := xo1.ext E1
  have fo1_6 := fo1_6.ext E1
  have fo1_7 := fo1_7.ext E1
  have xo2 := xo2.ext E1
  have fo2_6 := fo2_6.ext E1
  have fo2_7 := fo2_7.ext E1
  have fo3_0 : Fld Z h1 o3 "com/example/annals/annals/storage/TypedColumn" "name" "Ljava/lang/String;" .null := D1 (Or.inr (w_25 hw)) (ty := (.object "java/lang/String")) (by decide)
  have fo3_1 : Fld Z h1 o3 "com/example/annals/annals/storage/TypedColumn" "type" "Ljava/lang/String;" .null := D1 (Or.inr (w_27 hw)) (ty := (.object "java/lang/String")) (by decide)
  have fo3_2 : Fld Z h1 o3 "com/example/annals/annals/storage/TypedColumn" "kind" "Ljava/lang/String;" .null := D1 (Or.inr (w_29 hw)) (ty := (.object "java/lang/String")) (by decide)
  have fo3_3 : Fld Z h1 o3 "com/example/annals/annals/storage/TypedColumn" "length" "Ljava/lang/Long;" .null := D1 (Or.inr (w_31 hw)) (ty := (.object "java/lang/Long")) (by decide)
  have fo3_4 : Fld Z h1 o3 "com/example/annals/annals/storage/TypedColumn" "precision" "Ljava/lang/Long;" .null := D1 (Or.inr (w_33 hw)) (ty := (.object "java/lang/Long")) (by decide)
  have fo3_5 : Fld Z h1 o3 "com/example/annals/annals/storage/TypedColumn" "radix" "Ljava/lang/Long;" .null := D1 (Or.inr (w_35 hw)) (ty := (.object "java/lang/Long")) (by decide)
  have fo3_6 : Fld Z h1 o3 "com/example/annals/annals/storage/TypedColumn" "scale" "Ljava/lang/Long;" .null := D1 (Or.inr (w_37 hw)) (ty := (.object "java/lang/Long")) (by decide)
  have fo3_7 : Fld Z h1 o3 "com/example/annals/annals/storage/TypedColumn" "fraction" "Ljava/lang/Long;" .null := D1 (Or.inr (w_39 hw)) (ty := (.object "java/lang/Long")) (by decide)
  refine Wk.dup (q := 192) at_191 rfl rfl ?_
  refine Wk.ldcS (q := 194) (n := 4) (w_42 hw) (own_wS hw) at_192 rfl (by decide) (by decide) (by decide) (by decide) ?_
  intro h1 t7 E1
  have hn := Nat.le_trans hn E1.1
  have hm := Nat.le_trans hm E1.1
  have L18 := L18.ext E1
  have L19 := L19.ext E1
  have L20 := L20.ext E1
  have xo3 := xo3.ext E1
  have fo3_0 := fo3_0.ext E1
  have fo3_1 := fo3_1.ext E1
  have fo3_2 := fo3_2.ext E1
  have fo3_3 := fo3_3.ext E1
  have fo3_4 := fo3_4.ext E1
  have fo3_5 := fo3_5.ext E1
  have fo3_6 := fo3_6.ext E1
  have fo3_7 := fo3_7.ext E1
  have xo1 := xo1.ext E1
  have fo1_6 := fo1_6.ext E1
  have fo1_7 := fo1_7.ext E1
  have xo2 := xo2.ext E1
  have fo2_6 := fo2_6.ext E1
  have fo2_7 := fo2_7.ext E1
  refine Wk.ldcS (q := 196) (n := 4) (w_43 hw) (own_wS hw) at_194 rfl (by decide) (by decide) (by decide) (by decide) ?_
  intro h1 t8 E1
  have hn := Nat.le_trans hn E1.1
  have hm := Nat.le_trans hm E1.1
  have L18 := L18.ext E1
  have L19 := L19.ext E1
  have L20 := L20.ext E1
  have xo3 := xo3.ext E1
  have fo3_0 := fo3_0.ext E1
  have fo3_1 := fo3_1.ext E1
  have fo3_2 := fo3_2.ext E1
  have fo3_3 := fo3_3.ext E1
  have fo3_4 := fo3_4.ext E1
  have fo3_5 := fo3_5.ext E1
  have fo3_6 := fo3_6.ext E1
  have fo3_7 := fo3_7.ext E1
  have xo1 := xo1.ext E1
  have fo1_6 := fo1_6.ext E1
  have fo1_7 := fo1_7.ext E1
  have xo2 := xo2.ext E1
  have fo2_6 := fo2_6.ext E1
  have fo2_7 := fo2_7.ext E1
  refine Wk.ldcS (q := 198) (n := 4) (w_12 hw) (own_wS hw) at_196 rfl (by decide) (by decide) (by decide) (by decide) ?_
  intro h1 t9 E1
  have hn := Nat.le_trans hn E1.1
  have hm := Nat.le_trans hm E1.1
  have L18 := L18.ext E1
  have L19 := L19.ext E1
  have L20 := L20.ext E1
  have xo3 := xo3.ext E1
  have fo3_0 := fo3_0.ext E1
  have fo3_1 := fo3_1.ext E1
  have fo3_2 := fo3_2.ext E1
  have fo3_3 := fo3_3.ext E1
  have fo3_4 := fo3_4.ext E1
  have fo3_5 := fo3_5.ext E1
  have fo3_6 := fo3_6.ext E1
  have fo3_7 := fo3_7.ext E1
  have xo1 := xo1.ext E1
  have fo1_6 := fo1_6.ext E1
  have fo1_7 := fo1_7.ext E1
  have xo2 := xo2.ext E1
  have fo2_6 := fo2_6.ext E1
  have fo2_7 := fo2_7.ext E1
  refine Wk.null (q := 199) at_198 rfl ?_
  refine Wk.null (q := 200) at_199 rfl ?_
  refine Wk.null (q := 201) at_200 rfl ?_
  refine Wk.aload (q := 203) at_201 rfl rfl L19.isRef ?_
  refine Wk.aload (q := 205) at_203 rfl rfl L20.isRef ?_
  refine Wk.special (q := 208) (a := o3) (argsL := [(.ref t7), (.ref t8), (.ref t9), .null, .null, .null, u19, u20]) (rest := [(.ref o3)]) (rm := (⟨2, 0, 0, 24⟩ : Room)) (Q' := fun h' => Keep _ h' [o3] ∧ Exa Z h' o3 "com/example/annals/annals/storage/TypedColumn" ∧ Fld Z h' o3 "com/example/annals/annals/storage/TypedColumn" "scale" "Ljava/lang/Long;" u19 ∧ Fld Z h' o3 "com/example/annals/annals/storage/TypedColumn" "fraction" "Ljava/lang/Long;" u20) (m_tc hw (.ref t7) (.ref t8) (.ref t9) .null .null .null u19 u20 rfl rfl rfl rfl rfl rfl L19.isRef L20.isRef geo3 xo3 fo3_0 fo3_1 fo3_2 fo3_3 fo3_4 fo3_5 fo3_6 fo3_7) rfl (w_13 hw) (w_14 hw) (w_15 hw) (w_2 hw) (by decide) pd_4 rfl rfl rfl at_205 rfl (W := 1) rfl (by decide) (by decide) (by decide) (by decide) ?_
  rintro h2 ⟨K2, xo3, fo3_6, fo3_7⟩
  have hn := Nat.le_trans hn K2.1
  have hm := Nat.le_trans hm K2.1
  have L18 := L18.keep K2 (allS gmo3 all0)
  have L19 := L19.keep K2 (allS gmo3 all0)
  have L20 := L20.keep K2 (allS gmo3 all0)
  have xo1 := xo1.keep K2
  have fo1_6 := fo1_6.keep K2 (ninS ne_o1_o3 nin0)
  have fo1_7 := fo1_7.keep K2 (ninS ne_o1_o3 nin0)
  have xo2 := xo2.keep K2
  have fo2_6 := fo2_6.keep K2 (ninS ne_o2_o3 nin0)
  have fo2_7 := fo2_7.keep K2 (ninS ne_o2_o3 nin0)
  refine Wk.astore (q := 210) (ls' := #[.val (.int p0), .val (.long p1), .second, .val (.long p2), .second, .val (.long p3), .second, .val (.long p4), .second, .val (.long p5), .second, .val (.int (0 : Int32)), .val (.int (0 : Int32)), .val (.int z13), .val (.int z14), .val (.int z15), .val .null, .val .null, .val u18, .val u19, .val u20, .val (.ref o1), .val (.ref o2), .val (.ref o3), .unset, .unset, .unset, .unset]) at_208 rfl rfl rfl ?_
  refine Wk.aload (q := 212) at_210 rfl rfl rfl ?_
  refine Wk.callV1 (a := o1) (q := 215) (argsL := []) (rest := []) (fr := 0) (lo := 0) (v0 := (.int (0 : Int32))) (m_rs_nn hw fo1_6 fo1_7) xo1 (w_44 hw) (w_45 hw) (w_47 hw) (w_46 hw) (w_48 hw) (w_2 hw) (by decide) pd_5 rfl rfl rfl at_212 rfl (W := 0) rfl (by decide) (by decide) (by decide) (by decide) ?_
  refine Wk.istore (q := 217) (ls' := #[.val (.int p0), .val (.long p1), .second, .val (.long p2), .second, .val (.long p3), .second, .val (.long p4), .second, .val (.long p5), .second, .val (.int (0 : Int32)), .val (.int (0 : Int32)), .val (.int z13), .val (.int z14), .val (.int z15), .val .null, .val .null, .val u18, .val u19, .val u20, .val (.ref o1), .val (.ref o2), .val (.ref o3), .val (.int (0 : Int32)), .unset, .unset, .unset]) at_215 rfl rfl ?_
  refine Wk.aload (q := 219) at_217 rfl rfl rfl ?_
  refine Wk.aload (q := 221) at_219 rfl rfl rfl ?_
  refine Wk.callV1 (a := o1) (q := 224) (argsL := [(.ref o2)]) (rest := []) (fr := 2) (lo := 27) (v0 := (.int (0 : Int32))) (m_rvU_nn hw fo1_6 fo1_7 fo2_6 fo2_7) xo1 (w_49 hw) (w_50 hw) (w_52 hw) (w_51 hw) (w_53 hw) (w_2 hw) (by decide) pd_6 rfl rfl rfl at_221 rfl (W := 0) rfl (by decide) (by decide) (by decide) (by decide) ?_
  refine Wk.istore (q := 226) (ls' := #[.val (.int p0), .val (.long p1), .second, .val (.long p2), .second, .val (.long p3), .second, .val (.long p4), .second, .val (.long p5), .second, .val (.int (0 : Int32)), .val (.int (0 : Int32)), .val (.int z13), .val (.int z14), .val (.int z15), .val .null, .val .null, .val u18, .val u19, .val u20, .val (.ref o1), .val (.ref o2), .val (.ref o3), .val (.int (0 : Int32)), .val (.int (0 : Int32)), .unset, .unset]) at_224 rfl rfl ?_
  refine Wk.aload (q := 228) at_226 rfl rfl rfl ?_
  refine Wk.aload (q := 230) at_228 rfl rfl rfl ?_
  refine Wk.callV1 (a := o1) (q := 233) (argsL := [(.ref o3)]) (rest := []) (fr := 2) (lo := 27) (v0 := (.int (0 : Int32))) (m_rvO_nn hw fo1_6 fo1_7 fo3_6 fo3_7 L19 L20) xo1 (w_49 hw) (w_50 hw) (w_52 hw) (w_51 hw) (w_53 hw) (w_2 hw) (by decide) pd_6 rfl rfl rfl at_230 rfl (W := 0) rfl (by decide) (by decide) (by decide) (by decide) ?_
  refine Wk.istore (q := 235) (ls' := #[.val (.int p0), .val (.long p1), .second, .val (.long p2), .second, .val (.long p3), .second, .val (.long p4), .second, .val (.long p5), .second, .val (.int (0 : Int32)), .val (.int (0 : Int32)), .val (.int z13), .val (.int z14), .val (.int z15), .val .null, .val .null, .val u18, .val u19, .val u20, .val (.ref o1), .val (.ref o2), .val (.ref o3), .val (.int (0 : Int32)), .val (.int (0 : Int32)), .val (.int (0 : Int32)), .unset]) at_233 rfl rfl ?_
  refine Wk.iload (q := 237) at_235 rfl rfl ?_
  refine Wk.ifcF (q := 240) at_237 rfl (by decide : (0 : Int32) = (0 : Int32)) ?_
  refine Wk.iload (q := 242) at_240 rfl rfl ?_
  refine Wk.ifcT (q := 249) at_242 (by decide) rfl (by decide : (0 : Int32) = (0 : Int32)) ?_
  refine Wk.iconst (q := 250) (v := (0 : Int32)) at_249 rfl rfl ?_
  refine Wk.istore (q := 252) (ls' := #[.val (.int p0), .val (.long p1), .second, .val (.long p2), .second, .val (.long p3), .second, .val (.long p4), .second, .val (.long p5), .second, .val (.int (0 : Int32)), .val (.int (0 : Int32)), .val (.int z13), .val (.int z14), .val (.int z15), .val .null, .val .null, .val u18, .val u19, .val u20, .val (.ref o1), .val (.ref o2), .val (.ref o3), .val (.int (0 : Int32)), .val (.int (0 : Int32)), .val (.int (0 : Int32)), .val (.int (0 : Int32))]) at_250 rfl rfl ?_
  refine Wk.iload (q := 254) at_252 rfl rfl ?_
  refine Wk.iload (q := 256) at_254 rfl rfl ?_
  refine Wk.icmpF (q := 259) at_256 rfl (by decide : (0 : Int32) = (0 : Int32)) ?_
  refine Wk.iload (q := 261) at_259 rfl rfl ?_
  refine Wk.iload (q := 263) at_261 rfl rfl ?_
  refine Wk.icmpF (q := 266) at_263 rfl (by decide : (0 : Int32) = (0 : Int32)) ?_
  refine Wk.iload (q := 268) at_266 rfl rfl ?_
  refine Wk.ifcF (q := 271) at_268 rfl (by decide : (0 : Int32) = (0 : Int32)) ?_
  refine Wk.iload (q := 273) at_271 rfl rfl ?_
  refine Wk.ifcF (q := 276) at_273 rfl (by decide : (0 : Int32) = (0 : Int32)) ?_
  refine Wk.iconst (q := 277) (v := (1 : Int32)) at_276 rfl rfl ?_
  refine Wk.goto (q := 281) at_277 (by decide) rfl ?_
  exact Wk.retZ rfl rfl at_281 (by decide) (by decide) rfl
set_option maxRecDepth 65536 in
set_option maxHeartbeats 40000000 in
theorem t145_nr {l : Launch} {Z : State} {a0 : Array Value} {n0 n1 : Nat} {h : Heap} (hw : ∀ d ∈ tables_1, d.before a0 Z = true) (hn : n0 ≤ h.size) (hm : n1 ≤ h.size) (p0 : Int32) (p1 p2 p3 p4 p5 : Int64) (z13 z14 z15 : Int32) {af : Addr} (Lf : LN Z h n1 (.ref af)) {u18 u19 u20 : Value} (L18 : LN Z h n1 u18) (L19 : LN Z h n1 u19) (L20 : LN Z h n1 u20) : Wk l Z n0 "com/example/annals/annals/storage/TypedColumnRoundsSomeValuesPinLaw" "law" code maxLocals ret room_1 40 7360 true (fun v _ => v = some (.int (1 : Int32))) h 5 5 145 #[.val (.int p0), .val (.long p1), .second, .val (.long p2), .second, .val (.long p3), .second, .val (.long p4), .second, .val (.long p5), .second, .val (.int (0 : Int32)), .val (.int (1 : Int32)), .val (.int z13), .val (.int z14), .val (.int z15), .val .null, .val (.ref af), .val u18, .val u19, .val u20, .unset, .unset, .unset, .unset, .unset, .unset, .unset] [] := by
  refine Wk.new (q := 148) (w_0 hw) (w_1 hw) (w_2 hw) at_145 rfl (by decide) (by decide) ?_
  intro h1 o1 go1 E1 xo1 D1
  have geo1 : n0 ≤ o1 := go1 ▸ hn
  have gmo1 : n1 ≤ o1 := go1 ▸ hm
  have hn := Nat.le_trans hn E1.1
  have hm := Nat.le_trans hm E1.1
  have Lf := Lf.ext E1
  have L18 := L18.ext E1
  have L19 := L19.ext E1
  have L20 := L20.ext E1
  have fo1_0 : Fld Z h1 o1 "com/example/annals/annals/storage/TypedColumn" "name" "Ljava/lang/String;" .null := D1 (Or.inr (w_25 hw)) (ty := (.object "java/lang/String")) (by decide)
  have fo1_1 : Fld Z h1 o1 "com/example/annals/annals/storage/TypedColumn" "type" "Ljava/lang/String;" .null := D1 (Or.inr (w_27 hw)) (ty := (.object "java/lang/String")) (by decide)
  have fo1_2 : Fld Z h1 o1 "com/example/annals/annals/storage/TypedColumn" "kind" "Ljava/lang/String;" .null := D1 (Or.inr (w_29 hw)) (ty := (.object "java/lang/String")) (by decide)
  have fo1_3 : Fld Z h1 o1 "com/example/annals/annals/storage/TypedColumn" "length" "Ljava/lang/Long;" .null := D1 (Or.inr (w_31 hw)) (ty := (.object "java/lang/Long")) (by decide)
  have fo1_4 : Fld Z h1 o1 "com/example/annals/annals/storage/TypedColumn" "precision" "Ljava/lang/Long;" .null := D1 (Or.inr (w_33 hw)) (ty := (.object "java/lang/Long")) (by decide)
  have fo1_5 : Fld Z h1 o1 "com/example/annals/annals/storage/TypedColumn" "radix" "Ljava/lang/Long;" .null := D1 (Or.inr (w_35 hw)) (ty := (.object "java/lang/Long")) (by decide)
  have fo1_6 : Fld Z h1 o1 "com/example/annals/annals/storage/TypedColumn" "scale" "Ljava/lang/Long;" .null := D1 (Or.inr (w_37 hw)) (ty := (.object "java/lang/Long")) (by decide)
  have fo1_7 : Fld Z h1 o1 "com/example/annals/annals/storage/TypedColumn" "fraction" "Ljava/lang/Long;" .null := D1 (Or.inr (w_39 hw)) (ty := (.object "java/lang/Long")) (by decide)
  refine Wk.dup (q := 149) at_148 rfl rfl ?_
  refine Wk.ldcS (q := 151) (n := 4) (w_3 hw) (own_wS hw) at_149 rfl (by decide) (by decide) (by decide) (by decide) ?_
  intro h1 t1 E1
  have hn := Nat.le_trans hn E1.1
  have hm := Nat.le_trans hm E1.1
  have Lf := Lf.ext E1
  have L18 := L18.ext E1
  have L19 := L19.ext E1
  have L20 := L20.ext E1
  have xo1 := xo1.ext E1
  have fo1_0 := fo1_0.ext E1
  have fo1_1 := fo1_1.ext E1
  have fo1_2 := fo1_2.ext E1
  have fo1_3 := fo1_3.ext E1
  have fo1_4 := fo1_4.ext E1
  have fo1_5 := fo1_5.ext E1
  have fo1_6 := fo1_6.ext E1
  have fo1_7 := fo1_7.ext E1
  refine Wk.ldcS (q := 153) (n := 4) (w_11 hw) (own_wS hw) at_151 rfl (by decide) (by decide) (by decide) (by decide) ?_
  intro h1 t2 E1
  have hn := Nat.le_trans hn E1.1
  have hm := Nat.le_trans hm E1.1
  have Lf := Lf.ext E1
  have L18 := L18.ext E1
  have L19 := L19.ext E1
  have L20 := L20.ext E1
  have xo1 := xo1.ext E1
  have fo1_0 := fo1_0.ext E1
  have fo1_1 := fo1_1.ext E1
  have fo1_2 := fo1_2.ext E1
  have fo1_3 := fo1_3.ext E1
  have fo1_4 := fo1_4.ext E1
  have fo1_5 := fo1_5.ext E1
  have fo1_6 := fo1_6.ext E1
  have fo1_7 := fo1_7.ext E1
  refine Wk.ldcS (q := 155) (n := 4) (w_12 hw) (own_wS hw) at_153 rfl (by decide) (by decide) (by decide) (by decide) ?_
  intro h1 t3 E1
  have hn := Nat.le_trans hn E1.1
  have hm := Nat.le_trans hm E1.1
  have Lf := Lf.ext E1
  have L18 := L18.ext E1
  have L19 := L19.ext E1
  have L20 := L20.ext E1
  have xo1 := xo1.ext E1
  have fo1_0 := fo1_0.ext E1
  have fo1_1 := fo1_1.ext E1
  have fo1_2 := fo1_2.ext E1
  have fo1_3 := fo1_3.ext E1
  have fo1_4 := fo1_4.ext E1
  have fo1_5 := fo1_5.ext E1
  have fo1_6 := fo1_6.ext E1
  have fo1_7 := fo1_7.ext E1
  refine Wk.null (q := 156) at_155 rfl ?_
  refine Wk.aload (q := 158) at_156 rfl rfl L18.isRef ?_
  refine Wk.null (q := 159) at_158 rfl ?_
  refine Wk.aload (q := 161) at_159 rfl rfl rfl ?_
  refine Wk.aload (q := 163) at_161 rfl rfl rfl ?_
  refine Wk.special (q := 166) (a := o1) (argsL := [(.ref t1), (.ref t2), (.ref t3), .null, u18, .null, .null, (.ref af)]) (rest := [(.ref o1)]) (rm := (⟨2, 0, 0, 24⟩ : Room)) (Q' := fun h' => Keep _ h' [o1] ∧ Exa Z h' o1 "com/example/annals/annals/storage/TypedColumn" ∧ Fld Z h' o1 "com/example/annals/annals/storage/TypedColumn" "scale" "Ljava/lang/Long;" .null ∧ Fld Z h' o1 "com/example/annals/annals/storage/TypedColumn" "fraction" "Ljava/lang/Long;" (.ref af)) (m_tc hw (.ref t1) (.ref t2) (.ref t3) .null u18 .null .null (.ref af) rfl rfl rfl rfl L18.isRef rfl rfl rfl geo1 xo1 fo1_0 fo1_1 fo1_2 fo1_3 fo1_4 fo1_5 fo1_6 fo1_7) rfl (w_13 hw) (w_14 hw) (w_15 hw) (w_2 hw) (by decide) pd_4 rfl rfl rfl at_163 rfl (W := 1) rfl (by decide) (by decide) (by decide) (by decide) ?_
  rintro h2 ⟨K2, xo1, fo1_6, fo1_7⟩
  have hn := Nat.le_trans hn K2.1
  have hm := Nat.le_trans hm K2.1
  have Lf := Lf.keep K2 (allS gmo1 all0)
  have L18 := L18.keep K2 (allS gmo1 all0)
  have L19 := L19.keep K2 (allS gmo1 all0)
  have L20 := L20.keep K2 (allS gmo1 all0)
  refine Wk.astore (q := 168) (ls' := #[.val (.int p0), .val (.long p1), .second, .val (.long p2), .second, .val (.long p3), .second, .val (.long p4), .second, .val (.long p5), .second, .val (.int (0 : Int32)), .val (.int (1 : Int32)), .val (.int z13), .val (.int z14), .val (.int z15), .val .null, .val (.ref af), .val u18, .val u19, .val u20, .val (.ref o1), .unset, .unset, .unset, .unset, .unset, .unset]) at_166 rfl rfl rfl ?_
  refine Wk.new (q := 171) (w_0 hw) (w_1 hw) (w_2 hw) at_168 rfl (by decide) (by decide) ?_
  intro h1 o2 go2 E1 xo2 D1
  have geo2 : n0 ≤ o2 := go2 ▸ hn
  have gmo2 : n1 ≤ o2 := go2 ▸ hm
  have ne_o1_o2 : o1 ≠ o2 := Nat.ne_of_lt (Nat.lt_of_lt_of_eq xo1.lt go2.symm)
  have hn := Nat.le_trans hn E1.1
  have hm := Nat.le_trans hm E1.1
  have Lf := Lf.ext E1
  have L18 := L18.ext E1
  have L19 := L19.ext E1
  have L20 := L20.ext E1
  have xo1 := xo1.ext E1
  have fo1_6 := fo1_6.ext E1
  have fo1_7 := fo1_7.ext E1
  have fo2_0 : Fld Z h1 o2 "com/example/annals/annals/storage/TypedColumn" "name" "Ljava/lang/String;" .null := D1 (Or.inr (w_25 hw)) (ty := (.object "java/lang/String")) (by decide)
  have fo2_1 : Fld Z h1 o2 "com/example/annals/annals/storage/TypedColumn" "type" "Ljava/lang/String;" .null := D1 (Or.inr (w_27 hw)) (ty := (.object "java/lang/String")) (by decide)
  have fo2_2 : Fld Z h1 o2 "com/example/annals/annals/storage/TypedColumn" "kind" "Ljava/lang/String;" .null := D1 (Or.inr (w_29 hw)) (ty := (.object "java/lang/String")) (by decide)
  have fo2_3 : Fld Z h1 o2 "com/example/annals/annals/storage/TypedColumn" "length" "Ljava/lang/Long;" .null := D1 (Or.inr (w_31 hw)) (ty := (.object "java/lang/Long")) (by decide)
  have fo2_4 : Fld Z h1 o2 "com/example/annals/annals/storage/TypedColumn" "precision" "Ljava/lang/Long;" .null := D1 (Or.inr (w_33 hw)) (ty := (.object "java/lang/Long")) (by decide)
  have fo2_5 : Fld Z h1 o2 "com/example/annals/annals/storage/TypedColumn" "radix" "Ljava/lang/Long;" .null := D1 (Or.inr (w_35 hw)) (ty := (.object "java/lang/Long")) (by decide)
  have fo2_6 : Fld Z h1 o2 "com/example/annals/annals/storage/TypedColumn" "scale" "Ljava/lang/Long;" .null := D1 (Or.inr (w_37 hw)) (ty := (.object "java/lang/Long")) (by decide)
  have fo2_7 : Fld Z h1 o2 "com/example/annals/annals/storage/TypedColumn" "fraction" "Ljava/lang/Long;" .null := D1 (Or.inr (w_39 hw)) (ty := (.object "java/lang/Long")) (by decide)
  refine Wk.dup (q := 172) at_171 rfl rfl ?_
  refine Wk.ldcS (q := 174) (n := 4) (w_40 hw) (own_wS hw) at_172 rfl (by decide) (by decide) (by decide) (by decide) ?_
  intro h1 t4 E1
  have hn := Nat.le_trans hn E1.1
  have hm := Nat.le_trans hm E1.1
  have Lf := Lf.ext E1
  have L18 := L18.ext E1
  have L19 := L19.ext E1
  have L20 := L20.ext E1
  have xo2 := xo2.ext E1
  have fo2_0 := fo2_0.ext E1
  have fo2_1 := fo2_1.ext E1
  have fo2_2 := fo2_2.ext E1
  have fo2_3 := fo2_3.ext E1
  have fo2_4 := fo2_4.ext E1
  have fo2_5 := fo2_5.ext E1
  have fo2_6 := fo2_6.ext E1
  have fo2_7 := fo2_7.ext E1
  have xo1 := xo1.ext E1
  have fo1_6 := fo1_6.ext E1
  have fo1_7 := fo1_7.ext E1
  refine Wk.ldcS (q := 176) (n := 4) (w_41 hw) (own_wS hw) at_174 rfl (by decide) (by decide) (by decide) (by decide) ?_
  intro h1 t5 E1
  have hn := Nat.le_trans hn E1.1
  have hm := Nat.le_trans hm E1.1
  have Lf := Lf.ext E1
  have L18 := L18.ext E1
  have L19 := L19.ext E1
  have L20 := L20.ext E1
  have xo2 := xo2.ext E1
  have fo2_0 := fo2_0.ext E1
  have fo2_1 := fo2_1.ext E1
  have fo2_2 := fo2_2.ext E1
  have fo2_3 := fo2_3.ext E1
  have fo2_4 := fo2_4.ext E1
  have fo2_5 := fo2_5.ext E1
  have fo2_6 := fo2_6.ext E1
  have fo2_7 := fo2_7.ext E1
  have xo1 := xo1.ext E1
  have fo1_6 := fo1_6.ext E1
  have fo1_7 := fo1_7.ext E1
  refine Wk.ldcS (q := 178) (n := 4) (w_12 hw) (own_wS hw) at_176 rfl (by decide) (by decide) (by decide) (by decide) ?_
  intro h1 t6 E1
  have hn := Nat.le_trans hn E1.1
  have hm := Nat.le_trans hm E1.1
  have Lf := Lf.ext E1
  have L18 := L18.ext E1
  have L19 := L19.ext E1
  have L20 := L20.ext E1
  have xo2 := xo2.ext E1
  have fo2_0 := fo2_0.ext E1
  have fo2_1 := fo2_1.ext E1
  have fo2_2 := fo2_2.ext E1
  have fo2_3 := fo2_3.ext E1
  have fo2_4 := fo2_4.ext E1
  have fo2_5 := fo2_5.ext E1
  have fo2_6 := fo2_6.ext E1
  have fo2_7 := fo2_7.ext E1
  have xo1 := xo1.ext E1
  have fo1_6 := fo1_6.ext E1
  have fo1_7 := fo1_7.ext E1
  refine Wk.null (q := 179) at_178 rfl ?_
  refine Wk.null (q := 180) at_179 rfl ?_
  refine Wk.null (q := 181) at_180 rfl ?_
  refine Wk.null (q := 182) at_181 rfl ?_
  refine Wk.null (q := 183) at_182 rfl ?_
  refine Wk.special (q := 186) (a := o2) (argsL := [(.ref t4), (.ref t5), (.ref t6), .null, .null, .null, .null, .null]) (rest := [(.ref o2)]) (rm := (⟨2, 0, 0, 24⟩ : Room)) (Q' := fun h' => Keep _ h' [o2] ∧ Exa Z h' o2 "com/example/annals/annals/storage/TypedColumn" ∧ Fld Z h' o2 "com/example/annals/annals/storage/TypedColumn" "scale" "Ljava/lang/Long;" .null ∧ Fld Z h' o2 "com/example/annals/annals/storage/TypedColumn" "fraction" "Ljava/lang/Long;" .null) (m_tc hw (.ref t4) (.ref t5) (.ref t6) .null .null .null .null .null rfl rfl rfl rfl rfl rfl rfl rfl geo2 xo2 fo2_0 fo2_1 fo2_2 fo2_3 fo2_4 fo2_5 fo2_6 fo2_7) rfl (w_13 hw) (w_14 hw) (w_15 hw) (w_2 hw) (by decide) pd_4 rfl rfl rfl at_183 rfl (W := 1) rfl (by decide) (by decide) (by decide) (by decide) ?_
  rintro h2 ⟨K2, xo2, fo2_6, fo2_7⟩
  have hn := Nat.le_trans hn K2.1
  have hm := Nat.le_trans hm K2.1
  have Lf := Lf.keep K2 (allS gmo2 all0)
  have L18 := L18.keep K2 (allS gmo2 all0)
  have L19 := L19.keep K2 (allS gmo2 all0)
  have L20 := L20.keep K2 (allS gmo2 all0)
  have xo1 := xo1.keep K2
  have fo1_6 := fo1_6.keep K2 (ninS ne_o1_o2 nin0)
  have fo1_7 := fo1_7.keep K2 (ninS ne_o1_o2 nin0)
  refine Wk.astore (q := 188) (ls' := #[.val (.int p0), .val (.long p1), .second, .val (.long p2), .second, .val (.long p3), .second, .val (.long p4), .second, .val (.long p5), .second, .val (.int (0 : Int32)), .val (.int (1 : Int32)), .val (.int z13), .val (.int z14), .val (.int z15), .val .null, .val (.ref af), .val u18, .val u19, .val u20, .val (.ref o1), .val (.ref o2), .unset, .unset, .unset, .unset, .unset]) at_186 rfl rfl rfl ?_
  refine Wk.new (q := 191) (w_0 hw) (w_1 hw) (w_2 hw) at_188 rfl (by decide) (by decide) ?_
  intro h1 o3 go3 E1 xo3 D1
  have geo3 : n0 ≤ o3 := go3 ▸ hn
  have gmo3 : n1 ≤ o3 := go3 ▸ hm
  have ne_o1_o3 : o1 ≠ o3 := Nat.ne_of_lt (Nat.lt_of_lt_of_eq xo1.lt go3.symm)
  have ne_o2_o3 : o2 ≠ o3 := Nat.ne_of_lt (Nat.lt_of_lt_of_eq xo2.lt go3.symm)
  have hn := Nat.le_trans hn E1.1
  have hm := Nat.le_trans hm E1.1
  have Lf := Lf.ext E1
  have L18 := L18.ext E1
  have L19 := L19.ext E1
  have L20 := L20.ext E1
  have xo1 := xo1.ext E1
  have fo1_6 := fo1_6.ext E1
  have fo1_7 := fo1_7.ext E1
  have xo2 := xo2.ext E1
  have fo2_6 := fo2_6.ext E1
  have fo2_7 := fo2_7.ext E1
  have fo3_0 : Fld Z h1 o3 "com/example/annals/annals/storage/TypedColumn" "name" "Ljava/lang/String;" .null := D1 (Or.inr (w_25 hw)) (ty := (.object "java/lang/String")) (by decide)
  have fo3_1 : Fld Z h1 o3 "com/example/annals/annals/storage/TypedColumn" "type" "Ljava/lang/String;" .null := D1 (Or.inr (w_27 hw)) (ty := (.object "java/lang/String")) (by decide)
  have fo3_2 : Fld Z h1 o3 "com/example/annals/annals/storage/TypedColumn" "kind" "Ljava/lang/String;" .null := D1 (Or.inr (w_29 hw)) (ty := (.object "java/lang/String")) (by decide)
  have fo3_3 : Fld Z h1 o3 "com/example/annals/annals/storage/TypedColumn" "length" "Ljava/lang/Long;" .null := D1 (Or.inr (w_31 hw)) (ty := (.object "java/lang/Long")) (by decide)
  have fo3_4 : Fld Z h1 o3 "com/example/annals/annals/storage/TypedColumn" "precision" "Ljava/lang/Long;" .null := D1 (Or.inr (w_33 hw)) (ty := (.object "java/lang/Long")) (by decide)
  have fo3_5 : Fld Z h1 o3 "com/example/annals/annals/storage/TypedColumn" "radix" "Ljava/lang/Long;" .null := D1 (Or.inr (w_35 hw)) (ty := (.object "java/lang/Long")) (by decide)
  have fo3_6 : Fld Z h1 o3 "com/example/annals/annals/storage/TypedColumn" "scale" "Ljava/lang/Long;" .null := D1 (Or.inr (w_37 hw)) (ty := (.object "java/lang/Long")) (by decide)
  have fo3_7 : Fld Z h1 o3 "com/example/annals/annals/storage/TypedColumn" "fraction" "Ljava/lang/Long;" .null := D1 (Or.inr (w_39 hw)) (ty := (.object "java/lang/Long")) (by decide)
  refine Wk.dup (q := 192) at_191 rfl rfl ?_
  refine Wk.ldcS (q := 194) (n := 4) (w_42 hw) (own_wS hw) at_192 rfl (by decide) (by decide) (by decide) (by decide) ?_
  intro h1 t7 E1
  have hn := Nat.le_trans hn E1.1
  have hm := Nat.le_trans hm E1.1
  have Lf := Lf.ext E1
  have L18 := L18.ext E1
  have L19 := L19.ext E1
  have L20 := L20.ext E1
  have xo3 := xo3.ext E1
  have fo3_0 := fo3_0.ext E1
  have fo3_1 := fo3_1.ext E1
  have fo3_2 := fo3_2.ext E1
  have fo3_3 := fo3_3.ext E1
  have fo3_4 := fo3_4.ext E1
  have fo3_5 := fo3_5.ext E1
  have fo3_6 := fo3_6.ext E1
  have fo3_7 := fo3_7.ext E1
  have xo1 := xo1.ext E1
  have fo1_6 := fo1_6.ext E1
  have fo1_7 := fo1_7.ext E1
  have xo2 := xo2.ext E1
  have fo2_6 := fo2_6.ext E1
  have fo2_7 := fo2_7.ext E1
  refine Wk.ldcS (q := 196) (n := 4) (w_43 hw) (own_wS hw) at_194 rfl (by decide) (by decide) (by decide) (by decide) ?_
  intro h1 t8 E1
  have hn := Nat.le_trans hn E1.1
  have hm := Nat.le_trans hm E1.1
  have Lf := Lf.ext E1
  have L18 := L18.ext E1
  have L19 := L19.ext E1
  have L20 := L20.ext E1
  have xo3 := xo3.ext E1
  have fo3_0 := fo3_0.ext E1
  have fo3_1 := fo3_1.ext E1
  have fo3_2 := fo3_2.ext E1
  have fo3_3 := fo3_3.ext E1
  have fo3_4 := fo3_4.ext E1
  have fo3_5 := fo3_5.ext E1
  have fo3_6 := fo3_6.ext E1
  have fo3_7 := fo3_7.ext E1
  have xo1 := xo1.ext E1
  have fo1_6 := fo1_6.ext E1
  have fo1_7 := fo1_7.ext E1
  have xo2 := xo2.ext E1
  have fo2_6 := fo2_6.ext E1
  have fo2_7 := fo2_7.ext E1
  refine Wk.ldcS (q := 198) (n := 4) (w_12 hw) (own_wS hw) at_196 rfl (by decide) (by decide) (by decide) (by decide) ?_
  intro h1 t9 E1
  have hn := Nat.le_trans hn E1.1
  have hm := Nat.le_trans hm E1.1
  have Lf := Lf.ext E1
  have L18 := L18.ext E1
  have L19 := L19.ext E1
  have L20 := L20.ext E1
  have xo3 := xo3.ext E1
  have fo3_0 := fo3_0.ext E1
  have fo3_1 := fo3_1.ext E1
  have fo3_2 := fo3_2.ext E1
  have fo3_3 := fo3_3.ext E1
  have fo3_4 := fo3_4.ext E1
  have fo3_5 := fo3_5.ext E1
  have fo3_6 := fo3_6.ext E1
  have fo3_7 := fo3_7.ext E1
  have xo1 := xo1.ext E1
  have fo1_6 := fo1_6.ext E1
  have fo1_7 := fo1_7.ext E1
  have xo2 := xo2.ext E1
  have fo2_6 := fo2_6.ext E1
  have fo2_7 := fo2_7.ext E1
  refine Wk.null (q := 199) at_198 rfl ?_
  refine Wk.null (q := 200) at_199 rfl ?_
  refine Wk.null (q := 201) at_200 rfl ?_
  refine Wk.aload (q := 203) at_201 rfl rfl L19.isRef ?_
  refine Wk.aload (q := 205) at_203 rfl rfl L20.isRef ?_
  refine Wk.special (q := 208) (a := o3) (argsL := [(.ref t7), (.ref t8), (.ref t9), .null, .null, .null, u19, u20]) (rest := [(.ref o3)]) (rm := (⟨2, 0, 0, 24⟩ : Room)) (Q' := fun h' => Keep _ h' [o3] ∧ Exa Z h' o3 "com/example/annals/annals/storage/TypedColumn" ∧ Fld Z h' o3 "com/example/annals/annals/storage/TypedColumn" "scale" "Ljava/lang/Long;" u19 ∧ Fld Z h' o3 "com/example/annals/annals/storage/TypedColumn" "fraction" "Ljava/lang/Long;" u20) (m_tc hw (.ref t7) (.ref t8) (.ref t9) .null .null .null u19 u20 rfl rfl rfl rfl rfl rfl L19.isRef L20.isRef geo3 xo3 fo3_0 fo3_1 fo3_2 fo3_3 fo3_4 fo3_5 fo3_6 fo3_7) rfl (w_13 hw) (w_14 hw) (w_15 hw) (w_2 hw) (by decide) pd_4 rfl rfl rfl at_205 rfl (W := 1) rfl (by decide) (by decide) (by decide) (by decide) ?_
  rintro h2 ⟨K2, xo3, fo3_6, fo3_7⟩
  have hn := Nat.le_trans hn K2.1
  have hm := Nat.le_trans hm K2.1
  have Lf := Lf.keep K2 (allS gmo3 all0)
  have L18 := L18.keep K2 (allS gmo3 all0)
  have L19 := L19.keep K2 (allS gmo3 all0)
  have L20 := L20.keep K2 (allS gmo3 all0)
  have xo1 := xo1.keep K2
  have fo1_6 := fo1_6.keep K2 (ninS ne_o1_o3 nin0)
  have fo1_7 := fo1_7.keep K2 (ninS ne_o1_o3 nin0)
  have xo2 := xo2.keep K2
  have fo2_6 := fo2_6.keep K2 (ninS ne_o2_o3 nin0)
  have fo2_7 := fo2_7.keep K2 (ninS ne_o2_o3 nin0)
  refine Wk.astore (q := 210) (ls' := #[.val (.int p0), .val (.long p1), .second, .val (.long p2), .second, .val (.long p3), .second, .val (.long p4), .second, .val (.long p5), .second, .val (.int (0 : Int32)), .val (.int (1 : Int32)), .val (.int z13), .val (.int z14), .val (.int z15), .val .null, .val (.ref af), .val u18, .val u19, .val u20, .val (.ref o1), .val (.ref o2), .val (.ref o3), .unset, .unset, .unset, .unset]) at_208 rfl rfl rfl ?_
  refine Wk.aload (q := 212) at_210 rfl rfl rfl ?_
  obtain ⟨af, xf, hf1, -, ef, gf⟩ := own_lr Lf
  cases hf1
  refine Wk.callV1 (a := o1) (q := 215) (argsL := []) (rest := []) (fr := 0) (lo := 0) (v0 := (.int (1 : Int32))) (m_rs_nr hw fo1_6 fo1_7) xo1 (w_44 hw) (w_45 hw) (w_47 hw) (w_46 hw) (w_48 hw) (w_2 hw) (by decide) pd_5 rfl rfl rfl at_212 rfl (W := 0) rfl (by decide) (by decide) (by decide) (by decide) ?_
  refine Wk.istore (q := 217) (ls' := #[.val (.int p0), .val (.long p1), .second, .val (.long p2), .second, .val (.long p3), .second, .val (.long p4), .second, .val (.long p5), .second, .val (.int (0 : Int32)), .val (.int (1 : Int32)), .val (.int z13), .val (.int z14), .val (.int z15), .val .null, .val (.ref af), .val u18, .val u19, .val u20, .val (.ref o1), .val (.ref o2), .val (.ref o3), .val (.int (1 : Int32)), .unset, .unset, .unset]) at_215 rfl rfl ?_
  refine Wk.aload (q := 219) at_217 rfl rfl rfl ?_
  refine Wk.aload (q := 221) at_219 rfl rfl rfl ?_
  refine Wk.callV1 (a := o1) (q := 224) (argsL := [(.ref o2)]) (rest := []) (fr := 2) (lo := 27) (v0 := (.int (1 : Int32))) (m_rvU_nr hw ef gf fo1_6 fo1_7 fo2_6 fo2_7) xo1 (w_49 hw) (w_50 hw) (w_52 hw) (w_51 hw) (w_53 hw) (w_2 hw) (by decide) pd_6 rfl rfl rfl at_221 rfl (W := 0) rfl (by decide) (by decide) (by decide) (by decide) ?_
  refine Wk.istore (q := 226) (ls' := #[.val (.int p0), .val (.long p1), .second, .val (.long p2), .second, .val (.long p3), .second, .val (.long p4), .second, .val (.long p5), .second, .val (.int (0 : Int32)), .val (.int (1 : Int32)), .val (.int z13), .val (.int z14), .val (.int z15), .val .null, .val (.ref af), .val u18, .val u19, .val u20, .val (.ref o1), .val (.ref o2), .val (.ref o3), .val (.int (1 : Int32)), .val (.int (1 : Int32)), .unset, .unset]) at_224 rfl rfl ?_
  refine Wk.aload (q := 228) at_226 rfl rfl rfl ?_
  refine Wk.aload (q := 230) at_228 rfl rfl rfl ?_
  refine Wk.callV2 (a := o1) (q := 233) (argsL := [(.ref o3)]) (rest := []) (fr := 2) (lo := 27) (P := B01) (m_rvO_nr hw ef gf fo1_6 fo1_7 fo3_6 fo3_7 L19 L20) xo1 (w_49 hw) (w_50 hw) (w_52 hw) (w_51 hw) (w_53 hw) (w_2 hw) (by decide) pd_6 rfl rfl rfl at_230 rfl (W := 0) rfl (by decide) (by decide) (by decide) (by decide) ?_
  rintro _ (rfl | rfl)
  · refine Wk.istore (q := 235) (ls' := #[.val (.int p0), .val (.long p1), .second, .val (.long p2), .second, .val (.long p3), .second, .val (.long p4), .second, .val (.long p5), .second, .val (.int (0 : Int32)), .val (.int (1 : Int32)), .val (.int z13), .val (.int z14), .val (.int z15), .val .null, .val (.ref af), .val u18, .val u19, .val u20, .val (.ref o1), .val (.ref o2), .val (.ref o3), .val (.int (1 : Int32)), .val (.int (1 : Int32)), .val (.int (0 : Int32)), .unset]) at_233 rfl rfl ?_
    refine Wk.iload (q := 237) at_235 rfl rfl ?_
    refine Wk.ifcF (q := 240) at_237 rfl (by decide : (0 : Int32) = (0 : Int32)) ?_
    refine Wk.iload (q := 242) at_240 rfl rfl ?_
    refine Wk.ifcF (q := 245) at_242 rfl (by decide : ¬ (1 : Int32) = (0 : Int32)) ?_
    refine Wk.iconst (q := 246) (v := (1 : Int32)) at_245 rfl rfl ?_
    refine Wk.goto (q := 250) at_246 (by decide) rfl ?_
    refine Wk.istore (q := 252) (ls' := #[.val (.int p0), .val (.long p1), .second, .val (.long p2), .second, .val (.long p3), .second, .val (.long p4), .second, .val (.long p5), .second, .val (.int (0 : Int32)), .val (.int (1 : Int32)), .val (.int z13), .val (.int z14), .val (.int z15), .val .null, .val (.ref af), .val u18, .val u19, .val u20, .val (.ref o1), .val (.ref o2), .val (.ref o3), .val (.int (1 : Int32)), .val (.int (1 : Int32)), .val (.int (0 : Int32)), .val (.int (1 : Int32))]) at_250 rfl rfl ?_
    refine Wk.iload (q := 254) at_252 rfl rfl ?_
    refine Wk.iload (q := 256) at_254 rfl rfl ?_
    refine Wk.icmpF (q := 259) at_256 rfl (by decide : (1 : Int32) = (1 : Int32)) ?_
    refine Wk.iload (q := 261) at_259 rfl rfl ?_
    refine Wk.iload (q := 263) at_261 rfl rfl ?_
    refine Wk.icmpF (q := 266) at_263 rfl (by decide : (1 : Int32) = (1 : Int32)) ?_
    refine Wk.iload (q := 268) at_266 rfl rfl ?_
    refine Wk.ifcT (q := 276) at_268 (by decide) rfl (by decide : ¬ (1 : Int32) = (0 : Int32)) ?_
    refine Wk.iconst (q := 277) (v := (1 : Int32)) at_276 rfl rfl ?_
    refine Wk.goto (q := 281) at_277 (by decide) rfl ?_
    exact Wk.retZ rfl rfl at_281 (by decide) (by decide) rfl
  · refine Wk.istore (q := 235) (ls' := #[.val (.int p0), .val (.long p1), .second, .val (.long p2), .second, .val (.long p3), .second, .val (.long p4), .second, .val (.long p5), .second, .val (.int (0 : Int32)), .val (.int (1 : Int32)), .val (.int z13), .val (.int z14), .val (.int z15), .val .null, .val (.ref af), .val u18, .val u19, .val u20, .val (.ref o1), .val (.ref o2), .val (.ref o3), .val (.int (1 : Int32)), .val (.int (1 : Int32)), .val (.int (1 : Int32)), .unset]) at_233 rfl rfl ?_
    refine Wk.iload (q := 237) at_235 rfl rfl ?_
    refine Wk.ifcF (q := 240) at_237 rfl (by decide : (0 : Int32) = (0 : Int32)) ?_
    refine Wk.iload (q := 242) at_240 rfl rfl ?_
    refine Wk.ifcF (q := 245) at_242 rfl (by decide : ¬ (1 : Int32) = (0 : Int32)) ?_
    refine Wk.iconst (q := 246) (v := (1 : Int32)) at_245 rfl rfl ?_
    refine Wk.goto (q := 250) at_246 (by decide) rfl ?_
    refine Wk.istore (q := 252) (ls' := #[.val (.int p0), .val (.long p1), .second, .val (.long p2), .second, .val (.long p3), .second, .val (.long p4), .second, .val (.long p5), .second, .val (.int (0 : Int32)), .val (.int (1 : Int32)), .val (.int z13), .val (.int z14), .val (.int z15), .val .null, .val (.ref af), .val u18, .val u19, .val u20, .val (.ref o1), .val (.ref o2), .val (.ref o3), .val (.int (1 : Int32)), .val (.int (1 : Int32)), .val (.int (1 : Int32)), .val (.int (1 : Int32))]) at_250 rfl rfl ?_
    refine Wk.iload (q := 254) at_252 rfl rfl ?_
    refine Wk.iload (q := 256) at_254 rfl rfl ?_
    refine Wk.icmpF (q := 259) at_256 rfl (by decide : (1 : Int32) = (1 : Int32)) ?_
    refine Wk.iload (q := 261) at_259 rfl rfl ?_
    refine Wk.iload (q := 263) at_261 rfl rfl ?_
    refine Wk.icmpF (q := 266) at_263 rfl (by decide : (1 : Int32) = (1 : Int32)) ?_
    refine Wk.iload (q := 268) at_266 rfl rfl ?_
    refine Wk.ifcT (q := 276) at_268 (by decide) rfl (by decide : ¬ (1 : Int32) = (0 : Int32)) ?_
    refine Wk.iconst (q := 277) (v := (1 : Int32)) at_276 rfl rfl ?_
    refine Wk.goto (q := 281) at_277 (by decide) rfl ?_
    exact Wk.retZ rfl rfl at_281 (by decide) (by decide) rfl
set_option maxRecDepth 65536 in
set_option maxHeartbeats 40000000 in
theorem t145_rn {l : Launch} {Z : State} {a0 : Array Value} {n0 n1 : Nat} {h : Heap} (hw : ∀ d ∈ tables_1, d.before a0 Z = true) (hn : n0 ≤ h.size) (hm : n1 ≤ h.size) (p0 : Int32) (p1 p2 p3 p4 p5 : Int64) (z13 z14 z15 : Int32) {as : Addr} (Ls : LN Z h n1 (.ref as)) {u18 u19 u20 : Value} (L18 : LN Z h n1 u18) (L19 : LN Z h n1 u19) (L20 : LN Z h n1 u20) : Wk l Z n0 "com/example/annals/annals/storage/TypedColumnRoundsSomeValuesPinLaw" "law" code maxLocals ret room_1 40 7360 true (fun v _ => v = some (.int (1 : Int32))) h 5 5 145 #[.val (.int p0), .val (.long p1), .second, .val (.long p2), .second, .val (.long p3), .second, .val (.long p4), .second, .val (.long p5), .second, .val (.int (1 : Int32)), .val (.int (0 : Int32)), .val (.int z13), .val (.int z14), .val (.int z15), .val (.ref as), .val .null, .val u18, .val u19, .val u20, .unset, .unset, .unset, .unset, .unset, .unset, .unset] [] := by
  refine Wk.new (q := 148) (w_0 hw) (w_1 hw) (w_2 hw) at_145 rfl (by decide) (by decide) ?_
  intro h1 o1 go1 E1 xo1 D1
  have geo1 : n0 ≤ o1 := go1 ▸ hn
  have gmo1 : n1 ≤ o1 := go1 ▸ hm
  have hn := Nat.le_trans hn E1.1
  have hm := Nat.le_trans hm E1.1
  have Ls := Ls.ext E1
  have L18 := L18.ext E1
  have L19 := L19.ext E1
  have L20 := L20.ext E1
  have fo1_0 : Fld Z h1 o1 "com/example/annals/annals/storage/TypedColumn" "name" "Ljava/lang/String;" .null := D1 (Or.inr (w_25 hw)) (ty := (.object "java/lang/String")) (by decide)
  have fo1_1 : Fld Z h1 o1 "com/example/annals/annals/storage/TypedColumn" "type" "Ljava/lang/String;" .null := D1 (Or.inr (w_27 hw)) (ty := (.object "java/lang/String")) (by decide)
  have fo1_2 : Fld Z h1 o1 "com/example/annals/annals/storage/TypedColumn" "kind" "Ljava/lang/String;" .null := D1 (Or.inr (w_29 hw)) (ty := (.object "java/lang/String")) (by decide)
  have fo1_3 : Fld Z h1 o1 "com/example/annals/annals/storage/TypedColumn" "length" "Ljava/lang/Long;" .null := D1 (Or.inr (w_31 hw)) (ty := (.object "java/lang/Long")) (by decide)
  have fo1_4 : Fld Z h1 o1 "com/example/annals/annals/storage/TypedColumn" "precision" "Ljava/lang/Long;" .null := D1 (Or.inr (w_33 hw)) (ty := (.object "java/lang/Long")) (by decide)
  have fo1_5 : Fld Z h1 o1 "com/example/annals/annals/storage/TypedColumn" "radix" "Ljava/lang/Long;" .null := D1 (Or.inr (w_35 hw)) (ty := (.object "java/lang/Long")) (by decide)
  have fo1_6 : Fld Z h1 o1 "com/example/annals/annals/storage/TypedColumn" "scale" "Ljava/lang/Long;" .null := D1 (Or.inr (w_37 hw)) (ty := (.object "java/lang/Long")) (by decide)
  have fo1_7 : Fld Z h1 o1 "com/example/annals/annals/storage/TypedColumn" "fraction" "Ljava/lang/Long;" .null := D1 (Or.inr (w_39 hw)) (ty := (.object "java/lang/Long")) (by decide)
  refine Wk.dup (q := 149) at_148 rfl rfl ?_
  refine Wk.ldcS (q := 151) (n := 4) (w_3 hw) (own_wS hw) at_149 rfl (by decide) (by decide) (by decide) (by decide) ?_
  intro h1 t1 E1
  have hn := Nat.le_trans hn E1.1
  have hm := Nat.le_trans hm E1.1
  have Ls := Ls.ext E1
  have L18 := L18.ext E1
  have L19 := L19.ext E1
  have L20 := L20.ext E1
  have xo1 := xo1.ext E1
  have fo1_0 := fo1_0.ext E1
  have fo1_1 := fo1_1.ext E1
  have fo1_2 := fo1_2.ext E1
  have fo1_3 := fo1_3.ext E1
  have fo1_4 := fo1_4.ext E1
  have fo1_5 := fo1_5.ext E1
  have fo1_6 := fo1_6.ext E1
  have fo1_7 := fo1_7.ext E1
  refine Wk.ldcS (q := 153) (n := 4) (w_11 hw) (own_wS hw) at_151 rfl (by decide) (by decide) (by decide) (by decide) ?_
  intro h1 t2 E1
  have hn := Nat.le_trans hn E1.1
  have hm := Nat.le_trans hm E1.1
  have Ls := Ls.ext E1
  have L18 := L18.ext E1
  have L19 := L19.ext E1
  have L20 := L20.ext E1
  have xo1 := xo1.ext E1
  have fo1_0 := fo1_0.ext E1
  have fo1_1 := fo1_1.ext E1
  have fo1_2 := fo1_2.ext E1
  have fo1_3 := fo1_3.ext E1
  have fo1_4 := fo1_4.ext E1
  have fo1_5 := fo1_5.ext E1
  have fo1_6 := fo1_6.ext E1
  have fo1_7 := fo1_7.ext E1
  refine Wk.ldcS (q := 155) (n := 4) (w_12 hw) (own_wS hw) at_153 rfl (by decide) (by decide) (by decide) (by decide) ?_
  intro h1 t3 E1
  have hn := Nat.le_trans hn E1.1
  have hm := Nat.le_trans hm E1.1
  have Ls := Ls.ext E1
  have L18 := L18.ext E1
  have L19 := L19.ext E1
  have L20 := L20.ext E1
  have xo1 := xo1.ext E1
  have fo1_0 := fo1_0.ext E1
  have fo1_1 := fo1_1.ext E1
  have fo1_2 := fo1_2.ext E1
  have fo1_3 := fo1_3.ext E1
  have fo1_4 := fo1_4.ext E1
  have fo1_5 := fo1_5.ext E1
  have fo1_6 := fo1_6.ext E1
  have fo1_7 := fo1_7.ext E1
  refine Wk.null (q := 156) at_155 rfl ?_
  refine Wk.aload (q := 158) at_156 rfl rfl L18.isRef ?_
  refine Wk.null (q := 159) at_158 rfl ?_
  refine Wk.aload (q := 161) at_159 rfl rfl rfl ?_
  refine Wk.aload (q := 163) at_161 rfl rfl rfl ?_
  refine Wk.special (q := 166) (a := o1) (argsL := [(.ref t1), (.ref t2), (.ref t3), .null, u18, .null, (.ref as), .null]) (rest := [(.ref o1)]) (rm := (⟨2, 0, 0, 24⟩ : Room)) (Q' := fun h' => Keep _ h' [o1] ∧ Exa Z h' o1 "com/example/annals/annals/storage/TypedColumn" ∧ Fld Z h' o1 "com/example/annals/annals/storage/TypedColumn" "scale" "Ljava/lang/Long;" (.ref as) ∧ Fld Z h' o1 "com/example/annals/annals/storage/TypedColumn" "fraction" "Ljava/lang/Long;" .null) (m_tc hw (.ref t1) (.ref t2) (.ref t3) .null u18 .null (.ref as) .null rfl rfl rfl rfl L18.isRef rfl rfl rfl geo1 xo1 fo1_0 fo1_1 fo1_2 fo1_3 fo1_4 fo1_5 fo1_6 fo1_7) rfl (w_13 hw) (w_14 hw) (w_15 hw) (w_2 hw) (by decide) pd_4 rfl rfl rfl at_163 rfl (W := 1) rfl (by decide) (by decide) (by decide) (by decide) ?_
  rintro h2 ⟨K2, xo1, fo1_6, fo1_7⟩
  have hn := Nat.le_trans hn K2.1
  have hm := Nat.le_trans hm K2.1
  have Ls := Ls.keep K2 (allS gmo1 all0)
  have L18 := L18.keep K2 (allS gmo1 all0)
  have L19 := L19.keep K2 (allS gmo1 all0)
  have L20 := L20.keep K2 (allS gmo1 all0)
  refine Wk.astore (q := 168) (ls' := #[.val (.int p0), .val (.long p1), .second, .val (.long p2), .second, .val (.long p3), .second, .val (.long p4), .second, .val (.long p5), .second, .val (.int (1 : Int32)), .val (.int (0 : Int32)), .val (.int z13), .val (.int z14), .val (.int z15), .val (.ref as), .val .null, .val u18, .val u19, .val u20, .val (.ref o1), .unset, .unset, .unset, .unset, .unset, .unset]) at_166 rfl rfl rfl ?_
  refine Wk.new (q := 171) (w_0 hw) (w_1 hw) (w_2 hw) at_168 rfl (by decide) (by decide) ?_
  intro h1 o2 go2 E1 xo2 D1
  have geo2 : n0 ≤ o2 := go2 ▸ hn
  have gmo2 : n1 ≤ o2 := go2 ▸ hm
  have ne_o1_o2 : o1 ≠ o2 := Nat.ne_of_lt (Nat.lt_of_lt_of_eq xo1.lt go2.symm)
  have hn := Nat.le_trans hn E1.1
  have hm := Nat.le_trans hm E1.1
  have Ls := Ls.ext E1
  have L18 := L18.ext E1
  have L19 := L19.ext E1
  have L20 := L20.ext E1
  have xo1 := xo1.ext E1
  have fo1_6 := fo1_6.ext E1
  have fo1_7 := fo1_7.ext E1
  have fo2_0 : Fld Z h1 o2 "com/example/annals/annals/storage/TypedColumn" "name" "Ljava/lang/String;" .null := D1 (Or.inr (w_25 hw)) (ty := (.object "java/lang/String")) (by decide)
  have fo2_1 : Fld Z h1 o2 "com/example/annals/annals/storage/TypedColumn" "type" "Ljava/lang/String;" .null := D1 (Or.inr (w_27 hw)) (ty := (.object "java/lang/String")) (by decide)
  have fo2_2 : Fld Z h1 o2 "com/example/annals/annals/storage/TypedColumn" "kind" "Ljava/lang/String;" .null := D1 (Or.inr (w_29 hw)) (ty := (.object "java/lang/String")) (by decide)
  have fo2_3 : Fld Z h1 o2 "com/example/annals/annals/storage/TypedColumn" "length" "Ljava/lang/Long;" .null := D1 (Or.inr (w_31 hw)) (ty := (.object "java/lang/Long")) (by decide)
  have fo2_4 : Fld Z h1 o2 "com/example/annals/annals/storage/TypedColumn" "precision" "Ljava/lang/Long;" .null := D1 (Or.inr (w_33 hw)) (ty := (.object "java/lang/Long")) (by decide)
  have fo2_5 : Fld Z h1 o2 "com/example/annals/annals/storage/TypedColumn" "radix" "Ljava/lang/Long;" .null := D1 (Or.inr (w_35 hw)) (ty := (.object "java/lang/Long")) (by decide)
  have fo2_6 : Fld Z h1 o2 "com/example/annals/annals/storage/TypedColumn" "scale" "Ljava/lang/Long;" .null := D1 (Or.inr (w_37 hw)) (ty := (.object "java/lang/Long")) (by decide)
  have fo2_7 : Fld Z h1 o2 "com/example/annals/annals/storage/TypedColumn" "fraction" "Ljava/lang/Long;" .null := D1 (Or.inr (w_39 hw)) (ty := (.object "java/lang/Long")) (by decide)
  refine Wk.dup (q := 172) at_171 rfl rfl ?_
  refine Wk.ldcS (q := 174) (n := 4) (w_40 hw) (own_wS hw) at_172 rfl (by decide) (by decide) (by decide) (by decide) ?_
  intro h1 t4 E1
  have hn := Nat.le_trans hn E1.1
  have hm := Nat.le_trans hm E1.1
  have Ls := Ls.ext E1
  have L18 := L18.ext E1
  have L19 := L19.ext E1
  have L20 := L20.ext E1
  have xo2 := xo2.ext E1
  have fo2_0 := fo2_0.ext E1
  have fo2_1 := fo2_1.ext E1
  have fo2_2 := fo2_2.ext E1
  have fo2_3 := fo2_3.ext E1
  have fo2_4 := fo2_4.ext E1
  have fo2_5 := fo2_5.ext E1
  have fo2_6 := fo2_6.ext E1
  have fo2_7 := fo2_7.ext E1
  have xo1 := xo1.ext E1
  have fo1_6 := fo1_6.ext E1
  have fo1_7 := fo1_7.ext E1
  refine Wk.ldcS (q := 176) (n := 4) (w_41 hw) (own_wS hw) at_174 rfl (by decide) (by decide) (by decide) (by decide) ?_
  intro h1 t5 E1
  have hn := Nat.le_trans hn E1.1
  have hm := Nat.le_trans hm E1.1
  have Ls := Ls.ext E1
  have L18 := L18.ext E1
  have L19 := L19.ext E1
  have L20 := L20.ext E1
  have xo2 := xo2.ext E1
  have fo2_0 := fo2_0.ext E1
  have fo2_1 := fo2_1.ext E1
  have fo2_2 := fo2_2.ext E1
  have fo2_3 := fo2_3.ext E1
  have fo2_4 := fo2_4.ext E1
  have fo2_5 := fo2_5.ext E1
  have fo2_6 := fo2_6.ext E1
  have fo2_7 := fo2_7.ext E1
  have xo1 := xo1.ext E1
  have fo1_6 := fo1_6.ext E1
  have fo1_7 := fo1_7.ext E1
  refine Wk.ldcS (q := 178) (n := 4) (w_12 hw) (own_wS hw) at_176 rfl (by decide) (by decide) (by decide) (by decide) ?_
  intro h1 t6 E1
  have hn := Nat.le_trans hn E1.1
  have hm := Nat.le_trans hm E1.1
  have Ls := Ls.ext E1
  have L18 := L18.ext E1
  have L19 := L19.ext E1
  have L20 := L20.ext E1
  have xo2 := xo2.ext E1
  have fo2_0 := fo2_0.ext E1
  have fo2_1 := fo2_1.ext E1
  have fo2_2 := fo2_2.ext E1
  have fo2_3 := fo2_3.ext E1
  have fo2_4 := fo2_4.ext E1
  have fo2_5 := fo2_5.ext E1
  have fo2_6 := fo2_6.ext E1
  have fo2_7 := fo2_7.ext E1
  have xo1 := xo1.ext E1
  have fo1_6 := fo1_6.ext E1
  have fo1_7 := fo1_7.ext E1
  refine Wk.null (q := 179) at_178 rfl ?_
  refine Wk.null (q := 180) at_179 rfl ?_
  refine Wk.null (q := 181) at_180 rfl ?_
  refine Wk.null (q := 182) at_181 rfl ?_
  refine Wk.null (q := 183) at_182 rfl ?_
  refine Wk.special (q := 186) (a := o2) (argsL := [(.ref t4), (.ref t5), (.ref t6), .null, .null, .null, .null, .null]) (rest := [(.ref o2)]) (rm := (⟨2, 0, 0, 24⟩ : Room)) (Q' := fun h' => Keep _ h' [o2] ∧ Exa Z h' o2 "com/example/annals/annals/storage/TypedColumn" ∧ Fld Z h' o2 "com/example/annals/annals/storage/TypedColumn" "scale" "Ljava/lang/Long;" .null ∧ Fld Z h' o2 "com/example/annals/annals/storage/TypedColumn" "fraction" "Ljava/lang/Long;" .null) (m_tc hw (.ref t4) (.ref t5) (.ref t6) .null .null .null .null .null rfl rfl rfl rfl rfl rfl rfl rfl geo2 xo2 fo2_0 fo2_1 fo2_2 fo2_3 fo2_4 fo2_5 fo2_6 fo2_7) rfl (w_13 hw) (w_14 hw) (w_15 hw) (w_2 hw) (by decide) pd_4 rfl rfl rfl at_183 rfl (W := 1) rfl (by decide) (by decide) (by decide) (by decide) ?_
  rintro h2 ⟨K2, xo2, fo2_6, fo2_7⟩
  have hn := Nat.le_trans hn K2.1
  have hm := Nat.le_trans hm K2.1
  have Ls := Ls.keep K2 (allS gmo2 all0)
  have L18 := L18.keep K2 (allS gmo2 all0)
  have L19 := L19.keep K2 (allS gmo2 all0)
  have L20 := L20.keep K2 (allS gmo2 all0)
  have xo1 := xo1.keep K2
  have fo1_6 := fo1_6.keep K2 (ninS ne_o1_o2 nin0)
  have fo1_7 := fo1_7.keep K2 (ninS ne_o1_o2 nin0)
  refine Wk.astore (q := 188) (ls' := #[.val (.int p0), .val (.long p1), .second, .val (.long p2), .second, .val (.long p3), .second, .val (.long p4), .second, .val (.long p5), .second, .val (.int (1 : Int32)), .val (.int (0 : Int32)), .val (.int z13), .val (.int z14), .val (.int z15), .val (.ref as), .val .null, .val u18, .val u19, .val u20, .val (.ref o1), .val (.ref o2), .unset, .unset, .unset, .unset, .unset]) at_186 rfl rfl rfl ?_
  refine Wk.new (q := 191) (w_0 hw) (w_1 hw) (w_2 hw) at_188 rfl (by decide) (by decide) ?_
  intro h1 o3 go3 E1 xo3 D1
  have geo3 : n0 ≤ o3 := go3 ▸ hn
  have gmo3 : n1 ≤ o3 := go3 ▸ hm
  have ne_o1_o3 : o1 ≠ o3 := Nat.ne_of_lt (Nat.lt_of_lt_of_eq xo1.lt go3.symm)
  have ne_o2_o3 : o2 ≠ o3 := Nat.ne_of_lt (Nat.lt_of_lt_of_eq xo2.lt go3.symm)
  have hn := Nat.le_trans hn E1.1
  have hm := Nat.le_trans hm E1.1
  have Ls := Ls.ext E1
  have L18 := L18.ext E1
  have L19 := L19.ext E1
  have L20 := L20.ext E1
  have xo1 := xo1.ext E1
  have fo1_6 := fo1_6.ext E1
  have fo1_7 := fo1_7.ext E1
  have xo2 := xo2.ext E1
  have fo2_6 := fo2_6.ext E1
  have fo2_7 := fo2_7.ext E1
  have fo3_0 : Fld Z h1 o3 "com/example/annals/annals/storage/TypedColumn" "name" "Ljava/lang/String;" .null := D1 (Or.inr (w_25 hw)) (ty := (.object "java/lang/String")) (by decide)
  have fo3_1 : Fld Z h1 o3 "com/example/annals/annals/storage/TypedColumn" "type" "Ljava/lang/String;" .null := D1 (Or.inr (w_27 hw)) (ty := (.object "java/lang/String")) (by decide)
  have fo3_2 : Fld Z h1 o3 "com/example/annals/annals/storage/TypedColumn" "kind" "Ljava/lang/String;" .null := D1 (Or.inr (w_29 hw)) (ty := (.object "java/lang/String")) (by decide)
  have fo3_3 : Fld Z h1 o3 "com/example/annals/annals/storage/TypedColumn" "length" "Ljava/lang/Long;" .null := D1 (Or.inr (w_31 hw)) (ty := (.object "java/lang/Long")) (by decide)
  have fo3_4 : Fld Z h1 o3 "com/example/annals/annals/storage/TypedColumn" "precision" "Ljava/lang/Long;" .null := D1 (Or.inr (w_33 hw)) (ty := (.object "java/lang/Long")) (by decide)
  have fo3_5 : Fld Z h1 o3 "com/example/annals/annals/storage/TypedColumn" "radix" "Ljava/lang/Long;" .null := D1 (Or.inr (w_35 hw)) (ty := (.object "java/lang/Long")) (by decide)
  have fo3_6 : Fld Z h1 o3 "com/example/annals/annals/storage/TypedColumn" "scale" "Ljava/lang/Long;" .null := D1 (Or.inr (w_37 hw)) (ty := (.object "java/lang/Long")) (by decide)
  have fo3_7 : Fld Z h1 o3 "com/example/annals/annals/storage/TypedColumn" "fraction" "Ljava/lang/Long;" .null := D1 (Or.inr (w_39 hw)) (ty := (.object "java/lang/Long")) (by decide)
  refine Wk.dup (q := 192) at_191 rfl rfl ?_
  refine Wk.ldcS (q := 194) (n := 4) (w_42 hw) (own_wS hw) at_192 rfl (by decide) (by decide) (by decide) (by decide) ?_
  intro h1 t7 E1
  have hn := Nat.le_trans hn E1.1
  have hm := Nat.le_trans hm E1.1
  have Ls := Ls.ext E1
  have L18 := L18.ext E1
  have L19 := L19.ext E1
  have L20 := L20.ext E1
  have xo3 := xo3.ext E1
  have fo3_0 := fo3_0.ext E1
  have fo3_1 := fo3_1.ext E1
  have fo3_2 := fo3_2.ext E1
  have fo3_3 := fo3_3.ext E1
  have fo3_4 := fo3_4.ext E1
  have fo3_5 := fo3_5.ext E1
  have fo3_6 := fo3_6.ext E1
  have fo3_7 := fo3_7.ext E1
  have xo1 := xo1.ext E1
  have fo1_6 := fo1_6.ext E1
  have fo1_7 := fo1_7.ext E1
  have xo2 := xo2.ext E1
  have fo2_6 := fo2_6.ext E1
  have fo2_7 := fo2_7.ext E1
  refine Wk.ldcS (q := 196) (n := 4) (w_43 hw) (own_wS hw) at_194 rfl (by decide) (by decide) (by decide) (by decide) ?_
  intro h1 t8 E1
  have hn := Nat.le_trans hn E1.1
  have hm := Nat.le_trans hm E1.1
  have Ls := Ls.ext E1
  have L18 := L18.ext E1
  have L19 := L19.ext E1
  have L20 := L20.ext E1
  have xo3 := xo3.ext E1
  have fo3_0 := fo3_0.ext E1
  have fo3_1 := fo3_1.ext E1
  have fo3_2 := fo3_2.ext E1
  have fo3_3 := fo3_3.ext E1
  have fo3_4 := fo3_4.ext E1
  have fo3_5 := fo3_5.ext E1
  have fo3_6 := fo3_6.ext E1
  have fo3_7 := fo3_7.ext E1
  have xo1 := xo1.ext E1
  have fo1_6 := fo1_6.ext E1
  have fo1_7 := fo1_7.ext E1
  have xo2 := xo2.ext E1
  have fo2_6 := fo2_6.ext E1
  have fo2_7 := fo2_7.ext E1
  refine Wk.ldcS (q := 198) (n := 4) (w_12 hw) (own_wS hw) at_196 rfl (by decide) (by decide) (by decide) (by decide) ?_
  intro h1 t9 E1
  have hn := Nat.le_trans hn E1.1
  have hm := Nat.le_trans hm E1.1
  have Ls := Ls.ext E1
  have L18 := L18.ext E1
  have L19 := L19.ext E1
  have L20 := L20.ext E1
  have xo3 := xo3.ext E1
  have fo3_0 := fo3_0.ext E1
  have fo3_1 := fo3_1.ext E1
  have fo3_2 := fo3_2.ext E1
  have fo3_3 := fo3_3.ext E1
  have fo3_4 := fo3_4.ext E1
  have fo3_5 := fo3_5.ext E1
  have fo3_6 := fo3_6.ext E1
  have fo3_7 := fo3_7.ext E1
  have xo1 := xo1.ext E1
  have fo1_6 := fo1_6.ext E1
  have fo1_7 := fo1_7.ext E1
  have xo2 := xo2.ext E1
  have fo2_6 := fo2_6.ext E1
  have fo2_7 := fo2_7.ext E1
  refine Wk.null (q := 199) at_198 rfl ?_
  refine Wk.null (q := 200) at_199 rfl ?_
  refine Wk.null (q := 201) at_200 rfl ?_
  refine Wk.aload (q := 203) at_201 rfl rfl L19.isRef ?_
  refine Wk.aload (q := 205) at_203 rfl rfl L20.isRef ?_
  refine Wk.special (q := 208) (a := o3) (argsL := [(.ref t7), (.ref t8), (.ref t9), .null, .null, .null, u19, u20]) (rest := [(.ref o3)]) (rm := (⟨2, 0, 0, 24⟩ : Room)) (Q' := fun h' => Keep _ h' [o3] ∧ Exa Z h' o3 "com/example/annals/annals/storage/TypedColumn" ∧ Fld Z h' o3 "com/example/annals/annals/storage/TypedColumn" "scale" "Ljava/lang/Long;" u19 ∧ Fld Z h' o3 "com/example/annals/annals/storage/TypedColumn" "fraction" "Ljava/lang/Long;" u20) (m_tc hw (.ref t7) (.ref t8) (.ref t9) .null .null .null u19 u20 rfl rfl rfl rfl rfl rfl L19.isRef L20.isRef geo3 xo3 fo3_0 fo3_1 fo3_2 fo3_3 fo3_4 fo3_5 fo3_6 fo3_7) rfl (w_13 hw) (w_14 hw) (w_15 hw) (w_2 hw) (by decide) pd_4 rfl rfl rfl at_205 rfl (W := 1) rfl (by decide) (by decide) (by decide) (by decide) ?_
  rintro h2 ⟨K2, xo3, fo3_6, fo3_7⟩
  have hn := Nat.le_trans hn K2.1
  have hm := Nat.le_trans hm K2.1
  have Ls := Ls.keep K2 (allS gmo3 all0)
  have L18 := L18.keep K2 (allS gmo3 all0)
  have L19 := L19.keep K2 (allS gmo3 all0)
  have L20 := L20.keep K2 (allS gmo3 all0)
  have xo1 := xo1.keep K2
  have fo1_6 := fo1_6.keep K2 (ninS ne_o1_o3 nin0)
  have fo1_7 := fo1_7.keep K2 (ninS ne_o1_o3 nin0)
  have xo2 := xo2.keep K2
  have fo2_6 := fo2_6.keep K2 (ninS ne_o2_o3 nin0)
  have fo2_7 := fo2_7.keep K2 (ninS ne_o2_o3 nin0)
  refine Wk.astore (q := 210) (ls' := #[.val (.int p0), .val (.long p1), .second, .val (.long p2), .second, .val (.long p3), .second, .val (.long p4), .second, .val (.long p5), .second, .val (.int (1 : Int32)), .val (.int (0 : Int32)), .val (.int z13), .val (.int z14), .val (.int z15), .val (.ref as), .val .null, .val u18, .val u19, .val u20, .val (.ref o1), .val (.ref o2), .val (.ref o3), .unset, .unset, .unset, .unset]) at_208 rfl rfl rfl ?_
  refine Wk.aload (q := 212) at_210 rfl rfl rfl ?_
  obtain ⟨as, xs, hs1, -, es, gs⟩ := own_lr Ls
  cases hs1
  refine Wk.callV1 (a := o1) (q := 215) (argsL := []) (rest := []) (fr := 0) (lo := 0) (v0 := (.int (1 : Int32))) (m_rs_rn hw fo1_6 fo1_7) xo1 (w_44 hw) (w_45 hw) (w_47 hw) (w_46 hw) (w_48 hw) (w_2 hw) (by decide) pd_5 rfl rfl rfl at_212 rfl (W := 0) rfl (by decide) (by decide) (by decide) (by decide) ?_
  refine Wk.istore (q := 217) (ls' := #[.val (.int p0), .val (.long p1), .second, .val (.long p2), .second, .val (.long p3), .second, .val (.long p4), .second, .val (.long p5), .second, .val (.int (1 : Int32)), .val (.int (0 : Int32)), .val (.int z13), .val (.int z14), .val (.int z15), .val (.ref as), .val .null, .val u18, .val u19, .val u20, .val (.ref o1), .val (.ref o2), .val (.ref o3), .val (.int (1 : Int32)), .unset, .unset, .unset]) at_215 rfl rfl ?_
  refine Wk.aload (q := 219) at_217 rfl rfl rfl ?_
  refine Wk.aload (q := 221) at_219 rfl rfl rfl ?_
  refine Wk.callV1 (a := o1) (q := 224) (argsL := [(.ref o2)]) (rest := []) (fr := 2) (lo := 27) (v0 := (.int (1 : Int32))) (m_rvU_rn hw es gs fo1_6 fo1_7 fo2_6 fo2_7) xo1 (w_49 hw) (w_50 hw) (w_52 hw) (w_51 hw) (w_53 hw) (w_2 hw) (by decide) pd_6 rfl rfl rfl at_221 rfl (W := 0) rfl (by decide) (by decide) (by decide) (by decide) ?_
  refine Wk.istore (q := 226) (ls' := #[.val (.int p0), .val (.long p1), .second, .val (.long p2), .second, .val (.long p3), .second, .val (.long p4), .second, .val (.long p5), .second, .val (.int (1 : Int32)), .val (.int (0 : Int32)), .val (.int z13), .val (.int z14), .val (.int z15), .val (.ref as), .val .null, .val u18, .val u19, .val u20, .val (.ref o1), .val (.ref o2), .val (.ref o3), .val (.int (1 : Int32)), .val (.int (1 : Int32)), .unset, .unset]) at_224 rfl rfl ?_
  refine Wk.aload (q := 228) at_226 rfl rfl rfl ?_
  refine Wk.aload (q := 230) at_228 rfl rfl rfl ?_
  refine Wk.callV2 (a := o1) (q := 233) (argsL := [(.ref o3)]) (rest := []) (fr := 2) (lo := 27) (P := B01) (m_rvO_rn hw es gs fo1_6 fo1_7 fo3_6 fo3_7 L19 L20) xo1 (w_49 hw) (w_50 hw) (w_52 hw) (w_51 hw) (w_53 hw) (w_2 hw) (by decide) pd_6 rfl rfl rfl at_230 rfl (W := 0) rfl (by decide) (by decide) (by decide) (by decide) ?_
  rintro _ (rfl | rfl)
  · refine Wk.istore (q := 235) (ls' := #[.val (.int p0), .val (.long p1), .second, .val (.long p2), .second, .val (.long p3), .second, .val (.long p4), .second, .val (.long p5), .second, .val (.int (1 : Int32)), .val (.int (0 : Int32)), .val (.int z13), .val (.int z14), .val (.int z15), .val (.ref as), .val .null, .val u18, .val u19, .val u20, .val (.ref o1), .val (.ref o2), .val (.ref o3), .val (.int (1 : Int32)), .val (.int (1 : Int32)), .val (.int (0 : Int32)), .unset]) at_233 rfl rfl ?_
    refine Wk.iload (q := 237) at_235 rfl rfl ?_
    refine Wk.ifcT (q := 245) at_237 (by decide) rfl (by decide : ¬ (1 : Int32) = (0 : Int32)) ?_
    refine Wk.iconst (q := 246) (v := (1 : Int32)) at_245 rfl rfl ?_
    refine Wk.goto (q := 250) at_246 (by decide) rfl ?_
    refine Wk.istore (q := 252) (ls' := #[.val (.int p0), .val (.long p1), .second, .val (.long p2), .second, .val (.long p3), .second, .val (.long p4), .second, .val (.long p5), .second, .val (.int (1 : Int32)), .val (.int (0 : Int32)), .val (.int z13), .val (.int z14), .val (.int z15), .val (.ref as), .val .null, .val u18, .val u19, .val u20, .val (.ref o1), .val (.ref o2), .val (.ref o3), .val (.int (1 : Int32)), .val (.int (1 : Int32)), .val (.int (0 : Int32)), .val (.int (1 : Int32))]) at_250 rfl rfl ?_
    refine Wk.iload (q := 254) at_252 rfl rfl ?_
    refine Wk.iload (q := 256) at_254 rfl rfl ?_
    refine Wk.icmpF (q := 259) at_256 rfl (by decide : (1 : Int32) = (1 : Int32)) ?_
    refine Wk.iload (q := 261) at_259 rfl rfl ?_
    refine Wk.iload (q := 263) at_261 rfl rfl ?_
    refine Wk.icmpF (q := 266) at_263 rfl (by decide : (1 : Int32) = (1 : Int32)) ?_
    refine Wk.iload (q := 268) at_266 rfl rfl ?_
    refine Wk.ifcT (q := 276) at_268 (by decide) rfl (by decide : ¬ (1 : Int32) = (0 : Int32)) ?_
    refine Wk.iconst (q := 277) (v := (1 : Int32)) at_276 rfl rfl ?_
    refine Wk.goto (q := 281) at_277 (by decide) rfl ?_
    exact Wk.retZ rfl rfl at_281 (by decide) (by decide) rfl
  · refine Wk.istore (q := 235) (ls' := #[.val (.int p0), .val (.long p1), .second, .val (.long p2), .second, .val (.long p3), .second, .val (.long p4), .second, .val (.long p5), .second, .val (.int (1 : Int32)), .val (.int (0 : Int32)), .val (.int z13), .val (.int z14), .val (.int z15), .val (.ref as), .val .null, .val u18, .val u19, .val u20, .val (.ref o1), .val (.ref o2), .val (.ref o3), .val (.int (1 : Int32)), .val (.int (1 : Int32)), .val (.int (1 : Int32)), .unset]) at_233 rfl rfl ?_
    refine Wk.iload (q := 237) at_235 rfl rfl ?_
    refine Wk.ifcT (q := 245) at_237 (by decide) rfl (by decide : ¬ (1 : Int32) = (0 : Int32)) ?_
    refine Wk.iconst (q := 246) (v := (1 : Int32)) at_245 rfl rfl ?_
    refine Wk.goto (q := 250) at_246 (by decide) rfl ?_
    refine Wk.istore (q := 252) (ls' := #[.val (.int p0), .val (.long p1), .second, .val (.long p2), .second, .val (.long p3), .second, .val (.long p4), .second, .val (.long p5), .second, .val (.int (1 : Int32)), .val (.int (0 : Int32)), .val (.int z13), .val (.int z14), .val (.int z15), .val (.ref as), .val .null, .val u18, .val u19, .val u20, .val (.ref o1), .val (.ref o2), .val (.ref o3), .val (.int (1 : Int32)), .val (.int (1 : Int32)), .val (.int (1 : Int32)), .val (.int (1 : Int32))]) at_250 rfl rfl ?_
    refine Wk.iload (q := 254) at_252 rfl rfl ?_
    refine Wk.iload (q := 256) at_254 rfl rfl ?_
    refine Wk.icmpF (q := 259) at_256 rfl (by decide : (1 : Int32) = (1 : Int32)) ?_
    refine Wk.iload (q := 261) at_259 rfl rfl ?_
    refine Wk.iload (q := 263) at_261 rfl rfl ?_
    refine Wk.icmpF (q := 266) at_263 rfl (by decide : (1 : Int32) = (1 : Int32)) ?_
    refine Wk.iload (q := 268) at_266 rfl rfl ?_
    refine Wk.ifcT (q := 276) at_268 (by decide) rfl (by decide : ¬ (1 : Int32) = (0 : Int32)) ?_
    refine Wk.iconst (q := 277) (v := (1 : Int32)) at_276 rfl rfl ?_
    refine Wk.goto (q := 281) at_277 (by decide) rfl ?_
    exact Wk.retZ rfl rfl at_281 (by decide) (by decide) rfl
set_option maxRecDepth 65536 in
set_option maxHeartbeats 40000000 in
theorem t145_rr {l : Launch} {Z : State} {a0 : Array Value} {n0 n1 : Nat} {h : Heap} (hw : ∀ d ∈ tables_1, d.before a0 Z = true) (hn : n0 ≤ h.size) (hm : n1 ≤ h.size) (p0 : Int32) (p1 p2 p3 p4 p5 : Int64) (z13 z14 z15 : Int32) {as : Addr} (Ls : LN Z h n1 (.ref as)) {af : Addr} (Lf : LN Z h n1 (.ref af)) {u18 u19 u20 : Value} (L18 : LN Z h n1 u18) (L19 : LN Z h n1 u19) (L20 : LN Z h n1 u20) : Wk l Z n0 "com/example/annals/annals/storage/TypedColumnRoundsSomeValuesPinLaw" "law" code maxLocals ret room_1 40 7360 true (fun v _ => v = some (.int (1 : Int32))) h 5 5 145 #[.val (.int p0), .val (.long p1), .second, .val (.long p2), .second, .val (.long p3), .second, .val (.long p4), .second, .val (.long p5), .second, .val (.int (1 : Int32)), .val (.int (1 : Int32)), .val (.int z13), .val (.int z14), .val (.int z15), .val (.ref as), .val (.ref af), .val u18, .val u19, .val u20, .unset, .unset, .unset, .unset, .unset, .unset, .unset] [] := by
  refine Wk.new (q := 148) (w_0 hw) (w_1 hw) (w_2 hw) at_145 rfl (by decide) (by decide) ?_
  intro h1 o1 go1 E1 xo1 D1
  have geo1 : n0 ≤ o1 := go1 ▸ hn
  have gmo1 : n1 ≤ o1 := go1 ▸ hm
  have hn := Nat.le_trans hn E1.1
  have hm := Nat.le_trans hm E1.1
  have Ls := Ls.ext E1
  have Lf := Lf.ext E1
  have L18 := L18.ext E1
  have L19 := L19.ext E1
  have L20 := L20.ext E1
  have fo1_0 : Fld Z h1 o1 "com/example/annals/annals/storage/TypedColumn" "name" "Ljava/lang/String;" .null := D1 (Or.inr (w_25 hw)) (ty := (.object "java/lang/String")) (by decide)
  have fo1_1 : Fld Z h1 o1 "com/example/annals/annals/storage/TypedColumn" "type" "Ljava/lang/String;" .null := D1 (Or.inr (w_27 hw)) (ty := (.object "java/lang/String")) (by decide)
  have fo1_2 : Fld Z h1 o1 "com/example/annals/annals/storage/TypedColumn" "kind" "Ljava/lang/String;" .null := D1 (Or.inr (w_29 hw)) (ty := (.object "java/lang/String")) (by decide)
  have fo1_3 : Fld Z h1 o1 "com/example/annals/annals/storage/TypedColumn" "length" "Ljava/lang/Long;" .null := D1 (Or.inr (w_31 hw)) (ty := (.object "java/lang/Long")) (by decide)
  have fo1_4 : Fld Z h1 o1 "com/example/annals/annals/storage/TypedColumn" "precision" "Ljava/lang/Long;" .null := D1 (Or.inr (w_33 hw)) (ty := (.object "java/lang/Long")) (by decide)
  have fo1_5 : Fld Z h1 o1 "com/example/annals/annals/storage/TypedColumn" "radix" "Ljava/lang/Long;" .null := D1 (Or.inr (w_35 hw)) (ty := (.object "java/lang/Long")) (by decide)
  have fo1_6 : Fld Z h1 o1 "com/example/annals/annals/storage/TypedColumn" "scale" "Ljava/lang/Long;" .null := D1 (Or.inr (w_37 hw)) (ty := (.object "java/lang/Long")) (by decide)
  have fo1_7 : Fld Z h1 o1 "com/example/annals/annals/storage/TypedColumn" "fraction" "Ljava/lang/Long;" .null := D1 (Or.inr (w_39 hw)) (ty := (.object "java/lang/Long")) (by decide)
  refine Wk.dup (q := 149) at_148 rfl rfl ?_
  refine Wk.ldcS (q := 151) (n := 4) (w_3 hw) (own_wS hw) at_149 rfl (by decide) (by decide) (by decide) (by decide) ?_
  intro h1 t1 E1
  have hn := Nat.le_trans hn E1.1
  have hm := Nat.le_trans hm E1.1
  have Ls := Ls.ext E1
  have Lf := Lf.ext E1
  have L18 := L18.ext E1
  have L19 := L19.ext E1
  have L20 := L20.ext E1
  have xo1 := xo1.ext E1
  have fo1_0 := fo1_0.ext E1
  have fo1_1 := fo1_1.ext E1
  have fo1_2 := fo1_2.ext E1
  have fo1_3 := fo1_3.ext E1
  have fo1_4 := fo1_4.ext E1
  have fo1_5 := fo1_5.ext E1
  have fo1_6 := fo1_6.ext E1
  have fo1_7 := fo1_7.ext E1
  refine Wk.ldcS (q := 153) (n := 4) (w_11 hw) (own_wS hw) at_151 rfl (by decide) (by decide) (by decide) (by decide) ?_
  intro h1 t2 E1
  have hn := Nat.le_trans hn E1.1
  have hm := Nat.le_trans hm E1.1
  have Ls := Ls.ext E1
  have Lf := Lf.ext E1
  have L18 := L18.ext E1
  have L19 := L19.ext E1
  have L20 := L20.ext E1
  have xo1 := xo1.ext E1
  have fo1_0 := fo1_0.ext E1
  have fo1_1 := fo1_1.ext E1
  have fo1_2 := fo1_2.ext E1
  have fo1_3 := fo1_3.ext E1
  have fo1_4 := fo1_4.ext E1
  have fo1_5 := fo1_5.ext E1
  have fo1_6 := fo1_6.ext E1
  have fo1_7 := fo1_7.ext E1
  refine Wk.ldcS (q := 155) (n := 4) (w_12 hw) (own_wS hw) at_153 rfl (by decide) (by decide) (by decide) (by decide) ?_
  intro h1 t3 E1
  have hn := Nat.le_trans hn E1.1
  have hm := Nat.le_trans hm E1.1
  have Ls := Ls.ext E1
  have Lf := Lf.ext E1
  have L18 := L18.ext E1
  have L19 := L19.ext E1
  have L20 := L20.ext E1
  have xo1 := xo1.ext E1
  have fo1_0 := fo1_0.ext E1
  have fo1_1 := fo1_1.ext E1
  have fo1_2 := fo1_2.ext E1
  have fo1_3 := fo1_3.ext E1
  have fo1_4 := fo1_4.ext E1
  have fo1_5 := fo1_5.ext E1
  have fo1_6 := fo1_6.ext E1
  have fo1_7 := fo1_7.ext E1
  refine Wk.null (q := 156) at_155 rfl ?_
  refine Wk.aload (q := 158) at_156 rfl rfl L18.isRef ?_
  refine Wk.null (q := 159) at_158 rfl ?_
  refine Wk.aload (q := 161) at_159 rfl rfl rfl ?_
  refine Wk.aload (q := 163) at_161 rfl rfl rfl ?_
  refine Wk.special (q := 166) (a := o1) (argsL := [(.ref t1), (.ref t2), (.ref t3), .null, u18, .null, (.ref as), (.ref af)]) (rest := [(.ref o1)]) (rm := (⟨2, 0, 0, 24⟩ : Room)) (Q' := fun h' => Keep _ h' [o1] ∧ Exa Z h' o1 "com/example/annals/annals/storage/TypedColumn" ∧ Fld Z h' o1 "com/example/annals/annals/storage/TypedColumn" "scale" "Ljava/lang/Long;" (.ref as) ∧ Fld Z h' o1 "com/example/annals/annals/storage/TypedColumn" "fraction" "Ljava/lang/Long;" (.ref af)) (m_tc hw (.ref t1) (.ref t2) (.ref t3) .null u18 .null (.ref as) (.ref af) rfl rfl rfl rfl L18.isRef rfl rfl rfl geo1 xo1 fo1_0 fo1_1 fo1_2 fo1_3 fo1_4 fo1_5 fo1_6 fo1_7) rfl (w_13 hw) (w_14 hw) (w_15 hw) (w_2 hw) (by decide) pd_4 rfl rfl rfl at_163 rfl (W := 1) rfl (by decide) (by decide) (by decide) (by decide) ?_
  rintro h2 ⟨K2, xo1, fo1_6, fo1_7⟩
  have hn := Nat.le_trans hn K2.1
  have hm := Nat.le_trans hm K2.1
  have Ls := Ls.keep K2 (allS gmo1 all0)
  have Lf := Lf.keep K2 (allS gmo1 all0)
  have L18 := L18.keep K2 (allS gmo1 all0)
  have L19 := L19.keep K2 (allS gmo1 all0)
  have L20 := L20.keep K2 (allS gmo1 all0)
  refine Wk.astore (q := 168) (ls' := #[.val (.int p0), .val (.long p1), .second, .val (.long p2), .second, .val (.long p3), .second, .val (.long p4), .second, .val (.long p5), .second, .val (.int (1 : Int32)), .val (.int (1 : Int32)), .val (.int z13), .val (.int z14), .val (.int z15), .val (.ref as), .val (.ref af), .val u18, .val u19, .val u20, .val (.ref o1), .unset, .unset, .unset, .unset, .unset, .unset]) at_166 rfl rfl rfl ?_
  refine Wk.new (q := 171) (w_0 hw) (w_1 hw) (w_2 hw) at_168 rfl (by decide) (by decide) ?_
  intro h1 o2 go2 E1 xo2 D1
  have geo2 : n0 ≤ o2 := go2 ▸ hn
  have gmo2 : n1 ≤ o2 := go2 ▸ hm
  have ne_o1_o2 : o1 ≠ o2 := Nat.ne_of_lt (Nat.lt_of_lt_of_eq xo1.lt go2.symm)
  have hn := Nat.le_trans hn E1.1
  have hm := Nat.le_trans hm E1.1
  have Ls := Ls.ext E1
  have Lf := Lf.ext E1
  have L18 := L18.ext E1
  have L19 := L19.ext E1
  have L20 := L20.ext E1
  have xo1 := xo1.ext E1
  have fo1_6 := fo1_6.ext E1
  have fo1_7 := fo1_7.ext E1
  have fo2_0 : Fld Z h1 o2 "com/example/annals/annals/storage/TypedColumn" "name" "Ljava/lang/String;" .null := D1 (Or.inr (w_25 hw)) (ty := (.object "java/lang/String")) (by decide)
  have fo2_1 : Fld Z h1 o2 "com/example/annals/annals/storage/TypedColumn" "type" "Ljava/lang/String;" .null := D1 (Or.inr (w_27 hw)) (ty := (.object "java/lang/String")) (by decide)
  have fo2_2 : Fld Z h1 o2 "com/example/annals/annals/storage/TypedColumn" "kind" "Ljava/lang/String;" .null := D1 (Or.inr (w_29 hw)) (ty := (.object "java/lang/String")) (by decide)
  have fo2_3 : Fld Z h1 o2 "com/example/annals/annals/storage/TypedColumn" "length" "Ljava/lang/Long;" .null := D1 (Or.inr (w_31 hw)) (ty := (.object "java/lang/Long")) (by decide)
  have fo2_4 : Fld Z h1 o2 "com/example/annals/annals/storage/TypedColumn" "precision" "Ljava/lang/Long;" .null := D1 (Or.inr (w_33 hw)) (ty := (.object "java/lang/Long")) (by decide)
  have fo2_5 : Fld Z h1 o2 "com/example/annals/annals/storage/TypedColumn" "radix" "Ljava/lang/Long;" .null := D1 (Or.inr (w_35 hw)) (ty := (.object "java/lang/Long")) (by decide)
  have fo2_6 : Fld Z h1 o2 "com/example/annals/annals/storage/TypedColumn" "scale" "Ljava/lang/Long;" .null := D1 (Or.inr (w_37 hw)) (ty := (.object "java/lang/Long")) (by decide)
  have fo2_7 : Fld Z h1 o2 "com/example/annals/annals/storage/TypedColumn" "fraction" "Ljava/lang/Long;" .null := D1 (Or.inr (w_39 hw)) (ty := (.object "java/lang/Long")) (by decide)
  refine Wk.dup (q := 172) at_171 rfl rfl ?_
  refine Wk.ldcS (q := 174) (n := 4) (w_40 hw) (own_wS hw) at_172 rfl (by decide) (by decide) (by decide) (by decide) ?_
  intro h1 t4 E1
  have hn := Nat.le_trans hn E1.1
  have hm := Nat.le_trans hm E1.1
  have Ls := Ls.ext E1
  have Lf := Lf.ext E1
  have L18 := L18.ext E1
  have L19 := L19.ext E1
  have L20 := L20.ext E1
  have xo2 := xo2.ext E1
  have fo2_0 := fo2_0.ext E1
  have fo2_1 := fo2_1.ext E1
  have fo2_2 := fo2_2.ext E1
  have fo2_3 := fo2_3.ext E1
  have fo2_4 := fo2_4.ext E1
  have fo2_5 := fo2_5.ext E1
  have fo2_6 := fo2_6.ext E1
  have fo2_7 := fo2_7.ext E1
  have xo1 := xo1.ext E1
  have fo1_6 := fo1_6.ext E1
  have fo1_7 := fo1_7.ext E1
  refine Wk.ldcS (q := 176) (n := 4) (w_41 hw) (own_wS hw) at_174 rfl (by decide) (by decide) (by decide) (by decide) ?_
  intro h1 t5 E1
  have hn := Nat.le_trans hn E1.1
  have hm := Nat.le_trans hm E1.1
  have Ls := Ls.ext E1
  have Lf := Lf.ext E1
  have L18 := L18.ext E1
  have L19 := L19.ext E1
  have L20 := L20.ext E1
  have xo2 := xo2.ext E1
  have fo2_0 := fo2_0.ext E1
  have fo2_1 := fo2_1.ext E1
  have fo2_2 := fo2_2.ext E1
  have fo2_3 := fo2_3.ext E1
  have fo2_4 := fo2_4.ext E1
  have fo2_5 := fo2_5.ext E1
  have fo2_6 := fo2_6.ext E1
  have fo2_7 := fo2_7.ext E1
  have xo1 := xo1.ext E1
  have fo1_6 := fo1_6.ext E1
  have fo1_7 := fo1_7.ext E1
  refine Wk.ldcS (q := 178) (n := 4) (w_12 hw) (own_wS hw) at_176 rfl (by decide) (by decide) (by decide) (by decide) ?_
  intro h1 t6 E1
  have hn := Nat.le_trans hn E1.1
  have hm := Nat.le_trans hm E1.1
  have Ls := Ls.ext E1
  have Lf := Lf.ext E1
  have L18 := L18.ext E1
  have L19 := L19.ext E1
  have L20 := L20.ext E1
  have xo2 := xo2.ext E1
  have fo2_0 := fo2_0.ext E1
  have fo2_1 := fo2_1.ext E1
  have fo2_2 := fo2_2.ext E1
  have fo2_3 := fo2_3.ext E1
  have fo2_4 := fo2_4.ext E1
  have fo2_5 := fo2_5.ext E1
  have fo2_6 := fo2_6.ext E1
  have fo2_7 := fo2_7.ext E1
  have xo1 := xo1.ext E1
  have fo1_6 := fo1_6.ext E1
  have fo1_7 := fo1_7.ext E1
  refine Wk.null (q := 179) at_178 rfl ?_
  refine Wk.null (q := 180) at_179 rfl ?_
  refine Wk.null (q := 181) at_180 rfl ?_
  refine Wk.null (q := 182) at_181 rfl ?_
  refine Wk.null (q := 183) at_182 rfl ?_
  refine Wk.special (q := 186) (a := o2) (argsL := [(.ref t4), (.ref t5), (.ref t6), .null, .null, .null, .null, .null]) (rest := [(.ref o2)]) (rm := (⟨2, 0, 0, 24⟩ : Room)) (Q' := fun h' => Keep _ h' [o2] ∧ Exa Z h' o2 "com/example/annals/annals/storage/TypedColumn" ∧ Fld Z h' o2 "com/example/annals/annals/storage/TypedColumn" "scale" "Ljava/lang/Long;" .null ∧ Fld Z h' o2 "com/example/annals/annals/storage/TypedColumn" "fraction" "Ljava/lang/Long;" .null) (m_tc hw (.ref t4) (.ref t5) (.ref t6) .null .null .null .null .null rfl rfl rfl rfl rfl rfl rfl rfl geo2 xo2 fo2_0 fo2_1 fo2_2 fo2_3 fo2_4 fo2_5 fo2_6 fo2_7) rfl (w_13 hw) (w_14 hw) (w_15 hw) (w_2 hw) (by decide) pd_4 rfl rfl rfl at_183 rfl (W := 1) rfl (by decide) (by decide) (by decide) (by decide) ?_
  rintro h2 ⟨K2, xo2, fo2_6, fo2_7⟩
  have hn := Nat.le_trans hn K2.1
  have hm := Nat.le_trans hm K2.1
  have Ls := Ls.keep K2 (allS gmo2 all0)
  have Lf := Lf.keep K2 (allS gmo2 all0)
  have L18 := L18.keep K2 (allS gmo2 all0)
  have L19 := L19.keep K2 (allS gmo2 all0)
  have L20 := L20.keep K2 (allS gmo2 all0)
  have xo1 := xo1.keep K2
  have fo1_6 := fo1_6.keep K2 (ninS ne_o1_o2 nin0)
  have fo1_7 := fo1_7.keep K2 (ninS ne_o1_o2 nin0)
  refine Wk.astore (q := 188) (ls' := #[.val (.int p0), .val (.long p1), .second, .val (.long p2), .second, .val (.long p3), .second, .val (.long p4), .second, .val (.long p5), .second, .val (.int (1 : Int32)), .val (.int (1 : Int32)), .val (.int z13), .val (.int z14), .val (.int z15), .val (.ref as), .val (.ref af), .val u18, .val u19, .val u20, .val (.ref o1), .val (.ref o2), .unset, .unset, .unset, .unset, .unset]) at_186 rfl rfl rfl ?_
  refine Wk.new (q := 191) (w_0 hw) (w_1 hw) (w_2 hw) at_188 rfl (by decide) (by decide) ?_
  intro h1 o3 go3 E1 xo3 D1
  have geo3 : n0 ≤ o3 := go3 ▸ hn
  have gmo3 : n1 ≤ o3 := go3 ▸ hm
  have ne_o1_o3 : o1 ≠ o3 := Nat.ne_of_lt (Nat.lt_of_lt_of_eq xo1.lt go3.symm)
  have ne_o2_o3 : o2 ≠ o3 := Nat.ne_of_lt (Nat.lt_of_lt_of_eq xo2.lt go3.symm)
  have hn := Nat.le_trans hn E1.1
  have hm := Nat.le_trans hm E1.1
  have Ls := Ls.ext E1
  have Lf := Lf.ext E1
  have L18 := L18.ext E1
  have L19 := L19.ext E1
  have L20 := L20.ext E1
  have xo1 := xo1.ext E1
  have fo1_6 := fo1_6.ext E1
  have fo1_7 := fo1_7.ext E1
  have xo2 := xo2.ext E1
  have fo2_6 := fo2_6.ext E1
  have fo2_7 := fo2_7.ext E1
  have fo3_0 : Fld Z h1 o3 "com/example/annals/annals/storage/TypedColumn" "name" "Ljava/lang/String;" .null := D1 (Or.inr (w_25 hw)) (ty := (.object "java/lang/String")) (by decide)
  have fo3_1 : Fld Z h1 o3 "com/example/annals/annals/storage/TypedColumn" "type" "Ljava/lang/String;" .null := D1 (Or.inr (w_27 hw)) (ty := (.object "java/lang/String")) (by decide)
  have fo3_2 : Fld Z h1 o3 "com/example/annals/annals/storage/TypedColumn" "kind" "Ljava/lang/String;" .null := D1 (Or.inr (w_29 hw)) (ty := (.object "java/lang/String")) (by decide)
  have fo3_3 : Fld Z h1 o3 "com/example/annals/annals/storage/TypedColumn" "length" "Ljava/lang/Long;" .null := D1 (Or.inr (w_31 hw)) (ty := (.object "java/lang/Long")) (by decide)
  have fo3_4 : Fld Z h1 o3 "com/example/annals/annals/storage/TypedColumn" "precision" "Ljava/lang/Long;" .null := D1 (Or.inr (w_33 hw)) (ty := (.object "java/lang/Long")) (by decide)
  have fo3_5 : Fld Z h1 o3 "com/example/annals/annals/storage/TypedColumn" "radix" "Ljava/lang/Long;" .null := D1 (Or.inr (w_35 hw)) (ty := (.object "java/lang/Long")) (by decide)
  have fo3_6 : Fld Z h1 o3 "com/example/annals/annals/storage/TypedColumn" "scale" "Ljava/lang/Long;" .null := D1 (Or.inr (w_37 hw)) (ty := (.object "java/lang/Long")) (by decide)
  have fo3_7 : Fld Z h1 o3 "com/example/annals/annals/storage/TypedColumn" "fraction" "Ljava/lang/Long;" .null := D1 (Or.inr (w_39 hw)) (ty := (.object "java/lang/Long")) (by decide)
  refine Wk.dup (q := 192) at_191 rfl rfl ?_
  refine Wk.ldcS (q := 194) (n := 4) (w_42 hw) (own_wS hw) at_192 rfl (by decide) (by decide) (by decide) (by decide) ?_
  intro h1 t7 E1
  have hn := Nat.le_trans hn E1.1
  have hm := Nat.le_trans hm E1.1
  have Ls := Ls.ext E1
  have Lf := Lf.ext E1
  have L18 := L18.ext E1
  have L19 := L19.ext E1
  have L20 := L20.ext E1
  have xo3 := xo3.ext E1
  have fo3_0 := fo3_0.ext E1
  have fo3_1 := fo3_1.ext E1
  have fo3_2 := fo3_2.ext E1
  have fo3_3 := fo3_3.ext E1
  have fo3_4 := fo3_4.ext E1
  have fo3_5 := fo3_5.ext E1
  have fo3_6 := fo3_6.ext E1
  have fo3_7 := fo3_7.ext E1
  have xo1 := xo1.ext E1
  have fo1_6 := fo1_6.ext E1
  have fo1_7 := fo1_7.ext E1
  have xo2 := xo2.ext E1
  have fo2_6 := fo2_6.ext E1
  have fo2_7 := fo2_7.ext E1
  refine Wk.ldcS (q := 196) (n := 4) (w_43 hw) (own_wS hw) at_194 rfl (by decide) (by decide) (by decide) (by decide) ?_
  intro h1 t8 E1
  have hn := Nat.le_trans hn E1.1
  have hm := Nat.le_trans hm E1.1
  have Ls := Ls.ext E1
  have Lf := Lf.ext E1
  have L18 := L18.ext E1
  have L19 := L19.ext E1
  have L20 := L20.ext E1
  have xo3 := xo3.ext E1
  have fo3_0 := fo3_0.ext E1
  have fo3_1 := fo3_1.ext E1
  have fo3_2 := fo3_2.ext E1
  have fo3_3 := fo3_3.ext E1
  have fo3_4 := fo3_4.ext E1
  have fo3_5 := fo3_5.ext E1
  have fo3_6 := fo3_6.ext E1
  have fo3_7 := fo3_7.ext E1
  have xo1 := xo1.ext E1
  have fo1_6 := fo1_6.ext E1
  have fo1_7 := fo1_7.ext E1
  have xo2 := xo2.ext E1
  have fo2_6 := fo2_6.ext E1
  have fo2_7 := fo2_7.ext E1
  refine Wk.ldcS (q := 198) (n := 4) (w_12 hw) (own_wS hw) at_196 rfl (by decide) (by decide) (by decide) (by decide) ?_
  intro h1 t9 E1
  have hn := Nat.le_trans hn E1.1
  have hm := Nat.le_trans hm E1.1
  have Ls := Ls.ext E1
  have Lf := Lf.ext E1
  have L18 := L18.ext E1
  have L19 := L19.ext E1
  have L20 := L20.ext E1
  have xo3 := xo3.ext E1
  have fo3_0 := fo3_0.ext E1
  have fo3_1 := fo3_1.ext E1
  have fo3_2 := fo3_2.ext E1
  have fo3_3 := fo3_3.ext E1
  have fo3_4 := fo3_4.ext E1
  have fo3_5 := fo3_5.ext E1
  have fo3_6 := fo3_6.ext E1
  have fo3_7 := fo3_7.ext E1
  have xo1 := xo1.ext E1
  have fo1_6 := fo1_6.ext E1
  have fo1_7 := fo1_7.ext E1
  have xo2 := xo2.ext E1
  have fo2_6 := fo2_6.ext E1
  have fo2_7 := fo2_7.ext E1
  refine Wk.null (q := 199) at_198 rfl ?_
  refine Wk.null (q := 200) at_199 rfl ?_
  refine Wk.null (q := 201) at_200 rfl ?_
  refine Wk.aload (q := 203) at_201 rfl rfl L19.isRef ?_
  refine Wk.aload (q := 205) at_203 rfl rfl L20.isRef ?_
  refine Wk.special (q := 208) (a := o3) (argsL := [(.ref t7), (.ref t8), (.ref t9), .null, .null, .null, u19, u20]) (rest := [(.ref o3)]) (rm := (⟨2, 0, 0, 24⟩ : Room)) (Q' := fun h' => Keep _ h' [o3] ∧ Exa Z h' o3 "com/example/annals/annals/storage/TypedColumn" ∧ Fld Z h' o3 "com/example/annals/annals/storage/TypedColumn" "scale" "Ljava/lang/Long;" u19 ∧ Fld Z h' o3 "com/example/annals/annals/storage/TypedColumn" "fraction" "Ljava/lang/Long;" u20) (m_tc hw (.ref t7) (.ref t8) (.ref t9) .null .null .null u19 u20 rfl rfl rfl rfl rfl rfl L19.isRef L20.isRef geo3 xo3 fo3_0 fo3_1 fo3_2 fo3_3 fo3_4 fo3_5 fo3_6 fo3_7) rfl (w_13 hw) (w_14 hw) (w_15 hw) (w_2 hw) (by decide) pd_4 rfl rfl rfl at_205 rfl (W := 1) rfl (by decide) (by decide) (by decide) (by decide) ?_
  rintro h2 ⟨K2, xo3, fo3_6, fo3_7⟩
  have hn := Nat.le_trans hn K2.1
  have hm := Nat.le_trans hm K2.1
  have Ls := Ls.keep K2 (allS gmo3 all0)
  have Lf := Lf.keep K2 (allS gmo3 all0)
  have L18 := L18.keep K2 (allS gmo3 all0)
  have L19 := L19.keep K2 (allS gmo3 all0)
  have L20 := L20.keep K2 (allS gmo3 all0)
  have xo1 := xo1.keep K2
  have fo1_6 := fo1_6.keep K2 (ninS ne_o1_o3 nin0)
  have fo1_7 := fo1_7.keep K2 (ninS ne_o1_o3 nin0)
  have xo2 := xo2.keep K2
  have fo2_6 := fo2_6.keep K2 (ninS ne_o2_o3 nin0)
  have fo2_7 := fo2_7.keep K2 (ninS ne_o2_o3 nin0)
  refine Wk.astore (q := 210) (ls' := #[.val (.int p0), .val (.long p1), .second, .val (.long p2), .second, .val (.long p3), .second, .val (.long p4), .second, .val (.long p5), .second, .val (.int (1 : Int32)), .val (.int (1 : Int32)), .val (.int z13), .val (.int z14), .val (.int z15), .val (.ref as), .val (.ref af), .val u18, .val u19, .val u20, .val (.ref o1), .val (.ref o2), .val (.ref o3), .unset, .unset, .unset, .unset]) at_208 rfl rfl rfl ?_
  refine Wk.aload (q := 212) at_210 rfl rfl rfl ?_
  obtain ⟨as, xs, hs1, -, es, gs⟩ := own_lr Ls
  cases hs1
  obtain ⟨af, xf, hf1, -, ef, gf⟩ := own_lr Lf
  cases hf1
  refine Wk.callV1 (a := o1) (q := 215) (argsL := []) (rest := []) (fr := 0) (lo := 0) (v0 := (.int (1 : Int32))) (m_rs_rr hw fo1_6 fo1_7) xo1 (w_44 hw) (w_45 hw) (w_47 hw) (w_46 hw) (w_48 hw) (w_2 hw) (by decide) pd_5 rfl rfl rfl at_212 rfl (W := 0) rfl (by decide) (by decide) (by decide) (by decide) ?_
  refine Wk.istore (q := 217) (ls' := #[.val (.int p0), .val (.long p1), .second, .val (.long p2), .second, .val (.long p3), .second, .val (.long p4), .second, .val (.long p5), .second, .val (.int (1 : Int32)), .val (.int (1 : Int32)), .val (.int z13), .val (.int z14), .val (.int z15), .val (.ref as), .val (.ref af), .val u18, .val u19, .val u20, .val (.ref o1), .val (.ref o2), .val (.ref o3), .val (.int (1 : Int32)), .unset, .unset, .unset]) at_215 rfl rfl ?_
  refine Wk.aload (q := 219) at_217 rfl rfl rfl ?_
  refine Wk.aload (q := 221) at_219 rfl rfl rfl ?_
  refine Wk.callV1 (a := o1) (q := 224) (argsL := [(.ref o2)]) (rest := []) (fr := 2) (lo := 27) (v0 := (.int (1 : Int32))) (m_rvU_rr hw es gs ef gf fo1_6 fo1_7 fo2_6 fo2_7) xo1 (w_49 hw) (w_50 hw) (w_52 hw) (w_51 hw) (w_53 hw) (w_2 hw) (by decide) pd_6 rfl rfl rfl at_221 rfl (W := 0) rfl (by decide) (by decide) (by decide) (by decide) ?_
  refine Wk.istore (q := 226) (ls' := #[.val (.int p0), .val (.long p1), .second, .val (.long p2), .second, .val (.long p3), .second, .val (.long p4), .second, .val (.long p5), .second, .val (.int (1 : Int32)), .val (.int (1 : Int32)), .val (.int z13), .val (.int z14), .val (.int z15), .val (.ref as), .val (.ref af), .val u18, .val u19, .val u20, .val (.ref o1), .val (.ref o2), .val (.ref o3), .val (.int (1 : Int32)), .val (.int (1 : Int32)), .unset, .unset]) at_224 rfl rfl ?_
  refine Wk.aload (q := 228) at_226 rfl rfl rfl ?_
  refine Wk.aload (q := 230) at_228 rfl rfl rfl ?_
  refine Wk.callV2 (a := o1) (q := 233) (argsL := [(.ref o3)]) (rest := []) (fr := 2) (lo := 27) (P := B01) (m_rvO_rr hw es gs ef gf fo1_6 fo1_7 fo3_6 fo3_7 L19 L20) xo1 (w_49 hw) (w_50 hw) (w_52 hw) (w_51 hw) (w_53 hw) (w_2 hw) (by decide) pd_6 rfl rfl rfl at_230 rfl (W := 0) rfl (by decide) (by decide) (by decide) (by decide) ?_
  rintro _ (rfl | rfl)
  · refine Wk.istore (q := 235) (ls' := #[.val (.int p0), .val (.long p1), .second, .val (.long p2), .second, .val (.long p3), .second, .val (.long p4), .second, .val (.long p5), .second, .val (.int (1 : Int32)), .val (.int (1 : Int32)), .val (.int z13), .val (.int z14), .val (.int z15), .val (.ref as), .val (.ref af), .val u18, .val u19, .val u20, .val (.ref o1), .val (.ref o2), .val (.ref o3), .val (.int (1 : Int32)), .val (.int (1 : Int32)), .val (.int (0 : Int32)), .unset]) at_233 rfl rfl ?_
    refine Wk.iload (q := 237) at_235 rfl rfl ?_
    refine Wk.ifcT (q := 245) at_237 (by decide) rfl (by decide : ¬ (1 : Int32) = (0 : Int32)) ?_
    refine Wk.iconst (q := 246) (v := (1 : Int32)) at_245 rfl rfl ?_
    refine Wk.goto (q := 250) at_246 (by decide) rfl ?_
    refine Wk.istore (q := 252) (ls' := #[.val (.int p0), .val (.long p1), .second, .val (.long p2), .second, .val (.long p3), .second, .val (.long p4), .second, .val (.long p5), .second, .val (.int (1 : Int32)), .val (.int (1 : Int32)), .val (.int z13), .val (.int z14), .val (.int z15), .val (.ref as), .val (.ref af), .val u18, .val u19, .val u20, .val (.ref o1), .val (.ref o2), .val (.ref o3), .val (.int (1 : Int32)), .val (.int (1 : Int32)), .val (.int (0 : Int32)), .val (.int (1 : Int32))]) at_250 rfl rfl ?_
    refine Wk.iload (q := 254) at_252 rfl rfl ?_
    refine Wk.iload (q := 256) at_254 rfl rfl ?_
    refine Wk.icmpF (q := 259) at_256 rfl (by decide : (1 : Int32) = (1 : Int32)) ?_
    refine Wk.iload (q := 261) at_259 rfl rfl ?_
    refine Wk.iload (q := 263) at_261 rfl rfl ?_
    refine Wk.icmpF (q := 266) at_263 rfl (by decide : (1 : Int32) = (1 : Int32)) ?_
    refine Wk.iload (q := 268) at_266 rfl rfl ?_
    refine Wk.ifcT (q := 276) at_268 (by decide) rfl (by decide : ¬ (1 : Int32) = (0 : Int32)) ?_
    refine Wk.iconst (q := 277) (v := (1 : Int32)) at_276 rfl rfl ?_
    refine Wk.goto (q := 281) at_277 (by decide) rfl ?_
    exact Wk.retZ rfl rfl at_281 (by decide) (by decide) rfl
  · refine Wk.istore (q := 235) (ls' := #[.val (.int p0), .val (.long p1), .second, .val (.long p2), .second, .val (.long p3), .second, .val (.long p4), .second, .val (.long p5), .second, .val (.int (1 : Int32)), .val (.int (1 : Int32)), .val (.int z13), .val (.int z14), .val (.int z15), .val (.ref as), .val (.ref af), .val u18, .val u19, .val u20, .val (.ref o1), .val (.ref o2), .val (.ref o3), .val (.int (1 : Int32)), .val (.int (1 : Int32)), .val (.int (1 : Int32)), .unset]) at_233 rfl rfl ?_
    refine Wk.iload (q := 237) at_235 rfl rfl ?_
    refine Wk.ifcT (q := 245) at_237 (by decide) rfl (by decide : ¬ (1 : Int32) = (0 : Int32)) ?_
    refine Wk.iconst (q := 246) (v := (1 : Int32)) at_245 rfl rfl ?_
    refine Wk.goto (q := 250) at_246 (by decide) rfl ?_
    refine Wk.istore (q := 252) (ls' := #[.val (.int p0), .val (.long p1), .second, .val (.long p2), .second, .val (.long p3), .second, .val (.long p4), .second, .val (.long p5), .second, .val (.int (1 : Int32)), .val (.int (1 : Int32)), .val (.int z13), .val (.int z14), .val (.int z15), .val (.ref as), .val (.ref af), .val u18, .val u19, .val u20, .val (.ref o1), .val (.ref o2), .val (.ref o3), .val (.int (1 : Int32)), .val (.int (1 : Int32)), .val (.int (1 : Int32)), .val (.int (1 : Int32))]) at_250 rfl rfl ?_
    refine Wk.iload (q := 254) at_252 rfl rfl ?_
    refine Wk.iload (q := 256) at_254 rfl rfl ?_
    refine Wk.icmpF (q := 259) at_256 rfl (by decide : (1 : Int32) = (1 : Int32)) ?_
    refine Wk.iload (q := 261) at_259 rfl rfl ?_
    refine Wk.iload (q := 263) at_261 rfl rfl ?_
    refine Wk.icmpF (q := 266) at_263 rfl (by decide : (1 : Int32) = (1 : Int32)) ?_
    refine Wk.iload (q := 268) at_266 rfl rfl ?_
    refine Wk.ifcT (q := 276) at_268 (by decide) rfl (by decide : ¬ (1 : Int32) = (0 : Int32)) ?_
    refine Wk.iconst (q := 277) (v := (1 : Int32)) at_276 rfl rfl ?_
    refine Wk.goto (q := 281) at_277 (by decide) rfl ?_
    exact Wk.retZ rfl rfl at_281 (by decide) (by decide) rfl
theorem Wk.more {l : Launch} {Z : State} {n0 : Nat} {own nm : String} {bytes : ByteArray} {maxL : Nat} {ret : Option FieldType} {R : Room} {kc ks : Nat} {wd : Bool} {Q : Option Value → Heap → Prop} {h : Heap} {cl sl cl' sl' pc : Nat} {ls : Array Slot} {st : List Value} (h1 : cl ≤ cl') (h2 : sl ≤ sl') (k : Wk l Z n0 own nm bytes maxL ret R kc ks wd Q h cl' sl' pc ls st) : Wk l Z n0 own nm bytes maxL ret R kc ks wd Q h cl sl pc ls st :=
  fun p e s0 s m args below meth c T locs k0 hx hby hml hown hnm hret hlk hZ B hk X eT N => k p e s0 s m args below meth c T locs k0 hx hby hml hown hnm hret hlk hZ B hk (X.more h1 h2) eT N
set_option maxRecDepth 65536 in
set_option maxHeartbeats 40000000 in
theorem law_all {l : Launch} {Z : State} {a0 : Array Value} {n0 : Nat} {a_C : Addr} {c_C : Cell} (hw : ∀ d ∈ tables_1, d.before a0 Z = true) (F0 : OwnF Z Z.heap a_C c_C) (O : Old Z n0 Z.heap) (p0 : Int32) (p1 p2 p3 p4 p5 : Int64) : MetW l Z n0 x code maxLocals ret room_1 #[(.int p0), (.long p1), (.long p2), (.long p3), (.long p4), (.long p5)] Z.heap (fun v _ => v = some (.int (1 : Int32))) := by
  refine MetW.of_wk (ls := #[.val (.int p0), .val (.long p1), .second, .val (.long p2), .second, .val (.long p3), .second, .val (.long p4), .second, .val (.long p5), .second, .unset, .unset, .unset, .unset, .unset, .unset, .unset, .unset, .unset, .unset, .unset, .unset, .unset, .unset, .unset, .unset, .unset]) (plainFor_of_name pn_4) (fun m => ef_5 m p0 p1 p2 p3 p4 p5) ?_
  show Wk l Z n0 "com/example/annals/annals/storage/TypedColumnRoundsSomeValuesPinLaw" "law" code maxLocals ret room_1 40 7360 true (fun v _ => v = some (.int (1 : Int32))) Z.heap 0 0 0 #[.val (.int p0), .val (.long p1), .second, .val (.long p2), .second, .val (.long p3), .second, .val (.long p4), .second, .val (.long p5), .second, .unset, .unset, .unset, .unset, .unset, .unset, .unset, .unset, .unset, .unset, .unset, .unset, .unset, .unset, .unset, .unset, .unset] []
  have F := F0
  refine Wk.iloadN (q := 1) at_0 rfl rfl ?_
  refine Wk.iconst (q := 2) (v := (1 : Int32)) at_1 rfl rfl ?_
  refine Wk.iand (q := 3) (v := (p0 &&& (1 : Int32))) at_2 rfl rfl ?_
  refine Wk.ifc (q := 10) (q' := 6) at_3 (by decide) rfl rfl (fun (h1 : (p0 &&& (1 : Int32)) = (0 : Int32)) => ?_) (fun (h1 : ¬ (p0 &&& (1 : Int32)) = (0 : Int32)) => ?_)
  · refine Wk.iconst (q := 11) (v := (0 : Int32)) at_10 rfl rfl ?_
    refine Wk.istore (q := 13) (ls' := #[.val (.int p0), .val (.long p1), .second, .val (.long p2), .second, .val (.long p3), .second, .val (.long p4), .second, .val (.long p5), .second, .val (.int (0 : Int32)), .unset, .unset, .unset, .unset, .unset, .unset, .unset, .unset, .unset, .unset, .unset, .unset, .unset, .unset, .unset, .unset]) at_11 rfl rfl ?_
    refine Wk.iloadN (q := 14) at_13 rfl rfl ?_
    refine Wk.iconst (q := 15) (v := (2 : Int32)) at_14 rfl rfl ?_
    refine Wk.iand (q := 16) (v := (p0 &&& (2 : Int32))) at_15 rfl rfl ?_
    refine Wk.ifc (q := 23) (q' := 19) at_16 (by decide) rfl rfl (fun (h2 : (p0 &&& (2 : Int32)) = (0 : Int32)) => ?_) (fun (h2 : ¬ (p0 &&& (2 : Int32)) = (0 : Int32)) => ?_)
    · refine Wk.iconst (q := 24) (v := (0 : Int32)) at_23 rfl rfl ?_
      refine Wk.istore (q := 26) (ls' := #[.val (.int p0), .val (.long p1), .second, .val (.long p2), .second, .val (.long p3), .second, .val (.long p4), .second, .val (.long p5), .second, .val (.int (0 : Int32)), .val (.int (0 : Int32)), .unset, .unset, .unset, .unset, .unset, .unset, .unset, .unset, .unset, .unset, .unset, .unset, .unset, .unset, .unset]) at_24 rfl rfl ?_
      refine Wk.iloadN (q := 27) at_26 rfl rfl ?_
      refine Wk.iconst (q := 28) (v := (4 : Int32)) at_27 rfl rfl ?_
      refine Wk.iand (q := 29) (v := (p0 &&& (4 : Int32))) at_28 rfl rfl ?_
      refine Wk.ifc (q := 36) (q' := 32) at_29 (by decide) rfl rfl (fun (h3 : (p0 &&& (4 : Int32)) = (0 : Int32)) => ?_) (fun (h3 : ¬ (p0 &&& (4 : Int32)) = (0 : Int32)) => ?_)
      · refine Wk.iconst (q := 37) (v := (0 : Int32)) at_36 rfl rfl ?_
        refine Wk.istore (q := 39) (ls' := #[.val (.int p0), .val (.long p1), .second, .val (.long p2), .second, .val (.long p3), .second, .val (.long p4), .second, .val (.long p5), .second, .val (.int (0 : Int32)), .val (.int (0 : Int32)), .val (.int (0 : Int32)), .unset, .unset, .unset, .unset, .unset, .unset, .unset, .unset, .unset, .unset, .unset, .unset, .unset, .unset]) at_37 rfl rfl ?_
        refine Wk.iloadN (q := 40) at_39 rfl rfl ?_
        refine Wk.bipush (q := 42) (v := (8 : Int32)) at_40 rfl rfl ?_
        refine Wk.iand (q := 43) (v := (p0 &&& (8 : Int32))) at_42 rfl rfl ?_
        refine Wk.ifc (q := 50) (q' := 46) at_43 (by decide) rfl rfl (fun (h4 : (p0 &&& (8 : Int32)) = (0 : Int32)) => ?_) (fun (h4 : ¬ (p0 &&& (8 : Int32)) = (0 : Int32)) => ?_)
        · refine Wk.iconst (q := 51) (v := (0 : Int32)) at_50 rfl rfl ?_
          refine Wk.istore (q := 53) (ls' := #[.val (.int p0), .val (.long p1), .second, .val (.long p2), .second, .val (.long p3), .second, .val (.long p4), .second, .val (.long p5), .second, .val (.int (0 : Int32)), .val (.int (0 : Int32)), .val (.int (0 : Int32)), .val (.int (0 : Int32)), .unset, .unset, .unset, .unset, .unset, .unset, .unset, .unset, .unset, .unset, .unset, .unset, .unset]) at_51 rfl rfl ?_
          refine Wk.iloadN (q := 54) at_53 rfl rfl ?_
          refine Wk.bipush (q := 56) (v := (16 : Int32)) at_54 rfl rfl ?_
          refine Wk.iand (q := 57) (v := (p0 &&& (16 : Int32))) at_56 rfl rfl ?_
          refine Wk.ifc (q := 64) (q' := 60) at_57 (by decide) rfl rfl (fun (h5 : (p0 &&& (16 : Int32)) = (0 : Int32)) => ?_) (fun (h5 : ¬ (p0 &&& (16 : Int32)) = (0 : Int32)) => ?_)
          · refine Wk.iconst (q := 65) (v := (0 : Int32)) at_64 rfl rfl ?_
            refine Wk.istore (q := 67) (ls' := #[.val (.int p0), .val (.long p1), .second, .val (.long p2), .second, .val (.long p3), .second, .val (.long p4), .second, .val (.long p5), .second, .val (.int (0 : Int32)), .val (.int (0 : Int32)), .val (.int (0 : Int32)), .val (.int (0 : Int32)), .val (.int (0 : Int32)), .unset, .unset, .unset, .unset, .unset, .unset, .unset, .unset, .unset, .unset, .unset, .unset]) at_65 rfl rfl ?_
            refine Wk.iload (q := 69) at_67 rfl rfl ?_
            refine Wk.ifcT (q := 79) at_69 (by decide) rfl (by decide : (0 : Int32) = (0 : Int32)) ?_
            refine Wk.null (q := 80) at_79 rfl ?_
            refine Wk.astore (q := 82) (ls' := #[.val (.int p0), .val (.long p1), .second, .val (.long p2), .second, .val (.long p3), .second, .val (.long p4), .second, .val (.long p5), .second, .val (.int (0 : Int32)), .val (.int (0 : Int32)), .val (.int (0 : Int32)), .val (.int (0 : Int32)), .val (.int (0 : Int32)), .val .null, .unset, .unset, .unset, .unset, .unset, .unset, .unset, .unset, .unset, .unset, .unset]) at_80 rfl rfl rfl ?_
            refine Wk.iload (q := 84) at_82 rfl rfl ?_
            refine Wk.ifcT (q := 94) at_84 (by decide) rfl (by decide : (0 : Int32) = (0 : Int32)) ?_
            refine Wk.null (q := 95) at_94 rfl ?_
            refine Wk.astore (q := 97) (ls' := #[.val (.int p0), .val (.long p1), .second, .val (.long p2), .second, .val (.long p3), .second, .val (.long p4), .second, .val (.long p5), .second, .val (.int (0 : Int32)), .val (.int (0 : Int32)), .val (.int (0 : Int32)), .val (.int (0 : Int32)), .val (.int (0 : Int32)), .val .null, .val .null, .unset, .unset, .unset, .unset, .unset, .unset, .unset, .unset, .unset, .unset]) at_95 rfl rfl rfl ?_
            refine Wk.iload (q := 99) at_97 rfl rfl ?_
            refine Wk.ifcT (q := 110) at_99 (by decide) rfl (by decide : (0 : Int32) = (0 : Int32)) ?_
            refine Wk.null (q := 111) at_110 rfl ?_
            refine Wk.astore (q := 113) (ls' := #[.val (.int p0), .val (.long p1), .second, .val (.long p2), .second, .val (.long p3), .second, .val (.long p4), .second, .val (.long p5), .second, .val (.int (0 : Int32)), .val (.int (0 : Int32)), .val (.int (0 : Int32)), .val (.int (0 : Int32)), .val (.int (0 : Int32)), .val .null, .val .null, .val .null, .unset, .unset, .unset, .unset, .unset, .unset, .unset, .unset, .unset]) at_111 rfl rfl rfl ?_
            refine Wk.iload (q := 115) at_113 rfl rfl ?_
            refine Wk.ifcT (q := 126) at_115 (by decide) rfl (by decide : (0 : Int32) = (0 : Int32)) ?_
            refine Wk.null (q := 127) at_126 rfl ?_
            refine Wk.astore (q := 129) (ls' := #[.val (.int p0), .val (.long p1), .second, .val (.long p2), .second, .val (.long p3), .second, .val (.long p4), .second, .val (.long p5), .second, .val (.int (0 : Int32)), .val (.int (0 : Int32)), .val (.int (0 : Int32)), .val (.int (0 : Int32)), .val (.int (0 : Int32)), .val .null, .val .null, .val .null, .val .null, .unset, .unset, .unset, .unset, .unset, .unset, .unset, .unset]) at_127 rfl rfl rfl ?_
            refine Wk.iload (q := 131) at_129 rfl rfl ?_
            refine Wk.ifcT (q := 142) at_131 (by decide) rfl (by decide : (0 : Int32) = (0 : Int32)) ?_
            refine Wk.null (q := 143) at_142 rfl ?_
            refine Wk.astore (q := 145) (ls' := #[.val (.int p0), .val (.long p1), .second, .val (.long p2), .second, .val (.long p3), .second, .val (.long p4), .second, .val (.long p5), .second, .val (.int (0 : Int32)), .val (.int (0 : Int32)), .val (.int (0 : Int32)), .val (.int (0 : Int32)), .val (.int (0 : Int32)), .val .null, .val .null, .val .null, .val .null, .val .null, .unset, .unset, .unset, .unset, .unset, .unset, .unset]) at_143 rfl rfl rfl ?_
            refine Wk.more (cl' := 5) (sl' := 5) (by decide) (by decide) ?_
            exact t145_nn hw (own_ge O) (Nat.le_refl _) p0 p1 p2 p3 p4 p5 (0 : Int32) (0 : Int32) (0 : Int32) (Or.inl rfl) (Or.inl rfl) (Or.inl rfl)
          · refine Wk.iconst (q := 61) (v := (1 : Int32)) at_60 rfl rfl ?_
            refine Wk.goto (q := 65) at_61 (by decide) rfl ?_
            refine Wk.istore (q := 67) (ls' := #[.val (.int p0), .val (.long p1), .second, .val (.long p2), .second, .val (.long p3), .second, .val (.long p4), .second, .val (.long p5), .second, .val (.int (0 : Int32)), .val (.int (0 : Int32)), .val (.int (0 : Int32)), .val (.int (0 : Int32)), .val (.int (1 : Int32)), .unset, .unset, .unset, .unset, .unset, .unset, .unset, .unset, .unset, .unset, .unset, .unset]) at_65 rfl rfl ?_
            refine Wk.iload (q := 69) at_67 rfl rfl ?_
            refine Wk.ifcT (q := 79) at_69 (by decide) rfl (by decide : (0 : Int32) = (0 : Int32)) ?_
            refine Wk.null (q := 80) at_79 rfl ?_
            refine Wk.astore (q := 82) (ls' := #[.val (.int p0), .val (.long p1), .second, .val (.long p2), .second, .val (.long p3), .second, .val (.long p4), .second, .val (.long p5), .second, .val (.int (0 : Int32)), .val (.int (0 : Int32)), .val (.int (0 : Int32)), .val (.int (0 : Int32)), .val (.int (1 : Int32)), .val .null, .unset, .unset, .unset, .unset, .unset, .unset, .unset, .unset, .unset, .unset, .unset]) at_80 rfl rfl rfl ?_
            refine Wk.iload (q := 84) at_82 rfl rfl ?_
            refine Wk.ifcT (q := 94) at_84 (by decide) rfl (by decide : (0 : Int32) = (0 : Int32)) ?_
            refine Wk.null (q := 95) at_94 rfl ?_
            refine Wk.astore (q := 97) (ls' := #[.val (.int p0), .val (.long p1), .second, .val (.long p2), .second, .val (.long p3), .second, .val (.long p4), .second, .val (.long p5), .second, .val (.int (0 : Int32)), .val (.int (0 : Int32)), .val (.int (0 : Int32)), .val (.int (0 : Int32)), .val (.int (1 : Int32)), .val .null, .val .null, .unset, .unset, .unset, .unset, .unset, .unset, .unset, .unset, .unset, .unset]) at_95 rfl rfl rfl ?_
            refine Wk.iload (q := 99) at_97 rfl rfl ?_
            refine Wk.ifcF (q := 102) at_99 rfl (by decide : ¬ (1 : Int32) = (0 : Int32)) ?_
            refine Wk.lload (q := 104) at_102 rfl rfl ?_
            refine Wk.callS (q := 107) (argsL := [(.long p5)]) (rest := []) (rm := (⟨3, 1, 1, 39⟩ : Room)) (Q' := fun w h' => ∃ b x, w = .ref b ∧ Exa Z h' b "java/lang/Long" ∧ Fld Z h' b "java/lang/Long" "value" "J" (.long x) ∧ Keep _ h' []) (m_val hw F (own_ge O) p5) (w_54 hw) (w_55 hw) (w_56 hw) (w_57 hw) (by decide) pd_7 rfl rfl rfl at_104 rfl (W := 0) rfl (by decide) (by decide) (by decide) (by decide) ?_
            rintro _ h2 ⟨b1, y1, rfl, x1, g1, K2⟩
            have O := O.keep K2 all0
            have F := F0.ext O.2
            have L_b1 : LN Z h2 h2.size (.ref b1) := Or.inr ⟨b1, y1, rfl, x1.lt, x1, g1⟩
            refine Wk.goto (q := 111) at_107 (by decide) rfl ?_
            refine Wk.astore (q := 113) (ls' := #[.val (.int p0), .val (.long p1), .second, .val (.long p2), .second, .val (.long p3), .second, .val (.long p4), .second, .val (.long p5), .second, .val (.int (0 : Int32)), .val (.int (0 : Int32)), .val (.int (0 : Int32)), .val (.int (0 : Int32)), .val (.int (1 : Int32)), .val .null, .val .null, .val (.ref b1), .unset, .unset, .unset, .unset, .unset, .unset, .unset, .unset, .unset]) at_111 rfl rfl rfl ?_
            refine Wk.iload (q := 115) at_113 rfl rfl ?_
            refine Wk.ifcT (q := 126) at_115 (by decide) rfl (by decide : (0 : Int32) = (0 : Int32)) ?_
            refine Wk.null (q := 127) at_126 rfl ?_
            refine Wk.astore (q := 129) (ls' := #[.val (.int p0), .val (.long p1), .second, .val (.long p2), .second, .val (.long p3), .second, .val (.long p4), .second, .val (.long p5), .second, .val (.int (0 : Int32)), .val (.int (0 : Int32)), .val (.int (0 : Int32)), .val (.int (0 : Int32)), .val (.int (1 : Int32)), .val .null, .val .null, .val (.ref b1), .val .null, .unset, .unset, .unset, .unset, .unset, .unset, .unset, .unset]) at_127 rfl rfl rfl ?_
            refine Wk.iload (q := 131) at_129 rfl rfl ?_
            refine Wk.ifcT (q := 142) at_131 (by decide) rfl (by decide : (0 : Int32) = (0 : Int32)) ?_
            refine Wk.null (q := 143) at_142 rfl ?_
            refine Wk.astore (q := 145) (ls' := #[.val (.int p0), .val (.long p1), .second, .val (.long p2), .second, .val (.long p3), .second, .val (.long p4), .second, .val (.long p5), .second, .val (.int (0 : Int32)), .val (.int (0 : Int32)), .val (.int (0 : Int32)), .val (.int (0 : Int32)), .val (.int (1 : Int32)), .val .null, .val .null, .val (.ref b1), .val .null, .val .null, .unset, .unset, .unset, .unset, .unset, .unset, .unset]) at_143 rfl rfl rfl ?_
            refine Wk.more (cl' := 5) (sl' := 5) (by decide) (by decide) ?_
            exact t145_nn hw (own_ge O) (Nat.le_refl _) p0 p1 p2 p3 p4 p5 (0 : Int32) (0 : Int32) (1 : Int32) L_b1 (Or.inl rfl) (Or.inl rfl)
        · refine Wk.iconst (q := 47) (v := (1 : Int32)) at_46 rfl rfl ?_
          refine Wk.goto (q := 51) at_47 (by decide) rfl ?_
          refine Wk.istore (q := 53) (ls' := #[.val (.int p0), .val (.long p1), .second, .val (.long p2), .second, .val (.long p3), .second, .val (.long p4), .second, .val (.long p5), .second, .val (.int (0 : Int32)), .val (.int (0 : Int32)), .val (.int (0 : Int32)), .val (.int (1 : Int32)), .unset, .unset, .unset, .unset, .unset, .unset, .unset, .unset, .unset, .unset, .unset, .unset, .unset]) at_51 rfl rfl ?_
          refine Wk.iloadN (q := 54) at_53 rfl rfl ?_
          refine Wk.bipush (q := 56) (v := (16 : Int32)) at_54 rfl rfl ?_
          refine Wk.iand (q := 57) (v := (p0 &&& (16 : Int32))) at_56 rfl rfl ?_
          refine Wk.ifc (q := 64) (q' := 60) at_57 (by decide) rfl rfl (fun (h6 : (p0 &&& (16 : Int32)) = (0 : Int32)) => ?_) (fun (h6 : ¬ (p0 &&& (16 : Int32)) = (0 : Int32)) => ?_)
          · refine Wk.iconst (q := 65) (v := (0 : Int32)) at_64 rfl rfl ?_
            refine Wk.istore (q := 67) (ls' := #[.val (.int p0), .val (.long p1), .second, .val (.long p2), .second, .val (.long p3), .second, .val (.long p4), .second, .val (.long p5), .second, .val (.int (0 : Int32)), .val (.int (0 : Int32)), .val (.int (0 : Int32)), .val (.int (1 : Int32)), .val (.int (0 : Int32)), .unset, .unset, .unset, .unset, .unset, .unset, .unset, .unset, .unset, .unset, .unset, .unset]) at_65 rfl rfl ?_
            refine Wk.iload (q := 69) at_67 rfl rfl ?_
            refine Wk.ifcT (q := 79) at_69 (by decide) rfl (by decide : (0 : Int32) = (0 : Int32)) ?_
            refine Wk.null (q := 80) at_79 rfl ?_
            refine Wk.astore (q := 82) (ls' := #[.val (.int p0), .val (.long p1), .second, .val (.long p2), .second, .val (.long p3), .second, .val (.long p4), .second, .val (.long p5), .second, .val (.int (0 : Int32)), .val (.int (0 : Int32)), .val (.int (0 : Int32)), .val (.int (1 : Int32)), .val (.int (0 : Int32)), .val .null, .unset, .unset, .unset, .unset, .unset, .unset, .unset, .unset, .unset, .unset, .unset]) at_80 rfl rfl rfl ?_
            refine Wk.iload (q := 84) at_82 rfl rfl ?_
            refine Wk.ifcT (q := 94) at_84 (by decide) rfl (by decide : (0 : Int32) = (0 : Int32)) ?_
            refine Wk.null (q := 95) at_94 rfl ?_
            refine Wk.astore (q := 97) (ls' := #[.val (.int p0), .val (.long p1), .second, .val (.long p2), .second, .val (.long p3), .second, .val (.long p4), .second, .val (.long p5), .second, .val (.int (0 : Int32)), .val (.int (0 : Int32)), .val (.int (0 : Int32)), .val (.int (1 : Int32)), .val (.int (0 : Int32)), .val .null, .val .null, .unset, .unset, .unset, .unset, .unset, .unset, .unset, .unset, .unset, .unset]) at_95 rfl rfl rfl ?_
            refine Wk.iload (q := 99) at_97 rfl rfl ?_
            refine Wk.ifcT (q := 110) at_99 (by decide) rfl (by decide : (0 : Int32) = (0 : Int32)) ?_
            refine Wk.null (q := 111) at_110 rfl ?_
            refine Wk.astore (q := 113) (ls' := #[.val (.int p0), .val (.long p1), .second, .val (.long p2), .second, .val (.long p3), .second, .val (.long p4), .second, .val (.long p5), .second, .val (.int (0 : Int32)), .val (.int (0 : Int32)), .val (.int (0 : Int32)), .val (.int (1 : Int32)), .val (.int (0 : Int32)), .val .null, .val .null, .val .null, .unset, .unset, .unset, .unset, .unset, .unset, .unset, .unset, .unset]) at_111 rfl rfl rfl ?_
            refine Wk.iload (q := 115) at_113 rfl rfl ?_
            refine Wk.ifcT (q := 126) at_115 (by decide) rfl (by decide : (0 : Int32) = (0 : Int32)) ?_
            refine Wk.null (q := 127) at_126 rfl ?_
            refine Wk.astore (q := 129) (ls' := #[.val (.int p0), .val (.long p1), .second, .val (.long p2), .second, .val (.long p3), .second, .val (.long p4), .second, .val (.long p5), .second, .val (.int (0 : Int32)), .val (.int (0 : Int32)), .val (.int (0 : Int32)), .val (.int (1 : Int32)), .val (.int (0 : Int32)), .val .null, .val .null, .val .null, .val .null, .unset, .unset, .unset, .unset, .unset, .unset, .unset, .unset]) at_127 rfl rfl rfl ?_
            refine Wk.iload (q := 131) at_129 rfl rfl ?_
            refine Wk.ifcF (q := 134) at_131 rfl (by decide : ¬ (1 : Int32) = (0 : Int32)) ?_
            refine Wk.lload (q := 136) at_134 rfl rfl ?_
            refine Wk.callS (q := 139) (argsL := [(.long p4)]) (rest := []) (rm := (⟨3, 1, 1, 39⟩ : Room)) (Q' := fun w h' => ∃ b x, w = .ref b ∧ Exa Z h' b "java/lang/Long" ∧ Fld Z h' b "java/lang/Long" "value" "J" (.long x) ∧ Keep _ h' []) (m_val hw F (own_ge O) p4) (w_54 hw) (w_55 hw) (w_56 hw) (w_57 hw) (by decide) pd_7 rfl rfl rfl at_136 rfl (W := 0) rfl (by decide) (by decide) (by decide) (by decide) ?_
            rintro _ h2 ⟨b1, y1, rfl, x1, g1, K2⟩
            have O := O.keep K2 all0
            have F := F0.ext O.2
            have L_b1 : LN Z h2 h2.size (.ref b1) := Or.inr ⟨b1, y1, rfl, x1.lt, x1, g1⟩
            refine Wk.goto (q := 143) at_139 (by decide) rfl ?_
            refine Wk.astore (q := 145) (ls' := #[.val (.int p0), .val (.long p1), .second, .val (.long p2), .second, .val (.long p3), .second, .val (.long p4), .second, .val (.long p5), .second, .val (.int (0 : Int32)), .val (.int (0 : Int32)), .val (.int (0 : Int32)), .val (.int (1 : Int32)), .val (.int (0 : Int32)), .val .null, .val .null, .val .null, .val .null, .val (.ref b1), .unset, .unset, .unset, .unset, .unset, .unset, .unset]) at_143 rfl rfl rfl ?_
            refine Wk.more (cl' := 5) (sl' := 5) (by decide) (by decide) ?_
            exact t145_nn hw (own_ge O) (Nat.le_refl _) p0 p1 p2 p3 p4 p5 (0 : Int32) (1 : Int32) (0 : Int32) (Or.inl rfl) (Or.inl rfl) L_b1
          · refine Wk.iconst (q := 61) (v := (1 : Int32)) at_60 rfl rfl ?_
            refine Wk.goto (q := 65) at_61 (by decide) rfl ?_
            refine Wk.istore (q := 67) (ls' := #[.val (.int p0), .val (.long p1), .second, .val (.long p2), .second, .val (.long p3), .second, .val (.long p4), .second, .val (.long p5), .second, .val (.int (0 : Int32)), .val (.int (0 : Int32)), .val (.int (0 : Int32)), .val (.int (1 : Int32)), .val (.int (1 : Int32)), .unset, .unset, .unset, .unset, .unset, .unset, .unset, .unset, .unset, .unset, .unset, .unset]) at_65 rfl rfl ?_
            refine Wk.iload (q := 69) at_67 rfl rfl ?_
            refine Wk.ifcT (q := 79) at_69 (by decide) rfl (by decide : (0 : Int32) = (0 : Int32)) ?_
            refine Wk.null (q := 80) at_79 rfl ?_
            refine Wk.astore (q := 82) (ls' := #[.val (.int p0), .val (.long p1), .second, .val (.long p2), .second, .val (.long p3), .second, .val (.long p4), .second, .val (.long p5), .second, .val (.int (0 : Int32)), .val (.int (0 : Int32)), .val (.int (0 : Int32)), .val (.int (1 : Int32)), .val (.int (1 : Int32)), .val .null, .unset, .unset, .unset, .unset, .unset, .unset, .unset, .unset, .unset, .unset, .unset]) at_80 rfl rfl rfl ?_
            refine Wk.iload (q := 84) at_82 rfl rfl ?_
            refine Wk.ifcT (q := 94) at_84 (by decide) rfl (by decide : (0 : Int32) = (0 : Int32)) ?_
            refine Wk.null (q := 95) at_94 rfl ?_
            refine Wk.astore (q := 97) (ls' := #[.val (.int p0), .val (.long p1), .second, .val (.long p2), .second, .val (.long p3), .second, .val (.long p4), .second, .val (.long p5), .second, .val (.int (0 : Int32)), .val (.int (0 : Int32)), .val (.int (0 : Int32)), .val (.int (1 : Int32)), .val (.int (1 : Int32)), .val .null, .val .null, .unset, .unset, .unset, .unset, .unset, .unset, .unset, .unset, .unset, .unset]) at_95 rfl rfl rfl ?_
            refine Wk.iload (q := 99) at_97 rfl rfl ?_
            refine Wk.ifcF (q := 102) at_99 rfl (by decide : ¬ (1 : Int32) = (0 : Int32)) ?_
            refine Wk.lload (q := 104) at_102 rfl rfl ?_
            refine Wk.callS (q := 107) (argsL := [(.long p5)]) (rest := []) (rm := (⟨3, 1, 1, 39⟩ : Room)) (Q' := fun w h' => ∃ b x, w = .ref b ∧ Exa Z h' b "java/lang/Long" ∧ Fld Z h' b "java/lang/Long" "value" "J" (.long x) ∧ Keep _ h' []) (m_val hw F (own_ge O) p5) (w_54 hw) (w_55 hw) (w_56 hw) (w_57 hw) (by decide) pd_7 rfl rfl rfl at_104 rfl (W := 0) rfl (by decide) (by decide) (by decide) (by decide) ?_
            rintro _ h2 ⟨b1, y1, rfl, x1, g1, K2⟩
            have O := O.keep K2 all0
            have F := F0.ext O.2
            have L_b1 : LN Z h2 h2.size (.ref b1) := Or.inr ⟨b1, y1, rfl, x1.lt, x1, g1⟩
            refine Wk.goto (q := 111) at_107 (by decide) rfl ?_
            refine Wk.astore (q := 113) (ls' := #[.val (.int p0), .val (.long p1), .second, .val (.long p2), .second, .val (.long p3), .second, .val (.long p4), .second, .val (.long p5), .second, .val (.int (0 : Int32)), .val (.int (0 : Int32)), .val (.int (0 : Int32)), .val (.int (1 : Int32)), .val (.int (1 : Int32)), .val .null, .val .null, .val (.ref b1), .unset, .unset, .unset, .unset, .unset, .unset, .unset, .unset, .unset]) at_111 rfl rfl rfl ?_
            refine Wk.iload (q := 115) at_113 rfl rfl ?_
            refine Wk.ifcT (q := 126) at_115 (by decide) rfl (by decide : (0 : Int32) = (0 : Int32)) ?_
            refine Wk.null (q := 127) at_126 rfl ?_
            refine Wk.astore (q := 129) (ls' := #[.val (.int p0), .val (.long p1), .second, .val (.long p2), .second, .val (.long p3), .second, .val (.long p4), .second, .val (.long p5), .second, .val (.int (0 : Int32)), .val (.int (0 : Int32)), .val (.int (0 : Int32)), .val (.int (1 : Int32)), .val (.int (1 : Int32)), .val .null, .val .null, .val (.ref b1), .val .null, .unset, .unset, .unset, .unset, .unset, .unset, .unset, .unset]) at_127 rfl rfl rfl ?_
            refine Wk.iload (q := 131) at_129 rfl rfl ?_
            refine Wk.ifcF (q := 134) at_131 rfl (by decide : ¬ (1 : Int32) = (0 : Int32)) ?_
            refine Wk.lload (q := 136) at_134 rfl rfl ?_
            refine Wk.callS (q := 139) (argsL := [(.long p4)]) (rest := []) (rm := (⟨3, 1, 1, 39⟩ : Room)) (Q' := fun w h' => ∃ b x, w = .ref b ∧ Exa Z h' b "java/lang/Long" ∧ Fld Z h' b "java/lang/Long" "value" "J" (.long x) ∧ Keep _ h' []) (m_val hw F (own_ge O) p4) (w_54 hw) (w_55 hw) (w_56 hw) (w_57 hw) (by decide) pd_7 rfl rfl rfl at_136 rfl (W := 0) rfl (by decide) (by decide) (by decide) (by decide) ?_
            rintro _ h2 ⟨b2, y2, rfl, x2, g2, K2⟩
            have L_b1 := (LN.keep L_b1 K2 all0).up K2.1
            have O := O.keep K2 all0
            have F := F0.ext O.2
            have L_b2 : LN Z h2 h2.size (.ref b2) := Or.inr ⟨b2, y2, rfl, x2.lt, x2, g2⟩
            refine Wk.goto (q := 143) at_139 (by decide) rfl ?_
            refine Wk.astore (q := 145) (ls' := #[.val (.int p0), .val (.long p1), .second, .val (.long p2), .second, .val (.long p3), .second, .val (.long p4), .second, .val (.long p5), .second, .val (.int (0 : Int32)), .val (.int (0 : Int32)), .val (.int (0 : Int32)), .val (.int (1 : Int32)), .val (.int (1 : Int32)), .val .null, .val .null, .val (.ref b1), .val .null, .val (.ref b2), .unset, .unset, .unset, .unset, .unset, .unset, .unset]) at_143 rfl rfl rfl ?_
            refine Wk.more (cl' := 5) (sl' := 5) (by decide) (by decide) ?_
            exact t145_nn hw (own_ge O) (Nat.le_refl _) p0 p1 p2 p3 p4 p5 (0 : Int32) (1 : Int32) (1 : Int32) L_b1 (Or.inl rfl) L_b2
      · refine Wk.iconst (q := 33) (v := (1 : Int32)) at_32 rfl rfl ?_
        refine Wk.goto (q := 37) at_33 (by decide) rfl ?_
        refine Wk.istore (q := 39) (ls' := #[.val (.int p0), .val (.long p1), .second, .val (.long p2), .second, .val (.long p3), .second, .val (.long p4), .second, .val (.long p5), .second, .val (.int (0 : Int32)), .val (.int (0 : Int32)), .val (.int (1 : Int32)), .unset, .unset, .unset, .unset, .unset, .unset, .unset, .unset, .unset, .unset, .unset, .unset, .unset, .unset]) at_37 rfl rfl ?_
        refine Wk.iloadN (q := 40) at_39 rfl rfl ?_
        refine Wk.bipush (q := 42) (v := (8 : Int32)) at_40 rfl rfl ?_
        refine Wk.iand (q := 43) (v := (p0 &&& (8 : Int32))) at_42 rfl rfl ?_
        refine Wk.ifc (q := 50) (q' := 46) at_43 (by decide) rfl rfl (fun (h7 : (p0 &&& (8 : Int32)) = (0 : Int32)) => ?_) (fun (h7 : ¬ (p0 &&& (8 : Int32)) = (0 : Int32)) => ?_)
        · refine Wk.iconst (q := 51) (v := (0 : Int32)) at_50 rfl rfl ?_
          refine Wk.istore (q := 53) (ls' := #[.val (.int p0), .val (.long p1), .second, .val (.long p2), .second, .val (.long p3), .second, .val (.long p4), .second, .val (.long p5), .second, .val (.int (0 : Int32)), .val (.int (0 : Int32)), .val (.int (1 : Int32)), .val (.int (0 : Int32)), .unset, .unset, .unset, .unset, .unset, .unset, .unset, .unset, .unset, .unset, .unset, .unset, .unset]) at_51 rfl rfl ?_
          refine Wk.iloadN (q := 54) at_53 rfl rfl ?_
          refine Wk.bipush (q := 56) (v := (16 : Int32)) at_54 rfl rfl ?_
          refine Wk.iand (q := 57) (v := (p0 &&& (16 : Int32))) at_56 rfl rfl ?_
          refine Wk.ifc (q := 64) (q' := 60) at_57 (by decide) rfl rfl (fun (h8 : (p0 &&& (16 : Int32)) = (0 : Int32)) => ?_) (fun (h8 : ¬ (p0 &&& (16 : Int32)) = (0 : Int32)) => ?_)
          · refine Wk.iconst (q := 65) (v := (0 : Int32)) at_64 rfl rfl ?_
            refine Wk.istore (q := 67) (ls' := #[.val (.int p0), .val (.long p1), .second, .val (.long p2), .second, .val (.long p3), .second, .val (.long p4), .second, .val (.long p5), .second, .val (.int (0 : Int32)), .val (.int (0 : Int32)), .val (.int (1 : Int32)), .val (.int (0 : Int32)), .val (.int (0 : Int32)), .unset, .unset, .unset, .unset, .unset, .unset, .unset, .unset, .unset, .unset, .unset, .unset]) at_65 rfl rfl ?_
            refine Wk.iload (q := 69) at_67 rfl rfl ?_
            refine Wk.ifcT (q := 79) at_69 (by decide) rfl (by decide : (0 : Int32) = (0 : Int32)) ?_
            refine Wk.null (q := 80) at_79 rfl ?_
            refine Wk.astore (q := 82) (ls' := #[.val (.int p0), .val (.long p1), .second, .val (.long p2), .second, .val (.long p3), .second, .val (.long p4), .second, .val (.long p5), .second, .val (.int (0 : Int32)), .val (.int (0 : Int32)), .val (.int (1 : Int32)), .val (.int (0 : Int32)), .val (.int (0 : Int32)), .val .null, .unset, .unset, .unset, .unset, .unset, .unset, .unset, .unset, .unset, .unset, .unset]) at_80 rfl rfl rfl ?_
            refine Wk.iload (q := 84) at_82 rfl rfl ?_
            refine Wk.ifcT (q := 94) at_84 (by decide) rfl (by decide : (0 : Int32) = (0 : Int32)) ?_
            refine Wk.null (q := 95) at_94 rfl ?_
            refine Wk.astore (q := 97) (ls' := #[.val (.int p0), .val (.long p1), .second, .val (.long p2), .second, .val (.long p3), .second, .val (.long p4), .second, .val (.long p5), .second, .val (.int (0 : Int32)), .val (.int (0 : Int32)), .val (.int (1 : Int32)), .val (.int (0 : Int32)), .val (.int (0 : Int32)), .val .null, .val .null, .unset, .unset, .unset, .unset, .unset, .unset, .unset, .unset, .unset, .unset]) at_95 rfl rfl rfl ?_
            refine Wk.iload (q := 99) at_97 rfl rfl ?_
            refine Wk.ifcT (q := 110) at_99 (by decide) rfl (by decide : (0 : Int32) = (0 : Int32)) ?_
            refine Wk.null (q := 111) at_110 rfl ?_
            refine Wk.astore (q := 113) (ls' := #[.val (.int p0), .val (.long p1), .second, .val (.long p2), .second, .val (.long p3), .second, .val (.long p4), .second, .val (.long p5), .second, .val (.int (0 : Int32)), .val (.int (0 : Int32)), .val (.int (1 : Int32)), .val (.int (0 : Int32)), .val (.int (0 : Int32)), .val .null, .val .null, .val .null, .unset, .unset, .unset, .unset, .unset, .unset, .unset, .unset, .unset]) at_111 rfl rfl rfl ?_
            refine Wk.iload (q := 115) at_113 rfl rfl ?_
            refine Wk.ifcF (q := 118) at_115 rfl (by decide : ¬ (1 : Int32) = (0 : Int32)) ?_
            refine Wk.lload (q := 120) at_118 rfl rfl ?_
            refine Wk.callS (q := 123) (argsL := [(.long p3)]) (rest := []) (rm := (⟨3, 1, 1, 39⟩ : Room)) (Q' := fun w h' => ∃ b x, w = .ref b ∧ Exa Z h' b "java/lang/Long" ∧ Fld Z h' b "java/lang/Long" "value" "J" (.long x) ∧ Keep _ h' []) (m_val hw F (own_ge O) p3) (w_54 hw) (w_55 hw) (w_56 hw) (w_57 hw) (by decide) pd_7 rfl rfl rfl at_120 rfl (W := 0) rfl (by decide) (by decide) (by decide) (by decide) ?_
            rintro _ h2 ⟨b1, y1, rfl, x1, g1, K2⟩
            have O := O.keep K2 all0
            have F := F0.ext O.2
            have L_b1 : LN Z h2 h2.size (.ref b1) := Or.inr ⟨b1, y1, rfl, x1.lt, x1, g1⟩
            refine Wk.goto (q := 127) at_123 (by decide) rfl ?_
            refine Wk.astore (q := 129) (ls' := #[.val (.int p0), .val (.long p1), .second, .val (.long p2), .second, .val (.long p3), .second, .val (.long p4), .second, .val (.long p5), .second, .val (.int (0 : Int32)), .val (.int (0 : Int32)), .val (.int (1 : Int32)), .val (.int (0 : Int32)), .val (.int (0 : Int32)), .val .null, .val .null, .val .null, .val (.ref b1), .unset, .unset, .unset, .unset, .unset, .unset, .unset, .unset]) at_127 rfl rfl rfl ?_
            refine Wk.iload (q := 131) at_129 rfl rfl ?_
            refine Wk.ifcT (q := 142) at_131 (by decide) rfl (by decide : (0 : Int32) = (0 : Int32)) ?_
            refine Wk.null (q := 143) at_142 rfl ?_
            refine Wk.astore (q := 145) (ls' := #[.val (.int p0), .val (.long p1), .second, .val (.long p2), .second, .val (.long p3), .second, .val (.long p4), .second, .val (.long p5), .second, .val (.int (0 : Int32)), .val (.int (0 : Int32)), .val (.int (1 : Int32)), .val (.int (0 : Int32)), .val (.int (0 : Int32)), .val .null, .val .null, .val .null, .val (.ref b1), .val .null, .unset, .unset, .unset, .unset, .unset, .unset, .unset]) at_143 rfl rfl rfl ?_
            refine Wk.more (cl' := 5) (sl' := 5) (by decide) (by decide) ?_
            exact t145_nn hw (own_ge O) (Nat.le_refl _) p0 p1 p2 p3 p4 p5 (1 : Int32) (0 : Int32) (0 : Int32) (Or.inl rfl) L_b1 (Or.inl rfl)
          · refine Wk.iconst (q := 61) (v := (1 : Int32)) at_60 rfl rfl ?_
            refine Wk.goto (q := 65) at_61 (by decide) rfl ?_
            refine Wk.istore (q := 67) (ls' := #[.val (.int p0), .val (.long p1), .second, .val (.long p2), .second, .val (.long p3), .second, .val (.long p4), .second, .val (.long p5), .second, .val (.int (0 : Int32)), .val (.int (0 : Int32)), .val (.int (1 : Int32)), .val (.int (0 : Int32)), .val (.int (1 : Int32)), .unset, .unset, .unset, .unset, .unset, .unset, .unset, .unset, .unset, .unset, .unset, .unset]) at_65 rfl rfl ?_
            refine Wk.iload (q := 69) at_67 rfl rfl ?_
            refine Wk.ifcT (q := 79) at_69 (by decide) rfl (by decide : (0 : Int32) = (0 : Int32)) ?_
            refine Wk.null (q := 80) at_79 rfl ?_
            refine Wk.astore (q := 82) (ls' := #[.val (.int p0), .val (.long p1), .second, .val (.long p2), .second, .val (.long p3), .second, .val (.long p4), .second, .val (.long p5), .second, .val (.int (0 : Int32)), .val (.int (0 : Int32)), .val (.int (1 : Int32)), .val (.int (0 : Int32)), .val (.int (1 : Int32)), .val .null, .unset, .unset, .unset, .unset, .unset, .unset, .unset, .unset, .unset, .unset, .unset]) at_80 rfl rfl rfl ?_
            refine Wk.iload (q := 84) at_82 rfl rfl ?_
            refine Wk.ifcT (q := 94) at_84 (by decide) rfl (by decide : (0 : Int32) = (0 : Int32)) ?_
            refine Wk.null (q := 95) at_94 rfl ?_
            refine Wk.astore (q := 97) (ls' := #[.val (.int p0), .val (.long p1), .second, .val (.long p2), .second, .val (.long p3), .second, .val (.long p4), .second, .val (.long p5), .second, .val (.int (0 : Int32)), .val (.int (0 : Int32)), .val (.int (1 : Int32)), .val (.int (0 : Int32)), .val (.int (1 : Int32)), .val .null, .val .null, .unset, .unset, .unset, .unset, .unset, .unset, .unset, .unset, .unset, .unset]) at_95 rfl rfl rfl ?_
            refine Wk.iload (q := 99) at_97 rfl rfl ?_
            refine Wk.ifcF (q := 102) at_99 rfl (by decide : ¬ (1 : Int32) = (0 : Int32)) ?_
            refine Wk.lload (q := 104) at_102 rfl rfl ?_
            refine Wk.callS (q := 107) (argsL := [(.long p5)]) (rest := []) (rm := (⟨3, 1, 1, 39⟩ : Room)) (Q' := fun w h' => ∃ b x, w = .ref b ∧ Exa Z h' b "java/lang/Long" ∧ Fld Z h' b "java/lang/Long" "value" "J" (.long x) ∧ Keep _ h' []) (m_val hw F (own_ge O) p5) (w_54 hw) (w_55 hw) (w_56 hw) (w_57 hw) (by decide) pd_7 rfl rfl rfl at_104 rfl (W := 0) rfl (by decide) (by decide) (by decide) (by decide) ?_
            rintro _ h2 ⟨b1, y1, rfl, x1, g1, K2⟩
            have O := O.keep K2 all0
            have F := F0.ext O.2
            have L_b1 : LN Z h2 h2.size (.ref b1) := Or.inr ⟨b1, y1, rfl, x1.lt, x1, g1⟩
            refine Wk.goto (q := 111) at_107 (by decide) rfl ?_
            refine Wk.astore (q := 113) (ls' := #[.val (.int p0), .val (.long p1), .second, .val (.long p2), .second, .val (.long p3), .second, .val (.long p4), .second, .val (.long p5), .second, .val (.int (0 : Int32)), .val (.int (0 : Int32)), .val (.int (1 : Int32)), .val (.int (0 : Int32)), .val (.int (1 : Int32)), .val .null, .val .null, .val (.ref b1), .unset, .unset, .unset, .unset, .unset, .unset, .unset, .unset, .unset]) at_111 rfl rfl rfl ?_
            refine Wk.iload (q := 115) at_113 rfl rfl ?_
            refine Wk.ifcF (q := 118) at_115 rfl (by decide : ¬ (1 : Int32) = (0 : Int32)) ?_
            refine Wk.lload (q := 120) at_118 rfl rfl ?_
            refine Wk.callS (q := 123) (argsL := [(.long p3)]) (rest := []) (rm := (⟨3, 1, 1, 39⟩ : Room)) (Q' := fun w h' => ∃ b x, w = .ref b ∧ Exa Z h' b "java/lang/Long" ∧ Fld Z h' b "java/lang/Long" "value" "J" (.long x) ∧ Keep _ h' []) (m_val hw F (own_ge O) p3) (w_54 hw) (w_55 hw) (w_56 hw) (w_57 hw) (by decide) pd_7 rfl rfl rfl at_120 rfl (W := 0) rfl (by decide) (by decide) (by decide) (by decide) ?_
            rintro _ h2 ⟨b2, y2, rfl, x2, g2, K2⟩
            have L_b1 := (LN.keep L_b1 K2 all0).up K2.1
            have O := O.keep K2 all0
            have F := F0.ext O.2
            have L_b2 : LN Z h2 h2.size (.ref b2) := Or.inr ⟨b2, y2, rfl, x2.lt, x2, g2⟩
            refine Wk.goto (q := 127) at_123 (by decide) rfl ?_
            refine Wk.astore (q := 129) (ls' := #[.val (.int p0), .val (.long p1), .second, .val (.long p2), .second, .val (.long p3), .second, .val (.long p4), .second, .val (.long p5), .second, .val (.int (0 : Int32)), .val (.int (0 : Int32)), .val (.int (1 : Int32)), .val (.int (0 : Int32)), .val (.int (1 : Int32)), .val .null, .val .null, .val (.ref b1), .val (.ref b2), .unset, .unset, .unset, .unset, .unset, .unset, .unset, .unset]) at_127 rfl rfl rfl ?_
            refine Wk.iload (q := 131) at_129 rfl rfl ?_
            refine Wk.ifcT (q := 142) at_131 (by decide) rfl (by decide : (0 : Int32) = (0 : Int32)) ?_
            refine Wk.null (q := 143) at_142 rfl ?_
            refine Wk.astore (q := 145) (ls' := #[.val (.int p0), .val (.long p1), .second, .val (.long p2), .second, .val (.long p3), .second, .val (.long p4), .second, .val (.long p5), .second, .val (.int (0 : Int32)), .val (.int (0 : Int32)), .val (.int (1 : Int32)), .val (.int (0 : Int32)), .val (.int (1 : Int32)), .val .null, .val .null, .val (.ref b1), .val (.ref b2), .val .null, .unset, .unset, .unset, .unset, .unset, .unset, .unset]) at_143 rfl rfl rfl ?_
            refine Wk.more (cl' := 5) (sl' := 5) (by decide) (by decide) ?_
            exact t145_nn hw (own_ge O) (Nat.le_refl _) p0 p1 p2 p3 p4 p5 (1 : Int32) (0 : Int32) (1 : Int32) L_b1 L_b2 (Or.inl rfl)
        · refine Wk.iconst (q := 47) (v := (1 : Int32)) at_46 rfl rfl ?_
          refine Wk.goto (q := 51) at_47 (by decide) rfl ?_
          refine Wk.istore (q := 53) (ls' := #[.val (.int p0), .val (.long p1), .second, .val (.long p2), .second, .val (.long p3), .second, .val (.long p4), .second, .val (.long p5), .second, .val (.int (0 : Int32)), .val (.int (0 : Int32)), .val (.int (1 : Int32)), .val (.int (1 : Int32)), .unset, .unset, .unset, .unset, .unset, .unset, .unset, .unset, .unset, .unset, .unset, .unset, .unset]) at_51 rfl rfl ?_
          refine Wk.iloadN (q := 54) at_53 rfl rfl ?_
          refine Wk.bipush (q := 56) (v := (16 : Int32)) at_54 rfl rfl ?_
          refine Wk.iand (q := 57) (v := (p0 &&& (16 : Int32))) at_56 rfl rfl ?_
          refine Wk.ifc (q := 64) (q' := 60) at_57 (by decide) rfl rfl (fun (h9 : (p0 &&& (16 : Int32)) = (0 : Int32)) => ?_) (fun (h9 : ¬ (p0 &&& (16 : Int32)) = (0 : Int32)) => ?_)
          · refine Wk.iconst (q := 65) (v := (0 : Int32)) at_64 rfl rfl ?_
            refine Wk.istore (q := 67) (ls' := #[.val (.int p0), .val (.long p1), .second, .val (.long p2), .second, .val (.long p3), .second, .val (.long p4), .second, .val (.long p5), .second, .val (.int (0 : Int32)), .val (.int (0 : Int32)), .val (.int (1 : Int32)), .val (.int (1 : Int32)), .val (.int (0 : Int32)), .unset, .unset, .unset, .unset, .unset, .unset, .unset, .unset, .unset, .unset, .unset, .unset]) at_65 rfl rfl ?_
            refine Wk.iload (q := 69) at_67 rfl rfl ?_
            refine Wk.ifcT (q := 79) at_69 (by decide) rfl (by decide : (0 : Int32) = (0 : Int32)) ?_
            refine Wk.null (q := 80) at_79 rfl ?_
            refine Wk.astore (q := 82) (ls' := #[.val (.int p0), .val (.long p1), .second, .val (.long p2), .second, .val (.long p3), .second, .val (.long p4), .second, .val (.long p5), .second, .val (.int (0 : Int32)), .val (.int (0 : Int32)), .val (.int (1 : Int32)), .val (.int (1 : Int32)), .val (.int (0 : Int32)), .val .null, .unset, .unset, .unset, .unset, .unset, .unset, .unset, .unset, .unset, .unset, .unset]) at_80 rfl rfl rfl ?_
            refine Wk.iload (q := 84) at_82 rfl rfl ?_
            refine Wk.ifcT (q := 94) at_84 (by decide) rfl (by decide : (0 : Int32) = (0 : Int32)) ?_
            refine Wk.null (q := 95) at_94 rfl ?_
            refine Wk.astore (q := 97) (ls' := #[.val (.int p0), .val (.long p1), .second, .val (.long p2), .second, .val (.long p3), .second, .val (.long p4), .second, .val (.long p5), .second, .val (.int (0 : Int32)), .val (.int (0 : Int32)), .val (.int (1 : Int32)), .val (.int (1 : Int32)), .val (.int (0 : Int32)), .val .null, .val .null, .unset, .unset, .unset, .unset, .unset, .unset, .unset, .unset, .unset, .unset]) at_95 rfl rfl rfl ?_
            refine Wk.iload (q := 99) at_97 rfl rfl ?_
            refine Wk.ifcT (q := 110) at_99 (by decide) rfl (by decide : (0 : Int32) = (0 : Int32)) ?_
            refine Wk.null (q := 111) at_110 rfl ?_
            refine Wk.astore (q := 113) (ls' := #[.val (.int p0), .val (.long p1), .second, .val (.long p2), .second, .val (.long p3), .second, .val (.long p4), .second, .val (.long p5), .second, .val (.int (0 : Int32)), .val (.int (0 : Int32)), .val (.int (1 : Int32)), .val (.int (1 : Int32)), .val (.int (0 : Int32)), .val .null, .val .null, .val .null, .unset, .unset, .unset, .unset, .unset, .unset, .unset, .unset, .unset]) at_111 rfl rfl rfl ?_
            refine Wk.iload (q := 115) at_113 rfl rfl ?_
            refine Wk.ifcF (q := 118) at_115 rfl (by decide : ¬ (1 : Int32) = (0 : Int32)) ?_
            refine Wk.lload (q := 120) at_118 rfl rfl ?_
            refine Wk.callS (q := 123) (argsL := [(.long p3)]) (rest := []) (rm := (⟨3, 1, 1, 39⟩ : Room)) (Q' := fun w h' => ∃ b x, w = .ref b ∧ Exa Z h' b "java/lang/Long" ∧ Fld Z h' b "java/lang/Long" "value" "J" (.long x) ∧ Keep _ h' []) (m_val hw F (own_ge O) p3) (w_54 hw) (w_55 hw) (w_56 hw) (w_57 hw) (by decide) pd_7 rfl rfl rfl at_120 rfl (W := 0) rfl (by decide) (by decide) (by decide) (by decide) ?_
            rintro _ h2 ⟨b1, y1, rfl, x1, g1, K2⟩
            have O := O.keep K2 all0
            have F := F0.ext O.2
            have L_b1 : LN Z h2 h2.size (.ref b1) := Or.inr ⟨b1, y1, rfl, x1.lt, x1, g1⟩
            refine Wk.goto (q := 127) at_123 (by decide) rfl ?_
            refine Wk.astore (q := 129) (ls' := #[.val (.int p0), .val (.long p1), .second, .val (.long p2), .second, .val (.long p3), .second, .val (.long p4), .second, .val (.long p5), .second, .val (.int (0 : Int32)), .val (.int (0 : Int32)), .val (.int (1 : Int32)), .val (.int (1 : Int32)), .val (.int (0 : Int32)), .val .null, .val .null, .val .null, .val (.ref b1), .unset, .unset, .unset, .unset, .unset, .unset, .unset, .unset]) at_127 rfl rfl rfl ?_
            refine Wk.iload (q := 131) at_129 rfl rfl ?_
            refine Wk.ifcF (q := 134) at_131 rfl (by decide : ¬ (1 : Int32) = (0 : Int32)) ?_
            refine Wk.lload (q := 136) at_134 rfl rfl ?_
            refine Wk.callS (q := 139) (argsL := [(.long p4)]) (rest := []) (rm := (⟨3, 1, 1, 39⟩ : Room)) (Q' := fun w h' => ∃ b x, w = .ref b ∧ Exa Z h' b "java/lang/Long" ∧ Fld Z h' b "java/lang/Long" "value" "J" (.long x) ∧ Keep _ h' []) (m_val hw F (own_ge O) p4) (w_54 hw) (w_55 hw) (w_56 hw) (w_57 hw) (by decide) pd_7 rfl rfl rfl at_136 rfl (W := 0) rfl (by decide) (by decide) (by decide) (by decide) ?_
            rintro _ h2 ⟨b2, y2, rfl, x2, g2, K2⟩
            have L_b1 := (LN.keep L_b1 K2 all0).up K2.1
            have O := O.keep K2 all0
            have F := F0.ext O.2
            have L_b2 : LN Z h2 h2.size (.ref b2) := Or.inr ⟨b2, y2, rfl, x2.lt, x2, g2⟩
            refine Wk.goto (q := 143) at_139 (by decide) rfl ?_
            refine Wk.astore (q := 145) (ls' := #[.val (.int p0), .val (.long p1), .second, .val (.long p2), .second, .val (.long p3), .second, .val (.long p4), .second, .val (.long p5), .second, .val (.int (0 : Int32)), .val (.int (0 : Int32)), .val (.int (1 : Int32)), .val (.int (1 : Int32)), .val (.int (0 : Int32)), .val .null, .val .null, .val .null, .val (.ref b1), .val (.ref b2), .unset, .unset, .unset, .unset, .unset, .unset, .unset]) at_143 rfl rfl rfl ?_
            refine Wk.more (cl' := 5) (sl' := 5) (by decide) (by decide) ?_
            exact t145_nn hw (own_ge O) (Nat.le_refl _) p0 p1 p2 p3 p4 p5 (1 : Int32) (1 : Int32) (0 : Int32) (Or.inl rfl) L_b1 L_b2
          · refine Wk.iconst (q := 61) (v := (1 : Int32)) at_60 rfl rfl ?_
            refine Wk.goto (q := 65) at_61 (by decide) rfl ?_
            refine Wk.istore (q := 67) (ls' := #[.val (.int p0), .val (.long p1), .second, .val (.long p2), .second, .val (.long p3), .second, .val (.long p4), .second, .val (.long p5), .second, .val (.int (0 : Int32)), .val (.int (0 : Int32)), .val (.int (1 : Int32)), .val (.int (1 : Int32)), .val (.int (1 : Int32)), .unset, .unset, .unset, .unset, .unset, .unset, .unset, .unset, .unset, .unset, .unset, .unset]) at_65 rfl rfl ?_
            refine Wk.iload (q := 69) at_67 rfl rfl ?_
            refine Wk.ifcT (q := 79) at_69 (by decide) rfl (by decide : (0 : Int32) = (0 : Int32)) ?_
            refine Wk.null (q := 80) at_79 rfl ?_
            refine Wk.astore (q := 82) (ls' := #[.val (.int p0), .val (.long p1), .second, .val (.long p2), .second, .val (.long p3), .second, .val (.long p4), .second, .val (.long p5), .second, .val (.int (0 : Int32)), .val (.int (0 : Int32)), .val (.int (1 : Int32)), .val (.int (1 : Int32)), .val (.int (1 : Int32)), .val .null, .unset, .unset, .unset, .unset, .unset, .unset, .unset, .unset, .unset, .unset, .unset]) at_80 rfl rfl rfl ?_
            refine Wk.iload (q := 84) at_82 rfl rfl ?_
            refine Wk.ifcT (q := 94) at_84 (by decide) rfl (by decide : (0 : Int32) = (0 : Int32)) ?_
            refine Wk.null (q := 95) at_94 rfl ?_
            refine Wk.astore (q := 97) (ls' := #[.val (.int p0), .val (.long p1), .second, .val (.long p2), .second, .val (.long p3), .second, .val (.long p4), .second, .val (.long p5), .second, .val (.int (0 : Int32)), .val (.int (0 : Int32)), .val (.int (1 : Int32)), .val (.int (1 : Int32)), .val (.int (1 : Int32)), .val .null, .val .null, .unset, .unset, .unset, .unset, .unset, .unset, .unset, .unset, .unset, .unset]) at_95 rfl rfl rfl ?_
            refine Wk.iload (q := 99) at_97 rfl rfl ?_
            refine Wk.ifcF (q := 102) at_99 rfl (by decide : ¬ (1 : Int32) = (0 : Int32)) ?_
            refine Wk.lload (q := 104) at_102 rfl rfl ?_
            refine Wk.callS (q := 107) (argsL := [(.long p5)]) (rest := []) (rm := (⟨3, 1, 1, 39⟩ : Room)) (Q' := fun w h' => ∃ b x, w = .ref b ∧ Exa Z h' b "java/lang/Long" ∧ Fld Z h' b "java/lang/Long" "value" "J" (.long x) ∧ Keep _ h' []) (m_val hw F (own_ge O) p5) (w_54 hw) (w_55 hw) (w_56 hw) (w_57 hw) (by decide) pd_7 rfl rfl rfl at_104 rfl (W := 0) rfl (by decide) (by decide) (by decide) (by decide) ?_
            rintro _ h2 ⟨b1, y1, rfl, x1, g1, K2⟩
            have O := O.keep K2 all0
            have F := F0.ext O.2
            have L_b1 : LN Z h2 h2.size (.ref b1) := Or.inr ⟨b1, y1, rfl, x1.lt, x1, g1⟩
            refine Wk.goto (q := 111) at_107 (by decide) rfl ?_
            refine Wk.astore (q := 113) (ls' := #[.val (.int p0), .val (.long p1), .second, .val (.long p2), .second, .val (.long p3), .second, .val (.long p4), .second, .val (.long p5), .second, .val (.int (0 : Int32)), .val (.int (0 : Int32)), .val (.int (1 : Int32)), .val (.int (1 : Int32)), .val (.int (1 : Int32)), .val .null, .val .null, .val (.ref b1), .unset, .unset, .unset, .unset, .unset, .unset, .unset, .unset, .unset]) at_111 rfl rfl rfl ?_
            refine Wk.iload (q := 115) at_113 rfl rfl ?_
            refine Wk.ifcF (q := 118) at_115 rfl (by decide : ¬ (1 : Int32) = (0 : Int32)) ?_
            refine Wk.lload (q := 120) at_118 rfl rfl ?_
            refine Wk.callS (q := 123) (argsL := [(.long p3)]) (rest := []) (rm := (⟨3, 1, 1, 39⟩ : Room)) (Q' := fun w h' => ∃ b x, w = .ref b ∧ Exa Z h' b "java/lang/Long" ∧ Fld Z h' b "java/lang/Long" "value" "J" (.long x) ∧ Keep _ h' []) (m_val hw F (own_ge O) p3) (w_54 hw) (w_55 hw) (w_56 hw) (w_57 hw) (by decide) pd_7 rfl rfl rfl at_120 rfl (W := 0) rfl (by decide) (by decide) (by decide) (by decide) ?_
            rintro _ h2 ⟨b2, y2, rfl, x2, g2, K2⟩
            have L_b1 := (LN.keep L_b1 K2 all0).up K2.1
            have O := O.keep K2 all0
            have F := F0.ext O.2
            have L_b2 : LN Z h2 h2.size (.ref b2) := Or.inr ⟨b2, y2, rfl, x2.lt, x2, g2⟩
            refine Wk.goto (q := 127) at_123 (by decide) rfl ?_
            refine Wk.astore (q := 129) (ls' := #[.val (.int p0), .val (.long p1), .second, .val (.long p2), .second, .val (.long p3), .second, .val (.long p4), .second, .val (.long p5), .second, .val (.int (0 : Int32)), .val (.int (0 : Int32)), .val (.int (1 : Int32)), .val (.int (1 : Int32)), .val (.int (1 : Int32)), .val .null, .val .null, .val (.ref b1), .val (.ref b2), .unset, .unset, .unset, .unset, .unset, .unset, .unset, .unset]) at_127 rfl rfl rfl ?_
            refine Wk.iload (q := 131) at_129 rfl rfl ?_
            refine Wk.ifcF (q := 134) at_131 rfl (by decide : ¬ (1 : Int32) = (0 : Int32)) ?_
            refine Wk.lload (q := 136) at_134 rfl rfl ?_
            refine Wk.callS (q := 139) (argsL := [(.long p4)]) (rest := []) (rm := (⟨3, 1, 1, 39⟩ : Room)) (Q' := fun w h' => ∃ b x, w = .ref b ∧ Exa Z h' b "java/lang/Long" ∧ Fld Z h' b "java/lang/Long" "value" "J" (.long x) ∧ Keep _ h' []) (m_val hw F (own_ge O) p4) (w_54 hw) (w_55 hw) (w_56 hw) (w_57 hw) (by decide) pd_7 rfl rfl rfl at_136 rfl (W := 0) rfl (by decide) (by decide) (by decide) (by decide) ?_
            rintro _ h2 ⟨b3, y3, rfl, x3, g3, K2⟩
            have L_b1 := (LN.keep L_b1 K2 all0).up K2.1
            have L_b2 := (LN.keep L_b2 K2 all0).up K2.1
            have O := O.keep K2 all0
            have F := F0.ext O.2
            have L_b3 : LN Z h2 h2.size (.ref b3) := Or.inr ⟨b3, y3, rfl, x3.lt, x3, g3⟩
            refine Wk.goto (q := 143) at_139 (by decide) rfl ?_
            refine Wk.astore (q := 145) (ls' := #[.val (.int p0), .val (.long p1), .second, .val (.long p2), .second, .val (.long p3), .second, .val (.long p4), .second, .val (.long p5), .second, .val (.int (0 : Int32)), .val (.int (0 : Int32)), .val (.int (1 : Int32)), .val (.int (1 : Int32)), .val (.int (1 : Int32)), .val .null, .val .null, .val (.ref b1), .val (.ref b2), .val (.ref b3), .unset, .unset, .unset, .unset, .unset, .unset, .unset]) at_143 rfl rfl rfl ?_
            refine Wk.more (cl' := 5) (sl' := 5) (by decide) (by decide) ?_
            exact t145_nn hw (own_ge O) (Nat.le_refl _) p0 p1 p2 p3 p4 p5 (1 : Int32) (1 : Int32) (1 : Int32) L_b1 L_b2 L_b3
    · refine Wk.iconst (q := 20) (v := (1 : Int32)) at_19 rfl rfl ?_
      refine Wk.goto (q := 24) at_20 (by decide) rfl ?_
      refine Wk.istore (q := 26) (ls' := #[.val (.int p0), .val (.long p1), .second, .val (.long p2), .second, .val (.long p3), .second, .val (.long p4), .second, .val (.long p5), .second, .val (.int (0 : Int32)), .val (.int (1 : Int32)), .unset, .unset, .unset, .unset, .unset, .unset, .unset, .unset, .unset, .unset, .unset, .unset, .unset, .unset, .unset]) at_24 rfl rfl ?_
      refine Wk.iloadN (q := 27) at_26 rfl rfl ?_
      refine Wk.iconst (q := 28) (v := (4 : Int32)) at_27 rfl rfl ?_
      refine Wk.iand (q := 29) (v := (p0 &&& (4 : Int32))) at_28 rfl rfl ?_
      refine Wk.ifc (q := 36) (q' := 32) at_29 (by decide) rfl rfl (fun (h10 : (p0 &&& (4 : Int32)) = (0 : Int32)) => ?_) (fun (h10 : ¬ (p0 &&& (4 : Int32)) = (0 : Int32)) => ?_)
      · refine Wk.iconst (q := 37) (v := (0 : Int32)) at_36 rfl rfl ?_
        refine Wk.istore (q := 39) (ls' := #[.val (.int p0), .val (.long p1), .second, .val (.long p2), .second, .val (.long p3), .second, .val (.long p4), .second, .val (.long p5), .second, .val (.int (0 : Int32)), .val (.int (1 : Int32)), .val (.int (0 : Int32)), .unset, .unset, .unset, .unset, .unset, .unset, .unset, .unset, .unset, .unset, .unset, .unset, .unset, .unset]) at_37 rfl rfl ?_
        refine Wk.iloadN (q := 40) at_39 rfl rfl ?_
        refine Wk.bipush (q := 42) (v := (8 : Int32)) at_40 rfl rfl ?_
        refine Wk.iand (q := 43) (v := (p0 &&& (8 : Int32))) at_42 rfl rfl ?_
        refine Wk.ifc (q := 50) (q' := 46) at_43 (by decide) rfl rfl (fun (h11 : (p0 &&& (8 : Int32)) = (0 : Int32)) => ?_) (fun (h11 : ¬ (p0 &&& (8 : Int32)) = (0 : Int32)) => ?_)
        · refine Wk.iconst (q := 51) (v := (0 : Int32)) at_50 rfl rfl ?_
          refine Wk.istore (q := 53) (ls' := #[.val (.int p0), .val (.long p1), .second, .val (.long p2), .second, .val (.long p3), .second, .val (.long p4), .second, .val (.long p5), .second, .val (.int (0 : Int32)), .val (.int (1 : Int32)), .val (.int (0 : Int32)), .val (.int (0 : Int32)), .unset, .unset, .unset, .unset, .unset, .unset, .unset, .unset, .unset, .unset, .unset, .unset, .unset]) at_51 rfl rfl ?_
          refine Wk.iloadN (q := 54) at_53 rfl rfl ?_
          refine Wk.bipush (q := 56) (v := (16 : Int32)) at_54 rfl rfl ?_
          refine Wk.iand (q := 57) (v := (p0 &&& (16 : Int32))) at_56 rfl rfl ?_
          refine Wk.ifc (q := 64) (q' := 60) at_57 (by decide) rfl rfl (fun (h12 : (p0 &&& (16 : Int32)) = (0 : Int32)) => ?_) (fun (h12 : ¬ (p0 &&& (16 : Int32)) = (0 : Int32)) => ?_)
          · refine Wk.iconst (q := 65) (v := (0 : Int32)) at_64 rfl rfl ?_
            refine Wk.istore (q := 67) (ls' := #[.val (.int p0), .val (.long p1), .second, .val (.long p2), .second, .val (.long p3), .second, .val (.long p4), .second, .val (.long p5), .second, .val (.int (0 : Int32)), .val (.int (1 : Int32)), .val (.int (0 : Int32)), .val (.int (0 : Int32)), .val (.int (0 : Int32)), .unset, .unset, .unset, .unset, .unset, .unset, .unset, .unset, .unset, .unset, .unset, .unset]) at_65 rfl rfl ?_
            refine Wk.iload (q := 69) at_67 rfl rfl ?_
            refine Wk.ifcT (q := 79) at_69 (by decide) rfl (by decide : (0 : Int32) = (0 : Int32)) ?_
            refine Wk.null (q := 80) at_79 rfl ?_
            refine Wk.astore (q := 82) (ls' := #[.val (.int p0), .val (.long p1), .second, .val (.long p2), .second, .val (.long p3), .second, .val (.long p4), .second, .val (.long p5), .second, .val (.int (0 : Int32)), .val (.int (1 : Int32)), .val (.int (0 : Int32)), .val (.int (0 : Int32)), .val (.int (0 : Int32)), .val .null, .unset, .unset, .unset, .unset, .unset, .unset, .unset, .unset, .unset, .unset, .unset]) at_80 rfl rfl rfl ?_
            refine Wk.iload (q := 84) at_82 rfl rfl ?_
            refine Wk.ifcF (q := 87) at_84 rfl (by decide : ¬ (1 : Int32) = (0 : Int32)) ?_
            refine Wk.lloadN (q := 88) at_87 rfl rfl ?_
            refine Wk.callS (q := 91) (argsL := [(.long p2)]) (rest := []) (rm := (⟨3, 1, 1, 39⟩ : Room)) (Q' := fun w h' => ∃ b x, w = .ref b ∧ Exa Z h' b "java/lang/Long" ∧ Fld Z h' b "java/lang/Long" "value" "J" (.long x) ∧ Keep _ h' []) (m_val hw F (own_ge O) p2) (w_54 hw) (w_55 hw) (w_56 hw) (w_57 hw) (by decide) pd_7 rfl rfl rfl at_88 rfl (W := 0) rfl (by decide) (by decide) (by decide) (by decide) ?_
            rintro _ h2 ⟨b1, y1, rfl, x1, g1, K2⟩
            have O := O.keep K2 all0
            have F := F0.ext O.2
            have L_b1 : LN Z h2 h2.size (.ref b1) := Or.inr ⟨b1, y1, rfl, x1.lt, x1, g1⟩
            refine Wk.goto (q := 95) at_91 (by decide) rfl ?_
            refine Wk.astore (q := 97) (ls' := #[.val (.int p0), .val (.long p1), .second, .val (.long p2), .second, .val (.long p3), .second, .val (.long p4), .second, .val (.long p5), .second, .val (.int (0 : Int32)), .val (.int (1 : Int32)), .val (.int (0 : Int32)), .val (.int (0 : Int32)), .val (.int (0 : Int32)), .val .null, .val (.ref b1), .unset, .unset, .unset, .unset, .unset, .unset, .unset, .unset, .unset, .unset]) at_95 rfl rfl rfl ?_
            refine Wk.iload (q := 99) at_97 rfl rfl ?_
            refine Wk.ifcT (q := 110) at_99 (by decide) rfl (by decide : (0 : Int32) = (0 : Int32)) ?_
            refine Wk.null (q := 111) at_110 rfl ?_
            refine Wk.astore (q := 113) (ls' := #[.val (.int p0), .val (.long p1), .second, .val (.long p2), .second, .val (.long p3), .second, .val (.long p4), .second, .val (.long p5), .second, .val (.int (0 : Int32)), .val (.int (1 : Int32)), .val (.int (0 : Int32)), .val (.int (0 : Int32)), .val (.int (0 : Int32)), .val .null, .val (.ref b1), .val .null, .unset, .unset, .unset, .unset, .unset, .unset, .unset, .unset, .unset]) at_111 rfl rfl rfl ?_
            refine Wk.iload (q := 115) at_113 rfl rfl ?_
            refine Wk.ifcT (q := 126) at_115 (by decide) rfl (by decide : (0 : Int32) = (0 : Int32)) ?_
            refine Wk.null (q := 127) at_126 rfl ?_
            refine Wk.astore (q := 129) (ls' := #[.val (.int p0), .val (.long p1), .second, .val (.long p2), .second, .val (.long p3), .second, .val (.long p4), .second, .val (.long p5), .second, .val (.int (0 : Int32)), .val (.int (1 : Int32)), .val (.int (0 : Int32)), .val (.int (0 : Int32)), .val (.int (0 : Int32)), .val .null, .val (.ref b1), .val .null, .val .null, .unset, .unset, .unset, .unset, .unset, .unset, .unset, .unset]) at_127 rfl rfl rfl ?_
            refine Wk.iload (q := 131) at_129 rfl rfl ?_
            refine Wk.ifcT (q := 142) at_131 (by decide) rfl (by decide : (0 : Int32) = (0 : Int32)) ?_
            refine Wk.null (q := 143) at_142 rfl ?_
            refine Wk.astore (q := 145) (ls' := #[.val (.int p0), .val (.long p1), .second, .val (.long p2), .second, .val (.long p3), .second, .val (.long p4), .second, .val (.long p5), .second, .val (.int (0 : Int32)), .val (.int (1 : Int32)), .val (.int (0 : Int32)), .val (.int (0 : Int32)), .val (.int (0 : Int32)), .val .null, .val (.ref b1), .val .null, .val .null, .val .null, .unset, .unset, .unset, .unset, .unset, .unset, .unset]) at_143 rfl rfl rfl ?_
            refine Wk.more (cl' := 5) (sl' := 5) (by decide) (by decide) ?_
            exact t145_nr hw (own_ge O) (Nat.le_refl _) p0 p1 p2 p3 p4 p5 (0 : Int32) (0 : Int32) (0 : Int32) L_b1 (Or.inl rfl) (Or.inl rfl) (Or.inl rfl)
          · refine Wk.iconst (q := 61) (v := (1 : Int32)) at_60 rfl rfl ?_
            refine Wk.goto (q := 65) at_61 (by decide) rfl ?_
            refine Wk.istore (q := 67) (ls' := #[.val (.int p0), .val (.long p1), .second, .val (.long p2), .second, .val (.long p3), .second, .val (.long p4), .second, .val (.long p5), .second, .val (.int (0 : Int32)), .val (.int (1 : Int32)), .val (.int (0 : Int32)), .val (.int (0 : Int32)), .val (.int (1 : Int32)), .unset, .unset, .unset, .unset, .unset, .unset, .unset, .unset, .unset, .unset, .unset, .unset]) at_65 rfl rfl ?_
            refine Wk.iload (q := 69) at_67 rfl rfl ?_
            refine Wk.ifcT (q := 79) at_69 (by decide) rfl (by decide : (0 : Int32) = (0 : Int32)) ?_
            refine Wk.null (q := 80) at_79 rfl ?_
            refine Wk.astore (q := 82) (ls' := #[.val (.int p0), .val (.long p1), .second, .val (.long p2), .second, .val (.long p3), .second, .val (.long p4), .second, .val (.long p5), .second, .val (.int (0 : Int32)), .val (.int (1 : Int32)), .val (.int (0 : Int32)), .val (.int (0 : Int32)), .val (.int (1 : Int32)), .val .null, .unset, .unset, .unset, .unset, .unset, .unset, .unset, .unset, .unset, .unset, .unset]) at_80 rfl rfl rfl ?_
            refine Wk.iload (q := 84) at_82 rfl rfl ?_
            refine Wk.ifcF (q := 87) at_84 rfl (by decide : ¬ (1 : Int32) = (0 : Int32)) ?_
            refine Wk.lloadN (q := 88) at_87 rfl rfl ?_
            refine Wk.callS (q := 91) (argsL := [(.long p2)]) (rest := []) (rm := (⟨3, 1, 1, 39⟩ : Room)) (Q' := fun w h' => ∃ b x, w = .ref b ∧ Exa Z h' b "java/lang/Long" ∧ Fld Z h' b "java/lang/Long" "value" "J" (.long x) ∧ Keep _ h' []) (m_val hw F (own_ge O) p2) (w_54 hw) (w_55 hw) (w_56 hw) (w_57 hw) (by decide) pd_7 rfl rfl rfl at_88 rfl (W := 0) rfl (by decide) (by decide) (by decide) (by decide) ?_
            rintro _ h2 ⟨b1, y1, rfl, x1, g1, K2⟩
            have O := O.keep K2 all0
            have F := F0.ext O.2
            have L_b1 : LN Z h2 h2.size (.ref b1) := Or.inr ⟨b1, y1, rfl, x1.lt, x1, g1⟩
            refine Wk.goto (q := 95) at_91 (by decide) rfl ?_
            refine Wk.astore (q := 97) (ls' := #[.val (.int p0), .val (.long p1), .second, .val (.long p2), .second, .val (.long p3), .second, .val (.long p4), .second, .val (.long p5), .second, .val (.int (0 : Int32)), .val (.int (1 : Int32)), .val (.int (0 : Int32)), .val (.int (0 : Int32)), .val (.int (1 : Int32)), .val .null, .val (.ref b1), .unset, .unset, .unset, .unset, .unset, .unset, .unset, .unset, .unset, .unset]) at_95 rfl rfl rfl ?_
            refine Wk.iload (q := 99) at_97 rfl rfl ?_
            refine Wk.ifcF (q := 102) at_99 rfl (by decide : ¬ (1 : Int32) = (0 : Int32)) ?_
            refine Wk.lload (q := 104) at_102 rfl rfl ?_
            refine Wk.callS (q := 107) (argsL := [(.long p5)]) (rest := []) (rm := (⟨3, 1, 1, 39⟩ : Room)) (Q' := fun w h' => ∃ b x, w = .ref b ∧ Exa Z h' b "java/lang/Long" ∧ Fld Z h' b "java/lang/Long" "value" "J" (.long x) ∧ Keep _ h' []) (m_val hw F (own_ge O) p5) (w_54 hw) (w_55 hw) (w_56 hw) (w_57 hw) (by decide) pd_7 rfl rfl rfl at_104 rfl (W := 0) rfl (by decide) (by decide) (by decide) (by decide) ?_
            rintro _ h2 ⟨b2, y2, rfl, x2, g2, K2⟩
            have L_b1 := (LN.keep L_b1 K2 all0).up K2.1
            have O := O.keep K2 all0
            have F := F0.ext O.2
            have L_b2 : LN Z h2 h2.size (.ref b2) := Or.inr ⟨b2, y2, rfl, x2.lt, x2, g2⟩
            refine Wk.goto (q := 111) at_107 (by decide) rfl ?_
            refine Wk.astore (q := 113) (ls' := #[.val (.int p0), .val (.long p1), .second, .val (.long p2), .second, .val (.long p3), .second, .val (.long p4), .second, .val (.long p5), .second, .val (.int (0 : Int32)), .val (.int (1 : Int32)), .val (.int (0 : Int32)), .val (.int (0 : Int32)), .val (.int (1 : Int32)), .val .null, .val (.ref b1), .val (.ref b2), .unset, .unset, .unset, .unset, .unset, .unset, .unset, .unset, .unset]) at_111 rfl rfl rfl ?_
            refine Wk.iload (q := 115) at_113 rfl rfl ?_
            refine Wk.ifcT (q := 126) at_115 (by decide) rfl (by decide : (0 : Int32) = (0 : Int32)) ?_
            refine Wk.null (q := 127) at_126 rfl ?_
            refine Wk.astore (q := 129) (ls' := #[.val (.int p0), .val (.long p1), .second, .val (.long p2), .second, .val (.long p3), .second, .val (.long p4), .second, .val (.long p5), .second, .val (.int (0 : Int32)), .val (.int (1 : Int32)), .val (.int (0 : Int32)), .val (.int (0 : Int32)), .val (.int (1 : Int32)), .val .null, .val (.ref b1), .val (.ref b2), .val .null, .unset, .unset, .unset, .unset, .unset, .unset, .unset, .unset]) at_127 rfl rfl rfl ?_
            refine Wk.iload (q := 131) at_129 rfl rfl ?_
            refine Wk.ifcT (q := 142) at_131 (by decide) rfl (by decide : (0 : Int32) = (0 : Int32)) ?_
            refine Wk.null (q := 143) at_142 rfl ?_
            refine Wk.astore (q := 145) (ls' := #[.val (.int p0), .val (.long p1), .second, .val (.long p2), .second, .val (.long p3), .second, .val (.long p4), .second, .val (.long p5), .second, .val (.int (0 : Int32)), .val (.int (1 : Int32)), .val (.int (0 : Int32)), .val (.int (0 : Int32)), .val (.int (1 : Int32)), .val .null, .val (.ref b1), .val (.ref b2), .val .null, .val .null, .unset, .unset, .unset, .unset, .unset, .unset, .unset]) at_143 rfl rfl rfl ?_
            refine Wk.more (cl' := 5) (sl' := 5) (by decide) (by decide) ?_
            exact t145_nr hw (own_ge O) (Nat.le_refl _) p0 p1 p2 p3 p4 p5 (0 : Int32) (0 : Int32) (1 : Int32) L_b1 L_b2 (Or.inl rfl) (Or.inl rfl)
        · refine Wk.iconst (q := 47) (v := (1 : Int32)) at_46 rfl rfl ?_
          refine Wk.goto (q := 51) at_47 (by decide) rfl ?_
          refine Wk.istore (q := 53) (ls' := #[.val (.int p0), .val (.long p1), .second, .val (.long p2), .second, .val (.long p3), .second, .val (.long p4), .second, .val (.long p5), .second, .val (.int (0 : Int32)), .val (.int (1 : Int32)), .val (.int (0 : Int32)), .val (.int (1 : Int32)), .unset, .unset, .unset, .unset, .unset, .unset, .unset, .unset, .unset, .unset, .unset, .unset, .unset]) at_51 rfl rfl ?_
          refine Wk.iloadN (q := 54) at_53 rfl rfl ?_
          refine Wk.bipush (q := 56) (v := (16 : Int32)) at_54 rfl rfl ?_
          refine Wk.iand (q := 57) (v := (p0 &&& (16 : Int32))) at_56 rfl rfl ?_
          refine Wk.ifc (q := 64) (q' := 60) at_57 (by decide) rfl rfl (fun (h13 : (p0 &&& (16 : Int32)) = (0 : Int32)) => ?_) (fun (h13 : ¬ (p0 &&& (16 : Int32)) = (0 : Int32)) => ?_)
          · refine Wk.iconst (q := 65) (v := (0 : Int32)) at_64 rfl rfl ?_
            refine Wk.istore (q := 67) (ls' := #[.val (.int p0), .val (.long p1), .second, .val (.long p2), .second, .val (.long p3), .second, .val (.long p4), .second, .val (.long p5), .second, .val (.int (0 : Int32)), .val (.int (1 : Int32)), .val (.int (0 : Int32)), .val (.int (1 : Int32)), .val (.int (0 : Int32)), .unset, .unset, .unset, .unset, .unset, .unset, .unset, .unset, .unset, .unset, .unset, .unset]) at_65 rfl rfl ?_
            refine Wk.iload (q := 69) at_67 rfl rfl ?_
            refine Wk.ifcT (q := 79) at_69 (by decide) rfl (by decide : (0 : Int32) = (0 : Int32)) ?_
            refine Wk.null (q := 80) at_79 rfl ?_
            refine Wk.astore (q := 82) (ls' := #[.val (.int p0), .val (.long p1), .second, .val (.long p2), .second, .val (.long p3), .second, .val (.long p4), .second, .val (.long p5), .second, .val (.int (0 : Int32)), .val (.int (1 : Int32)), .val (.int (0 : Int32)), .val (.int (1 : Int32)), .val (.int (0 : Int32)), .val .null, .unset, .unset, .unset, .unset, .unset, .unset, .unset, .unset, .unset, .unset, .unset]) at_80 rfl rfl rfl ?_
            refine Wk.iload (q := 84) at_82 rfl rfl ?_
            refine Wk.ifcF (q := 87) at_84 rfl (by decide : ¬ (1 : Int32) = (0 : Int32)) ?_
            refine Wk.lloadN (q := 88) at_87 rfl rfl ?_
            refine Wk.callS (q := 91) (argsL := [(.long p2)]) (rest := []) (rm := (⟨3, 1, 1, 39⟩ : Room)) (Q' := fun w h' => ∃ b x, w = .ref b ∧ Exa Z h' b "java/lang/Long" ∧ Fld Z h' b "java/lang/Long" "value" "J" (.long x) ∧ Keep _ h' []) (m_val hw F (own_ge O) p2) (w_54 hw) (w_55 hw) (w_56 hw) (w_57 hw) (by decide) pd_7 rfl rfl rfl at_88 rfl (W := 0) rfl (by decide) (by decide) (by decide) (by decide) ?_
            rintro _ h2 ⟨b1, y1, rfl, x1, g1, K2⟩
            have O := O.keep K2 all0
            have F := F0.ext O.2
            have L_b1 : LN Z h2 h2.size (.ref b1) := Or.inr ⟨b1, y1, rfl, x1.lt, x1, g1⟩
            refine Wk.goto (q := 95) at_91 (by decide) rfl ?_
            refine Wk.astore (q := 97) (ls' := #[.val (.int p0), .val (.long p1), .second, .val (.long p2), .second, .val (.long p3), .second, .val (.long p4), .second, .val (.long p5), .second, .val (.int (0 : Int32)), .val (.int (1 : Int32)), .val (.int (0 : Int32)), .val (.int (1 : Int32)), .val (.int (0 : Int32)), .val .null, .val (.ref b1), .unset, .unset, .unset, .unset, .unset, .unset, .unset, .unset, .unset, .unset]) at_95 rfl rfl rfl ?_
            refine Wk.iload (q := 99) at_97 rfl rfl ?_
            refine Wk.ifcT (q := 110) at_99 (by decide) rfl (by decide : (0 : Int32) = (0 : Int32)) ?_
            refine Wk.null (q := 111) at_110 rfl ?_
            refine Wk.astore (q := 113) (ls' := #[.val (.int p0), .val (.long p1), .second, .val (.long p2), .second, .val (.long p3), .second, .val (.long p4), .second, .val (.long p5), .second, .val (.int (0 : Int32)), .val (.int (1 : Int32)), .val (.int (0 : Int32)), .val (.int (1 : Int32)), .val (.int (0 : Int32)), .val .null, .val (.ref b1), .val .null, .unset, .unset, .unset, .unset, .unset, .unset, .unset, .unset, .unset]) at_111 rfl rfl rfl ?_
            refine Wk.iload (q := 115) at_113 rfl rfl ?_
            refine Wk.ifcT (q := 126) at_115 (by decide) rfl (by decide : (0 : Int32) = (0 : Int32)) ?_
            refine Wk.null (q := 127) at_126 rfl ?_
            refine Wk.astore (q := 129) (ls' := #[.val (.int p0), .val (.long p1), .second, .val (.long p2), .second, .val (.long p3), .second, .val (.long p4), .second, .val (.long p5), .second, .val (.int (0 : Int32)), .val (.int (1 : Int32)), .val (.int (0 : Int32)), .val (.int (1 : Int32)), .val (.int (0 : Int32)), .val .null, .val (.ref b1), .val .null, .val .null, .unset, .unset, .unset, .unset, .unset, .unset, .unset, .unset]) at_127 rfl rfl rfl ?_
            refine Wk.iload (q := 131) at_129 rfl rfl ?_
            refine Wk.ifcF (q := 134) at_131 rfl (by decide : ¬ (1 : Int32) = (0 : Int32)) ?_
            refine Wk.lload (q := 136) at_134 rfl rfl ?_
            refine Wk.callS (q := 139) (argsL := [(.long p4)]) (rest := []) (rm := (⟨3, 1, 1, 39⟩ : Room)) (Q' := fun w h' => ∃ b x, w = .ref b ∧ Exa Z h' b "java/lang/Long" ∧ Fld Z h' b "java/lang/Long" "value" "J" (.long x) ∧ Keep _ h' []) (m_val hw F (own_ge O) p4) (w_54 hw) (w_55 hw) (w_56 hw) (w_57 hw) (by decide) pd_7 rfl rfl rfl at_136 rfl (W := 0) rfl (by decide) (by decide) (by decide) (by decide) ?_
            rintro _ h2 ⟨b2, y2, rfl, x2, g2, K2⟩
            have L_b1 := (LN.keep L_b1 K2 all0).up K2.1
            have O := O.keep K2 all0
            have F := F0.ext O.2
            have L_b2 : LN Z h2 h2.size (.ref b2) := Or.inr ⟨b2, y2, rfl, x2.lt, x2, g2⟩
            refine Wk.goto (q := 143) at_139 (by decide) rfl ?_
            refine Wk.astore (q := 145) (ls' := #[.val (.int p0), .val (.long p1), .second, .val (.long p2), .second, .val (.long p3), .second, .val (.long p4), .second, .val (.long p5), .second, .val (.int (0 : Int32)), .val (.int (1 : Int32)), .val (.int (0 : Int32)), .val (.int (1 : Int32)), .val (.int (0 : Int32)), .val .null, .val (.ref b1), .val .null, .val .null, .val (.ref b2), .unset, .unset, .unset, .unset, .unset, .unset, .unset]) at_143 rfl rfl rfl ?_
            refine Wk.more (cl' := 5) (sl' := 5) (by decide) (by decide) ?_
            exact t145_nr hw (own_ge O) (Nat.le_refl _) p0 p1 p2 p3 p4 p5 (0 : Int32) (1 : Int32) (0 : Int32) L_b1 (Or.inl rfl) (Or.inl rfl) L_b2
          · refine Wk.iconst (q := 61) (v := (1 : Int32)) at_60 rfl rfl ?_
            refine Wk.goto (q := 65) at_61 (by decide) rfl ?_
            refine Wk.istore (q := 67) (ls' := #[.val (.int p0), .val (.long p1), .second, .val (.long p2), .second, .val (.long p3), .second, .val (.long p4), .second, .val (.long p5), .second, .val (.int (0 : Int32)), .val (.int (1 : Int32)), .val (.int (0 : Int32)), .val (.int (1 : Int32)), .val (.int (1 : Int32)), .unset, .unset, .unset, .unset, .unset, .unset, .unset, .unset, .unset, .unset, .unset, .unset]) at_65 rfl rfl ?_
            refine Wk.iload (q := 69) at_67 rfl rfl ?_
            refine Wk.ifcT (q := 79) at_69 (by decide) rfl (by decide : (0 : Int32) = (0 : Int32)) ?_
            refine Wk.null (q := 80) at_79 rfl ?_
            refine Wk.astore (q := 82) (ls' := #[.val (.int p0), .val (.long p1), .second, .val (.long p2), .second, .val (.long p3), .second, .val (.long p4), .second, .val (.long p5), .second, .val (.int (0 : Int32)), .val (.int (1 : Int32)), .val (.int (0 : Int32)), .val (.int (1 : Int32)), .val (.int (1 : Int32)), .val .null, .unset, .unset, .unset, .unset, .unset, .unset, .unset, .unset, .unset, .unset, .unset]) at_80 rfl rfl rfl ?_
            refine Wk.iload (q := 84) at_82 rfl rfl ?_
            refine Wk.ifcF (q := 87) at_84 rfl (by decide : ¬ (1 : Int32) = (0 : Int32)) ?_
            refine Wk.lloadN (q := 88) at_87 rfl rfl ?_
            refine Wk.callS (q := 91) (argsL := [(.long p2)]) (rest := []) (rm := (⟨3, 1, 1, 39⟩ : Room)) (Q' := fun w h' => ∃ b x, w = .ref b ∧ Exa Z h' b "java/lang/Long" ∧ Fld Z h' b "java/lang/Long" "value" "J" (.long x) ∧ Keep _ h' []) (m_val hw F (own_ge O) p2) (w_54 hw) (w_55 hw) (w_56 hw) (w_57 hw) (by decide) pd_7 rfl rfl rfl at_88 rfl (W := 0) rfl (by decide) (by decide) (by decide) (by decide) ?_
            rintro _ h2 ⟨b1, y1, rfl, x1, g1, K2⟩
            have O := O.keep K2 all0
            have F := F0.ext O.2
            have L_b1 : LN Z h2 h2.size (.ref b1) := Or.inr ⟨b1, y1, rfl, x1.lt, x1, g1⟩
            refine Wk.goto (q := 95) at_91 (by decide) rfl ?_
            refine Wk.astore (q := 97) (ls' := #[.val (.int p0), .val (.long p1), .second, .val (.long p2), .second, .val (.long p3), .second, .val (.long p4), .second, .val (.long p5), .second, .val (.int (0 : Int32)), .val (.int (1 : Int32)), .val (.int (0 : Int32)), .val (.int (1 : Int32)), .val (.int (1 : Int32)), .val .null, .val (.ref b1), .unset, .unset, .unset, .unset, .unset, .unset, .unset, .unset, .unset, .unset]) at_95 rfl rfl rfl ?_
            refine Wk.iload (q := 99) at_97 rfl rfl ?_
            refine Wk.ifcF (q := 102) at_99 rfl (by decide : ¬ (1 : Int32) = (0 : Int32)) ?_
            refine Wk.lload (q := 104) at_102 rfl rfl ?_
            refine Wk.callS (q := 107) (argsL := [(.long p5)]) (rest := []) (rm := (⟨3, 1, 1, 39⟩ : Room)) (Q' := fun w h' => ∃ b x, w = .ref b ∧ Exa Z h' b "java/lang/Long" ∧ Fld Z h' b "java/lang/Long" "value" "J" (.long x) ∧ Keep _ h' []) (m_val hw F (own_ge O) p5) (w_54 hw) (w_55 hw) (w_56 hw) (w_57 hw) (by decide) pd_7 rfl rfl rfl at_104 rfl (W := 0) rfl (by decide) (by decide) (by decide) (by decide) ?_
            rintro _ h2 ⟨b2, y2, rfl, x2, g2, K2⟩
            have L_b1 := (LN.keep L_b1 K2 all0).up K2.1
            have O := O.keep K2 all0
            have F := F0.ext O.2
            have L_b2 : LN Z h2 h2.size (.ref b2) := Or.inr ⟨b2, y2, rfl, x2.lt, x2, g2⟩
            refine Wk.goto (q := 111) at_107 (by decide) rfl ?_
            refine Wk.astore (q := 113) (ls' := #[.val (.int p0), .val (.long p1), .second, .val (.long p2), .second, .val (.long p3), .second, .val (.long p4), .second, .val (.long p5), .second, .val (.int (0 : Int32)), .val (.int (1 : Int32)), .val (.int (0 : Int32)), .val (.int (1 : Int32)), .val (.int (1 : Int32)), .val .null, .val (.ref b1), .val (.ref b2), .unset, .unset, .unset, .unset, .unset, .unset, .unset, .unset, .unset]) at_111 rfl rfl rfl ?_
            refine Wk.iload (q := 115) at_113 rfl rfl ?_
            refine Wk.ifcT (q := 126) at_115 (by decide) rfl (by decide : (0 : Int32) = (0 : Int32)) ?_
            refine Wk.null (q := 127) at_126 rfl ?_
            refine Wk.astore (q := 129) (ls' := #[.val (.int p0), .val (.long p1), .second, .val (.long p2), .second, .val (.long p3), .second, .val (.long p4), .second, .val (.long p5), .second, .val (.int (0 : Int32)), .val (.int (1 : Int32)), .val (.int (0 : Int32)), .val (.int (1 : Int32)), .val (.int (1 : Int32)), .val .null, .val (.ref b1), .val (.ref b2), .val .null, .unset, .unset, .unset, .unset, .unset, .unset, .unset, .unset]) at_127 rfl rfl rfl ?_
            refine Wk.iload (q := 131) at_129 rfl rfl ?_
            refine Wk.ifcF (q := 134) at_131 rfl (by decide : ¬ (1 : Int32) = (0 : Int32)) ?_
            refine Wk.lload (q := 136) at_134 rfl rfl ?_
            refine Wk.callS (q := 139) (argsL := [(.long p4)]) (rest := []) (rm := (⟨3, 1, 1, 39⟩ : Room)) (Q' := fun w h' => ∃ b x, w = .ref b ∧ Exa Z h' b "java/lang/Long" ∧ Fld Z h' b "java/lang/Long" "value" "J" (.long x) ∧ Keep _ h' []) (m_val hw F (own_ge O) p4) (w_54 hw) (w_55 hw) (w_56 hw) (w_57 hw) (by decide) pd_7 rfl rfl rfl at_136 rfl (W := 0) rfl (by decide) (by decide) (by decide) (by decide) ?_
            rintro _ h2 ⟨b3, y3, rfl, x3, g3, K2⟩
            have L_b1 := (LN.keep L_b1 K2 all0).up K2.1
            have L_b2 := (LN.keep L_b2 K2 all0).up K2.1
            have O := O.keep K2 all0
            have F := F0.ext O.2
            have L_b3 : LN Z h2 h2.size (.ref b3) := Or.inr ⟨b3, y3, rfl, x3.lt, x3, g3⟩
            refine Wk.goto (q := 143) at_139 (by decide) rfl ?_
            refine Wk.astore (q := 145) (ls' := #[.val (.int p0), .val (.long p1), .second, .val (.long p2), .second, .val (.long p3), .second, .val (.long p4), .second, .val (.long p5), .second, .val (.int (0 : Int32)), .val (.int (1 : Int32)), .val (.int (0 : Int32)), .val (.int (1 : Int32)), .val (.int (1 : Int32)), .val .null, .val (.ref b1), .val (.ref b2), .val .null, .val (.ref b3), .unset, .unset, .unset, .unset, .unset, .unset, .unset]) at_143 rfl rfl rfl ?_
            refine Wk.more (cl' := 5) (sl' := 5) (by decide) (by decide) ?_
            exact t145_nr hw (own_ge O) (Nat.le_refl _) p0 p1 p2 p3 p4 p5 (0 : Int32) (1 : Int32) (1 : Int32) L_b1 L_b2 (Or.inl rfl) L_b3
      · refine Wk.iconst (q := 33) (v := (1 : Int32)) at_32 rfl rfl ?_
        refine Wk.goto (q := 37) at_33 (by decide) rfl ?_
        refine Wk.istore (q := 39) (ls' := #[.val (.int p0), .val (.long p1), .second, .val (.long p2), .second, .val (.long p3), .second, .val (.long p4), .second, .val (.long p5), .second, .val (.int (0 : Int32)), .val (.int (1 : Int32)), .val (.int (1 : Int32)), .unset, .unset, .unset, .unset, .unset, .unset, .unset, .unset, .unset, .unset, .unset, .unset, .unset, .unset]) at_37 rfl rfl ?_
        refine Wk.iloadN (q := 40) at_39 rfl rfl ?_
        refine Wk.bipush (q := 42) (v := (8 : Int32)) at_40 rfl rfl ?_
        refine Wk.iand (q := 43) (v := (p0 &&& (8 : Int32))) at_42 rfl rfl ?_
        refine Wk.ifc (q := 50) (q' := 46) at_43 (by decide) rfl rfl (fun (h14 : (p0 &&& (8 : Int32)) = (0 : Int32)) => ?_) (fun (h14 : ¬ (p0 &&& (8 : Int32)) = (0 : Int32)) => ?_)
        · refine Wk.iconst (q := 51) (v := (0 : Int32)) at_50 rfl rfl ?_
          refine Wk.istore (q := 53) (ls' := #[.val (.int p0), .val (.long p1), .second, .val (.long p2), .second, .val (.long p3), .second, .val (.long p4), .second, .val (.long p5), .second, .val (.int (0 : Int32)), .val (.int (1 : Int32)), .val (.int (1 : Int32)), .val (.int (0 : Int32)), .unset, .unset, .unset, .unset, .unset, .unset, .unset, .unset, .unset, .unset, .unset, .unset, .unset]) at_51 rfl rfl ?_
          refine Wk.iloadN (q := 54) at_53 rfl rfl ?_
          refine Wk.bipush (q := 56) (v := (16 : Int32)) at_54 rfl rfl ?_
          refine Wk.iand (q := 57) (v := (p0 &&& (16 : Int32))) at_56 rfl rfl ?_
          refine Wk.ifc (q := 64) (q' := 60) at_57 (by decide) rfl rfl (fun (h15 : (p0 &&& (16 : Int32)) = (0 : Int32)) => ?_) (fun (h15 : ¬ (p0 &&& (16 : Int32)) = (0 : Int32)) => ?_)
          · refine Wk.iconst (q := 65) (v := (0 : Int32)) at_64 rfl rfl ?_
            refine Wk.istore (q := 67) (ls' := #[.val (.int p0), .val (.long p1), .second, .val (.long p2), .second, .val (.long p3), .second, .val (.long p4), .second, .val (.long p5), .second, .val (.int (0 : Int32)), .val (.int (1 : Int32)), .val (.int (1 : Int32)), .val (.int (0 : Int32)), .val (.int (0 : Int32)), .unset, .unset, .unset, .unset, .unset, .unset, .unset, .unset, .unset, .unset, .unset, .unset]) at_65 rfl rfl ?_
            refine Wk.iload (q := 69) at_67 rfl rfl ?_
            refine Wk.ifcT (q := 79) at_69 (by decide) rfl (by decide : (0 : Int32) = (0 : Int32)) ?_
            refine Wk.null (q := 80) at_79 rfl ?_
            refine Wk.astore (q := 82) (ls' := #[.val (.int p0), .val (.long p1), .second, .val (.long p2), .second, .val (.long p3), .second, .val (.long p4), .second, .val (.long p5), .second, .val (.int (0 : Int32)), .val (.int (1 : Int32)), .val (.int (1 : Int32)), .val (.int (0 : Int32)), .val (.int (0 : Int32)), .val .null, .unset, .unset, .unset, .unset, .unset, .unset, .unset, .unset, .unset, .unset, .unset]) at_80 rfl rfl rfl ?_
            refine Wk.iload (q := 84) at_82 rfl rfl ?_
            refine Wk.ifcF (q := 87) at_84 rfl (by decide : ¬ (1 : Int32) = (0 : Int32)) ?_
            refine Wk.lloadN (q := 88) at_87 rfl rfl ?_
            refine Wk.callS (q := 91) (argsL := [(.long p2)]) (rest := []) (rm := (⟨3, 1, 1, 39⟩ : Room)) (Q' := fun w h' => ∃ b x, w = .ref b ∧ Exa Z h' b "java/lang/Long" ∧ Fld Z h' b "java/lang/Long" "value" "J" (.long x) ∧ Keep _ h' []) (m_val hw F (own_ge O) p2) (w_54 hw) (w_55 hw) (w_56 hw) (w_57 hw) (by decide) pd_7 rfl rfl rfl at_88 rfl (W := 0) rfl (by decide) (by decide) (by decide) (by decide) ?_
            rintro _ h2 ⟨b1, y1, rfl, x1, g1, K2⟩
            have O := O.keep K2 all0
            have F := F0.ext O.2
            have L_b1 : LN Z h2 h2.size (.ref b1) := Or.inr ⟨b1, y1, rfl, x1.lt, x1, g1⟩
            refine Wk.goto (q := 95) at_91 (by decide) rfl ?_
            refine Wk.astore (q := 97) (ls' := #[.val (.int p0), .val (.long p1), .second, .val (.long p2), .second, .val (.long p3), .second, .val (.long p4), .second, .val (.long p5), .second, .val (.int (0 : Int32)), .val (.int (1 : Int32)), .val (.int (1 : Int32)), .val (.int (0 : Int32)), .val (.int (0 : Int32)), .val .null, .val (.ref b1), .unset, .unset, .unset, .unset, .unset, .unset, .unset, .unset, .unset, .unset]) at_95 rfl rfl rfl ?_
            refine Wk.iload (q := 99) at_97 rfl rfl ?_
            refine Wk.ifcT (q := 110) at_99 (by decide) rfl (by decide : (0 : Int32) = (0 : Int32)) ?_
            refine Wk.null (q := 111) at_110 rfl ?_
            refine Wk.astore (q := 113) (ls' := #[.val (.int p0), .val (.long p1), .second, .val (.long p2), .second, .val (.long p3), .second, .val (.long p4), .second, .val (.long p5), .second, .val (.int (0 : Int32)), .val (.int (1 : Int32)), .val (.int (1 : Int32)), .val (.int (0 : Int32)), .val (.int (0 : Int32)), .val .null, .val (.ref b1), .val .null, .unset, .unset, .unset, .unset, .unset, .unset, .unset, .unset, .unset]) at_111 rfl rfl rfl ?_
            refine Wk.iload (q := 115) at_113 rfl rfl ?_
            refine Wk.ifcF (q := 118) at_115 rfl (by decide : ¬ (1 : Int32) = (0 : Int32)) ?_
            refine Wk.lload (q := 120) at_118 rfl rfl ?_
            refine Wk.callS (q := 123) (argsL := [(.long p3)]) (rest := []) (rm := (⟨3, 1, 1, 39⟩ : Room)) (Q' := fun w h' => ∃ b x, w = .ref b ∧ Exa Z h' b "java/lang/Long" ∧ Fld Z h' b "java/lang/Long" "value" "J" (.long x) ∧ Keep _ h' []) (m_val hw F (own_ge O) p3) (w_54 hw) (w_55 hw) (w_56 hw) (w_57 hw) (by decide) pd_7 rfl rfl rfl at_120 rfl (W := 0) rfl (by decide) (by decide) (by decide) (by decide) ?_
            rintro _ h2 ⟨b2, y2, rfl, x2, g2, K2⟩
            have L_b1 := (LN.keep L_b1 K2 all0).up K2.1
            have O := O.keep K2 all0
            have F := F0.ext O.2
            have L_b2 : LN Z h2 h2.size (.ref b2) := Or.inr ⟨b2, y2, rfl, x2.lt, x2, g2⟩
            refine Wk.goto (q := 127) at_123 (by decide) rfl ?_
            refine Wk.astore (q := 129) (ls' := #[.val (.int p0), .val (.long p1), .second, .val (.long p2), .second, .val (.long p3), .second, .val (.long p4), .second, .val (.long p5), .second, .val (.int (0 : Int32)), .val (.int (1 : Int32)), .val (.int (1 : Int32)), .val (.int (0 : Int32)), .val (.int (0 : Int32)), .val .null, .val (.ref b1), .val .null, .val (.ref b2), .unset, .unset, .unset, .unset, .unset, .unset, .unset, .unset]) at_127 rfl rfl rfl ?_
            refine Wk.iload (q := 131) at_129 rfl rfl ?_
            refine Wk.ifcT (q := 142) at_131 (by decide) rfl (by decide : (0 : Int32) = (0 : Int32)) ?_
            refine Wk.null (q := 143) at_142 rfl ?_
            refine Wk.astore (q := 145) (ls' := #[.val (.int p0), .val (.long p1), .second, .val (.long p2), .second, .val (.long p3), .second, .val (.long p4), .second, .val (.long p5), .second, .val (.int (0 : Int32)), .val (.int (1 : Int32)), .val (.int (1 : Int32)), .val (.int (0 : Int32)), .val (.int (0 : Int32)), .val .null, .val (.ref b1), .val .null, .val (.ref b2), .val .null, .unset, .unset, .unset, .unset, .unset, .unset, .unset]) at_143 rfl rfl rfl ?_
            refine Wk.more (cl' := 5) (sl' := 5) (by decide) (by decide) ?_
            exact t145_nr hw (own_ge O) (Nat.le_refl _) p0 p1 p2 p3 p4 p5 (1 : Int32) (0 : Int32) (0 : Int32) L_b1 (Or.inl rfl) L_b2 (Or.inl rfl)
          · refine Wk.iconst (q := 61) (v := (1 : Int32)) at_60 rfl rfl ?_
            refine Wk.goto (q := 65) at_61 (by decide) rfl ?_
            refine Wk.istore (q := 67) (ls' := #[.val (.int p0), .val (.long p1), .second, .val (.long p2), .second, .val (.long p3), .second, .val (.long p4), .second, .val (.long p5), .second, .val (.int (0 : Int32)), .val (.int (1 : Int32)), .val (.int (1 : Int32)), .val (.int (0 : Int32)), .val (.int (1 : Int32)), .unset, .unset, .unset, .unset, .unset, .unset, .unset, .unset, .unset, .unset, .unset, .unset]) at_65 rfl rfl ?_
            refine Wk.iload (q := 69) at_67 rfl rfl ?_
            refine Wk.ifcT (q := 79) at_69 (by decide) rfl (by decide : (0 : Int32) = (0 : Int32)) ?_
            refine Wk.null (q := 80) at_79 rfl ?_
            refine Wk.astore (q := 82) (ls' := #[.val (.int p0), .val (.long p1), .second, .val (.long p2), .second, .val (.long p3), .second, .val (.long p4), .second, .val (.long p5), .second, .val (.int (0 : Int32)), .val (.int (1 : Int32)), .val (.int (1 : Int32)), .val (.int (0 : Int32)), .val (.int (1 : Int32)), .val .null, .unset, .unset, .unset, .unset, .unset, .unset, .unset, .unset, .unset, .unset, .unset]) at_80 rfl rfl rfl ?_
            refine Wk.iload (q := 84) at_82 rfl rfl ?_
            refine Wk.ifcF (q := 87) at_84 rfl (by decide : ¬ (1 : Int32) = (0 : Int32)) ?_
            refine Wk.lloadN (q := 88) at_87 rfl rfl ?_
            refine Wk.callS (q := 91) (argsL := [(.long p2)]) (rest := []) (rm := (⟨3, 1, 1, 39⟩ : Room)) (Q' := fun w h' => ∃ b x, w = .ref b ∧ Exa Z h' b "java/lang/Long" ∧ Fld Z h' b "java/lang/Long" "value" "J" (.long x) ∧ Keep _ h' []) (m_val hw F (own_ge O) p2) (w_54 hw) (w_55 hw) (w_56 hw) (w_57 hw) (by decide) pd_7 rfl rfl rfl at_88 rfl (W := 0) rfl (by decide) (by decide) (by decide) (by decide) ?_
            rintro _ h2 ⟨b1, y1, rfl, x1, g1, K2⟩
            have O := O.keep K2 all0
            have F := F0.ext O.2
            have L_b1 : LN Z h2 h2.size (.ref b1) := Or.inr ⟨b1, y1, rfl, x1.lt, x1, g1⟩
            refine Wk.goto (q := 95) at_91 (by decide) rfl ?_
            refine Wk.astore (q := 97) (ls' := #[.val (.int p0), .val (.long p1), .second, .val (.long p2), .second, .val (.long p3), .second, .val (.long p4), .second, .val (.long p5), .second, .val (.int (0 : Int32)), .val (.int (1 : Int32)), .val (.int (1 : Int32)), .val (.int (0 : Int32)), .val (.int (1 : Int32)), .val .null, .val (.ref b1), .unset, .unset, .unset, .unset, .unset, .unset, .unset, .unset, .unset, .unset]) at_95 rfl rfl rfl ?_
            refine Wk.iload (q := 99) at_97 rfl rfl ?_
            refine Wk.ifcF (q := 102) at_99 rfl (by decide : ¬ (1 : Int32) = (0 : Int32)) ?_
            refine Wk.lload (q := 104) at_102 rfl rfl ?_
            refine Wk.callS (q := 107) (argsL := [(.long p5)]) (rest := []) (rm := (⟨3, 1, 1, 39⟩ : Room)) (Q' := fun w h' => ∃ b x, w = .ref b ∧ Exa Z h' b "java/lang/Long" ∧ Fld Z h' b "java/lang/Long" "value" "J" (.long x) ∧ Keep _ h' []) (m_val hw F (own_ge O) p5) (w_54 hw) (w_55 hw) (w_56 hw) (w_57 hw) (by decide) pd_7 rfl rfl rfl at_104 rfl (W := 0) rfl (by decide) (by decide) (by decide) (by decide) ?_
            rintro _ h2 ⟨b2, y2, rfl, x2, g2, K2⟩
            have L_b1 := (LN.keep L_b1 K2 all0).up K2.1
            have O := O.keep K2 all0
            have F := F0.ext O.2
            have L_b2 : LN Z h2 h2.size (.ref b2) := Or.inr ⟨b2, y2, rfl, x2.lt, x2, g2⟩
            refine Wk.goto (q := 111) at_107 (by decide) rfl ?_
            refine Wk.astore (q := 113) (ls' := #[.val (.int p0), .val (.long p1), .second, .val (.long p2), .second, .val (.long p3), .second, .val (.long p4), .second, .val (.long p5), .second, .val (.int (0 : Int32)), .val (.int (1 : Int32)), .val (.int (1 : Int32)), .val (.int (0 : Int32)), .val (.int (1 : Int32)), .val .null, .val (.ref b1), .val (.ref b2), .unset, .unset, .unset, .unset, .unset, .unset, .unset, .unset, .unset]) at_111 rfl rfl rfl ?_
            refine Wk.iload (q := 115) at_113 rfl rfl ?_
            refine Wk.ifcF (q := 118) at_115 rfl (by decide : ¬ (1 : Int32) = (0 : Int32)) ?_
            refine Wk.lload (q := 120) at_118 rfl rfl ?_
            refine Wk.callS (q := 123) (argsL := [(.long p3)]) (rest := []) (rm := (⟨3, 1, 1, 39⟩ : Room)) (Q' := fun w h' => ∃ b x, w = .ref b ∧ Exa Z h' b "java/lang/Long" ∧ Fld Z h' b "java/lang/Long" "value" "J" (.long x) ∧ Keep _ h' []) (m_val hw F (own_ge O) p3) (w_54 hw) (w_55 hw) (w_56 hw) (w_57 hw) (by decide) pd_7 rfl rfl rfl at_120 rfl (W := 0) rfl (by decide) (by decide) (by decide) (by decide) ?_
            rintro _ h2 ⟨b3, y3, rfl, x3, g3, K2⟩
            have L_b1 := (LN.keep L_b1 K2 all0).up K2.1
            have L_b2 := (LN.keep L_b2 K2 all0).up K2.1
            have O := O.keep K2 all0
            have F := F0.ext O.2
            have L_b3 : LN Z h2 h2.size (.ref b3) := Or.inr ⟨b3, y3, rfl, x3.lt, x3, g3⟩
            refine Wk.goto (q := 127) at_123 (by decide) rfl ?_
            refine Wk.astore (q := 129) (ls' := #[.val (.int p0), .val (.long p1), .second, .val (.long p2), .second, .val (.long p3), .second, .val (.long p4), .second, .val (.long p5), .second, .val (.int (0 : Int32)), .val (.int (1 : Int32)), .val (.int (1 : Int32)), .val (.int (0 : Int32)), .val (.int (1 : Int32)), .val .null, .val (.ref b1), .val (.ref b2), .val (.ref b3), .unset, .unset, .unset, .unset, .unset, .unset, .unset, .unset]) at_127 rfl rfl rfl ?_
            refine Wk.iload (q := 131) at_129 rfl rfl ?_
            refine Wk.ifcT (q := 142) at_131 (by decide) rfl (by decide : (0 : Int32) = (0 : Int32)) ?_
            refine Wk.null (q := 143) at_142 rfl ?_
            refine Wk.astore (q := 145) (ls' := #[.val (.int p0), .val (.long p1), .second, .val (.long p2), .second, .val (.long p3), .second, .val (.long p4), .second, .val (.long p5), .second, .val (.int (0 : Int32)), .val (.int (1 : Int32)), .val (.int (1 : Int32)), .val (.int (0 : Int32)), .val (.int (1 : Int32)), .val .null, .val (.ref b1), .val (.ref b2), .val (.ref b3), .val .null, .unset, .unset, .unset, .unset, .unset, .unset, .unset]) at_143 rfl rfl rfl ?_
            refine Wk.more (cl' := 5) (sl' := 5) (by decide) (by decide) ?_
            exact t145_nr hw (own_ge O) (Nat.le_refl _) p0 p1 p2 p3 p4 p5 (1 : Int32) (0 : Int32) (1 : Int32) L_b1 L_b2 L_b3 (Or.inl rfl)
        · refine Wk.iconst (q := 47) (v := (1 : Int32)) at_46 rfl rfl ?_
          refine Wk.goto (q := 51) at_47 (by decide) rfl ?_
          refine Wk.istore (q := 53) (ls' := #[.val (.int p0), .val (.long p1), .second, .val (.long p2), .second, .val (.long p3), .second, .val (.long p4), .second, .val (.long p5), .second, .val (.int (0 : Int32)), .val (.int (1 : Int32)), .val (.int (1 : Int32)), .val (.int (1 : Int32)), .unset, .unset, .unset, .unset, .unset, .unset, .unset, .unset, .unset, .unset, .unset, .unset, .unset]) at_51 rfl rfl ?_
          refine Wk.iloadN (q := 54) at_53 rfl rfl ?_
          refine Wk.bipush (q := 56) (v := (16 : Int32)) at_54 rfl rfl ?_
          refine Wk.iand (q := 57) (v := (p0 &&& (16 : Int32))) at_56 rfl rfl ?_
          refine Wk.ifc (q := 64) (q' := 60) at_57 (by decide) rfl rfl (fun (h16 : (p0 &&& (16 : Int32)) = (0 : Int32)) => ?_) (fun (h16 : ¬ (p0 &&& (16 : Int32)) = (0 : Int32)) => ?_)
          · refine Wk.iconst (q := 65) (v := (0 : Int32)) at_64 rfl rfl ?_
            refine Wk.istore (q := 67) (ls' := #[.val (.int p0), .val (.long p1), .second, .val (.long p2), .second, .val (.long p3), .second, .val (.long p4), .second, .val (.long p5), .second, .val (.int (0 : Int32)), .val (.int (1 : Int32)), .val (.int (1 : Int32)), .val (.int (1 : Int32)), .val (.int (0 : Int32)), .unset, .unset, .unset, .unset, .unset, .unset, .unset, .unset, .unset, .unset, .unset, .unset]) at_65 rfl rfl ?_
            refine Wk.iload (q := 69) at_67 rfl rfl ?_
            refine Wk.ifcT (q := 79) at_69 (by decide) rfl (by decide : (0 : Int32) = (0 : Int32)) ?_
            refine Wk.null (q := 80) at_79 rfl ?_
            refine Wk.astore (q := 82) (ls' := #[.val (.int p0), .val (.long p1), .second, .val (.long p2), .second, .val (.long p3), .second, .val (.long p4), .second, .val (.long p5), .second, .val (.int (0 : Int32)), .val (.int (1 : Int32)), .val (.int (1 : Int32)), .val (.int (1 : Int32)), .val (.int (0 : Int32)), .val .null, .unset, .unset, .unset, .unset, .unset, .unset, .unset, .unset, .unset, .unset, .unset]) at_80 rfl rfl rfl ?_
            refine Wk.iload (q := 84) at_82 rfl rfl ?_
            refine Wk.ifcF (q := 87) at_84 rfl (by decide : ¬ (1 : Int32) = (0 : Int32)) ?_
            refine Wk.lloadN (q := 88) at_87 rfl rfl ?_
            refine Wk.callS (q := 91) (argsL := [(.long p2)]) (rest := []) (rm := (⟨3, 1, 1, 39⟩ : Room)) (Q' := fun w h' => ∃ b x, w = .ref b ∧ Exa Z h' b "java/lang/Long" ∧ Fld Z h' b "java/lang/Long" "value" "J" (.long x) ∧ Keep _ h' []) (m_val hw F (own_ge O) p2) (w_54 hw) (w_55 hw) (w_56 hw) (w_57 hw) (by decide) pd_7 rfl rfl rfl at_88 rfl (W := 0) rfl (by decide) (by decide) (by decide) (by decide) ?_
            rintro _ h2 ⟨b1, y1, rfl, x1, g1, K2⟩
            have O := O.keep K2 all0
            have F := F0.ext O.2
            have L_b1 : LN Z h2 h2.size (.ref b1) := Or.inr ⟨b1, y1, rfl, x1.lt, x1, g1⟩
            refine Wk.goto (q := 95) at_91 (by decide) rfl ?_
            refine Wk.astore (q := 97) (ls' := #[.val (.int p0), .val (.long p1), .second, .val (.long p2), .second, .val (.long p3), .second, .val (.long p4), .second, .val (.long p5), .second, .val (.int (0 : Int32)), .val (.int (1 : Int32)), .val (.int (1 : Int32)), .val (.int (1 : Int32)), .val (.int (0 : Int32)), .val .null, .val (.ref b1), .unset, .unset, .unset, .unset, .unset, .unset, .unset, .unset, .unset, .unset]) at_95 rfl rfl rfl ?_
            refine Wk.iload (q := 99) at_97 rfl rfl ?_
            refine Wk.ifcT (q := 110) at_99 (by decide) rfl (by decide : (0 : Int32) = (0 : Int32)) ?_
            refine Wk.null (q := 111) at_110 rfl ?_
            refine Wk.astore (q := 113) (ls' := #[.val (.int p0), .val (.long p1), .second, .val (.long p2), .second, .val (.long p3), .second, .val (.long p4), .second, .val (.long p5), .second, .val (.int (0 : Int32)), .val (.int (1 : Int32)), .val (.int (1 : Int32)), .val (.int (1 : Int32)), .val (.int (0 : Int32)), .val .null, .val (.ref b1), .val .null, .unset, .unset, .unset, .unset, .unset, .unset, .unset, .unset, .unset]) at_111 rfl rfl rfl ?_
            refine Wk.iload (q := 115) at_113 rfl rfl ?_
            refine Wk.ifcF (q := 118) at_115 rfl (by decide : ¬ (1 : Int32) = (0 : Int32)) ?_
            refine Wk.lload (q := 120) at_118 rfl rfl ?_
            refine Wk.callS (q := 123) (argsL := [(.long p3)]) (rest := []) (rm := (⟨3, 1, 1, 39⟩ : Room)) (Q' := fun w h' => ∃ b x, w = .ref b ∧ Exa Z h' b "java/lang/Long" ∧ Fld Z h' b "java/lang/Long" "value" "J" (.long x) ∧ Keep _ h' []) (m_val hw F (own_ge O) p3) (w_54 hw) (w_55 hw) (w_56 hw) (w_57 hw) (by decide) pd_7 rfl rfl rfl at_120 rfl (W := 0) rfl (by decide) (by decide) (by decide) (by decide) ?_
            rintro _ h2 ⟨b2, y2, rfl, x2, g2, K2⟩
            have L_b1 := (LN.keep L_b1 K2 all0).up K2.1
            have O := O.keep K2 all0
            have F := F0.ext O.2
            have L_b2 : LN Z h2 h2.size (.ref b2) := Or.inr ⟨b2, y2, rfl, x2.lt, x2, g2⟩
            refine Wk.goto (q := 127) at_123 (by decide) rfl ?_
            refine Wk.astore (q := 129) (ls' := #[.val (.int p0), .val (.long p1), .second, .val (.long p2), .second, .val (.long p3), .second, .val (.long p4), .second, .val (.long p5), .second, .val (.int (0 : Int32)), .val (.int (1 : Int32)), .val (.int (1 : Int32)), .val (.int (1 : Int32)), .val (.int (0 : Int32)), .val .null, .val (.ref b1), .val .null, .val (.ref b2), .unset, .unset, .unset, .unset, .unset, .unset, .unset, .unset]) at_127 rfl rfl rfl ?_
            refine Wk.iload (q := 131) at_129 rfl rfl ?_
            refine Wk.ifcF (q := 134) at_131 rfl (by decide : ¬ (1 : Int32) = (0 : Int32)) ?_
            refine Wk.lload (q := 136) at_134 rfl rfl ?_
            refine Wk.callS (q := 139) (argsL := [(.long p4)]) (rest := []) (rm := (⟨3, 1, 1, 39⟩ : Room)) (Q' := fun w h' => ∃ b x, w = .ref b ∧ Exa Z h' b "java/lang/Long" ∧ Fld Z h' b "java/lang/Long" "value" "J" (.long x) ∧ Keep _ h' []) (m_val hw F (own_ge O) p4) (w_54 hw) (w_55 hw) (w_56 hw) (w_57 hw) (by decide) pd_7 rfl rfl rfl at_136 rfl (W := 0) rfl (by decide) (by decide) (by decide) (by decide) ?_
            rintro _ h2 ⟨b3, y3, rfl, x3, g3, K2⟩
            have L_b1 := (LN.keep L_b1 K2 all0).up K2.1
            have L_b2 := (LN.keep L_b2 K2 all0).up K2.1
            have O := O.keep K2 all0
            have F := F0.ext O.2
            have L_b3 : LN Z h2 h2.size (.ref b3) := Or.inr ⟨b3, y3, rfl, x3.lt, x3, g3⟩
            refine Wk.goto (q := 143) at_139 (by decide) rfl ?_
            refine Wk.astore (q := 145) (ls' := #[.val (.int p0), .val (.long p1), .second, .val (.long p2), .second, .val (.long p3), .second, .val (.long p4), .second, .val (.long p5), .second, .val (.int (0 : Int32)), .val (.int (1 : Int32)), .val (.int (1 : Int32)), .val (.int (1 : Int32)), .val (.int (0 : Int32)), .val .null, .val (.ref b1), .val .null, .val (.ref b2), .val (.ref b3), .unset, .unset, .unset, .unset, .unset, .unset, .unset]) at_143 rfl rfl rfl ?_
            refine Wk.more (cl' := 5) (sl' := 5) (by decide) (by decide) ?_
            exact t145_nr hw (own_ge O) (Nat.le_refl _) p0 p1 p2 p3 p4 p5 (1 : Int32) (1 : Int32) (0 : Int32) L_b1 (Or.inl rfl) L_b2 L_b3
          · refine Wk.iconst (q := 61) (v := (1 : Int32)) at_60 rfl rfl ?_
            refine Wk.goto (q := 65) at_61 (by decide) rfl ?_
            refine Wk.istore (q := 67) (ls' := #[.val (.int p0), .val (.long p1), .second, .val (.long p2), .second, .val (.long p3), .second, .val (.long p4), .second, .val (.long p5), .second, .val (.int (0 : Int32)), .val (.int (1 : Int32)), .val (.int (1 : Int32)), .val (.int (1 : Int32)), .val (.int (1 : Int32)), .unset, .unset, .unset, .unset, .unset, .unset, .unset, .unset, .unset, .unset, .unset, .unset]) at_65 rfl rfl ?_
            refine Wk.iload (q := 69) at_67 rfl rfl ?_
            refine Wk.ifcT (q := 79) at_69 (by decide) rfl (by decide : (0 : Int32) = (0 : Int32)) ?_
            refine Wk.null (q := 80) at_79 rfl ?_
            refine Wk.astore (q := 82) (ls' := #[.val (.int p0), .val (.long p1), .second, .val (.long p2), .second, .val (.long p3), .second, .val (.long p4), .second, .val (.long p5), .second, .val (.int (0 : Int32)), .val (.int (1 : Int32)), .val (.int (1 : Int32)), .val (.int (1 : Int32)), .val (.int (1 : Int32)), .val .null, .unset, .unset, .unset, .unset, .unset, .unset, .unset, .unset, .unset, .unset, .unset]) at_80 rfl rfl rfl ?_
            refine Wk.iload (q := 84) at_82 rfl rfl ?_
            refine Wk.ifcF (q := 87) at_84 rfl (by decide : ¬ (1 : Int32) = (0 : Int32)) ?_
            refine Wk.lloadN (q := 88) at_87 rfl rfl ?_
            refine Wk.callS (q := 91) (argsL := [(.long p2)]) (rest := []) (rm := (⟨3, 1, 1, 39⟩ : Room)) (Q' := fun w h' => ∃ b x, w = .ref b ∧ Exa Z h' b "java/lang/Long" ∧ Fld Z h' b "java/lang/Long" "value" "J" (.long x) ∧ Keep _ h' []) (m_val hw F (own_ge O) p2) (w_54 hw) (w_55 hw) (w_56 hw) (w_57 hw) (by decide) pd_7 rfl rfl rfl at_88 rfl (W := 0) rfl (by decide) (by decide) (by decide) (by decide) ?_
            rintro _ h2 ⟨b1, y1, rfl, x1, g1, K2⟩
            have O := O.keep K2 all0
            have F := F0.ext O.2
            have L_b1 : LN Z h2 h2.size (.ref b1) := Or.inr ⟨b1, y1, rfl, x1.lt, x1, g1⟩
            refine Wk.goto (q := 95) at_91 (by decide) rfl ?_
            refine Wk.astore (q := 97) (ls' := #[.val (.int p0), .val (.long p1), .second, .val (.long p2), .second, .val (.long p3), .second, .val (.long p4), .second, .val (.long p5), .second, .val (.int (0 : Int32)), .val (.int (1 : Int32)), .val (.int (1 : Int32)), .val (.int (1 : Int32)), .val (.int (1 : Int32)), .val .null, .val (.ref b1), .unset, .unset, .unset, .unset, .unset, .unset, .unset, .unset, .unset, .unset]) at_95 rfl rfl rfl ?_
            refine Wk.iload (q := 99) at_97 rfl rfl ?_
            refine Wk.ifcF (q := 102) at_99 rfl (by decide : ¬ (1 : Int32) = (0 : Int32)) ?_
            refine Wk.lload (q := 104) at_102 rfl rfl ?_
            refine Wk.callS (q := 107) (argsL := [(.long p5)]) (rest := []) (rm := (⟨3, 1, 1, 39⟩ : Room)) (Q' := fun w h' => ∃ b x, w = .ref b ∧ Exa Z h' b "java/lang/Long" ∧ Fld Z h' b "java/lang/Long" "value" "J" (.long x) ∧ Keep _ h' []) (m_val hw F (own_ge O) p5) (w_54 hw) (w_55 hw) (w_56 hw) (w_57 hw) (by decide) pd_7 rfl rfl rfl at_104 rfl (W := 0) rfl (by decide) (by decide) (by decide) (by decide) ?_
            rintro _ h2 ⟨b2, y2, rfl, x2, g2, K2⟩
            have L_b1 := (LN.keep L_b1 K2 all0).up K2.1
            have O := O.keep K2 all0
            have F := F0.ext O.2
            have L_b2 : LN Z h2 h2.size (.ref b2) := Or.inr ⟨b2, y2, rfl, x2.lt, x2, g2⟩
            refine Wk.goto (q := 111) at_107 (by decide) rfl ?_
            refine Wk.astore (q := 113) (ls' := #[.val (.int p0), .val (.long p1), .second, .val (.long p2), .second, .val (.long p3), .second, .val (.long p4), .second, .val (.long p5), .second, .val (.int (0 : Int32)), .val (.int (1 : Int32)), .val (.int (1 : Int32)), .val (.int (1 : Int32)), .val (.int (1 : Int32)), .val .null, .val (.ref b1), .val (.ref b2), .unset, .unset, .unset, .unset, .unset, .unset, .unset, .unset, .unset]) at_111 rfl rfl rfl ?_
            refine Wk.iload (q := 115) at_113 rfl rfl ?_
            refine Wk.ifcF (q := 118) at_115 rfl (by decide : ¬ (1 : Int32) = (0 : Int32)) ?_
            refine Wk.lload (q := 120) at_118 rfl rfl ?_
            refine Wk.callS (q := 123) (argsL := [(.long p3)]) (rest := []) (rm := (⟨3, 1, 1, 39⟩ : Room)) (Q' := fun w h' => ∃ b x, w = .ref b ∧ Exa Z h' b "java/lang/Long" ∧ Fld Z h' b "java/lang/Long" "value" "J" (.long x) ∧ Keep _ h' []) (m_val hw F (own_ge O) p3) (w_54 hw) (w_55 hw) (w_56 hw) (w_57 hw) (by decide) pd_7 rfl rfl rfl at_120 rfl (W := 0) rfl (by decide) (by decide) (by decide) (by decide) ?_
            rintro _ h2 ⟨b3, y3, rfl, x3, g3, K2⟩
            have L_b1 := (LN.keep L_b1 K2 all0).up K2.1
            have L_b2 := (LN.keep L_b2 K2 all0).up K2.1
            have O := O.keep K2 all0
            have F := F0.ext O.2
            have L_b3 : LN Z h2 h2.size (.ref b3) := Or.inr ⟨b3, y3, rfl, x3.lt, x3, g3⟩
            refine Wk.goto (q := 127) at_123 (by decide) rfl ?_
            refine Wk.astore (q := 129) (ls' := #[.val (.int p0), .val (.long p1), .second, .val (.long p2), .second, .val (.long p3), .second, .val (.long p4), .second, .val (.long p5), .second, .val (.int (0 : Int32)), .val (.int (1 : Int32)), .val (.int (1 : Int32)), .val (.int (1 : Int32)), .val (.int (1 : Int32)), .val .null, .val (.ref b1), .val (.ref b2), .val (.ref b3), .unset, .unset, .unset, .unset, .unset, .unset, .unset, .unset]) at_127 rfl rfl rfl ?_
            refine Wk.iload (q := 131) at_129 rfl rfl ?_
            refine Wk.ifcF (q := 134) at_131 rfl (by decide : ¬ (1 : Int32) = (0 : Int32)) ?_
            refine Wk.lload (q := 136) at_134 rfl rfl ?_
            refine Wk.callS (q := 139) (argsL := [(.long p4)]) (rest := []) (rm := (⟨3, 1, 1, 39⟩ : Room)) (Q' := fun w h' => ∃ b x, w = .ref b ∧ Exa Z h' b "java/lang/Long" ∧ Fld Z h' b "java/lang/Long" "value" "J" (.long x) ∧ Keep _ h' []) (m_val hw F (own_ge O) p4) (w_54 hw) (w_55 hw) (w_56 hw) (w_57 hw) (by decide) pd_7 rfl rfl rfl at_136 rfl (W := 0) rfl (by decide) (by decide) (by decide) (by decide) ?_
            rintro _ h2 ⟨b4, y4, rfl, x4, g4, K2⟩
            have L_b1 := (LN.keep L_b1 K2 all0).up K2.1
            have L_b2 := (LN.keep L_b2 K2 all0).up K2.1
            have L_b3 := (LN.keep L_b3 K2 all0).up K2.1
            have O := O.keep K2 all0
            have F := F0.ext O.2
            have L_b4 : LN Z h2 h2.size (.ref b4) := Or.inr ⟨b4, y4, rfl, x4.lt, x4, g4⟩
            refine Wk.goto (q := 143) at_139 (by decide) rfl ?_
            refine Wk.astore (q := 145) (ls' := #[.val (.int p0), .val (.long p1), .second, .val (.long p2), .second, .val (.long p3), .second, .val (.long p4), .second, .val (.long p5), .second, .val (.int (0 : Int32)), .val (.int (1 : Int32)), .val (.int (1 : Int32)), .val (.int (1 : Int32)), .val (.int (1 : Int32)), .val .null, .val (.ref b1), .val (.ref b2), .val (.ref b3), .val (.ref b4), .unset, .unset, .unset, .unset, .unset, .unset, .unset]) at_143 rfl rfl rfl ?_
            refine Wk.more (cl' := 5) (sl' := 5) (by decide) (by decide) ?_
            exact t145_nr hw (own_ge O) (Nat.le_refl _) p0 p1 p2 p3 p4 p5 (1 : Int32) (1 : Int32) (1 : Int32) L_b1 L_b2 L_b3 L_b4
  · refine Wk.iconst (q := 7) (v := (1 : Int32)) at_6 rfl rfl ?_
    refine Wk.goto (q := 11) at_7 (by decide) rfl ?_
    refine Wk.istore (q := 13) (ls' := #[.val (.int p0), .val (.long p1), .second, .val (.long p2), .second, .val (.long p3), .second, .val (.long p4), .second, .val (.long p5), .second, .val (.int (1 : Int32)), .unset, .unset, .unset, .unset, .unset, .unset, .unset, .unset, .unset, .unset, .unset, .unset, .unset, .unset, .unset, .unset]) at_11 rfl rfl ?_
    refine Wk.iloadN (q := 14) at_13 rfl rfl ?_
    refine Wk.iconst (q := 15) (v := (2 : Int32)) at_14 rfl rfl ?_
    refine Wk.iand (q := 16) (v := (p0 &&& (2 : Int32))) at_15 rfl rfl ?_
    refine Wk.ifc (q := 23) (q' := 19) at_16 (by decide) rfl rfl (fun (h17 : (p0 &&& (2 : Int32)) = (0 : Int32)) => ?_) (fun (h17 : ¬ (p0 &&& (2 : Int32)) = (0 : Int32)) => ?_)
    · refine Wk.iconst (q := 24) (v := (0 : Int32)) at_23 rfl rfl ?_
      refine Wk.istore (q := 26) (ls' := #[.val (.int p0), .val (.long p1), .second, .val (.long p2), .second, .val (.long p3), .second, .val (.long p4), .second, .val (.long p5), .second, .val (.int (1 : Int32)), .val (.int (0 : Int32)), .unset, .unset, .unset, .unset, .unset, .unset, .unset, .unset, .unset, .unset, .unset, .unset, .unset, .unset, .unset]) at_24 rfl rfl ?_
      refine Wk.iloadN (q := 27) at_26 rfl rfl ?_
      refine Wk.iconst (q := 28) (v := (4 : Int32)) at_27 rfl rfl ?_
      refine Wk.iand (q := 29) (v := (p0 &&& (4 : Int32))) at_28 rfl rfl ?_
      refine Wk.ifc (q := 36) (q' := 32) at_29 (by decide) rfl rfl (fun (h18 : (p0 &&& (4 : Int32)) = (0 : Int32)) => ?_) (fun (h18 : ¬ (p0 &&& (4 : Int32)) = (0 : Int32)) => ?_)
      · refine Wk.iconst (q := 37) (v := (0 : Int32)) at_36 rfl rfl ?_
        refine Wk.istore (q := 39) (ls' := #[.val (.int p0), .val (.long p1), .second, .val (.long p2), .second, .val (.long p3), .second, .val (.long p4), .second, .val (.long p5), .second, .val (.int (1 : Int32)), .val (.int (0 : Int32)), .val (.int (0 : Int32)), .unset, .unset, .unset, .unset, .unset, .unset, .unset, .unset, .unset, .unset, .unset, .unset, .unset, .unset]) at_37 rfl rfl ?_
        refine Wk.iloadN (q := 40) at_39 rfl rfl ?_
        refine Wk.bipush (q := 42) (v := (8 : Int32)) at_40 rfl rfl ?_
        refine Wk.iand (q := 43) (v := (p0 &&& (8 : Int32))) at_42 rfl rfl ?_
        refine Wk.ifc (q := 50) (q' := 46) at_43 (by decide) rfl rfl (fun (h19 : (p0 &&& (8 : Int32)) = (0 : Int32)) => ?_) (fun (h19 : ¬ (p0 &&& (8 : Int32)) = (0 : Int32)) => ?_)
        · refine Wk.iconst (q := 51) (v := (0 : Int32)) at_50 rfl rfl ?_
          refine Wk.istore (q := 53) (ls' := #[.val (.int p0), .val (.long p1), .second, .val (.long p2), .second, .val (.long p3), .second, .val (.long p4), .second, .val (.long p5), .second, .val (.int (1 : Int32)), .val (.int (0 : Int32)), .val (.int (0 : Int32)), .val (.int (0 : Int32)), .unset, .unset, .unset, .unset, .unset, .unset, .unset, .unset, .unset, .unset, .unset, .unset, .unset]) at_51 rfl rfl ?_
          refine Wk.iloadN (q := 54) at_53 rfl rfl ?_
          refine Wk.bipush (q := 56) (v := (16 : Int32)) at_54 rfl rfl ?_
          refine Wk.iand (q := 57) (v := (p0 &&& (16 : Int32))) at_56 rfl rfl ?_
          refine Wk.ifc (q := 64) (q' := 60) at_57 (by decide) rfl rfl (fun (h20 : (p0 &&& (16 : Int32)) = (0 : Int32)) => ?_) (fun (h20 : ¬ (p0 &&& (16 : Int32)) = (0 : Int32)) => ?_)
          · refine Wk.iconst (q := 65) (v := (0 : Int32)) at_64 rfl rfl ?_
            refine Wk.istore (q := 67) (ls' := #[.val (.int p0), .val (.long p1), .second, .val (.long p2), .second, .val (.long p3), .second, .val (.long p4), .second, .val (.long p5), .second, .val (.int (1 : Int32)), .val (.int (0 : Int32)), .val (.int (0 : Int32)), .val (.int (0 : Int32)), .val (.int (0 : Int32)), .unset, .unset, .unset, .unset, .unset, .unset, .unset, .unset, .unset, .unset, .unset, .unset]) at_65 rfl rfl ?_
            refine Wk.iload (q := 69) at_67 rfl rfl ?_
            refine Wk.ifcF (q := 72) at_69 rfl (by decide : ¬ (1 : Int32) = (0 : Int32)) ?_
            refine Wk.lloadN (q := 73) at_72 rfl rfl ?_
            refine Wk.callS (q := 76) (argsL := [(.long p1)]) (rest := []) (rm := (⟨3, 1, 1, 39⟩ : Room)) (Q' := fun w h' => ∃ b x, w = .ref b ∧ Exa Z h' b "java/lang/Long" ∧ Fld Z h' b "java/lang/Long" "value" "J" (.long x) ∧ Keep _ h' []) (m_val hw F (own_ge O) p1) (w_54 hw) (w_55 hw) (w_56 hw) (w_57 hw) (by decide) pd_7 rfl rfl rfl at_73 rfl (W := 0) rfl (by decide) (by decide) (by decide) (by decide) ?_
            rintro _ h2 ⟨b1, y1, rfl, x1, g1, K2⟩
            have O := O.keep K2 all0
            have F := F0.ext O.2
            have L_b1 : LN Z h2 h2.size (.ref b1) := Or.inr ⟨b1, y1, rfl, x1.lt, x1, g1⟩
            refine Wk.goto (q := 80) at_76 (by decide) rfl ?_
            refine Wk.astore (q := 82) (ls' := #[.val (.int p0), .val (.long p1), .second, .val (.long p2), .second, .val (.long p3), .second, .val (.long p4), .second, .val (.long p5), .second, .val (.int (1 : Int32)), .val (.int (0 : Int32)), .val (.int (0 : Int32)), .val (.int (0 : Int32)), .val (.int (0 : Int32)), .val (.ref b1), .unset, .unset, .unset, .unset, .unset, .unset, .unset, .unset, .unset, .unset, .unset]) at_80 rfl rfl rfl ?_
            refine Wk.iload (q := 84) at_82 rfl rfl ?_
            refine Wk.ifcT (q := 94) at_84 (by decide) rfl (by decide : (0 : Int32) = (0 : Int32)) ?_
            refine Wk.null (q := 95) at_94 rfl ?_
            refine Wk.astore (q := 97) (ls' := #[.val (.int p0), .val (.long p1), .second, .val (.long p2), .second, .val (.long p3), .second, .val (.long p4), .second, .val (.long p5), .second, .val (.int (1 : Int32)), .val (.int (0 : Int32)), .val (.int (0 : Int32)), .val (.int (0 : Int32)), .val (.int (0 : Int32)), .val (.ref b1), .val .null, .unset, .unset, .unset, .unset, .unset, .unset, .unset, .unset, .unset, .unset]) at_95 rfl rfl rfl ?_
            refine Wk.iload (q := 99) at_97 rfl rfl ?_
            refine Wk.ifcT (q := 110) at_99 (by decide) rfl (by decide : (0 : Int32) = (0 : Int32)) ?_
            refine Wk.null (q := 111) at_110 rfl ?_
            refine Wk.astore (q := 113) (ls' := #[.val (.int p0), .val (.long p1), .second, .val (.long p2), .second, .val (.long p3), .second, .val (.long p4), .second, .val (.long p5), .second, .val (.int (1 : Int32)), .val (.int (0 : Int32)), .val (.int (0 : Int32)), .val (.int (0 : Int32)), .val (.int (0 : Int32)), .val (.ref b1), .val .null, .val .null, .unset, .unset, .unset, .unset, .unset, .unset, .unset, .unset, .unset]) at_111 rfl rfl rfl ?_
            refine Wk.iload (q := 115) at_113 rfl rfl ?_
            refine Wk.ifcT (q := 126) at_115 (by decide) rfl (by decide : (0 : Int32) = (0 : Int32)) ?_
            refine Wk.null (q := 127) at_126 rfl ?_
            refine Wk.astore (q := 129) (ls' := #[.val (.int p0), .val (.long p1), .second, .val (.long p2), .second, .val (.long p3), .second, .val (.long p4), .second, .val (.long p5), .second, .val (.int (1 : Int32)), .val (.int (0 : Int32)), .val (.int (0 : Int32)), .val (.int (0 : Int32)), .val (.int (0 : Int32)), .val (.ref b1), .val .null, .val .null, .val .null, .unset, .unset, .unset, .unset, .unset, .unset, .unset, .unset]) at_127 rfl rfl rfl ?_
            refine Wk.iload (q := 131) at_129 rfl rfl ?_
            refine Wk.ifcT (q := 142) at_131 (by decide) rfl (by decide : (0 : Int32) = (0 : Int32)) ?_
            refine Wk.null (q := 143) at_142 rfl ?_
            refine Wk.astore (q := 145) (ls' := #[.val (.int p0), .val (.long p1), .second, .val (.long p2), .second, .val (.long p3), .second, .val (.long p4), .second, .val (.long p5), .second, .val (.int (1 : Int32)), .val (.int (0 : Int32)), .val (.int (0 : Int32)), .val (.int (0 : Int32)), .val (.int (0 : Int32)), .val (.ref b1), .val .null, .val .null, .val .null, .val .null, .unset, .unset, .unset, .unset, .unset, .unset, .unset]) at_143 rfl rfl rfl ?_
            refine Wk.more (cl' := 5) (sl' := 5) (by decide) (by decide) ?_
            exact t145_rn hw (own_ge O) (Nat.le_refl _) p0 p1 p2 p3 p4 p5 (0 : Int32) (0 : Int32) (0 : Int32) L_b1 (Or.inl rfl) (Or.inl rfl) (Or.inl rfl)
          · refine Wk.iconst (q := 61) (v := (1 : Int32)) at_60 rfl rfl ?_
            refine Wk.goto (q := 65) at_61 (by decide) rfl ?_
            refine Wk.istore (q := 67) (ls' := #[.val (.int p0), .val (.long p1), .second, .val (.long p2), .second, .val (.long p3), .second, .val (.long p4), .second, .val (.long p5), .second, .val (.int (1 : Int32)), .val (.int (0 : Int32)), .val (.int (0 : Int32)), .val (.int (0 : Int32)), .val (.int (1 : Int32)), .unset, .unset, .unset, .unset, .unset, .unset, .unset, .unset, .unset, .unset, .unset, .unset]) at_65 rfl rfl ?_
            refine Wk.iload (q := 69) at_67 rfl rfl ?_
            refine Wk.ifcF (q := 72) at_69 rfl (by decide : ¬ (1 : Int32) = (0 : Int32)) ?_
            refine Wk.lloadN (q := 73) at_72 rfl rfl ?_
            refine Wk.callS (q := 76) (argsL := [(.long p1)]) (rest := []) (rm := (⟨3, 1, 1, 39⟩ : Room)) (Q' := fun w h' => ∃ b x, w = .ref b ∧ Exa Z h' b "java/lang/Long" ∧ Fld Z h' b "java/lang/Long" "value" "J" (.long x) ∧ Keep _ h' []) (m_val hw F (own_ge O) p1) (w_54 hw) (w_55 hw) (w_56 hw) (w_57 hw) (by decide) pd_7 rfl rfl rfl at_73 rfl (W := 0) rfl (by decide) (by decide) (by decide) (by decide) ?_
            rintro _ h2 ⟨b1, y1, rfl, x1, g1, K2⟩
            have O := O.keep K2 all0
            have F := F0.ext O.2
            have L_b1 : LN Z h2 h2.size (.ref b1) := Or.inr ⟨b1, y1, rfl, x1.lt, x1, g1⟩
            refine Wk.goto (q := 80) at_76 (by decide) rfl ?_
            refine Wk.astore (q := 82) (ls' := #[.val (.int p0), .val (.long p1), .second, .val (.long p2), .second, .val (.long p3), .second, .val (.long p4), .second, .val (.long p5), .second, .val (.int (1 : Int32)), .val (.int (0 : Int32)), .val (.int (0 : Int32)), .val (.int (0 : Int32)), .val (.int (1 : Int32)), .val (.ref b1), .unset, .unset, .unset, .unset, .unset, .unset, .unset, .unset, .unset, .unset, .unset]) at_80 rfl rfl rfl ?_
            refine Wk.iload (q := 84) at_82 rfl rfl ?_
            refine Wk.ifcT (q := 94) at_84 (by decide) rfl (by decide : (0 : Int32) = (0 : Int32)) ?_
            refine Wk.null (q := 95) at_94 rfl ?_
            refine Wk.astore (q := 97) (ls' := #[.val (.int p0), .val (.long p1), .second, .val (.long p2), .second, .val (.long p3), .second, .val (.long p4), .second, .val (.long p5), .second, .val (.int (1 : Int32)), .val (.int (0 : Int32)), .val (.int (0 : Int32)), .val (.int (0 : Int32)), .val (.int (1 : Int32)), .val (.ref b1), .val .null, .unset, .unset, .unset, .unset, .unset, .unset, .unset, .unset, .unset, .unset]) at_95 rfl rfl rfl ?_
            refine Wk.iload (q := 99) at_97 rfl rfl ?_
            refine Wk.ifcF (q := 102) at_99 rfl (by decide : ¬ (1 : Int32) = (0 : Int32)) ?_
            refine Wk.lload (q := 104) at_102 rfl rfl ?_
            refine Wk.callS (q := 107) (argsL := [(.long p5)]) (rest := []) (rm := (⟨3, 1, 1, 39⟩ : Room)) (Q' := fun w h' => ∃ b x, w = .ref b ∧ Exa Z h' b "java/lang/Long" ∧ Fld Z h' b "java/lang/Long" "value" "J" (.long x) ∧ Keep _ h' []) (m_val hw F (own_ge O) p5) (w_54 hw) (w_55 hw) (w_56 hw) (w_57 hw) (by decide) pd_7 rfl rfl rfl at_104 rfl (W := 0) rfl (by decide) (by decide) (by decide) (by decide) ?_
            rintro _ h2 ⟨b2, y2, rfl, x2, g2, K2⟩
            have L_b1 := (LN.keep L_b1 K2 all0).up K2.1
            have O := O.keep K2 all0
            have F := F0.ext O.2
            have L_b2 : LN Z h2 h2.size (.ref b2) := Or.inr ⟨b2, y2, rfl, x2.lt, x2, g2⟩
            refine Wk.goto (q := 111) at_107 (by decide) rfl ?_
            refine Wk.astore (q := 113) (ls' := #[.val (.int p0), .val (.long p1), .second, .val (.long p2), .second, .val (.long p3), .second, .val (.long p4), .second, .val (.long p5), .second, .val (.int (1 : Int32)), .val (.int (0 : Int32)), .val (.int (0 : Int32)), .val (.int (0 : Int32)), .val (.int (1 : Int32)), .val (.ref b1), .val .null, .val (.ref b2), .unset, .unset, .unset, .unset, .unset, .unset, .unset, .unset, .unset]) at_111 rfl rfl rfl ?_
            refine Wk.iload (q := 115) at_113 rfl rfl ?_
            refine Wk.ifcT (q := 126) at_115 (by decide) rfl (by decide : (0 : Int32) = (0 : Int32)) ?_
            refine Wk.null (q := 127) at_126 rfl ?_
            refine Wk.astore (q := 129) (ls' := #[.val (.int p0), .val (.long p1), .second, .val (.long p2), .second, .val (.long p3), .second, .val (.long p4), .second, .val (.long p5), .second, .val (.int (1 : Int32)), .val (.int (0 : Int32)), .val (.int (0 : Int32)), .val (.int (0 : Int32)), .val (.int (1 : Int32)), .val (.ref b1), .val .null, .val (.ref b2), .val .null, .unset, .unset, .unset, .unset, .unset, .unset, .unset, .unset]) at_127 rfl rfl rfl ?_
            refine Wk.iload (q := 131) at_129 rfl rfl ?_
            refine Wk.ifcT (q := 142) at_131 (by decide) rfl (by decide : (0 : Int32) = (0 : Int32)) ?_
            refine Wk.null (q := 143) at_142 rfl ?_
            refine Wk.astore (q := 145) (ls' := #[.val (.int p0), .val (.long p1), .second, .val (.long p2), .second, .val (.long p3), .second, .val (.long p4), .second, .val (.long p5), .second, .val (.int (1 : Int32)), .val (.int (0 : Int32)), .val (.int (0 : Int32)), .val (.int (0 : Int32)), .val (.int (1 : Int32)), .val (.ref b1), .val .null, .val (.ref b2), .val .null, .val .null, .unset, .unset, .unset, .unset, .unset, .unset, .unset]) at_143 rfl rfl rfl ?_
            refine Wk.more (cl' := 5) (sl' := 5) (by decide) (by decide) ?_
            exact t145_rn hw (own_ge O) (Nat.le_refl _) p0 p1 p2 p3 p4 p5 (0 : Int32) (0 : Int32) (1 : Int32) L_b1 L_b2 (Or.inl rfl) (Or.inl rfl)
        · refine Wk.iconst (q := 47) (v := (1 : Int32)) at_46 rfl rfl ?_
          refine Wk.goto (q := 51) at_47 (by decide) rfl ?_
          refine Wk.istore (q := 53) (ls' := #[.val (.int p0), .val (.long p1), .second, .val (.long p2), .second, .val (.long p3), .second, .val (.long p4), .second, .val (.long p5), .second, .val (.int (1 : Int32)), .val (.int (0 : Int32)), .val (.int (0 : Int32)), .val (.int (1 : Int32)), .unset, .unset, .unset, .unset, .unset, .unset, .unset, .unset, .unset, .unset, .unset, .unset, .unset]) at_51 rfl rfl ?_
          refine Wk.iloadN (q := 54) at_53 rfl rfl ?_
          refine Wk.bipush (q := 56) (v := (16 : Int32)) at_54 rfl rfl ?_
          refine Wk.iand (q := 57) (v := (p0 &&& (16 : Int32))) at_56 rfl rfl ?_
          refine Wk.ifc (q := 64) (q' := 60) at_57 (by decide) rfl rfl (fun (h21 : (p0 &&& (16 : Int32)) = (0 : Int32)) => ?_) (fun (h21 : ¬ (p0 &&& (16 : Int32)) = (0 : Int32)) => ?_)
          · refine Wk.iconst (q := 65) (v := (0 : Int32)) at_64 rfl rfl ?_
            refine Wk.istore (q := 67) (ls' := #[.val (.int p0), .val (.long p1), .second, .val (.long p2), .second, .val (.long p3), .second, .val (.long p4), .second, .val (.long p5), .second, .val (.int (1 : Int32)), .val (.int (0 : Int32)), .val (.int (0 : Int32)), .val (.int (1 : Int32)), .val (.int (0 : Int32)), .unset, .unset, .unset, .unset, .unset, .unset, .unset, .unset, .unset, .unset, .unset, .unset]) at_65 rfl rfl ?_
            refine Wk.iload (q := 69) at_67 rfl rfl ?_
            refine Wk.ifcF (q := 72) at_69 rfl (by decide : ¬ (1 : Int32) = (0 : Int32)) ?_
            refine Wk.lloadN (q := 73) at_72 rfl rfl ?_
            refine Wk.callS (q := 76) (argsL := [(.long p1)]) (rest := []) (rm := (⟨3, 1, 1, 39⟩ : Room)) (Q' := fun w h' => ∃ b x, w = .ref b ∧ Exa Z h' b "java/lang/Long" ∧ Fld Z h' b "java/lang/Long" "value" "J" (.long x) ∧ Keep _ h' []) (m_val hw F (own_ge O) p1) (w_54 hw) (w_55 hw) (w_56 hw) (w_57 hw) (by decide) pd_7 rfl rfl rfl at_73 rfl (W := 0) rfl (by decide) (by decide) (by decide) (by decide) ?_
            rintro _ h2 ⟨b1, y1, rfl, x1, g1, K2⟩
            have O := O.keep K2 all0
            have F := F0.ext O.2
            have L_b1 : LN Z h2 h2.size (.ref b1) := Or.inr ⟨b1, y1, rfl, x1.lt, x1, g1⟩
            refine Wk.goto (q := 80) at_76 (by decide) rfl ?_
            refine Wk.astore (q := 82) (ls' := #[.val (.int p0), .val (.long p1), .second, .val (.long p2), .second, .val (.long p3), .second, .val (.long p4), .second, .val (.long p5), .second, .val (.int (1 : Int32)), .val (.int (0 : Int32)), .val (.int (0 : Int32)), .val (.int (1 : Int32)), .val (.int (0 : Int32)), .val (.ref b1), .unset, .unset, .unset, .unset, .unset, .unset, .unset, .unset, .unset, .unset, .unset]) at_80 rfl rfl rfl ?_
            refine Wk.iload (q := 84) at_82 rfl rfl ?_
            refine Wk.ifcT (q := 94) at_84 (by decide) rfl (by decide : (0 : Int32) = (0 : Int32)) ?_
            refine Wk.null (q := 95) at_94 rfl ?_
            refine Wk.astore (q := 97) (ls' := #[.val (.int p0), .val (.long p1), .second, .val (.long p2), .second, .val (.long p3), .second, .val (.long p4), .second, .val (.long p5), .second, .val (.int (1 : Int32)), .val (.int (0 : Int32)), .val (.int (0 : Int32)), .val (.int (1 : Int32)), .val (.int (0 : Int32)), .val (.ref b1), .val .null, .unset, .unset, .unset, .unset, .unset, .unset, .unset, .unset, .unset, .unset]) at_95 rfl rfl rfl ?_
            refine Wk.iload (q := 99) at_97 rfl rfl ?_
            refine Wk.ifcT (q := 110) at_99 (by decide) rfl (by decide : (0 : Int32) = (0 : Int32)) ?_
            refine Wk.null (q := 111) at_110 rfl ?_
            refine Wk.astore (q := 113) (ls' := #[.val (.int p0), .val (.long p1), .second, .val (.long p2), .second, .val (.long p3), .second, .val (.long p4), .second, .val (.long p5), .second, .val (.int (1 : Int32)), .val (.int (0 : Int32)), .val (.int (0 : Int32)), .val (.int (1 : Int32)), .val (.int (0 : Int32)), .val (.ref b1), .val .null, .val .null, .unset, .unset, .unset, .unset, .unset, .unset, .unset, .unset, .unset]) at_111 rfl rfl rfl ?_
            refine Wk.iload (q := 115) at_113 rfl rfl ?_
            refine Wk.ifcT (q := 126) at_115 (by decide) rfl (by decide : (0 : Int32) = (0 : Int32)) ?_
            refine Wk.null (q := 127) at_126 rfl ?_
            refine Wk.astore (q := 129) (ls' := #[.val (.int p0), .val (.long p1), .second, .val (.long p2), .second, .val (.long p3), .second, .val (.long p4), .second, .val (.long p5), .second, .val (.int (1 : Int32)), .val (.int (0 : Int32)), .val (.int (0 : Int32)), .val (.int (1 : Int32)), .val (.int (0 : Int32)), .val (.ref b1), .val .null, .val .null, .val .null, .unset, .unset, .unset, .unset, .unset, .unset, .unset, .unset]) at_127 rfl rfl rfl ?_
            refine Wk.iload (q := 131) at_129 rfl rfl ?_
            refine Wk.ifcF (q := 134) at_131 rfl (by decide : ¬ (1 : Int32) = (0 : Int32)) ?_
            refine Wk.lload (q := 136) at_134 rfl rfl ?_
            refine Wk.callS (q := 139) (argsL := [(.long p4)]) (rest := []) (rm := (⟨3, 1, 1, 39⟩ : Room)) (Q' := fun w h' => ∃ b x, w = .ref b ∧ Exa Z h' b "java/lang/Long" ∧ Fld Z h' b "java/lang/Long" "value" "J" (.long x) ∧ Keep _ h' []) (m_val hw F (own_ge O) p4) (w_54 hw) (w_55 hw) (w_56 hw) (w_57 hw) (by decide) pd_7 rfl rfl rfl at_136 rfl (W := 0) rfl (by decide) (by decide) (by decide) (by decide) ?_
            rintro _ h2 ⟨b2, y2, rfl, x2, g2, K2⟩
            have L_b1 := (LN.keep L_b1 K2 all0).up K2.1
            have O := O.keep K2 all0
            have F := F0.ext O.2
            have L_b2 : LN Z h2 h2.size (.ref b2) := Or.inr ⟨b2, y2, rfl, x2.lt, x2, g2⟩
            refine Wk.goto (q := 143) at_139 (by decide) rfl ?_
            refine Wk.astore (q := 145) (ls' := #[.val (.int p0), .val (.long p1), .second, .val (.long p2), .second, .val (.long p3), .second, .val (.long p4), .second, .val (.long p5), .second, .val (.int (1 : Int32)), .val (.int (0 : Int32)), .val (.int (0 : Int32)), .val (.int (1 : Int32)), .val (.int (0 : Int32)), .val (.ref b1), .val .null, .val .null, .val .null, .val (.ref b2), .unset, .unset, .unset, .unset, .unset, .unset, .unset]) at_143 rfl rfl rfl ?_
            refine Wk.more (cl' := 5) (sl' := 5) (by decide) (by decide) ?_
            exact t145_rn hw (own_ge O) (Nat.le_refl _) p0 p1 p2 p3 p4 p5 (0 : Int32) (1 : Int32) (0 : Int32) L_b1 (Or.inl rfl) (Or.inl rfl) L_b2
          · refine Wk.iconst (q := 61) (v := (1 : Int32)) at_60 rfl rfl ?_
            refine Wk.goto (q := 65) at_61 (by decide) rfl ?_
            refine Wk.istore (q := 67) (ls' := #[.val (.int p0), .val (.long p1), .second, .val (.long p2), .second, .val (.long p3), .second, .val (.long p4), .second, .val (.long p5), .second, .val (.int (1 : Int32)), .val (.int (0 : Int32)), .val (.int (0 : Int32)), .val (.int (1 : Int32)), .val (.int (1 : Int32)), .unset, .unset, .unset, .unset, .unset, .unset, .unset, .unset, .unset, .unset, .unset, .unset]) at_65 rfl rfl ?_
            refine Wk.iload (q := 69) at_67 rfl rfl ?_
            refine Wk.ifcF (q := 72) at_69 rfl (by decide : ¬ (1 : Int32) = (0 : Int32)) ?_
            refine Wk.lloadN (q := 73) at_72 rfl rfl ?_
            refine Wk.callS (q := 76) (argsL := [(.long p1)]) (rest := []) (rm := (⟨3, 1, 1, 39⟩ : Room)) (Q' := fun w h' => ∃ b x, w = .ref b ∧ Exa Z h' b "java/lang/Long" ∧ Fld Z h' b "java/lang/Long" "value" "J" (.long x) ∧ Keep _ h' []) (m_val hw F (own_ge O) p1) (w_54 hw) (w_55 hw) (w_56 hw) (w_57 hw) (by decide) pd_7 rfl rfl rfl at_73 rfl (W := 0) rfl (by decide) (by decide) (by decide) (by decide) ?_
            rintro _ h2 ⟨b1, y1, rfl, x1, g1, K2⟩
            have O := O.keep K2 all0
            have F := F0.ext O.2
            have L_b1 : LN Z h2 h2.size (.ref b1) := Or.inr ⟨b1, y1, rfl, x1.lt, x1, g1⟩
            refine Wk.goto (q := 80) at_76 (by decide) rfl ?_
            refine Wk.astore (q := 82) (ls' := #[.val (.int p0), .val (.long p1), .second, .val (.long p2), .second, .val (.long p3), .second, .val (.long p4), .second, .val (.long p5), .second, .val (.int (1 : Int32)), .val (.int (0 : Int32)), .val (.int (0 : Int32)), .val (.int (1 : Int32)), .val (.int (1 : Int32)), .val (.ref b1), .unset, .unset, .unset, .unset, .unset, .unset, .unset, .unset, .unset, .unset, .unset]) at_80 rfl rfl rfl ?_
            refine Wk.iload (q := 84) at_82 rfl rfl ?_
            refine Wk.ifcT (q := 94) at_84 (by decide) rfl (by decide : (0 : Int32) = (0 : Int32)) ?_
            refine Wk.null (q := 95) at_94 rfl ?_
            refine Wk.astore (q := 97) (ls' := #[.val (.int p0), .val (.long p1), .second, .val (.long p2), .second, .val (.long p3), .second, .val (.long p4), .second, .val (.long p5), .second, .val (.int (1 : Int32)), .val (.int (0 : Int32)), .val (.int (0 : Int32)), .val (.int (1 : Int32)), .val (.int (1 : Int32)), .val (.ref b1), .val .null, .unset, .unset, .unset, .unset, .unset, .unset, .unset, .unset, .unset, .unset]) at_95 rfl rfl rfl ?_
            refine Wk.iload (q := 99) at_97 rfl rfl ?_
            refine Wk.ifcF (q := 102) at_99 rfl (by decide : ¬ (1 : Int32) = (0 : Int32)) ?_
            refine Wk.lload (q := 104) at_102 rfl rfl ?_
            refine Wk.callS (q := 107) (argsL := [(.long p5)]) (rest := []) (rm := (⟨3, 1, 1, 39⟩ : Room)) (Q' := fun w h' => ∃ b x, w = .ref b ∧ Exa Z h' b "java/lang/Long" ∧ Fld Z h' b "java/lang/Long" "value" "J" (.long x) ∧ Keep _ h' []) (m_val hw F (own_ge O) p5) (w_54 hw) (w_55 hw) (w_56 hw) (w_57 hw) (by decide) pd_7 rfl rfl rfl at_104 rfl (W := 0) rfl (by decide) (by decide) (by decide) (by decide) ?_
            rintro _ h2 ⟨b2, y2, rfl, x2, g2, K2⟩
            have L_b1 := (LN.keep L_b1 K2 all0).up K2.1
            have O := O.keep K2 all0
            have F := F0.ext O.2
            have L_b2 : LN Z h2 h2.size (.ref b2) := Or.inr ⟨b2, y2, rfl, x2.lt, x2, g2⟩
            refine Wk.goto (q := 111) at_107 (by decide) rfl ?_
            refine Wk.astore (q := 113) (ls' := #[.val (.int p0), .val (.long p1), .second, .val (.long p2), .second, .val (.long p3), .second, .val (.long p4), .second, .val (.long p5), .second, .val (.int (1 : Int32)), .val (.int (0 : Int32)), .val (.int (0 : Int32)), .val (.int (1 : Int32)), .val (.int (1 : Int32)), .val (.ref b1), .val .null, .val (.ref b2), .unset, .unset, .unset, .unset, .unset, .unset, .unset, .unset, .unset]) at_111 rfl rfl rfl ?_
            refine Wk.iload (q := 115) at_113 rfl rfl ?_
            refine Wk.ifcT (q := 126) at_115 (by decide) rfl (by decide : (0 : Int32) = (0 : Int32)) ?_
            refine Wk.null (q := 127) at_126 rfl ?_
            refine Wk.astore (q := 129) (ls' := #[.val (.int p0), .val (.long p1), .second, .val (.long p2), .second, .val (.long p3), .second, .val (.long p4), .second, .val (.long p5), .second, .val (.int (1 : Int32)), .val (.int (0 : Int32)), .val (.int (0 : Int32)), .val (.int (1 : Int32)), .val (.int (1 : Int32)), .val (.ref b1), .val .null, .val (.ref b2), .val .null, .unset, .unset, .unset, .unset, .unset, .unset, .unset, .unset]) at_127 rfl rfl rfl ?_
            refine Wk.iload (q := 131) at_129 rfl rfl ?_
            refine Wk.ifcF (q := 134) at_131 rfl (by decide : ¬ (1 : Int32) = (0 : Int32)) ?_
            refine Wk.lload (q := 136) at_134 rfl rfl ?_
            refine Wk.callS (q := 139) (argsL := [(.long p4)]) (rest := []) (rm := (⟨3, 1, 1, 39⟩ : Room)) (Q' := fun w h' => ∃ b x, w = .ref b ∧ Exa Z h' b "java/lang/Long" ∧ Fld Z h' b "java/lang/Long" "value" "J" (.long x) ∧ Keep _ h' []) (m_val hw F (own_ge O) p4) (w_54 hw) (w_55 hw) (w_56 hw) (w_57 hw) (by decide) pd_7 rfl rfl rfl at_136 rfl (W := 0) rfl (by decide) (by decide) (by decide) (by decide) ?_
            rintro _ h2 ⟨b3, y3, rfl, x3, g3, K2⟩
            have L_b1 := (LN.keep L_b1 K2 all0).up K2.1
            have L_b2 := (LN.keep L_b2 K2 all0).up K2.1
            have O := O.keep K2 all0
            have F := F0.ext O.2
            have L_b3 : LN Z h2 h2.size (.ref b3) := Or.inr ⟨b3, y3, rfl, x3.lt, x3, g3⟩
            refine Wk.goto (q := 143) at_139 (by decide) rfl ?_
            refine Wk.astore (q := 145) (ls' := #[.val (.int p0), .val (.long p1), .second, .val (.long p2), .second, .val (.long p3), .second, .val (.long p4), .second, .val (.long p5), .second, .val (.int (1 : Int32)), .val (.int (0 : Int32)), .val (.int (0 : Int32)), .val (.int (1 : Int32)), .val (.int (1 : Int32)), .val (.ref b1), .val .null, .val (.ref b2), .val .null, .val (.ref b3), .unset, .unset, .unset, .unset, .unset, .unset, .unset]) at_143 rfl rfl rfl ?_
            refine Wk.more (cl' := 5) (sl' := 5) (by decide) (by decide) ?_
            exact t145_rn hw (own_ge O) (Nat.le_refl _) p0 p1 p2 p3 p4 p5 (0 : Int32) (1 : Int32) (1 : Int32) L_b1 L_b2 (Or.inl rfl) L_b3
      · refine Wk.iconst (q := 33) (v := (1 : Int32)) at_32 rfl rfl ?_
        refine Wk.goto (q := 37) at_33 (by decide) rfl ?_
        refine Wk.istore (q := 39) (ls' := #[.val (.int p0), .val (.long p1), .second, .val (.long p2), .second, .val (.long p3), .second, .val (.long p4), .second, .val (.long p5), .second, .val (.int (1 : Int32)), .val (.int (0 : Int32)), .val (.int (1 : Int32)), .unset, .unset, .unset, .unset, .unset, .unset, .unset, .unset, .unset, .unset, .unset, .unset, .unset, .unset]) at_37 rfl rfl ?_
        refine Wk.iloadN (q := 40) at_39 rfl rfl ?_
        refine Wk.bipush (q := 42) (v := (8 : Int32)) at_40 rfl rfl ?_
        refine Wk.iand (q := 43) (v := (p0 &&& (8 : Int32))) at_42 rfl rfl ?_
        refine Wk.ifc (q := 50) (q' := 46) at_43 (by decide) rfl rfl (fun (h22 : (p0 &&& (8 : Int32)) = (0 : Int32)) => ?_) (fun (h22 : ¬ (p0 &&& (8 : Int32)) = (0 : Int32)) => ?_)
        · refine Wk.iconst (q := 51) (v := (0 : Int32)) at_50 rfl rfl ?_
          refine Wk.istore (q := 53) (ls' := #[.val (.int p0), .val (.long p1), .second, .val (.long p2), .second, .val (.long p3), .second, .val (.long p4), .second, .val (.long p5), .second, .val (.int (1 : Int32)), .val (.int (0 : Int32)), .val (.int (1 : Int32)), .val (.int (0 : Int32)), .unset, .unset, .unset, .unset, .unset, .unset, .unset, .unset, .unset, .unset, .unset, .unset, .unset]) at_51 rfl rfl ?_
          refine Wk.iloadN (q := 54) at_53 rfl rfl ?_
          refine Wk.bipush (q := 56) (v := (16 : Int32)) at_54 rfl rfl ?_
          refine Wk.iand (q := 57) (v := (p0 &&& (16 : Int32))) at_56 rfl rfl ?_
          refine Wk.ifc (q := 64) (q' := 60) at_57 (by decide) rfl rfl (fun (h23 : (p0 &&& (16 : Int32)) = (0 : Int32)) => ?_) (fun (h23 : ¬ (p0 &&& (16 : Int32)) = (0 : Int32)) => ?_)
          · refine Wk.iconst (q := 65) (v := (0 : Int32)) at_64 rfl rfl ?_
            refine Wk.istore (q := 67) (ls' := #[.val (.int p0), .val (.long p1), .second, .val (.long p2), .second, .val (.long p3), .second, .val (.long p4), .second, .val (.long p5), .second, .val (.int (1 : Int32)), .val (.int (0 : Int32)), .val (.int (1 : Int32)), .val (.int (0 : Int32)), .val (.int (0 : Int32)), .unset, .unset, .unset, .unset, .unset, .unset, .unset, .unset, .unset, .unset, .unset, .unset]) at_65 rfl rfl ?_
            refine Wk.iload (q := 69) at_67 rfl rfl ?_
            refine Wk.ifcF (q := 72) at_69 rfl (by decide : ¬ (1 : Int32) = (0 : Int32)) ?_
            refine Wk.lloadN (q := 73) at_72 rfl rfl ?_
            refine Wk.callS (q := 76) (argsL := [(.long p1)]) (rest := []) (rm := (⟨3, 1, 1, 39⟩ : Room)) (Q' := fun w h' => ∃ b x, w = .ref b ∧ Exa Z h' b "java/lang/Long" ∧ Fld Z h' b "java/lang/Long" "value" "J" (.long x) ∧ Keep _ h' []) (m_val hw F (own_ge O) p1) (w_54 hw) (w_55 hw) (w_56 hw) (w_57 hw) (by decide) pd_7 rfl rfl rfl at_73 rfl (W := 0) rfl (by decide) (by decide) (by decide) (by decide) ?_
            rintro _ h2 ⟨b1, y1, rfl, x1, g1, K2⟩
            have O := O.keep K2 all0
            have F := F0.ext O.2
            have L_b1 : LN Z h2 h2.size (.ref b1) := Or.inr ⟨b1, y1, rfl, x1.lt, x1, g1⟩
            refine Wk.goto (q := 80) at_76 (by decide) rfl ?_
            refine Wk.astore (q := 82) (ls' := #[.val (.int p0), .val (.long p1), .second, .val (.long p2), .second, .val (.long p3), .second, .val (.long p4), .second, .val (.long p5), .second, .val (.int (1 : Int32)), .val (.int (0 : Int32)), .val (.int (1 : Int32)), .val (.int (0 : Int32)), .val (.int (0 : Int32)), .val (.ref b1), .unset, .unset, .unset, .unset, .unset, .unset, .unset, .unset, .unset, .unset, .unset]) at_80 rfl rfl rfl ?_
            refine Wk.iload (q := 84) at_82 rfl rfl ?_
            refine Wk.ifcT (q := 94) at_84 (by decide) rfl (by decide : (0 : Int32) = (0 : Int32)) ?_
            refine Wk.null (q := 95) at_94 rfl ?_
            refine Wk.astore (q := 97) (ls' := #[.val (.int p0), .val (.long p1), .second, .val (.long p2), .second, .val (.long p3), .second, .val (.long p4), .second, .val (.long p5), .second, .val (.int (1 : Int32)), .val (.int (0 : Int32)), .val (.int (1 : Int32)), .val (.int (0 : Int32)), .val (.int (0 : Int32)), .val (.ref b1), .val .null, .unset, .unset, .unset, .unset, .unset, .unset, .unset, .unset, .unset, .unset]) at_95 rfl rfl rfl ?_
            refine Wk.iload (q := 99) at_97 rfl rfl ?_
            refine Wk.ifcT (q := 110) at_99 (by decide) rfl (by decide : (0 : Int32) = (0 : Int32)) ?_
            refine Wk.null (q := 111) at_110 rfl ?_
            refine Wk.astore (q := 113) (ls' := #[.val (.int p0), .val (.long p1), .second, .val (.long p2), .second, .val (.long p3), .second, .val (.long p4), .second, .val (.long p5), .second, .val (.int (1 : Int32)), .val (.int (0 : Int32)), .val (.int (1 : Int32)), .val (.int (0 : Int32)), .val (.int (0 : Int32)), .val (.ref b1), .val .null, .val .null, .unset, .unset, .unset, .unset, .unset, .unset, .unset, .unset, .unset]) at_111 rfl rfl rfl ?_
            refine Wk.iload (q := 115) at_113 rfl rfl ?_
            refine Wk.ifcF (q := 118) at_115 rfl (by decide : ¬ (1 : Int32) = (0 : Int32)) ?_
            refine Wk.lload (q := 120) at_118 rfl rfl ?_
            refine Wk.callS (q := 123) (argsL := [(.long p3)]) (rest := []) (rm := (⟨3, 1, 1, 39⟩ : Room)) (Q' := fun w h' => ∃ b x, w = .ref b ∧ Exa Z h' b "java/lang/Long" ∧ Fld Z h' b "java/lang/Long" "value" "J" (.long x) ∧ Keep _ h' []) (m_val hw F (own_ge O) p3) (w_54 hw) (w_55 hw) (w_56 hw) (w_57 hw) (by decide) pd_7 rfl rfl rfl at_120 rfl (W := 0) rfl (by decide) (by decide) (by decide) (by decide) ?_
            rintro _ h2 ⟨b2, y2, rfl, x2, g2, K2⟩
            have L_b1 := (LN.keep L_b1 K2 all0).up K2.1
            have O := O.keep K2 all0
            have F := F0.ext O.2
            have L_b2 : LN Z h2 h2.size (.ref b2) := Or.inr ⟨b2, y2, rfl, x2.lt, x2, g2⟩
            refine Wk.goto (q := 127) at_123 (by decide) rfl ?_
            refine Wk.astore (q := 129) (ls' := #[.val (.int p0), .val (.long p1), .second, .val (.long p2), .second, .val (.long p3), .second, .val (.long p4), .second, .val (.long p5), .second, .val (.int (1 : Int32)), .val (.int (0 : Int32)), .val (.int (1 : Int32)), .val (.int (0 : Int32)), .val (.int (0 : Int32)), .val (.ref b1), .val .null, .val .null, .val (.ref b2), .unset, .unset, .unset, .unset, .unset, .unset, .unset, .unset]) at_127 rfl rfl rfl ?_
            refine Wk.iload (q := 131) at_129 rfl rfl ?_
            refine Wk.ifcT (q := 142) at_131 (by decide) rfl (by decide : (0 : Int32) = (0 : Int32)) ?_
            refine Wk.null (q := 143) at_142 rfl ?_
            refine Wk.astore (q := 145) (ls' := #[.val (.int p0), .val (.long p1), .second, .val (.long p2), .second, .val (.long p3), .second, .val (.long p4), .second, .val (.long p5), .second, .val (.int (1 : Int32)), .val (.int (0 : Int32)), .val (.int (1 : Int32)), .val (.int (0 : Int32)), .val (.int (0 : Int32)), .val (.ref b1), .val .null, .val .null, .val (.ref b2), .val .null, .unset, .unset, .unset, .unset, .unset, .unset, .unset]) at_143 rfl rfl rfl ?_
            refine Wk.more (cl' := 5) (sl' := 5) (by decide) (by decide) ?_
            exact t145_rn hw (own_ge O) (Nat.le_refl _) p0 p1 p2 p3 p4 p5 (1 : Int32) (0 : Int32) (0 : Int32) L_b1 (Or.inl rfl) L_b2 (Or.inl rfl)
          · refine Wk.iconst (q := 61) (v := (1 : Int32)) at_60 rfl rfl ?_
            refine Wk.goto (q := 65) at_61 (by decide) rfl ?_
            refine Wk.istore (q := 67) (ls' := #[.val (.int p0), .val (.long p1), .second, .val (.long p2), .second, .val (.long p3), .second, .val (.long p4), .second, .val (.long p5), .second, .val (.int (1 : Int32)), .val (.int (0 : Int32)), .val (.int (1 : Int32)), .val (.int (0 : Int32)), .val (.int (1 : Int32)), .unset, .unset, .unset, .unset, .unset, .unset, .unset, .unset, .unset, .unset, .unset, .unset]) at_65 rfl rfl ?_
            refine Wk.iload (q := 69) at_67 rfl rfl ?_
            refine Wk.ifcF (q := 72) at_69 rfl (by decide : ¬ (1 : Int32) = (0 : Int32)) ?_
            refine Wk.lloadN (q := 73) at_72 rfl rfl ?_
            refine Wk.callS (q := 76) (argsL := [(.long p1)]) (rest := []) (rm := (⟨3, 1, 1, 39⟩ : Room)) (Q' := fun w h' => ∃ b x, w = .ref b ∧ Exa Z h' b "java/lang/Long" ∧ Fld Z h' b "java/lang/Long" "value" "J" (.long x) ∧ Keep _ h' []) (m_val hw F (own_ge O) p1) (w_54 hw) (w_55 hw) (w_56 hw) (w_57 hw) (by decide) pd_7 rfl rfl rfl at_73 rfl (W := 0) rfl (by decide) (by decide) (by decide) (by decide) ?_
            rintro _ h2 ⟨b1, y1, rfl, x1, g1, K2⟩
            have O := O.keep K2 all0
            have F := F0.ext O.2
            have L_b1 : LN Z h2 h2.size (.ref b1) := Or.inr ⟨b1, y1, rfl, x1.lt, x1, g1⟩
            refine Wk.goto (q := 80) at_76 (by decide) rfl ?_
            refine Wk.astore (q := 82) (ls' := #[.val (.int p0), .val (.long p1), .second, .val (.long p2), .second, .val (.long p3), .second, .val (.long p4), .second, .val (.long p5), .second, .val (.int (1 : Int32)), .val (.int (0 : Int32)), .val (.int (1 : Int32)), .val (.int (0 : Int32)), .val (.int (1 : Int32)), .val (.ref b1), .unset, .unset, .unset, .unset, .unset, .unset, .unset, .unset, .unset, .unset, .unset]) at_80 rfl rfl rfl ?_
            refine Wk.iload (q := 84) at_82 rfl rfl ?_
            refine Wk.ifcT (q := 94) at_84 (by decide) rfl (by decide : (0 : Int32) = (0 : Int32)) ?_
            refine Wk.null (q := 95) at_94 rfl ?_
            refine Wk.astore (q := 97) (ls' := #[.val (.int p0), .val (.long p1), .second, .val (.long p2), .second, .val (.long p3), .second, .val (.long p4), .second, .val (.long p5), .second, .val (.int (1 : Int32)), .val (.int (0 : Int32)), .val (.int (1 : Int32)), .val (.int (0 : Int32)), .val (.int (1 : Int32)), .val (.ref b1), .val .null, .unset, .unset, .unset, .unset, .unset, .unset, .unset, .unset, .unset, .unset]) at_95 rfl rfl rfl ?_
            refine Wk.iload (q := 99) at_97 rfl rfl ?_
            refine Wk.ifcF (q := 102) at_99 rfl (by decide : ¬ (1 : Int32) = (0 : Int32)) ?_
            refine Wk.lload (q := 104) at_102 rfl rfl ?_
            refine Wk.callS (q := 107) (argsL := [(.long p5)]) (rest := []) (rm := (⟨3, 1, 1, 39⟩ : Room)) (Q' := fun w h' => ∃ b x, w = .ref b ∧ Exa Z h' b "java/lang/Long" ∧ Fld Z h' b "java/lang/Long" "value" "J" (.long x) ∧ Keep _ h' []) (m_val hw F (own_ge O) p5) (w_54 hw) (w_55 hw) (w_56 hw) (w_57 hw) (by decide) pd_7 rfl rfl rfl at_104 rfl (W := 0) rfl (by decide) (by decide) (by decide) (by decide) ?_
            rintro _ h2 ⟨b2, y2, rfl, x2, g2, K2⟩
            have L_b1 := (LN.keep L_b1 K2 all0).up K2.1
            have O := O.keep K2 all0
            have F := F0.ext O.2
            have L_b2 : LN Z h2 h2.size (.ref b2) := Or.inr ⟨b2, y2, rfl, x2.lt, x2, g2⟩
            refine Wk.goto (q := 111) at_107 (by decide) rfl ?_
            refine Wk.astore (q := 113) (ls' := #[.val (.int p0), .val (.long p1), .second, .val (.long p2), .second, .val (.long p3), .second, .val (.long p4), .second, .val (.long p5), .second, .val (.int (1 : Int32)), .val (.int (0 : Int32)), .val (.int (1 : Int32)), .val (.int (0 : Int32)), .val (.int (1 : Int32)), .val (.ref b1), .val .null, .val (.ref b2), .unset, .unset, .unset, .unset, .unset, .unset, .unset, .unset, .unset]) at_111 rfl rfl rfl ?_
            refine Wk.iload (q := 115) at_113 rfl rfl ?_
            refine Wk.ifcF (q := 118) at_115 rfl (by decide : ¬ (1 : Int32) = (0 : Int32)) ?_
            refine Wk.lload (q := 120) at_118 rfl rfl ?_
            refine Wk.callS (q := 123) (argsL := [(.long p3)]) (rest := []) (rm := (⟨3, 1, 1, 39⟩ : Room)) (Q' := fun w h' => ∃ b x, w = .ref b ∧ Exa Z h' b "java/lang/Long" ∧ Fld Z h' b "java/lang/Long" "value" "J" (.long x) ∧ Keep _ h' []) (m_val hw F (own_ge O) p3) (w_54 hw) (w_55 hw) (w_56 hw) (w_57 hw) (by decide) pd_7 rfl rfl rfl at_120 rfl (W := 0) rfl (by decide) (by decide) (by decide) (by decide) ?_
            rintro _ h2 ⟨b3, y3, rfl, x3, g3, K2⟩
            have L_b1 := (LN.keep L_b1 K2 all0).up K2.1
            have L_b2 := (LN.keep L_b2 K2 all0).up K2.1
            have O := O.keep K2 all0
            have F := F0.ext O.2
            have L_b3 : LN Z h2 h2.size (.ref b3) := Or.inr ⟨b3, y3, rfl, x3.lt, x3, g3⟩
            refine Wk.goto (q := 127) at_123 (by decide) rfl ?_
            refine Wk.astore (q := 129) (ls' := #[.val (.int p0), .val (.long p1), .second, .val (.long p2), .second, .val (.long p3), .second, .val (.long p4), .second, .val (.long p5), .second, .val (.int (1 : Int32)), .val (.int (0 : Int32)), .val (.int (1 : Int32)), .val (.int (0 : Int32)), .val (.int (1 : Int32)), .val (.ref b1), .val .null, .val (.ref b2), .val (.ref b3), .unset, .unset, .unset, .unset, .unset, .unset, .unset, .unset]) at_127 rfl rfl rfl ?_
            refine Wk.iload (q := 131) at_129 rfl rfl ?_
            refine Wk.ifcT (q := 142) at_131 (by decide) rfl (by decide : (0 : Int32) = (0 : Int32)) ?_
            refine Wk.null (q := 143) at_142 rfl ?_
            refine Wk.astore (q := 145) (ls' := #[.val (.int p0), .val (.long p1), .second, .val (.long p2), .second, .val (.long p3), .second, .val (.long p4), .second, .val (.long p5), .second, .val (.int (1 : Int32)), .val (.int (0 : Int32)), .val (.int (1 : Int32)), .val (.int (0 : Int32)), .val (.int (1 : Int32)), .val (.ref b1), .val .null, .val (.ref b2), .val (.ref b3), .val .null, .unset, .unset, .unset, .unset, .unset, .unset, .unset]) at_143 rfl rfl rfl ?_
            refine Wk.more (cl' := 5) (sl' := 5) (by decide) (by decide) ?_
            exact t145_rn hw (own_ge O) (Nat.le_refl _) p0 p1 p2 p3 p4 p5 (1 : Int32) (0 : Int32) (1 : Int32) L_b1 L_b2 L_b3 (Or.inl rfl)
        · refine Wk.iconst (q := 47) (v := (1 : Int32)) at_46 rfl rfl ?_
          refine Wk.goto (q := 51) at_47 (by decide) rfl ?_
          refine Wk.istore (q := 53) (ls' := #[.val (.int p0), .val (.long p1), .second, .val (.long p2), .second, .val (.long p3), .second, .val (.long p4), .second, .val (.long p5), .second, .val (.int (1 : Int32)), .val (.int (0 : Int32)), .val (.int (1 : Int32)), .val (.int (1 : Int32)), .unset, .unset, .unset, .unset, .unset, .unset, .unset, .unset, .unset, .unset, .unset, .unset, .unset]) at_51 rfl rfl ?_
          refine Wk.iloadN (q := 54) at_53 rfl rfl ?_
          refine Wk.bipush (q := 56) (v := (16 : Int32)) at_54 rfl rfl ?_
          refine Wk.iand (q := 57) (v := (p0 &&& (16 : Int32))) at_56 rfl rfl ?_
          refine Wk.ifc (q := 64) (q' := 60) at_57 (by decide) rfl rfl (fun (h24 : (p0 &&& (16 : Int32)) = (0 : Int32)) => ?_) (fun (h24 : ¬ (p0 &&& (16 : Int32)) = (0 : Int32)) => ?_)
          · refine Wk.iconst (q := 65) (v := (0 : Int32)) at_64 rfl rfl ?_
            refine Wk.istore (q := 67) (ls' := #[.val (.int p0), .val (.long p1), .second, .val (.long p2), .second, .val (.long p3), .second, .val (.long p4), .second, .val (.long p5), .second, .val (.int (1 : Int32)), .val (.int (0 : Int32)), .val (.int (1 : Int32)), .val (.int (1 : Int32)), .val (.int (0 : Int32)), .unset, .unset, .unset, .unset, .unset, .unset, .unset, .unset, .unset, .unset, .unset, .unset]) at_65 rfl rfl ?_
            refine Wk.iload (q := 69) at_67 rfl rfl ?_
            refine Wk.ifcF (q := 72) at_69 rfl (by decide : ¬ (1 : Int32) = (0 : Int32)) ?_
            refine Wk.lloadN (q := 73) at_72 rfl rfl ?_
            refine Wk.callS (q := 76) (argsL := [(.long p1)]) (rest := []) (rm := (⟨3, 1, 1, 39⟩ : Room)) (Q' := fun w h' => ∃ b x, w = .ref b ∧ Exa Z h' b "java/lang/Long" ∧ Fld Z h' b "java/lang/Long" "value" "J" (.long x) ∧ Keep _ h' []) (m_val hw F (own_ge O) p1) (w_54 hw) (w_55 hw) (w_56 hw) (w_57 hw) (by decide) pd_7 rfl rfl rfl at_73 rfl (W := 0) rfl (by decide) (by decide) (by decide) (by decide) ?_
            rintro _ h2 ⟨b1, y1, rfl, x1, g1, K2⟩
            have O := O.keep K2 all0
            have F := F0.ext O.2
            have L_b1 : LN Z h2 h2.size (.ref b1) := Or.inr ⟨b1, y1, rfl, x1.lt, x1, g1⟩
            refine Wk.goto (q := 80) at_76 (by decide) rfl ?_
            refine Wk.astore (q := 82) (ls' := #[.val (.int p0), .val (.long p1), .second, .val (.long p2), .second, .val (.long p3), .second, .val (.long p4), .second, .val (.long p5), .second, .val (.int (1 : Int32)), .val (.int (0 : Int32)), .val (.int (1 : Int32)), .val (.int (1 : Int32)), .val (.int (0 : Int32)), .val (.ref b1), .unset, .unset, .unset, .unset, .unset, .unset, .unset, .unset, .unset, .unset, .unset]) at_80 rfl rfl rfl ?_
            refine Wk.iload (q := 84) at_82 rfl rfl ?_
            refine Wk.ifcT (q := 94) at_84 (by decide) rfl (by decide : (0 : Int32) = (0 : Int32)) ?_
            refine Wk.null (q := 95) at_94 rfl ?_
            refine Wk.astore (q := 97) (ls' := #[.val (.int p0), .val (.long p1), .second, .val (.long p2), .second, .val (.long p3), .second, .val (.long p4), .second, .val (.long p5), .second, .val (.int (1 : Int32)), .val (.int (0 : Int32)), .val (.int (1 : Int32)), .val (.int (1 : Int32)), .val (.int (0 : Int32)), .val (.ref b1), .val .null, .unset, .unset, .unset, .unset, .unset, .unset, .unset, .unset, .unset, .unset]) at_95 rfl rfl rfl ?_
            refine Wk.iload (q := 99) at_97 rfl rfl ?_
            refine Wk.ifcT (q := 110) at_99 (by decide) rfl (by decide : (0 : Int32) = (0 : Int32)) ?_
            refine Wk.null (q := 111) at_110 rfl ?_
            refine Wk.astore (q := 113) (ls' := #[.val (.int p0), .val (.long p1), .second, .val (.long p2), .second, .val (.long p3), .second, .val (.long p4), .second, .val (.long p5), .second, .val (.int (1 : Int32)), .val (.int (0 : Int32)), .val (.int (1 : Int32)), .val (.int (1 : Int32)), .val (.int (0 : Int32)), .val (.ref b1), .val .null, .val .null, .unset, .unset, .unset, .unset, .unset, .unset, .unset, .unset, .unset]) at_111 rfl rfl rfl ?_
            refine Wk.iload (q := 115) at_113 rfl rfl ?_
            refine Wk.ifcF (q := 118) at_115 rfl (by decide : ¬ (1 : Int32) = (0 : Int32)) ?_
            refine Wk.lload (q := 120) at_118 rfl rfl ?_
            refine Wk.callS (q := 123) (argsL := [(.long p3)]) (rest := []) (rm := (⟨3, 1, 1, 39⟩ : Room)) (Q' := fun w h' => ∃ b x, w = .ref b ∧ Exa Z h' b "java/lang/Long" ∧ Fld Z h' b "java/lang/Long" "value" "J" (.long x) ∧ Keep _ h' []) (m_val hw F (own_ge O) p3) (w_54 hw) (w_55 hw) (w_56 hw) (w_57 hw) (by decide) pd_7 rfl rfl rfl at_120 rfl (W := 0) rfl (by decide) (by decide) (by decide) (by decide) ?_
            rintro _ h2 ⟨b2, y2, rfl, x2, g2, K2⟩
            have L_b1 := (LN.keep L_b1 K2 all0).up K2.1
            have O := O.keep K2 all0
            have F := F0.ext O.2
            have L_b2 : LN Z h2 h2.size (.ref b2) := Or.inr ⟨b2, y2, rfl, x2.lt, x2, g2⟩
            refine Wk.goto (q := 127) at_123 (by decide) rfl ?_
            refine Wk.astore (q := 129) (ls' := #[.val (.int p0), .val (.long p1), .second, .val (.long p2), .second, .val (.long p3), .second, .val (.long p4), .second, .val (.long p5), .second, .val (.int (1 : Int32)), .val (.int (0 : Int32)), .val (.int (1 : Int32)), .val (.int (1 : Int32)), .val (.int (0 : Int32)), .val (.ref b1), .val .null, .val .null, .val (.ref b2), .unset, .unset, .unset, .unset, .unset, .unset, .unset, .unset]) at_127 rfl rfl rfl ?_
            refine Wk.iload (q := 131) at_129 rfl rfl ?_
            refine Wk.ifcF (q := 134) at_131 rfl (by decide : ¬ (1 : Int32) = (0 : Int32)) ?_
            refine Wk.lload (q := 136) at_134 rfl rfl ?_
            refine Wk.callS (q := 139) (argsL := [(.long p4)]) (rest := []) (rm := (⟨3, 1, 1, 39⟩ : Room)) (Q' := fun w h' => ∃ b x, w = .ref b ∧ Exa Z h' b "java/lang/Long" ∧ Fld Z h' b "java/lang/Long" "value" "J" (.long x) ∧ Keep _ h' []) (m_val hw F (own_ge O) p4) (w_54 hw) (w_55 hw) (w_56 hw) (w_57 hw) (by decide) pd_7 rfl rfl rfl at_136 rfl (W := 0) rfl (by decide) (by decide) (by decide) (by decide) ?_
            rintro _ h2 ⟨b3, y3, rfl, x3, g3, K2⟩
            have L_b1 := (LN.keep L_b1 K2 all0).up K2.1
            have L_b2 := (LN.keep L_b2 K2 all0).up K2.1
            have O := O.keep K2 all0
            have F := F0.ext O.2
            have L_b3 : LN Z h2 h2.size (.ref b3) := Or.inr ⟨b3, y3, rfl, x3.lt, x3, g3⟩
            refine Wk.goto (q := 143) at_139 (by decide) rfl ?_
            refine Wk.astore (q := 145) (ls' := #[.val (.int p0), .val (.long p1), .second, .val (.long p2), .second, .val (.long p3), .second, .val (.long p4), .second, .val (.long p5), .second, .val (.int (1 : Int32)), .val (.int (0 : Int32)), .val (.int (1 : Int32)), .val (.int (1 : Int32)), .val (.int (0 : Int32)), .val (.ref b1), .val .null, .val .null, .val (.ref b2), .val (.ref b3), .unset, .unset, .unset, .unset, .unset, .unset, .unset]) at_143 rfl rfl rfl ?_
            refine Wk.more (cl' := 5) (sl' := 5) (by decide) (by decide) ?_
            exact t145_rn hw (own_ge O) (Nat.le_refl _) p0 p1 p2 p3 p4 p5 (1 : Int32) (1 : Int32) (0 : Int32) L_b1 (Or.inl rfl) L_b2 L_b3
          · refine Wk.iconst (q := 61) (v := (1 : Int32)) at_60 rfl rfl ?_
            refine Wk.goto (q := 65) at_61 (by decide) rfl ?_
            refine Wk.istore (q := 67) (ls' := #[.val (.int p0), .val (.long p1), .second, .val (.long p2), .second, .val (.long p3), .second, .val (.long p4), .second, .val (.long p5), .second, .val (.int (1 : Int32)), .val (.int (0 : Int32)), .val (.int (1 : Int32)), .val (.int (1 : Int32)), .val (.int (1 : Int32)), .unset, .unset, .unset, .unset, .unset, .unset, .unset, .unset, .unset, .unset, .unset, .unset]) at_65 rfl rfl ?_
            refine Wk.iload (q := 69) at_67 rfl rfl ?_
            refine Wk.ifcF (q := 72) at_69 rfl (by decide : ¬ (1 : Int32) = (0 : Int32)) ?_
            refine Wk.lloadN (q := 73) at_72 rfl rfl ?_
            refine Wk.callS (q := 76) (argsL := [(.long p1)]) (rest := []) (rm := (⟨3, 1, 1, 39⟩ : Room)) (Q' := fun w h' => ∃ b x, w = .ref b ∧ Exa Z h' b "java/lang/Long" ∧ Fld Z h' b "java/lang/Long" "value" "J" (.long x) ∧ Keep _ h' []) (m_val hw F (own_ge O) p1) (w_54 hw) (w_55 hw) (w_56 hw) (w_57 hw) (by decide) pd_7 rfl rfl rfl at_73 rfl (W := 0) rfl (by decide) (by decide) (by decide) (by decide) ?_
            rintro _ h2 ⟨b1, y1, rfl, x1, g1, K2⟩
            have O := O.keep K2 all0
            have F := F0.ext O.2
            have L_b1 : LN Z h2 h2.size (.ref b1) := Or.inr ⟨b1, y1, rfl, x1.lt, x1, g1⟩
            refine Wk.goto (q := 80) at_76 (by decide) rfl ?_
            refine Wk.astore (q := 82) (ls' := #[.val (.int p0), .val (.long p1), .second, .val (.long p2), .second, .val (.long p3), .second, .val (.long p4), .second, .val (.long p5), .second, .val (.int (1 : Int32)), .val (.int (0 : Int32)), .val (.int (1 : Int32)), .val (.int (1 : Int32)), .val (.int (1 : Int32)), .val (.ref b1), .unset, .unset, .unset, .unset, .unset, .unset, .unset, .unset, .unset, .unset, .unset]) at_80 rfl rfl rfl ?_
            refine Wk.iload (q := 84) at_82 rfl rfl ?_
            refine Wk.ifcT (q := 94) at_84 (by decide) rfl (by decide : (0 : Int32) = (0 : Int32)) ?_
            refine Wk.null (q := 95) at_94 rfl ?_
            refine Wk.astore (q := 97) (ls' := #[.val (.int p0), .val (.long p1), .second, .val (.long p2), .second, .val (.long p3), .second, .val (.long p4), .second, .val (.long p5), .second, .val (.int (1 : Int32)), .val (.int (0 : Int32)), .val (.int (1 : Int32)), .val (.int (1 : Int32)), .val (.int (1 : Int32)), .val (.ref b1), .val .null, .unset, .unset, .unset, .unset, .unset, .unset, .unset, .unset, .unset, .unset]) at_95 rfl rfl rfl ?_
            refine Wk.iload (q := 99) at_97 rfl rfl ?_
            refine Wk.ifcF (q := 102) at_99 rfl (by decide : ¬ (1 : Int32) = (0 : Int32)) ?_
            refine Wk.lload (q := 104) at_102 rfl rfl ?_
            refine Wk.callS (q := 107) (argsL := [(.long p5)]) (rest := []) (rm := (⟨3, 1, 1, 39⟩ : Room)) (Q' := fun w h' => ∃ b x, w = .ref b ∧ Exa Z h' b "java/lang/Long" ∧ Fld Z h' b "java/lang/Long" "value" "J" (.long x) ∧ Keep _ h' []) (m_val hw F (own_ge O) p5) (w_54 hw) (w_55 hw) (w_56 hw) (w_57 hw) (by decide) pd_7 rfl rfl rfl at_104 rfl (W := 0) rfl (by decide) (by decide) (by decide) (by decide) ?_
            rintro _ h2 ⟨b2, y2, rfl, x2, g2, K2⟩
            have L_b1 := (LN.keep L_b1 K2 all0).up K2.1
            have O := O.keep K2 all0
            have F := F0.ext O.2
            have L_b2 : LN Z h2 h2.size (.ref b2) := Or.inr ⟨b2, y2, rfl, x2.lt, x2, g2⟩
            refine Wk.goto (q := 111) at_107 (by decide) rfl ?_
            refine Wk.astore (q := 113) (ls' := #[.val (.int p0), .val (.long p1), .second, .val (.long p2), .second, .val (.long p3), .second, .val (.long p4), .second, .val (.long p5), .second, .val (.int (1 : Int32)), .val (.int (0 : Int32)), .val (.int (1 : Int32)), .val (.int (1 : Int32)), .val (.int (1 : Int32)), .val (.ref b1), .val .null, .val (.ref b2), .unset, .unset, .unset, .unset, .unset, .unset, .unset, .unset, .unset]) at_111 rfl rfl rfl ?_
            refine Wk.iload (q := 115) at_113 rfl rfl ?_
            refine Wk.ifcF (q := 118) at_115 rfl (by decide : ¬ (1 : Int32) = (0 : Int32)) ?_
            refine Wk.lload (q := 120) at_118 rfl rfl ?_
            refine Wk.callS (q := 123) (argsL := [(.long p3)]) (rest := []) (rm := (⟨3, 1, 1, 39⟩ : Room)) (Q' := fun w h' => ∃ b x, w = .ref b ∧ Exa Z h' b "java/lang/Long" ∧ Fld Z h' b "java/lang/Long" "value" "J" (.long x) ∧ Keep _ h' []) (m_val hw F (own_ge O) p3) (w_54 hw) (w_55 hw) (w_56 hw) (w_57 hw) (by decide) pd_7 rfl rfl rfl at_120 rfl (W := 0) rfl (by decide) (by decide) (by decide) (by decide) ?_
            rintro _ h2 ⟨b3, y3, rfl, x3, g3, K2⟩
            have L_b1 := (LN.keep L_b1 K2 all0).up K2.1
            have L_b2 := (LN.keep L_b2 K2 all0).up K2.1
            have O := O.keep K2 all0
            have F := F0.ext O.2
            have L_b3 : LN Z h2 h2.size (.ref b3) := Or.inr ⟨b3, y3, rfl, x3.lt, x3, g3⟩
            refine Wk.goto (q := 127) at_123 (by decide) rfl ?_
            refine Wk.astore (q := 129) (ls' := #[.val (.int p0), .val (.long p1), .second, .val (.long p2), .second, .val (.long p3), .second, .val (.long p4), .second, .val (.long p5), .second, .val (.int (1 : Int32)), .val (.int (0 : Int32)), .val (.int (1 : Int32)), .val (.int (1 : Int32)), .val (.int (1 : Int32)), .val (.ref b1), .val .null, .val (.ref b2), .val (.ref b3), .unset, .unset, .unset, .unset, .unset, .unset, .unset, .unset]) at_127 rfl rfl rfl ?_
            refine Wk.iload (q := 131) at_129 rfl rfl ?_
            refine Wk.ifcF (q := 134) at_131 rfl (by decide : ¬ (1 : Int32) = (0 : Int32)) ?_
            refine Wk.lload (q := 136) at_134 rfl rfl ?_
            refine Wk.callS (q := 139) (argsL := [(.long p4)]) (rest := []) (rm := (⟨3, 1, 1, 39⟩ : Room)) (Q' := fun w h' => ∃ b x, w = .ref b ∧ Exa Z h' b "java/lang/Long" ∧ Fld Z h' b "java/lang/Long" "value" "J" (.long x) ∧ Keep _ h' []) (m_val hw F (own_ge O) p4) (w_54 hw) (w_55 hw) (w_56 hw) (w_57 hw) (by decide) pd_7 rfl rfl rfl at_136 rfl (W := 0) rfl (by decide) (by decide) (by decide) (by decide) ?_
            rintro _ h2 ⟨b4, y4, rfl, x4, g4, K2⟩
            have L_b1 := (LN.keep L_b1 K2 all0).up K2.1
            have L_b2 := (LN.keep L_b2 K2 all0).up K2.1
            have L_b3 := (LN.keep L_b3 K2 all0).up K2.1
            have O := O.keep K2 all0
            have F := F0.ext O.2
            have L_b4 : LN Z h2 h2.size (.ref b4) := Or.inr ⟨b4, y4, rfl, x4.lt, x4, g4⟩
            refine Wk.goto (q := 143) at_139 (by decide) rfl ?_
            refine Wk.astore (q := 145) (ls' := #[.val (.int p0), .val (.long p1), .second, .val (.long p2), .second, .val (.long p3), .second, .val (.long p4), .second, .val (.long p5), .second, .val (.int (1 : Int32)), .val (.int (0 : Int32)), .val (.int (1 : Int32)), .val (.int (1 : Int32)), .val (.int (1 : Int32)), .val (.ref b1), .val .null, .val (.ref b2), .val (.ref b3), .val (.ref b4), .unset, .unset, .unset, .unset, .unset, .unset, .unset]) at_143 rfl rfl rfl ?_
            refine Wk.more (cl' := 5) (sl' := 5) (by decide) (by decide) ?_
            exact t145_rn hw (own_ge O) (Nat.le_refl _) p0 p1 p2 p3 p4 p5 (1 : Int32) (1 : Int32) (1 : Int32) L_b1 L_b2 L_b3 L_b4
    · refine Wk.iconst (q := 20) (v := (1 : Int32)) at_19 rfl rfl ?_
      refine Wk.goto (q := 24) at_20 (by decide) rfl ?_
      refine Wk.istore (q := 26) (ls' := #[.val (.int p0), .val (.long p1), .second, .val (.long p2), .second, .val (.long p3), .second, .val (.long p4), .second, .val (.long p5), .second, .val (.int (1 : Int32)), .val (.int (1 : Int32)), .unset, .unset, .unset, .unset, .unset, .unset, .unset, .unset, .unset, .unset, .unset, .unset, .unset, .unset, .unset]) at_24 rfl rfl ?_
      refine Wk.iloadN (q := 27) at_26 rfl rfl ?_
      refine Wk.iconst (q := 28) (v := (4 : Int32)) at_27 rfl rfl ?_
      refine Wk.iand (q := 29) (v := (p0 &&& (4 : Int32))) at_28 rfl rfl ?_
      refine Wk.ifc (q := 36) (q' := 32) at_29 (by decide) rfl rfl (fun (h25 : (p0 &&& (4 : Int32)) = (0 : Int32)) => ?_) (fun (h25 : ¬ (p0 &&& (4 : Int32)) = (0 : Int32)) => ?_)
      · refine Wk.iconst (q := 37) (v := (0 : Int32)) at_36 rfl rfl ?_
        refine Wk.istore (q := 39) (ls' := #[.val (.int p0), .val (.long p1), .second, .val (.long p2), .second, .val (.long p3), .second, .val (.long p4), .second, .val (.long p5), .second, .val (.int (1 : Int32)), .val (.int (1 : Int32)), .val (.int (0 : Int32)), .unset, .unset, .unset, .unset, .unset, .unset, .unset, .unset, .unset, .unset, .unset, .unset, .unset, .unset]) at_37 rfl rfl ?_
        refine Wk.iloadN (q := 40) at_39 rfl rfl ?_
        refine Wk.bipush (q := 42) (v := (8 : Int32)) at_40 rfl rfl ?_
        refine Wk.iand (q := 43) (v := (p0 &&& (8 : Int32))) at_42 rfl rfl ?_
        refine Wk.ifc (q := 50) (q' := 46) at_43 (by decide) rfl rfl (fun (h26 : (p0 &&& (8 : Int32)) = (0 : Int32)) => ?_) (fun (h26 : ¬ (p0 &&& (8 : Int32)) = (0 : Int32)) => ?_)
        · refine Wk.iconst (q := 51) (v := (0 : Int32)) at_50 rfl rfl ?_
          refine Wk.istore (q := 53) (ls' := #[.val (.int p0), .val (.long p1), .second, .val (.long p2), .second, .val (.long p3), .second, .val (.long p4), .second, .val (.long p5), .second, .val (.int (1 : Int32)), .val (.int (1 : Int32)), .val (.int (0 : Int32)), .val (.int (0 : Int32)), .unset, .unset, .unset, .unset, .unset, .unset, .unset, .unset, .unset, .unset, .unset, .unset, .unset]) at_51 rfl rfl ?_
          refine Wk.iloadN (q := 54) at_53 rfl rfl ?_
          refine Wk.bipush (q := 56) (v := (16 : Int32)) at_54 rfl rfl ?_
          refine Wk.iand (q := 57) (v := (p0 &&& (16 : Int32))) at_56 rfl rfl ?_
          refine Wk.ifc (q := 64) (q' := 60) at_57 (by decide) rfl rfl (fun (h27 : (p0 &&& (16 : Int32)) = (0 : Int32)) => ?_) (fun (h27 : ¬ (p0 &&& (16 : Int32)) = (0 : Int32)) => ?_)
          · refine Wk.iconst (q := 65) (v := (0 : Int32)) at_64 rfl rfl ?_
            refine Wk.istore (q := 67) (ls' := #[.val (.int p0), .val (.long p1), .second, .val (.long p2), .second, .val (.long p3), .second, .val (.long p4), .second, .val (.long p5), .second, .val (.int (1 : Int32)), .val (.int (1 : Int32)), .val (.int (0 : Int32)), .val (.int (0 : Int32)), .val (.int (0 : Int32)), .unset, .unset, .unset, .unset, .unset, .unset, .unset, .unset, .unset, .unset, .unset, .unset]) at_65 rfl rfl ?_
            refine Wk.iload (q := 69) at_67 rfl rfl ?_
            refine Wk.ifcF (q := 72) at_69 rfl (by decide : ¬ (1 : Int32) = (0 : Int32)) ?_
            refine Wk.lloadN (q := 73) at_72 rfl rfl ?_
            refine Wk.callS (q := 76) (argsL := [(.long p1)]) (rest := []) (rm := (⟨3, 1, 1, 39⟩ : Room)) (Q' := fun w h' => ∃ b x, w = .ref b ∧ Exa Z h' b "java/lang/Long" ∧ Fld Z h' b "java/lang/Long" "value" "J" (.long x) ∧ Keep _ h' []) (m_val hw F (own_ge O) p1) (w_54 hw) (w_55 hw) (w_56 hw) (w_57 hw) (by decide) pd_7 rfl rfl rfl at_73 rfl (W := 0) rfl (by decide) (by decide) (by decide) (by decide) ?_
            rintro _ h2 ⟨b1, y1, rfl, x1, g1, K2⟩
            have O := O.keep K2 all0
            have F := F0.ext O.2
            have L_b1 : LN Z h2 h2.size (.ref b1) := Or.inr ⟨b1, y1, rfl, x1.lt, x1, g1⟩
            refine Wk.goto (q := 80) at_76 (by decide) rfl ?_
            refine Wk.astore (q := 82) (ls' := #[.val (.int p0), .val (.long p1), .second, .val (.long p2), .second, .val (.long p3), .second, .val (.long p4), .second, .val (.long p5), .second, .val (.int (1 : Int32)), .val (.int (1 : Int32)), .val (.int (0 : Int32)), .val (.int (0 : Int32)), .val (.int (0 : Int32)), .val (.ref b1), .unset, .unset, .unset, .unset, .unset, .unset, .unset, .unset, .unset, .unset, .unset]) at_80 rfl rfl rfl ?_
            refine Wk.iload (q := 84) at_82 rfl rfl ?_
            refine Wk.ifcF (q := 87) at_84 rfl (by decide : ¬ (1 : Int32) = (0 : Int32)) ?_
            refine Wk.lloadN (q := 88) at_87 rfl rfl ?_
            refine Wk.callS (q := 91) (argsL := [(.long p2)]) (rest := []) (rm := (⟨3, 1, 1, 39⟩ : Room)) (Q' := fun w h' => ∃ b x, w = .ref b ∧ Exa Z h' b "java/lang/Long" ∧ Fld Z h' b "java/lang/Long" "value" "J" (.long x) ∧ Keep _ h' []) (m_val hw F (own_ge O) p2) (w_54 hw) (w_55 hw) (w_56 hw) (w_57 hw) (by decide) pd_7 rfl rfl rfl at_88 rfl (W := 0) rfl (by decide) (by decide) (by decide) (by decide) ?_
            rintro _ h2 ⟨b2, y2, rfl, x2, g2, K2⟩
            have L_b1 := (LN.keep L_b1 K2 all0).up K2.1
            have O := O.keep K2 all0
            have F := F0.ext O.2
            have L_b2 : LN Z h2 h2.size (.ref b2) := Or.inr ⟨b2, y2, rfl, x2.lt, x2, g2⟩
            refine Wk.goto (q := 95) at_91 (by decide) rfl ?_
            refine Wk.astore (q := 97) (ls' := #[.val (.int p0), .val (.long p1), .second, .val (.long p2), .second, .val (.long p3), .second, .val (.long p4), .second, .val (.long p5), .second, .val (.int (1 : Int32)), .val (.int (1 : Int32)), .val (.int (0 : Int32)), .val (.int (0 : Int32)), .val (.int (0 : Int32)), .val (.ref b1), .val (.ref b2), .unset, .unset, .unset, .unset, .unset, .unset, .unset, .unset, .unset, .unset]) at_95 rfl rfl rfl ?_
            refine Wk.iload (q := 99) at_97 rfl rfl ?_
            refine Wk.ifcT (q := 110) at_99 (by decide) rfl (by decide : (0 : Int32) = (0 : Int32)) ?_
            refine Wk.null (q := 111) at_110 rfl ?_
            refine Wk.astore (q := 113) (ls' := #[.val (.int p0), .val (.long p1), .second, .val (.long p2), .second, .val (.long p3), .second, .val (.long p4), .second, .val (.long p5), .second, .val (.int (1 : Int32)), .val (.int (1 : Int32)), .val (.int (0 : Int32)), .val (.int (0 : Int32)), .val (.int (0 : Int32)), .val (.ref b1), .val (.ref b2), .val .null, .unset, .unset, .unset, .unset, .unset, .unset, .unset, .unset, .unset]) at_111 rfl rfl rfl ?_
            refine Wk.iload (q := 115) at_113 rfl rfl ?_
            refine Wk.ifcT (q := 126) at_115 (by decide) rfl (by decide : (0 : Int32) = (0 : Int32)) ?_
            refine Wk.null (q := 127) at_126 rfl ?_
            refine Wk.astore (q := 129) (ls' := #[.val (.int p0), .val (.long p1), .second, .val (.long p2), .second, .val (.long p3), .second, .val (.long p4), .second, .val (.long p5), .second, .val (.int (1 : Int32)), .val (.int (1 : Int32)), .val (.int (0 : Int32)), .val (.int (0 : Int32)), .val (.int (0 : Int32)), .val (.ref b1), .val (.ref b2), .val .null, .val .null, .unset, .unset, .unset, .unset, .unset, .unset, .unset, .unset]) at_127 rfl rfl rfl ?_
            refine Wk.iload (q := 131) at_129 rfl rfl ?_
            refine Wk.ifcT (q := 142) at_131 (by decide) rfl (by decide : (0 : Int32) = (0 : Int32)) ?_
            refine Wk.null (q := 143) at_142 rfl ?_
            refine Wk.astore (q := 145) (ls' := #[.val (.int p0), .val (.long p1), .second, .val (.long p2), .second, .val (.long p3), .second, .val (.long p4), .second, .val (.long p5), .second, .val (.int (1 : Int32)), .val (.int (1 : Int32)), .val (.int (0 : Int32)), .val (.int (0 : Int32)), .val (.int (0 : Int32)), .val (.ref b1), .val (.ref b2), .val .null, .val .null, .val .null, .unset, .unset, .unset, .unset, .unset, .unset, .unset]) at_143 rfl rfl rfl ?_
            refine Wk.more (cl' := 5) (sl' := 5) (by decide) (by decide) ?_
            exact t145_rr hw (own_ge O) (Nat.le_refl _) p0 p1 p2 p3 p4 p5 (0 : Int32) (0 : Int32) (0 : Int32) L_b1 L_b2 (Or.inl rfl) (Or.inl rfl) (Or.inl rfl)
          · refine Wk.iconst (q := 61) (v := (1 : Int32)) at_60 rfl rfl ?_
            refine Wk.goto (q := 65) at_61 (by decide) rfl ?_
            refine Wk.istore (q := 67) (ls' := #[.val (.int p0), .val (.long p1), .second, .val (.long p2), .second, .val (.long p3), .second, .val (.long p4), .second, .val (.long p5), .second, .val (.int (1 : Int32)), .val (.int (1 : Int32)), .val (.int (0 : Int32)), .val (.int (0 : Int32)), .val (.int (1 : Int32)), .unset, .unset, .unset, .unset, .unset, .unset, .unset, .unset, .unset, .unset, .unset, .unset]) at_65 rfl rfl ?_
            refine Wk.iload (q := 69) at_67 rfl rfl ?_
            refine Wk.ifcF (q := 72) at_69 rfl (by decide : ¬ (1 : Int32) = (0 : Int32)) ?_
            refine Wk.lloadN (q := 73) at_72 rfl rfl ?_
            refine Wk.callS (q := 76) (argsL := [(.long p1)]) (rest := []) (rm := (⟨3, 1, 1, 39⟩ : Room)) (Q' := fun w h' => ∃ b x, w = .ref b ∧ Exa Z h' b "java/lang/Long" ∧ Fld Z h' b "java/lang/Long" "value" "J" (.long x) ∧ Keep _ h' []) (m_val hw F (own_ge O) p1) (w_54 hw) (w_55 hw) (w_56 hw) (w_57 hw) (by decide) pd_7 rfl rfl rfl at_73 rfl (W := 0) rfl (by decide) (by decide) (by decide) (by decide) ?_
            rintro _ h2 ⟨b1, y1, rfl, x1, g1, K2⟩
            have O := O.keep K2 all0
            have F := F0.ext O.2
            have L_b1 : LN Z h2 h2.size (.ref b1) := Or.inr ⟨b1, y1, rfl, x1.lt, x1, g1⟩
            refine Wk.goto (q := 80) at_76 (by decide) rfl ?_
            refine Wk.astore (q := 82) (ls' := #[.val (.int p0), .val (.long p1), .second, .val (.long p2), .second, .val (.long p3), .second, .val (.long p4), .second, .val (.long p5), .second, .val (.int (1 : Int32)), .val (.int (1 : Int32)), .val (.int (0 : Int32)), .val (.int (0 : Int32)), .val (.int (1 : Int32)), .val (.ref b1), .unset, .unset, .unset, .unset, .unset, .unset, .unset, .unset, .unset, .unset, .unset]) at_80 rfl rfl rfl ?_
            refine Wk.iload (q := 84) at_82 rfl rfl ?_
            refine Wk.ifcF (q := 87) at_84 rfl (by decide : ¬ (1 : Int32) = (0 : Int32)) ?_
            refine Wk.lloadN (q := 88) at_87 rfl rfl ?_
            refine Wk.callS (q := 91) (argsL := [(.long p2)]) (rest := []) (rm := (⟨3, 1, 1, 39⟩ : Room)) (Q' := fun w h' => ∃ b x, w = .ref b ∧ Exa Z h' b "java/lang/Long" ∧ Fld Z h' b "java/lang/Long" "value" "J" (.long x) ∧ Keep _ h' []) (m_val hw F (own_ge O) p2) (w_54 hw) (w_55 hw) (w_56 hw) (w_57 hw) (by decide) pd_7 rfl rfl rfl at_88 rfl (W := 0) rfl (by decide) (by decide) (by decide) (by decide) ?_
            rintro _ h2 ⟨b2, y2, rfl, x2, g2, K2⟩
            have L_b1 := (LN.keep L_b1 K2 all0).up K2.1
            have O := O.keep K2 all0
            have F := F0.ext O.2
            have L_b2 : LN Z h2 h2.size (.ref b2) := Or.inr ⟨b2, y2, rfl, x2.lt, x2, g2⟩
            refine Wk.goto (q := 95) at_91 (by decide) rfl ?_
            refine Wk.astore (q := 97) (ls' := #[.val (.int p0), .val (.long p1), .second, .val (.long p2), .second, .val (.long p3), .second, .val (.long p4), .second, .val (.long p5), .second, .val (.int (1 : Int32)), .val (.int (1 : Int32)), .val (.int (0 : Int32)), .val (.int (0 : Int32)), .val (.int (1 : Int32)), .val (.ref b1), .val (.ref b2), .unset, .unset, .unset, .unset, .unset, .unset, .unset, .unset, .unset, .unset]) at_95 rfl rfl rfl ?_
            refine Wk.iload (q := 99) at_97 rfl rfl ?_
            refine Wk.ifcF (q := 102) at_99 rfl (by decide : ¬ (1 : Int32) = (0 : Int32)) ?_
            refine Wk.lload (q := 104) at_102 rfl rfl ?_
            refine Wk.callS (q := 107) (argsL := [(.long p5)]) (rest := []) (rm := (⟨3, 1, 1, 39⟩ : Room)) (Q' := fun w h' => ∃ b x, w = .ref b ∧ Exa Z h' b "java/lang/Long" ∧ Fld Z h' b "java/lang/Long" "value" "J" (.long x) ∧ Keep _ h' []) (m_val hw F (own_ge O) p5) (w_54 hw) (w_55 hw) (w_56 hw) (w_57 hw) (by decide) pd_7 rfl rfl rfl at_104 rfl (W := 0) rfl (by decide) (by decide) (by decide) (by decide) ?_
            rintro _ h2 ⟨b3, y3, rfl, x3, g3, K2⟩
            have L_b1 := (LN.keep L_b1 K2 all0).up K2.1
            have L_b2 := (LN.keep L_b2 K2 all0).up K2.1
            have O := O.keep K2 all0
            have F := F0.ext O.2
            have L_b3 : LN Z h2 h2.size (.ref b3) := Or.inr ⟨b3, y3, rfl, x3.lt, x3, g3⟩
            refine Wk.goto (q := 111) at_107 (by decide) rfl ?_
            refine Wk.astore (q := 113) (ls' := #[.val (.int p0), .val (.long p1), .second, .val (.long p2), .second, .val (.long p3), .second, .val (.long p4), .second, .val (.long p5), .second, .val (.int (1 : Int32)), .val (.int (1 : Int32)), .val (.int (0 : Int32)), .val (.int (0 : Int32)), .val (.int (1 : Int32)), .val (.ref b1), .val (.ref b2), .val (.ref b3), .unset, .unset, .unset, .unset, .unset, .unset, .unset, .unset, .unset]) at_111 rfl rfl rfl ?_
            refine Wk.iload (q := 115) at_113 rfl rfl ?_
            refine Wk.ifcT (q := 126) at_115 (by decide) rfl (by decide : (0 : Int32) = (0 : Int32)) ?_
            refine Wk.null (q := 127) at_126 rfl ?_
            refine Wk.astore (q := 129) (ls' := #[.val (.int p0), .val (.long p1), .second, .val (.long p2), .second, .val (.long p3), .second, .val (.long p4), .second, .val (.long p5), .second, .val (.int (1 : Int32)), .val (.int (1 : Int32)), .val (.int (0 : Int32)), .val (.int (0 : Int32)), .val (.int (1 : Int32)), .val (.ref b1), .val (.ref b2), .val (.ref b3), .val .null, .unset, .unset, .unset, .unset, .unset, .unset, .unset, .unset]) at_127 rfl rfl rfl ?_
            refine Wk.iload (q := 131) at_129 rfl rfl ?_
            refine Wk.ifcT (q := 142) at_131 (by decide) rfl (by decide : (0 : Int32) = (0 : Int32)) ?_
            refine Wk.null (q := 143) at_142 rfl ?_
            refine Wk.astore (q := 145) (ls' := #[.val (.int p0), .val (.long p1), .second, .val (.long p2), .second, .val (.long p3), .second, .val (.long p4), .second, .val (.long p5), .second, .val (.int (1 : Int32)), .val (.int (1 : Int32)), .val (.int (0 : Int32)), .val (.int (0 : Int32)), .val (.int (1 : Int32)), .val (.ref b1), .val (.ref b2), .val (.ref b3), .val .null, .val .null, .unset, .unset, .unset, .unset, .unset, .unset, .unset]) at_143 rfl rfl rfl ?_
            refine Wk.more (cl' := 5) (sl' := 5) (by decide) (by decide) ?_
            exact t145_rr hw (own_ge O) (Nat.le_refl _) p0 p1 p2 p3 p4 p5 (0 : Int32) (0 : Int32) (1 : Int32) L_b1 L_b2 L_b3 (Or.inl rfl) (Or.inl rfl)
        · refine Wk.iconst (q := 47) (v := (1 : Int32)) at_46 rfl rfl ?_
          refine Wk.goto (q := 51) at_47 (by decide) rfl ?_
          refine Wk.istore (q := 53) (ls' := #[.val (.int p0), .val (.long p1), .second, .val (.long p2), .second, .val (.long p3), .second, .val (.long p4), .second, .val (.long p5), .second, .val (.int (1 : Int32)), .val (.int (1 : Int32)), .val (.int (0 : Int32)), .val (.int (1 : Int32)), .unset, .unset, .unset, .unset, .unset, .unset, .unset, .unset, .unset, .unset, .unset, .unset, .unset]) at_51 rfl rfl ?_
          refine Wk.iloadN (q := 54) at_53 rfl rfl ?_
          refine Wk.bipush (q := 56) (v := (16 : Int32)) at_54 rfl rfl ?_
          refine Wk.iand (q := 57) (v := (p0 &&& (16 : Int32))) at_56 rfl rfl ?_
          refine Wk.ifc (q := 64) (q' := 60) at_57 (by decide) rfl rfl (fun (h28 : (p0 &&& (16 : Int32)) = (0 : Int32)) => ?_) (fun (h28 : ¬ (p0 &&& (16 : Int32)) = (0 : Int32)) => ?_)
          · refine Wk.iconst (q := 65) (v := (0 : Int32)) at_64 rfl rfl ?_
            refine Wk.istore (q := 67) (ls' := #[.val (.int p0), .val (.long p1), .second, .val (.long p2), .second, .val (.long p3), .second, .val (.long p4), .second, .val (.long p5), .second, .val (.int (1 : Int32)), .val (.int (1 : Int32)), .val (.int (0 : Int32)), .val (.int (1 : Int32)), .val (.int (0 : Int32)), .unset, .unset, .unset, .unset, .unset, .unset, .unset, .unset, .unset, .unset, .unset, .unset]) at_65 rfl rfl ?_
            refine Wk.iload (q := 69) at_67 rfl rfl ?_
            refine Wk.ifcF (q := 72) at_69 rfl (by decide : ¬ (1 : Int32) = (0 : Int32)) ?_
            refine Wk.lloadN (q := 73) at_72 rfl rfl ?_
            refine Wk.callS (q := 76) (argsL := [(.long p1)]) (rest := []) (rm := (⟨3, 1, 1, 39⟩ : Room)) (Q' := fun w h' => ∃ b x, w = .ref b ∧ Exa Z h' b "java/lang/Long" ∧ Fld Z h' b "java/lang/Long" "value" "J" (.long x) ∧ Keep _ h' []) (m_val hw F (own_ge O) p1) (w_54 hw) (w_55 hw) (w_56 hw) (w_57 hw) (by decide) pd_7 rfl rfl rfl at_73 rfl (W := 0) rfl (by decide) (by decide) (by decide) (by decide) ?_
            rintro _ h2 ⟨b1, y1, rfl, x1, g1, K2⟩
            have O := O.keep K2 all0
            have F := F0.ext O.2
            have L_b1 : LN Z h2 h2.size (.ref b1) := Or.inr ⟨b1, y1, rfl, x1.lt, x1, g1⟩
            refine Wk.goto (q := 80) at_76 (by decide) rfl ?_
            refine Wk.astore (q := 82) (ls' := #[.val (.int p0), .val (.long p1), .second, .val (.long p2), .second, .val (.long p3), .second, .val (.long p4), .second, .val (.long p5), .second, .val (.int (1 : Int32)), .val (.int (1 : Int32)), .val (.int (0 : Int32)), .val (.int (1 : Int32)), .val (.int (0 : Int32)), .val (.ref b1), .unset, .unset, .unset, .unset, .unset, .unset, .unset, .unset, .unset, .unset, .unset]) at_80 rfl rfl rfl ?_
            refine Wk.iload (q := 84) at_82 rfl rfl ?_
            refine Wk.ifcF (q := 87) at_84 rfl (by decide : ¬ (1 : Int32) = (0 : Int32)) ?_
            refine Wk.lloadN (q := 88) at_87 rfl rfl ?_
            refine Wk.callS (q := 91) (argsL := [(.long p2)]) (rest := []) (rm := (⟨3, 1, 1, 39⟩ : Room)) (Q' := fun w h' => ∃ b x, w = .ref b ∧ Exa Z h' b "java/lang/Long" ∧ Fld Z h' b "java/lang/Long" "value" "J" (.long x) ∧ Keep _ h' []) (m_val hw F (own_ge O) p2) (w_54 hw) (w_55 hw) (w_56 hw) (w_57 hw) (by decide) pd_7 rfl rfl rfl at_88 rfl (W := 0) rfl (by decide) (by decide) (by decide) (by decide) ?_
            rintro _ h2 ⟨b2, y2, rfl, x2, g2, K2⟩
            have L_b1 := (LN.keep L_b1 K2 all0).up K2.1
            have O := O.keep K2 all0
            have F := F0.ext O.2
            have L_b2 : LN Z h2 h2.size (.ref b2) := Or.inr ⟨b2, y2, rfl, x2.lt, x2, g2⟩
            refine Wk.goto (q := 95) at_91 (by decide) rfl ?_
            refine Wk.astore (q := 97) (ls' := #[.val (.int p0), .val (.long p1), .second, .val (.long p2), .second, .val (.long p3), .second, .val (.long p4), .second, .val (.long p5), .second, .val (.int (1 : Int32)), .val (.int (1 : Int32)), .val (.int (0 : Int32)), .val (.int (1 : Int32)), .val (.int (0 : Int32)), .val (.ref b1), .val (.ref b2), .unset, .unset, .unset, .unset, .unset, .unset, .unset, .unset, .unset, .unset]) at_95 rfl rfl rfl ?_
            refine Wk.iload (q := 99) at_97 rfl rfl ?_
            refine Wk.ifcT (q := 110) at_99 (by decide) rfl (by decide : (0 : Int32) = (0 : Int32)) ?_
            refine Wk.null (q := 111) at_110 rfl ?_
            refine Wk.astore (q := 113) (ls' := #[.val (.int p0), .val (.long p1), .second, .val (.long p2), .second, .val (.long p3), .second, .val (.long p4), .second, .val (.long p5), .second, .val (.int (1 : Int32)), .val (.int (1 : Int32)), .val (.int (0 : Int32)), .val (.int (1 : Int32)), .val (.int (0 : Int32)), .val (.ref b1), .val (.ref b2), .val .null, .unset, .unset, .unset, .unset, .unset, .unset, .unset, .unset, .unset]) at_111 rfl rfl rfl ?_
            refine Wk.iload (q := 115) at_113 rfl rfl ?_
            refine Wk.ifcT (q := 126) at_115 (by decide) rfl (by decide : (0 : Int32) = (0 : Int32)) ?_
            refine Wk.null (q := 127) at_126 rfl ?_
            refine Wk.astore (q := 129) (ls' := #[.val (.int p0), .val (.long p1), .second, .val (.long p2), .second, .val (.long p3), .second, .val (.long p4), .second, .val (.long p5), .second, .val (.int (1 : Int32)), .val (.int (1 : Int32)), .val (.int (0 : Int32)), .val (.int (1 : Int32)), .val (.int (0 : Int32)), .val (.ref b1), .val (.ref b2), .val .null, .val .null, .unset, .unset, .unset, .unset, .unset, .unset, .unset, .unset]) at_127 rfl rfl rfl ?_
            refine Wk.iload (q := 131) at_129 rfl rfl ?_
            refine Wk.ifcF (q := 134) at_131 rfl (by decide : ¬ (1 : Int32) = (0 : Int32)) ?_
            refine Wk.lload (q := 136) at_134 rfl rfl ?_
            refine Wk.callS (q := 139) (argsL := [(.long p4)]) (rest := []) (rm := (⟨3, 1, 1, 39⟩ : Room)) (Q' := fun w h' => ∃ b x, w = .ref b ∧ Exa Z h' b "java/lang/Long" ∧ Fld Z h' b "java/lang/Long" "value" "J" (.long x) ∧ Keep _ h' []) (m_val hw F (own_ge O) p4) (w_54 hw) (w_55 hw) (w_56 hw) (w_57 hw) (by decide) pd_7 rfl rfl rfl at_136 rfl (W := 0) rfl (by decide) (by decide) (by decide) (by decide) ?_
            rintro _ h2 ⟨b3, y3, rfl, x3, g3, K2⟩
            have L_b1 := (LN.keep L_b1 K2 all0).up K2.1
            have L_b2 := (LN.keep L_b2 K2 all0).up K2.1
            have O := O.keep K2 all0
            have F := F0.ext O.2
            have L_b3 : LN Z h2 h2.size (.ref b3) := Or.inr ⟨b3, y3, rfl, x3.lt, x3, g3⟩
            refine Wk.goto (q := 143) at_139 (by decide) rfl ?_
            refine Wk.astore (q := 145) (ls' := #[.val (.int p0), .val (.long p1), .second, .val (.long p2), .second, .val (.long p3), .second, .val (.long p4), .second, .val (.long p5), .second, .val (.int (1 : Int32)), .val (.int (1 : Int32)), .val (.int (0 : Int32)), .val (.int (1 : Int32)), .val (.int (0 : Int32)), .val (.ref b1), .val (.ref b2), .val .null, .val .null, .val (.ref b3), .unset, .unset, .unset, .unset, .unset, .unset, .unset]) at_143 rfl rfl rfl ?_
            refine Wk.more (cl' := 5) (sl' := 5) (by decide) (by decide) ?_
            exact t145_rr hw (own_ge O) (Nat.le_refl _) p0 p1 p2 p3 p4 p5 (0 : Int32) (1 : Int32) (0 : Int32) L_b1 L_b2 (Or.inl rfl) (Or.inl rfl) L_b3
          · refine Wk.iconst (q := 61) (v := (1 : Int32)) at_60 rfl rfl ?_
            refine Wk.goto (q := 65) at_61 (by decide) rfl ?_
            refine Wk.istore (q := 67) (ls' := #[.val (.int p0), .val (.long p1), .second, .val (.long p2), .second, .val (.long p3), .second, .val (.long p4), .second, .val (.long p5), .second, .val (.int (1 : Int32)), .val (.int (1 : Int32)), .val (.int (0 : Int32)), .val (.int (1 : Int32)), .val (.int (1 : Int32)), .unset, .unset, .unset, .unset, .unset, .unset, .unset, .unset, .unset, .unset, .unset, .unset]) at_65 rfl rfl ?_
            refine Wk.iload (q := 69) at_67 rfl rfl ?_
            refine Wk.ifcF (q := 72) at_69 rfl (by decide : ¬ (1 : Int32) = (0 : Int32)) ?_
            refine Wk.lloadN (q := 73) at_72 rfl rfl ?_
            refine Wk.callS (q := 76) (argsL := [(.long p1)]) (rest := []) (rm := (⟨3, 1, 1, 39⟩ : Room)) (Q' := fun w h' => ∃ b x, w = .ref b ∧ Exa Z h' b "java/lang/Long" ∧ Fld Z h' b "java/lang/Long" "value" "J" (.long x) ∧ Keep _ h' []) (m_val hw F (own_ge O) p1) (w_54 hw) (w_55 hw) (w_56 hw) (w_57 hw) (by decide) pd_7 rfl rfl rfl at_73 rfl (W := 0) rfl (by decide) (by decide) (by decide) (by decide) ?_
            rintro _ h2 ⟨b1, y1, rfl, x1, g1, K2⟩
            have O := O.keep K2 all0
            have F := F0.ext O.2
            have L_b1 : LN Z h2 h2.size (.ref b1) := Or.inr ⟨b1, y1, rfl, x1.lt, x1, g1⟩
            refine Wk.goto (q := 80) at_76 (by decide) rfl ?_
            refine Wk.astore (q := 82) (ls' := #[.val (.int p0), .val (.long p1), .second, .val (.long p2), .second, .val (.long p3), .second, .val (.long p4), .second, .val (.long p5), .second, .val (.int (1 : Int32)), .val (.int (1 : Int32)), .val (.int (0 : Int32)), .val (.int (1 : Int32)), .val (.int (1 : Int32)), .val (.ref b1), .unset, .unset, .unset, .unset, .unset, .unset, .unset, .unset, .unset, .unset, .unset]) at_80 rfl rfl rfl ?_
            refine Wk.iload (q := 84) at_82 rfl rfl ?_
            refine Wk.ifcF (q := 87) at_84 rfl (by decide : ¬ (1 : Int32) = (0 : Int32)) ?_
            refine Wk.lloadN (q := 88) at_87 rfl rfl ?_
            refine Wk.callS (q := 91) (argsL := [(.long p2)]) (rest := []) (rm := (⟨3, 1, 1, 39⟩ : Room)) (Q' := fun w h' => ∃ b x, w = .ref b ∧ Exa Z h' b "java/lang/Long" ∧ Fld Z h' b "java/lang/Long" "value" "J" (.long x) ∧ Keep _ h' []) (m_val hw F (own_ge O) p2) (w_54 hw) (w_55 hw) (w_56 hw) (w_57 hw) (by decide) pd_7 rfl rfl rfl at_88 rfl (W := 0) rfl (by decide) (by decide) (by decide) (by decide) ?_
            rintro _ h2 ⟨b2, y2, rfl, x2, g2, K2⟩
            have L_b1 := (LN.keep L_b1 K2 all0).up K2.1
            have O := O.keep K2 all0
            have F := F0.ext O.2
            have L_b2 : LN Z h2 h2.size (.ref b2) := Or.inr ⟨b2, y2, rfl, x2.lt, x2, g2⟩
            refine Wk.goto (q := 95) at_91 (by decide) rfl ?_
            refine Wk.astore (q := 97) (ls' := #[.val (.int p0), .val (.long p1), .second, .val (.long p2), .second, .val (.long p3), .second, .val (.long p4), .second, .val (.long p5), .second, .val (.int (1 : Int32)), .val (.int (1 : Int32)), .val (.int (0 : Int32)), .val (.int (1 : Int32)), .val (.int (1 : Int32)), .val (.ref b1), .val (.ref b2), .unset, .unset, .unset, .unset, .unset, .unset, .unset, .unset, .unset, .unset]) at_95 rfl rfl rfl ?_
            refine Wk.iload (q := 99) at_97 rfl rfl ?_
            refine Wk.ifcF (q := 102) at_99 rfl (by decide : ¬ (1 : Int32) = (0 : Int32)) ?_
            refine Wk.lload (q := 104) at_102 rfl rfl ?_
            refine Wk.callS (q := 107) (argsL := [(.long p5)]) (rest := []) (rm := (⟨3, 1, 1, 39⟩ : Room)) (Q' := fun w h' => ∃ b x, w = .ref b ∧ Exa Z h' b "java/lang/Long" ∧ Fld Z h' b "java/lang/Long" "value" "J" (.long x) ∧ Keep _ h' []) (m_val hw F (own_ge O) p5) (w_54 hw) (w_55 hw) (w_56 hw) (w_57 hw) (by decide) pd_7 rfl rfl rfl at_104 rfl (W := 0) rfl (by decide) (by decide) (by decide) (by decide) ?_
            rintro _ h2 ⟨b3, y3, rfl, x3, g3, K2⟩
            have L_b1 := (LN.keep L_b1 K2 all0).up K2.1
            have L_b2 := (LN.keep L_b2 K2 all0).up K2.1
            have O := O.keep K2 all0
            have F := F0.ext O.2
            have L_b3 : LN Z h2 h2.size (.ref b3) := Or.inr ⟨b3, y3, rfl, x3.lt, x3, g3⟩
            refine Wk.goto (q := 111) at_107 (by decide) rfl ?_
            refine Wk.astore (q := 113) (ls' := #[.val (.int p0), .val (.long p1), .second, .val (.long p2), .second, .val (.long p3), .second, .val (.long p4), .second, .val (.long p5), .second, .val (.int (1 : Int32)), .val (.int (1 : Int32)), .val (.int (0 : Int32)), .val (.int (1 : Int32)), .val (.int (1 : Int32)), .val (.ref b1), .val (.ref b2), .val (.ref b3), .unset, .unset, .unset, .unset, .unset, .unset, .unset, .unset, .unset]) at_111 rfl rfl rfl ?_
            refine Wk.iload (q := 115) at_113 rfl rfl ?_
            refine Wk.ifcT (q := 126) at_115 (by decide) rfl (by decide : (0 : Int32) = (0 : Int32)) ?_
            refine Wk.null (q := 127) at_126 rfl ?_
            refine Wk.astore (q := 129) (ls' := #[.val (.int p0), .val (.long p1), .second, .val (.long p2), .second, .val (.long p3), .second, .val (.long p4), .second, .val (.long p5), .second, .val (.int (1 : Int32)), .val (.int (1 : Int32)), .val (.int (0 : Int32)), .val (.int (1 : Int32)), .val (.int (1 : Int32)), .val (.ref b1), .val (.ref b2), .val (.ref b3), .val .null, .unset, .unset, .unset, .unset, .unset, .unset, .unset, .unset]) at_127 rfl rfl rfl ?_
            refine Wk.iload (q := 131) at_129 rfl rfl ?_
            refine Wk.ifcF (q := 134) at_131 rfl (by decide : ¬ (1 : Int32) = (0 : Int32)) ?_
            refine Wk.lload (q := 136) at_134 rfl rfl ?_
            refine Wk.callS (q := 139) (argsL := [(.long p4)]) (rest := []) (rm := (⟨3, 1, 1, 39⟩ : Room)) (Q' := fun w h' => ∃ b x, w = .ref b ∧ Exa Z h' b "java/lang/Long" ∧ Fld Z h' b "java/lang/Long" "value" "J" (.long x) ∧ Keep _ h' []) (m_val hw F (own_ge O) p4) (w_54 hw) (w_55 hw) (w_56 hw) (w_57 hw) (by decide) pd_7 rfl rfl rfl at_136 rfl (W := 0) rfl (by decide) (by decide) (by decide) (by decide) ?_
            rintro _ h2 ⟨b4, y4, rfl, x4, g4, K2⟩
            have L_b1 := (LN.keep L_b1 K2 all0).up K2.1
            have L_b2 := (LN.keep L_b2 K2 all0).up K2.1
            have L_b3 := (LN.keep L_b3 K2 all0).up K2.1
            have O := O.keep K2 all0
            have F := F0.ext O.2
            have L_b4 : LN Z h2 h2.size (.ref b4) := Or.inr ⟨b4, y4, rfl, x4.lt, x4, g4⟩
            refine Wk.goto (q := 143) at_139 (by decide) rfl ?_
            refine Wk.astore (q := 145) (ls' := #[.val (.int p0), .val (.long p1), .second, .val (.long p2), .second, .val (.long p3), .second, .val (.long p4), .second, .val (.long p5), .second, .val (.int (1 : Int32)), .val (.int (1 : Int32)), .val (.int (0 : Int32)), .val (.int (1 : Int32)), .val (.int (1 : Int32)), .val (.ref b1), .val (.ref b2), .val (.ref b3), .val .null, .val (.ref b4), .unset, .unset, .unset, .unset, .unset, .unset, .unset]) at_143 rfl rfl rfl ?_
            refine Wk.more (cl' := 5) (sl' := 5) (by decide) (by decide) ?_
            exact t145_rr hw (own_ge O) (Nat.le_refl _) p0 p1 p2 p3 p4 p5 (0 : Int32) (1 : Int32) (1 : Int32) L_b1 L_b2 L_b3 (Or.inl rfl) L_b4
      · refine Wk.iconst (q := 33) (v := (1 : Int32)) at_32 rfl rfl ?_
        refine Wk.goto (q := 37) at_33 (by decide) rfl ?_
        refine Wk.istore (q := 39) (ls' := #[.val (.int p0), .val (.long p1), .second, .val (.long p2), .second, .val (.long p3), .second, .val (.long p4), .second, .val (.long p5), .second, .val (.int (1 : Int32)), .val (.int (1 : Int32)), .val (.int (1 : Int32)), .unset, .unset, .unset, .unset, .unset, .unset, .unset, .unset, .unset, .unset, .unset, .unset, .unset, .unset]) at_37 rfl rfl ?_
        refine Wk.iloadN (q := 40) at_39 rfl rfl ?_
        refine Wk.bipush (q := 42) (v := (8 : Int32)) at_40 rfl rfl ?_
        refine Wk.iand (q := 43) (v := (p0 &&& (8 : Int32))) at_42 rfl rfl ?_
        refine Wk.ifc (q := 50) (q' := 46) at_43 (by decide) rfl rfl (fun (h29 : (p0 &&& (8 : Int32)) = (0 : Int32)) => ?_) (fun (h29 : ¬ (p0 &&& (8 : Int32)) = (0 : Int32)) => ?_)
        · refine Wk.iconst (q := 51) (v := (0 : Int32)) at_50 rfl rfl ?_
          refine Wk.istore (q := 53) (ls' := #[.val (.int p0), .val (.long p1), .second, .val (.long p2), .second, .val (.long p3), .second, .val (.long p4), .second, .val (.long p5), .second, .val (.int (1 : Int32)), .val (.int (1 : Int32)), .val (.int (1 : Int32)), .val (.int (0 : Int32)), .unset, .unset, .unset, .unset, .unset, .unset, .unset, .unset, .unset, .unset, .unset, .unset, .unset]) at_51 rfl rfl ?_
          refine Wk.iloadN (q := 54) at_53 rfl rfl ?_
          refine Wk.bipush (q := 56) (v := (16 : Int32)) at_54 rfl rfl ?_
          refine Wk.iand (q := 57) (v := (p0 &&& (16 : Int32))) at_56 rfl rfl ?_
          refine Wk.ifc (q := 64) (q' := 60) at_57 (by decide) rfl rfl (fun (h30 : (p0 &&& (16 : Int32)) = (0 : Int32)) => ?_) (fun (h30 : ¬ (p0 &&& (16 : Int32)) = (0 : Int32)) => ?_)
          · refine Wk.iconst (q := 65) (v := (0 : Int32)) at_64 rfl rfl ?_
            refine Wk.istore (q := 67) (ls' := #[.val (.int p0), .val (.long p1), .second, .val (.long p2), .second, .val (.long p3), .second, .val (.long p4), .second, .val (.long p5), .second, .val (.int (1 : Int32)), .val (.int (1 : Int32)), .val (.int (1 : Int32)), .val (.int (0 : Int32)), .val (.int (0 : Int32)), .unset, .unset, .unset, .unset, .unset, .unset, .unset, .unset, .unset, .unset, .unset, .unset]) at_65 rfl rfl ?_
            refine Wk.iload (q := 69) at_67 rfl rfl ?_
            refine Wk.ifcF (q := 72) at_69 rfl (by decide : ¬ (1 : Int32) = (0 : Int32)) ?_
            refine Wk.lloadN (q := 73) at_72 rfl rfl ?_
            refine Wk.callS (q := 76) (argsL := [(.long p1)]) (rest := []) (rm := (⟨3, 1, 1, 39⟩ : Room)) (Q' := fun w h' => ∃ b x, w = .ref b ∧ Exa Z h' b "java/lang/Long" ∧ Fld Z h' b "java/lang/Long" "value" "J" (.long x) ∧ Keep _ h' []) (m_val hw F (own_ge O) p1) (w_54 hw) (w_55 hw) (w_56 hw) (w_57 hw) (by decide) pd_7 rfl rfl rfl at_73 rfl (W := 0) rfl (by decide) (by decide) (by decide) (by decide) ?_
            rintro _ h2 ⟨b1, y1, rfl, x1, g1, K2⟩
            have O := O.keep K2 all0
            have F := F0.ext O.2
            have L_b1 : LN Z h2 h2.size (.ref b1) := Or.inr ⟨b1, y1, rfl, x1.lt, x1, g1⟩
            refine Wk.goto (q := 80) at_76 (by decide) rfl ?_
            refine Wk.astore (q := 82) (ls' := #[.val (.int p0), .val (.long p1), .second, .val (.long p2), .second, .val (.long p3), .second, .val (.long p4), .second, .val (.long p5), .second, .val (.int (1 : Int32)), .val (.int (1 : Int32)), .val (.int (1 : Int32)), .val (.int (0 : Int32)), .val (.int (0 : Int32)), .val (.ref b1), .unset, .unset, .unset, .unset, .unset, .unset, .unset, .unset, .unset, .unset, .unset]) at_80 rfl rfl rfl ?_
            refine Wk.iload (q := 84) at_82 rfl rfl ?_
            refine Wk.ifcF (q := 87) at_84 rfl (by decide : ¬ (1 : Int32) = (0 : Int32)) ?_
            refine Wk.lloadN (q := 88) at_87 rfl rfl ?_
            refine Wk.callS (q := 91) (argsL := [(.long p2)]) (rest := []) (rm := (⟨3, 1, 1, 39⟩ : Room)) (Q' := fun w h' => ∃ b x, w = .ref b ∧ Exa Z h' b "java/lang/Long" ∧ Fld Z h' b "java/lang/Long" "value" "J" (.long x) ∧ Keep _ h' []) (m_val hw F (own_ge O) p2) (w_54 hw) (w_55 hw) (w_56 hw) (w_57 hw) (by decide) pd_7 rfl rfl rfl at_88 rfl (W := 0) rfl (by decide) (by decide) (by decide) (by decide) ?_
            rintro _ h2 ⟨b2, y2, rfl, x2, g2, K2⟩
            have L_b1 := (LN.keep L_b1 K2 all0).up K2.1
            have O := O.keep K2 all0
            have F := F0.ext O.2
            have L_b2 : LN Z h2 h2.size (.ref b2) := Or.inr ⟨b2, y2, rfl, x2.lt, x2, g2⟩
            refine Wk.goto (q := 95) at_91 (by decide) rfl ?_
            refine Wk.astore (q := 97) (ls' := #[.val (.int p0), .val (.long p1), .second, .val (.long p2), .second, .val (.long p3), .second, .val (.long p4), .second, .val (.long p5), .second, .val (.int (1 : Int32)), .val (.int (1 : Int32)), .val (.int (1 : Int32)), .val (.int (0 : Int32)), .val (.int (0 : Int32)), .val (.ref b1), .val (.ref b2), .unset, .unset, .unset, .unset, .unset, .unset, .unset, .unset, .unset, .unset]) at_95 rfl rfl rfl ?_
            refine Wk.iload (q := 99) at_97 rfl rfl ?_
            refine Wk.ifcT (q := 110) at_99 (by decide) rfl (by decide : (0 : Int32) = (0 : Int32)) ?_
            refine Wk.null (q := 111) at_110 rfl ?_
            refine Wk.astore (q := 113) (ls' := #[.val (.int p0), .val (.long p1), .second, .val (.long p2), .second, .val (.long p3), .second, .val (.long p4), .second, .val (.long p5), .second, .val (.int (1 : Int32)), .val (.int (1 : Int32)), .val (.int (1 : Int32)), .val (.int (0 : Int32)), .val (.int (0 : Int32)), .val (.ref b1), .val (.ref b2), .val .null, .unset, .unset, .unset, .unset, .unset, .unset, .unset, .unset, .unset]) at_111 rfl rfl rfl ?_
            refine Wk.iload (q := 115) at_113 rfl rfl ?_
            refine Wk.ifcF (q := 118) at_115 rfl (by decide : ¬ (1 : Int32) = (0 : Int32)) ?_
            refine Wk.lload (q := 120) at_118 rfl rfl ?_
            refine Wk.callS (q := 123) (argsL := [(.long p3)]) (rest := []) (rm := (⟨3, 1, 1, 39⟩ : Room)) (Q' := fun w h' => ∃ b x, w = .ref b ∧ Exa Z h' b "java/lang/Long" ∧ Fld Z h' b "java/lang/Long" "value" "J" (.long x) ∧ Keep _ h' []) (m_val hw F (own_ge O) p3) (w_54 hw) (w_55 hw) (w_56 hw) (w_57 hw) (by decide) pd_7 rfl rfl rfl at_120 rfl (W := 0) rfl (by decide) (by decide) (by decide) (by decide) ?_
            rintro _ h2 ⟨b3, y3, rfl, x3, g3, K2⟩
            have L_b1 := (LN.keep L_b1 K2 all0).up K2.1
            have L_b2 := (LN.keep L_b2 K2 all0).up K2.1
            have O := O.keep K2 all0
            have F := F0.ext O.2
            have L_b3 : LN Z h2 h2.size (.ref b3) := Or.inr ⟨b3, y3, rfl, x3.lt, x3, g3⟩
            refine Wk.goto (q := 127) at_123 (by decide) rfl ?_
            refine Wk.astore (q := 129) (ls' := #[.val (.int p0), .val (.long p1), .second, .val (.long p2), .second, .val (.long p3), .second, .val (.long p4), .second, .val (.long p5), .second, .val (.int (1 : Int32)), .val (.int (1 : Int32)), .val (.int (1 : Int32)), .val (.int (0 : Int32)), .val (.int (0 : Int32)), .val (.ref b1), .val (.ref b2), .val .null, .val (.ref b3), .unset, .unset, .unset, .unset, .unset, .unset, .unset, .unset]) at_127 rfl rfl rfl ?_
            refine Wk.iload (q := 131) at_129 rfl rfl ?_
            refine Wk.ifcT (q := 142) at_131 (by decide) rfl (by decide : (0 : Int32) = (0 : Int32)) ?_
            refine Wk.null (q := 143) at_142 rfl ?_
            refine Wk.astore (q := 145) (ls' := #[.val (.int p0), .val (.long p1), .second, .val (.long p2), .second, .val (.long p3), .second, .val (.long p4), .second, .val (.long p5), .second, .val (.int (1 : Int32)), .val (.int (1 : Int32)), .val (.int (1 : Int32)), .val (.int (0 : Int32)), .val (.int (0 : Int32)), .val (.ref b1), .val (.ref b2), .val .null, .val (.ref b3), .val .null, .unset, .unset, .unset, .unset, .unset, .unset, .unset]) at_143 rfl rfl rfl ?_
            refine Wk.more (cl' := 5) (sl' := 5) (by decide) (by decide) ?_
            exact t145_rr hw (own_ge O) (Nat.le_refl _) p0 p1 p2 p3 p4 p5 (1 : Int32) (0 : Int32) (0 : Int32) L_b1 L_b2 (Or.inl rfl) L_b3 (Or.inl rfl)
          · refine Wk.iconst (q := 61) (v := (1 : Int32)) at_60 rfl rfl ?_
            refine Wk.goto (q := 65) at_61 (by decide) rfl ?_
            refine Wk.istore (q := 67) (ls' := #[.val (.int p0), .val (.long p1), .second, .val (.long p2), .second, .val (.long p3), .second, .val (.long p4), .second, .val (.long p5), .second, .val (.int (1 : Int32)), .val (.int (1 : Int32)), .val (.int (1 : Int32)), .val (.int (0 : Int32)), .val (.int (1 : Int32)), .unset, .unset, .unset, .unset, .unset, .unset, .unset, .unset, .unset, .unset, .unset, .unset]) at_65 rfl rfl ?_
            refine Wk.iload (q := 69) at_67 rfl rfl ?_
            refine Wk.ifcF (q := 72) at_69 rfl (by decide : ¬ (1 : Int32) = (0 : Int32)) ?_
            refine Wk.lloadN (q := 73) at_72 rfl rfl ?_
            refine Wk.callS (q := 76) (argsL := [(.long p1)]) (rest := []) (rm := (⟨3, 1, 1, 39⟩ : Room)) (Q' := fun w h' => ∃ b x, w = .ref b ∧ Exa Z h' b "java/lang/Long" ∧ Fld Z h' b "java/lang/Long" "value" "J" (.long x) ∧ Keep _ h' []) (m_val hw F (own_ge O) p1) (w_54 hw) (w_55 hw) (w_56 hw) (w_57 hw) (by decide) pd_7 rfl rfl rfl at_73 rfl (W := 0) rfl (by decide) (by decide) (by decide) (by decide) ?_
            rintro _ h2 ⟨b1, y1, rfl, x1, g1, K2⟩
            have O := O.keep K2 all0
            have F := F0.ext O.2
            have L_b1 : LN Z h2 h2.size (.ref b1) := Or.inr ⟨b1, y1, rfl, x1.lt, x1, g1⟩
            refine Wk.goto (q := 80) at_76 (by decide) rfl ?_
            refine Wk.astore (q := 82) (ls' := #[.val (.int p0), .val (.long p1), .second, .val (.long p2), .second, .val (.long p3), .second, .val (.long p4), .second, .val (.long p5), .second, .val (.int (1 : Int32)), .val (.int (1 : Int32)), .val (.int (1 : Int32)), .val (.int (0 : Int32)), .val (.int (1 : Int32)), .val (.ref b1), .unset, .unset, .unset, .unset, .unset, .unset, .unset, .unset, .unset, .unset, .unset]) at_80 rfl rfl rfl ?_
            refine Wk.iload (q := 84) at_82 rfl rfl ?_
            refine Wk.ifcF (q := 87) at_84 rfl (by decide : ¬ (1 : Int32) = (0 : Int32)) ?_
            refine Wk.lloadN (q := 88) at_87 rfl rfl ?_
            refine Wk.callS (q := 91) (argsL := [(.long p2)]) (rest := []) (rm := (⟨3, 1, 1, 39⟩ : Room)) (Q' := fun w h' => ∃ b x, w = .ref b ∧ Exa Z h' b "java/lang/Long" ∧ Fld Z h' b "java/lang/Long" "value" "J" (.long x) ∧ Keep _ h' []) (m_val hw F (own_ge O) p2) (w_54 hw) (w_55 hw) (w_56 hw) (w_57 hw) (by decide) pd_7 rfl rfl rfl at_88 rfl (W := 0) rfl (by decide) (by decide) (by decide) (by decide) ?_
            rintro _ h2 ⟨b2, y2, rfl, x2, g2, K2⟩
            have L_b1 := (LN.keep L_b1 K2 all0).up K2.1
            have O := O.keep K2 all0
            have F := F0.ext O.2
            have L_b2 : LN Z h2 h2.size (.ref b2) := Or.inr ⟨b2, y2, rfl, x2.lt, x2, g2⟩
            refine Wk.goto (q := 95) at_91 (by decide) rfl ?_
            refine Wk.astore (q := 97) (ls' := #[.val (.int p0), .val (.long p1), .second, .val (.long p2), .second, .val (.long p3), .second, .val (.long p4), .second, .val (.long p5), .second, .val (.int (1 : Int32)), .val (.int (1 : Int32)), .val (.int (1 : Int32)), .val (.int (0 : Int32)), .val (.int (1 : Int32)), .val (.ref b1), .val (.ref b2), .unset, .unset, .unset, .unset, .unset, .unset, .unset, .unset, .unset, .unset]) at_95 rfl rfl rfl ?_
            refine Wk.iload (q := 99) at_97 rfl rfl ?_
            refine Wk.ifcF (q := 102) at_99 rfl (by decide : ¬ (1 : Int32) = (0 : Int32)) ?_
            refine Wk.lload (q := 104) at_102 rfl rfl ?_
            refine Wk.callS (q := 107) (argsL := [(.long p5)]) (rest := []) (rm := (⟨3, 1, 1, 39⟩ : Room)) (Q' := fun w h' => ∃ b x, w = .ref b ∧ Exa Z h' b "java/lang/Long" ∧ Fld Z h' b "java/lang/Long" "value" "J" (.long x) ∧ Keep _ h' []) (m_val hw F (own_ge O) p5) (w_54 hw) (w_55 hw) (w_56 hw) (w_57 hw) (by decide) pd_7 rfl rfl rfl at_104 rfl (W := 0) rfl (by decide) (by decide) (by decide) (by decide) ?_
            rintro _ h2 ⟨b3, y3, rfl, x3, g3, K2⟩
            have L_b1 := (LN.keep L_b1 K2 all0).up K2.1
            have L_b2 := (LN.keep L_b2 K2 all0).up K2.1
            have O := O.keep K2 all0
            have F := F0.ext O.2
            have L_b3 : LN Z h2 h2.size (.ref b3) := Or.inr ⟨b3, y3, rfl, x3.lt, x3, g3⟩
            refine Wk.goto (q := 111) at_107 (by decide) rfl ?_
            refine Wk.astore (q := 113) (ls' := #[.val (.int p0), .val (.long p1), .second, .val (.long p2), .second, .val (.long p3), .second, .val (.long p4), .second, .val (.long p5), .second, .val (.int (1 : Int32)), .val (.int (1 : Int32)), .val (.int (1 : Int32)), .val (.int (0 : Int32)), .val (.int (1 : Int32)), .val (.ref b1), .val (.ref b2), .val (.ref b3), .unset, .unset, .unset, .unset, .unset, .unset, .unset, .unset, .unset]) at_111 rfl rfl rfl ?_
            refine Wk.iload (q := 115) at_113 rfl rfl ?_
            refine Wk.ifcF (q := 118) at_115 rfl (by decide : ¬ (1 : Int32) = (0 : Int32)) ?_
            refine Wk.lload (q := 120) at_118 rfl rfl ?_
            refine Wk.callS (q := 123) (argsL := [(.long p3)]) (rest := []) (rm := (⟨3, 1, 1, 39⟩ : Room)) (Q' := fun w h' => ∃ b x, w = .ref b ∧ Exa Z h' b "java/lang/Long" ∧ Fld Z h' b "java/lang/Long" "value" "J" (.long x) ∧ Keep _ h' []) (m_val hw F (own_ge O) p3) (w_54 hw) (w_55 hw) (w_56 hw) (w_57 hw) (by decide) pd_7 rfl rfl rfl at_120 rfl (W := 0) rfl (by decide) (by decide) (by decide) (by decide) ?_
            rintro _ h2 ⟨b4, y4, rfl, x4, g4, K2⟩
            have L_b1 := (LN.keep L_b1 K2 all0).up K2.1
            have L_b2 := (LN.keep L_b2 K2 all0).up K2.1
            have L_b3 := (LN.keep L_b3 K2 all0).up K2.1
            have O := O.keep K2 all0
            have F := F0.ext O.2
            have L_b4 : LN Z h2 h2.size (.ref b4) := Or.inr ⟨b4, y4, rfl, x4.lt, x4, g4⟩
            refine Wk.goto (q := 127) at_123 (by decide) rfl ?_
            refine Wk.astore (q := 129) (ls' := #[.val (.int p0), .val (.long p1), .second, .val (.long p2), .second, .val (.long p3), .second, .val (.long p4), .second, .val (.long p5), .second, .val (.int (1 : Int32)), .val (.int (1 : Int32)), .val (.int (1 : Int32)), .val (.int (0 : Int32)), .val (.int (1 : Int32)), .val (.ref b1), .val (.ref b2), .val (.ref b3), .val (.ref b4), .unset, .unset, .unset, .unset, .unset, .unset, .unset, .unset]) at_127 rfl rfl rfl ?_
            refine Wk.iload (q := 131) at_129 rfl rfl ?_
            refine Wk.ifcT (q := 142) at_131 (by decide) rfl (by decide : (0 : Int32) = (0 : Int32)) ?_
            refine Wk.null (q := 143) at_142 rfl ?_
            refine Wk.astore (q := 145) (ls' := #[.val (.int p0), .val (.long p1), .second, .val (.long p2), .second, .val (.long p3), .second, .val (.long p4), .second, .val (.long p5), .second, .val (.int (1 : Int32)), .val (.int (1 : Int32)), .val (.int (1 : Int32)), .val (.int (0 : Int32)), .val (.int (1 : Int32)), .val (.ref b1), .val (.ref b2), .val (.ref b3), .val (.ref b4), .val .null, .unset, .unset, .unset, .unset, .unset, .unset, .unset]) at_143 rfl rfl rfl ?_
            refine Wk.more (cl' := 5) (sl' := 5) (by decide) (by decide) ?_
            exact t145_rr hw (own_ge O) (Nat.le_refl _) p0 p1 p2 p3 p4 p5 (1 : Int32) (0 : Int32) (1 : Int32) L_b1 L_b2 L_b3 L_b4 (Or.inl rfl)
        · refine Wk.iconst (q := 47) (v := (1 : Int32)) at_46 rfl rfl ?_
          refine Wk.goto (q := 51) at_47 (by decide) rfl ?_
          refine Wk.istore (q := 53) (ls' := #[.val (.int p0), .val (.long p1), .second, .val (.long p2), .second, .val (.long p3), .second, .val (.long p4), .second, .val (.long p5), .second, .val (.int (1 : Int32)), .val (.int (1 : Int32)), .val (.int (1 : Int32)), .val (.int (1 : Int32)), .unset, .unset, .unset, .unset, .unset, .unset, .unset, .unset, .unset, .unset, .unset, .unset, .unset]) at_51 rfl rfl ?_
          refine Wk.iloadN (q := 54) at_53 rfl rfl ?_
          refine Wk.bipush (q := 56) (v := (16 : Int32)) at_54 rfl rfl ?_
          refine Wk.iand (q := 57) (v := (p0 &&& (16 : Int32))) at_56 rfl rfl ?_
          refine Wk.ifc (q := 64) (q' := 60) at_57 (by decide) rfl rfl (fun (h31 : (p0 &&& (16 : Int32)) = (0 : Int32)) => ?_) (fun (h31 : ¬ (p0 &&& (16 : Int32)) = (0 : Int32)) => ?_)
          · refine Wk.iconst (q := 65) (v := (0 : Int32)) at_64 rfl rfl ?_
            refine Wk.istore (q := 67) (ls' := #[.val (.int p0), .val (.long p1), .second, .val (.long p2), .second, .val (.long p3), .second, .val (.long p4), .second, .val (.long p5), .second, .val (.int (1 : Int32)), .val (.int (1 : Int32)), .val (.int (1 : Int32)), .val (.int (1 : Int32)), .val (.int (0 : Int32)), .unset, .unset, .unset, .unset, .unset, .unset, .unset, .unset, .unset, .unset, .unset, .unset]) at_65 rfl rfl ?_
            refine Wk.iload (q := 69) at_67 rfl rfl ?_
            refine Wk.ifcF (q := 72) at_69 rfl (by decide : ¬ (1 : Int32) = (0 : Int32)) ?_
            refine Wk.lloadN (q := 73) at_72 rfl rfl ?_
            refine Wk.callS (q := 76) (argsL := [(.long p1)]) (rest := []) (rm := (⟨3, 1, 1, 39⟩ : Room)) (Q' := fun w h' => ∃ b x, w = .ref b ∧ Exa Z h' b "java/lang/Long" ∧ Fld Z h' b "java/lang/Long" "value" "J" (.long x) ∧ Keep _ h' []) (m_val hw F (own_ge O) p1) (w_54 hw) (w_55 hw) (w_56 hw) (w_57 hw) (by decide) pd_7 rfl rfl rfl at_73 rfl (W := 0) rfl (by decide) (by decide) (by decide) (by decide) ?_
            rintro _ h2 ⟨b1, y1, rfl, x1, g1, K2⟩
            have O := O.keep K2 all0
            have F := F0.ext O.2
            have L_b1 : LN Z h2 h2.size (.ref b1) := Or.inr ⟨b1, y1, rfl, x1.lt, x1, g1⟩
            refine Wk.goto (q := 80) at_76 (by decide) rfl ?_
            refine Wk.astore (q := 82) (ls' := #[.val (.int p0), .val (.long p1), .second, .val (.long p2), .second, .val (.long p3), .second, .val (.long p4), .second, .val (.long p5), .second, .val (.int (1 : Int32)), .val (.int (1 : Int32)), .val (.int (1 : Int32)), .val (.int (1 : Int32)), .val (.int (0 : Int32)), .val (.ref b1), .unset, .unset, .unset, .unset, .unset, .unset, .unset, .unset, .unset, .unset, .unset]) at_80 rfl rfl rfl ?_
            refine Wk.iload (q := 84) at_82 rfl rfl ?_
            refine Wk.ifcF (q := 87) at_84 rfl (by decide : ¬ (1 : Int32) = (0 : Int32)) ?_
            refine Wk.lloadN (q := 88) at_87 rfl rfl ?_
            refine Wk.callS (q := 91) (argsL := [(.long p2)]) (rest := []) (rm := (⟨3, 1, 1, 39⟩ : Room)) (Q' := fun w h' => ∃ b x, w = .ref b ∧ Exa Z h' b "java/lang/Long" ∧ Fld Z h' b "java/lang/Long" "value" "J" (.long x) ∧ Keep _ h' []) (m_val hw F (own_ge O) p2) (w_54 hw) (w_55 hw) (w_56 hw) (w_57 hw) (by decide) pd_7 rfl rfl rfl at_88 rfl (W := 0) rfl (by decide) (by decide) (by decide) (by decide) ?_
            rintro _ h2 ⟨b2, y2, rfl, x2, g2, K2⟩
            have L_b1 := (LN.keep L_b1 K2 all0).up K2.1
            have O := O.keep K2 all0
            have F := F0.ext O.2
            have L_b2 : LN Z h2 h2.size (.ref b2) := Or.inr ⟨b2, y2, rfl, x2.lt, x2, g2⟩
            refine Wk.goto (q := 95) at_91 (by decide) rfl ?_
            refine Wk.astore (q := 97) (ls' := #[.val (.int p0), .val (.long p1), .second, .val (.long p2), .second, .val (.long p3), .second, .val (.long p4), .second, .val (.long p5), .second, .val (.int (1 : Int32)), .val (.int (1 : Int32)), .val (.int (1 : Int32)), .val (.int (1 : Int32)), .val (.int (0 : Int32)), .val (.ref b1), .val (.ref b2), .unset, .unset, .unset, .unset, .unset, .unset, .unset, .unset, .unset, .unset]) at_95 rfl rfl rfl ?_
            refine Wk.iload (q := 99) at_97 rfl rfl ?_
            refine Wk.ifcT (q := 110) at_99 (by decide) rfl (by decide : (0 : Int32) = (0 : Int32)) ?_
            refine Wk.null (q := 111) at_110 rfl ?_
            refine Wk.astore (q := 113) (ls' := #[.val (.int p0), .val (.long p1), .second, .val (.long p2), .second, .val (.long p3), .second, .val (.long p4), .second, .val (.long p5), .second, .val (.int (1 : Int32)), .val (.int (1 : Int32)), .val (.int (1 : Int32)), .val (.int (1 : Int32)), .val (.int (0 : Int32)), .val (.ref b1), .val (.ref b2), .val .null, .unset, .unset, .unset, .unset, .unset, .unset, .unset, .unset, .unset]) at_111 rfl rfl rfl ?_
            refine Wk.iload (q := 115) at_113 rfl rfl ?_
            refine Wk.ifcF (q := 118) at_115 rfl (by decide : ¬ (1 : Int32) = (0 : Int32)) ?_
            refine Wk.lload (q := 120) at_118 rfl rfl ?_
            refine Wk.callS (q := 123) (argsL := [(.long p3)]) (rest := []) (rm := (⟨3, 1, 1, 39⟩ : Room)) (Q' := fun w h' => ∃ b x, w = .ref b ∧ Exa Z h' b "java/lang/Long" ∧ Fld Z h' b "java/lang/Long" "value" "J" (.long x) ∧ Keep _ h' []) (m_val hw F (own_ge O) p3) (w_54 hw) (w_55 hw) (w_56 hw) (w_57 hw) (by decide) pd_7 rfl rfl rfl at_120 rfl (W := 0) rfl (by decide) (by decide) (by decide) (by decide) ?_
            rintro _ h2 ⟨b3, y3, rfl, x3, g3, K2⟩
            have L_b1 := (LN.keep L_b1 K2 all0).up K2.1
            have L_b2 := (LN.keep L_b2 K2 all0).up K2.1
            have O := O.keep K2 all0
            have F := F0.ext O.2
            have L_b3 : LN Z h2 h2.size (.ref b3) := Or.inr ⟨b3, y3, rfl, x3.lt, x3, g3⟩
            refine Wk.goto (q := 127) at_123 (by decide) rfl ?_
            refine Wk.astore (q := 129) (ls' := #[.val (.int p0), .val (.long p1), .second, .val (.long p2), .second, .val (.long p3), .second, .val (.long p4), .second, .val (.long p5), .second, .val (.int (1 : Int32)), .val (.int (1 : Int32)), .val (.int (1 : Int32)), .val (.int (1 : Int32)), .val (.int (0 : Int32)), .val (.ref b1), .val (.ref b2), .val .null, .val (.ref b3), .unset, .unset, .unset, .unset, .unset, .unset, .unset, .unset]) at_127 rfl rfl rfl ?_
            refine Wk.iload (q := 131) at_129 rfl rfl ?_
            refine Wk.ifcF (q := 134) at_131 rfl (by decide : ¬ (1 : Int32) = (0 : Int32)) ?_
            refine Wk.lload (q := 136) at_134 rfl rfl ?_
            refine Wk.callS (q := 139) (argsL := [(.long p4)]) (rest := []) (rm := (⟨3, 1, 1, 39⟩ : Room)) (Q' := fun w h' => ∃ b x, w = .ref b ∧ Exa Z h' b "java/lang/Long" ∧ Fld Z h' b "java/lang/Long" "value" "J" (.long x) ∧ Keep _ h' []) (m_val hw F (own_ge O) p4) (w_54 hw) (w_55 hw) (w_56 hw) (w_57 hw) (by decide) pd_7 rfl rfl rfl at_136 rfl (W := 0) rfl (by decide) (by decide) (by decide) (by decide) ?_
            rintro _ h2 ⟨b4, y4, rfl, x4, g4, K2⟩
            have L_b1 := (LN.keep L_b1 K2 all0).up K2.1
            have L_b2 := (LN.keep L_b2 K2 all0).up K2.1
            have L_b3 := (LN.keep L_b3 K2 all0).up K2.1
            have O := O.keep K2 all0
            have F := F0.ext O.2
            have L_b4 : LN Z h2 h2.size (.ref b4) := Or.inr ⟨b4, y4, rfl, x4.lt, x4, g4⟩
            refine Wk.goto (q := 143) at_139 (by decide) rfl ?_
            refine Wk.astore (q := 145) (ls' := #[.val (.int p0), .val (.long p1), .second, .val (.long p2), .second, .val (.long p3), .second, .val (.long p4), .second, .val (.long p5), .second, .val (.int (1 : Int32)), .val (.int (1 : Int32)), .val (.int (1 : Int32)), .val (.int (1 : Int32)), .val (.int (0 : Int32)), .val (.ref b1), .val (.ref b2), .val .null, .val (.ref b3), .val (.ref b4), .unset, .unset, .unset, .unset, .unset, .unset, .unset]) at_143 rfl rfl rfl ?_
            refine Wk.more (cl' := 5) (sl' := 5) (by decide) (by decide) ?_
            exact t145_rr hw (own_ge O) (Nat.le_refl _) p0 p1 p2 p3 p4 p5 (1 : Int32) (1 : Int32) (0 : Int32) L_b1 L_b2 (Or.inl rfl) L_b3 L_b4
          · refine Wk.iconst (q := 61) (v := (1 : Int32)) at_60 rfl rfl ?_
            refine Wk.goto (q := 65) at_61 (by decide) rfl ?_
            refine Wk.istore (q := 67) (ls' := #[.val (.int p0), .val (.long p1), .second, .val (.long p2), .second, .val (.long p3), .second, .val (.long p4), .second, .val (.long p5), .second, .val (.int (1 : Int32)), .val (.int (1 : Int32)), .val (.int (1 : Int32)), .val (.int (1 : Int32)), .val (.int (1 : Int32)), .unset, .unset, .unset, .unset, .unset, .unset, .unset, .unset, .unset, .unset, .unset, .unset]) at_65 rfl rfl ?_
            refine Wk.iload (q := 69) at_67 rfl rfl ?_
            refine Wk.ifcF (q := 72) at_69 rfl (by decide : ¬ (1 : Int32) = (0 : Int32)) ?_
            refine Wk.lloadN (q := 73) at_72 rfl rfl ?_
            refine Wk.callS (q := 76) (argsL := [(.long p1)]) (rest := []) (rm := (⟨3, 1, 1, 39⟩ : Room)) (Q' := fun w h' => ∃ b x, w = .ref b ∧ Exa Z h' b "java/lang/Long" ∧ Fld Z h' b "java/lang/Long" "value" "J" (.long x) ∧ Keep _ h' []) (m_val hw F (own_ge O) p1) (w_54 hw) (w_55 hw) (w_56 hw) (w_57 hw) (by decide) pd_7 rfl rfl rfl at_73 rfl (W := 0) rfl (by decide) (by decide) (by decide) (by decide) ?_
            rintro _ h2 ⟨b1, y1, rfl, x1, g1, K2⟩
            have O := O.keep K2 all0
            have F := F0.ext O.2
            have L_b1 : LN Z h2 h2.size (.ref b1) := Or.inr ⟨b1, y1, rfl, x1.lt, x1, g1⟩
            refine Wk.goto (q := 80) at_76 (by decide) rfl ?_
            refine Wk.astore (q := 82) (ls' := #[.val (.int p0), .val (.long p1), .second, .val (.long p2), .second, .val (.long p3), .second, .val (.long p4), .second, .val (.long p5), .second, .val (.int (1 : Int32)), .val (.int (1 : Int32)), .val (.int (1 : Int32)), .val (.int (1 : Int32)), .val (.int (1 : Int32)), .val (.ref b1), .unset, .unset, .unset, .unset, .unset, .unset, .unset, .unset, .unset, .unset, .unset]) at_80 rfl rfl rfl ?_
            refine Wk.iload (q := 84) at_82 rfl rfl ?_
            refine Wk.ifcF (q := 87) at_84 rfl (by decide : ¬ (1 : Int32) = (0 : Int32)) ?_
            refine Wk.lloadN (q := 88) at_87 rfl rfl ?_
            refine Wk.callS (q := 91) (argsL := [(.long p2)]) (rest := []) (rm := (⟨3, 1, 1, 39⟩ : Room)) (Q' := fun w h' => ∃ b x, w = .ref b ∧ Exa Z h' b "java/lang/Long" ∧ Fld Z h' b "java/lang/Long" "value" "J" (.long x) ∧ Keep _ h' []) (m_val hw F (own_ge O) p2) (w_54 hw) (w_55 hw) (w_56 hw) (w_57 hw) (by decide) pd_7 rfl rfl rfl at_88 rfl (W := 0) rfl (by decide) (by decide) (by decide) (by decide) ?_
            rintro _ h2 ⟨b2, y2, rfl, x2, g2, K2⟩
            have L_b1 := (LN.keep L_b1 K2 all0).up K2.1
            have O := O.keep K2 all0
            have F := F0.ext O.2
            have L_b2 : LN Z h2 h2.size (.ref b2) := Or.inr ⟨b2, y2, rfl, x2.lt, x2, g2⟩
            refine Wk.goto (q := 95) at_91 (by decide) rfl ?_
            refine Wk.astore (q := 97) (ls' := #[.val (.int p0), .val (.long p1), .second, .val (.long p2), .second, .val (.long p3), .second, .val (.long p4), .second, .val (.long p5), .second, .val (.int (1 : Int32)), .val (.int (1 : Int32)), .val (.int (1 : Int32)), .val (.int (1 : Int32)), .val (.int (1 : Int32)), .val (.ref b1), .val (.ref b2), .unset, .unset, .unset, .unset, .unset, .unset, .unset, .unset, .unset, .unset]) at_95 rfl rfl rfl ?_
            refine Wk.iload (q := 99) at_97 rfl rfl ?_
            refine Wk.ifcF (q := 102) at_99 rfl (by decide : ¬ (1 : Int32) = (0 : Int32)) ?_
            refine Wk.lload (q := 104) at_102 rfl rfl ?_
            refine Wk.callS (q := 107) (argsL := [(.long p5)]) (rest := []) (rm := (⟨3, 1, 1, 39⟩ : Room)) (Q' := fun w h' => ∃ b x, w = .ref b ∧ Exa Z h' b "java/lang/Long" ∧ Fld Z h' b "java/lang/Long" "value" "J" (.long x) ∧ Keep _ h' []) (m_val hw F (own_ge O) p5) (w_54 hw) (w_55 hw) (w_56 hw) (w_57 hw) (by decide) pd_7 rfl rfl rfl at_104 rfl (W := 0) rfl (by decide) (by decide) (by decide) (by decide) ?_
            rintro _ h2 ⟨b3, y3, rfl, x3, g3, K2⟩
            have L_b1 := (LN.keep L_b1 K2 all0).up K2.1
            have L_b2 := (LN.keep L_b2 K2 all0).up K2.1
            have O := O.keep K2 all0
            have F := F0.ext O.2
            have L_b3 : LN Z h2 h2.size (.ref b3) := Or.inr ⟨b3, y3, rfl, x3.lt, x3, g3⟩
            refine Wk.goto (q := 111) at_107 (by decide) rfl ?_
            refine Wk.astore (q := 113) (ls' := #[.val (.int p0), .val (.long p1), .second, .val (.long p2), .second, .val (.long p3), .second, .val (.long p4), .second, .val (.long p5), .second, .val (.int (1 : Int32)), .val (.int (1 : Int32)), .val (.int (1 : Int32)), .val (.int (1 : Int32)), .val (.int (1 : Int32)), .val (.ref b1), .val (.ref b2), .val (.ref b3), .unset, .unset, .unset, .unset, .unset, .unset, .unset, .unset, .unset]) at_111 rfl rfl rfl ?_
            refine Wk.iload (q := 115) at_113 rfl rfl ?_
            refine Wk.ifcF (q := 118) at_115 rfl (by decide : ¬ (1 : Int32) = (0 : Int32)) ?_
            refine Wk.lload (q := 120) at_118 rfl rfl ?_
            refine Wk.callS (q := 123) (argsL := [(.long p3)]) (rest := []) (rm := (⟨3, 1, 1, 39⟩ : Room)) (Q' := fun w h' => ∃ b x, w = .ref b ∧ Exa Z h' b "java/lang/Long" ∧ Fld Z h' b "java/lang/Long" "value" "J" (.long x) ∧ Keep _ h' []) (m_val hw F (own_ge O) p3) (w_54 hw) (w_55 hw) (w_56 hw) (w_57 hw) (by decide) pd_7 rfl rfl rfl at_120 rfl (W := 0) rfl (by decide) (by decide) (by decide) (by decide) ?_
            rintro _ h2 ⟨b4, y4, rfl, x4, g4, K2⟩
            have L_b1 := (LN.keep L_b1 K2 all0).up K2.1
            have L_b2 := (LN.keep L_b2 K2 all0).up K2.1
            have L_b3 := (LN.keep L_b3 K2 all0).up K2.1
            have O := O.keep K2 all0
            have F := F0.ext O.2
            have L_b4 : LN Z h2 h2.size (.ref b4) := Or.inr ⟨b4, y4, rfl, x4.lt, x4, g4⟩
            refine Wk.goto (q := 127) at_123 (by decide) rfl ?_
            refine Wk.astore (q := 129) (ls' := #[.val (.int p0), .val (.long p1), .second, .val (.long p2), .second, .val (.long p3), .second, .val (.long p4), .second, .val (.long p5), .second, .val (.int (1 : Int32)), .val (.int (1 : Int32)), .val (.int (1 : Int32)), .val (.int (1 : Int32)), .val (.int (1 : Int32)), .val (.ref b1), .val (.ref b2), .val (.ref b3), .val (.ref b4), .unset, .unset, .unset, .unset, .unset, .unset, .unset, .unset]) at_127 rfl rfl rfl ?_
            refine Wk.iload (q := 131) at_129 rfl rfl ?_
            refine Wk.ifcF (q := 134) at_131 rfl (by decide : ¬ (1 : Int32) = (0 : Int32)) ?_
            refine Wk.lload (q := 136) at_134 rfl rfl ?_
            refine Wk.callS (q := 139) (argsL := [(.long p4)]) (rest := []) (rm := (⟨3, 1, 1, 39⟩ : Room)) (Q' := fun w h' => ∃ b x, w = .ref b ∧ Exa Z h' b "java/lang/Long" ∧ Fld Z h' b "java/lang/Long" "value" "J" (.long x) ∧ Keep _ h' []) (m_val hw F (own_ge O) p4) (w_54 hw) (w_55 hw) (w_56 hw) (w_57 hw) (by decide) pd_7 rfl rfl rfl at_136 rfl (W := 0) rfl (by decide) (by decide) (by decide) (by decide) ?_
            rintro _ h2 ⟨b5, y5, rfl, x5, g5, K2⟩
            have L_b1 := (LN.keep L_b1 K2 all0).up K2.1
            have L_b2 := (LN.keep L_b2 K2 all0).up K2.1
            have L_b3 := (LN.keep L_b3 K2 all0).up K2.1
            have L_b4 := (LN.keep L_b4 K2 all0).up K2.1
            have O := O.keep K2 all0
            have F := F0.ext O.2
            have L_b5 : LN Z h2 h2.size (.ref b5) := Or.inr ⟨b5, y5, rfl, x5.lt, x5, g5⟩
            refine Wk.goto (q := 143) at_139 (by decide) rfl ?_
            refine Wk.astore (q := 145) (ls' := #[.val (.int p0), .val (.long p1), .second, .val (.long p2), .second, .val (.long p3), .second, .val (.long p4), .second, .val (.long p5), .second, .val (.int (1 : Int32)), .val (.int (1 : Int32)), .val (.int (1 : Int32)), .val (.int (1 : Int32)), .val (.int (1 : Int32)), .val (.ref b1), .val (.ref b2), .val (.ref b3), .val (.ref b4), .val (.ref b5), .unset, .unset, .unset, .unset, .unset, .unset, .unset]) at_143 rfl rfl rfl ?_
            refine Wk.more (cl' := 5) (sl' := 5) (by decide) (by decide) ?_
            exact t145_rr hw (own_ge O) (Nat.le_refl _) p0 p1 p2 p3 p4 p5 (1 : Int32) (1 : Int32) (1 : Int32) L_b1 L_b2 L_b3 L_b4 L_b5
set_option maxRecDepth 65536 in
set_option maxHeartbeats 40000000 in
theorem comes_1 {Post : Tables → Env → Array Value → State → Outcome → State → Prop} (hpost : ∀ tb e args s v u, (limb_1_1.after args s (.returned v) u = true ∧ limb_1_2.after args s (.returned v) u = true ∧ True) → ReturnedEndW s (.returned v) u (Jvm.fieldLocs frame_1_writes args s ++ Jvm.arrayLocs frame_1_arrays args s ++ Jvm.staticLocs frame_1_statics s) 40 7360 → Post tb e args s (.returned v) u) :
    ArmFor flags0 classFile x code maxLocals ret World_1 tables_1 room_1 Calls_1 rest_1 Pre_1 Post := by
  intro l hfl _ _ p e ha hc hk s m args below hf hA hF happ hP
  obtain ⟨hcalls, hrest, hpre⟩ := hP
  obtain ⟨-, -, -, hnamed, -, -, -, hat⟩ := (Spec.applies_iff hf).mp happ
  obtain ⟨hg, hn⟩ := and_e (Cond.before_iff.mp (show (Jvm.Cond.and given_1 narrow_1).before args s = true from hpre))
  obtain ⟨h1, g0⟩ := and_e hg
  obtain ⟨w0, w1, w2, w3, w4, w5, rfl⟩ : ∃ w0 w1 w2 w3 w4 w5 : Value, args = #[w0, w1, w2, w3, w4, w5] := by
    have hs : args.size = 6 := by simpa [Cond.value, given_1] using h1
    obtain ⟨L⟩ := args
    match L, hs with
    | [w0, w1, w2, w3, w4, w5], _ => exact ⟨w0, w1, w2, w3, w4, w5, rfl⟩
  have hw := fun d (hd : d ∈ tables_1) => atoms_spec (ws := Jvm.Cond.code x code maxLocals ret :: tables_1) hat d (List.mem_cons_of_mem _ hd)
  have hfit : Fit s := fun {y c} hc i hi => by
    obtain ⟨ha, rfl⟩ := Array.getElem?_eq_some_iff.mp hc
    have q := List.all_eq_true.mp ((Array.all_eq_true_iff_forall_mem.mp hF) _ (Array.getElem_mem ha)) i (List.mem_range.mpr hi)
    simpa [Array.getElem?_eq_getElem hi] using q
  obtain ⟨q0, g1⟩ := and_e g0
  obtain ⟨i0, e0⟩ := is_v q0
  obtain rfl : w0 = (.int i0) := Option.some.inj e0
  obtain ⟨q1, g2⟩ := and_e g1
  obtain ⟨i1, e1⟩ := isL_v q1
  obtain rfl : w1 = (.long i1) := Option.some.inj e1
  obtain ⟨q2, g3⟩ := and_e g2
  obtain ⟨i2, e2⟩ := isL_v q2
  obtain rfl : w2 = (.long i2) := Option.some.inj e2
  obtain ⟨q3, g4⟩ := and_e g3
  obtain ⟨i3, e3⟩ := isL_v q3
  obtain rfl : w3 = (.long i3) := Option.some.inj e3
  obtain ⟨q4, g5⟩ := and_e g4
  obtain ⟨i4, e4⟩ := isL_v q4
  obtain rfl : w4 = (.long i4) := Option.some.inj e4
  obtain ⟨i5, e5⟩ := isL_v g5
  obtain rfl : w5 = (.long i5) := Option.some.inj e5
  obtain ⟨hsets, hown0⟩ := atoms_of _ (rest_1_c_eq ▸ (show rest_1_c.before _ s = true from hrest))
  obtain ⟨a_C, v_C⟩ := arr_v (Cond.before_iff.mp (hsets _ (List.mem_of_getElem? (i := 2) rfl)))
  obtain ⟨c_C, r_C⟩ := Arr.start v_C (Cond.before_iff.mp (hsets _ (List.mem_of_getElem? (i := 2) rfl)))
  have s_C := Sta.start v_C (Or.inl (hsets _ (List.mem_of_getElem? (i := 1) rfl)))
  have z_C : c_C.slots.size = 256 := own_len v_C r_C (own_eqi (Cond.before_iff.mp (hsets _ (List.mem_of_getElem? (i := 4) rfl))) (Term.int_eval _)) (by decide)
  have t_C : ∀ k, k < 256 → ∃ a x, c_C.slots[k]? = some (Value.ref a) ∧ Exa s s.heap a "java/lang/Long" ∧ Fld s s.heap a "java/lang/Long" "value" "J" (.long x) := fun k hk => by
    obtain ⟨q1, q2⟩ := and_e (own_all v_C r_C (Cond.before_iff.mp (hsets _ (List.mem_of_getElem? (i := 5) rfl))) k (by rw [z_C]; exact hk))
    exact own_ek v_C r_C hk q1 q2 rfl
  obtain ⟨n, o, h1, h2, h3, _, L, rfl, ⟨N, rfl⟩, hq⟩ := (law_all (l := l) (n0 := s.heap.size) hw ⟨s_C, r_C, z_C, t_C⟩ (Old.start s) i0 i1 i2 i3 i4 i5) tables_1 p e ha hc hk s m _ below hf ((Spec.applies_iff_loose hf).mp happ).1 ⟨rfl, State.Warmed39.refl s, rfl⟩ trivial
  refine ⟨n, _, h1, h2, h3, hpost _ _ _ _ _ _ ⟨Cond.after_iff.mpr rfl, Cond.after_iff.mpr (eq_i res_at (Term.int_eval (1)) rfl), trivial⟩ ⟨hq.1, hq.2.1, hq.2.2.1, (hq.2.2.2.sift fun y hy => Or.inr (N y hy)).mono (by decide) (by decide)⟩⟩
theorem main_1_1 : Claimed_1_1 := comes_1 fun _ _ _ _ _ _ h hF => ⟨h.1, hF⟩
theorem main_1_2 : Claimed_1_2 := comes_1 fun _ _ _ _ _ _ h hF => ⟨h.2.1, hF⟩
end Jvm.Pilot.@@N@@
namespace Jvm.Pilot.@@N@@
open Jvm Jvm.ClassFile Sem Op Lib Jvm.Free Jvm.Stand Jvm.Pilot.@@N@@.Jvm.D
/-! MADE BY PROGRAM (witnessworld.py) out of the Statement's table words and the real class files: 19 classes; the members and pool entries that the words name. The judged class is class 1, her method 1. -/
namespace start1
open Jvm.ClassFile
def u (s : String) : CpInfo := .utf8 (stringToUtf16 s)
/-- a pool by its gaps: so many unusable entries, then the entry; so many at the end -/
def gap : Nat → List CpInfo → List CpInfo
  | 0, r => r
  | n + 1, r => .unusable :: gap n r
def poolList (es : List (Nat × CpInfo)) (last : Nat) : List CpInfo := es.foldr (fun e r => gap e.1 (e.2 :: r)) (gap last [])
def pool (es : List (Nat × CpInfo)) (last : Nat) : Array CpInfo := ⟨poolList es last⟩
def fileOf (pool : Array CpInfo) (this : Nat) (attrs : Array Attribute := #[]) (ms : Array MethodInfo := #[]) (fl : Nat := 33) (sup : Nat := 0) (ifs : Array Nat := #[]) (fds : Array FieldInfo := #[]) : ClassFile where
  minorVersion := 0
  majorVersion := 65
  constantPool := pool
  accessFlags := fl
  thisClass := this
  superClass := sup
  interfaces := ifs
  fields := fds
  methods := ms
  attributes := attrs
def plain (name : String) (sup : Option ClassId) : Class where
  name := name
  kind := .ordinary
  loader := none
  accessFlags := 33
  super := sup
  interfaces := #[]
  cf := none
  fields := #[]
  methods := #[]
  instanceTypes := #[]
  staticTypes := #[]
  resolved := #[]
  callSites := []
  init := .initialized
  statics := none
  mirror := none

def pool0 : Array CpInfo := pool [(5, u "<init>"), (0, u "()V"), (1, .class_ 10), (1, u "java/lang/Object")] 113

def k0c0 : Code := { maxStack := 0, maxLocals := 1, code := object_method_1_code, exceptionTable := #[], attributes := #[] }
def k0m0 : Method := { name := "<init>", desc := "()V", sig := { parameters := [], returnType := none }, accessFlags := 1, code := some k0c0 }
/-- java/lang/Object -/
def k0 : Class := { plain "java/lang/Object" none with
  accessFlags := 33
  interfaces := #[]
  cf := some (fileOf pool0 8 #[] #[{ accessFlags := 1, nameIndex := 5, descriptorIndex := 6, attributes := #[] }] 33 0 #[] #[])
  fields := #[]
  methods := #[k0m0]
  instanceTypes := #[]
  staticTypes := #[]
  resolved := Array.replicate 124 none
  statics := none }

def pool1 : Array CpInfo := pool [(2, .class_ 4), (1, u "java/lang/Object"), (0, u "<init>"), (0, u "()V"), (0, .methodref 8 9), (0, .class_ 10), (0, .nameAndType 11 12), (0, u "java/lang/Long"), (0, u "valueOf"), (0, u "(J)Ljava/lang/Long;"), (0, .class_ 14), (0, u "com/example/annals/annals/storage/TypedColumn"), (0, .string 16), (0, u "a"), (0, .string 18), (0, u "t"), (0, .string 20), (0, u "k"), (0, .methodref 13 22), (0, .nameAndType 5 23), (0, u "(Ljava/lang/String;Ljava/lang/String;Ljava/lang/String;Ljava/lang/Long;Ljava/lang/Long;Ljava/lang/Long;Ljava/lang/Long;Ljava/lang/Long;)V"), (0, .string 25), (0, u "b"), (0, .string 27), (0, u "u"), (0, .string 29), (0, u "c"), (0, .string 31), (0, u "v"), (0, .methodref 13 33), (0, .nameAndType 34 35), (0, u "roundsSomeValues"), (0, u "()Z"), (0, .methodref 13 37), (0, .nameAndType 38 39), (0, u "roundsValuesOf"), (0, u "(Lcom/example/annals/annals/storage/TypedColumn;)Z"), (0, .class_ 41), (0, u "com/example/annals/annals/storage/TypedColumnRoundsSomeValuesPinLaw"), (2, u "law"), (0, u "(IJJJJJ)Z")] 3

def k1m0 : Method := { name := "<init>", desc := "()V", sig := { parameters := [], returnType := none }, accessFlags := 1, code := none }
def k1c1 : Code := { maxStack := 10, maxLocals := 28, code := code, exceptionTable := #[], attributes := #[] }
def k1m1 : Method := { name := "law", desc := "(IJJJJJ)Z", sig := { parameters := [.int, .long, .long, .long, .long, .long], returnType := some .boolean }, accessFlags := 9, code := some k1c1 }
/-- com/example/annals/annals/storage/TypedColumnRoundsSomeValuesPinLaw -/
def k1 : Class := { plain "com/example/annals/annals/storage/TypedColumnRoundsSomeValuesPinLaw" (some 0) with
  accessFlags := 49
  interfaces := #[]
  cf := some (fileOf pool1 40 #[] #[{ accessFlags := 1, nameIndex := 5, descriptorIndex := 6, attributes := #[] }, { accessFlags := 9, nameIndex := 44, descriptorIndex := 45, attributes := #[] }] 49 2 #[] #[])
  fields := #[]
  methods := #[k1m0, k1m1]
  instanceTypes := #[]
  staticTypes := #[]
  resolved := Array.replicate 49 none
  statics := none }

def pool2 : Array CpInfo := pool [(1, .methodref 2 3), (0, .class_ 4), (0, .nameAndType 5 6), (0, u "java/lang/Object"), (0, u "<init>"), (0, u "()V"), (0, .class_ 8), (0, u "java/lang/Record")] 13

def k2c0 : Code := { maxStack := 1, maxLocals := 1, code := jdk_30_method_1_code, exceptionTable := #[], attributes := #[] }
def k2m0 : Method := { name := "<init>", desc := "()V", sig := { parameters := [], returnType := none }, accessFlags := 4, code := some k2c0 }
/-- java/lang/Record -/
def k2 : Class := { plain "java/lang/Record" (some 0) with
  accessFlags := 1057
  interfaces := #[]
  cf := some (fileOf pool2 7 #[] #[{ accessFlags := 4, nameIndex := 5, descriptorIndex := 6, attributes := #[] }] 1057 2 #[] #[])
  fields := #[]
  methods := #[k2m0]
  instanceTypes := #[]
  staticTypes := #[]
  resolved := Array.replicate 22 none
  statics := none }

def pool3 : Array CpInfo := pool [(1, .methodref 2 3), (0, .class_ 4), (0, .nameAndType 5 6), (0, u "java/lang/Record"), (0, u "<init>"), (0, u "()V"), (0, .fieldref 8 9), (0, .class_ 10), (0, .nameAndType 11 12), (0, u "com/example/annals/annals/storage/TypedColumn"), (0, u "name"), (0, u "Ljava/lang/String;"), (0, .fieldref 8 14), (0, .nameAndType 15 12), (0, u "type"), (0, .fieldref 8 17), (0, .nameAndType 18 12), (0, u "kind"), (0, .fieldref 8 20), (0, .nameAndType 21 22), (0, u "length"), (0, u "Ljava/lang/Long;"), (0, .fieldref 8 24), (0, .nameAndType 25 22), (0, u "precision"), (0, .fieldref 8 27), (0, .nameAndType 28 22), (0, u "radix"), (0, .fieldref 8 30), (0, .nameAndType 31 22), (0, u "scale"), (0, .fieldref 8 33), (0, .nameAndType 34 22), (0, u "fraction"), (24, u "()Z"), (10, u "(Ljava/lang/String;Ljava/lang/String;Ljava/lang/String;Ljava/lang/Long;Ljava/lang/Long;Ljava/lang/Long;Ljava/lang/Long;Ljava/lang/Long;)V"), (21, .methodref 8 93), (0, .nameAndType 94 95), (0, u "atLeast"), (0, u "(Ljava/lang/Long;Ljava/lang/Long;)Z"), (5, .class_ 102), (0, u "java/lang/Long"), (0, .methodref 101 104), (0, .nameAndType 105 106), (0, u "longValue"), (0, u "()J"), (51, u "(Lcom/example/annals/annals/storage/TypedColumn;)Z"), (0, u "roundsValuesOf"), (0, u "roundsSomeValues")] 31

def k3c0 : Code := { maxStack := 2, maxLocals := 9, code := prog_29_method_1_code, exceptionTable := #[], attributes := #[] }
def k3m0 : Method := { name := "<init>", desc := "(Ljava/lang/String;Ljava/lang/String;Ljava/lang/String;Ljava/lang/Long;Ljava/lang/Long;Ljava/lang/Long;Ljava/lang/Long;Ljava/lang/Long;)V", sig := { parameters := [(.object "java/lang/String"), (.object "java/lang/String"), (.object "java/lang/String"), (.object "java/lang/Long"), (.object "java/lang/Long"), (.object "java/lang/Long"), (.object "java/lang/Long"), (.object "java/lang/Long")], returnType := none }, accessFlags := 1, code := some k3c0 }
def k3c1 : Code := { maxStack := 2, maxLocals := 2, code := prog_29_method_4_code, exceptionTable := #[], attributes := #[] }
def k3m1 : Method := { name := "roundsValuesOf", desc := "(Lcom/example/annals/annals/storage/TypedColumn;)Z", sig := { parameters := [(.object "com/example/annals/annals/storage/TypedColumn")], returnType := some .boolean }, accessFlags := 1, code := some k3c1 }
def k3c2 : Code := { maxStack := 1, maxLocals := 1, code := prog_29_method_5_code, exceptionTable := #[], attributes := #[] }
def k3m2 : Method := { name := "roundsSomeValues", desc := "()Z", sig := { parameters := [], returnType := some .boolean }, accessFlags := 1, code := some k3c2 }
def k3c3 : Code := { maxStack := 4, maxLocals := 2, code := prog_29_method_7_code, exceptionTable := #[], attributes := #[] }
def k3m3 : Method := { name := "atLeast", desc := "(Ljava/lang/Long;Ljava/lang/Long;)Z", sig := { parameters := [(.object "java/lang/Long"), (.object "java/lang/Long")], returnType := some .boolean }, accessFlags := 10, code := some k3c3 }
/-- com/example/annals/annals/storage/TypedColumn -/
def k3 : Class := { plain "com/example/annals/annals/storage/TypedColumn" (some 2) with
  accessFlags := 49
  interfaces := #[]
  cf := some (fileOf pool3 8 #[] #[{ accessFlags := 1, nameIndex := 5, descriptorIndex := 70, attributes := #[] }, { accessFlags := 1, nameIndex := 159, descriptorIndex := 158, attributes := #[] }, { accessFlags := 1, nameIndex := 160, descriptorIndex := 59, attributes := #[] }, { accessFlags := 10, nameIndex := 94, descriptorIndex := 95, attributes := #[] }] 49 2 #[] #[{ accessFlags := 18, nameIndex := 11, descriptorIndex := 12, attributes := #[] }, { accessFlags := 18, nameIndex := 15, descriptorIndex := 12, attributes := #[] }, { accessFlags := 18, nameIndex := 18, descriptorIndex := 12, attributes := #[] }, { accessFlags := 18, nameIndex := 21, descriptorIndex := 22, attributes := #[] }, { accessFlags := 18, nameIndex := 25, descriptorIndex := 22, attributes := #[] }, { accessFlags := 18, nameIndex := 28, descriptorIndex := 22, attributes := #[] }, { accessFlags := 18, nameIndex := 31, descriptorIndex := 22, attributes := #[] }, { accessFlags := 18, nameIndex := 34, descriptorIndex := 22, attributes := #[] }])
  fields := #[{ name := "name", type := (.object "java/lang/String"), accessFlags := 18, slot := 0, constantValue := 0 }, { name := "type", type := (.object "java/lang/String"), accessFlags := 18, slot := 1, constantValue := 0 }, { name := "kind", type := (.object "java/lang/String"), accessFlags := 18, slot := 2, constantValue := 0 }, { name := "length", type := (.object "java/lang/Long"), accessFlags := 18, slot := 3, constantValue := 0 }, { name := "precision", type := (.object "java/lang/Long"), accessFlags := 18, slot := 4, constantValue := 0 }, { name := "radix", type := (.object "java/lang/Long"), accessFlags := 18, slot := 5, constantValue := 0 }, { name := "scale", type := (.object "java/lang/Long"), accessFlags := 18, slot := 6, constantValue := 0 }, { name := "fraction", type := (.object "java/lang/Long"), accessFlags := 18, slot := 7, constantValue := 0 }]
  methods := #[k3m0, k3m1, k3m2, k3m3]
  instanceTypes := #[(.object "java/lang/String"), (.object "java/lang/String"), (.object "java/lang/String"), (.object "java/lang/Long"), (.object "java/lang/Long"), (.object "java/lang/Long"), (.object "java/lang/Long"), (.object "java/lang/Long")]
  staticTypes := #[]
  resolved := Array.replicate 192 none
  statics := none }

def pool4 : Array CpInfo := pool [(1, .class_ 2), (0, u "java/io/Serializable"), (0, .class_ 4), (0, u "java/lang/Object")] 2

/-- java/io/Serializable -/
def k4 : Class := { plain "java/io/Serializable" (some 0) with
  accessFlags := 1537
  interfaces := #[]
  cf := some (fileOf pool4 1 #[] #[] 1537 3 #[] #[])
  fields := #[]
  methods := #[]
  instanceTypes := #[]
  staticTypes := #[]
  resolved := Array.replicate 7 none
  statics := none }

def pool5 : Array CpInfo := pool [(1, .class_ 2), (0, u "java/lang/Comparable"), (0, .class_ 4), (0, u "java/lang/Object")] 7

/-- java/lang/Comparable -/
def k5 : Class := { plain "java/lang/Comparable" (some 0) with
  accessFlags := 1537
  interfaces := #[]
  cf := some (fileOf pool5 1 #[] #[] 1537 3 #[] #[])
  fields := #[]
  methods := #[]
  instanceTypes := #[]
  staticTypes := #[]
  resolved := Array.replicate 12 none
  statics := none }

def pool6 : Array CpInfo := pool [(2, .class_ 4), (1, u "java/lang/CharSequence"), (42, .class_ 48), (0, u "java/lang/CharSequence$1CodePointIterator"), (10, .class_ 60), (0, u "java/lang/CharSequence$1CharIterator"), (5, .class_ 67), (0, u "java/lang/Object")] 63

/-- java/lang/CharSequence -/
def k6 : Class := { plain "java/lang/CharSequence" (some 0) with
  accessFlags := 1537
  interfaces := #[]
  cf := some (fileOf pool6 2 #[.nestMembers #[47, 59]] #[] 1537 66 #[] #[])
  fields := #[]
  methods := #[]
  instanceTypes := #[]
  staticTypes := #[]
  resolved := Array.replicate 131 none
  statics := none }

def pool7 : Array CpInfo := pool [(1, .class_ 2), (0, u "java/lang/constant/Constable"), (0, .class_ 4), (0, u "java/lang/Object")] 6

/-- java/lang/constant/Constable -/
def k7 : Class := { plain "java/lang/constant/Constable" (some 0) with
  accessFlags := 1537
  interfaces := #[]
  cf := some (fileOf pool7 1 #[] #[] 1537 3 #[] #[])
  fields := #[]
  methods := #[]
  instanceTypes := #[]
  staticTypes := #[]
  resolved := Array.replicate 11 none
  statics := none }

def pool8 : Array CpInfo := pool [(1, .class_ 2), (0, u "java/lang/constant/ConstantDesc"), (0, .class_ 4), (0, u "java/lang/Object")] 32

/-- java/lang/constant/ConstantDesc -/
def k8 : Class := { plain "java/lang/constant/ConstantDesc" (some 0) with
  accessFlags := 1537
  interfaces := #[]
  cf := some (fileOf pool8 1 #[] #[] 1537 3 #[] #[])
  fields := #[]
  methods := #[]
  instanceTypes := #[]
  staticTypes := #[]
  resolved := Array.replicate 37 none
  statics := none }

def pool9 : Array CpInfo := pool [(2, .class_ 4), (1, u "java/lang/Object"), (0, u "<init>"), (0, u "()V"), (3, .class_ 12), (1, u "java/lang/String"), (0, u "value"), (0, u "[B"), (2, u "coder"), (0, u "B"), (2, u "hash"), (0, u "I"), (2, u "hashIsZero"), (0, u "Z"), (13, u "COMPACT_STRINGS"), (534, .class_ 576), (0, u "java/lang/CharSequence"), (22, u "CASE_INSENSITIVE_ORDER"), (0, u "Ljava/util/Comparator;"), (500, u "serialPersistentFields"), (0, u "[Ljava/io/ObjectStreamField;"), (0, .class_ 1104), (0, u "java/lang/String$CaseInsensitiveComparator"), (1, .class_ 1107), (0, u "java/io/Serializable"), (0, .class_ 1109), (0, u "java/lang/Comparable"), (0, .class_ 1111), (0, u "java/lang/constant/Constable"), (0, .class_ 1113), (0, u "java/lang/constant/ConstantDesc"), (2, u "serialVersionUID"), (0, u "J"), (3, u "REPL"), (0, u "C"), (2, u "LATIN1"), (1, u "UTF16")] 323

def k9m0 : Method := { name := "<init>", desc := "()V", sig := { parameters := [], returnType := none }, accessFlags := 1, code := none }
/-- java/lang/String -/
def k9 : Class := { plain "java/lang/String" (some 0) with
  accessFlags := 49
  interfaces := #[4, 5, 6, 7, 8]
  cf := some (fileOf pool9 10 #[.nestMembers #[1103]] #[{ accessFlags := 1, nameIndex := 5, descriptorIndex := 6, attributes := #[] }] 49 2 #[1106, 1108, 575, 1110, 1112] #[{ accessFlags := 18, nameIndex := 13, descriptorIndex := 14, attributes := #[] }, { accessFlags := 18, nameIndex := 17, descriptorIndex := 18, attributes := #[] }, { accessFlags := 2, nameIndex := 21, descriptorIndex := 22, attributes := #[] }, { accessFlags := 2, nameIndex := 25, descriptorIndex := 26, attributes := #[] }, { accessFlags := 26, nameIndex := 1116, descriptorIndex := 1117, attributes := #[] }, { accessFlags := 24, nameIndex := 40, descriptorIndex := 26, attributes := #[] }, { accessFlags := 26, nameIndex := 1101, descriptorIndex := 1102, attributes := #[] }, { accessFlags := 26, nameIndex := 1121, descriptorIndex := 1122, attributes := #[] }, { accessFlags := 25, nameIndex := 599, descriptorIndex := 600, attributes := #[] }, { accessFlags := 24, nameIndex := 1125, descriptorIndex := 18, attributes := #[] }, { accessFlags := 24, nameIndex := 1127, descriptorIndex := 18, attributes := #[] }])
  fields := #[{ name := "value", type := (.array .byte), accessFlags := 18, slot := 0, constantValue := 0 }, { name := "coder", type := .byte, accessFlags := 18, slot := 1, constantValue := 0 }, { name := "hash", type := .int, accessFlags := 2, slot := 2, constantValue := 0 }, { name := "hashIsZero", type := .boolean, accessFlags := 2, slot := 3, constantValue := 0 }, { name := "serialVersionUID", type := .long, accessFlags := 26, slot := 0, constantValue := 0 }, { name := "COMPACT_STRINGS", type := .boolean, accessFlags := 24, slot := 1, constantValue := 0 }, { name := "serialPersistentFields", type := (.array (.object "java/io/ObjectStreamField")), accessFlags := 26, slot := 2, constantValue := 0 }, { name := "REPL", type := .char, accessFlags := 26, slot := 3, constantValue := 0 }, { name := "CASE_INSENSITIVE_ORDER", type := (.object "java/util/Comparator"), accessFlags := 25, slot := 4, constantValue := 0 }, { name := "LATIN1", type := .byte, accessFlags := 24, slot := 5, constantValue := 0 }, { name := "UTF16", type := .byte, accessFlags := 24, slot := 6, constantValue := 0 }]
  methods := #[k9m0]
  instanceTypes := #[(.array .byte), .byte, .int, .boolean]
  staticTypes := #[.long, .boolean, (.array (.object "java/io/ObjectStreamField")), .char, (.object "java/util/Comparator"), .byte, .byte]
  resolved := Array.replicate 1451 none
  statics := none }

def pool10 : Array CpInfo := pool [(1, .methodref 2 3), (0, .class_ 4), (0, .nameAndType 5 6), (0, u "java/lang/Object"), (0, u "<init>"), (0, u "()V"), (1, .class_ 10), (1, u "java/lang/Number"), (2, .class_ 14), (0, u "java/io/Serializable"), (0, u "serialVersionUID"), (0, u "J")] 20

def k10c0 : Code := { maxStack := 1, maxLocals := 1, code := jdk_18_method_1_code, exceptionTable := #[], attributes := #[] }
def k10m0 : Method := { name := "<init>", desc := "()V", sig := { parameters := [], returnType := none }, accessFlags := 1, code := some k10c0 }
/-- java/lang/Number -/
def k10 : Class := { plain "java/lang/Number" (some 0) with
  accessFlags := 1057
  interfaces := #[4]
  cf := some (fileOf pool10 8 #[] #[{ accessFlags := 1, nameIndex := 5, descriptorIndex := 6, attributes := #[] }] 1057 2 #[13] #[{ accessFlags := 26, nameIndex := 15, descriptorIndex := 16, attributes := #[] }])
  fields := #[{ name := "serialVersionUID", type := .long, accessFlags := 26, slot := 0, constantValue := 0 }]
  methods := #[k10m0]
  instanceTypes := #[]
  staticTypes := #[.long]
  resolved := Array.replicate 37 none
  statics := none }

def pool11 : Array CpInfo := pool [(1, .class_ 2), (0, u "java/lang/Long"), (55, .nameAndType 59 60), (0, u "<init>"), (0, u "()V"), (24, u "valueOf"), (143, u "(J)Ljava/lang/Long;"), (0, .long 18446744073709551488), (1, .long 127), (1, .fieldref 235 236), (0, .class_ 237), (0, .nameAndType 238 239), (0, u "java/lang/Long$LongCache"), (0, u "cache"), (0, u "[Ljava/lang/Long;"), (0, .methodref 1 241), (0, .nameAndType 59 242), (0, u "(J)V"), (27, .methodref 271 58), (0, .class_ 272), (0, u "java/lang/Number"), (0, .fieldref 1 274), (0, .nameAndType 275 276), (0, u "value"), (0, u "J"), (5, u "longValue"), (0, u "()J"), (77, u "TYPE"), (0, u "Ljava/lang/Class;"), (0, .class_ 364), (0, u "java/lang/Comparable"), (0, .class_ 366), (0, u "java/lang/constant/Constable"), (0, .class_ 368), (0, u "java/lang/constant/ConstantDesc"), (0, u "MIN_VALUE"), (1, u "MAX_VALUE"), (4, u "SIZE"), (0, u "I"), (1, u "BYTES"), (1, u "serialVersionUID")] 142

def k11c0 : Code := { maxStack := 4, maxLocals := 3, code := jdk_35_method_24_code, exceptionTable := #[], attributes := #[] }
def k11m0 : Method := { name := "valueOf", desc := "(J)Ljava/lang/Long;", sig := { parameters := [.long], returnType := some (.object "java/lang/Long") }, accessFlags := 9, code := some k11c0 }
def k11c1 : Code := { maxStack := 3, maxLocals := 3, code := jdk_35_method_26_code, exceptionTable := #[], attributes := #[] }
def k11m1 : Method := { name := "<init>", desc := "(J)V", sig := { parameters := [.long], returnType := none }, accessFlags := 1, code := some k11c1 }
def k11c2 : Code := { maxStack := 2, maxLocals := 1, code := jdk_35_method_31_code, exceptionTable := #[], attributes := #[] }
def k11m2 : Method := { name := "longValue", desc := "()J", sig := { parameters := [], returnType := some .long }, accessFlags := 1, code := some k11c2 }
/-- java/lang/Long -/
def k11 : Class := { plain "java/lang/Long" (some 10) with
  accessFlags := 49
  interfaces := #[5, 7, 8]
  cf := some (fileOf pool11 1 #[.nestMembers #[235]] #[{ accessFlags := 9, nameIndex := 85, descriptorIndex := 229, attributes := #[] }, { accessFlags := 1, nameIndex := 59, descriptorIndex := 242, attributes := #[] }, { accessFlags := 1, nameIndex := 282, descriptorIndex := 283, attributes := #[] }] 49 271 #[363, 365, 367] #[{ accessFlags := 25, nameIndex := 369, descriptorIndex := 276, attributes := #[] }, { accessFlags := 25, nameIndex := 371, descriptorIndex := 276, attributes := #[] }, { accessFlags := 25, nameIndex := 361, descriptorIndex := 362, attributes := #[] }, { accessFlags := 18, nameIndex := 275, descriptorIndex := 276, attributes := #[] }, { accessFlags := 25, nameIndex := 376, descriptorIndex := 377, attributes := #[] }, { accessFlags := 25, nameIndex := 379, descriptorIndex := 377, attributes := #[] }, { accessFlags := 26, nameIndex := 381, descriptorIndex := 276, attributes := #[] }])
  fields := #[{ name := "MIN_VALUE", type := .long, accessFlags := 25, slot := 0, constantValue := 0 }, { name := "MAX_VALUE", type := .long, accessFlags := 25, slot := 1, constantValue := 0 }, { name := "TYPE", type := (.object "java/lang/Class"), accessFlags := 25, slot := 2, constantValue := 0 }, { name := "value", type := .long, accessFlags := 18, slot := 0, constantValue := 0 }, { name := "SIZE", type := .int, accessFlags := 25, slot := 3, constantValue := 0 }, { name := "BYTES", type := .int, accessFlags := 25, slot := 4, constantValue := 0 }, { name := "serialVersionUID", type := .long, accessFlags := 26, slot := 5, constantValue := 0 }]
  methods := #[k11m0, k11m1, k11m2]
  instanceTypes := #[.long]
  staticTypes := #[.long, .long, (.object "java/lang/Class"), .int, .int, .long]
  resolved := Array.replicate 524 none
  statics := none }

def pool12 : Array CpInfo := pool [(2, .class_ 4), (1, u "java/lang/Object"), (0, u "<init>"), (0, u "()V"), (0, .class_ 8), (0, u "java/lang/Long"), (7, .class_ 18), (1, u "java/lang/Long$LongCache"), (0, u "$assertionsDisabled"), (0, u "Z"), (8, u "archivedCache"), (0, u "[Ljava/lang/Long;"), (7, u "cache")] 24

def k12m0 : Method := { name := "<init>", desc := "()V", sig := { parameters := [], returnType := none }, accessFlags := 2, code := none }
/-- java/lang/Long$LongCache -/
def k12 : Class := { plain "java/lang/Long$LongCache" (some 0) with
  accessFlags := 48
  interfaces := #[]
  cf := some (fileOf pool12 16 #[.nestHost 7] #[{ accessFlags := 2, nameIndex := 5, descriptorIndex := 6, attributes := #[] }] 48 2 #[] #[{ accessFlags := 24, nameIndex := 38, descriptorIndex := 30, attributes := #[] }, { accessFlags := 8, nameIndex := 29, descriptorIndex := 30, attributes := #[] }, { accessFlags := 4120, nameIndex := 19, descriptorIndex := 20, attributes := #[] }])
  fields := #[{ name := "cache", type := (.array (.object "java/lang/Long")), accessFlags := 24, slot := 0, constantValue := 0 }, { name := "archivedCache", type := (.array (.object "java/lang/Long")), accessFlags := 8, slot := 1, constantValue := 0 }, { name := "$assertionsDisabled", type := .boolean, accessFlags := 4120, slot := 2, constantValue := 0 }]
  methods := #[k12m0]
  instanceTypes := #[]
  staticTypes := #[(.array (.object "java/lang/Long")), (.array (.object "java/lang/Long")), .boolean]
  resolved := Array.replicate 63 none
  statics := some 0 }

def pool13 : Array CpInfo := pool [(1, u "java/lang/Cloneable"), (0, .class_ 1), (0, u "java/lang/Object"), (0, .class_ 3)] 3

/-- java/lang/Cloneable -/
def k13 : Class := { plain "java/lang/Cloneable" (some 0) with
  accessFlags := 1537
  interfaces := #[]
  cf := some (fileOf pool13 2 #[] #[] 1537 4 #[] #[])
  fields := #[]
  methods := #[]
  instanceTypes := #[]
  staticTypes := #[]
  resolved := Array.replicate 8 none
  statics := none }

/-- the primitive byte -/
def k14 : Class := { plain "byte" none with kind := .primitive 'B', accessFlags := 0x411 }
/-- [B -/
def k15 : Class := { plain "[B" (some 0) with kind := .array 14 .byte, interfaces := #[13, 4], accessFlags := 1041 }

/-- the primitive int -/
def k16 : Class := { plain "int" none with kind := .primitive 'I', accessFlags := 0x411 }
/-- [I -/
def k17 : Class := { plain "[I" (some 0) with kind := .array 16 .int, interfaces := #[13, 4], accessFlags := 1041 }

/-- [Ljava/lang/Long; -/
def k18 : Class := { plain "[Ljava/lang/Long;" (some 0) with kind := .array 11 (.object "java/lang/Long"), interfaces := #[13, 4], accessFlags := 1041 }

def heap : Heap := #[{ cls := 12, slots := #[.ref 1, .null, .int 0], vm := .statics 12 },
  { cls := 18, slots := #[.ref 2, .ref 3, .ref 4, .ref 5, .ref 6, .ref 7, .ref 8, .ref 9, .ref 10, .ref 11, .ref 12, .ref 13, .ref 14, .ref 15, .ref 16, .ref 17, .ref 18, .ref 19, .ref 20, .ref 21, .ref 22, .ref 23, .ref 24, .ref 25, .ref 26, .ref 27, .ref 28, .ref 29, .ref 30, .ref 31, .ref 32, .ref 33, .ref 34, .ref 35, .ref 36, .ref 37, .ref 38, .ref 39, .ref 40, .ref 41, .ref 42, .ref 43, .ref 44, .ref 45, .ref 46, .ref 47, .ref 48, .ref 49, .ref 50, .ref 51, .ref 52, .ref 53, .ref 54, .ref 55, .ref 56, .ref 57, .ref 58, .ref 59, .ref 60, .ref 61, .ref 62, .ref 63, .ref 64, .ref 65, .ref 66, .ref 67, .ref 68, .ref 69, .ref 70, .ref 71, .ref 72, .ref 73, .ref 74, .ref 75, .ref 76, .ref 77, .ref 78, .ref 79, .ref 80, .ref 81, .ref 82, .ref 83, .ref 84, .ref 85, .ref 86, .ref 87, .ref 88, .ref 89, .ref 90, .ref 91, .ref 92, .ref 93, .ref 94, .ref 95, .ref 96, .ref 97, .ref 98, .ref 99, .ref 100, .ref 101, .ref 102, .ref 103, .ref 104, .ref 105, .ref 106, .ref 107, .ref 108, .ref 109, .ref 110, .ref 111, .ref 112, .ref 113, .ref 114, .ref 115, .ref 116, .ref 117, .ref 118, .ref 119, .ref 120, .ref 121, .ref 122, .ref 123, .ref 124, .ref 125, .ref 126, .ref 127, .ref 128, .ref 129, .ref 130, .ref 131, .ref 132, .ref 133, .ref 134, .ref 135, .ref 136, .ref 137, .ref 138, .ref 139, .ref 140, .ref 141, .ref 142, .ref 143, .ref 144, .ref 145, .ref 146, .ref 147, .ref 148, .ref 149, .ref 150, .ref 151, .ref 152, .ref 153, .ref 154, .ref 155, .ref 156, .ref 157, .ref 158, .ref 159, .ref 160, .ref 161, .ref 162, .ref 163, .ref 164, .ref 165, .ref 166, .ref 167, .ref 168, .ref 169, .ref 170, .ref 171, .ref 172, .ref 173, .ref 174, .ref 175, .ref 176, .ref 177, .ref 178, .ref 179, .ref 180, .ref 181, .ref 182, .ref 183, .ref 184, .ref 185, .ref 186, .ref 187, .ref 188, .ref 189, .ref 190, .ref 191, .ref 192, .ref 193, .ref 194, .ref 195, .ref 196, .ref 197, .ref 198, .ref 199, .ref 200, .ref 201, .ref 202, .ref 203, .ref 204, .ref 205, .ref 206, .ref 207, .ref 208, .ref 209, .ref 210, .ref 211, .ref 212, .ref 213, .ref 214, .ref 215, .ref 216, .ref 217, .ref 218, .ref 219, .ref 220, .ref 221, .ref 222, .ref 223, .ref 224, .ref 225, .ref 226, .ref 227, .ref 228, .ref 229, .ref 230, .ref 231, .ref 232, .ref 233, .ref 234, .ref 235, .ref 236, .ref 237, .ref 238, .ref 239, .ref 240, .ref 241, .ref 242, .ref 243, .ref 244, .ref 245, .ref 246, .ref 247, .ref 248, .ref 249, .ref 250, .ref 251, .ref 252, .ref 253, .ref 254, .ref 255, .ref 256, .ref 257], vm := .none },
  { cls := 11, slots := #[.long (-128)], vm := .none },
  { cls := 11, slots := #[.long (-127)], vm := .none },
  { cls := 11, slots := #[.long (-126)], vm := .none },
  { cls := 11, slots := #[.long (-125)], vm := .none },
  { cls := 11, slots := #[.long (-124)], vm := .none },
  { cls := 11, slots := #[.long (-123)], vm := .none },
  { cls := 11, slots := #[.long (-122)], vm := .none },
  { cls := 11, slots := #[.long (-121)], vm := .none },
  { cls := 11, slots := #[.long (-120)], vm := .none },
  { cls := 11, slots := #[.long (-119)], vm := .none },
  { cls := 11, slots := #[.long (-118)], vm := .none },
  { cls := 11, slots := #[.long (-117)], vm := .none },
  { cls := 11, slots := #[.long (-116)], vm := .none },
  { cls := 11, slots := #[.long (-115)], vm := .none },
  { cls := 11, slots := #[.long (-114)], vm := .none },
  { cls := 11, slots := #[.long (-113)], vm := .none },
  { cls := 11, slots := #[.long (-112)], vm := .none },
  { cls := 11, slots := #[.long (-111)], vm := .none },
  { cls := 11, slots := #[.long (-110)], vm := .none },
  { cls := 11, slots := #[.long (-109)], vm := .none },
  { cls := 11, slots := #[.long (-108)], vm := .none },
  { cls := 11, slots := #[.long (-107)], vm := .none },
  { cls := 11, slots := #[.long (-106)], vm := .none },
  { cls := 11, slots := #[.long (-105)], vm := .none },
  { cls := 11, slots := #[.long (-104)], vm := .none },
  { cls := 11, slots := #[.long (-103)], vm := .none },
  { cls := 11, slots := #[.long (-102)], vm := .none },
  { cls := 11, slots := #[.long (-101)], vm := .none },
  { cls := 11, slots := #[.long (-100)], vm := .none },
  { cls := 11, slots := #[.long (-99)], vm := .none },
  { cls := 11, slots := #[.long (-98)], vm := .none },
  { cls := 11, slots := #[.long (-97)], vm := .none },
  { cls := 11, slots := #[.long (-96)], vm := .none },
  { cls := 11, slots := #[.long (-95)], vm := .none },
  { cls := 11, slots := #[.long (-94)], vm := .none },
  { cls := 11, slots := #[.long (-93)], vm := .none },
  { cls := 11, slots := #[.long (-92)], vm := .none },
  { cls := 11, slots := #[.long (-91)], vm := .none },
  { cls := 11, slots := #[.long (-90)], vm := .none },
  { cls := 11, slots := #[.long (-89)], vm := .none },
  { cls := 11, slots := #[.long (-88)], vm := .none },
  { cls := 11, slots := #[.long (-87)], vm := .none },
  { cls := 11, slots := #[.long (-86)], vm := .none },
  { cls := 11, slots := #[.long (-85)], vm := .none },
  { cls := 11, slots := #[.long (-84)], vm := .none },
  { cls := 11, slots := #[.long (-83)], vm := .none },
  { cls := 11, slots := #[.long (-82)], vm := .none },
  { cls := 11, slots := #[.long (-81)], vm := .none },
  { cls := 11, slots := #[.long (-80)], vm := .none },
  { cls := 11, slots := #[.long (-79)], vm := .none },
  { cls := 11, slots := #[.long (-78)], vm := .none },
  { cls := 11, slots := #[.long (-77)], vm := .none },
  { cls := 11, slots := #[.long (-76)], vm := .none },
  { cls := 11, slots := #[.long (-75)], vm := .none },
  { cls := 11, slots := #[.long (-74)], vm := .none },
  { cls := 11, slots := #[.long (-73)], vm := .none },
  { cls := 11, slots := #[.long (-72)], vm := .none },
  { cls := 11, slots := #[.long (-71)], vm := .none },
  { cls := 11, slots := #[.long (-70)], vm := .none },
  { cls := 11, slots := #[.long (-69)], vm := .none },
  { cls := 11, slots := #[.long (-68)], vm := .none },
  { cls := 11, slots := #[.long (-67)], vm := .none },
  { cls := 11, slots := #[.long (-66)], vm := .none },
  { cls := 11, slots := #[.long (-65)], vm := .none },
  { cls := 11, slots := #[.long (-64)], vm := .none },
  { cls := 11, slots := #[.long (-63)], vm := .none },
  { cls := 11, slots := #[.long (-62)], vm := .none },
  { cls := 11, slots := #[.long (-61)], vm := .none },
  { cls := 11, slots := #[.long (-60)], vm := .none },
  { cls := 11, slots := #[.long (-59)], vm := .none },
  { cls := 11, slots := #[.long (-58)], vm := .none },
  { cls := 11, slots := #[.long (-57)], vm := .none },
  { cls := 11, slots := #[.long (-56)], vm := .none },
  { cls := 11, slots := #[.long (-55)], vm := .none },
  { cls := 11, slots := #[.long (-54)], vm := .none },
  { cls := 11, slots := #[.long (-53)], vm := .none },
  { cls := 11, slots := #[.long (-52)], vm := .none },
  { cls := 11, slots := #[.long (-51)], vm := .none },
  { cls := 11, slots := #[.long (-50)], vm := .none },
  { cls := 11, slots := #[.long (-49)], vm := .none },
  { cls := 11, slots := #[.long (-48)], vm := .none },
  { cls := 11, slots := #[.long (-47)], vm := .none },
  { cls := 11, slots := #[.long (-46)], vm := .none },
  { cls := 11, slots := #[.long (-45)], vm := .none },
  { cls := 11, slots := #[.long (-44)], vm := .none },
  { cls := 11, slots := #[.long (-43)], vm := .none },
  { cls := 11, slots := #[.long (-42)], vm := .none },
  { cls := 11, slots := #[.long (-41)], vm := .none },
  { cls := 11, slots := #[.long (-40)], vm := .none },
  { cls := 11, slots := #[.long (-39)], vm := .none },
  { cls := 11, slots := #[.long (-38)], vm := .none },
  { cls := 11, slots := #[.long (-37)], vm := .none },
  { cls := 11, slots := #[.long (-36)], vm := .none },
  { cls := 11, slots := #[.long (-35)], vm := .none },
  { cls := 11, slots := #[.long (-34)], vm := .none },
  { cls := 11, slots := #[.long (-33)], vm := .none },
  { cls := 11, slots := #[.long (-32)], vm := .none },
  { cls := 11, slots := #[.long (-31)], vm := .none },
  { cls := 11, slots := #[.long (-30)], vm := .none },
  { cls := 11, slots := #[.long (-29)], vm := .none },
  { cls := 11, slots := #[.long (-28)], vm := .none },
  { cls := 11, slots := #[.long (-27)], vm := .none },
  { cls := 11, slots := #[.long (-26)], vm := .none },
  { cls := 11, slots := #[.long (-25)], vm := .none },
  { cls := 11, slots := #[.long (-24)], vm := .none },
  { cls := 11, slots := #[.long (-23)], vm := .none },
  { cls := 11, slots := #[.long (-22)], vm := .none },
  { cls := 11, slots := #[.long (-21)], vm := .none },
  { cls := 11, slots := #[.long (-20)], vm := .none },
  { cls := 11, slots := #[.long (-19)], vm := .none },
  { cls := 11, slots := #[.long (-18)], vm := .none },
  { cls := 11, slots := #[.long (-17)], vm := .none },
  { cls := 11, slots := #[.long (-16)], vm := .none },
  { cls := 11, slots := #[.long (-15)], vm := .none },
  { cls := 11, slots := #[.long (-14)], vm := .none },
  { cls := 11, slots := #[.long (-13)], vm := .none },
  { cls := 11, slots := #[.long (-12)], vm := .none },
  { cls := 11, slots := #[.long (-11)], vm := .none },
  { cls := 11, slots := #[.long (-10)], vm := .none },
  { cls := 11, slots := #[.long (-9)], vm := .none },
  { cls := 11, slots := #[.long (-8)], vm := .none },
  { cls := 11, slots := #[.long (-7)], vm := .none },
  { cls := 11, slots := #[.long (-6)], vm := .none },
  { cls := 11, slots := #[.long (-5)], vm := .none },
  { cls := 11, slots := #[.long (-4)], vm := .none },
  { cls := 11, slots := #[.long (-3)], vm := .none },
  { cls := 11, slots := #[.long (-2)], vm := .none },
  { cls := 11, slots := #[.long (-1)], vm := .none },
  { cls := 11, slots := #[.long 0], vm := .none },
  { cls := 11, slots := #[.long 1], vm := .none },
  { cls := 11, slots := #[.long 2], vm := .none },
  { cls := 11, slots := #[.long 3], vm := .none },
  { cls := 11, slots := #[.long 4], vm := .none },
  { cls := 11, slots := #[.long 5], vm := .none },
  { cls := 11, slots := #[.long 6], vm := .none },
  { cls := 11, slots := #[.long 7], vm := .none },
  { cls := 11, slots := #[.long 8], vm := .none },
  { cls := 11, slots := #[.long 9], vm := .none },
  { cls := 11, slots := #[.long 10], vm := .none },
  { cls := 11, slots := #[.long 11], vm := .none },
  { cls := 11, slots := #[.long 12], vm := .none },
  { cls := 11, slots := #[.long 13], vm := .none },
  { cls := 11, slots := #[.long 14], vm := .none },
  { cls := 11, slots := #[.long 15], vm := .none },
  { cls := 11, slots := #[.long 16], vm := .none },
  { cls := 11, slots := #[.long 17], vm := .none },
  { cls := 11, slots := #[.long 18], vm := .none },
  { cls := 11, slots := #[.long 19], vm := .none },
  { cls := 11, slots := #[.long 20], vm := .none },
  { cls := 11, slots := #[.long 21], vm := .none },
  { cls := 11, slots := #[.long 22], vm := .none },
  { cls := 11, slots := #[.long 23], vm := .none },
  { cls := 11, slots := #[.long 24], vm := .none },
  { cls := 11, slots := #[.long 25], vm := .none },
  { cls := 11, slots := #[.long 26], vm := .none },
  { cls := 11, slots := #[.long 27], vm := .none },
  { cls := 11, slots := #[.long 28], vm := .none },
  { cls := 11, slots := #[.long 29], vm := .none },
  { cls := 11, slots := #[.long 30], vm := .none },
  { cls := 11, slots := #[.long 31], vm := .none },
  { cls := 11, slots := #[.long 32], vm := .none },
  { cls := 11, slots := #[.long 33], vm := .none },
  { cls := 11, slots := #[.long 34], vm := .none },
  { cls := 11, slots := #[.long 35], vm := .none },
  { cls := 11, slots := #[.long 36], vm := .none },
  { cls := 11, slots := #[.long 37], vm := .none },
  { cls := 11, slots := #[.long 38], vm := .none },
  { cls := 11, slots := #[.long 39], vm := .none },
  { cls := 11, slots := #[.long 40], vm := .none },
  { cls := 11, slots := #[.long 41], vm := .none },
  { cls := 11, slots := #[.long 42], vm := .none },
  { cls := 11, slots := #[.long 43], vm := .none },
  { cls := 11, slots := #[.long 44], vm := .none },
  { cls := 11, slots := #[.long 45], vm := .none },
  { cls := 11, slots := #[.long 46], vm := .none },
  { cls := 11, slots := #[.long 47], vm := .none },
  { cls := 11, slots := #[.long 48], vm := .none },
  { cls := 11, slots := #[.long 49], vm := .none },
  { cls := 11, slots := #[.long 50], vm := .none },
  { cls := 11, slots := #[.long 51], vm := .none },
  { cls := 11, slots := #[.long 52], vm := .none },
  { cls := 11, slots := #[.long 53], vm := .none },
  { cls := 11, slots := #[.long 54], vm := .none },
  { cls := 11, slots := #[.long 55], vm := .none },
  { cls := 11, slots := #[.long 56], vm := .none },
  { cls := 11, slots := #[.long 57], vm := .none },
  { cls := 11, slots := #[.long 58], vm := .none },
  { cls := 11, slots := #[.long 59], vm := .none },
  { cls := 11, slots := #[.long 60], vm := .none },
  { cls := 11, slots := #[.long 61], vm := .none },
  { cls := 11, slots := #[.long 62], vm := .none },
  { cls := 11, slots := #[.long 63], vm := .none },
  { cls := 11, slots := #[.long 64], vm := .none },
  { cls := 11, slots := #[.long 65], vm := .none },
  { cls := 11, slots := #[.long 66], vm := .none },
  { cls := 11, slots := #[.long 67], vm := .none },
  { cls := 11, slots := #[.long 68], vm := .none },
  { cls := 11, slots := #[.long 69], vm := .none },
  { cls := 11, slots := #[.long 70], vm := .none },
  { cls := 11, slots := #[.long 71], vm := .none },
  { cls := 11, slots := #[.long 72], vm := .none },
  { cls := 11, slots := #[.long 73], vm := .none },
  { cls := 11, slots := #[.long 74], vm := .none },
  { cls := 11, slots := #[.long 75], vm := .none },
  { cls := 11, slots := #[.long 76], vm := .none },
  { cls := 11, slots := #[.long 77], vm := .none },
  { cls := 11, slots := #[.long 78], vm := .none },
  { cls := 11, slots := #[.long 79], vm := .none },
  { cls := 11, slots := #[.long 80], vm := .none },
  { cls := 11, slots := #[.long 81], vm := .none },
  { cls := 11, slots := #[.long 82], vm := .none },
  { cls := 11, slots := #[.long 83], vm := .none },
  { cls := 11, slots := #[.long 84], vm := .none },
  { cls := 11, slots := #[.long 85], vm := .none },
  { cls := 11, slots := #[.long 86], vm := .none },
  { cls := 11, slots := #[.long 87], vm := .none },
  { cls := 11, slots := #[.long 88], vm := .none },
  { cls := 11, slots := #[.long 89], vm := .none },
  { cls := 11, slots := #[.long 90], vm := .none },
  { cls := 11, slots := #[.long 91], vm := .none },
  { cls := 11, slots := #[.long 92], vm := .none },
  { cls := 11, slots := #[.long 93], vm := .none },
  { cls := 11, slots := #[.long 94], vm := .none },
  { cls := 11, slots := #[.long 95], vm := .none },
  { cls := 11, slots := #[.long 96], vm := .none },
  { cls := 11, slots := #[.long 97], vm := .none },
  { cls := 11, slots := #[.long 98], vm := .none },
  { cls := 11, slots := #[.long 99], vm := .none },
  { cls := 11, slots := #[.long 100], vm := .none },
  { cls := 11, slots := #[.long 101], vm := .none },
  { cls := 11, slots := #[.long 102], vm := .none },
  { cls := 11, slots := #[.long 103], vm := .none },
  { cls := 11, slots := #[.long 104], vm := .none },
  { cls := 11, slots := #[.long 105], vm := .none },
  { cls := 11, slots := #[.long 106], vm := .none },
  { cls := 11, slots := #[.long 107], vm := .none },
  { cls := 11, slots := #[.long 108], vm := .none },
  { cls := 11, slots := #[.long 109], vm := .none },
  { cls := 11, slots := #[.long 110], vm := .none },
  { cls := 11, slots := #[.long 111], vm := .none },
  { cls := 11, slots := #[.long 112], vm := .none },
  { cls := 11, slots := #[.long 113], vm := .none },
  { cls := 11, slots := #[.long 114], vm := .none },
  { cls := 11, slots := #[.long 115], vm := .none },
  { cls := 11, slots := #[.long 116], vm := .none },
  { cls := 11, slots := #[.long 117], vm := .none },
  { cls := 11, slots := #[.long 118], vm := .none },
  { cls := 11, slots := #[.long 119], vm := .none },
  { cls := 11, slots := #[.long 120], vm := .none },
  { cls := 11, slots := #[.long 121], vm := .none },
  { cls := 11, slots := #[.long 122], vm := .none },
  { cls := 11, slots := #[.long 123], vm := .none },
  { cls := 11, slots := #[.long 124], vm := .none },
  { cls := 11, slots := #[.long 125], vm := .none },
  { cls := 11, slots := #[.long 126], vm := .none },
  { cls := 11, slots := #[.long 127], vm := .none }]
def classes : Array Class := #[k0, k1, k2, k3, k4, k5, k6, k7, k8, k9, k10, k11, k12, k13, k14, k15, k16, k17, k18]
def interned : List (Array UInt16 × Addr) := []
def slotsUsed : Nat := 515
def theMethod : MethodId := ⟨1, 1⟩
def args0 : Array Value := #[.int 3, .long 5, .long 1, .long 3, .long 7, .long 2]
def aboutOver (below : List Frame) : State where
  vm := { classes := classes, interned := interned.toArray }
  heap := heap
  slotsUsed := slotsUsed
  threads := #[{ frames := .invoking theMethod args0 :: below }]
def below0 : List Frame := [.native { method := ⟨0, 0⟩, args := #[] }]
def about1 : State := aboutOver below0
def p0 : Program := .bare "" "" ""
def e0 : Env := launch0.env 0 0 0
theorem w_frames : about1.frames = Frame.invoking theMethod args0 :: below0 := rfl
set_option maxRecDepth 65536 in
theorem w_args : argsFit about1.vm theMethod args0 = true := by decide +kernel
set_option maxRecDepth 65536 in
theorem w_heap : heapFits about1 = true := by decide +kernel
set_option maxRecDepth 65536 in
theorem w_runnable : about1.curStatus? = some .runnable := by decide +kernel
set_option maxRecDepth 65536 in
theorem w_alone : about1.alone = true := by decide +kernel
set_option maxRecDepth 65536 in
theorem w_named : about1.methodNamed? x = some theMethod := by decide +kernel
set_option maxRecDepth 65536 in
theorem w_hears : about1.hears theMethod below0 = true := by decide +kernel
set_option maxRecDepth 65536 in
theorem w_ripe : about1.ripe theMethod args0 below0 = true := by decide +kernel
theorem w_running : about1.status = .running := rfl
set_option maxRecDepth 65536 in
theorem w_room : about1.hasRoom e0.platform room_1 = true :=
  launch0.hasRoom_least _ room_1 (by decide +kernel) (by decide +kernel) (by decide +kernel) (by decide +kernel) (by decide +kernel) (by decide +kernel)
theorem allAtoms_all (ts : List Jvm.Cond) (a : Array Jvm.Value) (st : Jvm.State) : (allAtoms ts).before a st = ts.all (fun c => c.before a st) := by
  induction ts with
  | nil => rfl
  | cons c t ih =>
    show (Jvm.Cond.and c (allAtoms t)).before a st = _
    rw [Jvm.Cond.before_and, ih, List.all_cons]
def words1 : List Jvm.Cond := Jvm.Cond.code x code maxLocals ret :: tables_1
/-- a 'code' word, met by the world's own term for the bytes: nothing is compared byte by byte -/
theorem code_word {y : MethodName} {bytes : ByteArray} {mx : Nat} {rt : Option FieldType} {a : Array Value} {s : State} {m : MethodId} {meth : Method} {c : Code} (h1 : s.methodNamed? y = some m) (h2 : s.vm.method? m = some meth) (h3 : meth.code = some c) (h4 : c.code = bytes)
    (h5 : (c.maxLocals == mx && c.exceptionTable.isEmpty && decide (c.maxStack ≤ mostOperands) && decide (meth.sig.returnType = rt) && !meth.locks && decide (parseMethodDescriptor y.desc = some meth.sig)) = true) : (Jvm.Cond.code y bytes mx rt).before a s = true := by
  simp only [Bool.and_eq_true, beq_iff_eq, Bool.not_eq_true', decide_eq_true_eq] at h5
  obtain ⟨⟨⟨⟨⟨g1, g2⟩, g3⟩, g4⟩, g5⟩, g6⟩ := h5
  simp [Cond.before, Cond.holds, Cond.value, h1, h2, h3, h4, g1, g2, g3, g4, g5, g6]
def isCode : Jvm.Cond → Bool
  | .code _ _ _ _ => true
  | _ => false
theorem all_split {L : List Jvm.Cond} {P : Jvm.Cond → Bool} (h1 : L.all (fun c => isCode c || P c) = true) (h2 : ∀ c ∈ L.filter isCode, P c = true) : L.all P = true := by
  refine List.all_eq_true.mpr fun c hc => ?_
  have h := List.all_eq_true.mp h1 c hc
  rcases Bool.eq_false_or_eq_true (isCode c) with hi | hi
  · exact h2 c (List.mem_filter.mpr ⟨hc, hi⟩)
  · simpa [hi] using h
set_option maxRecDepth 65536 in
theorem w_c0 : (Jvm.Cond.code x code maxLocals ret).before args0 about1 = true := code_word (m := ⟨1, 1⟩) (meth := k1m1) (c := k1c1) (by decide +kernel) rfl rfl rfl (by decide +kernel)
set_option maxRecDepth 65536 in
theorem w_c1 : (Jvm.Cond.code ({ cls := "com/example/annals/annals/storage/TypedColumn", name := "<init>", desc := "(Ljava/lang/String;Ljava/lang/String;Ljava/lang/String;Ljava/lang/Long;Ljava/lang/Long;Ljava/lang/Long;Ljava/lang/Long;Ljava/lang/Long;)V" } : Jvm.MethodName) prog_29_method_1_code (9 : Nat) (Option.none : Option Jvm.ClassFile.FieldType)).before args0 about1 = true := code_word (m := ⟨3, 0⟩) (meth := k3m0) (c := k3c0) (by decide +kernel) rfl rfl rfl (by decide +kernel)
set_option maxRecDepth 65536 in
theorem w_c2 : (Jvm.Cond.code ({ cls := "java/lang/Record", name := "<init>", desc := "()V" } : Jvm.MethodName) jdk_30_method_1_code (1 : Nat) (Option.none : Option Jvm.ClassFile.FieldType)).before args0 about1 = true := code_word (m := ⟨2, 0⟩) (meth := k2m0) (c := k2c0) (by decide +kernel) rfl rfl rfl (by decide +kernel)
set_option maxRecDepth 65536 in
theorem w_c3 : (Jvm.Cond.code ({ cls := "java/lang/Object", name := "<init>", desc := "()V" } : Jvm.MethodName) object_method_1_code (1 : Nat) (Option.none : Option Jvm.ClassFile.FieldType)).before args0 about1 = true := code_word (m := ⟨0, 0⟩) (meth := k0m0) (c := k0c0) (by decide +kernel) rfl rfl rfl (by decide +kernel)
set_option maxRecDepth 65536 in
theorem w_c4 : (Jvm.Cond.code ({ cls := "com/example/annals/annals/storage/TypedColumn", name := "roundsSomeValues", desc := "()Z" } : Jvm.MethodName) prog_29_method_5_code (1 : Nat) (Option.some Jvm.ClassFile.FieldType.boolean)).before args0 about1 = true := code_word (m := ⟨3, 2⟩) (meth := k3m2) (c := k3c2) (by decide +kernel) rfl rfl rfl (by decide +kernel)
set_option maxRecDepth 65536 in
theorem w_c5 : (Jvm.Cond.code ({ cls := "com/example/annals/annals/storage/TypedColumn", name := "roundsValuesOf", desc := "(Lcom/example/annals/annals/storage/TypedColumn;)Z" } : Jvm.MethodName) prog_29_method_4_code (2 : Nat) (Option.some Jvm.ClassFile.FieldType.boolean)).before args0 about1 = true := code_word (m := ⟨3, 1⟩) (meth := k3m1) (c := k3c1) (by decide +kernel) rfl rfl rfl (by decide +kernel)
set_option maxRecDepth 65536 in
theorem w_c6 : (Jvm.Cond.code ({ cls := "java/lang/Long", name := "valueOf", desc := "(J)Ljava/lang/Long;" } : Jvm.MethodName) jdk_35_method_24_code (3 : Nat) (Option.some (Jvm.ClassFile.FieldType.object "java/lang/Long"))).before args0 about1 = true := code_word (m := ⟨11, 0⟩) (meth := k11m0) (c := k11c0) (by decide +kernel) rfl rfl rfl (by decide +kernel)
set_option maxRecDepth 65536 in
theorem w_c7 : (Jvm.Cond.code ({ cls := "java/lang/Long", name := "<init>", desc := "(J)V" } : Jvm.MethodName) jdk_35_method_26_code (3 : Nat) (Option.none : Option Jvm.ClassFile.FieldType)).before args0 about1 = true := code_word (m := ⟨11, 1⟩) (meth := k11m1) (c := k11c1) (by decide +kernel) rfl rfl rfl (by decide +kernel)
set_option maxRecDepth 65536 in
theorem w_c8 : (Jvm.Cond.code ({ cls := "java/lang/Number", name := "<init>", desc := "()V" } : Jvm.MethodName) jdk_18_method_1_code (1 : Nat) (Option.none : Option Jvm.ClassFile.FieldType)).before args0 about1 = true := code_word (m := ⟨10, 0⟩) (meth := k10m0) (c := k10c0) (by decide +kernel) rfl rfl rfl (by decide +kernel)
set_option maxRecDepth 65536 in
theorem w_c9 : (Jvm.Cond.code ({ cls := "com/example/annals/annals/storage/TypedColumn", name := "atLeast", desc := "(Ljava/lang/Long;Ljava/lang/Long;)Z" } : Jvm.MethodName) prog_29_method_7_code (2 : Nat) (Option.some Jvm.ClassFile.FieldType.boolean)).before args0 about1 = true := code_word (m := ⟨3, 3⟩) (meth := k3m3) (c := k3c3) (by decide +kernel) rfl rfl rfl (by decide +kernel)
set_option maxRecDepth 65536 in
theorem w_c10 : (Jvm.Cond.code ({ cls := "java/lang/Long", name := "longValue", desc := "()J" } : Jvm.MethodName) jdk_35_method_31_code (1 : Nat) (Option.some Jvm.ClassFile.FieldType.long)).before args0 about1 = true := code_word (m := ⟨11, 2⟩) (meth := k11m2) (c := k11c2) (by decide +kernel) rfl rfl rfl (by decide +kernel)
def codes1 : List Jvm.Cond := [Jvm.Cond.code x code maxLocals ret, Jvm.Cond.code ({ cls := "com/example/annals/annals/storage/TypedColumn", name := "<init>", desc := "(Ljava/lang/String;Ljava/lang/String;Ljava/lang/String;Ljava/lang/Long;Ljava/lang/Long;Ljava/lang/Long;Ljava/lang/Long;Ljava/lang/Long;)V" } : Jvm.MethodName) prog_29_method_1_code (9 : Nat) (Option.none : Option Jvm.ClassFile.FieldType), Jvm.Cond.code ({ cls := "java/lang/Record", name := "<init>", desc := "()V" } : Jvm.MethodName) jdk_30_method_1_code (1 : Nat) (Option.none : Option Jvm.ClassFile.FieldType), Jvm.Cond.code ({ cls := "java/lang/Object", name := "<init>", desc := "()V" } : Jvm.MethodName) object_method_1_code (1 : Nat) (Option.none : Option Jvm.ClassFile.FieldType), Jvm.Cond.code ({ cls := "com/example/annals/annals/storage/TypedColumn", name := "roundsSomeValues", desc := "()Z" } : Jvm.MethodName) prog_29_method_5_code (1 : Nat) (Option.some Jvm.ClassFile.FieldType.boolean), Jvm.Cond.code ({ cls := "com/example/annals/annals/storage/TypedColumn", name := "roundsValuesOf", desc := "(Lcom/example/annals/annals/storage/TypedColumn;)Z" } : Jvm.MethodName) prog_29_method_4_code (2 : Nat) (Option.some Jvm.ClassFile.FieldType.boolean), Jvm.Cond.code ({ cls := "java/lang/Long", name := "valueOf", desc := "(J)Ljava/lang/Long;" } : Jvm.MethodName) jdk_35_method_24_code (3 : Nat) (Option.some (Jvm.ClassFile.FieldType.object "java/lang/Long")), Jvm.Cond.code ({ cls := "java/lang/Long", name := "<init>", desc := "(J)V" } : Jvm.MethodName) jdk_35_method_26_code (3 : Nat) (Option.none : Option Jvm.ClassFile.FieldType), Jvm.Cond.code ({ cls := "java/lang/Number", name := "<init>", desc := "()V" } : Jvm.MethodName) jdk_18_method_1_code (1 : Nat) (Option.none : Option Jvm.ClassFile.FieldType), Jvm.Cond.code ({ cls := "com/example/annals/annals/storage/TypedColumn", name := "atLeast", desc := "(Ljava/lang/Long;Ljava/lang/Long;)Z" } : Jvm.MethodName) prog_29_method_7_code (2 : Nat) (Option.some Jvm.ClassFile.FieldType.boolean), Jvm.Cond.code ({ cls := "java/lang/Long", name := "longValue", desc := "()J" } : Jvm.MethodName) jdk_35_method_31_code (1 : Nat) (Option.some Jvm.ClassFile.FieldType.long)]
set_option maxRecDepth 65536 in
theorem codes_eq : words1.filter isCode = codes1 := rfl
theorem w_codes : ∀ c ∈ words1.filter isCode, c.before args0 about1 = true := by
  rw [codes_eq]
  intro c hc
  simp only [codes1, List.mem_cons, List.not_mem_nil, or_false] at hc
  rcases hc with rfl | rfl | rfl | rfl | rfl | rfl | rfl | rfl | rfl | rfl | rfl
  · exact w_c0
  · exact w_c1
  · exact w_c2
  · exact w_c3
  · exact w_c4
  · exact w_c5
  · exact w_c6
  · exact w_c7
  · exact w_c8
  · exact w_c9
  · exact w_c10
set_option maxRecDepth 65536 in
theorem w_t1 : (words1.take 24).all (fun c => isCode c || c.before args0 about1) = true := by decide +kernel
set_option maxRecDepth 65536 in
theorem w_t2 : ((words1.drop 24).take 24).all (fun c => isCode c || c.before args0 about1) = true := by decide +kernel
set_option maxRecDepth 65536 in
theorem w_t3 : (((words1.drop 24).drop 24).take 24).all (fun c => isCode c || c.before args0 about1) = true := by decide +kernel
set_option maxRecDepth 65536 in
theorem w_t4 : (((words1.drop 24).drop 24).drop 24).all (fun c => isCode c || c.before args0 about1) = true := by decide +kernel
theorem w_tables : (allAtoms (Jvm.Cond.code x code maxLocals ret :: tables_1)).before args0 about1 = true := by
  rw [allAtoms_all]
  show words1.all (fun c => c.before args0 about1) = true
  refine all_split ?_ w_codes
  rw [← List.take_append_drop 24 words1, List.all_append, w_t1, ← List.take_append_drop 24 (words1.drop 24), List.all_append, w_t2, ← List.take_append_drop 24 ((words1.drop 24).drop 24), List.all_append, w_t3, w_t4]
  rfl
set_option maxRecDepth 65536 in
theorem w_rest : rest_1_c.before args0 about1 = true := by decide +kernel
set_option maxRecDepth 65536 in
theorem w_case : (Jvm.Cond.and given_1 narrow_1).before args0 about1 = true := by decide +kernel
theorem w_applies : (headSpec (Jvm.Cond.code x code maxLocals ret :: tables_1) room_1).applies x e0.platform about1 = true :=
  (Spec.applies_iff w_frames).mpr ⟨w_running, w_runnable, w_alone, w_named, w_hears, w_ripe, w_room, w_tables⟩
theorem atStart : AtStart classFile x code maxLocals ret World_1 tables_1 room_1 Calls_1 rest_1 Pre_1 launch0 p0 e0 about1 theMethod args0 below0 :=
  ⟨lists_1, trivial, launch0.admits_env _ _ _, launch0.least_env, fairChoices_fair.cas, fairChoices_fair.clock, w_frames, w_args, w_heap, w_applies, trivial, w_rest, w_case⟩
end start1
theorem witness_1 : WitnessClaimed_1 := ⟨start1.p0, start1.e0, start1.about1, start1.theMethod, start1.args0, start1.below0, start1.atStart⟩
end Jvm.Pilot.@@N@@
