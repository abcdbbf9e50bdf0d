import JvmDerived
import JvmDerived.Pilot.@@N@@Statement
import JvmDerived.Pilot.@@N@@Code
set_option linter.unusedVariables false
set_option linter.unusedSimpArgs false
namespace Jvm.Pilot.@@N@@
open Jvm Jvm.ClassFile Sem Op Lib Jvm.Free Jvm.Stand Jvm.LawKit Jvm.RoadKit Bundle Jvm.Pilot.@@N@@.Jvm.D
section Own
/-- from any state that stands at this heap, pc, locals and stack the run comes to an end that Q takes -/
def Wk (l : Launch) (Z : State) (n0 : Nat) (own nm : String) (bytes : ByteArray) (maxL : Nat) (ret : Option FieldType) (R : Room) (kc ks : Nat) (Q : Option Value → Heap → Prop) (h : Heap) (cl sl pc : Nat) (ls : Array Slot) (st : List Value) : Prop :=
  ∀ (p : Program) (e : Env) (s : State) (m : MethodId) (args : Array Value) (below : List Frame) (meth : Method) (c : Code) (T : State) (locs : List Loc),
    p.tables.exec = Jvm.exec → c.code = bytes → c.maxLocals = maxL → s.vm.findClass own = some m.cls → meth.name = nm → meth.sig.returnType = ret → meth.locks = false → Z.Warmed39 s.vm →
    Stand p l e R s m args below meth c T locs cl sl → T.heap = h → Fr n0 locs →
    ∃ s₂ o, Steps p.tables e below (T.setTop (mkF m pc ls st)) s₂ ∧ s₂.status = .running ∧ Ended s₂ below o ∧ ∃ v L, o = .returned v ∧ (Fr n0 L ∧ Q v s₂.heap) ∧ FrameEnd s o s₂ L kc ks
/-- a method's contract: from heap h, with the arguments as', it returns as Q says; new places alone are written -/
def Met (l : Launch) (Z : State) (n0 : Nat) (y : MethodName) (bytes : ByteArray) (maxL : Nat) (ret : Option FieldType) (rm : Room) (as' : Array Value) (h : Heap) (Q : Option Value → Heap → Prop) : Prop :=
  ∀ ws : List Jvm.Cond, MetFree l y (head1 (Jvm.Cond.code y bytes maxL ret :: ws) rm) (fun a U => a = as' ∧ Z.Warmed39 U.vm ∧ U.heap = h) (fun _ _ _ _ _ => True) (fun _ U o U' => ∃ v L, o = .returned v ∧ (Fr n0 L ∧ Q v U'.heap) ∧ FrameEnd U o U' L rm.cells rm.slots)
def icP : ClassFile.Cond → Int32 → Int32 → Prop
  | .eq, x, y => x = y | .ne, x, y => ¬ x = y | .lt, x, y => x < y | .ge, x, y => ¬ x < y | .gt, x, y => y < x | .le, x, y => ¬ y < x
def icN : ClassFile.Cond → Int32 → Int32 → Prop
  | .eq, x, y => ¬ x = y | .ne, x, y => x = y | .lt, x, y => ¬ x < y | .ge, x, y => x < y | .gt, x, y => ¬ y < x | .le, x, y => y < x
def acP : ACond → Value → Value → Prop
  | .eq, x, y => x = y | .ne, x, y => ¬ x = y
def acN : ACond → Value → Value → Prop
  | .eq, x, y => ¬ x = y | .ne, x, y => x = y
theorem ic_t {cd : ClassFile.Cond} {x y : Int32} (q : icP cd x y) : if_icmp.holds cd x y = true := by
  cases cd
  · exact (teq q).1
  · exact (feq q).2
  · exact (tlt q).1
  · exact (flt q).2.1
  · exact (tlt q).2.2.1
  · exact (flt q).2.2.2
theorem ic_f {cd : ClassFile.Cond} {x y : Int32} (q : icN cd x y) : if_icmp.holds cd x y = false := by
  cases cd
  · exact (feq q).1
  · exact (teq q).2
  · exact (flt q).1
  · exact (tlt q).2.1
  · exact (flt q).2.2.1
  · exact (tlt q).2.2.2
theorem ic_or (cd : ClassFile.Cond) (x y : Int32) : icP cd x y ∨ icN cd x y := by
  cases cd <;> simp only [icP, icN] <;> first | exact Decidable.em _ | exact (Decidable.em _).symm
theorem ac_t {cd : ACond} {x y : Value} (q : acP cd x y) : XT.acmp cd x y = true := by
  cases cd
  · exact decide_eq_true (show x = y from q)
  · exact decide_eq_true (show x ≠ y from q)
theorem ac_f {cd : ACond} {x y : Value} (q : acN cd x y) : XT.acmp cd x y = false := by
  cases cd
  · exact decide_eq_false (show ¬ x = y from q)
  · exact decide_eq_false (fun z : x ≠ y => z q)
theorem ac_or (cd : ACond) (x y : Value) : acP cd x y ∨ acN cd x y := by
  cases cd <;> simp only [acP, acN] <;> first | exact Classical.em _ | exact (Classical.em _).symm
variable {l : Launch} {Z : State} {a0 : Array Value} {n0 : Nat} {own nm : String} {bytes : ByteArray} {maxL : Nat} {ret : Option FieldType} {R : Room} {kc ks : Nat} {Q : Option Value → Heap → Prop} {h : Heap} {cl sl pc q : Nat} {ls ls' : Array Slot} {st st' rest : List Value}
theorem Met.mono {y : MethodName} {rm : Room} {as' : Array Value} {Q' : Option Value → Heap → Prop} (M : Met l Z n0 y bytes maxL ret rm as' h Q) (f : ∀ v h', Q v h' → Q' v h') : Met l Z n0 y bytes maxL ret rm as' h Q' := fun ws p e a1 a2 a3 s m args below b1 b2 b3 b4 => by
  obtain ⟨n, o, c1, c2, c3, v, L, c4, c5, c6⟩ := M ws p e a1 a2 a3 s m args below b1 b2 b3 b4
  exact ⟨n, o, c1, c2, c3, v, L, c4, ⟨c5.1, f _ _ c5.2⟩, c6⟩
theorem Met.of_wk {y : MethodName} {rm : Room} {as' : Array Value} (hp : plainFor y = true) (he : ∀ m, entryFrame m as' maxL = mkF m 0 ls []) (k : Wk l Z n0 y.cls y.name bytes maxL ret rm rm.cells rm.slots Q h 0 0 0 ls []) : Met l Z n0 y bytes maxL ret rm as' h Q := by
  intro ws
  refine MetFree.of_bodySF hp hisR ?_
  intro p e s m args below meth c s₁ Bd hml0 hP hK
  obtain ⟨rfl, hZ, hh⟩ := hP
  have X0 : Stand p l e rm s m args below meth c s₁ [] 0 0 := Stand.of_body Bd
  have e0 : s₁.heap = h := by rw [← hh, Bd.state]; rfl
  rw [he m]
  exact k p e s m _ below meth c s₁ [] Bd.exec Bd.bytes hml0 (findClass_of_methodNamed Bd.named) (name_of_methodNamed Bd.named Bd.method).1 Bd.returns Bd.notSynchronized hZ X0 e0 (Fr.nil n0)
theorem Wk.step (hs : ∀ {p : Program} {e : Env} {s : State} {m : MethodId} {args : Array Value} {below : List Frame} {meth : Method} {c : Code} {T : State} {locs : List Loc}, p.tables.exec = Jvm.exec → c.code = bytes → s.vm.findClass own = some m.cls → Z.Warmed39 s.vm → Stand p l e R s m args below meth c T locs cl sl → T.heap = h →
      ∀ target, Steps p.tables e below (T.setTop (mkF m q ls' st')) target → Steps p.tables e below (T.setTop (mkF m pc ls st)) target)
    (k : Wk l Z n0 own nm bytes maxL ret R kc ks Q h cl sl q ls' st') : Wk l Z n0 own nm bytes maxL ret R kc ks Q h cl sl pc ls st := by
  intro p e s m args below meth c T locs hx hby hml hown hnm hret hlk hZ X eT N
  obtain ⟨s₂, o, h1, r⟩ := k p e s m args below meth c T locs hx hby hml hown hnm hret hlk hZ X eT N
  exact ⟨s₂, o, hs hx hby hown hZ X eT _ h1, r⟩
theorem Wk.stepW (hs : ∀ {p : Program} {e : Env} {s : State} {m : MethodId} {args : Array Value} {below : List Frame} {meth : Method} {c : Code} {T : State} {locs : List Loc}, p.tables.exec = Jvm.exec → c.code = bytes → s.vm.findClass own = some m.cls → Z.Warmed39 s.vm → Stand p l e R s m args below meth c T locs cl sl → T.heap = h →
      ∃ T', Stand p l e R s m args below meth c T' locs cl sl ∧ T'.heap = h ∧ ∀ target, Steps p.tables e below (T'.setTop (mkF m q ls' st')) target → Steps p.tables e below (T.setTop (mkF m pc ls st)) target)
    (k : Wk l Z n0 own nm bytes maxL ret R kc ks Q h cl sl q ls' st') : Wk l Z n0 own nm bytes maxL ret R kc ks Q h cl sl pc ls st := by
  intro p e s m args below meth c T locs hx hby hml hown hnm hret hlk hZ X eT N
  obtain ⟨T', X', eT', st⟩ := hs hx hby hown hZ X eT
  obtain ⟨s₂, o, h1, r⟩ := k p e s m args below meth c T' locs hx hby hml hown hnm hret hlk hZ X' eT' N
  exact ⟨s₂, o, st _ h1, r⟩
theorem Wk.iloadN {i : Fin 4} {v : Int32} (hd : decode bytes pc = .ok (.iload_n i, 1)) (hq : pc + 1 = q) (hl : ls[i.val]? = some (.val (.int v))) (k : Wk l Z n0 own nm bytes maxL ret R kc ks Q h cl sl q ls (.int v :: st)) : Wk l Z n0 own nm bytes maxL ret R kc ks Q h cl sl pc ls st := by
  subst hq; exact Wk.step (fun hx hby _ _ X _ _ k => XS.iloadN X.here hx rfl (hb hby hd) hl k) k
theorem Wk.iload {i : Nat} {v : Int32} (hd : decode bytes pc = .ok (.iload i, 2)) (hq : pc + 2 = q) (hl : ls[i]? = some (.val (.int v))) (k : Wk l Z n0 own nm bytes maxL ret R kc ks Q h cl sl q ls (.int v :: st)) : Wk l Z n0 own nm bytes maxL ret R kc ks Q h cl sl pc ls st := by
  subst hq; exact Wk.step (fun hx hby _ _ X _ _ k => XS.iload X.here hx rfl (hb hby hd) hl k) k
theorem Wk.lloadN {i : Fin 4} {v : Int64} (hd : decode bytes pc = .ok (.lload_n i, 1)) (hq : pc + 1 = q) (hl : ls[i.val]? = some (.val (.long v))) (k : Wk l Z n0 own nm bytes maxL ret R kc ks Q h cl sl q ls (.long v :: st)) : Wk l Z n0 own nm bytes maxL ret R kc ks Q h cl sl pc ls st := by
  subst hq; exact Wk.step (fun hx hby _ _ X _ _ k => XT.lloadN X.here hx rfl (hb hby hd) hl k) k
theorem Wk.lload {i : Nat} {v : Int64} (hd : decode bytes pc = .ok (.lload i, 2)) (hq : pc + 2 = q) (hl : ls[i]? = some (.val (.long v))) (k : Wk l Z n0 own nm bytes maxL ret R kc ks Q h cl sl q ls (.long v :: st)) : Wk l Z n0 own nm bytes maxL ret R kc ks Q h cl sl pc ls st := by
  subst hq; exact Wk.step (fun hx hby _ _ X _ _ k => XT.lload X.here hx rfl (hb hby hd) hl k) k
theorem Wk.aloadN {i : Fin 4} {v : Value} (hd : decode bytes pc = .ok (.aload_n i, 1)) (hq : pc + 1 = q) (hl : ls[i.val]? = some (.val v)) (hv : v.isRef = true) (k : Wk l Z n0 own nm bytes maxL ret R kc ks Q h cl sl q ls (v :: st)) : Wk l Z n0 own nm bytes maxL ret R kc ks Q h cl sl pc ls st := by
  subst hq; exact Wk.step (fun hx hby _ _ X _ _ k => XS.aloadN X.here hx rfl (hb hby hd) hl hv k) k
theorem Wk.aload {i : Nat} {v : Value} (hd : decode bytes pc = .ok (.aload i, 2)) (hq : pc + 2 = q) (hl : ls[i]? = some (.val v)) (hv : v.isRef = true) (k : Wk l Z n0 own nm bytes maxL ret R kc ks Q h cl sl q ls (v :: st)) : Wk l Z n0 own nm bytes maxL ret R kc ks Q h cl sl pc ls st := by
  subst hq; exact Wk.step (fun hx hby _ _ X _ _ k => XS.aload X.here hx rfl (hb hby hd) hl hv k) k
theorem Wk.istoreN {i : Fin 4} {v : Int32} (hd : decode bytes pc = .ok (.istore_n i, 1)) (hq : pc + 1 = q) (hl : storeLocals ls i.val (.int v) = some ls') (k : Wk l Z n0 own nm bytes maxL ret R kc ks Q h cl sl q ls' st) : Wk l Z n0 own nm bytes maxL ret R kc ks Q h cl sl pc ls (.int v :: st) := by
  subst hq; exact Wk.step (fun hx hby _ _ X _ _ k => XS.istoreN X.here hx rfl (hb hby hd) rfl hl k) k
theorem Wk.istore {i : Nat} {v : Int32} (hd : decode bytes pc = .ok (.istore i, 2)) (hq : pc + 2 = q) (hl : storeLocals ls i (.int v) = some ls') (k : Wk l Z n0 own nm bytes maxL ret R kc ks Q h cl sl q ls' st) : Wk l Z n0 own nm bytes maxL ret R kc ks Q h cl sl pc ls (.int v :: st) := by
  subst hq; exact Wk.step (fun hx hby _ _ X _ _ k => XS.istore X.here hx rfl (hb hby hd) rfl hl k) k
theorem Wk.lstoreN {i : Fin 4} {v : Int64} (hd : decode bytes pc = .ok (.lstore_n i, 1)) (hq : pc + 1 = q) (hl : storeLocals ls i.val (.long v) = some ls') (k : Wk l Z n0 own nm bytes maxL ret R kc ks Q h cl sl q ls' st) : Wk l Z n0 own nm bytes maxL ret R kc ks Q h cl sl pc ls (.long v :: st) := by
  subst hq; exact Wk.step (fun hx hby _ _ X _ _ k => XT.lstoreN X.here hx rfl (hb hby hd) rfl hl k) k
theorem Wk.lstore {i : Nat} {v : Int64} (hd : decode bytes pc = .ok (.lstore i, 2)) (hq : pc + 2 = q) (hl : storeLocals ls i (.long v) = some ls') (k : Wk l Z n0 own nm bytes maxL ret R kc ks Q h cl sl q ls' st) : Wk l Z n0 own nm bytes maxL ret R kc ks Q h cl sl pc ls (.long v :: st) := by
  subst hq; exact Wk.step (fun hx hby _ _ X _ _ k => XT.lstore X.here hx rfl (hb hby hd) rfl hl k) k
theorem Wk.astoreN {i : Fin 4} {v : Value} (hd : decode bytes pc = .ok (.astore_n i, 1)) (hq : pc + 1 = q) (hv : v.isRef = true) (hl : storeLocals ls i.val v = some ls') (k : Wk l Z n0 own nm bytes maxL ret R kc ks Q h cl sl q ls' st) : Wk l Z n0 own nm bytes maxL ret R kc ks Q h cl sl pc ls (v :: st) := by
  subst hq; exact Wk.step (fun hx hby _ _ X _ _ k => XS.astoreN X.here hx rfl (hb hby hd) rfl hv hl k) k
theorem Wk.astore {i : Nat} {v : Value} (hd : decode bytes pc = .ok (.astore i, 2)) (hq : pc + 2 = q) (hv : v.isRef = true) (hl : storeLocals ls i v = some ls') (k : Wk l Z n0 own nm bytes maxL ret R kc ks Q h cl sl q ls' st) : Wk l Z n0 own nm bytes maxL ret R kc ks Q h cl sl pc ls (v :: st) := by
  subst hq; exact Wk.step (fun hx hby _ _ X _ _ k => XS.astore X.here hx rfl (hb hby hd) rfl hv hl k) k
theorem Wk.iconst {i : Int} {v : Int32} (hd : decode bytes pc = .ok (.iconst i, 1)) (hq : pc + 1 = q) (hv : Int32.ofInt i = v) (k : Wk l Z n0 own nm bytes maxL ret R kc ks Q h cl sl q ls (.int v :: st)) : Wk l Z n0 own nm bytes maxL ret R kc ks Q h cl sl pc ls st := by
  subst hq hv; exact Wk.step (fun hx hby _ _ X _ _ k => XS.iconst X.here hx rfl (hb hby hd) k) k
theorem Wk.bipush {i : Int} {v : Int32} (hd : decode bytes pc = .ok (.bipush i, 2)) (hq : pc + 2 = q) (hv : (Int8.ofInt i).toInt32 = v) (k : Wk l Z n0 own nm bytes maxL ret R kc ks Q h cl sl q ls (.int v :: st)) : Wk l Z n0 own nm bytes maxL ret R kc ks Q h cl sl pc ls st := by
  subst hq hv; exact Wk.step (fun hx hby _ _ X _ _ k => XS.bipush X.here hx rfl (hb hby hd) k) k
theorem Wk.sipush {i : Int} {v : Int32} (hd : decode bytes pc = .ok (.sipush i, 3)) (hq : pc + 3 = q) (hv : (Int16.ofInt i).toInt32 = v) (k : Wk l Z n0 own nm bytes maxL ret R kc ks Q h cl sl q ls (.int v :: st)) : Wk l Z n0 own nm bytes maxL ret R kc ks Q h cl sl pc ls st := by
  subst hq hv; exact Wk.step (fun hx hby _ _ X _ _ k => XS.sipush X.here hx rfl (hb hby hd) k) k
theorem Wk.lconst {i : Fin 2} {v : Int64} (hd : decode bytes pc = .ok (.lconst i, 1)) (hq : pc + 1 = q) (hv : Int64.ofNat i = v) (k : Wk l Z n0 own nm bytes maxL ret R kc ks Q h cl sl q ls (.long v :: st)) : Wk l Z n0 own nm bytes maxL ret R kc ks Q h cl sl pc ls st := by
  subst hq hv; exact Wk.step (fun hx hby _ _ X _ _ k => XT.lconst X.here hx rfl (hb hby hd) k) k
theorem Wk.null  (hd : decode bytes pc = .ok (.aconst_null, 1)) (hq : pc + 1 = q)  (k : Wk l Z n0 own nm bytes maxL ret R kc ks Q h cl sl q ls (.null :: st)) : Wk l Z n0 own nm bytes maxL ret R kc ks Q h cl sl pc ls st := by
  subst hq; exact Wk.step (fun hx hby _ _ X _ _ k => XS.aconstNull X.here hx rfl (hb hby hd) k) k
theorem Wk.ldcI {i : Nat} {v : Int32} (w : (Jvm.Cond.constant own i v).before a0 Z = true) (hd : decode bytes pc = .ok (.ldc i, 2)) (hq : pc + 2 = q) (k : Wk l Z n0 own nm bytes maxL ret R kc ks Q h cl sl q ls (.int v :: st)) : Wk l Z n0 own nm bytes maxL ret R kc ks Q h cl sl pc ls st := by
  subst hq; exact Wk.step (fun hx hby hown hZ X _ t k => X.ldcInt hx hown (mv hZ w) (g := mkF _ pc ls st) rfl (hb hby hd) t k) k
theorem Wk.ldc2 {i : Nat} {v : Int64} (w : (Jvm.Cond.constantLong own i v).before a0 Z = true) (hd : decode bytes pc = .ok (.ldc2_w i, 3)) (hq : pc + 3 = q) (k : Wk l Z n0 own nm bytes maxL ret R kc ks Q h cl sl q ls (.long v :: st)) : Wk l Z n0 own nm bytes maxL ret R kc ks Q h cl sl pc ls st := by
  subst hq; exact Wk.step (fun hx hby hown hZ X _ t k => X.ldc2Long hx hown (mv hZ w) (g := mkF _ pc ls st) rfl (hb hby hd) t k) k
theorem Wk.iadd {x y v : Int32} (hd : decode bytes pc = .ok (.iadd, 1)) (hq : pc + 1 = q) (hv : x + y = v) (k : Wk l Z n0 own nm bytes maxL ret R kc ks Q h cl sl q ls (.int v :: st)) : Wk l Z n0 own nm bytes maxL ret R kc ks Q h cl sl pc ls (.int y :: .int x :: st) := by
  subst hq hv; exact Wk.step (fun hx hby _ _ X _ _ k => XS.iadd X.here hx rfl (hb hby hd) rfl k) k
theorem Wk.isub {x y v : Int32} (hd : decode bytes pc = .ok (.isub, 1)) (hq : pc + 1 = q) (hv : x - y = v) (k : Wk l Z n0 own nm bytes maxL ret R kc ks Q h cl sl q ls (.int v :: st)) : Wk l Z n0 own nm bytes maxL ret R kc ks Q h cl sl pc ls (.int y :: .int x :: st) := by
  subst hq hv; exact Wk.step (fun hx hby _ _ X _ _ k => XS.isub X.here hx rfl (hb hby hd) rfl k) k
theorem Wk.iand {x y v : Int32} (hd : decode bytes pc = .ok (.iand, 1)) (hq : pc + 1 = q) (hv : x &&& y = v) (k : Wk l Z n0 own nm bytes maxL ret R kc ks Q h cl sl q ls (.int v :: st)) : Wk l Z n0 own nm bytes maxL ret R kc ks Q h cl sl pc ls (.int y :: .int x :: st) := by
  subst hq hv; exact Wk.step (fun hx hby _ _ X _ _ k => XS.iand X.here hx rfl (hb hby hd) rfl k) k
theorem Wk.imul {x y v : Int32} (hd : decode bytes pc = .ok (.imul, 1)) (hq : pc + 1 = q) (hv : x * y = v) (k : Wk l Z n0 own nm bytes maxL ret R kc ks Q h cl sl q ls (.int v :: st)) : Wk l Z n0 own nm bytes maxL ret R kc ks Q h cl sl pc ls (.int y :: .int x :: st) := by
  subst hq hv; exact Wk.step (fun hx hby _ _ X _ _ k => XS.imul X.here hx rfl (hb hby hd) rfl k) k
theorem Wk.ishr {x y v : Int32} (hd : decode bytes pc = .ok (.ishr, 1)) (hq : pc + 1 = q) (hv : x >>> (y &&& 31) = v) (k : Wk l Z n0 own nm bytes maxL ret R kc ks Q h cl sl q ls (.int v :: st)) : Wk l Z n0 own nm bytes maxL ret R kc ks Q h cl sl pc ls (.int y :: .int x :: st) := by
  subst hq hv; exact Wk.step (fun hx hby _ _ X _ _ k => XT.ishr X.here hx rfl (hb hby hd) rfl k) k
theorem Wk.iushr {x y v : Int32} (hd : decode bytes pc = .ok (.iushr, 1)) (hq : pc + 1 = q) (hv : XT.ushr x y = v) (k : Wk l Z n0 own nm bytes maxL ret R kc ks Q h cl sl q ls (.int v :: st)) : Wk l Z n0 own nm bytes maxL ret R kc ks Q h cl sl pc ls (.int y :: .int x :: st) := by
  subst hq hv; exact Wk.step (fun hx hby _ _ X _ _ k => XT.iushr X.here hx rfl (hb hby hd) rfl k) k
theorem Wk.irem {x y v : Int32} (hd : decode bytes pc = .ok (.irem, 1)) (hq : pc + 1 = q) (hy : y ≠ 0) (hv : x % y = v) (k : Wk l Z n0 own nm bytes maxL ret R kc ks Q h cl sl q ls (.int v :: st)) : Wk l Z n0 own nm bytes maxL ret R kc ks Q h cl sl pc ls (.int y :: .int x :: st) := by
  subst hq hv; exact Wk.step (fun hx hby _ _ X _ _ k => iremM X hx (g := mkF _ pc ls (.int y :: .int x :: st)) rfl (hb hby hd) rfl hy k) k
theorem Wk.idiv {x y v : Int32} (hd : decode bytes pc = .ok (.idiv, 1)) (hq : pc + 1 = q) (hy : y ≠ 0) (hv : x / y = v) (k : Wk l Z n0 own nm bytes maxL ret R kc ks Q h cl sl q ls (.int v :: st)) : Wk l Z n0 own nm bytes maxL ret R kc ks Q h cl sl pc ls (.int y :: .int x :: st) := by
  subst hq hv; exact Wk.step (fun hx hby _ _ X _ _ k => XS.idiv X.here hx rfl (hb hby hd) rfl hy k) k
theorem Wk.i2b {x v : Int32} (hd : decode bytes pc = .ok (.i2b, 1)) (hq : pc + 1 = q) (hv : x.toInt8.toInt32 = v) (k : Wk l Z n0 own nm bytes maxL ret R kc ks Q h cl sl q ls (.int v :: st)) : Wk l Z n0 own nm bytes maxL ret R kc ks Q h cl sl pc ls (.int x :: st) := by
  subst hq hv; exact Wk.step (fun hx hby _ _ X _ _ k => XT.i2b X.here hx rfl (hb hby hd) rfl k) k
theorem Wk.i2s {x v : Int32} (hd : decode bytes pc = .ok (.i2s, 1)) (hq : pc + 1 = q) (hv : x.toInt16.toInt32 = v) (k : Wk l Z n0 own nm bytes maxL ret R kc ks Q h cl sl q ls (.int v :: st)) : Wk l Z n0 own nm bytes maxL ret R kc ks Q h cl sl pc ls (.int x :: st) := by
  subst hq hv; exact Wk.step (fun hx hby _ _ X _ _ k => XT.i2s X.here hx rfl (hb hby hd) rfl k) k
theorem Wk.i2l {x : Int32} {v : Int64} (hd : decode bytes pc = .ok (.i2l, 1)) (hq : pc + 1 = q) (hv : x.toInt64 = v) (k : Wk l Z n0 own nm bytes maxL ret R kc ks Q h cl sl q ls (.long v :: st)) : Wk l Z n0 own nm bytes maxL ret R kc ks Q h cl sl pc ls (.int x :: st) := by
  subst hq hv; exact Wk.step (fun hx hby _ _ X _ _ k => XT.i2l X.here hx rfl (hb hby hd) rfl k) k
theorem Wk.l2i {x : Int64} {v : Int32} (hd : decode bytes pc = .ok (.l2i, 1)) (hq : pc + 1 = q) (hv : x.toInt32 = v) (k : Wk l Z n0 own nm bytes maxL ret R kc ks Q h cl sl q ls (.int v :: st)) : Wk l Z n0 own nm bytes maxL ret R kc ks Q h cl sl pc ls (.long x :: st) := by
  subst hq hv; exact Wk.step (fun hx hby _ _ X _ _ k => XT.l2i X.here hx rfl (hb hby hd) rfl k) k
theorem Wk.ladd {x y v : Int64} (hd : decode bytes pc = .ok (.ladd, 1)) (hq : pc + 1 = q) (hv : x + y = v) (k : Wk l Z n0 own nm bytes maxL ret R kc ks Q h cl sl q ls (.long v :: st)) : Wk l Z n0 own nm bytes maxL ret R kc ks Q h cl sl pc ls (.long y :: .long x :: st) := by
  subst hq hv; exact Wk.step (fun hx hby _ _ X _ _ k => XT.ladd X.here hx rfl (hb hby hd) rfl k) k
theorem Wk.lsub {x y v : Int64} (hd : decode bytes pc = .ok (.lsub, 1)) (hq : pc + 1 = q) (hv : x - y = v) (k : Wk l Z n0 own nm bytes maxL ret R kc ks Q h cl sl q ls (.long v :: st)) : Wk l Z n0 own nm bytes maxL ret R kc ks Q h cl sl pc ls (.long y :: .long x :: st) := by
  subst hq hv; exact Wk.step (fun hx hby _ _ X _ _ k => XT.lsub X.here hx rfl (hb hby hd) rfl k) k
theorem Wk.lmul {x y v : Int64} (hd : decode bytes pc = .ok (.lmul, 1)) (hq : pc + 1 = q) (hv : x * y = v) (k : Wk l Z n0 own nm bytes maxL ret R kc ks Q h cl sl q ls (.long v :: st)) : Wk l Z n0 own nm bytes maxL ret R kc ks Q h cl sl pc ls (.long y :: .long x :: st) := by
  subst hq hv; exact Wk.step (fun hx hby _ _ X _ _ k => XT.lmul X.here hx rfl (hb hby hd) rfl k) k
theorem Wk.lneg {x v : Int64} (hd : decode bytes pc = .ok (.lneg, 1)) (hq : pc + 1 = q) (hv : -x = v) (k : Wk l Z n0 own nm bytes maxL ret R kc ks Q h cl sl q ls (.long v :: st)) : Wk l Z n0 own nm bytes maxL ret R kc ks Q h cl sl pc ls (.long x :: st) := by
  subst hq hv; exact Wk.step (fun hx hby _ _ X _ _ k => XT.lneg X.here hx rfl (hb hby hd) rfl k) k
theorem Wk.lcmp {x y : Int64} {v : Int32} (hd : decode bytes pc = .ok (.lcmp, 1)) (hq : pc + 1 = q) (hv : XT.cmpL x y = v) (k : Wk l Z n0 own nm bytes maxL ret R kc ks Q h cl sl q ls (.int v :: st)) : Wk l Z n0 own nm bytes maxL ret R kc ks Q h cl sl pc ls (.long y :: .long x :: st) := by
  subst hq hv; exact Wk.step (fun hx hby _ _ X _ _ k => XT.lcmp X.here hx rfl (hb hby hd) rfl k) k
theorem Wk.iinc {i : Nat} {cst : Int} {x v : Int32} (hd : decode bytes pc = .ok (.iinc i cst, 3)) (hq : pc + 3 = q) (hl : ls[i]? = some (.val (.int x))) (hv : x + Int32.ofInt cst = v) (hl' : storeLocals ls i (.int v) = some ls') (k : Wk l Z n0 own nm bytes maxL ret R kc ks Q h cl sl q ls' st) : Wk l Z n0 own nm bytes maxL ret R kc ks Q h cl sl pc ls st := by
  subst hq hv; exact Wk.step (fun hx hby _ _ X _ _ k => XS.iinc X.here hx rfl (hb hby hd) hl hl' k) k
theorem Wk.dup {x : Value} (hd : decode bytes pc = .ok (.dup, 1)) (hq : pc + 1 = q) (hc : x.category = 1) (k : Wk l Z n0 own nm bytes maxL ret R kc ks Q h cl sl q ls (x :: x :: st)) : Wk l Z n0 own nm bytes maxL ret R kc ks Q h cl sl pc ls (x :: st) := by
  subst hq; exact Wk.step (fun hx hby _ _ X _ _ k => XS.dup X.here hx rfl (hb hby hd) rfl hc k) k
theorem Wk.dupX1 {x y : Value} (hd : decode bytes pc = .ok (.dup_x1, 1)) (hq : pc + 1 = q) (hc : x.category = 1) (hc' : y.category = 1) (k : Wk l Z n0 own nm bytes maxL ret R kc ks Q h cl sl q ls (x :: y :: x :: st)) : Wk l Z n0 own nm bytes maxL ret R kc ks Q h cl sl pc ls (x :: y :: st) := by
  subst hq; exact Wk.step (fun hx hby _ _ X _ _ k => XT.dupX1 X.here hx rfl (hb hby hd) rfl hc hc' k) k
theorem Wk.pop {x : Value} (hd : decode bytes pc = .ok (.pop, 1)) (hq : pc + 1 = q) (hc : x.category = 1) (k : Wk l Z n0 own nm bytes maxL ret R kc ks Q h cl sl q ls st) : Wk l Z n0 own nm bytes maxL ret R kc ks Q h cl sl pc ls (x :: st) := by
  subst hq; exact Wk.step (fun hx hby _ _ X _ _ k => XT.pop X.here hx rfl (hb hby hd) rfl hc k) k
theorem Wk.goto {o : Int} (hd : decode bytes pc = .ok (.goto o, 3)) (ho : 0 ≤ (pc : Int) + o) (hp : ((pc : Int) + o).toNat = q) (k : Wk l Z n0 own nm bytes maxL ret R kc ks Q h cl sl q ls st) : Wk l Z n0 own nm bytes maxL ret R kc ks Q h cl sl pc ls st :=
  Wk.step (fun hx hby _ _ X _ _ k => XS.goto X.here hx rfl rfl (hb hby hd) ho hp k) k
theorem Wk.icmpT {cd : ClassFile.Cond} {o : Int} {x y : Int32} (hd : decode bytes pc = .ok (.if_icmp cd o, 3)) (ho : 0 ≤ (pc : Int) + o) (hp : ((pc : Int) + o).toNat = q) (hc : icP cd x y) (k : Wk l Z n0 own nm bytes maxL ret R kc ks Q h cl sl q ls st) : Wk l Z n0 own nm bytes maxL ret R kc ks Q h cl sl pc ls (.int y :: .int x :: st) :=
  Wk.step (fun hx hby _ _ X _ _ k => XS.icmpYes X.here hx rfl rfl (hb hby hd) rfl (ic_t hc) ho hp k) k
theorem Wk.icmpF {cd : ClassFile.Cond} {o : Int} {x y : Int32} (hd : decode bytes pc = .ok (.if_icmp cd o, 3)) (hq : pc + 3 = q) (hc : icN cd x y) (k : Wk l Z n0 own nm bytes maxL ret R kc ks Q h cl sl q ls st) : Wk l Z n0 own nm bytes maxL ret R kc ks Q h cl sl pc ls (.int y :: .int x :: st) := by
  subst hq; exact Wk.step (fun hx hby _ _ X _ _ k => XS.icmpNo X.here hx rfl (hb hby hd) rfl (ic_f hc) k) k
theorem Wk.icmp {cd : ClassFile.Cond} {o : Int} {x y : Int32} {q' : Nat} (hd : decode bytes pc = .ok (.if_icmp cd o, 3)) (ho : 0 ≤ (pc : Int) + o) (hp : ((pc : Int) + o).toNat = q) (hq : pc + 3 = q') (kT : icP cd x y → Wk l Z n0 own nm bytes maxL ret R kc ks Q h cl sl q ls st) (kF : icN cd x y → Wk l Z n0 own nm bytes maxL ret R kc ks Q h cl sl q' ls st) : Wk l Z n0 own nm bytes maxL ret R kc ks Q h cl sl pc ls (.int y :: .int x :: st) :=
  (ic_or cd x y).elim (fun z => Wk.icmpT hd ho hp z (kT z)) (fun z => Wk.icmpF hd hq z (kF z))
theorem Wk.ifcT {cd : ClassFile.Cond} {o : Int} {x : Int32} (hd : decode bytes pc = .ok (.ifCond cd o, 3)) (ho : 0 ≤ (pc : Int) + o) (hp : ((pc : Int) + o).toNat = q) (hc : icP cd x 0) (k : Wk l Z n0 own nm bytes maxL ret R kc ks Q h cl sl q ls st) : Wk l Z n0 own nm bytes maxL ret R kc ks Q h cl sl pc ls (.int x :: st) :=
  Wk.step (fun hx hby _ _ X _ _ k => XS.ifYes X.here hx rfl rfl (hb hby hd) rfl ((if0 cd x).trans (ic_t hc)) ho hp k) k
theorem Wk.ifcF {cd : ClassFile.Cond} {o : Int} {x : Int32} (hd : decode bytes pc = .ok (.ifCond cd o, 3)) (hq : pc + 3 = q) (hc : icN cd x 0) (k : Wk l Z n0 own nm bytes maxL ret R kc ks Q h cl sl q ls st) : Wk l Z n0 own nm bytes maxL ret R kc ks Q h cl sl pc ls (.int x :: st) := by
  subst hq; exact Wk.step (fun hx hby _ _ X _ _ k => XS.ifNo X.here hx rfl (hb hby hd) rfl ((if0 cd x).trans (ic_f hc)) k) k
theorem Wk.ifc {cd : ClassFile.Cond} {o : Int} {x : Int32} {q' : Nat} (hd : decode bytes pc = .ok (.ifCond cd o, 3)) (ho : 0 ≤ (pc : Int) + o) (hp : ((pc : Int) + o).toNat = q) (hq : pc + 3 = q') (kT : icP cd x 0 → Wk l Z n0 own nm bytes maxL ret R kc ks Q h cl sl q ls st) (kF : icN cd x 0 → Wk l Z n0 own nm bytes maxL ret R kc ks Q h cl sl q' ls st) : Wk l Z n0 own nm bytes maxL ret R kc ks Q h cl sl pc ls (.int x :: st) :=
  (ic_or cd x 0).elim (fun z => Wk.ifcT hd ho hp z (kT z)) (fun z => Wk.ifcF hd hq z (kF z))
theorem Wk.acmpT {cd : ACond} {o : Int} {x y : Value} (hd : decode bytes pc = .ok (.if_acmp cd o, 3)) (ho : 0 ≤ (pc : Int) + o) (hp : ((pc : Int) + o).toNat = q) (hx' : x.isRef = true) (hy' : y.isRef = true) (hc : acP cd x y) (k : Wk l Z n0 own nm bytes maxL ret R kc ks Q h cl sl q ls st) : Wk l Z n0 own nm bytes maxL ret R kc ks Q h cl sl pc ls (y :: x :: st) :=
  Wk.step (fun hx hby _ _ X _ _ k => XT.acmpYes X.here hx rfl rfl (hb hby hd) rfl hx' hy' (ac_t hc) ho hp k) k
theorem Wk.acmpF {cd : ACond} {o : Int} {x y : Value} (hd : decode bytes pc = .ok (.if_acmp cd o, 3)) (hq : pc + 3 = q) (hx' : x.isRef = true) (hy' : y.isRef = true) (hc : acN cd x y) (k : Wk l Z n0 own nm bytes maxL ret R kc ks Q h cl sl q ls st) : Wk l Z n0 own nm bytes maxL ret R kc ks Q h cl sl pc ls (y :: x :: st) := by
  subst hq; exact Wk.step (fun hx hby _ _ X _ _ k => XT.acmpNo X.here hx rfl (hb hby hd) rfl hx' hy' (ac_f hc) k) k
theorem Wk.acmp {cd : ACond} {o : Int} {x y : Value} {q' : Nat} (hd : decode bytes pc = .ok (.if_acmp cd o, 3)) (ho : 0 ≤ (pc : Int) + o) (hp : ((pc : Int) + o).toNat = q) (hq : pc + 3 = q') (hx' : x.isRef = true) (hy' : y.isRef = true) (kT : acP cd x y → Wk l Z n0 own nm bytes maxL ret R kc ks Q h cl sl q ls st) (kF : acN cd x y → Wk l Z n0 own nm bytes maxL ret R kc ks Q h cl sl q' ls st) : Wk l Z n0 own nm bytes maxL ret R kc ks Q h cl sl pc ls (y :: x :: st) :=
  (ac_or cd x y).elim (fun z => Wk.acmpT hd ho hp hx' hy' z (kT z)) (fun z => Wk.acmpF hd hq hx' hy' z (kF z))
theorem Wk.ifnullT {o : Int} (hd : decode bytes pc = .ok (.ifnull o, 3)) (ho : 0 ≤ (pc : Int) + o) (hp : ((pc : Int) + o).toNat = q) (k : Wk l Z n0 own nm bytes maxL ret R kc ks Q h cl sl q ls st) : Wk l Z n0 own nm bytes maxL ret R kc ks Q h cl sl pc ls (.null :: st) :=
  Wk.step (fun hx hby _ _ X _ _ k => XS.ifnullYes X.here hx rfl rfl (hb hby hd) rfl ho hp k) k
theorem Wk.ifnullF {o : Int} {b : Addr} (hd : decode bytes pc = .ok (.ifnull o, 3)) (hq : pc + 3 = q) (k : Wk l Z n0 own nm bytes maxL ret R kc ks Q h cl sl q ls st) : Wk l Z n0 own nm bytes maxL ret R kc ks Q h cl sl pc ls (.ref b :: st) := by
  subst hq; exact Wk.step (fun hx hby _ _ X _ _ k => XS.ifnullNo X.here hx rfl (hb hby hd) rfl k) k
theorem Wk.ifnonnullT {o : Int} {b : Addr} (hd : decode bytes pc = .ok (.ifnonnull o, 3)) (ho : 0 ≤ (pc : Int) + o) (hp : ((pc : Int) + o).toNat = q) (k : Wk l Z n0 own nm bytes maxL ret R kc ks Q h cl sl q ls st) : Wk l Z n0 own nm bytes maxL ret R kc ks Q h cl sl pc ls (.ref b :: st) :=
  Wk.step (fun hx hby _ _ X _ _ k => XT.ifnonnullYes X.here hx rfl rfl (hb hby hd) rfl ho hp k) k
theorem Wk.ifnonnullF {o : Int} (hd : decode bytes pc = .ok (.ifnonnull o, 3)) (hq : pc + 3 = q) (k : Wk l Z n0 own nm bytes maxL ret R kc ks Q h cl sl q ls st) : Wk l Z n0 own nm bytes maxL ret R kc ks Q h cl sl pc ls (.null :: st) := by
  subst hq; exact Wk.step (fun hx hby _ _ X _ _ k => XT.ifnonnullNo X.here hx rfl (hb hby hd) rfl k) k
theorem Wk.tsw {dflt low high : Int} {offs : Array Int} {len : Nat} {o : Int} {i : Int32} (hd : decode bytes pc = .ok (.tableswitch dflt low high offs, len)) (hin : ¬ (i.toInt < low ∨ i.toInt > high)) (hoff : offs[(i.toInt - low).toNat]? = some o) (ho : 0 ≤ (pc : Int) + o) (hp : ((pc : Int) + o).toNat = q) (k : Wk l Z n0 own nm bytes maxL ret R kc ks Q h cl sl q ls st) : Wk l Z n0 own nm bytes maxL ret R kc ks Q h cl sl pc ls (.int i :: st) :=
  Wk.step (fun hx hby _ _ X _ _ k => XS.tswIn X.here hx rfl rfl (hb hby hd) rfl hin hoff ho hp k) k
theorem Wk.getS {O n d R0 : String} {i : Nat} {v : Value} (w : (Jvm.Cond.fieldLink own i R0 n d).before a0 Z = true) (via : Via Z R0 O n d) (F : Sta Z h O n d v) (hd : decode bytes pc = .ok (.getstatic i, 3)) (hq : pc + 3 = q) (k : Wk l Z n0 own nm bytes maxL ret R kc ks Q h cl sl q ls (v :: st)) : Wk l Z n0 own nm bytes maxL ret R kc ks Q h cl sl pc ls st := by
  subst hq; exact Wk.stepW (fun hx hby hown hZ X eT => RoadKit.getS (host := "") X hx hZ hown w via eT F (g := mkF _ pc ls st) rfl (hb hby hd)) k
theorem Wk.getF {O n d R0 : String} {i : Nat} {a : Addr} {v : Value} (w : (Jvm.Cond.fieldLink own i R0 n d).before a0 Z = true) (via : Via Z R0 O n d) (F : Fld Z h a O n d v) (hd : decode bytes pc = .ok (.getfield i, 3)) (hq : pc + 3 = q) (k : Wk l Z n0 own nm bytes maxL ret R kc ks Q h cl sl q ls (v :: st)) : Wk l Z n0 own nm bytes maxL ret R kc ks Q h cl sl pc ls (.ref a :: st) := by
  subst hq; exact Wk.stepW (fun hx hby hown hZ X eT => RoadKit.getF (host := "") X hx hZ hown (Or.inl w) via eT F (g := mkF _ pc ls (.ref a :: st)) rfl rfl (hb hby hd)) k
theorem Wk.alen {a : Addr} {c0 : Cell} {ty : FieldType} {v : Int32} (A : Arr Z h a c0 ty) (hv : c0.slots.size.toInt32 = v) (hd : decode bytes pc = .ok (.arraylength, 1)) (hq : pc + 1 = q) (k : Wk l Z n0 own nm bytes maxL ret R kc ks Q h cl sl q ls (.int v :: st)) : Wk l Z n0 own nm bytes maxL ret R kc ks Q h cl sl pc ls (.ref a :: st) := by
  subst hq hv; exact Wk.step (fun hx hby _ hZ X eT t k => X.arraylength hx (by rw [eT]; exact A.1) (State.isArrayOf_alike hZ.alike A.2.1) (g := mkF _ pc ls (.ref a :: st)) rfl rfl (hb hby hd) t k) k
theorem Wk.aaload {a : Addr} {c0 : Cell} {ty : FieldType} {j : Int32} {v : Value} (A : Arr Z h a c0 ty) (hty : ty.isReference = true) (hin : ¬ (j < 0 ∨ c0.slots.size ≤ j.toNatClampNeg)) (hv : c0.slots[j.toNatClampNeg]? = some v) (hd : decode bytes pc = .ok (.aaload, 1)) (hq : pc + 1 = q) (k : Wk l Z n0 own nm bytes maxL ret R kc ks Q h cl sl q ls (v :: st)) : Wk l Z n0 own nm bytes maxL ret R kc ks Q h cl sl pc ls (.int j :: .ref a :: st) := by
  subst hq; exact Wk.step (fun hx hby _ hZ X eT t k => X.aaload hx (by rw [eT]; exact A.1) (State.isArrayOf_alike hZ.alike A.2.1) hty A.2.2 hin hv (g := mkF _ pc ls (.int j :: .ref a :: st)) rfl rfl (hb hby hd) t k) k
theorem Wk.baloadB {a : Addr} {c0 : Cell} {j : Int32} {v : Value} (A : Arr Z h a c0 .byte) (hin : ¬ (j < 0 ∨ c0.slots.size ≤ j.toNatClampNeg)) (hv : c0.slots[j.toNatClampNeg]? = some v) (hd : decode bytes pc = .ok (.baload, 1)) (hq : pc + 1 = q) (k : Wk l Z n0 own nm bytes maxL ret R kc ks Q h cl sl q ls (v :: st)) : Wk l Z n0 own nm bytes maxL ret R kc ks Q h cl sl pc ls (.int j :: .ref a :: st) := by
  subst hq; exact Wk.step (fun hx hby _ hZ X eT t k => X.baloadBytes hx (by rw [eT]; exact A.1) (State.isArrayOf_alike hZ.alike A.2.1) A.2.2 hin hv (g := mkF _ pc ls (.int j :: .ref a :: st)) rfl rfl (hb hby hd) t k) k
theorem Wk.baloadZ {a : Addr} {c0 : Cell} {j : Int32} {v : Value} (A : Arr Z h a c0 .boolean) (hin : ¬ (j < 0 ∨ c0.slots.size ≤ j.toNatClampNeg)) (hv : c0.slots[j.toNatClampNeg]? = some v) (hd : decode bytes pc = .ok (.baload, 1)) (hq : pc + 1 = q) (k : Wk l Z n0 own nm bytes maxL ret R kc ks Q h cl sl q ls (v :: st)) : Wk l Z n0 own nm bytes maxL ret R kc ks Q h cl sl pc ls (.int j :: .ref a :: st) := by
  subst hq; exact Wk.step (fun hx hby _ hZ X eT t k => X.baloadBooleans hx (by rw [eT]; exact A.1) (State.isArrayOf_alike hZ.alike A.2.1) A.2.2 hin hv (g := mkF _ pc ls (.int j :: .ref a :: st)) rfl rfl (hb hby hd) t k) k
theorem Wk.retG {w : Value} {t : FieldType} {i : Instr} (hret : ret = some t) (hn : narrow t w = w)
    (hi : (i = .ireturn ∧ (t = .int ∨ t = .boolean ∨ t = .byte ∨ t = .char ∨ t = .short) ∧ ∃ z, w = .int z) ∨ (i = .lreturn ∧ t = .long ∧ ∃ z, w = .long z) ∨ (i = .dreturn ∧ t = .double ∧ ∃ z, w = .double z) ∨ (i = .freturn ∧ t = .float ∧ ∃ z, w = .float z) ∨ (i = .areturn ∧ t.isReference = true ∧ w.isRef = true))
    (hd : decode bytes pc = .ok (i, 1)) (hc : cl ≤ kc) (hs : sl ≤ ks) (hQ : Q (some w) h) : Wk l Z n0 own nm bytes maxL ret R kc ks Q h cl sl pc ls (w :: st) := by
  intro p e s m args below meth c T locs hx hby hml hown hnm hr hlk hZ X eT N
  obtain ⟨fs, hr', hrun, hended, hW, hsame⟩ := X.leave (v := some w) (fun q => by rw [hr, hret] at q; cases q) hlk
  exact ⟨_, _, RoadKit.retOut X hx (hr.trans hret) hn hi (hb hby hd) hr', hrun, hended, _, _, rfl, ⟨N, by show Q _ T.heap; rw [eT]; exact hQ⟩, ⟨_, rfl⟩, hW, hsame.mono hc hs⟩
theorem Wk.retI {z : Int32} (hret : ret = some .int) (hd : decode bytes pc = .ok (.ireturn, 1)) (hc : cl ≤ kc) (hs : sl ≤ ks) (hQ : Q (some (.int z)) h) : Wk l Z n0 own nm bytes maxL ret R kc ks Q h cl sl pc ls (.int z :: st) :=
  Wk.retG hret rfl (Or.inl ⟨rfl, Or.inl rfl, z, rfl⟩) hd hc hs hQ
theorem Wk.retZ {z : Int32} (hret : ret = some .boolean) (hz : narrow .boolean (.int z) = .int z) (hd : decode bytes pc = .ok (.ireturn, 1)) (hc : cl ≤ kc) (hs : sl ≤ ks) (hQ : Q (some (.int z)) h) : Wk l Z n0 own nm bytes maxL ret R kc ks Q h cl sl pc ls (.int z :: st) :=
  Wk.retG hret hz (Or.inl ⟨rfl, Or.inr (Or.inl rfl), z, rfl⟩) hd hc hs hQ
theorem Wk.retB {z : Int32} (hret : ret = some .byte) (hz : narrow .byte (.int z) = .int z) (hd : decode bytes pc = .ok (.ireturn, 1)) (hc : cl ≤ kc) (hs : sl ≤ ks) (hQ : Q (some (.int z)) h) : Wk l Z n0 own nm bytes maxL ret R kc ks Q h cl sl pc ls (.int z :: st) :=
  Wk.retG hret hz (Or.inl ⟨rfl, Or.inr (Or.inr (Or.inl rfl)), z, rfl⟩) hd hc hs hQ
theorem Wk.retL {z : Int64} (hret : ret = some .long) (hd : decode bytes pc = .ok (.lreturn, 1)) (hc : cl ≤ kc) (hs : sl ≤ ks) (hQ : Q (some (.long z)) h) : Wk l Z n0 own nm bytes maxL ret R kc ks Q h cl sl pc ls (.long z :: st) :=
  Wk.retG hret rfl (Or.inr (Or.inl ⟨rfl, rfl, z, rfl⟩)) hd hc hs hQ
theorem own_narR {t : FieldType} {w : Value} (h1 : t.isReference = true) (h2 : w.isRef = true) : narrow t w = w := by
  cases t <;> cases w <;> first | rfl | (simp [FieldType.isReference] at h1; done) | (simp [Value.isRef] at h2; done)
theorem Wk.retA {w : Value} {t : FieldType} (hret : ret = some t) (ht : t.isReference = true) (hw : w.isRef = true) (hd : decode bytes pc = .ok (.areturn, 1)) (hc : cl ≤ kc) (hs : sl ≤ ks) (hQ : Q (some w) h) : Wk l Z n0 own nm bytes maxL ret R kc ks Q h cl sl pc ls (w :: st) :=
  Wk.retG hret (own_narR ht hw) (Or.inr (Or.inr (Or.inr (Or.inr ⟨rfl, ht, hw⟩)))) hd hc hs hQ
theorem Wk.retV (hret : ret = none) (hd : decode bytes pc = .ok (.return_, 1)) (hc : cl ≤ kc) (hs : sl ≤ ks) (hQ : Q none h) : Wk l Z n0 own nm bytes maxL ret R kc ks Q h cl sl pc ls [] := by
  intro p e s m args below meth c T locs hx hby hml hown hnm hr hlk hZ X eT N
  obtain ⟨fs, hr', hrun, hended, hW, hsame⟩ := X.leave (v := none) (fun _ => rfl) hlk
  exact ⟨_, _, X.returnOut hx (hr.trans hret) (hb hby hd) hr', hrun, hended, _, _, rfl, ⟨N, by show Q _ T.heap; rw [eT]; exact hQ⟩, ⟨_, rfl⟩, hW, hsame.mono hc hs⟩
theorem Wk.callS {i : Nat} {y : MethodName} {by' : ByteArray} {mL : Nat} {rt : Option FieldType} {rm : Room} {argsL rest : List Value} {Q' : Value → Heap → Prop} {ps : List FieldType} {r' : Option FieldType}
    (hM : Met l Z n0 y by' mL rt rm argsL.toArray h (fun v h' => ∃ w, v = some w ∧ Q' w h'))
    (w1 : (Jvm.Cond.methodLink own i y).before a0 Z = true) (w2 : (Jvm.Cond.static y).before a0 Z = true) (w3 : (Jvm.Cond.initialized y.cls).before a0 Z = true) (w4 : (Jvm.Cond.code y by' mL rt).before a0 Z = true) (hy : y.cls ≠ "java/lang/invoke/MethodHandle" ∧ y.cls ≠ "java/lang/invoke/VarHandle")
    (hds : parseMethodDescriptor y.desc = some ⟨ps, r'⟩) (hln : argsL.length = ps.length) (hst : st = argsL.reverse ++ rest) (hls : ls.size = maxL) (hd : decode bytes pc = .ok (.invokestatic i, 3)) (hq : pc + 3 = q)
    {W : Nat} (hW : (rest.map fun v => v.category).sum = W) (hf : rm.frames + 1 ≤ R.frames) (hlo : W + (mL + 11) + rm.locals ≤ R.locals) (hce : cl + rm.cells ≤ R.cells) (hsl : sl + rm.slots ≤ R.slots)
    (k : ∀ w h', Q' w h' → Wk l Z n0 own nm bytes maxL ret R kc ks Q h' (cl + rm.cells) (sl + rm.slots) q ls (w :: rest)) : Wk l Z n0 own nm bytes maxL ret R kc ks Q h cl sl pc ls st := by
  subst hq hst hW
  intro p e s m args below meth c T locs hx hby hml hown hnm hr hlk hZ X eT N
  obtain ⟨v, _, ⟨T', L', k', n'⟩, -, X', ⟨Lc, ⟨N', hQ⟩, l', y', z'⟩, stp⟩ := Jvm.LawKit.callS X hx (y := y) hown (mvT hZ w1) (mvT hZ w2) (mvT hZ w3) (mvT hZ w4) hy (backOf (W := (rest.map fun v => v.category).sum) (Q := fun v h' L => Fr n0 L ∧ (fun v h' => ∃ w, v = some w ∧ Q' w h') v h') (hM []) hZ w4 w3 hf hlo) (g := mkF m pc ls (argsL.reverse ++ rest)) rfl (by rw [hml]; exact hls) (argsL := argsL) (rest := rest) (lenOf hds hln) rfl (by show 2 * 0 + _ ≤ _; omega) (hb hby hd) (fun _ _ => ⟨rfl, eT, hce, hsl⟩)
  dsimp only [Pt.U, Pt.locs, Pt.cells, Pt.slots] at X' l' y' z' stp hQ
  subst l' y' z'
  obtain ⟨w, rfl, hQ⟩ := hQ
  obtain ⟨s₂, o, h1, r⟩ := k w T'.heap hQ p e s m args below meth c T' _ hx hby hml hown hnm hr hlk hZ X' rfl (Fr.app N N')
  exact ⟨s₂, o, stp _ h1, r⟩
theorem Wk.callS1 {i : Nat} {y : MethodName} {by' : ByteArray} {mL : Nat} {rt : Option FieldType} {fr lo : Nat} {argsL rest : List Value} {v0 : Value} {ps : List FieldType} {r' : Option FieldType}
    (hM : Met l Z n0 y by' mL rt ⟨fr, 0, 0, lo⟩ argsL.toArray h (fun v h' => v = some v0 ∧ h' = h))
    (w1 : (Jvm.Cond.methodLink own i y).before a0 Z = true) (w2 : (Jvm.Cond.static y).before a0 Z = true) (w3 : (Jvm.Cond.initialized y.cls).before a0 Z = true) (w4 : (Jvm.Cond.code y by' mL rt).before a0 Z = true) (hy : y.cls ≠ "java/lang/invoke/MethodHandle" ∧ y.cls ≠ "java/lang/invoke/VarHandle")
    (hds : parseMethodDescriptor y.desc = some ⟨ps, r'⟩) (hln : argsL.length = ps.length) (hst : st = argsL.reverse ++ rest) (hls : ls.size = maxL) (hd : decode bytes pc = .ok (.invokestatic i, 3)) (hq : pc + 3 = q)
    {W : Nat} (hW : (rest.map fun v => v.category).sum = W) (hf : fr + 1 ≤ R.frames) (hlo : W + (mL + 11) + lo ≤ R.locals) (hce : cl ≤ R.cells) (hsl : sl ≤ R.slots)
    (k : Wk l Z n0 own nm bytes maxL ret R kc ks Q h cl sl q ls (v0 :: rest)) : Wk l Z n0 own nm bytes maxL ret R kc ks Q h cl sl pc ls st :=
  Wk.callS (Q' := fun w h' => w = v0 ∧ h' = h) (rm := ⟨fr, 0, 0, lo⟩) (hM.mono fun v h' z => ⟨v0, z.1, rfl, z.2⟩) w1 w2 w3 w4 hy hds hln hst hls hd hq hW hf hlo hce hsl (fun w h' z => by obtain ⟨rfl, rfl⟩ := z; exact k)
theorem Wk.callS0 {i : Nat} {y : MethodName} {by' : ByteArray} {mL : Nat} {rt : Option FieldType} {rm : Room} {argsL rest : List Value} {Q' : Heap → Prop} {ps : List FieldType} {r' : Option FieldType}
    (hM : Met l Z n0 y by' mL rt rm argsL.toArray h (fun v h' => v = none ∧ Q' h'))
    (w1 : (Jvm.Cond.methodLink own i y).before a0 Z = true) (w2 : (Jvm.Cond.static y).before a0 Z = true) (w3 : (Jvm.Cond.initialized y.cls).before a0 Z = true) (w4 : (Jvm.Cond.code y by' mL rt).before a0 Z = true) (hy : y.cls ≠ "java/lang/invoke/MethodHandle" ∧ y.cls ≠ "java/lang/invoke/VarHandle")
    (hds : parseMethodDescriptor y.desc = some ⟨ps, r'⟩) (hln : argsL.length = ps.length) (hst : st = argsL.reverse ++ rest) (hls : ls.size = maxL) (hd : decode bytes pc = .ok (.invokestatic i, 3)) (hq : pc + 3 = q)
    {W : Nat} (hW : (rest.map fun v => v.category).sum = W) (hf : rm.frames + 1 ≤ R.frames) (hlo : W + (mL + 11) + rm.locals ≤ R.locals) (hce : cl + rm.cells ≤ R.cells) (hsl : sl + rm.slots ≤ R.slots)
    (k : ∀ h', Q' h' → Wk l Z n0 own nm bytes maxL ret R kc ks Q h' (cl + rm.cells) (sl + rm.slots) q ls rest) : Wk l Z n0 own nm bytes maxL ret R kc ks Q h cl sl pc ls st := by
  subst hq hst hW
  intro p e s m args below meth c T locs hx hby hml hown hnm hr hlk hZ X eT N
  obtain ⟨v, _, ⟨T', L', k', n'⟩, -, X', ⟨Lc, ⟨N', hQ⟩, l', y', z'⟩, stp⟩ := Jvm.LawKit.callS X hx (y := y) hown (mvT hZ w1) (mvT hZ w2) (mvT hZ w3) (mvT hZ w4) hy (backOf (W := (rest.map fun v => v.category).sum) (Q := fun v h' L => Fr n0 L ∧ (fun v h' => v = none ∧ Q' h') v h') (hM []) hZ w4 w3 hf hlo) (g := mkF m pc ls (argsL.reverse ++ rest)) rfl (by rw [hml]; exact hls) (argsL := argsL) (rest := rest) (lenOf hds hln) rfl (by show 2 * 0 + _ ≤ _; omega) (hb hby hd) (fun _ _ => ⟨rfl, eT, hce, hsl⟩)
  dsimp only [Pt.U, Pt.locs, Pt.cells, Pt.slots] at X' l' y' z' stp hQ
  subst l' y' z'
  obtain ⟨rfl, hQ⟩ := hQ
  obtain ⟨s₂, o, h1, r⟩ := k T'.heap hQ p e s m args below meth c T' _ hx hby hml hown hnm hr hlk hZ X' rfl (Fr.app N N')
  exact ⟨s₂, o, stp _ h1, r⟩
theorem Wk.callV {i : Nat} {C : String} {y : MethodName} {by' : ByteArray} {mL : Nat} {rt : Option FieldType} {rm : Room} {a : Addr} {argsL rest : List Value} {Q' : Value → Heap → Prop} {ps : List FieldType} {r' : Option FieldType}
    (hM : Met l Z n0 y by' mL rt rm (.ref a :: argsL).toArray h (fun v h' => ∃ w, v = some w ∧ Q' w h')) (E : Exa Z h a C)
    (w1 : (Jvm.Cond.methodLink own i y).before a0 Z = true) (w2 : (Jvm.Cond.declares y).before a0 Z = true) (w3 : (Jvm.Cond.selects C y y).before a0 Z = true) (w4 : (Jvm.Cond.instanceMethod y).before a0 Z = true) (w5 : (Jvm.Cond.code y by' mL rt).before a0 Z = true) (w6 : (Jvm.Cond.initialized y.cls).before a0 Z = true) (hy : y.cls ≠ "java/lang/invoke/MethodHandle" ∧ y.cls ≠ "java/lang/invoke/VarHandle")
    (hds : parseMethodDescriptor y.desc = some ⟨ps, r'⟩) (hln : argsL.length = ps.length) (hst : st = argsL.reverse ++ .ref a :: rest) (hls : ls.size = maxL) (hd : decode bytes pc = .ok (.invokevirtual i, 3)) (hq : pc + 3 = q)
    {W : Nat} (hW : (rest.map fun v => v.category).sum = W) (hf : rm.frames + 1 ≤ R.frames) (hlo : W + (mL + 11) + rm.locals ≤ R.locals) (hce : cl + rm.cells ≤ R.cells) (hsl : sl + rm.slots ≤ R.slots)
    (k : ∀ w h', Q' w h' → Wk l Z n0 own nm bytes maxL ret R kc ks Q h' (cl + rm.cells) (sl + rm.slots) q ls (w :: rest)) : Wk l Z n0 own nm bytes maxL ret R kc ks Q h cl sl pc ls st := by
  subst hq hst hW
  intro p e s m args below meth c T locs hx hby hml hown hnm hr hlk hZ X eT N
  obtain ⟨cq, kq, q1, q2, q3⟩ := isOf hZ eT E
  obtain ⟨v, _, ⟨T', L', k', n'⟩, -, X', ⟨Lc, ⟨N', hQ⟩, l', y', z'⟩, stp⟩ := X.virtualBack hx (y := y) (z := y) hown (mvT hZ w1) (mvT hZ w2) (notFace_of_selects (args := #[]) (mvT hZ w3)) (mvT hZ w3) (mvT hZ w4) hy (backOf (W := (rest.map fun v => v.category).sum) (Q := fun v h' L => Fr n0 L ∧ (fun v h' => ∃ w, v = some w ∧ Q' w h') v h') (hM []) hZ w5 w6 hf hlo) q1 q3 (g := mkF m pc ls (argsL.reverse ++ .ref a :: rest)) rfl (by rw [hml]; exact hls) (Steps.refl _) (argsL := argsL) (rest := rest) (lenOf hds hln) rfl (by show 2 * 0 + _ ≤ _; omega) (hb hby hd) (fun _ _ => ⟨rfl, eT, hce, hsl⟩)
  dsimp only [Pt.U, Pt.locs, Pt.cells, Pt.slots] at X' l' y' z' stp hQ
  subst l' y' z'
  obtain ⟨w, rfl, hQ⟩ := hQ
  obtain ⟨s₂, o, h1, r⟩ := k w T'.heap hQ p e s m args below meth c T' _ hx hby hml hown hnm hr hlk hZ X' rfl (Fr.app N N')
  exact ⟨s₂, o, stp.trans h1, r⟩
theorem Wk.callV1 {i : Nat} {C : String} {y : MethodName} {by' : ByteArray} {mL : Nat} {rt : Option FieldType} {fr lo : Nat} {a : Addr} {argsL rest : List Value} {v0 : Value} {ps : List FieldType} {r' : Option FieldType}
    (hM : Met l Z n0 y by' mL rt ⟨fr, 0, 0, lo⟩ (.ref a :: argsL).toArray h (fun v h' => v = some v0 ∧ h' = h)) (E : Exa Z h a C)
    (w1 : (Jvm.Cond.methodLink own i y).before a0 Z = true) (w2 : (Jvm.Cond.declares y).before a0 Z = true) (w3 : (Jvm.Cond.selects C y y).before a0 Z = true) (w4 : (Jvm.Cond.instanceMethod y).before a0 Z = true) (w5 : (Jvm.Cond.code y by' mL rt).before a0 Z = true) (w6 : (Jvm.Cond.initialized y.cls).before a0 Z = true) (hy : y.cls ≠ "java/lang/invoke/MethodHandle" ∧ y.cls ≠ "java/lang/invoke/VarHandle")
    (hds : parseMethodDescriptor y.desc = some ⟨ps, r'⟩) (hln : argsL.length = ps.length) (hst : st = argsL.reverse ++ .ref a :: rest) (hls : ls.size = maxL) (hd : decode bytes pc = .ok (.invokevirtual i, 3)) (hq : pc + 3 = q)
    {W : Nat} (hW : (rest.map fun v => v.category).sum = W) (hf : fr + 1 ≤ R.frames) (hlo : W + (mL + 11) + lo ≤ R.locals) (hce : cl ≤ R.cells) (hsl : sl ≤ R.slots)
    (k : Wk l Z n0 own nm bytes maxL ret R kc ks Q h cl sl q ls (v0 :: rest)) : Wk l Z n0 own nm bytes maxL ret R kc ks Q h cl sl pc ls st :=
  Wk.callV (Q' := fun w h' => w = v0 ∧ h' = h) (rm := ⟨fr, 0, 0, lo⟩) (hM.mono fun v h' z => ⟨v0, z.1, rfl, z.2⟩) E w1 w2 w3 w4 w5 w6 hy hds hln hst hls hd hq hW hf hlo hce hsl (fun w h' z => by obtain ⟨rfl, rfl⟩ := z; exact k)
theorem Wk.callV0 {i : Nat} {C : String} {y : MethodName} {by' : ByteArray} {mL : Nat} {rt : Option FieldType} {rm : Room} {a : Addr} {argsL rest : List Value} {Q' : Heap → Prop} {ps : List FieldType} {r' : Option FieldType}
    (hM : Met l Z n0 y by' mL rt rm (.ref a :: argsL).toArray h (fun v h' => v = none ∧ Q' h')) (E : Exa Z h a C)
    (w1 : (Jvm.Cond.methodLink own i y).before a0 Z = true) (w2 : (Jvm.Cond.declares y).before a0 Z = true) (w3 : (Jvm.Cond.selects C y y).before a0 Z = true) (w4 : (Jvm.Cond.instanceMethod y).before a0 Z = true) (w5 : (Jvm.Cond.code y by' mL rt).before a0 Z = true) (w6 : (Jvm.Cond.initialized y.cls).before a0 Z = true) (hy : y.cls ≠ "java/lang/invoke/MethodHandle" ∧ y.cls ≠ "java/lang/invoke/VarHandle")
    (hds : parseMethodDescriptor y.desc = some ⟨ps, r'⟩) (hln : argsL.length = ps.length) (hst : st = argsL.reverse ++ .ref a :: rest) (hls : ls.size = maxL) (hd : decode bytes pc = .ok (.invokevirtual i, 3)) (hq : pc + 3 = q)
    {W : Nat} (hW : (rest.map fun v => v.category).sum = W) (hf : rm.frames + 1 ≤ R.frames) (hlo : W + (mL + 11) + rm.locals ≤ R.locals) (hce : cl + rm.cells ≤ R.cells) (hsl : sl + rm.slots ≤ R.slots)
    (k : ∀ h', Q' h' → Wk l Z n0 own nm bytes maxL ret R kc ks Q h' (cl + rm.cells) (sl + rm.slots) q ls rest) : Wk l Z n0 own nm bytes maxL ret R kc ks Q h cl sl pc ls st := by
  subst hq hst hW
  intro p e s m args below meth c T locs hx hby hml hown hnm hr hlk hZ X eT N
  obtain ⟨cq, kq, q1, q2, q3⟩ := isOf hZ eT E
  obtain ⟨v, _, ⟨T', L', k', n'⟩, -, X', ⟨Lc, ⟨N', hQ⟩, l', y', z'⟩, stp⟩ := X.virtualBack hx (y := y) (z := y) hown (mvT hZ w1) (mvT hZ w2) (notFace_of_selects (args := #[]) (mvT hZ w3)) (mvT hZ w3) (mvT hZ w4) hy (backOf (W := (rest.map fun v => v.category).sum) (Q := fun v h' L => Fr n0 L ∧ (fun v h' => v = none ∧ Q' h') v h') (hM []) hZ w5 w6 hf hlo) q1 q3 (g := mkF m pc ls (argsL.reverse ++ .ref a :: rest)) rfl (by rw [hml]; exact hls) (Steps.refl _) (argsL := argsL) (rest := rest) (lenOf hds hln) rfl (by show 2 * 0 + _ ≤ _; omega) (hb hby hd) (fun _ _ => ⟨rfl, eT, hce, hsl⟩)
  dsimp only [Pt.U, Pt.locs, Pt.cells, Pt.slots] at X' l' y' z' stp hQ
  subst l' y' z'
  obtain ⟨rfl, hQ⟩ := hQ
  obtain ⟨s₂, o, h1, r⟩ := k T'.heap hQ p e s m args below meth c T' _ hx hby hml hown hnm hr hlk hZ X' rfl (Fr.app N N')
  exact ⟨s₂, o, stp.trans h1, r⟩
theorem Wk.callU {i : Nat} {C owner : String} {y z : MethodName} {by' : ByteArray} {mL : Nat} {rt : Option FieldType} {rm : Room} {a : Addr} {argsL rest : List Value} {Q' : Value → Heap → Prop} {ps : List FieldType} {r' : Option FieldType}
    (hM : Met l Z n0 z by' mL rt rm (.ref a :: argsL).toArray h (fun v h' => ∃ w, v = some w ∧ Q' w h')) (E : Exa Z h a C)
    (w1 : (Jvm.Cond.methodLink own i y).before a0 Z = true) (w2 : (Jvm.Cond.sameMethod y.cls owner y.name y.desc).before a0 Z = true) (w3 : (Jvm.Cond.declares ⟨owner, y.name, y.desc⟩).before a0 Z = true) (w4 : (Jvm.Cond.selects C y z).before a0 Z = true) (w5 : (Jvm.Cond.instanceMethod z).before a0 Z = true) (w6 : (Jvm.Cond.code z by' mL rt).before a0 Z = true) (w7 : (Jvm.Cond.initialized z.cls).before a0 Z = true) (hy : owner ≠ "java/lang/invoke/MethodHandle" ∧ owner ≠ "java/lang/invoke/VarHandle")
    (hds : parseMethodDescriptor y.desc = some ⟨ps, r'⟩) (hln : argsL.length = ps.length) (hst : st = argsL.reverse ++ .ref a :: rest) (hls : ls.size = maxL) (hd : decode bytes pc = .ok (.invokevirtual i, 3)) (hq : pc + 3 = q)
    {W : Nat} (hW : (rest.map fun v => v.category).sum = W) (hf : rm.frames + 1 ≤ R.frames) (hlo : W + (mL + 11) + rm.locals ≤ R.locals) (hce : cl + rm.cells ≤ R.cells) (hsl : sl + rm.slots ≤ R.slots)
    (k : ∀ w h', Q' w h' → Wk l Z n0 own nm bytes maxL ret R kc ks Q h' (cl + rm.cells) (sl + rm.slots) q ls (w :: rest)) : Wk l Z n0 own nm bytes maxL ret R kc ks Q h cl sl pc ls st := by
  subst hq hst hW
  intro p e s m args below meth c T locs hx hby hml hown hnm hr hlk hZ X eT N
  obtain ⟨cq, kq, q1, q2, q3⟩ := isOf hZ eT E
  obtain ⟨v, _, ⟨T', L', k', n'⟩, -, X', ⟨Lc, ⟨N', hQ⟩, l', y', z'⟩, stp⟩ := X.virtualBackUp hx (x := y) (y := z) (owner := owner) hown (mvT hZ w1) (mvT hZ w2) (mvT hZ w3) hy (mvT hZ w4) (mvT hZ w5) (backOf (W := (rest.map fun v => v.category).sum) (Q := fun v h' L => Fr n0 L ∧ (fun v h' => ∃ w, v = some w ∧ Q' w h') v h') (hM []) hZ w6 w7 hf hlo) q1 q3 (g := mkF m pc ls (argsL.reverse ++ .ref a :: rest)) rfl (by rw [hml]; exact hls) (Steps.refl _) (argsL := argsL) (rest := rest) (lenOf hds hln) rfl (by show 2 * 0 + _ ≤ _; omega) (hb hby hd) (fun _ _ => ⟨rfl, eT, hce, hsl⟩)
  dsimp only [Pt.U, Pt.locs, Pt.cells, Pt.slots] at X' l' y' z' stp hQ
  subst l' y' z'
  obtain ⟨w, rfl, hQ⟩ := hQ
  obtain ⟨s₂, o, h1, r⟩ := k w T'.heap hQ p e s m args below meth c T' _ hx hby hml hown hnm hr hlk hZ X' rfl (Fr.app N N')
  exact ⟨s₂, o, stp.trans h1, r⟩
theorem Wk.callU1 {i : Nat} {C owner : String} {y z : MethodName} {by' : ByteArray} {mL : Nat} {rt : Option FieldType} {fr lo : Nat} {a : Addr} {argsL rest : List Value} {v0 : Value} {ps : List FieldType} {r' : Option FieldType}
    (hM : Met l Z n0 z by' mL rt ⟨fr, 0, 0, lo⟩ (.ref a :: argsL).toArray h (fun v h' => v = some v0 ∧ h' = h)) (E : Exa Z h a C)
    (w1 : (Jvm.Cond.methodLink own i y).before a0 Z = true) (w2 : (Jvm.Cond.sameMethod y.cls owner y.name y.desc).before a0 Z = true) (w3 : (Jvm.Cond.declares ⟨owner, y.name, y.desc⟩).before a0 Z = true) (w4 : (Jvm.Cond.selects C y z).before a0 Z = true) (w5 : (Jvm.Cond.instanceMethod z).before a0 Z = true) (w6 : (Jvm.Cond.code z by' mL rt).before a0 Z = true) (w7 : (Jvm.Cond.initialized z.cls).before a0 Z = true) (hy : owner ≠ "java/lang/invoke/MethodHandle" ∧ owner ≠ "java/lang/invoke/VarHandle")
    (hds : parseMethodDescriptor y.desc = some ⟨ps, r'⟩) (hln : argsL.length = ps.length) (hst : st = argsL.reverse ++ .ref a :: rest) (hls : ls.size = maxL) (hd : decode bytes pc = .ok (.invokevirtual i, 3)) (hq : pc + 3 = q)
    {W : Nat} (hW : (rest.map fun v => v.category).sum = W) (hf : fr + 1 ≤ R.frames) (hlo : W + (mL + 11) + lo ≤ R.locals) (hce : cl ≤ R.cells) (hsl : sl ≤ R.slots)
    (k : Wk l Z n0 own nm bytes maxL ret R kc ks Q h cl sl q ls (v0 :: rest)) : Wk l Z n0 own nm bytes maxL ret R kc ks Q h cl sl pc ls st :=
  Wk.callU (Q' := fun w h' => w = v0 ∧ h' = h) (rm := ⟨fr, 0, 0, lo⟩) (hM.mono fun v h' z => ⟨v0, z.1, rfl, z.2⟩) E w1 w2 w3 w4 w5 w6 w7 hy hds hln hst hls hd hq hW hf hlo hce hsl (fun w h' z => by obtain ⟨rfl, rfl⟩ := z; exact k)
theorem Wk.callS2 {i : Nat} {y : MethodName} {by' : ByteArray} {mL : Nat} {rt : Option FieldType} {fr lo : Nat} {argsL rest : List Value} {P : Value → Prop} {ps : List FieldType} {r' : Option FieldType}
    (hM : Met l Z n0 y by' mL rt ⟨fr, 0, 0, lo⟩ argsL.toArray h (fun v h' => (∃ w, v = some w ∧ P w) ∧ h' = h))
    (w1 : (Jvm.Cond.methodLink own i y).before a0 Z = true) (w2 : (Jvm.Cond.static y).before a0 Z = true) (w3 : (Jvm.Cond.initialized y.cls).before a0 Z = true) (w4 : (Jvm.Cond.code y by' mL rt).before a0 Z = true) (hy : y.cls ≠ "java/lang/invoke/MethodHandle" ∧ y.cls ≠ "java/lang/invoke/VarHandle")
    (hds : parseMethodDescriptor y.desc = some ⟨ps, r'⟩) (hln : argsL.length = ps.length) (hst : st = argsL.reverse ++ rest) (hls : ls.size = maxL) (hd : decode bytes pc = .ok (.invokestatic i, 3)) (hq : pc + 3 = q)
    {W : Nat} (hW : (rest.map fun v => v.category).sum = W) (hf : fr + 1 ≤ R.frames) (hlo : W + (mL + 11) + lo ≤ R.locals) (hce : cl ≤ R.cells) (hsl : sl ≤ R.slots)
    (k : ∀ w, P w → Wk l Z n0 own nm bytes maxL ret R kc ks Q h cl sl q ls (w :: rest)) : Wk l Z n0 own nm bytes maxL ret R kc ks Q h cl sl pc ls st :=
  Wk.callS (Q' := fun w h' => P w ∧ h' = h) (rm := ⟨fr, 0, 0, lo⟩) (hM.mono fun v h' z => by obtain ⟨⟨w, e, p⟩, q⟩ := z; exact ⟨w, e, p, q⟩) w1 w2 w3 w4 hy hds hln hst hls hd hq hW hf hlo hce hsl (fun w h' z => by obtain ⟨z1, rfl⟩ := z; exact k w z1)
theorem Wk.callV2 {i : Nat} {C : String} {y : MethodName} {a : Addr} {by' : ByteArray} {mL : Nat} {rt : Option FieldType} {fr lo : Nat} {argsL rest : List Value} {P : Value → Prop} {ps : List FieldType} {r' : Option FieldType}
    (hM : Met l Z n0 y by' mL rt ⟨fr, 0, 0, lo⟩ (.ref a :: argsL).toArray h (fun v h' => (∃ w, v = some w ∧ P w) ∧ h' = h)) (E : Exa Z h a C)
    (w1 : (Jvm.Cond.methodLink own i y).before a0 Z = true) (w2 : (Jvm.Cond.declares y).before a0 Z = true) (w3 : (Jvm.Cond.selects C y y).before a0 Z = true) (w4 : (Jvm.Cond.instanceMethod y).before a0 Z = true) (w5 : (Jvm.Cond.code y by' mL rt).before a0 Z = true) (w6 : (Jvm.Cond.initialized y.cls).before a0 Z = true) (hy : y.cls ≠ "java/lang/invoke/MethodHandle" ∧ y.cls ≠ "java/lang/invoke/VarHandle")
    (hds : parseMethodDescriptor y.desc = some ⟨ps, r'⟩) (hln : argsL.length = ps.length) (hst : st = argsL.reverse ++ .ref a :: rest) (hls : ls.size = maxL) (hd : decode bytes pc = .ok (.invokevirtual i, 3)) (hq : pc + 3 = q)
    {W : Nat} (hW : (rest.map fun v => v.category).sum = W) (hf : fr + 1 ≤ R.frames) (hlo : W + (mL + 11) + lo ≤ R.locals) (hce : cl ≤ R.cells) (hsl : sl ≤ R.slots)
    (k : ∀ w, P w → Wk l Z n0 own nm bytes maxL ret R kc ks Q h cl sl q ls (w :: rest)) : Wk l Z n0 own nm bytes maxL ret R kc ks Q h cl sl pc ls st :=
  Wk.callV (Q' := fun w h' => P w ∧ h' = h) (rm := ⟨fr, 0, 0, lo⟩) (hM.mono fun v h' z => by obtain ⟨⟨w, e, p⟩, q⟩ := z; exact ⟨w, e, p, q⟩) E w1 w2 w3 w4 w5 w6 hy hds hln hst hls hd hq hW hf hlo hce hsl (fun w h' z => by obtain ⟨z1, rfl⟩ := z; exact k w z1)
/-! the case's words -/
theorem own_exa {args : Array Value} {C n d K : String} (hx : (Jvm.Cond.exactly (.static C n d) K).value args Z none Z [] = some true) (wi : (Jvm.Cond.initialized C).before args Z = true) (wl : (Jvm.Cond.laysStatic C n d).before args Z = true) :
    ∃ a, (Term.static C n d).eval args Z none [] Z = some (.ref a) ∧ Sta Z Z.heap C n d (.ref a) ∧ Exa Z Z.heap a K := by
  obtain ⟨a, ev⟩ := exa_v hx
  exact ⟨a, ev, Sta.start ev (Or.inr ⟨wi, wl⟩), Exa.start ev hx⟩
theorem own_arr {args : Array Value} {C n d : String} {ty : FieldType} (hx : (Jvm.Cond.arrayOf (.static C n d) ty).value args Z none Z [] = some true) (wi : (Jvm.Cond.initialized C).before args Z = true) (wl : (Jvm.Cond.laysStatic C n d).before args Z = true) :
    ∃ a c, (Term.static C n d).eval args Z none [] Z = some (.ref a) ∧ Sta Z Z.heap C n d (.ref a) ∧ Arr Z Z.heap a c ty := by
  obtain ⟨a, ev⟩ := arr_v hx
  obtain ⟨c, A⟩ := Arr.start ev hx
  exact ⟨a, c, ev, Sta.start ev (Or.inr ⟨wi, wl⟩), A⟩
theorem own_eqi {args : Array Value} {t u : Term} {y : Int32} {idx : List Nat} (h : (Jvm.Cond.eq t u).value args Z none Z idx = some true) (hu : u.eval args Z none idx Z = some (.int y)) : t.eval args Z none idx Z = some (.int y) := by
  obtain ⟨x, y', h1, h2, k1, k2⟩ := cmp_v (Or.inl h)
  cases hu.symm.trans h2
  obtain ⟨z, rfl⟩ := k2
  have e : z = y := by simpa [Cond.value, h1, hu] using h
  rw [h1, e]
theorem own_eqr {args : Array Value} {t u : Term} {y : Addr} {idx : List Nat} (h : (Jvm.Cond.eq t u).value args Z none Z idx = some true) (hu : u.eval args Z none idx Z = some (.ref y)) : t.eval args Z none idx Z = some (.ref y) := by
  obtain ⟨x, y', h1, h2, k1, k2⟩ := cmp_v (Or.inl h)
  cases hu.symm.trans h2
  have e := gotT (eq_R h1 hu k2.2 rfl) h
  rw [h1, e]
theorem own_fld {args : Array Value} {t : Term} {O f d : String} {a : Addr} {v : Value} (ev : t.eval args Z none [] Z = some (.ref a)) (e : (Term.field t O f d).eval args Z none [] Z = some v) : Fld Z Z.heap a O f d v :=
  Fld.start ((fld_at ev).symm.trans e)
theorem own_len {args : Array Value} {t : Term} {a : Addr} {c : Cell} {ty : FieldType} {n : Int32} {k : Nat} (ev : t.eval args Z none [] Z = some (.ref a)) (A : Arr Z Z.heap a c ty) (e : (Term.length t).eval args Z none [] Z = some (.int n)) (hk : n.toInt = (k : Int)) : c.slots.size = k := by
  have hA : Z.arrayAt? a = some c := A.fin (Vm.Alike.refl _)
  have hs : c.slots.size < 2 ^ 31 := by
    by_cases q : c.slots.size < 2 ^ 31
    · exact q
    · simp [Term.eval, ev, hA, q] at e
  have e2 := (len_f ev hA hs).symm.trans e
  have e3 : c.slots.size.toInt32 = n := by injection e2 with e2; injection e2
  have e4 := len_toInt hs
  rw [e3, hk] at e4
  exact (Int.ofNat.inj e4).symm
theorem own_elem {args : Array Value} {t : Term} {a : Addr} {c : Cell} {ty : FieldType} {i : Int32} {v : Value} {idx : List Nat} (ev : t.eval args Z none idx Z = some (.ref a)) (A : Arr Z Z.heap a c ty) (e : (Term.elem t (.int i)).eval args Z none idx Z = some v) : c.slots[i.toNatClampNeg]? = some v :=
  (elem_in e ev (Term.int_eval i) A.1).2
theorem own_all {args : Array Value} {C n d : String} {c : Jvm.Cond} {a : Addr} {cl : Cell} {ty : FieldType} (ev : (Term.static C n d).eval args Z none [] Z = some (.ref a)) (A : Arr Z Z.heap a cl ty) (h : (Jvm.Cond.all (.static C n d) c).value args Z none Z [] = some true) (k : Nat) (hk : k < cl.slots.size) : c.value args Z none Z [k] = some true :=
  Cond.all_elim ev (A.fin (Vm.Alike.refl _)) h k hk
theorem own_tk {args : Array Value} {C n d : String} {a : Addr} {cl : Cell} {ty : FieldType} {v : Int32} {k : Nat} (ev : (Term.static C n d).eval args Z none [] Z = some (.ref a)) (A : Arr Z Z.heap a cl ty) (hk : k < 256) (h : (Jvm.Cond.eq (.elem (.static C n d) (.index 0)) (.int v)).value args Z none Z [k] = some true) : cl.slots[k]? = some (.int v) := by
  have ev' : (Term.static C n d).eval args Z none [k] Z = some (.ref a) := ev
  have e := (elem_in (own_eqi h (Term.int_eval v)) ev' (Term.index_eval k) A.1).2
  have q : k.toInt32.toNatClampNeg = k := by simp only [Int32.toNatClampNeg, len_toInt (show k < 2 ^ 31 by omega)]; rfl
  rwa [q] at e
theorem own_or {args : Array Value} {G X : Jvm.Cond} {P : Prop} [Decidable P] {idx : List Nat} (h : (Jvm.Cond.or G X).value args Z none Z idx = some true) (hG : G.value args Z none Z idx = some (decide P)) (np : ¬ P) : X.value args Z none Z idx = some true := by
  rwa [Cond.or_of_right (by rw [hG]; simp [np])] at h
theorem own_kle {a : Int32} {k m : Nat} (ha : a.toInt = (m : Int)) (hk : k < 256) : a ≤ k.toInt32 ↔ m ≤ k := by
  rw [Int32.le_iff_toInt_le, ha, len_toInt (show k < 2 ^ 31 by omega)]; omega
theorem own_klt {a : Int32} {k m : Nat} (ha : a.toInt = (m : Int)) (hk : k < 256) : k.toInt32 < a ↔ k < m := by
  rw [Int32.lt_iff_toInt_lt, ha, len_toInt (show k < 2 ^ 31 by omega)]; omega
theorem own_neR {a b : Addr} (h : a ≠ b) : ¬ (Value.ref a) = (Value.ref b) := fun e => h (Value.ref.inj e)
theorem own_neN {a : Addr} : ¬ (Value.ref a) = Value.null := fun e => nomatch e
theorem own_nNe {a : Addr} : ¬ Value.null = (Value.ref a) := fun e => nomatch e
/-- (x & 0x7fffffff) % n lies from 0 to n - 1 -/
theorem own_mod (x n : Int32) (hn : 0 < n.toInt) : 0 ≤ ((x &&& 2147483647) % n).toInt ∧ ((x &&& 2147483647) % n).toInt < n.toInt := by
  have h1 := c_and x 2147483647 (by decide)
  rw [Int32.toInt_mod]
  have h2 := Int.tmod_nonneg n.toInt h1.1
  have h3 := Int.tmod_lt_of_pos (x &&& 2147483647).toInt hn
  exact ⟨h2, h3⟩
theorem own_cl_lt (x y : Int64) : XT.cmpL x y < 0 ↔ x < y := by unfold XT.cmpL; split <;> (try split) <;> simp_all [Int64.lt_iff_toInt_lt, ← Int64.toInt_inj] <;> omega
theorem own_cl_gt (x y : Int64) : 0 < XT.cmpL x y ↔ y < x := by unfold XT.cmpL; split <;> (try split) <;> simp_all [Int64.lt_iff_toInt_lt, ← Int64.toInt_inj] <;> omega
theorem own_cl_eq (x y : Int64) : XT.cmpL x y = 0 ↔ x = y := by unfold XT.cmpL; split <;> (try split) <;> simp_all [Int64.lt_iff_toInt_lt, ← Int64.toInt_inj] <;> omega
theorem own_i32 {x y : Int32} (e : x.toInt = y.toInt) : x = y := Int32.toInt_inj.mp e
end Own
section Own2
variable {l : Launch} {Z : State} {a0 : Array Value} {n0 : Nat} {own nm : String} {bytes : ByteArray} {maxL : Nat} {ret : Option FieldType} {R : Room} {kc ks : Nat} {Q : Option Value → Heap → Prop} {h : Heap} {cl sl pc q : Nat} {ls ls' : Array Slot} {st st' rest : List Value}
theorem own_hit {h' : Heap} {a : Addr} {sl n j : Nat} {v : Value} {c : Cell} (W : Wr h h' a sl v) (S : c.slots.size = n) (hj : sl = j) (hl : j < n) : (c.setSlot sl v).slots[j]? = some v := by
  subst hj S; simp [Cell.setSlot, hl]
theorem own_miss {h' : Heap} {a : Addr} {sl j : Nat} {v w : Value} {c : Cell} (W : Wr h h' a sl v) (hj : sl ≠ j) (e : c.slots[j]? = some w) : (c.setSlot sl v).slots[j]? = some w := by
  rw [← e]; exact Array.getElem?_setIfInBounds_ne hj
theorem own_szs {h' : Heap} {a : Addr} {sl n : Nat} {v : Value} {c : Cell} (W : Wr h h' a sl v) (S : c.slots.size = n) : (c.setSlot sl v).slots.size = n := (sz_set _ _ _).trans S
theorem own_ge (O : Old Z n0 h) : n0 ≤ h.size := by have := O.1; have := O.2.1; omega
theorem Wk.new {i n : Nat} {C : String} (w : (Jvm.Cond.classLink own i C).before a0 Z = true) (wi : (Jvm.Cond.instantiable C n).before a0 Z = true) (wz : (Jvm.Cond.initialized C).before a0 Z = true) (hd : decode bytes pc = .ok (.new i, 3)) (hq : pc + 3 = q) (hc : cl + 1 ≤ R.cells) (hl : sl + n ≤ R.slots)
    (k : ∀ h' a, a = h.size → Ext h h' → Exa Z h' a C → (∀ {O f d : String} {ty : FieldType}, Laid Z a0 C O f d → parseFieldDescriptor d = some ty → Fld Z h' a O f d (defaultValue ty)) → Wk l Z n0 own nm bytes maxL ret R kc ks Q h' (cl + 1) (sl + n) q ls (.ref a :: st)) : Wk l Z n0 own nm bytes maxL ret R kc ks Q h cl sl pc ls st := by
  subst hq
  intro p e s m args below meth c T locs hx hby hml hown hnm hr hlk hZ X eT N
  obtain ⟨T', h', X', e', E, A, D, -, stp⟩ := newO X hx hZ hown w wi wz eT (g := mkF m pc ls st) rfl (hb hby hd) hc hl
  obtain ⟨s₂, o, h1, r⟩ := k h' _ rfl E A D p e s m args below meth c T' _ hx hby hml hown hnm hr hlk hZ X' e' N
  exact ⟨s₂, o, stp _ h1, r⟩
theorem Wk.putF {O f d C R0 : String} {i kk : Nat} {ty : FieldType} {a : Addr} {v old : Value} (w : (Jvm.Cond.fieldLink own i R0 f d).before a0 Z = true) (via : Via Z R0 O f d) (F : Fld Z h a O f d old) (E : Exa Z h a C) (L : (Jvm.Cond.lays C O f d).before a0 Z = true ∨ ((Jvm.Cond.laysFinal C O f d).before a0 Z = true ∧ own = O ∧ nm = "<init>")) (wi : (Jvm.Cond.instantiable C kk).before a0 Z = true)
    (hty : parseFieldDescriptor d = some ty) (hn : narrow ty v = v) (hf : fits ty v = true) (hd : decode bytes pc = .ok (.putfield i, 3)) (hq : pc + 3 = q) (ha : n0 ≤ a)
    (k : ∀ h', Wr h h' a (RoadKit.slotOf Z O f d) v → Wk l Z n0 own nm bytes maxL ret R kc ks Q h' cl sl q ls st) : Wk l Z n0 own nm bytes maxL ret R kc ks Q h cl sl pc ls (v :: .ref a :: st) := by
  subst hq
  intro p e s m args below meth c T locs hx hby hml hown hnm hr hlk hZ X eT N
  obtain ⟨T', h', X', e', W', stp⟩ := RoadKit.putF X hx hZ hown (host := "") (Or.inl w) via eT F E (L.imp id fun z => ⟨z.1, z.2.1, hnm.trans z.2.2⟩) wi hty hn hf (g := mkF m pc ls (v :: .ref a :: st)) rfl rfl (hb hby hd)
  obtain ⟨s₂, o, h1, r⟩ := k h' W' p e s m args below meth c T' _ hx hby hml hown hnm hr hlk hZ X' e' (Fr.snoc X' N ha)
  exact ⟨s₂, o, stp _ h1, r⟩
theorem Wk.initO {i : Nat} {a : Addr} {W : Nat} (w1 : (Jvm.Cond.methodLink own i Lib.objectInit).before a0 Z = true) (w2 : (Jvm.Cond.instanceMethod Lib.objectInit).before a0 Z = true) (w3 : (Jvm.Cond.code Lib.objectInit ⟨#[0xb1]⟩ 1 none).before a0 Z = true) (hd : decode bytes pc = .ok (.invokespecial i, 3)) (hq : pc + 3 = q) (hls : ls.size = maxL) (hf : 1 ≤ R.frames) (hW : (st.map fun v => v.category).sum = W) (hl : W + 12 ≤ R.locals)
    (k : Wk l Z n0 own nm bytes maxL ret R kc ks Q h cl sl q ls st) : Wk l Z n0 own nm bytes maxL ret R kc ks Q h cl sl pc ls (.ref a :: st) := by
  subst hq hW
  intro p e s m args below meth c T locs hx hby hml hown hnm hr hlk hZ X eT N
  obtain ⟨T', X', e', stp⟩ := RoadKit.initO X hx hZ hown w1 w2 w3 eT (g := mkF m pc ls (.ref a :: st)) rfl (by rw [hml]; exact hls) rfl (hb hby hd) hf (W := (st.map fun v => v.category).sum) (by show 2 * 0 + _ ≤ _; omega) hl
  obtain ⟨s₂, o, h1, r⟩ := k p e s m args below meth c T' _ hx hby hml hown hnm hr hlk hZ X' e' N
  exact ⟨s₂, o, stp _ h1, r⟩
theorem Wk.special {i : Nat} {y : MethodName} {by' : ByteArray} {mL : Nat} {rm : Room} {a : Addr} {argsL rest : List Value} {Q' : Heap → Prop} {ps : List FieldType} {r' : Option FieldType}
    (hM : Met l Z n0 y by' mL none rm (.ref a :: argsL).toArray h (fun v h' => v = none ∧ Q' h'))
    (hy1 : y.name = "<init>") (w1 : (Jvm.Cond.methodLink own i y).before a0 Z = true) (w2 : (Jvm.Cond.instanceMethod y).before a0 Z = true) (w3 : (Jvm.Cond.code y by' mL none).before a0 Z = true) (w4 : (Jvm.Cond.initialized y.cls).before a0 Z = true) (hy : y.cls ≠ "java/lang/invoke/MethodHandle" ∧ y.cls ≠ "java/lang/invoke/VarHandle")
    (hds : parseMethodDescriptor y.desc = some ⟨ps, r'⟩) (hln : argsL.length = ps.length) (hst : st = argsL.reverse ++ .ref a :: rest) (hls : ls.size = maxL) (hd : decode bytes pc = .ok (.invokespecial i, 3)) (hq : pc + 3 = q)
    {W : Nat} (hW : (rest.map fun v => v.category).sum = W) (hf : rm.frames + 1 ≤ R.frames) (hlo : W + (mL + 11) + rm.locals ≤ R.locals) (hce : cl + rm.cells ≤ R.cells) (hsl : sl + rm.slots ≤ R.slots)
    (k : ∀ h', Q' h' → Wk l Z n0 own nm bytes maxL ret R kc ks Q h' (cl + rm.cells) (sl + rm.slots) q ls rest) : Wk l Z n0 own nm bytes maxL ret R kc ks Q h cl sl pc ls st := by
  subst hq hst hW
  intro p e s m args below meth c T locs hx hby hml hown hnm hr hlk hZ X eT N
  obtain ⟨v, _, ⟨T', L', k', n'⟩, -, X', ⟨Lc, ⟨N', hQ⟩, l', y', z'⟩, stp⟩ := X.specialBack hx (y := y) hy1 hown (mvT hZ w1) (mvT hZ w2) (mvT hZ w3) hy (backOf (W := (rest.map fun v => v.category).sum) (Q := fun v h' L => Fr n0 L ∧ (fun v h' => v = none ∧ Q' h') v h') (hM []) hZ w3 w4 hf hlo) (g := mkF m pc ls (argsL.reverse ++ .ref a :: rest)) rfl (by rw [hml]; exact hls) (Steps.refl _) (a := a) (argsL := argsL) (rest := rest) (lenOf hds hln) rfl (by show 2 * 0 + _ ≤ _; omega) (hb hby hd) (fun _ _ => ⟨rfl, eT, hce, hsl⟩)
  dsimp only [Pt.U, Pt.locs, Pt.cells, Pt.slots] at X' l' y' z' stp hQ
  subst l' y' z'
  obtain ⟨rfl, hQ⟩ := hQ
  obtain ⟨s₂, o, h1, r⟩ := k T'.heap hQ p e s m args below meth c T' _ hx hby hml hown hnm hr hlk hZ X' rfl (Fr.app N N')
  exact ⟨s₂, o, stp.trans h1, r⟩
theorem Wk.newP {aty : ArrayType} {n : Int32} (w : (Jvm.Cond.arrayClass (newarray.typeOf aty)).before a0 Z = true) (hd : decode bytes pc = .ok (.newarray aty, 2)) (hq : pc + 2 = q) (hn : ¬ n < 0) {cap : Nat} (hcap : n.toNatClampNeg ≤ cap) (hb8 : cap * 8 ≤ 536870912) (hc : cl + 1 ≤ R.cells) (hl : sl + cap ≤ R.slots)
    (k : ∀ h' a cA, a = h.size → Ext h h' → Arr Z h' a (newA cA (newarray.typeOf aty) n) (newarray.typeOf aty) → Wk l Z n0 own nm bytes maxL ret R kc ks Q h' (cl + 1) (sl + cap) q ls (.ref a :: st)) : Wk l Z n0 own nm bytes maxL ret R kc ks Q h cl sl pc ls (.int n :: st) := by
  subst hq
  intro p e s m args below meth c T locs hx hby hml hown hnm hr hlk hZ X eT N
  obtain ⟨T', h', cA, X', e', E, A, stp⟩ := RoadKit.newP X hx hZ w eT (g := mkF m pc ls (.int n :: st)) rfl (hb hby hd) rfl hn hcap hb8 hc hl
  obtain ⟨s₂, o, h1, r⟩ := k h' _ cA rfl E A p e s m args below meth c T' _ hx hby hml hown hnm hr hlk hZ X' e' N
  exact ⟨s₂, o, stp _ h1, r⟩
theorem Wk.newR {i : Nat} {C : String} {n : Int32} (w1 : (Jvm.Cond.classLink own i C).before a0 Z = true) (w2 : (Jvm.Cond.arrayOver (.object C)).before a0 Z = true) (hd : decode bytes pc = .ok (.anewarray i, 3)) (hq : pc + 3 = q) (hn : ¬ n < 0) {cap : Nat} (hcap : n.toNatClampNeg ≤ cap) (hb8 : cap * 8 ≤ 536870912) (hc : cl + 1 ≤ R.cells) (hl : sl + cap ≤ R.slots)
    (k : ∀ h' a cA, a = h.size → Ext h h' → Arr Z h' a (newA cA (.object C) n) (.object C) → Ovr Z cA C → Wk l Z n0 own nm bytes maxL ret R kc ks Q h' (cl + 1) (sl + cap) q ls (.ref a :: st)) : Wk l Z n0 own nm bytes maxL ret R kc ks Q h cl sl pc ls (.int n :: st) := by
  subst hq
  intro p e s m args below meth c T locs hx hby hml hown hnm hr hlk hZ X eT N
  obtain ⟨T', h', cA, X', e', E, A, -, O, stp⟩ := RoadKit.newRE X hx hZ hown w1 w2 eT (g := mkF m pc ls (.int n :: st)) rfl (hb hby hd) rfl hn hcap hb8 hc hl rfl
  obtain ⟨s₂, o, h1, r⟩ := k h' _ cA rfl E A O p e s m args below meth c T' _ hx hby hml hown hnm hr hlk hZ X' e' N
  exact ⟨s₂, o, stp _ h1, r⟩
theorem Wk.stB {a : Addr} {c0 : Cell} {j x v : Int32} (A : Arr Z h a c0 .byte) (hj : ¬ (j < 0 ∨ c0.slots.size ≤ j.toNatClampNeg)) (hv : nar .byte x = v) (hd : decode bytes pc = .ok (.bastore, 1)) (hq : pc + 1 = q) (ha : n0 ≤ a)
    (k : ∀ h', Wr h h' a j.toNatClampNeg (.int v) → Wk l Z n0 own nm bytes maxL ret R kc ks Q h' cl sl q ls st) : Wk l Z n0 own nm bytes maxL ret R kc ks Q h cl sl pc ls (.int x :: .int j :: .ref a :: st) := by
  subst hq hv
  intro p e s m args below meth c T locs hx hby hml hown hnm hr hlk hZ X eT N
  obtain ⟨T', h', X', e', W', stp⟩ := RoadKit.stB X hx hZ eT A hj (g := mkF m pc ls (.int x :: .int j :: .ref a :: st)) rfl rfl (hb hby hd)
  obtain ⟨s₂, o, h1, r⟩ := k h' W' p e s m args below meth c T' _ hx hby hml hown hnm hr hlk hZ X' e' (Fr.snoc X' N ha)
  exact ⟨s₂, o, stp _ h1, r⟩
theorem Wk.stR {a : Addr} {c0 : Cell} {ty : FieldType} {j : Int32} {v : Value} (A : Arr Z h a c0 ty) (hj : ¬ (j < 0 ∨ c0.slots.size ≤ j.toNatClampNeg)) (hty : ty.isReference = true) (F : Sto Z h a v) (hv : v.isRef = true) (hd : decode bytes pc = .ok (.aastore, 1)) (hq : pc + 1 = q) (ha : n0 ≤ a)
    (k : ∀ h', Wr h h' a j.toNatClampNeg v → Wk l Z n0 own nm bytes maxL ret R kc ks Q h' cl sl q ls st) : Wk l Z n0 own nm bytes maxL ret R kc ks Q h cl sl pc ls (v :: .int j :: .ref a :: st) := by
  subst hq
  intro p e s m args below meth c T locs hx hby hml hown hnm hr hlk hZ X eT N
  obtain ⟨T', h', X', e', W', stp⟩ := RoadKit.stR X hx hZ eT A hj hty F (g := mkF m pc ls (v :: .int j :: .ref a :: st)) rfl rfl (hb hby hd)
  obtain ⟨s₂, o, h1, r⟩ := k h' W' p e s m args below meth c T' _ hx hby hml hown hnm hr hlk hZ X' e' (Fr.snoc X' N ha)
  exact ⟨s₂, o, stp _ h1, r⟩
theorem Wk.castY {i : Nat} {K : String} {a : Addr} (w : (Jvm.Cond.classLink own i K).before a0 Z = true) (F : Ins Z h a K true) (hd : decode bytes pc = .ok (.checkcast i, 3)) (hq : pc + 3 = q) (k : Wk l Z n0 own nm bytes maxL ret R kc ks Q h cl sl q ls (.ref a :: st)) : Wk l Z n0 own nm bytes maxL ret R kc ks Q h cl sl pc ls (.ref a :: st) := by
  subst hq; exact Wk.stepW (fun hx hby hown hZ X eT => RoadKit.castY X hx hZ hown w eT F (g := mkF _ pc ls (.ref a :: st)) rfl rfl (hb hby hd)) k
theorem Wk.instNull {i : Nat} (hd : decode bytes pc = .ok (.instanceof i, 3)) (hq : pc + 3 = q) (k : Wk l Z n0 own nm bytes maxL ret R kc ks Q h cl sl q ls (.int 0 :: st)) : Wk l Z n0 own nm bytes maxL ret R kc ks Q h cl sl pc ls (.null :: st) := by
  subst hq; exact Wk.step (fun hx hby _ _ X _ t k => X.instanceofNull hx (g := mkF _ pc ls (.null :: st)) rfl rfl (hb hby hd) t k) k
theorem own_nsroot {O K : String} {n : Nat} (w : (Jvm.Cond.noSuperclass O).before a0 Z = true) (wi : (Jvm.Cond.instantiable K n).before a0 Z = true) (hn : O ≠ K) : NS Z O K := by
  obtain ⟨c, k, h1, h2, h3, -, -⟩ := Cond.noSuperclass_spec w
  obtain ⟨t, kt, g1, -⟩ := Cond.instantiable_spec wi
  have ne := ids_ne h1 g1 hn
  exact ⟨c, t, h1, g1, fun fuel => by cases fuel <;> simp [Vm.isSubclassAux, ne, h2, h3]⟩
theorem own_nsno {C S K : String} {n : Nat} (w : (Jvm.Cond.superclass C S).before a0 Z = true) (wi : (Jvm.Cond.instantiable K n).before a0 Z = true) (m : NS Z C K) (hn : C ≠ K) : ∃ c t, Z.vm.findClass C = some c ∧ Z.vm.findClass K = some t ∧ Z.vm.assignable c t = false := by
  obtain ⟨c, t, h0, g0, n3⟩ := m
  obtain ⟨p, k, kp, h1, h2, h3, h4, h5, -, h7⟩ := Cond.superclass_spec h0 w
  obtain ⟨t', kt, g1, g2, g3, g4, -⟩ := Cond.instantiable_spec wi
  cases g0.symm.trans g1
  have ne := ids_ne h0 g0 hn
  have g5 : kt.isInterface = false := by cases hi : kt.isInterface <;> simp [hi] at g4 ⊢
  refine ⟨c, t, h0, g0, ?_⟩
  show Z.vm.assignableAux (255 + 1) c t = false
  simp [Vm.assignableAux, ne, h2, g2, h5, g3, g5, Vm.isSubclass, n3]
theorem Wk.instY {i : Nat} {K : String} {a : Addr} (w : (Jvm.Cond.classLink own i K).before a0 Z = true) (F : Ins Z h a K true) (hd : decode bytes pc = .ok (.instanceof i, 3)) (hq : pc + 3 = q) (k : Wk l Z n0 own nm bytes maxL ret R kc ks Q h cl sl q ls (.int 1 :: st)) : Wk l Z n0 own nm bytes maxL ret R kc ks Q h cl sl pc ls (.ref a :: st) := by
  subst hq; exact Wk.stepW (fun hx hby hown hZ X eT => RoadKit.instY X hx hZ hown w eT F (g := mkF _ pc ls (.ref a :: st)) rfl rfl (hb hby hd)) k
theorem Wk.instNo {i : Nat} {K C : String} {a : Addr} (w : (Jvm.Cond.classLink own i K).before a0 Z = true) (E : Exa Z h a C) (F : ∃ c t, Z.vm.findClass C = some c ∧ Z.vm.findClass K = some t ∧ Z.vm.assignable c t = false) (hd : decode bytes pc = .ok (.instanceof i, 3)) (hq : pc + 3 = q) (k : Wk l Z n0 own nm bytes maxL ret R kc ks Q h cl sl q ls (.int 0 :: st)) : Wk l Z n0 own nm bytes maxL ret R kc ks Q h cl sl pc ls (.ref a :: st) := by
  subst hq; exact Wk.stepW (fun hx hby hown hZ X eT => RoadKit.instNo X hx hZ hown w eT E F (g := mkF _ pc ls (.ref a :: st)) rfl rfl (hb hby hd)) k
end Own2

theorem w_0 {a0 : Array Value} {Z : State} (hw : ∀ d ∈ tables_1, d.before a0 Z = true) : (Jvm.Cond.classLink "com/example/saltwire/saltwire/protocol/ApiVersionRangeEqualsPinLaw" (7 : Nat) "com/example/saltwire/saltwire/protocol/ApiVersionRange").before a0 Z = true := hw _ (List.mem_of_getElem? (i := 0) rfl)
theorem w_1 {a0 : Array Value} {Z : State} (hw : ∀ d ∈ tables_1, d.before a0 Z = true) : (Jvm.Cond.instantiable "com/example/saltwire/saltwire/protocol/ApiVersionRange" (3 : Nat)).before a0 Z = true := hw _ (List.mem_of_getElem? (i := 1) rfl)
theorem w_2 {a0 : Array Value} {Z : State} (hw : ∀ d ∈ tables_1, d.before a0 Z = true) : (Jvm.Cond.initialized "com/example/saltwire/saltwire/protocol/ApiVersionRange").before a0 Z = true := hw _ (List.mem_of_getElem? (i := 2) rfl)
theorem w_3 {a0 : Array Value} {Z : State} (hw : ∀ d ∈ tables_1, d.before a0 Z = true) : (Jvm.Cond.methodLink "com/example/saltwire/saltwire/protocol/ApiVersionRangeEqualsPinLaw" (9 : Nat) ({ cls := "com/example/saltwire/saltwire/protocol/ApiVersionRange", name := "<init>", desc := "(SSS)V" } : Jvm.MethodName)).before a0 Z = true := hw _ (List.mem_of_getElem? (i := 3) rfl)
theorem w_4 {a0 : Array Value} {Z : State} (hw : ∀ d ∈ tables_1, d.before a0 Z = true) : (Jvm.Cond.instanceMethod ({ cls := "com/example/saltwire/saltwire/protocol/ApiVersionRange", name := "<init>", desc := "(SSS)V" } : Jvm.MethodName)).before a0 Z = true := hw _ (List.mem_of_getElem? (i := 4) rfl)
theorem w_5 {a0 : Array Value} {Z : State} (hw : ∀ d ∈ tables_1, d.before a0 Z = true) : (Jvm.Cond.code ({ cls := "com/example/saltwire/saltwire/protocol/ApiVersionRange", name := "<init>", desc := "(SSS)V" } : Jvm.MethodName) prog_63_method_1_code (4 : Nat) (Option.none : Option Jvm.ClassFile.FieldType)).before a0 Z = true := hw _ (List.mem_of_getElem? (i := 5) rfl)
theorem w_6 {a0 : Array Value} {Z : State} (hw : ∀ d ∈ tables_1, d.before a0 Z = true) : (Jvm.Cond.methodLink "com/example/saltwire/saltwire/protocol/ApiVersionRange" (1 : Nat) ({ cls := "java/lang/Object", name := "<init>", desc := "()V" } : Jvm.MethodName)).before a0 Z = true := hw _ (List.mem_of_getElem? (i := 6) rfl)
theorem w_7 {a0 : Array Value} {Z : State} (hw : ∀ d ∈ tables_1, d.before a0 Z = true) : (Jvm.Cond.instanceMethod ({ cls := "java/lang/Object", name := "<init>", desc := "()V" } : Jvm.MethodName)).before a0 Z = true := hw _ (List.mem_of_getElem? (i := 7) rfl)
theorem w_8 {a0 : Array Value} {Z : State} (hw : ∀ d ∈ tables_1, d.before a0 Z = true) : (Jvm.Cond.code ({ cls := "java/lang/Object", name := "<init>", desc := "()V" } : Jvm.MethodName) object_method_1_code (1 : Nat) (Option.none : Option Jvm.ClassFile.FieldType)).before a0 Z = true := hw _ (List.mem_of_getElem? (i := 8) rfl)
theorem w_9 {a0 : Array Value} {Z : State} (hw : ∀ d ∈ tables_1, d.before a0 Z = true) : (Jvm.Cond.fieldLink "com/example/saltwire/saltwire/protocol/ApiVersionRange" (7 : Nat) "com/example/saltwire/saltwire/protocol/ApiVersionRange" "apiKey" "S").before a0 Z = true := hw _ (List.mem_of_getElem? (i := 9) rfl)
theorem w_10 {a0 : Array Value} {Z : State} (hw : ∀ d ∈ tables_1, d.before a0 Z = true) : (Jvm.Cond.laysFinal "com/example/saltwire/saltwire/protocol/ApiVersionRange" "com/example/saltwire/saltwire/protocol/ApiVersionRange" "apiKey" "S").before a0 Z = true := hw _ (List.mem_of_getElem? (i := 10) rfl)
theorem w_11 {a0 : Array Value} {Z : State} (hw : ∀ d ∈ tables_1, d.before a0 Z = true) : (Jvm.Cond.fieldLink "com/example/saltwire/saltwire/protocol/ApiVersionRange" (13 : Nat) "com/example/saltwire/saltwire/protocol/ApiVersionRange" "minVersion" "S").before a0 Z = true := hw _ (List.mem_of_getElem? (i := 11) rfl)
theorem w_12 {a0 : Array Value} {Z : State} (hw : ∀ d ∈ tables_1, d.before a0 Z = true) : (Jvm.Cond.laysFinal "com/example/saltwire/saltwire/protocol/ApiVersionRange" "com/example/saltwire/saltwire/protocol/ApiVersionRange" "minVersion" "S").before a0 Z = true := hw _ (List.mem_of_getElem? (i := 12) rfl)
theorem w_13 {a0 : Array Value} {Z : State} (hw : ∀ d ∈ tables_1, d.before a0 Z = true) : (Jvm.Cond.fieldLink "com/example/saltwire/saltwire/protocol/ApiVersionRange" (16 : Nat) "com/example/saltwire/saltwire/protocol/ApiVersionRange" "maxVersion" "S").before a0 Z = true := hw _ (List.mem_of_getElem? (i := 13) rfl)
theorem w_14 {a0 : Array Value} {Z : State} (hw : ∀ d ∈ tables_1, d.before a0 Z = true) : (Jvm.Cond.laysFinal "com/example/saltwire/saltwire/protocol/ApiVersionRange" "com/example/saltwire/saltwire/protocol/ApiVersionRange" "maxVersion" "S").before a0 Z = true := hw _ (List.mem_of_getElem? (i := 14) rfl)
theorem w_15 {a0 : Array Value} {Z : State} (hw : ∀ d ∈ tables_1, d.before a0 Z = true) : (Jvm.Cond.methodLink "com/example/saltwire/saltwire/protocol/ApiVersionRangeEqualsPinLaw" (12 : Nat) ({ cls := "com/example/saltwire/saltwire/protocol/ApiVersionRange", name := "equals", desc := "(Ljava/lang/Object;)Z" } : Jvm.MethodName)).before a0 Z = true := hw _ (List.mem_of_getElem? (i := 15) rfl)
theorem w_16 {a0 : Array Value} {Z : State} (hw : ∀ d ∈ tables_1, d.before a0 Z = true) : (Jvm.Cond.declares ({ cls := "com/example/saltwire/saltwire/protocol/ApiVersionRange", name := "equals", desc := "(Ljava/lang/Object;)Z" } : Jvm.MethodName)).before a0 Z = true := hw _ (List.mem_of_getElem? (i := 16) rfl)
theorem w_17 {a0 : Array Value} {Z : State} (hw : ∀ d ∈ tables_1, d.before a0 Z = true) : (Jvm.Cond.instanceMethod ({ cls := "com/example/saltwire/saltwire/protocol/ApiVersionRange", name := "equals", desc := "(Ljava/lang/Object;)Z" } : Jvm.MethodName)).before a0 Z = true := hw _ (List.mem_of_getElem? (i := 17) rfl)
theorem w_18 {a0 : Array Value} {Z : State} (hw : ∀ d ∈ tables_1, d.before a0 Z = true) : (Jvm.Cond.selects "com/example/saltwire/saltwire/protocol/ApiVersionRange" ({ cls := "com/example/saltwire/saltwire/protocol/ApiVersionRange", name := "equals", desc := "(Ljava/lang/Object;)Z" } : Jvm.MethodName) ({ cls := "com/example/saltwire/saltwire/protocol/ApiVersionRange", name := "equals", desc := "(Ljava/lang/Object;)Z" } : Jvm.MethodName)).before a0 Z = true := hw _ (List.mem_of_getElem? (i := 18) rfl)
theorem w_19 {a0 : Array Value} {Z : State} (hw : ∀ d ∈ tables_1, d.before a0 Z = true) : (Jvm.Cond.code ({ cls := "com/example/saltwire/saltwire/protocol/ApiVersionRange", name := "equals", desc := "(Ljava/lang/Object;)Z" } : Jvm.MethodName) prog_63_method_5_code (3 : Nat) (Option.some Jvm.ClassFile.FieldType.boolean)).before a0 Z = true := hw _ (List.mem_of_getElem? (i := 19) rfl)
theorem w_20 {a0 : Array Value} {Z : State} (hw : ∀ d ∈ tables_1, d.before a0 Z = true) : (Jvm.Cond.classLink "com/example/saltwire/saltwire/protocol/ApiVersionRange" (8 : Nat) "com/example/saltwire/saltwire/protocol/ApiVersionRange").before a0 Z = true := hw _ (List.mem_of_getElem? (i := 20) rfl)
theorem w_21 {a0 : Array Value} {Z : State} (hw : ∀ d ∈ tables_1, d.before a0 Z = true) : (Jvm.Cond.castable "com/example/saltwire/saltwire/protocol/ApiVersionRange" "com/example/saltwire/saltwire/protocol/ApiVersionRange").before a0 Z = true := hw _ (List.mem_of_getElem? (i := 21) rfl)
theorem w_22 {a0 : Array Value} {Z : State} (hw : ∀ d ∈ tables_1, d.before a0 Z = true) : (Jvm.Cond.methodLink "com/example/saltwire/saltwire/protocol/ApiVersionRangeEqualsPinLaw" (16 : Nat) ({ cls := "java/lang/Integer", name := "valueOf", desc := "(I)Ljava/lang/Integer;" } : Jvm.MethodName)).before a0 Z = true := hw _ (List.mem_of_getElem? (i := 22) rfl)
theorem w_23 {a0 : Array Value} {Z : State} (hw : ∀ d ∈ tables_1, d.before a0 Z = true) : (Jvm.Cond.static ({ cls := "java/lang/Integer", name := "valueOf", desc := "(I)Ljava/lang/Integer;" } : Jvm.MethodName)).before a0 Z = true := hw _ (List.mem_of_getElem? (i := 23) rfl)
theorem w_24 {a0 : Array Value} {Z : State} (hw : ∀ d ∈ tables_1, d.before a0 Z = true) : (Jvm.Cond.initialized "java/lang/Integer").before a0 Z = true := hw _ (List.mem_of_getElem? (i := 24) rfl)
theorem w_25 {a0 : Array Value} {Z : State} (hw : ∀ d ∈ tables_1, d.before a0 Z = true) : (Jvm.Cond.code ({ cls := "java/lang/Integer", name := "valueOf", desc := "(I)Ljava/lang/Integer;" } : Jvm.MethodName) jdk_33_method_22_code (1 : Nat) (Option.some (Jvm.ClassFile.FieldType.object "java/lang/Integer"))).before a0 Z = true := hw _ (List.mem_of_getElem? (i := 25) rfl)
theorem w_26 {a0 : Array Value} {Z : State} (hw : ∀ d ∈ tables_1, d.before a0 Z = true) : (Jvm.Cond.classLink "java/lang/Integer" (1 : Nat) "java/lang/Integer").before a0 Z = true := hw _ (List.mem_of_getElem? (i := 26) rfl)
theorem w_27 {a0 : Array Value} {Z : State} (hw : ∀ d ∈ tables_1, d.before a0 Z = true) : (Jvm.Cond.instantiable "java/lang/Integer" (1 : Nat)).before a0 Z = true := hw _ (List.mem_of_getElem? (i := 27) rfl)
theorem w_28 {a0 : Array Value} {Z : State} (hw : ∀ d ∈ tables_1, d.before a0 Z = true) : (Jvm.Cond.methodLink "java/lang/Integer" (199 : Nat) ({ cls := "java/lang/Integer", name := "<init>", desc := "(I)V" } : Jvm.MethodName)).before a0 Z = true := hw _ (List.mem_of_getElem? (i := 28) rfl)
theorem w_29 {a0 : Array Value} {Z : State} (hw : ∀ d ∈ tables_1, d.before a0 Z = true) : (Jvm.Cond.instanceMethod ({ cls := "java/lang/Integer", name := "<init>", desc := "(I)V" } : Jvm.MethodName)).before a0 Z = true := hw _ (List.mem_of_getElem? (i := 29) rfl)
theorem w_30 {a0 : Array Value} {Z : State} (hw : ∀ d ∈ tables_1, d.before a0 Z = true) : (Jvm.Cond.castable "java/lang/Integer" "java/lang/Integer").before a0 Z = true := hw _ (List.mem_of_getElem? (i := 30) rfl)
theorem w_31 {a0 : Array Value} {Z : State} (hw : ∀ d ∈ tables_1, d.before a0 Z = true) : (Jvm.Cond.code ({ cls := "java/lang/Integer", name := "<init>", desc := "(I)V" } : Jvm.MethodName) jdk_33_method_23_code (2 : Nat) (Option.none : Option Jvm.ClassFile.FieldType)).before a0 Z = true := hw _ (List.mem_of_getElem? (i := 31) rfl)
theorem w_32 {a0 : Array Value} {Z : State} (hw : ∀ d ∈ tables_1, d.before a0 Z = true) : (Jvm.Cond.methodLink "java/lang/Integer" (202 : Nat) ({ cls := "java/lang/Number", name := "<init>", desc := "()V" } : Jvm.MethodName)).before a0 Z = true := hw _ (List.mem_of_getElem? (i := 32) rfl)
theorem w_33 {a0 : Array Value} {Z : State} (hw : ∀ d ∈ tables_1, d.before a0 Z = true) : (Jvm.Cond.instanceMethod ({ cls := "java/lang/Number", name := "<init>", desc := "()V" } : Jvm.MethodName)).before a0 Z = true := hw _ (List.mem_of_getElem? (i := 33) rfl)
theorem w_34 {a0 : Array Value} {Z : State} (hw : ∀ d ∈ tables_1, d.before a0 Z = true) : (Jvm.Cond.declares ({ cls := "java/lang/Number", name := "<init>", desc := "()V" } : Jvm.MethodName)).before a0 Z = true := hw _ (List.mem_of_getElem? (i := 34) rfl)
theorem w_35 {a0 : Array Value} {Z : State} (hw : ∀ d ∈ tables_1, d.before a0 Z = true) : (Jvm.Cond.castable "java/lang/Integer" "java/lang/Number").before a0 Z = true := hw _ (List.mem_of_getElem? (i := 35) rfl)
theorem w_36 {a0 : Array Value} {Z : State} (hw : ∀ d ∈ tables_1, d.before a0 Z = true) : (Jvm.Cond.initialized "java/lang/Number").before a0 Z = true := hw _ (List.mem_of_getElem? (i := 36) rfl)
theorem w_37 {a0 : Array Value} {Z : State} (hw : ∀ d ∈ tables_1, d.before a0 Z = true) : (Jvm.Cond.code ({ cls := "java/lang/Number", name := "<init>", desc := "()V" } : Jvm.MethodName) jdk_18_method_1_code (1 : Nat) (Option.none : Option Jvm.ClassFile.FieldType)).before a0 Z = true := hw _ (List.mem_of_getElem? (i := 37) rfl)
theorem w_38 {a0 : Array Value} {Z : State} (hw : ∀ d ∈ tables_1, d.before a0 Z = true) : (Jvm.Cond.methodLink "java/lang/Number" (1 : Nat) ({ cls := "java/lang/Object", name := "<init>", desc := "()V" } : Jvm.MethodName)).before a0 Z = true := hw _ (List.mem_of_getElem? (i := 38) rfl)
theorem w_39 {a0 : Array Value} {Z : State} (hw : ∀ d ∈ tables_1, d.before a0 Z = true) : (Jvm.Cond.fieldLink "java/lang/Integer" (205 : Nat) "java/lang/Integer" "value" "I").before a0 Z = true := hw _ (List.mem_of_getElem? (i := 39) rfl)
theorem w_40 {a0 : Array Value} {Z : State} (hw : ∀ d ∈ tables_1, d.before a0 Z = true) : (Jvm.Cond.laysFinal "java/lang/Integer" "java/lang/Integer" "value" "I").before a0 Z = true := hw _ (List.mem_of_getElem? (i := 40) rfl)
theorem w_41 {a0 : Array Value} {Z : State} (hw : ∀ d ∈ tables_1, d.before a0 Z = true) : (Jvm.Cond.superclass "java/lang/Integer" "java/lang/Number").before a0 Z = true := hw _ (List.mem_of_getElem? (i := 41) rfl)
theorem w_42 {a0 : Array Value} {Z : State} (hw : ∀ d ∈ tables_1, d.before a0 Z = true) : (Jvm.Cond.superclass "java/lang/Number" "java/lang/Object").before a0 Z = true := hw _ (List.mem_of_getElem? (i := 42) rfl)
theorem w_43 {a0 : Array Value} {Z : State} (hw : ∀ d ∈ tables_1, d.before a0 Z = true) : (Jvm.Cond.noSuperclass "java/lang/Object").before a0 Z = true := hw _ (List.mem_of_getElem? (i := 43) rfl)
theorem w_44 {a0 : Array Value} {Z : State} (hw : ∀ d ∈ tables_1, d.before a0 Z = true) : (Jvm.Cond.fieldLink "java/lang/Integer" (191 : Nat) "java/lang/Integer$IntegerCache" "high" "I").before a0 Z = true := hw _ (List.mem_of_getElem? (i := 44) rfl)
theorem w_45 {a0 : Array Value} {Z : State} (hw : ∀ d ∈ tables_1, d.before a0 Z = true) : (Jvm.Cond.initialized "java/lang/Integer$IntegerCache").before a0 Z = true := hw _ (List.mem_of_getElem? (i := 45) rfl)
theorem w_46 {a0 : Array Value} {Z : State} (hw : ∀ d ∈ tables_1, d.before a0 Z = true) : (Jvm.Cond.fieldLink "java/lang/Integer" (195 : Nat) "java/lang/Integer$IntegerCache" "cache" "[Ljava/lang/Integer;").before a0 Z = true := hw _ (List.mem_of_getElem? (i := 46) rfl)
theorem pn_0 : plainName "com/example/saltwire/saltwire/protocol/ApiVersionRange" = true := by first | (simp [plainName, overriddenIn]; done) | decide +kernel
theorem pn_1 : plainName "java/lang/Number" = true := by first | (simp [plainName, overriddenIn]; done) | decide +kernel
theorem pn_2 : plainName "java/lang/Integer" = true := by first | (simp [plainName, overriddenIn]; done) | decide +kernel
theorem pn_3 : plainName "com/example/saltwire/saltwire/protocol/ApiVersionRangeEqualsPinLaw" = true := by first | (simp [plainName, overriddenIn]; done) | decide +kernel
theorem pd_0 : parseMethodDescriptor "()V" = some ⟨[], none⟩ := by decide +kernel
theorem pd_1 : parseMethodDescriptor "(I)V" = some ⟨[.int], none⟩ := by decide +kernel
theorem pd_2 : parseMethodDescriptor "(SSS)V" = some ⟨[.short, .short, .short], none⟩ := by decide +kernel
theorem pd_3 : parseMethodDescriptor "(Ljava/lang/Object;)Z" = some ⟨[(.object "java/lang/Object")], (some .boolean)⟩ := by decide +kernel
theorem pd_4 : parseMethodDescriptor "(I)Ljava/lang/Integer;" = some ⟨[.int], (some (.object "java/lang/Integer"))⟩ := by decide +kernel
theorem d1_0 : decode prog_63_method_1_code 0 = .ok (.aload_n 0, 1) := by decide +kernel
theorem d1_1 : decode prog_63_method_1_code 1 = .ok (.invokespecial 1, 3) := by decide +kernel
theorem d1_4 : decode prog_63_method_1_code 4 = .ok (.aload_n 0, 1) := by decide +kernel
theorem d1_5 : decode prog_63_method_1_code 5 = .ok (.iload_n 1, 1) := by decide +kernel
theorem d1_6 : decode prog_63_method_1_code 6 = .ok (.putfield 7, 3) := by decide +kernel
theorem d1_9 : decode prog_63_method_1_code 9 = .ok (.aload_n 0, 1) := by decide +kernel
theorem d1_10 : decode prog_63_method_1_code 10 = .ok (.iload_n 2, 1) := by decide +kernel
theorem d1_11 : decode prog_63_method_1_code 11 = .ok (.putfield 13, 3) := by decide +kernel
theorem d1_14 : decode prog_63_method_1_code 14 = .ok (.aload_n 0, 1) := by decide +kernel
theorem d1_15 : decode prog_63_method_1_code 15 = .ok (.iload_n 3, 1) := by decide +kernel
theorem d1_16 : decode prog_63_method_1_code 16 = .ok (.putfield 16, 3) := by decide +kernel
theorem d1_19 : decode prog_63_method_1_code 19 = .ok (.return_, 1) := by decide +kernel
theorem d3_0 : decode prog_63_method_5_code 0 = .ok (.aload_n 1, 1) := by decide +kernel
theorem d3_1 : decode prog_63_method_5_code 1 = .ok (.instanceof 8, 3) := by decide +kernel
theorem d3_4 : decode prog_63_method_5_code 4 = .ok (.ifCond .ne 5, 3) := by decide +kernel
theorem d3_7 : decode prog_63_method_5_code 7 = .ok (.iconst 0, 1) := by decide +kernel
theorem d3_8 : decode prog_63_method_5_code 8 = .ok (.ireturn, 1) := by decide +kernel
theorem d3_9 : decode prog_63_method_5_code 9 = .ok (.aload_n 1, 1) := by decide +kernel
theorem d3_10 : decode prog_63_method_5_code 10 = .ok (.checkcast 8, 3) := by decide +kernel
theorem d3_13 : decode prog_63_method_5_code 13 = .ok (.astore_n 2, 1) := by decide +kernel
theorem d3_14 : decode prog_63_method_5_code 14 = .ok (.aload_n 0, 1) := by decide +kernel
theorem d3_15 : decode prog_63_method_5_code 15 = .ok (.getfield 7, 3) := by decide +kernel
theorem d3_18 : decode prog_63_method_5_code 18 = .ok (.aload_n 2, 1) := by decide +kernel
theorem d3_19 : decode prog_63_method_5_code 19 = .ok (.getfield 7, 3) := by decide +kernel
theorem d3_22 : decode prog_63_method_5_code 22 = .ok (.if_icmp .ne 29, 3) := by decide +kernel
theorem d3_25 : decode prog_63_method_5_code 25 = .ok (.aload_n 0, 1) := by decide +kernel
theorem d3_26 : decode prog_63_method_5_code 26 = .ok (.getfield 13, 3) := by decide +kernel
theorem d3_29 : decode prog_63_method_5_code 29 = .ok (.aload_n 2, 1) := by decide +kernel
theorem d3_30 : decode prog_63_method_5_code 30 = .ok (.getfield 13, 3) := by decide +kernel
theorem d3_33 : decode prog_63_method_5_code 33 = .ok (.if_icmp .ne 18, 3) := by decide +kernel
theorem d3_36 : decode prog_63_method_5_code 36 = .ok (.aload_n 0, 1) := by decide +kernel
theorem d3_37 : decode prog_63_method_5_code 37 = .ok (.getfield 16, 3) := by decide +kernel
theorem d3_40 : decode prog_63_method_5_code 40 = .ok (.aload_n 2, 1) := by decide +kernel
theorem d3_41 : decode prog_63_method_5_code 41 = .ok (.getfield 16, 3) := by decide +kernel
theorem d3_44 : decode prog_63_method_5_code 44 = .ok (.if_icmp .ne 7, 3) := by decide +kernel
theorem d3_47 : decode prog_63_method_5_code 47 = .ok (.iconst 1, 1) := by decide +kernel
theorem d3_48 : decode prog_63_method_5_code 48 = .ok (.goto 4, 3) := by decide +kernel
theorem d3_51 : decode prog_63_method_5_code 51 = .ok (.iconst 0, 1) := by decide +kernel
theorem d3_52 : decode prog_63_method_5_code 52 = .ok (.ireturn, 1) := by decide +kernel
theorem d4_0 : decode jdk_33_method_22_code 0 = .ok (.iload_n 0, 1) := by decide +kernel
theorem d4_1 : decode jdk_33_method_22_code 1 = .ok (.bipush (-128), 2) := by decide +kernel
theorem d4_3 : decode jdk_33_method_22_code 3 = .ok (.if_icmp .lt 20, 3) := by decide +kernel
theorem d4_6 : decode jdk_33_method_22_code 6 = .ok (.iload_n 0, 1) := by decide +kernel
theorem d4_7 : decode jdk_33_method_22_code 7 = .ok (.getstatic 191, 3) := by decide +kernel
theorem d4_10 : decode jdk_33_method_22_code 10 = .ok (.if_icmp .gt 13, 3) := by decide +kernel
theorem d4_13 : decode jdk_33_method_22_code 13 = .ok (.getstatic 195, 3) := by decide +kernel
theorem d4_16 : decode jdk_33_method_22_code 16 = .ok (.iload_n 0, 1) := by decide +kernel
theorem d4_17 : decode jdk_33_method_22_code 17 = .ok (.sipush 128, 3) := by decide +kernel
theorem d4_20 : decode jdk_33_method_22_code 20 = .ok (.iadd, 1) := by decide +kernel
theorem d4_21 : decode jdk_33_method_22_code 21 = .ok (.aaload, 1) := by decide +kernel
theorem d4_22 : decode jdk_33_method_22_code 22 = .ok (.areturn, 1) := by decide +kernel
theorem d4_23 : decode jdk_33_method_22_code 23 = .ok (.new 1, 3) := by decide +kernel
theorem d4_26 : decode jdk_33_method_22_code 26 = .ok (.dup, 1) := by decide +kernel
theorem d4_27 : decode jdk_33_method_22_code 27 = .ok (.iload_n 0, 1) := by decide +kernel
theorem d4_28 : decode jdk_33_method_22_code 28 = .ok (.invokespecial 199, 3) := by decide +kernel
theorem d4_31 : decode jdk_33_method_22_code 31 = .ok (.areturn, 1) := by decide +kernel
theorem d5_0 : decode jdk_33_method_23_code 0 = .ok (.aload_n 0, 1) := by decide +kernel
theorem d5_1 : decode jdk_33_method_23_code 1 = .ok (.invokespecial 202, 3) := by decide +kernel
theorem d5_4 : decode jdk_33_method_23_code 4 = .ok (.aload_n 0, 1) := by decide +kernel
theorem d5_5 : decode jdk_33_method_23_code 5 = .ok (.iload_n 1, 1) := by decide +kernel
theorem d5_6 : decode jdk_33_method_23_code 6 = .ok (.putfield 205, 3) := by decide +kernel
theorem d5_9 : decode jdk_33_method_23_code 9 = .ok (.return_, 1) := by decide +kernel
theorem d6_0 : decode jdk_18_method_1_code 0 = .ok (.aload_n 0, 1) := by decide +kernel
theorem d6_1 : decode jdk_18_method_1_code 1 = .ok (.invokespecial 1, 3) := by decide +kernel
theorem d6_4 : decode jdk_18_method_1_code 4 = .ok (.return_, 1) := by decide +kernel
def Sh (z : Int32) : Prop := narrow .short (.int z) = .int z ∧ fits .short (.int z) = true
theorem own_sh (x : Int32) : Sh x.toInt16.toInt32 := by
  constructor
  · show Value.int (x.toInt16.toInt32.toInt16.toInt32) = _
    rw [Int16.toInt16_toInt32]
  · have q := fits_nar_short x.toInt16.toInt32
    have e : nar .short x.toInt16.toInt32 = x.toInt16.toInt32 := by
      show x.toInt16.toInt32.toInt16.toInt32 = _
      rw [Int16.toInt16_toInt32]
    rwa [e] at q
def OwnF (Z : State) (h : Heap) (a_C : Addr) (c_C : Cell) : Prop := Sta Z h "java/lang/Integer$IntegerCache" "high" "I" (.int (127 : Int32)) ∧ Sta Z h "java/lang/Integer$IntegerCache" "cache" "[Ljava/lang/Integer;" (.ref a_C) ∧ Arr Z h a_C c_C (.object "java/lang/Integer") ∧ c_C.slots.size = 256 ∧ ∀ k, k < 256 → ∃ a, c_C.slots[k]? = some (Value.ref a) ∧ Exa Z h a "java/lang/Integer"
theorem OwnF.ext {Z : State} {h h' : Heap} {a_C : Addr} {c_C : Cell} (F : OwnF Z h a_C c_C) (E : Ext h h') : OwnF Z h' a_C c_C :=
  ⟨F.1.ext E, F.2.1.ext E, F.2.2.1.ext E, F.2.2.2.1, fun k hk => by obtain ⟨a, h1, h2⟩ := F.2.2.2.2 k hk; exact ⟨a, h1, h2.ext E⟩⟩
theorem own_ix {z : Int32} (h1 : ¬ z < (-128 : Int32)) (h2 : ¬ (127 : Int32) < z) : 0 ≤ (z + (128 : Int32)).toInt ∧ (z + (128 : Int32)).toInt < 256 := by
  rw [Int32.lt_iff_toInt_lt] at h1 h2
  have e1 : (-128 : Int32).toInt = -128 := by decide
  have e2 : (127 : Int32).toInt = 127 := by decide
  have e3 : (128 : Int32).toInt = 128 := by decide
  have c := c_iadd z 128
  have r := rng32 (z + 128)
  omega
theorem own_in {x : Int32} {n : Nat} (h1 : 0 ≤ x.toInt) (h2 : x.toInt < (n : Int)) : ¬ (x < 0 ∨ n ≤ x.toNatClampNeg) := by
  simp only [Int32.lt_iff_toInt_lt, Int32.reduceToInt, Int32.toNatClampNeg]; omega
theorem own_cl {x : Int32} {n : Nat} (h1 : 0 ≤ x.toInt) (h2 : x.toInt < (n : Int)) : x.toNatClampNeg < n := by
  simp only [Int32.toNatClampNeg]; omega
theorem own_ek {Z : State} {args : Array Value} {C n d K : String} {a : Addr} {cl : Cell} {ty : FieldType} {k : Nat} (ev : (Term.static C n d).eval args Z none [] Z = some (.ref a)) (A : Arr Z Z.heap a cl ty) (hk : k < 256) (h : (Jvm.Cond.exactly (.elem (.static C n d) (.index 0)) K).value args Z none Z [k] = some true) : ∃ b, cl.slots[k]? = some (Value.ref b) ∧ Exa Z Z.heap b K := by
  obtain ⟨b, eb⟩ := exa_v h
  have ev' : (Term.static C n d).eval args Z none [k] Z = some (.ref a) := ev
  have e := (elem_in eb ev' (Term.index_eval k) A.1).2
  have q : k.toInt32.toNatClampNeg = k := by simp only [Int32.toNatClampNeg, len_toInt (show k < 2 ^ 31 by omega)]; rfl
  rw [q] at e
  exact ⟨b, e, exa_at eb h⟩
set_option maxRecDepth 65536 in
set_option maxHeartbeats 40000000 in
theorem m_init {l : Launch} {Z : State} {a0 : Array Value} {n0 : Nat} {h : Heap} (hw : ∀ d ∈ tables_1, d.before a0 Z = true) {a : Addr} (z0 z1 z2 : Int32) (hz0 : Sh z0) (hz1 : Sh z1) (hz2 : Sh z2) (ge : n0 ≤ a) (x : Exa Z h a "com/example/saltwire/saltwire/protocol/ApiVersionRange") (f0 : Fld Z h a "com/example/saltwire/saltwire/protocol/ApiVersionRange" "apiKey" "S" (.int (0 : Int32))) (f1 : Fld Z h a "com/example/saltwire/saltwire/protocol/ApiVersionRange" "minVersion" "S" (.int (0 : Int32))) (f2 : Fld Z h a "com/example/saltwire/saltwire/protocol/ApiVersionRange" "maxVersion" "S" (.int (0 : Int32))) : Met l Z n0 (⟨"com/example/saltwire/saltwire/protocol/ApiVersionRange", "<init>", "(SSS)V"⟩ : MethodName) prog_63_method_1_code 4 (Option.none : Option Jvm.ClassFile.FieldType) (⟨1, 0, 0, 12⟩ : Room) #[(.ref a), (.int z0), (.int z1), (.int z2)] h (fun v h' => v = none ∧ Keep h h' [a] ∧ Exa Z h' a "com/example/saltwire/saltwire/protocol/ApiVersionRange" ∧ Fld Z h' a "com/example/saltwire/saltwire/protocol/ApiVersionRange" "apiKey" "S" (.int z0) ∧ Fld Z h' a "com/example/saltwire/saltwire/protocol/ApiVersionRange" "minVersion" "S" (.int z1) ∧ Fld Z h' a "com/example/saltwire/saltwire/protocol/ApiVersionRange" "maxVersion" "S" (.int z2)) := by
  refine Met.of_wk (ls := #[.val (.ref a), .val (.int z0), .val (.int z1), .val (.int z2)]) (plainFor_of_name pn_0) (fun _ => rfl) ?_
  show Wk l Z n0 "com/example/saltwire/saltwire/protocol/ApiVersionRange" "<init>" prog_63_method_1_code 4 (Option.none : Option Jvm.ClassFile.FieldType) (⟨1, 0, 0, 12⟩ : Room) 0 0 (fun v h' => v = none ∧ Keep h h' [a] ∧ Exa Z h' a "com/example/saltwire/saltwire/protocol/ApiVersionRange" ∧ Fld Z h' a "com/example/saltwire/saltwire/protocol/ApiVersionRange" "apiKey" "S" (.int z0) ∧ Fld Z h' a "com/example/saltwire/saltwire/protocol/ApiVersionRange" "minVersion" "S" (.int z1) ∧ Fld Z h' a "com/example/saltwire/saltwire/protocol/ApiVersionRange" "maxVersion" "S" (.int z2)) h 0 0 0 #[.val (.ref a), .val (.int z0), .val (.int z1), .val (.int z2)] []
  have K := Keep.refl h [a]
  refine Wk.aloadN (q := 1) d1_0 rfl rfl rfl ?_
  refine Wk.initO (q := 4) (W := 0) (w_6 hw) (w_7 hw) (w_8 hw) d1_1 rfl rfl (by decide) rfl (by decide) ?_
  refine Wk.aloadN (q := 5) d1_4 rfl rfl rfl ?_
  refine Wk.iloadN (q := 6) d1_5 rfl rfl ?_
  refine Wk.putF (q := 9) (w_9 hw) Via.refl f0 x (Or.inr ⟨(w_10 hw), rfl, rfl⟩) (w_1 hw) (ty := .short) (by decide) hz0.1 hz0.2 d1_6 rfl ge ?_
  intro h2 W2
  have K := K.wr W2 (Or.inl (List.mem_of_getElem? (i := 0) rfl))
  have x := x.wr W2
  have f0 := f0.same W2
  have f1 := f1.other W2 (Or.inr (slot_ne (Or.inr (w_12 hw)) (Or.inr (w_10 hw)) (by decide) (t := .short) (t' := .short) (by decide) (by decide)))
  have f2 := f2.other W2 (Or.inr (slot_ne (Or.inr (w_14 hw)) (Or.inr (w_10 hw)) (by decide) (t := .short) (t' := .short) (by decide) (by decide)))
  refine Wk.aloadN (q := 10) d1_9 rfl rfl rfl ?_
  refine Wk.iloadN (q := 11) d1_10 rfl rfl ?_
  refine Wk.putF (q := 14) (w_11 hw) Via.refl f1 x (Or.inr ⟨(w_12 hw), rfl, rfl⟩) (w_1 hw) (ty := .short) (by decide) hz1.1 hz1.2 d1_11 rfl ge ?_
  intro h2 W2
  have K := K.wr W2 (Or.inl (List.mem_of_getElem? (i := 0) rfl))
  have x := x.wr W2
  have f0 := f0.other W2 (Or.inr (slot_ne (Or.inr (w_10 hw)) (Or.inr (w_12 hw)) (by decide) (t := .short) (t' := .short) (by decide) (by decide)))
  have f1 := f1.same W2
  have f2 := f2.other W2 (Or.inr (slot_ne (Or.inr (w_14 hw)) (Or.inr (w_12 hw)) (by decide) (t := .short) (t' := .short) (by decide) (by decide)))
  refine Wk.aloadN (q := 15) d1_14 rfl rfl rfl ?_
  refine Wk.iloadN (q := 16) d1_15 rfl rfl ?_
  refine Wk.putF (q := 19) (w_13 hw) Via.refl f2 x (Or.inr ⟨(w_14 hw), rfl, rfl⟩) (w_1 hw) (ty := .short) (by decide) hz2.1 hz2.2 d1_16 rfl ge ?_
  intro h2 W2
  have K := K.wr W2 (Or.inl (List.mem_of_getElem? (i := 0) rfl))
  have x := x.wr W2
  have f0 := f0.other W2 (Or.inr (slot_ne (Or.inr (w_10 hw)) (Or.inr (w_14 hw)) (by decide) (t := .short) (t' := .short) (by decide) (by decide)))
  have f1 := f1.other W2 (Or.inr (slot_ne (Or.inr (w_12 hw)) (Or.inr (w_14 hw)) (by decide) (t := .short) (t' := .short) (by decide) (by decide)))
  have f2 := f2.same W2
  exact Wk.retV rfl d1_19 (by decide) (by decide) ⟨rfl, K, x, f0, f1, f2⟩
set_option maxRecDepth 65536 in
set_option maxHeartbeats 40000000 in
theorem m_num {l : Launch} {Z : State} {a0 : Array Value} {n0 : Nat} {h : Heap} (hw : ∀ d ∈ tables_1, d.before a0 Z = true) {a : Addr} : Met l Z n0 (⟨"java/lang/Number", "<init>", "()V"⟩ : MethodName) jdk_18_method_1_code 1 (Option.none : Option Jvm.ClassFile.FieldType) (⟨1, 0, 0, 12⟩ : Room) #[(.ref a)] h (fun v h' => v = none ∧ h' = h) := by
  refine Met.of_wk (ls := #[.val (.ref a)]) (plainFor_of_name pn_1) (fun _ => rfl) ?_
  show Wk l Z n0 "java/lang/Number" "<init>" jdk_18_method_1_code 1 (Option.none : Option Jvm.ClassFile.FieldType) (⟨1, 0, 0, 12⟩ : Room) 0 0 (fun v h' => v = none ∧ h' = h) h 0 0 0 #[.val (.ref a)] []
  refine Wk.aloadN (q := 1) d6_0 rfl rfl rfl ?_
  refine Wk.initO (q := 4) (W := 0) (w_38 hw) (w_7 hw) (w_8 hw) d6_1 rfl rfl (by decide) rfl (by decide) ?_
  exact Wk.retV rfl d6_4 (by decide) (by decide) ⟨rfl, rfl⟩
set_option maxRecDepth 65536 in
set_option maxHeartbeats 40000000 in
theorem m_int {l : Launch} {Z : State} {a0 : Array Value} {n0 : Nat} {h : Heap} (hw : ∀ d ∈ tables_1, d.before a0 Z = true) {a : Addr} (z0 : Int32) (ge : n0 ≤ a) (x : Exa Z h a "java/lang/Integer") (f0 : Fld Z h a "java/lang/Integer" "value" "I" (.int (0 : Int32))) : Met l Z n0 (⟨"java/lang/Integer", "<init>", "(I)V"⟩ : MethodName) jdk_33_method_23_code 2 (Option.none : Option Jvm.ClassFile.FieldType) (⟨2, 0, 0, 24⟩ : Room) #[(.ref a), (.int z0)] h (fun v h' => v = none ∧ Keep h h' [a] ∧ Exa Z h' a "java/lang/Integer") := by
  refine Met.of_wk (ls := #[.val (.ref a), .val (.int z0)]) (plainFor_of_name pn_2) (fun _ => rfl) ?_
  show Wk l Z n0 "java/lang/Integer" "<init>" jdk_33_method_23_code 2 (Option.none : Option Jvm.ClassFile.FieldType) (⟨2, 0, 0, 24⟩ : Room) 0 0 (fun v h' => v = none ∧ Keep h h' [a] ∧ Exa Z h' a "java/lang/Integer") h 0 0 0 #[.val (.ref a), .val (.int z0)] []
  have K := Keep.refl h [a]
  refine Wk.aloadN (q := 1) d5_0 rfl rfl rfl ?_
  refine Wk.special (q := 4) (a := a) (argsL := []) (rest := []) (rm := (⟨1, 0, 0, 12⟩ : Room)) (Q' := fun h' => h' = h) (m_num hw) rfl (w_32 hw) (w_33 hw) (w_37 hw) (w_36 hw) (by decide) pd_0 rfl rfl rfl d5_1 rfl (W := 0) rfl (by decide) (by decide) (by decide) (by decide) ?_
  rintro h rfl
  refine Wk.aloadN (q := 5) d5_4 rfl rfl rfl ?_
  refine Wk.iloadN (q := 6) d5_5 rfl rfl ?_
  refine Wk.putF (q := 9) (w_39 hw) Via.refl f0 x (Or.inr ⟨(w_40 hw), rfl, rfl⟩) (w_27 hw) (ty := .int) (by decide) rfl rfl d5_6 rfl ge ?_
  intro h2 W2
  have K := K.wr W2 (Or.inl (List.mem_of_getElem? (i := 0) rfl))
  have x := x.wr W2
  exact Wk.retV rfl d5_9 (by decide) (by decide) ⟨rfl, K, x⟩
theorem own_k1 {h h1 h2 : Heap} {b : Addr} (E : Ext h h1) (g : b = h.size) (K : Keep h1 h2 [b]) : Keep h h2 [] := by
  refine ((Keep.refl h []).ext E).trans K fun x hx => Or.inr ?_
  cases List.mem_singleton.mp hx
  exact Nat.le_of_eq g.symm
set_option maxRecDepth 65536 in
set_option maxHeartbeats 40000000 in
theorem m_val {l : Launch} {Z : State} {a0 : Array Value} {n0 : Nat} {h : Heap} (hw : ∀ d ∈ tables_1, d.before a0 Z = true) {a_C : Addr} {c_C : Cell} (F : OwnF Z h a_C c_C) (hn : n0 ≤ h.size) (z0 : Int32) : Met l Z n0 (⟨"java/lang/Integer", "valueOf", "(I)Ljava/lang/Integer;"⟩ : MethodName) jdk_33_method_22_code 1 (Option.some (Jvm.ClassFile.FieldType.object "java/lang/Integer")) (⟨3, 1, 1, 38⟩ : Room) #[(.int z0)] h (fun v h' => ∃ w, v = some w ∧ ∃ b, w = .ref b ∧ Exa Z h' b "java/lang/Integer" ∧ Keep h h' []) := by
  refine Met.of_wk (ls := #[.val (.int z0)]) (plainFor_of_name pn_2) (fun _ => rfl) ?_
  show Wk l Z n0 "java/lang/Integer" "valueOf" jdk_33_method_22_code 1 (Option.some (Jvm.ClassFile.FieldType.object "java/lang/Integer")) (⟨3, 1, 1, 38⟩ : Room) 1 1 (fun v h' => ∃ w, v = some w ∧ ∃ b, w = .ref b ∧ Exa Z h' b "java/lang/Integer" ∧ Keep h h' []) h 0 0 0 #[.val (.int z0)] []
  refine Wk.iloadN (q := 1) d4_0 rfl rfl ?_
  refine Wk.bipush (q := 3) (v := (-128 : Int32)) d4_1 rfl rfl ?_
  refine Wk.icmp (q := 23) (q' := 6) d4_3 (by decide) rfl rfl (fun (h1 : z0 < (-128 : Int32)) => ?_) (fun (h1 : ¬ z0 < (-128 : Int32)) => ?_)
  · refine Wk.new (q := 26) (w_26 hw) (w_27 hw) (w_24 hw) d4_23 rfl (by decide) (by decide) ?_
    intro h1 b g1 E1 x D1
    have ge : n0 ≤ b := g1 ▸ hn
    have f0 : Fld Z h1 b "java/lang/Integer" "value" "I" (.int (0 : Int32)) := D1 (Or.inr (w_40 hw)) (ty := .int) (by decide)
    refine Wk.dup (q := 27) d4_26 rfl rfl ?_
    refine Wk.iloadN (q := 28) d4_27 rfl rfl ?_
    refine Wk.special (q := 31) (a := b) (argsL := [(.int z0)]) (rest := [(.ref b)]) (rm := (⟨2, 0, 0, 24⟩ : Room)) (Q' := fun h' => Keep h1 h' [b] ∧ Exa Z h' b "java/lang/Integer") (m_int hw z0 ge x f0) rfl (w_28 hw) (w_29 hw) (w_31 hw) (w_24 hw) (by decide) pd_1 rfl rfl rfl d4_28 rfl (W := 1) rfl (by decide) (by decide) (by decide) (by decide) ?_
    rintro h2 ⟨K, x⟩
    exact Wk.retA rfl rfl rfl d4_31 (by decide) (by decide) ⟨_, rfl, b, rfl, x, own_k1 E1 g1 K⟩
  · refine Wk.iloadN (q := 7) d4_6 rfl rfl ?_
    refine Wk.getS (q := 10) (w_44 hw) Via.refl F.1 d4_7 rfl ?_
    refine Wk.icmp (q := 23) (q' := 13) d4_10 (by decide) rfl rfl (fun (h2 : (127 : Int32) < z0) => ?_) (fun (h2 : ¬ (127 : Int32) < z0) => ?_)
    · refine Wk.new (q := 26) (w_26 hw) (w_27 hw) (w_24 hw) d4_23 rfl (by decide) (by decide) ?_
      intro h1 b g1 E1 x D1
      have ge : n0 ≤ b := g1 ▸ hn
      have f0 : Fld Z h1 b "java/lang/Integer" "value" "I" (.int (0 : Int32)) := D1 (Or.inr (w_40 hw)) (ty := .int) (by decide)
      refine Wk.dup (q := 27) d4_26 rfl rfl ?_
      refine Wk.iloadN (q := 28) d4_27 rfl rfl ?_
      refine Wk.special (q := 31) (a := b) (argsL := [(.int z0)]) (rest := [(.ref b)]) (rm := (⟨2, 0, 0, 24⟩ : Room)) (Q' := fun h' => Keep h1 h' [b] ∧ Exa Z h' b "java/lang/Integer") (m_int hw z0 ge x f0) rfl (w_28 hw) (w_29 hw) (w_31 hw) (w_24 hw) (by decide) pd_1 rfl rfl rfl d4_28 rfl (W := 1) rfl (by decide) (by decide) (by decide) (by decide) ?_
      rintro h2 ⟨K, x⟩
      exact Wk.retA rfl rfl rfl d4_31 (by decide) (by decide) ⟨_, rfl, b, rfl, x, own_k1 E1 g1 K⟩
    · refine Wk.getS (q := 16) (w_46 hw) Via.refl F.2.1 d4_13 rfl ?_
      refine Wk.iloadN (q := 17) d4_16 rfl rfl ?_
      refine Wk.sipush (q := 20) (v := (128 : Int32)) d4_17 rfl rfl ?_
      refine Wk.iadd (q := 21) (v := (z0 + (128 : Int32))) d4_20 rfl rfl ?_
      obtain ⟨b, eb, xb⟩ := F.2.2.2.2 (z0 + (128 : Int32)).toNatClampNeg (own_cl (own_ix h1 h2).1 (own_ix h1 h2).2)
      refine Wk.aaload (q := 22) F.2.2.1 rfl (by rw [F.2.2.2.1]; exact own_in (own_ix h1 h2).1 (own_ix h1 h2).2) eb d4_21 rfl ?_
      exact Wk.retA rfl rfl rfl d4_22 (by decide) (by decide) ⟨_, rfl, b, rfl, xb, Keep.refl _ _⟩
set_option maxRecDepth 65536 in
set_option maxHeartbeats 40000000 in
theorem m_eq_null {l : Launch} {Z : State} {a0 : Array Value} {n0 : Nat} {h : Heap} (hw : ∀ d ∈ tables_1, d.before a0 Z = true) {a : Addr} : Met l Z n0 (⟨"com/example/saltwire/saltwire/protocol/ApiVersionRange", "equals", "(Ljava/lang/Object;)Z"⟩ : MethodName) prog_63_method_5_code 3 (Option.some Jvm.ClassFile.FieldType.boolean) (⟨0, 0, 0, 0⟩ : Room) #[(.ref a), .null] h (fun v h' => v = some (.int (0 : Int32)) ∧ h' = h) := by
  refine Met.of_wk (ls := #[.val (.ref a), .val .null, .unset]) (plainFor_of_name pn_0) (fun _ => rfl) ?_
  show Wk l Z n0 "com/example/saltwire/saltwire/protocol/ApiVersionRange" "equals" prog_63_method_5_code 3 (Option.some Jvm.ClassFile.FieldType.boolean) (⟨0, 0, 0, 0⟩ : Room) 0 0 (fun v h' => v = some (.int (0 : Int32)) ∧ h' = h) h 0 0 0 #[.val (.ref a), .val .null, .unset] []
  refine Wk.aloadN (q := 1) d3_0 rfl rfl rfl ?_
  refine Wk.instNull (q := 4) d3_1 rfl ?_
  refine Wk.ifcF (q := 7) d3_4 rfl (by decide : (0 : Int32) = (0 : Int32)) ?_
  refine Wk.iconst (q := 8) (v := (0 : Int32)) d3_7 rfl rfl ?_
  exact Wk.retZ rfl rfl d3_8 (by decide) (by decide) ⟨rfl, rfl⟩
set_option maxRecDepth 65536 in
set_option maxHeartbeats 40000000 in
theorem m_eq_int {l : Launch} {Z : State} {a0 : Array Value} {n0 : Nat} {h : Heap} (hw : ∀ d ∈ tables_1, d.before a0 Z = true) {a : Addr} {b : Addr} (xb : Exa Z h b "java/lang/Integer") : Met l Z n0 (⟨"com/example/saltwire/saltwire/protocol/ApiVersionRange", "equals", "(Ljava/lang/Object;)Z"⟩ : MethodName) prog_63_method_5_code 3 (Option.some Jvm.ClassFile.FieldType.boolean) (⟨0, 0, 0, 0⟩ : Room) #[(.ref a), (.ref b)] h (fun v h' => v = some (.int (0 : Int32)) ∧ h' = h) := by
  refine Met.of_wk (ls := #[.val (.ref a), .val (.ref b), .unset]) (plainFor_of_name pn_0) (fun _ => rfl) ?_
  show Wk l Z n0 "com/example/saltwire/saltwire/protocol/ApiVersionRange" "equals" prog_63_method_5_code 3 (Option.some Jvm.ClassFile.FieldType.boolean) (⟨0, 0, 0, 0⟩ : Room) 0 0 (fun v h' => v = some (.int (0 : Int32)) ∧ h' = h) h 0 0 0 #[.val (.ref a), .val (.ref b), .unset] []
  refine Wk.aloadN (q := 1) d3_0 rfl rfl rfl ?_
  refine Wk.instNo (q := 4) (w_20 hw) xb (own_nsno (w_41 hw) (w_1 hw) (NS.step (w_41 hw) (NS.step (w_42 hw) (own_nsroot (w_43 hw) (w_1 hw) (by decide)) (by decide)) (by decide)) (by decide)) d3_1 rfl ?_
  refine Wk.ifcF (q := 7) d3_4 rfl (by decide : (0 : Int32) = (0 : Int32)) ?_
  refine Wk.iconst (q := 8) (v := (0 : Int32)) d3_7 rfl rfl ?_
  exact Wk.retZ rfl rfl d3_8 (by decide) (by decide) ⟨rfl, rfl⟩
set_option maxRecDepth 65536 in
set_option maxHeartbeats 40000000 in
theorem m_eq_same {l : Launch} {Z : State} {a0 : Array Value} {n0 : Nat} {h : Heap} (hw : ∀ d ∈ tables_1, d.before a0 Z = true) {a : Addr} {b : Addr} (x0 x1 x2 y0 y1 y2 : Int32) (xb : Exa Z h b "com/example/saltwire/saltwire/protocol/ApiVersionRange") (fx0 : Fld Z h a "com/example/saltwire/saltwire/protocol/ApiVersionRange" "apiKey" "S" (.int x0)) (fx1 : Fld Z h a "com/example/saltwire/saltwire/protocol/ApiVersionRange" "minVersion" "S" (.int x1)) (fx2 : Fld Z h a "com/example/saltwire/saltwire/protocol/ApiVersionRange" "maxVersion" "S" (.int x2)) (fy0 : Fld Z h b "com/example/saltwire/saltwire/protocol/ApiVersionRange" "apiKey" "S" (.int y0)) (fy1 : Fld Z h b "com/example/saltwire/saltwire/protocol/ApiVersionRange" "minVersion" "S" (.int y1)) (fy2 : Fld Z h b "com/example/saltwire/saltwire/protocol/ApiVersionRange" "maxVersion" "S" (.int y2)) : Met l Z n0 (⟨"com/example/saltwire/saltwire/protocol/ApiVersionRange", "equals", "(Ljava/lang/Object;)Z"⟩ : MethodName) prog_63_method_5_code 3 (Option.some Jvm.ClassFile.FieldType.boolean) (⟨0, 0, 0, 0⟩ : Room) #[(.ref a), (.ref b)] h (fun v h' => (∃ w, v = some w ∧ (((¬ x0 = y0) ∧ w = (.int (0 : Int32))) ∨ ((x0 = y0) ∧ (¬ x1 = y1) ∧ w = (.int (0 : Int32))) ∨ ((x0 = y0) ∧ (x1 = y1) ∧ (¬ x2 = y2) ∧ w = (.int (0 : Int32))) ∨ ((x0 = y0) ∧ (x1 = y1) ∧ (x2 = y2) ∧ w = (.int (1 : Int32))))) ∧ h' = h) := by
  refine Met.of_wk (ls := #[.val (.ref a), .val (.ref b), .unset]) (plainFor_of_name pn_0) (fun _ => rfl) ?_
  show Wk l Z n0 "com/example/saltwire/saltwire/protocol/ApiVersionRange" "equals" prog_63_method_5_code 3 (Option.some Jvm.ClassFile.FieldType.boolean) (⟨0, 0, 0, 0⟩ : Room) 0 0 (fun v h' => (∃ w, v = some w ∧ (((¬ x0 = y0) ∧ w = (.int (0 : Int32))) ∨ ((x0 = y0) ∧ (¬ x1 = y1) ∧ w = (.int (0 : Int32))) ∨ ((x0 = y0) ∧ (x1 = y1) ∧ (¬ x2 = y2) ∧ w = (.int (0 : Int32))) ∨ ((x0 = y0) ∧ (x1 = y1) ∧ (x2 = y2) ∧ w = (.int (1 : Int32))))) ∧ h' = h) h 0 0 0 #[.val (.ref a), .val (.ref b), .unset] []
  refine Wk.aloadN (q := 1) d3_0 rfl rfl rfl ?_
  refine Wk.instY (q := 4) (w_20 hw) (Ins.self xb) d3_1 rfl ?_
  refine Wk.ifcT (q := 9) d3_4 (by decide) rfl (by decide : ¬ (1 : Int32) = (0 : Int32)) ?_
  refine Wk.aloadN (q := 10) d3_9 rfl rfl rfl ?_
  refine Wk.castY (q := 13) (w_20 hw) (Ins.self xb) d3_10 rfl ?_
  refine Wk.astoreN (q := 14) (ls' := #[.val (.ref a), .val (.ref b), .val (.ref b)]) d3_13 rfl rfl rfl ?_
  refine Wk.aloadN (q := 15) d3_14 rfl rfl rfl ?_
  refine Wk.getF (q := 18) (w_9 hw) Via.refl fx0 d3_15 rfl ?_
  refine Wk.aloadN (q := 19) d3_18 rfl rfl rfl ?_
  refine Wk.getF (q := 22) (w_9 hw) Via.refl fy0 d3_19 rfl ?_
  refine Wk.icmp (q := 51) (q' := 25) d3_22 (by decide) rfl rfl (fun (h1 : ¬ x0 = y0) => ?_) (fun (h1 : x0 = y0) => ?_)
  · refine Wk.iconst (q := 52) (v := (0 : Int32)) d3_51 rfl rfl ?_
    exact Wk.retZ rfl rfl d3_52 (by decide) (by decide) ⟨⟨_, rfl, Or.inl ⟨h1, rfl⟩⟩, rfl⟩
  · refine Wk.aloadN (q := 26) d3_25 rfl rfl rfl ?_
    refine Wk.getF (q := 29) (w_11 hw) Via.refl fx1 d3_26 rfl ?_
    refine Wk.aloadN (q := 30) d3_29 rfl rfl rfl ?_
    refine Wk.getF (q := 33) (w_11 hw) Via.refl fy1 d3_30 rfl ?_
    refine Wk.icmp (q := 51) (q' := 36) d3_33 (by decide) rfl rfl (fun (h2 : ¬ x1 = y1) => ?_) (fun (h2 : x1 = y1) => ?_)
    · refine Wk.iconst (q := 52) (v := (0 : Int32)) d3_51 rfl rfl ?_
      exact Wk.retZ rfl rfl d3_52 (by decide) (by decide) ⟨⟨_, rfl, Or.inr (Or.inl ⟨h1, h2, rfl⟩)⟩, rfl⟩
    · refine Wk.aloadN (q := 37) d3_36 rfl rfl rfl ?_
      refine Wk.getF (q := 40) (w_13 hw) Via.refl fx2 d3_37 rfl ?_
      refine Wk.aloadN (q := 41) d3_40 rfl rfl rfl ?_
      refine Wk.getF (q := 44) (w_13 hw) Via.refl fy2 d3_41 rfl ?_
      refine Wk.icmp (q := 51) (q' := 47) d3_44 (by decide) rfl rfl (fun (h3 : ¬ x2 = y2) => ?_) (fun (h3 : x2 = y2) => ?_)
      · refine Wk.iconst (q := 52) (v := (0 : Int32)) d3_51 rfl rfl ?_
        exact Wk.retZ rfl rfl d3_52 (by decide) (by decide) ⟨⟨_, rfl, Or.inr (Or.inr (Or.inl ⟨h1, h2, h3, rfl⟩))⟩, rfl⟩
      · refine Wk.iconst (q := 48) (v := (1 : Int32)) d3_47 rfl rfl ?_
        refine Wk.goto (q := 52) d3_48 (by decide) rfl ?_
        exact Wk.retZ rfl rfl d3_52 (by decide) (by decide) ⟨⟨_, rfl, Or.inr (Or.inr (Or.inr (⟨h1, h2, h3, rfl⟩)))⟩, rfl⟩
set_option maxRecDepth 65536 in
set_option maxHeartbeats 40000000 in
theorem law_tail {l : Launch} {Z : State} {a0 : Array Value} {n0 : Nat} {a_C : Addr} {c_C : Cell} (hw : ∀ d ∈ tables_1, d.before a0 Z = true) (F0 : OwnF Z Z.heap a_C c_C) (O : Old Z n0 Z.heap) (p0 p1 p2 p3 p4 p5 u0 u1 u2 v0 v1 v2 md : Int32) (su0 : Sh u0) (su1 : Sh u1) (su2 : Sh u2) (sv0 : Sh v0) (sv1 : Sh v1) (sv2 : Sh v2) : Wk l Z n0 "com/example/saltwire/saltwire/protocol/ApiVersionRangeEqualsPinLaw" "law" code maxLocals ret room_1 16 128 (fun v _ => v = some (.int (1 : Int32))) Z.heap 0 0 75 #[.val (.int p0), .val (.int p1), .val (.int p2), .val (.int p3), .val (.int p4), .val (.int p5), .val (.int u0), .val (.int u1), .val (.int u2), .val (.int v0), .val (.int v1), .val (.int v2), .val (.int md), .unset, .unset, .unset] [] := by
  refine Wk.new (q := 78) (w_0 hw) (w_1 hw) (w_2 hw) at_75 rfl (by decide) (by decide) ?_
  intro h1 a1 g1 E1 xa1 D1
  have ge1 : n0 ≤ a1 := g1 ▸ own_ge O
  have O := O.ext E1
  have fa1_0 : Fld Z h1 a1 "com/example/saltwire/saltwire/protocol/ApiVersionRange" "apiKey" "S" (.int (0 : Int32)) := D1 (Or.inr (w_10 hw)) (ty := .short) (by decide)
  have fa1_1 : Fld Z h1 a1 "com/example/saltwire/saltwire/protocol/ApiVersionRange" "minVersion" "S" (.int (0 : Int32)) := D1 (Or.inr (w_12 hw)) (ty := .short) (by decide)
  have fa1_2 : Fld Z h1 a1 "com/example/saltwire/saltwire/protocol/ApiVersionRange" "maxVersion" "S" (.int (0 : Int32)) := D1 (Or.inr (w_14 hw)) (ty := .short) (by decide)
  refine Wk.dup (q := 79) at_78 rfl rfl ?_
  refine Wk.iload (q := 81) at_79 rfl rfl ?_
  refine Wk.iload (q := 83) at_81 rfl rfl ?_
  refine Wk.iload (q := 85) at_83 rfl rfl ?_
  refine Wk.special (q := 88) (a := a1) (argsL := [(.int u0), (.int u1), (.int u2)]) (rest := [(.ref a1)]) (rm := (⟨1, 0, 0, 12⟩ : Room)) (Q' := fun h' => Keep _ h' [a1] ∧ Exa Z h' a1 "com/example/saltwire/saltwire/protocol/ApiVersionRange" ∧ Fld Z h' a1 "com/example/saltwire/saltwire/protocol/ApiVersionRange" "apiKey" "S" (.int u0) ∧ Fld Z h' a1 "com/example/saltwire/saltwire/protocol/ApiVersionRange" "minVersion" "S" (.int u1) ∧ Fld Z h' a1 "com/example/saltwire/saltwire/protocol/ApiVersionRange" "maxVersion" "S" (.int u2)) (m_init hw u0 u1 u2 su0 su1 su2 ge1 xa1 fa1_0 fa1_1 fa1_2) rfl (w_3 hw) (w_4 hw) (w_5 hw) (w_2 hw) (by decide) pd_2 rfl rfl rfl at_85 rfl (W := 1) rfl (by decide) (by decide) (by decide) (by decide) ?_
  rintro h2 ⟨K2, xa1, fa1_0, fa1_1, fa1_2⟩
  have O := O.keep K2 (allS ge1 all0)
  refine Wk.astore (q := 90) (ls' := #[.val (.int p0), .val (.int p1), .val (.int p2), .val (.int p3), .val (.int p4), .val (.int p5), .val (.int u0), .val (.int u1), .val (.int u2), .val (.int v0), .val (.int v1), .val (.int v2), .val (.int md), .val (.ref a1), .unset, .unset]) at_88 rfl rfl rfl ?_
  refine Wk.aload (q := 92) at_90 rfl rfl rfl ?_
  refine Wk.aload (q := 94) at_92 rfl rfl rfl ?_
  refine Wk.callV2 (a := a1) (q := 97) (argsL := [(.ref a1)]) (rest := []) (fr := 0) (lo := 0) (P := fun w => ((¬ u0 = u0) ∧ w = (.int (0 : Int32))) ∨ ((u0 = u0) ∧ (¬ u1 = u1) ∧ w = (.int (0 : Int32))) ∨ ((u0 = u0) ∧ (u1 = u1) ∧ (¬ u2 = u2) ∧ w = (.int (0 : Int32))) ∨ ((u0 = u0) ∧ (u1 = u1) ∧ (u2 = u2) ∧ w = (.int (1 : Int32)))) (m_eq_same hw u0 u1 u2 u0 u1 u2 xa1 fa1_0 fa1_1 fa1_2 fa1_0 fa1_1 fa1_2) xa1 (w_15 hw) (w_16 hw) (w_18 hw) (w_17 hw) (w_19 hw) (w_2 hw) (by decide) pd_3 rfl rfl rfl at_94 rfl (W := 0) rfl (by decide) (by decide) (by decide) (by decide) ?_
  intro w1 hP; rcases hP with ⟨h2, rfl⟩ | ⟨h3, h4, rfl⟩ | ⟨h5, h6, h7, rfl⟩ | ⟨h8, h9, h10, rfl⟩
  · exact absurd rfl h2
  · exact absurd rfl h4
  · exact absurd rfl h7
  · refine Wk.ifcT (q := 102) at_97 (by decide) rfl (by decide : ¬ (1 : Int32) = (0 : Int32)) ?_
    refine Wk.iload (q := 104) at_102 rfl rfl ?_
    refine Wk.ifc (q := 122) (q' := 107) at_104 (by decide) rfl rfl (fun (h11 : ¬ md = (0 : Int32)) => ?_) (fun (h11 : md = (0 : Int32)) => ?_)
    · refine Wk.iload (q := 124) at_122 rfl rfl ?_
      refine Wk.iconst (q := 125) (v := (1 : Int32)) at_124 rfl rfl ?_
      refine Wk.icmp (q := 146) (q' := 128) at_125 (by decide) rfl rfl (fun (h12 : ¬ md = (1 : Int32)) => ?_) (fun (h12 : md = (1 : Int32)) => ?_)
      · refine Wk.new (q := 149) (w_0 hw) (w_1 hw) (w_2 hw) at_146 rfl (by decide) (by decide) ?_
        intro h1 a2 g2 E1 xa2 D1
        have ge2 : n0 ≤ a2 := g2 ▸ own_ge O
        have ne_a1_a2 : a1 ≠ a2 := Nat.ne_of_lt (Nat.lt_of_lt_of_eq xa1.lt g2.symm)
        have xa1 := xa1.ext E1
        have fa1_0 := fa1_0.ext E1
        have fa1_1 := fa1_1.ext E1
        have fa1_2 := fa1_2.ext E1
        have O := O.ext E1
        have fa2_0 : Fld Z h1 a2 "com/example/saltwire/saltwire/protocol/ApiVersionRange" "apiKey" "S" (.int (0 : Int32)) := D1 (Or.inr (w_10 hw)) (ty := .short) (by decide)
        have fa2_1 : Fld Z h1 a2 "com/example/saltwire/saltwire/protocol/ApiVersionRange" "minVersion" "S" (.int (0 : Int32)) := D1 (Or.inr (w_12 hw)) (ty := .short) (by decide)
        have fa2_2 : Fld Z h1 a2 "com/example/saltwire/saltwire/protocol/ApiVersionRange" "maxVersion" "S" (.int (0 : Int32)) := D1 (Or.inr (w_14 hw)) (ty := .short) (by decide)
        refine Wk.dup (q := 150) at_149 rfl rfl ?_
        refine Wk.iload (q := 152) at_150 rfl rfl ?_
        refine Wk.iload (q := 154) at_152 rfl rfl ?_
        refine Wk.iload (q := 156) at_154 rfl rfl ?_
        refine Wk.special (q := 159) (a := a2) (argsL := [(.int v0), (.int v1), (.int v2)]) (rest := [(.ref a2)]) (rm := (⟨1, 0, 0, 12⟩ : Room)) (Q' := fun h' => Keep _ h' [a2] ∧ Exa Z h' a2 "com/example/saltwire/saltwire/protocol/ApiVersionRange" ∧ Fld Z h' a2 "com/example/saltwire/saltwire/protocol/ApiVersionRange" "apiKey" "S" (.int v0) ∧ Fld Z h' a2 "com/example/saltwire/saltwire/protocol/ApiVersionRange" "minVersion" "S" (.int v1) ∧ Fld Z h' a2 "com/example/saltwire/saltwire/protocol/ApiVersionRange" "maxVersion" "S" (.int v2)) (m_init hw v0 v1 v2 sv0 sv1 sv2 ge2 xa2 fa2_0 fa2_1 fa2_2) rfl (w_3 hw) (w_4 hw) (w_5 hw) (w_2 hw) (by decide) pd_2 rfl rfl rfl at_156 rfl (W := 1) rfl (by decide) (by decide) (by decide) (by decide) ?_
        rintro h2 ⟨K2, xa2, fa2_0, fa2_1, fa2_2⟩
        have xa1 := xa1.keep K2
        have fa1_0 := fa1_0.keep K2 (ninS ne_a1_a2 nin0)
        have fa1_1 := fa1_1.keep K2 (ninS ne_a1_a2 nin0)
        have fa1_2 := fa1_2.keep K2 (ninS ne_a1_a2 nin0)
        have O := O.keep K2 (allS ge2 all0)
        refine Wk.astore (q := 161) (ls' := #[.val (.int p0), .val (.int p1), .val (.int p2), .val (.int p3), .val (.int p4), .val (.int p5), .val (.int u0), .val (.int u1), .val (.int u2), .val (.int v0), .val (.int v1), .val (.int v2), .val (.int md), .val (.ref a1), .val (.ref a2), .unset]) at_159 rfl rfl rfl ?_
        refine Wk.iload (q := 163) at_161 rfl rfl ?_
        refine Wk.iload (q := 165) at_163 rfl rfl ?_
        refine Wk.icmp (q := 186) (q' := 168) at_165 (by decide) rfl rfl (fun (h13 : ¬ u0 = v0) => ?_) (fun (h13 : u0 = v0) => ?_)
        · refine Wk.iconst (q := 187) (v := (0 : Int32)) at_186 rfl rfl ?_
          refine Wk.istore (q := 189) (ls' := #[.val (.int p0), .val (.int p1), .val (.int p2), .val (.int p3), .val (.int p4), .val (.int p5), .val (.int u0), .val (.int u1), .val (.int u2), .val (.int v0), .val (.int v1), .val (.int v2), .val (.int md), .val (.ref a1), .val (.ref a2), .val (.int (0 : Int32))]) at_187 rfl rfl ?_
          refine Wk.aload (q := 191) at_189 rfl rfl rfl ?_
          refine Wk.aload (q := 193) at_191 rfl rfl rfl ?_
          refine Wk.callV2 (a := a1) (q := 196) (argsL := [(.ref a2)]) (rest := []) (fr := 0) (lo := 0) (P := fun w => ((¬ u0 = v0) ∧ w = (.int (0 : Int32))) ∨ ((u0 = v0) ∧ (¬ u1 = v1) ∧ w = (.int (0 : Int32))) ∨ ((u0 = v0) ∧ (u1 = v1) ∧ (¬ u2 = v2) ∧ w = (.int (0 : Int32))) ∨ ((u0 = v0) ∧ (u1 = v1) ∧ (u2 = v2) ∧ w = (.int (1 : Int32)))) (m_eq_same hw u0 u1 u2 v0 v1 v2 xa2 fa1_0 fa1_1 fa1_2 fa2_0 fa2_1 fa2_2) xa1 (w_15 hw) (w_16 hw) (w_18 hw) (w_17 hw) (w_19 hw) (w_2 hw) (by decide) pd_3 rfl rfl rfl at_193 rfl (W := 0) rfl (by decide) (by decide) (by decide) (by decide) ?_
          intro w14 hP; rcases hP with ⟨h15, rfl⟩ | ⟨h16, h17, rfl⟩ | ⟨h18, h19, h20, rfl⟩ | ⟨h21, h22, h23, rfl⟩
          · refine Wk.iload (q := 198) at_196 rfl rfl ?_
            refine Wk.icmpF (q := 201) at_198 rfl (by decide : (0 : Int32) = (0 : Int32)) ?_
            refine Wk.aload (q := 203) at_201 rfl rfl rfl ?_
            refine Wk.aload (q := 205) at_203 rfl rfl rfl ?_
            refine Wk.callV2 (a := a2) (q := 208) (argsL := [(.ref a1)]) (rest := []) (fr := 0) (lo := 0) (P := fun w => ((¬ v0 = u0) ∧ w = (.int (0 : Int32))) ∨ ((v0 = u0) ∧ (¬ v1 = u1) ∧ w = (.int (0 : Int32))) ∨ ((v0 = u0) ∧ (v1 = u1) ∧ (¬ v2 = u2) ∧ w = (.int (0 : Int32))) ∨ ((v0 = u0) ∧ (v1 = u1) ∧ (v2 = u2) ∧ w = (.int (1 : Int32)))) (m_eq_same hw v0 v1 v2 u0 u1 u2 xa1 fa2_0 fa2_1 fa2_2 fa1_0 fa1_1 fa1_2) xa2 (w_15 hw) (w_16 hw) (w_18 hw) (w_17 hw) (w_19 hw) (w_2 hw) (by decide) pd_3 rfl rfl rfl at_205 rfl (W := 0) rfl (by decide) (by decide) (by decide) (by decide) ?_
            intro w24 hP; rcases hP with ⟨h25, rfl⟩ | ⟨h26, h27, rfl⟩ | ⟨h28, h29, h30, rfl⟩ | ⟨h31, h32, h33, rfl⟩
            · refine Wk.iload (q := 210) at_208 rfl rfl ?_
              refine Wk.icmpF (q := 213) at_210 rfl (by decide : (0 : Int32) = (0 : Int32)) ?_
              refine Wk.iconst (q := 214) (v := (1 : Int32)) at_213 rfl rfl ?_
              refine Wk.goto (q := 218) at_214 (by decide) rfl ?_
              exact Wk.retZ rfl rfl at_218 (by decide) (by decide) rfl
            · exact absurd (h26.symm) h15
            · exact absurd (h28.symm) h15
            · exact absurd (h31.symm) h15
          · exact absurd h16 h13
          · exact absurd h18 h13
          · exact absurd h21 h13
        · refine Wk.iload (q := 170) at_168 rfl rfl ?_
          refine Wk.iload (q := 172) at_170 rfl rfl ?_
          refine Wk.icmp (q := 186) (q' := 175) at_172 (by decide) rfl rfl (fun (h34 : ¬ u1 = v1) => ?_) (fun (h34 : u1 = v1) => ?_)
          · refine Wk.iconst (q := 187) (v := (0 : Int32)) at_186 rfl rfl ?_
            refine Wk.istore (q := 189) (ls' := #[.val (.int p0), .val (.int p1), .val (.int p2), .val (.int p3), .val (.int p4), .val (.int p5), .val (.int u0), .val (.int u1), .val (.int u2), .val (.int v0), .val (.int v1), .val (.int v2), .val (.int md), .val (.ref a1), .val (.ref a2), .val (.int (0 : Int32))]) at_187 rfl rfl ?_
            refine Wk.aload (q := 191) at_189 rfl rfl rfl ?_
            refine Wk.aload (q := 193) at_191 rfl rfl rfl ?_
            refine Wk.callV2 (a := a1) (q := 196) (argsL := [(.ref a2)]) (rest := []) (fr := 0) (lo := 0) (P := fun w => ((¬ u0 = v0) ∧ w = (.int (0 : Int32))) ∨ ((u0 = v0) ∧ (¬ u1 = v1) ∧ w = (.int (0 : Int32))) ∨ ((u0 = v0) ∧ (u1 = v1) ∧ (¬ u2 = v2) ∧ w = (.int (0 : Int32))) ∨ ((u0 = v0) ∧ (u1 = v1) ∧ (u2 = v2) ∧ w = (.int (1 : Int32)))) (m_eq_same hw u0 u1 u2 v0 v1 v2 xa2 fa1_0 fa1_1 fa1_2 fa2_0 fa2_1 fa2_2) xa1 (w_15 hw) (w_16 hw) (w_18 hw) (w_17 hw) (w_19 hw) (w_2 hw) (by decide) pd_3 rfl rfl rfl at_193 rfl (W := 0) rfl (by decide) (by decide) (by decide) (by decide) ?_
            intro w35 hP; rcases hP with ⟨h36, rfl⟩ | ⟨h37, h38, rfl⟩ | ⟨h39, h40, h41, rfl⟩ | ⟨h42, h43, h44, rfl⟩
            · exact absurd h13 h36
            · refine Wk.iload (q := 198) at_196 rfl rfl ?_
              refine Wk.icmpF (q := 201) at_198 rfl (by decide : (0 : Int32) = (0 : Int32)) ?_
              refine Wk.aload (q := 203) at_201 rfl rfl rfl ?_
              refine Wk.aload (q := 205) at_203 rfl rfl rfl ?_
              refine Wk.callV2 (a := a2) (q := 208) (argsL := [(.ref a1)]) (rest := []) (fr := 0) (lo := 0) (P := fun w => ((¬ v0 = u0) ∧ w = (.int (0 : Int32))) ∨ ((v0 = u0) ∧ (¬ v1 = u1) ∧ w = (.int (0 : Int32))) ∨ ((v0 = u0) ∧ (v1 = u1) ∧ (¬ v2 = u2) ∧ w = (.int (0 : Int32))) ∨ ((v0 = u0) ∧ (v1 = u1) ∧ (v2 = u2) ∧ w = (.int (1 : Int32)))) (m_eq_same hw v0 v1 v2 u0 u1 u2 xa1 fa2_0 fa2_1 fa2_2 fa1_0 fa1_1 fa1_2) xa2 (w_15 hw) (w_16 hw) (w_18 hw) (w_17 hw) (w_19 hw) (w_2 hw) (by decide) pd_3 rfl rfl rfl at_205 rfl (W := 0) rfl (by decide) (by decide) (by decide) (by decide) ?_
              intro w45 hP; rcases hP with ⟨h46, rfl⟩ | ⟨h47, h48, rfl⟩ | ⟨h49, h50, h51, rfl⟩ | ⟨h52, h53, h54, rfl⟩
              · exact absurd (h37.symm) h46
              · refine Wk.iload (q := 210) at_208 rfl rfl ?_
                refine Wk.icmpF (q := 213) at_210 rfl (by decide : (0 : Int32) = (0 : Int32)) ?_
                refine Wk.iconst (q := 214) (v := (1 : Int32)) at_213 rfl rfl ?_
                refine Wk.goto (q := 218) at_214 (by decide) rfl ?_
                exact Wk.retZ rfl rfl at_218 (by decide) (by decide) rfl
              · exact absurd (h50.symm) h38
              · exact absurd (h53.symm) h38
            · exact absurd h40 h34
            · exact absurd h43 h34
          · refine Wk.iload (q := 177) at_175 rfl rfl ?_
            refine Wk.iload (q := 179) at_177 rfl rfl ?_
            refine Wk.icmp (q := 186) (q' := 182) at_179 (by decide) rfl rfl (fun (h55 : ¬ u2 = v2) => ?_) (fun (h55 : u2 = v2) => ?_)
            · refine Wk.iconst (q := 187) (v := (0 : Int32)) at_186 rfl rfl ?_
              refine Wk.istore (q := 189) (ls' := #[.val (.int p0), .val (.int p1), .val (.int p2), .val (.int p3), .val (.int p4), .val (.int p5), .val (.int u0), .val (.int u1), .val (.int u2), .val (.int v0), .val (.int v1), .val (.int v2), .val (.int md), .val (.ref a1), .val (.ref a2), .val (.int (0 : Int32))]) at_187 rfl rfl ?_
              refine Wk.aload (q := 191) at_189 rfl rfl rfl ?_
              refine Wk.aload (q := 193) at_191 rfl rfl rfl ?_
              refine Wk.callV2 (a := a1) (q := 196) (argsL := [(.ref a2)]) (rest := []) (fr := 0) (lo := 0) (P := fun w => ((¬ u0 = v0) ∧ w = (.int (0 : Int32))) ∨ ((u0 = v0) ∧ (¬ u1 = v1) ∧ w = (.int (0 : Int32))) ∨ ((u0 = v0) ∧ (u1 = v1) ∧ (¬ u2 = v2) ∧ w = (.int (0 : Int32))) ∨ ((u0 = v0) ∧ (u1 = v1) ∧ (u2 = v2) ∧ w = (.int (1 : Int32)))) (m_eq_same hw u0 u1 u2 v0 v1 v2 xa2 fa1_0 fa1_1 fa1_2 fa2_0 fa2_1 fa2_2) xa1 (w_15 hw) (w_16 hw) (w_18 hw) (w_17 hw) (w_19 hw) (w_2 hw) (by decide) pd_3 rfl rfl rfl at_193 rfl (W := 0) rfl (by decide) (by decide) (by decide) (by decide) ?_
              intro w56 hP; rcases hP with ⟨h57, rfl⟩ | ⟨h58, h59, rfl⟩ | ⟨h60, h61, h62, rfl⟩ | ⟨h63, h64, h65, rfl⟩
              · exact absurd h13 h57
              · exact absurd h34 h59
              · refine Wk.iload (q := 198) at_196 rfl rfl ?_
                refine Wk.icmpF (q := 201) at_198 rfl (by decide : (0 : Int32) = (0 : Int32)) ?_
                refine Wk.aload (q := 203) at_201 rfl rfl rfl ?_
                refine Wk.aload (q := 205) at_203 rfl rfl rfl ?_
                refine Wk.callV2 (a := a2) (q := 208) (argsL := [(.ref a1)]) (rest := []) (fr := 0) (lo := 0) (P := fun w => ((¬ v0 = u0) ∧ w = (.int (0 : Int32))) ∨ ((v0 = u0) ∧ (¬ v1 = u1) ∧ w = (.int (0 : Int32))) ∨ ((v0 = u0) ∧ (v1 = u1) ∧ (¬ v2 = u2) ∧ w = (.int (0 : Int32))) ∨ ((v0 = u0) ∧ (v1 = u1) ∧ (v2 = u2) ∧ w = (.int (1 : Int32)))) (m_eq_same hw v0 v1 v2 u0 u1 u2 xa1 fa2_0 fa2_1 fa2_2 fa1_0 fa1_1 fa1_2) xa2 (w_15 hw) (w_16 hw) (w_18 hw) (w_17 hw) (w_19 hw) (w_2 hw) (by decide) pd_3 rfl rfl rfl at_205 rfl (W := 0) rfl (by decide) (by decide) (by decide) (by decide) ?_
                intro w66 hP; rcases hP with ⟨h67, rfl⟩ | ⟨h68, h69, rfl⟩ | ⟨h70, h71, h72, rfl⟩ | ⟨h73, h74, h75, rfl⟩
                · exact absurd (h60.symm) h67
                · exact absurd (h61.symm) h69
                · refine Wk.iload (q := 210) at_208 rfl rfl ?_
                  refine Wk.icmpF (q := 213) at_210 rfl (by decide : (0 : Int32) = (0 : Int32)) ?_
                  refine Wk.iconst (q := 214) (v := (1 : Int32)) at_213 rfl rfl ?_
                  refine Wk.goto (q := 218) at_214 (by decide) rfl ?_
                  exact Wk.retZ rfl rfl at_218 (by decide) (by decide) rfl
                · exact absurd (h75.symm) h62
              · exact absurd h65 h55
            · refine Wk.iconst (q := 183) (v := (1 : Int32)) at_182 rfl rfl ?_
              refine Wk.goto (q := 187) at_183 (by decide) rfl ?_
              refine Wk.istore (q := 189) (ls' := #[.val (.int p0), .val (.int p1), .val (.int p2), .val (.int p3), .val (.int p4), .val (.int p5), .val (.int u0), .val (.int u1), .val (.int u2), .val (.int v0), .val (.int v1), .val (.int v2), .val (.int md), .val (.ref a1), .val (.ref a2), .val (.int (1 : Int32))]) at_187 rfl rfl ?_
              refine Wk.aload (q := 191) at_189 rfl rfl rfl ?_
              refine Wk.aload (q := 193) at_191 rfl rfl rfl ?_
              refine Wk.callV2 (a := a1) (q := 196) (argsL := [(.ref a2)]) (rest := []) (fr := 0) (lo := 0) (P := fun w => ((¬ u0 = v0) ∧ w = (.int (0 : Int32))) ∨ ((u0 = v0) ∧ (¬ u1 = v1) ∧ w = (.int (0 : Int32))) ∨ ((u0 = v0) ∧ (u1 = v1) ∧ (¬ u2 = v2) ∧ w = (.int (0 : Int32))) ∨ ((u0 = v0) ∧ (u1 = v1) ∧ (u2 = v2) ∧ w = (.int (1 : Int32)))) (m_eq_same hw u0 u1 u2 v0 v1 v2 xa2 fa1_0 fa1_1 fa1_2 fa2_0 fa2_1 fa2_2) xa1 (w_15 hw) (w_16 hw) (w_18 hw) (w_17 hw) (w_19 hw) (w_2 hw) (by decide) pd_3 rfl rfl rfl at_193 rfl (W := 0) rfl (by decide) (by decide) (by decide) (by decide) ?_
              intro w76 hP; rcases hP with ⟨h77, rfl⟩ | ⟨h78, h79, rfl⟩ | ⟨h80, h81, h82, rfl⟩ | ⟨h83, h84, h85, rfl⟩
              · exact absurd h13 h77
              · exact absurd h34 h79
              · exact absurd h55 h82
              · refine Wk.iload (q := 198) at_196 rfl rfl ?_
                refine Wk.icmpF (q := 201) at_198 rfl (by decide : (1 : Int32) = (1 : Int32)) ?_
                refine Wk.aload (q := 203) at_201 rfl rfl rfl ?_
                refine Wk.aload (q := 205) at_203 rfl rfl rfl ?_
                refine Wk.callV2 (a := a2) (q := 208) (argsL := [(.ref a1)]) (rest := []) (fr := 0) (lo := 0) (P := fun w => ((¬ v0 = u0) ∧ w = (.int (0 : Int32))) ∨ ((v0 = u0) ∧ (¬ v1 = u1) ∧ w = (.int (0 : Int32))) ∨ ((v0 = u0) ∧ (v1 = u1) ∧ (¬ v2 = u2) ∧ w = (.int (0 : Int32))) ∨ ((v0 = u0) ∧ (v1 = u1) ∧ (v2 = u2) ∧ w = (.int (1 : Int32)))) (m_eq_same hw v0 v1 v2 u0 u1 u2 xa1 fa2_0 fa2_1 fa2_2 fa1_0 fa1_1 fa1_2) xa2 (w_15 hw) (w_16 hw) (w_18 hw) (w_17 hw) (w_19 hw) (w_2 hw) (by decide) pd_3 rfl rfl rfl at_205 rfl (W := 0) rfl (by decide) (by decide) (by decide) (by decide) ?_
                intro w86 hP; rcases hP with ⟨h87, rfl⟩ | ⟨h88, h89, rfl⟩ | ⟨h90, h91, h92, rfl⟩ | ⟨h93, h94, h95, rfl⟩
                · exact absurd (h83.symm) h87
                · exact absurd (h84.symm) h89
                · exact absurd (h85.symm) h92
                · refine Wk.iload (q := 210) at_208 rfl rfl ?_
                  refine Wk.icmpF (q := 213) at_210 rfl (by decide : (1 : Int32) = (1 : Int32)) ?_
                  refine Wk.iconst (q := 214) (v := (1 : Int32)) at_213 rfl rfl ?_
                  refine Wk.goto (q := 218) at_214 (by decide) rfl ?_
                  exact Wk.retZ rfl rfl at_218 (by decide) (by decide) rfl
      · refine Wk.aload (q := 130) at_128 rfl rfl rfl ?_
        refine Wk.iloadN (q := 131) at_130 rfl rfl ?_
        have F := F0.ext O.2
        refine Wk.callS (q := 134) (argsL := [(.int p0)]) (rest := [(.ref a1)]) (rm := (⟨3, 1, 1, 38⟩ : Room)) (Q' := fun w h' => ∃ b, w = .ref b ∧ Exa Z h' b "java/lang/Integer" ∧ Keep _ h' []) (m_val hw F (own_ge O) p0) (w_22 hw) (w_23 hw) (w_24 hw) (w_25 hw) (by decide) pd_4 rfl rfl rfl at_131 rfl (W := 1) rfl (by decide) (by decide) (by decide) (by decide) ?_
        rintro _ h2 ⟨bI, rfl, xI, K2⟩
        have xa1 := xa1.keep K2
        have fa1_0 := fa1_0.keep K2 nin0
        have fa1_1 := fa1_1.keep K2 nin0
        have fa1_2 := fa1_2.keep K2 nin0
        have O := O.keep K2 all0
        refine Wk.callV1 (a := a1) (q := 137) (argsL := [(.ref bI)]) (rest := []) (fr := 0) (lo := 0) (v0 := (.int (0 : Int32))) (m_eq_int hw xI) xa1 (w_15 hw) (w_16 hw) (w_18 hw) (w_17 hw) (w_19 hw) (w_2 hw) (by decide) pd_3 rfl rfl rfl at_134 rfl (W := 0) rfl (by decide) (by decide) (by decide) (by decide) ?_
        refine Wk.ifcF (q := 140) at_137 rfl (by decide : (0 : Int32) = (0 : Int32)) ?_
        refine Wk.iconst (q := 141) (v := (1 : Int32)) at_140 rfl rfl ?_
        refine Wk.goto (q := 145) at_141 (by decide) rfl ?_
        exact Wk.retZ rfl rfl at_145 (by decide) (by decide) rfl
    · refine Wk.aload (q := 109) at_107 rfl rfl rfl ?_
      refine Wk.null (q := 110) at_109 rfl ?_
      refine Wk.callV1 (a := a1) (q := 113) (argsL := [.null]) (rest := []) (fr := 0) (lo := 0) (v0 := (.int (0 : Int32))) (m_eq_null hw) xa1 (w_15 hw) (w_16 hw) (w_18 hw) (w_17 hw) (w_19 hw) (w_2 hw) (by decide) pd_3 rfl rfl rfl at_110 rfl (W := 0) rfl (by decide) (by decide) (by decide) (by decide) ?_
      refine Wk.ifcF (q := 116) at_113 rfl (by decide : (0 : Int32) = (0 : Int32)) ?_
      refine Wk.iconst (q := 117) (v := (1 : Int32)) at_116 rfl rfl ?_
      refine Wk.goto (q := 121) at_117 (by decide) rfl ?_
      exact Wk.retZ rfl rfl at_121 (by decide) (by decide) rfl
set_option maxRecDepth 65536 in
set_option maxHeartbeats 40000000 in
theorem law_all {l : Launch} {Z : State} {a0 : Array Value} {n0 : Nat} {a_C : Addr} {c_C : Cell} (hw : ∀ d ∈ tables_1, d.before a0 Z = true) (F0 : OwnF Z Z.heap a_C c_C) (O : Old Z n0 Z.heap) (p0 p1 p2 p3 p4 p5 : Int32) : Met l Z n0 x code maxLocals ret room_1 #[(.int p0), (.int p1), (.int p2), (.int p3), (.int p4), (.int p5)] Z.heap (fun v _ => v = some (.int (1 : Int32))) := by
  refine Met.of_wk (ls := #[.val (.int p0), .val (.int p1), .val (.int p2), .val (.int p3), .val (.int p4), .val (.int p5), .unset, .unset, .unset, .unset, .unset, .unset, .unset, .unset, .unset, .unset]) (plainFor_of_name pn_3) (fun _ => rfl) ?_
  show Wk l Z n0 "com/example/saltwire/saltwire/protocol/ApiVersionRangeEqualsPinLaw" "law" code maxLocals ret room_1 16 128 (fun v _ => v = some (.int (1 : Int32))) Z.heap 0 0 0 #[.val (.int p0), .val (.int p1), .val (.int p2), .val (.int p3), .val (.int p4), .val (.int p5), .unset, .unset, .unset, .unset, .unset, .unset, .unset, .unset, .unset, .unset] []
  refine Wk.iloadN (q := 1) at_0 rfl rfl ?_
  refine Wk.i2s (q := 2) (v := p0.toInt16.toInt32) at_1 rfl rfl ?_
  refine Wk.istore (q := 4) (ls' := #[.val (.int p0), .val (.int p1), .val (.int p2), .val (.int p3), .val (.int p4), .val (.int p5), .val (.int p0.toInt16.toInt32), .unset, .unset, .unset, .unset, .unset, .unset, .unset, .unset, .unset]) at_2 rfl rfl ?_
  refine Wk.iloadN (q := 5) at_4 rfl rfl ?_
  refine Wk.i2s (q := 6) (v := p1.toInt16.toInt32) at_5 rfl rfl ?_
  refine Wk.istore (q := 8) (ls' := #[.val (.int p0), .val (.int p1), .val (.int p2), .val (.int p3), .val (.int p4), .val (.int p5), .val (.int p0.toInt16.toInt32), .val (.int p1.toInt16.toInt32), .unset, .unset, .unset, .unset, .unset, .unset, .unset, .unset]) at_6 rfl rfl ?_
  refine Wk.iloadN (q := 9) at_8 rfl rfl ?_
  refine Wk.i2s (q := 10) (v := p2.toInt16.toInt32) at_9 rfl rfl ?_
  refine Wk.istore (q := 12) (ls' := #[.val (.int p0), .val (.int p1), .val (.int p2), .val (.int p3), .val (.int p4), .val (.int p5), .val (.int p0.toInt16.toInt32), .val (.int p1.toInt16.toInt32), .val (.int p2.toInt16.toInt32), .unset, .unset, .unset, .unset, .unset, .unset, .unset]) at_10 rfl rfl ?_
  refine Wk.iloadN (q := 13) at_12 rfl rfl ?_
  refine Wk.iconst (q := 14) (v := (1 : Int32)) at_13 rfl rfl ?_
  refine Wk.iand (q := 15) (v := (p3 &&& (1 : Int32))) at_14 rfl rfl ?_
  refine Wk.ifc (q := 23) (q' := 18) at_15 (by decide) rfl rfl (fun (h1 : ¬ (p3 &&& (1 : Int32)) = (0 : Int32)) => ?_) (fun (h1 : (p3 &&& (1 : Int32)) = (0 : Int32)) => ?_)
  · refine Wk.iloadN (q := 24) at_23 rfl rfl ?_
    refine Wk.iconst (q := 25) (v := (1 : Int32)) at_24 rfl rfl ?_
    refine Wk.ishr (q := 26) (v := (p3 >>> ((1 : Int32) &&& 31))) at_25 rfl rfl ?_
    refine Wk.i2s (q := 27) (v := (p3 >>> ((1 : Int32) &&& 31)).toInt16.toInt32) at_26 rfl rfl ?_
    refine Wk.istore (q := 29) (ls' := #[.val (.int p0), .val (.int p1), .val (.int p2), .val (.int p3), .val (.int p4), .val (.int p5), .val (.int p0.toInt16.toInt32), .val (.int p1.toInt16.toInt32), .val (.int p2.toInt16.toInt32), .val (.int (p3 >>> ((1 : Int32) &&& 31)).toInt16.toInt32), .unset, .unset, .unset, .unset, .unset, .unset]) at_27 rfl rfl ?_
    refine Wk.iload (q := 31) at_29 rfl rfl ?_
    refine Wk.iconst (q := 32) (v := (1 : Int32)) at_31 rfl rfl ?_
    refine Wk.iand (q := 33) (v := (p4 &&& (1 : Int32))) at_32 rfl rfl ?_
    refine Wk.ifc (q := 41) (q' := 36) at_33 (by decide) rfl rfl (fun (h2 : ¬ (p4 &&& (1 : Int32)) = (0 : Int32)) => ?_) (fun (h2 : (p4 &&& (1 : Int32)) = (0 : Int32)) => ?_)
    · refine Wk.iload (q := 43) at_41 rfl rfl ?_
      refine Wk.iconst (q := 44) (v := (1 : Int32)) at_43 rfl rfl ?_
      refine Wk.ishr (q := 45) (v := (p4 >>> ((1 : Int32) &&& 31))) at_44 rfl rfl ?_
      refine Wk.i2s (q := 46) (v := (p4 >>> ((1 : Int32) &&& 31)).toInt16.toInt32) at_45 rfl rfl ?_
      refine Wk.istore (q := 48) (ls' := #[.val (.int p0), .val (.int p1), .val (.int p2), .val (.int p3), .val (.int p4), .val (.int p5), .val (.int p0.toInt16.toInt32), .val (.int p1.toInt16.toInt32), .val (.int p2.toInt16.toInt32), .val (.int (p3 >>> ((1 : Int32) &&& 31)).toInt16.toInt32), .val (.int (p4 >>> ((1 : Int32) &&& 31)).toInt16.toInt32), .unset, .unset, .unset, .unset, .unset]) at_46 rfl rfl ?_
      refine Wk.iload (q := 50) at_48 rfl rfl ?_
      refine Wk.iconst (q := 51) (v := (1 : Int32)) at_50 rfl rfl ?_
      refine Wk.iand (q := 52) (v := (p5 &&& (1 : Int32))) at_51 rfl rfl ?_
      refine Wk.ifc (q := 60) (q' := 55) at_52 (by decide) rfl rfl (fun (h3 : ¬ (p5 &&& (1 : Int32)) = (0 : Int32)) => ?_) (fun (h3 : (p5 &&& (1 : Int32)) = (0 : Int32)) => ?_)
      · refine Wk.iload (q := 62) at_60 rfl rfl ?_
        refine Wk.iconst (q := 63) (v := (1 : Int32)) at_62 rfl rfl ?_
        refine Wk.ishr (q := 64) (v := (p5 >>> ((1 : Int32) &&& 31))) at_63 rfl rfl ?_
        refine Wk.i2s (q := 65) (v := (p5 >>> ((1 : Int32) &&& 31)).toInt16.toInt32) at_64 rfl rfl ?_
        refine Wk.istore (q := 67) (ls' := #[.val (.int p0), .val (.int p1), .val (.int p2), .val (.int p3), .val (.int p4), .val (.int p5), .val (.int p0.toInt16.toInt32), .val (.int p1.toInt16.toInt32), .val (.int p2.toInt16.toInt32), .val (.int (p3 >>> ((1 : Int32) &&& 31)).toInt16.toInt32), .val (.int (p4 >>> ((1 : Int32) &&& 31)).toInt16.toInt32), .val (.int (p5 >>> ((1 : Int32) &&& 31)).toInt16.toInt32), .unset, .unset, .unset, .unset]) at_65 rfl rfl ?_
        refine Wk.iloadN (q := 68) at_67 rfl rfl ?_
        refine Wk.bipush (q := 70) (v := (17 : Int32)) at_68 rfl rfl ?_
        refine Wk.iushr (q := 71) (v := (XT.ushr p3 (17 : Int32))) at_70 rfl rfl ?_
        refine Wk.iconst (q := 72) (v := (3 : Int32)) at_71 rfl rfl ?_
        refine Wk.iand (q := 73) (v := ((XT.ushr p3 (17 : Int32)) &&& (3 : Int32))) at_72 rfl rfl ?_
        refine Wk.istore (q := 75) (ls' := #[.val (.int p0), .val (.int p1), .val (.int p2), .val (.int p3), .val (.int p4), .val (.int p5), .val (.int p0.toInt16.toInt32), .val (.int p1.toInt16.toInt32), .val (.int p2.toInt16.toInt32), .val (.int (p3 >>> ((1 : Int32) &&& 31)).toInt16.toInt32), .val (.int (p4 >>> ((1 : Int32) &&& 31)).toInt16.toInt32), .val (.int (p5 >>> ((1 : Int32) &&& 31)).toInt16.toInt32), .val (.int ((XT.ushr p3 (17 : Int32)) &&& (3 : Int32))), .unset, .unset, .unset]) at_73 rfl rfl ?_
        exact law_tail hw F0 O p0 p1 p2 p3 p4 p5 p0.toInt16.toInt32 p1.toInt16.toInt32 p2.toInt16.toInt32 (p3 >>> ((1 : Int32) &&& 31)).toInt16.toInt32 (p4 >>> ((1 : Int32) &&& 31)).toInt16.toInt32 (p5 >>> ((1 : Int32) &&& 31)).toInt16.toInt32 ((XT.ushr p3 (17 : Int32)) &&& (3 : Int32)) (own_sh _) (own_sh _) (own_sh _) (own_sh _) (own_sh _) (own_sh _)
      · refine Wk.iload (q := 57) at_55 rfl rfl ?_
        refine Wk.goto (q := 65) at_57 (by decide) rfl ?_
        refine Wk.istore (q := 67) (ls' := #[.val (.int p0), .val (.int p1), .val (.int p2), .val (.int p3), .val (.int p4), .val (.int p5), .val (.int p0.toInt16.toInt32), .val (.int p1.toInt16.toInt32), .val (.int p2.toInt16.toInt32), .val (.int (p3 >>> ((1 : Int32) &&& 31)).toInt16.toInt32), .val (.int (p4 >>> ((1 : Int32) &&& 31)).toInt16.toInt32), .val (.int p2.toInt16.toInt32), .unset, .unset, .unset, .unset]) at_65 rfl rfl ?_
        refine Wk.iloadN (q := 68) at_67 rfl rfl ?_
        refine Wk.bipush (q := 70) (v := (17 : Int32)) at_68 rfl rfl ?_
        refine Wk.iushr (q := 71) (v := (XT.ushr p3 (17 : Int32))) at_70 rfl rfl ?_
        refine Wk.iconst (q := 72) (v := (3 : Int32)) at_71 rfl rfl ?_
        refine Wk.iand (q := 73) (v := ((XT.ushr p3 (17 : Int32)) &&& (3 : Int32))) at_72 rfl rfl ?_
        refine Wk.istore (q := 75) (ls' := #[.val (.int p0), .val (.int p1), .val (.int p2), .val (.int p3), .val (.int p4), .val (.int p5), .val (.int p0.toInt16.toInt32), .val (.int p1.toInt16.toInt32), .val (.int p2.toInt16.toInt32), .val (.int (p3 >>> ((1 : Int32) &&& 31)).toInt16.toInt32), .val (.int (p4 >>> ((1 : Int32) &&& 31)).toInt16.toInt32), .val (.int p2.toInt16.toInt32), .val (.int ((XT.ushr p3 (17 : Int32)) &&& (3 : Int32))), .unset, .unset, .unset]) at_73 rfl rfl ?_
        exact law_tail hw F0 O p0 p1 p2 p3 p4 p5 p0.toInt16.toInt32 p1.toInt16.toInt32 p2.toInt16.toInt32 (p3 >>> ((1 : Int32) &&& 31)).toInt16.toInt32 (p4 >>> ((1 : Int32) &&& 31)).toInt16.toInt32 p2.toInt16.toInt32 ((XT.ushr p3 (17 : Int32)) &&& (3 : Int32)) (own_sh _) (own_sh _) (own_sh _) (own_sh _) (own_sh _) (own_sh _)
    · refine Wk.iload (q := 38) at_36 rfl rfl ?_
      refine Wk.goto (q := 46) at_38 (by decide) rfl ?_
      refine Wk.istore (q := 48) (ls' := #[.val (.int p0), .val (.int p1), .val (.int p2), .val (.int p3), .val (.int p4), .val (.int p5), .val (.int p0.toInt16.toInt32), .val (.int p1.toInt16.toInt32), .val (.int p2.toInt16.toInt32), .val (.int (p3 >>> ((1 : Int32) &&& 31)).toInt16.toInt32), .val (.int p1.toInt16.toInt32), .unset, .unset, .unset, .unset, .unset]) at_46 rfl rfl ?_
      refine Wk.iload (q := 50) at_48 rfl rfl ?_
      refine Wk.iconst (q := 51) (v := (1 : Int32)) at_50 rfl rfl ?_
      refine Wk.iand (q := 52) (v := (p5 &&& (1 : Int32))) at_51 rfl rfl ?_
      refine Wk.ifc (q := 60) (q' := 55) at_52 (by decide) rfl rfl (fun (h4 : ¬ (p5 &&& (1 : Int32)) = (0 : Int32)) => ?_) (fun (h4 : (p5 &&& (1 : Int32)) = (0 : Int32)) => ?_)
      · refine Wk.iload (q := 62) at_60 rfl rfl ?_
        refine Wk.iconst (q := 63) (v := (1 : Int32)) at_62 rfl rfl ?_
        refine Wk.ishr (q := 64) (v := (p5 >>> ((1 : Int32) &&& 31))) at_63 rfl rfl ?_
        refine Wk.i2s (q := 65) (v := (p5 >>> ((1 : Int32) &&& 31)).toInt16.toInt32) at_64 rfl rfl ?_
        refine Wk.istore (q := 67) (ls' := #[.val (.int p0), .val (.int p1), .val (.int p2), .val (.int p3), .val (.int p4), .val (.int p5), .val (.int p0.toInt16.toInt32), .val (.int p1.toInt16.toInt32), .val (.int p2.toInt16.toInt32), .val (.int (p3 >>> ((1 : Int32) &&& 31)).toInt16.toInt32), .val (.int p1.toInt16.toInt32), .val (.int (p5 >>> ((1 : Int32) &&& 31)).toInt16.toInt32), .unset, .unset, .unset, .unset]) at_65 rfl rfl ?_
        refine Wk.iloadN (q := 68) at_67 rfl rfl ?_
        refine Wk.bipush (q := 70) (v := (17 : Int32)) at_68 rfl rfl ?_
        refine Wk.iushr (q := 71) (v := (XT.ushr p3 (17 : Int32))) at_70 rfl rfl ?_
        refine Wk.iconst (q := 72) (v := (3 : Int32)) at_71 rfl rfl ?_
        refine Wk.iand (q := 73) (v := ((XT.ushr p3 (17 : Int32)) &&& (3 : Int32))) at_72 rfl rfl ?_
        refine Wk.istore (q := 75) (ls' := #[.val (.int p0), .val (.int p1), .val (.int p2), .val (.int p3), .val (.int p4), .val (.int p5), .val (.int p0.toInt16.toInt32), .val (.int p1.toInt16.toInt32), .val (.int p2.toInt16.toInt32), .val (.int (p3 >>> ((1 : Int32) &&& 31)).toInt16.toInt32), .val (.int p1.toInt16.toInt32), .val (.int (p5 >>> ((1 : Int32) &&& 31)).toInt16.toInt32), .val (.int ((XT.ushr p3 (17 : Int32)) &&& (3 : Int32))), .unset, .unset, .unset]) at_73 rfl rfl ?_
        exact law_tail hw F0 O p0 p1 p2 p3 p4 p5 p0.toInt16.toInt32 p1.toInt16.toInt32 p2.toInt16.toInt32 (p3 >>> ((1 : Int32) &&& 31)).toInt16.toInt32 p1.toInt16.toInt32 (p5 >>> ((1 : Int32) &&& 31)).toInt16.toInt32 ((XT.ushr p3 (17 : Int32)) &&& (3 : Int32)) (own_sh _) (own_sh _) (own_sh _) (own_sh _) (own_sh _) (own_sh _)
      · refine Wk.iload (q := 57) at_55 rfl rfl ?_
        refine Wk.goto (q := 65) at_57 (by decide) rfl ?_
        refine Wk.istore (q := 67) (ls' := #[.val (.int p0), .val (.int p1), .val (.int p2), .val (.int p3), .val (.int p4), .val (.int p5), .val (.int p0.toInt16.toInt32), .val (.int p1.toInt16.toInt32), .val (.int p2.toInt16.toInt32), .val (.int (p3 >>> ((1 : Int32) &&& 31)).toInt16.toInt32), .val (.int p1.toInt16.toInt32), .val (.int p2.toInt16.toInt32), .unset, .unset, .unset, .unset]) at_65 rfl rfl ?_
        refine Wk.iloadN (q := 68) at_67 rfl rfl ?_
        refine Wk.bipush (q := 70) (v := (17 : Int32)) at_68 rfl rfl ?_
        refine Wk.iushr (q := 71) (v := (XT.ushr p3 (17 : Int32))) at_70 rfl rfl ?_
        refine Wk.iconst (q := 72) (v := (3 : Int32)) at_71 rfl rfl ?_
        refine Wk.iand (q := 73) (v := ((XT.ushr p3 (17 : Int32)) &&& (3 : Int32))) at_72 rfl rfl ?_
        refine Wk.istore (q := 75) (ls' := #[.val (.int p0), .val (.int p1), .val (.int p2), .val (.int p3), .val (.int p4), .val (.int p5), .val (.int p0.toInt16.toInt32), .val (.int p1.toInt16.toInt32), .val (.int p2.toInt16.toInt32), .val (.int (p3 >>> ((1 : Int32) &&& 31)).toInt16.toInt32), .val (.int p1.toInt16.toInt32), .val (.int p2.toInt16.toInt32), .val (.int ((XT.ushr p3 (17 : Int32)) &&& (3 : Int32))), .unset, .unset, .unset]) at_73 rfl rfl ?_
        exact law_tail hw F0 O p0 p1 p2 p3 p4 p5 p0.toInt16.toInt32 p1.toInt16.toInt32 p2.toInt16.toInt32 (p3 >>> ((1 : Int32) &&& 31)).toInt16.toInt32 p1.toInt16.toInt32 p2.toInt16.toInt32 ((XT.ushr p3 (17 : Int32)) &&& (3 : Int32)) (own_sh _) (own_sh _) (own_sh _) (own_sh _) (own_sh _) (own_sh _)
  · refine Wk.iload (q := 20) at_18 rfl rfl ?_
    refine Wk.goto (q := 27) at_20 (by decide) rfl ?_
    refine Wk.istore (q := 29) (ls' := #[.val (.int p0), .val (.int p1), .val (.int p2), .val (.int p3), .val (.int p4), .val (.int p5), .val (.int p0.toInt16.toInt32), .val (.int p1.toInt16.toInt32), .val (.int p2.toInt16.toInt32), .val (.int p0.toInt16.toInt32), .unset, .unset, .unset, .unset, .unset, .unset]) at_27 rfl rfl ?_
    refine Wk.iload (q := 31) at_29 rfl rfl ?_
    refine Wk.iconst (q := 32) (v := (1 : Int32)) at_31 rfl rfl ?_
    refine Wk.iand (q := 33) (v := (p4 &&& (1 : Int32))) at_32 rfl rfl ?_
    refine Wk.ifc (q := 41) (q' := 36) at_33 (by decide) rfl rfl (fun (h5 : ¬ (p4 &&& (1 : Int32)) = (0 : Int32)) => ?_) (fun (h5 : (p4 &&& (1 : Int32)) = (0 : Int32)) => ?_)
    · refine Wk.iload (q := 43) at_41 rfl rfl ?_
      refine Wk.iconst (q := 44) (v := (1 : Int32)) at_43 rfl rfl ?_
      refine Wk.ishr (q := 45) (v := (p4 >>> ((1 : Int32) &&& 31))) at_44 rfl rfl ?_
      refine Wk.i2s (q := 46) (v := (p4 >>> ((1 : Int32) &&& 31)).toInt16.toInt32) at_45 rfl rfl ?_
      refine Wk.istore (q := 48) (ls' := #[.val (.int p0), .val (.int p1), .val (.int p2), .val (.int p3), .val (.int p4), .val (.int p5), .val (.int p0.toInt16.toInt32), .val (.int p1.toInt16.toInt32), .val (.int p2.toInt16.toInt32), .val (.int p0.toInt16.toInt32), .val (.int (p4 >>> ((1 : Int32) &&& 31)).toInt16.toInt32), .unset, .unset, .unset, .unset, .unset]) at_46 rfl rfl ?_
      refine Wk.iload (q := 50) at_48 rfl rfl ?_
      refine Wk.iconst (q := 51) (v := (1 : Int32)) at_50 rfl rfl ?_
      refine Wk.iand (q := 52) (v := (p5 &&& (1 : Int32))) at_51 rfl rfl ?_
      refine Wk.ifc (q := 60) (q' := 55) at_52 (by decide) rfl rfl (fun (h6 : ¬ (p5 &&& (1 : Int32)) = (0 : Int32)) => ?_) (fun (h6 : (p5 &&& (1 : Int32)) = (0 : Int32)) => ?_)
      · refine Wk.iload (q := 62) at_60 rfl rfl ?_
        refine Wk.iconst (q := 63) (v := (1 : Int32)) at_62 rfl rfl ?_
        refine Wk.ishr (q := 64) (v := (p5 >>> ((1 : Int32) &&& 31))) at_63 rfl rfl ?_
        refine Wk.i2s (q := 65) (v := (p5 >>> ((1 : Int32) &&& 31)).toInt16.toInt32) at_64 rfl rfl ?_
        refine Wk.istore (q := 67) (ls' := #[.val (.int p0), .val (.int p1), .val (.int p2), .val (.int p3), .val (.int p4), .val (.int p5), .val (.int p0.toInt16.toInt32), .val (.int p1.toInt16.toInt32), .val (.int p2.toInt16.toInt32), .val (.int p0.toInt16.toInt32), .val (.int (p4 >>> ((1 : Int32) &&& 31)).toInt16.toInt32), .val (.int (p5 >>> ((1 : Int32) &&& 31)).toInt16.toInt32), .unset, .unset, .unset, .unset]) at_65 rfl rfl ?_
        refine Wk.iloadN (q := 68) at_67 rfl rfl ?_
        refine Wk.bipush (q := 70) (v := (17 : Int32)) at_68 rfl rfl ?_
        refine Wk.iushr (q := 71) (v := (XT.ushr p3 (17 : Int32))) at_70 rfl rfl ?_
        refine Wk.iconst (q := 72) (v := (3 : Int32)) at_71 rfl rfl ?_
        refine Wk.iand (q := 73) (v := ((XT.ushr p3 (17 : Int32)) &&& (3 : Int32))) at_72 rfl rfl ?_
        refine Wk.istore (q := 75) (ls' := #[.val (.int p0), .val (.int p1), .val (.int p2), .val (.int p3), .val (.int p4), .val (.int p5), .val (.int p0.toInt16.toInt32), .val (.int p1.toInt16.toInt32), .val (.int p2.toInt16.toInt32), .val (.int p0.toInt16.toInt32), .val (.int (p4 >>> ((1 : Int32) &&& 31)).toInt16.toInt32), .val (.int (p5 >>> ((1 : Int32) &&& 31)).toInt16.toInt32), .val (.int ((XT.ushr p3 (17 : Int32)) &&& (3 : Int32))), .unset, .unset, .unset]) at_73 rfl rfl ?_
        exact law_tail hw F0 O p0 p1 p2 p3 p4 p5 p0.toInt16.toInt32 p1.toInt16.toInt32 p2.toInt16.toInt32 p0.toInt16.toInt32 (p4 >>> ((1 : Int32) &&& 31)).toInt16.toInt32 (p5 >>> ((1 : Int32) &&& 31)).toInt16.toInt32 ((XT.ushr p3 (17 : Int32)) &&& (3 : Int32)) (own_sh _) (own_sh _) (own_sh _) (own_sh _) (own_sh _) (own_sh _)
      · refine Wk.iload (q := 57) at_55 rfl rfl ?_
        refine Wk.goto (q := 65) at_57 (by decide) rfl ?_
        refine Wk.istore (q := 67) (ls' := #[.val (.int p0), .val (.int p1), .val (.int p2), .val (.int p3), .val (.int p4), .val (.int p5), .val (.int p0.toInt16.toInt32), .val (.int p1.toInt16.toInt32), .val (.int p2.toInt16.toInt32), .val (.int p0.toInt16.toInt32), .val (.int (p4 >>> ((1 : Int32) &&& 31)).toInt16.toInt32), .val (.int p2.toInt16.toInt32), .unset, .unset, .unset, .unset]) at_65 rfl rfl ?_
        refine Wk.iloadN (q := 68) at_67 rfl rfl ?_
        refine Wk.bipush (q := 70) (v := (17 : Int32)) at_68 rfl rfl ?_
        refine Wk.iushr (q := 71) (v := (XT.ushr p3 (17 : Int32))) at_70 rfl rfl ?_
        refine Wk.iconst (q := 72) (v := (3 : Int32)) at_71 rfl rfl ?_
        refine Wk.iand (q := 73) (v := ((XT.ushr p3 (17 : Int32)) &&& (3 : Int32))) at_72 rfl rfl ?_
        refine Wk.istore (q := 75) (ls' := #[.val (.int p0), .val (.int p1), .val (.int p2), .val (.int p3), .val (.int p4), .val (.int p5), .val (.int p0.toInt16.toInt32), .val (.int p1.toInt16.toInt32), .val (.int p2.toInt16.toInt32), .val (.int p0.toInt16.toInt32), .val (.int (p4 >>> ((1 : Int32) &&& 31)).toInt16.toInt32), .val (.int p2.toInt16.toInt32), .val (.int ((XT.ushr p3 (17 : Int32)) &&& (3 : Int32))), .unset, .unset, .unset]) at_73 rfl rfl ?_
        exact law_tail hw F0 O p0 p1 p2 p3 p4 p5 p0.toInt16.toInt32 p1.toInt16.toInt32 p2.toInt16.toInt32 p0.toInt16.toInt32 (p4 >>> ((1 : Int32) &&& 31)).toInt16.toInt32 p2.toInt16.toInt32 ((XT.ushr p3 (17 : Int32)) &&& (3 : Int32)) (own_sh _) (own_sh _) (own_sh _) (own_sh _) (own_sh _) (own_sh _)
    · refine Wk.iload (q := 38) at_36 rfl rfl ?_
      refine Wk.goto (q := 46) at_38 (by decide) rfl ?_
      refine Wk.istore (q := 48) (ls' := #[.val (.int p0), .val (.int p1), .val (.int p2), .val (.int p3), .val (.int p4), .val (.int p5), .val (.int p0.toInt16.toInt32), .val (.int p1.toInt16.toInt32), .val (.int p2.toInt16.toInt32), .val (.int p0.toInt16.toInt32), .val (.int p1.toInt16.toInt32), .unset, .unset, .unset, .unset, .unset]) at_46 rfl rfl ?_
      refine Wk.iload (q := 50) at_48 rfl rfl ?_
      refine Wk.iconst (q := 51) (v := (1 : Int32)) at_50 rfl rfl ?_
      refine Wk.iand (q := 52) (v := (p5 &&& (1 : Int32))) at_51 rfl rfl ?_
      refine Wk.ifc (q := 60) (q' := 55) at_52 (by decide) rfl rfl (fun (h7 : ¬ (p5 &&& (1 : Int32)) = (0 : Int32)) => ?_) (fun (h7 : (p5 &&& (1 : Int32)) = (0 : Int32)) => ?_)
      · refine Wk.iload (q := 62) at_60 rfl rfl ?_
        refine Wk.iconst (q := 63) (v := (1 : Int32)) at_62 rfl rfl ?_
        refine Wk.ishr (q := 64) (v := (p5 >>> ((1 : Int32) &&& 31))) at_63 rfl rfl ?_
        refine Wk.i2s (q := 65) (v := (p5 >>> ((1 : Int32) &&& 31)).toInt16.toInt32) at_64 rfl rfl ?_
        refine Wk.istore (q := 67) (ls' := #[.val (.int p0), .val (.int p1), .val (.int p2), .val (.int p3), .val (.int p4), .val (.int p5), .val (.int p0.toInt16.toInt32), .val (.int p1.toInt16.toInt32), .val (.int p2.toInt16.toInt32), .val (.int p0.toInt16.toInt32), .val (.int p1.toInt16.toInt32), .val (.int (p5 >>> ((1 : Int32) &&& 31)).toInt16.toInt32), .unset, .unset, .unset, .unset]) at_65 rfl rfl ?_
        refine Wk.iloadN (q := 68) at_67 rfl rfl ?_
        refine Wk.bipush (q := 70) (v := (17 : Int32)) at_68 rfl rfl ?_
        refine Wk.iushr (q := 71) (v := (XT.ushr p3 (17 : Int32))) at_70 rfl rfl ?_
        refine Wk.iconst (q := 72) (v := (3 : Int32)) at_71 rfl rfl ?_
        refine Wk.iand (q := 73) (v := ((XT.ushr p3 (17 : Int32)) &&& (3 : Int32))) at_72 rfl rfl ?_
        refine Wk.istore (q := 75) (ls' := #[.val (.int p0), .val (.int p1), .val (.int p2), .val (.int p3), .val (.int p4), .val (.int p5), .val (.int p0.toInt16.toInt32), .val (.int p1.toInt16.toInt32), .val (.int p2.toInt16.toInt32), .val (.int p0.toInt16.toInt32), .val (.int p1.toInt16.toInt32), .val (.int (p5 >>> ((1 : Int32) &&& 31)).toInt16.toInt32), .val (.int ((XT.ushr p3 (17 : Int32)) &&& (3 : Int32))), .unset, .unset, .unset]) at_73 rfl rfl ?_
        exact law_tail hw F0 O p0 p1 p2 p3 p4 p5 p0.toInt16.toInt32 p1.toInt16.toInt32 p2.toInt16.toInt32 p0.toInt16.toInt32 p1.toInt16.toInt32 (p5 >>> ((1 : Int32) &&& 31)).toInt16.toInt32 ((XT.ushr p3 (17 : Int32)) &&& (3 : Int32)) (own_sh _) (own_sh _) (own_sh _) (own_sh _) (own_sh _) (own_sh _)
      · refine Wk.iload (q := 57) at_55 rfl rfl ?_
        refine Wk.goto (q := 65) at_57 (by decide) rfl ?_
        refine Wk.istore (q := 67) (ls' := #[.val (.int p0), .val (.int p1), .val (.int p2), .val (.int p3), .val (.int p4), .val (.int p5), .val (.int p0.toInt16.toInt32), .val (.int p1.toInt16.toInt32), .val (.int p2.toInt16.toInt32), .val (.int p0.toInt16.toInt32), .val (.int p1.toInt16.toInt32), .val (.int p2.toInt16.toInt32), .unset, .unset, .unset, .unset]) at_65 rfl rfl ?_
        refine Wk.iloadN (q := 68) at_67 rfl rfl ?_
        refine Wk.bipush (q := 70) (v := (17 : Int32)) at_68 rfl rfl ?_
        refine Wk.iushr (q := 71) (v := (XT.ushr p3 (17 : Int32))) at_70 rfl rfl ?_
        refine Wk.iconst (q := 72) (v := (3 : Int32)) at_71 rfl rfl ?_
        refine Wk.iand (q := 73) (v := ((XT.ushr p3 (17 : Int32)) &&& (3 : Int32))) at_72 rfl rfl ?_
        refine Wk.istore (q := 75) (ls' := #[.val (.int p0), .val (.int p1), .val (.int p2), .val (.int p3), .val (.int p4), .val (.int p5), .val (.int p0.toInt16.toInt32), .val (.int p1.toInt16.toInt32), .val (.int p2.toInt16.toInt32), .val (.int p0.toInt16.toInt32), .val (.int p1.toInt16.toInt32), .val (.int p2.toInt16.toInt32), .val (.int ((XT.ushr p3 (17 : Int32)) &&& (3 : Int32))), .unset, .unset, .unset]) at_73 rfl rfl ?_
        exact law_tail hw F0 O p0 p1 p2 p3 p4 p5 p0.toInt16.toInt32 p1.toInt16.toInt32 p2.toInt16.toInt32 p0.toInt16.toInt32 p1.toInt16.toInt32 p2.toInt16.toInt32 ((XT.ushr p3 (17 : Int32)) &&& (3 : Int32)) (own_sh _) (own_sh _) (own_sh _) (own_sh _) (own_sh _) (own_sh _)
set_option maxRecDepth 65536 in
set_option maxHeartbeats 40000000 in
theorem comes_1 {Post : Tables → Env → Array Value → State → Outcome → State → Prop} (hpost : ∀ tb e args s v u, (limb_1_1.after args s (.returned v) u = true ∧ limb_1_2.after args s (.returned v) u = true ∧ True) → FrameEnd s (.returned v) u (Jvm.fieldLocs frame_1_writes args s ++ Jvm.arrayLocs frame_1_arrays args s ++ Jvm.staticLocs frame_1_statics s) 16 128 → Post tb e args s (.returned v) u) :
    ArmFor flags0 classFile x code maxLocals ret World_1 tables_1 room_1 Calls_1 rest_1 Pre_1 Post := by
  intro l hfl _ _ p e ha hc hk s m args below hf hA hF happ hP
  obtain ⟨hcalls, hrest, hpre⟩ := hP
  obtain ⟨-, -, -, hnamed, -, -, -, hat⟩ := (Spec.applies_iff hf).mp happ
  obtain ⟨hg, hn⟩ := and_e (Cond.before_iff.mp (show (Jvm.Cond.and given_1 narrow_1).before args s = true from hpre))
  obtain ⟨h1, g0⟩ := and_e hg
  obtain ⟨w0, w1, w2, w3, w4, w5, rfl⟩ : ∃ w0 w1 w2 w3 w4 w5 : Value, args = #[w0, w1, w2, w3, w4, w5] := by
    have hs : args.size = 6 := by simpa [Cond.value, given_1] using h1
    obtain ⟨L⟩ := args
    match L, hs with
    | [w0, w1, w2, w3, w4, w5], _ => exact ⟨w0, w1, w2, w3, w4, w5, rfl⟩
  have hw := fun d (hd : d ∈ tables_1) => atoms_spec (ws := Jvm.Cond.code x code maxLocals ret :: tables_1) hat d (List.mem_cons_of_mem _ hd)
  have hfit : Fit s := fun {y c} hc i hi => by
    obtain ⟨ha, rfl⟩ := Array.getElem?_eq_some_iff.mp hc
    have q := List.all_eq_true.mp ((Array.all_eq_true_iff_forall_mem.mp hF) _ (Array.getElem_mem ha)) i (List.mem_range.mpr hi)
    simpa [Array.getElem?_eq_getElem hi] using q
  obtain ⟨q0, g1⟩ := and_e g0
  obtain ⟨i0, e0⟩ := is_v q0
  obtain rfl : w0 = (.int i0) := Option.some.inj e0
  obtain ⟨q1, g2⟩ := and_e g1
  obtain ⟨i1, e1⟩ := is_v q1
  obtain rfl : w1 = (.int i1) := Option.some.inj e1
  obtain ⟨q2, g3⟩ := and_e g2
  obtain ⟨i2, e2⟩ := is_v q2
  obtain rfl : w2 = (.int i2) := Option.some.inj e2
  obtain ⟨q3, g4⟩ := and_e g3
  obtain ⟨i3, e3⟩ := is_v q3
  obtain rfl : w3 = (.int i3) := Option.some.inj e3
  obtain ⟨q4, g5⟩ := and_e g4
  obtain ⟨i4, e4⟩ := is_v q4
  obtain rfl : w4 = (.int i4) := Option.some.inj e4
  obtain ⟨i5, e5⟩ := is_v g5
  obtain rfl : w5 = (.int i5) := Option.some.inj e5
  obtain ⟨hsets, hown0⟩ := atoms_of _ (rest_1_c_eq ▸ (show rest_1_c.before _ s = true from hrest))
  have vh := own_eqi (Cond.before_iff.mp (hsets _ (List.mem_of_getElem? (i := 3) rfl))) (Term.int_eval _)
  have sh := Sta.start vh (Or.inl (hsets _ (List.mem_of_getElem? (i := 1) rfl)))
  obtain ⟨a_C, v_C⟩ := arr_v (Cond.before_iff.mp (hsets _ (List.mem_of_getElem? (i := 4) rfl)))
  obtain ⟨c_C, r_C⟩ := Arr.start v_C (Cond.before_iff.mp (hsets _ (List.mem_of_getElem? (i := 4) rfl)))
  have s_C := Sta.start v_C (Or.inr ⟨(w_45 hw), (hsets _ (List.mem_of_getElem? (i := 2) rfl))⟩)
  have z_C : c_C.slots.size = 256 := own_len v_C r_C (own_eqi (Cond.before_iff.mp (hsets _ (List.mem_of_getElem? (i := 6) rfl))) (Term.int_eval _)) (by decide)
  have t_C : ∀ k, k < 256 → ∃ a, c_C.slots[k]? = some (Value.ref a) ∧ Exa s s.heap a "java/lang/Integer" := fun k hk => own_ek v_C r_C hk (and_e (own_all v_C r_C (Cond.before_iff.mp (hsets _ (List.mem_of_getElem? (i := 7) rfl))) k (by rw [z_C]; exact hk))).1
  obtain ⟨n, o, h1, h2, h3, _, L, rfl, ⟨N, rfl⟩, hq⟩ := (law_all (l := l) (n0 := s.heap.size) hw ⟨sh, s_C, r_C, z_C, t_C⟩ (Old.start s) i0 i1 i2 i3 i4 i5) tables_1 p e ha hc hk s m _ below hf ((Spec.applies_iff_loose hf).mp happ).1 ⟨rfl, State.Warmed39.refl s, rfl⟩ trivial
  refine ⟨n, _, h1, h2, h3, hpost _ _ _ _ _ _ ⟨Cond.after_iff.mpr rfl, Cond.after_iff.mpr (eq_i res_at (Term.int_eval (1)) rfl), trivial⟩ ⟨hq.1, hq.2.1, (hq.2.2.sift fun y hy => Or.inr (N y hy)).mono (by decide) (by decide)⟩⟩
theorem main_1_1 : Claimed_1_1 := comes_1 fun _ _ _ _ _ _ h hF => ⟨h.1, hF⟩
theorem main_1_2 : Claimed_1_2 := comes_1 fun _ _ _ _ _ _ h hF => ⟨h.2.1, hF⟩
end Jvm.Pilot.@@N@@
namespace Jvm.Pilot.@@N@@
open Jvm Jvm.ClassFile Sem Op Lib Jvm.Free Jvm.Stand Jvm.Pilot.@@N@@.Jvm.D
/-! MADE BY PROGRAM (witnessworld.py) out of the Statement's table words and the real class files: 16 classes; the members and pool entries that the words name. The judged class is class 1, her method 1. -/
namespace start1
open Jvm.ClassFile
def u (s : String) : CpInfo := .utf8 (stringToUtf16 s)
/-- a pool by its gaps: so many unusable entries, then the entry; so many at the end -/
def gap : Nat → List CpInfo → List CpInfo
  | 0, r => r
  | n + 1, r => .unusable :: gap n r
def poolList (es : List (Nat × CpInfo)) (last : Nat) : List CpInfo := es.foldr (fun e r => gap e.1 (e.2 :: r)) (gap last [])
def pool (es : List (Nat × CpInfo)) (last : Nat) : Array CpInfo := ⟨poolList es last⟩
def fileOf (pool : Array CpInfo) (this : Nat) (attrs : Array Attribute := #[]) (ms : Array MethodInfo := #[]) (fl : Nat := 33) (sup : Nat := 0) (ifs : Array Nat := #[]) (fds : Array FieldInfo := #[]) : ClassFile where
  minorVersion := 0
  majorVersion := 65
  constantPool := pool
  accessFlags := fl
  thisClass := this
  superClass := sup
  interfaces := ifs
  fields := fds
  methods := ms
  attributes := attrs
def plain (name : String) (sup : Option ClassId) : Class where
  name := name
  kind := .ordinary
  loader := none
  accessFlags := 33
  super := sup
  interfaces := #[]
  cf := none
  fields := #[]
  methods := #[]
  instanceTypes := #[]
  staticTypes := #[]
  resolved := #[]
  callSites := []
  init := .initialized
  statics := none
  mirror := none

def pool0 : Array CpInfo := pool [(5, u "<init>"), (0, u "()V"), (1, .class_ 10), (1, u "java/lang/Object")] 113

def k0c0 : Code := { maxStack := 0, maxLocals := 1, code := object_method_1_code, exceptionTable := #[], attributes := #[] }
def k0m0 : Method := { name := "<init>", desc := "()V", sig := { parameters := [], returnType := none }, accessFlags := 1, code := some k0c0 }
/-- java/lang/Object -/
def k0 : Class := { plain "java/lang/Object" none with
  accessFlags := 33
  interfaces := #[]
  cf := some (fileOf pool0 8 #[] #[{ accessFlags := 1, nameIndex := 5, descriptorIndex := 6, attributes := #[] }] 33 0 #[] #[])
  fields := #[]
  methods := #[k0m0]
  instanceTypes := #[]
  staticTypes := #[]
  resolved := Array.replicate 124 none
  statics := none }

def pool1 : Array CpInfo := pool [(2, .class_ 4), (1, u "java/lang/Object"), (0, u "<init>"), (0, u "()V"), (0, .class_ 8), (0, u "com/example/saltwire/saltwire/protocol/ApiVersionRange"), (0, .methodref 7 10), (0, .nameAndType 5 11), (0, u "(SSS)V"), (0, .methodref 7 13), (0, .nameAndType 14 15), (0, u "equals"), (0, u "(Ljava/lang/Object;)Z"), (0, .methodref 17 18), (0, .class_ 19), (0, .nameAndType 20 21), (0, u "java/lang/Integer"), (0, u "valueOf"), (0, u "(I)Ljava/lang/Integer;"), (0, .class_ 23), (0, u "com/example/saltwire/saltwire/protocol/ApiVersionRangeEqualsPinLaw"), (2, u "law"), (0, u "(IIIIII)Z")] 3

def k1m0 : Method := { name := "<init>", desc := "()V", sig := { parameters := [], returnType := none }, accessFlags := 1, code := none }
def k1c1 : Code := { maxStack := 5, maxLocals := 16, code := code, exceptionTable := #[], attributes := #[] }
def k1m1 : Method := { name := "law", desc := "(IIIIII)Z", sig := { parameters := [.int, .int, .int, .int, .int, .int], returnType := some .boolean }, accessFlags := 9, code := some k1c1 }
/-- com/example/saltwire/saltwire/protocol/ApiVersionRangeEqualsPinLaw -/
def k1 : Class := { plain "com/example/saltwire/saltwire/protocol/ApiVersionRangeEqualsPinLaw" (some 0) with
  accessFlags := 49
  interfaces := #[]
  cf := some (fileOf pool1 22 #[] #[{ accessFlags := 1, nameIndex := 5, descriptorIndex := 6, attributes := #[] }, { accessFlags := 9, nameIndex := 26, descriptorIndex := 27, attributes := #[] }] 49 2 #[] #[])
  fields := #[]
  methods := #[k1m0, k1m1]
  instanceTypes := #[]
  staticTypes := #[]
  resolved := Array.replicate 31 none
  statics := none }

def pool2 : Array CpInfo := pool [(1, .methodref 2 3), (0, .class_ 4), (0, .nameAndType 5 6), (0, u "java/lang/Object"), (0, u "<init>"), (0, u "()V"), (0, .fieldref 8 9), (0, .class_ 10), (0, .nameAndType 11 12), (0, u "com/example/saltwire/saltwire/protocol/ApiVersionRange"), (0, u "apiKey"), (0, u "S"), (0, .fieldref 8 14), (0, .nameAndType 15 12), (0, u "minVersion"), (0, .fieldref 8 17), (0, .nameAndType 18 12), (0, u "maxVersion"), (16, u "(SSS)V"), (6, u "equals"), (0, u "(Ljava/lang/Object;)Z")] 22

def k2c0 : Code := { maxStack := 2, maxLocals := 4, code := prog_63_method_1_code, exceptionTable := #[], attributes := #[] }
def k2m0 : Method := { name := "<init>", desc := "(SSS)V", sig := { parameters := [.short, .short, .short], returnType := none }, accessFlags := 1, code := some k2c0 }
def k2c1 : Code := { maxStack := 2, maxLocals := 3, code := prog_63_method_5_code, exceptionTable := #[], attributes := #[] }
def k2m1 : Method := { name := "equals", desc := "(Ljava/lang/Object;)Z", sig := { parameters := [(.object "java/lang/Object")], returnType := some .boolean }, accessFlags := 1, code := some k2c1 }
/-- com/example/saltwire/saltwire/protocol/ApiVersionRange -/
def k2 : Class := { plain "com/example/saltwire/saltwire/protocol/ApiVersionRange" (some 0) with
  accessFlags := 33
  interfaces := #[]
  cf := some (fileOf pool2 8 #[] #[{ accessFlags := 1, nameIndex := 5, descriptorIndex := 35, attributes := #[] }, { accessFlags := 1, nameIndex := 42, descriptorIndex := 43, attributes := #[] }] 33 2 #[] #[{ accessFlags := 18, nameIndex := 11, descriptorIndex := 12, attributes := #[] }, { accessFlags := 18, nameIndex := 15, descriptorIndex := 12, attributes := #[] }, { accessFlags := 18, nameIndex := 18, descriptorIndex := 12, attributes := #[] }])
  fields := #[{ name := "apiKey", type := .short, accessFlags := 18, slot := 0, constantValue := 0 }, { name := "minVersion", type := .short, accessFlags := 18, slot := 1, constantValue := 0 }, { name := "maxVersion", type := .short, accessFlags := 18, slot := 2, constantValue := 0 }]
  methods := #[k2m0, k2m1]
  instanceTypes := #[.short, .short, .short]
  staticTypes := #[]
  resolved := Array.replicate 66 none
  statics := none }

def pool3 : Array CpInfo := pool [(1, .class_ 2), (0, u "java/io/Serializable"), (0, .class_ 4), (0, u "java/lang/Object")] 2

/-- java/io/Serializable -/
def k3 : Class := { plain "java/io/Serializable" (some 0) with
  accessFlags := 1537
  interfaces := #[]
  cf := some (fileOf pool3 1 #[] #[] 1537 3 #[] #[])
  fields := #[]
  methods := #[]
  instanceTypes := #[]
  staticTypes := #[]
  resolved := Array.replicate 7 none
  statics := none }

def pool4 : Array CpInfo := pool [(1, .methodref 2 3), (0, .class_ 4), (0, .nameAndType 5 6), (0, u "java/lang/Object"), (0, u "<init>"), (0, u "()V"), (1, .class_ 10), (1, u "java/lang/Number"), (2, .class_ 14), (0, u "java/io/Serializable"), (0, u "serialVersionUID"), (0, u "J")] 20

def k4c0 : Code := { maxStack := 1, maxLocals := 1, code := jdk_18_method_1_code, exceptionTable := #[], attributes := #[] }
def k4m0 : Method := { name := "<init>", desc := "()V", sig := { parameters := [], returnType := none }, accessFlags := 1, code := some k4c0 }
/-- java/lang/Number -/
def k4 : Class := { plain "java/lang/Number" (some 0) with
  accessFlags := 1057
  interfaces := #[3]
  cf := some (fileOf pool4 8 #[] #[{ accessFlags := 1, nameIndex := 5, descriptorIndex := 6, attributes := #[] }] 1057 2 #[13] #[{ accessFlags := 26, nameIndex := 15, descriptorIndex := 16, attributes := #[] }])
  fields := #[{ name := "serialVersionUID", type := .long, accessFlags := 26, slot := 0, constantValue := 0 }]
  methods := #[k4m0]
  instanceTypes := #[]
  staticTypes := #[.long]
  resolved := Array.replicate 37 none
  statics := none }

def pool5 : Array CpInfo := pool [(1, .class_ 2), (0, u "java/lang/Comparable"), (0, .class_ 4), (0, u "java/lang/Object")] 7

/-- java/lang/Comparable -/
def k5 : Class := { plain "java/lang/Comparable" (some 0) with
  accessFlags := 1537
  interfaces := #[]
  cf := some (fileOf pool5 1 #[] #[] 1537 3 #[] #[])
  fields := #[]
  methods := #[]
  instanceTypes := #[]
  staticTypes := #[]
  resolved := Array.replicate 12 none
  statics := none }

def pool6 : Array CpInfo := pool [(1, .class_ 2), (0, u "java/lang/constant/Constable"), (0, .class_ 4), (0, u "java/lang/Object")] 6

/-- java/lang/constant/Constable -/
def k6 : Class := { plain "java/lang/constant/Constable" (some 0) with
  accessFlags := 1537
  interfaces := #[]
  cf := some (fileOf pool6 1 #[] #[] 1537 3 #[] #[])
  fields := #[]
  methods := #[]
  instanceTypes := #[]
  staticTypes := #[]
  resolved := Array.replicate 11 none
  statics := none }

def pool7 : Array CpInfo := pool [(1, .class_ 2), (0, u "java/lang/constant/ConstantDesc"), (0, .class_ 4), (0, u "java/lang/Object")] 32

/-- java/lang/constant/ConstantDesc -/
def k7 : Class := { plain "java/lang/constant/ConstantDesc" (some 0) with
  accessFlags := 1537
  interfaces := #[]
  cf := some (fileOf pool7 1 #[] #[] 1537 3 #[] #[])
  fields := #[]
  methods := #[]
  instanceTypes := #[]
  staticTypes := #[]
  resolved := Array.replicate 37 none
  statics := none }

def pool8 : Array CpInfo := pool [(1, .class_ 2), (0, u "java/lang/Integer"), (16, u "digits"), (0, u "[C"), (46, u "<init>"), (17, u "DigitOnes"), (0, u "[B"), (2, u "DigitTens"), (10, .nameAndType 67 101), (0, u "()V"), (85, u "valueOf"), (0, u "(I)Ljava/lang/Integer;"), (0, .class_ 190), (0, u "java/lang/Integer$IntegerCache"), (0, .fieldref 189 192), (0, .nameAndType 193 194), (0, u "high"), (0, u "I"), (0, .fieldref 189 196), (0, .nameAndType 197 198), (0, u "cache"), (0, u "[Ljava/lang/Integer;"), (0, .methodref 1 200), (0, .nameAndType 67 201), (0, u "(I)V"), (0, .methodref 203 100), (0, .class_ 204), (0, u "java/lang/Number"), (0, .fieldref 1 206), (0, .nameAndType 207 194), (0, u "value"), (94, u "TYPE"), (0, u "Ljava/lang/Class;"), (0, .class_ 305), (0, u "java/lang/Comparable"), (0, .class_ 307), (0, u "java/lang/constant/Constable"), (0, .class_ 309), (0, u "java/lang/constant/ConstantDesc"), (0, u "MIN_VALUE"), (1, u "MAX_VALUE"), (3, u "SIZE"), (1, u "BYTES"), (1, u "serialVersionUID"), (0, u "J")] 131

def k8c0 : Code := { maxStack := 3, maxLocals := 1, code := jdk_33_method_22_code, exceptionTable := #[], attributes := #[] }
def k8m0 : Method := { name := "valueOf", desc := "(I)Ljava/lang/Integer;", sig := { parameters := [.int], returnType := some (.object "java/lang/Integer") }, accessFlags := 9, code := some k8c0 }
def k8c1 : Code := { maxStack := 2, maxLocals := 2, code := jdk_33_method_23_code, exceptionTable := #[], attributes := #[] }
def k8m1 : Method := { name := "<init>", desc := "(I)V", sig := { parameters := [.int], returnType := none }, accessFlags := 1, code := some k8c1 }
/-- java/lang/Integer -/
def k8 : Class := { plain "java/lang/Integer" (some 4) with
  accessFlags := 49
  interfaces := #[5, 6, 7]
  cf := some (fileOf pool8 1 #[.nestMembers #[189]] #[{ accessFlags := 9, nameIndex := 187, descriptorIndex := 188, attributes := #[] }, { accessFlags := 1, nameIndex := 67, descriptorIndex := 201, attributes := #[] }] 49 203 #[304, 306, 308] #[{ accessFlags := 25, nameIndex := 310, descriptorIndex := 194, attributes := #[] }, { accessFlags := 25, nameIndex := 312, descriptorIndex := 194, attributes := #[] }, { accessFlags := 25, nameIndex := 302, descriptorIndex := 303, attributes := #[] }, { accessFlags := 24, nameIndex := 19, descriptorIndex := 20, attributes := #[] }, { accessFlags := 24, nameIndex := 89, descriptorIndex := 86, attributes := #[] }, { accessFlags := 24, nameIndex := 85, descriptorIndex := 86, attributes := #[] }, { accessFlags := 18, nameIndex := 207, descriptorIndex := 194, attributes := #[] }, { accessFlags := 25, nameIndex := 316, descriptorIndex := 194, attributes := #[] }, { accessFlags := 25, nameIndex := 318, descriptorIndex := 194, attributes := #[] }, { accessFlags := 26, nameIndex := 320, descriptorIndex := 321, attributes := #[] }])
  fields := #[{ name := "MIN_VALUE", type := .int, accessFlags := 25, slot := 0, constantValue := 0 }, { name := "MAX_VALUE", type := .int, accessFlags := 25, slot := 1, constantValue := 0 }, { name := "TYPE", type := (.object "java/lang/Class"), accessFlags := 25, slot := 2, constantValue := 0 }, { name := "digits", type := (.array .char), accessFlags := 24, slot := 3, constantValue := 0 }, { name := "DigitTens", type := (.array .byte), accessFlags := 24, slot := 4, constantValue := 0 }, { name := "DigitOnes", type := (.array .byte), accessFlags := 24, slot := 5, constantValue := 0 }, { name := "value", type := .int, accessFlags := 18, slot := 0, constantValue := 0 }, { name := "SIZE", type := .int, accessFlags := 25, slot := 6, constantValue := 0 }, { name := "BYTES", type := .int, accessFlags := 25, slot := 7, constantValue := 0 }, { name := "serialVersionUID", type := .long, accessFlags := 26, slot := 8, constantValue := 0 }]
  methods := #[k8m0, k8m1]
  instanceTypes := #[.int]
  staticTypes := #[.int, .int, (.object "java/lang/Class"), (.array .char), (.array .byte), (.array .byte), .int, .int, .long]
  resolved := Array.replicate 453 none
  statics := none }

def pool9 : Array CpInfo := pool [(2, .class_ 4), (1, u "java/lang/Object"), (0, u "<init>"), (0, u "()V"), (0, .class_ 8), (0, u "java/lang/Integer"), (7, .class_ 18), (1, u "java/lang/Integer$IntegerCache"), (0, u "$assertionsDisabled"), (0, u "Z"), (26, u "high"), (0, u "I"), (8, u "archivedCache"), (0, u "[Ljava/lang/Integer;"), (12, u "cache"), (0, u "low")] 27

def k9m0 : Method := { name := "<init>", desc := "()V", sig := { parameters := [], returnType := none }, accessFlags := 2, code := none }
/-- java/lang/Integer$IntegerCache -/
def k9 : Class := { plain "java/lang/Integer$IntegerCache" (some 0) with
  accessFlags := 48
  interfaces := #[]
  cf := some (fileOf pool9 16 #[.nestHost 7] #[{ accessFlags := 2, nameIndex := 5, descriptorIndex := 6, attributes := #[] }] 48 2 #[] #[{ accessFlags := 24, nameIndex := 72, descriptorIndex := 48, attributes := #[] }, { accessFlags := 24, nameIndex := 47, descriptorIndex := 48, attributes := #[] }, { accessFlags := 24, nameIndex := 71, descriptorIndex := 58, attributes := #[] }, { accessFlags := 8, nameIndex := 57, descriptorIndex := 58, attributes := #[] }, { accessFlags := 4120, nameIndex := 19, descriptorIndex := 20, attributes := #[] }])
  fields := #[{ name := "low", type := .int, accessFlags := 24, slot := 0, constantValue := 0 }, { name := "high", type := .int, accessFlags := 24, slot := 1, constantValue := 0 }, { name := "cache", type := (.array (.object "java/lang/Integer")), accessFlags := 24, slot := 2, constantValue := 0 }, { name := "archivedCache", type := (.array (.object "java/lang/Integer")), accessFlags := 8, slot := 3, constantValue := 0 }, { name := "$assertionsDisabled", type := .boolean, accessFlags := 4120, slot := 4, constantValue := 0 }]
  methods := #[k9m0]
  instanceTypes := #[]
  staticTypes := #[.int, .int, (.array (.object "java/lang/Integer")), (.array (.object "java/lang/Integer")), .boolean]
  resolved := Array.replicate 100 none
  statics := some 0 }

def pool10 : Array CpInfo := pool [(1, u "java/lang/Cloneable"), (0, .class_ 1), (0, u "java/lang/Object"), (0, .class_ 3)] 3

/-- java/lang/Cloneable -/
def k10 : Class := { plain "java/lang/Cloneable" (some 0) with
  accessFlags := 1537
  interfaces := #[]
  cf := some (fileOf pool10 2 #[] #[] 1537 4 #[] #[])
  fields := #[]
  methods := #[]
  instanceTypes := #[]
  staticTypes := #[]
  resolved := Array.replicate 8 none
  statics := none }

/-- the primitive byte -/
def k11 : Class := { plain "byte" none with kind := .primitive 'B', accessFlags := 0x411 }
/-- [B -/
def k12 : Class := { plain "[B" (some 0) with kind := .array 11 .byte, interfaces := #[10, 3], accessFlags := 1041 }

/-- the primitive int -/
def k13 : Class := { plain "int" none with kind := .primitive 'I', accessFlags := 0x411 }
/-- [I -/
def k14 : Class := { plain "[I" (some 0) with kind := .array 13 .int, interfaces := #[10, 3], accessFlags := 1041 }

/-- [Ljava/lang/Integer; -/
def k15 : Class := { plain "[Ljava/lang/Integer;" (some 0) with kind := .array 8 (.object "java/lang/Integer"), interfaces := #[10, 3], accessFlags := 1041 }

def heap : Heap := #[{ cls := 9, slots := #[.int 0, .int 127, .ref 1, .null, .int 0], vm := .statics 9 },
  { cls := 15, slots := #[.ref 2, .ref 3, .ref 4, .ref 5, .ref 6, .ref 7, .ref 8, .ref 9, .ref 10, .ref 11, .ref 12, .ref 13, .ref 14, .ref 15, .ref 16, .ref 17, .ref 18, .ref 19, .ref 20, .ref 21, .ref 22, .ref 23, .ref 24, .ref 25, .ref 26, .ref 27, .ref 28, .ref 29, .ref 30, .ref 31, .ref 32, .ref 33, .ref 34, .ref 35, .ref 36, .ref 37, .ref 38, .ref 39, .ref 40, .ref 41, .ref 42, .ref 43, .ref 44, .ref 45, .ref 46, .ref 47, .ref 48, .ref 49, .ref 50, .ref 51, .ref 52, .ref 53, .ref 54, .ref 55, .ref 56, .ref 57, .ref 58, .ref 59, .ref 60, .ref 61, .ref 62, .ref 63, .ref 64, .ref 65, .ref 66, .ref 67, .ref 68, .ref 69, .ref 70, .ref 71, .ref 72, .ref 73, .ref 74, .ref 75, .ref 76, .ref 77, .ref 78, .ref 79, .ref 80, .ref 81, .ref 82, .ref 83, .ref 84, .ref 85, .ref 86, .ref 87, .ref 88, .ref 89, .ref 90, .ref 91, .ref 92, .ref 93, .ref 94, .ref 95, .ref 96, .ref 97, .ref 98, .ref 99, .ref 100, .ref 101, .ref 102, .ref 103, .ref 104, .ref 105, .ref 106, .ref 107, .ref 108, .ref 109, .ref 110, .ref 111, .ref 112, .ref 113, .ref 114, .ref 115, .ref 116, .ref 117, .ref 118, .ref 119, .ref 120, .ref 121, .ref 122, .ref 123, .ref 124, .ref 125, .ref 126, .ref 127, .ref 128, .ref 129, .ref 130, .ref 131, .ref 132, .ref 133, .ref 134, .ref 135, .ref 136, .ref 137, .ref 138, .ref 139, .ref 140, .ref 141, .ref 142, .ref 143, .ref 144, .ref 145, .ref 146, .ref 147, .ref 148, .ref 149, .ref 150, .ref 151, .ref 152, .ref 153, .ref 154, .ref 155, .ref 156, .ref 157, .ref 158, .ref 159, .ref 160, .ref 161, .ref 162, .ref 163, .ref 164, .ref 165, .ref 166, .ref 167, .ref 168, .ref 169, .ref 170, .ref 171, .ref 172, .ref 173, .ref 174, .ref 175, .ref 176, .ref 177, .ref 178, .ref 179, .ref 180, .ref 181, .ref 182, .ref 183, .ref 184, .ref 185, .ref 186, .ref 187, .ref 188, .ref 189, .ref 190, .ref 191, .ref 192, .ref 193, .ref 194, .ref 195, .ref 196, .ref 197, .ref 198, .ref 199, .ref 200, .ref 201, .ref 202, .ref 203, .ref 204, .ref 205, .ref 206, .ref 207, .ref 208, .ref 209, .ref 210, .ref 211, .ref 212, .ref 213, .ref 214, .ref 215, .ref 216, .ref 217, .ref 218, .ref 219, .ref 220, .ref 221, .ref 222, .ref 223, .ref 224, .ref 225, .ref 226, .ref 227, .ref 228, .ref 229, .ref 230, .ref 231, .ref 232, .ref 233, .ref 234, .ref 235, .ref 236, .ref 237, .ref 238, .ref 239, .ref 240, .ref 241, .ref 242, .ref 243, .ref 244, .ref 245, .ref 246, .ref 247, .ref 248, .ref 249, .ref 250, .ref 251, .ref 252, .ref 253, .ref 254, .ref 255, .ref 256, .ref 257], vm := .none },
  { cls := 8, slots := #[.int (-128)], vm := .none },
  { cls := 8, slots := #[.int (-127)], vm := .none },
  { cls := 8, slots := #[.int (-126)], vm := .none },
  { cls := 8, slots := #[.int (-125)], vm := .none },
  { cls := 8, slots := #[.int (-124)], vm := .none },
  { cls := 8, slots := #[.int (-123)], vm := .none },
  { cls := 8, slots := #[.int (-122)], vm := .none },
  { cls := 8, slots := #[.int (-121)], vm := .none },
  { cls := 8, slots := #[.int (-120)], vm := .none },
  { cls := 8, slots := #[.int (-119)], vm := .none },
  { cls := 8, slots := #[.int (-118)], vm := .none },
  { cls := 8, slots := #[.int (-117)], vm := .none },
  { cls := 8, slots := #[.int (-116)], vm := .none },
  { cls := 8, slots := #[.int (-115)], vm := .none },
  { cls := 8, slots := #[.int (-114)], vm := .none },
  { cls := 8, slots := #[.int (-113)], vm := .none },
  { cls := 8, slots := #[.int (-112)], vm := .none },
  { cls := 8, slots := #[.int (-111)], vm := .none },
  { cls := 8, slots := #[.int (-110)], vm := .none },
  { cls := 8, slots := #[.int (-109)], vm := .none },
  { cls := 8, slots := #[.int (-108)], vm := .none },
  { cls := 8, slots := #[.int (-107)], vm := .none },
  { cls := 8, slots := #[.int (-106)], vm := .none },
  { cls := 8, slots := #[.int (-105)], vm := .none },
  { cls := 8, slots := #[.int (-104)], vm := .none },
  { cls := 8, slots := #[.int (-103)], vm := .none },
  { cls := 8, slots := #[.int (-102)], vm := .none },
  { cls := 8, slots := #[.int (-101)], vm := .none },
  { cls := 8, slots := #[.int (-100)], vm := .none },
  { cls := 8, slots := #[.int (-99)], vm := .none },
  { cls := 8, slots := #[.int (-98)], vm := .none },
  { cls := 8, slots := #[.int (-97)], vm := .none },
  { cls := 8, slots := #[.int (-96)], vm := .none },
  { cls := 8, slots := #[.int (-95)], vm := .none },
  { cls := 8, slots := #[.int (-94)], vm := .none },
  { cls := 8, slots := #[.int (-93)], vm := .none },
  { cls := 8, slots := #[.int (-92)], vm := .none },
  { cls := 8, slots := #[.int (-91)], vm := .none },
  { cls := 8, slots := #[.int (-90)], vm := .none },
  { cls := 8, slots := #[.int (-89)], vm := .none },
  { cls := 8, slots := #[.int (-88)], vm := .none },
  { cls := 8, slots := #[.int (-87)], vm := .none },
  { cls := 8, slots := #[.int (-86)], vm := .none },
  { cls := 8, slots := #[.int (-85)], vm := .none },
  { cls := 8, slots := #[.int (-84)], vm := .none },
  { cls := 8, slots := #[.int (-83)], vm := .none },
  { cls := 8, slots := #[.int (-82)], vm := .none },
  { cls := 8, slots := #[.int (-81)], vm := .none },
  { cls := 8, slots := #[.int (-80)], vm := .none },
  { cls := 8, slots := #[.int (-79)], vm := .none },
  { cls := 8, slots := #[.int (-78)], vm := .none },
  { cls := 8, slots := #[.int (-77)], vm := .none },
  { cls := 8, slots := #[.int (-76)], vm := .none },
  { cls := 8, slots := #[.int (-75)], vm := .none },
  { cls := 8, slots := #[.int (-74)], vm := .none },
  { cls := 8, slots := #[.int (-73)], vm := .none },
  { cls := 8, slots := #[.int (-72)], vm := .none },
  { cls := 8, slots := #[.int (-71)], vm := .none },
  { cls := 8, slots := #[.int (-70)], vm := .none },
  { cls := 8, slots := #[.int (-69)], vm := .none },
  { cls := 8, slots := #[.int (-68)], vm := .none },
  { cls := 8, slots := #[.int (-67)], vm := .none },
  { cls := 8, slots := #[.int (-66)], vm := .none },
  { cls := 8, slots := #[.int (-65)], vm := .none },
  { cls := 8, slots := #[.int (-64)], vm := .none },
  { cls := 8, slots := #[.int (-63)], vm := .none },
  { cls := 8, slots := #[.int (-62)], vm := .none },
  { cls := 8, slots := #[.int (-61)], vm := .none },
  { cls := 8, slots := #[.int (-60)], vm := .none },
  { cls := 8, slots := #[.int (-59)], vm := .none },
  { cls := 8, slots := #[.int (-58)], vm := .none },
  { cls := 8, slots := #[.int (-57)], vm := .none },
  { cls := 8, slots := #[.int (-56)], vm := .none },
  { cls := 8, slots := #[.int (-55)], vm := .none },
  { cls := 8, slots := #[.int (-54)], vm := .none },
  { cls := 8, slots := #[.int (-53)], vm := .none },
  { cls := 8, slots := #[.int (-52)], vm := .none },
  { cls := 8, slots := #[.int (-51)], vm := .none },
  { cls := 8, slots := #[.int (-50)], vm := .none },
  { cls := 8, slots := #[.int (-49)], vm := .none },
  { cls := 8, slots := #[.int (-48)], vm := .none },
  { cls := 8, slots := #[.int (-47)], vm := .none },
  { cls := 8, slots := #[.int (-46)], vm := .none },
  { cls := 8, slots := #[.int (-45)], vm := .none },
  { cls := 8, slots := #[.int (-44)], vm := .none },
  { cls := 8, slots := #[.int (-43)], vm := .none },
  { cls := 8, slots := #[.int (-42)], vm := .none },
  { cls := 8, slots := #[.int (-41)], vm := .none },
  { cls := 8, slots := #[.int (-40)], vm := .none },
  { cls := 8, slots := #[.int (-39)], vm := .none },
  { cls := 8, slots := #[.int (-38)], vm := .none },
  { cls := 8, slots := #[.int (-37)], vm := .none },
  { cls := 8, slots := #[.int (-36)], vm := .none },
  { cls := 8, slots := #[.int (-35)], vm := .none },
  { cls := 8, slots := #[.int (-34)], vm := .none },
  { cls := 8, slots := #[.int (-33)], vm := .none },
  { cls := 8, slots := #[.int (-32)], vm := .none },
  { cls := 8, slots := #[.int (-31)], vm := .none },
  { cls := 8, slots := #[.int (-30)], vm := .none },
  { cls := 8, slots := #[.int (-29)], vm := .none },
  { cls := 8, slots := #[.int (-28)], vm := .none },
  { cls := 8, slots := #[.int (-27)], vm := .none },
  { cls := 8, slots := #[.int (-26)], vm := .none },
  { cls := 8, slots := #[.int (-25)], vm := .none },
  { cls := 8, slots := #[.int (-24)], vm := .none },
  { cls := 8, slots := #[.int (-23)], vm := .none },
  { cls := 8, slots := #[.int (-22)], vm := .none },
  { cls := 8, slots := #[.int (-21)], vm := .none },
  { cls := 8, slots := #[.int (-20)], vm := .none },
  { cls := 8, slots := #[.int (-19)], vm := .none },
  { cls := 8, slots := #[.int (-18)], vm := .none },
  { cls := 8, slots := #[.int (-17)], vm := .none },
  { cls := 8, slots := #[.int (-16)], vm := .none },
  { cls := 8, slots := #[.int (-15)], vm := .none },
  { cls := 8, slots := #[.int (-14)], vm := .none },
  { cls := 8, slots := #[.int (-13)], vm := .none },
  { cls := 8, slots := #[.int (-12)], vm := .none },
  { cls := 8, slots := #[.int (-11)], vm := .none },
  { cls := 8, slots := #[.int (-10)], vm := .none },
  { cls := 8, slots := #[.int (-9)], vm := .none },
  { cls := 8, slots := #[.int (-8)], vm := .none },
  { cls := 8, slots := #[.int (-7)], vm := .none },
  { cls := 8, slots := #[.int (-6)], vm := .none },
  { cls := 8, slots := #[.int (-5)], vm := .none },
  { cls := 8, slots := #[.int (-4)], vm := .none },
  { cls := 8, slots := #[.int (-3)], vm := .none },
  { cls := 8, slots := #[.int (-2)], vm := .none },
  { cls := 8, slots := #[.int (-1)], vm := .none },
  { cls := 8, slots := #[.int 0], vm := .none },
  { cls := 8, slots := #[.int 1], vm := .none },
  { cls := 8, slots := #[.int 2], vm := .none },
  { cls := 8, slots := #[.int 3], vm := .none },
  { cls := 8, slots := #[.int 4], vm := .none },
  { cls := 8, slots := #[.int 5], vm := .none },
  { cls := 8, slots := #[.int 6], vm := .none },
  { cls := 8, slots := #[.int 7], vm := .none },
  { cls := 8, slots := #[.int 8], vm := .none },
  { cls := 8, slots := #[.int 9], vm := .none },
  { cls := 8, slots := #[.int 10], vm := .none },
  { cls := 8, slots := #[.int 11], vm := .none },
  { cls := 8, slots := #[.int 12], vm := .none },
  { cls := 8, slots := #[.int 13], vm := .none },
  { cls := 8, slots := #[.int 14], vm := .none },
  { cls := 8, slots := #[.int 15], vm := .none },
  { cls := 8, slots := #[.int 16], vm := .none },
  { cls := 8, slots := #[.int 17], vm := .none },
  { cls := 8, slots := #[.int 18], vm := .none },
  { cls := 8, slots := #[.int 19], vm := .none },
  { cls := 8, slots := #[.int 20], vm := .none },
  { cls := 8, slots := #[.int 21], vm := .none },
  { cls := 8, slots := #[.int 22], vm := .none },
  { cls := 8, slots := #[.int 23], vm := .none },
  { cls := 8, slots := #[.int 24], vm := .none },
  { cls := 8, slots := #[.int 25], vm := .none },
  { cls := 8, slots := #[.int 26], vm := .none },
  { cls := 8, slots := #[.int 27], vm := .none },
  { cls := 8, slots := #[.int 28], vm := .none },
  { cls := 8, slots := #[.int 29], vm := .none },
  { cls := 8, slots := #[.int 30], vm := .none },
  { cls := 8, slots := #[.int 31], vm := .none },
  { cls := 8, slots := #[.int 32], vm := .none },
  { cls := 8, slots := #[.int 33], vm := .none },
  { cls := 8, slots := #[.int 34], vm := .none },
  { cls := 8, slots := #[.int 35], vm := .none },
  { cls := 8, slots := #[.int 36], vm := .none },
  { cls := 8, slots := #[.int 37], vm := .none },
  { cls := 8, slots := #[.int 38], vm := .none },
  { cls := 8, slots := #[.int 39], vm := .none },
  { cls := 8, slots := #[.int 40], vm := .none },
  { cls := 8, slots := #[.int 41], vm := .none },
  { cls := 8, slots := #[.int 42], vm := .none },
  { cls := 8, slots := #[.int 43], vm := .none },
  { cls := 8, slots := #[.int 44], vm := .none },
  { cls := 8, slots := #[.int 45], vm := .none },
  { cls := 8, slots := #[.int 46], vm := .none },
  { cls := 8, slots := #[.int 47], vm := .none },
  { cls := 8, slots := #[.int 48], vm := .none },
  { cls := 8, slots := #[.int 49], vm := .none },
  { cls := 8, slots := #[.int 50], vm := .none },
  { cls := 8, slots := #[.int 51], vm := .none },
  { cls := 8, slots := #[.int 52], vm := .none },
  { cls := 8, slots := #[.int 53], vm := .none },
  { cls := 8, slots := #[.int 54], vm := .none },
  { cls := 8, slots := #[.int 55], vm := .none },
  { cls := 8, slots := #[.int 56], vm := .none },
  { cls := 8, slots := #[.int 57], vm := .none },
  { cls := 8, slots := #[.int 58], vm := .none },
  { cls := 8, slots := #[.int 59], vm := .none },
  { cls := 8, slots := #[.int 60], vm := .none },
  { cls := 8, slots := #[.int 61], vm := .none },
  { cls := 8, slots := #[.int 62], vm := .none },
  { cls := 8, slots := #[.int 63], vm := .none },
  { cls := 8, slots := #[.int 64], vm := .none },
  { cls := 8, slots := #[.int 65], vm := .none },
  { cls := 8, slots := #[.int 66], vm := .none },
  { cls := 8, slots := #[.int 67], vm := .none },
  { cls := 8, slots := #[.int 68], vm := .none },
  { cls := 8, slots := #[.int 69], vm := .none },
  { cls := 8, slots := #[.int 70], vm := .none },
  { cls := 8, slots := #[.int 71], vm := .none },
  { cls := 8, slots := #[.int 72], vm := .none },
  { cls := 8, slots := #[.int 73], vm := .none },
  { cls := 8, slots := #[.int 74], vm := .none },
  { cls := 8, slots := #[.int 75], vm := .none },
  { cls := 8, slots := #[.int 76], vm := .none },
  { cls := 8, slots := #[.int 77], vm := .none },
  { cls := 8, slots := #[.int 78], vm := .none },
  { cls := 8, slots := #[.int 79], vm := .none },
  { cls := 8, slots := #[.int 80], vm := .none },
  { cls := 8, slots := #[.int 81], vm := .none },
  { cls := 8, slots := #[.int 82], vm := .none },
  { cls := 8, slots := #[.int 83], vm := .none },
  { cls := 8, slots := #[.int 84], vm := .none },
  { cls := 8, slots := #[.int 85], vm := .none },
  { cls := 8, slots := #[.int 86], vm := .none },
  { cls := 8, slots := #[.int 87], vm := .none },
  { cls := 8, slots := #[.int 88], vm := .none },
  { cls := 8, slots := #[.int 89], vm := .none },
  { cls := 8, slots := #[.int 90], vm := .none },
  { cls := 8, slots := #[.int 91], vm := .none },
  { cls := 8, slots := #[.int 92], vm := .none },
  { cls := 8, slots := #[.int 93], vm := .none },
  { cls := 8, slots := #[.int 94], vm := .none },
  { cls := 8, slots := #[.int 95], vm := .none },
  { cls := 8, slots := #[.int 96], vm := .none },
  { cls := 8, slots := #[.int 97], vm := .none },
  { cls := 8, slots := #[.int 98], vm := .none },
  { cls := 8, slots := #[.int 99], vm := .none },
  { cls := 8, slots := #[.int 100], vm := .none },
  { cls := 8, slots := #[.int 101], vm := .none },
  { cls := 8, slots := #[.int 102], vm := .none },
  { cls := 8, slots := #[.int 103], vm := .none },
  { cls := 8, slots := #[.int 104], vm := .none },
  { cls := 8, slots := #[.int 105], vm := .none },
  { cls := 8, slots := #[.int 106], vm := .none },
  { cls := 8, slots := #[.int 107], vm := .none },
  { cls := 8, slots := #[.int 108], vm := .none },
  { cls := 8, slots := #[.int 109], vm := .none },
  { cls := 8, slots := #[.int 110], vm := .none },
  { cls := 8, slots := #[.int 111], vm := .none },
  { cls := 8, slots := #[.int 112], vm := .none },
  { cls := 8, slots := #[.int 113], vm := .none },
  { cls := 8, slots := #[.int 114], vm := .none },
  { cls := 8, slots := #[.int 115], vm := .none },
  { cls := 8, slots := #[.int 116], vm := .none },
  { cls := 8, slots := #[.int 117], vm := .none },
  { cls := 8, slots := #[.int 118], vm := .none },
  { cls := 8, slots := #[.int 119], vm := .none },
  { cls := 8, slots := #[.int 120], vm := .none },
  { cls := 8, slots := #[.int 121], vm := .none },
  { cls := 8, slots := #[.int 122], vm := .none },
  { cls := 8, slots := #[.int 123], vm := .none },
  { cls := 8, slots := #[.int 124], vm := .none },
  { cls := 8, slots := #[.int 125], vm := .none },
  { cls := 8, slots := #[.int 126], vm := .none },
  { cls := 8, slots := #[.int 127], vm := .none }]
def classes : Array Class := #[k0, k1, k2, k3, k4, k5, k6, k7, k8, k9, k10, k11, k12, k13, k14, k15]
def interned : List (Array UInt16 × Addr) := []
def slotsUsed : Nat := 517
def theMethod : MethodId := ⟨1, 1⟩
def args0 : Array Value := #[.int 5, .int 1, .int 3, .int 131073, .int 1, .int 3]
def aboutOver (below : List Frame) : State where
  vm := { classes := classes, interned := interned.toArray }
  heap := heap
  slotsUsed := slotsUsed
  threads := #[{ frames := .invoking theMethod args0 :: below }]
def below0 : List Frame := [.native { method := ⟨0, 0⟩, args := #[] }]
def about1 : State := aboutOver below0
def p0 : Program := .bare "" "" ""
def e0 : Env := launch0.env 0 0 0
theorem w_frames : about1.frames = Frame.invoking theMethod args0 :: below0 := rfl
set_option maxRecDepth 65536 in
theorem w_args : argsFit about1.vm theMethod args0 = true := by decide +kernel
set_option maxRecDepth 65536 in
theorem w_heap : heapFits about1 = true := by decide +kernel
set_option maxRecDepth 65536 in
theorem w_runnable : about1.curStatus? = some .runnable := by decide +kernel
set_option maxRecDepth 65536 in
theorem w_alone : about1.alone = true := by decide +kernel
set_option maxRecDepth 65536 in
theorem w_named : about1.methodNamed? x = some theMethod := by decide +kernel
set_option maxRecDepth 65536 in
theorem w_hears : about1.hears theMethod below0 = true := by decide +kernel
set_option maxRecDepth 65536 in
theorem w_ripe : about1.ripe theMethod args0 below0 = true := by decide +kernel
theorem w_running : about1.status = .running := rfl
set_option maxRecDepth 65536 in
theorem w_room : about1.hasRoom e0.platform room_1 = true :=
  launch0.hasRoom_least _ room_1 (by decide +kernel) (by decide +kernel) (by decide +kernel) (by decide +kernel) (by decide +kernel) (by decide +kernel)
theorem allAtoms_all (ts : List Jvm.Cond) (a : Array Jvm.Value) (st : Jvm.State) : (allAtoms ts).before a st = ts.all (fun c => c.before a st) := by
  induction ts with
  | nil => rfl
  | cons c t ih =>
    show (Jvm.Cond.and c (allAtoms t)).before a st = _
    rw [Jvm.Cond.before_and, ih, List.all_cons]
def words1 : List Jvm.Cond := Jvm.Cond.code x code maxLocals ret :: tables_1
/-- a 'code' word, met by the world's own term for the bytes: nothing is compared byte by byte -/
theorem code_word {y : MethodName} {bytes : ByteArray} {mx : Nat} {rt : Option FieldType} {a : Array Value} {s : State} {m : MethodId} {meth : Method} {c : Code} (h1 : s.methodNamed? y = some m) (h2 : s.vm.method? m = some meth) (h3 : meth.code = some c) (h4 : c.code = bytes)
    (h5 : (c.maxLocals == mx && c.exceptionTable.isEmpty && decide (c.maxStack ≤ mostOperands) && decide (meth.sig.returnType = rt) && !meth.locks && decide (parseMethodDescriptor y.desc = some meth.sig)) = true) : (Jvm.Cond.code y bytes mx rt).before a s = true := by
  simp only [Bool.and_eq_true, beq_iff_eq, Bool.not_eq_true', decide_eq_true_eq] at h5
  obtain ⟨⟨⟨⟨⟨g1, g2⟩, g3⟩, g4⟩, g5⟩, g6⟩ := h5
  simp [Cond.before, Cond.holds, Cond.value, h1, h2, h3, h4, g1, g2, g3, g4, g5, g6]
def isCode : Jvm.Cond → Bool
  | .code _ _ _ _ => true
  | _ => false
theorem all_split {L : List Jvm.Cond} {P : Jvm.Cond → Bool} (h1 : L.all (fun c => isCode c || P c) = true) (h2 : ∀ c ∈ L.filter isCode, P c = true) : L.all P = true := by
  refine List.all_eq_true.mpr fun c hc => ?_
  have h := List.all_eq_true.mp h1 c hc
  rcases Bool.eq_false_or_eq_true (isCode c) with hi | hi
  · exact h2 c (List.mem_filter.mpr ⟨hc, hi⟩)
  · simpa [hi] using h
set_option maxRecDepth 65536 in
theorem w_c0 : (Jvm.Cond.code x code maxLocals ret).before args0 about1 = true := code_word (m := ⟨1, 1⟩) (meth := k1m1) (c := k1c1) (by decide +kernel) rfl rfl rfl (by decide +kernel)
set_option maxRecDepth 65536 in
theorem w_c1 : (Jvm.Cond.code ({ cls := "com/example/saltwire/saltwire/protocol/ApiVersionRange", name := "<init>", desc := "(SSS)V" } : Jvm.MethodName) prog_63_method_1_code (4 : Nat) (Option.none : Option Jvm.ClassFile.FieldType)).before args0 about1 = true := code_word (m := ⟨2, 0⟩) (meth := k2m0) (c := k2c0) (by decide +kernel) rfl rfl rfl (by decide +kernel)
set_option maxRecDepth 65536 in
theorem w_c2 : (Jvm.Cond.code ({ cls := "java/lang/Object", name := "<init>", desc := "()V" } : Jvm.MethodName) object_method_1_code (1 : Nat) (Option.none : Option Jvm.ClassFile.FieldType)).before args0 about1 = true := code_word (m := ⟨0, 0⟩) (meth := k0m0) (c := k0c0) (by decide +kernel) rfl rfl rfl (by decide +kernel)
set_option maxRecDepth 65536 in
theorem w_c3 : (Jvm.Cond.code ({ cls := "com/example/saltwire/saltwire/protocol/ApiVersionRange", name := "equals", desc := "(Ljava/lang/Object;)Z" } : Jvm.MethodName) prog_63_method_5_code (3 : Nat) (Option.some Jvm.ClassFile.FieldType.boolean)).before args0 about1 = true := code_word (m := ⟨2, 1⟩) (meth := k2m1) (c := k2c1) (by decide +kernel) rfl rfl rfl (by decide +kernel)
set_option maxRecDepth 65536 in
theorem w_c4 : (Jvm.Cond.code ({ cls := "java/lang/Integer", name := "valueOf", desc := "(I)Ljava/lang/Integer;" } : Jvm.MethodName) jdk_33_method_22_code (1 : Nat) (Option.some (Jvm.ClassFile.FieldType.object "java/lang/Integer"))).before args0 about1 = true := code_word (m := ⟨8, 0⟩) (meth := k8m0) (c := k8c0) (by decide +kernel) rfl rfl rfl (by decide +kernel)
set_option maxRecDepth 65536 in
theorem w_c5 : (Jvm.Cond.code ({ cls := "java/lang/Integer", name := "<init>", desc := "(I)V" } : Jvm.MethodName) jdk_33_method_23_code (2 : Nat) (Option.none : Option Jvm.ClassFile.FieldType)).before args0 about1 = true := code_word (m := ⟨8, 1⟩) (meth := k8m1) (c := k8c1) (by decide +kernel) rfl rfl rfl (by decide +kernel)
set_option maxRecDepth 65536 in
theorem w_c6 : (Jvm.Cond.code ({ cls := "java/lang/Number", name := "<init>", desc := "()V" } : Jvm.MethodName) jdk_18_method_1_code (1 : Nat) (Option.none : Option Jvm.ClassFile.FieldType)).before args0 about1 = true := code_word (m := ⟨4, 0⟩) (meth := k4m0) (c := k4c0) (by decide +kernel) rfl rfl rfl (by decide +kernel)
def codes1 : List Jvm.Cond := [Jvm.Cond.code x code maxLocals ret, Jvm.Cond.code ({ cls := "com/example/saltwire/saltwire/protocol/ApiVersionRange", name := "<init>", desc := "(SSS)V" } : Jvm.MethodName) prog_63_method_1_code (4 : Nat) (Option.none : Option Jvm.ClassFile.FieldType), Jvm.Cond.code ({ cls := "java/lang/Object", name := "<init>", desc := "()V" } : Jvm.MethodName) object_method_1_code (1 : Nat) (Option.none : Option Jvm.ClassFile.FieldType), Jvm.Cond.code ({ cls := "com/example/saltwire/saltwire/protocol/ApiVersionRange", name := "equals", desc := "(Ljava/lang/Object;)Z" } : Jvm.MethodName) prog_63_method_5_code (3 : Nat) (Option.some Jvm.ClassFile.FieldType.boolean), Jvm.Cond.code ({ cls := "java/lang/Integer", name := "valueOf", desc := "(I)Ljava/lang/Integer;" } : Jvm.MethodName) jdk_33_method_22_code (1 : Nat) (Option.some (Jvm.ClassFile.FieldType.object "java/lang/Integer")), Jvm.Cond.code ({ cls := "java/lang/Integer", name := "<init>", desc := "(I)V" } : Jvm.MethodName) jdk_33_method_23_code (2 : Nat) (Option.none : Option Jvm.ClassFile.FieldType), Jvm.Cond.code ({ cls := "java/lang/Number", name := "<init>", desc := "()V" } : Jvm.MethodName) jdk_18_method_1_code (1 : Nat) (Option.none : Option Jvm.ClassFile.FieldType)]
set_option maxRecDepth 65536 in
theorem codes_eq : words1.filter isCode = codes1 := rfl
theorem w_codes : ∀ c ∈ words1.filter isCode, c.before args0 about1 = true := by
  rw [codes_eq]
  intro c hc
  simp only [codes1, List.mem_cons, List.not_mem_nil, or_false] at hc
  rcases hc with rfl | rfl | rfl | rfl | rfl | rfl | rfl
  · exact w_c0
  · exact w_c1
  · exact w_c2
  · exact w_c3
  · exact w_c4
  · exact w_c5
  · exact w_c6
set_option maxRecDepth 65536 in
theorem w_t1 : (words1.take 24).all (fun c => isCode c || c.before args0 about1) = true := by decide +kernel
set_option maxRecDepth 65536 in
theorem w_t2 : (words1.drop 24).all (fun c => isCode c || c.before args0 about1) = true := by decide +kernel
theorem w_tables : (allAtoms (Jvm.Cond.code x code maxLocals ret :: tables_1)).before args0 about1 = true := by
  rw [allAtoms_all]
  show words1.all (fun c => c.before args0 about1) = true
  refine all_split ?_ w_codes
  rw [← List.take_append_drop 24 words1, List.all_append, w_t1, w_t2]
  rfl
set_option maxRecDepth 65536 in
theorem w_rest : rest_1_c.before args0 about1 = true := by decide +kernel
set_option maxRecDepth 65536 in
theorem w_case : (Jvm.Cond.and given_1 narrow_1).before args0 about1 = true := by decide +kernel
theorem w_applies : (headSpec (Jvm.Cond.code x code maxLocals ret :: tables_1) room_1).applies x e0.platform about1 = true :=
  (Spec.applies_iff w_frames).mpr ⟨w_running, w_runnable, w_alone, w_named, w_hears, w_ripe, w_room, w_tables⟩
theorem atStart : AtStart classFile x code maxLocals ret World_1 tables_1 room_1 Calls_1 rest_1 Pre_1 launch0 p0 e0 about1 theMethod args0 below0 :=
  ⟨lists_1, trivial, launch0.admits_env _ _ _, launch0.least_env, fairChoices_fair.cas, fairChoices_fair.clock, w_frames, w_args, w_heap, w_applies, trivial, w_rest, w_case⟩
end start1
theorem witness_1 : WitnessClaimed_1 := ⟨start1.p0, start1.e0, start1.about1, start1.theMethod, start1.args0, start1.below0, start1.atStart⟩
end Jvm.Pilot.@@N@@
