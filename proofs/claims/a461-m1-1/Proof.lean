import JvmDerived
import JvmDerived.Pilot.@@N@@Statement
import JvmDerived.Pilot.@@N@@Code
set_option linter.unusedVariables false
set_option linter.unusedSimpArgs false
namespace Jvm.Pilot.@@N@@
open Jvm Jvm.ClassFile Sem Op Lib Jvm.Free Jvm.Stand Jvm.LawKit Jvm.RoadKit Bundle Jvm.Pilot.@@N@@.Jvm.D
section Own
/-- from any state that stands at this heap, pc, locals and stack the run comes to an end that Q takes -/
def Wk (l : Launch) (Z : State) (n0 : Nat) (own nm : String) (bytes : ByteArray) (maxL : Nat) (ret : Option FieldType) (R : Room) (kc ks : Nat) (Q : Option Value → Heap → Prop) (h : Heap) (cl sl pc : Nat) (ls : Array Slot) (st : List Value) : Prop :=
  ∀ (p : Program) (e : Env) (s : State) (m : MethodId) (args : Array Value) (below : List Frame) (meth : Method) (c : Code) (T : State) (locs : List Loc),
    p.tables.exec = Jvm.exec → c.code = bytes → c.maxLocals = maxL → s.vm.findClass own = some m.cls → meth.name = nm → meth.sig.returnType = ret → meth.locks = false → Z.Warmed39 s.vm →
    Stand p l e R s m args below meth c T locs cl sl → T.heap = h → Fr n0 locs →
    ∃ s₂ o, Steps p.tables e below (T.setTop (mkF m pc ls st)) s₂ ∧ s₂.status = .running ∧ Ended s₂ below o ∧ ∃ v L, o = .returned v ∧ (Fr n0 L ∧ Q v s₂.heap) ∧ FrameEnd s o s₂ L kc ks
/-- a method's contract: from heap h, with the arguments as', it returns as Q says; new places alone are written -/
def Met (l : Launch) (Z : State) (n0 : Nat) (y : MethodName) (bytes : ByteArray) (maxL : Nat) (ret : Option FieldType) (rm : Room) (as' : Array Value) (h : Heap) (Q : Option Value → Heap → Prop) : Prop :=
  ∀ ws : List Jvm.Cond, MetFree l y (head1 (Jvm.Cond.code y bytes maxL ret :: ws) rm) (fun a U => a = as' ∧ Z.Warmed39 U.vm ∧ U.heap = h) (fun _ _ _ _ _ => True) (fun _ U o U' => ∃ v L, o = .returned v ∧ (Fr n0 L ∧ Q v U'.heap) ∧ FrameEnd U o U' L rm.cells rm.slots)
def icP : ClassFile.Cond → Int32 → Int32 → Prop
  | .eq, x, y => x = y | .ne, x, y => ¬ x = y | .lt, x, y => x < y | .ge, x, y => ¬ x < y | .gt, x, y => y < x | .le, x, y => ¬ y < x
def icN : ClassFile.Cond → Int32 → Int32 → Prop
  | .eq, x, y => ¬ x = y | .ne, x, y => x = y | .lt, x, y => ¬ x < y | .ge, x, y => x < y | .gt, x, y => ¬ y < x | .le, x, y => y < x
def acP : ACond → Value → Value → Prop
  | .eq, x, y => x = y | .ne, x, y => ¬ x = y
def acN : ACond → Value → Value → Prop
  | .eq, x, y => ¬ x = y | .ne, x, y => x = y
theorem ic_t {cd : ClassFile.Cond} {x y : Int32} (q : icP cd x y) : if_icmp.holds cd x y = true := by
  cases cd
  · exact (teq q).1
  · exact (feq q).2
  · exact (tlt q).1
  · exact (flt q).2.1
  · exact (tlt q).2.2.1
  · exact (flt q).2.2.2
theorem ic_f {cd : ClassFile.Cond} {x y : Int32} (q : icN cd x y) : if_icmp.holds cd x y = false := by
  cases cd
  · exact (feq q).1
  · exact (teq q).2
  · exact (flt q).1
  · exact (tlt q).2.1
  · exact (flt q).2.2.1
  · exact (tlt q).2.2.2
theorem ic_or (cd : ClassFile.Cond) (x y : Int32) : icP cd x y ∨ icN cd x y := by
  cases cd <;> simp only [icP, icN] <;> first | exact Decidable.em _ | exact (Decidable.em _).symm
theorem ac_t {cd : ACond} {x y : Value} (q : acP cd x y) : XT.acmp cd x y = true := by
  cases cd
  · exact decide_eq_true (show x = y from q)
  · exact decide_eq_true (show x ≠ y from q)
theorem ac_f {cd : ACond} {x y : Value} (q : acN cd x y) : XT.acmp cd x y = false := by
  cases cd
  · exact decide_eq_false (show ¬ x = y from q)
  · exact decide_eq_false (fun z : x ≠ y => z q)
theorem ac_or (cd : ACond) (x y : Value) : acP cd x y ∨ acN cd x y := by
  cases cd <;> simp only [acP, acN] <;> first | exact Classical.em _ | exact (Classical.em _).symm
variable {l : Launch} {Z : State} {a0 : Array Value} {n0 : Nat} {own nm : String} {bytes : ByteArray} {maxL : Nat} {ret : Option FieldType} {R : Room} {kc ks : Nat} {Q : Option Value → Heap → Prop} {h : Heap} {cl sl pc q : Nat} {ls ls' : Array Slot} {st st' rest : List Value}
theorem Met.mono {y : MethodName} {rm : Room} {as' : Array Value} {Q' : Option Value → Heap → Prop} (M : Met l Z n0 y bytes maxL ret rm as' h Q) (f : ∀ v h', Q v h' → Q' v h') : Met l Z n0 y bytes maxL ret rm as' h Q' := fun ws p e a1 a2 a3 s m args below b1 b2 b3 b4 => by
  obtain ⟨n, o, c1, c2, c3, v, L, c4, c5, c6⟩ := M ws p e a1 a2 a3 s m args below b1 b2 b3 b4
  exact ⟨n, o, c1, c2, c3, v, L, c4, ⟨c5.1, f _ _ c5.2⟩, c6⟩
theorem Met.of_wk {y : MethodName} {rm : Room} {as' : Array Value} (hp : plainFor y = true) (he : ∀ m, entryFrame m as' maxL = mkF m 0 ls []) (k : Wk l Z n0 y.cls y.name bytes maxL ret rm rm.cells rm.slots Q h 0 0 0 ls []) : Met l Z n0 y bytes maxL ret rm as' h Q := by
  intro ws
  refine MetFree.of_bodySF hp hisR ?_
  intro p e s m args below meth c s₁ Bd hml0 hP hK
  obtain ⟨rfl, hZ, hh⟩ := hP
  have X0 : Stand p l e rm s m args below meth c s₁ [] 0 0 := Stand.of_body Bd
  have e0 : s₁.heap = h := by rw [← hh, Bd.state]; rfl
  rw [he m]
  exact k p e s m _ below meth c s₁ [] Bd.exec Bd.bytes hml0 (findClass_of_methodNamed Bd.named) (name_of_methodNamed Bd.named Bd.method).1 Bd.returns Bd.notSynchronized hZ X0 e0 (Fr.nil n0)
theorem Wk.step (hs : ∀ {p : Program} {e : Env} {s : State} {m : MethodId} {args : Array Value} {below : List Frame} {meth : Method} {c : Code} {T : State} {locs : List Loc}, p.tables.exec = Jvm.exec → c.code = bytes → s.vm.findClass own = some m.cls → Z.Warmed39 s.vm → Stand p l e R s m args below meth c T locs cl sl → T.heap = h →
      ∀ target, Steps p.tables e below (T.setTop (mkF m q ls' st')) target → Steps p.tables e below (T.setTop (mkF m pc ls st)) target)
    (k : Wk l Z n0 own nm bytes maxL ret R kc ks Q h cl sl q ls' st') : Wk l Z n0 own nm bytes maxL ret R kc ks Q h cl sl pc ls st := by
  intro p e s m args below meth c T locs hx hby hml hown hnm hret hlk hZ X eT N
  obtain ⟨s₂, o, h1, r⟩ := k p e s m args below meth c T locs hx hby hml hown hnm hret hlk hZ X eT N
  exact ⟨s₂, o, hs hx hby hown hZ X eT _ h1, r⟩
theorem Wk.stepW (hs : ∀ {p : Program} {e : Env} {s : State} {m : MethodId} {args : Array Value} {below : List Frame} {meth : Method} {c : Code} {T : State} {locs : List Loc}, p.tables.exec = Jvm.exec → c.code = bytes → s.vm.findClass own = some m.cls → Z.Warmed39 s.vm → Stand p l e R s m args below meth c T locs cl sl → T.heap = h →
      ∃ T', Stand p l e R s m args below meth c T' locs cl sl ∧ T'.heap = h ∧ ∀ target, Steps p.tables e below (T'.setTop (mkF m q ls' st')) target → Steps p.tables e below (T.setTop (mkF m pc ls st)) target)
    (k : Wk l Z n0 own nm bytes maxL ret R kc ks Q h cl sl q ls' st') : Wk l Z n0 own nm bytes maxL ret R kc ks Q h cl sl pc ls st := by
  intro p e s m args below meth c T locs hx hby hml hown hnm hret hlk hZ X eT N
  obtain ⟨T', X', eT', st⟩ := hs hx hby hown hZ X eT
  obtain ⟨s₂, o, h1, r⟩ := k p e s m args below meth c T' locs hx hby hml hown hnm hret hlk hZ X' eT' N
  exact ⟨s₂, o, st _ h1, r⟩
theorem Wk.iloadN {i : Fin 4} {v : Int32} (hd : decode bytes pc = .ok (.iload_n i, 1)) (hq : pc + 1 = q) (hl : ls[i.val]? = some (.val (.int v))) (k : Wk l Z n0 own nm bytes maxL ret R kc ks Q h cl sl q ls (.int v :: st)) : Wk l Z n0 own nm bytes maxL ret R kc ks Q h cl sl pc ls st := by
  subst hq; exact Wk.step (fun hx hby _ _ X _ _ k => XS.iloadN X.here hx rfl (hb hby hd) hl k) k
theorem Wk.iload {i : Nat} {v : Int32} (hd : decode bytes pc = .ok (.iload i, 2)) (hq : pc + 2 = q) (hl : ls[i]? = some (.val (.int v))) (k : Wk l Z n0 own nm bytes maxL ret R kc ks Q h cl sl q ls (.int v :: st)) : Wk l Z n0 own nm bytes maxL ret R kc ks Q h cl sl pc ls st := by
  subst hq; exact Wk.step (fun hx hby _ _ X _ _ k => XS.iload X.here hx rfl (hb hby hd) hl k) k
theorem Wk.lloadN {i : Fin 4} {v : Int64} (hd : decode bytes pc = .ok (.lload_n i, 1)) (hq : pc + 1 = q) (hl : ls[i.val]? = some (.val (.long v))) (k : Wk l Z n0 own nm bytes maxL ret R kc ks Q h cl sl q ls (.long v :: st)) : Wk l Z n0 own nm bytes maxL ret R kc ks Q h cl sl pc ls st := by
  subst hq; exact Wk.step (fun hx hby _ _ X _ _ k => XT.lloadN X.here hx rfl (hb hby hd) hl k) k
theorem Wk.lload {i : Nat} {v : Int64} (hd : decode bytes pc = .ok (.lload i, 2)) (hq : pc + 2 = q) (hl : ls[i]? = some (.val (.long v))) (k : Wk l Z n0 own nm bytes maxL ret R kc ks Q h cl sl q ls (.long v :: st)) : Wk l Z n0 own nm bytes maxL ret R kc ks Q h cl sl pc ls st := by
  subst hq; exact Wk.step (fun hx hby _ _ X _ _ k => XT.lload X.here hx rfl (hb hby hd) hl k) k
theorem Wk.aloadN {i : Fin 4} {v : Value} (hd : decode bytes pc = .ok (.aload_n i, 1)) (hq : pc + 1 = q) (hl : ls[i.val]? = some (.val v)) (hv : v.isRef = true) (k : Wk l Z n0 own nm bytes maxL ret R kc ks Q h cl sl q ls (v :: st)) : Wk l Z n0 own nm bytes maxL ret R kc ks Q h cl sl pc ls st := by
  subst hq; exact Wk.step (fun hx hby _ _ X _ _ k => XS.aloadN X.here hx rfl (hb hby hd) hl hv k) k
theorem Wk.aload {i : Nat} {v : Value} (hd : decode bytes pc = .ok (.aload i, 2)) (hq : pc + 2 = q) (hl : ls[i]? = some (.val v)) (hv : v.isRef = true) (k : Wk l Z n0 own nm bytes maxL ret R kc ks Q h cl sl q ls (v :: st)) : Wk l Z n0 own nm bytes maxL ret R kc ks Q h cl sl pc ls st := by
  subst hq; exact Wk.step (fun hx hby _ _ X _ _ k => XS.aload X.here hx rfl (hb hby hd) hl hv k) k
theorem Wk.istoreN {i : Fin 4} {v : Int32} (hd : decode bytes pc = .ok (.istore_n i, 1)) (hq : pc + 1 = q) (hl : storeLocals ls i.val (.int v) = some ls') (k : Wk l Z n0 own nm bytes maxL ret R kc ks Q h cl sl q ls' st) : Wk l Z n0 own nm bytes maxL ret R kc ks Q h cl sl pc ls (.int v :: st) := by
  subst hq; exact Wk.step (fun hx hby _ _ X _ _ k => XS.istoreN X.here hx rfl (hb hby hd) rfl hl k) k
theorem Wk.istore {i : Nat} {v : Int32} (hd : decode bytes pc = .ok (.istore i, 2)) (hq : pc + 2 = q) (hl : storeLocals ls i (.int v) = some ls') (k : Wk l Z n0 own nm bytes maxL ret R kc ks Q h cl sl q ls' st) : Wk l Z n0 own nm bytes maxL ret R kc ks Q h cl sl pc ls (.int v :: st) := by
  subst hq; exact Wk.step (fun hx hby _ _ X _ _ k => XS.istore X.here hx rfl (hb hby hd) rfl hl k) k
theorem Wk.lstoreN {i : Fin 4} {v : Int64} (hd : decode bytes pc = .ok (.lstore_n i, 1)) (hq : pc + 1 = q) (hl : storeLocals ls i.val (.long v) = some ls') (k : Wk l Z n0 own nm bytes maxL ret R kc ks Q h cl sl q ls' st) : Wk l Z n0 own nm bytes maxL ret R kc ks Q h cl sl pc ls (.long v :: st) := by
  subst hq; exact Wk.step (fun hx hby _ _ X _ _ k => XT.lstoreN X.here hx rfl (hb hby hd) rfl hl k) k
theorem Wk.lstore {i : Nat} {v : Int64} (hd : decode bytes pc = .ok (.lstore i, 2)) (hq : pc + 2 = q) (hl : storeLocals ls i (.long v) = some ls') (k : Wk l Z n0 own nm bytes maxL ret R kc ks Q h cl sl q ls' st) : Wk l Z n0 own nm bytes maxL ret R kc ks Q h cl sl pc ls (.long v :: st) := by
  subst hq; exact Wk.step (fun hx hby _ _ X _ _ k => XT.lstore X.here hx rfl (hb hby hd) rfl hl k) k
theorem Wk.astoreN {i : Fin 4} {v : Value} (hd : decode bytes pc = .ok (.astore_n i, 1)) (hq : pc + 1 = q) (hv : v.isRef = true) (hl : storeLocals ls i.val v = some ls') (k : Wk l Z n0 own nm bytes maxL ret R kc ks Q h cl sl q ls' st) : Wk l Z n0 own nm bytes maxL ret R kc ks Q h cl sl pc ls (v :: st) := by
  subst hq; exact Wk.step (fun hx hby _ _ X _ _ k => XS.astoreN X.here hx rfl (hb hby hd) rfl hv hl k) k
theorem Wk.astore {i : Nat} {v : Value} (hd : decode bytes pc = .ok (.astore i, 2)) (hq : pc + 2 = q) (hv : v.isRef = true) (hl : storeLocals ls i v = some ls') (k : Wk l Z n0 own nm bytes maxL ret R kc ks Q h cl sl q ls' st) : Wk l Z n0 own nm bytes maxL ret R kc ks Q h cl sl pc ls (v :: st) := by
  subst hq; exact Wk.step (fun hx hby _ _ X _ _ k => XS.astore X.here hx rfl (hb hby hd) rfl hv hl k) k
theorem Wk.iconst {i : Int} {v : Int32} (hd : decode bytes pc = .ok (.iconst i, 1)) (hq : pc + 1 = q) (hv : Int32.ofInt i = v) (k : Wk l Z n0 own nm bytes maxL ret R kc ks Q h cl sl q ls (.int v :: st)) : Wk l Z n0 own nm bytes maxL ret R kc ks Q h cl sl pc ls st := by
  subst hq hv; exact Wk.step (fun hx hby _ _ X _ _ k => XS.iconst X.here hx rfl (hb hby hd) k) k
theorem Wk.bipush {i : Int} {v : Int32} (hd : decode bytes pc = .ok (.bipush i, 2)) (hq : pc + 2 = q) (hv : (Int8.ofInt i).toInt32 = v) (k : Wk l Z n0 own nm bytes maxL ret R kc ks Q h cl sl q ls (.int v :: st)) : Wk l Z n0 own nm bytes maxL ret R kc ks Q h cl sl pc ls st := by
  subst hq hv; exact Wk.step (fun hx hby _ _ X _ _ k => XS.bipush X.here hx rfl (hb hby hd) k) k
theorem Wk.sipush {i : Int} {v : Int32} (hd : decode bytes pc = .ok (.sipush i, 3)) (hq : pc + 3 = q) (hv : (Int16.ofInt i).toInt32 = v) (k : Wk l Z n0 own nm bytes maxL ret R kc ks Q h cl sl q ls (.int v :: st)) : Wk l Z n0 own nm bytes maxL ret R kc ks Q h cl sl pc ls st := by
  subst hq hv; exact Wk.step (fun hx hby _ _ X _ _ k => XS.sipush X.here hx rfl (hb hby hd) k) k
theorem Wk.lconst {i : Fin 2} {v : Int64} (hd : decode bytes pc = .ok (.lconst i, 1)) (hq : pc + 1 = q) (hv : Int64.ofNat i = v) (k : Wk l Z n0 own nm bytes maxL ret R kc ks Q h cl sl q ls (.long v :: st)) : Wk l Z n0 own nm bytes maxL ret R kc ks Q h cl sl pc ls st := by
  subst hq hv; exact Wk.step (fun hx hby _ _ X _ _ k => XT.lconst X.here hx rfl (hb hby hd) k) k
theorem Wk.null  (hd : decode bytes pc = .ok (.aconst_null, 1)) (hq : pc + 1 = q)  (k : Wk l Z n0 own nm bytes maxL ret R kc ks Q h cl sl q ls (.null :: st)) : Wk l Z n0 own nm bytes maxL ret R kc ks Q h cl sl pc ls st := by
  subst hq; exact Wk.step (fun hx hby _ _ X _ _ k => XS.aconstNull X.here hx rfl (hb hby hd) k) k
theorem Wk.ldcI {i : Nat} {v : Int32} (w : (Jvm.Cond.constant own i v).before a0 Z = true) (hd : decode bytes pc = .ok (.ldc i, 2)) (hq : pc + 2 = q) (k : Wk l Z n0 own nm bytes maxL ret R kc ks Q h cl sl q ls (.int v :: st)) : Wk l Z n0 own nm bytes maxL ret R kc ks Q h cl sl pc ls st := by
  subst hq; exact Wk.step (fun hx hby hown hZ X _ t k => X.ldcInt hx hown (mv hZ w) (g := mkF _ pc ls st) rfl (hb hby hd) t k) k
theorem Wk.ldc2 {i : Nat} {v : Int64} (w : (Jvm.Cond.constantLong own i v).before a0 Z = true) (hd : decode bytes pc = .ok (.ldc2_w i, 3)) (hq : pc + 3 = q) (k : Wk l Z n0 own nm bytes maxL ret R kc ks Q h cl sl q ls (.long v :: st)) : Wk l Z n0 own nm bytes maxL ret R kc ks Q h cl sl pc ls st := by
  subst hq; exact Wk.step (fun hx hby hown hZ X _ t k => X.ldc2Long hx hown (mv hZ w) (g := mkF _ pc ls st) rfl (hb hby hd) t k) k
theorem Wk.iadd {x y v : Int32} (hd : decode bytes pc = .ok (.iadd, 1)) (hq : pc + 1 = q) (hv : x + y = v) (k : Wk l Z n0 own nm bytes maxL ret R kc ks Q h cl sl q ls (.int v :: st)) : Wk l Z n0 own nm bytes maxL ret R kc ks Q h cl sl pc ls (.int y :: .int x :: st) := by
  subst hq hv; exact Wk.step (fun hx hby _ _ X _ _ k => XS.iadd X.here hx rfl (hb hby hd) rfl k) k
theorem Wk.isub {x y v : Int32} (hd : decode bytes pc = .ok (.isub, 1)) (hq : pc + 1 = q) (hv : x - y = v) (k : Wk l Z n0 own nm bytes maxL ret R kc ks Q h cl sl q ls (.int v :: st)) : Wk l Z n0 own nm bytes maxL ret R kc ks Q h cl sl pc ls (.int y :: .int x :: st) := by
  subst hq hv; exact Wk.step (fun hx hby _ _ X _ _ k => XS.isub X.here hx rfl (hb hby hd) rfl k) k
theorem Wk.iand {x y v : Int32} (hd : decode bytes pc = .ok (.iand, 1)) (hq : pc + 1 = q) (hv : x &&& y = v) (k : Wk l Z n0 own nm bytes maxL ret R kc ks Q h cl sl q ls (.int v :: st)) : Wk l Z n0 own nm bytes maxL ret R kc ks Q h cl sl pc ls (.int y :: .int x :: st) := by
  subst hq hv; exact Wk.step (fun hx hby _ _ X _ _ k => XS.iand X.here hx rfl (hb hby hd) rfl k) k
theorem Wk.imul {x y v : Int32} (hd : decode bytes pc = .ok (.imul, 1)) (hq : pc + 1 = q) (hv : x * y = v) (k : Wk l Z n0 own nm bytes maxL ret R kc ks Q h cl sl q ls (.int v :: st)) : Wk l Z n0 own nm bytes maxL ret R kc ks Q h cl sl pc ls (.int y :: .int x :: st) := by
  subst hq hv; exact Wk.step (fun hx hby _ _ X _ _ k => XS.imul X.here hx rfl (hb hby hd) rfl k) k
theorem Wk.ishr {x y v : Int32} (hd : decode bytes pc = .ok (.ishr, 1)) (hq : pc + 1 = q) (hv : x >>> (y &&& 31) = v) (k : Wk l Z n0 own nm bytes maxL ret R kc ks Q h cl sl q ls (.int v :: st)) : Wk l Z n0 own nm bytes maxL ret R kc ks Q h cl sl pc ls (.int y :: .int x :: st) := by
  subst hq hv; exact Wk.step (fun hx hby _ _ X _ _ k => XT.ishr X.here hx rfl (hb hby hd) rfl k) k
theorem Wk.iushr {x y v : Int32} (hd : decode bytes pc = .ok (.iushr, 1)) (hq : pc + 1 = q) (hv : XT.ushr x y = v) (k : Wk l Z n0 own nm bytes maxL ret R kc ks Q h cl sl q ls (.int v :: st)) : Wk l Z n0 own nm bytes maxL ret R kc ks Q h cl sl pc ls (.int y :: .int x :: st) := by
  subst hq hv; exact Wk.step (fun hx hby _ _ X _ _ k => XT.iushr X.here hx rfl (hb hby hd) rfl k) k
theorem Wk.irem {x y v : Int32} (hd : decode bytes pc = .ok (.irem, 1)) (hq : pc + 1 = q) (hy : y ≠ 0) (hv : x % y = v) (k : Wk l Z n0 own nm bytes maxL ret R kc ks Q h cl sl q ls (.int v :: st)) : Wk l Z n0 own nm bytes maxL ret R kc ks Q h cl sl pc ls (.int y :: .int x :: st) := by
  subst hq hv; exact Wk.step (fun hx hby _ _ X _ _ k => iremM X hx (g := mkF _ pc ls (.int y :: .int x :: st)) rfl (hb hby hd) rfl hy k) k
theorem Wk.idiv {x y v : Int32} (hd : decode bytes pc = .ok (.idiv, 1)) (hq : pc + 1 = q) (hy : y ≠ 0) (hv : x / y = v) (k : Wk l Z n0 own nm bytes maxL ret R kc ks Q h cl sl q ls (.int v :: st)) : Wk l Z n0 own nm bytes maxL ret R kc ks Q h cl sl pc ls (.int y :: .int x :: st) := by
  subst hq hv; exact Wk.step (fun hx hby _ _ X _ _ k => XS.idiv X.here hx rfl (hb hby hd) rfl hy k) k
theorem Wk.i2b {x v : Int32} (hd : decode bytes pc = .ok (.i2b, 1)) (hq : pc + 1 = q) (hv : x.toInt8.toInt32 = v) (k : Wk l Z n0 own nm bytes maxL ret R kc ks Q h cl sl q ls (.int v :: st)) : Wk l Z n0 own nm bytes maxL ret R kc ks Q h cl sl pc ls (.int x :: st) := by
  subst hq hv; exact Wk.step (fun hx hby _ _ X _ _ k => XT.i2b X.here hx rfl (hb hby hd) rfl k) k
theorem Wk.i2s {x v : Int32} (hd : decode bytes pc = .ok (.i2s, 1)) (hq : pc + 1 = q) (hv : x.toInt16.toInt32 = v) (k : Wk l Z n0 own nm bytes maxL ret R kc ks Q h cl sl q ls (.int v :: st)) : Wk l Z n0 own nm bytes maxL ret R kc ks Q h cl sl pc ls (.int x :: st) := by
  subst hq hv; exact Wk.step (fun hx hby _ _ X _ _ k => XT.i2s X.here hx rfl (hb hby hd) rfl k) k
theorem Wk.i2l {x : Int32} {v : Int64} (hd : decode bytes pc = .ok (.i2l, 1)) (hq : pc + 1 = q) (hv : x.toInt64 = v) (k : Wk l Z n0 own nm bytes maxL ret R kc ks Q h cl sl q ls (.long v :: st)) : Wk l Z n0 own nm bytes maxL ret R kc ks Q h cl sl pc ls (.int x :: st) := by
  subst hq hv; exact Wk.step (fun hx hby _ _ X _ _ k => XT.i2l X.here hx rfl (hb hby hd) rfl k) k
theorem Wk.l2i {x : Int64} {v : Int32} (hd : decode bytes pc = .ok (.l2i, 1)) (hq : pc + 1 = q) (hv : x.toInt32 = v) (k : Wk l Z n0 own nm bytes maxL ret R kc ks Q h cl sl q ls (.int v :: st)) : Wk l Z n0 own nm bytes maxL ret R kc ks Q h cl sl pc ls (.long x :: st) := by
  subst hq hv; exact Wk.step (fun hx hby _ _ X _ _ k => XT.l2i X.here hx rfl (hb hby hd) rfl k) k
theorem Wk.ladd {x y v : Int64} (hd : decode bytes pc = .ok (.ladd, 1)) (hq : pc + 1 = q) (hv : x + y = v) (k : Wk l Z n0 own nm bytes maxL ret R kc ks Q h cl sl q ls (.long v :: st)) : Wk l Z n0 own nm bytes maxL ret R kc ks Q h cl sl pc ls (.long y :: .long x :: st) := by
  subst hq hv; exact Wk.step (fun hx hby _ _ X _ _ k => XT.ladd X.here hx rfl (hb hby hd) rfl k) k
theorem Wk.lsub {x y v : Int64} (hd : decode bytes pc = .ok (.lsub, 1)) (hq : pc + 1 = q) (hv : x - y = v) (k : Wk l Z n0 own nm bytes maxL ret R kc ks Q h cl sl q ls (.long v :: st)) : Wk l Z n0 own nm bytes maxL ret R kc ks Q h cl sl pc ls (.long y :: .long x :: st) := by
  subst hq hv; exact Wk.step (fun hx hby _ _ X _ _ k => XT.lsub X.here hx rfl (hb hby hd) rfl k) k
theorem Wk.lmul {x y v : Int64} (hd : decode bytes pc = .ok (.lmul, 1)) (hq : pc + 1 = q) (hv : x * y = v) (k : Wk l Z n0 own nm bytes maxL ret R kc ks Q h cl sl q ls (.long v :: st)) : Wk l Z n0 own nm bytes maxL ret R kc ks Q h cl sl pc ls (.long y :: .long x :: st) := by
  subst hq hv; exact Wk.step (fun hx hby _ _ X _ _ k => XT.lmul X.here hx rfl (hb hby hd) rfl k) k
theorem Wk.lneg {x v : Int64} (hd : decode bytes pc = .ok (.lneg, 1)) (hq : pc + 1 = q) (hv : -x = v) (k : Wk l Z n0 own nm bytes maxL ret R kc ks Q h cl sl q ls (.long v :: st)) : Wk l Z n0 own nm bytes maxL ret R kc ks Q h cl sl pc ls (.long x :: st) := by
  subst hq hv; exact Wk.step (fun hx hby _ _ X _ _ k => XT.lneg X.here hx rfl (hb hby hd) rfl k) k
theorem Wk.lcmp {x y : Int64} {v : Int32} (hd : decode bytes pc = .ok (.lcmp, 1)) (hq : pc + 1 = q) (hv : XT.cmpL x y = v) (k : Wk l Z n0 own nm bytes maxL ret R kc ks Q h cl sl q ls (.int v :: st)) : Wk l Z n0 own nm bytes maxL ret R kc ks Q h cl sl pc ls (.long y :: .long x :: st) := by
  subst hq hv; exact Wk.step (fun hx hby _ _ X _ _ k => XT.lcmp X.here hx rfl (hb hby hd) rfl k) k
theorem Wk.iinc {i : Nat} {cst : Int} {x v : Int32} (hd : decode bytes pc = .ok (.iinc i cst, 3)) (hq : pc + 3 = q) (hl : ls[i]? = some (.val (.int x))) (hv : x + Int32.ofInt cst = v) (hl' : storeLocals ls i (.int v) = some ls') (k : Wk l Z n0 own nm bytes maxL ret R kc ks Q h cl sl q ls' st) : Wk l Z n0 own nm bytes maxL ret R kc ks Q h cl sl pc ls st := by
  subst hq hv; exact Wk.step (fun hx hby _ _ X _ _ k => XS.iinc X.here hx rfl (hb hby hd) hl hl' k) k
theorem Wk.dup {x : Value} (hd : decode bytes pc = .ok (.dup, 1)) (hq : pc + 1 = q) (hc : x.category = 1) (k : Wk l Z n0 own nm bytes maxL ret R kc ks Q h cl sl q ls (x :: x :: st)) : Wk l Z n0 own nm bytes maxL ret R kc ks Q h cl sl pc ls (x :: st) := by
  subst hq; exact Wk.step (fun hx hby _ _ X _ _ k => XS.dup X.here hx rfl (hb hby hd) rfl hc k) k
theorem Wk.dupX1 {x y : Value} (hd : decode bytes pc = .ok (.dup_x1, 1)) (hq : pc + 1 = q) (hc : x.category = 1) (hc' : y.category = 1) (k : Wk l Z n0 own nm bytes maxL ret R kc ks Q h cl sl q ls (x :: y :: x :: st)) : Wk l Z n0 own nm bytes maxL ret R kc ks Q h cl sl pc ls (x :: y :: st) := by
  subst hq; exact Wk.step (fun hx hby _ _ X _ _ k => XT.dupX1 X.here hx rfl (hb hby hd) rfl hc hc' k) k
theorem Wk.pop {x : Value} (hd : decode bytes pc = .ok (.pop, 1)) (hq : pc + 1 = q) (hc : x.category = 1) (k : Wk l Z n0 own nm bytes maxL ret R kc ks Q h cl sl q ls st) : Wk l Z n0 own nm bytes maxL ret R kc ks Q h cl sl pc ls (x :: st) := by
  subst hq; exact Wk.step (fun hx hby _ _ X _ _ k => XT.pop X.here hx rfl (hb hby hd) rfl hc k) k
theorem Wk.goto {o : Int} (hd : decode bytes pc = .ok (.goto o, 3)) (ho : 0 ≤ (pc : Int) + o) (hp : ((pc : Int) + o).toNat = q) (k : Wk l Z n0 own nm bytes maxL ret R kc ks Q h cl sl q ls st) : Wk l Z n0 own nm bytes maxL ret R kc ks Q h cl sl pc ls st :=
  Wk.step (fun hx hby _ _ X _ _ k => XS.goto X.here hx rfl rfl (hb hby hd) ho hp k) k
theorem Wk.icmpT {cd : ClassFile.Cond} {o : Int} {x y : Int32} (hd : decode bytes pc = .ok (.if_icmp cd o, 3)) (ho : 0 ≤ (pc : Int) + o) (hp : ((pc : Int) + o).toNat = q) (hc : icP cd x y) (k : Wk l Z n0 own nm bytes maxL ret R kc ks Q h cl sl q ls st) : Wk l Z n0 own nm bytes maxL ret R kc ks Q h cl sl pc ls (.int y :: .int x :: st) :=
  Wk.step (fun hx hby _ _ X _ _ k => XS.icmpYes X.here hx rfl rfl (hb hby hd) rfl (ic_t hc) ho hp k) k
theorem Wk.icmpF {cd : ClassFile.Cond} {o : Int} {x y : Int32} (hd : decode bytes pc = .ok (.if_icmp cd o, 3)) (hq : pc + 3 = q) (hc : icN cd x y) (k : Wk l Z n0 own nm bytes maxL ret R kc ks Q h cl sl q ls st) : Wk l Z n0 own nm bytes maxL ret R kc ks Q h cl sl pc ls (.int y :: .int x :: st) := by
  subst hq; exact Wk.step (fun hx hby _ _ X _ _ k => XS.icmpNo X.here hx rfl (hb hby hd) rfl (ic_f hc) k) k
theorem Wk.icmp {cd : ClassFile.Cond} {o : Int} {x y : Int32} {q' : Nat} (hd : decode bytes pc = .ok (.if_icmp cd o, 3)) (ho : 0 ≤ (pc : Int) + o) (hp : ((pc : Int) + o).toNat = q) (hq : pc + 3 = q') (kT : icP cd x y → Wk l Z n0 own nm bytes maxL ret R kc ks Q h cl sl q ls st) (kF : icN cd x y → Wk l Z n0 own nm bytes maxL ret R kc ks Q h cl sl q' ls st) : Wk l Z n0 own nm bytes maxL ret R kc ks Q h cl sl pc ls (.int y :: .int x :: st) :=
  (ic_or cd x y).elim (fun z => Wk.icmpT hd ho hp z (kT z)) (fun z => Wk.icmpF hd hq z (kF z))
theorem Wk.ifcT {cd : ClassFile.Cond} {o : Int} {x : Int32} (hd : decode bytes pc = .ok (.ifCond cd o, 3)) (ho : 0 ≤ (pc : Int) + o) (hp : ((pc : Int) + o).toNat = q) (hc : icP cd x 0) (k : Wk l Z n0 own nm bytes maxL ret R kc ks Q h cl sl q ls st) : Wk l Z n0 own nm bytes maxL ret R kc ks Q h cl sl pc ls (.int x :: st) :=
  Wk.step (fun hx hby _ _ X _ _ k => XS.ifYes X.here hx rfl rfl (hb hby hd) rfl ((if0 cd x).trans (ic_t hc)) ho hp k) k
theorem Wk.ifcF {cd : ClassFile.Cond} {o : Int} {x : Int32} (hd : decode bytes pc = .ok (.ifCond cd o, 3)) (hq : pc + 3 = q) (hc : icN cd x 0) (k : Wk l Z n0 own nm bytes maxL ret R kc ks Q h cl sl q ls st) : Wk l Z n0 own nm bytes maxL ret R kc ks Q h cl sl pc ls (.int x :: st) := by
  subst hq; exact Wk.step (fun hx hby _ _ X _ _ k => XS.ifNo X.here hx rfl (hb hby hd) rfl ((if0 cd x).trans (ic_f hc)) k) k
theorem Wk.ifc {cd : ClassFile.Cond} {o : Int} {x : Int32} {q' : Nat} (hd : decode bytes pc = .ok (.ifCond cd o, 3)) (ho : 0 ≤ (pc : Int) + o) (hp : ((pc : Int) + o).toNat = q) (hq : pc + 3 = q') (kT : icP cd x 0 → Wk l Z n0 own nm bytes maxL ret R kc ks Q h cl sl q ls st) (kF : icN cd x 0 → Wk l Z n0 own nm bytes maxL ret R kc ks Q h cl sl q' ls st) : Wk l Z n0 own nm bytes maxL ret R kc ks Q h cl sl pc ls (.int x :: st) :=
  (ic_or cd x 0).elim (fun z => Wk.ifcT hd ho hp z (kT z)) (fun z => Wk.ifcF hd hq z (kF z))
theorem Wk.acmpT {cd : ACond} {o : Int} {x y : Value} (hd : decode bytes pc = .ok (.if_acmp cd o, 3)) (ho : 0 ≤ (pc : Int) + o) (hp : ((pc : Int) + o).toNat = q) (hx' : x.isRef = true) (hy' : y.isRef = true) (hc : acP cd x y) (k : Wk l Z n0 own nm bytes maxL ret R kc ks Q h cl sl q ls st) : Wk l Z n0 own nm bytes maxL ret R kc ks Q h cl sl pc ls (y :: x :: st) :=
  Wk.step (fun hx hby _ _ X _ _ k => XT.acmpYes X.here hx rfl rfl (hb hby hd) rfl hx' hy' (ac_t hc) ho hp k) k
theorem Wk.acmpF {cd : ACond} {o : Int} {x y : Value} (hd : decode bytes pc = .ok (.if_acmp cd o, 3)) (hq : pc + 3 = q) (hx' : x.isRef = true) (hy' : y.isRef = true) (hc : acN cd x y) (k : Wk l Z n0 own nm bytes maxL ret R kc ks Q h cl sl q ls st) : Wk l Z n0 own nm bytes maxL ret R kc ks Q h cl sl pc ls (y :: x :: st) := by
  subst hq; exact Wk.step (fun hx hby _ _ X _ _ k => XT.acmpNo X.here hx rfl (hb hby hd) rfl hx' hy' (ac_f hc) k) k
theorem Wk.acmp {cd : ACond} {o : Int} {x y : Value} {q' : Nat} (hd : decode bytes pc = .ok (.if_acmp cd o, 3)) (ho : 0 ≤ (pc : Int) + o) (hp : ((pc : Int) + o).toNat = q) (hq : pc + 3 = q') (hx' : x.isRef = true) (hy' : y.isRef = true) (kT : acP cd x y → Wk l Z n0 own nm bytes maxL ret R kc ks Q h cl sl q ls st) (kF : acN cd x y → Wk l Z n0 own nm bytes maxL ret R kc ks Q h cl sl q' ls st) : Wk l Z n0 own nm bytes maxL ret R kc ks Q h cl sl pc ls (y :: x :: st) :=
  (ac_or cd x y).elim (fun z => Wk.acmpT hd ho hp hx' hy' z (kT z)) (fun z => Wk.acmpF hd hq hx' hy' z (kF z))
theorem Wk.ifnullT {o : Int} (hd : decode bytes pc = .ok (.ifnull o, 3)) (ho : 0 ≤ (pc : Int) + o) (hp : ((pc : Int) + o).toNat = q) (k : Wk l Z n0 own nm bytes maxL ret R kc ks Q h cl sl q ls st) : Wk l Z n0 own nm bytes maxL ret R kc ks Q h cl sl pc ls (.null :: st) :=
  Wk.step (fun hx hby _ _ X _ _ k => XS.ifnullYes X.here hx rfl rfl (hb hby hd) rfl ho hp k) k
theorem Wk.ifnullF {o : Int} {b : Addr} (hd : decode bytes pc = .ok (.ifnull o, 3)) (hq : pc + 3 = q) (k : Wk l Z n0 own nm bytes maxL ret R kc ks Q h cl sl q ls st) : Wk l Z n0 own nm bytes maxL ret R kc ks Q h cl sl pc ls (.ref b :: st) := by
  subst hq; exact Wk.step (fun hx hby _ _ X _ _ k => XS.ifnullNo X.here hx rfl (hb hby hd) rfl k) k
theorem Wk.ifnonnullT {o : Int} {b : Addr} (hd : decode bytes pc = .ok (.ifnonnull o, 3)) (ho : 0 ≤ (pc : Int) + o) (hp : ((pc : Int) + o).toNat = q) (k : Wk l Z n0 own nm bytes maxL ret R kc ks Q h cl sl q ls st) : Wk l Z n0 own nm bytes maxL ret R kc ks Q h cl sl pc ls (.ref b :: st) :=
  Wk.step (fun hx hby _ _ X _ _ k => XT.ifnonnullYes X.here hx rfl rfl (hb hby hd) rfl ho hp k) k
theorem Wk.ifnonnullF {o : Int} (hd : decode bytes pc = .ok (.ifnonnull o, 3)) (hq : pc + 3 = q) (k : Wk l Z n0 own nm bytes maxL ret R kc ks Q h cl sl q ls st) : Wk l Z n0 own nm bytes maxL ret R kc ks Q h cl sl pc ls (.null :: st) := by
  subst hq; exact Wk.step (fun hx hby _ _ X _ _ k => XT.ifnonnullNo X.here hx rfl (hb hby hd) rfl k) k
theorem Wk.tsw {dflt low high : Int} {offs : Array Int} {len : Nat} {o : Int} {i : Int32} (hd : decode bytes pc = .ok (.tableswitch dflt low high offs, len)) (hin : ¬ (i.toInt < low ∨ i.toInt > high)) (hoff : offs[(i.toInt - low).toNat]? = some o) (ho : 0 ≤ (pc : Int) + o) (hp : ((pc : Int) + o).toNat = q) (k : Wk l Z n0 own nm bytes maxL ret R kc ks Q h cl sl q ls st) : Wk l Z n0 own nm bytes maxL ret R kc ks Q h cl sl pc ls (.int i :: st) :=
  Wk.step (fun hx hby _ _ X _ _ k => XS.tswIn X.here hx rfl rfl (hb hby hd) rfl hin hoff ho hp k) k
theorem Wk.getS {O n d R0 : String} {i : Nat} {v : Value} (w : (Jvm.Cond.fieldLink own i R0 n d).before a0 Z = true) (via : Via Z R0 O n d) (F : Sta Z h O n d v) (hd : decode bytes pc = .ok (.getstatic i, 3)) (hq : pc + 3 = q) (k : Wk l Z n0 own nm bytes maxL ret R kc ks Q h cl sl q ls (v :: st)) : Wk l Z n0 own nm bytes maxL ret R kc ks Q h cl sl pc ls st := by
  subst hq; exact Wk.stepW (fun hx hby hown hZ X eT => RoadKit.getS (host := "") X hx hZ hown w via eT F (g := mkF _ pc ls st) rfl (hb hby hd)) k
theorem Wk.getF {O n d R0 : String} {i : Nat} {a : Addr} {v : Value} (w : (Jvm.Cond.fieldLink own i R0 n d).before a0 Z = true) (via : Via Z R0 O n d) (F : Fld Z h a O n d v) (hd : decode bytes pc = .ok (.getfield i, 3)) (hq : pc + 3 = q) (k : Wk l Z n0 own nm bytes maxL ret R kc ks Q h cl sl q ls (v :: st)) : Wk l Z n0 own nm bytes maxL ret R kc ks Q h cl sl pc ls (.ref a :: st) := by
  subst hq; exact Wk.stepW (fun hx hby hown hZ X eT => RoadKit.getF (host := "") X hx hZ hown (Or.inl w) via eT F (g := mkF _ pc ls (.ref a :: st)) rfl rfl (hb hby hd)) k
theorem Wk.alen {a : Addr} {c0 : Cell} {ty : FieldType} {v : Int32} (A : Arr Z h a c0 ty) (hv : c0.slots.size.toInt32 = v) (hd : decode bytes pc = .ok (.arraylength, 1)) (hq : pc + 1 = q) (k : Wk l Z n0 own nm bytes maxL ret R kc ks Q h cl sl q ls (.int v :: st)) : Wk l Z n0 own nm bytes maxL ret R kc ks Q h cl sl pc ls (.ref a :: st) := by
  subst hq hv; exact Wk.step (fun hx hby _ hZ X eT t k => X.arraylength hx (by rw [eT]; exact A.1) (State.isArrayOf_alike hZ.alike A.2.1) (g := mkF _ pc ls (.ref a :: st)) rfl rfl (hb hby hd) t k) k
theorem Wk.aaload {a : Addr} {c0 : Cell} {ty : FieldType} {j : Int32} {v : Value} (A : Arr Z h a c0 ty) (hty : ty.isReference = true) (hin : ¬ (j < 0 ∨ c0.slots.size ≤ j.toNatClampNeg)) (hv : c0.slots[j.toNatClampNeg]? = some v) (hd : decode bytes pc = .ok (.aaload, 1)) (hq : pc + 1 = q) (k : Wk l Z n0 own nm bytes maxL ret R kc ks Q h cl sl q ls (v :: st)) : Wk l Z n0 own nm bytes maxL ret R kc ks Q h cl sl pc ls (.int j :: .ref a :: st) := by
  subst hq; exact Wk.step (fun hx hby _ hZ X eT t k => X.aaload hx (by rw [eT]; exact A.1) (State.isArrayOf_alike hZ.alike A.2.1) hty A.2.2 hin hv (g := mkF _ pc ls (.int j :: .ref a :: st)) rfl rfl (hb hby hd) t k) k
theorem Wk.baloadB {a : Addr} {c0 : Cell} {j : Int32} {v : Value} (A : Arr Z h a c0 .byte) (hin : ¬ (j < 0 ∨ c0.slots.size ≤ j.toNatClampNeg)) (hv : c0.slots[j.toNatClampNeg]? = some v) (hd : decode bytes pc = .ok (.baload, 1)) (hq : pc + 1 = q) (k : Wk l Z n0 own nm bytes maxL ret R kc ks Q h cl sl q ls (v :: st)) : Wk l Z n0 own nm bytes maxL ret R kc ks Q h cl sl pc ls (.int j :: .ref a :: st) := by
  subst hq; exact Wk.step (fun hx hby _ hZ X eT t k => X.baloadBytes hx (by rw [eT]; exact A.1) (State.isArrayOf_alike hZ.alike A.2.1) A.2.2 hin hv (g := mkF _ pc ls (.int j :: .ref a :: st)) rfl rfl (hb hby hd) t k) k
theorem Wk.baloadZ {a : Addr} {c0 : Cell} {j : Int32} {v : Value} (A : Arr Z h a c0 .boolean) (hin : ¬ (j < 0 ∨ c0.slots.size ≤ j.toNatClampNeg)) (hv : c0.slots[j.toNatClampNeg]? = some v) (hd : decode bytes pc = .ok (.baload, 1)) (hq : pc + 1 = q) (k : Wk l Z n0 own nm bytes maxL ret R kc ks Q h cl sl q ls (v :: st)) : Wk l Z n0 own nm bytes maxL ret R kc ks Q h cl sl pc ls (.int j :: .ref a :: st) := by
  subst hq; exact Wk.step (fun hx hby _ hZ X eT t k => X.baloadBooleans hx (by rw [eT]; exact A.1) (State.isArrayOf_alike hZ.alike A.2.1) A.2.2 hin hv (g := mkF _ pc ls (.int j :: .ref a :: st)) rfl rfl (hb hby hd) t k) k
theorem Wk.retG {w : Value} {t : FieldType} {i : Instr} (hret : ret = some t) (hn : narrow t w = w)
    (hi : (i = .ireturn ∧ (t = .int ∨ t = .boolean ∨ t = .byte ∨ t = .char ∨ t = .short) ∧ ∃ z, w = .int z) ∨ (i = .lreturn ∧ t = .long ∧ ∃ z, w = .long z) ∨ (i = .dreturn ∧ t = .double ∧ ∃ z, w = .double z) ∨ (i = .freturn ∧ t = .float ∧ ∃ z, w = .float z) ∨ (i = .areturn ∧ t.isReference = true ∧ w.isRef = true))
    (hd : decode bytes pc = .ok (i, 1)) (hc : cl ≤ kc) (hs : sl ≤ ks) (hQ : Q (some w) h) : Wk l Z n0 own nm bytes maxL ret R kc ks Q h cl sl pc ls (w :: st) := by
  intro p e s m args below meth c T locs hx hby hml hown hnm hr hlk hZ X eT N
  obtain ⟨fs, hr', hrun, hended, hW, hsame⟩ := X.leave (v := some w) (fun q => by rw [hr, hret] at q; cases q) hlk
  exact ⟨_, _, RoadKit.retOut X hx (hr.trans hret) hn hi (hb hby hd) hr', hrun, hended, _, _, rfl, ⟨N, by show Q _ T.heap; rw [eT]; exact hQ⟩, ⟨_, rfl⟩, hW, hsame.mono hc hs⟩
theorem Wk.retI {z : Int32} (hret : ret = some .int) (hd : decode bytes pc = .ok (.ireturn, 1)) (hc : cl ≤ kc) (hs : sl ≤ ks) (hQ : Q (some (.int z)) h) : Wk l Z n0 own nm bytes maxL ret R kc ks Q h cl sl pc ls (.int z :: st) :=
  Wk.retG hret rfl (Or.inl ⟨rfl, Or.inl rfl, z, rfl⟩) hd hc hs hQ
theorem Wk.retZ {z : Int32} (hret : ret = some .boolean) (hz : narrow .boolean (.int z) = .int z) (hd : decode bytes pc = .ok (.ireturn, 1)) (hc : cl ≤ kc) (hs : sl ≤ ks) (hQ : Q (some (.int z)) h) : Wk l Z n0 own nm bytes maxL ret R kc ks Q h cl sl pc ls (.int z :: st) :=
  Wk.retG hret hz (Or.inl ⟨rfl, Or.inr (Or.inl rfl), z, rfl⟩) hd hc hs hQ
theorem Wk.retB {z : Int32} (hret : ret = some .byte) (hz : narrow .byte (.int z) = .int z) (hd : decode bytes pc = .ok (.ireturn, 1)) (hc : cl ≤ kc) (hs : sl ≤ ks) (hQ : Q (some (.int z)) h) : Wk l Z n0 own nm bytes maxL ret R kc ks Q h cl sl pc ls (.int z :: st) :=
  Wk.retG hret hz (Or.inl ⟨rfl, Or.inr (Or.inr (Or.inl rfl)), z, rfl⟩) hd hc hs hQ
theorem Wk.retL {z : Int64} (hret : ret = some .long) (hd : decode bytes pc = .ok (.lreturn, 1)) (hc : cl ≤ kc) (hs : sl ≤ ks) (hQ : Q (some (.long z)) h) : Wk l Z n0 own nm bytes maxL ret R kc ks Q h cl sl pc ls (.long z :: st) :=
  Wk.retG hret rfl (Or.inr (Or.inl ⟨rfl, rfl, z, rfl⟩)) hd hc hs hQ
theorem own_narR {t : FieldType} {w : Value} (h1 : t.isReference = true) (h2 : w.isRef = true) : narrow t w = w := by
  cases t <;> cases w <;> first | rfl | (simp [FieldType.isReference] at h1; done) | (simp [Value.isRef] at h2; done)
theorem Wk.retA {w : Value} {t : FieldType} (hret : ret = some t) (ht : t.isReference = true) (hw : w.isRef = true) (hd : decode bytes pc = .ok (.areturn, 1)) (hc : cl ≤ kc) (hs : sl ≤ ks) (hQ : Q (some w) h) : Wk l Z n0 own nm bytes maxL ret R kc ks Q h cl sl pc ls (w :: st) :=
  Wk.retG hret (own_narR ht hw) (Or.inr (Or.inr (Or.inr (Or.inr ⟨rfl, ht, hw⟩)))) hd hc hs hQ
theorem Wk.retV (hret : ret = none) (hd : decode bytes pc = .ok (.return_, 1)) (hc : cl ≤ kc) (hs : sl ≤ ks) (hQ : Q none h) : Wk l Z n0 own nm bytes maxL ret R kc ks Q h cl sl pc ls [] := by
  intro p e s m args below meth c T locs hx hby hml hown hnm hr hlk hZ X eT N
  obtain ⟨fs, hr', hrun, hended, hW, hsame⟩ := X.leave (v := none) (fun _ => rfl) hlk
  exact ⟨_, _, X.returnOut hx (hr.trans hret) (hb hby hd) hr', hrun, hended, _, _, rfl, ⟨N, by show Q _ T.heap; rw [eT]; exact hQ⟩, ⟨_, rfl⟩, hW, hsame.mono hc hs⟩
theorem Wk.callS {i : Nat} {y : MethodName} {by' : ByteArray} {mL : Nat} {rt : Option FieldType} {rm : Room} {argsL rest : List Value} {Q' : Value → Heap → Prop} {ps : List FieldType} {r' : Option FieldType}
    (hM : Met l Z n0 y by' mL rt rm argsL.toArray h (fun v h' => ∃ w, v = some w ∧ Q' w h'))
    (w1 : (Jvm.Cond.methodLink own i y).before a0 Z = true) (w2 : (Jvm.Cond.static y).before a0 Z = true) (w3 : (Jvm.Cond.initialized y.cls).before a0 Z = true) (w4 : (Jvm.Cond.code y by' mL rt).before a0 Z = true) (hy : y.cls ≠ "java/lang/invoke/MethodHandle" ∧ y.cls ≠ "java/lang/invoke/VarHandle")
    (hds : parseMethodDescriptor y.desc = some ⟨ps, r'⟩) (hln : argsL.length = ps.length) (hst : st = argsL.reverse ++ rest) (hls : ls.size = maxL) (hd : decode bytes pc = .ok (.invokestatic i, 3)) (hq : pc + 3 = q)
    {W : Nat} (hW : (rest.map fun v => v.category).sum = W) (hf : rm.frames + 1 ≤ R.frames) (hlo : W + (mL + 11) + rm.locals ≤ R.locals) (hce : cl + rm.cells ≤ R.cells) (hsl : sl + rm.slots ≤ R.slots)
    (k : ∀ w h', Q' w h' → Wk l Z n0 own nm bytes maxL ret R kc ks Q h' (cl + rm.cells) (sl + rm.slots) q ls (w :: rest)) : Wk l Z n0 own nm bytes maxL ret R kc ks Q h cl sl pc ls st := by
  subst hq hst hW
  intro p e s m args below meth c T locs hx hby hml hown hnm hr hlk hZ X eT N
  obtain ⟨v, _, ⟨T', L', k', n'⟩, -, X', ⟨Lc, ⟨N', hQ⟩, l', y', z'⟩, stp⟩ := Jvm.LawKit.callS X hx (y := y) hown (mvT hZ w1) (mvT hZ w2) (mvT hZ w3) (mvT hZ w4) hy (backOf (W := (rest.map fun v => v.category).sum) (Q := fun v h' L => Fr n0 L ∧ (fun v h' => ∃ w, v = some w ∧ Q' w h') v h') (hM []) hZ w4 w3 hf hlo) (g := mkF m pc ls (argsL.reverse ++ rest)) rfl (by rw [hml]; exact hls) (argsL := argsL) (rest := rest) (lenOf hds hln) rfl (by show 2 * 0 + _ ≤ _; omega) (hb hby hd) (fun _ _ => ⟨rfl, eT, hce, hsl⟩)
  dsimp only [Pt.U, Pt.locs, Pt.cells, Pt.slots] at X' l' y' z' stp hQ
  subst l' y' z'
  obtain ⟨w, rfl, hQ⟩ := hQ
  obtain ⟨s₂, o, h1, r⟩ := k w T'.heap hQ p e s m args below meth c T' _ hx hby hml hown hnm hr hlk hZ X' rfl (Fr.app N N')
  exact ⟨s₂, o, stp _ h1, r⟩
theorem Wk.callS1 {i : Nat} {y : MethodName} {by' : ByteArray} {mL : Nat} {rt : Option FieldType} {fr lo : Nat} {argsL rest : List Value} {v0 : Value} {ps : List FieldType} {r' : Option FieldType}
    (hM : Met l Z n0 y by' mL rt ⟨fr, 0, 0, lo⟩ argsL.toArray h (fun v h' => v = some v0 ∧ h' = h))
    (w1 : (Jvm.Cond.methodLink own i y).before a0 Z = true) (w2 : (Jvm.Cond.static y).before a0 Z = true) (w3 : (Jvm.Cond.initialized y.cls).before a0 Z = true) (w4 : (Jvm.Cond.code y by' mL rt).before a0 Z = true) (hy : y.cls ≠ "java/lang/invoke/MethodHandle" ∧ y.cls ≠ "java/lang/invoke/VarHandle")
    (hds : parseMethodDescriptor y.desc = some ⟨ps, r'⟩) (hln : argsL.length = ps.length) (hst : st = argsL.reverse ++ rest) (hls : ls.size = maxL) (hd : decode bytes pc = .ok (.invokestatic i, 3)) (hq : pc + 3 = q)
    {W : Nat} (hW : (rest.map fun v => v.category).sum = W) (hf : fr + 1 ≤ R.frames) (hlo : W + (mL + 11) + lo ≤ R.locals) (hce : cl ≤ R.cells) (hsl : sl ≤ R.slots)
    (k : Wk l Z n0 own nm bytes maxL ret R kc ks Q h cl sl q ls (v0 :: rest)) : Wk l Z n0 own nm bytes maxL ret R kc ks Q h cl sl pc ls st :=
  Wk.callS (Q' := fun w h' => w = v0 ∧ h' = h) (rm := ⟨fr, 0, 0, lo⟩) (hM.mono fun v h' z => ⟨v0, z.1, rfl, z.2⟩) w1 w2 w3 w4 hy hds hln hst hls hd hq hW hf hlo hce hsl (fun w h' z => by obtain ⟨rfl, rfl⟩ := z; exact k)
theorem Wk.callS0 {i : Nat} {y : MethodName} {by' : ByteArray} {mL : Nat} {rt : Option FieldType} {rm : Room} {argsL rest : List Value} {Q' : Heap → Prop} {ps : List FieldType} {r' : Option FieldType}
    (hM : Met l Z n0 y by' mL rt rm argsL.toArray h (fun v h' => v = none ∧ Q' h'))
    (w1 : (Jvm.Cond.methodLink own i y).before a0 Z = true) (w2 : (Jvm.Cond.static y).before a0 Z = true) (w3 : (Jvm.Cond.initialized y.cls).before a0 Z = true) (w4 : (Jvm.Cond.code y by' mL rt).before a0 Z = true) (hy : y.cls ≠ "java/lang/invoke/MethodHandle" ∧ y.cls ≠ "java/lang/invoke/VarHandle")
    (hds : parseMethodDescriptor y.desc = some ⟨ps, r'⟩) (hln : argsL.length = ps.length) (hst : st = argsL.reverse ++ rest) (hls : ls.size = maxL) (hd : decode bytes pc = .ok (.invokestatic i, 3)) (hq : pc + 3 = q)
    {W : Nat} (hW : (rest.map fun v => v.category).sum = W) (hf : rm.frames + 1 ≤ R.frames) (hlo : W + (mL + 11) + rm.locals ≤ R.locals) (hce : cl + rm.cells ≤ R.cells) (hsl : sl + rm.slots ≤ R.slots)
    (k : ∀ h', Q' h' → Wk l Z n0 own nm bytes maxL ret R kc ks Q h' (cl + rm.cells) (sl + rm.slots) q ls rest) : Wk l Z n0 own nm bytes maxL ret R kc ks Q h cl sl pc ls st := by
  subst hq hst hW
  intro p e s m args below meth c T locs hx hby hml hown hnm hr hlk hZ X eT N
  obtain ⟨v, _, ⟨T', L', k', n'⟩, -, X', ⟨Lc, ⟨N', hQ⟩, l', y', z'⟩, stp⟩ := Jvm.LawKit.callS X hx (y := y) hown (mvT hZ w1) (mvT hZ w2) (mvT hZ w3) (mvT hZ w4) hy (backOf (W := (rest.map fun v => v.category).sum) (Q := fun v h' L => Fr n0 L ∧ (fun v h' => v = none ∧ Q' h') v h') (hM []) hZ w4 w3 hf hlo) (g := mkF m pc ls (argsL.reverse ++ rest)) rfl (by rw [hml]; exact hls) (argsL := argsL) (rest := rest) (lenOf hds hln) rfl (by show 2 * 0 + _ ≤ _; omega) (hb hby hd) (fun _ _ => ⟨rfl, eT, hce, hsl⟩)
  dsimp only [Pt.U, Pt.locs, Pt.cells, Pt.slots] at X' l' y' z' stp hQ
  subst l' y' z'
  obtain ⟨rfl, hQ⟩ := hQ
  obtain ⟨s₂, o, h1, r⟩ := k T'.heap hQ p e s m args below meth c T' _ hx hby hml hown hnm hr hlk hZ X' rfl (Fr.app N N')
  exact ⟨s₂, o, stp _ h1, r⟩
theorem Wk.callV {i : Nat} {C : String} {y : MethodName} {by' : ByteArray} {mL : Nat} {rt : Option FieldType} {rm : Room} {a : Addr} {argsL rest : List Value} {Q' : Value → Heap → Prop} {ps : List FieldType} {r' : Option FieldType}
    (hM : Met l Z n0 y by' mL rt rm (.ref a :: argsL).toArray h (fun v h' => ∃ w, v = some w ∧ Q' w h')) (E : Exa Z h a C)
    (w1 : (Jvm.Cond.methodLink own i y).before a0 Z = true) (w2 : (Jvm.Cond.declares y).before a0 Z = true) (w3 : (Jvm.Cond.selects C y y).before a0 Z = true) (w4 : (Jvm.Cond.instanceMethod y).before a0 Z = true) (w5 : (Jvm.Cond.code y by' mL rt).before a0 Z = true) (w6 : (Jvm.Cond.initialized y.cls).before a0 Z = true) (hy : y.cls ≠ "java/lang/invoke/MethodHandle" ∧ y.cls ≠ "java/lang/invoke/VarHandle")
    (hds : parseMethodDescriptor y.desc = some ⟨ps, r'⟩) (hln : argsL.length = ps.length) (hst : st = argsL.reverse ++ .ref a :: rest) (hls : ls.size = maxL) (hd : decode bytes pc = .ok (.invokevirtual i, 3)) (hq : pc + 3 = q)
    {W : Nat} (hW : (rest.map fun v => v.category).sum = W) (hf : rm.frames + 1 ≤ R.frames) (hlo : W + (mL + 11) + rm.locals ≤ R.locals) (hce : cl + rm.cells ≤ R.cells) (hsl : sl + rm.slots ≤ R.slots)
    (k : ∀ w h', Q' w h' → Wk l Z n0 own nm bytes maxL ret R kc ks Q h' (cl + rm.cells) (sl + rm.slots) q ls (w :: rest)) : Wk l Z n0 own nm bytes maxL ret R kc ks Q h cl sl pc ls st := by
  subst hq hst hW
  intro p e s m args below meth c T locs hx hby hml hown hnm hr hlk hZ X eT N
  obtain ⟨cq, kq, q1, q2, q3⟩ := isOf hZ eT E
  obtain ⟨v, _, ⟨T', L', k', n'⟩, -, X', ⟨Lc, ⟨N', hQ⟩, l', y', z'⟩, stp⟩ := X.virtualBack hx (y := y) (z := y) hown (mvT hZ w1) (mvT hZ w2) (notFace_of_selects (args := #[]) (mvT hZ w3)) (mvT hZ w3) (mvT hZ w4) hy (backOf (W := (rest.map fun v => v.category).sum) (Q := fun v h' L => Fr n0 L ∧ (fun v h' => ∃ w, v = some w ∧ Q' w h') v h') (hM []) hZ w5 w6 hf hlo) q1 q3 (g := mkF m pc ls (argsL.reverse ++ .ref a :: rest)) rfl (by rw [hml]; exact hls) (Steps.refl _) (argsL := argsL) (rest := rest) (lenOf hds hln) rfl (by show 2 * 0 + _ ≤ _; omega) (hb hby hd) (fun _ _ => ⟨rfl, eT, hce, hsl⟩)
  dsimp only [Pt.U, Pt.locs, Pt.cells, Pt.slots] at X' l' y' z' stp hQ
  subst l' y' z'
  obtain ⟨w, rfl, hQ⟩ := hQ
  obtain ⟨s₂, o, h1, r⟩ := k w T'.heap hQ p e s m args below meth c T' _ hx hby hml hown hnm hr hlk hZ X' rfl (Fr.app N N')
  exact ⟨s₂, o, stp.trans h1, r⟩
theorem Wk.callV1 {i : Nat} {C : String} {y : MethodName} {by' : ByteArray} {mL : Nat} {rt : Option FieldType} {fr lo : Nat} {a : Addr} {argsL rest : List Value} {v0 : Value} {ps : List FieldType} {r' : Option FieldType}
    (hM : Met l Z n0 y by' mL rt ⟨fr, 0, 0, lo⟩ (.ref a :: argsL).toArray h (fun v h' => v = some v0 ∧ h' = h)) (E : Exa Z h a C)
    (w1 : (Jvm.Cond.methodLink own i y).before a0 Z = true) (w2 : (Jvm.Cond.declares y).before a0 Z = true) (w3 : (Jvm.Cond.selects C y y).before a0 Z = true) (w4 : (Jvm.Cond.instanceMethod y).before a0 Z = true) (w5 : (Jvm.Cond.code y by' mL rt).before a0 Z = true) (w6 : (Jvm.Cond.initialized y.cls).before a0 Z = true) (hy : y.cls ≠ "java/lang/invoke/MethodHandle" ∧ y.cls ≠ "java/lang/invoke/VarHandle")
    (hds : parseMethodDescriptor y.desc = some ⟨ps, r'⟩) (hln : argsL.length = ps.length) (hst : st = argsL.reverse ++ .ref a :: rest) (hls : ls.size = maxL) (hd : decode bytes pc = .ok (.invokevirtual i, 3)) (hq : pc + 3 = q)
    {W : Nat} (hW : (rest.map fun v => v.category).sum = W) (hf : fr + 1 ≤ R.frames) (hlo : W + (mL + 11) + lo ≤ R.locals) (hce : cl ≤ R.cells) (hsl : sl ≤ R.slots)
    (k : Wk l Z n0 own nm bytes maxL ret R kc ks Q h cl sl q ls (v0 :: rest)) : Wk l Z n0 own nm bytes maxL ret R kc ks Q h cl sl pc ls st :=
  Wk.callV (Q' := fun w h' => w = v0 ∧ h' = h) (rm := ⟨fr, 0, 0, lo⟩) (hM.mono fun v h' z => ⟨v0, z.1, rfl, z.2⟩) E w1 w2 w3 w4 w5 w6 hy hds hln hst hls hd hq hW hf hlo hce hsl (fun w h' z => by obtain ⟨rfl, rfl⟩ := z; exact k)
theorem Wk.callV0 {i : Nat} {C : String} {y : MethodName} {by' : ByteArray} {mL : Nat} {rt : Option FieldType} {rm : Room} {a : Addr} {argsL rest : List Value} {Q' : Heap → Prop} {ps : List FieldType} {r' : Option FieldType}
    (hM : Met l Z n0 y by' mL rt rm (.ref a :: argsL).toArray h (fun v h' => v = none ∧ Q' h')) (E : Exa Z h a C)
    (w1 : (Jvm.Cond.methodLink own i y).before a0 Z = true) (w2 : (Jvm.Cond.declares y).before a0 Z = true) (w3 : (Jvm.Cond.selects C y y).before a0 Z = true) (w4 : (Jvm.Cond.instanceMethod y).before a0 Z = true) (w5 : (Jvm.Cond.code y by' mL rt).before a0 Z = true) (w6 : (Jvm.Cond.initialized y.cls).before a0 Z = true) (hy : y.cls ≠ "java/lang/invoke/MethodHandle" ∧ y.cls ≠ "java/lang/invoke/VarHandle")
    (hds : parseMethodDescriptor y.desc = some ⟨ps, r'⟩) (hln : argsL.length = ps.length) (hst : st = argsL.reverse ++ .ref a :: rest) (hls : ls.size = maxL) (hd : decode bytes pc = .ok (.invokevirtual i, 3)) (hq : pc + 3 = q)
    {W : Nat} (hW : (rest.map fun v => v.category).sum = W) (hf : rm.frames + 1 ≤ R.frames) (hlo : W + (mL + 11) + rm.locals ≤ R.locals) (hce : cl + rm.cells ≤ R.cells) (hsl : sl + rm.slots ≤ R.slots)
    (k : ∀ h', Q' h' → Wk l Z n0 own nm bytes maxL ret R kc ks Q h' (cl + rm.cells) (sl + rm.slots) q ls rest) : Wk l Z n0 own nm bytes maxL ret R kc ks Q h cl sl pc ls st := by
  subst hq hst hW
  intro p e s m args below meth c T locs hx hby hml hown hnm hr hlk hZ X eT N
  obtain ⟨cq, kq, q1, q2, q3⟩ := isOf hZ eT E
  obtain ⟨v, _, ⟨T', L', k', n'⟩, -, X', ⟨Lc, ⟨N', hQ⟩, l', y', z'⟩, stp⟩ := X.virtualBack hx (y := y) (z := y) hown (mvT hZ w1) (mvT hZ w2) (notFace_of_selects (args := #[]) (mvT hZ w3)) (mvT hZ w3) (mvT hZ w4) hy (backOf (W := (rest.map fun v => v.category).sum) (Q := fun v h' L => Fr n0 L ∧ (fun v h' => v = none ∧ Q' h') v h') (hM []) hZ w5 w6 hf hlo) q1 q3 (g := mkF m pc ls (argsL.reverse ++ .ref a :: rest)) rfl (by rw [hml]; exact hls) (Steps.refl _) (argsL := argsL) (rest := rest) (lenOf hds hln) rfl (by show 2 * 0 + _ ≤ _; omega) (hb hby hd) (fun _ _ => ⟨rfl, eT, hce, hsl⟩)
  dsimp only [Pt.U, Pt.locs, Pt.cells, Pt.slots] at X' l' y' z' stp hQ
  subst l' y' z'
  obtain ⟨rfl, hQ⟩ := hQ
  obtain ⟨s₂, o, h1, r⟩ := k T'.heap hQ p e s m args below meth c T' _ hx hby hml hown hnm hr hlk hZ X' rfl (Fr.app N N')
  exact ⟨s₂, o, stp.trans h1, r⟩
theorem Wk.callU {i : Nat} {C owner : String} {y z : MethodName} {by' : ByteArray} {mL : Nat} {rt : Option FieldType} {rm : Room} {a : Addr} {argsL rest : List Value} {Q' : Value → Heap → Prop} {ps : List FieldType} {r' : Option FieldType}
    (hM : Met l Z n0 z by' mL rt rm (.ref a :: argsL).toArray h (fun v h' => ∃ w, v = some w ∧ Q' w h')) (E : Exa Z h a C)
    (w1 : (Jvm.Cond.methodLink own i y).before a0 Z = true) (w2 : (Jvm.Cond.sameMethod y.cls owner y.name y.desc).before a0 Z = true) (w3 : (Jvm.Cond.declares ⟨owner, y.name, y.desc⟩).before a0 Z = true) (w4 : (Jvm.Cond.selects C y z).before a0 Z = true) (w5 : (Jvm.Cond.instanceMethod z).before a0 Z = true) (w6 : (Jvm.Cond.code z by' mL rt).before a0 Z = true) (w7 : (Jvm.Cond.initialized z.cls).before a0 Z = true) (hy : owner ≠ "java/lang/invoke/MethodHandle" ∧ owner ≠ "java/lang/invoke/VarHandle")
    (hds : parseMethodDescriptor y.desc = some ⟨ps, r'⟩) (hln : argsL.length = ps.length) (hst : st = argsL.reverse ++ .ref a :: rest) (hls : ls.size = maxL) (hd : decode bytes pc = .ok (.invokevirtual i, 3)) (hq : pc + 3 = q)
    {W : Nat} (hW : (rest.map fun v => v.category).sum = W) (hf : rm.frames + 1 ≤ R.frames) (hlo : W + (mL + 11) + rm.locals ≤ R.locals) (hce : cl + rm.cells ≤ R.cells) (hsl : sl + rm.slots ≤ R.slots)
    (k : ∀ w h', Q' w h' → Wk l Z n0 own nm bytes maxL ret R kc ks Q h' (cl + rm.cells) (sl + rm.slots) q ls (w :: rest)) : Wk l Z n0 own nm bytes maxL ret R kc ks Q h cl sl pc ls st := by
  subst hq hst hW
  intro p e s m args below meth c T locs hx hby hml hown hnm hr hlk hZ X eT N
  obtain ⟨cq, kq, q1, q2, q3⟩ := isOf hZ eT E
  obtain ⟨v, _, ⟨T', L', k', n'⟩, -, X', ⟨Lc, ⟨N', hQ⟩, l', y', z'⟩, stp⟩ := X.virtualBackUp hx (x := y) (y := z) (owner := owner) hown (mvT hZ w1) (mvT hZ w2) (mvT hZ w3) hy (mvT hZ w4) (mvT hZ w5) (backOf (W := (rest.map fun v => v.category).sum) (Q := fun v h' L => Fr n0 L ∧ (fun v h' => ∃ w, v = some w ∧ Q' w h') v h') (hM []) hZ w6 w7 hf hlo) q1 q3 (g := mkF m pc ls (argsL.reverse ++ .ref a :: rest)) rfl (by rw [hml]; exact hls) (Steps.refl _) (argsL := argsL) (rest := rest) (lenOf hds hln) rfl (by show 2 * 0 + _ ≤ _; omega) (hb hby hd) (fun _ _ => ⟨rfl, eT, hce, hsl⟩)
  dsimp only [Pt.U, Pt.locs, Pt.cells, Pt.slots] at X' l' y' z' stp hQ
  subst l' y' z'
  obtain ⟨w, rfl, hQ⟩ := hQ
  obtain ⟨s₂, o, h1, r⟩ := k w T'.heap hQ p e s m args below meth c T' _ hx hby hml hown hnm hr hlk hZ X' rfl (Fr.app N N')
  exact ⟨s₂, o, stp.trans h1, r⟩
theorem Wk.callU1 {i : Nat} {C owner : String} {y z : MethodName} {by' : ByteArray} {mL : Nat} {rt : Option FieldType} {fr lo : Nat} {a : Addr} {argsL rest : List Value} {v0 : Value} {ps : List FieldType} {r' : Option FieldType}
    (hM : Met l Z n0 z by' mL rt ⟨fr, 0, 0, lo⟩ (.ref a :: argsL).toArray h (fun v h' => v = some v0 ∧ h' = h)) (E : Exa Z h a C)
    (w1 : (Jvm.Cond.methodLink own i y).before a0 Z = true) (w2 : (Jvm.Cond.sameMethod y.cls owner y.name y.desc).before a0 Z = true) (w3 : (Jvm.Cond.declares ⟨owner, y.name, y.desc⟩).before a0 Z = true) (w4 : (Jvm.Cond.selects C y z).before a0 Z = true) (w5 : (Jvm.Cond.instanceMethod z).before a0 Z = true) (w6 : (Jvm.Cond.code z by' mL rt).before a0 Z = true) (w7 : (Jvm.Cond.initialized z.cls).before a0 Z = true) (hy : owner ≠ "java/lang/invoke/MethodHandle" ∧ owner ≠ "java/lang/invoke/VarHandle")
    (hds : parseMethodDescriptor y.desc = some ⟨ps, r'⟩) (hln : argsL.length = ps.length) (hst : st = argsL.reverse ++ .ref a :: rest) (hls : ls.size = maxL) (hd : decode bytes pc = .ok (.invokevirtual i, 3)) (hq : pc + 3 = q)
    {W : Nat} (hW : (rest.map fun v => v.category).sum = W) (hf : fr + 1 ≤ R.frames) (hlo : W + (mL + 11) + lo ≤ R.locals) (hce : cl ≤ R.cells) (hsl : sl ≤ R.slots)
    (k : Wk l Z n0 own nm bytes maxL ret R kc ks Q h cl sl q ls (v0 :: rest)) : Wk l Z n0 own nm bytes maxL ret R kc ks Q h cl sl pc ls st :=
  Wk.callU (Q' := fun w h' => w = v0 ∧ h' = h) (rm := ⟨fr, 0, 0, lo⟩) (hM.mono fun v h' z => ⟨v0, z.1, rfl, z.2⟩) E w1 w2 w3 w4 w5 w6 w7 hy hds hln hst hls hd hq hW hf hlo hce hsl (fun w h' z => by obtain ⟨rfl, rfl⟩ := z; exact k)
theorem Wk.callS2 {i : Nat} {y : MethodName} {by' : ByteArray} {mL : Nat} {rt : Option FieldType} {fr lo : Nat} {argsL rest : List Value} {P : Value → Prop} {ps : List FieldType} {r' : Option FieldType}
    (hM : Met l Z n0 y by' mL rt ⟨fr, 0, 0, lo⟩ argsL.toArray h (fun v h' => (∃ w, v = some w ∧ P w) ∧ h' = h))
    (w1 : (Jvm.Cond.methodLink own i y).before a0 Z = true) (w2 : (Jvm.Cond.static y).before a0 Z = true) (w3 : (Jvm.Cond.initialized y.cls).before a0 Z = true) (w4 : (Jvm.Cond.code y by' mL rt).before a0 Z = true) (hy : y.cls ≠ "java/lang/invoke/MethodHandle" ∧ y.cls ≠ "java/lang/invoke/VarHandle")
    (hds : parseMethodDescriptor y.desc = some ⟨ps, r'⟩) (hln : argsL.length = ps.length) (hst : st = argsL.reverse ++ rest) (hls : ls.size = maxL) (hd : decode bytes pc = .ok (.invokestatic i, 3)) (hq : pc + 3 = q)
    {W : Nat} (hW : (rest.map fun v => v.category).sum = W) (hf : fr + 1 ≤ R.frames) (hlo : W + (mL + 11) + lo ≤ R.locals) (hce : cl ≤ R.cells) (hsl : sl ≤ R.slots)
    (k : ∀ w, P w → Wk l Z n0 own nm bytes maxL ret R kc ks Q h cl sl q ls (w :: rest)) : Wk l Z n0 own nm bytes maxL ret R kc ks Q h cl sl pc ls st :=
  Wk.callS (Q' := fun w h' => P w ∧ h' = h) (rm := ⟨fr, 0, 0, lo⟩) (hM.mono fun v h' z => by obtain ⟨⟨w, e, p⟩, q⟩ := z; exact ⟨w, e, p, q⟩) w1 w2 w3 w4 hy hds hln hst hls hd hq hW hf hlo hce hsl (fun w h' z => by obtain ⟨z1, rfl⟩ := z; exact k w z1)
theorem Wk.callV2 {i : Nat} {C : String} {y : MethodName} {a : Addr} {by' : ByteArray} {mL : Nat} {rt : Option FieldType} {fr lo : Nat} {argsL rest : List Value} {P : Value → Prop} {ps : List FieldType} {r' : Option FieldType}
    (hM : Met l Z n0 y by' mL rt ⟨fr, 0, 0, lo⟩ (.ref a :: argsL).toArray h (fun v h' => (∃ w, v = some w ∧ P w) ∧ h' = h)) (E : Exa Z h a C)
    (w1 : (Jvm.Cond.methodLink own i y).before a0 Z = true) (w2 : (Jvm.Cond.declares y).before a0 Z = true) (w3 : (Jvm.Cond.selects C y y).before a0 Z = true) (w4 : (Jvm.Cond.instanceMethod y).before a0 Z = true) (w5 : (Jvm.Cond.code y by' mL rt).before a0 Z = true) (w6 : (Jvm.Cond.initialized y.cls).before a0 Z = true) (hy : y.cls ≠ "java/lang/invoke/MethodHandle" ∧ y.cls ≠ "java/lang/invoke/VarHandle")
    (hds : parseMethodDescriptor y.desc = some ⟨ps, r'⟩) (hln : argsL.length = ps.length) (hst : st = argsL.reverse ++ .ref a :: rest) (hls : ls.size = maxL) (hd : decode bytes pc = .ok (.invokevirtual i, 3)) (hq : pc + 3 = q)
    {W : Nat} (hW : (rest.map fun v => v.category).sum = W) (hf : fr + 1 ≤ R.frames) (hlo : W + (mL + 11) + lo ≤ R.locals) (hce : cl ≤ R.cells) (hsl : sl ≤ R.slots)
    (k : ∀ w, P w → Wk l Z n0 own nm bytes maxL ret R kc ks Q h cl sl q ls (w :: rest)) : Wk l Z n0 own nm bytes maxL ret R kc ks Q h cl sl pc ls st :=
  Wk.callV (Q' := fun w h' => P w ∧ h' = h) (rm := ⟨fr, 0, 0, lo⟩) (hM.mono fun v h' z => by obtain ⟨⟨w, e, p⟩, q⟩ := z; exact ⟨w, e, p, q⟩) E w1 w2 w3 w4 w5 w6 hy hds hln hst hls hd hq hW hf hlo hce hsl (fun w h' z => by obtain ⟨z1, rfl⟩ := z; exact k w z1)
/-! the case's words -/
theorem own_exa {args : Array Value} {C n d K : String} (hx : (Jvm.Cond.exactly (.static C n d) K).value args Z none Z [] = some true) (wi : (Jvm.Cond.initialized C).before args Z = true) (wl : (Jvm.Cond.laysStatic C n d).before args Z = true) :
    ∃ a, (Term.static C n d).eval args Z none [] Z = some (.ref a) ∧ Sta Z Z.heap C n d (.ref a) ∧ Exa Z Z.heap a K := by
  obtain ⟨a, ev⟩ := exa_v hx
  exact ⟨a, ev, Sta.start ev (Or.inr ⟨wi, wl⟩), Exa.start ev hx⟩
theorem own_arr {args : Array Value} {C n d : String} {ty : FieldType} (hx : (Jvm.Cond.arrayOf (.static C n d) ty).value args Z none Z [] = some true) (wi : (Jvm.Cond.initialized C).before args Z = true) (wl : (Jvm.Cond.laysStatic C n d).before args Z = true) :
    ∃ a c, (Term.static C n d).eval args Z none [] Z = some (.ref a) ∧ Sta Z Z.heap C n d (.ref a) ∧ Arr Z Z.heap a c ty := by
  obtain ⟨a, ev⟩ := arr_v hx
  obtain ⟨c, A⟩ := Arr.start ev hx
  exact ⟨a, c, ev, Sta.start ev (Or.inr ⟨wi, wl⟩), A⟩
theorem own_eqi {args : Array Value} {t u : Term} {y : Int32} {idx : List Nat} (h : (Jvm.Cond.eq t u).value args Z none Z idx = some true) (hu : u.eval args Z none idx Z = some (.int y)) : t.eval args Z none idx Z = some (.int y) := by
  obtain ⟨x, y', h1, h2, k1, k2⟩ := cmp_v (Or.inl h)
  cases hu.symm.trans h2
  obtain ⟨z, rfl⟩ := k2
  have e : z = y := by simpa [Cond.value, h1, hu] using h
  rw [h1, e]
theorem own_eqr {args : Array Value} {t u : Term} {y : Addr} {idx : List Nat} (h : (Jvm.Cond.eq t u).value args Z none Z idx = some true) (hu : u.eval args Z none idx Z = some (.ref y)) : t.eval args Z none idx Z = some (.ref y) := by
  obtain ⟨x, y', h1, h2, k1, k2⟩ := cmp_v (Or.inl h)
  cases hu.symm.trans h2
  have e := gotT (eq_R h1 hu k2.2 rfl) h
  rw [h1, e]
theorem own_fld {args : Array Value} {t : Term} {O f d : String} {a : Addr} {v : Value} (ev : t.eval args Z none [] Z = some (.ref a)) (e : (Term.field t O f d).eval args Z none [] Z = some v) : Fld Z Z.heap a O f d v :=
  Fld.start ((fld_at ev).symm.trans e)
theorem own_len {args : Array Value} {t : Term} {a : Addr} {c : Cell} {ty : FieldType} {n : Int32} {k : Nat} (ev : t.eval args Z none [] Z = some (.ref a)) (A : Arr Z Z.heap a c ty) (e : (Term.length t).eval args Z none [] Z = some (.int n)) (hk : n.toInt = (k : Int)) : c.slots.size = k := by
  have hA : Z.arrayAt? a = some c := A.fin (Vm.Alike.refl _)
  have hs : c.slots.size < 2 ^ 31 := by
    by_cases q : c.slots.size < 2 ^ 31
    · exact q
    · simp [Term.eval, ev, hA, q] at e
  have e2 := (len_f ev hA hs).symm.trans e
  have e3 : c.slots.size.toInt32 = n := by injection e2 with e2; injection e2
  have e4 := len_toInt hs
  rw [e3, hk] at e4
  exact (Int.ofNat.inj e4).symm
theorem own_elem {args : Array Value} {t : Term} {a : Addr} {c : Cell} {ty : FieldType} {i : Int32} {v : Value} {idx : List Nat} (ev : t.eval args Z none idx Z = some (.ref a)) (A : Arr Z Z.heap a c ty) (e : (Term.elem t (.int i)).eval args Z none idx Z = some v) : c.slots[i.toNatClampNeg]? = some v :=
  (elem_in e ev (Term.int_eval i) A.1).2
theorem own_all {args : Array Value} {C n d : String} {c : Jvm.Cond} {a : Addr} {cl : Cell} {ty : FieldType} (ev : (Term.static C n d).eval args Z none [] Z = some (.ref a)) (A : Arr Z Z.heap a cl ty) (h : (Jvm.Cond.all (.static C n d) c).value args Z none Z [] = some true) (k : Nat) (hk : k < cl.slots.size) : c.value args Z none Z [k] = some true :=
  Cond.all_elim ev (A.fin (Vm.Alike.refl _)) h k hk
theorem own_tk {args : Array Value} {C n d : String} {a : Addr} {cl : Cell} {ty : FieldType} {v : Int32} {k : Nat} (ev : (Term.static C n d).eval args Z none [] Z = some (.ref a)) (A : Arr Z Z.heap a cl ty) (hk : k < 256) (h : (Jvm.Cond.eq (.elem (.static C n d) (.index 0)) (.int v)).value args Z none Z [k] = some true) : cl.slots[k]? = some (.int v) := by
  have ev' : (Term.static C n d).eval args Z none [k] Z = some (.ref a) := ev
  have e := (elem_in (own_eqi h (Term.int_eval v)) ev' (Term.index_eval k) A.1).2
  have q : k.toInt32.toNatClampNeg = k := by simp only [Int32.toNatClampNeg, len_toInt (show k < 2 ^ 31 by omega)]; rfl
  rwa [q] at e
theorem own_or {args : Array Value} {G X : Jvm.Cond} {P : Prop} [Decidable P] {idx : List Nat} (h : (Jvm.Cond.or G X).value args Z none Z idx = some true) (hG : G.value args Z none Z idx = some (decide P)) (np : ¬ P) : X.value args Z none Z idx = some true := by
  rwa [Cond.or_of_right (by rw [hG]; simp [np])] at h
theorem own_kle {a : Int32} {k m : Nat} (ha : a.toInt = (m : Int)) (hk : k < 256) : a ≤ k.toInt32 ↔ m ≤ k := by
  rw [Int32.le_iff_toInt_le, ha, len_toInt (show k < 2 ^ 31 by omega)]; omega
theorem own_klt {a : Int32} {k m : Nat} (ha : a.toInt = (m : Int)) (hk : k < 256) : k.toInt32 < a ↔ k < m := by
  rw [Int32.lt_iff_toInt_lt, ha, len_toInt (show k < 2 ^ 31 by omega)]; omega
theorem own_neR {a b : Addr} (h : a ≠ b) : ¬ (Value.ref a) = (Value.ref b) := fun e => h (Value.ref.inj e)
theorem own_neN {a : Addr} : ¬ (Value.ref a) = Value.null := fun e => nomatch e
theorem own_nNe {a : Addr} : ¬ Value.null = (Value.ref a) := fun e => nomatch e
/-- (x & 0x7fffffff) % n lies from 0 to n - 1 -/
theorem own_mod (x n : Int32) (hn : 0 < n.toInt) : 0 ≤ ((x &&& 2147483647) % n).toInt ∧ ((x &&& 2147483647) % n).toInt < n.toInt := by
  have h1 := c_and x 2147483647 (by decide)
  rw [Int32.toInt_mod]
  have h2 := Int.tmod_nonneg n.toInt h1.1
  have h3 := Int.tmod_lt_of_pos (x &&& 2147483647).toInt hn
  exact ⟨h2, h3⟩
theorem own_cl_lt (x y : Int64) : XT.cmpL x y < 0 ↔ x < y := by unfold XT.cmpL; split <;> (try split) <;> simp_all [Int64.lt_iff_toInt_lt, ← Int64.toInt_inj] <;> omega
theorem own_cl_gt (x y : Int64) : 0 < XT.cmpL x y ↔ y < x := by unfold XT.cmpL; split <;> (try split) <;> simp_all [Int64.lt_iff_toInt_lt, ← Int64.toInt_inj] <;> omega
theorem own_cl_eq (x y : Int64) : XT.cmpL x y = 0 ↔ x = y := by unfold XT.cmpL; split <;> (try split) <;> simp_all [Int64.lt_iff_toInt_lt, ← Int64.toInt_inj] <;> omega
theorem own_i32 {x y : Int32} (e : x.toInt = y.toInt) : x = y := Int32.toInt_inj.mp e
end Own
section Own2
variable {l : Launch} {Z : State} {a0 : Array Value} {n0 : Nat} {own nm : String} {bytes : ByteArray} {maxL : Nat} {ret : Option FieldType} {R : Room} {kc ks : Nat} {Q : Option Value → Heap → Prop} {h : Heap} {cl sl pc q : Nat} {ls ls' : Array Slot} {st st' rest : List Value}
theorem own_hit {h' : Heap} {a : Addr} {sl n j : Nat} {v : Value} {c : Cell} (W : Wr h h' a sl v) (S : c.slots.size = n) (hj : sl = j) (hl : j < n) : (c.setSlot sl v).slots[j]? = some v := by
  subst hj S; simp [Cell.setSlot, hl]
theorem own_miss {h' : Heap} {a : Addr} {sl j : Nat} {v w : Value} {c : Cell} (W : Wr h h' a sl v) (hj : sl ≠ j) (e : c.slots[j]? = some w) : (c.setSlot sl v).slots[j]? = some w := by
  rw [← e]; exact Array.getElem?_setIfInBounds_ne hj
theorem own_szs {h' : Heap} {a : Addr} {sl n : Nat} {v : Value} {c : Cell} (W : Wr h h' a sl v) (S : c.slots.size = n) : (c.setSlot sl v).slots.size = n := (sz_set _ _ _).trans S
theorem own_ge (O : Old Z n0 h) : n0 ≤ h.size := by have := O.1; have := O.2.1; omega
theorem Wk.new {i n : Nat} {C : String} (w : (Jvm.Cond.classLink own i C).before a0 Z = true) (wi : (Jvm.Cond.instantiable C n).before a0 Z = true) (wz : (Jvm.Cond.initialized C).before a0 Z = true) (hd : decode bytes pc = .ok (.new i, 3)) (hq : pc + 3 = q) (hc : cl + 1 ≤ R.cells) (hl : sl + n ≤ R.slots)
    (k : ∀ h' a, a = h.size → Ext h h' → Exa Z h' a C → (∀ {O f d : String} {ty : FieldType}, Laid Z a0 C O f d → parseFieldDescriptor d = some ty → Fld Z h' a O f d (defaultValue ty)) → Wk l Z n0 own nm bytes maxL ret R kc ks Q h' (cl + 1) (sl + n) q ls (.ref a :: st)) : Wk l Z n0 own nm bytes maxL ret R kc ks Q h cl sl pc ls st := by
  subst hq
  intro p e s m args below meth c T locs hx hby hml hown hnm hr hlk hZ X eT N
  obtain ⟨T', h', X', e', E, A, D, -, stp⟩ := newO X hx hZ hown w wi wz eT (g := mkF m pc ls st) rfl (hb hby hd) hc hl
  obtain ⟨s₂, o, h1, r⟩ := k h' _ rfl E A D p e s m args below meth c T' _ hx hby hml hown hnm hr hlk hZ X' e' N
  exact ⟨s₂, o, stp _ h1, r⟩
theorem Wk.putF {O f d C R0 : String} {i kk : Nat} {ty : FieldType} {a : Addr} {v old : Value} (w : (Jvm.Cond.fieldLink own i R0 f d).before a0 Z = true) (via : Via Z R0 O f d) (F : Fld Z h a O f d old) (E : Exa Z h a C) (L : (Jvm.Cond.lays C O f d).before a0 Z = true ∨ ((Jvm.Cond.laysFinal C O f d).before a0 Z = true ∧ own = O ∧ nm = "<init>")) (wi : (Jvm.Cond.instantiable C kk).before a0 Z = true)
    (hty : parseFieldDescriptor d = some ty) (hn : narrow ty v = v) (hf : fits ty v = true) (hd : decode bytes pc = .ok (.putfield i, 3)) (hq : pc + 3 = q) (ha : n0 ≤ a)
    (k : ∀ h', Wr h h' a (RoadKit.slotOf Z O f d) v → Wk l Z n0 own nm bytes maxL ret R kc ks Q h' cl sl q ls st) : Wk l Z n0 own nm bytes maxL ret R kc ks Q h cl sl pc ls (v :: .ref a :: st) := by
  subst hq
  intro p e s m args below meth c T locs hx hby hml hown hnm hr hlk hZ X eT N
  obtain ⟨T', h', X', e', W', stp⟩ := RoadKit.putF X hx hZ hown (host := "") (Or.inl w) via eT F E (L.imp id fun z => ⟨z.1, z.2.1, hnm.trans z.2.2⟩) wi hty hn hf (g := mkF m pc ls (v :: .ref a :: st)) rfl rfl (hb hby hd)
  obtain ⟨s₂, o, h1, r⟩ := k h' W' p e s m args below meth c T' _ hx hby hml hown hnm hr hlk hZ X' e' (Fr.snoc X' N ha)
  exact ⟨s₂, o, stp _ h1, r⟩
theorem Wk.initO {i : Nat} {a : Addr} {W : Nat} (w1 : (Jvm.Cond.methodLink own i Lib.objectInit).before a0 Z = true) (w2 : (Jvm.Cond.instanceMethod Lib.objectInit).before a0 Z = true) (w3 : (Jvm.Cond.code Lib.objectInit ⟨#[0xb1]⟩ 1 none).before a0 Z = true) (hd : decode bytes pc = .ok (.invokespecial i, 3)) (hq : pc + 3 = q) (hls : ls.size = maxL) (hf : 1 ≤ R.frames) (hW : (st.map fun v => v.category).sum = W) (hl : W + 12 ≤ R.locals)
    (k : Wk l Z n0 own nm bytes maxL ret R kc ks Q h cl sl q ls st) : Wk l Z n0 own nm bytes maxL ret R kc ks Q h cl sl pc ls (.ref a :: st) := by
  subst hq hW
  intro p e s m args below meth c T locs hx hby hml hown hnm hr hlk hZ X eT N
  obtain ⟨T', X', e', stp⟩ := RoadKit.initO X hx hZ hown w1 w2 w3 eT (g := mkF m pc ls (.ref a :: st)) rfl (by rw [hml]; exact hls) rfl (hb hby hd) hf (W := (st.map fun v => v.category).sum) (by show 2 * 0 + _ ≤ _; omega) hl
  obtain ⟨s₂, o, h1, r⟩ := k p e s m args below meth c T' _ hx hby hml hown hnm hr hlk hZ X' e' N
  exact ⟨s₂, o, stp _ h1, r⟩
theorem Wk.special {i : Nat} {y : MethodName} {by' : ByteArray} {mL : Nat} {rm : Room} {a : Addr} {argsL rest : List Value} {Q' : Heap → Prop} {ps : List FieldType} {r' : Option FieldType}
    (hM : Met l Z n0 y by' mL none rm (.ref a :: argsL).toArray h (fun v h' => v = none ∧ Q' h'))
    (hy1 : y.name = "<init>") (w1 : (Jvm.Cond.methodLink own i y).before a0 Z = true) (w2 : (Jvm.Cond.instanceMethod y).before a0 Z = true) (w3 : (Jvm.Cond.code y by' mL none).before a0 Z = true) (w4 : (Jvm.Cond.initialized y.cls).before a0 Z = true) (hy : y.cls ≠ "java/lang/invoke/MethodHandle" ∧ y.cls ≠ "java/lang/invoke/VarHandle")
    (hds : parseMethodDescriptor y.desc = some ⟨ps, r'⟩) (hln : argsL.length = ps.length) (hst : st = argsL.reverse ++ .ref a :: rest) (hls : ls.size = maxL) (hd : decode bytes pc = .ok (.invokespecial i, 3)) (hq : pc + 3 = q)
    {W : Nat} (hW : (rest.map fun v => v.category).sum = W) (hf : rm.frames + 1 ≤ R.frames) (hlo : W + (mL + 11) + rm.locals ≤ R.locals) (hce : cl + rm.cells ≤ R.cells) (hsl : sl + rm.slots ≤ R.slots)
    (k : ∀ h', Q' h' → Wk l Z n0 own nm bytes maxL ret R kc ks Q h' (cl + rm.cells) (sl + rm.slots) q ls rest) : Wk l Z n0 own nm bytes maxL ret R kc ks Q h cl sl pc ls st := by
  subst hq hst hW
  intro p e s m args below meth c T locs hx hby hml hown hnm hr hlk hZ X eT N
  obtain ⟨v, _, ⟨T', L', k', n'⟩, -, X', ⟨Lc, ⟨N', hQ⟩, l', y', z'⟩, stp⟩ := X.specialBack hx (y := y) hy1 hown (mvT hZ w1) (mvT hZ w2) (mvT hZ w3) hy (backOf (W := (rest.map fun v => v.category).sum) (Q := fun v h' L => Fr n0 L ∧ (fun v h' => v = none ∧ Q' h') v h') (hM []) hZ w3 w4 hf hlo) (g := mkF m pc ls (argsL.reverse ++ .ref a :: rest)) rfl (by rw [hml]; exact hls) (Steps.refl _) (a := a) (argsL := argsL) (rest := rest) (lenOf hds hln) rfl (by show 2 * 0 + _ ≤ _; omega) (hb hby hd) (fun _ _ => ⟨rfl, eT, hce, hsl⟩)
  dsimp only [Pt.U, Pt.locs, Pt.cells, Pt.slots] at X' l' y' z' stp hQ
  subst l' y' z'
  obtain ⟨rfl, hQ⟩ := hQ
  obtain ⟨s₂, o, h1, r⟩ := k T'.heap hQ p e s m args below meth c T' _ hx hby hml hown hnm hr hlk hZ X' rfl (Fr.app N N')
  exact ⟨s₂, o, stp.trans h1, r⟩
theorem Wk.newP {aty : ArrayType} {n : Int32} (w : (Jvm.Cond.arrayClass (newarray.typeOf aty)).before a0 Z = true) (hd : decode bytes pc = .ok (.newarray aty, 2)) (hq : pc + 2 = q) (hn : ¬ n < 0) {cap : Nat} (hcap : n.toNatClampNeg ≤ cap) (hb8 : cap * 8 ≤ 536870912) (hc : cl + 1 ≤ R.cells) (hl : sl + cap ≤ R.slots)
    (k : ∀ h' a cA, a = h.size → Ext h h' → Arr Z h' a (newA cA (newarray.typeOf aty) n) (newarray.typeOf aty) → Wk l Z n0 own nm bytes maxL ret R kc ks Q h' (cl + 1) (sl + cap) q ls (.ref a :: st)) : Wk l Z n0 own nm bytes maxL ret R kc ks Q h cl sl pc ls (.int n :: st) := by
  subst hq
  intro p e s m args below meth c T locs hx hby hml hown hnm hr hlk hZ X eT N
  obtain ⟨T', h', cA, X', e', E, A, stp⟩ := RoadKit.newP X hx hZ w eT (g := mkF m pc ls (.int n :: st)) rfl (hb hby hd) rfl hn hcap hb8 hc hl
  obtain ⟨s₂, o, h1, r⟩ := k h' _ cA rfl E A p e s m args below meth c T' _ hx hby hml hown hnm hr hlk hZ X' e' N
  exact ⟨s₂, o, stp _ h1, r⟩
theorem Wk.newR {i : Nat} {C : String} {n : Int32} (w1 : (Jvm.Cond.classLink own i C).before a0 Z = true) (w2 : (Jvm.Cond.arrayOver (.object C)).before a0 Z = true) (hd : decode bytes pc = .ok (.anewarray i, 3)) (hq : pc + 3 = q) (hn : ¬ n < 0) {cap : Nat} (hcap : n.toNatClampNeg ≤ cap) (hb8 : cap * 8 ≤ 536870912) (hc : cl + 1 ≤ R.cells) (hl : sl + cap ≤ R.slots)
    (k : ∀ h' a cA, a = h.size → Ext h h' → Arr Z h' a (newA cA (.object C) n) (.object C) → Ovr Z cA C → Wk l Z n0 own nm bytes maxL ret R kc ks Q h' (cl + 1) (sl + cap) q ls (.ref a :: st)) : Wk l Z n0 own nm bytes maxL ret R kc ks Q h cl sl pc ls (.int n :: st) := by
  subst hq
  intro p e s m args below meth c T locs hx hby hml hown hnm hr hlk hZ X eT N
  obtain ⟨T', h', cA, X', e', E, A, -, O, stp⟩ := RoadKit.newRE X hx hZ hown w1 w2 eT (g := mkF m pc ls (.int n :: st)) rfl (hb hby hd) rfl hn hcap hb8 hc hl rfl
  obtain ⟨s₂, o, h1, r⟩ := k h' _ cA rfl E A O p e s m args below meth c T' _ hx hby hml hown hnm hr hlk hZ X' e' N
  exact ⟨s₂, o, stp _ h1, r⟩
theorem Wk.stB {a : Addr} {c0 : Cell} {j x v : Int32} (A : Arr Z h a c0 .byte) (hj : ¬ (j < 0 ∨ c0.slots.size ≤ j.toNatClampNeg)) (hv : nar .byte x = v) (hd : decode bytes pc = .ok (.bastore, 1)) (hq : pc + 1 = q) (ha : n0 ≤ a)
    (k : ∀ h', Wr h h' a j.toNatClampNeg (.int v) → Wk l Z n0 own nm bytes maxL ret R kc ks Q h' cl sl q ls st) : Wk l Z n0 own nm bytes maxL ret R kc ks Q h cl sl pc ls (.int x :: .int j :: .ref a :: st) := by
  subst hq hv
  intro p e s m args below meth c T locs hx hby hml hown hnm hr hlk hZ X eT N
  obtain ⟨T', h', X', e', W', stp⟩ := RoadKit.stB X hx hZ eT A hj (g := mkF m pc ls (.int x :: .int j :: .ref a :: st)) rfl rfl (hb hby hd)
  obtain ⟨s₂, o, h1, r⟩ := k h' W' p e s m args below meth c T' _ hx hby hml hown hnm hr hlk hZ X' e' (Fr.snoc X' N ha)
  exact ⟨s₂, o, stp _ h1, r⟩
theorem Wk.stR {a : Addr} {c0 : Cell} {ty : FieldType} {j : Int32} {v : Value} (A : Arr Z h a c0 ty) (hj : ¬ (j < 0 ∨ c0.slots.size ≤ j.toNatClampNeg)) (hty : ty.isReference = true) (F : Sto Z h a v) (hv : v.isRef = true) (hd : decode bytes pc = .ok (.aastore, 1)) (hq : pc + 1 = q) (ha : n0 ≤ a)
    (k : ∀ h', Wr h h' a j.toNatClampNeg v → Wk l Z n0 own nm bytes maxL ret R kc ks Q h' cl sl q ls st) : Wk l Z n0 own nm bytes maxL ret R kc ks Q h cl sl pc ls (v :: .int j :: .ref a :: st) := by
  subst hq
  intro p e s m args below meth c T locs hx hby hml hown hnm hr hlk hZ X eT N
  obtain ⟨T', h', X', e', W', stp⟩ := RoadKit.stR X hx hZ eT A hj hty F (g := mkF m pc ls (v :: .int j :: .ref a :: st)) rfl rfl (hb hby hd)
  obtain ⟨s₂, o, h1, r⟩ := k h' W' p e s m args below meth c T' _ hx hby hml hown hnm hr hlk hZ X' e' (Fr.snoc X' N ha)
  exact ⟨s₂, o, stp _ h1, r⟩
theorem Wk.castY {i : Nat} {K : String} {a : Addr} (w : (Jvm.Cond.classLink own i K).before a0 Z = true) (F : Ins Z h a K true) (hd : decode bytes pc = .ok (.checkcast i, 3)) (hq : pc + 3 = q) (k : Wk l Z n0 own nm bytes maxL ret R kc ks Q h cl sl q ls (.ref a :: st)) : Wk l Z n0 own nm bytes maxL ret R kc ks Q h cl sl pc ls (.ref a :: st) := by
  subst hq; exact Wk.stepW (fun hx hby hown hZ X eT => RoadKit.castY X hx hZ hown w eT F (g := mkF _ pc ls (.ref a :: st)) rfl rfl (hb hby hd)) k
theorem Wk.instNull {i : Nat} (hd : decode bytes pc = .ok (.instanceof i, 3)) (hq : pc + 3 = q) (k : Wk l Z n0 own nm bytes maxL ret R kc ks Q h cl sl q ls (.int 0 :: st)) : Wk l Z n0 own nm bytes maxL ret R kc ks Q h cl sl pc ls (.null :: st) := by
  subst hq; exact Wk.step (fun hx hby _ _ X _ t k => X.instanceofNull hx (g := mkF _ pc ls (.null :: st)) rfl rfl (hb hby hd) t k) k
theorem own_nsroot {O K : String} {n : Nat} (w : (Jvm.Cond.noSuperclass O).before a0 Z = true) (wi : (Jvm.Cond.instantiable K n).before a0 Z = true) (hn : O ≠ K) : NS Z O K := by
  obtain ⟨c, k, h1, h2, h3, -, -⟩ := Cond.noSuperclass_spec w
  obtain ⟨t, kt, g1, -⟩ := Cond.instantiable_spec wi
  have ne := ids_ne h1 g1 hn
  exact ⟨c, t, h1, g1, fun fuel => by cases fuel <;> simp [Vm.isSubclassAux, ne, h2, h3]⟩
theorem own_nsno {C S K : String} {n : Nat} (w : (Jvm.Cond.superclass C S).before a0 Z = true) (wi : (Jvm.Cond.instantiable K n).before a0 Z = true) (m : NS Z C K) (hn : C ≠ K) : ∃ c t, Z.vm.findClass C = some c ∧ Z.vm.findClass K = some t ∧ Z.vm.assignable c t = false := by
  obtain ⟨c, t, h0, g0, n3⟩ := m
  obtain ⟨p, k, kp, h1, h2, h3, h4, h5, -, h7⟩ := Cond.superclass_spec h0 w
  obtain ⟨t', kt, g1, g2, g3, g4, -⟩ := Cond.instantiable_spec wi
  cases g0.symm.trans g1
  have ne := ids_ne h0 g0 hn
  have g5 : kt.isInterface = false := by cases hi : kt.isInterface <;> simp [hi] at g4 ⊢
  refine ⟨c, t, h0, g0, ?_⟩
  show Z.vm.assignableAux (255 + 1) c t = false
  simp [Vm.assignableAux, ne, h2, g2, h5, g3, g5, Vm.isSubclass, n3]
theorem Wk.instY {i : Nat} {K : String} {a : Addr} (w : (Jvm.Cond.classLink own i K).before a0 Z = true) (F : Ins Z h a K true) (hd : decode bytes pc = .ok (.instanceof i, 3)) (hq : pc + 3 = q) (k : Wk l Z n0 own nm bytes maxL ret R kc ks Q h cl sl q ls (.int 1 :: st)) : Wk l Z n0 own nm bytes maxL ret R kc ks Q h cl sl pc ls (.ref a :: st) := by
  subst hq; exact Wk.stepW (fun hx hby hown hZ X eT => RoadKit.instY X hx hZ hown w eT F (g := mkF _ pc ls (.ref a :: st)) rfl rfl (hb hby hd)) k
theorem Wk.instNo {i : Nat} {K C : String} {a : Addr} (w : (Jvm.Cond.classLink own i K).before a0 Z = true) (E : Exa Z h a C) (F : ∃ c t, Z.vm.findClass C = some c ∧ Z.vm.findClass K = some t ∧ Z.vm.assignable c t = false) (hd : decode bytes pc = .ok (.instanceof i, 3)) (hq : pc + 3 = q) (k : Wk l Z n0 own nm bytes maxL ret R kc ks Q h cl sl q ls (.int 0 :: st)) : Wk l Z n0 own nm bytes maxL ret R kc ks Q h cl sl pc ls (.ref a :: st) := by
  subst hq; exact Wk.stepW (fun hx hby hown hZ X eT => RoadKit.instNo X hx hZ hown w eT E F (g := mkF _ pc ls (.ref a :: st)) rfl rfl (hb hby hd)) k
end Own2

theorem w_0 {a0 : Array Value} {Z : State} (hw : ∀ d ∈ tables_1, d.before a0 Z = true) : (Jvm.Cond.arrayClass Jvm.ClassFile.FieldType.byte).before a0 Z = true := hw _ (List.mem_of_getElem? (i := 0) rfl)
theorem w_1 {a0 : Array Value} {Z : State} (hw : ∀ d ∈ tables_1, d.before a0 Z = true) : (Jvm.Cond.methodLink "com/example/tallykey/tallykey/HttpSyntaxNameEndPinLaw" (7 : Nat) ({ cls := "com/example/tallykey/tallykey/HttpSyntaxNameEndPinLaw", name := "pick", desc := "(I)B" } : Jvm.MethodName)).before a0 Z = true := hw _ (List.mem_of_getElem? (i := 1) rfl)
theorem w_2 {a0 : Array Value} {Z : State} (hw : ∀ d ∈ tables_1, d.before a0 Z = true) : (Jvm.Cond.static ({ cls := "com/example/tallykey/tallykey/HttpSyntaxNameEndPinLaw", name := "pick", desc := "(I)B" } : Jvm.MethodName)).before a0 Z = true := hw _ (List.mem_of_getElem? (i := 2) rfl)
theorem w_3 {a0 : Array Value} {Z : State} (hw : ∀ d ∈ tables_1, d.before a0 Z = true) : (Jvm.Cond.initialized "com/example/tallykey/tallykey/HttpSyntaxNameEndPinLaw").before a0 Z = true := hw _ (List.mem_of_getElem? (i := 3) rfl)
theorem w_4 {a0 : Array Value} {Z : State} (hw : ∀ d ∈ tables_1, d.before a0 Z = true) : (Jvm.Cond.code ({ cls := "com/example/tallykey/tallykey/HttpSyntaxNameEndPinLaw", name := "pick", desc := "(I)B" } : Jvm.MethodName) method_2_code (1 : Nat) (Option.some Jvm.ClassFile.FieldType.byte)).before a0 Z = true := hw _ (List.mem_of_getElem? (i := 4) rfl)
theorem w_5 {a0 : Array Value} {Z : State} (hw : ∀ d ∈ tables_1, d.before a0 Z = true) : (Jvm.Cond.constant "com/example/tallykey/tallykey/HttpSyntaxNameEndPinLaw" (13 : Nat) (2147483647 : Int32)).before a0 Z = true := hw _ (List.mem_of_getElem? (i := 5) rfl)
theorem w_6 {a0 : Array Value} {Z : State} (hw : ∀ d ∈ tables_1, d.before a0 Z = true) : (Jvm.Cond.methodLink "com/example/tallykey/tallykey/HttpSyntaxNameEndPinLaw" (18 : Nat) ({ cls := "com/example/tallykey/tallykey/HttpSyntax", name := "nameEnd", desc := "([BII)I" } : Jvm.MethodName)).before a0 Z = true := hw _ (List.mem_of_getElem? (i := 6) rfl)
theorem w_7 {a0 : Array Value} {Z : State} (hw : ∀ d ∈ tables_1, d.before a0 Z = true) : (Jvm.Cond.static ({ cls := "com/example/tallykey/tallykey/HttpSyntax", name := "nameEnd", desc := "([BII)I" } : Jvm.MethodName)).before a0 Z = true := hw _ (List.mem_of_getElem? (i := 7) rfl)
theorem w_8 {a0 : Array Value} {Z : State} (hw : ∀ d ∈ tables_1, d.before a0 Z = true) : (Jvm.Cond.initialized "com/example/tallykey/tallykey/HttpSyntax").before a0 Z = true := hw _ (List.mem_of_getElem? (i := 8) rfl)
theorem w_9 {a0 : Array Value} {Z : State} (hw : ∀ d ∈ tables_1, d.before a0 Z = true) : (Jvm.Cond.code ({ cls := "com/example/tallykey/tallykey/HttpSyntax", name := "nameEnd", desc := "([BII)I" } : Jvm.MethodName) prog_5_method_7_code (4 : Nat) (Option.some Jvm.ClassFile.FieldType.int)).before a0 Z = true := hw _ (List.mem_of_getElem? (i := 9) rfl)
theorem w_10 {a0 : Array Value} {Z : State} (hw : ∀ d ∈ tables_1, d.before a0 Z = true) : (Jvm.Cond.methodLink "com/example/tallykey/tallykey/HttpSyntaxNameEndPinLaw" (14 : Nat) ({ cls := "com/example/tallykey/tallykey/HttpSyntaxNameEndPinLaw", name := "tok", desc := "(B)Z" } : Jvm.MethodName)).before a0 Z = true := hw _ (List.mem_of_getElem? (i := 10) rfl)
theorem w_11 {a0 : Array Value} {Z : State} (hw : ∀ d ∈ tables_1, d.before a0 Z = true) : (Jvm.Cond.static ({ cls := "com/example/tallykey/tallykey/HttpSyntaxNameEndPinLaw", name := "tok", desc := "(B)Z" } : Jvm.MethodName)).before a0 Z = true := hw _ (List.mem_of_getElem? (i := 11) rfl)
theorem w_12 {a0 : Array Value} {Z : State} (hw : ∀ d ∈ tables_1, d.before a0 Z = true) : (Jvm.Cond.code ({ cls := "com/example/tallykey/tallykey/HttpSyntaxNameEndPinLaw", name := "tok", desc := "(B)Z" } : Jvm.MethodName) method_3_code (2 : Nat) (Option.some Jvm.ClassFile.FieldType.boolean)).before a0 Z = true := hw _ (List.mem_of_getElem? (i := 12) rfl)
theorem w_13 {a0 : Array Value} {Z : State} (hw : ∀ d ∈ tables_1, d.before a0 Z = true) : (Jvm.Cond.fieldLink "com/example/tallykey/tallykey/HttpSyntax" (7 : Nat) "com/example/tallykey/tallykey/HttpSyntax" "TOKEN" "[Z").before a0 Z = true := hw _ (List.mem_of_getElem? (i := 13) rfl)
theorem w_14 {a0 : Array Value} {Z : State} (hw : ∀ d ∈ tables_1, d.before a0 Z = true) : (Jvm.Cond.laysStatic "com/example/tallykey/tallykey/HttpSyntax" "TOKEN" "[Z").before a0 Z = true := hw _ (List.mem_of_getElem? (i := 14) rfl)
theorem pn_0 : plainName "com/example/tallykey/tallykey/HttpSyntaxNameEndPinLaw" = true := by first | (simp [plainName, overriddenIn]; done) | decide +kernel
theorem pn_1 : plainName "com/example/tallykey/tallykey/HttpSyntax" = true := by first | (simp [plainName, overriddenIn]; done) | decide +kernel
theorem pd_0 : parseMethodDescriptor "([BII)I" = some ⟨[(.array .byte), .int, .int], (some .int)⟩ := by decide +kernel
theorem pd_1 : parseMethodDescriptor "(B)Z" = some ⟨[.byte], (some .boolean)⟩ := by decide +kernel
theorem pd_2 : parseMethodDescriptor "(I)B" = some ⟨[.int], (some .byte)⟩ := by decide +kernel
theorem ef_0 (m : MethodId) (x0 : Int32) : entryFrame m #[(.int x0)] 2 = mkF m 0 #[.val (.int x0), .unset] [] := by first | (simp [entryFrame, mkF, argsToLocals, Value.category, maxLocals]; done) | rfl
theorem ef_1 (m : MethodId) (x0 : Addr) (x1 : Int32) (x2 : Int32) : entryFrame m #[(.ref x0), (.int x1), (.int x2)] 4 = mkF m 0 #[.val (.ref x0), .val (.int x1), .val (.int x2), .unset] [] := by first | (simp [entryFrame, mkF, argsToLocals, Value.category, maxLocals]; done) | rfl
theorem ef_2 (m : MethodId) (x0 : Int32) : entryFrame m #[(.int x0)] 1 = mkF m 0 #[.val (.int x0)] [] := by first | (simp [entryFrame, mkF, argsToLocals, Value.category, maxLocals]; done) | rfl
theorem ef_3 (m : MethodId) (x0 : Int32) (x1 : Int32) (x2 : Int32) (x3 : Int32) (x4 : Int32) : entryFrame m #[(.int x0), (.int x1), (.int x2), (.int x3), (.int x4)] maxLocals = mkF m 0 #[.val (.int x0), .val (.int x1), .val (.int x2), .val (.int x3), .val (.int x4), .unset, .unset, .unset, .unset, .unset] [] := by first | (simp [entryFrame, mkF, argsToLocals, Value.category, maxLocals]; done) | rfl
theorem d1_0 : decode method_2_code 0 = .ok (.iload_n 0, 1) := by decide +kernel
theorem d1_1 : decode method_2_code 1 = .ok (.sipush 256, 3) := by decide +kernel
theorem d1_4 : decode method_2_code 4 = .ok (.iand, 1) := by decide +kernel
theorem d1_5 : decode method_2_code 5 = .ok (.ifCond .eq 8, 3) := by decide +kernel
theorem d1_8 : decode method_2_code 8 = .ok (.bipush 58, 2) := by decide +kernel
theorem d1_10 : decode method_2_code 10 = .ok (.goto 5, 3) := by decide +kernel
theorem d1_13 : decode method_2_code 13 = .ok (.iload_n 0, 1) := by decide +kernel
theorem d1_14 : decode method_2_code 14 = .ok (.i2b, 1) := by decide +kernel
theorem d1_15 : decode method_2_code 15 = .ok (.ireturn, 1) := by decide +kernel
theorem d2_0 : decode prog_5_method_7_code 0 = .ok (.iload_n 1, 1) := by decide +kernel
theorem d2_1 : decode prog_5_method_7_code 1 = .ok (.istore_n 3, 1) := by decide +kernel
theorem d2_2 : decode prog_5_method_7_code 2 = .ok (.iload_n 3, 1) := by decide +kernel
theorem d2_3 : decode prog_5_method_7_code 3 = .ok (.iload_n 2, 1) := by decide +kernel
theorem d2_4 : decode prog_5_method_7_code 4 = .ok (.if_icmp .ge 23, 3) := by decide +kernel
theorem d2_7 : decode prog_5_method_7_code 7 = .ok (.getstatic 7, 3) := by decide +kernel
theorem d2_10 : decode prog_5_method_7_code 10 = .ok (.aload_n 0, 1) := by decide +kernel
theorem d2_11 : decode prog_5_method_7_code 11 = .ok (.iload_n 3, 1) := by decide +kernel
theorem d2_12 : decode prog_5_method_7_code 12 = .ok (.baload, 1) := by decide +kernel
theorem d2_13 : decode prog_5_method_7_code 13 = .ok (.sipush 255, 3) := by decide +kernel
theorem d2_16 : decode prog_5_method_7_code 16 = .ok (.iand, 1) := by decide +kernel
theorem d2_17 : decode prog_5_method_7_code 17 = .ok (.baload, 1) := by decide +kernel
theorem d2_18 : decode prog_5_method_7_code 18 = .ok (.ifCond .eq 9, 3) := by decide +kernel
theorem d2_21 : decode prog_5_method_7_code 21 = .ok (.iinc 3 1, 3) := by decide +kernel
theorem d2_24 : decode prog_5_method_7_code 24 = .ok (.goto (-22), 3) := by decide +kernel
theorem d2_27 : decode prog_5_method_7_code 27 = .ok (.iload_n 3, 1) := by decide +kernel
theorem d2_28 : decode prog_5_method_7_code 28 = .ok (.iload_n 1, 1) := by decide +kernel
theorem d2_29 : decode prog_5_method_7_code 29 = .ok (.if_icmp .eq 16, 3) := by decide +kernel
theorem d2_32 : decode prog_5_method_7_code 32 = .ok (.iload_n 3, 1) := by decide +kernel
theorem d2_33 : decode prog_5_method_7_code 33 = .ok (.iload_n 2, 1) := by decide +kernel
theorem d2_34 : decode prog_5_method_7_code 34 = .ok (.if_icmp .eq 11, 3) := by decide +kernel
theorem d2_37 : decode prog_5_method_7_code 37 = .ok (.aload_n 0, 1) := by decide +kernel
theorem d2_38 : decode prog_5_method_7_code 38 = .ok (.iload_n 3, 1) := by decide +kernel
theorem d2_39 : decode prog_5_method_7_code 39 = .ok (.baload, 1) := by decide +kernel
theorem d2_40 : decode prog_5_method_7_code 40 = .ok (.bipush 58, 2) := by decide +kernel
theorem d2_42 : decode prog_5_method_7_code 42 = .ok (.if_icmp .eq 7, 3) := by decide +kernel
theorem d2_45 : decode prog_5_method_7_code 45 = .ok (.iconst (-1), 1) := by decide +kernel
theorem d2_46 : decode prog_5_method_7_code 46 = .ok (.goto 4, 3) := by decide +kernel
theorem d2_49 : decode prog_5_method_7_code 49 = .ok (.iload_n 3, 1) := by decide +kernel
theorem d2_50 : decode prog_5_method_7_code 50 = .ok (.ireturn, 1) := by decide +kernel
theorem d3_0 : decode method_3_code 0 = .ok (.iload_n 0, 1) := by decide +kernel
theorem d3_1 : decode method_3_code 1 = .ok (.sipush 255, 3) := by decide +kernel
theorem d3_4 : decode method_3_code 4 = .ok (.iand, 1) := by decide +kernel
theorem d3_5 : decode method_3_code 5 = .ok (.istore_n 1, 1) := by decide +kernel
theorem d3_6 : decode method_3_code 6 = .ok (.iload_n 1, 1) := by decide +kernel
theorem d3_7 : decode method_3_code 7 = .ok (.bipush 48, 2) := by decide +kernel
theorem d3_9 : decode method_3_code 9 = .ok (.if_icmp .lt 11, 3) := by decide +kernel
theorem d3_12 : decode method_3_code 12 = .ok (.iload_n 1, 1) := by decide +kernel
theorem d3_13 : decode method_3_code 13 = .ok (.bipush 57, 2) := by decide +kernel
theorem d3_15 : decode method_3_code 15 = .ok (.if_icmp .gt 5, 3) := by decide +kernel
theorem d3_18 : decode method_3_code 18 = .ok (.iconst 1, 1) := by decide +kernel
theorem d3_19 : decode method_3_code 19 = .ok (.ireturn, 1) := by decide +kernel
theorem d3_20 : decode method_3_code 20 = .ok (.iload_n 1, 1) := by decide +kernel
theorem d3_21 : decode method_3_code 21 = .ok (.bipush 65, 2) := by decide +kernel
theorem d3_23 : decode method_3_code 23 = .ok (.if_icmp .lt 11, 3) := by decide +kernel
theorem d3_26 : decode method_3_code 26 = .ok (.iload_n 1, 1) := by decide +kernel
theorem d3_27 : decode method_3_code 27 = .ok (.bipush 90, 2) := by decide +kernel
theorem d3_29 : decode method_3_code 29 = .ok (.if_icmp .gt 5, 3) := by decide +kernel
theorem d3_32 : decode method_3_code 32 = .ok (.iconst 1, 1) := by decide +kernel
theorem d3_33 : decode method_3_code 33 = .ok (.ireturn, 1) := by decide +kernel
theorem d3_34 : decode method_3_code 34 = .ok (.iload_n 1, 1) := by decide +kernel
theorem d3_35 : decode method_3_code 35 = .ok (.bipush 97, 2) := by decide +kernel
theorem d3_37 : decode method_3_code 37 = .ok (.if_icmp .lt 11, 3) := by decide +kernel
theorem d3_40 : decode method_3_code 40 = .ok (.iload_n 1, 1) := by decide +kernel
theorem d3_41 : decode method_3_code 41 = .ok (.bipush 122, 2) := by decide +kernel
theorem d3_43 : decode method_3_code 43 = .ok (.if_icmp .gt 5, 3) := by decide +kernel
theorem d3_46 : decode method_3_code 46 = .ok (.iconst 1, 1) := by decide +kernel
theorem d3_47 : decode method_3_code 47 = .ok (.ireturn, 1) := by decide +kernel
theorem d3_48 : decode method_3_code 48 = .ok (.iload_n 1, 1) := by decide +kernel
theorem d3_49 : decode method_3_code 49 = .ok (.bipush 33, 2) := by decide +kernel
theorem d3_51 : decode method_3_code 51 = .ok (.if_icmp .eq 87, 3) := by decide +kernel
theorem d3_54 : decode method_3_code 54 = .ok (.iload_n 1, 1) := by decide +kernel
theorem d3_55 : decode method_3_code 55 = .ok (.bipush 35, 2) := by decide +kernel
theorem d3_57 : decode method_3_code 57 = .ok (.if_icmp .eq 81, 3) := by decide +kernel
theorem d3_60 : decode method_3_code 60 = .ok (.iload_n 1, 1) := by decide +kernel
theorem d3_61 : decode method_3_code 61 = .ok (.bipush 36, 2) := by decide +kernel
theorem d3_63 : decode method_3_code 63 = .ok (.if_icmp .eq 75, 3) := by decide +kernel
theorem d3_66 : decode method_3_code 66 = .ok (.iload_n 1, 1) := by decide +kernel
theorem d3_67 : decode method_3_code 67 = .ok (.bipush 37, 2) := by decide +kernel
theorem d3_69 : decode method_3_code 69 = .ok (.if_icmp .eq 69, 3) := by decide +kernel
theorem d3_72 : decode method_3_code 72 = .ok (.iload_n 1, 1) := by decide +kernel
theorem d3_73 : decode method_3_code 73 = .ok (.bipush 38, 2) := by decide +kernel
theorem d3_75 : decode method_3_code 75 = .ok (.if_icmp .eq 63, 3) := by decide +kernel
theorem d3_78 : decode method_3_code 78 = .ok (.iload_n 1, 1) := by decide +kernel
theorem d3_79 : decode method_3_code 79 = .ok (.bipush 39, 2) := by decide +kernel
theorem d3_81 : decode method_3_code 81 = .ok (.if_icmp .eq 57, 3) := by decide +kernel
theorem d3_84 : decode method_3_code 84 = .ok (.iload_n 1, 1) := by decide +kernel
theorem d3_85 : decode method_3_code 85 = .ok (.bipush 42, 2) := by decide +kernel
theorem d3_87 : decode method_3_code 87 = .ok (.if_icmp .eq 51, 3) := by decide +kernel
theorem d3_90 : decode method_3_code 90 = .ok (.iload_n 1, 1) := by decide +kernel
theorem d3_91 : decode method_3_code 91 = .ok (.bipush 43, 2) := by decide +kernel
theorem d3_93 : decode method_3_code 93 = .ok (.if_icmp .eq 45, 3) := by decide +kernel
theorem d3_96 : decode method_3_code 96 = .ok (.iload_n 1, 1) := by decide +kernel
theorem d3_97 : decode method_3_code 97 = .ok (.bipush 45, 2) := by decide +kernel
theorem d3_99 : decode method_3_code 99 = .ok (.if_icmp .eq 39, 3) := by decide +kernel
theorem d3_102 : decode method_3_code 102 = .ok (.iload_n 1, 1) := by decide +kernel
theorem d3_103 : decode method_3_code 103 = .ok (.bipush 46, 2) := by decide +kernel
theorem d3_105 : decode method_3_code 105 = .ok (.if_icmp .eq 33, 3) := by decide +kernel
theorem d3_108 : decode method_3_code 108 = .ok (.iload_n 1, 1) := by decide +kernel
theorem d3_109 : decode method_3_code 109 = .ok (.bipush 94, 2) := by decide +kernel
theorem d3_111 : decode method_3_code 111 = .ok (.if_icmp .eq 27, 3) := by decide +kernel
theorem d3_114 : decode method_3_code 114 = .ok (.iload_n 1, 1) := by decide +kernel
theorem d3_115 : decode method_3_code 115 = .ok (.bipush 95, 2) := by decide +kernel
theorem d3_117 : decode method_3_code 117 = .ok (.if_icmp .eq 21, 3) := by decide +kernel
theorem d3_120 : decode method_3_code 120 = .ok (.iload_n 1, 1) := by decide +kernel
theorem d3_121 : decode method_3_code 121 = .ok (.bipush 96, 2) := by decide +kernel
theorem d3_123 : decode method_3_code 123 = .ok (.if_icmp .eq 15, 3) := by decide +kernel
theorem d3_126 : decode method_3_code 126 = .ok (.iload_n 1, 1) := by decide +kernel
theorem d3_127 : decode method_3_code 127 = .ok (.bipush 124, 2) := by decide +kernel
theorem d3_129 : decode method_3_code 129 = .ok (.if_icmp .eq 9, 3) := by decide +kernel
theorem d3_132 : decode method_3_code 132 = .ok (.iload_n 1, 1) := by decide +kernel
theorem d3_133 : decode method_3_code 133 = .ok (.bipush 126, 2) := by decide +kernel
theorem d3_135 : decode method_3_code 135 = .ok (.if_icmp .ne 7, 3) := by decide +kernel
theorem d3_138 : decode method_3_code 138 = .ok (.iconst 1, 1) := by decide +kernel
theorem d3_139 : decode method_3_code 139 = .ok (.goto 4, 3) := by decide +kernel
theorem d3_142 : decode method_3_code 142 = .ok (.iconst 0, 1) := by decide +kernel
theorem d3_143 : decode method_3_code 143 = .ok (.ireturn, 1) := by decide +kernel
theorem own_mod1 (x : Int32) : (x &&& (2147483647 : Int32)) % (1 : Int32) = (0 : Int32) := by
  obtain ⟨h1, h2⟩ := own_mod x 1 (by decide)
  have h3 : ((1 : Int32)).toInt = 1 := by decide
  rw [h3] at h2
  have h4 : ((x &&& (2147483647 : Int32)) % (1 : Int32)).toInt = 0 := by omega
  rcases h4 with h4
  · exact (own_i32 (h4.trans (by decide)))
theorem own_mod2 (x : Int32) : (x &&& (2147483647 : Int32)) % (2 : Int32) = (0 : Int32) ∨ (x &&& (2147483647 : Int32)) % (2 : Int32) = (1 : Int32) := by
  obtain ⟨h1, h2⟩ := own_mod x 2 (by decide)
  have h3 : ((2 : Int32)).toInt = 2 := by decide
  rw [h3] at h2
  have h4 : ((x &&& (2147483647 : Int32)) % (2 : Int32)).toInt = 0 ∨ ((x &&& (2147483647 : Int32)) % (2 : Int32)).toInt = 1 := by omega
  rcases h4 with h4 | h4
  · exact (Or.inl (own_i32 (h4.trans (by decide))))
  · exact (Or.inr (own_i32 (h4.trans (by decide))))
theorem own_mod3 (x : Int32) : (x &&& (2147483647 : Int32)) % (3 : Int32) = (0 : Int32) ∨ (x &&& (2147483647 : Int32)) % (3 : Int32) = (1 : Int32) ∨ (x &&& (2147483647 : Int32)) % (3 : Int32) = (2 : Int32) := by
  obtain ⟨h1, h2⟩ := own_mod x 3 (by decide)
  have h3 : ((3 : Int32)).toInt = 3 := by decide
  rw [h3] at h2
  have h4 : ((x &&& (2147483647 : Int32)) % (3 : Int32)).toInt = 0 ∨ ((x &&& (2147483647 : Int32)) % (3 : Int32)).toInt = 1 ∨ ((x &&& (2147483647 : Int32)) % (3 : Int32)).toInt = 2 := by omega
  rcases h4 with h4 | h4 | h4
  · exact (Or.inl (own_i32 (h4.trans (by decide))))
  · exact (Or.inr (Or.inl (own_i32 (h4.trans (by decide)))))
  · exact (Or.inr (Or.inr (own_i32 (h4.trans (by decide)))))
theorem own_mod4 (x : Int32) : (x &&& (2147483647 : Int32)) % (4 : Int32) = (0 : Int32) ∨ (x &&& (2147483647 : Int32)) % (4 : Int32) = (1 : Int32) ∨ (x &&& (2147483647 : Int32)) % (4 : Int32) = (2 : Int32) ∨ (x &&& (2147483647 : Int32)) % (4 : Int32) = (3 : Int32) := by
  obtain ⟨h1, h2⟩ := own_mod x 4 (by decide)
  have h3 : ((4 : Int32)).toInt = 4 := by decide
  rw [h3] at h2
  have h4 : ((x &&& (2147483647 : Int32)) % (4 : Int32)).toInt = 0 ∨ ((x &&& (2147483647 : Int32)) % (4 : Int32)).toInt = 1 ∨ ((x &&& (2147483647 : Int32)) % (4 : Int32)).toInt = 2 ∨ ((x &&& (2147483647 : Int32)) % (4 : Int32)).toInt = 3 := by omega
  rcases h4 with h4 | h4 | h4 | h4
  · exact (Or.inl (own_i32 (h4.trans (by decide))))
  · exact (Or.inr (Or.inl (own_i32 (h4.trans (by decide)))))
  · exact (Or.inr (Or.inr (Or.inl (own_i32 (h4.trans (by decide))))))
  · exact (Or.inr (Or.inr (Or.inr (own_i32 (h4.trans (by decide))))))
theorem own_mod5 (x : Int32) : (x &&& (2147483647 : Int32)) % (5 : Int32) = (0 : Int32) ∨ (x &&& (2147483647 : Int32)) % (5 : Int32) = (1 : Int32) ∨ (x &&& (2147483647 : Int32)) % (5 : Int32) = (2 : Int32) ∨ (x &&& (2147483647 : Int32)) % (5 : Int32) = (3 : Int32) ∨ (x &&& (2147483647 : Int32)) % (5 : Int32) = (4 : Int32) := by
  obtain ⟨h1, h2⟩ := own_mod x 5 (by decide)
  have h3 : ((5 : Int32)).toInt = 5 := by decide
  rw [h3] at h2
  have h4 : ((x &&& (2147483647 : Int32)) % (5 : Int32)).toInt = 0 ∨ ((x &&& (2147483647 : Int32)) % (5 : Int32)).toInt = 1 ∨ ((x &&& (2147483647 : Int32)) % (5 : Int32)).toInt = 2 ∨ ((x &&& (2147483647 : Int32)) % (5 : Int32)).toInt = 3 ∨ ((x &&& (2147483647 : Int32)) % (5 : Int32)).toInt = 4 := by omega
  rcases h4 with h4 | h4 | h4 | h4 | h4
  · exact (Or.inl (own_i32 (h4.trans (by decide))))
  · exact (Or.inr (Or.inl (own_i32 (h4.trans (by decide)))))
  · exact (Or.inr (Or.inr (Or.inl (own_i32 (h4.trans (by decide))))))
  · exact (Or.inr (Or.inr (Or.inr (Or.inl (own_i32 (h4.trans (by decide)))))))
  · exact (Or.inr (Or.inr (Or.inr (Or.inr (own_i32 (h4.trans (by decide)))))))
theorem own_narB (x : Int32) : narrow .byte (.int x.toInt8.toInt32) = .int x.toInt8.toInt32 := by
  show Value.int (x.toInt8.toInt32.toInt8.toInt32) = _
  rw [Int8.toInt8_toInt32]
def tabN (k : Nat) : Int32 := if (33 ≤ k ∧ k ≤ 33) ∨ (35 ≤ k ∧ k ≤ 39) ∨ (42 ≤ k ∧ k ≤ 43) ∨ (45 ≤ k ∧ k ≤ 46) ∨ (48 ≤ k ∧ k ≤ 57) ∨ (65 ≤ k ∧ k ≤ 90) ∨ (94 ≤ k ∧ k ≤ 122) ∨ (124 ≤ k ∧ k ≤ 124) ∨ (126 ≤ k ∧ k ≤ 126) then 1 else 0
theorem tab1 {k : Nat} (q : (33 ≤ k ∧ k ≤ 33) ∨ (35 ≤ k ∧ k ≤ 39) ∨ (42 ≤ k ∧ k ≤ 43) ∨ (45 ≤ k ∧ k ≤ 46) ∨ (48 ≤ k ∧ k ≤ 57) ∨ (65 ≤ k ∧ k ≤ 90) ∨ (94 ≤ k ∧ k ≤ 122) ∨ (124 ≤ k ∧ k ≤ 124) ∨ (126 ≤ k ∧ k ≤ 126)) : tabN k = 1 := if_pos q
theorem tab0 {k : Nat} (q : ¬ ((33 ≤ k ∧ k ≤ 33) ∨ (35 ≤ k ∧ k ≤ 39) ∨ (42 ≤ k ∧ k ≤ 43) ∨ (45 ≤ k ∧ k ≤ 46) ∨ (48 ≤ k ∧ k ≤ 57) ∨ (65 ≤ k ∧ k ≤ 90) ∨ (94 ≤ k ∧ k ≤ 122) ∨ (124 ≤ k ∧ k ≤ 124) ∨ (126 ≤ k ∧ k ≤ 126))) : tabN k = 0 := if_neg q
theorem tab_nar (k : Nat) : narrow .boolean (.int (tabN k)) = .int (tabN k) := by
  by_cases q : (33 ≤ k ∧ k ≤ 33) ∨ (35 ≤ k ∧ k ≤ 39) ∨ (42 ≤ k ∧ k ≤ 43) ∨ (45 ≤ k ∧ k ≤ 46) ∨ (48 ≤ k ∧ k ≤ 57) ∨ (65 ≤ k ∧ k ≤ 90) ∨ (94 ≤ k ∧ k ≤ 122) ∨ (124 ≤ k ∧ k ≤ 124) ∨ (126 ≤ k ∧ k ≤ 126)
  · rw [tab1 q]; rfl
  · rw [tab0 q]; rfl
theorem own_255 (x : Int32) : 0 ≤ (x &&& (255 : Int32)).toInt ∧ (x &&& (255 : Int32)).toInt ≤ 255 := c_and x 255 (by decide)
theorem own_in {x : Int32} {n : Nat} (h1 : 0 ≤ x.toInt) (h2 : x.toInt < (n : Int)) : ¬ (x < 0 ∨ n ≤ x.toNatClampNeg) := by
  simp only [Int32.lt_iff_toInt_lt, Int32.reduceToInt, Int32.toNatClampNeg]; omega
theorem own_clamp {x : Int32} (h1 : 0 ≤ x.toInt) : (x.toNatClampNeg : Int) = x.toInt := by simp only [Int32.toNatClampNeg]; omega
def OwnF (Z : State) (h : Heap)  (a_T : Addr) (c_T : Cell) : Prop := (Sta Z h "com/example/tallykey/tallykey/HttpSyntax" "TOKEN" "[Z" (.ref a_T)) ∧ (Arr Z h a_T c_T .boolean) ∧ (c_T.slots.size = 256) ∧ (∀ k, k < 256 → c_T.slots[k]? = some (Value.int (tabN k)))
theorem OwnF.s_T {Z : State} {h : Heap}  {a_T : Addr} {c_T : Cell} (F : OwnF Z h  a_T c_T) : Sta Z h "com/example/tallykey/tallykey/HttpSyntax" "TOKEN" "[Z" (.ref a_T) := F.1
theorem OwnF.r_T {Z : State} {h : Heap}  {a_T : Addr} {c_T : Cell} (F : OwnF Z h  a_T c_T) : Arr Z h a_T c_T .boolean := F.2.1
theorem OwnF.z_T {Z : State} {h : Heap}  {a_T : Addr} {c_T : Cell} (F : OwnF Z h  a_T c_T) : c_T.slots.size = 256 := F.2.2.1
theorem OwnF.t_T {Z : State} {h : Heap}  {a_T : Addr} {c_T : Cell} (F : OwnF Z h  a_T c_T) : ∀ k, k < 256 → c_T.slots[k]? = some (Value.int (tabN k)) := F.2.2.2
theorem OwnF.ext {Z : State} {h h' : Heap}  {a_T : Addr} {c_T : Cell} (F : OwnF Z h  a_T c_T) (E : Ext h h') : OwnF Z h'  a_T c_T := ⟨F.s_T.ext E, F.r_T.ext E, F.z_T, F.t_T⟩
set_option maxRecDepth 65536 in
set_option maxHeartbeats 40000000 in
theorem m_cls {l : Launch} {Z : State} {a0 : Array Value} {n0 : Nat} {h : Heap}  {a_T : Addr} {c_T : Cell} (hw : ∀ d ∈ tables_1, d.before a0 Z = true) (F : OwnF Z h  a_T c_T) (z0 : Int32) : Met l Z n0 (⟨"com/example/tallykey/tallykey/HttpSyntaxNameEndPinLaw", "tok", "(B)Z"⟩ : MethodName) method_3_code 2 (Option.some Jvm.ClassFile.FieldType.boolean) (⟨0, 0, 0, 0⟩ : Room) #[(.int z0)] h (fun v h' => v = some (.int (tabN (z0 &&& (255 : Int32)).toNatClampNeg)) ∧ h' = h) := by
  refine Met.of_wk (ls := #[.val (.int z0), .unset]) (plainFor_of_name pn_0) (fun m => ef_0 m z0) ?_
  show Wk l Z n0 "com/example/tallykey/tallykey/HttpSyntaxNameEndPinLaw" "tok" method_3_code 2 (Option.some Jvm.ClassFile.FieldType.boolean) (⟨0, 0, 0, 0⟩ : Room) 0 0 (fun v h' => v = some (.int (tabN (z0 &&& (255 : Int32)).toNatClampNeg)) ∧ h' = h) h 0 0 0 #[.val (.int z0), .unset] []
  have r1 := (own_255 z0).1
  have r2 := (own_255 z0).2
  have r3 := own_clamp r1
  refine Wk.iloadN (q := 1) d3_0 rfl rfl ?_
  refine Wk.sipush (q := 4) (v := (255 : Int32)) d3_1 rfl rfl ?_
  refine Wk.iand (q := 5) (v := (z0 &&& (255 : Int32))) d3_4 rfl rfl ?_
  refine Wk.istoreN (q := 6) (ls' := #[.val (.int z0), .val (.int (z0 &&& (255 : Int32)))]) d3_5 rfl rfl ?_
  refine Wk.iloadN (q := 7) d3_6 rfl rfl ?_
  refine Wk.bipush (q := 9) (v := (48 : Int32)) d3_7 rfl rfl ?_
  refine Wk.icmp (q := 20) (q' := 12) d3_9 (by decide) rfl rfl (fun (h1 : (z0 &&& (255 : Int32)) < (48 : Int32)) => ?_) (fun (h1 : ¬ (z0 &&& (255 : Int32)) < (48 : Int32)) => ?_)
  · refine Wk.iloadN (q := 21) d3_20 rfl rfl ?_
    refine Wk.bipush (q := 23) (v := (65 : Int32)) d3_21 rfl rfl ?_
    refine Wk.icmp (q := 34) (q' := 26) d3_23 (by decide) rfl rfl (fun (h2 : (z0 &&& (255 : Int32)) < (65 : Int32)) => ?_) (fun (h2 : ¬ (z0 &&& (255 : Int32)) < (65 : Int32)) => ?_)
    · refine Wk.iloadN (q := 35) d3_34 rfl rfl ?_
      refine Wk.bipush (q := 37) (v := (97 : Int32)) d3_35 rfl rfl ?_
      refine Wk.icmp (q := 48) (q' := 40) d3_37 (by decide) rfl rfl (fun (h3 : (z0 &&& (255 : Int32)) < (97 : Int32)) => ?_) (fun (h3 : ¬ (z0 &&& (255 : Int32)) < (97 : Int32)) => ?_)
      · refine Wk.iloadN (q := 49) d3_48 rfl rfl ?_
        refine Wk.bipush (q := 51) (v := (33 : Int32)) d3_49 rfl rfl ?_
        refine Wk.icmp (q := 138) (q' := 54) d3_51 (by decide) rfl rfl (fun (h4 : (z0 &&& (255 : Int32)) = (33 : Int32)) => ?_) (fun (h4 : ¬ (z0 &&& (255 : Int32)) = (33 : Int32)) => ?_)
        · refine Wk.iconst (q := 139) (v := (1 : Int32)) d3_138 rfl rfl ?_
          refine Wk.goto (q := 143) d3_139 (by decide) rfl ?_
          simp only [Int32.lt_iff_toInt_lt, ← Int32.toInt_inj, Int32.reduceToInt] at h1 h2 h3 h4
          exact Wk.retZ rfl rfl d3_143 (by decide) (by decide) ⟨by rw [tab1 (by omega)], rfl⟩
        · refine Wk.iloadN (q := 55) d3_54 rfl rfl ?_
          refine Wk.bipush (q := 57) (v := (35 : Int32)) d3_55 rfl rfl ?_
          refine Wk.icmp (q := 138) (q' := 60) d3_57 (by decide) rfl rfl (fun (h5 : (z0 &&& (255 : Int32)) = (35 : Int32)) => ?_) (fun (h5 : ¬ (z0 &&& (255 : Int32)) = (35 : Int32)) => ?_)
          · refine Wk.iconst (q := 139) (v := (1 : Int32)) d3_138 rfl rfl ?_
            refine Wk.goto (q := 143) d3_139 (by decide) rfl ?_
            simp only [Int32.lt_iff_toInt_lt, ← Int32.toInt_inj, Int32.reduceToInt] at h1 h2 h3 h4 h5
            exact Wk.retZ rfl rfl d3_143 (by decide) (by decide) ⟨by rw [tab1 (by omega)], rfl⟩
          · refine Wk.iloadN (q := 61) d3_60 rfl rfl ?_
            refine Wk.bipush (q := 63) (v := (36 : Int32)) d3_61 rfl rfl ?_
            refine Wk.icmp (q := 138) (q' := 66) d3_63 (by decide) rfl rfl (fun (h6 : (z0 &&& (255 : Int32)) = (36 : Int32)) => ?_) (fun (h6 : ¬ (z0 &&& (255 : Int32)) = (36 : Int32)) => ?_)
            · refine Wk.iconst (q := 139) (v := (1 : Int32)) d3_138 rfl rfl ?_
              refine Wk.goto (q := 143) d3_139 (by decide) rfl ?_
              simp only [Int32.lt_iff_toInt_lt, ← Int32.toInt_inj, Int32.reduceToInt] at h1 h2 h3 h4 h5 h6
              exact Wk.retZ rfl rfl d3_143 (by decide) (by decide) ⟨by rw [tab1 (by omega)], rfl⟩
            · refine Wk.iloadN (q := 67) d3_66 rfl rfl ?_
              refine Wk.bipush (q := 69) (v := (37 : Int32)) d3_67 rfl rfl ?_
              refine Wk.icmp (q := 138) (q' := 72) d3_69 (by decide) rfl rfl (fun (h7 : (z0 &&& (255 : Int32)) = (37 : Int32)) => ?_) (fun (h7 : ¬ (z0 &&& (255 : Int32)) = (37 : Int32)) => ?_)
              · refine Wk.iconst (q := 139) (v := (1 : Int32)) d3_138 rfl rfl ?_
                refine Wk.goto (q := 143) d3_139 (by decide) rfl ?_
                simp only [Int32.lt_iff_toInt_lt, ← Int32.toInt_inj, Int32.reduceToInt] at h1 h2 h3 h4 h5 h6 h7
                exact Wk.retZ rfl rfl d3_143 (by decide) (by decide) ⟨by rw [tab1 (by omega)], rfl⟩
              · refine Wk.iloadN (q := 73) d3_72 rfl rfl ?_
                refine Wk.bipush (q := 75) (v := (38 : Int32)) d3_73 rfl rfl ?_
                refine Wk.icmp (q := 138) (q' := 78) d3_75 (by decide) rfl rfl (fun (h8 : (z0 &&& (255 : Int32)) = (38 : Int32)) => ?_) (fun (h8 : ¬ (z0 &&& (255 : Int32)) = (38 : Int32)) => ?_)
                · refine Wk.iconst (q := 139) (v := (1 : Int32)) d3_138 rfl rfl ?_
                  refine Wk.goto (q := 143) d3_139 (by decide) rfl ?_
                  simp only [Int32.lt_iff_toInt_lt, ← Int32.toInt_inj, Int32.reduceToInt] at h1 h2 h3 h4 h5 h6 h7 h8
                  exact Wk.retZ rfl rfl d3_143 (by decide) (by decide) ⟨by rw [tab1 (by omega)], rfl⟩
                · refine Wk.iloadN (q := 79) d3_78 rfl rfl ?_
                  refine Wk.bipush (q := 81) (v := (39 : Int32)) d3_79 rfl rfl ?_
                  refine Wk.icmp (q := 138) (q' := 84) d3_81 (by decide) rfl rfl (fun (h9 : (z0 &&& (255 : Int32)) = (39 : Int32)) => ?_) (fun (h9 : ¬ (z0 &&& (255 : Int32)) = (39 : Int32)) => ?_)
                  · refine Wk.iconst (q := 139) (v := (1 : Int32)) d3_138 rfl rfl ?_
                    refine Wk.goto (q := 143) d3_139 (by decide) rfl ?_
                    simp only [Int32.lt_iff_toInt_lt, ← Int32.toInt_inj, Int32.reduceToInt] at h1 h2 h3 h4 h5 h6 h7 h8 h9
                    exact Wk.retZ rfl rfl d3_143 (by decide) (by decide) ⟨by rw [tab1 (by omega)], rfl⟩
                  · refine Wk.iloadN (q := 85) d3_84 rfl rfl ?_
                    refine Wk.bipush (q := 87) (v := (42 : Int32)) d3_85 rfl rfl ?_
                    refine Wk.icmp (q := 138) (q' := 90) d3_87 (by decide) rfl rfl (fun (h10 : (z0 &&& (255 : Int32)) = (42 : Int32)) => ?_) (fun (h10 : ¬ (z0 &&& (255 : Int32)) = (42 : Int32)) => ?_)
                    · refine Wk.iconst (q := 139) (v := (1 : Int32)) d3_138 rfl rfl ?_
                      refine Wk.goto (q := 143) d3_139 (by decide) rfl ?_
                      simp only [Int32.lt_iff_toInt_lt, ← Int32.toInt_inj, Int32.reduceToInt] at h1 h2 h3 h4 h5 h6 h7 h8 h9 h10
                      exact Wk.retZ rfl rfl d3_143 (by decide) (by decide) ⟨by rw [tab1 (by omega)], rfl⟩
                    · refine Wk.iloadN (q := 91) d3_90 rfl rfl ?_
                      refine Wk.bipush (q := 93) (v := (43 : Int32)) d3_91 rfl rfl ?_
                      refine Wk.icmp (q := 138) (q' := 96) d3_93 (by decide) rfl rfl (fun (h11 : (z0 &&& (255 : Int32)) = (43 : Int32)) => ?_) (fun (h11 : ¬ (z0 &&& (255 : Int32)) = (43 : Int32)) => ?_)
                      · refine Wk.iconst (q := 139) (v := (1 : Int32)) d3_138 rfl rfl ?_
                        refine Wk.goto (q := 143) d3_139 (by decide) rfl ?_
                        simp only [Int32.lt_iff_toInt_lt, ← Int32.toInt_inj, Int32.reduceToInt] at h1 h2 h3 h4 h5 h6 h7 h8 h9 h10 h11
                        exact Wk.retZ rfl rfl d3_143 (by decide) (by decide) ⟨by rw [tab1 (by omega)], rfl⟩
                      · refine Wk.iloadN (q := 97) d3_96 rfl rfl ?_
                        refine Wk.bipush (q := 99) (v := (45 : Int32)) d3_97 rfl rfl ?_
                        refine Wk.icmp (q := 138) (q' := 102) d3_99 (by decide) rfl rfl (fun (h12 : (z0 &&& (255 : Int32)) = (45 : Int32)) => ?_) (fun (h12 : ¬ (z0 &&& (255 : Int32)) = (45 : Int32)) => ?_)
                        · refine Wk.iconst (q := 139) (v := (1 : Int32)) d3_138 rfl rfl ?_
                          refine Wk.goto (q := 143) d3_139 (by decide) rfl ?_
                          simp only [Int32.lt_iff_toInt_lt, ← Int32.toInt_inj, Int32.reduceToInt] at h1 h2 h3 h4 h5 h6 h7 h8 h9 h10 h11 h12
                          exact Wk.retZ rfl rfl d3_143 (by decide) (by decide) ⟨by rw [tab1 (by omega)], rfl⟩
                        · refine Wk.iloadN (q := 103) d3_102 rfl rfl ?_
                          refine Wk.bipush (q := 105) (v := (46 : Int32)) d3_103 rfl rfl ?_
                          refine Wk.icmp (q := 138) (q' := 108) d3_105 (by decide) rfl rfl (fun (h13 : (z0 &&& (255 : Int32)) = (46 : Int32)) => ?_) (fun (h13 : ¬ (z0 &&& (255 : Int32)) = (46 : Int32)) => ?_)
                          · refine Wk.iconst (q := 139) (v := (1 : Int32)) d3_138 rfl rfl ?_
                            refine Wk.goto (q := 143) d3_139 (by decide) rfl ?_
                            simp only [Int32.lt_iff_toInt_lt, ← Int32.toInt_inj, Int32.reduceToInt] at h1 h2 h3 h4 h5 h6 h7 h8 h9 h10 h11 h12 h13
                            exact Wk.retZ rfl rfl d3_143 (by decide) (by decide) ⟨by rw [tab1 (by omega)], rfl⟩
                          · refine Wk.iloadN (q := 109) d3_108 rfl rfl ?_
                            refine Wk.bipush (q := 111) (v := (94 : Int32)) d3_109 rfl rfl ?_
                            refine Wk.icmp (q := 138) (q' := 114) d3_111 (by decide) rfl rfl (fun (h14 : (z0 &&& (255 : Int32)) = (94 : Int32)) => ?_) (fun (h14 : ¬ (z0 &&& (255 : Int32)) = (94 : Int32)) => ?_)
                            · refine Wk.iconst (q := 139) (v := (1 : Int32)) d3_138 rfl rfl ?_
                              refine Wk.goto (q := 143) d3_139 (by decide) rfl ?_
                              simp only [Int32.lt_iff_toInt_lt, ← Int32.toInt_inj, Int32.reduceToInt] at h1 h2 h3 h4 h5 h6 h7 h8 h9 h10 h11 h12 h13 h14
                              exact Wk.retZ rfl rfl d3_143 (by decide) (by decide) ⟨by rw [tab1 (by omega)], rfl⟩
                            · refine Wk.iloadN (q := 115) d3_114 rfl rfl ?_
                              refine Wk.bipush (q := 117) (v := (95 : Int32)) d3_115 rfl rfl ?_
                              refine Wk.icmp (q := 138) (q' := 120) d3_117 (by decide) rfl rfl (fun (h15 : (z0 &&& (255 : Int32)) = (95 : Int32)) => ?_) (fun (h15 : ¬ (z0 &&& (255 : Int32)) = (95 : Int32)) => ?_)
                              · refine Wk.iconst (q := 139) (v := (1 : Int32)) d3_138 rfl rfl ?_
                                refine Wk.goto (q := 143) d3_139 (by decide) rfl ?_
                                simp only [Int32.lt_iff_toInt_lt, ← Int32.toInt_inj, Int32.reduceToInt] at h1 h2 h3 h4 h5 h6 h7 h8 h9 h10 h11 h12 h13 h14 h15
                                exact Wk.retZ rfl rfl d3_143 (by decide) (by decide) ⟨by rw [tab1 (by omega)], rfl⟩
                              · refine Wk.iloadN (q := 121) d3_120 rfl rfl ?_
                                refine Wk.bipush (q := 123) (v := (96 : Int32)) d3_121 rfl rfl ?_
                                refine Wk.icmp (q := 138) (q' := 126) d3_123 (by decide) rfl rfl (fun (h16 : (z0 &&& (255 : Int32)) = (96 : Int32)) => ?_) (fun (h16 : ¬ (z0 &&& (255 : Int32)) = (96 : Int32)) => ?_)
                                · refine Wk.iconst (q := 139) (v := (1 : Int32)) d3_138 rfl rfl ?_
                                  refine Wk.goto (q := 143) d3_139 (by decide) rfl ?_
                                  simp only [Int32.lt_iff_toInt_lt, ← Int32.toInt_inj, Int32.reduceToInt] at h1 h2 h3 h4 h5 h6 h7 h8 h9 h10 h11 h12 h13 h14 h15 h16
                                  exact Wk.retZ rfl rfl d3_143 (by decide) (by decide) ⟨by rw [tab1 (by omega)], rfl⟩
                                · refine Wk.iloadN (q := 127) d3_126 rfl rfl ?_
                                  refine Wk.bipush (q := 129) (v := (124 : Int32)) d3_127 rfl rfl ?_
                                  refine Wk.icmp (q := 138) (q' := 132) d3_129 (by decide) rfl rfl (fun (h17 : (z0 &&& (255 : Int32)) = (124 : Int32)) => ?_) (fun (h17 : ¬ (z0 &&& (255 : Int32)) = (124 : Int32)) => ?_)
                                  · refine Wk.iconst (q := 139) (v := (1 : Int32)) d3_138 rfl rfl ?_
                                    refine Wk.goto (q := 143) d3_139 (by decide) rfl ?_
                                    simp only [Int32.lt_iff_toInt_lt, ← Int32.toInt_inj, Int32.reduceToInt] at h1 h2 h3 h4 h5 h6 h7 h8 h9 h10 h11 h12 h13 h14 h15 h16 h17
                                    exact Wk.retZ rfl rfl d3_143 (by decide) (by decide) ⟨by rw [tab1 (by omega)], rfl⟩
                                  · refine Wk.iloadN (q := 133) d3_132 rfl rfl ?_
                                    refine Wk.bipush (q := 135) (v := (126 : Int32)) d3_133 rfl rfl ?_
                                    refine Wk.icmp (q := 142) (q' := 138) d3_135 (by decide) rfl rfl (fun (h18 : ¬ (z0 &&& (255 : Int32)) = (126 : Int32)) => ?_) (fun (h18 : (z0 &&& (255 : Int32)) = (126 : Int32)) => ?_)
                                    · refine Wk.iconst (q := 143) (v := (0 : Int32)) d3_142 rfl rfl ?_
                                      simp only [Int32.lt_iff_toInt_lt, ← Int32.toInt_inj, Int32.reduceToInt] at h1 h2 h3 h4 h5 h6 h7 h8 h9 h10 h11 h12 h13 h14 h15 h16 h17 h18
                                      exact Wk.retZ rfl rfl d3_143 (by decide) (by decide) ⟨by rw [tab0 (by omega)], rfl⟩
                                    · refine Wk.iconst (q := 139) (v := (1 : Int32)) d3_138 rfl rfl ?_
                                      refine Wk.goto (q := 143) d3_139 (by decide) rfl ?_
                                      simp only [Int32.lt_iff_toInt_lt, ← Int32.toInt_inj, Int32.reduceToInt] at h1 h2 h3 h4 h5 h6 h7 h8 h9 h10 h11 h12 h13 h14 h15 h16 h17 h18
                                      exact Wk.retZ rfl rfl d3_143 (by decide) (by decide) ⟨by rw [tab1 (by omega)], rfl⟩
      · refine Wk.iloadN (q := 41) d3_40 rfl rfl ?_
        refine Wk.bipush (q := 43) (v := (122 : Int32)) d3_41 rfl rfl ?_
        refine Wk.icmp (q := 48) (q' := 46) d3_43 (by decide) rfl rfl (fun (h19 : (122 : Int32) < (z0 &&& (255 : Int32))) => ?_) (fun (h19 : ¬ (122 : Int32) < (z0 &&& (255 : Int32))) => ?_)
        · refine Wk.iloadN (q := 49) d3_48 rfl rfl ?_
          refine Wk.bipush (q := 51) (v := (33 : Int32)) d3_49 rfl rfl ?_
          refine Wk.icmp (q := 138) (q' := 54) d3_51 (by decide) rfl rfl (fun (h20 : (z0 &&& (255 : Int32)) = (33 : Int32)) => ?_) (fun (h20 : ¬ (z0 &&& (255 : Int32)) = (33 : Int32)) => ?_)
          · refine Wk.iconst (q := 139) (v := (1 : Int32)) d3_138 rfl rfl ?_
            refine Wk.goto (q := 143) d3_139 (by decide) rfl ?_
            simp only [Int32.lt_iff_toInt_lt, ← Int32.toInt_inj, Int32.reduceToInt] at h1 h2 h3 h19 h20
            exact Wk.retZ rfl rfl d3_143 (by decide) (by decide) ⟨by rw [tab1 (by omega)], rfl⟩
          · refine Wk.iloadN (q := 55) d3_54 rfl rfl ?_
            refine Wk.bipush (q := 57) (v := (35 : Int32)) d3_55 rfl rfl ?_
            refine Wk.icmp (q := 138) (q' := 60) d3_57 (by decide) rfl rfl (fun (h21 : (z0 &&& (255 : Int32)) = (35 : Int32)) => ?_) (fun (h21 : ¬ (z0 &&& (255 : Int32)) = (35 : Int32)) => ?_)
            · refine Wk.iconst (q := 139) (v := (1 : Int32)) d3_138 rfl rfl ?_
              refine Wk.goto (q := 143) d3_139 (by decide) rfl ?_
              simp only [Int32.lt_iff_toInt_lt, ← Int32.toInt_inj, Int32.reduceToInt] at h1 h2 h3 h19 h20 h21
              exact Wk.retZ rfl rfl d3_143 (by decide) (by decide) ⟨by rw [tab1 (by omega)], rfl⟩
            · refine Wk.iloadN (q := 61) d3_60 rfl rfl ?_
              refine Wk.bipush (q := 63) (v := (36 : Int32)) d3_61 rfl rfl ?_
              refine Wk.icmp (q := 138) (q' := 66) d3_63 (by decide) rfl rfl (fun (h22 : (z0 &&& (255 : Int32)) = (36 : Int32)) => ?_) (fun (h22 : ¬ (z0 &&& (255 : Int32)) = (36 : Int32)) => ?_)
              · refine Wk.iconst (q := 139) (v := (1 : Int32)) d3_138 rfl rfl ?_
                refine Wk.goto (q := 143) d3_139 (by decide) rfl ?_
                simp only [Int32.lt_iff_toInt_lt, ← Int32.toInt_inj, Int32.reduceToInt] at h1 h2 h3 h19 h20 h21 h22
                exact Wk.retZ rfl rfl d3_143 (by decide) (by decide) ⟨by rw [tab1 (by omega)], rfl⟩
              · refine Wk.iloadN (q := 67) d3_66 rfl rfl ?_
                refine Wk.bipush (q := 69) (v := (37 : Int32)) d3_67 rfl rfl ?_
                refine Wk.icmp (q := 138) (q' := 72) d3_69 (by decide) rfl rfl (fun (h23 : (z0 &&& (255 : Int32)) = (37 : Int32)) => ?_) (fun (h23 : ¬ (z0 &&& (255 : Int32)) = (37 : Int32)) => ?_)
                · refine Wk.iconst (q := 139) (v := (1 : Int32)) d3_138 rfl rfl ?_
                  refine Wk.goto (q := 143) d3_139 (by decide) rfl ?_
                  simp only [Int32.lt_iff_toInt_lt, ← Int32.toInt_inj, Int32.reduceToInt] at h1 h2 h3 h19 h20 h21 h22 h23
                  exact Wk.retZ rfl rfl d3_143 (by decide) (by decide) ⟨by rw [tab1 (by omega)], rfl⟩
                · refine Wk.iloadN (q := 73) d3_72 rfl rfl ?_
                  refine Wk.bipush (q := 75) (v := (38 : Int32)) d3_73 rfl rfl ?_
                  refine Wk.icmp (q := 138) (q' := 78) d3_75 (by decide) rfl rfl (fun (h24 : (z0 &&& (255 : Int32)) = (38 : Int32)) => ?_) (fun (h24 : ¬ (z0 &&& (255 : Int32)) = (38 : Int32)) => ?_)
                  · refine Wk.iconst (q := 139) (v := (1 : Int32)) d3_138 rfl rfl ?_
                    refine Wk.goto (q := 143) d3_139 (by decide) rfl ?_
                    simp only [Int32.lt_iff_toInt_lt, ← Int32.toInt_inj, Int32.reduceToInt] at h1 h2 h3 h19 h20 h21 h22 h23 h24
                    exact Wk.retZ rfl rfl d3_143 (by decide) (by decide) ⟨by rw [tab1 (by omega)], rfl⟩
                  · refine Wk.iloadN (q := 79) d3_78 rfl rfl ?_
                    refine Wk.bipush (q := 81) (v := (39 : Int32)) d3_79 rfl rfl ?_
                    refine Wk.icmp (q := 138) (q' := 84) d3_81 (by decide) rfl rfl (fun (h25 : (z0 &&& (255 : Int32)) = (39 : Int32)) => ?_) (fun (h25 : ¬ (z0 &&& (255 : Int32)) = (39 : Int32)) => ?_)
                    · refine Wk.iconst (q := 139) (v := (1 : Int32)) d3_138 rfl rfl ?_
                      refine Wk.goto (q := 143) d3_139 (by decide) rfl ?_
                      simp only [Int32.lt_iff_toInt_lt, ← Int32.toInt_inj, Int32.reduceToInt] at h1 h2 h3 h19 h20 h21 h22 h23 h24 h25
                      exact Wk.retZ rfl rfl d3_143 (by decide) (by decide) ⟨by rw [tab1 (by omega)], rfl⟩
                    · refine Wk.iloadN (q := 85) d3_84 rfl rfl ?_
                      refine Wk.bipush (q := 87) (v := (42 : Int32)) d3_85 rfl rfl ?_
                      refine Wk.icmp (q := 138) (q' := 90) d3_87 (by decide) rfl rfl (fun (h26 : (z0 &&& (255 : Int32)) = (42 : Int32)) => ?_) (fun (h26 : ¬ (z0 &&& (255 : Int32)) = (42 : Int32)) => ?_)
                      · refine Wk.iconst (q := 139) (v := (1 : Int32)) d3_138 rfl rfl ?_
                        refine Wk.goto (q := 143) d3_139 (by decide) rfl ?_
                        simp only [Int32.lt_iff_toInt_lt, ← Int32.toInt_inj, Int32.reduceToInt] at h1 h2 h3 h19 h20 h21 h22 h23 h24 h25 h26
                        exact Wk.retZ rfl rfl d3_143 (by decide) (by decide) ⟨by rw [tab1 (by omega)], rfl⟩
                      · refine Wk.iloadN (q := 91) d3_90 rfl rfl ?_
                        refine Wk.bipush (q := 93) (v := (43 : Int32)) d3_91 rfl rfl ?_
                        refine Wk.icmp (q := 138) (q' := 96) d3_93 (by decide) rfl rfl (fun (h27 : (z0 &&& (255 : Int32)) = (43 : Int32)) => ?_) (fun (h27 : ¬ (z0 &&& (255 : Int32)) = (43 : Int32)) => ?_)
                        · refine Wk.iconst (q := 139) (v := (1 : Int32)) d3_138 rfl rfl ?_
                          refine Wk.goto (q := 143) d3_139 (by decide) rfl ?_
                          simp only [Int32.lt_iff_toInt_lt, ← Int32.toInt_inj, Int32.reduceToInt] at h1 h2 h3 h19 h20 h21 h22 h23 h24 h25 h26 h27
                          exact Wk.retZ rfl rfl d3_143 (by decide) (by decide) ⟨by rw [tab1 (by omega)], rfl⟩
                        · refine Wk.iloadN (q := 97) d3_96 rfl rfl ?_
                          refine Wk.bipush (q := 99) (v := (45 : Int32)) d3_97 rfl rfl ?_
                          refine Wk.icmp (q := 138) (q' := 102) d3_99 (by decide) rfl rfl (fun (h28 : (z0 &&& (255 : Int32)) = (45 : Int32)) => ?_) (fun (h28 : ¬ (z0 &&& (255 : Int32)) = (45 : Int32)) => ?_)
                          · refine Wk.iconst (q := 139) (v := (1 : Int32)) d3_138 rfl rfl ?_
                            refine Wk.goto (q := 143) d3_139 (by decide) rfl ?_
                            simp only [Int32.lt_iff_toInt_lt, ← Int32.toInt_inj, Int32.reduceToInt] at h1 h2 h3 h19 h20 h21 h22 h23 h24 h25 h26 h27 h28
                            exact Wk.retZ rfl rfl d3_143 (by decide) (by decide) ⟨by rw [tab1 (by omega)], rfl⟩
                          · refine Wk.iloadN (q := 103) d3_102 rfl rfl ?_
                            refine Wk.bipush (q := 105) (v := (46 : Int32)) d3_103 rfl rfl ?_
                            refine Wk.icmp (q := 138) (q' := 108) d3_105 (by decide) rfl rfl (fun (h29 : (z0 &&& (255 : Int32)) = (46 : Int32)) => ?_) (fun (h29 : ¬ (z0 &&& (255 : Int32)) = (46 : Int32)) => ?_)
                            · refine Wk.iconst (q := 139) (v := (1 : Int32)) d3_138 rfl rfl ?_
                              refine Wk.goto (q := 143) d3_139 (by decide) rfl ?_
                              simp only [Int32.lt_iff_toInt_lt, ← Int32.toInt_inj, Int32.reduceToInt] at h1 h2 h3 h19 h20 h21 h22 h23 h24 h25 h26 h27 h28 h29
                              exact Wk.retZ rfl rfl d3_143 (by decide) (by decide) ⟨by rw [tab1 (by omega)], rfl⟩
                            · refine Wk.iloadN (q := 109) d3_108 rfl rfl ?_
                              refine Wk.bipush (q := 111) (v := (94 : Int32)) d3_109 rfl rfl ?_
                              refine Wk.icmp (q := 138) (q' := 114) d3_111 (by decide) rfl rfl (fun (h30 : (z0 &&& (255 : Int32)) = (94 : Int32)) => ?_) (fun (h30 : ¬ (z0 &&& (255 : Int32)) = (94 : Int32)) => ?_)
                              · refine Wk.iconst (q := 139) (v := (1 : Int32)) d3_138 rfl rfl ?_
                                refine Wk.goto (q := 143) d3_139 (by decide) rfl ?_
                                simp only [Int32.lt_iff_toInt_lt, ← Int32.toInt_inj, Int32.reduceToInt] at h1 h2 h3 h19 h20 h21 h22 h23 h24 h25 h26 h27 h28 h29 h30
                                exact Wk.retZ rfl rfl d3_143 (by decide) (by decide) ⟨by rw [tab1 (by omega)], rfl⟩
                              · refine Wk.iloadN (q := 115) d3_114 rfl rfl ?_
                                refine Wk.bipush (q := 117) (v := (95 : Int32)) d3_115 rfl rfl ?_
                                refine Wk.icmp (q := 138) (q' := 120) d3_117 (by decide) rfl rfl (fun (h31 : (z0 &&& (255 : Int32)) = (95 : Int32)) => ?_) (fun (h31 : ¬ (z0 &&& (255 : Int32)) = (95 : Int32)) => ?_)
                                · refine Wk.iconst (q := 139) (v := (1 : Int32)) d3_138 rfl rfl ?_
                                  refine Wk.goto (q := 143) d3_139 (by decide) rfl ?_
                                  simp only [Int32.lt_iff_toInt_lt, ← Int32.toInt_inj, Int32.reduceToInt] at h1 h2 h3 h19 h20 h21 h22 h23 h24 h25 h26 h27 h28 h29 h30 h31
                                  exact Wk.retZ rfl rfl d3_143 (by decide) (by decide) ⟨by rw [tab1 (by omega)], rfl⟩
                                · refine Wk.iloadN (q := 121) d3_120 rfl rfl ?_
                                  refine Wk.bipush (q := 123) (v := (96 : Int32)) d3_121 rfl rfl ?_
                                  refine Wk.icmp (q := 138) (q' := 126) d3_123 (by decide) rfl rfl (fun (h32 : (z0 &&& (255 : Int32)) = (96 : Int32)) => ?_) (fun (h32 : ¬ (z0 &&& (255 : Int32)) = (96 : Int32)) => ?_)
                                  · refine Wk.iconst (q := 139) (v := (1 : Int32)) d3_138 rfl rfl ?_
                                    refine Wk.goto (q := 143) d3_139 (by decide) rfl ?_
                                    simp only [Int32.lt_iff_toInt_lt, ← Int32.toInt_inj, Int32.reduceToInt] at h1 h2 h3 h19 h20 h21 h22 h23 h24 h25 h26 h27 h28 h29 h30 h31 h32
                                    exact Wk.retZ rfl rfl d3_143 (by decide) (by decide) ⟨by rw [tab1 (by omega)], rfl⟩
                                  · refine Wk.iloadN (q := 127) d3_126 rfl rfl ?_
                                    refine Wk.bipush (q := 129) (v := (124 : Int32)) d3_127 rfl rfl ?_
                                    refine Wk.icmp (q := 138) (q' := 132) d3_129 (by decide) rfl rfl (fun (h33 : (z0 &&& (255 : Int32)) = (124 : Int32)) => ?_) (fun (h33 : ¬ (z0 &&& (255 : Int32)) = (124 : Int32)) => ?_)
                                    · refine Wk.iconst (q := 139) (v := (1 : Int32)) d3_138 rfl rfl ?_
                                      refine Wk.goto (q := 143) d3_139 (by decide) rfl ?_
                                      simp only [Int32.lt_iff_toInt_lt, ← Int32.toInt_inj, Int32.reduceToInt] at h1 h2 h3 h19 h20 h21 h22 h23 h24 h25 h26 h27 h28 h29 h30 h31 h32 h33
                                      exact Wk.retZ rfl rfl d3_143 (by decide) (by decide) ⟨by rw [tab1 (by omega)], rfl⟩
                                    · refine Wk.iloadN (q := 133) d3_132 rfl rfl ?_
                                      refine Wk.bipush (q := 135) (v := (126 : Int32)) d3_133 rfl rfl ?_
                                      refine Wk.icmp (q := 142) (q' := 138) d3_135 (by decide) rfl rfl (fun (h34 : ¬ (z0 &&& (255 : Int32)) = (126 : Int32)) => ?_) (fun (h34 : (z0 &&& (255 : Int32)) = (126 : Int32)) => ?_)
                                      · refine Wk.iconst (q := 143) (v := (0 : Int32)) d3_142 rfl rfl ?_
                                        simp only [Int32.lt_iff_toInt_lt, ← Int32.toInt_inj, Int32.reduceToInt] at h1 h2 h3 h19 h20 h21 h22 h23 h24 h25 h26 h27 h28 h29 h30 h31 h32 h33 h34
                                        exact Wk.retZ rfl rfl d3_143 (by decide) (by decide) ⟨by rw [tab0 (by omega)], rfl⟩
                                      · refine Wk.iconst (q := 139) (v := (1 : Int32)) d3_138 rfl rfl ?_
                                        refine Wk.goto (q := 143) d3_139 (by decide) rfl ?_
                                        simp only [Int32.lt_iff_toInt_lt, ← Int32.toInt_inj, Int32.reduceToInt] at h1 h2 h3 h19 h20 h21 h22 h23 h24 h25 h26 h27 h28 h29 h30 h31 h32 h33 h34
                                        exact Wk.retZ rfl rfl d3_143 (by decide) (by decide) ⟨by rw [tab1 (by omega)], rfl⟩
        · refine Wk.iconst (q := 47) (v := (1 : Int32)) d3_46 rfl rfl ?_
          simp only [Int32.lt_iff_toInt_lt, ← Int32.toInt_inj, Int32.reduceToInt] at h1 h2 h3 h19
          exact Wk.retZ rfl rfl d3_47 (by decide) (by decide) ⟨by rw [tab1 (by omega)], rfl⟩
    · refine Wk.iloadN (q := 27) d3_26 rfl rfl ?_
      refine Wk.bipush (q := 29) (v := (90 : Int32)) d3_27 rfl rfl ?_
      refine Wk.icmp (q := 34) (q' := 32) d3_29 (by decide) rfl rfl (fun (h35 : (90 : Int32) < (z0 &&& (255 : Int32))) => ?_) (fun (h35 : ¬ (90 : Int32) < (z0 &&& (255 : Int32))) => ?_)
      · refine Wk.iloadN (q := 35) d3_34 rfl rfl ?_
        refine Wk.bipush (q := 37) (v := (97 : Int32)) d3_35 rfl rfl ?_
        refine Wk.icmp (q := 48) (q' := 40) d3_37 (by decide) rfl rfl (fun (h36 : (z0 &&& (255 : Int32)) < (97 : Int32)) => ?_) (fun (h36 : ¬ (z0 &&& (255 : Int32)) < (97 : Int32)) => ?_)
        · refine Wk.iloadN (q := 49) d3_48 rfl rfl ?_
          refine Wk.bipush (q := 51) (v := (33 : Int32)) d3_49 rfl rfl ?_
          refine Wk.icmp (q := 138) (q' := 54) d3_51 (by decide) rfl rfl (fun (h37 : (z0 &&& (255 : Int32)) = (33 : Int32)) => ?_) (fun (h37 : ¬ (z0 &&& (255 : Int32)) = (33 : Int32)) => ?_)
          · refine Wk.iconst (q := 139) (v := (1 : Int32)) d3_138 rfl rfl ?_
            refine Wk.goto (q := 143) d3_139 (by decide) rfl ?_
            simp only [Int32.lt_iff_toInt_lt, ← Int32.toInt_inj, Int32.reduceToInt] at h1 h2 h35 h36 h37
            exact Wk.retZ rfl rfl d3_143 (by decide) (by decide) ⟨by rw [tab1 (by omega)], rfl⟩
          · refine Wk.iloadN (q := 55) d3_54 rfl rfl ?_
            refine Wk.bipush (q := 57) (v := (35 : Int32)) d3_55 rfl rfl ?_
            refine Wk.icmp (q := 138) (q' := 60) d3_57 (by decide) rfl rfl (fun (h38 : (z0 &&& (255 : Int32)) = (35 : Int32)) => ?_) (fun (h38 : ¬ (z0 &&& (255 : Int32)) = (35 : Int32)) => ?_)
            · refine Wk.iconst (q := 139) (v := (1 : Int32)) d3_138 rfl rfl ?_
              refine Wk.goto (q := 143) d3_139 (by decide) rfl ?_
              simp only [Int32.lt_iff_toInt_lt, ← Int32.toInt_inj, Int32.reduceToInt] at h1 h2 h35 h36 h37 h38
              exact Wk.retZ rfl rfl d3_143 (by decide) (by decide) ⟨by rw [tab1 (by omega)], rfl⟩
            · refine Wk.iloadN (q := 61) d3_60 rfl rfl ?_
              refine Wk.bipush (q := 63) (v := (36 : Int32)) d3_61 rfl rfl ?_
              refine Wk.icmp (q := 138) (q' := 66) d3_63 (by decide) rfl rfl (fun (h39 : (z0 &&& (255 : Int32)) = (36 : Int32)) => ?_) (fun (h39 : ¬ (z0 &&& (255 : Int32)) = (36 : Int32)) => ?_)
              · refine Wk.iconst (q := 139) (v := (1 : Int32)) d3_138 rfl rfl ?_
                refine Wk.goto (q := 143) d3_139 (by decide) rfl ?_
                simp only [Int32.lt_iff_toInt_lt, ← Int32.toInt_inj, Int32.reduceToInt] at h1 h2 h35 h36 h37 h38 h39
                exact Wk.retZ rfl rfl d3_143 (by decide) (by decide) ⟨by rw [tab1 (by omega)], rfl⟩
              · refine Wk.iloadN (q := 67) d3_66 rfl rfl ?_
                refine Wk.bipush (q := 69) (v := (37 : Int32)) d3_67 rfl rfl ?_
                refine Wk.icmp (q := 138) (q' := 72) d3_69 (by decide) rfl rfl (fun (h40 : (z0 &&& (255 : Int32)) = (37 : Int32)) => ?_) (fun (h40 : ¬ (z0 &&& (255 : Int32)) = (37 : Int32)) => ?_)
                · refine Wk.iconst (q := 139) (v := (1 : Int32)) d3_138 rfl rfl ?_
                  refine Wk.goto (q := 143) d3_139 (by decide) rfl ?_
                  simp only [Int32.lt_iff_toInt_lt, ← Int32.toInt_inj, Int32.reduceToInt] at h1 h2 h35 h36 h37 h38 h39 h40
                  exact Wk.retZ rfl rfl d3_143 (by decide) (by decide) ⟨by rw [tab1 (by omega)], rfl⟩
                · refine Wk.iloadN (q := 73) d3_72 rfl rfl ?_
                  refine Wk.bipush (q := 75) (v := (38 : Int32)) d3_73 rfl rfl ?_
                  refine Wk.icmp (q := 138) (q' := 78) d3_75 (by decide) rfl rfl (fun (h41 : (z0 &&& (255 : Int32)) = (38 : Int32)) => ?_) (fun (h41 : ¬ (z0 &&& (255 : Int32)) = (38 : Int32)) => ?_)
                  · refine Wk.iconst (q := 139) (v := (1 : Int32)) d3_138 rfl rfl ?_
                    refine Wk.goto (q := 143) d3_139 (by decide) rfl ?_
                    simp only [Int32.lt_iff_toInt_lt, ← Int32.toInt_inj, Int32.reduceToInt] at h1 h2 h35 h36 h37 h38 h39 h40 h41
                    exact Wk.retZ rfl rfl d3_143 (by decide) (by decide) ⟨by rw [tab1 (by omega)], rfl⟩
                  · refine Wk.iloadN (q := 79) d3_78 rfl rfl ?_
                    refine Wk.bipush (q := 81) (v := (39 : Int32)) d3_79 rfl rfl ?_
                    refine Wk.icmp (q := 138) (q' := 84) d3_81 (by decide) rfl rfl (fun (h42 : (z0 &&& (255 : Int32)) = (39 : Int32)) => ?_) (fun (h42 : ¬ (z0 &&& (255 : Int32)) = (39 : Int32)) => ?_)
                    · refine Wk.iconst (q := 139) (v := (1 : Int32)) d3_138 rfl rfl ?_
                      refine Wk.goto (q := 143) d3_139 (by decide) rfl ?_
                      simp only [Int32.lt_iff_toInt_lt, ← Int32.toInt_inj, Int32.reduceToInt] at h1 h2 h35 h36 h37 h38 h39 h40 h41 h42
                      exact Wk.retZ rfl rfl d3_143 (by decide) (by decide) ⟨by rw [tab1 (by omega)], rfl⟩
                    · refine Wk.iloadN (q := 85) d3_84 rfl rfl ?_
                      refine Wk.bipush (q := 87) (v := (42 : Int32)) d3_85 rfl rfl ?_
                      refine Wk.icmp (q := 138) (q' := 90) d3_87 (by decide) rfl rfl (fun (h43 : (z0 &&& (255 : Int32)) = (42 : Int32)) => ?_) (fun (h43 : ¬ (z0 &&& (255 : Int32)) = (42 : Int32)) => ?_)
                      · refine Wk.iconst (q := 139) (v := (1 : Int32)) d3_138 rfl rfl ?_
                        refine Wk.goto (q := 143) d3_139 (by decide) rfl ?_
                        simp only [Int32.lt_iff_toInt_lt, ← Int32.toInt_inj, Int32.reduceToInt] at h1 h2 h35 h36 h37 h38 h39 h40 h41 h42 h43
                        exact Wk.retZ rfl rfl d3_143 (by decide) (by decide) ⟨by rw [tab1 (by omega)], rfl⟩
                      · refine Wk.iloadN (q := 91) d3_90 rfl rfl ?_
                        refine Wk.bipush (q := 93) (v := (43 : Int32)) d3_91 rfl rfl ?_
                        refine Wk.icmp (q := 138) (q' := 96) d3_93 (by decide) rfl rfl (fun (h44 : (z0 &&& (255 : Int32)) = (43 : Int32)) => ?_) (fun (h44 : ¬ (z0 &&& (255 : Int32)) = (43 : Int32)) => ?_)
                        · refine Wk.iconst (q := 139) (v := (1 : Int32)) d3_138 rfl rfl ?_
                          refine Wk.goto (q := 143) d3_139 (by decide) rfl ?_
                          simp only [Int32.lt_iff_toInt_lt, ← Int32.toInt_inj, Int32.reduceToInt] at h1 h2 h35 h36 h37 h38 h39 h40 h41 h42 h43 h44
                          exact Wk.retZ rfl rfl d3_143 (by decide) (by decide) ⟨by rw [tab1 (by omega)], rfl⟩
                        · refine Wk.iloadN (q := 97) d3_96 rfl rfl ?_
                          refine Wk.bipush (q := 99) (v := (45 : Int32)) d3_97 rfl rfl ?_
                          refine Wk.icmp (q := 138) (q' := 102) d3_99 (by decide) rfl rfl (fun (h45 : (z0 &&& (255 : Int32)) = (45 : Int32)) => ?_) (fun (h45 : ¬ (z0 &&& (255 : Int32)) = (45 : Int32)) => ?_)
                          · refine Wk.iconst (q := 139) (v := (1 : Int32)) d3_138 rfl rfl ?_
                            refine Wk.goto (q := 143) d3_139 (by decide) rfl ?_
                            simp only [Int32.lt_iff_toInt_lt, ← Int32.toInt_inj, Int32.reduceToInt] at h1 h2 h35 h36 h37 h38 h39 h40 h41 h42 h43 h44 h45
                            exact Wk.retZ rfl rfl d3_143 (by decide) (by decide) ⟨by rw [tab1 (by omega)], rfl⟩
                          · refine Wk.iloadN (q := 103) d3_102 rfl rfl ?_
                            refine Wk.bipush (q := 105) (v := (46 : Int32)) d3_103 rfl rfl ?_
                            refine Wk.icmp (q := 138) (q' := 108) d3_105 (by decide) rfl rfl (fun (h46 : (z0 &&& (255 : Int32)) = (46 : Int32)) => ?_) (fun (h46 : ¬ (z0 &&& (255 : Int32)) = (46 : Int32)) => ?_)
                            · refine Wk.iconst (q := 139) (v := (1 : Int32)) d3_138 rfl rfl ?_
                              refine Wk.goto (q := 143) d3_139 (by decide) rfl ?_
                              simp only [Int32.lt_iff_toInt_lt, ← Int32.toInt_inj, Int32.reduceToInt] at h1 h2 h35 h36 h37 h38 h39 h40 h41 h42 h43 h44 h45 h46
                              exact Wk.retZ rfl rfl d3_143 (by decide) (by decide) ⟨by rw [tab1 (by omega)], rfl⟩
                            · refine Wk.iloadN (q := 109) d3_108 rfl rfl ?_
                              refine Wk.bipush (q := 111) (v := (94 : Int32)) d3_109 rfl rfl ?_
                              refine Wk.icmp (q := 138) (q' := 114) d3_111 (by decide) rfl rfl (fun (h47 : (z0 &&& (255 : Int32)) = (94 : Int32)) => ?_) (fun (h47 : ¬ (z0 &&& (255 : Int32)) = (94 : Int32)) => ?_)
                              · refine Wk.iconst (q := 139) (v := (1 : Int32)) d3_138 rfl rfl ?_
                                refine Wk.goto (q := 143) d3_139 (by decide) rfl ?_
                                simp only [Int32.lt_iff_toInt_lt, ← Int32.toInt_inj, Int32.reduceToInt] at h1 h2 h35 h36 h37 h38 h39 h40 h41 h42 h43 h44 h45 h46 h47
                                exact Wk.retZ rfl rfl d3_143 (by decide) (by decide) ⟨by rw [tab1 (by omega)], rfl⟩
                              · refine Wk.iloadN (q := 115) d3_114 rfl rfl ?_
                                refine Wk.bipush (q := 117) (v := (95 : Int32)) d3_115 rfl rfl ?_
                                refine Wk.icmp (q := 138) (q' := 120) d3_117 (by decide) rfl rfl (fun (h48 : (z0 &&& (255 : Int32)) = (95 : Int32)) => ?_) (fun (h48 : ¬ (z0 &&& (255 : Int32)) = (95 : Int32)) => ?_)
                                · refine Wk.iconst (q := 139) (v := (1 : Int32)) d3_138 rfl rfl ?_
                                  refine Wk.goto (q := 143) d3_139 (by decide) rfl ?_
                                  simp only [Int32.lt_iff_toInt_lt, ← Int32.toInt_inj, Int32.reduceToInt] at h1 h2 h35 h36 h37 h38 h39 h40 h41 h42 h43 h44 h45 h46 h47 h48
                                  exact Wk.retZ rfl rfl d3_143 (by decide) (by decide) ⟨by rw [tab1 (by omega)], rfl⟩
                                · refine Wk.iloadN (q := 121) d3_120 rfl rfl ?_
                                  refine Wk.bipush (q := 123) (v := (96 : Int32)) d3_121 rfl rfl ?_
                                  refine Wk.icmp (q := 138) (q' := 126) d3_123 (by decide) rfl rfl (fun (h49 : (z0 &&& (255 : Int32)) = (96 : Int32)) => ?_) (fun (h49 : ¬ (z0 &&& (255 : Int32)) = (96 : Int32)) => ?_)
                                  · refine Wk.iconst (q := 139) (v := (1 : Int32)) d3_138 rfl rfl ?_
                                    refine Wk.goto (q := 143) d3_139 (by decide) rfl ?_
                                    simp only [Int32.lt_iff_toInt_lt, ← Int32.toInt_inj, Int32.reduceToInt] at h1 h2 h35 h36 h37 h38 h39 h40 h41 h42 h43 h44 h45 h46 h47 h48 h49
                                    exact Wk.retZ rfl rfl d3_143 (by decide) (by decide) ⟨by rw [tab1 (by omega)], rfl⟩
                                  · refine Wk.iloadN (q := 127) d3_126 rfl rfl ?_
                                    refine Wk.bipush (q := 129) (v := (124 : Int32)) d3_127 rfl rfl ?_
                                    refine Wk.icmp (q := 138) (q' := 132) d3_129 (by decide) rfl rfl (fun (h50 : (z0 &&& (255 : Int32)) = (124 : Int32)) => ?_) (fun (h50 : ¬ (z0 &&& (255 : Int32)) = (124 : Int32)) => ?_)
                                    · refine Wk.iconst (q := 139) (v := (1 : Int32)) d3_138 rfl rfl ?_
                                      refine Wk.goto (q := 143) d3_139 (by decide) rfl ?_
                                      simp only [Int32.lt_iff_toInt_lt, ← Int32.toInt_inj, Int32.reduceToInt] at h1 h2 h35 h36 h37 h38 h39 h40 h41 h42 h43 h44 h45 h46 h47 h48 h49 h50
                                      exact Wk.retZ rfl rfl d3_143 (by decide) (by decide) ⟨by rw [tab1 (by omega)], rfl⟩
                                    · refine Wk.iloadN (q := 133) d3_132 rfl rfl ?_
                                      refine Wk.bipush (q := 135) (v := (126 : Int32)) d3_133 rfl rfl ?_
                                      refine Wk.icmp (q := 142) (q' := 138) d3_135 (by decide) rfl rfl (fun (h51 : ¬ (z0 &&& (255 : Int32)) = (126 : Int32)) => ?_) (fun (h51 : (z0 &&& (255 : Int32)) = (126 : Int32)) => ?_)
                                      · refine Wk.iconst (q := 143) (v := (0 : Int32)) d3_142 rfl rfl ?_
                                        simp only [Int32.lt_iff_toInt_lt, ← Int32.toInt_inj, Int32.reduceToInt] at h1 h2 h35 h36 h37 h38 h39 h40 h41 h42 h43 h44 h45 h46 h47 h48 h49 h50 h51
                                        exact Wk.retZ rfl rfl d3_143 (by decide) (by decide) ⟨by rw [tab0 (by omega)], rfl⟩
                                      · refine Wk.iconst (q := 139) (v := (1 : Int32)) d3_138 rfl rfl ?_
                                        refine Wk.goto (q := 143) d3_139 (by decide) rfl ?_
                                        simp only [Int32.lt_iff_toInt_lt, ← Int32.toInt_inj, Int32.reduceToInt] at h1 h2 h35 h36 h37 h38 h39 h40 h41 h42 h43 h44 h45 h46 h47 h48 h49 h50 h51
                                        exact Wk.retZ rfl rfl d3_143 (by decide) (by decide) ⟨by rw [tab1 (by omega)], rfl⟩
        · refine Wk.iloadN (q := 41) d3_40 rfl rfl ?_
          refine Wk.bipush (q := 43) (v := (122 : Int32)) d3_41 rfl rfl ?_
          refine Wk.icmp (q := 48) (q' := 46) d3_43 (by decide) rfl rfl (fun (h52 : (122 : Int32) < (z0 &&& (255 : Int32))) => ?_) (fun (h52 : ¬ (122 : Int32) < (z0 &&& (255 : Int32))) => ?_)
          · refine Wk.iloadN (q := 49) d3_48 rfl rfl ?_
            refine Wk.bipush (q := 51) (v := (33 : Int32)) d3_49 rfl rfl ?_
            refine Wk.icmp (q := 138) (q' := 54) d3_51 (by decide) rfl rfl (fun (h53 : (z0 &&& (255 : Int32)) = (33 : Int32)) => ?_) (fun (h53 : ¬ (z0 &&& (255 : Int32)) = (33 : Int32)) => ?_)
            · refine Wk.iconst (q := 139) (v := (1 : Int32)) d3_138 rfl rfl ?_
              refine Wk.goto (q := 143) d3_139 (by decide) rfl ?_
              simp only [Int32.lt_iff_toInt_lt, ← Int32.toInt_inj, Int32.reduceToInt] at h1 h2 h35 h36 h52 h53
              exact Wk.retZ rfl rfl d3_143 (by decide) (by decide) ⟨by rw [tab1 (by omega)], rfl⟩
            · refine Wk.iloadN (q := 55) d3_54 rfl rfl ?_
              refine Wk.bipush (q := 57) (v := (35 : Int32)) d3_55 rfl rfl ?_
              refine Wk.icmp (q := 138) (q' := 60) d3_57 (by decide) rfl rfl (fun (h54 : (z0 &&& (255 : Int32)) = (35 : Int32)) => ?_) (fun (h54 : ¬ (z0 &&& (255 : Int32)) = (35 : Int32)) => ?_)
              · refine Wk.iconst (q := 139) (v := (1 : Int32)) d3_138 rfl rfl ?_
                refine Wk.goto (q := 143) d3_139 (by decide) rfl ?_
                simp only [Int32.lt_iff_toInt_lt, ← Int32.toInt_inj, Int32.reduceToInt] at h1 h2 h35 h36 h52 h53 h54
                exact Wk.retZ rfl rfl d3_143 (by decide) (by decide) ⟨by rw [tab1 (by omega)], rfl⟩
              · refine Wk.iloadN (q := 61) d3_60 rfl rfl ?_
                refine Wk.bipush (q := 63) (v := (36 : Int32)) d3_61 rfl rfl ?_
                refine Wk.icmp (q := 138) (q' := 66) d3_63 (by decide) rfl rfl (fun (h55 : (z0 &&& (255 : Int32)) = (36 : Int32)) => ?_) (fun (h55 : ¬ (z0 &&& (255 : Int32)) = (36 : Int32)) => ?_)
                · refine Wk.iconst (q := 139) (v := (1 : Int32)) d3_138 rfl rfl ?_
                  refine Wk.goto (q := 143) d3_139 (by decide) rfl ?_
                  simp only [Int32.lt_iff_toInt_lt, ← Int32.toInt_inj, Int32.reduceToInt] at h1 h2 h35 h36 h52 h53 h54 h55
                  exact Wk.retZ rfl rfl d3_143 (by decide) (by decide) ⟨by rw [tab1 (by omega)], rfl⟩
                · refine Wk.iloadN (q := 67) d3_66 rfl rfl ?_
                  refine Wk.bipush (q := 69) (v := (37 : Int32)) d3_67 rfl rfl ?_
                  refine Wk.icmp (q := 138) (q' := 72) d3_69 (by decide) rfl rfl (fun (h56 : (z0 &&& (255 : Int32)) = (37 : Int32)) => ?_) (fun (h56 : ¬ (z0 &&& (255 : Int32)) = (37 : Int32)) => ?_)
                  · refine Wk.iconst (q := 139) (v := (1 : Int32)) d3_138 rfl rfl ?_
                    refine Wk.goto (q := 143) d3_139 (by decide) rfl ?_
                    simp only [Int32.lt_iff_toInt_lt, ← Int32.toInt_inj, Int32.reduceToInt] at h1 h2 h35 h36 h52 h53 h54 h55 h56
                    exact Wk.retZ rfl rfl d3_143 (by decide) (by decide) ⟨by rw [tab1 (by omega)], rfl⟩
                  · refine Wk.iloadN (q := 73) d3_72 rfl rfl ?_
                    refine Wk.bipush (q := 75) (v := (38 : Int32)) d3_73 rfl rfl ?_
                    refine Wk.icmp (q := 138) (q' := 78) d3_75 (by decide) rfl rfl (fun (h57 : (z0 &&& (255 : Int32)) = (38 : Int32)) => ?_) (fun (h57 : ¬ (z0 &&& (255 : Int32)) = (38 : Int32)) => ?_)
                    · refine Wk.iconst (q := 139) (v := (1 : Int32)) d3_138 rfl rfl ?_
                      refine Wk.goto (q := 143) d3_139 (by decide) rfl ?_
                      simp only [Int32.lt_iff_toInt_lt, ← Int32.toInt_inj, Int32.reduceToInt] at h1 h2 h35 h36 h52 h53 h54 h55 h56 h57
                      exact Wk.retZ rfl rfl d3_143 (by decide) (by decide) ⟨by rw [tab1 (by omega)], rfl⟩
                    · refine Wk.iloadN (q := 79) d3_78 rfl rfl ?_
                      refine Wk.bipush (q := 81) (v := (39 : Int32)) d3_79 rfl rfl ?_
                      refine Wk.icmp (q := 138) (q' := 84) d3_81 (by decide) rfl rfl (fun (h58 : (z0 &&& (255 : Int32)) = (39 : Int32)) => ?_) (fun (h58 : ¬ (z0 &&& (255 : Int32)) = (39 : Int32)) => ?_)
                      · refine Wk.iconst (q := 139) (v := (1 : Int32)) d3_138 rfl rfl ?_
                        refine Wk.goto (q := 143) d3_139 (by decide) rfl ?_
                        simp only [Int32.lt_iff_toInt_lt, ← Int32.toInt_inj, Int32.reduceToInt] at h1 h2 h35 h36 h52 h53 h54 h55 h56 h57 h58
                        exact Wk.retZ rfl rfl d3_143 (by decide) (by decide) ⟨by rw [tab1 (by omega)], rfl⟩
                      · refine Wk.iloadN (q := 85) d3_84 rfl rfl ?_
                        refine Wk.bipush (q := 87) (v := (42 : Int32)) d3_85 rfl rfl ?_
                        refine Wk.icmp (q := 138) (q' := 90) d3_87 (by decide) rfl rfl (fun (h59 : (z0 &&& (255 : Int32)) = (42 : Int32)) => ?_) (fun (h59 : ¬ (z0 &&& (255 : Int32)) = (42 : Int32)) => ?_)
                        · refine Wk.iconst (q := 139) (v := (1 : Int32)) d3_138 rfl rfl ?_
                          refine Wk.goto (q := 143) d3_139 (by decide) rfl ?_
                          simp only [Int32.lt_iff_toInt_lt, ← Int32.toInt_inj, Int32.reduceToInt] at h1 h2 h35 h36 h52 h53 h54 h55 h56 h57 h58 h59
                          exact Wk.retZ rfl rfl d3_143 (by decide) (by decide) ⟨by rw [tab1 (by omega)], rfl⟩
                        · refine Wk.iloadN (q := 91) d3_90 rfl rfl ?_
                          refine Wk.bipush (q := 93) (v := (43 : Int32)) d3_91 rfl rfl ?_
                          refine Wk.icmp (q := 138) (q' := 96) d3_93 (by decide) rfl rfl (fun (h60 : (z0 &&& (255 : Int32)) = (43 : Int32)) => ?_) (fun (h60 : ¬ (z0 &&& (255 : Int32)) = (43 : Int32)) => ?_)
                          · refine Wk.iconst (q := 139) (v := (1 : Int32)) d3_138 rfl rfl ?_
                            refine Wk.goto (q := 143) d3_139 (by decide) rfl ?_
                            simp only [Int32.lt_iff_toInt_lt, ← Int32.toInt_inj, Int32.reduceToInt] at h1 h2 h35 h36 h52 h53 h54 h55 h56 h57 h58 h59 h60
                            exact Wk.retZ rfl rfl d3_143 (by decide) (by decide) ⟨by rw [tab1 (by omega)], rfl⟩
                          · refine Wk.iloadN (q := 97) d3_96 rfl rfl ?_
                            refine Wk.bipush (q := 99) (v := (45 : Int32)) d3_97 rfl rfl ?_
                            refine Wk.icmp (q := 138) (q' := 102) d3_99 (by decide) rfl rfl (fun (h61 : (z0 &&& (255 : Int32)) = (45 : Int32)) => ?_) (fun (h61 : ¬ (z0 &&& (255 : Int32)) = (45 : Int32)) => ?_)
                            · refine Wk.iconst (q := 139) (v := (1 : Int32)) d3_138 rfl rfl ?_
                              refine Wk.goto (q := 143) d3_139 (by decide) rfl ?_
                              simp only [Int32.lt_iff_toInt_lt, ← Int32.toInt_inj, Int32.reduceToInt] at h1 h2 h35 h36 h52 h53 h54 h55 h56 h57 h58 h59 h60 h61
                              exact Wk.retZ rfl rfl d3_143 (by decide) (by decide) ⟨by rw [tab1 (by omega)], rfl⟩
                            · refine Wk.iloadN (q := 103) d3_102 rfl rfl ?_
                              refine Wk.bipush (q := 105) (v := (46 : Int32)) d3_103 rfl rfl ?_
                              refine Wk.icmp (q := 138) (q' := 108) d3_105 (by decide) rfl rfl (fun (h62 : (z0 &&& (255 : Int32)) = (46 : Int32)) => ?_) (fun (h62 : ¬ (z0 &&& (255 : Int32)) = (46 : Int32)) => ?_)
                              · refine Wk.iconst (q := 139) (v := (1 : Int32)) d3_138 rfl rfl ?_
                                refine Wk.goto (q := 143) d3_139 (by decide) rfl ?_
                                simp only [Int32.lt_iff_toInt_lt, ← Int32.toInt_inj, Int32.reduceToInt] at h1 h2 h35 h36 h52 h53 h54 h55 h56 h57 h58 h59 h60 h61 h62
                                exact Wk.retZ rfl rfl d3_143 (by decide) (by decide) ⟨by rw [tab1 (by omega)], rfl⟩
                              · refine Wk.iloadN (q := 109) d3_108 rfl rfl ?_
                                refine Wk.bipush (q := 111) (v := (94 : Int32)) d3_109 rfl rfl ?_
                                refine Wk.icmp (q := 138) (q' := 114) d3_111 (by decide) rfl rfl (fun (h63 : (z0 &&& (255 : Int32)) = (94 : Int32)) => ?_) (fun (h63 : ¬ (z0 &&& (255 : Int32)) = (94 : Int32)) => ?_)
                                · refine Wk.iconst (q := 139) (v := (1 : Int32)) d3_138 rfl rfl ?_
                                  refine Wk.goto (q := 143) d3_139 (by decide) rfl ?_
                                  simp only [Int32.lt_iff_toInt_lt, ← Int32.toInt_inj, Int32.reduceToInt] at h1 h2 h35 h36 h52 h53 h54 h55 h56 h57 h58 h59 h60 h61 h62 h63
                                  exact Wk.retZ rfl rfl d3_143 (by decide) (by decide) ⟨by rw [tab1 (by omega)], rfl⟩
                                · refine Wk.iloadN (q := 115) d3_114 rfl rfl ?_
                                  refine Wk.bipush (q := 117) (v := (95 : Int32)) d3_115 rfl rfl ?_
                                  refine Wk.icmp (q := 138) (q' := 120) d3_117 (by decide) rfl rfl (fun (h64 : (z0 &&& (255 : Int32)) = (95 : Int32)) => ?_) (fun (h64 : ¬ (z0 &&& (255 : Int32)) = (95 : Int32)) => ?_)
                                  · refine Wk.iconst (q := 139) (v := (1 : Int32)) d3_138 rfl rfl ?_
                                    refine Wk.goto (q := 143) d3_139 (by decide) rfl ?_
                                    simp only [Int32.lt_iff_toInt_lt, ← Int32.toInt_inj, Int32.reduceToInt] at h1 h2 h35 h36 h52 h53 h54 h55 h56 h57 h58 h59 h60 h61 h62 h63 h64
                                    exact Wk.retZ rfl rfl d3_143 (by decide) (by decide) ⟨by rw [tab1 (by omega)], rfl⟩
                                  · refine Wk.iloadN (q := 121) d3_120 rfl rfl ?_
                                    refine Wk.bipush (q := 123) (v := (96 : Int32)) d3_121 rfl rfl ?_
                                    refine Wk.icmp (q := 138) (q' := 126) d3_123 (by decide) rfl rfl (fun (h65 : (z0 &&& (255 : Int32)) = (96 : Int32)) => ?_) (fun (h65 : ¬ (z0 &&& (255 : Int32)) = (96 : Int32)) => ?_)
                                    · refine Wk.iconst (q := 139) (v := (1 : Int32)) d3_138 rfl rfl ?_
                                      refine Wk.goto (q := 143) d3_139 (by decide) rfl ?_
                                      simp only [Int32.lt_iff_toInt_lt, ← Int32.toInt_inj, Int32.reduceToInt] at h1 h2 h35 h36 h52 h53 h54 h55 h56 h57 h58 h59 h60 h61 h62 h63 h64 h65
                                      exact Wk.retZ rfl rfl d3_143 (by decide) (by decide) ⟨by rw [tab1 (by omega)], rfl⟩
                                    · refine Wk.iloadN (q := 127) d3_126 rfl rfl ?_
                                      refine Wk.bipush (q := 129) (v := (124 : Int32)) d3_127 rfl rfl ?_
                                      refine Wk.icmp (q := 138) (q' := 132) d3_129 (by decide) rfl rfl (fun (h66 : (z0 &&& (255 : Int32)) = (124 : Int32)) => ?_) (fun (h66 : ¬ (z0 &&& (255 : Int32)) = (124 : Int32)) => ?_)
                                      · refine Wk.iconst (q := 139) (v := (1 : Int32)) d3_138 rfl rfl ?_
                                        refine Wk.goto (q := 143) d3_139 (by decide) rfl ?_
                                        simp only [Int32.lt_iff_toInt_lt, ← Int32.toInt_inj, Int32.reduceToInt] at h1 h2 h35 h36 h52 h53 h54 h55 h56 h57 h58 h59 h60 h61 h62 h63 h64 h65 h66
                                        exact Wk.retZ rfl rfl d3_143 (by decide) (by decide) ⟨by rw [tab1 (by omega)], rfl⟩
                                      · refine Wk.iloadN (q := 133) d3_132 rfl rfl ?_
                                        refine Wk.bipush (q := 135) (v := (126 : Int32)) d3_133 rfl rfl ?_
                                        refine Wk.icmp (q := 142) (q' := 138) d3_135 (by decide) rfl rfl (fun (h67 : ¬ (z0 &&& (255 : Int32)) = (126 : Int32)) => ?_) (fun (h67 : (z0 &&& (255 : Int32)) = (126 : Int32)) => ?_)
                                        · refine Wk.iconst (q := 143) (v := (0 : Int32)) d3_142 rfl rfl ?_
                                          simp only [Int32.lt_iff_toInt_lt, ← Int32.toInt_inj, Int32.reduceToInt] at h1 h2 h35 h36 h52 h53 h54 h55 h56 h57 h58 h59 h60 h61 h62 h63 h64 h65 h66 h67
                                          exact Wk.retZ rfl rfl d3_143 (by decide) (by decide) ⟨by rw [tab0 (by omega)], rfl⟩
                                        · refine Wk.iconst (q := 139) (v := (1 : Int32)) d3_138 rfl rfl ?_
                                          refine Wk.goto (q := 143) d3_139 (by decide) rfl ?_
                                          simp only [Int32.lt_iff_toInt_lt, ← Int32.toInt_inj, Int32.reduceToInt] at h1 h2 h35 h36 h52 h53 h54 h55 h56 h57 h58 h59 h60 h61 h62 h63 h64 h65 h66 h67
                                          exact Wk.retZ rfl rfl d3_143 (by decide) (by decide) ⟨by rw [tab1 (by omega)], rfl⟩
          · refine Wk.iconst (q := 47) (v := (1 : Int32)) d3_46 rfl rfl ?_
            simp only [Int32.lt_iff_toInt_lt, ← Int32.toInt_inj, Int32.reduceToInt] at h1 h2 h35 h36 h52
            exact Wk.retZ rfl rfl d3_47 (by decide) (by decide) ⟨by rw [tab1 (by omega)], rfl⟩
      · refine Wk.iconst (q := 33) (v := (1 : Int32)) d3_32 rfl rfl ?_
        simp only [Int32.lt_iff_toInt_lt, ← Int32.toInt_inj, Int32.reduceToInt] at h1 h2 h35
        exact Wk.retZ rfl rfl d3_33 (by decide) (by decide) ⟨by rw [tab1 (by omega)], rfl⟩
  · refine Wk.iloadN (q := 13) d3_12 rfl rfl ?_
    refine Wk.bipush (q := 15) (v := (57 : Int32)) d3_13 rfl rfl ?_
    refine Wk.icmp (q := 20) (q' := 18) d3_15 (by decide) rfl rfl (fun (h68 : (57 : Int32) < (z0 &&& (255 : Int32))) => ?_) (fun (h68 : ¬ (57 : Int32) < (z0 &&& (255 : Int32))) => ?_)
    · refine Wk.iloadN (q := 21) d3_20 rfl rfl ?_
      refine Wk.bipush (q := 23) (v := (65 : Int32)) d3_21 rfl rfl ?_
      refine Wk.icmp (q := 34) (q' := 26) d3_23 (by decide) rfl rfl (fun (h69 : (z0 &&& (255 : Int32)) < (65 : Int32)) => ?_) (fun (h69 : ¬ (z0 &&& (255 : Int32)) < (65 : Int32)) => ?_)
      · refine Wk.iloadN (q := 35) d3_34 rfl rfl ?_
        refine Wk.bipush (q := 37) (v := (97 : Int32)) d3_35 rfl rfl ?_
        refine Wk.icmp (q := 48) (q' := 40) d3_37 (by decide) rfl rfl (fun (h70 : (z0 &&& (255 : Int32)) < (97 : Int32)) => ?_) (fun (h70 : ¬ (z0 &&& (255 : Int32)) < (97 : Int32)) => ?_)
        · refine Wk.iloadN (q := 49) d3_48 rfl rfl ?_
          refine Wk.bipush (q := 51) (v := (33 : Int32)) d3_49 rfl rfl ?_
          refine Wk.icmp (q := 138) (q' := 54) d3_51 (by decide) rfl rfl (fun (h71 : (z0 &&& (255 : Int32)) = (33 : Int32)) => ?_) (fun (h71 : ¬ (z0 &&& (255 : Int32)) = (33 : Int32)) => ?_)
          · refine Wk.iconst (q := 139) (v := (1 : Int32)) d3_138 rfl rfl ?_
            refine Wk.goto (q := 143) d3_139 (by decide) rfl ?_
            simp only [Int32.lt_iff_toInt_lt, ← Int32.toInt_inj, Int32.reduceToInt] at h1 h68 h69 h70 h71
            exact Wk.retZ rfl rfl d3_143 (by decide) (by decide) ⟨by rw [tab1 (by omega)], rfl⟩
          · refine Wk.iloadN (q := 55) d3_54 rfl rfl ?_
            refine Wk.bipush (q := 57) (v := (35 : Int32)) d3_55 rfl rfl ?_
            refine Wk.icmp (q := 138) (q' := 60) d3_57 (by decide) rfl rfl (fun (h72 : (z0 &&& (255 : Int32)) = (35 : Int32)) => ?_) (fun (h72 : ¬ (z0 &&& (255 : Int32)) = (35 : Int32)) => ?_)
            · refine Wk.iconst (q := 139) (v := (1 : Int32)) d3_138 rfl rfl ?_
              refine Wk.goto (q := 143) d3_139 (by decide) rfl ?_
              simp only [Int32.lt_iff_toInt_lt, ← Int32.toInt_inj, Int32.reduceToInt] at h1 h68 h69 h70 h71 h72
              exact Wk.retZ rfl rfl d3_143 (by decide) (by decide) ⟨by rw [tab1 (by omega)], rfl⟩
            · refine Wk.iloadN (q := 61) d3_60 rfl rfl ?_
              refine Wk.bipush (q := 63) (v := (36 : Int32)) d3_61 rfl rfl ?_
              refine Wk.icmp (q := 138) (q' := 66) d3_63 (by decide) rfl rfl (fun (h73 : (z0 &&& (255 : Int32)) = (36 : Int32)) => ?_) (fun (h73 : ¬ (z0 &&& (255 : Int32)) = (36 : Int32)) => ?_)
              · refine Wk.iconst (q := 139) (v := (1 : Int32)) d3_138 rfl rfl ?_
                refine Wk.goto (q := 143) d3_139 (by decide) rfl ?_
                simp only [Int32.lt_iff_toInt_lt, ← Int32.toInt_inj, Int32.reduceToInt] at h1 h68 h69 h70 h71 h72 h73
                exact Wk.retZ rfl rfl d3_143 (by decide) (by decide) ⟨by rw [tab1 (by omega)], rfl⟩
              · refine Wk.iloadN (q := 67) d3_66 rfl rfl ?_
                refine Wk.bipush (q := 69) (v := (37 : Int32)) d3_67 rfl rfl ?_
                refine Wk.icmp (q := 138) (q' := 72) d3_69 (by decide) rfl rfl (fun (h74 : (z0 &&& (255 : Int32)) = (37 : Int32)) => ?_) (fun (h74 : ¬ (z0 &&& (255 : Int32)) = (37 : Int32)) => ?_)
                · refine Wk.iconst (q := 139) (v := (1 : Int32)) d3_138 rfl rfl ?_
                  refine Wk.goto (q := 143) d3_139 (by decide) rfl ?_
                  simp only [Int32.lt_iff_toInt_lt, ← Int32.toInt_inj, Int32.reduceToInt] at h1 h68 h69 h70 h71 h72 h73 h74
                  exact Wk.retZ rfl rfl d3_143 (by decide) (by decide) ⟨by rw [tab1 (by omega)], rfl⟩
                · refine Wk.iloadN (q := 73) d3_72 rfl rfl ?_
                  refine Wk.bipush (q := 75) (v := (38 : Int32)) d3_73 rfl rfl ?_
                  refine Wk.icmp (q := 138) (q' := 78) d3_75 (by decide) rfl rfl (fun (h75 : (z0 &&& (255 : Int32)) = (38 : Int32)) => ?_) (fun (h75 : ¬ (z0 &&& (255 : Int32)) = (38 : Int32)) => ?_)
                  · refine Wk.iconst (q := 139) (v := (1 : Int32)) d3_138 rfl rfl ?_
                    refine Wk.goto (q := 143) d3_139 (by decide) rfl ?_
                    simp only [Int32.lt_iff_toInt_lt, ← Int32.toInt_inj, Int32.reduceToInt] at h1 h68 h69 h70 h71 h72 h73 h74 h75
                    exact Wk.retZ rfl rfl d3_143 (by decide) (by decide) ⟨by rw [tab1 (by omega)], rfl⟩
                  · refine Wk.iloadN (q := 79) d3_78 rfl rfl ?_
                    refine Wk.bipush (q := 81) (v := (39 : Int32)) d3_79 rfl rfl ?_
                    refine Wk.icmp (q := 138) (q' := 84) d3_81 (by decide) rfl rfl (fun (h76 : (z0 &&& (255 : Int32)) = (39 : Int32)) => ?_) (fun (h76 : ¬ (z0 &&& (255 : Int32)) = (39 : Int32)) => ?_)
                    · refine Wk.iconst (q := 139) (v := (1 : Int32)) d3_138 rfl rfl ?_
                      refine Wk.goto (q := 143) d3_139 (by decide) rfl ?_
                      simp only [Int32.lt_iff_toInt_lt, ← Int32.toInt_inj, Int32.reduceToInt] at h1 h68 h69 h70 h71 h72 h73 h74 h75 h76
                      exact Wk.retZ rfl rfl d3_143 (by decide) (by decide) ⟨by rw [tab1 (by omega)], rfl⟩
                    · refine Wk.iloadN (q := 85) d3_84 rfl rfl ?_
                      refine Wk.bipush (q := 87) (v := (42 : Int32)) d3_85 rfl rfl ?_
                      refine Wk.icmp (q := 138) (q' := 90) d3_87 (by decide) rfl rfl (fun (h77 : (z0 &&& (255 : Int32)) = (42 : Int32)) => ?_) (fun (h77 : ¬ (z0 &&& (255 : Int32)) = (42 : Int32)) => ?_)
                      · refine Wk.iconst (q := 139) (v := (1 : Int32)) d3_138 rfl rfl ?_
                        refine Wk.goto (q := 143) d3_139 (by decide) rfl ?_
                        simp only [Int32.lt_iff_toInt_lt, ← Int32.toInt_inj, Int32.reduceToInt] at h1 h68 h69 h70 h71 h72 h73 h74 h75 h76 h77
                        exact Wk.retZ rfl rfl d3_143 (by decide) (by decide) ⟨by rw [tab1 (by omega)], rfl⟩
                      · refine Wk.iloadN (q := 91) d3_90 rfl rfl ?_
                        refine Wk.bipush (q := 93) (v := (43 : Int32)) d3_91 rfl rfl ?_
                        refine Wk.icmp (q := 138) (q' := 96) d3_93 (by decide) rfl rfl (fun (h78 : (z0 &&& (255 : Int32)) = (43 : Int32)) => ?_) (fun (h78 : ¬ (z0 &&& (255 : Int32)) = (43 : Int32)) => ?_)
                        · refine Wk.iconst (q := 139) (v := (1 : Int32)) d3_138 rfl rfl ?_
                          refine Wk.goto (q := 143) d3_139 (by decide) rfl ?_
                          simp only [Int32.lt_iff_toInt_lt, ← Int32.toInt_inj, Int32.reduceToInt] at h1 h68 h69 h70 h71 h72 h73 h74 h75 h76 h77 h78
                          exact Wk.retZ rfl rfl d3_143 (by decide) (by decide) ⟨by rw [tab1 (by omega)], rfl⟩
                        · refine Wk.iloadN (q := 97) d3_96 rfl rfl ?_
                          refine Wk.bipush (q := 99) (v := (45 : Int32)) d3_97 rfl rfl ?_
                          refine Wk.icmp (q := 138) (q' := 102) d3_99 (by decide) rfl rfl (fun (h79 : (z0 &&& (255 : Int32)) = (45 : Int32)) => ?_) (fun (h79 : ¬ (z0 &&& (255 : Int32)) = (45 : Int32)) => ?_)
                          · refine Wk.iconst (q := 139) (v := (1 : Int32)) d3_138 rfl rfl ?_
                            refine Wk.goto (q := 143) d3_139 (by decide) rfl ?_
                            simp only [Int32.lt_iff_toInt_lt, ← Int32.toInt_inj, Int32.reduceToInt] at h1 h68 h69 h70 h71 h72 h73 h74 h75 h76 h77 h78 h79
                            exact Wk.retZ rfl rfl d3_143 (by decide) (by decide) ⟨by rw [tab1 (by omega)], rfl⟩
                          · refine Wk.iloadN (q := 103) d3_102 rfl rfl ?_
                            refine Wk.bipush (q := 105) (v := (46 : Int32)) d3_103 rfl rfl ?_
                            refine Wk.icmp (q := 138) (q' := 108) d3_105 (by decide) rfl rfl (fun (h80 : (z0 &&& (255 : Int32)) = (46 : Int32)) => ?_) (fun (h80 : ¬ (z0 &&& (255 : Int32)) = (46 : Int32)) => ?_)
                            · refine Wk.iconst (q := 139) (v := (1 : Int32)) d3_138 rfl rfl ?_
                              refine Wk.goto (q := 143) d3_139 (by decide) rfl ?_
                              simp only [Int32.lt_iff_toInt_lt, ← Int32.toInt_inj, Int32.reduceToInt] at h1 h68 h69 h70 h71 h72 h73 h74 h75 h76 h77 h78 h79 h80
                              exact Wk.retZ rfl rfl d3_143 (by decide) (by decide) ⟨by rw [tab1 (by omega)], rfl⟩
                            · refine Wk.iloadN (q := 109) d3_108 rfl rfl ?_
                              refine Wk.bipush (q := 111) (v := (94 : Int32)) d3_109 rfl rfl ?_
                              refine Wk.icmp (q := 138) (q' := 114) d3_111 (by decide) rfl rfl (fun (h81 : (z0 &&& (255 : Int32)) = (94 : Int32)) => ?_) (fun (h81 : ¬ (z0 &&& (255 : Int32)) = (94 : Int32)) => ?_)
                              · refine Wk.iconst (q := 139) (v := (1 : Int32)) d3_138 rfl rfl ?_
                                refine Wk.goto (q := 143) d3_139 (by decide) rfl ?_
                                simp only [Int32.lt_iff_toInt_lt, ← Int32.toInt_inj, Int32.reduceToInt] at h1 h68 h69 h70 h71 h72 h73 h74 h75 h76 h77 h78 h79 h80 h81
                                exact Wk.retZ rfl rfl d3_143 (by decide) (by decide) ⟨by rw [tab1 (by omega)], rfl⟩
                              · refine Wk.iloadN (q := 115) d3_114 rfl rfl ?_
                                refine Wk.bipush (q := 117) (v := (95 : Int32)) d3_115 rfl rfl ?_
                                refine Wk.icmp (q := 138) (q' := 120) d3_117 (by decide) rfl rfl (fun (h82 : (z0 &&& (255 : Int32)) = (95 : Int32)) => ?_) (fun (h82 : ¬ (z0 &&& (255 : Int32)) = (95 : Int32)) => ?_)
                                · refine Wk.iconst (q := 139) (v := (1 : Int32)) d3_138 rfl rfl ?_
                                  refine Wk.goto (q := 143) d3_139 (by decide) rfl ?_
                                  simp only [Int32.lt_iff_toInt_lt, ← Int32.toInt_inj, Int32.reduceToInt] at h1 h68 h69 h70 h71 h72 h73 h74 h75 h76 h77 h78 h79 h80 h81 h82
                                  exact Wk.retZ rfl rfl d3_143 (by decide) (by decide) ⟨by rw [tab1 (by omega)], rfl⟩
                                · refine Wk.iloadN (q := 121) d3_120 rfl rfl ?_
                                  refine Wk.bipush (q := 123) (v := (96 : Int32)) d3_121 rfl rfl ?_
                                  refine Wk.icmp (q := 138) (q' := 126) d3_123 (by decide) rfl rfl (fun (h83 : (z0 &&& (255 : Int32)) = (96 : Int32)) => ?_) (fun (h83 : ¬ (z0 &&& (255 : Int32)) = (96 : Int32)) => ?_)
                                  · refine Wk.iconst (q := 139) (v := (1 : Int32)) d3_138 rfl rfl ?_
                                    refine Wk.goto (q := 143) d3_139 (by decide) rfl ?_
                                    simp only [Int32.lt_iff_toInt_lt, ← Int32.toInt_inj, Int32.reduceToInt] at h1 h68 h69 h70 h71 h72 h73 h74 h75 h76 h77 h78 h79 h80 h81 h82 h83
                                    exact Wk.retZ rfl rfl d3_143 (by decide) (by decide) ⟨by rw [tab1 (by omega)], rfl⟩
                                  · refine Wk.iloadN (q := 127) d3_126 rfl rfl ?_
                                    refine Wk.bipush (q := 129) (v := (124 : Int32)) d3_127 rfl rfl ?_
                                    refine Wk.icmp (q := 138) (q' := 132) d3_129 (by decide) rfl rfl (fun (h84 : (z0 &&& (255 : Int32)) = (124 : Int32)) => ?_) (fun (h84 : ¬ (z0 &&& (255 : Int32)) = (124 : Int32)) => ?_)
                                    · refine Wk.iconst (q := 139) (v := (1 : Int32)) d3_138 rfl rfl ?_
                                      refine Wk.goto (q := 143) d3_139 (by decide) rfl ?_
                                      simp only [Int32.lt_iff_toInt_lt, ← Int32.toInt_inj, Int32.reduceToInt] at h1 h68 h69 h70 h71 h72 h73 h74 h75 h76 h77 h78 h79 h80 h81 h82 h83 h84
                                      exact Wk.retZ rfl rfl d3_143 (by decide) (by decide) ⟨by rw [tab1 (by omega)], rfl⟩
                                    · refine Wk.iloadN (q := 133) d3_132 rfl rfl ?_
                                      refine Wk.bipush (q := 135) (v := (126 : Int32)) d3_133 rfl rfl ?_
                                      refine Wk.icmp (q := 142) (q' := 138) d3_135 (by decide) rfl rfl (fun (h85 : ¬ (z0 &&& (255 : Int32)) = (126 : Int32)) => ?_) (fun (h85 : (z0 &&& (255 : Int32)) = (126 : Int32)) => ?_)
                                      · refine Wk.iconst (q := 143) (v := (0 : Int32)) d3_142 rfl rfl ?_
                                        simp only [Int32.lt_iff_toInt_lt, ← Int32.toInt_inj, Int32.reduceToInt] at h1 h68 h69 h70 h71 h72 h73 h74 h75 h76 h77 h78 h79 h80 h81 h82 h83 h84 h85
                                        exact Wk.retZ rfl rfl d3_143 (by decide) (by decide) ⟨by rw [tab0 (by omega)], rfl⟩
                                      · refine Wk.iconst (q := 139) (v := (1 : Int32)) d3_138 rfl rfl ?_
                                        refine Wk.goto (q := 143) d3_139 (by decide) rfl ?_
                                        simp only [Int32.lt_iff_toInt_lt, ← Int32.toInt_inj, Int32.reduceToInt] at h1 h68 h69 h70 h71 h72 h73 h74 h75 h76 h77 h78 h79 h80 h81 h82 h83 h84 h85
                                        exact Wk.retZ rfl rfl d3_143 (by decide) (by decide) ⟨by rw [tab1 (by omega)], rfl⟩
        · refine Wk.iloadN (q := 41) d3_40 rfl rfl ?_
          refine Wk.bipush (q := 43) (v := (122 : Int32)) d3_41 rfl rfl ?_
          refine Wk.icmp (q := 48) (q' := 46) d3_43 (by decide) rfl rfl (fun (h86 : (122 : Int32) < (z0 &&& (255 : Int32))) => ?_) (fun (h86 : ¬ (122 : Int32) < (z0 &&& (255 : Int32))) => ?_)
          · refine Wk.iloadN (q := 49) d3_48 rfl rfl ?_
            refine Wk.bipush (q := 51) (v := (33 : Int32)) d3_49 rfl rfl ?_
            refine Wk.icmp (q := 138) (q' := 54) d3_51 (by decide) rfl rfl (fun (h87 : (z0 &&& (255 : Int32)) = (33 : Int32)) => ?_) (fun (h87 : ¬ (z0 &&& (255 : Int32)) = (33 : Int32)) => ?_)
            · refine Wk.iconst (q := 139) (v := (1 : Int32)) d3_138 rfl rfl ?_
              refine Wk.goto (q := 143) d3_139 (by decide) rfl ?_
              simp only [Int32.lt_iff_toInt_lt, ← Int32.toInt_inj, Int32.reduceToInt] at h1 h68 h69 h70 h86 h87
              exact Wk.retZ rfl rfl d3_143 (by decide) (by decide) ⟨by rw [tab1 (by omega)], rfl⟩
            · refine Wk.iloadN (q := 55) d3_54 rfl rfl ?_
              refine Wk.bipush (q := 57) (v := (35 : Int32)) d3_55 rfl rfl ?_
              refine Wk.icmp (q := 138) (q' := 60) d3_57 (by decide) rfl rfl (fun (h88 : (z0 &&& (255 : Int32)) = (35 : Int32)) => ?_) (fun (h88 : ¬ (z0 &&& (255 : Int32)) = (35 : Int32)) => ?_)
              · refine Wk.iconst (q := 139) (v := (1 : Int32)) d3_138 rfl rfl ?_
                refine Wk.goto (q := 143) d3_139 (by decide) rfl ?_
                simp only [Int32.lt_iff_toInt_lt, ← Int32.toInt_inj, Int32.reduceToInt] at h1 h68 h69 h70 h86 h87 h88
                exact Wk.retZ rfl rfl d3_143 (by decide) (by decide) ⟨by rw [tab1 (by omega)], rfl⟩
              · refine Wk.iloadN (q := 61) d3_60 rfl rfl ?_
                refine Wk.bipush (q := 63) (v := (36 : Int32)) d3_61 rfl rfl ?_
                refine Wk.icmp (q := 138) (q' := 66) d3_63 (by decide) rfl rfl (fun (h89 : (z0 &&& (255 : Int32)) = (36 : Int32)) => ?_) (fun (h89 : ¬ (z0 &&& (255 : Int32)) = (36 : Int32)) => ?_)
                · refine Wk.iconst (q := 139) (v := (1 : Int32)) d3_138 rfl rfl ?_
                  refine Wk.goto (q := 143) d3_139 (by decide) rfl ?_
                  simp only [Int32.lt_iff_toInt_lt, ← Int32.toInt_inj, Int32.reduceToInt] at h1 h68 h69 h70 h86 h87 h88 h89
                  exact Wk.retZ rfl rfl d3_143 (by decide) (by decide) ⟨by rw [tab1 (by omega)], rfl⟩
                · refine Wk.iloadN (q := 67) d3_66 rfl rfl ?_
                  refine Wk.bipush (q := 69) (v := (37 : Int32)) d3_67 rfl rfl ?_
                  refine Wk.icmp (q := 138) (q' := 72) d3_69 (by decide) rfl rfl (fun (h90 : (z0 &&& (255 : Int32)) = (37 : Int32)) => ?_) (fun (h90 : ¬ (z0 &&& (255 : Int32)) = (37 : Int32)) => ?_)
                  · refine Wk.iconst (q := 139) (v := (1 : Int32)) d3_138 rfl rfl ?_
                    refine Wk.goto (q := 143) d3_139 (by decide) rfl ?_
                    simp only [Int32.lt_iff_toInt_lt, ← Int32.toInt_inj, Int32.reduceToInt] at h1 h68 h69 h70 h86 h87 h88 h89 h90
                    exact Wk.retZ rfl rfl d3_143 (by decide) (by decide) ⟨by rw [tab1 (by omega)], rfl⟩
                  · refine Wk.iloadN (q := 73) d3_72 rfl rfl ?_
                    refine Wk.bipush (q := 75) (v := (38 : Int32)) d3_73 rfl rfl ?_
                    refine Wk.icmp (q := 138) (q' := 78) d3_75 (by decide) rfl rfl (fun (h91 : (z0 &&& (255 : Int32)) = (38 : Int32)) => ?_) (fun (h91 : ¬ (z0 &&& (255 : Int32)) = (38 : Int32)) => ?_)
                    · refine Wk.iconst (q := 139) (v := (1 : Int32)) d3_138 rfl rfl ?_
                      refine Wk.goto (q := 143) d3_139 (by decide) rfl ?_
                      simp only [Int32.lt_iff_toInt_lt, ← Int32.toInt_inj, Int32.reduceToInt] at h1 h68 h69 h70 h86 h87 h88 h89 h90 h91
                      exact Wk.retZ rfl rfl d3_143 (by decide) (by decide) ⟨by rw [tab1 (by omega)], rfl⟩
                    · refine Wk.iloadN (q := 79) d3_78 rfl rfl ?_
                      refine Wk.bipush (q := 81) (v := (39 : Int32)) d3_79 rfl rfl ?_
                      refine Wk.icmp (q := 138) (q' := 84) d3_81 (by decide) rfl rfl (fun (h92 : (z0 &&& (255 : Int32)) = (39 : Int32)) => ?_) (fun (h92 : ¬ (z0 &&& (255 : Int32)) = (39 : Int32)) => ?_)
                      · refine Wk.iconst (q := 139) (v := (1 : Int32)) d3_138 rfl rfl ?_
                        refine Wk.goto (q := 143) d3_139 (by decide) rfl ?_
                        simp only [Int32.lt_iff_toInt_lt, ← Int32.toInt_inj, Int32.reduceToInt] at h1 h68 h69 h70 h86 h87 h88 h89 h90 h91 h92
                        exact Wk.retZ rfl rfl d3_143 (by decide) (by decide) ⟨by rw [tab1 (by omega)], rfl⟩
                      · refine Wk.iloadN (q := 85) d3_84 rfl rfl ?_
                        refine Wk.bipush (q := 87) (v := (42 : Int32)) d3_85 rfl rfl ?_
                        refine Wk.icmp (q := 138) (q' := 90) d3_87 (by decide) rfl rfl (fun (h93 : (z0 &&& (255 : Int32)) = (42 : Int32)) => ?_) (fun (h93 : ¬ (z0 &&& (255 : Int32)) = (42 : Int32)) => ?_)
                        · refine Wk.iconst (q := 139) (v := (1 : Int32)) d3_138 rfl rfl ?_
                          refine Wk.goto (q := 143) d3_139 (by decide) rfl ?_
                          simp only [Int32.lt_iff_toInt_lt, ← Int32.toInt_inj, Int32.reduceToInt] at h1 h68 h69 h70 h86 h87 h88 h89 h90 h91 h92 h93
                          exact Wk.retZ rfl rfl d3_143 (by decide) (by decide) ⟨by rw [tab1 (by omega)], rfl⟩
                        · refine Wk.iloadN (q := 91) d3_90 rfl rfl ?_
                          refine Wk.bipush (q := 93) (v := (43 : Int32)) d3_91 rfl rfl ?_
                          refine Wk.icmp (q := 138) (q' := 96) d3_93 (by decide) rfl rfl (fun (h94 : (z0 &&& (255 : Int32)) = (43 : Int32)) => ?_) (fun (h94 : ¬ (z0 &&& (255 : Int32)) = (43 : Int32)) => ?_)
                          · refine Wk.iconst (q := 139) (v := (1 : Int32)) d3_138 rfl rfl ?_
                            refine Wk.goto (q := 143) d3_139 (by decide) rfl ?_
                            simp only [Int32.lt_iff_toInt_lt, ← Int32.toInt_inj, Int32.reduceToInt] at h1 h68 h69 h70 h86 h87 h88 h89 h90 h91 h92 h93 h94
                            exact Wk.retZ rfl rfl d3_143 (by decide) (by decide) ⟨by rw [tab1 (by omega)], rfl⟩
                          · refine Wk.iloadN (q := 97) d3_96 rfl rfl ?_
                            refine Wk.bipush (q := 99) (v := (45 : Int32)) d3_97 rfl rfl ?_
                            refine Wk.icmp (q := 138) (q' := 102) d3_99 (by decide) rfl rfl (fun (h95 : (z0 &&& (255 : Int32)) = (45 : Int32)) => ?_) (fun (h95 : ¬ (z0 &&& (255 : Int32)) = (45 : Int32)) => ?_)
                            · refine Wk.iconst (q := 139) (v := (1 : Int32)) d3_138 rfl rfl ?_
                              refine Wk.goto (q := 143) d3_139 (by decide) rfl ?_
                              simp only [Int32.lt_iff_toInt_lt, ← Int32.toInt_inj, Int32.reduceToInt] at h1 h68 h69 h70 h86 h87 h88 h89 h90 h91 h92 h93 h94 h95
                              exact Wk.retZ rfl rfl d3_143 (by decide) (by decide) ⟨by rw [tab1 (by omega)], rfl⟩
                            · refine Wk.iloadN (q := 103) d3_102 rfl rfl ?_
                              refine Wk.bipush (q := 105) (v := (46 : Int32)) d3_103 rfl rfl ?_
                              refine Wk.icmp (q := 138) (q' := 108) d3_105 (by decide) rfl rfl (fun (h96 : (z0 &&& (255 : Int32)) = (46 : Int32)) => ?_) (fun (h96 : ¬ (z0 &&& (255 : Int32)) = (46 : Int32)) => ?_)
                              · refine Wk.iconst (q := 139) (v := (1 : Int32)) d3_138 rfl rfl ?_
                                refine Wk.goto (q := 143) d3_139 (by decide) rfl ?_
                                simp only [Int32.lt_iff_toInt_lt, ← Int32.toInt_inj, Int32.reduceToInt] at h1 h68 h69 h70 h86 h87 h88 h89 h90 h91 h92 h93 h94 h95 h96
                                exact Wk.retZ rfl rfl d3_143 (by decide) (by decide) ⟨by rw [tab1 (by omega)], rfl⟩
                              · refine Wk.iloadN (q := 109) d3_108 rfl rfl ?_
                                refine Wk.bipush (q := 111) (v := (94 : Int32)) d3_109 rfl rfl ?_
                                refine Wk.icmp (q := 138) (q' := 114) d3_111 (by decide) rfl rfl (fun (h97 : (z0 &&& (255 : Int32)) = (94 : Int32)) => ?_) (fun (h97 : ¬ (z0 &&& (255 : Int32)) = (94 : Int32)) => ?_)
                                · refine Wk.iconst (q := 139) (v := (1 : Int32)) d3_138 rfl rfl ?_
                                  refine Wk.goto (q := 143) d3_139 (by decide) rfl ?_
                                  simp only [Int32.lt_iff_toInt_lt, ← Int32.toInt_inj, Int32.reduceToInt] at h1 h68 h69 h70 h86 h87 h88 h89 h90 h91 h92 h93 h94 h95 h96 h97
                                  exact Wk.retZ rfl rfl d3_143 (by decide) (by decide) ⟨by rw [tab1 (by omega)], rfl⟩
                                · refine Wk.iloadN (q := 115) d3_114 rfl rfl ?_
                                  refine Wk.bipush (q := 117) (v := (95 : Int32)) d3_115 rfl rfl ?_
                                  refine Wk.icmp (q := 138) (q' := 120) d3_117 (by decide) rfl rfl (fun (h98 : (z0 &&& (255 : Int32)) = (95 : Int32)) => ?_) (fun (h98 : ¬ (z0 &&& (255 : Int32)) = (95 : Int32)) => ?_)
                                  · refine Wk.iconst (q := 139) (v := (1 : Int32)) d3_138 rfl rfl ?_
                                    refine Wk.goto (q := 143) d3_139 (by decide) rfl ?_
                                    simp only [Int32.lt_iff_toInt_lt, ← Int32.toInt_inj, Int32.reduceToInt] at h1 h68 h69 h70 h86 h87 h88 h89 h90 h91 h92 h93 h94 h95 h96 h97 h98
                                    exact Wk.retZ rfl rfl d3_143 (by decide) (by decide) ⟨by rw [tab1 (by omega)], rfl⟩
                                  · refine Wk.iloadN (q := 121) d3_120 rfl rfl ?_
                                    refine Wk.bipush (q := 123) (v := (96 : Int32)) d3_121 rfl rfl ?_
                                    refine Wk.icmp (q := 138) (q' := 126) d3_123 (by decide) rfl rfl (fun (h99 : (z0 &&& (255 : Int32)) = (96 : Int32)) => ?_) (fun (h99 : ¬ (z0 &&& (255 : Int32)) = (96 : Int32)) => ?_)
                                    · refine Wk.iconst (q := 139) (v := (1 : Int32)) d3_138 rfl rfl ?_
                                      refine Wk.goto (q := 143) d3_139 (by decide) rfl ?_
                                      simp only [Int32.lt_iff_toInt_lt, ← Int32.toInt_inj, Int32.reduceToInt] at h1 h68 h69 h70 h86 h87 h88 h89 h90 h91 h92 h93 h94 h95 h96 h97 h98 h99
                                      exact Wk.retZ rfl rfl d3_143 (by decide) (by decide) ⟨by rw [tab1 (by omega)], rfl⟩
                                    · refine Wk.iloadN (q := 127) d3_126 rfl rfl ?_
                                      refine Wk.bipush (q := 129) (v := (124 : Int32)) d3_127 rfl rfl ?_
                                      refine Wk.icmp (q := 138) (q' := 132) d3_129 (by decide) rfl rfl (fun (h100 : (z0 &&& (255 : Int32)) = (124 : Int32)) => ?_) (fun (h100 : ¬ (z0 &&& (255 : Int32)) = (124 : Int32)) => ?_)
                                      · refine Wk.iconst (q := 139) (v := (1 : Int32)) d3_138 rfl rfl ?_
                                        refine Wk.goto (q := 143) d3_139 (by decide) rfl ?_
                                        simp only [Int32.lt_iff_toInt_lt, ← Int32.toInt_inj, Int32.reduceToInt] at h1 h68 h69 h70 h86 h87 h88 h89 h90 h91 h92 h93 h94 h95 h96 h97 h98 h99 h100
                                        exact Wk.retZ rfl rfl d3_143 (by decide) (by decide) ⟨by rw [tab1 (by omega)], rfl⟩
                                      · refine Wk.iloadN (q := 133) d3_132 rfl rfl ?_
                                        refine Wk.bipush (q := 135) (v := (126 : Int32)) d3_133 rfl rfl ?_
                                        refine Wk.icmp (q := 142) (q' := 138) d3_135 (by decide) rfl rfl (fun (h101 : ¬ (z0 &&& (255 : Int32)) = (126 : Int32)) => ?_) (fun (h101 : (z0 &&& (255 : Int32)) = (126 : Int32)) => ?_)
                                        · refine Wk.iconst (q := 143) (v := (0 : Int32)) d3_142 rfl rfl ?_
                                          simp only [Int32.lt_iff_toInt_lt, ← Int32.toInt_inj, Int32.reduceToInt] at h1 h68 h69 h70 h86 h87 h88 h89 h90 h91 h92 h93 h94 h95 h96 h97 h98 h99 h100 h101
                                          exact Wk.retZ rfl rfl d3_143 (by decide) (by decide) ⟨by rw [tab0 (by omega)], rfl⟩
                                        · refine Wk.iconst (q := 139) (v := (1 : Int32)) d3_138 rfl rfl ?_
                                          refine Wk.goto (q := 143) d3_139 (by decide) rfl ?_
                                          simp only [Int32.lt_iff_toInt_lt, ← Int32.toInt_inj, Int32.reduceToInt] at h1 h68 h69 h70 h86 h87 h88 h89 h90 h91 h92 h93 h94 h95 h96 h97 h98 h99 h100 h101
                                          exact Wk.retZ rfl rfl d3_143 (by decide) (by decide) ⟨by rw [tab1 (by omega)], rfl⟩
          · refine Wk.iconst (q := 47) (v := (1 : Int32)) d3_46 rfl rfl ?_
            simp only [Int32.lt_iff_toInt_lt, ← Int32.toInt_inj, Int32.reduceToInt] at h1 h68 h69 h70 h86
            exact Wk.retZ rfl rfl d3_47 (by decide) (by decide) ⟨by rw [tab1 (by omega)], rfl⟩
      · refine Wk.iloadN (q := 27) d3_26 rfl rfl ?_
        refine Wk.bipush (q := 29) (v := (90 : Int32)) d3_27 rfl rfl ?_
        refine Wk.icmp (q := 34) (q' := 32) d3_29 (by decide) rfl rfl (fun (h102 : (90 : Int32) < (z0 &&& (255 : Int32))) => ?_) (fun (h102 : ¬ (90 : Int32) < (z0 &&& (255 : Int32))) => ?_)
        · refine Wk.iloadN (q := 35) d3_34 rfl rfl ?_
          refine Wk.bipush (q := 37) (v := (97 : Int32)) d3_35 rfl rfl ?_
          refine Wk.icmp (q := 48) (q' := 40) d3_37 (by decide) rfl rfl (fun (h103 : (z0 &&& (255 : Int32)) < (97 : Int32)) => ?_) (fun (h103 : ¬ (z0 &&& (255 : Int32)) < (97 : Int32)) => ?_)
          · refine Wk.iloadN (q := 49) d3_48 rfl rfl ?_
            refine Wk.bipush (q := 51) (v := (33 : Int32)) d3_49 rfl rfl ?_
            refine Wk.icmp (q := 138) (q' := 54) d3_51 (by decide) rfl rfl (fun (h104 : (z0 &&& (255 : Int32)) = (33 : Int32)) => ?_) (fun (h104 : ¬ (z0 &&& (255 : Int32)) = (33 : Int32)) => ?_)
            · refine Wk.iconst (q := 139) (v := (1 : Int32)) d3_138 rfl rfl ?_
              refine Wk.goto (q := 143) d3_139 (by decide) rfl ?_
              simp only [Int32.lt_iff_toInt_lt, ← Int32.toInt_inj, Int32.reduceToInt] at h1 h68 h69 h102 h103 h104
              exact Wk.retZ rfl rfl d3_143 (by decide) (by decide) ⟨by rw [tab1 (by omega)], rfl⟩
            · refine Wk.iloadN (q := 55) d3_54 rfl rfl ?_
              refine Wk.bipush (q := 57) (v := (35 : Int32)) d3_55 rfl rfl ?_
              refine Wk.icmp (q := 138) (q' := 60) d3_57 (by decide) rfl rfl (fun (h105 : (z0 &&& (255 : Int32)) = (35 : Int32)) => ?_) (fun (h105 : ¬ (z0 &&& (255 : Int32)) = (35 : Int32)) => ?_)
              · refine Wk.iconst (q := 139) (v := (1 : Int32)) d3_138 rfl rfl ?_
                refine Wk.goto (q := 143) d3_139 (by decide) rfl ?_
                simp only [Int32.lt_iff_toInt_lt, ← Int32.toInt_inj, Int32.reduceToInt] at h1 h68 h69 h102 h103 h104 h105
                exact Wk.retZ rfl rfl d3_143 (by decide) (by decide) ⟨by rw [tab1 (by omega)], rfl⟩
              · refine Wk.iloadN (q := 61) d3_60 rfl rfl ?_
                refine Wk.bipush (q := 63) (v := (36 : Int32)) d3_61 rfl rfl ?_
                refine Wk.icmp (q := 138) (q' := 66) d3_63 (by decide) rfl rfl (fun (h106 : (z0 &&& (255 : Int32)) = (36 : Int32)) => ?_) (fun (h106 : ¬ (z0 &&& (255 : Int32)) = (36 : Int32)) => ?_)
                · refine Wk.iconst (q := 139) (v := (1 : Int32)) d3_138 rfl rfl ?_
                  refine Wk.goto (q := 143) d3_139 (by decide) rfl ?_
                  simp only [Int32.lt_iff_toInt_lt, ← Int32.toInt_inj, Int32.reduceToInt] at h1 h68 h69 h102 h103 h104 h105 h106
                  exact Wk.retZ rfl rfl d3_143 (by decide) (by decide) ⟨by rw [tab1 (by omega)], rfl⟩
                · refine Wk.iloadN (q := 67) d3_66 rfl rfl ?_
                  refine Wk.bipush (q := 69) (v := (37 : Int32)) d3_67 rfl rfl ?_
                  refine Wk.icmp (q := 138) (q' := 72) d3_69 (by decide) rfl rfl (fun (h107 : (z0 &&& (255 : Int32)) = (37 : Int32)) => ?_) (fun (h107 : ¬ (z0 &&& (255 : Int32)) = (37 : Int32)) => ?_)
                  · refine Wk.iconst (q := 139) (v := (1 : Int32)) d3_138 rfl rfl ?_
                    refine Wk.goto (q := 143) d3_139 (by decide) rfl ?_
                    simp only [Int32.lt_iff_toInt_lt, ← Int32.toInt_inj, Int32.reduceToInt] at h1 h68 h69 h102 h103 h104 h105 h106 h107
                    exact Wk.retZ rfl rfl d3_143 (by decide) (by decide) ⟨by rw [tab1 (by omega)], rfl⟩
                  · refine Wk.iloadN (q := 73) d3_72 rfl rfl ?_
                    refine Wk.bipush (q := 75) (v := (38 : Int32)) d3_73 rfl rfl ?_
                    refine Wk.icmp (q := 138) (q' := 78) d3_75 (by decide) rfl rfl (fun (h108 : (z0 &&& (255 : Int32)) = (38 : Int32)) => ?_) (fun (h108 : ¬ (z0 &&& (255 : Int32)) = (38 : Int32)) => ?_)
                    · refine Wk.iconst (q := 139) (v := (1 : Int32)) d3_138 rfl rfl ?_
                      refine Wk.goto (q := 143) d3_139 (by decide) rfl ?_
                      simp only [Int32.lt_iff_toInt_lt, ← Int32.toInt_inj, Int32.reduceToInt] at h1 h68 h69 h102 h103 h104 h105 h106 h107 h108
                      exact Wk.retZ rfl rfl d3_143 (by decide) (by decide) ⟨by rw [tab1 (by omega)], rfl⟩
                    · refine Wk.iloadN (q := 79) d3_78 rfl rfl ?_
                      refine Wk.bipush (q := 81) (v := (39 : Int32)) d3_79 rfl rfl ?_
                      refine Wk.icmp (q := 138) (q' := 84) d3_81 (by decide) rfl rfl (fun (h109 : (z0 &&& (255 : Int32)) = (39 : Int32)) => ?_) (fun (h109 : ¬ (z0 &&& (255 : Int32)) = (39 : Int32)) => ?_)
                      · refine Wk.iconst (q := 139) (v := (1 : Int32)) d3_138 rfl rfl ?_
                        refine Wk.goto (q := 143) d3_139 (by decide) rfl ?_
                        simp only [Int32.lt_iff_toInt_lt, ← Int32.toInt_inj, Int32.reduceToInt] at h1 h68 h69 h102 h103 h104 h105 h106 h107 h108 h109
                        exact Wk.retZ rfl rfl d3_143 (by decide) (by decide) ⟨by rw [tab1 (by omega)], rfl⟩
                      · refine Wk.iloadN (q := 85) d3_84 rfl rfl ?_
                        refine Wk.bipush (q := 87) (v := (42 : Int32)) d3_85 rfl rfl ?_
                        refine Wk.icmp (q := 138) (q' := 90) d3_87 (by decide) rfl rfl (fun (h110 : (z0 &&& (255 : Int32)) = (42 : Int32)) => ?_) (fun (h110 : ¬ (z0 &&& (255 : Int32)) = (42 : Int32)) => ?_)
                        · refine Wk.iconst (q := 139) (v := (1 : Int32)) d3_138 rfl rfl ?_
                          refine Wk.goto (q := 143) d3_139 (by decide) rfl ?_
                          simp only [Int32.lt_iff_toInt_lt, ← Int32.toInt_inj, Int32.reduceToInt] at h1 h68 h69 h102 h103 h104 h105 h106 h107 h108 h109 h110
                          exact Wk.retZ rfl rfl d3_143 (by decide) (by decide) ⟨by rw [tab1 (by omega)], rfl⟩
                        · refine Wk.iloadN (q := 91) d3_90 rfl rfl ?_
                          refine Wk.bipush (q := 93) (v := (43 : Int32)) d3_91 rfl rfl ?_
                          refine Wk.icmp (q := 138) (q' := 96) d3_93 (by decide) rfl rfl (fun (h111 : (z0 &&& (255 : Int32)) = (43 : Int32)) => ?_) (fun (h111 : ¬ (z0 &&& (255 : Int32)) = (43 : Int32)) => ?_)
                          · refine Wk.iconst (q := 139) (v := (1 : Int32)) d3_138 rfl rfl ?_
                            refine Wk.goto (q := 143) d3_139 (by decide) rfl ?_
                            simp only [Int32.lt_iff_toInt_lt, ← Int32.toInt_inj, Int32.reduceToInt] at h1 h68 h69 h102 h103 h104 h105 h106 h107 h108 h109 h110 h111
                            exact Wk.retZ rfl rfl d3_143 (by decide) (by decide) ⟨by rw [tab1 (by omega)], rfl⟩
                          · refine Wk.iloadN (q := 97) d3_96 rfl rfl ?_
                            refine Wk.bipush (q := 99) (v := (45 : Int32)) d3_97 rfl rfl ?_
                            refine Wk.icmp (q := 138) (q' := 102) d3_99 (by decide) rfl rfl (fun (h112 : (z0 &&& (255 : Int32)) = (45 : Int32)) => ?_) (fun (h112 : ¬ (z0 &&& (255 : Int32)) = (45 : Int32)) => ?_)
                            · refine Wk.iconst (q := 139) (v := (1 : Int32)) d3_138 rfl rfl ?_
                              refine Wk.goto (q := 143) d3_139 (by decide) rfl ?_
                              simp only [Int32.lt_iff_toInt_lt, ← Int32.toInt_inj, Int32.reduceToInt] at h1 h68 h69 h102 h103 h104 h105 h106 h107 h108 h109 h110 h111 h112
                              exact Wk.retZ rfl rfl d3_143 (by decide) (by decide) ⟨by rw [tab1 (by omega)], rfl⟩
                            · refine Wk.iloadN (q := 103) d3_102 rfl rfl ?_
                              refine Wk.bipush (q := 105) (v := (46 : Int32)) d3_103 rfl rfl ?_
                              refine Wk.icmp (q := 138) (q' := 108) d3_105 (by decide) rfl rfl (fun (h113 : (z0 &&& (255 : Int32)) = (46 : Int32)) => ?_) (fun (h113 : ¬ (z0 &&& (255 : Int32)) = (46 : Int32)) => ?_)
                              · refine Wk.iconst (q := 139) (v := (1 : Int32)) d3_138 rfl rfl ?_
                                refine Wk.goto (q := 143) d3_139 (by decide) rfl ?_
                                simp only [Int32.lt_iff_toInt_lt, ← Int32.toInt_inj, Int32.reduceToInt] at h1 h68 h69 h102 h103 h104 h105 h106 h107 h108 h109 h110 h111 h112 h113
                                exact Wk.retZ rfl rfl d3_143 (by decide) (by decide) ⟨by rw [tab1 (by omega)], rfl⟩
                              · refine Wk.iloadN (q := 109) d3_108 rfl rfl ?_
                                refine Wk.bipush (q := 111) (v := (94 : Int32)) d3_109 rfl rfl ?_
                                refine Wk.icmp (q := 138) (q' := 114) d3_111 (by decide) rfl rfl (fun (h114 : (z0 &&& (255 : Int32)) = (94 : Int32)) => ?_) (fun (h114 : ¬ (z0 &&& (255 : Int32)) = (94 : Int32)) => ?_)
                                · refine Wk.iconst (q := 139) (v := (1 : Int32)) d3_138 rfl rfl ?_
                                  refine Wk.goto (q := 143) d3_139 (by decide) rfl ?_
                                  simp only [Int32.lt_iff_toInt_lt, ← Int32.toInt_inj, Int32.reduceToInt] at h1 h68 h69 h102 h103 h104 h105 h106 h107 h108 h109 h110 h111 h112 h113 h114
                                  exact Wk.retZ rfl rfl d3_143 (by decide) (by decide) ⟨by rw [tab1 (by omega)], rfl⟩
                                · refine Wk.iloadN (q := 115) d3_114 rfl rfl ?_
                                  refine Wk.bipush (q := 117) (v := (95 : Int32)) d3_115 rfl rfl ?_
                                  refine Wk.icmp (q := 138) (q' := 120) d3_117 (by decide) rfl rfl (fun (h115 : (z0 &&& (255 : Int32)) = (95 : Int32)) => ?_) (fun (h115 : ¬ (z0 &&& (255 : Int32)) = (95 : Int32)) => ?_)
                                  · refine Wk.iconst (q := 139) (v := (1 : Int32)) d3_138 rfl rfl ?_
                                    refine Wk.goto (q := 143) d3_139 (by decide) rfl ?_
                                    simp only [Int32.lt_iff_toInt_lt, ← Int32.toInt_inj, Int32.reduceToInt] at h1 h68 h69 h102 h103 h104 h105 h106 h107 h108 h109 h110 h111 h112 h113 h114 h115
                                    exact Wk.retZ rfl rfl d3_143 (by decide) (by decide) ⟨by rw [tab1 (by omega)], rfl⟩
                                  · refine Wk.iloadN (q := 121) d3_120 rfl rfl ?_
                                    refine Wk.bipush (q := 123) (v := (96 : Int32)) d3_121 rfl rfl ?_
                                    refine Wk.icmp (q := 138) (q' := 126) d3_123 (by decide) rfl rfl (fun (h116 : (z0 &&& (255 : Int32)) = (96 : Int32)) => ?_) (fun (h116 : ¬ (z0 &&& (255 : Int32)) = (96 : Int32)) => ?_)
                                    · refine Wk.iconst (q := 139) (v := (1 : Int32)) d3_138 rfl rfl ?_
                                      refine Wk.goto (q := 143) d3_139 (by decide) rfl ?_
                                      simp only [Int32.lt_iff_toInt_lt, ← Int32.toInt_inj, Int32.reduceToInt] at h1 h68 h69 h102 h103 h104 h105 h106 h107 h108 h109 h110 h111 h112 h113 h114 h115 h116
                                      exact Wk.retZ rfl rfl d3_143 (by decide) (by decide) ⟨by rw [tab1 (by omega)], rfl⟩
                                    · refine Wk.iloadN (q := 127) d3_126 rfl rfl ?_
                                      refine Wk.bipush (q := 129) (v := (124 : Int32)) d3_127 rfl rfl ?_
                                      refine Wk.icmp (q := 138) (q' := 132) d3_129 (by decide) rfl rfl (fun (h117 : (z0 &&& (255 : Int32)) = (124 : Int32)) => ?_) (fun (h117 : ¬ (z0 &&& (255 : Int32)) = (124 : Int32)) => ?_)
                                      · refine Wk.iconst (q := 139) (v := (1 : Int32)) d3_138 rfl rfl ?_
                                        refine Wk.goto (q := 143) d3_139 (by decide) rfl ?_
                                        simp only [Int32.lt_iff_toInt_lt, ← Int32.toInt_inj, Int32.reduceToInt] at h1 h68 h69 h102 h103 h104 h105 h106 h107 h108 h109 h110 h111 h112 h113 h114 h115 h116 h117
                                        exact Wk.retZ rfl rfl d3_143 (by decide) (by decide) ⟨by rw [tab1 (by omega)], rfl⟩
                                      · refine Wk.iloadN (q := 133) d3_132 rfl rfl ?_
                                        refine Wk.bipush (q := 135) (v := (126 : Int32)) d3_133 rfl rfl ?_
                                        refine Wk.icmp (q := 142) (q' := 138) d3_135 (by decide) rfl rfl (fun (h118 : ¬ (z0 &&& (255 : Int32)) = (126 : Int32)) => ?_) (fun (h118 : (z0 &&& (255 : Int32)) = (126 : Int32)) => ?_)
                                        · refine Wk.iconst (q := 143) (v := (0 : Int32)) d3_142 rfl rfl ?_
                                          simp only [Int32.lt_iff_toInt_lt, ← Int32.toInt_inj, Int32.reduceToInt] at h1 h68 h69 h102 h103 h104 h105 h106 h107 h108 h109 h110 h111 h112 h113 h114 h115 h116 h117 h118
                                          exact Wk.retZ rfl rfl d3_143 (by decide) (by decide) ⟨by rw [tab0 (by omega)], rfl⟩
                                        · refine Wk.iconst (q := 139) (v := (1 : Int32)) d3_138 rfl rfl ?_
                                          refine Wk.goto (q := 143) d3_139 (by decide) rfl ?_
                                          simp only [Int32.lt_iff_toInt_lt, ← Int32.toInt_inj, Int32.reduceToInt] at h1 h68 h69 h102 h103 h104 h105 h106 h107 h108 h109 h110 h111 h112 h113 h114 h115 h116 h117 h118
                                          exact Wk.retZ rfl rfl d3_143 (by decide) (by decide) ⟨by rw [tab1 (by omega)], rfl⟩
          · refine Wk.iloadN (q := 41) d3_40 rfl rfl ?_
            refine Wk.bipush (q := 43) (v := (122 : Int32)) d3_41 rfl rfl ?_
            refine Wk.icmp (q := 48) (q' := 46) d3_43 (by decide) rfl rfl (fun (h119 : (122 : Int32) < (z0 &&& (255 : Int32))) => ?_) (fun (h119 : ¬ (122 : Int32) < (z0 &&& (255 : Int32))) => ?_)
            · refine Wk.iloadN (q := 49) d3_48 rfl rfl ?_
              refine Wk.bipush (q := 51) (v := (33 : Int32)) d3_49 rfl rfl ?_
              refine Wk.icmp (q := 138) (q' := 54) d3_51 (by decide) rfl rfl (fun (h120 : (z0 &&& (255 : Int32)) = (33 : Int32)) => ?_) (fun (h120 : ¬ (z0 &&& (255 : Int32)) = (33 : Int32)) => ?_)
              · refine Wk.iconst (q := 139) (v := (1 : Int32)) d3_138 rfl rfl ?_
                refine Wk.goto (q := 143) d3_139 (by decide) rfl ?_
                simp only [Int32.lt_iff_toInt_lt, ← Int32.toInt_inj, Int32.reduceToInt] at h1 h68 h69 h102 h103 h119 h120
                exact Wk.retZ rfl rfl d3_143 (by decide) (by decide) ⟨by rw [tab1 (by omega)], rfl⟩
              · refine Wk.iloadN (q := 55) d3_54 rfl rfl ?_
                refine Wk.bipush (q := 57) (v := (35 : Int32)) d3_55 rfl rfl ?_
                refine Wk.icmp (q := 138) (q' := 60) d3_57 (by decide) rfl rfl (fun (h121 : (z0 &&& (255 : Int32)) = (35 : Int32)) => ?_) (fun (h121 : ¬ (z0 &&& (255 : Int32)) = (35 : Int32)) => ?_)
                · refine Wk.iconst (q := 139) (v := (1 : Int32)) d3_138 rfl rfl ?_
                  refine Wk.goto (q := 143) d3_139 (by decide) rfl ?_
                  simp only [Int32.lt_iff_toInt_lt, ← Int32.toInt_inj, Int32.reduceToInt] at h1 h68 h69 h102 h103 h119 h120 h121
                  exact Wk.retZ rfl rfl d3_143 (by decide) (by decide) ⟨by rw [tab1 (by omega)], rfl⟩
                · refine Wk.iloadN (q := 61) d3_60 rfl rfl ?_
                  refine Wk.bipush (q := 63) (v := (36 : Int32)) d3_61 rfl rfl ?_
                  refine Wk.icmp (q := 138) (q' := 66) d3_63 (by decide) rfl rfl (fun (h122 : (z0 &&& (255 : Int32)) = (36 : Int32)) => ?_) (fun (h122 : ¬ (z0 &&& (255 : Int32)) = (36 : Int32)) => ?_)
                  · refine Wk.iconst (q := 139) (v := (1 : Int32)) d3_138 rfl rfl ?_
                    refine Wk.goto (q := 143) d3_139 (by decide) rfl ?_
                    simp only [Int32.lt_iff_toInt_lt, ← Int32.toInt_inj, Int32.reduceToInt] at h1 h68 h69 h102 h103 h119 h120 h121 h122
                    exact Wk.retZ rfl rfl d3_143 (by decide) (by decide) ⟨by rw [tab1 (by omega)], rfl⟩
                  · refine Wk.iloadN (q := 67) d3_66 rfl rfl ?_
                    refine Wk.bipush (q := 69) (v := (37 : Int32)) d3_67 rfl rfl ?_
                    refine Wk.icmp (q := 138) (q' := 72) d3_69 (by decide) rfl rfl (fun (h123 : (z0 &&& (255 : Int32)) = (37 : Int32)) => ?_) (fun (h123 : ¬ (z0 &&& (255 : Int32)) = (37 : Int32)) => ?_)
                    · refine Wk.iconst (q := 139) (v := (1 : Int32)) d3_138 rfl rfl ?_
                      refine Wk.goto (q := 143) d3_139 (by decide) rfl ?_
                      simp only [Int32.lt_iff_toInt_lt, ← Int32.toInt_inj, Int32.reduceToInt] at h1 h68 h69 h102 h103 h119 h120 h121 h122 h123
                      exact Wk.retZ rfl rfl d3_143 (by decide) (by decide) ⟨by rw [tab1 (by omega)], rfl⟩
                    · refine Wk.iloadN (q := 73) d3_72 rfl rfl ?_
                      refine Wk.bipush (q := 75) (v := (38 : Int32)) d3_73 rfl rfl ?_
                      refine Wk.icmp (q := 138) (q' := 78) d3_75 (by decide) rfl rfl (fun (h124 : (z0 &&& (255 : Int32)) = (38 : Int32)) => ?_) (fun (h124 : ¬ (z0 &&& (255 : Int32)) = (38 : Int32)) => ?_)
                      · refine Wk.iconst (q := 139) (v := (1 : Int32)) d3_138 rfl rfl ?_
                        refine Wk.goto (q := 143) d3_139 (by decide) rfl ?_
                        simp only [Int32.lt_iff_toInt_lt, ← Int32.toInt_inj, Int32.reduceToInt] at h1 h68 h69 h102 h103 h119 h120 h121 h122 h123 h124
                        exact Wk.retZ rfl rfl d3_143 (by decide) (by decide) ⟨by rw [tab1 (by omega)], rfl⟩
                      · refine Wk.iloadN (q := 79) d3_78 rfl rfl ?_
                        refine Wk.bipush (q := 81) (v := (39 : Int32)) d3_79 rfl rfl ?_
                        refine Wk.icmp (q := 138) (q' := 84) d3_81 (by decide) rfl rfl (fun (h125 : (z0 &&& (255 : Int32)) = (39 : Int32)) => ?_) (fun (h125 : ¬ (z0 &&& (255 : Int32)) = (39 : Int32)) => ?_)
                        · refine Wk.iconst (q := 139) (v := (1 : Int32)) d3_138 rfl rfl ?_
                          refine Wk.goto (q := 143) d3_139 (by decide) rfl ?_
                          simp only [Int32.lt_iff_toInt_lt, ← Int32.toInt_inj, Int32.reduceToInt] at h1 h68 h69 h102 h103 h119 h120 h121 h122 h123 h124 h125
                          exact Wk.retZ rfl rfl d3_143 (by decide) (by decide) ⟨by rw [tab1 (by omega)], rfl⟩
                        · refine Wk.iloadN (q := 85) d3_84 rfl rfl ?_
                          refine Wk.bipush (q := 87) (v := (42 : Int32)) d3_85 rfl rfl ?_
                          refine Wk.icmp (q := 138) (q' := 90) d3_87 (by decide) rfl rfl (fun (h126 : (z0 &&& (255 : Int32)) = (42 : Int32)) => ?_) (fun (h126 : ¬ (z0 &&& (255 : Int32)) = (42 : Int32)) => ?_)
                          · refine Wk.iconst (q := 139) (v := (1 : Int32)) d3_138 rfl rfl ?_
                            refine Wk.goto (q := 143) d3_139 (by decide) rfl ?_
                            simp only [Int32.lt_iff_toInt_lt, ← Int32.toInt_inj, Int32.reduceToInt] at h1 h68 h69 h102 h103 h119 h120 h121 h122 h123 h124 h125 h126
                            exact Wk.retZ rfl rfl d3_143 (by decide) (by decide) ⟨by rw [tab1 (by omega)], rfl⟩
                          · refine Wk.iloadN (q := 91) d3_90 rfl rfl ?_
                            refine Wk.bipush (q := 93) (v := (43 : Int32)) d3_91 rfl rfl ?_
                            refine Wk.icmp (q := 138) (q' := 96) d3_93 (by decide) rfl rfl (fun (h127 : (z0 &&& (255 : Int32)) = (43 : Int32)) => ?_) (fun (h127 : ¬ (z0 &&& (255 : Int32)) = (43 : Int32)) => ?_)
                            · refine Wk.iconst (q := 139) (v := (1 : Int32)) d3_138 rfl rfl ?_
                              refine Wk.goto (q := 143) d3_139 (by decide) rfl ?_
                              simp only [Int32.lt_iff_toInt_lt, ← Int32.toInt_inj, Int32.reduceToInt] at h1 h68 h69 h102 h103 h119 h120 h121 h122 h123 h124 h125 h126 h127
                              exact Wk.retZ rfl rfl d3_143 (by decide) (by decide) ⟨by rw [tab1 (by omega)], rfl⟩
                            · refine Wk.iloadN (q := 97) d3_96 rfl rfl ?_
                              refine Wk.bipush (q := 99) (v := (45 : Int32)) d3_97 rfl rfl ?_
                              refine Wk.icmp (q := 138) (q' := 102) d3_99 (by decide) rfl rfl (fun (h128 : (z0 &&& (255 : Int32)) = (45 : Int32)) => ?_) (fun (h128 : ¬ (z0 &&& (255 : Int32)) = (45 : Int32)) => ?_)
                              · refine Wk.iconst (q := 139) (v := (1 : Int32)) d3_138 rfl rfl ?_
                                refine Wk.goto (q := 143) d3_139 (by decide) rfl ?_
                                simp only [Int32.lt_iff_toInt_lt, ← Int32.toInt_inj, Int32.reduceToInt] at h1 h68 h69 h102 h103 h119 h120 h121 h122 h123 h124 h125 h126 h127 h128
                                exact Wk.retZ rfl rfl d3_143 (by decide) (by decide) ⟨by rw [tab1 (by omega)], rfl⟩
                              · refine Wk.iloadN (q := 103) d3_102 rfl rfl ?_
                                refine Wk.bipush (q := 105) (v := (46 : Int32)) d3_103 rfl rfl ?_
                                refine Wk.icmp (q := 138) (q' := 108) d3_105 (by decide) rfl rfl (fun (h129 : (z0 &&& (255 : Int32)) = (46 : Int32)) => ?_) (fun (h129 : ¬ (z0 &&& (255 : Int32)) = (46 : Int32)) => ?_)
                                · refine Wk.iconst (q := 139) (v := (1 : Int32)) d3_138 rfl rfl ?_
                                  refine Wk.goto (q := 143) d3_139 (by decide) rfl ?_
                                  simp only [Int32.lt_iff_toInt_lt, ← Int32.toInt_inj, Int32.reduceToInt] at h1 h68 h69 h102 h103 h119 h120 h121 h122 h123 h124 h125 h126 h127 h128 h129
                                  exact Wk.retZ rfl rfl d3_143 (by decide) (by decide) ⟨by rw [tab1 (by omega)], rfl⟩
                                · refine Wk.iloadN (q := 109) d3_108 rfl rfl ?_
                                  refine Wk.bipush (q := 111) (v := (94 : Int32)) d3_109 rfl rfl ?_
                                  refine Wk.icmp (q := 138) (q' := 114) d3_111 (by decide) rfl rfl (fun (h130 : (z0 &&& (255 : Int32)) = (94 : Int32)) => ?_) (fun (h130 : ¬ (z0 &&& (255 : Int32)) = (94 : Int32)) => ?_)
                                  · refine Wk.iconst (q := 139) (v := (1 : Int32)) d3_138 rfl rfl ?_
                                    refine Wk.goto (q := 143) d3_139 (by decide) rfl ?_
                                    simp only [Int32.lt_iff_toInt_lt, ← Int32.toInt_inj, Int32.reduceToInt] at h1 h68 h69 h102 h103 h119 h120 h121 h122 h123 h124 h125 h126 h127 h128 h129 h130
                                    exact Wk.retZ rfl rfl d3_143 (by decide) (by decide) ⟨by rw [tab1 (by omega)], rfl⟩
                                  · refine Wk.iloadN (q := 115) d3_114 rfl rfl ?_
                                    refine Wk.bipush (q := 117) (v := (95 : Int32)) d3_115 rfl rfl ?_
                                    refine Wk.icmp (q := 138) (q' := 120) d3_117 (by decide) rfl rfl (fun (h131 : (z0 &&& (255 : Int32)) = (95 : Int32)) => ?_) (fun (h131 : ¬ (z0 &&& (255 : Int32)) = (95 : Int32)) => ?_)
                                    · refine Wk.iconst (q := 139) (v := (1 : Int32)) d3_138 rfl rfl ?_
                                      refine Wk.goto (q := 143) d3_139 (by decide) rfl ?_
                                      simp only [Int32.lt_iff_toInt_lt, ← Int32.toInt_inj, Int32.reduceToInt] at h1 h68 h69 h102 h103 h119 h120 h121 h122 h123 h124 h125 h126 h127 h128 h129 h130 h131
                                      exact Wk.retZ rfl rfl d3_143 (by decide) (by decide) ⟨by rw [tab1 (by omega)], rfl⟩
                                    · refine Wk.iloadN (q := 121) d3_120 rfl rfl ?_
                                      refine Wk.bipush (q := 123) (v := (96 : Int32)) d3_121 rfl rfl ?_
                                      refine Wk.icmp (q := 138) (q' := 126) d3_123 (by decide) rfl rfl (fun (h132 : (z0 &&& (255 : Int32)) = (96 : Int32)) => ?_) (fun (h132 : ¬ (z0 &&& (255 : Int32)) = (96 : Int32)) => ?_)
                                      · refine Wk.iconst (q := 139) (v := (1 : Int32)) d3_138 rfl rfl ?_
                                        refine Wk.goto (q := 143) d3_139 (by decide) rfl ?_
                                        simp only [Int32.lt_iff_toInt_lt, ← Int32.toInt_inj, Int32.reduceToInt] at h1 h68 h69 h102 h103 h119 h120 h121 h122 h123 h124 h125 h126 h127 h128 h129 h130 h131 h132
                                        exact Wk.retZ rfl rfl d3_143 (by decide) (by decide) ⟨by rw [tab1 (by omega)], rfl⟩
                                      · refine Wk.iloadN (q := 127) d3_126 rfl rfl ?_
                                        refine Wk.bipush (q := 129) (v := (124 : Int32)) d3_127 rfl rfl ?_
                                        refine Wk.icmp (q := 138) (q' := 132) d3_129 (by decide) rfl rfl (fun (h133 : (z0 &&& (255 : Int32)) = (124 : Int32)) => ?_) (fun (h133 : ¬ (z0 &&& (255 : Int32)) = (124 : Int32)) => ?_)
                                        · refine Wk.iconst (q := 139) (v := (1 : Int32)) d3_138 rfl rfl ?_
                                          refine Wk.goto (q := 143) d3_139 (by decide) rfl ?_
                                          simp only [Int32.lt_iff_toInt_lt, ← Int32.toInt_inj, Int32.reduceToInt] at h1 h68 h69 h102 h103 h119 h120 h121 h122 h123 h124 h125 h126 h127 h128 h129 h130 h131 h132 h133
                                          exact Wk.retZ rfl rfl d3_143 (by decide) (by decide) ⟨by rw [tab1 (by omega)], rfl⟩
                                        · refine Wk.iloadN (q := 133) d3_132 rfl rfl ?_
                                          refine Wk.bipush (q := 135) (v := (126 : Int32)) d3_133 rfl rfl ?_
                                          refine Wk.icmp (q := 142) (q' := 138) d3_135 (by decide) rfl rfl (fun (h134 : ¬ (z0 &&& (255 : Int32)) = (126 : Int32)) => ?_) (fun (h134 : (z0 &&& (255 : Int32)) = (126 : Int32)) => ?_)
                                          · refine Wk.iconst (q := 143) (v := (0 : Int32)) d3_142 rfl rfl ?_
                                            simp only [Int32.lt_iff_toInt_lt, ← Int32.toInt_inj, Int32.reduceToInt] at h1 h68 h69 h102 h103 h119 h120 h121 h122 h123 h124 h125 h126 h127 h128 h129 h130 h131 h132 h133 h134
                                            exact Wk.retZ rfl rfl d3_143 (by decide) (by decide) ⟨by rw [tab0 (by omega)], rfl⟩
                                          · refine Wk.iconst (q := 139) (v := (1 : Int32)) d3_138 rfl rfl ?_
                                            refine Wk.goto (q := 143) d3_139 (by decide) rfl ?_
                                            simp only [Int32.lt_iff_toInt_lt, ← Int32.toInt_inj, Int32.reduceToInt] at h1 h68 h69 h102 h103 h119 h120 h121 h122 h123 h124 h125 h126 h127 h128 h129 h130 h131 h132 h133 h134
                                            exact Wk.retZ rfl rfl d3_143 (by decide) (by decide) ⟨by rw [tab1 (by omega)], rfl⟩
            · refine Wk.iconst (q := 47) (v := (1 : Int32)) d3_46 rfl rfl ?_
              simp only [Int32.lt_iff_toInt_lt, ← Int32.toInt_inj, Int32.reduceToInt] at h1 h68 h69 h102 h103 h119
              exact Wk.retZ rfl rfl d3_47 (by decide) (by decide) ⟨by rw [tab1 (by omega)], rfl⟩
        · refine Wk.iconst (q := 33) (v := (1 : Int32)) d3_32 rfl rfl ?_
          simp only [Int32.lt_iff_toInt_lt, ← Int32.toInt_inj, Int32.reduceToInt] at h1 h68 h69 h102
          exact Wk.retZ rfl rfl d3_33 (by decide) (by decide) ⟨by rw [tab1 (by omega)], rfl⟩
    · refine Wk.iconst (q := 19) (v := (1 : Int32)) d3_18 rfl rfl ?_
      simp only [Int32.lt_iff_toInt_lt, ← Int32.toInt_inj, Int32.reduceToInt] at h1 h68
      exact Wk.retZ rfl rfl d3_19 (by decide) (by decide) ⟨by rw [tab1 (by omega)], rfl⟩
set_option maxRecDepth 65536 in
set_option maxHeartbeats 40000000 in
theorem m_pick {l : Launch} {Z : State} {a0 : Array Value} {n0 : Nat} {h : Heap}  {a_T : Addr} {c_T : Cell} (hw : ∀ d ∈ tables_1, d.before a0 Z = true) (F : OwnF Z h  a_T c_T) (z0 : Int32) : Met l Z n0 (⟨"com/example/tallykey/tallykey/HttpSyntaxNameEndPinLaw", "pick", "(I)B"⟩ : MethodName) method_2_code 1 (Option.some Jvm.ClassFile.FieldType.byte) (⟨0, 0, 0, 0⟩ : Room) #[(.int z0)] h (fun v h' => (∃ w, v = some w ∧ ∃ z : Int32, w = .int z) ∧ h' = h) := by
  refine Met.of_wk (ls := #[.val (.int z0)]) (plainFor_of_name pn_0) (fun m => ef_2 m z0) ?_
  show Wk l Z n0 "com/example/tallykey/tallykey/HttpSyntaxNameEndPinLaw" "pick" method_2_code 1 (Option.some Jvm.ClassFile.FieldType.byte) (⟨0, 0, 0, 0⟩ : Room) 0 0 (fun v h' => (∃ w, v = some w ∧ ∃ z : Int32, w = .int z) ∧ h' = h) h 0 0 0 #[.val (.int z0)] []
  refine Wk.iloadN (q := 1) d1_0 rfl rfl ?_
  refine Wk.sipush (q := 4) (v := (256 : Int32)) d1_1 rfl rfl ?_
  refine Wk.iand (q := 5) (v := (z0 &&& (256 : Int32))) d1_4 rfl rfl ?_
  refine Wk.ifc (q := 13) (q' := 8) d1_5 (by decide) rfl rfl (fun (h1 : (z0 &&& (256 : Int32)) = (0 : Int32)) => ?_) (fun (h1 : ¬ (z0 &&& (256 : Int32)) = (0 : Int32)) => ?_)
  · refine Wk.iloadN (q := 14) d1_13 rfl rfl ?_
    refine Wk.i2b (q := 15) (v := z0.toInt8.toInt32) d1_14 rfl rfl ?_
    exact Wk.retB rfl (own_narB _) d1_15 (by decide) (by decide) ⟨⟨_, rfl, _, rfl⟩, rfl⟩
  · refine Wk.bipush (q := 10) (v := (58 : Int32)) d1_8 rfl rfl ?_
    refine Wk.goto (q := 15) d1_10 (by decide) rfl ?_
    exact Wk.retB rfl rfl d1_15 (by decide) (by decide) ⟨⟨_, rfl, _, rfl⟩, rfl⟩
set_option maxRecDepth 65536 in
set_option maxHeartbeats 40000000 in
theorem m_0 {l : Launch} {Z : State} {a0 : Array Value} {n0 : Nat} {h : Heap}  {a_T : Addr} {c_T : Cell} (hw : ∀ d ∈ tables_1, d.before a0 Z = true) (F : OwnF Z h  a_T c_T) {a1 : Addr} {c1 : Cell} {b0 b1 b2 b3 : Int32} (A1 : Arr Z h a1 c1 .byte) (S1 : c1.slots.size = 4) (e_0 : c1.slots[0]? = some (Value.int b0)) (e_1 : c1.slots[1]? = some (Value.int b1)) (e_2 : c1.slots[2]? = some (Value.int b2)) (e_3 : c1.slots[3]? = some (Value.int b3)) : Met l Z n0 (⟨"com/example/tallykey/tallykey/HttpSyntax", "nameEnd", "([BII)I"⟩ : MethodName) prog_5_method_7_code 4 (Option.some Jvm.ClassFile.FieldType.int) (⟨0, 0, 0, 0⟩ : Room) #[(.ref a1), (.int (0 : Int32)), (.int (0 : Int32))] h (fun v h' => v = some (.int (-1 : Int32)) ∧ h' = h) := by
  refine Met.of_wk (ls := #[.val (.ref a1), .val (.int (0 : Int32)), .val (.int (0 : Int32)), .unset]) (plainFor_of_name pn_1) (fun m => ef_1 m a1 (0 : Int32) (0 : Int32)) ?_
  show Wk l Z n0 "com/example/tallykey/tallykey/HttpSyntax" "nameEnd" prog_5_method_7_code 4 (Option.some Jvm.ClassFile.FieldType.int) (⟨0, 0, 0, 0⟩ : Room) 0 0 (fun v h' => v = some (.int (-1 : Int32)) ∧ h' = h) h 0 0 0 #[.val (.ref a1), .val (.int (0 : Int32)), .val (.int (0 : Int32)), .unset] []
  refine Wk.iloadN (q := 1) d2_0 rfl rfl ?_
  refine Wk.istoreN (q := 2) (ls' := #[.val (.ref a1), .val (.int (0 : Int32)), .val (.int (0 : Int32)), .val (.int (0 : Int32))]) d2_1 rfl rfl ?_
  refine Wk.iloadN (q := 3) d2_2 rfl rfl ?_
  refine Wk.iloadN (q := 4) d2_3 rfl rfl ?_
  refine Wk.icmpT (q := 27) d2_4 (by decide) rfl (by decide : ¬ (0 : Int32) < (0 : Int32)) ?_
  refine Wk.iloadN (q := 28) d2_27 rfl rfl ?_
  refine Wk.iloadN (q := 29) d2_28 rfl rfl ?_
  refine Wk.icmpT (q := 45) d2_29 (by decide) rfl (by decide : (0 : Int32) = (0 : Int32)) ?_
  refine Wk.iconst (q := 46) (v := (-1 : Int32)) d2_45 rfl rfl ?_
  refine Wk.goto (q := 50) d2_46 (by decide) rfl ?_
  exact Wk.retI rfl d2_50 (by decide) (by decide) ⟨rfl, rfl⟩
set_option maxRecDepth 65536 in
set_option maxHeartbeats 40000000 in
theorem m_1 {l : Launch} {Z : State} {a0 : Array Value} {n0 : Nat} {h : Heap}  {a_T : Addr} {c_T : Cell} (hw : ∀ d ∈ tables_1, d.before a0 Z = true) (F : OwnF Z h  a_T c_T) {a1 : Addr} {c1 : Cell} {b0 b1 b2 b3 : Int32} (A1 : Arr Z h a1 c1 .byte) (S1 : c1.slots.size = 4) (e_0 : c1.slots[0]? = some (Value.int b0)) (e_1 : c1.slots[1]? = some (Value.int b1)) (e_2 : c1.slots[2]? = some (Value.int b2)) (e_3 : c1.slots[3]? = some (Value.int b3)) : Met l Z n0 (⟨"com/example/tallykey/tallykey/HttpSyntax", "nameEnd", "([BII)I"⟩ : MethodName) prog_5_method_7_code 4 (Option.some Jvm.ClassFile.FieldType.int) (⟨0, 0, 0, 0⟩ : Room) #[(.ref a1), (.int (0 : Int32)), (.int (1 : Int32))] h (fun v h' => (∃ w, v = some w ∧ ((((tabN (b0 &&& (255 : Int32)).toNatClampNeg) = (0 : Int32)) ∧ w = (.int (-1 : Int32))) ∨ ((¬ (tabN (b0 &&& (255 : Int32)).toNatClampNeg) = (0 : Int32)) ∧ w = (.int (-1 : Int32))))) ∧ h' = h) := by
  refine Met.of_wk (ls := #[.val (.ref a1), .val (.int (0 : Int32)), .val (.int (1 : Int32)), .unset]) (plainFor_of_name pn_1) (fun m => ef_1 m a1 (0 : Int32) (1 : Int32)) ?_
  show Wk l Z n0 "com/example/tallykey/tallykey/HttpSyntax" "nameEnd" prog_5_method_7_code 4 (Option.some Jvm.ClassFile.FieldType.int) (⟨0, 0, 0, 0⟩ : Room) 0 0 (fun v h' => (∃ w, v = some w ∧ ((((tabN (b0 &&& (255 : Int32)).toNatClampNeg) = (0 : Int32)) ∧ w = (.int (-1 : Int32))) ∨ ((¬ (tabN (b0 &&& (255 : Int32)).toNatClampNeg) = (0 : Int32)) ∧ w = (.int (-1 : Int32))))) ∧ h' = h) h 0 0 0 #[.val (.ref a1), .val (.int (0 : Int32)), .val (.int (1 : Int32)), .unset] []
  refine Wk.iloadN (q := 1) d2_0 rfl rfl ?_
  refine Wk.istoreN (q := 2) (ls' := #[.val (.ref a1), .val (.int (0 : Int32)), .val (.int (1 : Int32)), .val (.int (0 : Int32))]) d2_1 rfl rfl ?_
  refine Wk.iloadN (q := 3) d2_2 rfl rfl ?_
  refine Wk.iloadN (q := 4) d2_3 rfl rfl ?_
  refine Wk.icmpF (q := 7) d2_4 rfl (by decide : (0 : Int32) < (1 : Int32)) ?_
  refine Wk.getS (q := 10) (w_13 hw) Via.refl F.s_T d2_7 rfl ?_
  refine Wk.aloadN (q := 11) d2_10 rfl rfl rfl ?_
  refine Wk.iloadN (q := 12) d2_11 rfl rfl ?_
  refine Wk.baloadB (q := 13) A1 (by rw [S1]; decide) e_0 d2_12 rfl ?_
  refine Wk.sipush (q := 16) (v := (255 : Int32)) d2_13 rfl rfl ?_
  refine Wk.iand (q := 17) (v := (b0 &&& (255 : Int32))) d2_16 rfl rfl ?_
  refine Wk.baloadZ (q := 18) F.r_T (by rw [F.z_T]; exact own_in (own_255 b0).1 (by have := (own_255 b0).2; omega)) (F.t_T _ (by have := own_clamp (own_255 b0).1; have := (own_255 b0).2; omega)) d2_17 rfl ?_
  refine Wk.ifc (q := 27) (q' := 21) d2_18 (by decide) rfl rfl (fun (h1 : (tabN (b0 &&& (255 : Int32)).toNatClampNeg) = (0 : Int32)) => ?_) (fun (h1 : ¬ (tabN (b0 &&& (255 : Int32)).toNatClampNeg) = (0 : Int32)) => ?_)
  · refine Wk.iloadN (q := 28) d2_27 rfl rfl ?_
    refine Wk.iloadN (q := 29) d2_28 rfl rfl ?_
    refine Wk.icmpT (q := 45) d2_29 (by decide) rfl (by decide : (0 : Int32) = (0 : Int32)) ?_
    refine Wk.iconst (q := 46) (v := (-1 : Int32)) d2_45 rfl rfl ?_
    refine Wk.goto (q := 50) d2_46 (by decide) rfl ?_
    exact Wk.retI rfl d2_50 (by decide) (by decide) ⟨⟨_, rfl, Or.inl ⟨h1, rfl⟩⟩, rfl⟩
  · refine Wk.iinc (q := 24) (v := (1 : Int32)) (ls' := #[.val (.ref a1), .val (.int (0 : Int32)), .val (.int (1 : Int32)), .val (.int (1 : Int32))]) d2_21 rfl rfl (by decide) rfl ?_
    refine Wk.goto (q := 2) d2_24 (by decide) rfl ?_
    refine Wk.iloadN (q := 3) d2_2 rfl rfl ?_
    refine Wk.iloadN (q := 4) d2_3 rfl rfl ?_
    refine Wk.icmpT (q := 27) d2_4 (by decide) rfl (by decide : ¬ (1 : Int32) < (1 : Int32)) ?_
    refine Wk.iloadN (q := 28) d2_27 rfl rfl ?_
    refine Wk.iloadN (q := 29) d2_28 rfl rfl ?_
    refine Wk.icmpF (q := 32) d2_29 rfl (by decide : ¬ (1 : Int32) = (0 : Int32)) ?_
    refine Wk.iloadN (q := 33) d2_32 rfl rfl ?_
    refine Wk.iloadN (q := 34) d2_33 rfl rfl ?_
    refine Wk.icmpT (q := 45) d2_34 (by decide) rfl (by decide : (1 : Int32) = (1 : Int32)) ?_
    refine Wk.iconst (q := 46) (v := (-1 : Int32)) d2_45 rfl rfl ?_
    refine Wk.goto (q := 50) d2_46 (by decide) rfl ?_
    exact Wk.retI rfl d2_50 (by decide) (by decide) ⟨⟨_, rfl, Or.inr (⟨h1, rfl⟩)⟩, rfl⟩
set_option maxRecDepth 65536 in
set_option maxHeartbeats 40000000 in
theorem m_2 {l : Launch} {Z : State} {a0 : Array Value} {n0 : Nat} {h : Heap}  {a_T : Addr} {c_T : Cell} (hw : ∀ d ∈ tables_1, d.before a0 Z = true) (F : OwnF Z h  a_T c_T) {a1 : Addr} {c1 : Cell} {b0 b1 b2 b3 : Int32} (A1 : Arr Z h a1 c1 .byte) (S1 : c1.slots.size = 4) (e_0 : c1.slots[0]? = some (Value.int b0)) (e_1 : c1.slots[1]? = some (Value.int b1)) (e_2 : c1.slots[2]? = some (Value.int b2)) (e_3 : c1.slots[3]? = some (Value.int b3)) : Met l Z n0 (⟨"com/example/tallykey/tallykey/HttpSyntax", "nameEnd", "([BII)I"⟩ : MethodName) prog_5_method_7_code 4 (Option.some Jvm.ClassFile.FieldType.int) (⟨0, 0, 0, 0⟩ : Room) #[(.ref a1), (.int (0 : Int32)), (.int (2 : Int32))] h (fun v h' => (∃ w, v = some w ∧ ((((tabN (b0 &&& (255 : Int32)).toNatClampNeg) = (0 : Int32)) ∧ w = (.int (-1 : Int32))) ∨ ((¬ (tabN (b0 &&& (255 : Int32)).toNatClampNeg) = (0 : Int32)) ∧ ((tabN (b1 &&& (255 : Int32)).toNatClampNeg) = (0 : Int32)) ∧ (b1 = (58 : Int32)) ∧ w = (.int (1 : Int32))) ∨ ((¬ (tabN (b0 &&& (255 : Int32)).toNatClampNeg) = (0 : Int32)) ∧ ((tabN (b1 &&& (255 : Int32)).toNatClampNeg) = (0 : Int32)) ∧ (¬ b1 = (58 : Int32)) ∧ w = (.int (-1 : Int32))) ∨ ((¬ (tabN (b0 &&& (255 : Int32)).toNatClampNeg) = (0 : Int32)) ∧ (¬ (tabN (b1 &&& (255 : Int32)).toNatClampNeg) = (0 : Int32)) ∧ w = (.int (-1 : Int32))))) ∧ h' = h) := by
  refine Met.of_wk (ls := #[.val (.ref a1), .val (.int (0 : Int32)), .val (.int (2 : Int32)), .unset]) (plainFor_of_name pn_1) (fun m => ef_1 m a1 (0 : Int32) (2 : Int32)) ?_
  show Wk l Z n0 "com/example/tallykey/tallykey/HttpSyntax" "nameEnd" prog_5_method_7_code 4 (Option.some Jvm.ClassFile.FieldType.int) (⟨0, 0, 0, 0⟩ : Room) 0 0 (fun v h' => (∃ w, v = some w ∧ ((((tabN (b0 &&& (255 : Int32)).toNatClampNeg) = (0 : Int32)) ∧ w = (.int (-1 : Int32))) ∨ ((¬ (tabN (b0 &&& (255 : Int32)).toNatClampNeg) = (0 : Int32)) ∧ ((tabN (b1 &&& (255 : Int32)).toNatClampNeg) = (0 : Int32)) ∧ (b1 = (58 : Int32)) ∧ w = (.int (1 : Int32))) ∨ ((¬ (tabN (b0 &&& (255 : Int32)).toNatClampNeg) = (0 : Int32)) ∧ ((tabN (b1 &&& (255 : Int32)).toNatClampNeg) = (0 : Int32)) ∧ (¬ b1 = (58 : Int32)) ∧ w = (.int (-1 : Int32))) ∨ ((¬ (tabN (b0 &&& (255 : Int32)).toNatClampNeg) = (0 : Int32)) ∧ (¬ (tabN (b1 &&& (255 : Int32)).toNatClampNeg) = (0 : Int32)) ∧ w = (.int (-1 : Int32))))) ∧ h' = h) h 0 0 0 #[.val (.ref a1), .val (.int (0 : Int32)), .val (.int (2 : Int32)), .unset] []
  refine Wk.iloadN (q := 1) d2_0 rfl rfl ?_
  refine Wk.istoreN (q := 2) (ls' := #[.val (.ref a1), .val (.int (0 : Int32)), .val (.int (2 : Int32)), .val (.int (0 : Int32))]) d2_1 rfl rfl ?_
  refine Wk.iloadN (q := 3) d2_2 rfl rfl ?_
  refine Wk.iloadN (q := 4) d2_3 rfl rfl ?_
  refine Wk.icmpF (q := 7) d2_4 rfl (by decide : (0 : Int32) < (2 : Int32)) ?_
  refine Wk.getS (q := 10) (w_13 hw) Via.refl F.s_T d2_7 rfl ?_
  refine Wk.aloadN (q := 11) d2_10 rfl rfl rfl ?_
  refine Wk.iloadN (q := 12) d2_11 rfl rfl ?_
  refine Wk.baloadB (q := 13) A1 (by rw [S1]; decide) e_0 d2_12 rfl ?_
  refine Wk.sipush (q := 16) (v := (255 : Int32)) d2_13 rfl rfl ?_
  refine Wk.iand (q := 17) (v := (b0 &&& (255 : Int32))) d2_16 rfl rfl ?_
  refine Wk.baloadZ (q := 18) F.r_T (by rw [F.z_T]; exact own_in (own_255 b0).1 (by have := (own_255 b0).2; omega)) (F.t_T _ (by have := own_clamp (own_255 b0).1; have := (own_255 b0).2; omega)) d2_17 rfl ?_
  refine Wk.ifc (q := 27) (q' := 21) d2_18 (by decide) rfl rfl (fun (h1 : (tabN (b0 &&& (255 : Int32)).toNatClampNeg) = (0 : Int32)) => ?_) (fun (h1 : ¬ (tabN (b0 &&& (255 : Int32)).toNatClampNeg) = (0 : Int32)) => ?_)
  · refine Wk.iloadN (q := 28) d2_27 rfl rfl ?_
    refine Wk.iloadN (q := 29) d2_28 rfl rfl ?_
    refine Wk.icmpT (q := 45) d2_29 (by decide) rfl (by decide : (0 : Int32) = (0 : Int32)) ?_
    refine Wk.iconst (q := 46) (v := (-1 : Int32)) d2_45 rfl rfl ?_
    refine Wk.goto (q := 50) d2_46 (by decide) rfl ?_
    exact Wk.retI rfl d2_50 (by decide) (by decide) ⟨⟨_, rfl, Or.inl ⟨h1, rfl⟩⟩, rfl⟩
  · refine Wk.iinc (q := 24) (v := (1 : Int32)) (ls' := #[.val (.ref a1), .val (.int (0 : Int32)), .val (.int (2 : Int32)), .val (.int (1 : Int32))]) d2_21 rfl rfl (by decide) rfl ?_
    refine Wk.goto (q := 2) d2_24 (by decide) rfl ?_
    refine Wk.iloadN (q := 3) d2_2 rfl rfl ?_
    refine Wk.iloadN (q := 4) d2_3 rfl rfl ?_
    refine Wk.icmpF (q := 7) d2_4 rfl (by decide : (1 : Int32) < (2 : Int32)) ?_
    refine Wk.getS (q := 10) (w_13 hw) Via.refl F.s_T d2_7 rfl ?_
    refine Wk.aloadN (q := 11) d2_10 rfl rfl rfl ?_
    refine Wk.iloadN (q := 12) d2_11 rfl rfl ?_
    refine Wk.baloadB (q := 13) A1 (by rw [S1]; decide) e_1 d2_12 rfl ?_
    refine Wk.sipush (q := 16) (v := (255 : Int32)) d2_13 rfl rfl ?_
    refine Wk.iand (q := 17) (v := (b1 &&& (255 : Int32))) d2_16 rfl rfl ?_
    refine Wk.baloadZ (q := 18) F.r_T (by rw [F.z_T]; exact own_in (own_255 b1).1 (by have := (own_255 b1).2; omega)) (F.t_T _ (by have := own_clamp (own_255 b1).1; have := (own_255 b1).2; omega)) d2_17 rfl ?_
    refine Wk.ifc (q := 27) (q' := 21) d2_18 (by decide) rfl rfl (fun (h2 : (tabN (b1 &&& (255 : Int32)).toNatClampNeg) = (0 : Int32)) => ?_) (fun (h2 : ¬ (tabN (b1 &&& (255 : Int32)).toNatClampNeg) = (0 : Int32)) => ?_)
    · refine Wk.iloadN (q := 28) d2_27 rfl rfl ?_
      refine Wk.iloadN (q := 29) d2_28 rfl rfl ?_
      refine Wk.icmpF (q := 32) d2_29 rfl (by decide : ¬ (1 : Int32) = (0 : Int32)) ?_
      refine Wk.iloadN (q := 33) d2_32 rfl rfl ?_
      refine Wk.iloadN (q := 34) d2_33 rfl rfl ?_
      refine Wk.icmpF (q := 37) d2_34 rfl (by decide : ¬ (1 : Int32) = (2 : Int32)) ?_
      refine Wk.aloadN (q := 38) d2_37 rfl rfl rfl ?_
      refine Wk.iloadN (q := 39) d2_38 rfl rfl ?_
      refine Wk.baloadB (q := 40) A1 (by rw [S1]; decide) e_1 d2_39 rfl ?_
      refine Wk.bipush (q := 42) (v := (58 : Int32)) d2_40 rfl rfl ?_
      refine Wk.icmp (q := 49) (q' := 45) d2_42 (by decide) rfl rfl (fun (h3 : b1 = (58 : Int32)) => ?_) (fun (h3 : ¬ b1 = (58 : Int32)) => ?_)
      · refine Wk.iloadN (q := 50) d2_49 rfl rfl ?_
        exact Wk.retI rfl d2_50 (by decide) (by decide) ⟨⟨_, rfl, Or.inr (Or.inl ⟨h1, h2, h3, rfl⟩)⟩, rfl⟩
      · refine Wk.iconst (q := 46) (v := (-1 : Int32)) d2_45 rfl rfl ?_
        refine Wk.goto (q := 50) d2_46 (by decide) rfl ?_
        exact Wk.retI rfl d2_50 (by decide) (by decide) ⟨⟨_, rfl, Or.inr (Or.inr (Or.inl ⟨h1, h2, h3, rfl⟩))⟩, rfl⟩
    · refine Wk.iinc (q := 24) (v := (2 : Int32)) (ls' := #[.val (.ref a1), .val (.int (0 : Int32)), .val (.int (2 : Int32)), .val (.int (2 : Int32))]) d2_21 rfl rfl (by decide) rfl ?_
      refine Wk.goto (q := 2) d2_24 (by decide) rfl ?_
      refine Wk.iloadN (q := 3) d2_2 rfl rfl ?_
      refine Wk.iloadN (q := 4) d2_3 rfl rfl ?_
      refine Wk.icmpT (q := 27) d2_4 (by decide) rfl (by decide : ¬ (2 : Int32) < (2 : Int32)) ?_
      refine Wk.iloadN (q := 28) d2_27 rfl rfl ?_
      refine Wk.iloadN (q := 29) d2_28 rfl rfl ?_
      refine Wk.icmpF (q := 32) d2_29 rfl (by decide : ¬ (2 : Int32) = (0 : Int32)) ?_
      refine Wk.iloadN (q := 33) d2_32 rfl rfl ?_
      refine Wk.iloadN (q := 34) d2_33 rfl rfl ?_
      refine Wk.icmpT (q := 45) d2_34 (by decide) rfl (by decide : (2 : Int32) = (2 : Int32)) ?_
      refine Wk.iconst (q := 46) (v := (-1 : Int32)) d2_45 rfl rfl ?_
      refine Wk.goto (q := 50) d2_46 (by decide) rfl ?_
      exact Wk.retI rfl d2_50 (by decide) (by decide) ⟨⟨_, rfl, Or.inr (Or.inr (Or.inr (⟨h1, h2, rfl⟩)))⟩, rfl⟩
set_option maxRecDepth 65536 in
set_option maxHeartbeats 40000000 in
theorem m_3 {l : Launch} {Z : State} {a0 : Array Value} {n0 : Nat} {h : Heap}  {a_T : Addr} {c_T : Cell} (hw : ∀ d ∈ tables_1, d.before a0 Z = true) (F : OwnF Z h  a_T c_T) {a1 : Addr} {c1 : Cell} {b0 b1 b2 b3 : Int32} (A1 : Arr Z h a1 c1 .byte) (S1 : c1.slots.size = 4) (e_0 : c1.slots[0]? = some (Value.int b0)) (e_1 : c1.slots[1]? = some (Value.int b1)) (e_2 : c1.slots[2]? = some (Value.int b2)) (e_3 : c1.slots[3]? = some (Value.int b3)) : Met l Z n0 (⟨"com/example/tallykey/tallykey/HttpSyntax", "nameEnd", "([BII)I"⟩ : MethodName) prog_5_method_7_code 4 (Option.some Jvm.ClassFile.FieldType.int) (⟨0, 0, 0, 0⟩ : Room) #[(.ref a1), (.int (0 : Int32)), (.int (3 : Int32))] h (fun v h' => (∃ w, v = some w ∧ ((((tabN (b0 &&& (255 : Int32)).toNatClampNeg) = (0 : Int32)) ∧ w = (.int (-1 : Int32))) ∨ ((¬ (tabN (b0 &&& (255 : Int32)).toNatClampNeg) = (0 : Int32)) ∧ ((tabN (b1 &&& (255 : Int32)).toNatClampNeg) = (0 : Int32)) ∧ (b1 = (58 : Int32)) ∧ w = (.int (1 : Int32))) ∨ ((¬ (tabN (b0 &&& (255 : Int32)).toNatClampNeg) = (0 : Int32)) ∧ ((tabN (b1 &&& (255 : Int32)).toNatClampNeg) = (0 : Int32)) ∧ (¬ b1 = (58 : Int32)) ∧ w = (.int (-1 : Int32))) ∨ ((¬ (tabN (b0 &&& (255 : Int32)).toNatClampNeg) = (0 : Int32)) ∧ (¬ (tabN (b1 &&& (255 : Int32)).toNatClampNeg) = (0 : Int32)) ∧ ((tabN (b2 &&& (255 : Int32)).toNatClampNeg) = (0 : Int32)) ∧ (b2 = (58 : Int32)) ∧ w = (.int (2 : Int32))) ∨ ((¬ (tabN (b0 &&& (255 : Int32)).toNatClampNeg) = (0 : Int32)) ∧ (¬ (tabN (b1 &&& (255 : Int32)).toNatClampNeg) = (0 : Int32)) ∧ ((tabN (b2 &&& (255 : Int32)).toNatClampNeg) = (0 : Int32)) ∧ (¬ b2 = (58 : Int32)) ∧ w = (.int (-1 : Int32))) ∨ ((¬ (tabN (b0 &&& (255 : Int32)).toNatClampNeg) = (0 : Int32)) ∧ (¬ (tabN (b1 &&& (255 : Int32)).toNatClampNeg) = (0 : Int32)) ∧ (¬ (tabN (b2 &&& (255 : Int32)).toNatClampNeg) = (0 : Int32)) ∧ w = (.int (-1 : Int32))))) ∧ h' = h) := by
  refine Met.of_wk (ls := #[.val (.ref a1), .val (.int (0 : Int32)), .val (.int (3 : Int32)), .unset]) (plainFor_of_name pn_1) (fun m => ef_1 m a1 (0 : Int32) (3 : Int32)) ?_
  show Wk l Z n0 "com/example/tallykey/tallykey/HttpSyntax" "nameEnd" prog_5_method_7_code 4 (Option.some Jvm.ClassFile.FieldType.int) (⟨0, 0, 0, 0⟩ : Room) 0 0 (fun v h' => (∃ w, v = some w ∧ ((((tabN (b0 &&& (255 : Int32)).toNatClampNeg) = (0 : Int32)) ∧ w = (.int (-1 : Int32))) ∨ ((¬ (tabN (b0 &&& (255 : Int32)).toNatClampNeg) = (0 : Int32)) ∧ ((tabN (b1 &&& (255 : Int32)).toNatClampNeg) = (0 : Int32)) ∧ (b1 = (58 : Int32)) ∧ w = (.int (1 : Int32))) ∨ ((¬ (tabN (b0 &&& (255 : Int32)).toNatClampNeg) = (0 : Int32)) ∧ ((tabN (b1 &&& (255 : Int32)).toNatClampNeg) = (0 : Int32)) ∧ (¬ b1 = (58 : Int32)) ∧ w = (.int (-1 : Int32))) ∨ ((¬ (tabN (b0 &&& (255 : Int32)).toNatClampNeg) = (0 : Int32)) ∧ (¬ (tabN (b1 &&& (255 : Int32)).toNatClampNeg) = (0 : Int32)) ∧ ((tabN (b2 &&& (255 : Int32)).toNatClampNeg) = (0 : Int32)) ∧ (b2 = (58 : Int32)) ∧ w = (.int (2 : Int32))) ∨ ((¬ (tabN (b0 &&& (255 : Int32)).toNatClampNeg) = (0 : Int32)) ∧ (¬ (tabN (b1 &&& (255 : Int32)).toNatClampNeg) = (0 : Int32)) ∧ ((tabN (b2 &&& (255 : Int32)).toNatClampNeg) = (0 : Int32)) ∧ (¬ b2 = (58 : Int32)) ∧ w = (.int (-1 : Int32))) ∨ ((¬ (tabN (b0 &&& (255 : Int32)).toNatClampNeg) = (0 : Int32)) ∧ (¬ (tabN (b1 &&& (255 : Int32)).toNatClampNeg) = (0 : Int32)) ∧ (¬ (tabN (b2 &&& (255 : Int32)).toNatClampNeg) = (0 : Int32)) ∧ w = (.int (-1 : Int32))))) ∧ h' = h) h 0 0 0 #[.val (.ref a1), .val (.int (0 : Int32)), .val (.int (3 : Int32)), .unset] []
  refine Wk.iloadN (q := 1) d2_0 rfl rfl ?_
  refine Wk.istoreN (q := 2) (ls' := #[.val (.ref a1), .val (.int (0 : Int32)), .val (.int (3 : Int32)), .val (.int (0 : Int32))]) d2_1 rfl rfl ?_
  refine Wk.iloadN (q := 3) d2_2 rfl rfl ?_
  refine Wk.iloadN (q := 4) d2_3 rfl rfl ?_
  refine Wk.icmpF (q := 7) d2_4 rfl (by decide : (0 : Int32) < (3 : Int32)) ?_
  refine Wk.getS (q := 10) (w_13 hw) Via.refl F.s_T d2_7 rfl ?_
  refine Wk.aloadN (q := 11) d2_10 rfl rfl rfl ?_
  refine Wk.iloadN (q := 12) d2_11 rfl rfl ?_
  refine Wk.baloadB (q := 13) A1 (by rw [S1]; decide) e_0 d2_12 rfl ?_
  refine Wk.sipush (q := 16) (v := (255 : Int32)) d2_13 rfl rfl ?_
  refine Wk.iand (q := 17) (v := (b0 &&& (255 : Int32))) d2_16 rfl rfl ?_
  refine Wk.baloadZ (q := 18) F.r_T (by rw [F.z_T]; exact own_in (own_255 b0).1 (by have := (own_255 b0).2; omega)) (F.t_T _ (by have := own_clamp (own_255 b0).1; have := (own_255 b0).2; omega)) d2_17 rfl ?_
  refine Wk.ifc (q := 27) (q' := 21) d2_18 (by decide) rfl rfl (fun (h1 : (tabN (b0 &&& (255 : Int32)).toNatClampNeg) = (0 : Int32)) => ?_) (fun (h1 : ¬ (tabN (b0 &&& (255 : Int32)).toNatClampNeg) = (0 : Int32)) => ?_)
  · refine Wk.iloadN (q := 28) d2_27 rfl rfl ?_
    refine Wk.iloadN (q := 29) d2_28 rfl rfl ?_
    refine Wk.icmpT (q := 45) d2_29 (by decide) rfl (by decide : (0 : Int32) = (0 : Int32)) ?_
    refine Wk.iconst (q := 46) (v := (-1 : Int32)) d2_45 rfl rfl ?_
    refine Wk.goto (q := 50) d2_46 (by decide) rfl ?_
    exact Wk.retI rfl d2_50 (by decide) (by decide) ⟨⟨_, rfl, Or.inl ⟨h1, rfl⟩⟩, rfl⟩
  · refine Wk.iinc (q := 24) (v := (1 : Int32)) (ls' := #[.val (.ref a1), .val (.int (0 : Int32)), .val (.int (3 : Int32)), .val (.int (1 : Int32))]) d2_21 rfl rfl (by decide) rfl ?_
    refine Wk.goto (q := 2) d2_24 (by decide) rfl ?_
    refine Wk.iloadN (q := 3) d2_2 rfl rfl ?_
    refine Wk.iloadN (q := 4) d2_3 rfl rfl ?_
    refine Wk.icmpF (q := 7) d2_4 rfl (by decide : (1 : Int32) < (3 : Int32)) ?_
    refine Wk.getS (q := 10) (w_13 hw) Via.refl F.s_T d2_7 rfl ?_
    refine Wk.aloadN (q := 11) d2_10 rfl rfl rfl ?_
    refine Wk.iloadN (q := 12) d2_11 rfl rfl ?_
    refine Wk.baloadB (q := 13) A1 (by rw [S1]; decide) e_1 d2_12 rfl ?_
    refine Wk.sipush (q := 16) (v := (255 : Int32)) d2_13 rfl rfl ?_
    refine Wk.iand (q := 17) (v := (b1 &&& (255 : Int32))) d2_16 rfl rfl ?_
    refine Wk.baloadZ (q := 18) F.r_T (by rw [F.z_T]; exact own_in (own_255 b1).1 (by have := (own_255 b1).2; omega)) (F.t_T _ (by have := own_clamp (own_255 b1).1; have := (own_255 b1).2; omega)) d2_17 rfl ?_
    refine Wk.ifc (q := 27) (q' := 21) d2_18 (by decide) rfl rfl (fun (h2 : (tabN (b1 &&& (255 : Int32)).toNatClampNeg) = (0 : Int32)) => ?_) (fun (h2 : ¬ (tabN (b1 &&& (255 : Int32)).toNatClampNeg) = (0 : Int32)) => ?_)
    · refine Wk.iloadN (q := 28) d2_27 rfl rfl ?_
      refine Wk.iloadN (q := 29) d2_28 rfl rfl ?_
      refine Wk.icmpF (q := 32) d2_29 rfl (by decide : ¬ (1 : Int32) = (0 : Int32)) ?_
      refine Wk.iloadN (q := 33) d2_32 rfl rfl ?_
      refine Wk.iloadN (q := 34) d2_33 rfl rfl ?_
      refine Wk.icmpF (q := 37) d2_34 rfl (by decide : ¬ (1 : Int32) = (3 : Int32)) ?_
      refine Wk.aloadN (q := 38) d2_37 rfl rfl rfl ?_
      refine Wk.iloadN (q := 39) d2_38 rfl rfl ?_
      refine Wk.baloadB (q := 40) A1 (by rw [S1]; decide) e_1 d2_39 rfl ?_
      refine Wk.bipush (q := 42) (v := (58 : Int32)) d2_40 rfl rfl ?_
      refine Wk.icmp (q := 49) (q' := 45) d2_42 (by decide) rfl rfl (fun (h3 : b1 = (58 : Int32)) => ?_) (fun (h3 : ¬ b1 = (58 : Int32)) => ?_)
      · refine Wk.iloadN (q := 50) d2_49 rfl rfl ?_
        exact Wk.retI rfl d2_50 (by decide) (by decide) ⟨⟨_, rfl, Or.inr (Or.inl ⟨h1, h2, h3, rfl⟩)⟩, rfl⟩
      · refine Wk.iconst (q := 46) (v := (-1 : Int32)) d2_45 rfl rfl ?_
        refine Wk.goto (q := 50) d2_46 (by decide) rfl ?_
        exact Wk.retI rfl d2_50 (by decide) (by decide) ⟨⟨_, rfl, Or.inr (Or.inr (Or.inl ⟨h1, h2, h3, rfl⟩))⟩, rfl⟩
    · refine Wk.iinc (q := 24) (v := (2 : Int32)) (ls' := #[.val (.ref a1), .val (.int (0 : Int32)), .val (.int (3 : Int32)), .val (.int (2 : Int32))]) d2_21 rfl rfl (by decide) rfl ?_
      refine Wk.goto (q := 2) d2_24 (by decide) rfl ?_
      refine Wk.iloadN (q := 3) d2_2 rfl rfl ?_
      refine Wk.iloadN (q := 4) d2_3 rfl rfl ?_
      refine Wk.icmpF (q := 7) d2_4 rfl (by decide : (2 : Int32) < (3 : Int32)) ?_
      refine Wk.getS (q := 10) (w_13 hw) Via.refl F.s_T d2_7 rfl ?_
      refine Wk.aloadN (q := 11) d2_10 rfl rfl rfl ?_
      refine Wk.iloadN (q := 12) d2_11 rfl rfl ?_
      refine Wk.baloadB (q := 13) A1 (by rw [S1]; decide) e_2 d2_12 rfl ?_
      refine Wk.sipush (q := 16) (v := (255 : Int32)) d2_13 rfl rfl ?_
      refine Wk.iand (q := 17) (v := (b2 &&& (255 : Int32))) d2_16 rfl rfl ?_
      refine Wk.baloadZ (q := 18) F.r_T (by rw [F.z_T]; exact own_in (own_255 b2).1 (by have := (own_255 b2).2; omega)) (F.t_T _ (by have := own_clamp (own_255 b2).1; have := (own_255 b2).2; omega)) d2_17 rfl ?_
      refine Wk.ifc (q := 27) (q' := 21) d2_18 (by decide) rfl rfl (fun (h4 : (tabN (b2 &&& (255 : Int32)).toNatClampNeg) = (0 : Int32)) => ?_) (fun (h4 : ¬ (tabN (b2 &&& (255 : Int32)).toNatClampNeg) = (0 : Int32)) => ?_)
      · refine Wk.iloadN (q := 28) d2_27 rfl rfl ?_
        refine Wk.iloadN (q := 29) d2_28 rfl rfl ?_
        refine Wk.icmpF (q := 32) d2_29 rfl (by decide : ¬ (2 : Int32) = (0 : Int32)) ?_
        refine Wk.iloadN (q := 33) d2_32 rfl rfl ?_
        refine Wk.iloadN (q := 34) d2_33 rfl rfl ?_
        refine Wk.icmpF (q := 37) d2_34 rfl (by decide : ¬ (2 : Int32) = (3 : Int32)) ?_
        refine Wk.aloadN (q := 38) d2_37 rfl rfl rfl ?_
        refine Wk.iloadN (q := 39) d2_38 rfl rfl ?_
        refine Wk.baloadB (q := 40) A1 (by rw [S1]; decide) e_2 d2_39 rfl ?_
        refine Wk.bipush (q := 42) (v := (58 : Int32)) d2_40 rfl rfl ?_
        refine Wk.icmp (q := 49) (q' := 45) d2_42 (by decide) rfl rfl (fun (h5 : b2 = (58 : Int32)) => ?_) (fun (h5 : ¬ b2 = (58 : Int32)) => ?_)
        · refine Wk.iloadN (q := 50) d2_49 rfl rfl ?_
          exact Wk.retI rfl d2_50 (by decide) (by decide) ⟨⟨_, rfl, Or.inr (Or.inr (Or.inr (Or.inl ⟨h1, h2, h4, h5, rfl⟩)))⟩, rfl⟩
        · refine Wk.iconst (q := 46) (v := (-1 : Int32)) d2_45 rfl rfl ?_
          refine Wk.goto (q := 50) d2_46 (by decide) rfl ?_
          exact Wk.retI rfl d2_50 (by decide) (by decide) ⟨⟨_, rfl, Or.inr (Or.inr (Or.inr (Or.inr (Or.inl ⟨h1, h2, h4, h5, rfl⟩))))⟩, rfl⟩
      · refine Wk.iinc (q := 24) (v := (3 : Int32)) (ls' := #[.val (.ref a1), .val (.int (0 : Int32)), .val (.int (3 : Int32)), .val (.int (3 : Int32))]) d2_21 rfl rfl (by decide) rfl ?_
        refine Wk.goto (q := 2) d2_24 (by decide) rfl ?_
        refine Wk.iloadN (q := 3) d2_2 rfl rfl ?_
        refine Wk.iloadN (q := 4) d2_3 rfl rfl ?_
        refine Wk.icmpT (q := 27) d2_4 (by decide) rfl (by decide : ¬ (3 : Int32) < (3 : Int32)) ?_
        refine Wk.iloadN (q := 28) d2_27 rfl rfl ?_
        refine Wk.iloadN (q := 29) d2_28 rfl rfl ?_
        refine Wk.icmpF (q := 32) d2_29 rfl (by decide : ¬ (3 : Int32) = (0 : Int32)) ?_
        refine Wk.iloadN (q := 33) d2_32 rfl rfl ?_
        refine Wk.iloadN (q := 34) d2_33 rfl rfl ?_
        refine Wk.icmpT (q := 45) d2_34 (by decide) rfl (by decide : (3 : Int32) = (3 : Int32)) ?_
        refine Wk.iconst (q := 46) (v := (-1 : Int32)) d2_45 rfl rfl ?_
        refine Wk.goto (q := 50) d2_46 (by decide) rfl ?_
        exact Wk.retI rfl d2_50 (by decide) (by decide) ⟨⟨_, rfl, Or.inr (Or.inr (Or.inr (Or.inr (Or.inr (⟨h1, h2, h4, rfl⟩)))))⟩, rfl⟩
set_option maxRecDepth 65536 in
set_option maxHeartbeats 40000000 in
theorem m_4 {l : Launch} {Z : State} {a0 : Array Value} {n0 : Nat} {h : Heap}  {a_T : Addr} {c_T : Cell} (hw : ∀ d ∈ tables_1, d.before a0 Z = true) (F : OwnF Z h  a_T c_T) {a1 : Addr} {c1 : Cell} {b0 b1 b2 b3 : Int32} (A1 : Arr Z h a1 c1 .byte) (S1 : c1.slots.size = 4) (e_0 : c1.slots[0]? = some (Value.int b0)) (e_1 : c1.slots[1]? = some (Value.int b1)) (e_2 : c1.slots[2]? = some (Value.int b2)) (e_3 : c1.slots[3]? = some (Value.int b3)) : Met l Z n0 (⟨"com/example/tallykey/tallykey/HttpSyntax", "nameEnd", "([BII)I"⟩ : MethodName) prog_5_method_7_code 4 (Option.some Jvm.ClassFile.FieldType.int) (⟨0, 0, 0, 0⟩ : Room) #[(.ref a1), (.int (0 : Int32)), (.int (4 : Int32))] h (fun v h' => (∃ w, v = some w ∧ ((((tabN (b0 &&& (255 : Int32)).toNatClampNeg) = (0 : Int32)) ∧ w = (.int (-1 : Int32))) ∨ ((¬ (tabN (b0 &&& (255 : Int32)).toNatClampNeg) = (0 : Int32)) ∧ ((tabN (b1 &&& (255 : Int32)).toNatClampNeg) = (0 : Int32)) ∧ (b1 = (58 : Int32)) ∧ w = (.int (1 : Int32))) ∨ ((¬ (tabN (b0 &&& (255 : Int32)).toNatClampNeg) = (0 : Int32)) ∧ ((tabN (b1 &&& (255 : Int32)).toNatClampNeg) = (0 : Int32)) ∧ (¬ b1 = (58 : Int32)) ∧ w = (.int (-1 : Int32))) ∨ ((¬ (tabN (b0 &&& (255 : Int32)).toNatClampNeg) = (0 : Int32)) ∧ (¬ (tabN (b1 &&& (255 : Int32)).toNatClampNeg) = (0 : Int32)) ∧ ((tabN (b2 &&& (255 : Int32)).toNatClampNeg) = (0 : Int32)) ∧ (b2 = (58 : Int32)) ∧ w = (.int (2 : Int32))) ∨ ((¬ (tabN (b0 &&& (255 : Int32)).toNatClampNeg) = (0 : Int32)) ∧ (¬ (tabN (b1 &&& (255 : Int32)).toNatClampNeg) = (0 : Int32)) ∧ ((tabN (b2 &&& (255 : Int32)).toNatClampNeg) = (0 : Int32)) ∧ (¬ b2 = (58 : Int32)) ∧ w = (.int (-1 : Int32))) ∨ ((¬ (tabN (b0 &&& (255 : Int32)).toNatClampNeg) = (0 : Int32)) ∧ (¬ (tabN (b1 &&& (255 : Int32)).toNatClampNeg) = (0 : Int32)) ∧ (¬ (tabN (b2 &&& (255 : Int32)).toNatClampNeg) = (0 : Int32)) ∧ ((tabN (b3 &&& (255 : Int32)).toNatClampNeg) = (0 : Int32)) ∧ (b3 = (58 : Int32)) ∧ w = (.int (3 : Int32))) ∨ ((¬ (tabN (b0 &&& (255 : Int32)).toNatClampNeg) = (0 : Int32)) ∧ (¬ (tabN (b1 &&& (255 : Int32)).toNatClampNeg) = (0 : Int32)) ∧ (¬ (tabN (b2 &&& (255 : Int32)).toNatClampNeg) = (0 : Int32)) ∧ ((tabN (b3 &&& (255 : Int32)).toNatClampNeg) = (0 : Int32)) ∧ (¬ b3 = (58 : Int32)) ∧ w = (.int (-1 : Int32))) ∨ ((¬ (tabN (b0 &&& (255 : Int32)).toNatClampNeg) = (0 : Int32)) ∧ (¬ (tabN (b1 &&& (255 : Int32)).toNatClampNeg) = (0 : Int32)) ∧ (¬ (tabN (b2 &&& (255 : Int32)).toNatClampNeg) = (0 : Int32)) ∧ (¬ (tabN (b3 &&& (255 : Int32)).toNatClampNeg) = (0 : Int32)) ∧ w = (.int (-1 : Int32))))) ∧ h' = h) := by
  refine Met.of_wk (ls := #[.val (.ref a1), .val (.int (0 : Int32)), .val (.int (4 : Int32)), .unset]) (plainFor_of_name pn_1) (fun m => ef_1 m a1 (0 : Int32) (4 : Int32)) ?_
  show Wk l Z n0 "com/example/tallykey/tallykey/HttpSyntax" "nameEnd" prog_5_method_7_code 4 (Option.some Jvm.ClassFile.FieldType.int) (⟨0, 0, 0, 0⟩ : Room) 0 0 (fun v h' => (∃ w, v = some w ∧ ((((tabN (b0 &&& (255 : Int32)).toNatClampNeg) = (0 : Int32)) ∧ w = (.int (-1 : Int32))) ∨ ((¬ (tabN (b0 &&& (255 : Int32)).toNatClampNeg) = (0 : Int32)) ∧ ((tabN (b1 &&& (255 : Int32)).toNatClampNeg) = (0 : Int32)) ∧ (b1 = (58 : Int32)) ∧ w = (.int (1 : Int32))) ∨ ((¬ (tabN (b0 &&& (255 : Int32)).toNatClampNeg) = (0 : Int32)) ∧ ((tabN (b1 &&& (255 : Int32)).toNatClampNeg) = (0 : Int32)) ∧ (¬ b1 = (58 : Int32)) ∧ w = (.int (-1 : Int32))) ∨ ((¬ (tabN (b0 &&& (255 : Int32)).toNatClampNeg) = (0 : Int32)) ∧ (¬ (tabN (b1 &&& (255 : Int32)).toNatClampNeg) = (0 : Int32)) ∧ ((tabN (b2 &&& (255 : Int32)).toNatClampNeg) = (0 : Int32)) ∧ (b2 = (58 : Int32)) ∧ w = (.int (2 : Int32))) ∨ ((¬ (tabN (b0 &&& (255 : Int32)).toNatClampNeg) = (0 : Int32)) ∧ (¬ (tabN (b1 &&& (255 : Int32)).toNatClampNeg) = (0 : Int32)) ∧ ((tabN (b2 &&& (255 : Int32)).toNatClampNeg) = (0 : Int32)) ∧ (¬ b2 = (58 : Int32)) ∧ w = (.int (-1 : Int32))) ∨ ((¬ (tabN (b0 &&& (255 : Int32)).toNatClampNeg) = (0 : Int32)) ∧ (¬ (tabN (b1 &&& (255 : Int32)).toNatClampNeg) = (0 : Int32)) ∧ (¬ (tabN (b2 &&& (255 : Int32)).toNatClampNeg) = (0 : Int32)) ∧ ((tabN (b3 &&& (255 : Int32)).toNatClampNeg) = (0 : Int32)) ∧ (b3 = (58 : Int32)) ∧ w = (.int (3 : Int32))) ∨ ((¬ (tabN (b0 &&& (255 : Int32)).toNatClampNeg) = (0 : Int32)) ∧ (¬ (tabN (b1 &&& (255 : Int32)).toNatClampNeg) = (0 : Int32)) ∧ (¬ (tabN (b2 &&& (255 : Int32)).toNatClampNeg) = (0 : Int32)) ∧ ((tabN (b3 &&& (255 : Int32)).toNatClampNeg) = (0 : Int32)) ∧ (¬ b3 = (58 : Int32)) ∧ w = (.int (-1 : Int32))) ∨ ((¬ (tabN (b0 &&& (255 : Int32)).toNatClampNeg) = (0 : Int32)) ∧ (¬ (tabN (b1 &&& (255 : Int32)).toNatClampNeg) = (0 : Int32)) ∧ (¬ (tabN (b2 &&& (255 : Int32)).toNatClampNeg) = (0 : Int32)) ∧ (¬ (tabN (b3 &&& (255 : Int32)).toNatClampNeg) = (0 : Int32)) ∧ w = (.int (-1 : Int32))))) ∧ h' = h) h 0 0 0 #[.val (.ref a1), .val (.int (0 : Int32)), .val (.int (4 : Int32)), .unset] []
  refine Wk.iloadN (q := 1) d2_0 rfl rfl ?_
  refine Wk.istoreN (q := 2) (ls' := #[.val (.ref a1), .val (.int (0 : Int32)), .val (.int (4 : Int32)), .val (.int (0 : Int32))]) d2_1 rfl rfl ?_
  refine Wk.iloadN (q := 3) d2_2 rfl rfl ?_
  refine Wk.iloadN (q := 4) d2_3 rfl rfl ?_
  refine Wk.icmpF (q := 7) d2_4 rfl (by decide : (0 : Int32) < (4 : Int32)) ?_
  refine Wk.getS (q := 10) (w_13 hw) Via.refl F.s_T d2_7 rfl ?_
  refine Wk.aloadN (q := 11) d2_10 rfl rfl rfl ?_
  refine Wk.iloadN (q := 12) d2_11 rfl rfl ?_
  refine Wk.baloadB (q := 13) A1 (by rw [S1]; decide) e_0 d2_12 rfl ?_
  refine Wk.sipush (q := 16) (v := (255 : Int32)) d2_13 rfl rfl ?_
  refine Wk.iand (q := 17) (v := (b0 &&& (255 : Int32))) d2_16 rfl rfl ?_
  refine Wk.baloadZ (q := 18) F.r_T (by rw [F.z_T]; exact own_in (own_255 b0).1 (by have := (own_255 b0).2; omega)) (F.t_T _ (by have := own_clamp (own_255 b0).1; have := (own_255 b0).2; omega)) d2_17 rfl ?_
  refine Wk.ifc (q := 27) (q' := 21) d2_18 (by decide) rfl rfl (fun (h1 : (tabN (b0 &&& (255 : Int32)).toNatClampNeg) = (0 : Int32)) => ?_) (fun (h1 : ¬ (tabN (b0 &&& (255 : Int32)).toNatClampNeg) = (0 : Int32)) => ?_)
  · refine Wk.iloadN (q := 28) d2_27 rfl rfl ?_
    refine Wk.iloadN (q := 29) d2_28 rfl rfl ?_
    refine Wk.icmpT (q := 45) d2_29 (by decide) rfl (by decide : (0 : Int32) = (0 : Int32)) ?_
    refine Wk.iconst (q := 46) (v := (-1 : Int32)) d2_45 rfl rfl ?_
    refine Wk.goto (q := 50) d2_46 (by decide) rfl ?_
    exact Wk.retI rfl d2_50 (by decide) (by decide) ⟨⟨_, rfl, Or.inl ⟨h1, rfl⟩⟩, rfl⟩
  · refine Wk.iinc (q := 24) (v := (1 : Int32)) (ls' := #[.val (.ref a1), .val (.int (0 : Int32)), .val (.int (4 : Int32)), .val (.int (1 : Int32))]) d2_21 rfl rfl (by decide) rfl ?_
    refine Wk.goto (q := 2) d2_24 (by decide) rfl ?_
    refine Wk.iloadN (q := 3) d2_2 rfl rfl ?_
    refine Wk.iloadN (q := 4) d2_3 rfl rfl ?_
    refine Wk.icmpF (q := 7) d2_4 rfl (by decide : (1 : Int32) < (4 : Int32)) ?_
    refine Wk.getS (q := 10) (w_13 hw) Via.refl F.s_T d2_7 rfl ?_
    refine Wk.aloadN (q := 11) d2_10 rfl rfl rfl ?_
    refine Wk.iloadN (q := 12) d2_11 rfl rfl ?_
    refine Wk.baloadB (q := 13) A1 (by rw [S1]; decide) e_1 d2_12 rfl ?_
    refine Wk.sipush (q := 16) (v := (255 : Int32)) d2_13 rfl rfl ?_
    refine Wk.iand (q := 17) (v := (b1 &&& (255 : Int32))) d2_16 rfl rfl ?_
    refine Wk.baloadZ (q := 18) F.r_T (by rw [F.z_T]; exact own_in (own_255 b1).1 (by have := (own_255 b1).2; omega)) (F.t_T _ (by have := own_clamp (own_255 b1).1; have := (own_255 b1).2; omega)) d2_17 rfl ?_
    refine Wk.ifc (q := 27) (q' := 21) d2_18 (by decide) rfl rfl (fun (h2 : (tabN (b1 &&& (255 : Int32)).toNatClampNeg) = (0 : Int32)) => ?_) (fun (h2 : ¬ (tabN (b1 &&& (255 : Int32)).toNatClampNeg) = (0 : Int32)) => ?_)
    · refine Wk.iloadN (q := 28) d2_27 rfl rfl ?_
      refine Wk.iloadN (q := 29) d2_28 rfl rfl ?_
      refine Wk.icmpF (q := 32) d2_29 rfl (by decide : ¬ (1 : Int32) = (0 : Int32)) ?_
      refine Wk.iloadN (q := 33) d2_32 rfl rfl ?_
      refine Wk.iloadN (q := 34) d2_33 rfl rfl ?_
      refine Wk.icmpF (q := 37) d2_34 rfl (by decide : ¬ (1 : Int32) = (4 : Int32)) ?_
      refine Wk.aloadN (q := 38) d2_37 rfl rfl rfl ?_
      refine Wk.iloadN (q := 39) d2_38 rfl rfl ?_
      refine Wk.baloadB (q := 40) A1 (by rw [S1]; decide) e_1 d2_39 rfl ?_
      refine Wk.bipush (q := 42) (v := (58 : Int32)) d2_40 rfl rfl ?_
      refine Wk.icmp (q := 49) (q' := 45) d2_42 (by decide) rfl rfl (fun (h3 : b1 = (58 : Int32)) => ?_) (fun (h3 : ¬ b1 = (58 : Int32)) => ?_)
      · refine Wk.iloadN (q := 50) d2_49 rfl rfl ?_
        exact Wk.retI rfl d2_50 (by decide) (by decide) ⟨⟨_, rfl, Or.inr (Or.inl ⟨h1, h2, h3, rfl⟩)⟩, rfl⟩
      · refine Wk.iconst (q := 46) (v := (-1 : Int32)) d2_45 rfl rfl ?_
        refine Wk.goto (q := 50) d2_46 (by decide) rfl ?_
        exact Wk.retI rfl d2_50 (by decide) (by decide) ⟨⟨_, rfl, Or.inr (Or.inr (Or.inl ⟨h1, h2, h3, rfl⟩))⟩, rfl⟩
    · refine Wk.iinc (q := 24) (v := (2 : Int32)) (ls' := #[.val (.ref a1), .val (.int (0 : Int32)), .val (.int (4 : Int32)), .val (.int (2 : Int32))]) d2_21 rfl rfl (by decide) rfl ?_
      refine Wk.goto (q := 2) d2_24 (by decide) rfl ?_
      refine Wk.iloadN (q := 3) d2_2 rfl rfl ?_
      refine Wk.iloadN (q := 4) d2_3 rfl rfl ?_
      refine Wk.icmpF (q := 7) d2_4 rfl (by decide : (2 : Int32) < (4 : Int32)) ?_
      refine Wk.getS (q := 10) (w_13 hw) Via.refl F.s_T d2_7 rfl ?_
      refine Wk.aloadN (q := 11) d2_10 rfl rfl rfl ?_
      refine Wk.iloadN (q := 12) d2_11 rfl rfl ?_
      refine Wk.baloadB (q := 13) A1 (by rw [S1]; decide) e_2 d2_12 rfl ?_
      refine Wk.sipush (q := 16) (v := (255 : Int32)) d2_13 rfl rfl ?_
      refine Wk.iand (q := 17) (v := (b2 &&& (255 : Int32))) d2_16 rfl rfl ?_
      refine Wk.baloadZ (q := 18) F.r_T (by rw [F.z_T]; exact own_in (own_255 b2).1 (by have := (own_255 b2).2; omega)) (F.t_T _ (by have := own_clamp (own_255 b2).1; have := (own_255 b2).2; omega)) d2_17 rfl ?_
      refine Wk.ifc (q := 27) (q' := 21) d2_18 (by decide) rfl rfl (fun (h4 : (tabN (b2 &&& (255 : Int32)).toNatClampNeg) = (0 : Int32)) => ?_) (fun (h4 : ¬ (tabN (b2 &&& (255 : Int32)).toNatClampNeg) = (0 : Int32)) => ?_)
      · refine Wk.iloadN (q := 28) d2_27 rfl rfl ?_
        refine Wk.iloadN (q := 29) d2_28 rfl rfl ?_
        refine Wk.icmpF (q := 32) d2_29 rfl (by decide : ¬ (2 : Int32) = (0 : Int32)) ?_
        refine Wk.iloadN (q := 33) d2_32 rfl rfl ?_
        refine Wk.iloadN (q := 34) d2_33 rfl rfl ?_
        refine Wk.icmpF (q := 37) d2_34 rfl (by decide : ¬ (2 : Int32) = (4 : Int32)) ?_
        refine Wk.aloadN (q := 38) d2_37 rfl rfl rfl ?_
        refine Wk.iloadN (q := 39) d2_38 rfl rfl ?_
        refine Wk.baloadB (q := 40) A1 (by rw [S1]; decide) e_2 d2_39 rfl ?_
        refine Wk.bipush (q := 42) (v := (58 : Int32)) d2_40 rfl rfl ?_
        refine Wk.icmp (q := 49) (q' := 45) d2_42 (by decide) rfl rfl (fun (h5 : b2 = (58 : Int32)) => ?_) (fun (h5 : ¬ b2 = (58 : Int32)) => ?_)
        · refine Wk.iloadN (q := 50) d2_49 rfl rfl ?_
          exact Wk.retI rfl d2_50 (by decide) (by decide) ⟨⟨_, rfl, Or.inr (Or.inr (Or.inr (Or.inl ⟨h1, h2, h4, h5, rfl⟩)))⟩, rfl⟩
        · refine Wk.iconst (q := 46) (v := (-1 : Int32)) d2_45 rfl rfl ?_
          refine Wk.goto (q := 50) d2_46 (by decide) rfl ?_
          exact Wk.retI rfl d2_50 (by decide) (by decide) ⟨⟨_, rfl, Or.inr (Or.inr (Or.inr (Or.inr (Or.inl ⟨h1, h2, h4, h5, rfl⟩))))⟩, rfl⟩
      · refine Wk.iinc (q := 24) (v := (3 : Int32)) (ls' := #[.val (.ref a1), .val (.int (0 : Int32)), .val (.int (4 : Int32)), .val (.int (3 : Int32))]) d2_21 rfl rfl (by decide) rfl ?_
        refine Wk.goto (q := 2) d2_24 (by decide) rfl ?_
        refine Wk.iloadN (q := 3) d2_2 rfl rfl ?_
        refine Wk.iloadN (q := 4) d2_3 rfl rfl ?_
        refine Wk.icmpF (q := 7) d2_4 rfl (by decide : (3 : Int32) < (4 : Int32)) ?_
        refine Wk.getS (q := 10) (w_13 hw) Via.refl F.s_T d2_7 rfl ?_
        refine Wk.aloadN (q := 11) d2_10 rfl rfl rfl ?_
        refine Wk.iloadN (q := 12) d2_11 rfl rfl ?_
        refine Wk.baloadB (q := 13) A1 (by rw [S1]; decide) e_3 d2_12 rfl ?_
        refine Wk.sipush (q := 16) (v := (255 : Int32)) d2_13 rfl rfl ?_
        refine Wk.iand (q := 17) (v := (b3 &&& (255 : Int32))) d2_16 rfl rfl ?_
        refine Wk.baloadZ (q := 18) F.r_T (by rw [F.z_T]; exact own_in (own_255 b3).1 (by have := (own_255 b3).2; omega)) (F.t_T _ (by have := own_clamp (own_255 b3).1; have := (own_255 b3).2; omega)) d2_17 rfl ?_
        refine Wk.ifc (q := 27) (q' := 21) d2_18 (by decide) rfl rfl (fun (h6 : (tabN (b3 &&& (255 : Int32)).toNatClampNeg) = (0 : Int32)) => ?_) (fun (h6 : ¬ (tabN (b3 &&& (255 : Int32)).toNatClampNeg) = (0 : Int32)) => ?_)
        · refine Wk.iloadN (q := 28) d2_27 rfl rfl ?_
          refine Wk.iloadN (q := 29) d2_28 rfl rfl ?_
          refine Wk.icmpF (q := 32) d2_29 rfl (by decide : ¬ (3 : Int32) = (0 : Int32)) ?_
          refine Wk.iloadN (q := 33) d2_32 rfl rfl ?_
          refine Wk.iloadN (q := 34) d2_33 rfl rfl ?_
          refine Wk.icmpF (q := 37) d2_34 rfl (by decide : ¬ (3 : Int32) = (4 : Int32)) ?_
          refine Wk.aloadN (q := 38) d2_37 rfl rfl rfl ?_
          refine Wk.iloadN (q := 39) d2_38 rfl rfl ?_
          refine Wk.baloadB (q := 40) A1 (by rw [S1]; decide) e_3 d2_39 rfl ?_
          refine Wk.bipush (q := 42) (v := (58 : Int32)) d2_40 rfl rfl ?_
          refine Wk.icmp (q := 49) (q' := 45) d2_42 (by decide) rfl rfl (fun (h7 : b3 = (58 : Int32)) => ?_) (fun (h7 : ¬ b3 = (58 : Int32)) => ?_)
          · refine Wk.iloadN (q := 50) d2_49 rfl rfl ?_
            exact Wk.retI rfl d2_50 (by decide) (by decide) ⟨⟨_, rfl, Or.inr (Or.inr (Or.inr (Or.inr (Or.inr (Or.inl ⟨h1, h2, h4, h6, h7, rfl⟩)))))⟩, rfl⟩
          · refine Wk.iconst (q := 46) (v := (-1 : Int32)) d2_45 rfl rfl ?_
            refine Wk.goto (q := 50) d2_46 (by decide) rfl ?_
            exact Wk.retI rfl d2_50 (by decide) (by decide) ⟨⟨_, rfl, Or.inr (Or.inr (Or.inr (Or.inr (Or.inr (Or.inr (Or.inl ⟨h1, h2, h4, h6, h7, rfl⟩))))))⟩, rfl⟩
        · refine Wk.iinc (q := 24) (v := (4 : Int32)) (ls' := #[.val (.ref a1), .val (.int (0 : Int32)), .val (.int (4 : Int32)), .val (.int (4 : Int32))]) d2_21 rfl rfl (by decide) rfl ?_
          refine Wk.goto (q := 2) d2_24 (by decide) rfl ?_
          refine Wk.iloadN (q := 3) d2_2 rfl rfl ?_
          refine Wk.iloadN (q := 4) d2_3 rfl rfl ?_
          refine Wk.icmpT (q := 27) d2_4 (by decide) rfl (by decide : ¬ (4 : Int32) < (4 : Int32)) ?_
          refine Wk.iloadN (q := 28) d2_27 rfl rfl ?_
          refine Wk.iloadN (q := 29) d2_28 rfl rfl ?_
          refine Wk.icmpF (q := 32) d2_29 rfl (by decide : ¬ (4 : Int32) = (0 : Int32)) ?_
          refine Wk.iloadN (q := 33) d2_32 rfl rfl ?_
          refine Wk.iloadN (q := 34) d2_33 rfl rfl ?_
          refine Wk.icmpT (q := 45) d2_34 (by decide) rfl (by decide : (4 : Int32) = (4 : Int32)) ?_
          refine Wk.iconst (q := 46) (v := (-1 : Int32)) d2_45 rfl rfl ?_
          refine Wk.goto (q := 50) d2_46 (by decide) rfl ?_
          exact Wk.retI rfl d2_50 (by decide) (by decide) ⟨⟨_, rfl, Or.inr (Or.inr (Or.inr (Or.inr (Or.inr (Or.inr (Or.inr (⟨h1, h2, h4, h6, rfl⟩)))))))⟩, rfl⟩
set_option maxRecDepth 65536 in
set_option maxHeartbeats 40000000 in
theorem m_5 {l : Launch} {Z : State} {a0 : Array Value} {n0 : Nat} {h : Heap}  {a_T : Addr} {c_T : Cell} (hw : ∀ d ∈ tables_1, d.before a0 Z = true) (F : OwnF Z h  a_T c_T) {a1 : Addr} {c1 : Cell} {b0 b1 b2 b3 : Int32} (A1 : Arr Z h a1 c1 .byte) (S1 : c1.slots.size = 4) (e_0 : c1.slots[0]? = some (Value.int b0)) (e_1 : c1.slots[1]? = some (Value.int b1)) (e_2 : c1.slots[2]? = some (Value.int b2)) (e_3 : c1.slots[3]? = some (Value.int b3)) : Met l Z n0 (⟨"com/example/tallykey/tallykey/HttpSyntax", "nameEnd", "([BII)I"⟩ : MethodName) prog_5_method_7_code 4 (Option.some Jvm.ClassFile.FieldType.int) (⟨0, 0, 0, 0⟩ : Room) #[(.ref a1), (.int (1 : Int32)), (.int (1 : Int32))] h (fun v h' => v = some (.int (-1 : Int32)) ∧ h' = h) := by
  refine Met.of_wk (ls := #[.val (.ref a1), .val (.int (1 : Int32)), .val (.int (1 : Int32)), .unset]) (plainFor_of_name pn_1) (fun m => ef_1 m a1 (1 : Int32) (1 : Int32)) ?_
  show Wk l Z n0 "com/example/tallykey/tallykey/HttpSyntax" "nameEnd" prog_5_method_7_code 4 (Option.some Jvm.ClassFile.FieldType.int) (⟨0, 0, 0, 0⟩ : Room) 0 0 (fun v h' => v = some (.int (-1 : Int32)) ∧ h' = h) h 0 0 0 #[.val (.ref a1), .val (.int (1 : Int32)), .val (.int (1 : Int32)), .unset] []
  refine Wk.iloadN (q := 1) d2_0 rfl rfl ?_
  refine Wk.istoreN (q := 2) (ls' := #[.val (.ref a1), .val (.int (1 : Int32)), .val (.int (1 : Int32)), .val (.int (1 : Int32))]) d2_1 rfl rfl ?_
  refine Wk.iloadN (q := 3) d2_2 rfl rfl ?_
  refine Wk.iloadN (q := 4) d2_3 rfl rfl ?_
  refine Wk.icmpT (q := 27) d2_4 (by decide) rfl (by decide : ¬ (1 : Int32) < (1 : Int32)) ?_
  refine Wk.iloadN (q := 28) d2_27 rfl rfl ?_
  refine Wk.iloadN (q := 29) d2_28 rfl rfl ?_
  refine Wk.icmpT (q := 45) d2_29 (by decide) rfl (by decide : (1 : Int32) = (1 : Int32)) ?_
  refine Wk.iconst (q := 46) (v := (-1 : Int32)) d2_45 rfl rfl ?_
  refine Wk.goto (q := 50) d2_46 (by decide) rfl ?_
  exact Wk.retI rfl d2_50 (by decide) (by decide) ⟨rfl, rfl⟩
set_option maxRecDepth 65536 in
set_option maxHeartbeats 40000000 in
theorem m_6 {l : Launch} {Z : State} {a0 : Array Value} {n0 : Nat} {h : Heap}  {a_T : Addr} {c_T : Cell} (hw : ∀ d ∈ tables_1, d.before a0 Z = true) (F : OwnF Z h  a_T c_T) {a1 : Addr} {c1 : Cell} {b0 b1 b2 b3 : Int32} (A1 : Arr Z h a1 c1 .byte) (S1 : c1.slots.size = 4) (e_0 : c1.slots[0]? = some (Value.int b0)) (e_1 : c1.slots[1]? = some (Value.int b1)) (e_2 : c1.slots[2]? = some (Value.int b2)) (e_3 : c1.slots[3]? = some (Value.int b3)) : Met l Z n0 (⟨"com/example/tallykey/tallykey/HttpSyntax", "nameEnd", "([BII)I"⟩ : MethodName) prog_5_method_7_code 4 (Option.some Jvm.ClassFile.FieldType.int) (⟨0, 0, 0, 0⟩ : Room) #[(.ref a1), (.int (1 : Int32)), (.int (2 : Int32))] h (fun v h' => (∃ w, v = some w ∧ ((((tabN (b1 &&& (255 : Int32)).toNatClampNeg) = (0 : Int32)) ∧ w = (.int (-1 : Int32))) ∨ ((¬ (tabN (b1 &&& (255 : Int32)).toNatClampNeg) = (0 : Int32)) ∧ w = (.int (-1 : Int32))))) ∧ h' = h) := by
  refine Met.of_wk (ls := #[.val (.ref a1), .val (.int (1 : Int32)), .val (.int (2 : Int32)), .unset]) (plainFor_of_name pn_1) (fun m => ef_1 m a1 (1 : Int32) (2 : Int32)) ?_
  show Wk l Z n0 "com/example/tallykey/tallykey/HttpSyntax" "nameEnd" prog_5_method_7_code 4 (Option.some Jvm.ClassFile.FieldType.int) (⟨0, 0, 0, 0⟩ : Room) 0 0 (fun v h' => (∃ w, v = some w ∧ ((((tabN (b1 &&& (255 : Int32)).toNatClampNeg) = (0 : Int32)) ∧ w = (.int (-1 : Int32))) ∨ ((¬ (tabN (b1 &&& (255 : Int32)).toNatClampNeg) = (0 : Int32)) ∧ w = (.int (-1 : Int32))))) ∧ h' = h) h 0 0 0 #[.val (.ref a1), .val (.int (1 : Int32)), .val (.int (2 : Int32)), .unset] []
  refine Wk.iloadN (q := 1) d2_0 rfl rfl ?_
  refine Wk.istoreN (q := 2) (ls' := #[.val (.ref a1), .val (.int (1 : Int32)), .val (.int (2 : Int32)), .val (.int (1 : Int32))]) d2_1 rfl rfl ?_
  refine Wk.iloadN (q := 3) d2_2 rfl rfl ?_
  refine Wk.iloadN (q := 4) d2_3 rfl rfl ?_
  refine Wk.icmpF (q := 7) d2_4 rfl (by decide : (1 : Int32) < (2 : Int32)) ?_
  refine Wk.getS (q := 10) (w_13 hw) Via.refl F.s_T d2_7 rfl ?_
  refine Wk.aloadN (q := 11) d2_10 rfl rfl rfl ?_
  refine Wk.iloadN (q := 12) d2_11 rfl rfl ?_
  refine Wk.baloadB (q := 13) A1 (by rw [S1]; decide) e_1 d2_12 rfl ?_
  refine Wk.sipush (q := 16) (v := (255 : Int32)) d2_13 rfl rfl ?_
  refine Wk.iand (q := 17) (v := (b1 &&& (255 : Int32))) d2_16 rfl rfl ?_
  refine Wk.baloadZ (q := 18) F.r_T (by rw [F.z_T]; exact own_in (own_255 b1).1 (by have := (own_255 b1).2; omega)) (F.t_T _ (by have := own_clamp (own_255 b1).1; have := (own_255 b1).2; omega)) d2_17 rfl ?_
  refine Wk.ifc (q := 27) (q' := 21) d2_18 (by decide) rfl rfl (fun (h1 : (tabN (b1 &&& (255 : Int32)).toNatClampNeg) = (0 : Int32)) => ?_) (fun (h1 : ¬ (tabN (b1 &&& (255 : Int32)).toNatClampNeg) = (0 : Int32)) => ?_)
  · refine Wk.iloadN (q := 28) d2_27 rfl rfl ?_
    refine Wk.iloadN (q := 29) d2_28 rfl rfl ?_
    refine Wk.icmpT (q := 45) d2_29 (by decide) rfl (by decide : (1 : Int32) = (1 : Int32)) ?_
    refine Wk.iconst (q := 46) (v := (-1 : Int32)) d2_45 rfl rfl ?_
    refine Wk.goto (q := 50) d2_46 (by decide) rfl ?_
    exact Wk.retI rfl d2_50 (by decide) (by decide) ⟨⟨_, rfl, Or.inl ⟨h1, rfl⟩⟩, rfl⟩
  · refine Wk.iinc (q := 24) (v := (2 : Int32)) (ls' := #[.val (.ref a1), .val (.int (1 : Int32)), .val (.int (2 : Int32)), .val (.int (2 : Int32))]) d2_21 rfl rfl (by decide) rfl ?_
    refine Wk.goto (q := 2) d2_24 (by decide) rfl ?_
    refine Wk.iloadN (q := 3) d2_2 rfl rfl ?_
    refine Wk.iloadN (q := 4) d2_3 rfl rfl ?_
    refine Wk.icmpT (q := 27) d2_4 (by decide) rfl (by decide : ¬ (2 : Int32) < (2 : Int32)) ?_
    refine Wk.iloadN (q := 28) d2_27 rfl rfl ?_
    refine Wk.iloadN (q := 29) d2_28 rfl rfl ?_
    refine Wk.icmpF (q := 32) d2_29 rfl (by decide : ¬ (2 : Int32) = (1 : Int32)) ?_
    refine Wk.iloadN (q := 33) d2_32 rfl rfl ?_
    refine Wk.iloadN (q := 34) d2_33 rfl rfl ?_
    refine Wk.icmpT (q := 45) d2_34 (by decide) rfl (by decide : (2 : Int32) = (2 : Int32)) ?_
    refine Wk.iconst (q := 46) (v := (-1 : Int32)) d2_45 rfl rfl ?_
    refine Wk.goto (q := 50) d2_46 (by decide) rfl ?_
    exact Wk.retI rfl d2_50 (by decide) (by decide) ⟨⟨_, rfl, Or.inr (⟨h1, rfl⟩)⟩, rfl⟩
set_option maxRecDepth 65536 in
set_option maxHeartbeats 40000000 in
theorem m_7 {l : Launch} {Z : State} {a0 : Array Value} {n0 : Nat} {h : Heap}  {a_T : Addr} {c_T : Cell} (hw : ∀ d ∈ tables_1, d.before a0 Z = true) (F : OwnF Z h  a_T c_T) {a1 : Addr} {c1 : Cell} {b0 b1 b2 b3 : Int32} (A1 : Arr Z h a1 c1 .byte) (S1 : c1.slots.size = 4) (e_0 : c1.slots[0]? = some (Value.int b0)) (e_1 : c1.slots[1]? = some (Value.int b1)) (e_2 : c1.slots[2]? = some (Value.int b2)) (e_3 : c1.slots[3]? = some (Value.int b3)) : Met l Z n0 (⟨"com/example/tallykey/tallykey/HttpSyntax", "nameEnd", "([BII)I"⟩ : MethodName) prog_5_method_7_code 4 (Option.some Jvm.ClassFile.FieldType.int) (⟨0, 0, 0, 0⟩ : Room) #[(.ref a1), (.int (1 : Int32)), (.int (3 : Int32))] h (fun v h' => (∃ w, v = some w ∧ ((((tabN (b1 &&& (255 : Int32)).toNatClampNeg) = (0 : Int32)) ∧ w = (.int (-1 : Int32))) ∨ ((¬ (tabN (b1 &&& (255 : Int32)).toNatClampNeg) = (0 : Int32)) ∧ ((tabN (b2 &&& (255 : Int32)).toNatClampNeg) = (0 : Int32)) ∧ (b2 = (58 : Int32)) ∧ w = (.int (2 : Int32))) ∨ ((¬ (tabN (b1 &&& (255 : Int32)).toNatClampNeg) = (0 : Int32)) ∧ ((tabN (b2 &&& (255 : Int32)).toNatClampNeg) = (0 : Int32)) ∧ (¬ b2 = (58 : Int32)) ∧ w = (.int (-1 : Int32))) ∨ ((¬ (tabN (b1 &&& (255 : Int32)).toNatClampNeg) = (0 : Int32)) ∧ (¬ (tabN (b2 &&& (255 : Int32)).toNatClampNeg) = (0 : Int32)) ∧ w = (.int (-1 : Int32))))) ∧ h' = h) := by
  refine Met.of_wk (ls := #[.val (.ref a1), .val (.int (1 : Int32)), .val (.int (3 : Int32)), .unset]) (plainFor_of_name pn_1) (fun m => ef_1 m a1 (1 : Int32) (3 : Int32)) ?_
  show Wk l Z n0 "com/example/tallykey/tallykey/HttpSyntax" "nameEnd" prog_5_method_7_code 4 (Option.some Jvm.ClassFile.FieldType.int) (⟨0, 0, 0, 0⟩ : Room) 0 0 (fun v h' => (∃ w, v = some w ∧ ((((tabN (b1 &&& (255 : Int32)).toNatClampNeg) = (0 : Int32)) ∧ w = (.int (-1 : Int32))) ∨ ((¬ (tabN (b1 &&& (255 : Int32)).toNatClampNeg) = (0 : Int32)) ∧ ((tabN (b2 &&& (255 : Int32)).toNatClampNeg) = (0 : Int32)) ∧ (b2 = (58 : Int32)) ∧ w = (.int (2 : Int32))) ∨ ((¬ (tabN (b1 &&& (255 : Int32)).toNatClampNeg) = (0 : Int32)) ∧ ((tabN (b2 &&& (255 : Int32)).toNatClampNeg) = (0 : Int32)) ∧ (¬ b2 = (58 : Int32)) ∧ w = (.int (-1 : Int32))) ∨ ((¬ (tabN (b1 &&& (255 : Int32)).toNatClampNeg) = (0 : Int32)) ∧ (¬ (tabN (b2 &&& (255 : Int32)).toNatClampNeg) = (0 : Int32)) ∧ w = (.int (-1 : Int32))))) ∧ h' = h) h 0 0 0 #[.val (.ref a1), .val (.int (1 : Int32)), .val (.int (3 : Int32)), .unset] []
  refine Wk.iloadN (q := 1) d2_0 rfl rfl ?_
  refine Wk.istoreN (q := 2) (ls' := #[.val (.ref a1), .val (.int (1 : Int32)), .val (.int (3 : Int32)), .val (.int (1 : Int32))]) d2_1 rfl rfl ?_
  refine Wk.iloadN (q := 3) d2_2 rfl rfl ?_
  refine Wk.iloadN (q := 4) d2_3 rfl rfl ?_
  refine Wk.icmpF (q := 7) d2_4 rfl (by decide : (1 : Int32) < (3 : Int32)) ?_
  refine Wk.getS (q := 10) (w_13 hw) Via.refl F.s_T d2_7 rfl ?_
  refine Wk.aloadN (q := 11) d2_10 rfl rfl rfl ?_
  refine Wk.iloadN (q := 12) d2_11 rfl rfl ?_
  refine Wk.baloadB (q := 13) A1 (by rw [S1]; decide) e_1 d2_12 rfl ?_
  refine Wk.sipush (q := 16) (v := (255 : Int32)) d2_13 rfl rfl ?_
  refine Wk.iand (q := 17) (v := (b1 &&& (255 : Int32))) d2_16 rfl rfl ?_
  refine Wk.baloadZ (q := 18) F.r_T (by rw [F.z_T]; exact own_in (own_255 b1).1 (by have := (own_255 b1).2; omega)) (F.t_T _ (by have := own_clamp (own_255 b1).1; have := (own_255 b1).2; omega)) d2_17 rfl ?_
  refine Wk.ifc (q := 27) (q' := 21) d2_18 (by decide) rfl rfl (fun (h1 : (tabN (b1 &&& (255 : Int32)).toNatClampNeg) = (0 : Int32)) => ?_) (fun (h1 : ¬ (tabN (b1 &&& (255 : Int32)).toNatClampNeg) = (0 : Int32)) => ?_)
  · refine Wk.iloadN (q := 28) d2_27 rfl rfl ?_
    refine Wk.iloadN (q := 29) d2_28 rfl rfl ?_
    refine Wk.icmpT (q := 45) d2_29 (by decide) rfl (by decide : (1 : Int32) = (1 : Int32)) ?_
    refine Wk.iconst (q := 46) (v := (-1 : Int32)) d2_45 rfl rfl ?_
    refine Wk.goto (q := 50) d2_46 (by decide) rfl ?_
    exact Wk.retI rfl d2_50 (by decide) (by decide) ⟨⟨_, rfl, Or.inl ⟨h1, rfl⟩⟩, rfl⟩
  · refine Wk.iinc (q := 24) (v := (2 : Int32)) (ls' := #[.val (.ref a1), .val (.int (1 : Int32)), .val (.int (3 : Int32)), .val (.int (2 : Int32))]) d2_21 rfl rfl (by decide) rfl ?_
    refine Wk.goto (q := 2) d2_24 (by decide) rfl ?_
    refine Wk.iloadN (q := 3) d2_2 rfl rfl ?_
    refine Wk.iloadN (q := 4) d2_3 rfl rfl ?_
    refine Wk.icmpF (q := 7) d2_4 rfl (by decide : (2 : Int32) < (3 : Int32)) ?_
    refine Wk.getS (q := 10) (w_13 hw) Via.refl F.s_T d2_7 rfl ?_
    refine Wk.aloadN (q := 11) d2_10 rfl rfl rfl ?_
    refine Wk.iloadN (q := 12) d2_11 rfl rfl ?_
    refine Wk.baloadB (q := 13) A1 (by rw [S1]; decide) e_2 d2_12 rfl ?_
    refine Wk.sipush (q := 16) (v := (255 : Int32)) d2_13 rfl rfl ?_
    refine Wk.iand (q := 17) (v := (b2 &&& (255 : Int32))) d2_16 rfl rfl ?_
    refine Wk.baloadZ (q := 18) F.r_T (by rw [F.z_T]; exact own_in (own_255 b2).1 (by have := (own_255 b2).2; omega)) (F.t_T _ (by have := own_clamp (own_255 b2).1; have := (own_255 b2).2; omega)) d2_17 rfl ?_
    refine Wk.ifc (q := 27) (q' := 21) d2_18 (by decide) rfl rfl (fun (h2 : (tabN (b2 &&& (255 : Int32)).toNatClampNeg) = (0 : Int32)) => ?_) (fun (h2 : ¬ (tabN (b2 &&& (255 : Int32)).toNatClampNeg) = (0 : Int32)) => ?_)
    · refine Wk.iloadN (q := 28) d2_27 rfl rfl ?_
      refine Wk.iloadN (q := 29) d2_28 rfl rfl ?_
      refine Wk.icmpF (q := 32) d2_29 rfl (by decide : ¬ (2 : Int32) = (1 : Int32)) ?_
      refine Wk.iloadN (q := 33) d2_32 rfl rfl ?_
      refine Wk.iloadN (q := 34) d2_33 rfl rfl ?_
      refine Wk.icmpF (q := 37) d2_34 rfl (by decide : ¬ (2 : Int32) = (3 : Int32)) ?_
      refine Wk.aloadN (q := 38) d2_37 rfl rfl rfl ?_
      refine Wk.iloadN (q := 39) d2_38 rfl rfl ?_
      refine Wk.baloadB (q := 40) A1 (by rw [S1]; decide) e_2 d2_39 rfl ?_
      refine Wk.bipush (q := 42) (v := (58 : Int32)) d2_40 rfl rfl ?_
      refine Wk.icmp (q := 49) (q' := 45) d2_42 (by decide) rfl rfl (fun (h3 : b2 = (58 : Int32)) => ?_) (fun (h3 : ¬ b2 = (58 : Int32)) => ?_)
      · refine Wk.iloadN (q := 50) d2_49 rfl rfl ?_
        exact Wk.retI rfl d2_50 (by decide) (by decide) ⟨⟨_, rfl, Or.inr (Or.inl ⟨h1, h2, h3, rfl⟩)⟩, rfl⟩
      · refine Wk.iconst (q := 46) (v := (-1 : Int32)) d2_45 rfl rfl ?_
        refine Wk.goto (q := 50) d2_46 (by decide) rfl ?_
        exact Wk.retI rfl d2_50 (by decide) (by decide) ⟨⟨_, rfl, Or.inr (Or.inr (Or.inl ⟨h1, h2, h3, rfl⟩))⟩, rfl⟩
    · refine Wk.iinc (q := 24) (v := (3 : Int32)) (ls' := #[.val (.ref a1), .val (.int (1 : Int32)), .val (.int (3 : Int32)), .val (.int (3 : Int32))]) d2_21 rfl rfl (by decide) rfl ?_
      refine Wk.goto (q := 2) d2_24 (by decide) rfl ?_
      refine Wk.iloadN (q := 3) d2_2 rfl rfl ?_
      refine Wk.iloadN (q := 4) d2_3 rfl rfl ?_
      refine Wk.icmpT (q := 27) d2_4 (by decide) rfl (by decide : ¬ (3 : Int32) < (3 : Int32)) ?_
      refine Wk.iloadN (q := 28) d2_27 rfl rfl ?_
      refine Wk.iloadN (q := 29) d2_28 rfl rfl ?_
      refine Wk.icmpF (q := 32) d2_29 rfl (by decide : ¬ (3 : Int32) = (1 : Int32)) ?_
      refine Wk.iloadN (q := 33) d2_32 rfl rfl ?_
      refine Wk.iloadN (q := 34) d2_33 rfl rfl ?_
      refine Wk.icmpT (q := 45) d2_34 (by decide) rfl (by decide : (3 : Int32) = (3 : Int32)) ?_
      refine Wk.iconst (q := 46) (v := (-1 : Int32)) d2_45 rfl rfl ?_
      refine Wk.goto (q := 50) d2_46 (by decide) rfl ?_
      exact Wk.retI rfl d2_50 (by decide) (by decide) ⟨⟨_, rfl, Or.inr (Or.inr (Or.inr (⟨h1, h2, rfl⟩)))⟩, rfl⟩
set_option maxRecDepth 65536 in
set_option maxHeartbeats 40000000 in
theorem m_8 {l : Launch} {Z : State} {a0 : Array Value} {n0 : Nat} {h : Heap}  {a_T : Addr} {c_T : Cell} (hw : ∀ d ∈ tables_1, d.before a0 Z = true) (F : OwnF Z h  a_T c_T) {a1 : Addr} {c1 : Cell} {b0 b1 b2 b3 : Int32} (A1 : Arr Z h a1 c1 .byte) (S1 : c1.slots.size = 4) (e_0 : c1.slots[0]? = some (Value.int b0)) (e_1 : c1.slots[1]? = some (Value.int b1)) (e_2 : c1.slots[2]? = some (Value.int b2)) (e_3 : c1.slots[3]? = some (Value.int b3)) : Met l Z n0 (⟨"com/example/tallykey/tallykey/HttpSyntax", "nameEnd", "([BII)I"⟩ : MethodName) prog_5_method_7_code 4 (Option.some Jvm.ClassFile.FieldType.int) (⟨0, 0, 0, 0⟩ : Room) #[(.ref a1), (.int (1 : Int32)), (.int (4 : Int32))] h (fun v h' => (∃ w, v = some w ∧ ((((tabN (b1 &&& (255 : Int32)).toNatClampNeg) = (0 : Int32)) ∧ w = (.int (-1 : Int32))) ∨ ((¬ (tabN (b1 &&& (255 : Int32)).toNatClampNeg) = (0 : Int32)) ∧ ((tabN (b2 &&& (255 : Int32)).toNatClampNeg) = (0 : Int32)) ∧ (b2 = (58 : Int32)) ∧ w = (.int (2 : Int32))) ∨ ((¬ (tabN (b1 &&& (255 : Int32)).toNatClampNeg) = (0 : Int32)) ∧ ((tabN (b2 &&& (255 : Int32)).toNatClampNeg) = (0 : Int32)) ∧ (¬ b2 = (58 : Int32)) ∧ w = (.int (-1 : Int32))) ∨ ((¬ (tabN (b1 &&& (255 : Int32)).toNatClampNeg) = (0 : Int32)) ∧ (¬ (tabN (b2 &&& (255 : Int32)).toNatClampNeg) = (0 : Int32)) ∧ ((tabN (b3 &&& (255 : Int32)).toNatClampNeg) = (0 : Int32)) ∧ (b3 = (58 : Int32)) ∧ w = (.int (3 : Int32))) ∨ ((¬ (tabN (b1 &&& (255 : Int32)).toNatClampNeg) = (0 : Int32)) ∧ (¬ (tabN (b2 &&& (255 : Int32)).toNatClampNeg) = (0 : Int32)) ∧ ((tabN (b3 &&& (255 : Int32)).toNatClampNeg) = (0 : Int32)) ∧ (¬ b3 = (58 : Int32)) ∧ w = (.int (-1 : Int32))) ∨ ((¬ (tabN (b1 &&& (255 : Int32)).toNatClampNeg) = (0 : Int32)) ∧ (¬ (tabN (b2 &&& (255 : Int32)).toNatClampNeg) = (0 : Int32)) ∧ (¬ (tabN (b3 &&& (255 : Int32)).toNatClampNeg) = (0 : Int32)) ∧ w = (.int (-1 : Int32))))) ∧ h' = h) := by
  refine Met.of_wk (ls := #[.val (.ref a1), .val (.int (1 : Int32)), .val (.int (4 : Int32)), .unset]) (plainFor_of_name pn_1) (fun m => ef_1 m a1 (1 : Int32) (4 : Int32)) ?_
  show Wk l Z n0 "com/example/tallykey/tallykey/HttpSyntax" "nameEnd" prog_5_method_7_code 4 (Option.some Jvm.ClassFile.FieldType.int) (⟨0, 0, 0, 0⟩ : Room) 0 0 (fun v h' => (∃ w, v = some w ∧ ((((tabN (b1 &&& (255 : Int32)).toNatClampNeg) = (0 : Int32)) ∧ w = (.int (-1 : Int32))) ∨ ((¬ (tabN (b1 &&& (255 : Int32)).toNatClampNeg) = (0 : Int32)) ∧ ((tabN (b2 &&& (255 : Int32)).toNatClampNeg) = (0 : Int32)) ∧ (b2 = (58 : Int32)) ∧ w = (.int (2 : Int32))) ∨ ((¬ (tabN (b1 &&& (255 : Int32)).toNatClampNeg) = (0 : Int32)) ∧ ((tabN (b2 &&& (255 : Int32)).toNatClampNeg) = (0 : Int32)) ∧ (¬ b2 = (58 : Int32)) ∧ w = (.int (-1 : Int32))) ∨ ((¬ (tabN (b1 &&& (255 : Int32)).toNatClampNeg) = (0 : Int32)) ∧ (¬ (tabN (b2 &&& (255 : Int32)).toNatClampNeg) = (0 : Int32)) ∧ ((tabN (b3 &&& (255 : Int32)).toNatClampNeg) = (0 : Int32)) ∧ (b3 = (58 : Int32)) ∧ w = (.int (3 : Int32))) ∨ ((¬ (tabN (b1 &&& (255 : Int32)).toNatClampNeg) = (0 : Int32)) ∧ (¬ (tabN (b2 &&& (255 : Int32)).toNatClampNeg) = (0 : Int32)) ∧ ((tabN (b3 &&& (255 : Int32)).toNatClampNeg) = (0 : Int32)) ∧ (¬ b3 = (58 : Int32)) ∧ w = (.int (-1 : Int32))) ∨ ((¬ (tabN (b1 &&& (255 : Int32)).toNatClampNeg) = (0 : Int32)) ∧ (¬ (tabN (b2 &&& (255 : Int32)).toNatClampNeg) = (0 : Int32)) ∧ (¬ (tabN (b3 &&& (255 : Int32)).toNatClampNeg) = (0 : Int32)) ∧ w = (.int (-1 : Int32))))) ∧ h' = h) h 0 0 0 #[.val (.ref a1), .val (.int (1 : Int32)), .val (.int (4 : Int32)), .unset] []
  refine Wk.iloadN (q := 1) d2_0 rfl rfl ?_
  refine Wk.istoreN (q := 2) (ls' := #[.val (.ref a1), .val (.int (1 : Int32)), .val (.int (4 : Int32)), .val (.int (1 : Int32))]) d2_1 rfl rfl ?_
  refine Wk.iloadN (q := 3) d2_2 rfl rfl ?_
  refine Wk.iloadN (q := 4) d2_3 rfl rfl ?_
  refine Wk.icmpF (q := 7) d2_4 rfl (by decide : (1 : Int32) < (4 : Int32)) ?_
  refine Wk.getS (q := 10) (w_13 hw) Via.refl F.s_T d2_7 rfl ?_
  refine Wk.aloadN (q := 11) d2_10 rfl rfl rfl ?_
  refine Wk.iloadN (q := 12) d2_11 rfl rfl ?_
  refine Wk.baloadB (q := 13) A1 (by rw [S1]; decide) e_1 d2_12 rfl ?_
  refine Wk.sipush (q := 16) (v := (255 : Int32)) d2_13 rfl rfl ?_
  refine Wk.iand (q := 17) (v := (b1 &&& (255 : Int32))) d2_16 rfl rfl ?_
  refine Wk.baloadZ (q := 18) F.r_T (by rw [F.z_T]; exact own_in (own_255 b1).1 (by have := (own_255 b1).2; omega)) (F.t_T _ (by have := own_clamp (own_255 b1).1; have := (own_255 b1).2; omega)) d2_17 rfl ?_
  refine Wk.ifc (q := 27) (q' := 21) d2_18 (by decide) rfl rfl (fun (h1 : (tabN (b1 &&& (255 : Int32)).toNatClampNeg) = (0 : Int32)) => ?_) (fun (h1 : ¬ (tabN (b1 &&& (255 : Int32)).toNatClampNeg) = (0 : Int32)) => ?_)
  · refine Wk.iloadN (q := 28) d2_27 rfl rfl ?_
    refine Wk.iloadN (q := 29) d2_28 rfl rfl ?_
    refine Wk.icmpT (q := 45) d2_29 (by decide) rfl (by decide : (1 : Int32) = (1 : Int32)) ?_
    refine Wk.iconst (q := 46) (v := (-1 : Int32)) d2_45 rfl rfl ?_
    refine Wk.goto (q := 50) d2_46 (by decide) rfl ?_
    exact Wk.retI rfl d2_50 (by decide) (by decide) ⟨⟨_, rfl, Or.inl ⟨h1, rfl⟩⟩, rfl⟩
  · refine Wk.iinc (q := 24) (v := (2 : Int32)) (ls' := #[.val (.ref a1), .val (.int (1 : Int32)), .val (.int (4 : Int32)), .val (.int (2 : Int32))]) d2_21 rfl rfl (by decide) rfl ?_
    refine Wk.goto (q := 2) d2_24 (by decide) rfl ?_
    refine Wk.iloadN (q := 3) d2_2 rfl rfl ?_
    refine Wk.iloadN (q := 4) d2_3 rfl rfl ?_
    refine Wk.icmpF (q := 7) d2_4 rfl (by decide : (2 : Int32) < (4 : Int32)) ?_
    refine Wk.getS (q := 10) (w_13 hw) Via.refl F.s_T d2_7 rfl ?_
    refine Wk.aloadN (q := 11) d2_10 rfl rfl rfl ?_
    refine Wk.iloadN (q := 12) d2_11 rfl rfl ?_
    refine Wk.baloadB (q := 13) A1 (by rw [S1]; decide) e_2 d2_12 rfl ?_
    refine Wk.sipush (q := 16) (v := (255 : Int32)) d2_13 rfl rfl ?_
    refine Wk.iand (q := 17) (v := (b2 &&& (255 : Int32))) d2_16 rfl rfl ?_
    refine Wk.baloadZ (q := 18) F.r_T (by rw [F.z_T]; exact own_in (own_255 b2).1 (by have := (own_255 b2).2; omega)) (F.t_T _ (by have := own_clamp (own_255 b2).1; have := (own_255 b2).2; omega)) d2_17 rfl ?_
    refine Wk.ifc (q := 27) (q' := 21) d2_18 (by decide) rfl rfl (fun (h2 : (tabN (b2 &&& (255 : Int32)).toNatClampNeg) = (0 : Int32)) => ?_) (fun (h2 : ¬ (tabN (b2 &&& (255 : Int32)).toNatClampNeg) = (0 : Int32)) => ?_)
    · refine Wk.iloadN (q := 28) d2_27 rfl rfl ?_
      refine Wk.iloadN (q := 29) d2_28 rfl rfl ?_
      refine Wk.icmpF (q := 32) d2_29 rfl (by decide : ¬ (2 : Int32) = (1 : Int32)) ?_
      refine Wk.iloadN (q := 33) d2_32 rfl rfl ?_
      refine Wk.iloadN (q := 34) d2_33 rfl rfl ?_
      refine Wk.icmpF (q := 37) d2_34 rfl (by decide : ¬ (2 : Int32) = (4 : Int32)) ?_
      refine Wk.aloadN (q := 38) d2_37 rfl rfl rfl ?_
      refine Wk.iloadN (q := 39) d2_38 rfl rfl ?_
      refine Wk.baloadB (q := 40) A1 (by rw [S1]; decide) e_2 d2_39 rfl ?_
      refine Wk.bipush (q := 42) (v := (58 : Int32)) d2_40 rfl rfl ?_
      refine Wk.icmp (q := 49) (q' := 45) d2_42 (by decide) rfl rfl (fun (h3 : b2 = (58 : Int32)) => ?_) (fun (h3 : ¬ b2 = (58 : Int32)) => ?_)
      · refine Wk.iloadN (q := 50) d2_49 rfl rfl ?_
        exact Wk.retI rfl d2_50 (by decide) (by decide) ⟨⟨_, rfl, Or.inr (Or.inl ⟨h1, h2, h3, rfl⟩)⟩, rfl⟩
      · refine Wk.iconst (q := 46) (v := (-1 : Int32)) d2_45 rfl rfl ?_
        refine Wk.goto (q := 50) d2_46 (by decide) rfl ?_
        exact Wk.retI rfl d2_50 (by decide) (by decide) ⟨⟨_, rfl, Or.inr (Or.inr (Or.inl ⟨h1, h2, h3, rfl⟩))⟩, rfl⟩
    · refine Wk.iinc (q := 24) (v := (3 : Int32)) (ls' := #[.val (.ref a1), .val (.int (1 : Int32)), .val (.int (4 : Int32)), .val (.int (3 : Int32))]) d2_21 rfl rfl (by decide) rfl ?_
      refine Wk.goto (q := 2) d2_24 (by decide) rfl ?_
      refine Wk.iloadN (q := 3) d2_2 rfl rfl ?_
      refine Wk.iloadN (q := 4) d2_3 rfl rfl ?_
      refine Wk.icmpF (q := 7) d2_4 rfl (by decide : (3 : Int32) < (4 : Int32)) ?_
      refine Wk.getS (q := 10) (w_13 hw) Via.refl F.s_T d2_7 rfl ?_
      refine Wk.aloadN (q := 11) d2_10 rfl rfl rfl ?_
      refine Wk.iloadN (q := 12) d2_11 rfl rfl ?_
      refine Wk.baloadB (q := 13) A1 (by rw [S1]; decide) e_3 d2_12 rfl ?_
      refine Wk.sipush (q := 16) (v := (255 : Int32)) d2_13 rfl rfl ?_
      refine Wk.iand (q := 17) (v := (b3 &&& (255 : Int32))) d2_16 rfl rfl ?_
      refine Wk.baloadZ (q := 18) F.r_T (by rw [F.z_T]; exact own_in (own_255 b3).1 (by have := (own_255 b3).2; omega)) (F.t_T _ (by have := own_clamp (own_255 b3).1; have := (own_255 b3).2; omega)) d2_17 rfl ?_
      refine Wk.ifc (q := 27) (q' := 21) d2_18 (by decide) rfl rfl (fun (h4 : (tabN (b3 &&& (255 : Int32)).toNatClampNeg) = (0 : Int32)) => ?_) (fun (h4 : ¬ (tabN (b3 &&& (255 : Int32)).toNatClampNeg) = (0 : Int32)) => ?_)
      · refine Wk.iloadN (q := 28) d2_27 rfl rfl ?_
        refine Wk.iloadN (q := 29) d2_28 rfl rfl ?_
        refine Wk.icmpF (q := 32) d2_29 rfl (by decide : ¬ (3 : Int32) = (1 : Int32)) ?_
        refine Wk.iloadN (q := 33) d2_32 rfl rfl ?_
        refine Wk.iloadN (q := 34) d2_33 rfl rfl ?_
        refine Wk.icmpF (q := 37) d2_34 rfl (by decide : ¬ (3 : Int32) = (4 : Int32)) ?_
        refine Wk.aloadN (q := 38) d2_37 rfl rfl rfl ?_
        refine Wk.iloadN (q := 39) d2_38 rfl rfl ?_
        refine Wk.baloadB (q := 40) A1 (by rw [S1]; decide) e_3 d2_39 rfl ?_
        refine Wk.bipush (q := 42) (v := (58 : Int32)) d2_40 rfl rfl ?_
        refine Wk.icmp (q := 49) (q' := 45) d2_42 (by decide) rfl rfl (fun (h5 : b3 = (58 : Int32)) => ?_) (fun (h5 : ¬ b3 = (58 : Int32)) => ?_)
        · refine Wk.iloadN (q := 50) d2_49 rfl rfl ?_
          exact Wk.retI rfl d2_50 (by decide) (by decide) ⟨⟨_, rfl, Or.inr (Or.inr (Or.inr (Or.inl ⟨h1, h2, h4, h5, rfl⟩)))⟩, rfl⟩
        · refine Wk.iconst (q := 46) (v := (-1 : Int32)) d2_45 rfl rfl ?_
          refine Wk.goto (q := 50) d2_46 (by decide) rfl ?_
          exact Wk.retI rfl d2_50 (by decide) (by decide) ⟨⟨_, rfl, Or.inr (Or.inr (Or.inr (Or.inr (Or.inl ⟨h1, h2, h4, h5, rfl⟩))))⟩, rfl⟩
      · refine Wk.iinc (q := 24) (v := (4 : Int32)) (ls' := #[.val (.ref a1), .val (.int (1 : Int32)), .val (.int (4 : Int32)), .val (.int (4 : Int32))]) d2_21 rfl rfl (by decide) rfl ?_
        refine Wk.goto (q := 2) d2_24 (by decide) rfl ?_
        refine Wk.iloadN (q := 3) d2_2 rfl rfl ?_
        refine Wk.iloadN (q := 4) d2_3 rfl rfl ?_
        refine Wk.icmpT (q := 27) d2_4 (by decide) rfl (by decide : ¬ (4 : Int32) < (4 : Int32)) ?_
        refine Wk.iloadN (q := 28) d2_27 rfl rfl ?_
        refine Wk.iloadN (q := 29) d2_28 rfl rfl ?_
        refine Wk.icmpF (q := 32) d2_29 rfl (by decide : ¬ (4 : Int32) = (1 : Int32)) ?_
        refine Wk.iloadN (q := 33) d2_32 rfl rfl ?_
        refine Wk.iloadN (q := 34) d2_33 rfl rfl ?_
        refine Wk.icmpT (q := 45) d2_34 (by decide) rfl (by decide : (4 : Int32) = (4 : Int32)) ?_
        refine Wk.iconst (q := 46) (v := (-1 : Int32)) d2_45 rfl rfl ?_
        refine Wk.goto (q := 50) d2_46 (by decide) rfl ?_
        exact Wk.retI rfl d2_50 (by decide) (by decide) ⟨⟨_, rfl, Or.inr (Or.inr (Or.inr (Or.inr (Or.inr (⟨h1, h2, h4, rfl⟩)))))⟩, rfl⟩
set_option maxRecDepth 65536 in
set_option maxHeartbeats 40000000 in
theorem m_9 {l : Launch} {Z : State} {a0 : Array Value} {n0 : Nat} {h : Heap}  {a_T : Addr} {c_T : Cell} (hw : ∀ d ∈ tables_1, d.before a0 Z = true) (F : OwnF Z h  a_T c_T) {a1 : Addr} {c1 : Cell} {b0 b1 b2 b3 : Int32} (A1 : Arr Z h a1 c1 .byte) (S1 : c1.slots.size = 4) (e_0 : c1.slots[0]? = some (Value.int b0)) (e_1 : c1.slots[1]? = some (Value.int b1)) (e_2 : c1.slots[2]? = some (Value.int b2)) (e_3 : c1.slots[3]? = some (Value.int b3)) : Met l Z n0 (⟨"com/example/tallykey/tallykey/HttpSyntax", "nameEnd", "([BII)I"⟩ : MethodName) prog_5_method_7_code 4 (Option.some Jvm.ClassFile.FieldType.int) (⟨0, 0, 0, 0⟩ : Room) #[(.ref a1), (.int (2 : Int32)), (.int (2 : Int32))] h (fun v h' => v = some (.int (-1 : Int32)) ∧ h' = h) := by
  refine Met.of_wk (ls := #[.val (.ref a1), .val (.int (2 : Int32)), .val (.int (2 : Int32)), .unset]) (plainFor_of_name pn_1) (fun m => ef_1 m a1 (2 : Int32) (2 : Int32)) ?_
  show Wk l Z n0 "com/example/tallykey/tallykey/HttpSyntax" "nameEnd" prog_5_method_7_code 4 (Option.some Jvm.ClassFile.FieldType.int) (⟨0, 0, 0, 0⟩ : Room) 0 0 (fun v h' => v = some (.int (-1 : Int32)) ∧ h' = h) h 0 0 0 #[.val (.ref a1), .val (.int (2 : Int32)), .val (.int (2 : Int32)), .unset] []
  refine Wk.iloadN (q := 1) d2_0 rfl rfl ?_
  refine Wk.istoreN (q := 2) (ls' := #[.val (.ref a1), .val (.int (2 : Int32)), .val (.int (2 : Int32)), .val (.int (2 : Int32))]) d2_1 rfl rfl ?_
  refine Wk.iloadN (q := 3) d2_2 rfl rfl ?_
  refine Wk.iloadN (q := 4) d2_3 rfl rfl ?_
  refine Wk.icmpT (q := 27) d2_4 (by decide) rfl (by decide : ¬ (2 : Int32) < (2 : Int32)) ?_
  refine Wk.iloadN (q := 28) d2_27 rfl rfl ?_
  refine Wk.iloadN (q := 29) d2_28 rfl rfl ?_
  refine Wk.icmpT (q := 45) d2_29 (by decide) rfl (by decide : (2 : Int32) = (2 : Int32)) ?_
  refine Wk.iconst (q := 46) (v := (-1 : Int32)) d2_45 rfl rfl ?_
  refine Wk.goto (q := 50) d2_46 (by decide) rfl ?_
  exact Wk.retI rfl d2_50 (by decide) (by decide) ⟨rfl, rfl⟩
set_option maxRecDepth 65536 in
set_option maxHeartbeats 40000000 in
theorem m_10 {l : Launch} {Z : State} {a0 : Array Value} {n0 : Nat} {h : Heap}  {a_T : Addr} {c_T : Cell} (hw : ∀ d ∈ tables_1, d.before a0 Z = true) (F : OwnF Z h  a_T c_T) {a1 : Addr} {c1 : Cell} {b0 b1 b2 b3 : Int32} (A1 : Arr Z h a1 c1 .byte) (S1 : c1.slots.size = 4) (e_0 : c1.slots[0]? = some (Value.int b0)) (e_1 : c1.slots[1]? = some (Value.int b1)) (e_2 : c1.slots[2]? = some (Value.int b2)) (e_3 : c1.slots[3]? = some (Value.int b3)) : Met l Z n0 (⟨"com/example/tallykey/tallykey/HttpSyntax", "nameEnd", "([BII)I"⟩ : MethodName) prog_5_method_7_code 4 (Option.some Jvm.ClassFile.FieldType.int) (⟨0, 0, 0, 0⟩ : Room) #[(.ref a1), (.int (2 : Int32)), (.int (3 : Int32))] h (fun v h' => (∃ w, v = some w ∧ ((((tabN (b2 &&& (255 : Int32)).toNatClampNeg) = (0 : Int32)) ∧ w = (.int (-1 : Int32))) ∨ ((¬ (tabN (b2 &&& (255 : Int32)).toNatClampNeg) = (0 : Int32)) ∧ w = (.int (-1 : Int32))))) ∧ h' = h) := by
  refine Met.of_wk (ls := #[.val (.ref a1), .val (.int (2 : Int32)), .val (.int (3 : Int32)), .unset]) (plainFor_of_name pn_1) (fun m => ef_1 m a1 (2 : Int32) (3 : Int32)) ?_
  show Wk l Z n0 "com/example/tallykey/tallykey/HttpSyntax" "nameEnd" prog_5_method_7_code 4 (Option.some Jvm.ClassFile.FieldType.int) (⟨0, 0, 0, 0⟩ : Room) 0 0 (fun v h' => (∃ w, v = some w ∧ ((((tabN (b2 &&& (255 : Int32)).toNatClampNeg) = (0 : Int32)) ∧ w = (.int (-1 : Int32))) ∨ ((¬ (tabN (b2 &&& (255 : Int32)).toNatClampNeg) = (0 : Int32)) ∧ w = (.int (-1 : Int32))))) ∧ h' = h) h 0 0 0 #[.val (.ref a1), .val (.int (2 : Int32)), .val (.int (3 : Int32)), .unset] []
  refine Wk.iloadN (q := 1) d2_0 rfl rfl ?_
  refine Wk.istoreN (q := 2) (ls' := #[.val (.ref a1), .val (.int (2 : Int32)), .val (.int (3 : Int32)), .val (.int (2 : Int32))]) d2_1 rfl rfl ?_
  refine Wk.iloadN (q := 3) d2_2 rfl rfl ?_
  refine Wk.iloadN (q := 4) d2_3 rfl rfl ?_
  refine Wk.icmpF (q := 7) d2_4 rfl (by decide : (2 : Int32) < (3 : Int32)) ?_
  refine Wk.getS (q := 10) (w_13 hw) Via.refl F.s_T d2_7 rfl ?_
  refine Wk.aloadN (q := 11) d2_10 rfl rfl rfl ?_
  refine Wk.iloadN (q := 12) d2_11 rfl rfl ?_
  refine Wk.baloadB (q := 13) A1 (by rw [S1]; decide) e_2 d2_12 rfl ?_
  refine Wk.sipush (q := 16) (v := (255 : Int32)) d2_13 rfl rfl ?_
  refine Wk.iand (q := 17) (v := (b2 &&& (255 : Int32))) d2_16 rfl rfl ?_
  refine Wk.baloadZ (q := 18) F.r_T (by rw [F.z_T]; exact own_in (own_255 b2).1 (by have := (own_255 b2).2; omega)) (F.t_T _ (by have := own_clamp (own_255 b2).1; have := (own_255 b2).2; omega)) d2_17 rfl ?_
  refine Wk.ifc (q := 27) (q' := 21) d2_18 (by decide) rfl rfl (fun (h1 : (tabN (b2 &&& (255 : Int32)).toNatClampNeg) = (0 : Int32)) => ?_) (fun (h1 : ¬ (tabN (b2 &&& (255 : Int32)).toNatClampNeg) = (0 : Int32)) => ?_)
  · refine Wk.iloadN (q := 28) d2_27 rfl rfl ?_
    refine Wk.iloadN (q := 29) d2_28 rfl rfl ?_
    refine Wk.icmpT (q := 45) d2_29 (by decide) rfl (by decide : (2 : Int32) = (2 : Int32)) ?_
    refine Wk.iconst (q := 46) (v := (-1 : Int32)) d2_45 rfl rfl ?_
    refine Wk.goto (q := 50) d2_46 (by decide) rfl ?_
    exact Wk.retI rfl d2_50 (by decide) (by decide) ⟨⟨_, rfl, Or.inl ⟨h1, rfl⟩⟩, rfl⟩
  · refine Wk.iinc (q := 24) (v := (3 : Int32)) (ls' := #[.val (.ref a1), .val (.int (2 : Int32)), .val (.int (3 : Int32)), .val (.int (3 : Int32))]) d2_21 rfl rfl (by decide) rfl ?_
    refine Wk.goto (q := 2) d2_24 (by decide) rfl ?_
    refine Wk.iloadN (q := 3) d2_2 rfl rfl ?_
    refine Wk.iloadN (q := 4) d2_3 rfl rfl ?_
    refine Wk.icmpT (q := 27) d2_4 (by decide) rfl (by decide : ¬ (3 : Int32) < (3 : Int32)) ?_
    refine Wk.iloadN (q := 28) d2_27 rfl rfl ?_
    refine Wk.iloadN (q := 29) d2_28 rfl rfl ?_
    refine Wk.icmpF (q := 32) d2_29 rfl (by decide : ¬ (3 : Int32) = (2 : Int32)) ?_
    refine Wk.iloadN (q := 33) d2_32 rfl rfl ?_
    refine Wk.iloadN (q := 34) d2_33 rfl rfl ?_
    refine Wk.icmpT (q := 45) d2_34 (by decide) rfl (by decide : (3 : Int32) = (3 : Int32)) ?_
    refine Wk.iconst (q := 46) (v := (-1 : Int32)) d2_45 rfl rfl ?_
    refine Wk.goto (q := 50) d2_46 (by decide) rfl ?_
    exact Wk.retI rfl d2_50 (by decide) (by decide) ⟨⟨_, rfl, Or.inr (⟨h1, rfl⟩)⟩, rfl⟩
set_option maxRecDepth 65536 in
set_option maxHeartbeats 40000000 in
theorem m_11 {l : Launch} {Z : State} {a0 : Array Value} {n0 : Nat} {h : Heap}  {a_T : Addr} {c_T : Cell} (hw : ∀ d ∈ tables_1, d.before a0 Z = true) (F : OwnF Z h  a_T c_T) {a1 : Addr} {c1 : Cell} {b0 b1 b2 b3 : Int32} (A1 : Arr Z h a1 c1 .byte) (S1 : c1.slots.size = 4) (e_0 : c1.slots[0]? = some (Value.int b0)) (e_1 : c1.slots[1]? = some (Value.int b1)) (e_2 : c1.slots[2]? = some (Value.int b2)) (e_3 : c1.slots[3]? = some (Value.int b3)) : Met l Z n0 (⟨"com/example/tallykey/tallykey/HttpSyntax", "nameEnd", "([BII)I"⟩ : MethodName) prog_5_method_7_code 4 (Option.some Jvm.ClassFile.FieldType.int) (⟨0, 0, 0, 0⟩ : Room) #[(.ref a1), (.int (2 : Int32)), (.int (4 : Int32))] h (fun v h' => (∃ w, v = some w ∧ ((((tabN (b2 &&& (255 : Int32)).toNatClampNeg) = (0 : Int32)) ∧ w = (.int (-1 : Int32))) ∨ ((¬ (tabN (b2 &&& (255 : Int32)).toNatClampNeg) = (0 : Int32)) ∧ ((tabN (b3 &&& (255 : Int32)).toNatClampNeg) = (0 : Int32)) ∧ (b3 = (58 : Int32)) ∧ w = (.int (3 : Int32))) ∨ ((¬ (tabN (b2 &&& (255 : Int32)).toNatClampNeg) = (0 : Int32)) ∧ ((tabN (b3 &&& (255 : Int32)).toNatClampNeg) = (0 : Int32)) ∧ (¬ b3 = (58 : Int32)) ∧ w = (.int (-1 : Int32))) ∨ ((¬ (tabN (b2 &&& (255 : Int32)).toNatClampNeg) = (0 : Int32)) ∧ (¬ (tabN (b3 &&& (255 : Int32)).toNatClampNeg) = (0 : Int32)) ∧ w = (.int (-1 : Int32))))) ∧ h' = h) := by
  refine Met.of_wk (ls := #[.val (.ref a1), .val (.int (2 : Int32)), .val (.int (4 : Int32)), .unset]) (plainFor_of_name pn_1) (fun m => ef_1 m a1 (2 : Int32) (4 : Int32)) ?_
  show Wk l Z n0 "com/example/tallykey/tallykey/HttpSyntax" "nameEnd" prog_5_method_7_code 4 (Option.some Jvm.ClassFile.FieldType.int) (⟨0, 0, 0, 0⟩ : Room) 0 0 (fun v h' => (∃ w, v = some w ∧ ((((tabN (b2 &&& (255 : Int32)).toNatClampNeg) = (0 : Int32)) ∧ w = (.int (-1 : Int32))) ∨ ((¬ (tabN (b2 &&& (255 : Int32)).toNatClampNeg) = (0 : Int32)) ∧ ((tabN (b3 &&& (255 : Int32)).toNatClampNeg) = (0 : Int32)) ∧ (b3 = (58 : Int32)) ∧ w = (.int (3 : Int32))) ∨ ((¬ (tabN (b2 &&& (255 : Int32)).toNatClampNeg) = (0 : Int32)) ∧ ((tabN (b3 &&& (255 : Int32)).toNatClampNeg) = (0 : Int32)) ∧ (¬ b3 = (58 : Int32)) ∧ w = (.int (-1 : Int32))) ∨ ((¬ (tabN (b2 &&& (255 : Int32)).toNatClampNeg) = (0 : Int32)) ∧ (¬ (tabN (b3 &&& (255 : Int32)).toNatClampNeg) = (0 : Int32)) ∧ w = (.int (-1 : Int32))))) ∧ h' = h) h 0 0 0 #[.val (.ref a1), .val (.int (2 : Int32)), .val (.int (4 : Int32)), .unset] []
  refine Wk.iloadN (q := 1) d2_0 rfl rfl ?_
  refine Wk.istoreN (q := 2) (ls' := #[.val (.ref a1), .val (.int (2 : Int32)), .val (.int (4 : Int32)), .val (.int (2 : Int32))]) d2_1 rfl rfl ?_
  refine Wk.iloadN (q := 3) d2_2 rfl rfl ?_
  refine Wk.iloadN (q := 4) d2_3 rfl rfl ?_
  refine Wk.icmpF (q := 7) d2_4 rfl (by decide : (2 : Int32) < (4 : Int32)) ?_
  refine Wk.getS (q := 10) (w_13 hw) Via.refl F.s_T d2_7 rfl ?_
  refine Wk.aloadN (q := 11) d2_10 rfl rfl rfl ?_
  refine Wk.iloadN (q := 12) d2_11 rfl rfl ?_
  refine Wk.baloadB (q := 13) A1 (by rw [S1]; decide) e_2 d2_12 rfl ?_
  refine Wk.sipush (q := 16) (v := (255 : Int32)) d2_13 rfl rfl ?_
  refine Wk.iand (q := 17) (v := (b2 &&& (255 : Int32))) d2_16 rfl rfl ?_
  refine Wk.baloadZ (q := 18) F.r_T (by rw [F.z_T]; exact own_in (own_255 b2).1 (by have := (own_255 b2).2; omega)) (F.t_T _ (by have := own_clamp (own_255 b2).1; have := (own_255 b2).2; omega)) d2_17 rfl ?_
  refine Wk.ifc (q := 27) (q' := 21) d2_18 (by decide) rfl rfl (fun (h1 : (tabN (b2 &&& (255 : Int32)).toNatClampNeg) = (0 : Int32)) => ?_) (fun (h1 : ¬ (tabN (b2 &&& (255 : Int32)).toNatClampNeg) = (0 : Int32)) => ?_)
  · refine Wk.iloadN (q := 28) d2_27 rfl rfl ?_
    refine Wk.iloadN (q := 29) d2_28 rfl rfl ?_
    refine Wk.icmpT (q := 45) d2_29 (by decide) rfl (by decide : (2 : Int32) = (2 : Int32)) ?_
    refine Wk.iconst (q := 46) (v := (-1 : Int32)) d2_45 rfl rfl ?_
    refine Wk.goto (q := 50) d2_46 (by decide) rfl ?_
    exact Wk.retI rfl d2_50 (by decide) (by decide) ⟨⟨_, rfl, Or.inl ⟨h1, rfl⟩⟩, rfl⟩
  · refine Wk.iinc (q := 24) (v := (3 : Int32)) (ls' := #[.val (.ref a1), .val (.int (2 : Int32)), .val (.int (4 : Int32)), .val (.int (3 : Int32))]) d2_21 rfl rfl (by decide) rfl ?_
    refine Wk.goto (q := 2) d2_24 (by decide) rfl ?_
    refine Wk.iloadN (q := 3) d2_2 rfl rfl ?_
    refine Wk.iloadN (q := 4) d2_3 rfl rfl ?_
    refine Wk.icmpF (q := 7) d2_4 rfl (by decide : (3 : Int32) < (4 : Int32)) ?_
    refine Wk.getS (q := 10) (w_13 hw) Via.refl F.s_T d2_7 rfl ?_
    refine Wk.aloadN (q := 11) d2_10 rfl rfl rfl ?_
    refine Wk.iloadN (q := 12) d2_11 rfl rfl ?_
    refine Wk.baloadB (q := 13) A1 (by rw [S1]; decide) e_3 d2_12 rfl ?_
    refine Wk.sipush (q := 16) (v := (255 : Int32)) d2_13 rfl rfl ?_
    refine Wk.iand (q := 17) (v := (b3 &&& (255 : Int32))) d2_16 rfl rfl ?_
    refine Wk.baloadZ (q := 18) F.r_T (by rw [F.z_T]; exact own_in (own_255 b3).1 (by have := (own_255 b3).2; omega)) (F.t_T _ (by have := own_clamp (own_255 b3).1; have := (own_255 b3).2; omega)) d2_17 rfl ?_
    refine Wk.ifc (q := 27) (q' := 21) d2_18 (by decide) rfl rfl (fun (h2 : (tabN (b3 &&& (255 : Int32)).toNatClampNeg) = (0 : Int32)) => ?_) (fun (h2 : ¬ (tabN (b3 &&& (255 : Int32)).toNatClampNeg) = (0 : Int32)) => ?_)
    · refine Wk.iloadN (q := 28) d2_27 rfl rfl ?_
      refine Wk.iloadN (q := 29) d2_28 rfl rfl ?_
      refine Wk.icmpF (q := 32) d2_29 rfl (by decide : ¬ (3 : Int32) = (2 : Int32)) ?_
      refine Wk.iloadN (q := 33) d2_32 rfl rfl ?_
      refine Wk.iloadN (q := 34) d2_33 rfl rfl ?_
      refine Wk.icmpF (q := 37) d2_34 rfl (by decide : ¬ (3 : Int32) = (4 : Int32)) ?_
      refine Wk.aloadN (q := 38) d2_37 rfl rfl rfl ?_
      refine Wk.iloadN (q := 39) d2_38 rfl rfl ?_
      refine Wk.baloadB (q := 40) A1 (by rw [S1]; decide) e_3 d2_39 rfl ?_
      refine Wk.bipush (q := 42) (v := (58 : Int32)) d2_40 rfl rfl ?_
      refine Wk.icmp (q := 49) (q' := 45) d2_42 (by decide) rfl rfl (fun (h3 : b3 = (58 : Int32)) => ?_) (fun (h3 : ¬ b3 = (58 : Int32)) => ?_)
      · refine Wk.iloadN (q := 50) d2_49 rfl rfl ?_
        exact Wk.retI rfl d2_50 (by decide) (by decide) ⟨⟨_, rfl, Or.inr (Or.inl ⟨h1, h2, h3, rfl⟩)⟩, rfl⟩
      · refine Wk.iconst (q := 46) (v := (-1 : Int32)) d2_45 rfl rfl ?_
        refine Wk.goto (q := 50) d2_46 (by decide) rfl ?_
        exact Wk.retI rfl d2_50 (by decide) (by decide) ⟨⟨_, rfl, Or.inr (Or.inr (Or.inl ⟨h1, h2, h3, rfl⟩))⟩, rfl⟩
    · refine Wk.iinc (q := 24) (v := (4 : Int32)) (ls' := #[.val (.ref a1), .val (.int (2 : Int32)), .val (.int (4 : Int32)), .val (.int (4 : Int32))]) d2_21 rfl rfl (by decide) rfl ?_
      refine Wk.goto (q := 2) d2_24 (by decide) rfl ?_
      refine Wk.iloadN (q := 3) d2_2 rfl rfl ?_
      refine Wk.iloadN (q := 4) d2_3 rfl rfl ?_
      refine Wk.icmpT (q := 27) d2_4 (by decide) rfl (by decide : ¬ (4 : Int32) < (4 : Int32)) ?_
      refine Wk.iloadN (q := 28) d2_27 rfl rfl ?_
      refine Wk.iloadN (q := 29) d2_28 rfl rfl ?_
      refine Wk.icmpF (q := 32) d2_29 rfl (by decide : ¬ (4 : Int32) = (2 : Int32)) ?_
      refine Wk.iloadN (q := 33) d2_32 rfl rfl ?_
      refine Wk.iloadN (q := 34) d2_33 rfl rfl ?_
      refine Wk.icmpT (q := 45) d2_34 (by decide) rfl (by decide : (4 : Int32) = (4 : Int32)) ?_
      refine Wk.iconst (q := 46) (v := (-1 : Int32)) d2_45 rfl rfl ?_
      refine Wk.goto (q := 50) d2_46 (by decide) rfl ?_
      exact Wk.retI rfl d2_50 (by decide) (by decide) ⟨⟨_, rfl, Or.inr (Or.inr (Or.inr (⟨h1, h2, rfl⟩)))⟩, rfl⟩
set_option maxRecDepth 65536 in
set_option maxHeartbeats 40000000 in
theorem m_12 {l : Launch} {Z : State} {a0 : Array Value} {n0 : Nat} {h : Heap}  {a_T : Addr} {c_T : Cell} (hw : ∀ d ∈ tables_1, d.before a0 Z = true) (F : OwnF Z h  a_T c_T) {a1 : Addr} {c1 : Cell} {b0 b1 b2 b3 : Int32} (A1 : Arr Z h a1 c1 .byte) (S1 : c1.slots.size = 4) (e_0 : c1.slots[0]? = some (Value.int b0)) (e_1 : c1.slots[1]? = some (Value.int b1)) (e_2 : c1.slots[2]? = some (Value.int b2)) (e_3 : c1.slots[3]? = some (Value.int b3)) : Met l Z n0 (⟨"com/example/tallykey/tallykey/HttpSyntax", "nameEnd", "([BII)I"⟩ : MethodName) prog_5_method_7_code 4 (Option.some Jvm.ClassFile.FieldType.int) (⟨0, 0, 0, 0⟩ : Room) #[(.ref a1), (.int (3 : Int32)), (.int (3 : Int32))] h (fun v h' => v = some (.int (-1 : Int32)) ∧ h' = h) := by
  refine Met.of_wk (ls := #[.val (.ref a1), .val (.int (3 : Int32)), .val (.int (3 : Int32)), .unset]) (plainFor_of_name pn_1) (fun m => ef_1 m a1 (3 : Int32) (3 : Int32)) ?_
  show Wk l Z n0 "com/example/tallykey/tallykey/HttpSyntax" "nameEnd" prog_5_method_7_code 4 (Option.some Jvm.ClassFile.FieldType.int) (⟨0, 0, 0, 0⟩ : Room) 0 0 (fun v h' => v = some (.int (-1 : Int32)) ∧ h' = h) h 0 0 0 #[.val (.ref a1), .val (.int (3 : Int32)), .val (.int (3 : Int32)), .unset] []
  refine Wk.iloadN (q := 1) d2_0 rfl rfl ?_
  refine Wk.istoreN (q := 2) (ls' := #[.val (.ref a1), .val (.int (3 : Int32)), .val (.int (3 : Int32)), .val (.int (3 : Int32))]) d2_1 rfl rfl ?_
  refine Wk.iloadN (q := 3) d2_2 rfl rfl ?_
  refine Wk.iloadN (q := 4) d2_3 rfl rfl ?_
  refine Wk.icmpT (q := 27) d2_4 (by decide) rfl (by decide : ¬ (3 : Int32) < (3 : Int32)) ?_
  refine Wk.iloadN (q := 28) d2_27 rfl rfl ?_
  refine Wk.iloadN (q := 29) d2_28 rfl rfl ?_
  refine Wk.icmpT (q := 45) d2_29 (by decide) rfl (by decide : (3 : Int32) = (3 : Int32)) ?_
  refine Wk.iconst (q := 46) (v := (-1 : Int32)) d2_45 rfl rfl ?_
  refine Wk.goto (q := 50) d2_46 (by decide) rfl ?_
  exact Wk.retI rfl d2_50 (by decide) (by decide) ⟨rfl, rfl⟩
set_option maxRecDepth 65536 in
set_option maxHeartbeats 40000000 in
theorem m_13 {l : Launch} {Z : State} {a0 : Array Value} {n0 : Nat} {h : Heap}  {a_T : Addr} {c_T : Cell} (hw : ∀ d ∈ tables_1, d.before a0 Z = true) (F : OwnF Z h  a_T c_T) {a1 : Addr} {c1 : Cell} {b0 b1 b2 b3 : Int32} (A1 : Arr Z h a1 c1 .byte) (S1 : c1.slots.size = 4) (e_0 : c1.slots[0]? = some (Value.int b0)) (e_1 : c1.slots[1]? = some (Value.int b1)) (e_2 : c1.slots[2]? = some (Value.int b2)) (e_3 : c1.slots[3]? = some (Value.int b3)) : Met l Z n0 (⟨"com/example/tallykey/tallykey/HttpSyntax", "nameEnd", "([BII)I"⟩ : MethodName) prog_5_method_7_code 4 (Option.some Jvm.ClassFile.FieldType.int) (⟨0, 0, 0, 0⟩ : Room) #[(.ref a1), (.int (3 : Int32)), (.int (4 : Int32))] h (fun v h' => (∃ w, v = some w ∧ ((((tabN (b3 &&& (255 : Int32)).toNatClampNeg) = (0 : Int32)) ∧ w = (.int (-1 : Int32))) ∨ ((¬ (tabN (b3 &&& (255 : Int32)).toNatClampNeg) = (0 : Int32)) ∧ w = (.int (-1 : Int32))))) ∧ h' = h) := by
  refine Met.of_wk (ls := #[.val (.ref a1), .val (.int (3 : Int32)), .val (.int (4 : Int32)), .unset]) (plainFor_of_name pn_1) (fun m => ef_1 m a1 (3 : Int32) (4 : Int32)) ?_
  show Wk l Z n0 "com/example/tallykey/tallykey/HttpSyntax" "nameEnd" prog_5_method_7_code 4 (Option.some Jvm.ClassFile.FieldType.int) (⟨0, 0, 0, 0⟩ : Room) 0 0 (fun v h' => (∃ w, v = some w ∧ ((((tabN (b3 &&& (255 : Int32)).toNatClampNeg) = (0 : Int32)) ∧ w = (.int (-1 : Int32))) ∨ ((¬ (tabN (b3 &&& (255 : Int32)).toNatClampNeg) = (0 : Int32)) ∧ w = (.int (-1 : Int32))))) ∧ h' = h) h 0 0 0 #[.val (.ref a1), .val (.int (3 : Int32)), .val (.int (4 : Int32)), .unset] []
  refine Wk.iloadN (q := 1) d2_0 rfl rfl ?_
  refine Wk.istoreN (q := 2) (ls' := #[.val (.ref a1), .val (.int (3 : Int32)), .val (.int (4 : Int32)), .val (.int (3 : Int32))]) d2_1 rfl rfl ?_
  refine Wk.iloadN (q := 3) d2_2 rfl rfl ?_
  refine Wk.iloadN (q := 4) d2_3 rfl rfl ?_
  refine Wk.icmpF (q := 7) d2_4 rfl (by decide : (3 : Int32) < (4 : Int32)) ?_
  refine Wk.getS (q := 10) (w_13 hw) Via.refl F.s_T d2_7 rfl ?_
  refine Wk.aloadN (q := 11) d2_10 rfl rfl rfl ?_
  refine Wk.iloadN (q := 12) d2_11 rfl rfl ?_
  refine Wk.baloadB (q := 13) A1 (by rw [S1]; decide) e_3 d2_12 rfl ?_
  refine Wk.sipush (q := 16) (v := (255 : Int32)) d2_13 rfl rfl ?_
  refine Wk.iand (q := 17) (v := (b3 &&& (255 : Int32))) d2_16 rfl rfl ?_
  refine Wk.baloadZ (q := 18) F.r_T (by rw [F.z_T]; exact own_in (own_255 b3).1 (by have := (own_255 b3).2; omega)) (F.t_T _ (by have := own_clamp (own_255 b3).1; have := (own_255 b3).2; omega)) d2_17 rfl ?_
  refine Wk.ifc (q := 27) (q' := 21) d2_18 (by decide) rfl rfl (fun (h1 : (tabN (b3 &&& (255 : Int32)).toNatClampNeg) = (0 : Int32)) => ?_) (fun (h1 : ¬ (tabN (b3 &&& (255 : Int32)).toNatClampNeg) = (0 : Int32)) => ?_)
  · refine Wk.iloadN (q := 28) d2_27 rfl rfl ?_
    refine Wk.iloadN (q := 29) d2_28 rfl rfl ?_
    refine Wk.icmpT (q := 45) d2_29 (by decide) rfl (by decide : (3 : Int32) = (3 : Int32)) ?_
    refine Wk.iconst (q := 46) (v := (-1 : Int32)) d2_45 rfl rfl ?_
    refine Wk.goto (q := 50) d2_46 (by decide) rfl ?_
    exact Wk.retI rfl d2_50 (by decide) (by decide) ⟨⟨_, rfl, Or.inl ⟨h1, rfl⟩⟩, rfl⟩
  · refine Wk.iinc (q := 24) (v := (4 : Int32)) (ls' := #[.val (.ref a1), .val (.int (3 : Int32)), .val (.int (4 : Int32)), .val (.int (4 : Int32))]) d2_21 rfl rfl (by decide) rfl ?_
    refine Wk.goto (q := 2) d2_24 (by decide) rfl ?_
    refine Wk.iloadN (q := 3) d2_2 rfl rfl ?_
    refine Wk.iloadN (q := 4) d2_3 rfl rfl ?_
    refine Wk.icmpT (q := 27) d2_4 (by decide) rfl (by decide : ¬ (4 : Int32) < (4 : Int32)) ?_
    refine Wk.iloadN (q := 28) d2_27 rfl rfl ?_
    refine Wk.iloadN (q := 29) d2_28 rfl rfl ?_
    refine Wk.icmpF (q := 32) d2_29 rfl (by decide : ¬ (4 : Int32) = (3 : Int32)) ?_
    refine Wk.iloadN (q := 33) d2_32 rfl rfl ?_
    refine Wk.iloadN (q := 34) d2_33 rfl rfl ?_
    refine Wk.icmpT (q := 45) d2_34 (by decide) rfl (by decide : (4 : Int32) = (4 : Int32)) ?_
    refine Wk.iconst (q := 46) (v := (-1 : Int32)) d2_45 rfl rfl ?_
    refine Wk.goto (q := 50) d2_46 (by decide) rfl ?_
    exact Wk.retI rfl d2_50 (by decide) (by decide) ⟨⟨_, rfl, Or.inr (⟨h1, rfl⟩)⟩, rfl⟩
set_option maxRecDepth 65536 in
set_option maxHeartbeats 40000000 in
theorem m_14 {l : Launch} {Z : State} {a0 : Array Value} {n0 : Nat} {h : Heap}  {a_T : Addr} {c_T : Cell} (hw : ∀ d ∈ tables_1, d.before a0 Z = true) (F : OwnF Z h  a_T c_T) {a1 : Addr} {c1 : Cell} {b0 b1 b2 b3 : Int32} (A1 : Arr Z h a1 c1 .byte) (S1 : c1.slots.size = 4) (e_0 : c1.slots[0]? = some (Value.int b0)) (e_1 : c1.slots[1]? = some (Value.int b1)) (e_2 : c1.slots[2]? = some (Value.int b2)) (e_3 : c1.slots[3]? = some (Value.int b3)) : Met l Z n0 (⟨"com/example/tallykey/tallykey/HttpSyntax", "nameEnd", "([BII)I"⟩ : MethodName) prog_5_method_7_code 4 (Option.some Jvm.ClassFile.FieldType.int) (⟨0, 0, 0, 0⟩ : Room) #[(.ref a1), (.int (4 : Int32)), (.int (4 : Int32))] h (fun v h' => v = some (.int (-1 : Int32)) ∧ h' = h) := by
  refine Met.of_wk (ls := #[.val (.ref a1), .val (.int (4 : Int32)), .val (.int (4 : Int32)), .unset]) (plainFor_of_name pn_1) (fun m => ef_1 m a1 (4 : Int32) (4 : Int32)) ?_
  show Wk l Z n0 "com/example/tallykey/tallykey/HttpSyntax" "nameEnd" prog_5_method_7_code 4 (Option.some Jvm.ClassFile.FieldType.int) (⟨0, 0, 0, 0⟩ : Room) 0 0 (fun v h' => v = some (.int (-1 : Int32)) ∧ h' = h) h 0 0 0 #[.val (.ref a1), .val (.int (4 : Int32)), .val (.int (4 : Int32)), .unset] []
  refine Wk.iloadN (q := 1) d2_0 rfl rfl ?_
  refine Wk.istoreN (q := 2) (ls' := #[.val (.ref a1), .val (.int (4 : Int32)), .val (.int (4 : Int32)), .val (.int (4 : Int32))]) d2_1 rfl rfl ?_
  refine Wk.iloadN (q := 3) d2_2 rfl rfl ?_
  refine Wk.iloadN (q := 4) d2_3 rfl rfl ?_
  refine Wk.icmpT (q := 27) d2_4 (by decide) rfl (by decide : ¬ (4 : Int32) < (4 : Int32)) ?_
  refine Wk.iloadN (q := 28) d2_27 rfl rfl ?_
  refine Wk.iloadN (q := 29) d2_28 rfl rfl ?_
  refine Wk.icmpT (q := 45) d2_29 (by decide) rfl (by decide : (4 : Int32) = (4 : Int32)) ?_
  refine Wk.iconst (q := 46) (v := (-1 : Int32)) d2_45 rfl rfl ?_
  refine Wk.goto (q := 50) d2_46 (by decide) rfl ?_
  exact Wk.retI rfl d2_50 (by decide) (by decide) ⟨rfl, rfl⟩
set_option maxRecDepth 65536 in
set_option maxHeartbeats 40000000 in
theorem law_tail_0_0 {l : Launch} {Z : State} {a0 : Array Value} {n0 : Nat} {h : Heap}  {a_T : Addr} {c_T : Cell} (hw : ∀ d ∈ tables_1, d.before a0 Z = true) (F : OwnF Z h  a_T c_T) {a1 : Addr} {c1 : Cell} {b0 b1 b2 b3 : Int32} (A1 : Arr Z h a1 c1 .byte) (S1 : c1.slots.size = 4) (e_0 : c1.slots[0]? = some (Value.int b0)) (e_1 : c1.slots[1]? = some (Value.int b1)) (e_2 : c1.slots[2]? = some (Value.int b2)) (e_3 : c1.slots[3]? = some (Value.int b3)) (p0 p1 p2 p3 p4 : Int32) (k_s : ((p4 &&& (2147483647 : Int32)) % (5 : Int32)) = (0 : Int32)) (k_e : (((XT.ushr p4 (8 : Int32)) &&& (2147483647 : Int32)) % (5 : Int32)) = (0 : Int32)) : Wk l Z n0 "com/example/tallykey/tallykey/HttpSyntaxNameEndPinLaw" "law" code maxLocals ret room_1 16 128 (fun v _ => v = some (.int (1 : Int32))) h 1 4 37 #[.val (.int p0), .val (.int p1), .val (.int p2), .val (.int p3), .val (.int p4), .val (.ref a1), .unset, .unset, .unset, .unset] [] := by
  refine Wk.iload (q := 39) at_37 rfl rfl ?_
  refine Wk.ldcI (q := 41) (w_5 hw) at_39 rfl ?_
  refine Wk.iand (q := 42) (v := (p4 &&& (2147483647 : Int32))) at_41 rfl rfl ?_
  refine Wk.iconst (q := 43) (v := (5 : Int32)) at_42 rfl rfl ?_
  refine Wk.irem (q := 44) (v := (0 : Int32)) at_43 rfl (by decide) k_s ?_
  refine Wk.istore (q := 46) (ls' := #[.val (.int p0), .val (.int p1), .val (.int p2), .val (.int p3), .val (.int p4), .val (.ref a1), .val (.int (0 : Int32)), .unset, .unset, .unset]) at_44 rfl rfl ?_
  refine Wk.iload (q := 48) at_46 rfl rfl ?_
  refine Wk.iload (q := 50) at_48 rfl rfl ?_
  refine Wk.bipush (q := 52) (v := (8 : Int32)) at_50 rfl rfl ?_
  refine Wk.iushr (q := 53) (v := (XT.ushr p4 (8 : Int32))) at_52 rfl rfl ?_
  refine Wk.ldcI (q := 55) (w_5 hw) at_53 rfl ?_
  refine Wk.iand (q := 56) (v := ((XT.ushr p4 (8 : Int32)) &&& (2147483647 : Int32))) at_55 rfl rfl ?_
  refine Wk.iconst (q := 57) (v := (5 : Int32)) at_56 rfl rfl ?_
  refine Wk.iload (q := 59) at_57 rfl rfl ?_
  refine Wk.isub (q := 60) (v := (5 : Int32)) at_59 rfl (by decide) ?_
  refine Wk.irem (q := 61) (v := (0 : Int32)) at_60 rfl (by decide) k_e ?_
  refine Wk.iadd (q := 62) (v := (0 : Int32)) at_61 rfl (by decide) ?_
  refine Wk.istore (q := 64) (ls' := #[.val (.int p0), .val (.int p1), .val (.int p2), .val (.int p3), .val (.int p4), .val (.ref a1), .val (.int (0 : Int32)), .val (.int (0 : Int32)), .unset, .unset]) at_62 rfl rfl ?_
  refine Wk.iload (q := 66) at_64 rfl rfl ?_
  refine Wk.istore (q := 68) (ls' := #[.val (.int p0), .val (.int p1), .val (.int p2), .val (.int p3), .val (.int p4), .val (.ref a1), .val (.int (0 : Int32)), .val (.int (0 : Int32)), .val (.int (0 : Int32)), .unset]) at_66 rfl rfl ?_
  refine Wk.iconst (q := 69) (v := (3 : Int32)) at_68 rfl rfl ?_
  refine Wk.iload (q := 71) at_69 rfl rfl ?_
  refine Wk.icmpF (q := 74) at_71 rfl (by decide : ¬ (3 : Int32) < (0 : Int32)) ?_
  refine Wk.iconst (q := 75) (v := (3 : Int32)) at_74 rfl rfl ?_
  refine Wk.iload (q := 77) at_75 rfl rfl ?_
  refine Wk.icmpT (q := 93) at_77 (by decide) rfl (by decide : ¬ (3 : Int32) < (0 : Int32)) ?_
  refine Wk.iconst (q := 94) (v := (2 : Int32)) at_93 rfl rfl ?_
  refine Wk.iload (q := 96) at_94 rfl rfl ?_
  refine Wk.icmpF (q := 99) at_96 rfl (by decide : ¬ (2 : Int32) < (0 : Int32)) ?_
  refine Wk.iconst (q := 100) (v := (2 : Int32)) at_99 rfl rfl ?_
  refine Wk.iload (q := 102) at_100 rfl rfl ?_
  refine Wk.icmpT (q := 118) at_102 (by decide) rfl (by decide : ¬ (2 : Int32) < (0 : Int32)) ?_
  refine Wk.iconst (q := 119) (v := (1 : Int32)) at_118 rfl rfl ?_
  refine Wk.iload (q := 121) at_119 rfl rfl ?_
  refine Wk.icmpF (q := 124) at_121 rfl (by decide : ¬ (1 : Int32) < (0 : Int32)) ?_
  refine Wk.iconst (q := 125) (v := (1 : Int32)) at_124 rfl rfl ?_
  refine Wk.iload (q := 127) at_125 rfl rfl ?_
  refine Wk.icmpT (q := 143) at_127 (by decide) rfl (by decide : ¬ (1 : Int32) < (0 : Int32)) ?_
  refine Wk.iconst (q := 144) (v := (0 : Int32)) at_143 rfl rfl ?_
  refine Wk.iload (q := 146) at_144 rfl rfl ?_
  refine Wk.icmpF (q := 149) at_146 rfl (by decide : ¬ (0 : Int32) < (0 : Int32)) ?_
  refine Wk.iconst (q := 150) (v := (0 : Int32)) at_149 rfl rfl ?_
  refine Wk.iload (q := 152) at_150 rfl rfl ?_
  refine Wk.icmpT (q := 168) at_152 (by decide) rfl (by decide : ¬ (0 : Int32) < (0 : Int32)) ?_
  refine Wk.iconst (q := 169) (v := (-1 : Int32)) at_168 rfl rfl ?_
  refine Wk.istore (q := 171) (ls' := #[.val (.int p0), .val (.int p1), .val (.int p2), .val (.int p3), .val (.int p4), .val (.ref a1), .val (.int (0 : Int32)), .val (.int (0 : Int32)), .val (.int (0 : Int32)), .val (.int (-1 : Int32))]) at_169 rfl rfl ?_
  refine Wk.iload (q := 173) at_171 rfl rfl ?_
  refine Wk.iload (q := 175) at_173 rfl rfl ?_
  refine Wk.icmpT (q := 199) at_175 (by decide) rfl (by decide : ¬ (0 : Int32) < (0 : Int32)) ?_
  refine Wk.aload (q := 201) at_199 rfl rfl rfl ?_
  refine Wk.iload (q := 203) at_201 rfl rfl ?_
  refine Wk.iload (q := 205) at_203 rfl rfl ?_
  refine Wk.callS1 (q := 208) (argsL := [(.ref a1), (.int (0 : Int32)), (.int (0 : Int32))]) (rest := []) (fr := 0) (lo := 0) (v0 := (.int (-1 : Int32))) (m_0 hw F A1 S1 e_0 e_1 e_2 e_3) (w_6 hw) (w_7 hw) (w_8 hw) (w_9 hw) (by decide) pd_0 rfl rfl rfl at_205 rfl (W := 0) rfl (by decide) (by decide) (by decide) (by decide) ?_
  refine Wk.iload (q := 210) at_208 rfl rfl ?_
  refine Wk.icmpF (q := 213) at_210 rfl (by decide : (-1 : Int32) = (-1 : Int32)) ?_
  refine Wk.iconst (q := 214) (v := (1 : Int32)) at_213 rfl rfl ?_
  refine Wk.goto (q := 218) at_214 (by decide) rfl ?_
  exact Wk.retZ rfl rfl at_218 (by decide) (by decide) rfl
set_option maxRecDepth 65536 in
set_option maxHeartbeats 40000000 in
theorem law_tail_0_1 {l : Launch} {Z : State} {a0 : Array Value} {n0 : Nat} {h : Heap}  {a_T : Addr} {c_T : Cell} (hw : ∀ d ∈ tables_1, d.before a0 Z = true) (F : OwnF Z h  a_T c_T) {a1 : Addr} {c1 : Cell} {b0 b1 b2 b3 : Int32} (A1 : Arr Z h a1 c1 .byte) (S1 : c1.slots.size = 4) (e_0 : c1.slots[0]? = some (Value.int b0)) (e_1 : c1.slots[1]? = some (Value.int b1)) (e_2 : c1.slots[2]? = some (Value.int b2)) (e_3 : c1.slots[3]? = some (Value.int b3)) (p0 p1 p2 p3 p4 : Int32) (k_s : ((p4 &&& (2147483647 : Int32)) % (5 : Int32)) = (0 : Int32)) (k_e : (((XT.ushr p4 (8 : Int32)) &&& (2147483647 : Int32)) % (5 : Int32)) = (1 : Int32)) : Wk l Z n0 "com/example/tallykey/tallykey/HttpSyntaxNameEndPinLaw" "law" code maxLocals ret room_1 16 128 (fun v _ => v = some (.int (1 : Int32))) h 1 4 37 #[.val (.int p0), .val (.int p1), .val (.int p2), .val (.int p3), .val (.int p4), .val (.ref a1), .unset, .unset, .unset, .unset] [] := by
  refine Wk.iload (q := 39) at_37 rfl rfl ?_
  refine Wk.ldcI (q := 41) (w_5 hw) at_39 rfl ?_
  refine Wk.iand (q := 42) (v := (p4 &&& (2147483647 : Int32))) at_41 rfl rfl ?_
  refine Wk.iconst (q := 43) (v := (5 : Int32)) at_42 rfl rfl ?_
  refine Wk.irem (q := 44) (v := (0 : Int32)) at_43 rfl (by decide) k_s ?_
  refine Wk.istore (q := 46) (ls' := #[.val (.int p0), .val (.int p1), .val (.int p2), .val (.int p3), .val (.int p4), .val (.ref a1), .val (.int (0 : Int32)), .unset, .unset, .unset]) at_44 rfl rfl ?_
  refine Wk.iload (q := 48) at_46 rfl rfl ?_
  refine Wk.iload (q := 50) at_48 rfl rfl ?_
  refine Wk.bipush (q := 52) (v := (8 : Int32)) at_50 rfl rfl ?_
  refine Wk.iushr (q := 53) (v := (XT.ushr p4 (8 : Int32))) at_52 rfl rfl ?_
  refine Wk.ldcI (q := 55) (w_5 hw) at_53 rfl ?_
  refine Wk.iand (q := 56) (v := ((XT.ushr p4 (8 : Int32)) &&& (2147483647 : Int32))) at_55 rfl rfl ?_
  refine Wk.iconst (q := 57) (v := (5 : Int32)) at_56 rfl rfl ?_
  refine Wk.iload (q := 59) at_57 rfl rfl ?_
  refine Wk.isub (q := 60) (v := (5 : Int32)) at_59 rfl (by decide) ?_
  refine Wk.irem (q := 61) (v := (1 : Int32)) at_60 rfl (by decide) k_e ?_
  refine Wk.iadd (q := 62) (v := (1 : Int32)) at_61 rfl (by decide) ?_
  refine Wk.istore (q := 64) (ls' := #[.val (.int p0), .val (.int p1), .val (.int p2), .val (.int p3), .val (.int p4), .val (.ref a1), .val (.int (0 : Int32)), .val (.int (1 : Int32)), .unset, .unset]) at_62 rfl rfl ?_
  refine Wk.iload (q := 66) at_64 rfl rfl ?_
  refine Wk.istore (q := 68) (ls' := #[.val (.int p0), .val (.int p1), .val (.int p2), .val (.int p3), .val (.int p4), .val (.ref a1), .val (.int (0 : Int32)), .val (.int (1 : Int32)), .val (.int (1 : Int32)), .unset]) at_66 rfl rfl ?_
  refine Wk.iconst (q := 69) (v := (3 : Int32)) at_68 rfl rfl ?_
  refine Wk.iload (q := 71) at_69 rfl rfl ?_
  refine Wk.icmpF (q := 74) at_71 rfl (by decide : ¬ (3 : Int32) < (0 : Int32)) ?_
  refine Wk.iconst (q := 75) (v := (3 : Int32)) at_74 rfl rfl ?_
  refine Wk.iload (q := 77) at_75 rfl rfl ?_
  refine Wk.icmpT (q := 93) at_77 (by decide) rfl (by decide : ¬ (3 : Int32) < (1 : Int32)) ?_
  refine Wk.iconst (q := 94) (v := (2 : Int32)) at_93 rfl rfl ?_
  refine Wk.iload (q := 96) at_94 rfl rfl ?_
  refine Wk.icmpF (q := 99) at_96 rfl (by decide : ¬ (2 : Int32) < (0 : Int32)) ?_
  refine Wk.iconst (q := 100) (v := (2 : Int32)) at_99 rfl rfl ?_
  refine Wk.iload (q := 102) at_100 rfl rfl ?_
  refine Wk.icmpT (q := 118) at_102 (by decide) rfl (by decide : ¬ (2 : Int32) < (1 : Int32)) ?_
  refine Wk.iconst (q := 119) (v := (1 : Int32)) at_118 rfl rfl ?_
  refine Wk.iload (q := 121) at_119 rfl rfl ?_
  refine Wk.icmpF (q := 124) at_121 rfl (by decide : ¬ (1 : Int32) < (0 : Int32)) ?_
  refine Wk.iconst (q := 125) (v := (1 : Int32)) at_124 rfl rfl ?_
  refine Wk.iload (q := 127) at_125 rfl rfl ?_
  refine Wk.icmpT (q := 143) at_127 (by decide) rfl (by decide : ¬ (1 : Int32) < (1 : Int32)) ?_
  refine Wk.iconst (q := 144) (v := (0 : Int32)) at_143 rfl rfl ?_
  refine Wk.iload (q := 146) at_144 rfl rfl ?_
  refine Wk.icmpF (q := 149) at_146 rfl (by decide : ¬ (0 : Int32) < (0 : Int32)) ?_
  refine Wk.iconst (q := 150) (v := (0 : Int32)) at_149 rfl rfl ?_
  refine Wk.iload (q := 152) at_150 rfl rfl ?_
  refine Wk.icmpF (q := 155) at_152 rfl (by decide : (0 : Int32) < (1 : Int32)) ?_
  refine Wk.aload (q := 157) at_155 rfl rfl rfl ?_
  refine Wk.iconst (q := 158) (v := (0 : Int32)) at_157 rfl rfl ?_
  refine Wk.baloadB (q := 159) A1 (by rw [S1]; decide) e_0 at_158 rfl ?_
  refine Wk.callS1 (q := 162) (argsL := [(.int b0)]) (rest := []) (fr := 0) (lo := 0) (v0 := (.int (tabN (b0 &&& (255 : Int32)).toNatClampNeg))) (m_cls hw F b0) (w_10 hw) (w_11 hw) (w_3 hw) (w_12 hw) (by decide) pd_1 rfl rfl rfl at_159 rfl (W := 0) rfl (by decide) (by decide) (by decide) (by decide) ?_
  refine Wk.ifc (q := 168) (q' := 165) at_162 (by decide) rfl rfl (fun (h1 : ¬ (tabN (b0 &&& (255 : Int32)).toNatClampNeg) = (0 : Int32)) => ?_) (fun (h1 : (tabN (b0 &&& (255 : Int32)).toNatClampNeg) = (0 : Int32)) => ?_)
  · refine Wk.iconst (q := 169) (v := (-1 : Int32)) at_168 rfl rfl ?_
    refine Wk.istore (q := 171) (ls' := #[.val (.int p0), .val (.int p1), .val (.int p2), .val (.int p3), .val (.int p4), .val (.ref a1), .val (.int (0 : Int32)), .val (.int (1 : Int32)), .val (.int (1 : Int32)), .val (.int (-1 : Int32))]) at_169 rfl rfl ?_
    refine Wk.iload (q := 173) at_171 rfl rfl ?_
    refine Wk.iload (q := 175) at_173 rfl rfl ?_
    refine Wk.icmpF (q := 178) at_175 rfl (by decide : (0 : Int32) < (1 : Int32)) ?_
    refine Wk.iload (q := 180) at_178 rfl rfl ?_
    refine Wk.iload (q := 182) at_180 rfl rfl ?_
    refine Wk.icmpT (q := 199) at_182 (by decide) rfl (by decide : ¬ (1 : Int32) < (1 : Int32)) ?_
    refine Wk.aload (q := 201) at_199 rfl rfl rfl ?_
    refine Wk.iload (q := 203) at_201 rfl rfl ?_
    refine Wk.iload (q := 205) at_203 rfl rfl ?_
    refine Wk.callS2 (q := 208) (argsL := [(.ref a1), (.int (0 : Int32)), (.int (1 : Int32))]) (rest := []) (fr := 0) (lo := 0) (P := fun w => (((tabN (b0 &&& (255 : Int32)).toNatClampNeg) = (0 : Int32)) ∧ w = (.int (-1 : Int32))) ∨ ((¬ (tabN (b0 &&& (255 : Int32)).toNatClampNeg) = (0 : Int32)) ∧ w = (.int (-1 : Int32)))) (m_1 hw F A1 S1 e_0 e_1 e_2 e_3) (w_6 hw) (w_7 hw) (w_8 hw) (w_9 hw) (by decide) pd_0 rfl rfl rfl at_205 rfl (W := 0) rfl (by decide) (by decide) (by decide) (by decide) ?_
    intro w2 hP; rcases hP with ⟨h3, rfl⟩ | ⟨h4, rfl⟩
    · exact absurd h3 h1
    · refine Wk.iload (q := 210) at_208 rfl rfl ?_
      refine Wk.icmpF (q := 213) at_210 rfl (by decide : (-1 : Int32) = (-1 : Int32)) ?_
      refine Wk.iconst (q := 214) (v := (1 : Int32)) at_213 rfl rfl ?_
      refine Wk.goto (q := 218) at_214 (by decide) rfl ?_
      exact Wk.retZ rfl rfl at_218 (by decide) (by decide) rfl
  · refine Wk.iconst (q := 166) (v := (0 : Int32)) at_165 rfl rfl ?_
    refine Wk.istore (q := 168) (ls' := #[.val (.int p0), .val (.int p1), .val (.int p2), .val (.int p3), .val (.int p4), .val (.ref a1), .val (.int (0 : Int32)), .val (.int (1 : Int32)), .val (.int (0 : Int32)), .unset]) at_166 rfl rfl ?_
    refine Wk.iconst (q := 169) (v := (-1 : Int32)) at_168 rfl rfl ?_
    refine Wk.istore (q := 171) (ls' := #[.val (.int p0), .val (.int p1), .val (.int p2), .val (.int p3), .val (.int p4), .val (.ref a1), .val (.int (0 : Int32)), .val (.int (1 : Int32)), .val (.int (0 : Int32)), .val (.int (-1 : Int32))]) at_169 rfl rfl ?_
    refine Wk.iload (q := 173) at_171 rfl rfl ?_
    refine Wk.iload (q := 175) at_173 rfl rfl ?_
    refine Wk.icmpT (q := 199) at_175 (by decide) rfl (by decide : ¬ (0 : Int32) < (0 : Int32)) ?_
    refine Wk.aload (q := 201) at_199 rfl rfl rfl ?_
    refine Wk.iload (q := 203) at_201 rfl rfl ?_
    refine Wk.iload (q := 205) at_203 rfl rfl ?_
    refine Wk.callS2 (q := 208) (argsL := [(.ref a1), (.int (0 : Int32)), (.int (1 : Int32))]) (rest := []) (fr := 0) (lo := 0) (P := fun w => (((tabN (b0 &&& (255 : Int32)).toNatClampNeg) = (0 : Int32)) ∧ w = (.int (-1 : Int32))) ∨ ((¬ (tabN (b0 &&& (255 : Int32)).toNatClampNeg) = (0 : Int32)) ∧ w = (.int (-1 : Int32)))) (m_1 hw F A1 S1 e_0 e_1 e_2 e_3) (w_6 hw) (w_7 hw) (w_8 hw) (w_9 hw) (by decide) pd_0 rfl rfl rfl at_205 rfl (W := 0) rfl (by decide) (by decide) (by decide) (by decide) ?_
    intro w5 hP; rcases hP with ⟨h6, rfl⟩ | ⟨h7, rfl⟩
    · refine Wk.iload (q := 210) at_208 rfl rfl ?_
      refine Wk.icmpF (q := 213) at_210 rfl (by decide : (-1 : Int32) = (-1 : Int32)) ?_
      refine Wk.iconst (q := 214) (v := (1 : Int32)) at_213 rfl rfl ?_
      refine Wk.goto (q := 218) at_214 (by decide) rfl ?_
      exact Wk.retZ rfl rfl at_218 (by decide) (by decide) rfl
    · exact absurd h1 h7
set_option maxRecDepth 65536 in
set_option maxHeartbeats 40000000 in
theorem law_tail_0_2 {l : Launch} {Z : State} {a0 : Array Value} {n0 : Nat} {h : Heap}  {a_T : Addr} {c_T : Cell} (hw : ∀ d ∈ tables_1, d.before a0 Z = true) (F : OwnF Z h  a_T c_T) {a1 : Addr} {c1 : Cell} {b0 b1 b2 b3 : Int32} (A1 : Arr Z h a1 c1 .byte) (S1 : c1.slots.size = 4) (e_0 : c1.slots[0]? = some (Value.int b0)) (e_1 : c1.slots[1]? = some (Value.int b1)) (e_2 : c1.slots[2]? = some (Value.int b2)) (e_3 : c1.slots[3]? = some (Value.int b3)) (p0 p1 p2 p3 p4 : Int32) (k_s : ((p4 &&& (2147483647 : Int32)) % (5 : Int32)) = (0 : Int32)) (k_e : (((XT.ushr p4 (8 : Int32)) &&& (2147483647 : Int32)) % (5 : Int32)) = (2 : Int32)) : Wk l Z n0 "com/example/tallykey/tallykey/HttpSyntaxNameEndPinLaw" "law" code maxLocals ret room_1 16 128 (fun v _ => v = some (.int (1 : Int32))) h 1 4 37 #[.val (.int p0), .val (.int p1), .val (.int p2), .val (.int p3), .val (.int p4), .val (.ref a1), .unset, .unset, .unset, .unset] [] := by
  refine Wk.iload (q := 39) at_37 rfl rfl ?_
  refine Wk.ldcI (q := 41) (w_5 hw) at_39 rfl ?_
  refine Wk.iand (q := 42) (v := (p4 &&& (2147483647 : Int32))) at_41 rfl rfl ?_
  refine Wk.iconst (q := 43) (v := (5 : Int32)) at_42 rfl rfl ?_
  refine Wk.irem (q := 44) (v := (0 : Int32)) at_43 rfl (by decide) k_s ?_
  refine Wk.istore (q := 46) (ls' := #[.val (.int p0), .val (.int p1), .val (.int p2), .val (.int p3), .val (.int p4), .val (.ref a1), .val (.int (0 : Int32)), .unset, .unset, .unset]) at_44 rfl rfl ?_
  refine Wk.iload (q := 48) at_46 rfl rfl ?_
  refine Wk.iload (q := 50) at_48 rfl rfl ?_
  refine Wk.bipush (q := 52) (v := (8 : Int32)) at_50 rfl rfl ?_
  refine Wk.iushr (q := 53) (v := (XT.ushr p4 (8 : Int32))) at_52 rfl rfl ?_
  refine Wk.ldcI (q := 55) (w_5 hw) at_53 rfl ?_
  refine Wk.iand (q := 56) (v := ((XT.ushr p4 (8 : Int32)) &&& (2147483647 : Int32))) at_55 rfl rfl ?_
  refine Wk.iconst (q := 57) (v := (5 : Int32)) at_56 rfl rfl ?_
  refine Wk.iload (q := 59) at_57 rfl rfl ?_
  refine Wk.isub (q := 60) (v := (5 : Int32)) at_59 rfl (by decide) ?_
  refine Wk.irem (q := 61) (v := (2 : Int32)) at_60 rfl (by decide) k_e ?_
  refine Wk.iadd (q := 62) (v := (2 : Int32)) at_61 rfl (by decide) ?_
  refine Wk.istore (q := 64) (ls' := #[.val (.int p0), .val (.int p1), .val (.int p2), .val (.int p3), .val (.int p4), .val (.ref a1), .val (.int (0 : Int32)), .val (.int (2 : Int32)), .unset, .unset]) at_62 rfl rfl ?_
  refine Wk.iload (q := 66) at_64 rfl rfl ?_
  refine Wk.istore (q := 68) (ls' := #[.val (.int p0), .val (.int p1), .val (.int p2), .val (.int p3), .val (.int p4), .val (.ref a1), .val (.int (0 : Int32)), .val (.int (2 : Int32)), .val (.int (2 : Int32)), .unset]) at_66 rfl rfl ?_
  refine Wk.iconst (q := 69) (v := (3 : Int32)) at_68 rfl rfl ?_
  refine Wk.iload (q := 71) at_69 rfl rfl ?_
  refine Wk.icmpF (q := 74) at_71 rfl (by decide : ¬ (3 : Int32) < (0 : Int32)) ?_
  refine Wk.iconst (q := 75) (v := (3 : Int32)) at_74 rfl rfl ?_
  refine Wk.iload (q := 77) at_75 rfl rfl ?_
  refine Wk.icmpT (q := 93) at_77 (by decide) rfl (by decide : ¬ (3 : Int32) < (2 : Int32)) ?_
  refine Wk.iconst (q := 94) (v := (2 : Int32)) at_93 rfl rfl ?_
  refine Wk.iload (q := 96) at_94 rfl rfl ?_
  refine Wk.icmpF (q := 99) at_96 rfl (by decide : ¬ (2 : Int32) < (0 : Int32)) ?_
  refine Wk.iconst (q := 100) (v := (2 : Int32)) at_99 rfl rfl ?_
  refine Wk.iload (q := 102) at_100 rfl rfl ?_
  refine Wk.icmpT (q := 118) at_102 (by decide) rfl (by decide : ¬ (2 : Int32) < (2 : Int32)) ?_
  refine Wk.iconst (q := 119) (v := (1 : Int32)) at_118 rfl rfl ?_
  refine Wk.iload (q := 121) at_119 rfl rfl ?_
  refine Wk.icmpF (q := 124) at_121 rfl (by decide : ¬ (1 : Int32) < (0 : Int32)) ?_
  refine Wk.iconst (q := 125) (v := (1 : Int32)) at_124 rfl rfl ?_
  refine Wk.iload (q := 127) at_125 rfl rfl ?_
  refine Wk.icmpF (q := 130) at_127 rfl (by decide : (1 : Int32) < (2 : Int32)) ?_
  refine Wk.aload (q := 132) at_130 rfl rfl rfl ?_
  refine Wk.iconst (q := 133) (v := (1 : Int32)) at_132 rfl rfl ?_
  refine Wk.baloadB (q := 134) A1 (by rw [S1]; decide) e_1 at_133 rfl ?_
  refine Wk.callS1 (q := 137) (argsL := [(.int b1)]) (rest := []) (fr := 0) (lo := 0) (v0 := (.int (tabN (b1 &&& (255 : Int32)).toNatClampNeg))) (m_cls hw F b1) (w_10 hw) (w_11 hw) (w_3 hw) (w_12 hw) (by decide) pd_1 rfl rfl rfl at_134 rfl (W := 0) rfl (by decide) (by decide) (by decide) (by decide) ?_
  refine Wk.ifc (q := 143) (q' := 140) at_137 (by decide) rfl rfl (fun (h1 : ¬ (tabN (b1 &&& (255 : Int32)).toNatClampNeg) = (0 : Int32)) => ?_) (fun (h1 : (tabN (b1 &&& (255 : Int32)).toNatClampNeg) = (0 : Int32)) => ?_)
  · refine Wk.iconst (q := 144) (v := (0 : Int32)) at_143 rfl rfl ?_
    refine Wk.iload (q := 146) at_144 rfl rfl ?_
    refine Wk.icmpF (q := 149) at_146 rfl (by decide : ¬ (0 : Int32) < (0 : Int32)) ?_
    refine Wk.iconst (q := 150) (v := (0 : Int32)) at_149 rfl rfl ?_
    refine Wk.iload (q := 152) at_150 rfl rfl ?_
    refine Wk.icmpF (q := 155) at_152 rfl (by decide : (0 : Int32) < (2 : Int32)) ?_
    refine Wk.aload (q := 157) at_155 rfl rfl rfl ?_
    refine Wk.iconst (q := 158) (v := (0 : Int32)) at_157 rfl rfl ?_
    refine Wk.baloadB (q := 159) A1 (by rw [S1]; decide) e_0 at_158 rfl ?_
    refine Wk.callS1 (q := 162) (argsL := [(.int b0)]) (rest := []) (fr := 0) (lo := 0) (v0 := (.int (tabN (b0 &&& (255 : Int32)).toNatClampNeg))) (m_cls hw F b0) (w_10 hw) (w_11 hw) (w_3 hw) (w_12 hw) (by decide) pd_1 rfl rfl rfl at_159 rfl (W := 0) rfl (by decide) (by decide) (by decide) (by decide) ?_
    refine Wk.ifc (q := 168) (q' := 165) at_162 (by decide) rfl rfl (fun (h2 : ¬ (tabN (b0 &&& (255 : Int32)).toNatClampNeg) = (0 : Int32)) => ?_) (fun (h2 : (tabN (b0 &&& (255 : Int32)).toNatClampNeg) = (0 : Int32)) => ?_)
    · refine Wk.iconst (q := 169) (v := (-1 : Int32)) at_168 rfl rfl ?_
      refine Wk.istore (q := 171) (ls' := #[.val (.int p0), .val (.int p1), .val (.int p2), .val (.int p3), .val (.int p4), .val (.ref a1), .val (.int (0 : Int32)), .val (.int (2 : Int32)), .val (.int (2 : Int32)), .val (.int (-1 : Int32))]) at_169 rfl rfl ?_
      refine Wk.iload (q := 173) at_171 rfl rfl ?_
      refine Wk.iload (q := 175) at_173 rfl rfl ?_
      refine Wk.icmpF (q := 178) at_175 rfl (by decide : (0 : Int32) < (2 : Int32)) ?_
      refine Wk.iload (q := 180) at_178 rfl rfl ?_
      refine Wk.iload (q := 182) at_180 rfl rfl ?_
      refine Wk.icmpT (q := 199) at_182 (by decide) rfl (by decide : ¬ (2 : Int32) < (2 : Int32)) ?_
      refine Wk.aload (q := 201) at_199 rfl rfl rfl ?_
      refine Wk.iload (q := 203) at_201 rfl rfl ?_
      refine Wk.iload (q := 205) at_203 rfl rfl ?_
      refine Wk.callS2 (q := 208) (argsL := [(.ref a1), (.int (0 : Int32)), (.int (2 : Int32))]) (rest := []) (fr := 0) (lo := 0) (P := fun w => (((tabN (b0 &&& (255 : Int32)).toNatClampNeg) = (0 : Int32)) ∧ w = (.int (-1 : Int32))) ∨ ((¬ (tabN (b0 &&& (255 : Int32)).toNatClampNeg) = (0 : Int32)) ∧ ((tabN (b1 &&& (255 : Int32)).toNatClampNeg) = (0 : Int32)) ∧ (b1 = (58 : Int32)) ∧ w = (.int (1 : Int32))) ∨ ((¬ (tabN (b0 &&& (255 : Int32)).toNatClampNeg) = (0 : Int32)) ∧ ((tabN (b1 &&& (255 : Int32)).toNatClampNeg) = (0 : Int32)) ∧ (¬ b1 = (58 : Int32)) ∧ w = (.int (-1 : Int32))) ∨ ((¬ (tabN (b0 &&& (255 : Int32)).toNatClampNeg) = (0 : Int32)) ∧ (¬ (tabN (b1 &&& (255 : Int32)).toNatClampNeg) = (0 : Int32)) ∧ w = (.int (-1 : Int32)))) (m_2 hw F A1 S1 e_0 e_1 e_2 e_3) (w_6 hw) (w_7 hw) (w_8 hw) (w_9 hw) (by decide) pd_0 rfl rfl rfl at_205 rfl (W := 0) rfl (by decide) (by decide) (by decide) (by decide) ?_
      intro w3 hP; rcases hP with ⟨h4, rfl⟩ | ⟨h5, h6, h7, rfl⟩ | ⟨h8, h9, h10, rfl⟩ | ⟨h11, h12, rfl⟩
      · exact absurd h4 h2
      · exact absurd h6 h1
      · exact absurd h9 h1
      · refine Wk.iload (q := 210) at_208 rfl rfl ?_
        refine Wk.icmpF (q := 213) at_210 rfl (by decide : (-1 : Int32) = (-1 : Int32)) ?_
        refine Wk.iconst (q := 214) (v := (1 : Int32)) at_213 rfl rfl ?_
        refine Wk.goto (q := 218) at_214 (by decide) rfl ?_
        exact Wk.retZ rfl rfl at_218 (by decide) (by decide) rfl
    · refine Wk.iconst (q := 166) (v := (0 : Int32)) at_165 rfl rfl ?_
      refine Wk.istore (q := 168) (ls' := #[.val (.int p0), .val (.int p1), .val (.int p2), .val (.int p3), .val (.int p4), .val (.ref a1), .val (.int (0 : Int32)), .val (.int (2 : Int32)), .val (.int (0 : Int32)), .unset]) at_166 rfl rfl ?_
      refine Wk.iconst (q := 169) (v := (-1 : Int32)) at_168 rfl rfl ?_
      refine Wk.istore (q := 171) (ls' := #[.val (.int p0), .val (.int p1), .val (.int p2), .val (.int p3), .val (.int p4), .val (.ref a1), .val (.int (0 : Int32)), .val (.int (2 : Int32)), .val (.int (0 : Int32)), .val (.int (-1 : Int32))]) at_169 rfl rfl ?_
      refine Wk.iload (q := 173) at_171 rfl rfl ?_
      refine Wk.iload (q := 175) at_173 rfl rfl ?_
      refine Wk.icmpT (q := 199) at_175 (by decide) rfl (by decide : ¬ (0 : Int32) < (0 : Int32)) ?_
      refine Wk.aload (q := 201) at_199 rfl rfl rfl ?_
      refine Wk.iload (q := 203) at_201 rfl rfl ?_
      refine Wk.iload (q := 205) at_203 rfl rfl ?_
      refine Wk.callS2 (q := 208) (argsL := [(.ref a1), (.int (0 : Int32)), (.int (2 : Int32))]) (rest := []) (fr := 0) (lo := 0) (P := fun w => (((tabN (b0 &&& (255 : Int32)).toNatClampNeg) = (0 : Int32)) ∧ w = (.int (-1 : Int32))) ∨ ((¬ (tabN (b0 &&& (255 : Int32)).toNatClampNeg) = (0 : Int32)) ∧ ((tabN (b1 &&& (255 : Int32)).toNatClampNeg) = (0 : Int32)) ∧ (b1 = (58 : Int32)) ∧ w = (.int (1 : Int32))) ∨ ((¬ (tabN (b0 &&& (255 : Int32)).toNatClampNeg) = (0 : Int32)) ∧ ((tabN (b1 &&& (255 : Int32)).toNatClampNeg) = (0 : Int32)) ∧ (¬ b1 = (58 : Int32)) ∧ w = (.int (-1 : Int32))) ∨ ((¬ (tabN (b0 &&& (255 : Int32)).toNatClampNeg) = (0 : Int32)) ∧ (¬ (tabN (b1 &&& (255 : Int32)).toNatClampNeg) = (0 : Int32)) ∧ w = (.int (-1 : Int32)))) (m_2 hw F A1 S1 e_0 e_1 e_2 e_3) (w_6 hw) (w_7 hw) (w_8 hw) (w_9 hw) (by decide) pd_0 rfl rfl rfl at_205 rfl (W := 0) rfl (by decide) (by decide) (by decide) (by decide) ?_
      intro w13 hP; rcases hP with ⟨h14, rfl⟩ | ⟨h15, h16, h17, rfl⟩ | ⟨h18, h19, h20, rfl⟩ | ⟨h21, h22, rfl⟩
      · refine Wk.iload (q := 210) at_208 rfl rfl ?_
        refine Wk.icmpF (q := 213) at_210 rfl (by decide : (-1 : Int32) = (-1 : Int32)) ?_
        refine Wk.iconst (q := 214) (v := (1 : Int32)) at_213 rfl rfl ?_
        refine Wk.goto (q := 218) at_214 (by decide) rfl ?_
        exact Wk.retZ rfl rfl at_218 (by decide) (by decide) rfl
      · exact absurd h2 h15
      · exact absurd h2 h18
      · exact absurd h2 h21
  · refine Wk.iconst (q := 141) (v := (1 : Int32)) at_140 rfl rfl ?_
    refine Wk.istore (q := 143) (ls' := #[.val (.int p0), .val (.int p1), .val (.int p2), .val (.int p3), .val (.int p4), .val (.ref a1), .val (.int (0 : Int32)), .val (.int (2 : Int32)), .val (.int (1 : Int32)), .unset]) at_141 rfl rfl ?_
    refine Wk.iconst (q := 144) (v := (0 : Int32)) at_143 rfl rfl ?_
    refine Wk.iload (q := 146) at_144 rfl rfl ?_
    refine Wk.icmpF (q := 149) at_146 rfl (by decide : ¬ (0 : Int32) < (0 : Int32)) ?_
    refine Wk.iconst (q := 150) (v := (0 : Int32)) at_149 rfl rfl ?_
    refine Wk.iload (q := 152) at_150 rfl rfl ?_
    refine Wk.icmpF (q := 155) at_152 rfl (by decide : (0 : Int32) < (2 : Int32)) ?_
    refine Wk.aload (q := 157) at_155 rfl rfl rfl ?_
    refine Wk.iconst (q := 158) (v := (0 : Int32)) at_157 rfl rfl ?_
    refine Wk.baloadB (q := 159) A1 (by rw [S1]; decide) e_0 at_158 rfl ?_
    refine Wk.callS1 (q := 162) (argsL := [(.int b0)]) (rest := []) (fr := 0) (lo := 0) (v0 := (.int (tabN (b0 &&& (255 : Int32)).toNatClampNeg))) (m_cls hw F b0) (w_10 hw) (w_11 hw) (w_3 hw) (w_12 hw) (by decide) pd_1 rfl rfl rfl at_159 rfl (W := 0) rfl (by decide) (by decide) (by decide) (by decide) ?_
    refine Wk.ifc (q := 168) (q' := 165) at_162 (by decide) rfl rfl (fun (h23 : ¬ (tabN (b0 &&& (255 : Int32)).toNatClampNeg) = (0 : Int32)) => ?_) (fun (h23 : (tabN (b0 &&& (255 : Int32)).toNatClampNeg) = (0 : Int32)) => ?_)
    · refine Wk.iconst (q := 169) (v := (-1 : Int32)) at_168 rfl rfl ?_
      refine Wk.istore (q := 171) (ls' := #[.val (.int p0), .val (.int p1), .val (.int p2), .val (.int p3), .val (.int p4), .val (.ref a1), .val (.int (0 : Int32)), .val (.int (2 : Int32)), .val (.int (1 : Int32)), .val (.int (-1 : Int32))]) at_169 rfl rfl ?_
      refine Wk.iload (q := 173) at_171 rfl rfl ?_
      refine Wk.iload (q := 175) at_173 rfl rfl ?_
      refine Wk.icmpF (q := 178) at_175 rfl (by decide : (0 : Int32) < (1 : Int32)) ?_
      refine Wk.iload (q := 180) at_178 rfl rfl ?_
      refine Wk.iload (q := 182) at_180 rfl rfl ?_
      refine Wk.icmpF (q := 185) at_182 rfl (by decide : (1 : Int32) < (2 : Int32)) ?_
      refine Wk.aload (q := 187) at_185 rfl rfl rfl ?_
      refine Wk.iload (q := 189) at_187 rfl rfl ?_
      refine Wk.baloadB (q := 190) A1 (by rw [S1]; decide) e_1 at_189 rfl ?_
      refine Wk.bipush (q := 192) (v := (58 : Int32)) at_190 rfl rfl ?_
      refine Wk.icmp (q := 199) (q' := 195) at_192 (by decide) rfl rfl (fun (h24 : ¬ b1 = (58 : Int32)) => ?_) (fun (h24 : b1 = (58 : Int32)) => ?_)
      · refine Wk.aload (q := 201) at_199 rfl rfl rfl ?_
        refine Wk.iload (q := 203) at_201 rfl rfl ?_
        refine Wk.iload (q := 205) at_203 rfl rfl ?_
        refine Wk.callS2 (q := 208) (argsL := [(.ref a1), (.int (0 : Int32)), (.int (2 : Int32))]) (rest := []) (fr := 0) (lo := 0) (P := fun w => (((tabN (b0 &&& (255 : Int32)).toNatClampNeg) = (0 : Int32)) ∧ w = (.int (-1 : Int32))) ∨ ((¬ (tabN (b0 &&& (255 : Int32)).toNatClampNeg) = (0 : Int32)) ∧ ((tabN (b1 &&& (255 : Int32)).toNatClampNeg) = (0 : Int32)) ∧ (b1 = (58 : Int32)) ∧ w = (.int (1 : Int32))) ∨ ((¬ (tabN (b0 &&& (255 : Int32)).toNatClampNeg) = (0 : Int32)) ∧ ((tabN (b1 &&& (255 : Int32)).toNatClampNeg) = (0 : Int32)) ∧ (¬ b1 = (58 : Int32)) ∧ w = (.int (-1 : Int32))) ∨ ((¬ (tabN (b0 &&& (255 : Int32)).toNatClampNeg) = (0 : Int32)) ∧ (¬ (tabN (b1 &&& (255 : Int32)).toNatClampNeg) = (0 : Int32)) ∧ w = (.int (-1 : Int32)))) (m_2 hw F A1 S1 e_0 e_1 e_2 e_3) (w_6 hw) (w_7 hw) (w_8 hw) (w_9 hw) (by decide) pd_0 rfl rfl rfl at_205 rfl (W := 0) rfl (by decide) (by decide) (by decide) (by decide) ?_
        intro w25 hP; rcases hP with ⟨h26, rfl⟩ | ⟨h27, h28, h29, rfl⟩ | ⟨h30, h31, h32, rfl⟩ | ⟨h33, h34, rfl⟩
        · exact absurd h26 h23
        · exact absurd h29 h24
        · refine Wk.iload (q := 210) at_208 rfl rfl ?_
          refine Wk.icmpF (q := 213) at_210 rfl (by decide : (-1 : Int32) = (-1 : Int32)) ?_
          refine Wk.iconst (q := 214) (v := (1 : Int32)) at_213 rfl rfl ?_
          refine Wk.goto (q := 218) at_214 (by decide) rfl ?_
          exact Wk.retZ rfl rfl at_218 (by decide) (by decide) rfl
        · exact absurd h1 h34
      · refine Wk.iload (q := 197) at_195 rfl rfl ?_
        refine Wk.istore (q := 199) (ls' := #[.val (.int p0), .val (.int p1), .val (.int p2), .val (.int p3), .val (.int p4), .val (.ref a1), .val (.int (0 : Int32)), .val (.int (2 : Int32)), .val (.int (1 : Int32)), .val (.int (1 : Int32))]) at_197 rfl rfl ?_
        refine Wk.aload (q := 201) at_199 rfl rfl rfl ?_
        refine Wk.iload (q := 203) at_201 rfl rfl ?_
        refine Wk.iload (q := 205) at_203 rfl rfl ?_
        refine Wk.callS2 (q := 208) (argsL := [(.ref a1), (.int (0 : Int32)), (.int (2 : Int32))]) (rest := []) (fr := 0) (lo := 0) (P := fun w => (((tabN (b0 &&& (255 : Int32)).toNatClampNeg) = (0 : Int32)) ∧ w = (.int (-1 : Int32))) ∨ ((¬ (tabN (b0 &&& (255 : Int32)).toNatClampNeg) = (0 : Int32)) ∧ ((tabN (b1 &&& (255 : Int32)).toNatClampNeg) = (0 : Int32)) ∧ (b1 = (58 : Int32)) ∧ w = (.int (1 : Int32))) ∨ ((¬ (tabN (b0 &&& (255 : Int32)).toNatClampNeg) = (0 : Int32)) ∧ ((tabN (b1 &&& (255 : Int32)).toNatClampNeg) = (0 : Int32)) ∧ (¬ b1 = (58 : Int32)) ∧ w = (.int (-1 : Int32))) ∨ ((¬ (tabN (b0 &&& (255 : Int32)).toNatClampNeg) = (0 : Int32)) ∧ (¬ (tabN (b1 &&& (255 : Int32)).toNatClampNeg) = (0 : Int32)) ∧ w = (.int (-1 : Int32)))) (m_2 hw F A1 S1 e_0 e_1 e_2 e_3) (w_6 hw) (w_7 hw) (w_8 hw) (w_9 hw) (by decide) pd_0 rfl rfl rfl at_205 rfl (W := 0) rfl (by decide) (by decide) (by decide) (by decide) ?_
        intro w35 hP; rcases hP with ⟨h36, rfl⟩ | ⟨h37, h38, h39, rfl⟩ | ⟨h40, h41, h42, rfl⟩ | ⟨h43, h44, rfl⟩
        · exact absurd h36 h23
        · refine Wk.iload (q := 210) at_208 rfl rfl ?_
          refine Wk.icmpF (q := 213) at_210 rfl (by decide : (1 : Int32) = (1 : Int32)) ?_
          refine Wk.iconst (q := 214) (v := (1 : Int32)) at_213 rfl rfl ?_
          refine Wk.goto (q := 218) at_214 (by decide) rfl ?_
          exact Wk.retZ rfl rfl at_218 (by decide) (by decide) rfl
        · exact absurd h24 h42
        · exact absurd h1 h44
    · refine Wk.iconst (q := 166) (v := (0 : Int32)) at_165 rfl rfl ?_
      refine Wk.istore (q := 168) (ls' := #[.val (.int p0), .val (.int p1), .val (.int p2), .val (.int p3), .val (.int p4), .val (.ref a1), .val (.int (0 : Int32)), .val (.int (2 : Int32)), .val (.int (0 : Int32)), .unset]) at_166 rfl rfl ?_
      refine Wk.iconst (q := 169) (v := (-1 : Int32)) at_168 rfl rfl ?_
      refine Wk.istore (q := 171) (ls' := #[.val (.int p0), .val (.int p1), .val (.int p2), .val (.int p3), .val (.int p4), .val (.ref a1), .val (.int (0 : Int32)), .val (.int (2 : Int32)), .val (.int (0 : Int32)), .val (.int (-1 : Int32))]) at_169 rfl rfl ?_
      refine Wk.iload (q := 173) at_171 rfl rfl ?_
      refine Wk.iload (q := 175) at_173 rfl rfl ?_
      refine Wk.icmpT (q := 199) at_175 (by decide) rfl (by decide : ¬ (0 : Int32) < (0 : Int32)) ?_
      refine Wk.aload (q := 201) at_199 rfl rfl rfl ?_
      refine Wk.iload (q := 203) at_201 rfl rfl ?_
      refine Wk.iload (q := 205) at_203 rfl rfl ?_
      refine Wk.callS2 (q := 208) (argsL := [(.ref a1), (.int (0 : Int32)), (.int (2 : Int32))]) (rest := []) (fr := 0) (lo := 0) (P := fun w => (((tabN (b0 &&& (255 : Int32)).toNatClampNeg) = (0 : Int32)) ∧ w = (.int (-1 : Int32))) ∨ ((¬ (tabN (b0 &&& (255 : Int32)).toNatClampNeg) = (0 : Int32)) ∧ ((tabN (b1 &&& (255 : Int32)).toNatClampNeg) = (0 : Int32)) ∧ (b1 = (58 : Int32)) ∧ w = (.int (1 : Int32))) ∨ ((¬ (tabN (b0 &&& (255 : Int32)).toNatClampNeg) = (0 : Int32)) ∧ ((tabN (b1 &&& (255 : Int32)).toNatClampNeg) = (0 : Int32)) ∧ (¬ b1 = (58 : Int32)) ∧ w = (.int (-1 : Int32))) ∨ ((¬ (tabN (b0 &&& (255 : Int32)).toNatClampNeg) = (0 : Int32)) ∧ (¬ (tabN (b1 &&& (255 : Int32)).toNatClampNeg) = (0 : Int32)) ∧ w = (.int (-1 : Int32)))) (m_2 hw F A1 S1 e_0 e_1 e_2 e_3) (w_6 hw) (w_7 hw) (w_8 hw) (w_9 hw) (by decide) pd_0 rfl rfl rfl at_205 rfl (W := 0) rfl (by decide) (by decide) (by decide) (by decide) ?_
      intro w45 hP; rcases hP with ⟨h46, rfl⟩ | ⟨h47, h48, h49, rfl⟩ | ⟨h50, h51, h52, rfl⟩ | ⟨h53, h54, rfl⟩
      · refine Wk.iload (q := 210) at_208 rfl rfl ?_
        refine Wk.icmpF (q := 213) at_210 rfl (by decide : (-1 : Int32) = (-1 : Int32)) ?_
        refine Wk.iconst (q := 214) (v := (1 : Int32)) at_213 rfl rfl ?_
        refine Wk.goto (q := 218) at_214 (by decide) rfl ?_
        exact Wk.retZ rfl rfl at_218 (by decide) (by decide) rfl
      · exact absurd h23 h47
      · exact absurd h23 h50
      · exact absurd h23 h53
set_option maxRecDepth 65536 in
set_option maxHeartbeats 40000000 in
theorem law_tail_0_3 {l : Launch} {Z : State} {a0 : Array Value} {n0 : Nat} {h : Heap}  {a_T : Addr} {c_T : Cell} (hw : ∀ d ∈ tables_1, d.before a0 Z = true) (F : OwnF Z h  a_T c_T) {a1 : Addr} {c1 : Cell} {b0 b1 b2 b3 : Int32} (A1 : Arr Z h a1 c1 .byte) (S1 : c1.slots.size = 4) (e_0 : c1.slots[0]? = some (Value.int b0)) (e_1 : c1.slots[1]? = some (Value.int b1)) (e_2 : c1.slots[2]? = some (Value.int b2)) (e_3 : c1.slots[3]? = some (Value.int b3)) (p0 p1 p2 p3 p4 : Int32) (k_s : ((p4 &&& (2147483647 : Int32)) % (5 : Int32)) = (0 : Int32)) (k_e : (((XT.ushr p4 (8 : Int32)) &&& (2147483647 : Int32)) % (5 : Int32)) = (3 : Int32)) : Wk l Z n0 "com/example/tallykey/tallykey/HttpSyntaxNameEndPinLaw" "law" code maxLocals ret room_1 16 128 (fun v _ => v = some (.int (1 : Int32))) h 1 4 37 #[.val (.int p0), .val (.int p1), .val (.int p2), .val (.int p3), .val (.int p4), .val (.ref a1), .unset, .unset, .unset, .unset] [] := by
  refine Wk.iload (q := 39) at_37 rfl rfl ?_
  refine Wk.ldcI (q := 41) (w_5 hw) at_39 rfl ?_
  refine Wk.iand (q := 42) (v := (p4 &&& (2147483647 : Int32))) at_41 rfl rfl ?_
  refine Wk.iconst (q := 43) (v := (5 : Int32)) at_42 rfl rfl ?_
  refine Wk.irem (q := 44) (v := (0 : Int32)) at_43 rfl (by decide) k_s ?_
  refine Wk.istore (q := 46) (ls' := #[.val (.int p0), .val (.int p1), .val (.int p2), .val (.int p3), .val (.int p4), .val (.ref a1), .val (.int (0 : Int32)), .unset, .unset, .unset]) at_44 rfl rfl ?_
  refine Wk.iload (q := 48) at_46 rfl rfl ?_
  refine Wk.iload (q := 50) at_48 rfl rfl ?_
  refine Wk.bipush (q := 52) (v := (8 : Int32)) at_50 rfl rfl ?_
  refine Wk.iushr (q := 53) (v := (XT.ushr p4 (8 : Int32))) at_52 rfl rfl ?_
  refine Wk.ldcI (q := 55) (w_5 hw) at_53 rfl ?_
  refine Wk.iand (q := 56) (v := ((XT.ushr p4 (8 : Int32)) &&& (2147483647 : Int32))) at_55 rfl rfl ?_
  refine Wk.iconst (q := 57) (v := (5 : Int32)) at_56 rfl rfl ?_
  refine Wk.iload (q := 59) at_57 rfl rfl ?_
  refine Wk.isub (q := 60) (v := (5 : Int32)) at_59 rfl (by decide) ?_
  refine Wk.irem (q := 61) (v := (3 : Int32)) at_60 rfl (by decide) k_e ?_
  refine Wk.iadd (q := 62) (v := (3 : Int32)) at_61 rfl (by decide) ?_
  refine Wk.istore (q := 64) (ls' := #[.val (.int p0), .val (.int p1), .val (.int p2), .val (.int p3), .val (.int p4), .val (.ref a1), .val (.int (0 : Int32)), .val (.int (3 : Int32)), .unset, .unset]) at_62 rfl rfl ?_
  refine Wk.iload (q := 66) at_64 rfl rfl ?_
  refine Wk.istore (q := 68) (ls' := #[.val (.int p0), .val (.int p1), .val (.int p2), .val (.int p3), .val (.int p4), .val (.ref a1), .val (.int (0 : Int32)), .val (.int (3 : Int32)), .val (.int (3 : Int32)), .unset]) at_66 rfl rfl ?_
  refine Wk.iconst (q := 69) (v := (3 : Int32)) at_68 rfl rfl ?_
  refine Wk.iload (q := 71) at_69 rfl rfl ?_
  refine Wk.icmpF (q := 74) at_71 rfl (by decide : ¬ (3 : Int32) < (0 : Int32)) ?_
  refine Wk.iconst (q := 75) (v := (3 : Int32)) at_74 rfl rfl ?_
  refine Wk.iload (q := 77) at_75 rfl rfl ?_
  refine Wk.icmpT (q := 93) at_77 (by decide) rfl (by decide : ¬ (3 : Int32) < (3 : Int32)) ?_
  refine Wk.iconst (q := 94) (v := (2 : Int32)) at_93 rfl rfl ?_
  refine Wk.iload (q := 96) at_94 rfl rfl ?_
  refine Wk.icmpF (q := 99) at_96 rfl (by decide : ¬ (2 : Int32) < (0 : Int32)) ?_
  refine Wk.iconst (q := 100) (v := (2 : Int32)) at_99 rfl rfl ?_
  refine Wk.iload (q := 102) at_100 rfl rfl ?_
  refine Wk.icmpF (q := 105) at_102 rfl (by decide : (2 : Int32) < (3 : Int32)) ?_
  refine Wk.aload (q := 107) at_105 rfl rfl rfl ?_
  refine Wk.iconst (q := 108) (v := (2 : Int32)) at_107 rfl rfl ?_
  refine Wk.baloadB (q := 109) A1 (by rw [S1]; decide) e_2 at_108 rfl ?_
  refine Wk.callS1 (q := 112) (argsL := [(.int b2)]) (rest := []) (fr := 0) (lo := 0) (v0 := (.int (tabN (b2 &&& (255 : Int32)).toNatClampNeg))) (m_cls hw F b2) (w_10 hw) (w_11 hw) (w_3 hw) (w_12 hw) (by decide) pd_1 rfl rfl rfl at_109 rfl (W := 0) rfl (by decide) (by decide) (by decide) (by decide) ?_
  refine Wk.ifc (q := 118) (q' := 115) at_112 (by decide) rfl rfl (fun (h1 : ¬ (tabN (b2 &&& (255 : Int32)).toNatClampNeg) = (0 : Int32)) => ?_) (fun (h1 : (tabN (b2 &&& (255 : Int32)).toNatClampNeg) = (0 : Int32)) => ?_)
  · refine Wk.iconst (q := 119) (v := (1 : Int32)) at_118 rfl rfl ?_
    refine Wk.iload (q := 121) at_119 rfl rfl ?_
    refine Wk.icmpF (q := 124) at_121 rfl (by decide : ¬ (1 : Int32) < (0 : Int32)) ?_
    refine Wk.iconst (q := 125) (v := (1 : Int32)) at_124 rfl rfl ?_
    refine Wk.iload (q := 127) at_125 rfl rfl ?_
    refine Wk.icmpF (q := 130) at_127 rfl (by decide : (1 : Int32) < (3 : Int32)) ?_
    refine Wk.aload (q := 132) at_130 rfl rfl rfl ?_
    refine Wk.iconst (q := 133) (v := (1 : Int32)) at_132 rfl rfl ?_
    refine Wk.baloadB (q := 134) A1 (by rw [S1]; decide) e_1 at_133 rfl ?_
    refine Wk.callS1 (q := 137) (argsL := [(.int b1)]) (rest := []) (fr := 0) (lo := 0) (v0 := (.int (tabN (b1 &&& (255 : Int32)).toNatClampNeg))) (m_cls hw F b1) (w_10 hw) (w_11 hw) (w_3 hw) (w_12 hw) (by decide) pd_1 rfl rfl rfl at_134 rfl (W := 0) rfl (by decide) (by decide) (by decide) (by decide) ?_
    refine Wk.ifc (q := 143) (q' := 140) at_137 (by decide) rfl rfl (fun (h2 : ¬ (tabN (b1 &&& (255 : Int32)).toNatClampNeg) = (0 : Int32)) => ?_) (fun (h2 : (tabN (b1 &&& (255 : Int32)).toNatClampNeg) = (0 : Int32)) => ?_)
    · refine Wk.iconst (q := 144) (v := (0 : Int32)) at_143 rfl rfl ?_
      refine Wk.iload (q := 146) at_144 rfl rfl ?_
      refine Wk.icmpF (q := 149) at_146 rfl (by decide : ¬ (0 : Int32) < (0 : Int32)) ?_
      refine Wk.iconst (q := 150) (v := (0 : Int32)) at_149 rfl rfl ?_
      refine Wk.iload (q := 152) at_150 rfl rfl ?_
      refine Wk.icmpF (q := 155) at_152 rfl (by decide : (0 : Int32) < (3 : Int32)) ?_
      refine Wk.aload (q := 157) at_155 rfl rfl rfl ?_
      refine Wk.iconst (q := 158) (v := (0 : Int32)) at_157 rfl rfl ?_
      refine Wk.baloadB (q := 159) A1 (by rw [S1]; decide) e_0 at_158 rfl ?_
      refine Wk.callS1 (q := 162) (argsL := [(.int b0)]) (rest := []) (fr := 0) (lo := 0) (v0 := (.int (tabN (b0 &&& (255 : Int32)).toNatClampNeg))) (m_cls hw F b0) (w_10 hw) (w_11 hw) (w_3 hw) (w_12 hw) (by decide) pd_1 rfl rfl rfl at_159 rfl (W := 0) rfl (by decide) (by decide) (by decide) (by decide) ?_
      refine Wk.ifc (q := 168) (q' := 165) at_162 (by decide) rfl rfl (fun (h3 : ¬ (tabN (b0 &&& (255 : Int32)).toNatClampNeg) = (0 : Int32)) => ?_) (fun (h3 : (tabN (b0 &&& (255 : Int32)).toNatClampNeg) = (0 : Int32)) => ?_)
      · refine Wk.iconst (q := 169) (v := (-1 : Int32)) at_168 rfl rfl ?_
        refine Wk.istore (q := 171) (ls' := #[.val (.int p0), .val (.int p1), .val (.int p2), .val (.int p3), .val (.int p4), .val (.ref a1), .val (.int (0 : Int32)), .val (.int (3 : Int32)), .val (.int (3 : Int32)), .val (.int (-1 : Int32))]) at_169 rfl rfl ?_
        refine Wk.iload (q := 173) at_171 rfl rfl ?_
        refine Wk.iload (q := 175) at_173 rfl rfl ?_
        refine Wk.icmpF (q := 178) at_175 rfl (by decide : (0 : Int32) < (3 : Int32)) ?_
        refine Wk.iload (q := 180) at_178 rfl rfl ?_
        refine Wk.iload (q := 182) at_180 rfl rfl ?_
        refine Wk.icmpT (q := 199) at_182 (by decide) rfl (by decide : ¬ (3 : Int32) < (3 : Int32)) ?_
        refine Wk.aload (q := 201) at_199 rfl rfl rfl ?_
        refine Wk.iload (q := 203) at_201 rfl rfl ?_
        refine Wk.iload (q := 205) at_203 rfl rfl ?_
        refine Wk.callS2 (q := 208) (argsL := [(.ref a1), (.int (0 : Int32)), (.int (3 : Int32))]) (rest := []) (fr := 0) (lo := 0) (P := fun w => (((tabN (b0 &&& (255 : Int32)).toNatClampNeg) = (0 : Int32)) ∧ w = (.int (-1 : Int32))) ∨ ((¬ (tabN (b0 &&& (255 : Int32)).toNatClampNeg) = (0 : Int32)) ∧ ((tabN (b1 &&& (255 : Int32)).toNatClampNeg) = (0 : Int32)) ∧ (b1 = (58 : Int32)) ∧ w = (.int (1 : Int32))) ∨ ((¬ (tabN (b0 &&& (255 : Int32)).toNatClampNeg) = (0 : Int32)) ∧ ((tabN (b1 &&& (255 : Int32)).toNatClampNeg) = (0 : Int32)) ∧ (¬ b1 = (58 : Int32)) ∧ w = (.int (-1 : Int32))) ∨ ((¬ (tabN (b0 &&& (255 : Int32)).toNatClampNeg) = (0 : Int32)) ∧ (¬ (tabN (b1 &&& (255 : Int32)).toNatClampNeg) = (0 : Int32)) ∧ ((tabN (b2 &&& (255 : Int32)).toNatClampNeg) = (0 : Int32)) ∧ (b2 = (58 : Int32)) ∧ w = (.int (2 : Int32))) ∨ ((¬ (tabN (b0 &&& (255 : Int32)).toNatClampNeg) = (0 : Int32)) ∧ (¬ (tabN (b1 &&& (255 : Int32)).toNatClampNeg) = (0 : Int32)) ∧ ((tabN (b2 &&& (255 : Int32)).toNatClampNeg) = (0 : Int32)) ∧ (¬ b2 = (58 : Int32)) ∧ w = (.int (-1 : Int32))) ∨ ((¬ (tabN (b0 &&& (255 : Int32)).toNatClampNeg) = (0 : Int32)) ∧ (¬ (tabN (b1 &&& (255 : Int32)).toNatClampNeg) = (0 : Int32)) ∧ (¬ (tabN (b2 &&& (255 : Int32)).toNatClampNeg) = (0 : Int32)) ∧ w = (.int (-1 : Int32)))) (m_3 hw F A1 S1 e_0 e_1 e_2 e_3) (w_6 hw) (w_7 hw) (w_8 hw) (w_9 hw) (by decide) pd_0 rfl rfl rfl at_205 rfl (W := 0) rfl (by decide) (by decide) (by decide) (by decide) ?_
        intro w4 hP; rcases hP with ⟨h5, rfl⟩ | ⟨h6, h7, h8, rfl⟩ | ⟨h9, h10, h11, rfl⟩ | ⟨h12, h13, h14, h15, rfl⟩ | ⟨h16, h17, h18, h19, rfl⟩ | ⟨h20, h21, h22, rfl⟩
        · exact absurd h5 h3
        · exact absurd h7 h2
        · exact absurd h10 h2
        · exact absurd h14 h1
        · exact absurd h18 h1
        · refine Wk.iload (q := 210) at_208 rfl rfl ?_
          refine Wk.icmpF (q := 213) at_210 rfl (by decide : (-1 : Int32) = (-1 : Int32)) ?_
          refine Wk.iconst (q := 214) (v := (1 : Int32)) at_213 rfl rfl ?_
          refine Wk.goto (q := 218) at_214 (by decide) rfl ?_
          exact Wk.retZ rfl rfl at_218 (by decide) (by decide) rfl
      · refine Wk.iconst (q := 166) (v := (0 : Int32)) at_165 rfl rfl ?_
        refine Wk.istore (q := 168) (ls' := #[.val (.int p0), .val (.int p1), .val (.int p2), .val (.int p3), .val (.int p4), .val (.ref a1), .val (.int (0 : Int32)), .val (.int (3 : Int32)), .val (.int (0 : Int32)), .unset]) at_166 rfl rfl ?_
        refine Wk.iconst (q := 169) (v := (-1 : Int32)) at_168 rfl rfl ?_
        refine Wk.istore (q := 171) (ls' := #[.val (.int p0), .val (.int p1), .val (.int p2), .val (.int p3), .val (.int p4), .val (.ref a1), .val (.int (0 : Int32)), .val (.int (3 : Int32)), .val (.int (0 : Int32)), .val (.int (-1 : Int32))]) at_169 rfl rfl ?_
        refine Wk.iload (q := 173) at_171 rfl rfl ?_
        refine Wk.iload (q := 175) at_173 rfl rfl ?_
        refine Wk.icmpT (q := 199) at_175 (by decide) rfl (by decide : ¬ (0 : Int32) < (0 : Int32)) ?_
        refine Wk.aload (q := 201) at_199 rfl rfl rfl ?_
        refine Wk.iload (q := 203) at_201 rfl rfl ?_
        refine Wk.iload (q := 205) at_203 rfl rfl ?_
        refine Wk.callS2 (q := 208) (argsL := [(.ref a1), (.int (0 : Int32)), (.int (3 : Int32))]) (rest := []) (fr := 0) (lo := 0) (P := fun w => (((tabN (b0 &&& (255 : Int32)).toNatClampNeg) = (0 : Int32)) ∧ w = (.int (-1 : Int32))) ∨ ((¬ (tabN (b0 &&& (255 : Int32)).toNatClampNeg) = (0 : Int32)) ∧ ((tabN (b1 &&& (255 : Int32)).toNatClampNeg) = (0 : Int32)) ∧ (b1 = (58 : Int32)) ∧ w = (.int (1 : Int32))) ∨ ((¬ (tabN (b0 &&& (255 : Int32)).toNatClampNeg) = (0 : Int32)) ∧ ((tabN (b1 &&& (255 : Int32)).toNatClampNeg) = (0 : Int32)) ∧ (¬ b1 = (58 : Int32)) ∧ w = (.int (-1 : Int32))) ∨ ((¬ (tabN (b0 &&& (255 : Int32)).toNatClampNeg) = (0 : Int32)) ∧ (¬ (tabN (b1 &&& (255 : Int32)).toNatClampNeg) = (0 : Int32)) ∧ ((tabN (b2 &&& (255 : Int32)).toNatClampNeg) = (0 : Int32)) ∧ (b2 = (58 : Int32)) ∧ w = (.int (2 : Int32))) ∨ ((¬ (tabN (b0 &&& (255 : Int32)).toNatClampNeg) = (0 : Int32)) ∧ (¬ (tabN (b1 &&& (255 : Int32)).toNatClampNeg) = (0 : Int32)) ∧ ((tabN (b2 &&& (255 : Int32)).toNatClampNeg) = (0 : Int32)) ∧ (¬ b2 = (58 : Int32)) ∧ w = (.int (-1 : Int32))) ∨ ((¬ (tabN (b0 &&& (255 : Int32)).toNatClampNeg) = (0 : Int32)) ∧ (¬ (tabN (b1 &&& (255 : Int32)).toNatClampNeg) = (0 : Int32)) ∧ (¬ (tabN (b2 &&& (255 : Int32)).toNatClampNeg) = (0 : Int32)) ∧ w = (.int (-1 : Int32)))) (m_3 hw F A1 S1 e_0 e_1 e_2 e_3) (w_6 hw) (w_7 hw) (w_8 hw) (w_9 hw) (by decide) pd_0 rfl rfl rfl at_205 rfl (W := 0) rfl (by decide) (by decide) (by decide) (by decide) ?_
        intro w23 hP; rcases hP with ⟨h24, rfl⟩ | ⟨h25, h26, h27, rfl⟩ | ⟨h28, h29, h30, rfl⟩ | ⟨h31, h32, h33, h34, rfl⟩ | ⟨h35, h36, h37, h38, rfl⟩ | ⟨h39, h40, h41, rfl⟩
        · refine Wk.iload (q := 210) at_208 rfl rfl ?_
          refine Wk.icmpF (q := 213) at_210 rfl (by decide : (-1 : Int32) = (-1 : Int32)) ?_
          refine Wk.iconst (q := 214) (v := (1 : Int32)) at_213 rfl rfl ?_
          refine Wk.goto (q := 218) at_214 (by decide) rfl ?_
          exact Wk.retZ rfl rfl at_218 (by decide) (by decide) rfl
        · exact absurd h3 h25
        · exact absurd h3 h28
        · exact absurd h3 h31
        · exact absurd h3 h35
        · exact absurd h3 h39
    · refine Wk.iconst (q := 141) (v := (1 : Int32)) at_140 rfl rfl ?_
      refine Wk.istore (q := 143) (ls' := #[.val (.int p0), .val (.int p1), .val (.int p2), .val (.int p3), .val (.int p4), .val (.ref a1), .val (.int (0 : Int32)), .val (.int (3 : Int32)), .val (.int (1 : Int32)), .unset]) at_141 rfl rfl ?_
      refine Wk.iconst (q := 144) (v := (0 : Int32)) at_143 rfl rfl ?_
      refine Wk.iload (q := 146) at_144 rfl rfl ?_
      refine Wk.icmpF (q := 149) at_146 rfl (by decide : ¬ (0 : Int32) < (0 : Int32)) ?_
      refine Wk.iconst (q := 150) (v := (0 : Int32)) at_149 rfl rfl ?_
      refine Wk.iload (q := 152) at_150 rfl rfl ?_
      refine Wk.icmpF (q := 155) at_152 rfl (by decide : (0 : Int32) < (3 : Int32)) ?_
      refine Wk.aload (q := 157) at_155 rfl rfl rfl ?_
      refine Wk.iconst (q := 158) (v := (0 : Int32)) at_157 rfl rfl ?_
      refine Wk.baloadB (q := 159) A1 (by rw [S1]; decide) e_0 at_158 rfl ?_
      refine Wk.callS1 (q := 162) (argsL := [(.int b0)]) (rest := []) (fr := 0) (lo := 0) (v0 := (.int (tabN (b0 &&& (255 : Int32)).toNatClampNeg))) (m_cls hw F b0) (w_10 hw) (w_11 hw) (w_3 hw) (w_12 hw) (by decide) pd_1 rfl rfl rfl at_159 rfl (W := 0) rfl (by decide) (by decide) (by decide) (by decide) ?_
      refine Wk.ifc (q := 168) (q' := 165) at_162 (by decide) rfl rfl (fun (h42 : ¬ (tabN (b0 &&& (255 : Int32)).toNatClampNeg) = (0 : Int32)) => ?_) (fun (h42 : (tabN (b0 &&& (255 : Int32)).toNatClampNeg) = (0 : Int32)) => ?_)
      · refine Wk.iconst (q := 169) (v := (-1 : Int32)) at_168 rfl rfl ?_
        refine Wk.istore (q := 171) (ls' := #[.val (.int p0), .val (.int p1), .val (.int p2), .val (.int p3), .val (.int p4), .val (.ref a1), .val (.int (0 : Int32)), .val (.int (3 : Int32)), .val (.int (1 : Int32)), .val (.int (-1 : Int32))]) at_169 rfl rfl ?_
        refine Wk.iload (q := 173) at_171 rfl rfl ?_
        refine Wk.iload (q := 175) at_173 rfl rfl ?_
        refine Wk.icmpF (q := 178) at_175 rfl (by decide : (0 : Int32) < (1 : Int32)) ?_
        refine Wk.iload (q := 180) at_178 rfl rfl ?_
        refine Wk.iload (q := 182) at_180 rfl rfl ?_
        refine Wk.icmpF (q := 185) at_182 rfl (by decide : (1 : Int32) < (3 : Int32)) ?_
        refine Wk.aload (q := 187) at_185 rfl rfl rfl ?_
        refine Wk.iload (q := 189) at_187 rfl rfl ?_
        refine Wk.baloadB (q := 190) A1 (by rw [S1]; decide) e_1 at_189 rfl ?_
        refine Wk.bipush (q := 192) (v := (58 : Int32)) at_190 rfl rfl ?_
        refine Wk.icmp (q := 199) (q' := 195) at_192 (by decide) rfl rfl (fun (h43 : ¬ b1 = (58 : Int32)) => ?_) (fun (h43 : b1 = (58 : Int32)) => ?_)
        · refine Wk.aload (q := 201) at_199 rfl rfl rfl ?_
          refine Wk.iload (q := 203) at_201 rfl rfl ?_
          refine Wk.iload (q := 205) at_203 rfl rfl ?_
          refine Wk.callS2 (q := 208) (argsL := [(.ref a1), (.int (0 : Int32)), (.int (3 : Int32))]) (rest := []) (fr := 0) (lo := 0) (P := fun w => (((tabN (b0 &&& (255 : Int32)).toNatClampNeg) = (0 : Int32)) ∧ w = (.int (-1 : Int32))) ∨ ((¬ (tabN (b0 &&& (255 : Int32)).toNatClampNeg) = (0 : Int32)) ∧ ((tabN (b1 &&& (255 : Int32)).toNatClampNeg) = (0 : Int32)) ∧ (b1 = (58 : Int32)) ∧ w = (.int (1 : Int32))) ∨ ((¬ (tabN (b0 &&& (255 : Int32)).toNatClampNeg) = (0 : Int32)) ∧ ((tabN (b1 &&& (255 : Int32)).toNatClampNeg) = (0 : Int32)) ∧ (¬ b1 = (58 : Int32)) ∧ w = (.int (-1 : Int32))) ∨ ((¬ (tabN (b0 &&& (255 : Int32)).toNatClampNeg) = (0 : Int32)) ∧ (¬ (tabN (b1 &&& (255 : Int32)).toNatClampNeg) = (0 : Int32)) ∧ ((tabN (b2 &&& (255 : Int32)).toNatClampNeg) = (0 : Int32)) ∧ (b2 = (58 : Int32)) ∧ w = (.int (2 : Int32))) ∨ ((¬ (tabN (b0 &&& (255 : Int32)).toNatClampNeg) = (0 : Int32)) ∧ (¬ (tabN (b1 &&& (255 : Int32)).toNatClampNeg) = (0 : Int32)) ∧ ((tabN (b2 &&& (255 : Int32)).toNatClampNeg) = (0 : Int32)) ∧ (¬ b2 = (58 : Int32)) ∧ w = (.int (-1 : Int32))) ∨ ((¬ (tabN (b0 &&& (255 : Int32)).toNatClampNeg) = (0 : Int32)) ∧ (¬ (tabN (b1 &&& (255 : Int32)).toNatClampNeg) = (0 : Int32)) ∧ (¬ (tabN (b2 &&& (255 : Int32)).toNatClampNeg) = (0 : Int32)) ∧ w = (.int (-1 : Int32)))) (m_3 hw F A1 S1 e_0 e_1 e_2 e_3) (w_6 hw) (w_7 hw) (w_8 hw) (w_9 hw) (by decide) pd_0 rfl rfl rfl at_205 rfl (W := 0) rfl (by decide) (by decide) (by decide) (by decide) ?_
          intro w44 hP; rcases hP with ⟨h45, rfl⟩ | ⟨h46, h47, h48, rfl⟩ | ⟨h49, h50, h51, rfl⟩ | ⟨h52, h53, h54, h55, rfl⟩ | ⟨h56, h57, h58, h59, rfl⟩ | ⟨h60, h61, h62, rfl⟩
          · exact absurd h45 h42
          · exact absurd h48 h43
          · refine Wk.iload (q := 210) at_208 rfl rfl ?_
            refine Wk.icmpF (q := 213) at_210 rfl (by decide : (-1 : Int32) = (-1 : Int32)) ?_
            refine Wk.iconst (q := 214) (v := (1 : Int32)) at_213 rfl rfl ?_
            refine Wk.goto (q := 218) at_214 (by decide) rfl ?_
            exact Wk.retZ rfl rfl at_218 (by decide) (by decide) rfl
          · exact absurd h2 h53
          · exact absurd h2 h57
          · exact absurd h2 h61
        · refine Wk.iload (q := 197) at_195 rfl rfl ?_
          refine Wk.istore (q := 199) (ls' := #[.val (.int p0), .val (.int p1), .val (.int p2), .val (.int p3), .val (.int p4), .val (.ref a1), .val (.int (0 : Int32)), .val (.int (3 : Int32)), .val (.int (1 : Int32)), .val (.int (1 : Int32))]) at_197 rfl rfl ?_
          refine Wk.aload (q := 201) at_199 rfl rfl rfl ?_
          refine Wk.iload (q := 203) at_201 rfl rfl ?_
          refine Wk.iload (q := 205) at_203 rfl rfl ?_
          refine Wk.callS2 (q := 208) (argsL := [(.ref a1), (.int (0 : Int32)), (.int (3 : Int32))]) (rest := []) (fr := 0) (lo := 0) (P := fun w => (((tabN (b0 &&& (255 : Int32)).toNatClampNeg) = (0 : Int32)) ∧ w = (.int (-1 : Int32))) ∨ ((¬ (tabN (b0 &&& (255 : Int32)).toNatClampNeg) = (0 : Int32)) ∧ ((tabN (b1 &&& (255 : Int32)).toNatClampNeg) = (0 : Int32)) ∧ (b1 = (58 : Int32)) ∧ w = (.int (1 : Int32))) ∨ ((¬ (tabN (b0 &&& (255 : Int32)).toNatClampNeg) = (0 : Int32)) ∧ ((tabN (b1 &&& (255 : Int32)).toNatClampNeg) = (0 : Int32)) ∧ (¬ b1 = (58 : Int32)) ∧ w = (.int (-1 : Int32))) ∨ ((¬ (tabN (b0 &&& (255 : Int32)).toNatClampNeg) = (0 : Int32)) ∧ (¬ (tabN (b1 &&& (255 : Int32)).toNatClampNeg) = (0 : Int32)) ∧ ((tabN (b2 &&& (255 : Int32)).toNatClampNeg) = (0 : Int32)) ∧ (b2 = (58 : Int32)) ∧ w = (.int (2 : Int32))) ∨ ((¬ (tabN (b0 &&& (255 : Int32)).toNatClampNeg) = (0 : Int32)) ∧ (¬ (tabN (b1 &&& (255 : Int32)).toNatClampNeg) = (0 : Int32)) ∧ ((tabN (b2 &&& (255 : Int32)).toNatClampNeg) = (0 : Int32)) ∧ (¬ b2 = (58 : Int32)) ∧ w = (.int (-1 : Int32))) ∨ ((¬ (tabN (b0 &&& (255 : Int32)).toNatClampNeg) = (0 : Int32)) ∧ (¬ (tabN (b1 &&& (255 : Int32)).toNatClampNeg) = (0 : Int32)) ∧ (¬ (tabN (b2 &&& (255 : Int32)).toNatClampNeg) = (0 : Int32)) ∧ w = (.int (-1 : Int32)))) (m_3 hw F A1 S1 e_0 e_1 e_2 e_3) (w_6 hw) (w_7 hw) (w_8 hw) (w_9 hw) (by decide) pd_0 rfl rfl rfl at_205 rfl (W := 0) rfl (by decide) (by decide) (by decide) (by decide) ?_
          intro w63 hP; rcases hP with ⟨h64, rfl⟩ | ⟨h65, h66, h67, rfl⟩ | ⟨h68, h69, h70, rfl⟩ | ⟨h71, h72, h73, h74, rfl⟩ | ⟨h75, h76, h77, h78, rfl⟩ | ⟨h79, h80, h81, rfl⟩
          · exact absurd h64 h42
          · refine Wk.iload (q := 210) at_208 rfl rfl ?_
            refine Wk.icmpF (q := 213) at_210 rfl (by decide : (1 : Int32) = (1 : Int32)) ?_
            refine Wk.iconst (q := 214) (v := (1 : Int32)) at_213 rfl rfl ?_
            refine Wk.goto (q := 218) at_214 (by decide) rfl ?_
            exact Wk.retZ rfl rfl at_218 (by decide) (by decide) rfl
          · exact absurd h43 h70
          · exact absurd h2 h72
          · exact absurd h2 h76
          · exact absurd h2 h80
      · refine Wk.iconst (q := 166) (v := (0 : Int32)) at_165 rfl rfl ?_
        refine Wk.istore (q := 168) (ls' := #[.val (.int p0), .val (.int p1), .val (.int p2), .val (.int p3), .val (.int p4), .val (.ref a1), .val (.int (0 : Int32)), .val (.int (3 : Int32)), .val (.int (0 : Int32)), .unset]) at_166 rfl rfl ?_
        refine Wk.iconst (q := 169) (v := (-1 : Int32)) at_168 rfl rfl ?_
        refine Wk.istore (q := 171) (ls' := #[.val (.int p0), .val (.int p1), .val (.int p2), .val (.int p3), .val (.int p4), .val (.ref a1), .val (.int (0 : Int32)), .val (.int (3 : Int32)), .val (.int (0 : Int32)), .val (.int (-1 : Int32))]) at_169 rfl rfl ?_
        refine Wk.iload (q := 173) at_171 rfl rfl ?_
        refine Wk.iload (q := 175) at_173 rfl rfl ?_
        refine Wk.icmpT (q := 199) at_175 (by decide) rfl (by decide : ¬ (0 : Int32) < (0 : Int32)) ?_
        refine Wk.aload (q := 201) at_199 rfl rfl rfl ?_
        refine Wk.iload (q := 203) at_201 rfl rfl ?_
        refine Wk.iload (q := 205) at_203 rfl rfl ?_
        refine Wk.callS2 (q := 208) (argsL := [(.ref a1), (.int (0 : Int32)), (.int (3 : Int32))]) (rest := []) (fr := 0) (lo := 0) (P := fun w => (((tabN (b0 &&& (255 : Int32)).toNatClampNeg) = (0 : Int32)) ∧ w = (.int (-1 : Int32))) ∨ ((¬ (tabN (b0 &&& (255 : Int32)).toNatClampNeg) = (0 : Int32)) ∧ ((tabN (b1 &&& (255 : Int32)).toNatClampNeg) = (0 : Int32)) ∧ (b1 = (58 : Int32)) ∧ w = (.int (1 : Int32))) ∨ ((¬ (tabN (b0 &&& (255 : Int32)).toNatClampNeg) = (0 : Int32)) ∧ ((tabN (b1 &&& (255 : Int32)).toNatClampNeg) = (0 : Int32)) ∧ (¬ b1 = (58 : Int32)) ∧ w = (.int (-1 : Int32))) ∨ ((¬ (tabN (b0 &&& (255 : Int32)).toNatClampNeg) = (0 : Int32)) ∧ (¬ (tabN (b1 &&& (255 : Int32)).toNatClampNeg) = (0 : Int32)) ∧ ((tabN (b2 &&& (255 : Int32)).toNatClampNeg) = (0 : Int32)) ∧ (b2 = (58 : Int32)) ∧ w = (.int (2 : Int32))) ∨ ((¬ (tabN (b0 &&& (255 : Int32)).toNatClampNeg) = (0 : Int32)) ∧ (¬ (tabN (b1 &&& (255 : Int32)).toNatClampNeg) = (0 : Int32)) ∧ ((tabN (b2 &&& (255 : Int32)).toNatClampNeg) = (0 : Int32)) ∧ (¬ b2 = (58 : Int32)) ∧ w = (.int (-1 : Int32))) ∨ ((¬ (tabN (b0 &&& (255 : Int32)).toNatClampNeg) = (0 : Int32)) ∧ (¬ (tabN (b1 &&& (255 : Int32)).toNatClampNeg) = (0 : Int32)) ∧ (¬ (tabN (b2 &&& (255 : Int32)).toNatClampNeg) = (0 : Int32)) ∧ w = (.int (-1 : Int32)))) (m_3 hw F A1 S1 e_0 e_1 e_2 e_3) (w_6 hw) (w_7 hw) (w_8 hw) (w_9 hw) (by decide) pd_0 rfl rfl rfl at_205 rfl (W := 0) rfl (by decide) (by decide) (by decide) (by decide) ?_
        intro w82 hP; rcases hP with ⟨h83, rfl⟩ | ⟨h84, h85, h86, rfl⟩ | ⟨h87, h88, h89, rfl⟩ | ⟨h90, h91, h92, h93, rfl⟩ | ⟨h94, h95, h96, h97, rfl⟩ | ⟨h98, h99, h100, rfl⟩
        · refine Wk.iload (q := 210) at_208 rfl rfl ?_
          refine Wk.icmpF (q := 213) at_210 rfl (by decide : (-1 : Int32) = (-1 : Int32)) ?_
          refine Wk.iconst (q := 214) (v := (1 : Int32)) at_213 rfl rfl ?_
          refine Wk.goto (q := 218) at_214 (by decide) rfl ?_
          exact Wk.retZ rfl rfl at_218 (by decide) (by decide) rfl
        · exact absurd h42 h84
        · exact absurd h42 h87
        · exact absurd h42 h90
        · exact absurd h42 h94
        · exact absurd h42 h98
  · refine Wk.iconst (q := 116) (v := (2 : Int32)) at_115 rfl rfl ?_
    refine Wk.istore (q := 118) (ls' := #[.val (.int p0), .val (.int p1), .val (.int p2), .val (.int p3), .val (.int p4), .val (.ref a1), .val (.int (0 : Int32)), .val (.int (3 : Int32)), .val (.int (2 : Int32)), .unset]) at_116 rfl rfl ?_
    refine Wk.iconst (q := 119) (v := (1 : Int32)) at_118 rfl rfl ?_
    refine Wk.iload (q := 121) at_119 rfl rfl ?_
    refine Wk.icmpF (q := 124) at_121 rfl (by decide : ¬ (1 : Int32) < (0 : Int32)) ?_
    refine Wk.iconst (q := 125) (v := (1 : Int32)) at_124 rfl rfl ?_
    refine Wk.iload (q := 127) at_125 rfl rfl ?_
    refine Wk.icmpF (q := 130) at_127 rfl (by decide : (1 : Int32) < (3 : Int32)) ?_
    refine Wk.aload (q := 132) at_130 rfl rfl rfl ?_
    refine Wk.iconst (q := 133) (v := (1 : Int32)) at_132 rfl rfl ?_
    refine Wk.baloadB (q := 134) A1 (by rw [S1]; decide) e_1 at_133 rfl ?_
    refine Wk.callS1 (q := 137) (argsL := [(.int b1)]) (rest := []) (fr := 0) (lo := 0) (v0 := (.int (tabN (b1 &&& (255 : Int32)).toNatClampNeg))) (m_cls hw F b1) (w_10 hw) (w_11 hw) (w_3 hw) (w_12 hw) (by decide) pd_1 rfl rfl rfl at_134 rfl (W := 0) rfl (by decide) (by decide) (by decide) (by decide) ?_
    refine Wk.ifc (q := 143) (q' := 140) at_137 (by decide) rfl rfl (fun (h101 : ¬ (tabN (b1 &&& (255 : Int32)).toNatClampNeg) = (0 : Int32)) => ?_) (fun (h101 : (tabN (b1 &&& (255 : Int32)).toNatClampNeg) = (0 : Int32)) => ?_)
    · refine Wk.iconst (q := 144) (v := (0 : Int32)) at_143 rfl rfl ?_
      refine Wk.iload (q := 146) at_144 rfl rfl ?_
      refine Wk.icmpF (q := 149) at_146 rfl (by decide : ¬ (0 : Int32) < (0 : Int32)) ?_
      refine Wk.iconst (q := 150) (v := (0 : Int32)) at_149 rfl rfl ?_
      refine Wk.iload (q := 152) at_150 rfl rfl ?_
      refine Wk.icmpF (q := 155) at_152 rfl (by decide : (0 : Int32) < (3 : Int32)) ?_
      refine Wk.aload (q := 157) at_155 rfl rfl rfl ?_
      refine Wk.iconst (q := 158) (v := (0 : Int32)) at_157 rfl rfl ?_
      refine Wk.baloadB (q := 159) A1 (by rw [S1]; decide) e_0 at_158 rfl ?_
      refine Wk.callS1 (q := 162) (argsL := [(.int b0)]) (rest := []) (fr := 0) (lo := 0) (v0 := (.int (tabN (b0 &&& (255 : Int32)).toNatClampNeg))) (m_cls hw F b0) (w_10 hw) (w_11 hw) (w_3 hw) (w_12 hw) (by decide) pd_1 rfl rfl rfl at_159 rfl (W := 0) rfl (by decide) (by decide) (by decide) (by decide) ?_
      refine Wk.ifc (q := 168) (q' := 165) at_162 (by decide) rfl rfl (fun (h102 : ¬ (tabN (b0 &&& (255 : Int32)).toNatClampNeg) = (0 : Int32)) => ?_) (fun (h102 : (tabN (b0 &&& (255 : Int32)).toNatClampNeg) = (0 : Int32)) => ?_)
      · refine Wk.iconst (q := 169) (v := (-1 : Int32)) at_168 rfl rfl ?_
        refine Wk.istore (q := 171) (ls' := #[.val (.int p0), .val (.int p1), .val (.int p2), .val (.int p3), .val (.int p4), .val (.ref a1), .val (.int (0 : Int32)), .val (.int (3 : Int32)), .val (.int (2 : Int32)), .val (.int (-1 : Int32))]) at_169 rfl rfl ?_
        refine Wk.iload (q := 173) at_171 rfl rfl ?_
        refine Wk.iload (q := 175) at_173 rfl rfl ?_
        refine Wk.icmpF (q := 178) at_175 rfl (by decide : (0 : Int32) < (2 : Int32)) ?_
        refine Wk.iload (q := 180) at_178 rfl rfl ?_
        refine Wk.iload (q := 182) at_180 rfl rfl ?_
        refine Wk.icmpF (q := 185) at_182 rfl (by decide : (2 : Int32) < (3 : Int32)) ?_
        refine Wk.aload (q := 187) at_185 rfl rfl rfl ?_
        refine Wk.iload (q := 189) at_187 rfl rfl ?_
        refine Wk.baloadB (q := 190) A1 (by rw [S1]; decide) e_2 at_189 rfl ?_
        refine Wk.bipush (q := 192) (v := (58 : Int32)) at_190 rfl rfl ?_
        refine Wk.icmp (q := 199) (q' := 195) at_192 (by decide) rfl rfl (fun (h103 : ¬ b2 = (58 : Int32)) => ?_) (fun (h103 : b2 = (58 : Int32)) => ?_)
        · refine Wk.aload (q := 201) at_199 rfl rfl rfl ?_
          refine Wk.iload (q := 203) at_201 rfl rfl ?_
          refine Wk.iload (q := 205) at_203 rfl rfl ?_
          refine Wk.callS2 (q := 208) (argsL := [(.ref a1), (.int (0 : Int32)), (.int (3 : Int32))]) (rest := []) (fr := 0) (lo := 0) (P := fun w => (((tabN (b0 &&& (255 : Int32)).toNatClampNeg) = (0 : Int32)) ∧ w = (.int (-1 : Int32))) ∨ ((¬ (tabN (b0 &&& (255 : Int32)).toNatClampNeg) = (0 : Int32)) ∧ ((tabN (b1 &&& (255 : Int32)).toNatClampNeg) = (0 : Int32)) ∧ (b1 = (58 : Int32)) ∧ w = (.int (1 : Int32))) ∨ ((¬ (tabN (b0 &&& (255 : Int32)).toNatClampNeg) = (0 : Int32)) ∧ ((tabN (b1 &&& (255 : Int32)).toNatClampNeg) = (0 : Int32)) ∧ (¬ b1 = (58 : Int32)) ∧ w = (.int (-1 : Int32))) ∨ ((¬ (tabN (b0 &&& (255 : Int32)).toNatClampNeg) = (0 : Int32)) ∧ (¬ (tabN (b1 &&& (255 : Int32)).toNatClampNeg) = (0 : Int32)) ∧ ((tabN (b2 &&& (255 : Int32)).toNatClampNeg) = (0 : Int32)) ∧ (b2 = (58 : Int32)) ∧ w = (.int (2 : Int32))) ∨ ((¬ (tabN (b0 &&& (255 : Int32)).toNatClampNeg) = (0 : Int32)) ∧ (¬ (tabN (b1 &&& (255 : Int32)).toNatClampNeg) = (0 : Int32)) ∧ ((tabN (b2 &&& (255 : Int32)).toNatClampNeg) = (0 : Int32)) ∧ (¬ b2 = (58 : Int32)) ∧ w = (.int (-1 : Int32))) ∨ ((¬ (tabN (b0 &&& (255 : Int32)).toNatClampNeg) = (0 : Int32)) ∧ (¬ (tabN (b1 &&& (255 : Int32)).toNatClampNeg) = (0 : Int32)) ∧ (¬ (tabN (b2 &&& (255 : Int32)).toNatClampNeg) = (0 : Int32)) ∧ w = (.int (-1 : Int32)))) (m_3 hw F A1 S1 e_0 e_1 e_2 e_3) (w_6 hw) (w_7 hw) (w_8 hw) (w_9 hw) (by decide) pd_0 rfl rfl rfl at_205 rfl (W := 0) rfl (by decide) (by decide) (by decide) (by decide) ?_
          intro w104 hP; rcases hP with ⟨h105, rfl⟩ | ⟨h106, h107, h108, rfl⟩ | ⟨h109, h110, h111, rfl⟩ | ⟨h112, h113, h114, h115, rfl⟩ | ⟨h116, h117, h118, h119, rfl⟩ | ⟨h120, h121, h122, rfl⟩
          · exact absurd h105 h102
          · exact absurd h107 h101
          · exact absurd h110 h101
          · exact absurd h115 h103
          · refine Wk.iload (q := 210) at_208 rfl rfl ?_
            refine Wk.icmpF (q := 213) at_210 rfl (by decide : (-1 : Int32) = (-1 : Int32)) ?_
            refine Wk.iconst (q := 214) (v := (1 : Int32)) at_213 rfl rfl ?_
            refine Wk.goto (q := 218) at_214 (by decide) rfl ?_
            exact Wk.retZ rfl rfl at_218 (by decide) (by decide) rfl
          · exact absurd h1 h122
        · refine Wk.iload (q := 197) at_195 rfl rfl ?_
          refine Wk.istore (q := 199) (ls' := #[.val (.int p0), .val (.int p1), .val (.int p2), .val (.int p3), .val (.int p4), .val (.ref a1), .val (.int (0 : Int32)), .val (.int (3 : Int32)), .val (.int (2 : Int32)), .val (.int (2 : Int32))]) at_197 rfl rfl ?_
          refine Wk.aload (q := 201) at_199 rfl rfl rfl ?_
          refine Wk.iload (q := 203) at_201 rfl rfl ?_
          refine Wk.iload (q := 205) at_203 rfl rfl ?_
          refine Wk.callS2 (q := 208) (argsL := [(.ref a1), (.int (0 : Int32)), (.int (3 : Int32))]) (rest := []) (fr := 0) (lo := 0) (P := fun w => (((tabN (b0 &&& (255 : Int32)).toNatClampNeg) = (0 : Int32)) ∧ w = (.int (-1 : Int32))) ∨ ((¬ (tabN (b0 &&& (255 : Int32)).toNatClampNeg) = (0 : Int32)) ∧ ((tabN (b1 &&& (255 : Int32)).toNatClampNeg) = (0 : Int32)) ∧ (b1 = (58 : Int32)) ∧ w = (.int (1 : Int32))) ∨ ((¬ (tabN (b0 &&& (255 : Int32)).toNatClampNeg) = (0 : Int32)) ∧ ((tabN (b1 &&& (255 : Int32)).toNatClampNeg) = (0 : Int32)) ∧ (¬ b1 = (58 : Int32)) ∧ w = (.int (-1 : Int32))) ∨ ((¬ (tabN (b0 &&& (255 : Int32)).toNatClampNeg) = (0 : Int32)) ∧ (¬ (tabN (b1 &&& (255 : Int32)).toNatClampNeg) = (0 : Int32)) ∧ ((tabN (b2 &&& (255 : Int32)).toNatClampNeg) = (0 : Int32)) ∧ (b2 = (58 : Int32)) ∧ w = (.int (2 : Int32))) ∨ ((¬ (tabN (b0 &&& (255 : Int32)).toNatClampNeg) = (0 : Int32)) ∧ (¬ (tabN (b1 &&& (255 : Int32)).toNatClampNeg) = (0 : Int32)) ∧ ((tabN (b2 &&& (255 : Int32)).toNatClampNeg) = (0 : Int32)) ∧ (¬ b2 = (58 : Int32)) ∧ w = (.int (-1 : Int32))) ∨ ((¬ (tabN (b0 &&& (255 : Int32)).toNatClampNeg) = (0 : Int32)) ∧ (¬ (tabN (b1 &&& (255 : Int32)).toNatClampNeg) = (0 : Int32)) ∧ (¬ (tabN (b2 &&& (255 : Int32)).toNatClampNeg) = (0 : Int32)) ∧ w = (.int (-1 : Int32)))) (m_3 hw F A1 S1 e_0 e_1 e_2 e_3) (w_6 hw) (w_7 hw) (w_8 hw) (w_9 hw) (by decide) pd_0 rfl rfl rfl at_205 rfl (W := 0) rfl (by decide) (by decide) (by decide) (by decide) ?_
          intro w123 hP; rcases hP with ⟨h124, rfl⟩ | ⟨h125, h126, h127, rfl⟩ | ⟨h128, h129, h130, rfl⟩ | ⟨h131, h132, h133, h134, rfl⟩ | ⟨h135, h136, h137, h138, rfl⟩ | ⟨h139, h140, h141, rfl⟩
          · exact absurd h124 h102
          · exact absurd h126 h101
          · exact absurd h129 h101
          · refine Wk.iload (q := 210) at_208 rfl rfl ?_
            refine Wk.icmpF (q := 213) at_210 rfl (by decide : (2 : Int32) = (2 : Int32)) ?_
            refine Wk.iconst (q := 214) (v := (1 : Int32)) at_213 rfl rfl ?_
            refine Wk.goto (q := 218) at_214 (by decide) rfl ?_
            exact Wk.retZ rfl rfl at_218 (by decide) (by decide) rfl
          · exact absurd h103 h138
          · exact absurd h1 h141
      · refine Wk.iconst (q := 166) (v := (0 : Int32)) at_165 rfl rfl ?_
        refine Wk.istore (q := 168) (ls' := #[.val (.int p0), .val (.int p1), .val (.int p2), .val (.int p3), .val (.int p4), .val (.ref a1), .val (.int (0 : Int32)), .val (.int (3 : Int32)), .val (.int (0 : Int32)), .unset]) at_166 rfl rfl ?_
        refine Wk.iconst (q := 169) (v := (-1 : Int32)) at_168 rfl rfl ?_
        refine Wk.istore (q := 171) (ls' := #[.val (.int p0), .val (.int p1), .val (.int p2), .val (.int p3), .val (.int p4), .val (.ref a1), .val (.int (0 : Int32)), .val (.int (3 : Int32)), .val (.int (0 : Int32)), .val (.int (-1 : Int32))]) at_169 rfl rfl ?_
        refine Wk.iload (q := 173) at_171 rfl rfl ?_
        refine Wk.iload (q := 175) at_173 rfl rfl ?_
        refine Wk.icmpT (q := 199) at_175 (by decide) rfl (by decide : ¬ (0 : Int32) < (0 : Int32)) ?_
        refine Wk.aload (q := 201) at_199 rfl rfl rfl ?_
        refine Wk.iload (q := 203) at_201 rfl rfl ?_
        refine Wk.iload (q := 205) at_203 rfl rfl ?_
        refine Wk.callS2 (q := 208) (argsL := [(.ref a1), (.int (0 : Int32)), (.int (3 : Int32))]) (rest := []) (fr := 0) (lo := 0) (P := fun w => (((tabN (b0 &&& (255 : Int32)).toNatClampNeg) = (0 : Int32)) ∧ w = (.int (-1 : Int32))) ∨ ((¬ (tabN (b0 &&& (255 : Int32)).toNatClampNeg) = (0 : Int32)) ∧ ((tabN (b1 &&& (255 : Int32)).toNatClampNeg) = (0 : Int32)) ∧ (b1 = (58 : Int32)) ∧ w = (.int (1 : Int32))) ∨ ((¬ (tabN (b0 &&& (255 : Int32)).toNatClampNeg) = (0 : Int32)) ∧ ((tabN (b1 &&& (255 : Int32)).toNatClampNeg) = (0 : Int32)) ∧ (¬ b1 = (58 : Int32)) ∧ w = (.int (-1 : Int32))) ∨ ((¬ (tabN (b0 &&& (255 : Int32)).toNatClampNeg) = (0 : Int32)) ∧ (¬ (tabN (b1 &&& (255 : Int32)).toNatClampNeg) = (0 : Int32)) ∧ ((tabN (b2 &&& (255 : Int32)).toNatClampNeg) = (0 : Int32)) ∧ (b2 = (58 : Int32)) ∧ w = (.int (2 : Int32))) ∨ ((¬ (tabN (b0 &&& (255 : Int32)).toNatClampNeg) = (0 : Int32)) ∧ (¬ (tabN (b1 &&& (255 : Int32)).toNatClampNeg) = (0 : Int32)) ∧ ((tabN (b2 &&& (255 : Int32)).toNatClampNeg) = (0 : Int32)) ∧ (¬ b2 = (58 : Int32)) ∧ w = (.int (-1 : Int32))) ∨ ((¬ (tabN (b0 &&& (255 : Int32)).toNatClampNeg) = (0 : Int32)) ∧ (¬ (tabN (b1 &&& (255 : Int32)).toNatClampNeg) = (0 : Int32)) ∧ (¬ (tabN (b2 &&& (255 : Int32)).toNatClampNeg) = (0 : Int32)) ∧ w = (.int (-1 : Int32)))) (m_3 hw F A1 S1 e_0 e_1 e_2 e_3) (w_6 hw) (w_7 hw) (w_8 hw) (w_9 hw) (by decide) pd_0 rfl rfl rfl at_205 rfl (W := 0) rfl (by decide) (by decide) (by decide) (by decide) ?_
        intro w142 hP; rcases hP with ⟨h143, rfl⟩ | ⟨h144, h145, h146, rfl⟩ | ⟨h147, h148, h149, rfl⟩ | ⟨h150, h151, h152, h153, rfl⟩ | ⟨h154, h155, h156, h157, rfl⟩ | ⟨h158, h159, h160, rfl⟩
        · refine Wk.iload (q := 210) at_208 rfl rfl ?_
          refine Wk.icmpF (q := 213) at_210 rfl (by decide : (-1 : Int32) = (-1 : Int32)) ?_
          refine Wk.iconst (q := 214) (v := (1 : Int32)) at_213 rfl rfl ?_
          refine Wk.goto (q := 218) at_214 (by decide) rfl ?_
          exact Wk.retZ rfl rfl at_218 (by decide) (by decide) rfl
        · exact absurd h102 h144
        · exact absurd h102 h147
        · exact absurd h102 h150
        · exact absurd h102 h154
        · exact absurd h102 h158
    · refine Wk.iconst (q := 141) (v := (1 : Int32)) at_140 rfl rfl ?_
      refine Wk.istore (q := 143) (ls' := #[.val (.int p0), .val (.int p1), .val (.int p2), .val (.int p3), .val (.int p4), .val (.ref a1), .val (.int (0 : Int32)), .val (.int (3 : Int32)), .val (.int (1 : Int32)), .unset]) at_141 rfl rfl ?_
      refine Wk.iconst (q := 144) (v := (0 : Int32)) at_143 rfl rfl ?_
      refine Wk.iload (q := 146) at_144 rfl rfl ?_
      refine Wk.icmpF (q := 149) at_146 rfl (by decide : ¬ (0 : Int32) < (0 : Int32)) ?_
      refine Wk.iconst (q := 150) (v := (0 : Int32)) at_149 rfl rfl ?_
      refine Wk.iload (q := 152) at_150 rfl rfl ?_
      refine Wk.icmpF (q := 155) at_152 rfl (by decide : (0 : Int32) < (3 : Int32)) ?_
      refine Wk.aload (q := 157) at_155 rfl rfl rfl ?_
      refine Wk.iconst (q := 158) (v := (0 : Int32)) at_157 rfl rfl ?_
      refine Wk.baloadB (q := 159) A1 (by rw [S1]; decide) e_0 at_158 rfl ?_
      refine Wk.callS1 (q := 162) (argsL := [(.int b0)]) (rest := []) (fr := 0) (lo := 0) (v0 := (.int (tabN (b0 &&& (255 : Int32)).toNatClampNeg))) (m_cls hw F b0) (w_10 hw) (w_11 hw) (w_3 hw) (w_12 hw) (by decide) pd_1 rfl rfl rfl at_159 rfl (W := 0) rfl (by decide) (by decide) (by decide) (by decide) ?_
      refine Wk.ifc (q := 168) (q' := 165) at_162 (by decide) rfl rfl (fun (h161 : ¬ (tabN (b0 &&& (255 : Int32)).toNatClampNeg) = (0 : Int32)) => ?_) (fun (h161 : (tabN (b0 &&& (255 : Int32)).toNatClampNeg) = (0 : Int32)) => ?_)
      · refine Wk.iconst (q := 169) (v := (-1 : Int32)) at_168 rfl rfl ?_
        refine Wk.istore (q := 171) (ls' := #[.val (.int p0), .val (.int p1), .val (.int p2), .val (.int p3), .val (.int p4), .val (.ref a1), .val (.int (0 : Int32)), .val (.int (3 : Int32)), .val (.int (1 : Int32)), .val (.int (-1 : Int32))]) at_169 rfl rfl ?_
        refine Wk.iload (q := 173) at_171 rfl rfl ?_
        refine Wk.iload (q := 175) at_173 rfl rfl ?_
        refine Wk.icmpF (q := 178) at_175 rfl (by decide : (0 : Int32) < (1 : Int32)) ?_
        refine Wk.iload (q := 180) at_178 rfl rfl ?_
        refine Wk.iload (q := 182) at_180 rfl rfl ?_
        refine Wk.icmpF (q := 185) at_182 rfl (by decide : (1 : Int32) < (3 : Int32)) ?_
        refine Wk.aload (q := 187) at_185 rfl rfl rfl ?_
        refine Wk.iload (q := 189) at_187 rfl rfl ?_
        refine Wk.baloadB (q := 190) A1 (by rw [S1]; decide) e_1 at_189 rfl ?_
        refine Wk.bipush (q := 192) (v := (58 : Int32)) at_190 rfl rfl ?_
        refine Wk.icmp (q := 199) (q' := 195) at_192 (by decide) rfl rfl (fun (h162 : ¬ b1 = (58 : Int32)) => ?_) (fun (h162 : b1 = (58 : Int32)) => ?_)
        · refine Wk.aload (q := 201) at_199 rfl rfl rfl ?_
          refine Wk.iload (q := 203) at_201 rfl rfl ?_
          refine Wk.iload (q := 205) at_203 rfl rfl ?_
          refine Wk.callS2 (q := 208) (argsL := [(.ref a1), (.int (0 : Int32)), (.int (3 : Int32))]) (rest := []) (fr := 0) (lo := 0) (P := fun w => (((tabN (b0 &&& (255 : Int32)).toNatClampNeg) = (0 : Int32)) ∧ w = (.int (-1 : Int32))) ∨ ((¬ (tabN (b0 &&& (255 : Int32)).toNatClampNeg) = (0 : Int32)) ∧ ((tabN (b1 &&& (255 : Int32)).toNatClampNeg) = (0 : Int32)) ∧ (b1 = (58 : Int32)) ∧ w = (.int (1 : Int32))) ∨ ((¬ (tabN (b0 &&& (255 : Int32)).toNatClampNeg) = (0 : Int32)) ∧ ((tabN (b1 &&& (255 : Int32)).toNatClampNeg) = (0 : Int32)) ∧ (¬ b1 = (58 : Int32)) ∧ w = (.int (-1 : Int32))) ∨ ((¬ (tabN (b0 &&& (255 : Int32)).toNatClampNeg) = (0 : Int32)) ∧ (¬ (tabN (b1 &&& (255 : Int32)).toNatClampNeg) = (0 : Int32)) ∧ ((tabN (b2 &&& (255 : Int32)).toNatClampNeg) = (0 : Int32)) ∧ (b2 = (58 : Int32)) ∧ w = (.int (2 : Int32))) ∨ ((¬ (tabN (b0 &&& (255 : Int32)).toNatClampNeg) = (0 : Int32)) ∧ (¬ (tabN (b1 &&& (255 : Int32)).toNatClampNeg) = (0 : Int32)) ∧ ((tabN (b2 &&& (255 : Int32)).toNatClampNeg) = (0 : Int32)) ∧ (¬ b2 = (58 : Int32)) ∧ w = (.int (-1 : Int32))) ∨ ((¬ (tabN (b0 &&& (255 : Int32)).toNatClampNeg) = (0 : Int32)) ∧ (¬ (tabN (b1 &&& (255 : Int32)).toNatClampNeg) = (0 : Int32)) ∧ (¬ (tabN (b2 &&& (255 : Int32)).toNatClampNeg) = (0 : Int32)) ∧ w = (.int (-1 : Int32)))) (m_3 hw F A1 S1 e_0 e_1 e_2 e_3) (w_6 hw) (w_7 hw) (w_8 hw) (w_9 hw) (by decide) pd_0 rfl rfl rfl at_205 rfl (W := 0) rfl (by decide) (by decide) (by decide) (by decide) ?_
          intro w163 hP; rcases hP with ⟨h164, rfl⟩ | ⟨h165, h166, h167, rfl⟩ | ⟨h168, h169, h170, rfl⟩ | ⟨h171, h172, h173, h174, rfl⟩ | ⟨h175, h176, h177, h178, rfl⟩ | ⟨h179, h180, h181, rfl⟩
          · exact absurd h164 h161
          · exact absurd h167 h162
          · refine Wk.iload (q := 210) at_208 rfl rfl ?_
            refine Wk.icmpF (q := 213) at_210 rfl (by decide : (-1 : Int32) = (-1 : Int32)) ?_
            refine Wk.iconst (q := 214) (v := (1 : Int32)) at_213 rfl rfl ?_
            refine Wk.goto (q := 218) at_214 (by decide) rfl ?_
            exact Wk.retZ rfl rfl at_218 (by decide) (by decide) rfl
          · exact absurd h101 h172
          · exact absurd h101 h176
          · exact absurd h101 h180
        · refine Wk.iload (q := 197) at_195 rfl rfl ?_
          refine Wk.istore (q := 199) (ls' := #[.val (.int p0), .val (.int p1), .val (.int p2), .val (.int p3), .val (.int p4), .val (.ref a1), .val (.int (0 : Int32)), .val (.int (3 : Int32)), .val (.int (1 : Int32)), .val (.int (1 : Int32))]) at_197 rfl rfl ?_
          refine Wk.aload (q := 201) at_199 rfl rfl rfl ?_
          refine Wk.iload (q := 203) at_201 rfl rfl ?_
          refine Wk.iload (q := 205) at_203 rfl rfl ?_
          refine Wk.callS2 (q := 208) (argsL := [(.ref a1), (.int (0 : Int32)), (.int (3 : Int32))]) (rest := []) (fr := 0) (lo := 0) (P := fun w => (((tabN (b0 &&& (255 : Int32)).toNatClampNeg) = (0 : Int32)) ∧ w = (.int (-1 : Int32))) ∨ ((¬ (tabN (b0 &&& (255 : Int32)).toNatClampNeg) = (0 : Int32)) ∧ ((tabN (b1 &&& (255 : Int32)).toNatClampNeg) = (0 : Int32)) ∧ (b1 = (58 : Int32)) ∧ w = (.int (1 : Int32))) ∨ ((¬ (tabN (b0 &&& (255 : Int32)).toNatClampNeg) = (0 : Int32)) ∧ ((tabN (b1 &&& (255 : Int32)).toNatClampNeg) = (0 : Int32)) ∧ (¬ b1 = (58 : Int32)) ∧ w = (.int (-1 : Int32))) ∨ ((¬ (tabN (b0 &&& (255 : Int32)).toNatClampNeg) = (0 : Int32)) ∧ (¬ (tabN (b1 &&& (255 : Int32)).toNatClampNeg) = (0 : Int32)) ∧ ((tabN (b2 &&& (255 : Int32)).toNatClampNeg) = (0 : Int32)) ∧ (b2 = (58 : Int32)) ∧ w = (.int (2 : Int32))) ∨ ((¬ (tabN (b0 &&& (255 : Int32)).toNatClampNeg) = (0 : Int32)) ∧ (¬ (tabN (b1 &&& (255 : Int32)).toNatClampNeg) = (0 : Int32)) ∧ ((tabN (b2 &&& (255 : Int32)).toNatClampNeg) = (0 : Int32)) ∧ (¬ b2 = (58 : Int32)) ∧ w = (.int (-1 : Int32))) ∨ ((¬ (tabN (b0 &&& (255 : Int32)).toNatClampNeg) = (0 : Int32)) ∧ (¬ (tabN (b1 &&& (255 : Int32)).toNatClampNeg) = (0 : Int32)) ∧ (¬ (tabN (b2 &&& (255 : Int32)).toNatClampNeg) = (0 : Int32)) ∧ w = (.int (-1 : Int32)))) (m_3 hw F A1 S1 e_0 e_1 e_2 e_3) (w_6 hw) (w_7 hw) (w_8 hw) (w_9 hw) (by decide) pd_0 rfl rfl rfl at_205 rfl (W := 0) rfl (by decide) (by decide) (by decide) (by decide) ?_
          intro w182 hP; rcases hP with ⟨h183, rfl⟩ | ⟨h184, h185, h186, rfl⟩ | ⟨h187, h188, h189, rfl⟩ | ⟨h190, h191, h192, h193, rfl⟩ | ⟨h194, h195, h196, h197, rfl⟩ | ⟨h198, h199, h200, rfl⟩
          · exact absurd h183 h161
          · refine Wk.iload (q := 210) at_208 rfl rfl ?_
            refine Wk.icmpF (q := 213) at_210 rfl (by decide : (1 : Int32) = (1 : Int32)) ?_
            refine Wk.iconst (q := 214) (v := (1 : Int32)) at_213 rfl rfl ?_
            refine Wk.goto (q := 218) at_214 (by decide) rfl ?_
            exact Wk.retZ rfl rfl at_218 (by decide) (by decide) rfl
          · exact absurd h162 h189
          · exact absurd h101 h191
          · exact absurd h101 h195
          · exact absurd h101 h199
      · refine Wk.iconst (q := 166) (v := (0 : Int32)) at_165 rfl rfl ?_
        refine Wk.istore (q := 168) (ls' := #[.val (.int p0), .val (.int p1), .val (.int p2), .val (.int p3), .val (.int p4), .val (.ref a1), .val (.int (0 : Int32)), .val (.int (3 : Int32)), .val (.int (0 : Int32)), .unset]) at_166 rfl rfl ?_
        refine Wk.iconst (q := 169) (v := (-1 : Int32)) at_168 rfl rfl ?_
        refine Wk.istore (q := 171) (ls' := #[.val (.int p0), .val (.int p1), .val (.int p2), .val (.int p3), .val (.int p4), .val (.ref a1), .val (.int (0 : Int32)), .val (.int (3 : Int32)), .val (.int (0 : Int32)), .val (.int (-1 : Int32))]) at_169 rfl rfl ?_
        refine Wk.iload (q := 173) at_171 rfl rfl ?_
        refine Wk.iload (q := 175) at_173 rfl rfl ?_
        refine Wk.icmpT (q := 199) at_175 (by decide) rfl (by decide : ¬ (0 : Int32) < (0 : Int32)) ?_
        refine Wk.aload (q := 201) at_199 rfl rfl rfl ?_
        refine Wk.iload (q := 203) at_201 rfl rfl ?_
        refine Wk.iload (q := 205) at_203 rfl rfl ?_
        refine Wk.callS2 (q := 208) (argsL := [(.ref a1), (.int (0 : Int32)), (.int (3 : Int32))]) (rest := []) (fr := 0) (lo := 0) (P := fun w => (((tabN (b0 &&& (255 : Int32)).toNatClampNeg) = (0 : Int32)) ∧ w = (.int (-1 : Int32))) ∨ ((¬ (tabN (b0 &&& (255 : Int32)).toNatClampNeg) = (0 : Int32)) ∧ ((tabN (b1 &&& (255 : Int32)).toNatClampNeg) = (0 : Int32)) ∧ (b1 = (58 : Int32)) ∧ w = (.int (1 : Int32))) ∨ ((¬ (tabN (b0 &&& (255 : Int32)).toNatClampNeg) = (0 : Int32)) ∧ ((tabN (b1 &&& (255 : Int32)).toNatClampNeg) = (0 : Int32)) ∧ (¬ b1 = (58 : Int32)) ∧ w = (.int (-1 : Int32))) ∨ ((¬ (tabN (b0 &&& (255 : Int32)).toNatClampNeg) = (0 : Int32)) ∧ (¬ (tabN (b1 &&& (255 : Int32)).toNatClampNeg) = (0 : Int32)) ∧ ((tabN (b2 &&& (255 : Int32)).toNatClampNeg) = (0 : Int32)) ∧ (b2 = (58 : Int32)) ∧ w = (.int (2 : Int32))) ∨ ((¬ (tabN (b0 &&& (255 : Int32)).toNatClampNeg) = (0 : Int32)) ∧ (¬ (tabN (b1 &&& (255 : Int32)).toNatClampNeg) = (0 : Int32)) ∧ ((tabN (b2 &&& (255 : Int32)).toNatClampNeg) = (0 : Int32)) ∧ (¬ b2 = (58 : Int32)) ∧ w = (.int (-1 : Int32))) ∨ ((¬ (tabN (b0 &&& (255 : Int32)).toNatClampNeg) = (0 : Int32)) ∧ (¬ (tabN (b1 &&& (255 : Int32)).toNatClampNeg) = (0 : Int32)) ∧ (¬ (tabN (b2 &&& (255 : Int32)).toNatClampNeg) = (0 : Int32)) ∧ w = (.int (-1 : Int32)))) (m_3 hw F A1 S1 e_0 e_1 e_2 e_3) (w_6 hw) (w_7 hw) (w_8 hw) (w_9 hw) (by decide) pd_0 rfl rfl rfl at_205 rfl (W := 0) rfl (by decide) (by decide) (by decide) (by decide) ?_
        intro w201 hP; rcases hP with ⟨h202, rfl⟩ | ⟨h203, h204, h205, rfl⟩ | ⟨h206, h207, h208, rfl⟩ | ⟨h209, h210, h211, h212, rfl⟩ | ⟨h213, h214, h215, h216, rfl⟩ | ⟨h217, h218, h219, rfl⟩
        · refine Wk.iload (q := 210) at_208 rfl rfl ?_
          refine Wk.icmpF (q := 213) at_210 rfl (by decide : (-1 : Int32) = (-1 : Int32)) ?_
          refine Wk.iconst (q := 214) (v := (1 : Int32)) at_213 rfl rfl ?_
          refine Wk.goto (q := 218) at_214 (by decide) rfl ?_
          exact Wk.retZ rfl rfl at_218 (by decide) (by decide) rfl
        · exact absurd h161 h203
        · exact absurd h161 h206
        · exact absurd h161 h209
        · exact absurd h161 h213
        · exact absurd h161 h217
set_option maxRecDepth 65536 in
set_option maxHeartbeats 40000000 in
theorem law_tail_0_4 {l : Launch} {Z : State} {a0 : Array Value} {n0 : Nat} {h : Heap}  {a_T : Addr} {c_T : Cell} (hw : ∀ d ∈ tables_1, d.before a0 Z = true) (F : OwnF Z h  a_T c_T) {a1 : Addr} {c1 : Cell} {b0 b1 b2 b3 : Int32} (A1 : Arr Z h a1 c1 .byte) (S1 : c1.slots.size = 4) (e_0 : c1.slots[0]? = some (Value.int b0)) (e_1 : c1.slots[1]? = some (Value.int b1)) (e_2 : c1.slots[2]? = some (Value.int b2)) (e_3 : c1.slots[3]? = some (Value.int b3)) (p0 p1 p2 p3 p4 : Int32) (k_s : ((p4 &&& (2147483647 : Int32)) % (5 : Int32)) = (0 : Int32)) (k_e : (((XT.ushr p4 (8 : Int32)) &&& (2147483647 : Int32)) % (5 : Int32)) = (4 : Int32)) : Wk l Z n0 "com/example/tallykey/tallykey/HttpSyntaxNameEndPinLaw" "law" code maxLocals ret room_1 16 128 (fun v _ => v = some (.int (1 : Int32))) h 1 4 37 #[.val (.int p0), .val (.int p1), .val (.int p2), .val (.int p3), .val (.int p4), .val (.ref a1), .unset, .unset, .unset, .unset] [] := by
  refine Wk.iload (q := 39) at_37 rfl rfl ?_
  refine Wk.ldcI (q := 41) (w_5 hw) at_39 rfl ?_
  refine Wk.iand (q := 42) (v := (p4 &&& (2147483647 : Int32))) at_41 rfl rfl ?_
  refine Wk.iconst (q := 43) (v := (5 : Int32)) at_42 rfl rfl ?_
  refine Wk.irem (q := 44) (v := (0 : Int32)) at_43 rfl (by decide) k_s ?_
  refine Wk.istore (q := 46) (ls' := #[.val (.int p0), .val (.int p1), .val (.int p2), .val (.int p3), .val (.int p4), .val (.ref a1), .val (.int (0 : Int32)), .unset, .unset, .unset]) at_44 rfl rfl ?_
  refine Wk.iload (q := 48) at_46 rfl rfl ?_
  refine Wk.iload (q := 50) at_48 rfl rfl ?_
  refine Wk.bipush (q := 52) (v := (8 : Int32)) at_50 rfl rfl ?_
  refine Wk.iushr (q := 53) (v := (XT.ushr p4 (8 : Int32))) at_52 rfl rfl ?_
  refine Wk.ldcI (q := 55) (w_5 hw) at_53 rfl ?_
  refine Wk.iand (q := 56) (v := ((XT.ushr p4 (8 : Int32)) &&& (2147483647 : Int32))) at_55 rfl rfl ?_
  refine Wk.iconst (q := 57) (v := (5 : Int32)) at_56 rfl rfl ?_
  refine Wk.iload (q := 59) at_57 rfl rfl ?_
  refine Wk.isub (q := 60) (v := (5 : Int32)) at_59 rfl (by decide) ?_
  refine Wk.irem (q := 61) (v := (4 : Int32)) at_60 rfl (by decide) k_e ?_
  refine Wk.iadd (q := 62) (v := (4 : Int32)) at_61 rfl (by decide) ?_
  refine Wk.istore (q := 64) (ls' := #[.val (.int p0), .val (.int p1), .val (.int p2), .val (.int p3), .val (.int p4), .val (.ref a1), .val (.int (0 : Int32)), .val (.int (4 : Int32)), .unset, .unset]) at_62 rfl rfl ?_
  refine Wk.iload (q := 66) at_64 rfl rfl ?_
  refine Wk.istore (q := 68) (ls' := #[.val (.int p0), .val (.int p1), .val (.int p2), .val (.int p3), .val (.int p4), .val (.ref a1), .val (.int (0 : Int32)), .val (.int (4 : Int32)), .val (.int (4 : Int32)), .unset]) at_66 rfl rfl ?_
  refine Wk.iconst (q := 69) (v := (3 : Int32)) at_68 rfl rfl ?_
  refine Wk.iload (q := 71) at_69 rfl rfl ?_
  refine Wk.icmpF (q := 74) at_71 rfl (by decide : ¬ (3 : Int32) < (0 : Int32)) ?_
  refine Wk.iconst (q := 75) (v := (3 : Int32)) at_74 rfl rfl ?_
  refine Wk.iload (q := 77) at_75 rfl rfl ?_
  refine Wk.icmpF (q := 80) at_77 rfl (by decide : (3 : Int32) < (4 : Int32)) ?_
  refine Wk.aload (q := 82) at_80 rfl rfl rfl ?_
  refine Wk.iconst (q := 83) (v := (3 : Int32)) at_82 rfl rfl ?_
  refine Wk.baloadB (q := 84) A1 (by rw [S1]; decide) e_3 at_83 rfl ?_
  refine Wk.callS1 (q := 87) (argsL := [(.int b3)]) (rest := []) (fr := 0) (lo := 0) (v0 := (.int (tabN (b3 &&& (255 : Int32)).toNatClampNeg))) (m_cls hw F b3) (w_10 hw) (w_11 hw) (w_3 hw) (w_12 hw) (by decide) pd_1 rfl rfl rfl at_84 rfl (W := 0) rfl (by decide) (by decide) (by decide) (by decide) ?_
  refine Wk.ifc (q := 93) (q' := 90) at_87 (by decide) rfl rfl (fun (h1 : ¬ (tabN (b3 &&& (255 : Int32)).toNatClampNeg) = (0 : Int32)) => ?_) (fun (h1 : (tabN (b3 &&& (255 : Int32)).toNatClampNeg) = (0 : Int32)) => ?_)
  · refine Wk.iconst (q := 94) (v := (2 : Int32)) at_93 rfl rfl ?_
    refine Wk.iload (q := 96) at_94 rfl rfl ?_
    refine Wk.icmpF (q := 99) at_96 rfl (by decide : ¬ (2 : Int32) < (0 : Int32)) ?_
    refine Wk.iconst (q := 100) (v := (2 : Int32)) at_99 rfl rfl ?_
    refine Wk.iload (q := 102) at_100 rfl rfl ?_
    refine Wk.icmpF (q := 105) at_102 rfl (by decide : (2 : Int32) < (4 : Int32)) ?_
    refine Wk.aload (q := 107) at_105 rfl rfl rfl ?_
    refine Wk.iconst (q := 108) (v := (2 : Int32)) at_107 rfl rfl ?_
    refine Wk.baloadB (q := 109) A1 (by rw [S1]; decide) e_2 at_108 rfl ?_
    refine Wk.callS1 (q := 112) (argsL := [(.int b2)]) (rest := []) (fr := 0) (lo := 0) (v0 := (.int (tabN (b2 &&& (255 : Int32)).toNatClampNeg))) (m_cls hw F b2) (w_10 hw) (w_11 hw) (w_3 hw) (w_12 hw) (by decide) pd_1 rfl rfl rfl at_109 rfl (W := 0) rfl (by decide) (by decide) (by decide) (by decide) ?_
    refine Wk.ifc (q := 118) (q' := 115) at_112 (by decide) rfl rfl (fun (h2 : ¬ (tabN (b2 &&& (255 : Int32)).toNatClampNeg) = (0 : Int32)) => ?_) (fun (h2 : (tabN (b2 &&& (255 : Int32)).toNatClampNeg) = (0 : Int32)) => ?_)
    · refine Wk.iconst (q := 119) (v := (1 : Int32)) at_118 rfl rfl ?_
      refine Wk.iload (q := 121) at_119 rfl rfl ?_
      refine Wk.icmpF (q := 124) at_121 rfl (by decide : ¬ (1 : Int32) < (0 : Int32)) ?_
      refine Wk.iconst (q := 125) (v := (1 : Int32)) at_124 rfl rfl ?_
      refine Wk.iload (q := 127) at_125 rfl rfl ?_
      refine Wk.icmpF (q := 130) at_127 rfl (by decide : (1 : Int32) < (4 : Int32)) ?_
      refine Wk.aload (q := 132) at_130 rfl rfl rfl ?_
      refine Wk.iconst (q := 133) (v := (1 : Int32)) at_132 rfl rfl ?_
      refine Wk.baloadB (q := 134) A1 (by rw [S1]; decide) e_1 at_133 rfl ?_
      refine Wk.callS1 (q := 137) (argsL := [(.int b1)]) (rest := []) (fr := 0) (lo := 0) (v0 := (.int (tabN (b1 &&& (255 : Int32)).toNatClampNeg))) (m_cls hw F b1) (w_10 hw) (w_11 hw) (w_3 hw) (w_12 hw) (by decide) pd_1 rfl rfl rfl at_134 rfl (W := 0) rfl (by decide) (by decide) (by decide) (by decide) ?_
      refine Wk.ifc (q := 143) (q' := 140) at_137 (by decide) rfl rfl (fun (h3 : ¬ (tabN (b1 &&& (255 : Int32)).toNatClampNeg) = (0 : Int32)) => ?_) (fun (h3 : (tabN (b1 &&& (255 : Int32)).toNatClampNeg) = (0 : Int32)) => ?_)
      · refine Wk.iconst (q := 144) (v := (0 : Int32)) at_143 rfl rfl ?_
        refine Wk.iload (q := 146) at_144 rfl rfl ?_
        refine Wk.icmpF (q := 149) at_146 rfl (by decide : ¬ (0 : Int32) < (0 : Int32)) ?_
        refine Wk.iconst (q := 150) (v := (0 : Int32)) at_149 rfl rfl ?_
        refine Wk.iload (q := 152) at_150 rfl rfl ?_
        refine Wk.icmpF (q := 155) at_152 rfl (by decide : (0 : Int32) < (4 : Int32)) ?_
        refine Wk.aload (q := 157) at_155 rfl rfl rfl ?_
        refine Wk.iconst (q := 158) (v := (0 : Int32)) at_157 rfl rfl ?_
        refine Wk.baloadB (q := 159) A1 (by rw [S1]; decide) e_0 at_158 rfl ?_
        refine Wk.callS1 (q := 162) (argsL := [(.int b0)]) (rest := []) (fr := 0) (lo := 0) (v0 := (.int (tabN (b0 &&& (255 : Int32)).toNatClampNeg))) (m_cls hw F b0) (w_10 hw) (w_11 hw) (w_3 hw) (w_12 hw) (by decide) pd_1 rfl rfl rfl at_159 rfl (W := 0) rfl (by decide) (by decide) (by decide) (by decide) ?_
        refine Wk.ifc (q := 168) (q' := 165) at_162 (by decide) rfl rfl (fun (h4 : ¬ (tabN (b0 &&& (255 : Int32)).toNatClampNeg) = (0 : Int32)) => ?_) (fun (h4 : (tabN (b0 &&& (255 : Int32)).toNatClampNeg) = (0 : Int32)) => ?_)
        · refine Wk.iconst (q := 169) (v := (-1 : Int32)) at_168 rfl rfl ?_
          refine Wk.istore (q := 171) (ls' := #[.val (.int p0), .val (.int p1), .val (.int p2), .val (.int p3), .val (.int p4), .val (.ref a1), .val (.int (0 : Int32)), .val (.int (4 : Int32)), .val (.int (4 : Int32)), .val (.int (-1 : Int32))]) at_169 rfl rfl ?_
          refine Wk.iload (q := 173) at_171 rfl rfl ?_
          refine Wk.iload (q := 175) at_173 rfl rfl ?_
          refine Wk.icmpF (q := 178) at_175 rfl (by decide : (0 : Int32) < (4 : Int32)) ?_
          refine Wk.iload (q := 180) at_178 rfl rfl ?_
          refine Wk.iload (q := 182) at_180 rfl rfl ?_
          refine Wk.icmpT (q := 199) at_182 (by decide) rfl (by decide : ¬ (4 : Int32) < (4 : Int32)) ?_
          refine Wk.aload (q := 201) at_199 rfl rfl rfl ?_
          refine Wk.iload (q := 203) at_201 rfl rfl ?_
          refine Wk.iload (q := 205) at_203 rfl rfl ?_
          refine Wk.callS2 (q := 208) (argsL := [(.ref a1), (.int (0 : Int32)), (.int (4 : Int32))]) (rest := []) (fr := 0) (lo := 0) (P := fun w => (((tabN (b0 &&& (255 : Int32)).toNatClampNeg) = (0 : Int32)) ∧ w = (.int (-1 : Int32))) ∨ ((¬ (tabN (b0 &&& (255 : Int32)).toNatClampNeg) = (0 : Int32)) ∧ ((tabN (b1 &&& (255 : Int32)).toNatClampNeg) = (0 : Int32)) ∧ (b1 = (58 : Int32)) ∧ w = (.int (1 : Int32))) ∨ ((¬ (tabN (b0 &&& (255 : Int32)).toNatClampNeg) = (0 : Int32)) ∧ ((tabN (b1 &&& (255 : Int32)).toNatClampNeg) = (0 : Int32)) ∧ (¬ b1 = (58 : Int32)) ∧ w = (.int (-1 : Int32))) ∨ ((¬ (tabN (b0 &&& (255 : Int32)).toNatClampNeg) = (0 : Int32)) ∧ (¬ (tabN (b1 &&& (255 : Int32)).toNatClampNeg) = (0 : Int32)) ∧ ((tabN (b2 &&& (255 : Int32)).toNatClampNeg) = (0 : Int32)) ∧ (b2 = (58 : Int32)) ∧ w = (.int (2 : Int32))) ∨ ((¬ (tabN (b0 &&& (255 : Int32)).toNatClampNeg) = (0 : Int32)) ∧ (¬ (tabN (b1 &&& (255 : Int32)).toNatClampNeg) = (0 : Int32)) ∧ ((tabN (b2 &&& (255 : Int32)).toNatClampNeg) = (0 : Int32)) ∧ (¬ b2 = (58 : Int32)) ∧ w = (.int (-1 : Int32))) ∨ ((¬ (tabN (b0 &&& (255 : Int32)).toNatClampNeg) = (0 : Int32)) ∧ (¬ (tabN (b1 &&& (255 : Int32)).toNatClampNeg) = (0 : Int32)) ∧ (¬ (tabN (b2 &&& (255 : Int32)).toNatClampNeg) = (0 : Int32)) ∧ ((tabN (b3 &&& (255 : Int32)).toNatClampNeg) = (0 : Int32)) ∧ (b3 = (58 : Int32)) ∧ w = (.int (3 : Int32))) ∨ ((¬ (tabN (b0 &&& (255 : Int32)).toNatClampNeg) = (0 : Int32)) ∧ (¬ (tabN (b1 &&& (255 : Int32)).toNatClampNeg) = (0 : Int32)) ∧ (¬ (tabN (b2 &&& (255 : Int32)).toNatClampNeg) = (0 : Int32)) ∧ ((tabN (b3 &&& (255 : Int32)).toNatClampNeg) = (0 : Int32)) ∧ (¬ b3 = (58 : Int32)) ∧ w = (.int (-1 : Int32))) ∨ ((¬ (tabN (b0 &&& (255 : Int32)).toNatClampNeg) = (0 : Int32)) ∧ (¬ (tabN (b1 &&& (255 : Int32)).toNatClampNeg) = (0 : Int32)) ∧ (¬ (tabN (b2 &&& (255 : Int32)).toNatClampNeg) = (0 : Int32)) ∧ (¬ (tabN (b3 &&& (255 : Int32)).toNatClampNeg) = (0 : Int32)) ∧ w = (.int (-1 : Int32)))) (m_4 hw F A1 S1 e_0 e_1 e_2 e_3) (w_6 hw) (w_7 hw) (w_8 hw) (w_9 hw) (by decide) pd_0 rfl rfl rfl at_205 rfl (W := 0) rfl (by decide) (by decide) (by decide) (by decide) ?_
          intro w5 hP; rcases hP with ⟨h6, rfl⟩ | ⟨h7, h8, h9, rfl⟩ | ⟨h10, h11, h12, rfl⟩ | ⟨h13, h14, h15, h16, rfl⟩ | ⟨h17, h18, h19, h20, rfl⟩ | ⟨h21, h22, h23, h24, h25, rfl⟩ | ⟨h26, h27, h28, h29, h30, rfl⟩ | ⟨h31, h32, h33, h34, rfl⟩
          · exact absurd h6 h4
          · exact absurd h8 h3
          · exact absurd h11 h3
          · exact absurd h15 h2
          · exact absurd h19 h2
          · exact absurd h24 h1
          · exact absurd h29 h1
          · refine Wk.iload (q := 210) at_208 rfl rfl ?_
            refine Wk.icmpF (q := 213) at_210 rfl (by decide : (-1 : Int32) = (-1 : Int32)) ?_
            refine Wk.iconst (q := 214) (v := (1 : Int32)) at_213 rfl rfl ?_
            refine Wk.goto (q := 218) at_214 (by decide) rfl ?_
            exact Wk.retZ rfl rfl at_218 (by decide) (by decide) rfl
        · refine Wk.iconst (q := 166) (v := (0 : Int32)) at_165 rfl rfl ?_
          refine Wk.istore (q := 168) (ls' := #[.val (.int p0), .val (.int p1), .val (.int p2), .val (.int p3), .val (.int p4), .val (.ref a1), .val (.int (0 : Int32)), .val (.int (4 : Int32)), .val (.int (0 : Int32)), .unset]) at_166 rfl rfl ?_
          refine Wk.iconst (q := 169) (v := (-1 : Int32)) at_168 rfl rfl ?_
          refine Wk.istore (q := 171) (ls' := #[.val (.int p0), .val (.int p1), .val (.int p2), .val (.int p3), .val (.int p4), .val (.ref a1), .val (.int (0 : Int32)), .val (.int (4 : Int32)), .val (.int (0 : Int32)), .val (.int (-1 : Int32))]) at_169 rfl rfl ?_
          refine Wk.iload (q := 173) at_171 rfl rfl ?_
          refine Wk.iload (q := 175) at_173 rfl rfl ?_
          refine Wk.icmpT (q := 199) at_175 (by decide) rfl (by decide : ¬ (0 : Int32) < (0 : Int32)) ?_
          refine Wk.aload (q := 201) at_199 rfl rfl rfl ?_
          refine Wk.iload (q := 203) at_201 rfl rfl ?_
          refine Wk.iload (q := 205) at_203 rfl rfl ?_
          refine Wk.callS2 (q := 208) (argsL := [(.ref a1), (.int (0 : Int32)), (.int (4 : Int32))]) (rest := []) (fr := 0) (lo := 0) (P := fun w => (((tabN (b0 &&& (255 : Int32)).toNatClampNeg) = (0 : Int32)) ∧ w = (.int (-1 : Int32))) ∨ ((¬ (tabN (b0 &&& (255 : Int32)).toNatClampNeg) = (0 : Int32)) ∧ ((tabN (b1 &&& (255 : Int32)).toNatClampNeg) = (0 : Int32)) ∧ (b1 = (58 : Int32)) ∧ w = (.int (1 : Int32))) ∨ ((¬ (tabN (b0 &&& (255 : Int32)).toNatClampNeg) = (0 : Int32)) ∧ ((tabN (b1 &&& (255 : Int32)).toNatClampNeg) = (0 : Int32)) ∧ (¬ b1 = (58 : Int32)) ∧ w = (.int (-1 : Int32))) ∨ ((¬ (tabN (b0 &&& (255 : Int32)).toNatClampNeg) = (0 : Int32)) ∧ (¬ (tabN (b1 &&& (255 : Int32)).toNatClampNeg) = (0 : Int32)) ∧ ((tabN (b2 &&& (255 : Int32)).toNatClampNeg) = (0 : Int32)) ∧ (b2 = (58 : Int32)) ∧ w = (.int (2 : Int32))) ∨ ((¬ (tabN (b0 &&& (255 : Int32)).toNatClampNeg) = (0 : Int32)) ∧ (¬ (tabN (b1 &&& (255 : Int32)).toNatClampNeg) = (0 : Int32)) ∧ ((tabN (b2 &&& (255 : Int32)).toNatClampNeg) = (0 : Int32)) ∧ (¬ b2 = (58 : Int32)) ∧ w = (.int (-1 : Int32))) ∨ ((¬ (tabN (b0 &&& (255 : Int32)).toNatClampNeg) = (0 : Int32)) ∧ (¬ (tabN (b1 &&& (255 : Int32)).toNatClampNeg) = (0 : Int32)) ∧ (¬ (tabN (b2 &&& (255 : Int32)).toNatClampNeg) = (0 : Int32)) ∧ ((tabN (b3 &&& (255 : Int32)).toNatClampNeg) = (0 : Int32)) ∧ (b3 = (58 : Int32)) ∧ w = (.int (3 : Int32))) ∨ ((¬ (tabN (b0 &&& (255 : Int32)).toNatClampNeg) = (0 : Int32)) ∧ (¬ (tabN (b1 &&& (255 : Int32)).toNatClampNeg) = (0 : Int32)) ∧ (¬ (tabN (b2 &&& (255 : Int32)).toNatClampNeg) = (0 : Int32)) ∧ ((tabN (b3 &&& (255 : Int32)).toNatClampNeg) = (0 : Int32)) ∧ (¬ b3 = (58 : Int32)) ∧ w = (.int (-1 : Int32))) ∨ ((¬ (tabN (b0 &&& (255 : Int32)).toNatClampNeg) = (0 : Int32)) ∧ (¬ (tabN (b1 &&& (255 : Int32)).toNatClampNeg) = (0 : Int32)) ∧ (¬ (tabN (b2 &&& (255 : Int32)).toNatClampNeg) = (0 : Int32)) ∧ (¬ (tabN (b3 &&& (255 : Int32)).toNatClampNeg) = (0 : Int32)) ∧ w = (.int (-1 : Int32)))) (m_4 hw F A1 S1 e_0 e_1 e_2 e_3) (w_6 hw) (w_7 hw) (w_8 hw) (w_9 hw) (by decide) pd_0 rfl rfl rfl at_205 rfl (W := 0) rfl (by decide) (by decide) (by decide) (by decide) ?_
          intro w35 hP; rcases hP with ⟨h36, rfl⟩ | ⟨h37, h38, h39, rfl⟩ | ⟨h40, h41, h42, rfl⟩ | ⟨h43, h44, h45, h46, rfl⟩ | ⟨h47, h48, h49, h50, rfl⟩ | ⟨h51, h52, h53, h54, h55, rfl⟩ | ⟨h56, h57, h58, h59, h60, rfl⟩ | ⟨h61, h62, h63, h64, rfl⟩
          · refine Wk.iload (q := 210) at_208 rfl rfl ?_
            refine Wk.icmpF (q := 213) at_210 rfl (by decide : (-1 : Int32) = (-1 : Int32)) ?_
            refine Wk.iconst (q := 214) (v := (1 : Int32)) at_213 rfl rfl ?_
            refine Wk.goto (q := 218) at_214 (by decide) rfl ?_
            exact Wk.retZ rfl rfl at_218 (by decide) (by decide) rfl
          · exact absurd h4 h37
          · exact absurd h4 h40
          · exact absurd h4 h43
          · exact absurd h4 h47
          · exact absurd h4 h51
          · exact absurd h4 h56
          · exact absurd h4 h61
      · refine Wk.iconst (q := 141) (v := (1 : Int32)) at_140 rfl rfl ?_
        refine Wk.istore (q := 143) (ls' := #[.val (.int p0), .val (.int p1), .val (.int p2), .val (.int p3), .val (.int p4), .val (.ref a1), .val (.int (0 : Int32)), .val (.int (4 : Int32)), .val (.int (1 : Int32)), .unset]) at_141 rfl rfl ?_
        refine Wk.iconst (q := 144) (v := (0 : Int32)) at_143 rfl rfl ?_
        refine Wk.iload (q := 146) at_144 rfl rfl ?_
        refine Wk.icmpF (q := 149) at_146 rfl (by decide : ¬ (0 : Int32) < (0 : Int32)) ?_
        refine Wk.iconst (q := 150) (v := (0 : Int32)) at_149 rfl rfl ?_
        refine Wk.iload (q := 152) at_150 rfl rfl ?_
        refine Wk.icmpF (q := 155) at_152 rfl (by decide : (0 : Int32) < (4 : Int32)) ?_
        refine Wk.aload (q := 157) at_155 rfl rfl rfl ?_
        refine Wk.iconst (q := 158) (v := (0 : Int32)) at_157 rfl rfl ?_
        refine Wk.baloadB (q := 159) A1 (by rw [S1]; decide) e_0 at_158 rfl ?_
        refine Wk.callS1 (q := 162) (argsL := [(.int b0)]) (rest := []) (fr := 0) (lo := 0) (v0 := (.int (tabN (b0 &&& (255 : Int32)).toNatClampNeg))) (m_cls hw F b0) (w_10 hw) (w_11 hw) (w_3 hw) (w_12 hw) (by decide) pd_1 rfl rfl rfl at_159 rfl (W := 0) rfl (by decide) (by decide) (by decide) (by decide) ?_
        refine Wk.ifc (q := 168) (q' := 165) at_162 (by decide) rfl rfl (fun (h65 : ¬ (tabN (b0 &&& (255 : Int32)).toNatClampNeg) = (0 : Int32)) => ?_) (fun (h65 : (tabN (b0 &&& (255 : Int32)).toNatClampNeg) = (0 : Int32)) => ?_)
        · refine Wk.iconst (q := 169) (v := (-1 : Int32)) at_168 rfl rfl ?_
          refine Wk.istore (q := 171) (ls' := #[.val (.int p0), .val (.int p1), .val (.int p2), .val (.int p3), .val (.int p4), .val (.ref a1), .val (.int (0 : Int32)), .val (.int (4 : Int32)), .val (.int (1 : Int32)), .val (.int (-1 : Int32))]) at_169 rfl rfl ?_
          refine Wk.iload (q := 173) at_171 rfl rfl ?_
          refine Wk.iload (q := 175) at_173 rfl rfl ?_
          refine Wk.icmpF (q := 178) at_175 rfl (by decide : (0 : Int32) < (1 : Int32)) ?_
          refine Wk.iload (q := 180) at_178 rfl rfl ?_
          refine Wk.iload (q := 182) at_180 rfl rfl ?_
          refine Wk.icmpF (q := 185) at_182 rfl (by decide : (1 : Int32) < (4 : Int32)) ?_
          refine Wk.aload (q := 187) at_185 rfl rfl rfl ?_
          refine Wk.iload (q := 189) at_187 rfl rfl ?_
          refine Wk.baloadB (q := 190) A1 (by rw [S1]; decide) e_1 at_189 rfl ?_
          refine Wk.bipush (q := 192) (v := (58 : Int32)) at_190 rfl rfl ?_
          refine Wk.icmp (q := 199) (q' := 195) at_192 (by decide) rfl rfl (fun (h66 : ¬ b1 = (58 : Int32)) => ?_) (fun (h66 : b1 = (58 : Int32)) => ?_)
          · refine Wk.aload (q := 201) at_199 rfl rfl rfl ?_
            refine Wk.iload (q := 203) at_201 rfl rfl ?_
            refine Wk.iload (q := 205) at_203 rfl rfl ?_
            refine Wk.callS2 (q := 208) (argsL := [(.ref a1), (.int (0 : Int32)), (.int (4 : Int32))]) (rest := []) (fr := 0) (lo := 0) (P := fun w => (((tabN (b0 &&& (255 : Int32)).toNatClampNeg) = (0 : Int32)) ∧ w = (.int (-1 : Int32))) ∨ ((¬ (tabN (b0 &&& (255 : Int32)).toNatClampNeg) = (0 : Int32)) ∧ ((tabN (b1 &&& (255 : Int32)).toNatClampNeg) = (0 : Int32)) ∧ (b1 = (58 : Int32)) ∧ w = (.int (1 : Int32))) ∨ ((¬ (tabN (b0 &&& (255 : Int32)).toNatClampNeg) = (0 : Int32)) ∧ ((tabN (b1 &&& (255 : Int32)).toNatClampNeg) = (0 : Int32)) ∧ (¬ b1 = (58 : Int32)) ∧ w = (.int (-1 : Int32))) ∨ ((¬ (tabN (b0 &&& (255 : Int32)).toNatClampNeg) = (0 : Int32)) ∧ (¬ (tabN (b1 &&& (255 : Int32)).toNatClampNeg) = (0 : Int32)) ∧ ((tabN (b2 &&& (255 : Int32)).toNatClampNeg) = (0 : Int32)) ∧ (b2 = (58 : Int32)) ∧ w = (.int (2 : Int32))) ∨ ((¬ (tabN (b0 &&& (255 : Int32)).toNatClampNeg) = (0 : Int32)) ∧ (¬ (tabN (b1 &&& (255 : Int32)).toNatClampNeg) = (0 : Int32)) ∧ ((tabN (b2 &&& (255 : Int32)).toNatClampNeg) = (0 : Int32)) ∧ (¬ b2 = (58 : Int32)) ∧ w = (.int (-1 : Int32))) ∨ ((¬ (tabN (b0 &&& (255 : Int32)).toNatClampNeg) = (0 : Int32)) ∧ (¬ (tabN (b1 &&& (255 : Int32)).toNatClampNeg) = (0 : Int32)) ∧ (¬ (tabN (b2 &&& (255 : Int32)).toNatClampNeg) = (0 : Int32)) ∧ ((tabN (b3 &&& (255 : Int32)).toNatClampNeg) = (0 : Int32)) ∧ (b3 = (58 : Int32)) ∧ w = (.int (3 : Int32))) ∨ ((¬ (tabN (b0 &&& (255 : Int32)).toNatClampNeg) = (0 : Int32)) ∧ (¬ (tabN (b1 &&& (255 : Int32)).toNatClampNeg) = (0 : Int32)) ∧ (¬ (tabN (b2 &&& (255 : Int32)).toNatClampNeg) = (0 : Int32)) ∧ ((tabN (b3 &&& (255 : Int32)).toNatClampNeg) = (0 : Int32)) ∧ (¬ b3 = (58 : Int32)) ∧ w = (.int (-1 : Int32))) ∨ ((¬ (tabN (b0 &&& (255 : Int32)).toNatClampNeg) = (0 : Int32)) ∧ (¬ (tabN (b1 &&& (255 : Int32)).toNatClampNeg) = (0 : Int32)) ∧ (¬ (tabN (b2 &&& (255 : Int32)).toNatClampNeg) = (0 : Int32)) ∧ (¬ (tabN (b3 &&& (255 : Int32)).toNatClampNeg) = (0 : Int32)) ∧ w = (.int (-1 : Int32)))) (m_4 hw F A1 S1 e_0 e_1 e_2 e_3) (w_6 hw) (w_7 hw) (w_8 hw) (w_9 hw) (by decide) pd_0 rfl rfl rfl at_205 rfl (W := 0) rfl (by decide) (by decide) (by decide) (by decide) ?_
            intro w67 hP; rcases hP with ⟨h68, rfl⟩ | ⟨h69, h70, h71, rfl⟩ | ⟨h72, h73, h74, rfl⟩ | ⟨h75, h76, h77, h78, rfl⟩ | ⟨h79, h80, h81, h82, rfl⟩ | ⟨h83, h84, h85, h86, h87, rfl⟩ | ⟨h88, h89, h90, h91, h92, rfl⟩ | ⟨h93, h94, h95, h96, rfl⟩
            · exact absurd h68 h65
            · exact absurd h71 h66
            · refine Wk.iload (q := 210) at_208 rfl rfl ?_
              refine Wk.icmpF (q := 213) at_210 rfl (by decide : (-1 : Int32) = (-1 : Int32)) ?_
              refine Wk.iconst (q := 214) (v := (1 : Int32)) at_213 rfl rfl ?_
              refine Wk.goto (q := 218) at_214 (by decide) rfl ?_
              exact Wk.retZ rfl rfl at_218 (by decide) (by decide) rfl
            · exact absurd h3 h76
            · exact absurd h3 h80
            · exact absurd h3 h84
            · exact absurd h3 h89
            · exact absurd h3 h94
          · refine Wk.iload (q := 197) at_195 rfl rfl ?_
            refine Wk.istore (q := 199) (ls' := #[.val (.int p0), .val (.int p1), .val (.int p2), .val (.int p3), .val (.int p4), .val (.ref a1), .val (.int (0 : Int32)), .val (.int (4 : Int32)), .val (.int (1 : Int32)), .val (.int (1 : Int32))]) at_197 rfl rfl ?_
            refine Wk.aload (q := 201) at_199 rfl rfl rfl ?_
            refine Wk.iload (q := 203) at_201 rfl rfl ?_
            refine Wk.iload (q := 205) at_203 rfl rfl ?_
            refine Wk.callS2 (q := 208) (argsL := [(.ref a1), (.int (0 : Int32)), (.int (4 : Int32))]) (rest := []) (fr := 0) (lo := 0) (P := fun w => (((tabN (b0 &&& (255 : Int32)).toNatClampNeg) = (0 : Int32)) ∧ w = (.int (-1 : Int32))) ∨ ((¬ (tabN (b0 &&& (255 : Int32)).toNatClampNeg) = (0 : Int32)) ∧ ((tabN (b1 &&& (255 : Int32)).toNatClampNeg) = (0 : Int32)) ∧ (b1 = (58 : Int32)) ∧ w = (.int (1 : Int32))) ∨ ((¬ (tabN (b0 &&& (255 : Int32)).toNatClampNeg) = (0 : Int32)) ∧ ((tabN (b1 &&& (255 : Int32)).toNatClampNeg) = (0 : Int32)) ∧ (¬ b1 = (58 : Int32)) ∧ w = (.int (-1 : Int32))) ∨ ((¬ (tabN (b0 &&& (255 : Int32)).toNatClampNeg) = (0 : Int32)) ∧ (¬ (tabN (b1 &&& (255 : Int32)).toNatClampNeg) = (0 : Int32)) ∧ ((tabN (b2 &&& (255 : Int32)).toNatClampNeg) = (0 : Int32)) ∧ (b2 = (58 : Int32)) ∧ w = (.int (2 : Int32))) ∨ ((¬ (tabN (b0 &&& (255 : Int32)).toNatClampNeg) = (0 : Int32)) ∧ (¬ (tabN (b1 &&& (255 : Int32)).toNatClampNeg) = (0 : Int32)) ∧ ((tabN (b2 &&& (255 : Int32)).toNatClampNeg) = (0 : Int32)) ∧ (¬ b2 = (58 : Int32)) ∧ w = (.int (-1 : Int32))) ∨ ((¬ (tabN (b0 &&& (255 : Int32)).toNatClampNeg) = (0 : Int32)) ∧ (¬ (tabN (b1 &&& (255 : Int32)).toNatClampNeg) = (0 : Int32)) ∧ (¬ (tabN (b2 &&& (255 : Int32)).toNatClampNeg) = (0 : Int32)) ∧ ((tabN (b3 &&& (255 : Int32)).toNatClampNeg) = (0 : Int32)) ∧ (b3 = (58 : Int32)) ∧ w = (.int (3 : Int32))) ∨ ((¬ (tabN (b0 &&& (255 : Int32)).toNatClampNeg) = (0 : Int32)) ∧ (¬ (tabN (b1 &&& (255 : Int32)).toNatClampNeg) = (0 : Int32)) ∧ (¬ (tabN (b2 &&& (255 : Int32)).toNatClampNeg) = (0 : Int32)) ∧ ((tabN (b3 &&& (255 : Int32)).toNatClampNeg) = (0 : Int32)) ∧ (¬ b3 = (58 : Int32)) ∧ w = (.int (-1 : Int32))) ∨ ((¬ (tabN (b0 &&& (255 : Int32)).toNatClampNeg) = (0 : Int32)) ∧ (¬ (tabN (b1 &&& (255 : Int32)).toNatClampNeg) = (0 : Int32)) ∧ (¬ (tabN (b2 &&& (255 : Int32)).toNatClampNeg) = (0 : Int32)) ∧ (¬ (tabN (b3 &&& (255 : Int32)).toNatClampNeg) = (0 : Int32)) ∧ w = (.int (-1 : Int32)))) (m_4 hw F A1 S1 e_0 e_1 e_2 e_3) (w_6 hw) (w_7 hw) (w_8 hw) (w_9 hw) (by decide) pd_0 rfl rfl rfl at_205 rfl (W := 0) rfl (by decide) (by decide) (by decide) (by decide) ?_
            intro w97 hP; rcases hP with ⟨h98, rfl⟩ | ⟨h99, h100, h101, rfl⟩ | ⟨h102, h103, h104, rfl⟩ | ⟨h105, h106, h107, h108, rfl⟩ | ⟨h109, h110, h111, h112, rfl⟩ | ⟨h113, h114, h115, h116, h117, rfl⟩ | ⟨h118, h119, h120, h121, h122, rfl⟩ | ⟨h123, h124, h125, h126, rfl⟩
            · exact absurd h98 h65
            · refine Wk.iload (q := 210) at_208 rfl rfl ?_
              refine Wk.icmpF (q := 213) at_210 rfl (by decide : (1 : Int32) = (1 : Int32)) ?_
              refine Wk.iconst (q := 214) (v := (1 : Int32)) at_213 rfl rfl ?_
              refine Wk.goto (q := 218) at_214 (by decide) rfl ?_
              exact Wk.retZ rfl rfl at_218 (by decide) (by decide) rfl
            · exact absurd h66 h104
            · exact absurd h3 h106
            · exact absurd h3 h110
            · exact absurd h3 h114
            · exact absurd h3 h119
            · exact absurd h3 h124
        · refine Wk.iconst (q := 166) (v := (0 : Int32)) at_165 rfl rfl ?_
          refine Wk.istore (q := 168) (ls' := #[.val (.int p0), .val (.int p1), .val (.int p2), .val (.int p3), .val (.int p4), .val (.ref a1), .val (.int (0 : Int32)), .val (.int (4 : Int32)), .val (.int (0 : Int32)), .unset]) at_166 rfl rfl ?_
          refine Wk.iconst (q := 169) (v := (-1 : Int32)) at_168 rfl rfl ?_
          refine Wk.istore (q := 171) (ls' := #[.val (.int p0), .val (.int p1), .val (.int p2), .val (.int p3), .val (.int p4), .val (.ref a1), .val (.int (0 : Int32)), .val (.int (4 : Int32)), .val (.int (0 : Int32)), .val (.int (-1 : Int32))]) at_169 rfl rfl ?_
          refine Wk.iload (q := 173) at_171 rfl rfl ?_
          refine Wk.iload (q := 175) at_173 rfl rfl ?_
          refine Wk.icmpT (q := 199) at_175 (by decide) rfl (by decide : ¬ (0 : Int32) < (0 : Int32)) ?_
          refine Wk.aload (q := 201) at_199 rfl rfl rfl ?_
          refine Wk.iload (q := 203) at_201 rfl rfl ?_
          refine Wk.iload (q := 205) at_203 rfl rfl ?_
          refine Wk.callS2 (q := 208) (argsL := [(.ref a1), (.int (0 : Int32)), (.int (4 : Int32))]) (rest := []) (fr := 0) (lo := 0) (P := fun w => (((tabN (b0 &&& (255 : Int32)).toNatClampNeg) = (0 : Int32)) ∧ w = (.int (-1 : Int32))) ∨ ((¬ (tabN (b0 &&& (255 : Int32)).toNatClampNeg) = (0 : Int32)) ∧ ((tabN (b1 &&& (255 : Int32)).toNatClampNeg) = (0 : Int32)) ∧ (b1 = (58 : Int32)) ∧ w = (.int (1 : Int32))) ∨ ((¬ (tabN (b0 &&& (255 : Int32)).toNatClampNeg) = (0 : Int32)) ∧ ((tabN (b1 &&& (255 : Int32)).toNatClampNeg) = (0 : Int32)) ∧ (¬ b1 = (58 : Int32)) ∧ w = (.int (-1 : Int32))) ∨ ((¬ (tabN (b0 &&& (255 : Int32)).toNatClampNeg) = (0 : Int32)) ∧ (¬ (tabN (b1 &&& (255 : Int32)).toNatClampNeg) = (0 : Int32)) ∧ ((tabN (b2 &&& (255 : Int32)).toNatClampNeg) = (0 : Int32)) ∧ (b2 = (58 : Int32)) ∧ w = (.int (2 : Int32))) ∨ ((¬ (tabN (b0 &&& (255 : Int32)).toNatClampNeg) = (0 : Int32)) ∧ (¬ (tabN (b1 &&& (255 : Int32)).toNatClampNeg) = (0 : Int32)) ∧ ((tabN (b2 &&& (255 : Int32)).toNatClampNeg) = (0 : Int32)) ∧ (¬ b2 = (58 : Int32)) ∧ w = (.int (-1 : Int32))) ∨ ((¬ (tabN (b0 &&& (255 : Int32)).toNatClampNeg) = (0 : Int32)) ∧ (¬ (tabN (b1 &&& (255 : Int32)).toNatClampNeg) = (0 : Int32)) ∧ (¬ (tabN (b2 &&& (255 : Int32)).toNatClampNeg) = (0 : Int32)) ∧ ((tabN (b3 &&& (255 : Int32)).toNatClampNeg) = (0 : Int32)) ∧ (b3 = (58 : Int32)) ∧ w = (.int (3 : Int32))) ∨ ((¬ (tabN (b0 &&& (255 : Int32)).toNatClampNeg) = (0 : Int32)) ∧ (¬ (tabN (b1 &&& (255 : Int32)).toNatClampNeg) = (0 : Int32)) ∧ (¬ (tabN (b2 &&& (255 : Int32)).toNatClampNeg) = (0 : Int32)) ∧ ((tabN (b3 &&& (255 : Int32)).toNatClampNeg) = (0 : Int32)) ∧ (¬ b3 = (58 : Int32)) ∧ w = (.int (-1 : Int32))) ∨ ((¬ (tabN (b0 &&& (255 : Int32)).toNatClampNeg) = (0 : Int32)) ∧ (¬ (tabN (b1 &&& (255 : Int32)).toNatClampNeg) = (0 : Int32)) ∧ (¬ (tabN (b2 &&& (255 : Int32)).toNatClampNeg) = (0 : Int32)) ∧ (¬ (tabN (b3 &&& (255 : Int32)).toNatClampNeg) = (0 : Int32)) ∧ w = (.int (-1 : Int32)))) (m_4 hw F A1 S1 e_0 e_1 e_2 e_3) (w_6 hw) (w_7 hw) (w_8 hw) (w_9 hw) (by decide) pd_0 rfl rfl rfl at_205 rfl (W := 0) rfl (by decide) (by decide) (by decide) (by decide) ?_
          intro w127 hP; rcases hP with ⟨h128, rfl⟩ | ⟨h129, h130, h131, rfl⟩ | ⟨h132, h133, h134, rfl⟩ | ⟨h135, h136, h137, h138, rfl⟩ | ⟨h139, h140, h141, h142, rfl⟩ | ⟨h143, h144, h145, h146, h147, rfl⟩ | ⟨h148, h149, h150, h151, h152, rfl⟩ | ⟨h153, h154, h155, h156, rfl⟩
          · refine Wk.iload (q := 210) at_208 rfl rfl ?_
            refine Wk.icmpF (q := 213) at_210 rfl (by decide : (-1 : Int32) = (-1 : Int32)) ?_
            refine Wk.iconst (q := 214) (v := (1 : Int32)) at_213 rfl rfl ?_
            refine Wk.goto (q := 218) at_214 (by decide) rfl ?_
            exact Wk.retZ rfl rfl at_218 (by decide) (by decide) rfl
          · exact absurd h65 h129
          · exact absurd h65 h132
          · exact absurd h65 h135
          · exact absurd h65 h139
          · exact absurd h65 h143
          · exact absurd h65 h148
          · exact absurd h65 h153
    · refine Wk.iconst (q := 116) (v := (2 : Int32)) at_115 rfl rfl ?_
      refine Wk.istore (q := 118) (ls' := #[.val (.int p0), .val (.int p1), .val (.int p2), .val (.int p3), .val (.int p4), .val (.ref a1), .val (.int (0 : Int32)), .val (.int (4 : Int32)), .val (.int (2 : Int32)), .unset]) at_116 rfl rfl ?_
      refine Wk.iconst (q := 119) (v := (1 : Int32)) at_118 rfl rfl ?_
      refine Wk.iload (q := 121) at_119 rfl rfl ?_
      refine Wk.icmpF (q := 124) at_121 rfl (by decide : ¬ (1 : Int32) < (0 : Int32)) ?_
      refine Wk.iconst (q := 125) (v := (1 : Int32)) at_124 rfl rfl ?_
      refine Wk.iload (q := 127) at_125 rfl rfl ?_
      refine Wk.icmpF (q := 130) at_127 rfl (by decide : (1 : Int32) < (4 : Int32)) ?_
      refine Wk.aload (q := 132) at_130 rfl rfl rfl ?_
      refine Wk.iconst (q := 133) (v := (1 : Int32)) at_132 rfl rfl ?_
      refine Wk.baloadB (q := 134) A1 (by rw [S1]; decide) e_1 at_133 rfl ?_
      refine Wk.callS1 (q := 137) (argsL := [(.int b1)]) (rest := []) (fr := 0) (lo := 0) (v0 := (.int (tabN (b1 &&& (255 : Int32)).toNatClampNeg))) (m_cls hw F b1) (w_10 hw) (w_11 hw) (w_3 hw) (w_12 hw) (by decide) pd_1 rfl rfl rfl at_134 rfl (W := 0) rfl (by decide) (by decide) (by decide) (by decide) ?_
      refine Wk.ifc (q := 143) (q' := 140) at_137 (by decide) rfl rfl (fun (h157 : ¬ (tabN (b1 &&& (255 : Int32)).toNatClampNeg) = (0 : Int32)) => ?_) (fun (h157 : (tabN (b1 &&& (255 : Int32)).toNatClampNeg) = (0 : Int32)) => ?_)
      · refine Wk.iconst (q := 144) (v := (0 : Int32)) at_143 rfl rfl ?_
        refine Wk.iload (q := 146) at_144 rfl rfl ?_
        refine Wk.icmpF (q := 149) at_146 rfl (by decide : ¬ (0 : Int32) < (0 : Int32)) ?_
        refine Wk.iconst (q := 150) (v := (0 : Int32)) at_149 rfl rfl ?_
        refine Wk.iload (q := 152) at_150 rfl rfl ?_
        refine Wk.icmpF (q := 155) at_152 rfl (by decide : (0 : Int32) < (4 : Int32)) ?_
        refine Wk.aload (q := 157) at_155 rfl rfl rfl ?_
        refine Wk.iconst (q := 158) (v := (0 : Int32)) at_157 rfl rfl ?_
        refine Wk.baloadB (q := 159) A1 (by rw [S1]; decide) e_0 at_158 rfl ?_
        refine Wk.callS1 (q := 162) (argsL := [(.int b0)]) (rest := []) (fr := 0) (lo := 0) (v0 := (.int (tabN (b0 &&& (255 : Int32)).toNatClampNeg))) (m_cls hw F b0) (w_10 hw) (w_11 hw) (w_3 hw) (w_12 hw) (by decide) pd_1 rfl rfl rfl at_159 rfl (W := 0) rfl (by decide) (by decide) (by decide) (by decide) ?_
        refine Wk.ifc (q := 168) (q' := 165) at_162 (by decide) rfl rfl (fun (h158 : ¬ (tabN (b0 &&& (255 : Int32)).toNatClampNeg) = (0 : Int32)) => ?_) (fun (h158 : (tabN (b0 &&& (255 : Int32)).toNatClampNeg) = (0 : Int32)) => ?_)
        · refine Wk.iconst (q := 169) (v := (-1 : Int32)) at_168 rfl rfl ?_
          refine Wk.istore (q := 171) (ls' := #[.val (.int p0), .val (.int p1), .val (.int p2), .val (.int p3), .val (.int p4), .val (.ref a1), .val (.int (0 : Int32)), .val (.int (4 : Int32)), .val (.int (2 : Int32)), .val (.int (-1 : Int32))]) at_169 rfl rfl ?_
          refine Wk.iload (q := 173) at_171 rfl rfl ?_
          refine Wk.iload (q := 175) at_173 rfl rfl ?_
          refine Wk.icmpF (q := 178) at_175 rfl (by decide : (0 : Int32) < (2 : Int32)) ?_
          refine Wk.iload (q := 180) at_178 rfl rfl ?_
          refine Wk.iload (q := 182) at_180 rfl rfl ?_
          refine Wk.icmpF (q := 185) at_182 rfl (by decide : (2 : Int32) < (4 : Int32)) ?_
          refine Wk.aload (q := 187) at_185 rfl rfl rfl ?_
          refine Wk.iload (q := 189) at_187 rfl rfl ?_
          refine Wk.baloadB (q := 190) A1 (by rw [S1]; decide) e_2 at_189 rfl ?_
          refine Wk.bipush (q := 192) (v := (58 : Int32)) at_190 rfl rfl ?_
          refine Wk.icmp (q := 199) (q' := 195) at_192 (by decide) rfl rfl (fun (h159 : ¬ b2 = (58 : Int32)) => ?_) (fun (h159 : b2 = (58 : Int32)) => ?_)
          · refine Wk.aload (q := 201) at_199 rfl rfl rfl ?_
            refine Wk.iload (q := 203) at_201 rfl rfl ?_
            refine Wk.iload (q := 205) at_203 rfl rfl ?_
            refine Wk.callS2 (q := 208) (argsL := [(.ref a1), (.int (0 : Int32)), (.int (4 : Int32))]) (rest := []) (fr := 0) (lo := 0) (P := fun w => (((tabN (b0 &&& (255 : Int32)).toNatClampNeg) = (0 : Int32)) ∧ w = (.int (-1 : Int32))) ∨ ((¬ (tabN (b0 &&& (255 : Int32)).toNatClampNeg) = (0 : Int32)) ∧ ((tabN (b1 &&& (255 : Int32)).toNatClampNeg) = (0 : Int32)) ∧ (b1 = (58 : Int32)) ∧ w = (.int (1 : Int32))) ∨ ((¬ (tabN (b0 &&& (255 : Int32)).toNatClampNeg) = (0 : Int32)) ∧ ((tabN (b1 &&& (255 : Int32)).toNatClampNeg) = (0 : Int32)) ∧ (¬ b1 = (58 : Int32)) ∧ w = (.int (-1 : Int32))) ∨ ((¬ (tabN (b0 &&& (255 : Int32)).toNatClampNeg) = (0 : Int32)) ∧ (¬ (tabN (b1 &&& (255 : Int32)).toNatClampNeg) = (0 : Int32)) ∧ ((tabN (b2 &&& (255 : Int32)).toNatClampNeg) = (0 : Int32)) ∧ (b2 = (58 : Int32)) ∧ w = (.int (2 : Int32))) ∨ ((¬ (tabN (b0 &&& (255 : Int32)).toNatClampNeg) = (0 : Int32)) ∧ (¬ (tabN (b1 &&& (255 : Int32)).toNatClampNeg) = (0 : Int32)) ∧ ((tabN (b2 &&& (255 : Int32)).toNatClampNeg) = (0 : Int32)) ∧ (¬ b2 = (58 : Int32)) ∧ w = (.int (-1 : Int32))) ∨ ((¬ (tabN (b0 &&& (255 : Int32)).toNatClampNeg) = (0 : Int32)) ∧ (¬ (tabN (b1 &&& (255 : Int32)).toNatClampNeg) = (0 : Int32)) ∧ (¬ (tabN (b2 &&& (255 : Int32)).toNatClampNeg) = (0 : Int32)) ∧ ((tabN (b3 &&& (255 : Int32)).toNatClampNeg) = (0 : Int32)) ∧ (b3 = (58 : Int32)) ∧ w = (.int (3 : Int32))) ∨ ((¬ (tabN (b0 &&& (255 : Int32)).toNatClampNeg) = (0 : Int32)) ∧ (¬ (tabN (b1 &&& (255 : Int32)).toNatClampNeg) = (0 : Int32)) ∧ (¬ (tabN (b2 &&& (255 : Int32)).toNatClampNeg) = (0 : Int32)) ∧ ((tabN (b3 &&& (255 : Int32)).toNatClampNeg) = (0 : Int32)) ∧ (¬ b3 = (58 : Int32)) ∧ w = (.int (-1 : Int32))) ∨ ((¬ (tabN (b0 &&& (255 : Int32)).toNatClampNeg) = (0 : Int32)) ∧ (¬ (tabN (b1 &&& (255 : Int32)).toNatClampNeg) = (0 : Int32)) ∧ (¬ (tabN (b2 &&& (255 : Int32)).toNatClampNeg) = (0 : Int32)) ∧ (¬ (tabN (b3 &&& (255 : Int32)).toNatClampNeg) = (0 : Int32)) ∧ w = (.int (-1 : Int32)))) (m_4 hw F A1 S1 e_0 e_1 e_2 e_3) (w_6 hw) (w_7 hw) (w_8 hw) (w_9 hw) (by decide) pd_0 rfl rfl rfl at_205 rfl (W := 0) rfl (by decide) (by decide) (by decide) (by decide) ?_
            intro w160 hP; rcases hP with ⟨h161, rfl⟩ | ⟨h162, h163, h164, rfl⟩ | ⟨h165, h166, h167, rfl⟩ | ⟨h168, h169, h170, h171, rfl⟩ | ⟨h172, h173, h174, h175, rfl⟩ | ⟨h176, h177, h178, h179, h180, rfl⟩ | ⟨h181, h182, h183, h184, h185, rfl⟩ | ⟨h186, h187, h188, h189, rfl⟩
            · exact absurd h161 h158
            · exact absurd h163 h157
            · exact absurd h166 h157
            · exact absurd h171 h159
            · refine Wk.iload (q := 210) at_208 rfl rfl ?_
              refine Wk.icmpF (q := 213) at_210 rfl (by decide : (-1 : Int32) = (-1 : Int32)) ?_
              refine Wk.iconst (q := 214) (v := (1 : Int32)) at_213 rfl rfl ?_
              refine Wk.goto (q := 218) at_214 (by decide) rfl ?_
              exact Wk.retZ rfl rfl at_218 (by decide) (by decide) rfl
            · exact absurd h2 h178
            · exact absurd h2 h183
            · exact absurd h2 h188
          · refine Wk.iload (q := 197) at_195 rfl rfl ?_
            refine Wk.istore (q := 199) (ls' := #[.val (.int p0), .val (.int p1), .val (.int p2), .val (.int p3), .val (.int p4), .val (.ref a1), .val (.int (0 : Int32)), .val (.int (4 : Int32)), .val (.int (2 : Int32)), .val (.int (2 : Int32))]) at_197 rfl rfl ?_
            refine Wk.aload (q := 201) at_199 rfl rfl rfl ?_
            refine Wk.iload (q := 203) at_201 rfl rfl ?_
            refine Wk.iload (q := 205) at_203 rfl rfl ?_
            refine Wk.callS2 (q := 208) (argsL := [(.ref a1), (.int (0 : Int32)), (.int (4 : Int32))]) (rest := []) (fr := 0) (lo := 0) (P := fun w => (((tabN (b0 &&& (255 : Int32)).toNatClampNeg) = (0 : Int32)) ∧ w = (.int (-1 : Int32))) ∨ ((¬ (tabN (b0 &&& (255 : Int32)).toNatClampNeg) = (0 : Int32)) ∧ ((tabN (b1 &&& (255 : Int32)).toNatClampNeg) = (0 : Int32)) ∧ (b1 = (58 : Int32)) ∧ w = (.int (1 : Int32))) ∨ ((¬ (tabN (b0 &&& (255 : Int32)).toNatClampNeg) = (0 : Int32)) ∧ ((tabN (b1 &&& (255 : Int32)).toNatClampNeg) = (0 : Int32)) ∧ (¬ b1 = (58 : Int32)) ∧ w = (.int (-1 : Int32))) ∨ ((¬ (tabN (b0 &&& (255 : Int32)).toNatClampNeg) = (0 : Int32)) ∧ (¬ (tabN (b1 &&& (255 : Int32)).toNatClampNeg) = (0 : Int32)) ∧ ((tabN (b2 &&& (255 : Int32)).toNatClampNeg) = (0 : Int32)) ∧ (b2 = (58 : Int32)) ∧ w = (.int (2 : Int32))) ∨ ((¬ (tabN (b0 &&& (255 : Int32)).toNatClampNeg) = (0 : Int32)) ∧ (¬ (tabN (b1 &&& (255 : Int32)).toNatClampNeg) = (0 : Int32)) ∧ ((tabN (b2 &&& (255 : Int32)).toNatClampNeg) = (0 : Int32)) ∧ (¬ b2 = (58 : Int32)) ∧ w = (.int (-1 : Int32))) ∨ ((¬ (tabN (b0 &&& (255 : Int32)).toNatClampNeg) = (0 : Int32)) ∧ (¬ (tabN (b1 &&& (255 : Int32)).toNatClampNeg) = (0 : Int32)) ∧ (¬ (tabN (b2 &&& (255 : Int32)).toNatClampNeg) = (0 : Int32)) ∧ ((tabN (b3 &&& (255 : Int32)).toNatClampNeg) = (0 : Int32)) ∧ (b3 = (58 : Int32)) ∧ w = (.int (3 : Int32))) ∨ ((¬ (tabN (b0 &&& (255 : Int32)).toNatClampNeg) = (0 : Int32)) ∧ (¬ (tabN (b1 &&& (255 : Int32)).toNatClampNeg) = (0 : Int32)) ∧ (¬ (tabN (b2 &&& (255 : Int32)).toNatClampNeg) = (0 : Int32)) ∧ ((tabN (b3 &&& (255 : Int32)).toNatClampNeg) = (0 : Int32)) ∧ (¬ b3 = (58 : Int32)) ∧ w = (.int (-1 : Int32))) ∨ ((¬ (tabN (b0 &&& (255 : Int32)).toNatClampNeg) = (0 : Int32)) ∧ (¬ (tabN (b1 &&& (255 : Int32)).toNatClampNeg) = (0 : Int32)) ∧ (¬ (tabN (b2 &&& (255 : Int32)).toNatClampNeg) = (0 : Int32)) ∧ (¬ (tabN (b3 &&& (255 : Int32)).toNatClampNeg) = (0 : Int32)) ∧ w = (.int (-1 : Int32)))) (m_4 hw F A1 S1 e_0 e_1 e_2 e_3) (w_6 hw) (w_7 hw) (w_8 hw) (w_9 hw) (by decide) pd_0 rfl rfl rfl at_205 rfl (W := 0) rfl (by decide) (by decide) (by decide) (by decide) ?_
            intro w190 hP; rcases hP with ⟨h191, rfl⟩ | ⟨h192, h193, h194, rfl⟩ | ⟨h195, h196, h197, rfl⟩ | ⟨h198, h199, h200, h201, rfl⟩ | ⟨h202, h203, h204, h205, rfl⟩ | ⟨h206, h207, h208, h209, h210, rfl⟩ | ⟨h211, h212, h213, h214, h215, rfl⟩ | ⟨h216, h217, h218, h219, rfl⟩
            · exact absurd h191 h158
            · exact absurd h193 h157
            · exact absurd h196 h157
            · refine Wk.iload (q := 210) at_208 rfl rfl ?_
              refine Wk.icmpF (q := 213) at_210 rfl (by decide : (2 : Int32) = (2 : Int32)) ?_
              refine Wk.iconst (q := 214) (v := (1 : Int32)) at_213 rfl rfl ?_
              refine Wk.goto (q := 218) at_214 (by decide) rfl ?_
              exact Wk.retZ rfl rfl at_218 (by decide) (by decide) rfl
            · exact absurd h159 h205
            · exact absurd h2 h208
            · exact absurd h2 h213
            · exact absurd h2 h218
        · refine Wk.iconst (q := 166) (v := (0 : Int32)) at_165 rfl rfl ?_
          refine Wk.istore (q := 168) (ls' := #[.val (.int p0), .val (.int p1), .val (.int p2), .val (.int p3), .val (.int p4), .val (.ref a1), .val (.int (0 : Int32)), .val (.int (4 : Int32)), .val (.int (0 : Int32)), .unset]) at_166 rfl rfl ?_
          refine Wk.iconst (q := 169) (v := (-1 : Int32)) at_168 rfl rfl ?_
          refine Wk.istore (q := 171) (ls' := #[.val (.int p0), .val (.int p1), .val (.int p2), .val (.int p3), .val (.int p4), .val (.ref a1), .val (.int (0 : Int32)), .val (.int (4 : Int32)), .val (.int (0 : Int32)), .val (.int (-1 : Int32))]) at_169 rfl rfl ?_
          refine Wk.iload (q := 173) at_171 rfl rfl ?_
          refine Wk.iload (q := 175) at_173 rfl rfl ?_
          refine Wk.icmpT (q := 199) at_175 (by decide) rfl (by decide : ¬ (0 : Int32) < (0 : Int32)) ?_
          refine Wk.aload (q := 201) at_199 rfl rfl rfl ?_
          refine Wk.iload (q := 203) at_201 rfl rfl ?_
          refine Wk.iload (q := 205) at_203 rfl rfl ?_
          refine Wk.callS2 (q := 208) (argsL := [(.ref a1), (.int (0 : Int32)), (.int (4 : Int32))]) (rest := []) (fr := 0) (lo := 0) (P := fun w => (((tabN (b0 &&& (255 : Int32)).toNatClampNeg) = (0 : Int32)) ∧ w = (.int (-1 : Int32))) ∨ ((¬ (tabN (b0 &&& (255 : Int32)).toNatClampNeg) = (0 : Int32)) ∧ ((tabN (b1 &&& (255 : Int32)).toNatClampNeg) = (0 : Int32)) ∧ (b1 = (58 : Int32)) ∧ w = (.int (1 : Int32))) ∨ ((¬ (tabN (b0 &&& (255 : Int32)).toNatClampNeg) = (0 : Int32)) ∧ ((tabN (b1 &&& (255 : Int32)).toNatClampNeg) = (0 : Int32)) ∧ (¬ b1 = (58 : Int32)) ∧ w = (.int (-1 : Int32))) ∨ ((¬ (tabN (b0 &&& (255 : Int32)).toNatClampNeg) = (0 : Int32)) ∧ (¬ (tabN (b1 &&& (255 : Int32)).toNatClampNeg) = (0 : Int32)) ∧ ((tabN (b2 &&& (255 : Int32)).toNatClampNeg) = (0 : Int32)) ∧ (b2 = (58 : Int32)) ∧ w = (.int (2 : Int32))) ∨ ((¬ (tabN (b0 &&& (255 : Int32)).toNatClampNeg) = (0 : Int32)) ∧ (¬ (tabN (b1 &&& (255 : Int32)).toNatClampNeg) = (0 : Int32)) ∧ ((tabN (b2 &&& (255 : Int32)).toNatClampNeg) = (0 : Int32)) ∧ (¬ b2 = (58 : Int32)) ∧ w = (.int (-1 : Int32))) ∨ ((¬ (tabN (b0 &&& (255 : Int32)).toNatClampNeg) = (0 : Int32)) ∧ (¬ (tabN (b1 &&& (255 : Int32)).toNatClampNeg) = (0 : Int32)) ∧ (¬ (tabN (b2 &&& (255 : Int32)).toNatClampNeg) = (0 : Int32)) ∧ ((tabN (b3 &&& (255 : Int32)).toNatClampNeg) = (0 : Int32)) ∧ (b3 = (58 : Int32)) ∧ w = (.int (3 : Int32))) ∨ ((¬ (tabN (b0 &&& (255 : Int32)).toNatClampNeg) = (0 : Int32)) ∧ (¬ (tabN (b1 &&& (255 : Int32)).toNatClampNeg) = (0 : Int32)) ∧ (¬ (tabN (b2 &&& (255 : Int32)).toNatClampNeg) = (0 : Int32)) ∧ ((tabN (b3 &&& (255 : Int32)).toNatClampNeg) = (0 : Int32)) ∧ (¬ b3 = (58 : Int32)) ∧ w = (.int (-1 : Int32))) ∨ ((¬ (tabN (b0 &&& (255 : Int32)).toNatClampNeg) = (0 : Int32)) ∧ (¬ (tabN (b1 &&& (255 : Int32)).toNatClampNeg) = (0 : Int32)) ∧ (¬ (tabN (b2 &&& (255 : Int32)).toNatClampNeg) = (0 : Int32)) ∧ (¬ (tabN (b3 &&& (255 : Int32)).toNatClampNeg) = (0 : Int32)) ∧ w = (.int (-1 : Int32)))) (m_4 hw F A1 S1 e_0 e_1 e_2 e_3) (w_6 hw) (w_7 hw) (w_8 hw) (w_9 hw) (by decide) pd_0 rfl rfl rfl at_205 rfl (W := 0) rfl (by decide) (by decide) (by decide) (by decide) ?_
          intro w220 hP; rcases hP with ⟨h221, rfl⟩ | ⟨h222, h223, h224, rfl⟩ | ⟨h225, h226, h227, rfl⟩ | ⟨h228, h229, h230, h231, rfl⟩ | ⟨h232, h233, h234, h235, rfl⟩ | ⟨h236, h237, h238, h239, h240, rfl⟩ | ⟨h241, h242, h243, h244, h245, rfl⟩ | ⟨h246, h247, h248, h249, rfl⟩
          · refine Wk.iload (q := 210) at_208 rfl rfl ?_
            refine Wk.icmpF (q := 213) at_210 rfl (by decide : (-1 : Int32) = (-1 : Int32)) ?_
            refine Wk.iconst (q := 214) (v := (1 : Int32)) at_213 rfl rfl ?_
            refine Wk.goto (q := 218) at_214 (by decide) rfl ?_
            exact Wk.retZ rfl rfl at_218 (by decide) (by decide) rfl
          · exact absurd h158 h222
          · exact absurd h158 h225
          · exact absurd h158 h228
          · exact absurd h158 h232
          · exact absurd h158 h236
          · exact absurd h158 h241
          · exact absurd h158 h246
      · refine Wk.iconst (q := 141) (v := (1 : Int32)) at_140 rfl rfl ?_
        refine Wk.istore (q := 143) (ls' := #[.val (.int p0), .val (.int p1), .val (.int p2), .val (.int p3), .val (.int p4), .val (.ref a1), .val (.int (0 : Int32)), .val (.int (4 : Int32)), .val (.int (1 : Int32)), .unset]) at_141 rfl rfl ?_
        refine Wk.iconst (q := 144) (v := (0 : Int32)) at_143 rfl rfl ?_
        refine Wk.iload (q := 146) at_144 rfl rfl ?_
        refine Wk.icmpF (q := 149) at_146 rfl (by decide : ¬ (0 : Int32) < (0 : Int32)) ?_
        refine Wk.iconst (q := 150) (v := (0 : Int32)) at_149 rfl rfl ?_
        refine Wk.iload (q := 152) at_150 rfl rfl ?_
        refine Wk.icmpF (q := 155) at_152 rfl (by decide : (0 : Int32) < (4 : Int32)) ?_
        refine Wk.aload (q := 157) at_155 rfl rfl rfl ?_
        refine Wk.iconst (q := 158) (v := (0 : Int32)) at_157 rfl rfl ?_
        refine Wk.baloadB (q := 159) A1 (by rw [S1]; decide) e_0 at_158 rfl ?_
        refine Wk.callS1 (q := 162) (argsL := [(.int b0)]) (rest := []) (fr := 0) (lo := 0) (v0 := (.int (tabN (b0 &&& (255 : Int32)).toNatClampNeg))) (m_cls hw F b0) (w_10 hw) (w_11 hw) (w_3 hw) (w_12 hw) (by decide) pd_1 rfl rfl rfl at_159 rfl (W := 0) rfl (by decide) (by decide) (by decide) (by decide) ?_
        refine Wk.ifc (q := 168) (q' := 165) at_162 (by decide) rfl rfl (fun (h250 : ¬ (tabN (b0 &&& (255 : Int32)).toNatClampNeg) = (0 : Int32)) => ?_) (fun (h250 : (tabN (b0 &&& (255 : Int32)).toNatClampNeg) = (0 : Int32)) => ?_)
        · refine Wk.iconst (q := 169) (v := (-1 : Int32)) at_168 rfl rfl ?_
          refine Wk.istore (q := 171) (ls' := #[.val (.int p0), .val (.int p1), .val (.int p2), .val (.int p3), .val (.int p4), .val (.ref a1), .val (.int (0 : Int32)), .val (.int (4 : Int32)), .val (.int (1 : Int32)), .val (.int (-1 : Int32))]) at_169 rfl rfl ?_
          refine Wk.iload (q := 173) at_171 rfl rfl ?_
          refine Wk.iload (q := 175) at_173 rfl rfl ?_
          refine Wk.icmpF (q := 178) at_175 rfl (by decide : (0 : Int32) < (1 : Int32)) ?_
          refine Wk.iload (q := 180) at_178 rfl rfl ?_
          refine Wk.iload (q := 182) at_180 rfl rfl ?_
          refine Wk.icmpF (q := 185) at_182 rfl (by decide : (1 : Int32) < (4 : Int32)) ?_
          refine Wk.aload (q := 187) at_185 rfl rfl rfl ?_
          refine Wk.iload (q := 189) at_187 rfl rfl ?_
          refine Wk.baloadB (q := 190) A1 (by rw [S1]; decide) e_1 at_189 rfl ?_
          refine Wk.bipush (q := 192) (v := (58 : Int32)) at_190 rfl rfl ?_
          refine Wk.icmp (q := 199) (q' := 195) at_192 (by decide) rfl rfl (fun (h251 : ¬ b1 = (58 : Int32)) => ?_) (fun (h251 : b1 = (58 : Int32)) => ?_)
          · refine Wk.aload (q := 201) at_199 rfl rfl rfl ?_
            refine Wk.iload (q := 203) at_201 rfl rfl ?_
            refine Wk.iload (q := 205) at_203 rfl rfl ?_
            refine Wk.callS2 (q := 208) (argsL := [(.ref a1), (.int (0 : Int32)), (.int (4 : Int32))]) (rest := []) (fr := 0) (lo := 0) (P := fun w => (((tabN (b0 &&& (255 : Int32)).toNatClampNeg) = (0 : Int32)) ∧ w = (.int (-1 : Int32))) ∨ ((¬ (tabN (b0 &&& (255 : Int32)).toNatClampNeg) = (0 : Int32)) ∧ ((tabN (b1 &&& (255 : Int32)).toNatClampNeg) = (0 : Int32)) ∧ (b1 = (58 : Int32)) ∧ w = (.int (1 : Int32))) ∨ ((¬ (tabN (b0 &&& (255 : Int32)).toNatClampNeg) = (0 : Int32)) ∧ ((tabN (b1 &&& (255 : Int32)).toNatClampNeg) = (0 : Int32)) ∧ (¬ b1 = (58 : Int32)) ∧ w = (.int (-1 : Int32))) ∨ ((¬ (tabN (b0 &&& (255 : Int32)).toNatClampNeg) = (0 : Int32)) ∧ (¬ (tabN (b1 &&& (255 : Int32)).toNatClampNeg) = (0 : Int32)) ∧ ((tabN (b2 &&& (255 : Int32)).toNatClampNeg) = (0 : Int32)) ∧ (b2 = (58 : Int32)) ∧ w = (.int (2 : Int32))) ∨ ((¬ (tabN (b0 &&& (255 : Int32)).toNatClampNeg) = (0 : Int32)) ∧ (¬ (tabN (b1 &&& (255 : Int32)).toNatClampNeg) = (0 : Int32)) ∧ ((tabN (b2 &&& (255 : Int32)).toNatClampNeg) = (0 : Int32)) ∧ (¬ b2 = (58 : Int32)) ∧ w = (.int (-1 : Int32))) ∨ ((¬ (tabN (b0 &&& (255 : Int32)).toNatClampNeg) = (0 : Int32)) ∧ (¬ (tabN (b1 &&& (255 : Int32)).toNatClampNeg) = (0 : Int32)) ∧ (¬ (tabN (b2 &&& (255 : Int32)).toNatClampNeg) = (0 : Int32)) ∧ ((tabN (b3 &&& (255 : Int32)).toNatClampNeg) = (0 : Int32)) ∧ (b3 = (58 : Int32)) ∧ w = (.int (3 : Int32))) ∨ ((¬ (tabN (b0 &&& (255 : Int32)).toNatClampNeg) = (0 : Int32)) ∧ (¬ (tabN (b1 &&& (255 : Int32)).toNatClampNeg) = (0 : Int32)) ∧ (¬ (tabN (b2 &&& (255 : Int32)).toNatClampNeg) = (0 : Int32)) ∧ ((tabN (b3 &&& (255 : Int32)).toNatClampNeg) = (0 : Int32)) ∧ (¬ b3 = (58 : Int32)) ∧ w = (.int (-1 : Int32))) ∨ ((¬ (tabN (b0 &&& (255 : Int32)).toNatClampNeg) = (0 : Int32)) ∧ (¬ (tabN (b1 &&& (255 : Int32)).toNatClampNeg) = (0 : Int32)) ∧ (¬ (tabN (b2 &&& (255 : Int32)).toNatClampNeg) = (0 : Int32)) ∧ (¬ (tabN (b3 &&& (255 : Int32)).toNatClampNeg) = (0 : Int32)) ∧ w = (.int (-1 : Int32)))) (m_4 hw F A1 S1 e_0 e_1 e_2 e_3) (w_6 hw) (w_7 hw) (w_8 hw) (w_9 hw) (by decide) pd_0 rfl rfl rfl at_205 rfl (W := 0) rfl (by decide) (by decide) (by decide) (by decide) ?_
            intro w252 hP; rcases hP with ⟨h253, rfl⟩ | ⟨h254, h255, h256, rfl⟩ | ⟨h257, h258, h259, rfl⟩ | ⟨h260, h261, h262, h263, rfl⟩ | ⟨h264, h265, h266, h267, rfl⟩ | ⟨h268, h269, h270, h271, h272, rfl⟩ | ⟨h273, h274, h275, h276, h277, rfl⟩ | ⟨h278, h279, h280, h281, rfl⟩
            · exact absurd h253 h250
            · exact absurd h256 h251
            · refine Wk.iload (q := 210) at_208 rfl rfl ?_
              refine Wk.icmpF (q := 213) at_210 rfl (by decide : (-1 : Int32) = (-1 : Int32)) ?_
              refine Wk.iconst (q := 214) (v := (1 : Int32)) at_213 rfl rfl ?_
              refine Wk.goto (q := 218) at_214 (by decide) rfl ?_
              exact Wk.retZ rfl rfl at_218 (by decide) (by decide) rfl
            · exact absurd h157 h261
            · exact absurd h157 h265
            · exact absurd h157 h269
            · exact absurd h157 h274
            · exact absurd h157 h279
          · refine Wk.iload (q := 197) at_195 rfl rfl ?_
            refine Wk.istore (q := 199) (ls' := #[.val (.int p0), .val (.int p1), .val (.int p2), .val (.int p3), .val (.int p4), .val (.ref a1), .val (.int (0 : Int32)), .val (.int (4 : Int32)), .val (.int (1 : Int32)), .val (.int (1 : Int32))]) at_197 rfl rfl ?_
            refine Wk.aload (q := 201) at_199 rfl rfl rfl ?_
            refine Wk.iload (q := 203) at_201 rfl rfl ?_
            refine Wk.iload (q := 205) at_203 rfl rfl ?_
            refine Wk.callS2 (q := 208) (argsL := [(.ref a1), (.int (0 : Int32)), (.int (4 : Int32))]) (rest := []) (fr := 0) (lo := 0) (P := fun w => (((tabN (b0 &&& (255 : Int32)).toNatClampNeg) = (0 : Int32)) ∧ w = (.int (-1 : Int32))) ∨ ((¬ (tabN (b0 &&& (255 : Int32)).toNatClampNeg) = (0 : Int32)) ∧ ((tabN (b1 &&& (255 : Int32)).toNatClampNeg) = (0 : Int32)) ∧ (b1 = (58 : Int32)) ∧ w = (.int (1 : Int32))) ∨ ((¬ (tabN (b0 &&& (255 : Int32)).toNatClampNeg) = (0 : Int32)) ∧ ((tabN (b1 &&& (255 : Int32)).toNatClampNeg) = (0 : Int32)) ∧ (¬ b1 = (58 : Int32)) ∧ w = (.int (-1 : Int32))) ∨ ((¬ (tabN (b0 &&& (255 : Int32)).toNatClampNeg) = (0 : Int32)) ∧ (¬ (tabN (b1 &&& (255 : Int32)).toNatClampNeg) = (0 : Int32)) ∧ ((tabN (b2 &&& (255 : Int32)).toNatClampNeg) = (0 : Int32)) ∧ (b2 = (58 : Int32)) ∧ w = (.int (2 : Int32))) ∨ ((¬ (tabN (b0 &&& (255 : Int32)).toNatClampNeg) = (0 : Int32)) ∧ (¬ (tabN (b1 &&& (255 : Int32)).toNatClampNeg) = (0 : Int32)) ∧ ((tabN (b2 &&& (255 : Int32)).toNatClampNeg) = (0 : Int32)) ∧ (¬ b2 = (58 : Int32)) ∧ w = (.int (-1 : Int32))) ∨ ((¬ (tabN (b0 &&& (255 : Int32)).toNatClampNeg) = (0 : Int32)) ∧ (¬ (tabN (b1 &&& (255 : Int32)).toNatClampNeg) = (0 : Int32)) ∧ (¬ (tabN (b2 &&& (255 : Int32)).toNatClampNeg) = (0 : Int32)) ∧ ((tabN (b3 &&& (255 : Int32)).toNatClampNeg) = (0 : Int32)) ∧ (b3 = (58 : Int32)) ∧ w = (.int (3 : Int32))) ∨ ((¬ (tabN (b0 &&& (255 : Int32)).toNatClampNeg) = (0 : Int32)) ∧ (¬ (tabN (b1 &&& (255 : Int32)).toNatClampNeg) = (0 : Int32)) ∧ (¬ (tabN (b2 &&& (255 : Int32)).toNatClampNeg) = (0 : Int32)) ∧ ((tabN (b3 &&& (255 : Int32)).toNatClampNeg) = (0 : Int32)) ∧ (¬ b3 = (58 : Int32)) ∧ w = (.int (-1 : Int32))) ∨ ((¬ (tabN (b0 &&& (255 : Int32)).toNatClampNeg) = (0 : Int32)) ∧ (¬ (tabN (b1 &&& (255 : Int32)).toNatClampNeg) = (0 : Int32)) ∧ (¬ (tabN (b2 &&& (255 : Int32)).toNatClampNeg) = (0 : Int32)) ∧ (¬ (tabN (b3 &&& (255 : Int32)).toNatClampNeg) = (0 : Int32)) ∧ w = (.int (-1 : Int32)))) (m_4 hw F A1 S1 e_0 e_1 e_2 e_3) (w_6 hw) (w_7 hw) (w_8 hw) (w_9 hw) (by decide) pd_0 rfl rfl rfl at_205 rfl (W := 0) rfl (by decide) (by decide) (by decide) (by decide) ?_
            intro w282 hP; rcases hP with ⟨h283, rfl⟩ | ⟨h284, h285, h286, rfl⟩ | ⟨h287, h288, h289, rfl⟩ | ⟨h290, h291, h292, h293, rfl⟩ | ⟨h294, h295, h296, h297, rfl⟩ | ⟨h298, h299, h300, h301, h302, rfl⟩ | ⟨h303, h304, h305, h306, h307, rfl⟩ | ⟨h308, h309, h310, h311, rfl⟩
            · exact absurd h283 h250
            · refine Wk.iload (q := 210) at_208 rfl rfl ?_
              refine Wk.icmpF (q := 213) at_210 rfl (by decide : (1 : Int32) = (1 : Int32)) ?_
              refine Wk.iconst (q := 214) (v := (1 : Int32)) at_213 rfl rfl ?_
              refine Wk.goto (q := 218) at_214 (by decide) rfl ?_
              exact Wk.retZ rfl rfl at_218 (by decide) (by decide) rfl
            · exact absurd h251 h289
            · exact absurd h157 h291
            · exact absurd h157 h295
            · exact absurd h157 h299
            · exact absurd h157 h304
            · exact absurd h157 h309
        · refine Wk.iconst (q := 166) (v := (0 : Int32)) at_165 rfl rfl ?_
          refine Wk.istore (q := 168) (ls' := #[.val (.int p0), .val (.int p1), .val (.int p2), .val (.int p3), .val (.int p4), .val (.ref a1), .val (.int (0 : Int32)), .val (.int (4 : Int32)), .val (.int (0 : Int32)), .unset]) at_166 rfl rfl ?_
          refine Wk.iconst (q := 169) (v := (-1 : Int32)) at_168 rfl rfl ?_
          refine Wk.istore (q := 171) (ls' := #[.val (.int p0), .val (.int p1), .val (.int p2), .val (.int p3), .val (.int p4), .val (.ref a1), .val (.int (0 : Int32)), .val (.int (4 : Int32)), .val (.int (0 : Int32)), .val (.int (-1 : Int32))]) at_169 rfl rfl ?_
          refine Wk.iload (q := 173) at_171 rfl rfl ?_
          refine Wk.iload (q := 175) at_173 rfl rfl ?_
          refine Wk.icmpT (q := 199) at_175 (by decide) rfl (by decide : ¬ (0 : Int32) < (0 : Int32)) ?_
          refine Wk.aload (q := 201) at_199 rfl rfl rfl ?_
          refine Wk.iload (q := 203) at_201 rfl rfl ?_
          refine Wk.iload (q := 205) at_203 rfl rfl ?_
          refine Wk.callS2 (q := 208) (argsL := [(.ref a1), (.int (0 : Int32)), (.int (4 : Int32))]) (rest := []) (fr := 0) (lo := 0) (P := fun w => (((tabN (b0 &&& (255 : Int32)).toNatClampNeg) = (0 : Int32)) ∧ w = (.int (-1 : Int32))) ∨ ((¬ (tabN (b0 &&& (255 : Int32)).toNatClampNeg) = (0 : Int32)) ∧ ((tabN (b1 &&& (255 : Int32)).toNatClampNeg) = (0 : Int32)) ∧ (b1 = (58 : Int32)) ∧ w = (.int (1 : Int32))) ∨ ((¬ (tabN (b0 &&& (255 : Int32)).toNatClampNeg) = (0 : Int32)) ∧ ((tabN (b1 &&& (255 : Int32)).toNatClampNeg) = (0 : Int32)) ∧ (¬ b1 = (58 : Int32)) ∧ w = (.int (-1 : Int32))) ∨ ((¬ (tabN (b0 &&& (255 : Int32)).toNatClampNeg) = (0 : Int32)) ∧ (¬ (tabN (b1 &&& (255 : Int32)).toNatClampNeg) = (0 : Int32)) ∧ ((tabN (b2 &&& (255 : Int32)).toNatClampNeg) = (0 : Int32)) ∧ (b2 = (58 : Int32)) ∧ w = (.int (2 : Int32))) ∨ ((¬ (tabN (b0 &&& (255 : Int32)).toNatClampNeg) = (0 : Int32)) ∧ (¬ (tabN (b1 &&& (255 : Int32)).toNatClampNeg) = (0 : Int32)) ∧ ((tabN (b2 &&& (255 : Int32)).toNatClampNeg) = (0 : Int32)) ∧ (¬ b2 = (58 : Int32)) ∧ w = (.int (-1 : Int32))) ∨ ((¬ (tabN (b0 &&& (255 : Int32)).toNatClampNeg) = (0 : Int32)) ∧ (¬ (tabN (b1 &&& (255 : Int32)).toNatClampNeg) = (0 : Int32)) ∧ (¬ (tabN (b2 &&& (255 : Int32)).toNatClampNeg) = (0 : Int32)) ∧ ((tabN (b3 &&& (255 : Int32)).toNatClampNeg) = (0 : Int32)) ∧ (b3 = (58 : Int32)) ∧ w = (.int (3 : Int32))) ∨ ((¬ (tabN (b0 &&& (255 : Int32)).toNatClampNeg) = (0 : Int32)) ∧ (¬ (tabN (b1 &&& (255 : Int32)).toNatClampNeg) = (0 : Int32)) ∧ (¬ (tabN (b2 &&& (255 : Int32)).toNatClampNeg) = (0 : Int32)) ∧ ((tabN (b3 &&& (255 : Int32)).toNatClampNeg) = (0 : Int32)) ∧ (¬ b3 = (58 : Int32)) ∧ w = (.int (-1 : Int32))) ∨ ((¬ (tabN (b0 &&& (255 : Int32)).toNatClampNeg) = (0 : Int32)) ∧ (¬ (tabN (b1 &&& (255 : Int32)).toNatClampNeg) = (0 : Int32)) ∧ (¬ (tabN (b2 &&& (255 : Int32)).toNatClampNeg) = (0 : Int32)) ∧ (¬ (tabN (b3 &&& (255 : Int32)).toNatClampNeg) = (0 : Int32)) ∧ w = (.int (-1 : Int32)))) (m_4 hw F A1 S1 e_0 e_1 e_2 e_3) (w_6 hw) (w_7 hw) (w_8 hw) (w_9 hw) (by decide) pd_0 rfl rfl rfl at_205 rfl (W := 0) rfl (by decide) (by decide) (by decide) (by decide) ?_
          intro w312 hP; rcases hP with ⟨h313, rfl⟩ | ⟨h314, h315, h316, rfl⟩ | ⟨h317, h318, h319, rfl⟩ | ⟨h320, h321, h322, h323, rfl⟩ | ⟨h324, h325, h326, h327, rfl⟩ | ⟨h328, h329, h330, h331, h332, rfl⟩ | ⟨h333, h334, h335, h336, h337, rfl⟩ | ⟨h338, h339, h340, h341, rfl⟩
          · refine Wk.iload (q := 210) at_208 rfl rfl ?_
            refine Wk.icmpF (q := 213) at_210 rfl (by decide : (-1 : Int32) = (-1 : Int32)) ?_
            refine Wk.iconst (q := 214) (v := (1 : Int32)) at_213 rfl rfl ?_
            refine Wk.goto (q := 218) at_214 (by decide) rfl ?_
            exact Wk.retZ rfl rfl at_218 (by decide) (by decide) rfl
          · exact absurd h250 h314
          · exact absurd h250 h317
          · exact absurd h250 h320
          · exact absurd h250 h324
          · exact absurd h250 h328
          · exact absurd h250 h333
          · exact absurd h250 h338
  · refine Wk.iconst (q := 91) (v := (3 : Int32)) at_90 rfl rfl ?_
    refine Wk.istore (q := 93) (ls' := #[.val (.int p0), .val (.int p1), .val (.int p2), .val (.int p3), .val (.int p4), .val (.ref a1), .val (.int (0 : Int32)), .val (.int (4 : Int32)), .val (.int (3 : Int32)), .unset]) at_91 rfl rfl ?_
    refine Wk.iconst (q := 94) (v := (2 : Int32)) at_93 rfl rfl ?_
    refine Wk.iload (q := 96) at_94 rfl rfl ?_
    refine Wk.icmpF (q := 99) at_96 rfl (by decide : ¬ (2 : Int32) < (0 : Int32)) ?_
    refine Wk.iconst (q := 100) (v := (2 : Int32)) at_99 rfl rfl ?_
    refine Wk.iload (q := 102) at_100 rfl rfl ?_
    refine Wk.icmpF (q := 105) at_102 rfl (by decide : (2 : Int32) < (4 : Int32)) ?_
    refine Wk.aload (q := 107) at_105 rfl rfl rfl ?_
    refine Wk.iconst (q := 108) (v := (2 : Int32)) at_107 rfl rfl ?_
    refine Wk.baloadB (q := 109) A1 (by rw [S1]; decide) e_2 at_108 rfl ?_
    refine Wk.callS1 (q := 112) (argsL := [(.int b2)]) (rest := []) (fr := 0) (lo := 0) (v0 := (.int (tabN (b2 &&& (255 : Int32)).toNatClampNeg))) (m_cls hw F b2) (w_10 hw) (w_11 hw) (w_3 hw) (w_12 hw) (by decide) pd_1 rfl rfl rfl at_109 rfl (W := 0) rfl (by decide) (by decide) (by decide) (by decide) ?_
    refine Wk.ifc (q := 118) (q' := 115) at_112 (by decide) rfl rfl (fun (h342 : ¬ (tabN (b2 &&& (255 : Int32)).toNatClampNeg) = (0 : Int32)) => ?_) (fun (h342 : (tabN (b2 &&& (255 : Int32)).toNatClampNeg) = (0 : Int32)) => ?_)
    · refine Wk.iconst (q := 119) (v := (1 : Int32)) at_118 rfl rfl ?_
      refine Wk.iload (q := 121) at_119 rfl rfl ?_
      refine Wk.icmpF (q := 124) at_121 rfl (by decide : ¬ (1 : Int32) < (0 : Int32)) ?_
      refine Wk.iconst (q := 125) (v := (1 : Int32)) at_124 rfl rfl ?_
      refine Wk.iload (q := 127) at_125 rfl rfl ?_
      refine Wk.icmpF (q := 130) at_127 rfl (by decide : (1 : Int32) < (4 : Int32)) ?_
      refine Wk.aload (q := 132) at_130 rfl rfl rfl ?_
      refine Wk.iconst (q := 133) (v := (1 : Int32)) at_132 rfl rfl ?_
      refine Wk.baloadB (q := 134) A1 (by rw [S1]; decide) e_1 at_133 rfl ?_
      refine Wk.callS1 (q := 137) (argsL := [(.int b1)]) (rest := []) (fr := 0) (lo := 0) (v0 := (.int (tabN (b1 &&& (255 : Int32)).toNatClampNeg))) (m_cls hw F b1) (w_10 hw) (w_11 hw) (w_3 hw) (w_12 hw) (by decide) pd_1 rfl rfl rfl at_134 rfl (W := 0) rfl (by decide) (by decide) (by decide) (by decide) ?_
      refine Wk.ifc (q := 143) (q' := 140) at_137 (by decide) rfl rfl (fun (h343 : ¬ (tabN (b1 &&& (255 : Int32)).toNatClampNeg) = (0 : Int32)) => ?_) (fun (h343 : (tabN (b1 &&& (255 : Int32)).toNatClampNeg) = (0 : Int32)) => ?_)
      · refine Wk.iconst (q := 144) (v := (0 : Int32)) at_143 rfl rfl ?_
        refine Wk.iload (q := 146) at_144 rfl rfl ?_
        refine Wk.icmpF (q := 149) at_146 rfl (by decide : ¬ (0 : Int32) < (0 : Int32)) ?_
        refine Wk.iconst (q := 150) (v := (0 : Int32)) at_149 rfl rfl ?_
        refine Wk.iload (q := 152) at_150 rfl rfl ?_
        refine Wk.icmpF (q := 155) at_152 rfl (by decide : (0 : Int32) < (4 : Int32)) ?_
        refine Wk.aload (q := 157) at_155 rfl rfl rfl ?_
        refine Wk.iconst (q := 158) (v := (0 : Int32)) at_157 rfl rfl ?_
        refine Wk.baloadB (q := 159) A1 (by rw [S1]; decide) e_0 at_158 rfl ?_
        refine Wk.callS1 (q := 162) (argsL := [(.int b0)]) (rest := []) (fr := 0) (lo := 0) (v0 := (.int (tabN (b0 &&& (255 : Int32)).toNatClampNeg))) (m_cls hw F b0) (w_10 hw) (w_11 hw) (w_3 hw) (w_12 hw) (by decide) pd_1 rfl rfl rfl at_159 rfl (W := 0) rfl (by decide) (by decide) (by decide) (by decide) ?_
        refine Wk.ifc (q := 168) (q' := 165) at_162 (by decide) rfl rfl (fun (h344 : ¬ (tabN (b0 &&& (255 : Int32)).toNatClampNeg) = (0 : Int32)) => ?_) (fun (h344 : (tabN (b0 &&& (255 : Int32)).toNatClampNeg) = (0 : Int32)) => ?_)
        · refine Wk.iconst (q := 169) (v := (-1 : Int32)) at_168 rfl rfl ?_
          refine Wk.istore (q := 171) (ls' := #[.val (.int p0), .val (.int p1), .val (.int p2), .val (.int p3), .val (.int p4), .val (.ref a1), .val (.int (0 : Int32)), .val (.int (4 : Int32)), .val (.int (3 : Int32)), .val (.int (-1 : Int32))]) at_169 rfl rfl ?_
          refine Wk.iload (q := 173) at_171 rfl rfl ?_
          refine Wk.iload (q := 175) at_173 rfl rfl ?_
          refine Wk.icmpF (q := 178) at_175 rfl (by decide : (0 : Int32) < (3 : Int32)) ?_
          refine Wk.iload (q := 180) at_178 rfl rfl ?_
          refine Wk.iload (q := 182) at_180 rfl rfl ?_
          refine Wk.icmpF (q := 185) at_182 rfl (by decide : (3 : Int32) < (4 : Int32)) ?_
          refine Wk.aload (q := 187) at_185 rfl rfl rfl ?_
          refine Wk.iload (q := 189) at_187 rfl rfl ?_
          refine Wk.baloadB (q := 190) A1 (by rw [S1]; decide) e_3 at_189 rfl ?_
          refine Wk.bipush (q := 192) (v := (58 : Int32)) at_190 rfl rfl ?_
          refine Wk.icmp (q := 199) (q' := 195) at_192 (by decide) rfl rfl (fun (h345 : ¬ b3 = (58 : Int32)) => ?_) (fun (h345 : b3 = (58 : Int32)) => ?_)
          · refine Wk.aload (q := 201) at_199 rfl rfl rfl ?_
            refine Wk.iload (q := 203) at_201 rfl rfl ?_
            refine Wk.iload (q := 205) at_203 rfl rfl ?_
            refine Wk.callS2 (q := 208) (argsL := [(.ref a1), (.int (0 : Int32)), (.int (4 : Int32))]) (rest := []) (fr := 0) (lo := 0) (P := fun w => (((tabN (b0 &&& (255 : Int32)).toNatClampNeg) = (0 : Int32)) ∧ w = (.int (-1 : Int32))) ∨ ((¬ (tabN (b0 &&& (255 : Int32)).toNatClampNeg) = (0 : Int32)) ∧ ((tabN (b1 &&& (255 : Int32)).toNatClampNeg) = (0 : Int32)) ∧ (b1 = (58 : Int32)) ∧ w = (.int (1 : Int32))) ∨ ((¬ (tabN (b0 &&& (255 : Int32)).toNatClampNeg) = (0 : Int32)) ∧ ((tabN (b1 &&& (255 : Int32)).toNatClampNeg) = (0 : Int32)) ∧ (¬ b1 = (58 : Int32)) ∧ w = (.int (-1 : Int32))) ∨ ((¬ (tabN (b0 &&& (255 : Int32)).toNatClampNeg) = (0 : Int32)) ∧ (¬ (tabN (b1 &&& (255 : Int32)).toNatClampNeg) = (0 : Int32)) ∧ ((tabN (b2 &&& (255 : Int32)).toNatClampNeg) = (0 : Int32)) ∧ (b2 = (58 : Int32)) ∧ w = (.int (2 : Int32))) ∨ ((¬ (tabN (b0 &&& (255 : Int32)).toNatClampNeg) = (0 : Int32)) ∧ (¬ (tabN (b1 &&& (255 : Int32)).toNatClampNeg) = (0 : Int32)) ∧ ((tabN (b2 &&& (255 : Int32)).toNatClampNeg) = (0 : Int32)) ∧ (¬ b2 = (58 : Int32)) ∧ w = (.int (-1 : Int32))) ∨ ((¬ (tabN (b0 &&& (255 : Int32)).toNatClampNeg) = (0 : Int32)) ∧ (¬ (tabN (b1 &&& (255 : Int32)).toNatClampNeg) = (0 : Int32)) ∧ (¬ (tabN (b2 &&& (255 : Int32)).toNatClampNeg) = (0 : Int32)) ∧ ((tabN (b3 &&& (255 : Int32)).toNatClampNeg) = (0 : Int32)) ∧ (b3 = (58 : Int32)) ∧ w = (.int (3 : Int32))) ∨ ((¬ (tabN (b0 &&& (255 : Int32)).toNatClampNeg) = (0 : Int32)) ∧ (¬ (tabN (b1 &&& (255 : Int32)).toNatClampNeg) = (0 : Int32)) ∧ (¬ (tabN (b2 &&& (255 : Int32)).toNatClampNeg) = (0 : Int32)) ∧ ((tabN (b3 &&& (255 : Int32)).toNatClampNeg) = (0 : Int32)) ∧ (¬ b3 = (58 : Int32)) ∧ w = (.int (-1 : Int32))) ∨ ((¬ (tabN (b0 &&& (255 : Int32)).toNatClampNeg) = (0 : Int32)) ∧ (¬ (tabN (b1 &&& (255 : Int32)).toNatClampNeg) = (0 : Int32)) ∧ (¬ (tabN (b2 &&& (255 : Int32)).toNatClampNeg) = (0 : Int32)) ∧ (¬ (tabN (b3 &&& (255 : Int32)).toNatClampNeg) = (0 : Int32)) ∧ w = (.int (-1 : Int32)))) (m_4 hw F A1 S1 e_0 e_1 e_2 e_3) (w_6 hw) (w_7 hw) (w_8 hw) (w_9 hw) (by decide) pd_0 rfl rfl rfl at_205 rfl (W := 0) rfl (by decide) (by decide) (by decide) (by decide) ?_
            intro w346 hP; rcases hP with ⟨h347, rfl⟩ | ⟨h348, h349, h350, rfl⟩ | ⟨h351, h352, h353, rfl⟩ | ⟨h354, h355, h356, h357, rfl⟩ | ⟨h358, h359, h360, h361, rfl⟩ | ⟨h362, h363, h364, h365, h366, rfl⟩ | ⟨h367, h368, h369, h370, h371, rfl⟩ | ⟨h372, h373, h374, h375, rfl⟩
            · exact absurd h347 h344
            · exact absurd h349 h343
            · exact absurd h352 h343
            · exact absurd h356 h342
            · exact absurd h360 h342
            · exact absurd h366 h345
            · refine Wk.iload (q := 210) at_208 rfl rfl ?_
              refine Wk.icmpF (q := 213) at_210 rfl (by decide : (-1 : Int32) = (-1 : Int32)) ?_
              refine Wk.iconst (q := 214) (v := (1 : Int32)) at_213 rfl rfl ?_
              refine Wk.goto (q := 218) at_214 (by decide) rfl ?_
              exact Wk.retZ rfl rfl at_218 (by decide) (by decide) rfl
            · exact absurd h1 h375
          · refine Wk.iload (q := 197) at_195 rfl rfl ?_
            refine Wk.istore (q := 199) (ls' := #[.val (.int p0), .val (.int p1), .val (.int p2), .val (.int p3), .val (.int p4), .val (.ref a1), .val (.int (0 : Int32)), .val (.int (4 : Int32)), .val (.int (3 : Int32)), .val (.int (3 : Int32))]) at_197 rfl rfl ?_
            refine Wk.aload (q := 201) at_199 rfl rfl rfl ?_
            refine Wk.iload (q := 203) at_201 rfl rfl ?_
            refine Wk.iload (q := 205) at_203 rfl rfl ?_
            refine Wk.callS2 (q := 208) (argsL := [(.ref a1), (.int (0 : Int32)), (.int (4 : Int32))]) (rest := []) (fr := 0) (lo := 0) (P := fun w => (((tabN (b0 &&& (255 : Int32)).toNatClampNeg) = (0 : Int32)) ∧ w = (.int (-1 : Int32))) ∨ ((¬ (tabN (b0 &&& (255 : Int32)).toNatClampNeg) = (0 : Int32)) ∧ ((tabN (b1 &&& (255 : Int32)).toNatClampNeg) = (0 : Int32)) ∧ (b1 = (58 : Int32)) ∧ w = (.int (1 : Int32))) ∨ ((¬ (tabN (b0 &&& (255 : Int32)).toNatClampNeg) = (0 : Int32)) ∧ ((tabN (b1 &&& (255 : Int32)).toNatClampNeg) = (0 : Int32)) ∧ (¬ b1 = (58 : Int32)) ∧ w = (.int (-1 : Int32))) ∨ ((¬ (tabN (b0 &&& (255 : Int32)).toNatClampNeg) = (0 : Int32)) ∧ (¬ (tabN (b1 &&& (255 : Int32)).toNatClampNeg) = (0 : Int32)) ∧ ((tabN (b2 &&& (255 : Int32)).toNatClampNeg) = (0 : Int32)) ∧ (b2 = (58 : Int32)) ∧ w = (.int (2 : Int32))) ∨ ((¬ (tabN (b0 &&& (255 : Int32)).toNatClampNeg) = (0 : Int32)) ∧ (¬ (tabN (b1 &&& (255 : Int32)).toNatClampNeg) = (0 : Int32)) ∧ ((tabN (b2 &&& (255 : Int32)).toNatClampNeg) = (0 : Int32)) ∧ (¬ b2 = (58 : Int32)) ∧ w = (.int (-1 : Int32))) ∨ ((¬ (tabN (b0 &&& (255 : Int32)).toNatClampNeg) = (0 : Int32)) ∧ (¬ (tabN (b1 &&& (255 : Int32)).toNatClampNeg) = (0 : Int32)) ∧ (¬ (tabN (b2 &&& (255 : Int32)).toNatClampNeg) = (0 : Int32)) ∧ ((tabN (b3 &&& (255 : Int32)).toNatClampNeg) = (0 : Int32)) ∧ (b3 = (58 : Int32)) ∧ w = (.int (3 : Int32))) ∨ ((¬ (tabN (b0 &&& (255 : Int32)).toNatClampNeg) = (0 : Int32)) ∧ (¬ (tabN (b1 &&& (255 : Int32)).toNatClampNeg) = (0 : Int32)) ∧ (¬ (tabN (b2 &&& (255 : Int32)).toNatClampNeg) = (0 : Int32)) ∧ ((tabN (b3 &&& (255 : Int32)).toNatClampNeg) = (0 : Int32)) ∧ (¬ b3 = (58 : Int32)) ∧ w = (.int (-1 : Int32))) ∨ ((¬ (tabN (b0 &&& (255 : Int32)).toNatClampNeg) = (0 : Int32)) ∧ (¬ (tabN (b1 &&& (255 : Int32)).toNatClampNeg) = (0 : Int32)) ∧ (¬ (tabN (b2 &&& (255 : Int32)).toNatClampNeg) = (0 : Int32)) ∧ (¬ (tabN (b3 &&& (255 : Int32)).toNatClampNeg) = (0 : Int32)) ∧ w = (.int (-1 : Int32)))) (m_4 hw F A1 S1 e_0 e_1 e_2 e_3) (w_6 hw) (w_7 hw) (w_8 hw) (w_9 hw) (by decide) pd_0 rfl rfl rfl at_205 rfl (W := 0) rfl (by decide) (by decide) (by decide) (by decide) ?_
            intro w376 hP; rcases hP with ⟨h377, rfl⟩ | ⟨h378, h379, h380, rfl⟩ | ⟨h381, h382, h383, rfl⟩ | ⟨h384, h385, h386, h387, rfl⟩ | ⟨h388, h389, h390, h391, rfl⟩ | ⟨h392, h393, h394, h395, h396, rfl⟩ | ⟨h397, h398, h399, h400, h401, rfl⟩ | ⟨h402, h403, h404, h405, rfl⟩
            · exact absurd h377 h344
            · exact absurd h379 h343
            · exact absurd h382 h343
            · exact absurd h386 h342
            · exact absurd h390 h342
            · refine Wk.iload (q := 210) at_208 rfl rfl ?_
              refine Wk.icmpF (q := 213) at_210 rfl (by decide : (3 : Int32) = (3 : Int32)) ?_
              refine Wk.iconst (q := 214) (v := (1 : Int32)) at_213 rfl rfl ?_
              refine Wk.goto (q := 218) at_214 (by decide) rfl ?_
              exact Wk.retZ rfl rfl at_218 (by decide) (by decide) rfl
            · exact absurd h345 h401
            · exact absurd h1 h405
        · refine Wk.iconst (q := 166) (v := (0 : Int32)) at_165 rfl rfl ?_
          refine Wk.istore (q := 168) (ls' := #[.val (.int p0), .val (.int p1), .val (.int p2), .val (.int p3), .val (.int p4), .val (.ref a1), .val (.int (0 : Int32)), .val (.int (4 : Int32)), .val (.int (0 : Int32)), .unset]) at_166 rfl rfl ?_
          refine Wk.iconst (q := 169) (v := (-1 : Int32)) at_168 rfl rfl ?_
          refine Wk.istore (q := 171) (ls' := #[.val (.int p0), .val (.int p1), .val (.int p2), .val (.int p3), .val (.int p4), .val (.ref a1), .val (.int (0 : Int32)), .val (.int (4 : Int32)), .val (.int (0 : Int32)), .val (.int (-1 : Int32))]) at_169 rfl rfl ?_
          refine Wk.iload (q := 173) at_171 rfl rfl ?_
          refine Wk.iload (q := 175) at_173 rfl rfl ?_
          refine Wk.icmpT (q := 199) at_175 (by decide) rfl (by decide : ¬ (0 : Int32) < (0 : Int32)) ?_
          refine Wk.aload (q := 201) at_199 rfl rfl rfl ?_
          refine Wk.iload (q := 203) at_201 rfl rfl ?_
          refine Wk.iload (q := 205) at_203 rfl rfl ?_
          refine Wk.callS2 (q := 208) (argsL := [(.ref a1), (.int (0 : Int32)), (.int (4 : Int32))]) (rest := []) (fr := 0) (lo := 0) (P := fun w => (((tabN (b0 &&& (255 : Int32)).toNatClampNeg) = (0 : Int32)) ∧ w = (.int (-1 : Int32))) ∨ ((¬ (tabN (b0 &&& (255 : Int32)).toNatClampNeg) = (0 : Int32)) ∧ ((tabN (b1 &&& (255 : Int32)).toNatClampNeg) = (0 : Int32)) ∧ (b1 = (58 : Int32)) ∧ w = (.int (1 : Int32))) ∨ ((¬ (tabN (b0 &&& (255 : Int32)).toNatClampNeg) = (0 : Int32)) ∧ ((tabN (b1 &&& (255 : Int32)).toNatClampNeg) = (0 : Int32)) ∧ (¬ b1 = (58 : Int32)) ∧ w = (.int (-1 : Int32))) ∨ ((¬ (tabN (b0 &&& (255 : Int32)).toNatClampNeg) = (0 : Int32)) ∧ (¬ (tabN (b1 &&& (255 : Int32)).toNatClampNeg) = (0 : Int32)) ∧ ((tabN (b2 &&& (255 : Int32)).toNatClampNeg) = (0 : Int32)) ∧ (b2 = (58 : Int32)) ∧ w = (.int (2 : Int32))) ∨ ((¬ (tabN (b0 &&& (255 : Int32)).toNatClampNeg) = (0 : Int32)) ∧ (¬ (tabN (b1 &&& (255 : Int32)).toNatClampNeg) = (0 : Int32)) ∧ ((tabN (b2 &&& (255 : Int32)).toNatClampNeg) = (0 : Int32)) ∧ (¬ b2 = (58 : Int32)) ∧ w = (.int (-1 : Int32))) ∨ ((¬ (tabN (b0 &&& (255 : Int32)).toNatClampNeg) = (0 : Int32)) ∧ (¬ (tabN (b1 &&& (255 : Int32)).toNatClampNeg) = (0 : Int32)) ∧ (¬ (tabN (b2 &&& (255 : Int32)).toNatClampNeg) = (0 : Int32)) ∧ ((tabN (b3 &&& (255 : Int32)).toNatClampNeg) = (0 : Int32)) ∧ (b3 = (58 : Int32)) ∧ w = (.int (3 : Int32))) ∨ ((¬ (tabN (b0 &&& (255 : Int32)).toNatClampNeg) = (0 : Int32)) ∧ (¬ (tabN (b1 &&& (255 : Int32)).toNatClampNeg) = (0 : Int32)) ∧ (¬ (tabN (b2 &&& (255 : Int32)).toNatClampNeg) = (0 : Int32)) ∧ ((tabN (b3 &&& (255 : Int32)).toNatClampNeg) = (0 : Int32)) ∧ (¬ b3 = (58 : Int32)) ∧ w = (.int (-1 : Int32))) ∨ ((¬ (tabN (b0 &&& (255 : Int32)).toNatClampNeg) = (0 : Int32)) ∧ (¬ (tabN (b1 &&& (255 : Int32)).toNatClampNeg) = (0 : Int32)) ∧ (¬ (tabN (b2 &&& (255 : Int32)).toNatClampNeg) = (0 : Int32)) ∧ (¬ (tabN (b3 &&& (255 : Int32)).toNatClampNeg) = (0 : Int32)) ∧ w = (.int (-1 : Int32)))) (m_4 hw F A1 S1 e_0 e_1 e_2 e_3) (w_6 hw) (w_7 hw) (w_8 hw) (w_9 hw) (by decide) pd_0 rfl rfl rfl at_205 rfl (W := 0) rfl (by decide) (by decide) (by decide) (by decide) ?_
          intro w406 hP; rcases hP with ⟨h407, rfl⟩ | ⟨h408, h409, h410, rfl⟩ | ⟨h411, h412, h413, rfl⟩ | ⟨h414, h415, h416, h417, rfl⟩ | ⟨h418, h419, h420, h421, rfl⟩ | ⟨h422, h423, h424, h425, h426, rfl⟩ | ⟨h427, h428, h429, h430, h431, rfl⟩ | ⟨h432, h433, h434, h435, rfl⟩
          · refine Wk.iload (q := 210) at_208 rfl rfl ?_
            refine Wk.icmpF (q := 213) at_210 rfl (by decide : (-1 : Int32) = (-1 : Int32)) ?_
            refine Wk.iconst (q := 214) (v := (1 : Int32)) at_213 rfl rfl ?_
            refine Wk.goto (q := 218) at_214 (by decide) rfl ?_
            exact Wk.retZ rfl rfl at_218 (by decide) (by decide) rfl
          · exact absurd h344 h408
          · exact absurd h344 h411
          · exact absurd h344 h414
          · exact absurd h344 h418
          · exact absurd h344 h422
          · exact absurd h344 h427
          · exact absurd h344 h432
      · refine Wk.iconst (q := 141) (v := (1 : Int32)) at_140 rfl rfl ?_
        refine Wk.istore (q := 143) (ls' := #[.val (.int p0), .val (.int p1), .val (.int p2), .val (.int p3), .val (.int p4), .val (.ref a1), .val (.int (0 : Int32)), .val (.int (4 : Int32)), .val (.int (1 : Int32)), .unset]) at_141 rfl rfl ?_
        refine Wk.iconst (q := 144) (v := (0 : Int32)) at_143 rfl rfl ?_
        refine Wk.iload (q := 146) at_144 rfl rfl ?_
        refine Wk.icmpF (q := 149) at_146 rfl (by decide : ¬ (0 : Int32) < (0 : Int32)) ?_
        refine Wk.iconst (q := 150) (v := (0 : Int32)) at_149 rfl rfl ?_
        refine Wk.iload (q := 152) at_150 rfl rfl ?_
        refine Wk.icmpF (q := 155) at_152 rfl (by decide : (0 : Int32) < (4 : Int32)) ?_
        refine Wk.aload (q := 157) at_155 rfl rfl rfl ?_
        refine Wk.iconst (q := 158) (v := (0 : Int32)) at_157 rfl rfl ?_
        refine Wk.baloadB (q := 159) A1 (by rw [S1]; decide) e_0 at_158 rfl ?_
        refine Wk.callS1 (q := 162) (argsL := [(.int b0)]) (rest := []) (fr := 0) (lo := 0) (v0 := (.int (tabN (b0 &&& (255 : Int32)).toNatClampNeg))) (m_cls hw F b0) (w_10 hw) (w_11 hw) (w_3 hw) (w_12 hw) (by decide) pd_1 rfl rfl rfl at_159 rfl (W := 0) rfl (by decide) (by decide) (by decide) (by decide) ?_
        refine Wk.ifc (q := 168) (q' := 165) at_162 (by decide) rfl rfl (fun (h436 : ¬ (tabN (b0 &&& (255 : Int32)).toNatClampNeg) = (0 : Int32)) => ?_) (fun (h436 : (tabN (b0 &&& (255 : Int32)).toNatClampNeg) = (0 : Int32)) => ?_)
        · refine Wk.iconst (q := 169) (v := (-1 : Int32)) at_168 rfl rfl ?_
          refine Wk.istore (q := 171) (ls' := #[.val (.int p0), .val (.int p1), .val (.int p2), .val (.int p3), .val (.int p4), .val (.ref a1), .val (.int (0 : Int32)), .val (.int (4 : Int32)), .val (.int (1 : Int32)), .val (.int (-1 : Int32))]) at_169 rfl rfl ?_
          refine Wk.iload (q := 173) at_171 rfl rfl ?_
          refine Wk.iload (q := 175) at_173 rfl rfl ?_
          refine Wk.icmpF (q := 178) at_175 rfl (by decide : (0 : Int32) < (1 : Int32)) ?_
          refine Wk.iload (q := 180) at_178 rfl rfl ?_
          refine Wk.iload (q := 182) at_180 rfl rfl ?_
          refine Wk.icmpF (q := 185) at_182 rfl (by decide : (1 : Int32) < (4 : Int32)) ?_
          refine Wk.aload (q := 187) at_185 rfl rfl rfl ?_
          refine Wk.iload (q := 189) at_187 rfl rfl ?_
          refine Wk.baloadB (q := 190) A1 (by rw [S1]; decide) e_1 at_189 rfl ?_
          refine Wk.bipush (q := 192) (v := (58 : Int32)) at_190 rfl rfl ?_
          refine Wk.icmp (q := 199) (q' := 195) at_192 (by decide) rfl rfl (fun (h437 : ¬ b1 = (58 : Int32)) => ?_) (fun (h437 : b1 = (58 : Int32)) => ?_)
          · refine Wk.aload (q := 201) at_199 rfl rfl rfl ?_
            refine Wk.iload (q := 203) at_201 rfl rfl ?_
            refine Wk.iload (q := 205) at_203 rfl rfl ?_
            refine Wk.callS2 (q := 208) (argsL := [(.ref a1), (.int (0 : Int32)), (.int (4 : Int32))]) (rest := []) (fr := 0) (lo := 0) (P := fun w => (((tabN (b0 &&& (255 : Int32)).toNatClampNeg) = (0 : Int32)) ∧ w = (.int (-1 : Int32))) ∨ ((¬ (tabN (b0 &&& (255 : Int32)).toNatClampNeg) = (0 : Int32)) ∧ ((tabN (b1 &&& (255 : Int32)).toNatClampNeg) = (0 : Int32)) ∧ (b1 = (58 : Int32)) ∧ w = (.int (1 : Int32))) ∨ ((¬ (tabN (b0 &&& (255 : Int32)).toNatClampNeg) = (0 : Int32)) ∧ ((tabN (b1 &&& (255 : Int32)).toNatClampNeg) = (0 : Int32)) ∧ (¬ b1 = (58 : Int32)) ∧ w = (.int (-1 : Int32))) ∨ ((¬ (tabN (b0 &&& (255 : Int32)).toNatClampNeg) = (0 : Int32)) ∧ (¬ (tabN (b1 &&& (255 : Int32)).toNatClampNeg) = (0 : Int32)) ∧ ((tabN (b2 &&& (255 : Int32)).toNatClampNeg) = (0 : Int32)) ∧ (b2 = (58 : Int32)) ∧ w = (.int (2 : Int32))) ∨ ((¬ (tabN (b0 &&& (255 : Int32)).toNatClampNeg) = (0 : Int32)) ∧ (¬ (tabN (b1 &&& (255 : Int32)).toNatClampNeg) = (0 : Int32)) ∧ ((tabN (b2 &&& (255 : Int32)).toNatClampNeg) = (0 : Int32)) ∧ (¬ b2 = (58 : Int32)) ∧ w = (.int (-1 : Int32))) ∨ ((¬ (tabN (b0 &&& (255 : Int32)).toNatClampNeg) = (0 : Int32)) ∧ (¬ (tabN (b1 &&& (255 : Int32)).toNatClampNeg) = (0 : Int32)) ∧ (¬ (tabN (b2 &&& (255 : Int32)).toNatClampNeg) = (0 : Int32)) ∧ ((tabN (b3 &&& (255 : Int32)).toNatClampNeg) = (0 : Int32)) ∧ (b3 = (58 : Int32)) ∧ w = (.int (3 : Int32))) ∨ ((¬ (tabN (b0 &&& (255 : Int32)).toNatClampNeg) = (0 : Int32)) ∧ (¬ (tabN (b1 &&& (255 : Int32)).toNatClampNeg) = (0 : Int32)) ∧ (¬ (tabN (b2 &&& (255 : Int32)).toNatClampNeg) = (0 : Int32)) ∧ ((tabN (b3 &&& (255 : Int32)).toNatClampNeg) = (0 : Int32)) ∧ (¬ b3 = (58 : Int32)) ∧ w = (.int (-1 : Int32))) ∨ ((¬ (tabN (b0 &&& (255 : Int32)).toNatClampNeg) = (0 : Int32)) ∧ (¬ (tabN (b1 &&& (255 : Int32)).toNatClampNeg) = (0 : Int32)) ∧ (¬ (tabN (b2 &&& (255 : Int32)).toNatClampNeg) = (0 : Int32)) ∧ (¬ (tabN (b3 &&& (255 : Int32)).toNatClampNeg) = (0 : Int32)) ∧ w = (.int (-1 : Int32)))) (m_4 hw F A1 S1 e_0 e_1 e_2 e_3) (w_6 hw) (w_7 hw) (w_8 hw) (w_9 hw) (by decide) pd_0 rfl rfl rfl at_205 rfl (W := 0) rfl (by decide) (by decide) (by decide) (by decide) ?_
            intro w438 hP; rcases hP with ⟨h439, rfl⟩ | ⟨h440, h441, h442, rfl⟩ | ⟨h443, h444, h445, rfl⟩ | ⟨h446, h447, h448, h449, rfl⟩ | ⟨h450, h451, h452, h453, rfl⟩ | ⟨h454, h455, h456, h457, h458, rfl⟩ | ⟨h459, h460, h461, h462, h463, rfl⟩ | ⟨h464, h465, h466, h467, rfl⟩
            · exact absurd h439 h436
            · exact absurd h442 h437
            · refine Wk.iload (q := 210) at_208 rfl rfl ?_
              refine Wk.icmpF (q := 213) at_210 rfl (by decide : (-1 : Int32) = (-1 : Int32)) ?_
              refine Wk.iconst (q := 214) (v := (1 : Int32)) at_213 rfl rfl ?_
              refine Wk.goto (q := 218) at_214 (by decide) rfl ?_
              exact Wk.retZ rfl rfl at_218 (by decide) (by decide) rfl
            · exact absurd h343 h447
            · exact absurd h343 h451
            · exact absurd h343 h455
            · exact absurd h343 h460
            · exact absurd h343 h465
          · refine Wk.iload (q := 197) at_195 rfl rfl ?_
            refine Wk.istore (q := 199) (ls' := #[.val (.int p0), .val (.int p1), .val (.int p2), .val (.int p3), .val (.int p4), .val (.ref a1), .val (.int (0 : Int32)), .val (.int (4 : Int32)), .val (.int (1 : Int32)), .val (.int (1 : Int32))]) at_197 rfl rfl ?_
            refine Wk.aload (q := 201) at_199 rfl rfl rfl ?_
            refine Wk.iload (q := 203) at_201 rfl rfl ?_
            refine Wk.iload (q := 205) at_203 rfl rfl ?_
            refine Wk.callS2 (q := 208) (argsL := [(.ref a1), (.int (0 : Int32)), (.int (4 : Int32))]) (rest := []) (fr := 0) (lo := 0) (P := fun w => (((tabN (b0 &&& (255 : Int32)).toNatClampNeg) = (0 : Int32)) ∧ w = (.int (-1 : Int32))) ∨ ((¬ (tabN (b0 &&& (255 : Int32)).toNatClampNeg) = (0 : Int32)) ∧ ((tabN (b1 &&& (255 : Int32)).toNatClampNeg) = (0 : Int32)) ∧ (b1 = (58 : Int32)) ∧ w = (.int (1 : Int32))) ∨ ((¬ (tabN (b0 &&& (255 : Int32)).toNatClampNeg) = (0 : Int32)) ∧ ((tabN (b1 &&& (255 : Int32)).toNatClampNeg) = (0 : Int32)) ∧ (¬ b1 = (58 : Int32)) ∧ w = (.int (-1 : Int32))) ∨ ((¬ (tabN (b0 &&& (255 : Int32)).toNatClampNeg) = (0 : Int32)) ∧ (¬ (tabN (b1 &&& (255 : Int32)).toNatClampNeg) = (0 : Int32)) ∧ ((tabN (b2 &&& (255 : Int32)).toNatClampNeg) = (0 : Int32)) ∧ (b2 = (58 : Int32)) ∧ w = (.int (2 : Int32))) ∨ ((¬ (tabN (b0 &&& (255 : Int32)).toNatClampNeg) = (0 : Int32)) ∧ (¬ (tabN (b1 &&& (255 : Int32)).toNatClampNeg) = (0 : Int32)) ∧ ((tabN (b2 &&& (255 : Int32)).toNatClampNeg) = (0 : Int32)) ∧ (¬ b2 = (58 : Int32)) ∧ w = (.int (-1 : Int32))) ∨ ((¬ (tabN (b0 &&& (255 : Int32)).toNatClampNeg) = (0 : Int32)) ∧ (¬ (tabN (b1 &&& (255 : Int32)).toNatClampNeg) = (0 : Int32)) ∧ (¬ (tabN (b2 &&& (255 : Int32)).toNatClampNeg) = (0 : Int32)) ∧ ((tabN (b3 &&& (255 : Int32)).toNatClampNeg) = (0 : Int32)) ∧ (b3 = (58 : Int32)) ∧ w = (.int (3 : Int32))) ∨ ((¬ (tabN (b0 &&& (255 : Int32)).toNatClampNeg) = (0 : Int32)) ∧ (¬ (tabN (b1 &&& (255 : Int32)).toNatClampNeg) = (0 : Int32)) ∧ (¬ (tabN (b2 &&& (255 : Int32)).toNatClampNeg) = (0 : Int32)) ∧ ((tabN (b3 &&& (255 : Int32)).toNatClampNeg) = (0 : Int32)) ∧ (¬ b3 = (58 : Int32)) ∧ w = (.int (-1 : Int32))) ∨ ((¬ (tabN (b0 &&& (255 : Int32)).toNatClampNeg) = (0 : Int32)) ∧ (¬ (tabN (b1 &&& (255 : Int32)).toNatClampNeg) = (0 : Int32)) ∧ (¬ (tabN (b2 &&& (255 : Int32)).toNatClampNeg) = (0 : Int32)) ∧ (¬ (tabN (b3 &&& (255 : Int32)).toNatClampNeg) = (0 : Int32)) ∧ w = (.int (-1 : Int32)))) (m_4 hw F A1 S1 e_0 e_1 e_2 e_3) (w_6 hw) (w_7 hw) (w_8 hw) (w_9 hw) (by decide) pd_0 rfl rfl rfl at_205 rfl (W := 0) rfl (by decide) (by decide) (by decide) (by decide) ?_
            intro w468 hP; rcases hP with ⟨h469, rfl⟩ | ⟨h470, h471, h472, rfl⟩ | ⟨h473, h474, h475, rfl⟩ | ⟨h476, h477, h478, h479, rfl⟩ | ⟨h480, h481, h482, h483, rfl⟩ | ⟨h484, h485, h486, h487, h488, rfl⟩ | ⟨h489, h490, h491, h492, h493, rfl⟩ | ⟨h494, h495, h496, h497, rfl⟩
            · exact absurd h469 h436
            · refine Wk.iload (q := 210) at_208 rfl rfl ?_
              refine Wk.icmpF (q := 213) at_210 rfl (by decide : (1 : Int32) = (1 : Int32)) ?_
              refine Wk.iconst (q := 214) (v := (1 : Int32)) at_213 rfl rfl ?_
              refine Wk.goto (q := 218) at_214 (by decide) rfl ?_
              exact Wk.retZ rfl rfl at_218 (by decide) (by decide) rfl
            · exact absurd h437 h475
            · exact absurd h343 h477
            · exact absurd h343 h481
            · exact absurd h343 h485
            · exact absurd h343 h490
            · exact absurd h343 h495
        · refine Wk.iconst (q := 166) (v := (0 : Int32)) at_165 rfl rfl ?_
          refine Wk.istore (q := 168) (ls' := #[.val (.int p0), .val (.int p1), .val (.int p2), .val (.int p3), .val (.int p4), .val (.ref a1), .val (.int (0 : Int32)), .val (.int (4 : Int32)), .val (.int (0 : Int32)), .unset]) at_166 rfl rfl ?_
          refine Wk.iconst (q := 169) (v := (-1 : Int32)) at_168 rfl rfl ?_
          refine Wk.istore (q := 171) (ls' := #[.val (.int p0), .val (.int p1), .val (.int p2), .val (.int p3), .val (.int p4), .val (.ref a1), .val (.int (0 : Int32)), .val (.int (4 : Int32)), .val (.int (0 : Int32)), .val (.int (-1 : Int32))]) at_169 rfl rfl ?_
          refine Wk.iload (q := 173) at_171 rfl rfl ?_
          refine Wk.iload (q := 175) at_173 rfl rfl ?_
          refine Wk.icmpT (q := 199) at_175 (by decide) rfl (by decide : ¬ (0 : Int32) < (0 : Int32)) ?_
          refine Wk.aload (q := 201) at_199 rfl rfl rfl ?_
          refine Wk.iload (q := 203) at_201 rfl rfl ?_
          refine Wk.iload (q := 205) at_203 rfl rfl ?_
          refine Wk.callS2 (q := 208) (argsL := [(.ref a1), (.int (0 : Int32)), (.int (4 : Int32))]) (rest := []) (fr := 0) (lo := 0) (P := fun w => (((tabN (b0 &&& (255 : Int32)).toNatClampNeg) = (0 : Int32)) ∧ w = (.int (-1 : Int32))) ∨ ((¬ (tabN (b0 &&& (255 : Int32)).toNatClampNeg) = (0 : Int32)) ∧ ((tabN (b1 &&& (255 : Int32)).toNatClampNeg) = (0 : Int32)) ∧ (b1 = (58 : Int32)) ∧ w = (.int (1 : Int32))) ∨ ((¬ (tabN (b0 &&& (255 : Int32)).toNatClampNeg) = (0 : Int32)) ∧ ((tabN (b1 &&& (255 : Int32)).toNatClampNeg) = (0 : Int32)) ∧ (¬ b1 = (58 : Int32)) ∧ w = (.int (-1 : Int32))) ∨ ((¬ (tabN (b0 &&& (255 : Int32)).toNatClampNeg) = (0 : Int32)) ∧ (¬ (tabN (b1 &&& (255 : Int32)).toNatClampNeg) = (0 : Int32)) ∧ ((tabN (b2 &&& (255 : Int32)).toNatClampNeg) = (0 : Int32)) ∧ (b2 = (58 : Int32)) ∧ w = (.int (2 : Int32))) ∨ ((¬ (tabN (b0 &&& (255 : Int32)).toNatClampNeg) = (0 : Int32)) ∧ (¬ (tabN (b1 &&& (255 : Int32)).toNatClampNeg) = (0 : Int32)) ∧ ((tabN (b2 &&& (255 : Int32)).toNatClampNeg) = (0 : Int32)) ∧ (¬ b2 = (58 : Int32)) ∧ w = (.int (-1 : Int32))) ∨ ((¬ (tabN (b0 &&& (255 : Int32)).toNatClampNeg) = (0 : Int32)) ∧ (¬ (tabN (b1 &&& (255 : Int32)).toNatClampNeg) = (0 : Int32)) ∧ (¬ (tabN (b2 &&& (255 : Int32)).toNatClampNeg) = (0 : Int32)) ∧ ((tabN (b3 &&& (255 : Int32)).toNatClampNeg) = (0 : Int32)) ∧ (b3 = (58 : Int32)) ∧ w = (.int (3 : Int32))) ∨ ((¬ (tabN (b0 &&& (255 : Int32)).toNatClampNeg) = (0 : Int32)) ∧ (¬ (tabN (b1 &&& (255 : Int32)).toNatClampNeg) = (0 : Int32)) ∧ (¬ (tabN (b2 &&& (255 : Int32)).toNatClampNeg) = (0 : Int32)) ∧ ((tabN (b3 &&& (255 : Int32)).toNatClampNeg) = (0 : Int32)) ∧ (¬ b3 = (58 : Int32)) ∧ w = (.int (-1 : Int32))) ∨ ((¬ (tabN (b0 &&& (255 : Int32)).toNatClampNeg) = (0 : Int32)) ∧ (¬ (tabN (b1 &&& (255 : Int32)).toNatClampNeg) = (0 : Int32)) ∧ (¬ (tabN (b2 &&& (255 : Int32)).toNatClampNeg) = (0 : Int32)) ∧ (¬ (tabN (b3 &&& (255 : Int32)).toNatClampNeg) = (0 : Int32)) ∧ w = (.int (-1 : Int32)))) (m_4 hw F A1 S1 e_0 e_1 e_2 e_3) (w_6 hw) (w_7 hw) (w_8 hw) (w_9 hw) (by decide) pd_0 rfl rfl rfl at_205 rfl (W := 0) rfl (by decide) (by decide) (by decide) (by decide) ?_
          intro w498 hP; rcases hP with ⟨h499, rfl⟩ | ⟨h500, h501, h502, rfl⟩ | ⟨h503, h504, h505, rfl⟩ | ⟨h506, h507, h508, h509, rfl⟩ | ⟨h510, h511, h512, h513, rfl⟩ | ⟨h514, h515, h516, h517, h518, rfl⟩ | ⟨h519, h520, h521, h522, h523, rfl⟩ | ⟨h524, h525, h526, h527, rfl⟩
          · refine Wk.iload (q := 210) at_208 rfl rfl ?_
            refine Wk.icmpF (q := 213) at_210 rfl (by decide : (-1 : Int32) = (-1 : Int32)) ?_
            refine Wk.iconst (q := 214) (v := (1 : Int32)) at_213 rfl rfl ?_
            refine Wk.goto (q := 218) at_214 (by decide) rfl ?_
            exact Wk.retZ rfl rfl at_218 (by decide) (by decide) rfl
          · exact absurd h436 h500
          · exact absurd h436 h503
          · exact absurd h436 h506
          · exact absurd h436 h510
          · exact absurd h436 h514
          · exact absurd h436 h519
          · exact absurd h436 h524
    · refine Wk.iconst (q := 116) (v := (2 : Int32)) at_115 rfl rfl ?_
      refine Wk.istore (q := 118) (ls' := #[.val (.int p0), .val (.int p1), .val (.int p2), .val (.int p3), .val (.int p4), .val (.ref a1), .val (.int (0 : Int32)), .val (.int (4 : Int32)), .val (.int (2 : Int32)), .unset]) at_116 rfl rfl ?_
      refine Wk.iconst (q := 119) (v := (1 : Int32)) at_118 rfl rfl ?_
      refine Wk.iload (q := 121) at_119 rfl rfl ?_
      refine Wk.icmpF (q := 124) at_121 rfl (by decide : ¬ (1 : Int32) < (0 : Int32)) ?_
      refine Wk.iconst (q := 125) (v := (1 : Int32)) at_124 rfl rfl ?_
      refine Wk.iload (q := 127) at_125 rfl rfl ?_
      refine Wk.icmpF (q := 130) at_127 rfl (by decide : (1 : Int32) < (4 : Int32)) ?_
      refine Wk.aload (q := 132) at_130 rfl rfl rfl ?_
      refine Wk.iconst (q := 133) (v := (1 : Int32)) at_132 rfl rfl ?_
      refine Wk.baloadB (q := 134) A1 (by rw [S1]; decide) e_1 at_133 rfl ?_
      refine Wk.callS1 (q := 137) (argsL := [(.int b1)]) (rest := []) (fr := 0) (lo := 0) (v0 := (.int (tabN (b1 &&& (255 : Int32)).toNatClampNeg))) (m_cls hw F b1) (w_10 hw) (w_11 hw) (w_3 hw) (w_12 hw) (by decide) pd_1 rfl rfl rfl at_134 rfl (W := 0) rfl (by decide) (by decide) (by decide) (by decide) ?_
      refine Wk.ifc (q := 143) (q' := 140) at_137 (by decide) rfl rfl (fun (h528 : ¬ (tabN (b1 &&& (255 : Int32)).toNatClampNeg) = (0 : Int32)) => ?_) (fun (h528 : (tabN (b1 &&& (255 : Int32)).toNatClampNeg) = (0 : Int32)) => ?_)
      · refine Wk.iconst (q := 144) (v := (0 : Int32)) at_143 rfl rfl ?_
        refine Wk.iload (q := 146) at_144 rfl rfl ?_
        refine Wk.icmpF (q := 149) at_146 rfl (by decide : ¬ (0 : Int32) < (0 : Int32)) ?_
        refine Wk.iconst (q := 150) (v := (0 : Int32)) at_149 rfl rfl ?_
        refine Wk.iload (q := 152) at_150 rfl rfl ?_
        refine Wk.icmpF (q := 155) at_152 rfl (by decide : (0 : Int32) < (4 : Int32)) ?_
        refine Wk.aload (q := 157) at_155 rfl rfl rfl ?_
        refine Wk.iconst (q := 158) (v := (0 : Int32)) at_157 rfl rfl ?_
        refine Wk.baloadB (q := 159) A1 (by rw [S1]; decide) e_0 at_158 rfl ?_
        refine Wk.callS1 (q := 162) (argsL := [(.int b0)]) (rest := []) (fr := 0) (lo := 0) (v0 := (.int (tabN (b0 &&& (255 : Int32)).toNatClampNeg))) (m_cls hw F b0) (w_10 hw) (w_11 hw) (w_3 hw) (w_12 hw) (by decide) pd_1 rfl rfl rfl at_159 rfl (W := 0) rfl (by decide) (by decide) (by decide) (by decide) ?_
        refine Wk.ifc (q := 168) (q' := 165) at_162 (by decide) rfl rfl (fun (h529 : ¬ (tabN (b0 &&& (255 : Int32)).toNatClampNeg) = (0 : Int32)) => ?_) (fun (h529 : (tabN (b0 &&& (255 : Int32)).toNatClampNeg) = (0 : Int32)) => ?_)
        · refine Wk.iconst (q := 169) (v := (-1 : Int32)) at_168 rfl rfl ?_
          refine Wk.istore (q := 171) (ls' := #[.val (.int p0), .val (.int p1), .val (.int p2), .val (.int p3), .val (.int p4), .val (.ref a1), .val (.int (0 : Int32)), .val (.int (4 : Int32)), .val (.int (2 : Int32)), .val (.int (-1 : Int32))]) at_169 rfl rfl ?_
          refine Wk.iload (q := 173) at_171 rfl rfl ?_
          refine Wk.iload (q := 175) at_173 rfl rfl ?_
          refine Wk.icmpF (q := 178) at_175 rfl (by decide : (0 : Int32) < (2 : Int32)) ?_
          refine Wk.iload (q := 180) at_178 rfl rfl ?_
          refine Wk.iload (q := 182) at_180 rfl rfl ?_
          refine Wk.icmpF (q := 185) at_182 rfl (by decide : (2 : Int32) < (4 : Int32)) ?_
          refine Wk.aload (q := 187) at_185 rfl rfl rfl ?_
          refine Wk.iload (q := 189) at_187 rfl rfl ?_
          refine Wk.baloadB (q := 190) A1 (by rw [S1]; decide) e_2 at_189 rfl ?_
          refine Wk.bipush (q := 192) (v := (58 : Int32)) at_190 rfl rfl ?_
          refine Wk.icmp (q := 199) (q' := 195) at_192 (by decide) rfl rfl (fun (h530 : ¬ b2 = (58 : Int32)) => ?_) (fun (h530 : b2 = (58 : Int32)) => ?_)
          · refine Wk.aload (q := 201) at_199 rfl rfl rfl ?_
            refine Wk.iload (q := 203) at_201 rfl rfl ?_
            refine Wk.iload (q := 205) at_203 rfl rfl ?_
            refine Wk.callS2 (q := 208) (argsL := [(.ref a1), (.int (0 : Int32)), (.int (4 : Int32))]) (rest := []) (fr := 0) (lo := 0) (P := fun w => (((tabN (b0 &&& (255 : Int32)).toNatClampNeg) = (0 : Int32)) ∧ w = (.int (-1 : Int32))) ∨ ((¬ (tabN (b0 &&& (255 : Int32)).toNatClampNeg) = (0 : Int32)) ∧ ((tabN (b1 &&& (255 : Int32)).toNatClampNeg) = (0 : Int32)) ∧ (b1 = (58 : Int32)) ∧ w = (.int (1 : Int32))) ∨ ((¬ (tabN (b0 &&& (255 : Int32)).toNatClampNeg) = (0 : Int32)) ∧ ((tabN (b1 &&& (255 : Int32)).toNatClampNeg) = (0 : Int32)) ∧ (¬ b1 = (58 : Int32)) ∧ w = (.int (-1 : Int32))) ∨ ((¬ (tabN (b0 &&& (255 : Int32)).toNatClampNeg) = (0 : Int32)) ∧ (¬ (tabN (b1 &&& (255 : Int32)).toNatClampNeg) = (0 : Int32)) ∧ ((tabN (b2 &&& (255 : Int32)).toNatClampNeg) = (0 : Int32)) ∧ (b2 = (58 : Int32)) ∧ w = (.int (2 : Int32))) ∨ ((¬ (tabN (b0 &&& (255 : Int32)).toNatClampNeg) = (0 : Int32)) ∧ (¬ (tabN (b1 &&& (255 : Int32)).toNatClampNeg) = (0 : Int32)) ∧ ((tabN (b2 &&& (255 : Int32)).toNatClampNeg) = (0 : Int32)) ∧ (¬ b2 = (58 : Int32)) ∧ w = (.int (-1 : Int32))) ∨ ((¬ (tabN (b0 &&& (255 : Int32)).toNatClampNeg) = (0 : Int32)) ∧ (¬ (tabN (b1 &&& (255 : Int32)).toNatClampNeg) = (0 : Int32)) ∧ (¬ (tabN (b2 &&& (255 : Int32)).toNatClampNeg) = (0 : Int32)) ∧ ((tabN (b3 &&& (255 : Int32)).toNatClampNeg) = (0 : Int32)) ∧ (b3 = (58 : Int32)) ∧ w = (.int (3 : Int32))) ∨ ((¬ (tabN (b0 &&& (255 : Int32)).toNatClampNeg) = (0 : Int32)) ∧ (¬ (tabN (b1 &&& (255 : Int32)).toNatClampNeg) = (0 : Int32)) ∧ (¬ (tabN (b2 &&& (255 : Int32)).toNatClampNeg) = (0 : Int32)) ∧ ((tabN (b3 &&& (255 : Int32)).toNatClampNeg) = (0 : Int32)) ∧ (¬ b3 = (58 : Int32)) ∧ w = (.int (-1 : Int32))) ∨ ((¬ (tabN (b0 &&& (255 : Int32)).toNatClampNeg) = (0 : Int32)) ∧ (¬ (tabN (b1 &&& (255 : Int32)).toNatClampNeg) = (0 : Int32)) ∧ (¬ (tabN (b2 &&& (255 : Int32)).toNatClampNeg) = (0 : Int32)) ∧ (¬ (tabN (b3 &&& (255 : Int32)).toNatClampNeg) = (0 : Int32)) ∧ w = (.int (-1 : Int32)))) (m_4 hw F A1 S1 e_0 e_1 e_2 e_3) (w_6 hw) (w_7 hw) (w_8 hw) (w_9 hw) (by decide) pd_0 rfl rfl rfl at_205 rfl (W := 0) rfl (by decide) (by decide) (by decide) (by decide) ?_
            intro w531 hP; rcases hP with ⟨h532, rfl⟩ | ⟨h533, h534, h535, rfl⟩ | ⟨h536, h537, h538, rfl⟩ | ⟨h539, h540, h541, h542, rfl⟩ | ⟨h543, h544, h545, h546, rfl⟩ | ⟨h547, h548, h549, h550, h551, rfl⟩ | ⟨h552, h553, h554, h555, h556, rfl⟩ | ⟨h557, h558, h559, h560, rfl⟩
            · exact absurd h532 h529
            · exact absurd h534 h528
            · exact absurd h537 h528
            · exact absurd h542 h530
            · refine Wk.iload (q := 210) at_208 rfl rfl ?_
              refine Wk.icmpF (q := 213) at_210 rfl (by decide : (-1 : Int32) = (-1 : Int32)) ?_
              refine Wk.iconst (q := 214) (v := (1 : Int32)) at_213 rfl rfl ?_
              refine Wk.goto (q := 218) at_214 (by decide) rfl ?_
              exact Wk.retZ rfl rfl at_218 (by decide) (by decide) rfl
            · exact absurd h342 h549
            · exact absurd h342 h554
            · exact absurd h342 h559
          · refine Wk.iload (q := 197) at_195 rfl rfl ?_
            refine Wk.istore (q := 199) (ls' := #[.val (.int p0), .val (.int p1), .val (.int p2), .val (.int p3), .val (.int p4), .val (.ref a1), .val (.int (0 : Int32)), .val (.int (4 : Int32)), .val (.int (2 : Int32)), .val (.int (2 : Int32))]) at_197 rfl rfl ?_
            refine Wk.aload (q := 201) at_199 rfl rfl rfl ?_
            refine Wk.iload (q := 203) at_201 rfl rfl ?_
            refine Wk.iload (q := 205) at_203 rfl rfl ?_
            refine Wk.callS2 (q := 208) (argsL := [(.ref a1), (.int (0 : Int32)), (.int (4 : Int32))]) (rest := []) (fr := 0) (lo := 0) (P := fun w => (((tabN (b0 &&& (255 : Int32)).toNatClampNeg) = (0 : Int32)) ∧ w = (.int (-1 : Int32))) ∨ ((¬ (tabN (b0 &&& (255 : Int32)).toNatClampNeg) = (0 : Int32)) ∧ ((tabN (b1 &&& (255 : Int32)).toNatClampNeg) = (0 : Int32)) ∧ (b1 = (58 : Int32)) ∧ w = (.int (1 : Int32))) ∨ ((¬ (tabN (b0 &&& (255 : Int32)).toNatClampNeg) = (0 : Int32)) ∧ ((tabN (b1 &&& (255 : Int32)).toNatClampNeg) = (0 : Int32)) ∧ (¬ b1 = (58 : Int32)) ∧ w = (.int (-1 : Int32))) ∨ ((¬ (tabN (b0 &&& (255 : Int32)).toNatClampNeg) = (0 : Int32)) ∧ (¬ (tabN (b1 &&& (255 : Int32)).toNatClampNeg) = (0 : Int32)) ∧ ((tabN (b2 &&& (255 : Int32)).toNatClampNeg) = (0 : Int32)) ∧ (b2 = (58 : Int32)) ∧ w = (.int (2 : Int32))) ∨ ((¬ (tabN (b0 &&& (255 : Int32)).toNatClampNeg) = (0 : Int32)) ∧ (¬ (tabN (b1 &&& (255 : Int32)).toNatClampNeg) = (0 : Int32)) ∧ ((tabN (b2 &&& (255 : Int32)).toNatClampNeg) = (0 : Int32)) ∧ (¬ b2 = (58 : Int32)) ∧ w = (.int (-1 : Int32))) ∨ ((¬ (tabN (b0 &&& (255 : Int32)).toNatClampNeg) = (0 : Int32)) ∧ (¬ (tabN (b1 &&& (255 : Int32)).toNatClampNeg) = (0 : Int32)) ∧ (¬ (tabN (b2 &&& (255 : Int32)).toNatClampNeg) = (0 : Int32)) ∧ ((tabN (b3 &&& (255 : Int32)).toNatClampNeg) = (0 : Int32)) ∧ (b3 = (58 : Int32)) ∧ w = (.int (3 : Int32))) ∨ ((¬ (tabN (b0 &&& (255 : Int32)).toNatClampNeg) = (0 : Int32)) ∧ (¬ (tabN (b1 &&& (255 : Int32)).toNatClampNeg) = (0 : Int32)) ∧ (¬ (tabN (b2 &&& (255 : Int32)).toNatClampNeg) = (0 : Int32)) ∧ ((tabN (b3 &&& (255 : Int32)).toNatClampNeg) = (0 : Int32)) ∧ (¬ b3 = (58 : Int32)) ∧ w = (.int (-1 : Int32))) ∨ ((¬ (tabN (b0 &&& (255 : Int32)).toNatClampNeg) = (0 : Int32)) ∧ (¬ (tabN (b1 &&& (255 : Int32)).toNatClampNeg) = (0 : Int32)) ∧ (¬ (tabN (b2 &&& (255 : Int32)).toNatClampNeg) = (0 : Int32)) ∧ (¬ (tabN (b3 &&& (255 : Int32)).toNatClampNeg) = (0 : Int32)) ∧ w = (.int (-1 : Int32)))) (m_4 hw F A1 S1 e_0 e_1 e_2 e_3) (w_6 hw) (w_7 hw) (w_8 hw) (w_9 hw) (by decide) pd_0 rfl rfl rfl at_205 rfl (W := 0) rfl (by decide) (by decide) (by decide) (by decide) ?_
            intro w561 hP; rcases hP with ⟨h562, rfl⟩ | ⟨h563, h564, h565, rfl⟩ | ⟨h566, h567, h568, rfl⟩ | ⟨h569, h570, h571, h572, rfl⟩ | ⟨h573, h574, h575, h576, rfl⟩ | ⟨h577, h578, h579, h580, h581, rfl⟩ | ⟨h582, h583, h584, h585, h586, rfl⟩ | ⟨h587, h588, h589, h590, rfl⟩
            · exact absurd h562 h529
            · exact absurd h564 h528
            · exact absurd h567 h528
            · refine Wk.iload (q := 210) at_208 rfl rfl ?_
              refine Wk.icmpF (q := 213) at_210 rfl (by decide : (2 : Int32) = (2 : Int32)) ?_
              refine Wk.iconst (q := 214) (v := (1 : Int32)) at_213 rfl rfl ?_
              refine Wk.goto (q := 218) at_214 (by decide) rfl ?_
              exact Wk.retZ rfl rfl at_218 (by decide) (by decide) rfl
            · exact absurd h530 h576
            · exact absurd h342 h579
            · exact absurd h342 h584
            · exact absurd h342 h589
        · refine Wk.iconst (q := 166) (v := (0 : Int32)) at_165 rfl rfl ?_
          refine Wk.istore (q := 168) (ls' := #[.val (.int p0), .val (.int p1), .val (.int p2), .val (.int p3), .val (.int p4), .val (.ref a1), .val (.int (0 : Int32)), .val (.int (4 : Int32)), .val (.int (0 : Int32)), .unset]) at_166 rfl rfl ?_
          refine Wk.iconst (q := 169) (v := (-1 : Int32)) at_168 rfl rfl ?_
          refine Wk.istore (q := 171) (ls' := #[.val (.int p0), .val (.int p1), .val (.int p2), .val (.int p3), .val (.int p4), .val (.ref a1), .val (.int (0 : Int32)), .val (.int (4 : Int32)), .val (.int (0 : Int32)), .val (.int (-1 : Int32))]) at_169 rfl rfl ?_
          refine Wk.iload (q := 173) at_171 rfl rfl ?_
          refine Wk.iload (q := 175) at_173 rfl rfl ?_
          refine Wk.icmpT (q := 199) at_175 (by decide) rfl (by decide : ¬ (0 : Int32) < (0 : Int32)) ?_
          refine Wk.aload (q := 201) at_199 rfl rfl rfl ?_
          refine Wk.iload (q := 203) at_201 rfl rfl ?_
          refine Wk.iload (q := 205) at_203 rfl rfl ?_
          refine Wk.callS2 (q := 208) (argsL := [(.ref a1), (.int (0 : Int32)), (.int (4 : Int32))]) (rest := []) (fr := 0) (lo := 0) (P := fun w => (((tabN (b0 &&& (255 : Int32)).toNatClampNeg) = (0 : Int32)) ∧ w = (.int (-1 : Int32))) ∨ ((¬ (tabN (b0 &&& (255 : Int32)).toNatClampNeg) = (0 : Int32)) ∧ ((tabN (b1 &&& (255 : Int32)).toNatClampNeg) = (0 : Int32)) ∧ (b1 = (58 : Int32)) ∧ w = (.int (1 : Int32))) ∨ ((¬ (tabN (b0 &&& (255 : Int32)).toNatClampNeg) = (0 : Int32)) ∧ ((tabN (b1 &&& (255 : Int32)).toNatClampNeg) = (0 : Int32)) ∧ (¬ b1 = (58 : Int32)) ∧ w = (.int (-1 : Int32))) ∨ ((¬ (tabN (b0 &&& (255 : Int32)).toNatClampNeg) = (0 : Int32)) ∧ (¬ (tabN (b1 &&& (255 : Int32)).toNatClampNeg) = (0 : Int32)) ∧ ((tabN (b2 &&& (255 : Int32)).toNatClampNeg) = (0 : Int32)) ∧ (b2 = (58 : Int32)) ∧ w = (.int (2 : Int32))) ∨ ((¬ (tabN (b0 &&& (255 : Int32)).toNatClampNeg) = (0 : Int32)) ∧ (¬ (tabN (b1 &&& (255 : Int32)).toNatClampNeg) = (0 : Int32)) ∧ ((tabN (b2 &&& (255 : Int32)).toNatClampNeg) = (0 : Int32)) ∧ (¬ b2 = (58 : Int32)) ∧ w = (.int (-1 : Int32))) ∨ ((¬ (tabN (b0 &&& (255 : Int32)).toNatClampNeg) = (0 : Int32)) ∧ (¬ (tabN (b1 &&& (255 : Int32)).toNatClampNeg) = (0 : Int32)) ∧ (¬ (tabN (b2 &&& (255 : Int32)).toNatClampNeg) = (0 : Int32)) ∧ ((tabN (b3 &&& (255 : Int32)).toNatClampNeg) = (0 : Int32)) ∧ (b3 = (58 : Int32)) ∧ w = (.int (3 : Int32))) ∨ ((¬ (tabN (b0 &&& (255 : Int32)).toNatClampNeg) = (0 : Int32)) ∧ (¬ (tabN (b1 &&& (255 : Int32)).toNatClampNeg) = (0 : Int32)) ∧ (¬ (tabN (b2 &&& (255 : Int32)).toNatClampNeg) = (0 : Int32)) ∧ ((tabN (b3 &&& (255 : Int32)).toNatClampNeg) = (0 : Int32)) ∧ (¬ b3 = (58 : Int32)) ∧ w = (.int (-1 : Int32))) ∨ ((¬ (tabN (b0 &&& (255 : Int32)).toNatClampNeg) = (0 : Int32)) ∧ (¬ (tabN (b1 &&& (255 : Int32)).toNatClampNeg) = (0 : Int32)) ∧ (¬ (tabN (b2 &&& (255 : Int32)).toNatClampNeg) = (0 : Int32)) ∧ (¬ (tabN (b3 &&& (255 : Int32)).toNatClampNeg) = (0 : Int32)) ∧ w = (.int (-1 : Int32)))) (m_4 hw F A1 S1 e_0 e_1 e_2 e_3) (w_6 hw) (w_7 hw) (w_8 hw) (w_9 hw) (by decide) pd_0 rfl rfl rfl at_205 rfl (W := 0) rfl (by decide) (by decide) (by decide) (by decide) ?_
          intro w591 hP; rcases hP with ⟨h592, rfl⟩ | ⟨h593, h594, h595, rfl⟩ | ⟨h596, h597, h598, rfl⟩ | ⟨h599, h600, h601, h602, rfl⟩ | ⟨h603, h604, h605, h606, rfl⟩ | ⟨h607, h608, h609, h610, h611, rfl⟩ | ⟨h612, h613, h614, h615, h616, rfl⟩ | ⟨h617, h618, h619, h620, rfl⟩
          · refine Wk.iload (q := 210) at_208 rfl rfl ?_
            refine Wk.icmpF (q := 213) at_210 rfl (by decide : (-1 : Int32) = (-1 : Int32)) ?_
            refine Wk.iconst (q := 214) (v := (1 : Int32)) at_213 rfl rfl ?_
            refine Wk.goto (q := 218) at_214 (by decide) rfl ?_
            exact Wk.retZ rfl rfl at_218 (by decide) (by decide) rfl
          · exact absurd h529 h593
          · exact absurd h529 h596
          · exact absurd h529 h599
          · exact absurd h529 h603
          · exact absurd h529 h607
          · exact absurd h529 h612
          · exact absurd h529 h617
      · refine Wk.iconst (q := 141) (v := (1 : Int32)) at_140 rfl rfl ?_
        refine Wk.istore (q := 143) (ls' := #[.val (.int p0), .val (.int p1), .val (.int p2), .val (.int p3), .val (.int p4), .val (.ref a1), .val (.int (0 : Int32)), .val (.int (4 : Int32)), .val (.int (1 : Int32)), .unset]) at_141 rfl rfl ?_
        refine Wk.iconst (q := 144) (v := (0 : Int32)) at_143 rfl rfl ?_
        refine Wk.iload (q := 146) at_144 rfl rfl ?_
        refine Wk.icmpF (q := 149) at_146 rfl (by decide : ¬ (0 : Int32) < (0 : Int32)) ?_
        refine Wk.iconst (q := 150) (v := (0 : Int32)) at_149 rfl rfl ?_
        refine Wk.iload (q := 152) at_150 rfl rfl ?_
        refine Wk.icmpF (q := 155) at_152 rfl (by decide : (0 : Int32) < (4 : Int32)) ?_
        refine Wk.aload (q := 157) at_155 rfl rfl rfl ?_
        refine Wk.iconst (q := 158) (v := (0 : Int32)) at_157 rfl rfl ?_
        refine Wk.baloadB (q := 159) A1 (by rw [S1]; decide) e_0 at_158 rfl ?_
        refine Wk.callS1 (q := 162) (argsL := [(.int b0)]) (rest := []) (fr := 0) (lo := 0) (v0 := (.int (tabN (b0 &&& (255 : Int32)).toNatClampNeg))) (m_cls hw F b0) (w_10 hw) (w_11 hw) (w_3 hw) (w_12 hw) (by decide) pd_1 rfl rfl rfl at_159 rfl (W := 0) rfl (by decide) (by decide) (by decide) (by decide) ?_
        refine Wk.ifc (q := 168) (q' := 165) at_162 (by decide) rfl rfl (fun (h621 : ¬ (tabN (b0 &&& (255 : Int32)).toNatClampNeg) = (0 : Int32)) => ?_) (fun (h621 : (tabN (b0 &&& (255 : Int32)).toNatClampNeg) = (0 : Int32)) => ?_)
        · refine Wk.iconst (q := 169) (v := (-1 : Int32)) at_168 rfl rfl ?_
          refine Wk.istore (q := 171) (ls' := #[.val (.int p0), .val (.int p1), .val (.int p2), .val (.int p3), .val (.int p4), .val (.ref a1), .val (.int (0 : Int32)), .val (.int (4 : Int32)), .val (.int (1 : Int32)), .val (.int (-1 : Int32))]) at_169 rfl rfl ?_
          refine Wk.iload (q := 173) at_171 rfl rfl ?_
          refine Wk.iload (q := 175) at_173 rfl rfl ?_
          refine Wk.icmpF (q := 178) at_175 rfl (by decide : (0 : Int32) < (1 : Int32)) ?_
          refine Wk.iload (q := 180) at_178 rfl rfl ?_
          refine Wk.iload (q := 182) at_180 rfl rfl ?_
          refine Wk.icmpF (q := 185) at_182 rfl (by decide : (1 : Int32) < (4 : Int32)) ?_
          refine Wk.aload (q := 187) at_185 rfl rfl rfl ?_
          refine Wk.iload (q := 189) at_187 rfl rfl ?_
          refine Wk.baloadB (q := 190) A1 (by rw [S1]; decide) e_1 at_189 rfl ?_
          refine Wk.bipush (q := 192) (v := (58 : Int32)) at_190 rfl rfl ?_
          refine Wk.icmp (q := 199) (q' := 195) at_192 (by decide) rfl rfl (fun (h622 : ¬ b1 = (58 : Int32)) => ?_) (fun (h622 : b1 = (58 : Int32)) => ?_)
          · refine Wk.aload (q := 201) at_199 rfl rfl rfl ?_
            refine Wk.iload (q := 203) at_201 rfl rfl ?_
            refine Wk.iload (q := 205) at_203 rfl rfl ?_
            refine Wk.callS2 (q := 208) (argsL := [(.ref a1), (.int (0 : Int32)), (.int (4 : Int32))]) (rest := []) (fr := 0) (lo := 0) (P := fun w => (((tabN (b0 &&& (255 : Int32)).toNatClampNeg) = (0 : Int32)) ∧ w = (.int (-1 : Int32))) ∨ ((¬ (tabN (b0 &&& (255 : Int32)).toNatClampNeg) = (0 : Int32)) ∧ ((tabN (b1 &&& (255 : Int32)).toNatClampNeg) = (0 : Int32)) ∧ (b1 = (58 : Int32)) ∧ w = (.int (1 : Int32))) ∨ ((¬ (tabN (b0 &&& (255 : Int32)).toNatClampNeg) = (0 : Int32)) ∧ ((tabN (b1 &&& (255 : Int32)).toNatClampNeg) = (0 : Int32)) ∧ (¬ b1 = (58 : Int32)) ∧ w = (.int (-1 : Int32))) ∨ ((¬ (tabN (b0 &&& (255 : Int32)).toNatClampNeg) = (0 : Int32)) ∧ (¬ (tabN (b1 &&& (255 : Int32)).toNatClampNeg) = (0 : Int32)) ∧ ((tabN (b2 &&& (255 : Int32)).toNatClampNeg) = (0 : Int32)) ∧ (b2 = (58 : Int32)) ∧ w = (.int (2 : Int32))) ∨ ((¬ (tabN (b0 &&& (255 : Int32)).toNatClampNeg) = (0 : Int32)) ∧ (¬ (tabN (b1 &&& (255 : Int32)).toNatClampNeg) = (0 : Int32)) ∧ ((tabN (b2 &&& (255 : Int32)).toNatClampNeg) = (0 : Int32)) ∧ (¬ b2 = (58 : Int32)) ∧ w = (.int (-1 : Int32))) ∨ ((¬ (tabN (b0 &&& (255 : Int32)).toNatClampNeg) = (0 : Int32)) ∧ (¬ (tabN (b1 &&& (255 : Int32)).toNatClampNeg) = (0 : Int32)) ∧ (¬ (tabN (b2 &&& (255 : Int32)).toNatClampNeg) = (0 : Int32)) ∧ ((tabN (b3 &&& (255 : Int32)).toNatClampNeg) = (0 : Int32)) ∧ (b3 = (58 : Int32)) ∧ w = (.int (3 : Int32))) ∨ ((¬ (tabN (b0 &&& (255 : Int32)).toNatClampNeg) = (0 : Int32)) ∧ (¬ (tabN (b1 &&& (255 : Int32)).toNatClampNeg) = (0 : Int32)) ∧ (¬ (tabN (b2 &&& (255 : Int32)).toNatClampNeg) = (0 : Int32)) ∧ ((tabN (b3 &&& (255 : Int32)).toNatClampNeg) = (0 : Int32)) ∧ (¬ b3 = (58 : Int32)) ∧ w = (.int (-1 : Int32))) ∨ ((¬ (tabN (b0 &&& (255 : Int32)).toNatClampNeg) = (0 : Int32)) ∧ (¬ (tabN (b1 &&& (255 : Int32)).toNatClampNeg) = (0 : Int32)) ∧ (¬ (tabN (b2 &&& (255 : Int32)).toNatClampNeg) = (0 : Int32)) ∧ (¬ (tabN (b3 &&& (255 : Int32)).toNatClampNeg) = (0 : Int32)) ∧ w = (.int (-1 : Int32)))) (m_4 hw F A1 S1 e_0 e_1 e_2 e_3) (w_6 hw) (w_7 hw) (w_8 hw) (w_9 hw) (by decide) pd_0 rfl rfl rfl at_205 rfl (W := 0) rfl (by decide) (by decide) (by decide) (by decide) ?_
            intro w623 hP; rcases hP with ⟨h624, rfl⟩ | ⟨h625, h626, h627, rfl⟩ | ⟨h628, h629, h630, rfl⟩ | ⟨h631, h632, h633, h634, rfl⟩ | ⟨h635, h636, h637, h638, rfl⟩ | ⟨h639, h640, h641, h642, h643, rfl⟩ | ⟨h644, h645, h646, h647, h648, rfl⟩ | ⟨h649, h650, h651, h652, rfl⟩
            · exact absurd h624 h621
            · exact absurd h627 h622
            · refine Wk.iload (q := 210) at_208 rfl rfl ?_
              refine Wk.icmpF (q := 213) at_210 rfl (by decide : (-1 : Int32) = (-1 : Int32)) ?_
              refine Wk.iconst (q := 214) (v := (1 : Int32)) at_213 rfl rfl ?_
              refine Wk.goto (q := 218) at_214 (by decide) rfl ?_
              exact Wk.retZ rfl rfl at_218 (by decide) (by decide) rfl
            · exact absurd h528 h632
            · exact absurd h528 h636
            · exact absurd h528 h640
            · exact absurd h528 h645
            · exact absurd h528 h650
          · refine Wk.iload (q := 197) at_195 rfl rfl ?_
            refine Wk.istore (q := 199) (ls' := #[.val (.int p0), .val (.int p1), .val (.int p2), .val (.int p3), .val (.int p4), .val (.ref a1), .val (.int (0 : Int32)), .val (.int (4 : Int32)), .val (.int (1 : Int32)), .val (.int (1 : Int32))]) at_197 rfl rfl ?_
            refine Wk.aload (q := 201) at_199 rfl rfl rfl ?_
            refine Wk.iload (q := 203) at_201 rfl rfl ?_
            refine Wk.iload (q := 205) at_203 rfl rfl ?_
            refine Wk.callS2 (q := 208) (argsL := [(.ref a1), (.int (0 : Int32)), (.int (4 : Int32))]) (rest := []) (fr := 0) (lo := 0) (P := fun w => (((tabN (b0 &&& (255 : Int32)).toNatClampNeg) = (0 : Int32)) ∧ w = (.int (-1 : Int32))) ∨ ((¬ (tabN (b0 &&& (255 : Int32)).toNatClampNeg) = (0 : Int32)) ∧ ((tabN (b1 &&& (255 : Int32)).toNatClampNeg) = (0 : Int32)) ∧ (b1 = (58 : Int32)) ∧ w = (.int (1 : Int32))) ∨ ((¬ (tabN (b0 &&& (255 : Int32)).toNatClampNeg) = (0 : Int32)) ∧ ((tabN (b1 &&& (255 : Int32)).toNatClampNeg) = (0 : Int32)) ∧ (¬ b1 = (58 : Int32)) ∧ w = (.int (-1 : Int32))) ∨ ((¬ (tabN (b0 &&& (255 : Int32)).toNatClampNeg) = (0 : Int32)) ∧ (¬ (tabN (b1 &&& (255 : Int32)).toNatClampNeg) = (0 : Int32)) ∧ ((tabN (b2 &&& (255 : Int32)).toNatClampNeg) = (0 : Int32)) ∧ (b2 = (58 : Int32)) ∧ w = (.int (2 : Int32))) ∨ ((¬ (tabN (b0 &&& (255 : Int32)).toNatClampNeg) = (0 : Int32)) ∧ (¬ (tabN (b1 &&& (255 : Int32)).toNatClampNeg) = (0 : Int32)) ∧ ((tabN (b2 &&& (255 : Int32)).toNatClampNeg) = (0 : Int32)) ∧ (¬ b2 = (58 : Int32)) ∧ w = (.int (-1 : Int32))) ∨ ((¬ (tabN (b0 &&& (255 : Int32)).toNatClampNeg) = (0 : Int32)) ∧ (¬ (tabN (b1 &&& (255 : Int32)).toNatClampNeg) = (0 : Int32)) ∧ (¬ (tabN (b2 &&& (255 : Int32)).toNatClampNeg) = (0 : Int32)) ∧ ((tabN (b3 &&& (255 : Int32)).toNatClampNeg) = (0 : Int32)) ∧ (b3 = (58 : Int32)) ∧ w = (.int (3 : Int32))) ∨ ((¬ (tabN (b0 &&& (255 : Int32)).toNatClampNeg) = (0 : Int32)) ∧ (¬ (tabN (b1 &&& (255 : Int32)).toNatClampNeg) = (0 : Int32)) ∧ (¬ (tabN (b2 &&& (255 : Int32)).toNatClampNeg) = (0 : Int32)) ∧ ((tabN (b3 &&& (255 : Int32)).toNatClampNeg) = (0 : Int32)) ∧ (¬ b3 = (58 : Int32)) ∧ w = (.int (-1 : Int32))) ∨ ((¬ (tabN (b0 &&& (255 : Int32)).toNatClampNeg) = (0 : Int32)) ∧ (¬ (tabN (b1 &&& (255 : Int32)).toNatClampNeg) = (0 : Int32)) ∧ (¬ (tabN (b2 &&& (255 : Int32)).toNatClampNeg) = (0 : Int32)) ∧ (¬ (tabN (b3 &&& (255 : Int32)).toNatClampNeg) = (0 : Int32)) ∧ w = (.int (-1 : Int32)))) (m_4 hw F A1 S1 e_0 e_1 e_2 e_3) (w_6 hw) (w_7 hw) (w_8 hw) (w_9 hw) (by decide) pd_0 rfl rfl rfl at_205 rfl (W := 0) rfl (by decide) (by decide) (by decide) (by decide) ?_
            intro w653 hP; rcases hP with ⟨h654, rfl⟩ | ⟨h655, h656, h657, rfl⟩ | ⟨h658, h659, h660, rfl⟩ | ⟨h661, h662, h663, h664, rfl⟩ | ⟨h665, h666, h667, h668, rfl⟩ | ⟨h669, h670, h671, h672, h673, rfl⟩ | ⟨h674, h675, h676, h677, h678, rfl⟩ | ⟨h679, h680, h681, h682, rfl⟩
            · exact absurd h654 h621
            · refine Wk.iload (q := 210) at_208 rfl rfl ?_
              refine Wk.icmpF (q := 213) at_210 rfl (by decide : (1 : Int32) = (1 : Int32)) ?_
              refine Wk.iconst (q := 214) (v := (1 : Int32)) at_213 rfl rfl ?_
              refine Wk.goto (q := 218) at_214 (by decide) rfl ?_
              exact Wk.retZ rfl rfl at_218 (by decide) (by decide) rfl
            · exact absurd h622 h660
            · exact absurd h528 h662
            · exact absurd h528 h666
            · exact absurd h528 h670
            · exact absurd h528 h675
            · exact absurd h528 h680
        · refine Wk.iconst (q := 166) (v := (0 : Int32)) at_165 rfl rfl ?_
          refine Wk.istore (q := 168) (ls' := #[.val (.int p0), .val (.int p1), .val (.int p2), .val (.int p3), .val (.int p4), .val (.ref a1), .val (.int (0 : Int32)), .val (.int (4 : Int32)), .val (.int (0 : Int32)), .unset]) at_166 rfl rfl ?_
          refine Wk.iconst (q := 169) (v := (-1 : Int32)) at_168 rfl rfl ?_
          refine Wk.istore (q := 171) (ls' := #[.val (.int p0), .val (.int p1), .val (.int p2), .val (.int p3), .val (.int p4), .val (.ref a1), .val (.int (0 : Int32)), .val (.int (4 : Int32)), .val (.int (0 : Int32)), .val (.int (-1 : Int32))]) at_169 rfl rfl ?_
          refine Wk.iload (q := 173) at_171 rfl rfl ?_
          refine Wk.iload (q := 175) at_173 rfl rfl ?_
          refine Wk.icmpT (q := 199) at_175 (by decide) rfl (by decide : ¬ (0 : Int32) < (0 : Int32)) ?_
          refine Wk.aload (q := 201) at_199 rfl rfl rfl ?_
          refine Wk.iload (q := 203) at_201 rfl rfl ?_
          refine Wk.iload (q := 205) at_203 rfl rfl ?_
          refine Wk.callS2 (q := 208) (argsL := [(.ref a1), (.int (0 : Int32)), (.int (4 : Int32))]) (rest := []) (fr := 0) (lo := 0) (P := fun w => (((tabN (b0 &&& (255 : Int32)).toNatClampNeg) = (0 : Int32)) ∧ w = (.int (-1 : Int32))) ∨ ((¬ (tabN (b0 &&& (255 : Int32)).toNatClampNeg) = (0 : Int32)) ∧ ((tabN (b1 &&& (255 : Int32)).toNatClampNeg) = (0 : Int32)) ∧ (b1 = (58 : Int32)) ∧ w = (.int (1 : Int32))) ∨ ((¬ (tabN (b0 &&& (255 : Int32)).toNatClampNeg) = (0 : Int32)) ∧ ((tabN (b1 &&& (255 : Int32)).toNatClampNeg) = (0 : Int32)) ∧ (¬ b1 = (58 : Int32)) ∧ w = (.int (-1 : Int32))) ∨ ((¬ (tabN (b0 &&& (255 : Int32)).toNatClampNeg) = (0 : Int32)) ∧ (¬ (tabN (b1 &&& (255 : Int32)).toNatClampNeg) = (0 : Int32)) ∧ ((tabN (b2 &&& (255 : Int32)).toNatClampNeg) = (0 : Int32)) ∧ (b2 = (58 : Int32)) ∧ w = (.int (2 : Int32))) ∨ ((¬ (tabN (b0 &&& (255 : Int32)).toNatClampNeg) = (0 : Int32)) ∧ (¬ (tabN (b1 &&& (255 : Int32)).toNatClampNeg) = (0 : Int32)) ∧ ((tabN (b2 &&& (255 : Int32)).toNatClampNeg) = (0 : Int32)) ∧ (¬ b2 = (58 : Int32)) ∧ w = (.int (-1 : Int32))) ∨ ((¬ (tabN (b0 &&& (255 : Int32)).toNatClampNeg) = (0 : Int32)) ∧ (¬ (tabN (b1 &&& (255 : Int32)).toNatClampNeg) = (0 : Int32)) ∧ (¬ (tabN (b2 &&& (255 : Int32)).toNatClampNeg) = (0 : Int32)) ∧ ((tabN (b3 &&& (255 : Int32)).toNatClampNeg) = (0 : Int32)) ∧ (b3 = (58 : Int32)) ∧ w = (.int (3 : Int32))) ∨ ((¬ (tabN (b0 &&& (255 : Int32)).toNatClampNeg) = (0 : Int32)) ∧ (¬ (tabN (b1 &&& (255 : Int32)).toNatClampNeg) = (0 : Int32)) ∧ (¬ (tabN (b2 &&& (255 : Int32)).toNatClampNeg) = (0 : Int32)) ∧ ((tabN (b3 &&& (255 : Int32)).toNatClampNeg) = (0 : Int32)) ∧ (¬ b3 = (58 : Int32)) ∧ w = (.int (-1 : Int32))) ∨ ((¬ (tabN (b0 &&& (255 : Int32)).toNatClampNeg) = (0 : Int32)) ∧ (¬ (tabN (b1 &&& (255 : Int32)).toNatClampNeg) = (0 : Int32)) ∧ (¬ (tabN (b2 &&& (255 : Int32)).toNatClampNeg) = (0 : Int32)) ∧ (¬ (tabN (b3 &&& (255 : Int32)).toNatClampNeg) = (0 : Int32)) ∧ w = (.int (-1 : Int32)))) (m_4 hw F A1 S1 e_0 e_1 e_2 e_3) (w_6 hw) (w_7 hw) (w_8 hw) (w_9 hw) (by decide) pd_0 rfl rfl rfl at_205 rfl (W := 0) rfl (by decide) (by decide) (by decide) (by decide) ?_
          intro w683 hP; rcases hP with ⟨h684, rfl⟩ | ⟨h685, h686, h687, rfl⟩ | ⟨h688, h689, h690, rfl⟩ | ⟨h691, h692, h693, h694, rfl⟩ | ⟨h695, h696, h697, h698, rfl⟩ | ⟨h699, h700, h701, h702, h703, rfl⟩ | ⟨h704, h705, h706, h707, h708, rfl⟩ | ⟨h709, h710, h711, h712, rfl⟩
          · refine Wk.iload (q := 210) at_208 rfl rfl ?_
            refine Wk.icmpF (q := 213) at_210 rfl (by decide : (-1 : Int32) = (-1 : Int32)) ?_
            refine Wk.iconst (q := 214) (v := (1 : Int32)) at_213 rfl rfl ?_
            refine Wk.goto (q := 218) at_214 (by decide) rfl ?_
            exact Wk.retZ rfl rfl at_218 (by decide) (by decide) rfl
          · exact absurd h621 h685
          · exact absurd h621 h688
          · exact absurd h621 h691
          · exact absurd h621 h695
          · exact absurd h621 h699
          · exact absurd h621 h704
          · exact absurd h621 h709
set_option maxRecDepth 65536 in
set_option maxHeartbeats 40000000 in
theorem law_tail_1_0 {l : Launch} {Z : State} {a0 : Array Value} {n0 : Nat} {h : Heap}  {a_T : Addr} {c_T : Cell} (hw : ∀ d ∈ tables_1, d.before a0 Z = true) (F : OwnF Z h  a_T c_T) {a1 : Addr} {c1 : Cell} {b0 b1 b2 b3 : Int32} (A1 : Arr Z h a1 c1 .byte) (S1 : c1.slots.size = 4) (e_0 : c1.slots[0]? = some (Value.int b0)) (e_1 : c1.slots[1]? = some (Value.int b1)) (e_2 : c1.slots[2]? = some (Value.int b2)) (e_3 : c1.slots[3]? = some (Value.int b3)) (p0 p1 p2 p3 p4 : Int32) (k_s : ((p4 &&& (2147483647 : Int32)) % (5 : Int32)) = (1 : Int32)) (k_e : (((XT.ushr p4 (8 : Int32)) &&& (2147483647 : Int32)) % (4 : Int32)) = (0 : Int32)) : Wk l Z n0 "com/example/tallykey/tallykey/HttpSyntaxNameEndPinLaw" "law" code maxLocals ret room_1 16 128 (fun v _ => v = some (.int (1 : Int32))) h 1 4 37 #[.val (.int p0), .val (.int p1), .val (.int p2), .val (.int p3), .val (.int p4), .val (.ref a1), .unset, .unset, .unset, .unset] [] := by
  refine Wk.iload (q := 39) at_37 rfl rfl ?_
  refine Wk.ldcI (q := 41) (w_5 hw) at_39 rfl ?_
  refine Wk.iand (q := 42) (v := (p4 &&& (2147483647 : Int32))) at_41 rfl rfl ?_
  refine Wk.iconst (q := 43) (v := (5 : Int32)) at_42 rfl rfl ?_
  refine Wk.irem (q := 44) (v := (1 : Int32)) at_43 rfl (by decide) k_s ?_
  refine Wk.istore (q := 46) (ls' := #[.val (.int p0), .val (.int p1), .val (.int p2), .val (.int p3), .val (.int p4), .val (.ref a1), .val (.int (1 : Int32)), .unset, .unset, .unset]) at_44 rfl rfl ?_
  refine Wk.iload (q := 48) at_46 rfl rfl ?_
  refine Wk.iload (q := 50) at_48 rfl rfl ?_
  refine Wk.bipush (q := 52) (v := (8 : Int32)) at_50 rfl rfl ?_
  refine Wk.iushr (q := 53) (v := (XT.ushr p4 (8 : Int32))) at_52 rfl rfl ?_
  refine Wk.ldcI (q := 55) (w_5 hw) at_53 rfl ?_
  refine Wk.iand (q := 56) (v := ((XT.ushr p4 (8 : Int32)) &&& (2147483647 : Int32))) at_55 rfl rfl ?_
  refine Wk.iconst (q := 57) (v := (5 : Int32)) at_56 rfl rfl ?_
  refine Wk.iload (q := 59) at_57 rfl rfl ?_
  refine Wk.isub (q := 60) (v := (4 : Int32)) at_59 rfl (by decide) ?_
  refine Wk.irem (q := 61) (v := (0 : Int32)) at_60 rfl (by decide) k_e ?_
  refine Wk.iadd (q := 62) (v := (1 : Int32)) at_61 rfl (by decide) ?_
  refine Wk.istore (q := 64) (ls' := #[.val (.int p0), .val (.int p1), .val (.int p2), .val (.int p3), .val (.int p4), .val (.ref a1), .val (.int (1 : Int32)), .val (.int (1 : Int32)), .unset, .unset]) at_62 rfl rfl ?_
  refine Wk.iload (q := 66) at_64 rfl rfl ?_
  refine Wk.istore (q := 68) (ls' := #[.val (.int p0), .val (.int p1), .val (.int p2), .val (.int p3), .val (.int p4), .val (.ref a1), .val (.int (1 : Int32)), .val (.int (1 : Int32)), .val (.int (1 : Int32)), .unset]) at_66 rfl rfl ?_
  refine Wk.iconst (q := 69) (v := (3 : Int32)) at_68 rfl rfl ?_
  refine Wk.iload (q := 71) at_69 rfl rfl ?_
  refine Wk.icmpF (q := 74) at_71 rfl (by decide : ¬ (3 : Int32) < (1 : Int32)) ?_
  refine Wk.iconst (q := 75) (v := (3 : Int32)) at_74 rfl rfl ?_
  refine Wk.iload (q := 77) at_75 rfl rfl ?_
  refine Wk.icmpT (q := 93) at_77 (by decide) rfl (by decide : ¬ (3 : Int32) < (1 : Int32)) ?_
  refine Wk.iconst (q := 94) (v := (2 : Int32)) at_93 rfl rfl ?_
  refine Wk.iload (q := 96) at_94 rfl rfl ?_
  refine Wk.icmpF (q := 99) at_96 rfl (by decide : ¬ (2 : Int32) < (1 : Int32)) ?_
  refine Wk.iconst (q := 100) (v := (2 : Int32)) at_99 rfl rfl ?_
  refine Wk.iload (q := 102) at_100 rfl rfl ?_
  refine Wk.icmpT (q := 118) at_102 (by decide) rfl (by decide : ¬ (2 : Int32) < (1 : Int32)) ?_
  refine Wk.iconst (q := 119) (v := (1 : Int32)) at_118 rfl rfl ?_
  refine Wk.iload (q := 121) at_119 rfl rfl ?_
  refine Wk.icmpF (q := 124) at_121 rfl (by decide : ¬ (1 : Int32) < (1 : Int32)) ?_
  refine Wk.iconst (q := 125) (v := (1 : Int32)) at_124 rfl rfl ?_
  refine Wk.iload (q := 127) at_125 rfl rfl ?_
  refine Wk.icmpT (q := 143) at_127 (by decide) rfl (by decide : ¬ (1 : Int32) < (1 : Int32)) ?_
  refine Wk.iconst (q := 144) (v := (0 : Int32)) at_143 rfl rfl ?_
  refine Wk.iload (q := 146) at_144 rfl rfl ?_
  refine Wk.icmpT (q := 168) at_146 (by decide) rfl (by decide : (0 : Int32) < (1 : Int32)) ?_
  refine Wk.iconst (q := 169) (v := (-1 : Int32)) at_168 rfl rfl ?_
  refine Wk.istore (q := 171) (ls' := #[.val (.int p0), .val (.int p1), .val (.int p2), .val (.int p3), .val (.int p4), .val (.ref a1), .val (.int (1 : Int32)), .val (.int (1 : Int32)), .val (.int (1 : Int32)), .val (.int (-1 : Int32))]) at_169 rfl rfl ?_
  refine Wk.iload (q := 173) at_171 rfl rfl ?_
  refine Wk.iload (q := 175) at_173 rfl rfl ?_
  refine Wk.icmpT (q := 199) at_175 (by decide) rfl (by decide : ¬ (1 : Int32) < (1 : Int32)) ?_
  refine Wk.aload (q := 201) at_199 rfl rfl rfl ?_
  refine Wk.iload (q := 203) at_201 rfl rfl ?_
  refine Wk.iload (q := 205) at_203 rfl rfl ?_
  refine Wk.callS1 (q := 208) (argsL := [(.ref a1), (.int (1 : Int32)), (.int (1 : Int32))]) (rest := []) (fr := 0) (lo := 0) (v0 := (.int (-1 : Int32))) (m_5 hw F A1 S1 e_0 e_1 e_2 e_3) (w_6 hw) (w_7 hw) (w_8 hw) (w_9 hw) (by decide) pd_0 rfl rfl rfl at_205 rfl (W := 0) rfl (by decide) (by decide) (by decide) (by decide) ?_
  refine Wk.iload (q := 210) at_208 rfl rfl ?_
  refine Wk.icmpF (q := 213) at_210 rfl (by decide : (-1 : Int32) = (-1 : Int32)) ?_
  refine Wk.iconst (q := 214) (v := (1 : Int32)) at_213 rfl rfl ?_
  refine Wk.goto (q := 218) at_214 (by decide) rfl ?_
  exact Wk.retZ rfl rfl at_218 (by decide) (by decide) rfl
set_option maxRecDepth 65536 in
set_option maxHeartbeats 40000000 in
theorem law_tail_1_1 {l : Launch} {Z : State} {a0 : Array Value} {n0 : Nat} {h : Heap}  {a_T : Addr} {c_T : Cell} (hw : ∀ d ∈ tables_1, d.before a0 Z = true) (F : OwnF Z h  a_T c_T) {a1 : Addr} {c1 : Cell} {b0 b1 b2 b3 : Int32} (A1 : Arr Z h a1 c1 .byte) (S1 : c1.slots.size = 4) (e_0 : c1.slots[0]? = some (Value.int b0)) (e_1 : c1.slots[1]? = some (Value.int b1)) (e_2 : c1.slots[2]? = some (Value.int b2)) (e_3 : c1.slots[3]? = some (Value.int b3)) (p0 p1 p2 p3 p4 : Int32) (k_s : ((p4 &&& (2147483647 : Int32)) % (5 : Int32)) = (1 : Int32)) (k_e : (((XT.ushr p4 (8 : Int32)) &&& (2147483647 : Int32)) % (4 : Int32)) = (1 : Int32)) : Wk l Z n0 "com/example/tallykey/tallykey/HttpSyntaxNameEndPinLaw" "law" code maxLocals ret room_1 16 128 (fun v _ => v = some (.int (1 : Int32))) h 1 4 37 #[.val (.int p0), .val (.int p1), .val (.int p2), .val (.int p3), .val (.int p4), .val (.ref a1), .unset, .unset, .unset, .unset] [] := by
  refine Wk.iload (q := 39) at_37 rfl rfl ?_
  refine Wk.ldcI (q := 41) (w_5 hw) at_39 rfl ?_
  refine Wk.iand (q := 42) (v := (p4 &&& (2147483647 : Int32))) at_41 rfl rfl ?_
  refine Wk.iconst (q := 43) (v := (5 : Int32)) at_42 rfl rfl ?_
  refine Wk.irem (q := 44) (v := (1 : Int32)) at_43 rfl (by decide) k_s ?_
  refine Wk.istore (q := 46) (ls' := #[.val (.int p0), .val (.int p1), .val (.int p2), .val (.int p3), .val (.int p4), .val (.ref a1), .val (.int (1 : Int32)), .unset, .unset, .unset]) at_44 rfl rfl ?_
  refine Wk.iload (q := 48) at_46 rfl rfl ?_
  refine Wk.iload (q := 50) at_48 rfl rfl ?_
  refine Wk.bipush (q := 52) (v := (8 : Int32)) at_50 rfl rfl ?_
  refine Wk.iushr (q := 53) (v := (XT.ushr p4 (8 : Int32))) at_52 rfl rfl ?_
  refine Wk.ldcI (q := 55) (w_5 hw) at_53 rfl ?_
  refine Wk.iand (q := 56) (v := ((XT.ushr p4 (8 : Int32)) &&& (2147483647 : Int32))) at_55 rfl rfl ?_
  refine Wk.iconst (q := 57) (v := (5 : Int32)) at_56 rfl rfl ?_
  refine Wk.iload (q := 59) at_57 rfl rfl ?_
  refine Wk.isub (q := 60) (v := (4 : Int32)) at_59 rfl (by decide) ?_
  refine Wk.irem (q := 61) (v := (1 : Int32)) at_60 rfl (by decide) k_e ?_
  refine Wk.iadd (q := 62) (v := (2 : Int32)) at_61 rfl (by decide) ?_
  refine Wk.istore (q := 64) (ls' := #[.val (.int p0), .val (.int p1), .val (.int p2), .val (.int p3), .val (.int p4), .val (.ref a1), .val (.int (1 : Int32)), .val (.int (2 : Int32)), .unset, .unset]) at_62 rfl rfl ?_
  refine Wk.iload (q := 66) at_64 rfl rfl ?_
  refine Wk.istore (q := 68) (ls' := #[.val (.int p0), .val (.int p1), .val (.int p2), .val (.int p3), .val (.int p4), .val (.ref a1), .val (.int (1 : Int32)), .val (.int (2 : Int32)), .val (.int (2 : Int32)), .unset]) at_66 rfl rfl ?_
  refine Wk.iconst (q := 69) (v := (3 : Int32)) at_68 rfl rfl ?_
  refine Wk.iload (q := 71) at_69 rfl rfl ?_
  refine Wk.icmpF (q := 74) at_71 rfl (by decide : ¬ (3 : Int32) < (1 : Int32)) ?_
  refine Wk.iconst (q := 75) (v := (3 : Int32)) at_74 rfl rfl ?_
  refine Wk.iload (q := 77) at_75 rfl rfl ?_
  refine Wk.icmpT (q := 93) at_77 (by decide) rfl (by decide : ¬ (3 : Int32) < (2 : Int32)) ?_
  refine Wk.iconst (q := 94) (v := (2 : Int32)) at_93 rfl rfl ?_
  refine Wk.iload (q := 96) at_94 rfl rfl ?_
  refine Wk.icmpF (q := 99) at_96 rfl (by decide : ¬ (2 : Int32) < (1 : Int32)) ?_
  refine Wk.iconst (q := 100) (v := (2 : Int32)) at_99 rfl rfl ?_
  refine Wk.iload (q := 102) at_100 rfl rfl ?_
  refine Wk.icmpT (q := 118) at_102 (by decide) rfl (by decide : ¬ (2 : Int32) < (2 : Int32)) ?_
  refine Wk.iconst (q := 119) (v := (1 : Int32)) at_118 rfl rfl ?_
  refine Wk.iload (q := 121) at_119 rfl rfl ?_
  refine Wk.icmpF (q := 124) at_121 rfl (by decide : ¬ (1 : Int32) < (1 : Int32)) ?_
  refine Wk.iconst (q := 125) (v := (1 : Int32)) at_124 rfl rfl ?_
  refine Wk.iload (q := 127) at_125 rfl rfl ?_
  refine Wk.icmpF (q := 130) at_127 rfl (by decide : (1 : Int32) < (2 : Int32)) ?_
  refine Wk.aload (q := 132) at_130 rfl rfl rfl ?_
  refine Wk.iconst (q := 133) (v := (1 : Int32)) at_132 rfl rfl ?_
  refine Wk.baloadB (q := 134) A1 (by rw [S1]; decide) e_1 at_133 rfl ?_
  refine Wk.callS1 (q := 137) (argsL := [(.int b1)]) (rest := []) (fr := 0) (lo := 0) (v0 := (.int (tabN (b1 &&& (255 : Int32)).toNatClampNeg))) (m_cls hw F b1) (w_10 hw) (w_11 hw) (w_3 hw) (w_12 hw) (by decide) pd_1 rfl rfl rfl at_134 rfl (W := 0) rfl (by decide) (by decide) (by decide) (by decide) ?_
  refine Wk.ifc (q := 143) (q' := 140) at_137 (by decide) rfl rfl (fun (h1 : ¬ (tabN (b1 &&& (255 : Int32)).toNatClampNeg) = (0 : Int32)) => ?_) (fun (h1 : (tabN (b1 &&& (255 : Int32)).toNatClampNeg) = (0 : Int32)) => ?_)
  · refine Wk.iconst (q := 144) (v := (0 : Int32)) at_143 rfl rfl ?_
    refine Wk.iload (q := 146) at_144 rfl rfl ?_
    refine Wk.icmpT (q := 168) at_146 (by decide) rfl (by decide : (0 : Int32) < (1 : Int32)) ?_
    refine Wk.iconst (q := 169) (v := (-1 : Int32)) at_168 rfl rfl ?_
    refine Wk.istore (q := 171) (ls' := #[.val (.int p0), .val (.int p1), .val (.int p2), .val (.int p3), .val (.int p4), .val (.ref a1), .val (.int (1 : Int32)), .val (.int (2 : Int32)), .val (.int (2 : Int32)), .val (.int (-1 : Int32))]) at_169 rfl rfl ?_
    refine Wk.iload (q := 173) at_171 rfl rfl ?_
    refine Wk.iload (q := 175) at_173 rfl rfl ?_
    refine Wk.icmpF (q := 178) at_175 rfl (by decide : (1 : Int32) < (2 : Int32)) ?_
    refine Wk.iload (q := 180) at_178 rfl rfl ?_
    refine Wk.iload (q := 182) at_180 rfl rfl ?_
    refine Wk.icmpT (q := 199) at_182 (by decide) rfl (by decide : ¬ (2 : Int32) < (2 : Int32)) ?_
    refine Wk.aload (q := 201) at_199 rfl rfl rfl ?_
    refine Wk.iload (q := 203) at_201 rfl rfl ?_
    refine Wk.iload (q := 205) at_203 rfl rfl ?_
    refine Wk.callS2 (q := 208) (argsL := [(.ref a1), (.int (1 : Int32)), (.int (2 : Int32))]) (rest := []) (fr := 0) (lo := 0) (P := fun w => (((tabN (b1 &&& (255 : Int32)).toNatClampNeg) = (0 : Int32)) ∧ w = (.int (-1 : Int32))) ∨ ((¬ (tabN (b1 &&& (255 : Int32)).toNatClampNeg) = (0 : Int32)) ∧ w = (.int (-1 : Int32)))) (m_6 hw F A1 S1 e_0 e_1 e_2 e_3) (w_6 hw) (w_7 hw) (w_8 hw) (w_9 hw) (by decide) pd_0 rfl rfl rfl at_205 rfl (W := 0) rfl (by decide) (by decide) (by decide) (by decide) ?_
    intro w2 hP; rcases hP with ⟨h3, rfl⟩ | ⟨h4, rfl⟩
    · exact absurd h3 h1
    · refine Wk.iload (q := 210) at_208 rfl rfl ?_
      refine Wk.icmpF (q := 213) at_210 rfl (by decide : (-1 : Int32) = (-1 : Int32)) ?_
      refine Wk.iconst (q := 214) (v := (1 : Int32)) at_213 rfl rfl ?_
      refine Wk.goto (q := 218) at_214 (by decide) rfl ?_
      exact Wk.retZ rfl rfl at_218 (by decide) (by decide) rfl
  · refine Wk.iconst (q := 141) (v := (1 : Int32)) at_140 rfl rfl ?_
    refine Wk.istore (q := 143) (ls' := #[.val (.int p0), .val (.int p1), .val (.int p2), .val (.int p3), .val (.int p4), .val (.ref a1), .val (.int (1 : Int32)), .val (.int (2 : Int32)), .val (.int (1 : Int32)), .unset]) at_141 rfl rfl ?_
    refine Wk.iconst (q := 144) (v := (0 : Int32)) at_143 rfl rfl ?_
    refine Wk.iload (q := 146) at_144 rfl rfl ?_
    refine Wk.icmpT (q := 168) at_146 (by decide) rfl (by decide : (0 : Int32) < (1 : Int32)) ?_
    refine Wk.iconst (q := 169) (v := (-1 : Int32)) at_168 rfl rfl ?_
    refine Wk.istore (q := 171) (ls' := #[.val (.int p0), .val (.int p1), .val (.int p2), .val (.int p3), .val (.int p4), .val (.ref a1), .val (.int (1 : Int32)), .val (.int (2 : Int32)), .val (.int (1 : Int32)), .val (.int (-1 : Int32))]) at_169 rfl rfl ?_
    refine Wk.iload (q := 173) at_171 rfl rfl ?_
    refine Wk.iload (q := 175) at_173 rfl rfl ?_
    refine Wk.icmpT (q := 199) at_175 (by decide) rfl (by decide : ¬ (1 : Int32) < (1 : Int32)) ?_
    refine Wk.aload (q := 201) at_199 rfl rfl rfl ?_
    refine Wk.iload (q := 203) at_201 rfl rfl ?_
    refine Wk.iload (q := 205) at_203 rfl rfl ?_
    refine Wk.callS2 (q := 208) (argsL := [(.ref a1), (.int (1 : Int32)), (.int (2 : Int32))]) (rest := []) (fr := 0) (lo := 0) (P := fun w => (((tabN (b1 &&& (255 : Int32)).toNatClampNeg) = (0 : Int32)) ∧ w = (.int (-1 : Int32))) ∨ ((¬ (tabN (b1 &&& (255 : Int32)).toNatClampNeg) = (0 : Int32)) ∧ w = (.int (-1 : Int32)))) (m_6 hw F A1 S1 e_0 e_1 e_2 e_3) (w_6 hw) (w_7 hw) (w_8 hw) (w_9 hw) (by decide) pd_0 rfl rfl rfl at_205 rfl (W := 0) rfl (by decide) (by decide) (by decide) (by decide) ?_
    intro w5 hP; rcases hP with ⟨h6, rfl⟩ | ⟨h7, rfl⟩
    · refine Wk.iload (q := 210) at_208 rfl rfl ?_
      refine Wk.icmpF (q := 213) at_210 rfl (by decide : (-1 : Int32) = (-1 : Int32)) ?_
      refine Wk.iconst (q := 214) (v := (1 : Int32)) at_213 rfl rfl ?_
      refine Wk.goto (q := 218) at_214 (by decide) rfl ?_
      exact Wk.retZ rfl rfl at_218 (by decide) (by decide) rfl
    · exact absurd h1 h7
set_option maxRecDepth 65536 in
set_option maxHeartbeats 40000000 in
theorem law_tail_1_2 {l : Launch} {Z : State} {a0 : Array Value} {n0 : Nat} {h : Heap}  {a_T : Addr} {c_T : Cell} (hw : ∀ d ∈ tables_1, d.before a0 Z = true) (F : OwnF Z h  a_T c_T) {a1 : Addr} {c1 : Cell} {b0 b1 b2 b3 : Int32} (A1 : Arr Z h a1 c1 .byte) (S1 : c1.slots.size = 4) (e_0 : c1.slots[0]? = some (Value.int b0)) (e_1 : c1.slots[1]? = some (Value.int b1)) (e_2 : c1.slots[2]? = some (Value.int b2)) (e_3 : c1.slots[3]? = some (Value.int b3)) (p0 p1 p2 p3 p4 : Int32) (k_s : ((p4 &&& (2147483647 : Int32)) % (5 : Int32)) = (1 : Int32)) (k_e : (((XT.ushr p4 (8 : Int32)) &&& (2147483647 : Int32)) % (4 : Int32)) = (2 : Int32)) : Wk l Z n0 "com/example/tallykey/tallykey/HttpSyntaxNameEndPinLaw" "law" code maxLocals ret room_1 16 128 (fun v _ => v = some (.int (1 : Int32))) h 1 4 37 #[.val (.int p0), .val (.int p1), .val (.int p2), .val (.int p3), .val (.int p4), .val (.ref a1), .unset, .unset, .unset, .unset] [] := by
  refine Wk.iload (q := 39) at_37 rfl rfl ?_
  refine Wk.ldcI (q := 41) (w_5 hw) at_39 rfl ?_
  refine Wk.iand (q := 42) (v := (p4 &&& (2147483647 : Int32))) at_41 rfl rfl ?_
  refine Wk.iconst (q := 43) (v := (5 : Int32)) at_42 rfl rfl ?_
  refine Wk.irem (q := 44) (v := (1 : Int32)) at_43 rfl (by decide) k_s ?_
  refine Wk.istore (q := 46) (ls' := #[.val (.int p0), .val (.int p1), .val (.int p2), .val (.int p3), .val (.int p4), .val (.ref a1), .val (.int (1 : Int32)), .unset, .unset, .unset]) at_44 rfl rfl ?_
  refine Wk.iload (q := 48) at_46 rfl rfl ?_
  refine Wk.iload (q := 50) at_48 rfl rfl ?_
  refine Wk.bipush (q := 52) (v := (8 : Int32)) at_50 rfl rfl ?_
  refine Wk.iushr (q := 53) (v := (XT.ushr p4 (8 : Int32))) at_52 rfl rfl ?_
  refine Wk.ldcI (q := 55) (w_5 hw) at_53 rfl ?_
  refine Wk.iand (q := 56) (v := ((XT.ushr p4 (8 : Int32)) &&& (2147483647 : Int32))) at_55 rfl rfl ?_
  refine Wk.iconst (q := 57) (v := (5 : Int32)) at_56 rfl rfl ?_
  refine Wk.iload (q := 59) at_57 rfl rfl ?_
  refine Wk.isub (q := 60) (v := (4 : Int32)) at_59 rfl (by decide) ?_
  refine Wk.irem (q := 61) (v := (2 : Int32)) at_60 rfl (by decide) k_e ?_
  refine Wk.iadd (q := 62) (v := (3 : Int32)) at_61 rfl (by decide) ?_
  refine Wk.istore (q := 64) (ls' := #[.val (.int p0), .val (.int p1), .val (.int p2), .val (.int p3), .val (.int p4), .val (.ref a1), .val (.int (1 : Int32)), .val (.int (3 : Int32)), .unset, .unset]) at_62 rfl rfl ?_
  refine Wk.iload (q := 66) at_64 rfl rfl ?_
  refine Wk.istore (q := 68) (ls' := #[.val (.int p0), .val (.int p1), .val (.int p2), .val (.int p3), .val (.int p4), .val (.ref a1), .val (.int (1 : Int32)), .val (.int (3 : Int32)), .val (.int (3 : Int32)), .unset]) at_66 rfl rfl ?_
  refine Wk.iconst (q := 69) (v := (3 : Int32)) at_68 rfl rfl ?_
  refine Wk.iload (q := 71) at_69 rfl rfl ?_
  refine Wk.icmpF (q := 74) at_71 rfl (by decide : ¬ (3 : Int32) < (1 : Int32)) ?_
  refine Wk.iconst (q := 75) (v := (3 : Int32)) at_74 rfl rfl ?_
  refine Wk.iload (q := 77) at_75 rfl rfl ?_
  refine Wk.icmpT (q := 93) at_77 (by decide) rfl (by decide : ¬ (3 : Int32) < (3 : Int32)) ?_
  refine Wk.iconst (q := 94) (v := (2 : Int32)) at_93 rfl rfl ?_
  refine Wk.iload (q := 96) at_94 rfl rfl ?_
  refine Wk.icmpF (q := 99) at_96 rfl (by decide : ¬ (2 : Int32) < (1 : Int32)) ?_
  refine Wk.iconst (q := 100) (v := (2 : Int32)) at_99 rfl rfl ?_
  refine Wk.iload (q := 102) at_100 rfl rfl ?_
  refine Wk.icmpF (q := 105) at_102 rfl (by decide : (2 : Int32) < (3 : Int32)) ?_
  refine Wk.aload (q := 107) at_105 rfl rfl rfl ?_
  refine Wk.iconst (q := 108) (v := (2 : Int32)) at_107 rfl rfl ?_
  refine Wk.baloadB (q := 109) A1 (by rw [S1]; decide) e_2 at_108 rfl ?_
  refine Wk.callS1 (q := 112) (argsL := [(.int b2)]) (rest := []) (fr := 0) (lo := 0) (v0 := (.int (tabN (b2 &&& (255 : Int32)).toNatClampNeg))) (m_cls hw F b2) (w_10 hw) (w_11 hw) (w_3 hw) (w_12 hw) (by decide) pd_1 rfl rfl rfl at_109 rfl (W := 0) rfl (by decide) (by decide) (by decide) (by decide) ?_
  refine Wk.ifc (q := 118) (q' := 115) at_112 (by decide) rfl rfl (fun (h1 : ¬ (tabN (b2 &&& (255 : Int32)).toNatClampNeg) = (0 : Int32)) => ?_) (fun (h1 : (tabN (b2 &&& (255 : Int32)).toNatClampNeg) = (0 : Int32)) => ?_)
  · refine Wk.iconst (q := 119) (v := (1 : Int32)) at_118 rfl rfl ?_
    refine Wk.iload (q := 121) at_119 rfl rfl ?_
    refine Wk.icmpF (q := 124) at_121 rfl (by decide : ¬ (1 : Int32) < (1 : Int32)) ?_
    refine Wk.iconst (q := 125) (v := (1 : Int32)) at_124 rfl rfl ?_
    refine Wk.iload (q := 127) at_125 rfl rfl ?_
    refine Wk.icmpF (q := 130) at_127 rfl (by decide : (1 : Int32) < (3 : Int32)) ?_
    refine Wk.aload (q := 132) at_130 rfl rfl rfl ?_
    refine Wk.iconst (q := 133) (v := (1 : Int32)) at_132 rfl rfl ?_
    refine Wk.baloadB (q := 134) A1 (by rw [S1]; decide) e_1 at_133 rfl ?_
    refine Wk.callS1 (q := 137) (argsL := [(.int b1)]) (rest := []) (fr := 0) (lo := 0) (v0 := (.int (tabN (b1 &&& (255 : Int32)).toNatClampNeg))) (m_cls hw F b1) (w_10 hw) (w_11 hw) (w_3 hw) (w_12 hw) (by decide) pd_1 rfl rfl rfl at_134 rfl (W := 0) rfl (by decide) (by decide) (by decide) (by decide) ?_
    refine Wk.ifc (q := 143) (q' := 140) at_137 (by decide) rfl rfl (fun (h2 : ¬ (tabN (b1 &&& (255 : Int32)).toNatClampNeg) = (0 : Int32)) => ?_) (fun (h2 : (tabN (b1 &&& (255 : Int32)).toNatClampNeg) = (0 : Int32)) => ?_)
    · refine Wk.iconst (q := 144) (v := (0 : Int32)) at_143 rfl rfl ?_
      refine Wk.iload (q := 146) at_144 rfl rfl ?_
      refine Wk.icmpT (q := 168) at_146 (by decide) rfl (by decide : (0 : Int32) < (1 : Int32)) ?_
      refine Wk.iconst (q := 169) (v := (-1 : Int32)) at_168 rfl rfl ?_
      refine Wk.istore (q := 171) (ls' := #[.val (.int p0), .val (.int p1), .val (.int p2), .val (.int p3), .val (.int p4), .val (.ref a1), .val (.int (1 : Int32)), .val (.int (3 : Int32)), .val (.int (3 : Int32)), .val (.int (-1 : Int32))]) at_169 rfl rfl ?_
      refine Wk.iload (q := 173) at_171 rfl rfl ?_
      refine Wk.iload (q := 175) at_173 rfl rfl ?_
      refine Wk.icmpF (q := 178) at_175 rfl (by decide : (1 : Int32) < (3 : Int32)) ?_
      refine Wk.iload (q := 180) at_178 rfl rfl ?_
      refine Wk.iload (q := 182) at_180 rfl rfl ?_
      refine Wk.icmpT (q := 199) at_182 (by decide) rfl (by decide : ¬ (3 : Int32) < (3 : Int32)) ?_
      refine Wk.aload (q := 201) at_199 rfl rfl rfl ?_
      refine Wk.iload (q := 203) at_201 rfl rfl ?_
      refine Wk.iload (q := 205) at_203 rfl rfl ?_
      refine Wk.callS2 (q := 208) (argsL := [(.ref a1), (.int (1 : Int32)), (.int (3 : Int32))]) (rest := []) (fr := 0) (lo := 0) (P := fun w => (((tabN (b1 &&& (255 : Int32)).toNatClampNeg) = (0 : Int32)) ∧ w = (.int (-1 : Int32))) ∨ ((¬ (tabN (b1 &&& (255 : Int32)).toNatClampNeg) = (0 : Int32)) ∧ ((tabN (b2 &&& (255 : Int32)).toNatClampNeg) = (0 : Int32)) ∧ (b2 = (58 : Int32)) ∧ w = (.int (2 : Int32))) ∨ ((¬ (tabN (b1 &&& (255 : Int32)).toNatClampNeg) = (0 : Int32)) ∧ ((tabN (b2 &&& (255 : Int32)).toNatClampNeg) = (0 : Int32)) ∧ (¬ b2 = (58 : Int32)) ∧ w = (.int (-1 : Int32))) ∨ ((¬ (tabN (b1 &&& (255 : Int32)).toNatClampNeg) = (0 : Int32)) ∧ (¬ (tabN (b2 &&& (255 : Int32)).toNatClampNeg) = (0 : Int32)) ∧ w = (.int (-1 : Int32)))) (m_7 hw F A1 S1 e_0 e_1 e_2 e_3) (w_6 hw) (w_7 hw) (w_8 hw) (w_9 hw) (by decide) pd_0 rfl rfl rfl at_205 rfl (W := 0) rfl (by decide) (by decide) (by decide) (by decide) ?_
      intro w3 hP; rcases hP with ⟨h4, rfl⟩ | ⟨h5, h6, h7, rfl⟩ | ⟨h8, h9, h10, rfl⟩ | ⟨h11, h12, rfl⟩
      · exact absurd h4 h2
      · exact absurd h6 h1
      · exact absurd h9 h1
      · refine Wk.iload (q := 210) at_208 rfl rfl ?_
        refine Wk.icmpF (q := 213) at_210 rfl (by decide : (-1 : Int32) = (-1 : Int32)) ?_
        refine Wk.iconst (q := 214) (v := (1 : Int32)) at_213 rfl rfl ?_
        refine Wk.goto (q := 218) at_214 (by decide) rfl ?_
        exact Wk.retZ rfl rfl at_218 (by decide) (by decide) rfl
    · refine Wk.iconst (q := 141) (v := (1 : Int32)) at_140 rfl rfl ?_
      refine Wk.istore (q := 143) (ls' := #[.val (.int p0), .val (.int p1), .val (.int p2), .val (.int p3), .val (.int p4), .val (.ref a1), .val (.int (1 : Int32)), .val (.int (3 : Int32)), .val (.int (1 : Int32)), .unset]) at_141 rfl rfl ?_
      refine Wk.iconst (q := 144) (v := (0 : Int32)) at_143 rfl rfl ?_
      refine Wk.iload (q := 146) at_144 rfl rfl ?_
      refine Wk.icmpT (q := 168) at_146 (by decide) rfl (by decide : (0 : Int32) < (1 : Int32)) ?_
      refine Wk.iconst (q := 169) (v := (-1 : Int32)) at_168 rfl rfl ?_
      refine Wk.istore (q := 171) (ls' := #[.val (.int p0), .val (.int p1), .val (.int p2), .val (.int p3), .val (.int p4), .val (.ref a1), .val (.int (1 : Int32)), .val (.int (3 : Int32)), .val (.int (1 : Int32)), .val (.int (-1 : Int32))]) at_169 rfl rfl ?_
      refine Wk.iload (q := 173) at_171 rfl rfl ?_
      refine Wk.iload (q := 175) at_173 rfl rfl ?_
      refine Wk.icmpT (q := 199) at_175 (by decide) rfl (by decide : ¬ (1 : Int32) < (1 : Int32)) ?_
      refine Wk.aload (q := 201) at_199 rfl rfl rfl ?_
      refine Wk.iload (q := 203) at_201 rfl rfl ?_
      refine Wk.iload (q := 205) at_203 rfl rfl ?_
      refine Wk.callS2 (q := 208) (argsL := [(.ref a1), (.int (1 : Int32)), (.int (3 : Int32))]) (rest := []) (fr := 0) (lo := 0) (P := fun w => (((tabN (b1 &&& (255 : Int32)).toNatClampNeg) = (0 : Int32)) ∧ w = (.int (-1 : Int32))) ∨ ((¬ (tabN (b1 &&& (255 : Int32)).toNatClampNeg) = (0 : Int32)) ∧ ((tabN (b2 &&& (255 : Int32)).toNatClampNeg) = (0 : Int32)) ∧ (b2 = (58 : Int32)) ∧ w = (.int (2 : Int32))) ∨ ((¬ (tabN (b1 &&& (255 : Int32)).toNatClampNeg) = (0 : Int32)) ∧ ((tabN (b2 &&& (255 : Int32)).toNatClampNeg) = (0 : Int32)) ∧ (¬ b2 = (58 : Int32)) ∧ w = (.int (-1 : Int32))) ∨ ((¬ (tabN (b1 &&& (255 : Int32)).toNatClampNeg) = (0 : Int32)) ∧ (¬ (tabN (b2 &&& (255 : Int32)).toNatClampNeg) = (0 : Int32)) ∧ w = (.int (-1 : Int32)))) (m_7 hw F A1 S1 e_0 e_1 e_2 e_3) (w_6 hw) (w_7 hw) (w_8 hw) (w_9 hw) (by decide) pd_0 rfl rfl rfl at_205 rfl (W := 0) rfl (by decide) (by decide) (by decide) (by decide) ?_
      intro w13 hP; rcases hP with ⟨h14, rfl⟩ | ⟨h15, h16, h17, rfl⟩ | ⟨h18, h19, h20, rfl⟩ | ⟨h21, h22, rfl⟩
      · refine Wk.iload (q := 210) at_208 rfl rfl ?_
        refine Wk.icmpF (q := 213) at_210 rfl (by decide : (-1 : Int32) = (-1 : Int32)) ?_
        refine Wk.iconst (q := 214) (v := (1 : Int32)) at_213 rfl rfl ?_
        refine Wk.goto (q := 218) at_214 (by decide) rfl ?_
        exact Wk.retZ rfl rfl at_218 (by decide) (by decide) rfl
      · exact absurd h2 h15
      · exact absurd h2 h18
      · exact absurd h2 h21
  · refine Wk.iconst (q := 116) (v := (2 : Int32)) at_115 rfl rfl ?_
    refine Wk.istore (q := 118) (ls' := #[.val (.int p0), .val (.int p1), .val (.int p2), .val (.int p3), .val (.int p4), .val (.ref a1), .val (.int (1 : Int32)), .val (.int (3 : Int32)), .val (.int (2 : Int32)), .unset]) at_116 rfl rfl ?_
    refine Wk.iconst (q := 119) (v := (1 : Int32)) at_118 rfl rfl ?_
    refine Wk.iload (q := 121) at_119 rfl rfl ?_
    refine Wk.icmpF (q := 124) at_121 rfl (by decide : ¬ (1 : Int32) < (1 : Int32)) ?_
    refine Wk.iconst (q := 125) (v := (1 : Int32)) at_124 rfl rfl ?_
    refine Wk.iload (q := 127) at_125 rfl rfl ?_
    refine Wk.icmpF (q := 130) at_127 rfl (by decide : (1 : Int32) < (3 : Int32)) ?_
    refine Wk.aload (q := 132) at_130 rfl rfl rfl ?_
    refine Wk.iconst (q := 133) (v := (1 : Int32)) at_132 rfl rfl ?_
    refine Wk.baloadB (q := 134) A1 (by rw [S1]; decide) e_1 at_133 rfl ?_
    refine Wk.callS1 (q := 137) (argsL := [(.int b1)]) (rest := []) (fr := 0) (lo := 0) (v0 := (.int (tabN (b1 &&& (255 : Int32)).toNatClampNeg))) (m_cls hw F b1) (w_10 hw) (w_11 hw) (w_3 hw) (w_12 hw) (by decide) pd_1 rfl rfl rfl at_134 rfl (W := 0) rfl (by decide) (by decide) (by decide) (by decide) ?_
    refine Wk.ifc (q := 143) (q' := 140) at_137 (by decide) rfl rfl (fun (h23 : ¬ (tabN (b1 &&& (255 : Int32)).toNatClampNeg) = (0 : Int32)) => ?_) (fun (h23 : (tabN (b1 &&& (255 : Int32)).toNatClampNeg) = (0 : Int32)) => ?_)
    · refine Wk.iconst (q := 144) (v := (0 : Int32)) at_143 rfl rfl ?_
      refine Wk.iload (q := 146) at_144 rfl rfl ?_
      refine Wk.icmpT (q := 168) at_146 (by decide) rfl (by decide : (0 : Int32) < (1 : Int32)) ?_
      refine Wk.iconst (q := 169) (v := (-1 : Int32)) at_168 rfl rfl ?_
      refine Wk.istore (q := 171) (ls' := #[.val (.int p0), .val (.int p1), .val (.int p2), .val (.int p3), .val (.int p4), .val (.ref a1), .val (.int (1 : Int32)), .val (.int (3 : Int32)), .val (.int (2 : Int32)), .val (.int (-1 : Int32))]) at_169 rfl rfl ?_
      refine Wk.iload (q := 173) at_171 rfl rfl ?_
      refine Wk.iload (q := 175) at_173 rfl rfl ?_
      refine Wk.icmpF (q := 178) at_175 rfl (by decide : (1 : Int32) < (2 : Int32)) ?_
      refine Wk.iload (q := 180) at_178 rfl rfl ?_
      refine Wk.iload (q := 182) at_180 rfl rfl ?_
      refine Wk.icmpF (q := 185) at_182 rfl (by decide : (2 : Int32) < (3 : Int32)) ?_
      refine Wk.aload (q := 187) at_185 rfl rfl rfl ?_
      refine Wk.iload (q := 189) at_187 rfl rfl ?_
      refine Wk.baloadB (q := 190) A1 (by rw [S1]; decide) e_2 at_189 rfl ?_
      refine Wk.bipush (q := 192) (v := (58 : Int32)) at_190 rfl rfl ?_
      refine Wk.icmp (q := 199) (q' := 195) at_192 (by decide) rfl rfl (fun (h24 : ¬ b2 = (58 : Int32)) => ?_) (fun (h24 : b2 = (58 : Int32)) => ?_)
      · refine Wk.aload (q := 201) at_199 rfl rfl rfl ?_
        refine Wk.iload (q := 203) at_201 rfl rfl ?_
        refine Wk.iload (q := 205) at_203 rfl rfl ?_
        refine Wk.callS2 (q := 208) (argsL := [(.ref a1), (.int (1 : Int32)), (.int (3 : Int32))]) (rest := []) (fr := 0) (lo := 0) (P := fun w => (((tabN (b1 &&& (255 : Int32)).toNatClampNeg) = (0 : Int32)) ∧ w = (.int (-1 : Int32))) ∨ ((¬ (tabN (b1 &&& (255 : Int32)).toNatClampNeg) = (0 : Int32)) ∧ ((tabN (b2 &&& (255 : Int32)).toNatClampNeg) = (0 : Int32)) ∧ (b2 = (58 : Int32)) ∧ w = (.int (2 : Int32))) ∨ ((¬ (tabN (b1 &&& (255 : Int32)).toNatClampNeg) = (0 : Int32)) ∧ ((tabN (b2 &&& (255 : Int32)).toNatClampNeg) = (0 : Int32)) ∧ (¬ b2 = (58 : Int32)) ∧ w = (.int (-1 : Int32))) ∨ ((¬ (tabN (b1 &&& (255 : Int32)).toNatClampNeg) = (0 : Int32)) ∧ (¬ (tabN (b2 &&& (255 : Int32)).toNatClampNeg) = (0 : Int32)) ∧ w = (.int (-1 : Int32)))) (m_7 hw F A1 S1 e_0 e_1 e_2 e_3) (w_6 hw) (w_7 hw) (w_8 hw) (w_9 hw) (by decide) pd_0 rfl rfl rfl at_205 rfl (W := 0) rfl (by decide) (by decide) (by decide) (by decide) ?_
        intro w25 hP; rcases hP with ⟨h26, rfl⟩ | ⟨h27, h28, h29, rfl⟩ | ⟨h30, h31, h32, rfl⟩ | ⟨h33, h34, rfl⟩
        · exact absurd h26 h23
        · exact absurd h29 h24
        · refine Wk.iload (q := 210) at_208 rfl rfl ?_
          refine Wk.icmpF (q := 213) at_210 rfl (by decide : (-1 : Int32) = (-1 : Int32)) ?_
          refine Wk.iconst (q := 214) (v := (1 : Int32)) at_213 rfl rfl ?_
          refine Wk.goto (q := 218) at_214 (by decide) rfl ?_
          exact Wk.retZ rfl rfl at_218 (by decide) (by decide) rfl
        · exact absurd h1 h34
      · refine Wk.iload (q := 197) at_195 rfl rfl ?_
        refine Wk.istore (q := 199) (ls' := #[.val (.int p0), .val (.int p1), .val (.int p2), .val (.int p3), .val (.int p4), .val (.ref a1), .val (.int (1 : Int32)), .val (.int (3 : Int32)), .val (.int (2 : Int32)), .val (.int (2 : Int32))]) at_197 rfl rfl ?_
        refine Wk.aload (q := 201) at_199 rfl rfl rfl ?_
        refine Wk.iload (q := 203) at_201 rfl rfl ?_
        refine Wk.iload (q := 205) at_203 rfl rfl ?_
        refine Wk.callS2 (q := 208) (argsL := [(.ref a1), (.int (1 : Int32)), (.int (3 : Int32))]) (rest := []) (fr := 0) (lo := 0) (P := fun w => (((tabN (b1 &&& (255 : Int32)).toNatClampNeg) = (0 : Int32)) ∧ w = (.int (-1 : Int32))) ∨ ((¬ (tabN (b1 &&& (255 : Int32)).toNatClampNeg) = (0 : Int32)) ∧ ((tabN (b2 &&& (255 : Int32)).toNatClampNeg) = (0 : Int32)) ∧ (b2 = (58 : Int32)) ∧ w = (.int (2 : Int32))) ∨ ((¬ (tabN (b1 &&& (255 : Int32)).toNatClampNeg) = (0 : Int32)) ∧ ((tabN (b2 &&& (255 : Int32)).toNatClampNeg) = (0 : Int32)) ∧ (¬ b2 = (58 : Int32)) ∧ w = (.int (-1 : Int32))) ∨ ((¬ (tabN (b1 &&& (255 : Int32)).toNatClampNeg) = (0 : Int32)) ∧ (¬ (tabN (b2 &&& (255 : Int32)).toNatClampNeg) = (0 : Int32)) ∧ w = (.int (-1 : Int32)))) (m_7 hw F A1 S1 e_0 e_1 e_2 e_3) (w_6 hw) (w_7 hw) (w_8 hw) (w_9 hw) (by decide) pd_0 rfl rfl rfl at_205 rfl (W := 0) rfl (by decide) (by decide) (by decide) (by decide) ?_
        intro w35 hP; rcases hP with ⟨h36, rfl⟩ | ⟨h37, h38, h39, rfl⟩ | ⟨h40, h41, h42, rfl⟩ | ⟨h43, h44, rfl⟩
        · exact absurd h36 h23
        · refine Wk.iload (q := 210) at_208 rfl rfl ?_
          refine Wk.icmpF (q := 213) at_210 rfl (by decide : (2 : Int32) = (2 : Int32)) ?_
          refine Wk.iconst (q := 214) (v := (1 : Int32)) at_213 rfl rfl ?_
          refine Wk.goto (q := 218) at_214 (by decide) rfl ?_
          exact Wk.retZ rfl rfl at_218 (by decide) (by decide) rfl
        · exact absurd h24 h42
        · exact absurd h1 h44
    · refine Wk.iconst (q := 141) (v := (1 : Int32)) at_140 rfl rfl ?_
      refine Wk.istore (q := 143) (ls' := #[.val (.int p0), .val (.int p1), .val (.int p2), .val (.int p3), .val (.int p4), .val (.ref a1), .val (.int (1 : Int32)), .val (.int (3 : Int32)), .val (.int (1 : Int32)), .unset]) at_141 rfl rfl ?_
      refine Wk.iconst (q := 144) (v := (0 : Int32)) at_143 rfl rfl ?_
      refine Wk.iload (q := 146) at_144 rfl rfl ?_
      refine Wk.icmpT (q := 168) at_146 (by decide) rfl (by decide : (0 : Int32) < (1 : Int32)) ?_
      refine Wk.iconst (q := 169) (v := (-1 : Int32)) at_168 rfl rfl ?_
      refine Wk.istore (q := 171) (ls' := #[.val (.int p0), .val (.int p1), .val (.int p2), .val (.int p3), .val (.int p4), .val (.ref a1), .val (.int (1 : Int32)), .val (.int (3 : Int32)), .val (.int (1 : Int32)), .val (.int (-1 : Int32))]) at_169 rfl rfl ?_
      refine Wk.iload (q := 173) at_171 rfl rfl ?_
      refine Wk.iload (q := 175) at_173 rfl rfl ?_
      refine Wk.icmpT (q := 199) at_175 (by decide) rfl (by decide : ¬ (1 : Int32) < (1 : Int32)) ?_
      refine Wk.aload (q := 201) at_199 rfl rfl rfl ?_
      refine Wk.iload (q := 203) at_201 rfl rfl ?_
      refine Wk.iload (q := 205) at_203 rfl rfl ?_
      refine Wk.callS2 (q := 208) (argsL := [(.ref a1), (.int (1 : Int32)), (.int (3 : Int32))]) (rest := []) (fr := 0) (lo := 0) (P := fun w => (((tabN (b1 &&& (255 : Int32)).toNatClampNeg) = (0 : Int32)) ∧ w = (.int (-1 : Int32))) ∨ ((¬ (tabN (b1 &&& (255 : Int32)).toNatClampNeg) = (0 : Int32)) ∧ ((tabN (b2 &&& (255 : Int32)).toNatClampNeg) = (0 : Int32)) ∧ (b2 = (58 : Int32)) ∧ w = (.int (2 : Int32))) ∨ ((¬ (tabN (b1 &&& (255 : Int32)).toNatClampNeg) = (0 : Int32)) ∧ ((tabN (b2 &&& (255 : Int32)).toNatClampNeg) = (0 : Int32)) ∧ (¬ b2 = (58 : Int32)) ∧ w = (.int (-1 : Int32))) ∨ ((¬ (tabN (b1 &&& (255 : Int32)).toNatClampNeg) = (0 : Int32)) ∧ (¬ (tabN (b2 &&& (255 : Int32)).toNatClampNeg) = (0 : Int32)) ∧ w = (.int (-1 : Int32)))) (m_7 hw F A1 S1 e_0 e_1 e_2 e_3) (w_6 hw) (w_7 hw) (w_8 hw) (w_9 hw) (by decide) pd_0 rfl rfl rfl at_205 rfl (W := 0) rfl (by decide) (by decide) (by decide) (by decide) ?_
      intro w45 hP; rcases hP with ⟨h46, rfl⟩ | ⟨h47, h48, h49, rfl⟩ | ⟨h50, h51, h52, rfl⟩ | ⟨h53, h54, rfl⟩
      · refine Wk.iload (q := 210) at_208 rfl rfl ?_
        refine Wk.icmpF (q := 213) at_210 rfl (by decide : (-1 : Int32) = (-1 : Int32)) ?_
        refine Wk.iconst (q := 214) (v := (1 : Int32)) at_213 rfl rfl ?_
        refine Wk.goto (q := 218) at_214 (by decide) rfl ?_
        exact Wk.retZ rfl rfl at_218 (by decide) (by decide) rfl
      · exact absurd h23 h47
      · exact absurd h23 h50
      · exact absurd h23 h53
set_option maxRecDepth 65536 in
set_option maxHeartbeats 40000000 in
theorem law_tail_1_3 {l : Launch} {Z : State} {a0 : Array Value} {n0 : Nat} {h : Heap}  {a_T : Addr} {c_T : Cell} (hw : ∀ d ∈ tables_1, d.before a0 Z = true) (F : OwnF Z h  a_T c_T) {a1 : Addr} {c1 : Cell} {b0 b1 b2 b3 : Int32} (A1 : Arr Z h a1 c1 .byte) (S1 : c1.slots.size = 4) (e_0 : c1.slots[0]? = some (Value.int b0)) (e_1 : c1.slots[1]? = some (Value.int b1)) (e_2 : c1.slots[2]? = some (Value.int b2)) (e_3 : c1.slots[3]? = some (Value.int b3)) (p0 p1 p2 p3 p4 : Int32) (k_s : ((p4 &&& (2147483647 : Int32)) % (5 : Int32)) = (1 : Int32)) (k_e : (((XT.ushr p4 (8 : Int32)) &&& (2147483647 : Int32)) % (4 : Int32)) = (3 : Int32)) : Wk l Z n0 "com/example/tallykey/tallykey/HttpSyntaxNameEndPinLaw" "law" code maxLocals ret room_1 16 128 (fun v _ => v = some (.int (1 : Int32))) h 1 4 37 #[.val (.int p0), .val (.int p1), .val (.int p2), .val (.int p3), .val (.int p4), .val (.ref a1), .unset, .unset, .unset, .unset] [] := by
  refine Wk.iload (q := 39) at_37 rfl rfl ?_
  refine Wk.ldcI (q := 41) (w_5 hw) at_39 rfl ?_
  refine Wk.iand (q := 42) (v := (p4 &&& (2147483647 : Int32))) at_41 rfl rfl ?_
  refine Wk.iconst (q := 43) (v := (5 : Int32)) at_42 rfl rfl ?_
  refine Wk.irem (q := 44) (v := (1 : Int32)) at_43 rfl (by decide) k_s ?_
  refine Wk.istore (q := 46) (ls' := #[.val (.int p0), .val (.int p1), .val (.int p2), .val (.int p3), .val (.int p4), .val (.ref a1), .val (.int (1 : Int32)), .unset, .unset, .unset]) at_44 rfl rfl ?_
  refine Wk.iload (q := 48) at_46 rfl rfl ?_
  refine Wk.iload (q := 50) at_48 rfl rfl ?_
  refine Wk.bipush (q := 52) (v := (8 : Int32)) at_50 rfl rfl ?_
  refine Wk.iushr (q := 53) (v := (XT.ushr p4 (8 : Int32))) at_52 rfl rfl ?_
  refine Wk.ldcI (q := 55) (w_5 hw) at_53 rfl ?_
  refine Wk.iand (q := 56) (v := ((XT.ushr p4 (8 : Int32)) &&& (2147483647 : Int32))) at_55 rfl rfl ?_
  refine Wk.iconst (q := 57) (v := (5 : Int32)) at_56 rfl rfl ?_
  refine Wk.iload (q := 59) at_57 rfl rfl ?_
  refine Wk.isub (q := 60) (v := (4 : Int32)) at_59 rfl (by decide) ?_
  refine Wk.irem (q := 61) (v := (3 : Int32)) at_60 rfl (by decide) k_e ?_
  refine Wk.iadd (q := 62) (v := (4 : Int32)) at_61 rfl (by decide) ?_
  refine Wk.istore (q := 64) (ls' := #[.val (.int p0), .val (.int p1), .val (.int p2), .val (.int p3), .val (.int p4), .val (.ref a1), .val (.int (1 : Int32)), .val (.int (4 : Int32)), .unset, .unset]) at_62 rfl rfl ?_
  refine Wk.iload (q := 66) at_64 rfl rfl ?_
  refine Wk.istore (q := 68) (ls' := #[.val (.int p0), .val (.int p1), .val (.int p2), .val (.int p3), .val (.int p4), .val (.ref a1), .val (.int (1 : Int32)), .val (.int (4 : Int32)), .val (.int (4 : Int32)), .unset]) at_66 rfl rfl ?_
  refine Wk.iconst (q := 69) (v := (3 : Int32)) at_68 rfl rfl ?_
  refine Wk.iload (q := 71) at_69 rfl rfl ?_
  refine Wk.icmpF (q := 74) at_71 rfl (by decide : ¬ (3 : Int32) < (1 : Int32)) ?_
  refine Wk.iconst (q := 75) (v := (3 : Int32)) at_74 rfl rfl ?_
  refine Wk.iload (q := 77) at_75 rfl rfl ?_
  refine Wk.icmpF (q := 80) at_77 rfl (by decide : (3 : Int32) < (4 : Int32)) ?_
  refine Wk.aload (q := 82) at_80 rfl rfl rfl ?_
  refine Wk.iconst (q := 83) (v := (3 : Int32)) at_82 rfl rfl ?_
  refine Wk.baloadB (q := 84) A1 (by rw [S1]; decide) e_3 at_83 rfl ?_
  refine Wk.callS1 (q := 87) (argsL := [(.int b3)]) (rest := []) (fr := 0) (lo := 0) (v0 := (.int (tabN (b3 &&& (255 : Int32)).toNatClampNeg))) (m_cls hw F b3) (w_10 hw) (w_11 hw) (w_3 hw) (w_12 hw) (by decide) pd_1 rfl rfl rfl at_84 rfl (W := 0) rfl (by decide) (by decide) (by decide) (by decide) ?_
  refine Wk.ifc (q := 93) (q' := 90) at_87 (by decide) rfl rfl (fun (h1 : ¬ (tabN (b3 &&& (255 : Int32)).toNatClampNeg) = (0 : Int32)) => ?_) (fun (h1 : (tabN (b3 &&& (255 : Int32)).toNatClampNeg) = (0 : Int32)) => ?_)
  · refine Wk.iconst (q := 94) (v := (2 : Int32)) at_93 rfl rfl ?_
    refine Wk.iload (q := 96) at_94 rfl rfl ?_
    refine Wk.icmpF (q := 99) at_96 rfl (by decide : ¬ (2 : Int32) < (1 : Int32)) ?_
    refine Wk.iconst (q := 100) (v := (2 : Int32)) at_99 rfl rfl ?_
    refine Wk.iload (q := 102) at_100 rfl rfl ?_
    refine Wk.icmpF (q := 105) at_102 rfl (by decide : (2 : Int32) < (4 : Int32)) ?_
    refine Wk.aload (q := 107) at_105 rfl rfl rfl ?_
    refine Wk.iconst (q := 108) (v := (2 : Int32)) at_107 rfl rfl ?_
    refine Wk.baloadB (q := 109) A1 (by rw [S1]; decide) e_2 at_108 rfl ?_
    refine Wk.callS1 (q := 112) (argsL := [(.int b2)]) (rest := []) (fr := 0) (lo := 0) (v0 := (.int (tabN (b2 &&& (255 : Int32)).toNatClampNeg))) (m_cls hw F b2) (w_10 hw) (w_11 hw) (w_3 hw) (w_12 hw) (by decide) pd_1 rfl rfl rfl at_109 rfl (W := 0) rfl (by decide) (by decide) (by decide) (by decide) ?_
    refine Wk.ifc (q := 118) (q' := 115) at_112 (by decide) rfl rfl (fun (h2 : ¬ (tabN (b2 &&& (255 : Int32)).toNatClampNeg) = (0 : Int32)) => ?_) (fun (h2 : (tabN (b2 &&& (255 : Int32)).toNatClampNeg) = (0 : Int32)) => ?_)
    · refine Wk.iconst (q := 119) (v := (1 : Int32)) at_118 rfl rfl ?_
      refine Wk.iload (q := 121) at_119 rfl rfl ?_
      refine Wk.icmpF (q := 124) at_121 rfl (by decide : ¬ (1 : Int32) < (1 : Int32)) ?_
      refine Wk.iconst (q := 125) (v := (1 : Int32)) at_124 rfl rfl ?_
      refine Wk.iload (q := 127) at_125 rfl rfl ?_
      refine Wk.icmpF (q := 130) at_127 rfl (by decide : (1 : Int32) < (4 : Int32)) ?_
      refine Wk.aload (q := 132) at_130 rfl rfl rfl ?_
      refine Wk.iconst (q := 133) (v := (1 : Int32)) at_132 rfl rfl ?_
      refine Wk.baloadB (q := 134) A1 (by rw [S1]; decide) e_1 at_133 rfl ?_
      refine Wk.callS1 (q := 137) (argsL := [(.int b1)]) (rest := []) (fr := 0) (lo := 0) (v0 := (.int (tabN (b1 &&& (255 : Int32)).toNatClampNeg))) (m_cls hw F b1) (w_10 hw) (w_11 hw) (w_3 hw) (w_12 hw) (by decide) pd_1 rfl rfl rfl at_134 rfl (W := 0) rfl (by decide) (by decide) (by decide) (by decide) ?_
      refine Wk.ifc (q := 143) (q' := 140) at_137 (by decide) rfl rfl (fun (h3 : ¬ (tabN (b1 &&& (255 : Int32)).toNatClampNeg) = (0 : Int32)) => ?_) (fun (h3 : (tabN (b1 &&& (255 : Int32)).toNatClampNeg) = (0 : Int32)) => ?_)
      · refine Wk.iconst (q := 144) (v := (0 : Int32)) at_143 rfl rfl ?_
        refine Wk.iload (q := 146) at_144 rfl rfl ?_
        refine Wk.icmpT (q := 168) at_146 (by decide) rfl (by decide : (0 : Int32) < (1 : Int32)) ?_
        refine Wk.iconst (q := 169) (v := (-1 : Int32)) at_168 rfl rfl ?_
        refine Wk.istore (q := 171) (ls' := #[.val (.int p0), .val (.int p1), .val (.int p2), .val (.int p3), .val (.int p4), .val (.ref a1), .val (.int (1 : Int32)), .val (.int (4 : Int32)), .val (.int (4 : Int32)), .val (.int (-1 : Int32))]) at_169 rfl rfl ?_
        refine Wk.iload (q := 173) at_171 rfl rfl ?_
        refine Wk.iload (q := 175) at_173 rfl rfl ?_
        refine Wk.icmpF (q := 178) at_175 rfl (by decide : (1 : Int32) < (4 : Int32)) ?_
        refine Wk.iload (q := 180) at_178 rfl rfl ?_
        refine Wk.iload (q := 182) at_180 rfl rfl ?_
        refine Wk.icmpT (q := 199) at_182 (by decide) rfl (by decide : ¬ (4 : Int32) < (4 : Int32)) ?_
        refine Wk.aload (q := 201) at_199 rfl rfl rfl ?_
        refine Wk.iload (q := 203) at_201 rfl rfl ?_
        refine Wk.iload (q := 205) at_203 rfl rfl ?_
        refine Wk.callS2 (q := 208) (argsL := [(.ref a1), (.int (1 : Int32)), (.int (4 : Int32))]) (rest := []) (fr := 0) (lo := 0) (P := fun w => (((tabN (b1 &&& (255 : Int32)).toNatClampNeg) = (0 : Int32)) ∧ w = (.int (-1 : Int32))) ∨ ((¬ (tabN (b1 &&& (255 : Int32)).toNatClampNeg) = (0 : Int32)) ∧ ((tabN (b2 &&& (255 : Int32)).toNatClampNeg) = (0 : Int32)) ∧ (b2 = (58 : Int32)) ∧ w = (.int (2 : Int32))) ∨ ((¬ (tabN (b1 &&& (255 : Int32)).toNatClampNeg) = (0 : Int32)) ∧ ((tabN (b2 &&& (255 : Int32)).toNatClampNeg) = (0 : Int32)) ∧ (¬ b2 = (58 : Int32)) ∧ w = (.int (-1 : Int32))) ∨ ((¬ (tabN (b1 &&& (255 : Int32)).toNatClampNeg) = (0 : Int32)) ∧ (¬ (tabN (b2 &&& (255 : Int32)).toNatClampNeg) = (0 : Int32)) ∧ ((tabN (b3 &&& (255 : Int32)).toNatClampNeg) = (0 : Int32)) ∧ (b3 = (58 : Int32)) ∧ w = (.int (3 : Int32))) ∨ ((¬ (tabN (b1 &&& (255 : Int32)).toNatClampNeg) = (0 : Int32)) ∧ (¬ (tabN (b2 &&& (255 : Int32)).toNatClampNeg) = (0 : Int32)) ∧ ((tabN (b3 &&& (255 : Int32)).toNatClampNeg) = (0 : Int32)) ∧ (¬ b3 = (58 : Int32)) ∧ w = (.int (-1 : Int32))) ∨ ((¬ (tabN (b1 &&& (255 : Int32)).toNatClampNeg) = (0 : Int32)) ∧ (¬ (tabN (b2 &&& (255 : Int32)).toNatClampNeg) = (0 : Int32)) ∧ (¬ (tabN (b3 &&& (255 : Int32)).toNatClampNeg) = (0 : Int32)) ∧ w = (.int (-1 : Int32)))) (m_8 hw F A1 S1 e_0 e_1 e_2 e_3) (w_6 hw) (w_7 hw) (w_8 hw) (w_9 hw) (by decide) pd_0 rfl rfl rfl at_205 rfl (W := 0) rfl (by decide) (by decide) (by decide) (by decide) ?_
        intro w4 hP; rcases hP with ⟨h5, rfl⟩ | ⟨h6, h7, h8, rfl⟩ | ⟨h9, h10, h11, rfl⟩ | ⟨h12, h13, h14, h15, rfl⟩ | ⟨h16, h17, h18, h19, rfl⟩ | ⟨h20, h21, h22, rfl⟩
        · exact absurd h5 h3
        · exact absurd h7 h2
        · exact absurd h10 h2
        · exact absurd h14 h1
        · exact absurd h18 h1
        · refine Wk.iload (q := 210) at_208 rfl rfl ?_
          refine Wk.icmpF (q := 213) at_210 rfl (by decide : (-1 : Int32) = (-1 : Int32)) ?_
          refine Wk.iconst (q := 214) (v := (1 : Int32)) at_213 rfl rfl ?_
          refine Wk.goto (q := 218) at_214 (by decide) rfl ?_
          exact Wk.retZ rfl rfl at_218 (by decide) (by decide) rfl
      · refine Wk.iconst (q := 141) (v := (1 : Int32)) at_140 rfl rfl ?_
        refine Wk.istore (q := 143) (ls' := #[.val (.int p0), .val (.int p1), .val (.int p2), .val (.int p3), .val (.int p4), .val (.ref a1), .val (.int (1 : Int32)), .val (.int (4 : Int32)), .val (.int (1 : Int32)), .unset]) at_141 rfl rfl ?_
        refine Wk.iconst (q := 144) (v := (0 : Int32)) at_143 rfl rfl ?_
        refine Wk.iload (q := 146) at_144 rfl rfl ?_
        refine Wk.icmpT (q := 168) at_146 (by decide) rfl (by decide : (0 : Int32) < (1 : Int32)) ?_
        refine Wk.iconst (q := 169) (v := (-1 : Int32)) at_168 rfl rfl ?_
        refine Wk.istore (q := 171) (ls' := #[.val (.int p0), .val (.int p1), .val (.int p2), .val (.int p3), .val (.int p4), .val (.ref a1), .val (.int (1 : Int32)), .val (.int (4 : Int32)), .val (.int (1 : Int32)), .val (.int (-1 : Int32))]) at_169 rfl rfl ?_
        refine Wk.iload (q := 173) at_171 rfl rfl ?_
        refine Wk.iload (q := 175) at_173 rfl rfl ?_
        refine Wk.icmpT (q := 199) at_175 (by decide) rfl (by decide : ¬ (1 : Int32) < (1 : Int32)) ?_
        refine Wk.aload (q := 201) at_199 rfl rfl rfl ?_
        refine Wk.iload (q := 203) at_201 rfl rfl ?_
        refine Wk.iload (q := 205) at_203 rfl rfl ?_
        refine Wk.callS2 (q := 208) (argsL := [(.ref a1), (.int (1 : Int32)), (.int (4 : Int32))]) (rest := []) (fr := 0) (lo := 0) (P := fun w => (((tabN (b1 &&& (255 : Int32)).toNatClampNeg) = (0 : Int32)) ∧ w = (.int (-1 : Int32))) ∨ ((¬ (tabN (b1 &&& (255 : Int32)).toNatClampNeg) = (0 : Int32)) ∧ ((tabN (b2 &&& (255 : Int32)).toNatClampNeg) = (0 : Int32)) ∧ (b2 = (58 : Int32)) ∧ w = (.int (2 : Int32))) ∨ ((¬ (tabN (b1 &&& (255 : Int32)).toNatClampNeg) = (0 : Int32)) ∧ ((tabN (b2 &&& (255 : Int32)).toNatClampNeg) = (0 : Int32)) ∧ (¬ b2 = (58 : Int32)) ∧ w = (.int (-1 : Int32))) ∨ ((¬ (tabN (b1 &&& (255 : Int32)).toNatClampNeg) = (0 : Int32)) ∧ (¬ (tabN (b2 &&& (255 : Int32)).toNatClampNeg) = (0 : Int32)) ∧ ((tabN (b3 &&& (255 : Int32)).toNatClampNeg) = (0 : Int32)) ∧ (b3 = (58 : Int32)) ∧ w = (.int (3 : Int32))) ∨ ((¬ (tabN (b1 &&& (255 : Int32)).toNatClampNeg) = (0 : Int32)) ∧ (¬ (tabN (b2 &&& (255 : Int32)).toNatClampNeg) = (0 : Int32)) ∧ ((tabN (b3 &&& (255 : Int32)).toNatClampNeg) = (0 : Int32)) ∧ (¬ b3 = (58 : Int32)) ∧ w = (.int (-1 : Int32))) ∨ ((¬ (tabN (b1 &&& (255 : Int32)).toNatClampNeg) = (0 : Int32)) ∧ (¬ (tabN (b2 &&& (255 : Int32)).toNatClampNeg) = (0 : Int32)) ∧ (¬ (tabN (b3 &&& (255 : Int32)).toNatClampNeg) = (0 : Int32)) ∧ w = (.int (-1 : Int32)))) (m_8 hw F A1 S1 e_0 e_1 e_2 e_3) (w_6 hw) (w_7 hw) (w_8 hw) (w_9 hw) (by decide) pd_0 rfl rfl rfl at_205 rfl (W := 0) rfl (by decide) (by decide) (by decide) (by decide) ?_
        intro w23 hP; rcases hP with ⟨h24, rfl⟩ | ⟨h25, h26, h27, rfl⟩ | ⟨h28, h29, h30, rfl⟩ | ⟨h31, h32, h33, h34, rfl⟩ | ⟨h35, h36, h37, h38, rfl⟩ | ⟨h39, h40, h41, rfl⟩
        · refine Wk.iload (q := 210) at_208 rfl rfl ?_
          refine Wk.icmpF (q := 213) at_210 rfl (by decide : (-1 : Int32) = (-1 : Int32)) ?_
          refine Wk.iconst (q := 214) (v := (1 : Int32)) at_213 rfl rfl ?_
          refine Wk.goto (q := 218) at_214 (by decide) rfl ?_
          exact Wk.retZ rfl rfl at_218 (by decide) (by decide) rfl
        · exact absurd h3 h25
        · exact absurd h3 h28
        · exact absurd h3 h31
        · exact absurd h3 h35
        · exact absurd h3 h39
    · refine Wk.iconst (q := 116) (v := (2 : Int32)) at_115 rfl rfl ?_
      refine Wk.istore (q := 118) (ls' := #[.val (.int p0), .val (.int p1), .val (.int p2), .val (.int p3), .val (.int p4), .val (.ref a1), .val (.int (1 : Int32)), .val (.int (4 : Int32)), .val (.int (2 : Int32)), .unset]) at_116 rfl rfl ?_
      refine Wk.iconst (q := 119) (v := (1 : Int32)) at_118 rfl rfl ?_
      refine Wk.iload (q := 121) at_119 rfl rfl ?_
      refine Wk.icmpF (q := 124) at_121 rfl (by decide : ¬ (1 : Int32) < (1 : Int32)) ?_
      refine Wk.iconst (q := 125) (v := (1 : Int32)) at_124 rfl rfl ?_
      refine Wk.iload (q := 127) at_125 rfl rfl ?_
      refine Wk.icmpF (q := 130) at_127 rfl (by decide : (1 : Int32) < (4 : Int32)) ?_
      refine Wk.aload (q := 132) at_130 rfl rfl rfl ?_
      refine Wk.iconst (q := 133) (v := (1 : Int32)) at_132 rfl rfl ?_
      refine Wk.baloadB (q := 134) A1 (by rw [S1]; decide) e_1 at_133 rfl ?_
      refine Wk.callS1 (q := 137) (argsL := [(.int b1)]) (rest := []) (fr := 0) (lo := 0) (v0 := (.int (tabN (b1 &&& (255 : Int32)).toNatClampNeg))) (m_cls hw F b1) (w_10 hw) (w_11 hw) (w_3 hw) (w_12 hw) (by decide) pd_1 rfl rfl rfl at_134 rfl (W := 0) rfl (by decide) (by decide) (by decide) (by decide) ?_
      refine Wk.ifc (q := 143) (q' := 140) at_137 (by decide) rfl rfl (fun (h42 : ¬ (tabN (b1 &&& (255 : Int32)).toNatClampNeg) = (0 : Int32)) => ?_) (fun (h42 : (tabN (b1 &&& (255 : Int32)).toNatClampNeg) = (0 : Int32)) => ?_)
      · refine Wk.iconst (q := 144) (v := (0 : Int32)) at_143 rfl rfl ?_
        refine Wk.iload (q := 146) at_144 rfl rfl ?_
        refine Wk.icmpT (q := 168) at_146 (by decide) rfl (by decide : (0 : Int32) < (1 : Int32)) ?_
        refine Wk.iconst (q := 169) (v := (-1 : Int32)) at_168 rfl rfl ?_
        refine Wk.istore (q := 171) (ls' := #[.val (.int p0), .val (.int p1), .val (.int p2), .val (.int p3), .val (.int p4), .val (.ref a1), .val (.int (1 : Int32)), .val (.int (4 : Int32)), .val (.int (2 : Int32)), .val (.int (-1 : Int32))]) at_169 rfl rfl ?_
        refine Wk.iload (q := 173) at_171 rfl rfl ?_
        refine Wk.iload (q := 175) at_173 rfl rfl ?_
        refine Wk.icmpF (q := 178) at_175 rfl (by decide : (1 : Int32) < (2 : Int32)) ?_
        refine Wk.iload (q := 180) at_178 rfl rfl ?_
        refine Wk.iload (q := 182) at_180 rfl rfl ?_
        refine Wk.icmpF (q := 185) at_182 rfl (by decide : (2 : Int32) < (4 : Int32)) ?_
        refine Wk.aload (q := 187) at_185 rfl rfl rfl ?_
        refine Wk.iload (q := 189) at_187 rfl rfl ?_
        refine Wk.baloadB (q := 190) A1 (by rw [S1]; decide) e_2 at_189 rfl ?_
        refine Wk.bipush (q := 192) (v := (58 : Int32)) at_190 rfl rfl ?_
        refine Wk.icmp (q := 199) (q' := 195) at_192 (by decide) rfl rfl (fun (h43 : ¬ b2 = (58 : Int32)) => ?_) (fun (h43 : b2 = (58 : Int32)) => ?_)
        · refine Wk.aload (q := 201) at_199 rfl rfl rfl ?_
          refine Wk.iload (q := 203) at_201 rfl rfl ?_
          refine Wk.iload (q := 205) at_203 rfl rfl ?_
          refine Wk.callS2 (q := 208) (argsL := [(.ref a1), (.int (1 : Int32)), (.int (4 : Int32))]) (rest := []) (fr := 0) (lo := 0) (P := fun w => (((tabN (b1 &&& (255 : Int32)).toNatClampNeg) = (0 : Int32)) ∧ w = (.int (-1 : Int32))) ∨ ((¬ (tabN (b1 &&& (255 : Int32)).toNatClampNeg) = (0 : Int32)) ∧ ((tabN (b2 &&& (255 : Int32)).toNatClampNeg) = (0 : Int32)) ∧ (b2 = (58 : Int32)) ∧ w = (.int (2 : Int32))) ∨ ((¬ (tabN (b1 &&& (255 : Int32)).toNatClampNeg) = (0 : Int32)) ∧ ((tabN (b2 &&& (255 : Int32)).toNatClampNeg) = (0 : Int32)) ∧ (¬ b2 = (58 : Int32)) ∧ w = (.int (-1 : Int32))) ∨ ((¬ (tabN (b1 &&& (255 : Int32)).toNatClampNeg) = (0 : Int32)) ∧ (¬ (tabN (b2 &&& (255 : Int32)).toNatClampNeg) = (0 : Int32)) ∧ ((tabN (b3 &&& (255 : Int32)).toNatClampNeg) = (0 : Int32)) ∧ (b3 = (58 : Int32)) ∧ w = (.int (3 : Int32))) ∨ ((¬ (tabN (b1 &&& (255 : Int32)).toNatClampNeg) = (0 : Int32)) ∧ (¬ (tabN (b2 &&& (255 : Int32)).toNatClampNeg) = (0 : Int32)) ∧ ((tabN (b3 &&& (255 : Int32)).toNatClampNeg) = (0 : Int32)) ∧ (¬ b3 = (58 : Int32)) ∧ w = (.int (-1 : Int32))) ∨ ((¬ (tabN (b1 &&& (255 : Int32)).toNatClampNeg) = (0 : Int32)) ∧ (¬ (tabN (b2 &&& (255 : Int32)).toNatClampNeg) = (0 : Int32)) ∧ (¬ (tabN (b3 &&& (255 : Int32)).toNatClampNeg) = (0 : Int32)) ∧ w = (.int (-1 : Int32)))) (m_8 hw F A1 S1 e_0 e_1 e_2 e_3) (w_6 hw) (w_7 hw) (w_8 hw) (w_9 hw) (by decide) pd_0 rfl rfl rfl at_205 rfl (W := 0) rfl (by decide) (by decide) (by decide) (by decide) ?_
          intro w44 hP; rcases hP with ⟨h45, rfl⟩ | ⟨h46, h47, h48, rfl⟩ | ⟨h49, h50, h51, rfl⟩ | ⟨h52, h53, h54, h55, rfl⟩ | ⟨h56, h57, h58, h59, rfl⟩ | ⟨h60, h61, h62, rfl⟩
          · exact absurd h45 h42
          · exact absurd h48 h43
          · refine Wk.iload (q := 210) at_208 rfl rfl ?_
            refine Wk.icmpF (q := 213) at_210 rfl (by decide : (-1 : Int32) = (-1 : Int32)) ?_
            refine Wk.iconst (q := 214) (v := (1 : Int32)) at_213 rfl rfl ?_
            refine Wk.goto (q := 218) at_214 (by decide) rfl ?_
            exact Wk.retZ rfl rfl at_218 (by decide) (by decide) rfl
          · exact absurd h2 h53
          · exact absurd h2 h57
          · exact absurd h2 h61
        · refine Wk.iload (q := 197) at_195 rfl rfl ?_
          refine Wk.istore (q := 199) (ls' := #[.val (.int p0), .val (.int p1), .val (.int p2), .val (.int p3), .val (.int p4), .val (.ref a1), .val (.int (1 : Int32)), .val (.int (4 : Int32)), .val (.int (2 : Int32)), .val (.int (2 : Int32))]) at_197 rfl rfl ?_
          refine Wk.aload (q := 201) at_199 rfl rfl rfl ?_
          refine Wk.iload (q := 203) at_201 rfl rfl ?_
          refine Wk.iload (q := 205) at_203 rfl rfl ?_
          refine Wk.callS2 (q := 208) (argsL := [(.ref a1), (.int (1 : Int32)), (.int (4 : Int32))]) (rest := []) (fr := 0) (lo := 0) (P := fun w => (((tabN (b1 &&& (255 : Int32)).toNatClampNeg) = (0 : Int32)) ∧ w = (.int (-1 : Int32))) ∨ ((¬ (tabN (b1 &&& (255 : Int32)).toNatClampNeg) = (0 : Int32)) ∧ ((tabN (b2 &&& (255 : Int32)).toNatClampNeg) = (0 : Int32)) ∧ (b2 = (58 : Int32)) ∧ w = (.int (2 : Int32))) ∨ ((¬ (tabN (b1 &&& (255 : Int32)).toNatClampNeg) = (0 : Int32)) ∧ ((tabN (b2 &&& (255 : Int32)).toNatClampNeg) = (0 : Int32)) ∧ (¬ b2 = (58 : Int32)) ∧ w = (.int (-1 : Int32))) ∨ ((¬ (tabN (b1 &&& (255 : Int32)).toNatClampNeg) = (0 : Int32)) ∧ (¬ (tabN (b2 &&& (255 : Int32)).toNatClampNeg) = (0 : Int32)) ∧ ((tabN (b3 &&& (255 : Int32)).toNatClampNeg) = (0 : Int32)) ∧ (b3 = (58 : Int32)) ∧ w = (.int (3 : Int32))) ∨ ((¬ (tabN (b1 &&& (255 : Int32)).toNatClampNeg) = (0 : Int32)) ∧ (¬ (tabN (b2 &&& (255 : Int32)).toNatClampNeg) = (0 : Int32)) ∧ ((tabN (b3 &&& (255 : Int32)).toNatClampNeg) = (0 : Int32)) ∧ (¬ b3 = (58 : Int32)) ∧ w = (.int (-1 : Int32))) ∨ ((¬ (tabN (b1 &&& (255 : Int32)).toNatClampNeg) = (0 : Int32)) ∧ (¬ (tabN (b2 &&& (255 : Int32)).toNatClampNeg) = (0 : Int32)) ∧ (¬ (tabN (b3 &&& (255 : Int32)).toNatClampNeg) = (0 : Int32)) ∧ w = (.int (-1 : Int32)))) (m_8 hw F A1 S1 e_0 e_1 e_2 e_3) (w_6 hw) (w_7 hw) (w_8 hw) (w_9 hw) (by decide) pd_0 rfl rfl rfl at_205 rfl (W := 0) rfl (by decide) (by decide) (by decide) (by decide) ?_
          intro w63 hP; rcases hP with ⟨h64, rfl⟩ | ⟨h65, h66, h67, rfl⟩ | ⟨h68, h69, h70, rfl⟩ | ⟨h71, h72, h73, h74, rfl⟩ | ⟨h75, h76, h77, h78, rfl⟩ | ⟨h79, h80, h81, rfl⟩
          · exact absurd h64 h42
          · refine Wk.iload (q := 210) at_208 rfl rfl ?_
            refine Wk.icmpF (q := 213) at_210 rfl (by decide : (2 : Int32) = (2 : Int32)) ?_
            refine Wk.iconst (q := 214) (v := (1 : Int32)) at_213 rfl rfl ?_
            refine Wk.goto (q := 218) at_214 (by decide) rfl ?_
            exact Wk.retZ rfl rfl at_218 (by decide) (by decide) rfl
          · exact absurd h43 h70
          · exact absurd h2 h72
          · exact absurd h2 h76
          · exact absurd h2 h80
      · refine Wk.iconst (q := 141) (v := (1 : Int32)) at_140 rfl rfl ?_
        refine Wk.istore (q := 143) (ls' := #[.val (.int p0), .val (.int p1), .val (.int p2), .val (.int p3), .val (.int p4), .val (.ref a1), .val (.int (1 : Int32)), .val (.int (4 : Int32)), .val (.int (1 : Int32)), .unset]) at_141 rfl rfl ?_
        refine Wk.iconst (q := 144) (v := (0 : Int32)) at_143 rfl rfl ?_
        refine Wk.iload (q := 146) at_144 rfl rfl ?_
        refine Wk.icmpT (q := 168) at_146 (by decide) rfl (by decide : (0 : Int32) < (1 : Int32)) ?_
        refine Wk.iconst (q := 169) (v := (-1 : Int32)) at_168 rfl rfl ?_
        refine Wk.istore (q := 171) (ls' := #[.val (.int p0), .val (.int p1), .val (.int p2), .val (.int p3), .val (.int p4), .val (.ref a1), .val (.int (1 : Int32)), .val (.int (4 : Int32)), .val (.int (1 : Int32)), .val (.int (-1 : Int32))]) at_169 rfl rfl ?_
        refine Wk.iload (q := 173) at_171 rfl rfl ?_
        refine Wk.iload (q := 175) at_173 rfl rfl ?_
        refine Wk.icmpT (q := 199) at_175 (by decide) rfl (by decide : ¬ (1 : Int32) < (1 : Int32)) ?_
        refine Wk.aload (q := 201) at_199 rfl rfl rfl ?_
        refine Wk.iload (q := 203) at_201 rfl rfl ?_
        refine Wk.iload (q := 205) at_203 rfl rfl ?_
        refine Wk.callS2 (q := 208) (argsL := [(.ref a1), (.int (1 : Int32)), (.int (4 : Int32))]) (rest := []) (fr := 0) (lo := 0) (P := fun w => (((tabN (b1 &&& (255 : Int32)).toNatClampNeg) = (0 : Int32)) ∧ w = (.int (-1 : Int32))) ∨ ((¬ (tabN (b1 &&& (255 : Int32)).toNatClampNeg) = (0 : Int32)) ∧ ((tabN (b2 &&& (255 : Int32)).toNatClampNeg) = (0 : Int32)) ∧ (b2 = (58 : Int32)) ∧ w = (.int (2 : Int32))) ∨ ((¬ (tabN (b1 &&& (255 : Int32)).toNatClampNeg) = (0 : Int32)) ∧ ((tabN (b2 &&& (255 : Int32)).toNatClampNeg) = (0 : Int32)) ∧ (¬ b2 = (58 : Int32)) ∧ w = (.int (-1 : Int32))) ∨ ((¬ (tabN (b1 &&& (255 : Int32)).toNatClampNeg) = (0 : Int32)) ∧ (¬ (tabN (b2 &&& (255 : Int32)).toNatClampNeg) = (0 : Int32)) ∧ ((tabN (b3 &&& (255 : Int32)).toNatClampNeg) = (0 : Int32)) ∧ (b3 = (58 : Int32)) ∧ w = (.int (3 : Int32))) ∨ ((¬ (tabN (b1 &&& (255 : Int32)).toNatClampNeg) = (0 : Int32)) ∧ (¬ (tabN (b2 &&& (255 : Int32)).toNatClampNeg) = (0 : Int32)) ∧ ((tabN (b3 &&& (255 : Int32)).toNatClampNeg) = (0 : Int32)) ∧ (¬ b3 = (58 : Int32)) ∧ w = (.int (-1 : Int32))) ∨ ((¬ (tabN (b1 &&& (255 : Int32)).toNatClampNeg) = (0 : Int32)) ∧ (¬ (tabN (b2 &&& (255 : Int32)).toNatClampNeg) = (0 : Int32)) ∧ (¬ (tabN (b3 &&& (255 : Int32)).toNatClampNeg) = (0 : Int32)) ∧ w = (.int (-1 : Int32)))) (m_8 hw F A1 S1 e_0 e_1 e_2 e_3) (w_6 hw) (w_7 hw) (w_8 hw) (w_9 hw) (by decide) pd_0 rfl rfl rfl at_205 rfl (W := 0) rfl (by decide) (by decide) (by decide) (by decide) ?_
        intro w82 hP; rcases hP with ⟨h83, rfl⟩ | ⟨h84, h85, h86, rfl⟩ | ⟨h87, h88, h89, rfl⟩ | ⟨h90, h91, h92, h93, rfl⟩ | ⟨h94, h95, h96, h97, rfl⟩ | ⟨h98, h99, h100, rfl⟩
        · refine Wk.iload (q := 210) at_208 rfl rfl ?_
          refine Wk.icmpF (q := 213) at_210 rfl (by decide : (-1 : Int32) = (-1 : Int32)) ?_
          refine Wk.iconst (q := 214) (v := (1 : Int32)) at_213 rfl rfl ?_
          refine Wk.goto (q := 218) at_214 (by decide) rfl ?_
          exact Wk.retZ rfl rfl at_218 (by decide) (by decide) rfl
        · exact absurd h42 h84
        · exact absurd h42 h87
        · exact absurd h42 h90
        · exact absurd h42 h94
        · exact absurd h42 h98
  · refine Wk.iconst (q := 91) (v := (3 : Int32)) at_90 rfl rfl ?_
    refine Wk.istore (q := 93) (ls' := #[.val (.int p0), .val (.int p1), .val (.int p2), .val (.int p3), .val (.int p4), .val (.ref a1), .val (.int (1 : Int32)), .val (.int (4 : Int32)), .val (.int (3 : Int32)), .unset]) at_91 rfl rfl ?_
    refine Wk.iconst (q := 94) (v := (2 : Int32)) at_93 rfl rfl ?_
    refine Wk.iload (q := 96) at_94 rfl rfl ?_
    refine Wk.icmpF (q := 99) at_96 rfl (by decide : ¬ (2 : Int32) < (1 : Int32)) ?_
    refine Wk.iconst (q := 100) (v := (2 : Int32)) at_99 rfl rfl ?_
    refine Wk.iload (q := 102) at_100 rfl rfl ?_
    refine Wk.icmpF (q := 105) at_102 rfl (by decide : (2 : Int32) < (4 : Int32)) ?_
    refine Wk.aload (q := 107) at_105 rfl rfl rfl ?_
    refine Wk.iconst (q := 108) (v := (2 : Int32)) at_107 rfl rfl ?_
    refine Wk.baloadB (q := 109) A1 (by rw [S1]; decide) e_2 at_108 rfl ?_
    refine Wk.callS1 (q := 112) (argsL := [(.int b2)]) (rest := []) (fr := 0) (lo := 0) (v0 := (.int (tabN (b2 &&& (255 : Int32)).toNatClampNeg))) (m_cls hw F b2) (w_10 hw) (w_11 hw) (w_3 hw) (w_12 hw) (by decide) pd_1 rfl rfl rfl at_109 rfl (W := 0) rfl (by decide) (by decide) (by decide) (by decide) ?_
    refine Wk.ifc (q := 118) (q' := 115) at_112 (by decide) rfl rfl (fun (h101 : ¬ (tabN (b2 &&& (255 : Int32)).toNatClampNeg) = (0 : Int32)) => ?_) (fun (h101 : (tabN (b2 &&& (255 : Int32)).toNatClampNeg) = (0 : Int32)) => ?_)
    · refine Wk.iconst (q := 119) (v := (1 : Int32)) at_118 rfl rfl ?_
      refine Wk.iload (q := 121) at_119 rfl rfl ?_
      refine Wk.icmpF (q := 124) at_121 rfl (by decide : ¬ (1 : Int32) < (1 : Int32)) ?_
      refine Wk.iconst (q := 125) (v := (1 : Int32)) at_124 rfl rfl ?_
      refine Wk.iload (q := 127) at_125 rfl rfl ?_
      refine Wk.icmpF (q := 130) at_127 rfl (by decide : (1 : Int32) < (4 : Int32)) ?_
      refine Wk.aload (q := 132) at_130 rfl rfl rfl ?_
      refine Wk.iconst (q := 133) (v := (1 : Int32)) at_132 rfl rfl ?_
      refine Wk.baloadB (q := 134) A1 (by rw [S1]; decide) e_1 at_133 rfl ?_
      refine Wk.callS1 (q := 137) (argsL := [(.int b1)]) (rest := []) (fr := 0) (lo := 0) (v0 := (.int (tabN (b1 &&& (255 : Int32)).toNatClampNeg))) (m_cls hw F b1) (w_10 hw) (w_11 hw) (w_3 hw) (w_12 hw) (by decide) pd_1 rfl rfl rfl at_134 rfl (W := 0) rfl (by decide) (by decide) (by decide) (by decide) ?_
      refine Wk.ifc (q := 143) (q' := 140) at_137 (by decide) rfl rfl (fun (h102 : ¬ (tabN (b1 &&& (255 : Int32)).toNatClampNeg) = (0 : Int32)) => ?_) (fun (h102 : (tabN (b1 &&& (255 : Int32)).toNatClampNeg) = (0 : Int32)) => ?_)
      · refine Wk.iconst (q := 144) (v := (0 : Int32)) at_143 rfl rfl ?_
        refine Wk.iload (q := 146) at_144 rfl rfl ?_
        refine Wk.icmpT (q := 168) at_146 (by decide) rfl (by decide : (0 : Int32) < (1 : Int32)) ?_
        refine Wk.iconst (q := 169) (v := (-1 : Int32)) at_168 rfl rfl ?_
        refine Wk.istore (q := 171) (ls' := #[.val (.int p0), .val (.int p1), .val (.int p2), .val (.int p3), .val (.int p4), .val (.ref a1), .val (.int (1 : Int32)), .val (.int (4 : Int32)), .val (.int (3 : Int32)), .val (.int (-1 : Int32))]) at_169 rfl rfl ?_
        refine Wk.iload (q := 173) at_171 rfl rfl ?_
        refine Wk.iload (q := 175) at_173 rfl rfl ?_
        refine Wk.icmpF (q := 178) at_175 rfl (by decide : (1 : Int32) < (3 : Int32)) ?_
        refine Wk.iload (q := 180) at_178 rfl rfl ?_
        refine Wk.iload (q := 182) at_180 rfl rfl ?_
        refine Wk.icmpF (q := 185) at_182 rfl (by decide : (3 : Int32) < (4 : Int32)) ?_
        refine Wk.aload (q := 187) at_185 rfl rfl rfl ?_
        refine Wk.iload (q := 189) at_187 rfl rfl ?_
        refine Wk.baloadB (q := 190) A1 (by rw [S1]; decide) e_3 at_189 rfl ?_
        refine Wk.bipush (q := 192) (v := (58 : Int32)) at_190 rfl rfl ?_
        refine Wk.icmp (q := 199) (q' := 195) at_192 (by decide) rfl rfl (fun (h103 : ¬ b3 = (58 : Int32)) => ?_) (fun (h103 : b3 = (58 : Int32)) => ?_)
        · refine Wk.aload (q := 201) at_199 rfl rfl rfl ?_
          refine Wk.iload (q := 203) at_201 rfl rfl ?_
          refine Wk.iload (q := 205) at_203 rfl rfl ?_
          refine Wk.callS2 (q := 208) (argsL := [(.ref a1), (.int (1 : Int32)), (.int (4 : Int32))]) (rest := []) (fr := 0) (lo := 0) (P := fun w => (((tabN (b1 &&& (255 : Int32)).toNatClampNeg) = (0 : Int32)) ∧ w = (.int (-1 : Int32))) ∨ ((¬ (tabN (b1 &&& (255 : Int32)).toNatClampNeg) = (0 : Int32)) ∧ ((tabN (b2 &&& (255 : Int32)).toNatClampNeg) = (0 : Int32)) ∧ (b2 = (58 : Int32)) ∧ w = (.int (2 : Int32))) ∨ ((¬ (tabN (b1 &&& (255 : Int32)).toNatClampNeg) = (0 : Int32)) ∧ ((tabN (b2 &&& (255 : Int32)).toNatClampNeg) = (0 : Int32)) ∧ (¬ b2 = (58 : Int32)) ∧ w = (.int (-1 : Int32))) ∨ ((¬ (tabN (b1 &&& (255 : Int32)).toNatClampNeg) = (0 : Int32)) ∧ (¬ (tabN (b2 &&& (255 : Int32)).toNatClampNeg) = (0 : Int32)) ∧ ((tabN (b3 &&& (255 : Int32)).toNatClampNeg) = (0 : Int32)) ∧ (b3 = (58 : Int32)) ∧ w = (.int (3 : Int32))) ∨ ((¬ (tabN (b1 &&& (255 : Int32)).toNatClampNeg) = (0 : Int32)) ∧ (¬ (tabN (b2 &&& (255 : Int32)).toNatClampNeg) = (0 : Int32)) ∧ ((tabN (b3 &&& (255 : Int32)).toNatClampNeg) = (0 : Int32)) ∧ (¬ b3 = (58 : Int32)) ∧ w = (.int (-1 : Int32))) ∨ ((¬ (tabN (b1 &&& (255 : Int32)).toNatClampNeg) = (0 : Int32)) ∧ (¬ (tabN (b2 &&& (255 : Int32)).toNatClampNeg) = (0 : Int32)) ∧ (¬ (tabN (b3 &&& (255 : Int32)).toNatClampNeg) = (0 : Int32)) ∧ w = (.int (-1 : Int32)))) (m_8 hw F A1 S1 e_0 e_1 e_2 e_3) (w_6 hw) (w_7 hw) (w_8 hw) (w_9 hw) (by decide) pd_0 rfl rfl rfl at_205 rfl (W := 0) rfl (by decide) (by decide) (by decide) (by decide) ?_
          intro w104 hP; rcases hP with ⟨h105, rfl⟩ | ⟨h106, h107, h108, rfl⟩ | ⟨h109, h110, h111, rfl⟩ | ⟨h112, h113, h114, h115, rfl⟩ | ⟨h116, h117, h118, h119, rfl⟩ | ⟨h120, h121, h122, rfl⟩
          · exact absurd h105 h102
          · exact absurd h107 h101
          · exact absurd h110 h101
          · exact absurd h115 h103
          · refine Wk.iload (q := 210) at_208 rfl rfl ?_
            refine Wk.icmpF (q := 213) at_210 rfl (by decide : (-1 : Int32) = (-1 : Int32)) ?_
            refine Wk.iconst (q := 214) (v := (1 : Int32)) at_213 rfl rfl ?_
            refine Wk.goto (q := 218) at_214 (by decide) rfl ?_
            exact Wk.retZ rfl rfl at_218 (by decide) (by decide) rfl
          · exact absurd h1 h122
        · refine Wk.iload (q := 197) at_195 rfl rfl ?_
          refine Wk.istore (q := 199) (ls' := #[.val (.int p0), .val (.int p1), .val (.int p2), .val (.int p3), .val (.int p4), .val (.ref a1), .val (.int (1 : Int32)), .val (.int (4 : Int32)), .val (.int (3 : Int32)), .val (.int (3 : Int32))]) at_197 rfl rfl ?_
          refine Wk.aload (q := 201) at_199 rfl rfl rfl ?_
          refine Wk.iload (q := 203) at_201 rfl rfl ?_
          refine Wk.iload (q := 205) at_203 rfl rfl ?_
          refine Wk.callS2 (q := 208) (argsL := [(.ref a1), (.int (1 : Int32)), (.int (4 : Int32))]) (rest := []) (fr := 0) (lo := 0) (P := fun w => (((tabN (b1 &&& (255 : Int32)).toNatClampNeg) = (0 : Int32)) ∧ w = (.int (-1 : Int32))) ∨ ((¬ (tabN (b1 &&& (255 : Int32)).toNatClampNeg) = (0 : Int32)) ∧ ((tabN (b2 &&& (255 : Int32)).toNatClampNeg) = (0 : Int32)) ∧ (b2 = (58 : Int32)) ∧ w = (.int (2 : Int32))) ∨ ((¬ (tabN (b1 &&& (255 : Int32)).toNatClampNeg) = (0 : Int32)) ∧ ((tabN (b2 &&& (255 : Int32)).toNatClampNeg) = (0 : Int32)) ∧ (¬ b2 = (58 : Int32)) ∧ w = (.int (-1 : Int32))) ∨ ((¬ (tabN (b1 &&& (255 : Int32)).toNatClampNeg) = (0 : Int32)) ∧ (¬ (tabN (b2 &&& (255 : Int32)).toNatClampNeg) = (0 : Int32)) ∧ ((tabN (b3 &&& (255 : Int32)).toNatClampNeg) = (0 : Int32)) ∧ (b3 = (58 : Int32)) ∧ w = (.int (3 : Int32))) ∨ ((¬ (tabN (b1 &&& (255 : Int32)).toNatClampNeg) = (0 : Int32)) ∧ (¬ (tabN (b2 &&& (255 : Int32)).toNatClampNeg) = (0 : Int32)) ∧ ((tabN (b3 &&& (255 : Int32)).toNatClampNeg) = (0 : Int32)) ∧ (¬ b3 = (58 : Int32)) ∧ w = (.int (-1 : Int32))) ∨ ((¬ (tabN (b1 &&& (255 : Int32)).toNatClampNeg) = (0 : Int32)) ∧ (¬ (tabN (b2 &&& (255 : Int32)).toNatClampNeg) = (0 : Int32)) ∧ (¬ (tabN (b3 &&& (255 : Int32)).toNatClampNeg) = (0 : Int32)) ∧ w = (.int (-1 : Int32)))) (m_8 hw F A1 S1 e_0 e_1 e_2 e_3) (w_6 hw) (w_7 hw) (w_8 hw) (w_9 hw) (by decide) pd_0 rfl rfl rfl at_205 rfl (W := 0) rfl (by decide) (by decide) (by decide) (by decide) ?_
          intro w123 hP; rcases hP with ⟨h124, rfl⟩ | ⟨h125, h126, h127, rfl⟩ | ⟨h128, h129, h130, rfl⟩ | ⟨h131, h132, h133, h134, rfl⟩ | ⟨h135, h136, h137, h138, rfl⟩ | ⟨h139, h140, h141, rfl⟩
          · exact absurd h124 h102
          · exact absurd h126 h101
          · exact absurd h129 h101
          · refine Wk.iload (q := 210) at_208 rfl rfl ?_
            refine Wk.icmpF (q := 213) at_210 rfl (by decide : (3 : Int32) = (3 : Int32)) ?_
            refine Wk.iconst (q := 214) (v := (1 : Int32)) at_213 rfl rfl ?_
            refine Wk.goto (q := 218) at_214 (by decide) rfl ?_
            exact Wk.retZ rfl rfl at_218 (by decide) (by decide) rfl
          · exact absurd h103 h138
          · exact absurd h1 h141
      · refine Wk.iconst (q := 141) (v := (1 : Int32)) at_140 rfl rfl ?_
        refine Wk.istore (q := 143) (ls' := #[.val (.int p0), .val (.int p1), .val (.int p2), .val (.int p3), .val (.int p4), .val (.ref a1), .val (.int (1 : Int32)), .val (.int (4 : Int32)), .val (.int (1 : Int32)), .unset]) at_141 rfl rfl ?_
        refine Wk.iconst (q := 144) (v := (0 : Int32)) at_143 rfl rfl ?_
        refine Wk.iload (q := 146) at_144 rfl rfl ?_
        refine Wk.icmpT (q := 168) at_146 (by decide) rfl (by decide : (0 : Int32) < (1 : Int32)) ?_
        refine Wk.iconst (q := 169) (v := (-1 : Int32)) at_168 rfl rfl ?_
        refine Wk.istore (q := 171) (ls' := #[.val (.int p0), .val (.int p1), .val (.int p2), .val (.int p3), .val (.int p4), .val (.ref a1), .val (.int (1 : Int32)), .val (.int (4 : Int32)), .val (.int (1 : Int32)), .val (.int (-1 : Int32))]) at_169 rfl rfl ?_
        refine Wk.iload (q := 173) at_171 rfl rfl ?_
        refine Wk.iload (q := 175) at_173 rfl rfl ?_
        refine Wk.icmpT (q := 199) at_175 (by decide) rfl (by decide : ¬ (1 : Int32) < (1 : Int32)) ?_
        refine Wk.aload (q := 201) at_199 rfl rfl rfl ?_
        refine Wk.iload (q := 203) at_201 rfl rfl ?_
        refine Wk.iload (q := 205) at_203 rfl rfl ?_
        refine Wk.callS2 (q := 208) (argsL := [(.ref a1), (.int (1 : Int32)), (.int (4 : Int32))]) (rest := []) (fr := 0) (lo := 0) (P := fun w => (((tabN (b1 &&& (255 : Int32)).toNatClampNeg) = (0 : Int32)) ∧ w = (.int (-1 : Int32))) ∨ ((¬ (tabN (b1 &&& (255 : Int32)).toNatClampNeg) = (0 : Int32)) ∧ ((tabN (b2 &&& (255 : Int32)).toNatClampNeg) = (0 : Int32)) ∧ (b2 = (58 : Int32)) ∧ w = (.int (2 : Int32))) ∨ ((¬ (tabN (b1 &&& (255 : Int32)).toNatClampNeg) = (0 : Int32)) ∧ ((tabN (b2 &&& (255 : Int32)).toNatClampNeg) = (0 : Int32)) ∧ (¬ b2 = (58 : Int32)) ∧ w = (.int (-1 : Int32))) ∨ ((¬ (tabN (b1 &&& (255 : Int32)).toNatClampNeg) = (0 : Int32)) ∧ (¬ (tabN (b2 &&& (255 : Int32)).toNatClampNeg) = (0 : Int32)) ∧ ((tabN (b3 &&& (255 : Int32)).toNatClampNeg) = (0 : Int32)) ∧ (b3 = (58 : Int32)) ∧ w = (.int (3 : Int32))) ∨ ((¬ (tabN (b1 &&& (255 : Int32)).toNatClampNeg) = (0 : Int32)) ∧ (¬ (tabN (b2 &&& (255 : Int32)).toNatClampNeg) = (0 : Int32)) ∧ ((tabN (b3 &&& (255 : Int32)).toNatClampNeg) = (0 : Int32)) ∧ (¬ b3 = (58 : Int32)) ∧ w = (.int (-1 : Int32))) ∨ ((¬ (tabN (b1 &&& (255 : Int32)).toNatClampNeg) = (0 : Int32)) ∧ (¬ (tabN (b2 &&& (255 : Int32)).toNatClampNeg) = (0 : Int32)) ∧ (¬ (tabN (b3 &&& (255 : Int32)).toNatClampNeg) = (0 : Int32)) ∧ w = (.int (-1 : Int32)))) (m_8 hw F A1 S1 e_0 e_1 e_2 e_3) (w_6 hw) (w_7 hw) (w_8 hw) (w_9 hw) (by decide) pd_0 rfl rfl rfl at_205 rfl (W := 0) rfl (by decide) (by decide) (by decide) (by decide) ?_
        intro w142 hP; rcases hP with ⟨h143, rfl⟩ | ⟨h144, h145, h146, rfl⟩ | ⟨h147, h148, h149, rfl⟩ | ⟨h150, h151, h152, h153, rfl⟩ | ⟨h154, h155, h156, h157, rfl⟩ | ⟨h158, h159, h160, rfl⟩
        · refine Wk.iload (q := 210) at_208 rfl rfl ?_
          refine Wk.icmpF (q := 213) at_210 rfl (by decide : (-1 : Int32) = (-1 : Int32)) ?_
          refine Wk.iconst (q := 214) (v := (1 : Int32)) at_213 rfl rfl ?_
          refine Wk.goto (q := 218) at_214 (by decide) rfl ?_
          exact Wk.retZ rfl rfl at_218 (by decide) (by decide) rfl
        · exact absurd h102 h144
        · exact absurd h102 h147
        · exact absurd h102 h150
        · exact absurd h102 h154
        · exact absurd h102 h158
    · refine Wk.iconst (q := 116) (v := (2 : Int32)) at_115 rfl rfl ?_
      refine Wk.istore (q := 118) (ls' := #[.val (.int p0), .val (.int p1), .val (.int p2), .val (.int p3), .val (.int p4), .val (.ref a1), .val (.int (1 : Int32)), .val (.int (4 : Int32)), .val (.int (2 : Int32)), .unset]) at_116 rfl rfl ?_
      refine Wk.iconst (q := 119) (v := (1 : Int32)) at_118 rfl rfl ?_
      refine Wk.iload (q := 121) at_119 rfl rfl ?_
      refine Wk.icmpF (q := 124) at_121 rfl (by decide : ¬ (1 : Int32) < (1 : Int32)) ?_
      refine Wk.iconst (q := 125) (v := (1 : Int32)) at_124 rfl rfl ?_
      refine Wk.iload (q := 127) at_125 rfl rfl ?_
      refine Wk.icmpF (q := 130) at_127 rfl (by decide : (1 : Int32) < (4 : Int32)) ?_
      refine Wk.aload (q := 132) at_130 rfl rfl rfl ?_
      refine Wk.iconst (q := 133) (v := (1 : Int32)) at_132 rfl rfl ?_
      refine Wk.baloadB (q := 134) A1 (by rw [S1]; decide) e_1 at_133 rfl ?_
      refine Wk.callS1 (q := 137) (argsL := [(.int b1)]) (rest := []) (fr := 0) (lo := 0) (v0 := (.int (tabN (b1 &&& (255 : Int32)).toNatClampNeg))) (m_cls hw F b1) (w_10 hw) (w_11 hw) (w_3 hw) (w_12 hw) (by decide) pd_1 rfl rfl rfl at_134 rfl (W := 0) rfl (by decide) (by decide) (by decide) (by decide) ?_
      refine Wk.ifc (q := 143) (q' := 140) at_137 (by decide) rfl rfl (fun (h161 : ¬ (tabN (b1 &&& (255 : Int32)).toNatClampNeg) = (0 : Int32)) => ?_) (fun (h161 : (tabN (b1 &&& (255 : Int32)).toNatClampNeg) = (0 : Int32)) => ?_)
      · refine Wk.iconst (q := 144) (v := (0 : Int32)) at_143 rfl rfl ?_
        refine Wk.iload (q := 146) at_144 rfl rfl ?_
        refine Wk.icmpT (q := 168) at_146 (by decide) rfl (by decide : (0 : Int32) < (1 : Int32)) ?_
        refine Wk.iconst (q := 169) (v := (-1 : Int32)) at_168 rfl rfl ?_
        refine Wk.istore (q := 171) (ls' := #[.val (.int p0), .val (.int p1), .val (.int p2), .val (.int p3), .val (.int p4), .val (.ref a1), .val (.int (1 : Int32)), .val (.int (4 : Int32)), .val (.int (2 : Int32)), .val (.int (-1 : Int32))]) at_169 rfl rfl ?_
        refine Wk.iload (q := 173) at_171 rfl rfl ?_
        refine Wk.iload (q := 175) at_173 rfl rfl ?_
        refine Wk.icmpF (q := 178) at_175 rfl (by decide : (1 : Int32) < (2 : Int32)) ?_
        refine Wk.iload (q := 180) at_178 rfl rfl ?_
        refine Wk.iload (q := 182) at_180 rfl rfl ?_
        refine Wk.icmpF (q := 185) at_182 rfl (by decide : (2 : Int32) < (4 : Int32)) ?_
        refine Wk.aload (q := 187) at_185 rfl rfl rfl ?_
        refine Wk.iload (q := 189) at_187 rfl rfl ?_
        refine Wk.baloadB (q := 190) A1 (by rw [S1]; decide) e_2 at_189 rfl ?_
        refine Wk.bipush (q := 192) (v := (58 : Int32)) at_190 rfl rfl ?_
        refine Wk.icmp (q := 199) (q' := 195) at_192 (by decide) rfl rfl (fun (h162 : ¬ b2 = (58 : Int32)) => ?_) (fun (h162 : b2 = (58 : Int32)) => ?_)
        · refine Wk.aload (q := 201) at_199 rfl rfl rfl ?_
          refine Wk.iload (q := 203) at_201 rfl rfl ?_
          refine Wk.iload (q := 205) at_203 rfl rfl ?_
          refine Wk.callS2 (q := 208) (argsL := [(.ref a1), (.int (1 : Int32)), (.int (4 : Int32))]) (rest := []) (fr := 0) (lo := 0) (P := fun w => (((tabN (b1 &&& (255 : Int32)).toNatClampNeg) = (0 : Int32)) ∧ w = (.int (-1 : Int32))) ∨ ((¬ (tabN (b1 &&& (255 : Int32)).toNatClampNeg) = (0 : Int32)) ∧ ((tabN (b2 &&& (255 : Int32)).toNatClampNeg) = (0 : Int32)) ∧ (b2 = (58 : Int32)) ∧ w = (.int (2 : Int32))) ∨ ((¬ (tabN (b1 &&& (255 : Int32)).toNatClampNeg) = (0 : Int32)) ∧ ((tabN (b2 &&& (255 : Int32)).toNatClampNeg) = (0 : Int32)) ∧ (¬ b2 = (58 : Int32)) ∧ w = (.int (-1 : Int32))) ∨ ((¬ (tabN (b1 &&& (255 : Int32)).toNatClampNeg) = (0 : Int32)) ∧ (¬ (tabN (b2 &&& (255 : Int32)).toNatClampNeg) = (0 : Int32)) ∧ ((tabN (b3 &&& (255 : Int32)).toNatClampNeg) = (0 : Int32)) ∧ (b3 = (58 : Int32)) ∧ w = (.int (3 : Int32))) ∨ ((¬ (tabN (b1 &&& (255 : Int32)).toNatClampNeg) = (0 : Int32)) ∧ (¬ (tabN (b2 &&& (255 : Int32)).toNatClampNeg) = (0 : Int32)) ∧ ((tabN (b3 &&& (255 : Int32)).toNatClampNeg) = (0 : Int32)) ∧ (¬ b3 = (58 : Int32)) ∧ w = (.int (-1 : Int32))) ∨ ((¬ (tabN (b1 &&& (255 : Int32)).toNatClampNeg) = (0 : Int32)) ∧ (¬ (tabN (b2 &&& (255 : Int32)).toNatClampNeg) = (0 : Int32)) ∧ (¬ (tabN (b3 &&& (255 : Int32)).toNatClampNeg) = (0 : Int32)) ∧ w = (.int (-1 : Int32)))) (m_8 hw F A1 S1 e_0 e_1 e_2 e_3) (w_6 hw) (w_7 hw) (w_8 hw) (w_9 hw) (by decide) pd_0 rfl rfl rfl at_205 rfl (W := 0) rfl (by decide) (by decide) (by decide) (by decide) ?_
          intro w163 hP; rcases hP with ⟨h164, rfl⟩ | ⟨h165, h166, h167, rfl⟩ | ⟨h168, h169, h170, rfl⟩ | ⟨h171, h172, h173, h174, rfl⟩ | ⟨h175, h176, h177, h178, rfl⟩ | ⟨h179, h180, h181, rfl⟩
          · exact absurd h164 h161
          · exact absurd h167 h162
          · refine Wk.iload (q := 210) at_208 rfl rfl ?_
            refine Wk.icmpF (q := 213) at_210 rfl (by decide : (-1 : Int32) = (-1 : Int32)) ?_
            refine Wk.iconst (q := 214) (v := (1 : Int32)) at_213 rfl rfl ?_
            refine Wk.goto (q := 218) at_214 (by decide) rfl ?_
            exact Wk.retZ rfl rfl at_218 (by decide) (by decide) rfl
          · exact absurd h101 h172
          · exact absurd h101 h176
          · exact absurd h101 h180
        · refine Wk.iload (q := 197) at_195 rfl rfl ?_
          refine Wk.istore (q := 199) (ls' := #[.val (.int p0), .val (.int p1), .val (.int p2), .val (.int p3), .val (.int p4), .val (.ref a1), .val (.int (1 : Int32)), .val (.int (4 : Int32)), .val (.int (2 : Int32)), .val (.int (2 : Int32))]) at_197 rfl rfl ?_
          refine Wk.aload (q := 201) at_199 rfl rfl rfl ?_
          refine Wk.iload (q := 203) at_201 rfl rfl ?_
          refine Wk.iload (q := 205) at_203 rfl rfl ?_
          refine Wk.callS2 (q := 208) (argsL := [(.ref a1), (.int (1 : Int32)), (.int (4 : Int32))]) (rest := []) (fr := 0) (lo := 0) (P := fun w => (((tabN (b1 &&& (255 : Int32)).toNatClampNeg) = (0 : Int32)) ∧ w = (.int (-1 : Int32))) ∨ ((¬ (tabN (b1 &&& (255 : Int32)).toNatClampNeg) = (0 : Int32)) ∧ ((tabN (b2 &&& (255 : Int32)).toNatClampNeg) = (0 : Int32)) ∧ (b2 = (58 : Int32)) ∧ w = (.int (2 : Int32))) ∨ ((¬ (tabN (b1 &&& (255 : Int32)).toNatClampNeg) = (0 : Int32)) ∧ ((tabN (b2 &&& (255 : Int32)).toNatClampNeg) = (0 : Int32)) ∧ (¬ b2 = (58 : Int32)) ∧ w = (.int (-1 : Int32))) ∨ ((¬ (tabN (b1 &&& (255 : Int32)).toNatClampNeg) = (0 : Int32)) ∧ (¬ (tabN (b2 &&& (255 : Int32)).toNatClampNeg) = (0 : Int32)) ∧ ((tabN (b3 &&& (255 : Int32)).toNatClampNeg) = (0 : Int32)) ∧ (b3 = (58 : Int32)) ∧ w = (.int (3 : Int32))) ∨ ((¬ (tabN (b1 &&& (255 : Int32)).toNatClampNeg) = (0 : Int32)) ∧ (¬ (tabN (b2 &&& (255 : Int32)).toNatClampNeg) = (0 : Int32)) ∧ ((tabN (b3 &&& (255 : Int32)).toNatClampNeg) = (0 : Int32)) ∧ (¬ b3 = (58 : Int32)) ∧ w = (.int (-1 : Int32))) ∨ ((¬ (tabN (b1 &&& (255 : Int32)).toNatClampNeg) = (0 : Int32)) ∧ (¬ (tabN (b2 &&& (255 : Int32)).toNatClampNeg) = (0 : Int32)) ∧ (¬ (tabN (b3 &&& (255 : Int32)).toNatClampNeg) = (0 : Int32)) ∧ w = (.int (-1 : Int32)))) (m_8 hw F A1 S1 e_0 e_1 e_2 e_3) (w_6 hw) (w_7 hw) (w_8 hw) (w_9 hw) (by decide) pd_0 rfl rfl rfl at_205 rfl (W := 0) rfl (by decide) (by decide) (by decide) (by decide) ?_
          intro w182 hP; rcases hP with ⟨h183, rfl⟩ | ⟨h184, h185, h186, rfl⟩ | ⟨h187, h188, h189, rfl⟩ | ⟨h190, h191, h192, h193, rfl⟩ | ⟨h194, h195, h196, h197, rfl⟩ | ⟨h198, h199, h200, rfl⟩
          · exact absurd h183 h161
          · refine Wk.iload (q := 210) at_208 rfl rfl ?_
            refine Wk.icmpF (q := 213) at_210 rfl (by decide : (2 : Int32) = (2 : Int32)) ?_
            refine Wk.iconst (q := 214) (v := (1 : Int32)) at_213 rfl rfl ?_
            refine Wk.goto (q := 218) at_214 (by decide) rfl ?_
            exact Wk.retZ rfl rfl at_218 (by decide) (by decide) rfl
          · exact absurd h162 h189
          · exact absurd h101 h191
          · exact absurd h101 h195
          · exact absurd h101 h199
      · refine Wk.iconst (q := 141) (v := (1 : Int32)) at_140 rfl rfl ?_
        refine Wk.istore (q := 143) (ls' := #[.val (.int p0), .val (.int p1), .val (.int p2), .val (.int p3), .val (.int p4), .val (.ref a1), .val (.int (1 : Int32)), .val (.int (4 : Int32)), .val (.int (1 : Int32)), .unset]) at_141 rfl rfl ?_
        refine Wk.iconst (q := 144) (v := (0 : Int32)) at_143 rfl rfl ?_
        refine Wk.iload (q := 146) at_144 rfl rfl ?_
        refine Wk.icmpT (q := 168) at_146 (by decide) rfl (by decide : (0 : Int32) < (1 : Int32)) ?_
        refine Wk.iconst (q := 169) (v := (-1 : Int32)) at_168 rfl rfl ?_
        refine Wk.istore (q := 171) (ls' := #[.val (.int p0), .val (.int p1), .val (.int p2), .val (.int p3), .val (.int p4), .val (.ref a1), .val (.int (1 : Int32)), .val (.int (4 : Int32)), .val (.int (1 : Int32)), .val (.int (-1 : Int32))]) at_169 rfl rfl ?_
        refine Wk.iload (q := 173) at_171 rfl rfl ?_
        refine Wk.iload (q := 175) at_173 rfl rfl ?_
        refine Wk.icmpT (q := 199) at_175 (by decide) rfl (by decide : ¬ (1 : Int32) < (1 : Int32)) ?_
        refine Wk.aload (q := 201) at_199 rfl rfl rfl ?_
        refine Wk.iload (q := 203) at_201 rfl rfl ?_
        refine Wk.iload (q := 205) at_203 rfl rfl ?_
        refine Wk.callS2 (q := 208) (argsL := [(.ref a1), (.int (1 : Int32)), (.int (4 : Int32))]) (rest := []) (fr := 0) (lo := 0) (P := fun w => (((tabN (b1 &&& (255 : Int32)).toNatClampNeg) = (0 : Int32)) ∧ w = (.int (-1 : Int32))) ∨ ((¬ (tabN (b1 &&& (255 : Int32)).toNatClampNeg) = (0 : Int32)) ∧ ((tabN (b2 &&& (255 : Int32)).toNatClampNeg) = (0 : Int32)) ∧ (b2 = (58 : Int32)) ∧ w = (.int (2 : Int32))) ∨ ((¬ (tabN (b1 &&& (255 : Int32)).toNatClampNeg) = (0 : Int32)) ∧ ((tabN (b2 &&& (255 : Int32)).toNatClampNeg) = (0 : Int32)) ∧ (¬ b2 = (58 : Int32)) ∧ w = (.int (-1 : Int32))) ∨ ((¬ (tabN (b1 &&& (255 : Int32)).toNatClampNeg) = (0 : Int32)) ∧ (¬ (tabN (b2 &&& (255 : Int32)).toNatClampNeg) = (0 : Int32)) ∧ ((tabN (b3 &&& (255 : Int32)).toNatClampNeg) = (0 : Int32)) ∧ (b3 = (58 : Int32)) ∧ w = (.int (3 : Int32))) ∨ ((¬ (tabN (b1 &&& (255 : Int32)).toNatClampNeg) = (0 : Int32)) ∧ (¬ (tabN (b2 &&& (255 : Int32)).toNatClampNeg) = (0 : Int32)) ∧ ((tabN (b3 &&& (255 : Int32)).toNatClampNeg) = (0 : Int32)) ∧ (¬ b3 = (58 : Int32)) ∧ w = (.int (-1 : Int32))) ∨ ((¬ (tabN (b1 &&& (255 : Int32)).toNatClampNeg) = (0 : Int32)) ∧ (¬ (tabN (b2 &&& (255 : Int32)).toNatClampNeg) = (0 : Int32)) ∧ (¬ (tabN (b3 &&& (255 : Int32)).toNatClampNeg) = (0 : Int32)) ∧ w = (.int (-1 : Int32)))) (m_8 hw F A1 S1 e_0 e_1 e_2 e_3) (w_6 hw) (w_7 hw) (w_8 hw) (w_9 hw) (by decide) pd_0 rfl rfl rfl at_205 rfl (W := 0) rfl (by decide) (by decide) (by decide) (by decide) ?_
        intro w201 hP; rcases hP with ⟨h202, rfl⟩ | ⟨h203, h204, h205, rfl⟩ | ⟨h206, h207, h208, rfl⟩ | ⟨h209, h210, h211, h212, rfl⟩ | ⟨h213, h214, h215, h216, rfl⟩ | ⟨h217, h218, h219, rfl⟩
        · refine Wk.iload (q := 210) at_208 rfl rfl ?_
          refine Wk.icmpF (q := 213) at_210 rfl (by decide : (-1 : Int32) = (-1 : Int32)) ?_
          refine Wk.iconst (q := 214) (v := (1 : Int32)) at_213 rfl rfl ?_
          refine Wk.goto (q := 218) at_214 (by decide) rfl ?_
          exact Wk.retZ rfl rfl at_218 (by decide) (by decide) rfl
        · exact absurd h161 h203
        · exact absurd h161 h206
        · exact absurd h161 h209
        · exact absurd h161 h213
        · exact absurd h161 h217
set_option maxRecDepth 65536 in
set_option maxHeartbeats 40000000 in
theorem law_tail_2_0 {l : Launch} {Z : State} {a0 : Array Value} {n0 : Nat} {h : Heap}  {a_T : Addr} {c_T : Cell} (hw : ∀ d ∈ tables_1, d.before a0 Z = true) (F : OwnF Z h  a_T c_T) {a1 : Addr} {c1 : Cell} {b0 b1 b2 b3 : Int32} (A1 : Arr Z h a1 c1 .byte) (S1 : c1.slots.size = 4) (e_0 : c1.slots[0]? = some (Value.int b0)) (e_1 : c1.slots[1]? = some (Value.int b1)) (e_2 : c1.slots[2]? = some (Value.int b2)) (e_3 : c1.slots[3]? = some (Value.int b3)) (p0 p1 p2 p3 p4 : Int32) (k_s : ((p4 &&& (2147483647 : Int32)) % (5 : Int32)) = (2 : Int32)) (k_e : (((XT.ushr p4 (8 : Int32)) &&& (2147483647 : Int32)) % (3 : Int32)) = (0 : Int32)) : Wk l Z n0 "com/example/tallykey/tallykey/HttpSyntaxNameEndPinLaw" "law" code maxLocals ret room_1 16 128 (fun v _ => v = some (.int (1 : Int32))) h 1 4 37 #[.val (.int p0), .val (.int p1), .val (.int p2), .val (.int p3), .val (.int p4), .val (.ref a1), .unset, .unset, .unset, .unset] [] := by
  refine Wk.iload (q := 39) at_37 rfl rfl ?_
  refine Wk.ldcI (q := 41) (w_5 hw) at_39 rfl ?_
  refine Wk.iand (q := 42) (v := (p4 &&& (2147483647 : Int32))) at_41 rfl rfl ?_
  refine Wk.iconst (q := 43) (v := (5 : Int32)) at_42 rfl rfl ?_
  refine Wk.irem (q := 44) (v := (2 : Int32)) at_43 rfl (by decide) k_s ?_
  refine Wk.istore (q := 46) (ls' := #[.val (.int p0), .val (.int p1), .val (.int p2), .val (.int p3), .val (.int p4), .val (.ref a1), .val (.int (2 : Int32)), .unset, .unset, .unset]) at_44 rfl rfl ?_
  refine Wk.iload (q := 48) at_46 rfl rfl ?_
  refine Wk.iload (q := 50) at_48 rfl rfl ?_
  refine Wk.bipush (q := 52) (v := (8 : Int32)) at_50 rfl rfl ?_
  refine Wk.iushr (q := 53) (v := (XT.ushr p4 (8 : Int32))) at_52 rfl rfl ?_
  refine Wk.ldcI (q := 55) (w_5 hw) at_53 rfl ?_
  refine Wk.iand (q := 56) (v := ((XT.ushr p4 (8 : Int32)) &&& (2147483647 : Int32))) at_55 rfl rfl ?_
  refine Wk.iconst (q := 57) (v := (5 : Int32)) at_56 rfl rfl ?_
  refine Wk.iload (q := 59) at_57 rfl rfl ?_
  refine Wk.isub (q := 60) (v := (3 : Int32)) at_59 rfl (by decide) ?_
  refine Wk.irem (q := 61) (v := (0 : Int32)) at_60 rfl (by decide) k_e ?_
  refine Wk.iadd (q := 62) (v := (2 : Int32)) at_61 rfl (by decide) ?_
  refine Wk.istore (q := 64) (ls' := #[.val (.int p0), .val (.int p1), .val (.int p2), .val (.int p3), .val (.int p4), .val (.ref a1), .val (.int (2 : Int32)), .val (.int (2 : Int32)), .unset, .unset]) at_62 rfl rfl ?_
  refine Wk.iload (q := 66) at_64 rfl rfl ?_
  refine Wk.istore (q := 68) (ls' := #[.val (.int p0), .val (.int p1), .val (.int p2), .val (.int p3), .val (.int p4), .val (.ref a1), .val (.int (2 : Int32)), .val (.int (2 : Int32)), .val (.int (2 : Int32)), .unset]) at_66 rfl rfl ?_
  refine Wk.iconst (q := 69) (v := (3 : Int32)) at_68 rfl rfl ?_
  refine Wk.iload (q := 71) at_69 rfl rfl ?_
  refine Wk.icmpF (q := 74) at_71 rfl (by decide : ¬ (3 : Int32) < (2 : Int32)) ?_
  refine Wk.iconst (q := 75) (v := (3 : Int32)) at_74 rfl rfl ?_
  refine Wk.iload (q := 77) at_75 rfl rfl ?_
  refine Wk.icmpT (q := 93) at_77 (by decide) rfl (by decide : ¬ (3 : Int32) < (2 : Int32)) ?_
  refine Wk.iconst (q := 94) (v := (2 : Int32)) at_93 rfl rfl ?_
  refine Wk.iload (q := 96) at_94 rfl rfl ?_
  refine Wk.icmpF (q := 99) at_96 rfl (by decide : ¬ (2 : Int32) < (2 : Int32)) ?_
  refine Wk.iconst (q := 100) (v := (2 : Int32)) at_99 rfl rfl ?_
  refine Wk.iload (q := 102) at_100 rfl rfl ?_
  refine Wk.icmpT (q := 118) at_102 (by decide) rfl (by decide : ¬ (2 : Int32) < (2 : Int32)) ?_
  refine Wk.iconst (q := 119) (v := (1 : Int32)) at_118 rfl rfl ?_
  refine Wk.iload (q := 121) at_119 rfl rfl ?_
  refine Wk.icmpT (q := 143) at_121 (by decide) rfl (by decide : (1 : Int32) < (2 : Int32)) ?_
  refine Wk.iconst (q := 144) (v := (0 : Int32)) at_143 rfl rfl ?_
  refine Wk.iload (q := 146) at_144 rfl rfl ?_
  refine Wk.icmpT (q := 168) at_146 (by decide) rfl (by decide : (0 : Int32) < (2 : Int32)) ?_
  refine Wk.iconst (q := 169) (v := (-1 : Int32)) at_168 rfl rfl ?_
  refine Wk.istore (q := 171) (ls' := #[.val (.int p0), .val (.int p1), .val (.int p2), .val (.int p3), .val (.int p4), .val (.ref a1), .val (.int (2 : Int32)), .val (.int (2 : Int32)), .val (.int (2 : Int32)), .val (.int (-1 : Int32))]) at_169 rfl rfl ?_
  refine Wk.iload (q := 173) at_171 rfl rfl ?_
  refine Wk.iload (q := 175) at_173 rfl rfl ?_
  refine Wk.icmpT (q := 199) at_175 (by decide) rfl (by decide : ¬ (2 : Int32) < (2 : Int32)) ?_
  refine Wk.aload (q := 201) at_199 rfl rfl rfl ?_
  refine Wk.iload (q := 203) at_201 rfl rfl ?_
  refine Wk.iload (q := 205) at_203 rfl rfl ?_
  refine Wk.callS1 (q := 208) (argsL := [(.ref a1), (.int (2 : Int32)), (.int (2 : Int32))]) (rest := []) (fr := 0) (lo := 0) (v0 := (.int (-1 : Int32))) (m_9 hw F A1 S1 e_0 e_1 e_2 e_3) (w_6 hw) (w_7 hw) (w_8 hw) (w_9 hw) (by decide) pd_0 rfl rfl rfl at_205 rfl (W := 0) rfl (by decide) (by decide) (by decide) (by decide) ?_
  refine Wk.iload (q := 210) at_208 rfl rfl ?_
  refine Wk.icmpF (q := 213) at_210 rfl (by decide : (-1 : Int32) = (-1 : Int32)) ?_
  refine Wk.iconst (q := 214) (v := (1 : Int32)) at_213 rfl rfl ?_
  refine Wk.goto (q := 218) at_214 (by decide) rfl ?_
  exact Wk.retZ rfl rfl at_218 (by decide) (by decide) rfl
set_option maxRecDepth 65536 in
set_option maxHeartbeats 40000000 in
theorem law_tail_2_1 {l : Launch} {Z : State} {a0 : Array Value} {n0 : Nat} {h : Heap}  {a_T : Addr} {c_T : Cell} (hw : ∀ d ∈ tables_1, d.before a0 Z = true) (F : OwnF Z h  a_T c_T) {a1 : Addr} {c1 : Cell} {b0 b1 b2 b3 : Int32} (A1 : Arr Z h a1 c1 .byte) (S1 : c1.slots.size = 4) (e_0 : c1.slots[0]? = some (Value.int b0)) (e_1 : c1.slots[1]? = some (Value.int b1)) (e_2 : c1.slots[2]? = some (Value.int b2)) (e_3 : c1.slots[3]? = some (Value.int b3)) (p0 p1 p2 p3 p4 : Int32) (k_s : ((p4 &&& (2147483647 : Int32)) % (5 : Int32)) = (2 : Int32)) (k_e : (((XT.ushr p4 (8 : Int32)) &&& (2147483647 : Int32)) % (3 : Int32)) = (1 : Int32)) : Wk l Z n0 "com/example/tallykey/tallykey/HttpSyntaxNameEndPinLaw" "law" code maxLocals ret room_1 16 128 (fun v _ => v = some (.int (1 : Int32))) h 1 4 37 #[.val (.int p0), .val (.int p1), .val (.int p2), .val (.int p3), .val (.int p4), .val (.ref a1), .unset, .unset, .unset, .unset] [] := by
  refine Wk.iload (q := 39) at_37 rfl rfl ?_
  refine Wk.ldcI (q := 41) (w_5 hw) at_39 rfl ?_
  refine Wk.iand (q := 42) (v := (p4 &&& (2147483647 : Int32))) at_41 rfl rfl ?_
  refine Wk.iconst (q := 43) (v := (5 : Int32)) at_42 rfl rfl ?_
  refine Wk.irem (q := 44) (v := (2 : Int32)) at_43 rfl (by decide) k_s ?_
  refine Wk.istore (q := 46) (ls' := #[.val (.int p0), .val (.int p1), .val (.int p2), .val (.int p3), .val (.int p4), .val (.ref a1), .val (.int (2 : Int32)), .unset, .unset, .unset]) at_44 rfl rfl ?_
  refine Wk.iload (q := 48) at_46 rfl rfl ?_
  refine Wk.iload (q := 50) at_48 rfl rfl ?_
  refine Wk.bipush (q := 52) (v := (8 : Int32)) at_50 rfl rfl ?_
  refine Wk.iushr (q := 53) (v := (XT.ushr p4 (8 : Int32))) at_52 rfl rfl ?_
  refine Wk.ldcI (q := 55) (w_5 hw) at_53 rfl ?_
  refine Wk.iand (q := 56) (v := ((XT.ushr p4 (8 : Int32)) &&& (2147483647 : Int32))) at_55 rfl rfl ?_
  refine Wk.iconst (q := 57) (v := (5 : Int32)) at_56 rfl rfl ?_
  refine Wk.iload (q := 59) at_57 rfl rfl ?_
  refine Wk.isub (q := 60) (v := (3 : Int32)) at_59 rfl (by decide) ?_
  refine Wk.irem (q := 61) (v := (1 : Int32)) at_60 rfl (by decide) k_e ?_
  refine Wk.iadd (q := 62) (v := (3 : Int32)) at_61 rfl (by decide) ?_
  refine Wk.istore (q := 64) (ls' := #[.val (.int p0), .val (.int p1), .val (.int p2), .val (.int p3), .val (.int p4), .val (.ref a1), .val (.int (2 : Int32)), .val (.int (3 : Int32)), .unset, .unset]) at_62 rfl rfl ?_
  refine Wk.iload (q := 66) at_64 rfl rfl ?_
  refine Wk.istore (q := 68) (ls' := #[.val (.int p0), .val (.int p1), .val (.int p2), .val (.int p3), .val (.int p4), .val (.ref a1), .val (.int (2 : Int32)), .val (.int (3 : Int32)), .val (.int (3 : Int32)), .unset]) at_66 rfl rfl ?_
  refine Wk.iconst (q := 69) (v := (3 : Int32)) at_68 rfl rfl ?_
  refine Wk.iload (q := 71) at_69 rfl rfl ?_
  refine Wk.icmpF (q := 74) at_71 rfl (by decide : ¬ (3 : Int32) < (2 : Int32)) ?_
  refine Wk.iconst (q := 75) (v := (3 : Int32)) at_74 rfl rfl ?_
  refine Wk.iload (q := 77) at_75 rfl rfl ?_
  refine Wk.icmpT (q := 93) at_77 (by decide) rfl (by decide : ¬ (3 : Int32) < (3 : Int32)) ?_
  refine Wk.iconst (q := 94) (v := (2 : Int32)) at_93 rfl rfl ?_
  refine Wk.iload (q := 96) at_94 rfl rfl ?_
  refine Wk.icmpF (q := 99) at_96 rfl (by decide : ¬ (2 : Int32) < (2 : Int32)) ?_
  refine Wk.iconst (q := 100) (v := (2 : Int32)) at_99 rfl rfl ?_
  refine Wk.iload (q := 102) at_100 rfl rfl ?_
  refine Wk.icmpF (q := 105) at_102 rfl (by decide : (2 : Int32) < (3 : Int32)) ?_
  refine Wk.aload (q := 107) at_105 rfl rfl rfl ?_
  refine Wk.iconst (q := 108) (v := (2 : Int32)) at_107 rfl rfl ?_
  refine Wk.baloadB (q := 109) A1 (by rw [S1]; decide) e_2 at_108 rfl ?_
  refine Wk.callS1 (q := 112) (argsL := [(.int b2)]) (rest := []) (fr := 0) (lo := 0) (v0 := (.int (tabN (b2 &&& (255 : Int32)).toNatClampNeg))) (m_cls hw F b2) (w_10 hw) (w_11 hw) (w_3 hw) (w_12 hw) (by decide) pd_1 rfl rfl rfl at_109 rfl (W := 0) rfl (by decide) (by decide) (by decide) (by decide) ?_
  refine Wk.ifc (q := 118) (q' := 115) at_112 (by decide) rfl rfl (fun (h1 : ¬ (tabN (b2 &&& (255 : Int32)).toNatClampNeg) = (0 : Int32)) => ?_) (fun (h1 : (tabN (b2 &&& (255 : Int32)).toNatClampNeg) = (0 : Int32)) => ?_)
  · refine Wk.iconst (q := 119) (v := (1 : Int32)) at_118 rfl rfl ?_
    refine Wk.iload (q := 121) at_119 rfl rfl ?_
    refine Wk.icmpT (q := 143) at_121 (by decide) rfl (by decide : (1 : Int32) < (2 : Int32)) ?_
    refine Wk.iconst (q := 144) (v := (0 : Int32)) at_143 rfl rfl ?_
    refine Wk.iload (q := 146) at_144 rfl rfl ?_
    refine Wk.icmpT (q := 168) at_146 (by decide) rfl (by decide : (0 : Int32) < (2 : Int32)) ?_
    refine Wk.iconst (q := 169) (v := (-1 : Int32)) at_168 rfl rfl ?_
    refine Wk.istore (q := 171) (ls' := #[.val (.int p0), .val (.int p1), .val (.int p2), .val (.int p3), .val (.int p4), .val (.ref a1), .val (.int (2 : Int32)), .val (.int (3 : Int32)), .val (.int (3 : Int32)), .val (.int (-1 : Int32))]) at_169 rfl rfl ?_
    refine Wk.iload (q := 173) at_171 rfl rfl ?_
    refine Wk.iload (q := 175) at_173 rfl rfl ?_
    refine Wk.icmpF (q := 178) at_175 rfl (by decide : (2 : Int32) < (3 : Int32)) ?_
    refine Wk.iload (q := 180) at_178 rfl rfl ?_
    refine Wk.iload (q := 182) at_180 rfl rfl ?_
    refine Wk.icmpT (q := 199) at_182 (by decide) rfl (by decide : ¬ (3 : Int32) < (3 : Int32)) ?_
    refine Wk.aload (q := 201) at_199 rfl rfl rfl ?_
    refine Wk.iload (q := 203) at_201 rfl rfl ?_
    refine Wk.iload (q := 205) at_203 rfl rfl ?_
    refine Wk.callS2 (q := 208) (argsL := [(.ref a1), (.int (2 : Int32)), (.int (3 : Int32))]) (rest := []) (fr := 0) (lo := 0) (P := fun w => (((tabN (b2 &&& (255 : Int32)).toNatClampNeg) = (0 : Int32)) ∧ w = (.int (-1 : Int32))) ∨ ((¬ (tabN (b2 &&& (255 : Int32)).toNatClampNeg) = (0 : Int32)) ∧ w = (.int (-1 : Int32)))) (m_10 hw F A1 S1 e_0 e_1 e_2 e_3) (w_6 hw) (w_7 hw) (w_8 hw) (w_9 hw) (by decide) pd_0 rfl rfl rfl at_205 rfl (W := 0) rfl (by decide) (by decide) (by decide) (by decide) ?_
    intro w2 hP; rcases hP with ⟨h3, rfl⟩ | ⟨h4, rfl⟩
    · exact absurd h3 h1
    · refine Wk.iload (q := 210) at_208 rfl rfl ?_
      refine Wk.icmpF (q := 213) at_210 rfl (by decide : (-1 : Int32) = (-1 : Int32)) ?_
      refine Wk.iconst (q := 214) (v := (1 : Int32)) at_213 rfl rfl ?_
      refine Wk.goto (q := 218) at_214 (by decide) rfl ?_
      exact Wk.retZ rfl rfl at_218 (by decide) (by decide) rfl
  · refine Wk.iconst (q := 116) (v := (2 : Int32)) at_115 rfl rfl ?_
    refine Wk.istore (q := 118) (ls' := #[.val (.int p0), .val (.int p1), .val (.int p2), .val (.int p3), .val (.int p4), .val (.ref a1), .val (.int (2 : Int32)), .val (.int (3 : Int32)), .val (.int (2 : Int32)), .unset]) at_116 rfl rfl ?_
    refine Wk.iconst (q := 119) (v := (1 : Int32)) at_118 rfl rfl ?_
    refine Wk.iload (q := 121) at_119 rfl rfl ?_
    refine Wk.icmpT (q := 143) at_121 (by decide) rfl (by decide : (1 : Int32) < (2 : Int32)) ?_
    refine Wk.iconst (q := 144) (v := (0 : Int32)) at_143 rfl rfl ?_
    refine Wk.iload (q := 146) at_144 rfl rfl ?_
    refine Wk.icmpT (q := 168) at_146 (by decide) rfl (by decide : (0 : Int32) < (2 : Int32)) ?_
    refine Wk.iconst (q := 169) (v := (-1 : Int32)) at_168 rfl rfl ?_
    refine Wk.istore (q := 171) (ls' := #[.val (.int p0), .val (.int p1), .val (.int p2), .val (.int p3), .val (.int p4), .val (.ref a1), .val (.int (2 : Int32)), .val (.int (3 : Int32)), .val (.int (2 : Int32)), .val (.int (-1 : Int32))]) at_169 rfl rfl ?_
    refine Wk.iload (q := 173) at_171 rfl rfl ?_
    refine Wk.iload (q := 175) at_173 rfl rfl ?_
    refine Wk.icmpT (q := 199) at_175 (by decide) rfl (by decide : ¬ (2 : Int32) < (2 : Int32)) ?_
    refine Wk.aload (q := 201) at_199 rfl rfl rfl ?_
    refine Wk.iload (q := 203) at_201 rfl rfl ?_
    refine Wk.iload (q := 205) at_203 rfl rfl ?_
    refine Wk.callS2 (q := 208) (argsL := [(.ref a1), (.int (2 : Int32)), (.int (3 : Int32))]) (rest := []) (fr := 0) (lo := 0) (P := fun w => (((tabN (b2 &&& (255 : Int32)).toNatClampNeg) = (0 : Int32)) ∧ w = (.int (-1 : Int32))) ∨ ((¬ (tabN (b2 &&& (255 : Int32)).toNatClampNeg) = (0 : Int32)) ∧ w = (.int (-1 : Int32)))) (m_10 hw F A1 S1 e_0 e_1 e_2 e_3) (w_6 hw) (w_7 hw) (w_8 hw) (w_9 hw) (by decide) pd_0 rfl rfl rfl at_205 rfl (W := 0) rfl (by decide) (by decide) (by decide) (by decide) ?_
    intro w5 hP; rcases hP with ⟨h6, rfl⟩ | ⟨h7, rfl⟩
    · refine Wk.iload (q := 210) at_208 rfl rfl ?_
      refine Wk.icmpF (q := 213) at_210 rfl (by decide : (-1 : Int32) = (-1 : Int32)) ?_
      refine Wk.iconst (q := 214) (v := (1 : Int32)) at_213 rfl rfl ?_
      refine Wk.goto (q := 218) at_214 (by decide) rfl ?_
      exact Wk.retZ rfl rfl at_218 (by decide) (by decide) rfl
    · exact absurd h1 h7
set_option maxRecDepth 65536 in
set_option maxHeartbeats 40000000 in
theorem law_tail_2_2 {l : Launch} {Z : State} {a0 : Array Value} {n0 : Nat} {h : Heap}  {a_T : Addr} {c_T : Cell} (hw : ∀ d ∈ tables_1, d.before a0 Z = true) (F : OwnF Z h  a_T c_T) {a1 : Addr} {c1 : Cell} {b0 b1 b2 b3 : Int32} (A1 : Arr Z h a1 c1 .byte) (S1 : c1.slots.size = 4) (e_0 : c1.slots[0]? = some (Value.int b0)) (e_1 : c1.slots[1]? = some (Value.int b1)) (e_2 : c1.slots[2]? = some (Value.int b2)) (e_3 : c1.slots[3]? = some (Value.int b3)) (p0 p1 p2 p3 p4 : Int32) (k_s : ((p4 &&& (2147483647 : Int32)) % (5 : Int32)) = (2 : Int32)) (k_e : (((XT.ushr p4 (8 : Int32)) &&& (2147483647 : Int32)) % (3 : Int32)) = (2 : Int32)) : Wk l Z n0 "com/example/tallykey/tallykey/HttpSyntaxNameEndPinLaw" "law" code maxLocals ret room_1 16 128 (fun v _ => v = some (.int (1 : Int32))) h 1 4 37 #[.val (.int p0), .val (.int p1), .val (.int p2), .val (.int p3), .val (.int p4), .val (.ref a1), .unset, .unset, .unset, .unset] [] := by
  refine Wk.iload (q := 39) at_37 rfl rfl ?_
  refine Wk.ldcI (q := 41) (w_5 hw) at_39 rfl ?_
  refine Wk.iand (q := 42) (v := (p4 &&& (2147483647 : Int32))) at_41 rfl rfl ?_
  refine Wk.iconst (q := 43) (v := (5 : Int32)) at_42 rfl rfl ?_
  refine Wk.irem (q := 44) (v := (2 : Int32)) at_43 rfl (by decide) k_s ?_
  refine Wk.istore (q := 46) (ls' := #[.val (.int p0), .val (.int p1), .val (.int p2), .val (.int p3), .val (.int p4), .val (.ref a1), .val (.int (2 : Int32)), .unset, .unset, .unset]) at_44 rfl rfl ?_
  refine Wk.iload (q := 48) at_46 rfl rfl ?_
  refine Wk.iload (q := 50) at_48 rfl rfl ?_
  refine Wk.bipush (q := 52) (v := (8 : Int32)) at_50 rfl rfl ?_
  refine Wk.iushr (q := 53) (v := (XT.ushr p4 (8 : Int32))) at_52 rfl rfl ?_
  refine Wk.ldcI (q := 55) (w_5 hw) at_53 rfl ?_
  refine Wk.iand (q := 56) (v := ((XT.ushr p4 (8 : Int32)) &&& (2147483647 : Int32))) at_55 rfl rfl ?_
  refine Wk.iconst (q := 57) (v := (5 : Int32)) at_56 rfl rfl ?_
  refine Wk.iload (q := 59) at_57 rfl rfl ?_
  refine Wk.isub (q := 60) (v := (3 : Int32)) at_59 rfl (by decide) ?_
  refine Wk.irem (q := 61) (v := (2 : Int32)) at_60 rfl (by decide) k_e ?_
  refine Wk.iadd (q := 62) (v := (4 : Int32)) at_61 rfl (by decide) ?_
  refine Wk.istore (q := 64) (ls' := #[.val (.int p0), .val (.int p1), .val (.int p2), .val (.int p3), .val (.int p4), .val (.ref a1), .val (.int (2 : Int32)), .val (.int (4 : Int32)), .unset, .unset]) at_62 rfl rfl ?_
  refine Wk.iload (q := 66) at_64 rfl rfl ?_
  refine Wk.istore (q := 68) (ls' := #[.val (.int p0), .val (.int p1), .val (.int p2), .val (.int p3), .val (.int p4), .val (.ref a1), .val (.int (2 : Int32)), .val (.int (4 : Int32)), .val (.int (4 : Int32)), .unset]) at_66 rfl rfl ?_
  refine Wk.iconst (q := 69) (v := (3 : Int32)) at_68 rfl rfl ?_
  refine Wk.iload (q := 71) at_69 rfl rfl ?_
  refine Wk.icmpF (q := 74) at_71 rfl (by decide : ¬ (3 : Int32) < (2 : Int32)) ?_
  refine Wk.iconst (q := 75) (v := (3 : Int32)) at_74 rfl rfl ?_
  refine Wk.iload (q := 77) at_75 rfl rfl ?_
  refine Wk.icmpF (q := 80) at_77 rfl (by decide : (3 : Int32) < (4 : Int32)) ?_
  refine Wk.aload (q := 82) at_80 rfl rfl rfl ?_
  refine Wk.iconst (q := 83) (v := (3 : Int32)) at_82 rfl rfl ?_
  refine Wk.baloadB (q := 84) A1 (by rw [S1]; decide) e_3 at_83 rfl ?_
  refine Wk.callS1 (q := 87) (argsL := [(.int b3)]) (rest := []) (fr := 0) (lo := 0) (v0 := (.int (tabN (b3 &&& (255 : Int32)).toNatClampNeg))) (m_cls hw F b3) (w_10 hw) (w_11 hw) (w_3 hw) (w_12 hw) (by decide) pd_1 rfl rfl rfl at_84 rfl (W := 0) rfl (by decide) (by decide) (by decide) (by decide) ?_
  refine Wk.ifc (q := 93) (q' := 90) at_87 (by decide) rfl rfl (fun (h1 : ¬ (tabN (b3 &&& (255 : Int32)).toNatClampNeg) = (0 : Int32)) => ?_) (fun (h1 : (tabN (b3 &&& (255 : Int32)).toNatClampNeg) = (0 : Int32)) => ?_)
  · refine Wk.iconst (q := 94) (v := (2 : Int32)) at_93 rfl rfl ?_
    refine Wk.iload (q := 96) at_94 rfl rfl ?_
    refine Wk.icmpF (q := 99) at_96 rfl (by decide : ¬ (2 : Int32) < (2 : Int32)) ?_
    refine Wk.iconst (q := 100) (v := (2 : Int32)) at_99 rfl rfl ?_
    refine Wk.iload (q := 102) at_100 rfl rfl ?_
    refine Wk.icmpF (q := 105) at_102 rfl (by decide : (2 : Int32) < (4 : Int32)) ?_
    refine Wk.aload (q := 107) at_105 rfl rfl rfl ?_
    refine Wk.iconst (q := 108) (v := (2 : Int32)) at_107 rfl rfl ?_
    refine Wk.baloadB (q := 109) A1 (by rw [S1]; decide) e_2 at_108 rfl ?_
    refine Wk.callS1 (q := 112) (argsL := [(.int b2)]) (rest := []) (fr := 0) (lo := 0) (v0 := (.int (tabN (b2 &&& (255 : Int32)).toNatClampNeg))) (m_cls hw F b2) (w_10 hw) (w_11 hw) (w_3 hw) (w_12 hw) (by decide) pd_1 rfl rfl rfl at_109 rfl (W := 0) rfl (by decide) (by decide) (by decide) (by decide) ?_
    refine Wk.ifc (q := 118) (q' := 115) at_112 (by decide) rfl rfl (fun (h2 : ¬ (tabN (b2 &&& (255 : Int32)).toNatClampNeg) = (0 : Int32)) => ?_) (fun (h2 : (tabN (b2 &&& (255 : Int32)).toNatClampNeg) = (0 : Int32)) => ?_)
    · refine Wk.iconst (q := 119) (v := (1 : Int32)) at_118 rfl rfl ?_
      refine Wk.iload (q := 121) at_119 rfl rfl ?_
      refine Wk.icmpT (q := 143) at_121 (by decide) rfl (by decide : (1 : Int32) < (2 : Int32)) ?_
      refine Wk.iconst (q := 144) (v := (0 : Int32)) at_143 rfl rfl ?_
      refine Wk.iload (q := 146) at_144 rfl rfl ?_
      refine Wk.icmpT (q := 168) at_146 (by decide) rfl (by decide : (0 : Int32) < (2 : Int32)) ?_
      refine Wk.iconst (q := 169) (v := (-1 : Int32)) at_168 rfl rfl ?_
      refine Wk.istore (q := 171) (ls' := #[.val (.int p0), .val (.int p1), .val (.int p2), .val (.int p3), .val (.int p4), .val (.ref a1), .val (.int (2 : Int32)), .val (.int (4 : Int32)), .val (.int (4 : Int32)), .val (.int (-1 : Int32))]) at_169 rfl rfl ?_
      refine Wk.iload (q := 173) at_171 rfl rfl ?_
      refine Wk.iload (q := 175) at_173 rfl rfl ?_
      refine Wk.icmpF (q := 178) at_175 rfl (by decide : (2 : Int32) < (4 : Int32)) ?_
      refine Wk.iload (q := 180) at_178 rfl rfl ?_
      refine Wk.iload (q := 182) at_180 rfl rfl ?_
      refine Wk.icmpT (q := 199) at_182 (by decide) rfl (by decide : ¬ (4 : Int32) < (4 : Int32)) ?_
      refine Wk.aload (q := 201) at_199 rfl rfl rfl ?_
      refine Wk.iload (q := 203) at_201 rfl rfl ?_
      refine Wk.iload (q := 205) at_203 rfl rfl ?_
      refine Wk.callS2 (q := 208) (argsL := [(.ref a1), (.int (2 : Int32)), (.int (4 : Int32))]) (rest := []) (fr := 0) (lo := 0) (P := fun w => (((tabN (b2 &&& (255 : Int32)).toNatClampNeg) = (0 : Int32)) ∧ w = (.int (-1 : Int32))) ∨ ((¬ (tabN (b2 &&& (255 : Int32)).toNatClampNeg) = (0 : Int32)) ∧ ((tabN (b3 &&& (255 : Int32)).toNatClampNeg) = (0 : Int32)) ∧ (b3 = (58 : Int32)) ∧ w = (.int (3 : Int32))) ∨ ((¬ (tabN (b2 &&& (255 : Int32)).toNatClampNeg) = (0 : Int32)) ∧ ((tabN (b3 &&& (255 : Int32)).toNatClampNeg) = (0 : Int32)) ∧ (¬ b3 = (58 : Int32)) ∧ w = (.int (-1 : Int32))) ∨ ((¬ (tabN (b2 &&& (255 : Int32)).toNatClampNeg) = (0 : Int32)) ∧ (¬ (tabN (b3 &&& (255 : Int32)).toNatClampNeg) = (0 : Int32)) ∧ w = (.int (-1 : Int32)))) (m_11 hw F A1 S1 e_0 e_1 e_2 e_3) (w_6 hw) (w_7 hw) (w_8 hw) (w_9 hw) (by decide) pd_0 rfl rfl rfl at_205 rfl (W := 0) rfl (by decide) (by decide) (by decide) (by decide) ?_
      intro w3 hP; rcases hP with ⟨h4, rfl⟩ | ⟨h5, h6, h7, rfl⟩ | ⟨h8, h9, h10, rfl⟩ | ⟨h11, h12, rfl⟩
      · exact absurd h4 h2
      · exact absurd h6 h1
      · exact absurd h9 h1
      · refine Wk.iload (q := 210) at_208 rfl rfl ?_
        refine Wk.icmpF (q := 213) at_210 rfl (by decide : (-1 : Int32) = (-1 : Int32)) ?_
        refine Wk.iconst (q := 214) (v := (1 : Int32)) at_213 rfl rfl ?_
        refine Wk.goto (q := 218) at_214 (by decide) rfl ?_
        exact Wk.retZ rfl rfl at_218 (by decide) (by decide) rfl
    · refine Wk.iconst (q := 116) (v := (2 : Int32)) at_115 rfl rfl ?_
      refine Wk.istore (q := 118) (ls' := #[.val (.int p0), .val (.int p1), .val (.int p2), .val (.int p3), .val (.int p4), .val (.ref a1), .val (.int (2 : Int32)), .val (.int (4 : Int32)), .val (.int (2 : Int32)), .unset]) at_116 rfl rfl ?_
      refine Wk.iconst (q := 119) (v := (1 : Int32)) at_118 rfl rfl ?_
      refine Wk.iload (q := 121) at_119 rfl rfl ?_
      refine Wk.icmpT (q := 143) at_121 (by decide) rfl (by decide : (1 : Int32) < (2 : Int32)) ?_
      refine Wk.iconst (q := 144) (v := (0 : Int32)) at_143 rfl rfl ?_
      refine Wk.iload (q := 146) at_144 rfl rfl ?_
      refine Wk.icmpT (q := 168) at_146 (by decide) rfl (by decide : (0 : Int32) < (2 : Int32)) ?_
      refine Wk.iconst (q := 169) (v := (-1 : Int32)) at_168 rfl rfl ?_
      refine Wk.istore (q := 171) (ls' := #[.val (.int p0), .val (.int p1), .val (.int p2), .val (.int p3), .val (.int p4), .val (.ref a1), .val (.int (2 : Int32)), .val (.int (4 : Int32)), .val (.int (2 : Int32)), .val (.int (-1 : Int32))]) at_169 rfl rfl ?_
      refine Wk.iload (q := 173) at_171 rfl rfl ?_
      refine Wk.iload (q := 175) at_173 rfl rfl ?_
      refine Wk.icmpT (q := 199) at_175 (by decide) rfl (by decide : ¬ (2 : Int32) < (2 : Int32)) ?_
      refine Wk.aload (q := 201) at_199 rfl rfl rfl ?_
      refine Wk.iload (q := 203) at_201 rfl rfl ?_
      refine Wk.iload (q := 205) at_203 rfl rfl ?_
      refine Wk.callS2 (q := 208) (argsL := [(.ref a1), (.int (2 : Int32)), (.int (4 : Int32))]) (rest := []) (fr := 0) (lo := 0) (P := fun w => (((tabN (b2 &&& (255 : Int32)).toNatClampNeg) = (0 : Int32)) ∧ w = (.int (-1 : Int32))) ∨ ((¬ (tabN (b2 &&& (255 : Int32)).toNatClampNeg) = (0 : Int32)) ∧ ((tabN (b3 &&& (255 : Int32)).toNatClampNeg) = (0 : Int32)) ∧ (b3 = (58 : Int32)) ∧ w = (.int (3 : Int32))) ∨ ((¬ (tabN (b2 &&& (255 : Int32)).toNatClampNeg) = (0 : Int32)) ∧ ((tabN (b3 &&& (255 : Int32)).toNatClampNeg) = (0 : Int32)) ∧ (¬ b3 = (58 : Int32)) ∧ w = (.int (-1 : Int32))) ∨ ((¬ (tabN (b2 &&& (255 : Int32)).toNatClampNeg) = (0 : Int32)) ∧ (¬ (tabN (b3 &&& (255 : Int32)).toNatClampNeg) = (0 : Int32)) ∧ w = (.int (-1 : Int32)))) (m_11 hw F A1 S1 e_0 e_1 e_2 e_3) (w_6 hw) (w_7 hw) (w_8 hw) (w_9 hw) (by decide) pd_0 rfl rfl rfl at_205 rfl (W := 0) rfl (by decide) (by decide) (by decide) (by decide) ?_
      intro w13 hP; rcases hP with ⟨h14, rfl⟩ | ⟨h15, h16, h17, rfl⟩ | ⟨h18, h19, h20, rfl⟩ | ⟨h21, h22, rfl⟩
      · refine Wk.iload (q := 210) at_208 rfl rfl ?_
        refine Wk.icmpF (q := 213) at_210 rfl (by decide : (-1 : Int32) = (-1 : Int32)) ?_
        refine Wk.iconst (q := 214) (v := (1 : Int32)) at_213 rfl rfl ?_
        refine Wk.goto (q := 218) at_214 (by decide) rfl ?_
        exact Wk.retZ rfl rfl at_218 (by decide) (by decide) rfl
      · exact absurd h2 h15
      · exact absurd h2 h18
      · exact absurd h2 h21
  · refine Wk.iconst (q := 91) (v := (3 : Int32)) at_90 rfl rfl ?_
    refine Wk.istore (q := 93) (ls' := #[.val (.int p0), .val (.int p1), .val (.int p2), .val (.int p3), .val (.int p4), .val (.ref a1), .val (.int (2 : Int32)), .val (.int (4 : Int32)), .val (.int (3 : Int32)), .unset]) at_91 rfl rfl ?_
    refine Wk.iconst (q := 94) (v := (2 : Int32)) at_93 rfl rfl ?_
    refine Wk.iload (q := 96) at_94 rfl rfl ?_
    refine Wk.icmpF (q := 99) at_96 rfl (by decide : ¬ (2 : Int32) < (2 : Int32)) ?_
    refine Wk.iconst (q := 100) (v := (2 : Int32)) at_99 rfl rfl ?_
    refine Wk.iload (q := 102) at_100 rfl rfl ?_
    refine Wk.icmpF (q := 105) at_102 rfl (by decide : (2 : Int32) < (4 : Int32)) ?_
    refine Wk.aload (q := 107) at_105 rfl rfl rfl ?_
    refine Wk.iconst (q := 108) (v := (2 : Int32)) at_107 rfl rfl ?_
    refine Wk.baloadB (q := 109) A1 (by rw [S1]; decide) e_2 at_108 rfl ?_
    refine Wk.callS1 (q := 112) (argsL := [(.int b2)]) (rest := []) (fr := 0) (lo := 0) (v0 := (.int (tabN (b2 &&& (255 : Int32)).toNatClampNeg))) (m_cls hw F b2) (w_10 hw) (w_11 hw) (w_3 hw) (w_12 hw) (by decide) pd_1 rfl rfl rfl at_109 rfl (W := 0) rfl (by decide) (by decide) (by decide) (by decide) ?_
    refine Wk.ifc (q := 118) (q' := 115) at_112 (by decide) rfl rfl (fun (h23 : ¬ (tabN (b2 &&& (255 : Int32)).toNatClampNeg) = (0 : Int32)) => ?_) (fun (h23 : (tabN (b2 &&& (255 : Int32)).toNatClampNeg) = (0 : Int32)) => ?_)
    · refine Wk.iconst (q := 119) (v := (1 : Int32)) at_118 rfl rfl ?_
      refine Wk.iload (q := 121) at_119 rfl rfl ?_
      refine Wk.icmpT (q := 143) at_121 (by decide) rfl (by decide : (1 : Int32) < (2 : Int32)) ?_
      refine Wk.iconst (q := 144) (v := (0 : Int32)) at_143 rfl rfl ?_
      refine Wk.iload (q := 146) at_144 rfl rfl ?_
      refine Wk.icmpT (q := 168) at_146 (by decide) rfl (by decide : (0 : Int32) < (2 : Int32)) ?_
      refine Wk.iconst (q := 169) (v := (-1 : Int32)) at_168 rfl rfl ?_
      refine Wk.istore (q := 171) (ls' := #[.val (.int p0), .val (.int p1), .val (.int p2), .val (.int p3), .val (.int p4), .val (.ref a1), .val (.int (2 : Int32)), .val (.int (4 : Int32)), .val (.int (3 : Int32)), .val (.int (-1 : Int32))]) at_169 rfl rfl ?_
      refine Wk.iload (q := 173) at_171 rfl rfl ?_
      refine Wk.iload (q := 175) at_173 rfl rfl ?_
      refine Wk.icmpF (q := 178) at_175 rfl (by decide : (2 : Int32) < (3 : Int32)) ?_
      refine Wk.iload (q := 180) at_178 rfl rfl ?_
      refine Wk.iload (q := 182) at_180 rfl rfl ?_
      refine Wk.icmpF (q := 185) at_182 rfl (by decide : (3 : Int32) < (4 : Int32)) ?_
      refine Wk.aload (q := 187) at_185 rfl rfl rfl ?_
      refine Wk.iload (q := 189) at_187 rfl rfl ?_
      refine Wk.baloadB (q := 190) A1 (by rw [S1]; decide) e_3 at_189 rfl ?_
      refine Wk.bipush (q := 192) (v := (58 : Int32)) at_190 rfl rfl ?_
      refine Wk.icmp (q := 199) (q' := 195) at_192 (by decide) rfl rfl (fun (h24 : ¬ b3 = (58 : Int32)) => ?_) (fun (h24 : b3 = (58 : Int32)) => ?_)
      · refine Wk.aload (q := 201) at_199 rfl rfl rfl ?_
        refine Wk.iload (q := 203) at_201 rfl rfl ?_
        refine Wk.iload (q := 205) at_203 rfl rfl ?_
        refine Wk.callS2 (q := 208) (argsL := [(.ref a1), (.int (2 : Int32)), (.int (4 : Int32))]) (rest := []) (fr := 0) (lo := 0) (P := fun w => (((tabN (b2 &&& (255 : Int32)).toNatClampNeg) = (0 : Int32)) ∧ w = (.int (-1 : Int32))) ∨ ((¬ (tabN (b2 &&& (255 : Int32)).toNatClampNeg) = (0 : Int32)) ∧ ((tabN (b3 &&& (255 : Int32)).toNatClampNeg) = (0 : Int32)) ∧ (b3 = (58 : Int32)) ∧ w = (.int (3 : Int32))) ∨ ((¬ (tabN (b2 &&& (255 : Int32)).toNatClampNeg) = (0 : Int32)) ∧ ((tabN (b3 &&& (255 : Int32)).toNatClampNeg) = (0 : Int32)) ∧ (¬ b3 = (58 : Int32)) ∧ w = (.int (-1 : Int32))) ∨ ((¬ (tabN (b2 &&& (255 : Int32)).toNatClampNeg) = (0 : Int32)) ∧ (¬ (tabN (b3 &&& (255 : Int32)).toNatClampNeg) = (0 : Int32)) ∧ w = (.int (-1 : Int32)))) (m_11 hw F A1 S1 e_0 e_1 e_2 e_3) (w_6 hw) (w_7 hw) (w_8 hw) (w_9 hw) (by decide) pd_0 rfl rfl rfl at_205 rfl (W := 0) rfl (by decide) (by decide) (by decide) (by decide) ?_
        intro w25 hP; rcases hP with ⟨h26, rfl⟩ | ⟨h27, h28, h29, rfl⟩ | ⟨h30, h31, h32, rfl⟩ | ⟨h33, h34, rfl⟩
        · exact absurd h26 h23
        · exact absurd h29 h24
        · refine Wk.iload (q := 210) at_208 rfl rfl ?_
          refine Wk.icmpF (q := 213) at_210 rfl (by decide : (-1 : Int32) = (-1 : Int32)) ?_
          refine Wk.iconst (q := 214) (v := (1 : Int32)) at_213 rfl rfl ?_
          refine Wk.goto (q := 218) at_214 (by decide) rfl ?_
          exact Wk.retZ rfl rfl at_218 (by decide) (by decide) rfl
        · exact absurd h1 h34
      · refine Wk.iload (q := 197) at_195 rfl rfl ?_
        refine Wk.istore (q := 199) (ls' := #[.val (.int p0), .val (.int p1), .val (.int p2), .val (.int p3), .val (.int p4), .val (.ref a1), .val (.int (2 : Int32)), .val (.int (4 : Int32)), .val (.int (3 : Int32)), .val (.int (3 : Int32))]) at_197 rfl rfl ?_
        refine Wk.aload (q := 201) at_199 rfl rfl rfl ?_
        refine Wk.iload (q := 203) at_201 rfl rfl ?_
        refine Wk.iload (q := 205) at_203 rfl rfl ?_
        refine Wk.callS2 (q := 208) (argsL := [(.ref a1), (.int (2 : Int32)), (.int (4 : Int32))]) (rest := []) (fr := 0) (lo := 0) (P := fun w => (((tabN (b2 &&& (255 : Int32)).toNatClampNeg) = (0 : Int32)) ∧ w = (.int (-1 : Int32))) ∨ ((¬ (tabN (b2 &&& (255 : Int32)).toNatClampNeg) = (0 : Int32)) ∧ ((tabN (b3 &&& (255 : Int32)).toNatClampNeg) = (0 : Int32)) ∧ (b3 = (58 : Int32)) ∧ w = (.int (3 : Int32))) ∨ ((¬ (tabN (b2 &&& (255 : Int32)).toNatClampNeg) = (0 : Int32)) ∧ ((tabN (b3 &&& (255 : Int32)).toNatClampNeg) = (0 : Int32)) ∧ (¬ b3 = (58 : Int32)) ∧ w = (.int (-1 : Int32))) ∨ ((¬ (tabN (b2 &&& (255 : Int32)).toNatClampNeg) = (0 : Int32)) ∧ (¬ (tabN (b3 &&& (255 : Int32)).toNatClampNeg) = (0 : Int32)) ∧ w = (.int (-1 : Int32)))) (m_11 hw F A1 S1 e_0 e_1 e_2 e_3) (w_6 hw) (w_7 hw) (w_8 hw) (w_9 hw) (by decide) pd_0 rfl rfl rfl at_205 rfl (W := 0) rfl (by decide) (by decide) (by decide) (by decide) ?_
        intro w35 hP; rcases hP with ⟨h36, rfl⟩ | ⟨h37, h38, h39, rfl⟩ | ⟨h40, h41, h42, rfl⟩ | ⟨h43, h44, rfl⟩
        · exact absurd h36 h23
        · refine Wk.iload (q := 210) at_208 rfl rfl ?_
          refine Wk.icmpF (q := 213) at_210 rfl (by decide : (3 : Int32) = (3 : Int32)) ?_
          refine Wk.iconst (q := 214) (v := (1 : Int32)) at_213 rfl rfl ?_
          refine Wk.goto (q := 218) at_214 (by decide) rfl ?_
          exact Wk.retZ rfl rfl at_218 (by decide) (by decide) rfl
        · exact absurd h24 h42
        · exact absurd h1 h44
    · refine Wk.iconst (q := 116) (v := (2 : Int32)) at_115 rfl rfl ?_
      refine Wk.istore (q := 118) (ls' := #[.val (.int p0), .val (.int p1), .val (.int p2), .val (.int p3), .val (.int p4), .val (.ref a1), .val (.int (2 : Int32)), .val (.int (4 : Int32)), .val (.int (2 : Int32)), .unset]) at_116 rfl rfl ?_
      refine Wk.iconst (q := 119) (v := (1 : Int32)) at_118 rfl rfl ?_
      refine Wk.iload (q := 121) at_119 rfl rfl ?_
      refine Wk.icmpT (q := 143) at_121 (by decide) rfl (by decide : (1 : Int32) < (2 : Int32)) ?_
      refine Wk.iconst (q := 144) (v := (0 : Int32)) at_143 rfl rfl ?_
      refine Wk.iload (q := 146) at_144 rfl rfl ?_
      refine Wk.icmpT (q := 168) at_146 (by decide) rfl (by decide : (0 : Int32) < (2 : Int32)) ?_
      refine Wk.iconst (q := 169) (v := (-1 : Int32)) at_168 rfl rfl ?_
      refine Wk.istore (q := 171) (ls' := #[.val (.int p0), .val (.int p1), .val (.int p2), .val (.int p3), .val (.int p4), .val (.ref a1), .val (.int (2 : Int32)), .val (.int (4 : Int32)), .val (.int (2 : Int32)), .val (.int (-1 : Int32))]) at_169 rfl rfl ?_
      refine Wk.iload (q := 173) at_171 rfl rfl ?_
      refine Wk.iload (q := 175) at_173 rfl rfl ?_
      refine Wk.icmpT (q := 199) at_175 (by decide) rfl (by decide : ¬ (2 : Int32) < (2 : Int32)) ?_
      refine Wk.aload (q := 201) at_199 rfl rfl rfl ?_
      refine Wk.iload (q := 203) at_201 rfl rfl ?_
      refine Wk.iload (q := 205) at_203 rfl rfl ?_
      refine Wk.callS2 (q := 208) (argsL := [(.ref a1), (.int (2 : Int32)), (.int (4 : Int32))]) (rest := []) (fr := 0) (lo := 0) (P := fun w => (((tabN (b2 &&& (255 : Int32)).toNatClampNeg) = (0 : Int32)) ∧ w = (.int (-1 : Int32))) ∨ ((¬ (tabN (b2 &&& (255 : Int32)).toNatClampNeg) = (0 : Int32)) ∧ ((tabN (b3 &&& (255 : Int32)).toNatClampNeg) = (0 : Int32)) ∧ (b3 = (58 : Int32)) ∧ w = (.int (3 : Int32))) ∨ ((¬ (tabN (b2 &&& (255 : Int32)).toNatClampNeg) = (0 : Int32)) ∧ ((tabN (b3 &&& (255 : Int32)).toNatClampNeg) = (0 : Int32)) ∧ (¬ b3 = (58 : Int32)) ∧ w = (.int (-1 : Int32))) ∨ ((¬ (tabN (b2 &&& (255 : Int32)).toNatClampNeg) = (0 : Int32)) ∧ (¬ (tabN (b3 &&& (255 : Int32)).toNatClampNeg) = (0 : Int32)) ∧ w = (.int (-1 : Int32)))) (m_11 hw F A1 S1 e_0 e_1 e_2 e_3) (w_6 hw) (w_7 hw) (w_8 hw) (w_9 hw) (by decide) pd_0 rfl rfl rfl at_205 rfl (W := 0) rfl (by decide) (by decide) (by decide) (by decide) ?_
      intro w45 hP; rcases hP with ⟨h46, rfl⟩ | ⟨h47, h48, h49, rfl⟩ | ⟨h50, h51, h52, rfl⟩ | ⟨h53, h54, rfl⟩
      · refine Wk.iload (q := 210) at_208 rfl rfl ?_
        refine Wk.icmpF (q := 213) at_210 rfl (by decide : (-1 : Int32) = (-1 : Int32)) ?_
        refine Wk.iconst (q := 214) (v := (1 : Int32)) at_213 rfl rfl ?_
        refine Wk.goto (q := 218) at_214 (by decide) rfl ?_
        exact Wk.retZ rfl rfl at_218 (by decide) (by decide) rfl
      · exact absurd h23 h47
      · exact absurd h23 h50
      · exact absurd h23 h53
set_option maxRecDepth 65536 in
set_option maxHeartbeats 40000000 in
theorem law_tail_3_0 {l : Launch} {Z : State} {a0 : Array Value} {n0 : Nat} {h : Heap}  {a_T : Addr} {c_T : Cell} (hw : ∀ d ∈ tables_1, d.before a0 Z = true) (F : OwnF Z h  a_T c_T) {a1 : Addr} {c1 : Cell} {b0 b1 b2 b3 : Int32} (A1 : Arr Z h a1 c1 .byte) (S1 : c1.slots.size = 4) (e_0 : c1.slots[0]? = some (Value.int b0)) (e_1 : c1.slots[1]? = some (Value.int b1)) (e_2 : c1.slots[2]? = some (Value.int b2)) (e_3 : c1.slots[3]? = some (Value.int b3)) (p0 p1 p2 p3 p4 : Int32) (k_s : ((p4 &&& (2147483647 : Int32)) % (5 : Int32)) = (3 : Int32)) (k_e : (((XT.ushr p4 (8 : Int32)) &&& (2147483647 : Int32)) % (2 : Int32)) = (0 : Int32)) : Wk l Z n0 "com/example/tallykey/tallykey/HttpSyntaxNameEndPinLaw" "law" code maxLocals ret room_1 16 128 (fun v _ => v = some (.int (1 : Int32))) h 1 4 37 #[.val (.int p0), .val (.int p1), .val (.int p2), .val (.int p3), .val (.int p4), .val (.ref a1), .unset, .unset, .unset, .unset] [] := by
  refine Wk.iload (q := 39) at_37 rfl rfl ?_
  refine Wk.ldcI (q := 41) (w_5 hw) at_39 rfl ?_
  refine Wk.iand (q := 42) (v := (p4 &&& (2147483647 : Int32))) at_41 rfl rfl ?_
  refine Wk.iconst (q := 43) (v := (5 : Int32)) at_42 rfl rfl ?_
  refine Wk.irem (q := 44) (v := (3 : Int32)) at_43 rfl (by decide) k_s ?_
  refine Wk.istore (q := 46) (ls' := #[.val (.int p0), .val (.int p1), .val (.int p2), .val (.int p3), .val (.int p4), .val (.ref a1), .val (.int (3 : Int32)), .unset, .unset, .unset]) at_44 rfl rfl ?_
  refine Wk.iload (q := 48) at_46 rfl rfl ?_
  refine Wk.iload (q := 50) at_48 rfl rfl ?_
  refine Wk.bipush (q := 52) (v := (8 : Int32)) at_50 rfl rfl ?_
  refine Wk.iushr (q := 53) (v := (XT.ushr p4 (8 : Int32))) at_52 rfl rfl ?_
  refine Wk.ldcI (q := 55) (w_5 hw) at_53 rfl ?_
  refine Wk.iand (q := 56) (v := ((XT.ushr p4 (8 : Int32)) &&& (2147483647 : Int32))) at_55 rfl rfl ?_
  refine Wk.iconst (q := 57) (v := (5 : Int32)) at_56 rfl rfl ?_
  refine Wk.iload (q := 59) at_57 rfl rfl ?_
  refine Wk.isub (q := 60) (v := (2 : Int32)) at_59 rfl (by decide) ?_
  refine Wk.irem (q := 61) (v := (0 : Int32)) at_60 rfl (by decide) k_e ?_
  refine Wk.iadd (q := 62) (v := (3 : Int32)) at_61 rfl (by decide) ?_
  refine Wk.istore (q := 64) (ls' := #[.val (.int p0), .val (.int p1), .val (.int p2), .val (.int p3), .val (.int p4), .val (.ref a1), .val (.int (3 : Int32)), .val (.int (3 : Int32)), .unset, .unset]) at_62 rfl rfl ?_
  refine Wk.iload (q := 66) at_64 rfl rfl ?_
  refine Wk.istore (q := 68) (ls' := #[.val (.int p0), .val (.int p1), .val (.int p2), .val (.int p3), .val (.int p4), .val (.ref a1), .val (.int (3 : Int32)), .val (.int (3 : Int32)), .val (.int (3 : Int32)), .unset]) at_66 rfl rfl ?_
  refine Wk.iconst (q := 69) (v := (3 : Int32)) at_68 rfl rfl ?_
  refine Wk.iload (q := 71) at_69 rfl rfl ?_
  refine Wk.icmpF (q := 74) at_71 rfl (by decide : ¬ (3 : Int32) < (3 : Int32)) ?_
  refine Wk.iconst (q := 75) (v := (3 : Int32)) at_74 rfl rfl ?_
  refine Wk.iload (q := 77) at_75 rfl rfl ?_
  refine Wk.icmpT (q := 93) at_77 (by decide) rfl (by decide : ¬ (3 : Int32) < (3 : Int32)) ?_
  refine Wk.iconst (q := 94) (v := (2 : Int32)) at_93 rfl rfl ?_
  refine Wk.iload (q := 96) at_94 rfl rfl ?_
  refine Wk.icmpT (q := 118) at_96 (by decide) rfl (by decide : (2 : Int32) < (3 : Int32)) ?_
  refine Wk.iconst (q := 119) (v := (1 : Int32)) at_118 rfl rfl ?_
  refine Wk.iload (q := 121) at_119 rfl rfl ?_
  refine Wk.icmpT (q := 143) at_121 (by decide) rfl (by decide : (1 : Int32) < (3 : Int32)) ?_
  refine Wk.iconst (q := 144) (v := (0 : Int32)) at_143 rfl rfl ?_
  refine Wk.iload (q := 146) at_144 rfl rfl ?_
  refine Wk.icmpT (q := 168) at_146 (by decide) rfl (by decide : (0 : Int32) < (3 : Int32)) ?_
  refine Wk.iconst (q := 169) (v := (-1 : Int32)) at_168 rfl rfl ?_
  refine Wk.istore (q := 171) (ls' := #[.val (.int p0), .val (.int p1), .val (.int p2), .val (.int p3), .val (.int p4), .val (.ref a1), .val (.int (3 : Int32)), .val (.int (3 : Int32)), .val (.int (3 : Int32)), .val (.int (-1 : Int32))]) at_169 rfl rfl ?_
  refine Wk.iload (q := 173) at_171 rfl rfl ?_
  refine Wk.iload (q := 175) at_173 rfl rfl ?_
  refine Wk.icmpT (q := 199) at_175 (by decide) rfl (by decide : ¬ (3 : Int32) < (3 : Int32)) ?_
  refine Wk.aload (q := 201) at_199 rfl rfl rfl ?_
  refine Wk.iload (q := 203) at_201 rfl rfl ?_
  refine Wk.iload (q := 205) at_203 rfl rfl ?_
  refine Wk.callS1 (q := 208) (argsL := [(.ref a1), (.int (3 : Int32)), (.int (3 : Int32))]) (rest := []) (fr := 0) (lo := 0) (v0 := (.int (-1 : Int32))) (m_12 hw F A1 S1 e_0 e_1 e_2 e_3) (w_6 hw) (w_7 hw) (w_8 hw) (w_9 hw) (by decide) pd_0 rfl rfl rfl at_205 rfl (W := 0) rfl (by decide) (by decide) (by decide) (by decide) ?_
  refine Wk.iload (q := 210) at_208 rfl rfl ?_
  refine Wk.icmpF (q := 213) at_210 rfl (by decide : (-1 : Int32) = (-1 : Int32)) ?_
  refine Wk.iconst (q := 214) (v := (1 : Int32)) at_213 rfl rfl ?_
  refine Wk.goto (q := 218) at_214 (by decide) rfl ?_
  exact Wk.retZ rfl rfl at_218 (by decide) (by decide) rfl
set_option maxRecDepth 65536 in
set_option maxHeartbeats 40000000 in
theorem law_tail_3_1 {l : Launch} {Z : State} {a0 : Array Value} {n0 : Nat} {h : Heap}  {a_T : Addr} {c_T : Cell} (hw : ∀ d ∈ tables_1, d.before a0 Z = true) (F : OwnF Z h  a_T c_T) {a1 : Addr} {c1 : Cell} {b0 b1 b2 b3 : Int32} (A1 : Arr Z h a1 c1 .byte) (S1 : c1.slots.size = 4) (e_0 : c1.slots[0]? = some (Value.int b0)) (e_1 : c1.slots[1]? = some (Value.int b1)) (e_2 : c1.slots[2]? = some (Value.int b2)) (e_3 : c1.slots[3]? = some (Value.int b3)) (p0 p1 p2 p3 p4 : Int32) (k_s : ((p4 &&& (2147483647 : Int32)) % (5 : Int32)) = (3 : Int32)) (k_e : (((XT.ushr p4 (8 : Int32)) &&& (2147483647 : Int32)) % (2 : Int32)) = (1 : Int32)) : Wk l Z n0 "com/example/tallykey/tallykey/HttpSyntaxNameEndPinLaw" "law" code maxLocals ret room_1 16 128 (fun v _ => v = some (.int (1 : Int32))) h 1 4 37 #[.val (.int p0), .val (.int p1), .val (.int p2), .val (.int p3), .val (.int p4), .val (.ref a1), .unset, .unset, .unset, .unset] [] := by
  refine Wk.iload (q := 39) at_37 rfl rfl ?_
  refine Wk.ldcI (q := 41) (w_5 hw) at_39 rfl ?_
  refine Wk.iand (q := 42) (v := (p4 &&& (2147483647 : Int32))) at_41 rfl rfl ?_
  refine Wk.iconst (q := 43) (v := (5 : Int32)) at_42 rfl rfl ?_
  refine Wk.irem (q := 44) (v := (3 : Int32)) at_43 rfl (by decide) k_s ?_
  refine Wk.istore (q := 46) (ls' := #[.val (.int p0), .val (.int p1), .val (.int p2), .val (.int p3), .val (.int p4), .val (.ref a1), .val (.int (3 : Int32)), .unset, .unset, .unset]) at_44 rfl rfl ?_
  refine Wk.iload (q := 48) at_46 rfl rfl ?_
  refine Wk.iload (q := 50) at_48 rfl rfl ?_
  refine Wk.bipush (q := 52) (v := (8 : Int32)) at_50 rfl rfl ?_
  refine Wk.iushr (q := 53) (v := (XT.ushr p4 (8 : Int32))) at_52 rfl rfl ?_
  refine Wk.ldcI (q := 55) (w_5 hw) at_53 rfl ?_
  refine Wk.iand (q := 56) (v := ((XT.ushr p4 (8 : Int32)) &&& (2147483647 : Int32))) at_55 rfl rfl ?_
  refine Wk.iconst (q := 57) (v := (5 : Int32)) at_56 rfl rfl ?_
  refine Wk.iload (q := 59) at_57 rfl rfl ?_
  refine Wk.isub (q := 60) (v := (2 : Int32)) at_59 rfl (by decide) ?_
  refine Wk.irem (q := 61) (v := (1 : Int32)) at_60 rfl (by decide) k_e ?_
  refine Wk.iadd (q := 62) (v := (4 : Int32)) at_61 rfl (by decide) ?_
  refine Wk.istore (q := 64) (ls' := #[.val (.int p0), .val (.int p1), .val (.int p2), .val (.int p3), .val (.int p4), .val (.ref a1), .val (.int (3 : Int32)), .val (.int (4 : Int32)), .unset, .unset]) at_62 rfl rfl ?_
  refine Wk.iload (q := 66) at_64 rfl rfl ?_
  refine Wk.istore (q := 68) (ls' := #[.val (.int p0), .val (.int p1), .val (.int p2), .val (.int p3), .val (.int p4), .val (.ref a1), .val (.int (3 : Int32)), .val (.int (4 : Int32)), .val (.int (4 : Int32)), .unset]) at_66 rfl rfl ?_
  refine Wk.iconst (q := 69) (v := (3 : Int32)) at_68 rfl rfl ?_
  refine Wk.iload (q := 71) at_69 rfl rfl ?_
  refine Wk.icmpF (q := 74) at_71 rfl (by decide : ¬ (3 : Int32) < (3 : Int32)) ?_
  refine Wk.iconst (q := 75) (v := (3 : Int32)) at_74 rfl rfl ?_
  refine Wk.iload (q := 77) at_75 rfl rfl ?_
  refine Wk.icmpF (q := 80) at_77 rfl (by decide : (3 : Int32) < (4 : Int32)) ?_
  refine Wk.aload (q := 82) at_80 rfl rfl rfl ?_
  refine Wk.iconst (q := 83) (v := (3 : Int32)) at_82 rfl rfl ?_
  refine Wk.baloadB (q := 84) A1 (by rw [S1]; decide) e_3 at_83 rfl ?_
  refine Wk.callS1 (q := 87) (argsL := [(.int b3)]) (rest := []) (fr := 0) (lo := 0) (v0 := (.int (tabN (b3 &&& (255 : Int32)).toNatClampNeg))) (m_cls hw F b3) (w_10 hw) (w_11 hw) (w_3 hw) (w_12 hw) (by decide) pd_1 rfl rfl rfl at_84 rfl (W := 0) rfl (by decide) (by decide) (by decide) (by decide) ?_
  refine Wk.ifc (q := 93) (q' := 90) at_87 (by decide) rfl rfl (fun (h1 : ¬ (tabN (b3 &&& (255 : Int32)).toNatClampNeg) = (0 : Int32)) => ?_) (fun (h1 : (tabN (b3 &&& (255 : Int32)).toNatClampNeg) = (0 : Int32)) => ?_)
  · refine Wk.iconst (q := 94) (v := (2 : Int32)) at_93 rfl rfl ?_
    refine Wk.iload (q := 96) at_94 rfl rfl ?_
    refine Wk.icmpT (q := 118) at_96 (by decide) rfl (by decide : (2 : Int32) < (3 : Int32)) ?_
    refine Wk.iconst (q := 119) (v := (1 : Int32)) at_118 rfl rfl ?_
    refine Wk.iload (q := 121) at_119 rfl rfl ?_
    refine Wk.icmpT (q := 143) at_121 (by decide) rfl (by decide : (1 : Int32) < (3 : Int32)) ?_
    refine Wk.iconst (q := 144) (v := (0 : Int32)) at_143 rfl rfl ?_
    refine Wk.iload (q := 146) at_144 rfl rfl ?_
    refine Wk.icmpT (q := 168) at_146 (by decide) rfl (by decide : (0 : Int32) < (3 : Int32)) ?_
    refine Wk.iconst (q := 169) (v := (-1 : Int32)) at_168 rfl rfl ?_
    refine Wk.istore (q := 171) (ls' := #[.val (.int p0), .val (.int p1), .val (.int p2), .val (.int p3), .val (.int p4), .val (.ref a1), .val (.int (3 : Int32)), .val (.int (4 : Int32)), .val (.int (4 : Int32)), .val (.int (-1 : Int32))]) at_169 rfl rfl ?_
    refine Wk.iload (q := 173) at_171 rfl rfl ?_
    refine Wk.iload (q := 175) at_173 rfl rfl ?_
    refine Wk.icmpF (q := 178) at_175 rfl (by decide : (3 : Int32) < (4 : Int32)) ?_
    refine Wk.iload (q := 180) at_178 rfl rfl ?_
    refine Wk.iload (q := 182) at_180 rfl rfl ?_
    refine Wk.icmpT (q := 199) at_182 (by decide) rfl (by decide : ¬ (4 : Int32) < (4 : Int32)) ?_
    refine Wk.aload (q := 201) at_199 rfl rfl rfl ?_
    refine Wk.iload (q := 203) at_201 rfl rfl ?_
    refine Wk.iload (q := 205) at_203 rfl rfl ?_
    refine Wk.callS2 (q := 208) (argsL := [(.ref a1), (.int (3 : Int32)), (.int (4 : Int32))]) (rest := []) (fr := 0) (lo := 0) (P := fun w => (((tabN (b3 &&& (255 : Int32)).toNatClampNeg) = (0 : Int32)) ∧ w = (.int (-1 : Int32))) ∨ ((¬ (tabN (b3 &&& (255 : Int32)).toNatClampNeg) = (0 : Int32)) ∧ w = (.int (-1 : Int32)))) (m_13 hw F A1 S1 e_0 e_1 e_2 e_3) (w_6 hw) (w_7 hw) (w_8 hw) (w_9 hw) (by decide) pd_0 rfl rfl rfl at_205 rfl (W := 0) rfl (by decide) (by decide) (by decide) (by decide) ?_
    intro w2 hP; rcases hP with ⟨h3, rfl⟩ | ⟨h4, rfl⟩
    · exact absurd h3 h1
    · refine Wk.iload (q := 210) at_208 rfl rfl ?_
      refine Wk.icmpF (q := 213) at_210 rfl (by decide : (-1 : Int32) = (-1 : Int32)) ?_
      refine Wk.iconst (q := 214) (v := (1 : Int32)) at_213 rfl rfl ?_
      refine Wk.goto (q := 218) at_214 (by decide) rfl ?_
      exact Wk.retZ rfl rfl at_218 (by decide) (by decide) rfl
  · refine Wk.iconst (q := 91) (v := (3 : Int32)) at_90 rfl rfl ?_
    refine Wk.istore (q := 93) (ls' := #[.val (.int p0), .val (.int p1), .val (.int p2), .val (.int p3), .val (.int p4), .val (.ref a1), .val (.int (3 : Int32)), .val (.int (4 : Int32)), .val (.int (3 : Int32)), .unset]) at_91 rfl rfl ?_
    refine Wk.iconst (q := 94) (v := (2 : Int32)) at_93 rfl rfl ?_
    refine Wk.iload (q := 96) at_94 rfl rfl ?_
    refine Wk.icmpT (q := 118) at_96 (by decide) rfl (by decide : (2 : Int32) < (3 : Int32)) ?_
    refine Wk.iconst (q := 119) (v := (1 : Int32)) at_118 rfl rfl ?_
    refine Wk.iload (q := 121) at_119 rfl rfl ?_
    refine Wk.icmpT (q := 143) at_121 (by decide) rfl (by decide : (1 : Int32) < (3 : Int32)) ?_
    refine Wk.iconst (q := 144) (v := (0 : Int32)) at_143 rfl rfl ?_
    refine Wk.iload (q := 146) at_144 rfl rfl ?_
    refine Wk.icmpT (q := 168) at_146 (by decide) rfl (by decide : (0 : Int32) < (3 : Int32)) ?_
    refine Wk.iconst (q := 169) (v := (-1 : Int32)) at_168 rfl rfl ?_
    refine Wk.istore (q := 171) (ls' := #[.val (.int p0), .val (.int p1), .val (.int p2), .val (.int p3), .val (.int p4), .val (.ref a1), .val (.int (3 : Int32)), .val (.int (4 : Int32)), .val (.int (3 : Int32)), .val (.int (-1 : Int32))]) at_169 rfl rfl ?_
    refine Wk.iload (q := 173) at_171 rfl rfl ?_
    refine Wk.iload (q := 175) at_173 rfl rfl ?_
    refine Wk.icmpT (q := 199) at_175 (by decide) rfl (by decide : ¬ (3 : Int32) < (3 : Int32)) ?_
    refine Wk.aload (q := 201) at_199 rfl rfl rfl ?_
    refine Wk.iload (q := 203) at_201 rfl rfl ?_
    refine Wk.iload (q := 205) at_203 rfl rfl ?_
    refine Wk.callS2 (q := 208) (argsL := [(.ref a1), (.int (3 : Int32)), (.int (4 : Int32))]) (rest := []) (fr := 0) (lo := 0) (P := fun w => (((tabN (b3 &&& (255 : Int32)).toNatClampNeg) = (0 : Int32)) ∧ w = (.int (-1 : Int32))) ∨ ((¬ (tabN (b3 &&& (255 : Int32)).toNatClampNeg) = (0 : Int32)) ∧ w = (.int (-1 : Int32)))) (m_13 hw F A1 S1 e_0 e_1 e_2 e_3) (w_6 hw) (w_7 hw) (w_8 hw) (w_9 hw) (by decide) pd_0 rfl rfl rfl at_205 rfl (W := 0) rfl (by decide) (by decide) (by decide) (by decide) ?_
    intro w5 hP; rcases hP with ⟨h6, rfl⟩ | ⟨h7, rfl⟩
    · refine Wk.iload (q := 210) at_208 rfl rfl ?_
      refine Wk.icmpF (q := 213) at_210 rfl (by decide : (-1 : Int32) = (-1 : Int32)) ?_
      refine Wk.iconst (q := 214) (v := (1 : Int32)) at_213 rfl rfl ?_
      refine Wk.goto (q := 218) at_214 (by decide) rfl ?_
      exact Wk.retZ rfl rfl at_218 (by decide) (by decide) rfl
    · exact absurd h1 h7
set_option maxRecDepth 65536 in
set_option maxHeartbeats 40000000 in
theorem law_tail_4_0 {l : Launch} {Z : State} {a0 : Array Value} {n0 : Nat} {h : Heap}  {a_T : Addr} {c_T : Cell} (hw : ∀ d ∈ tables_1, d.before a0 Z = true) (F : OwnF Z h  a_T c_T) {a1 : Addr} {c1 : Cell} {b0 b1 b2 b3 : Int32} (A1 : Arr Z h a1 c1 .byte) (S1 : c1.slots.size = 4) (e_0 : c1.slots[0]? = some (Value.int b0)) (e_1 : c1.slots[1]? = some (Value.int b1)) (e_2 : c1.slots[2]? = some (Value.int b2)) (e_3 : c1.slots[3]? = some (Value.int b3)) (p0 p1 p2 p3 p4 : Int32) (k_s : ((p4 &&& (2147483647 : Int32)) % (5 : Int32)) = (4 : Int32)) (k_e : (((XT.ushr p4 (8 : Int32)) &&& (2147483647 : Int32)) % (1 : Int32)) = (0 : Int32)) : Wk l Z n0 "com/example/tallykey/tallykey/HttpSyntaxNameEndPinLaw" "law" code maxLocals ret room_1 16 128 (fun v _ => v = some (.int (1 : Int32))) h 1 4 37 #[.val (.int p0), .val (.int p1), .val (.int p2), .val (.int p3), .val (.int p4), .val (.ref a1), .unset, .unset, .unset, .unset] [] := by
  refine Wk.iload (q := 39) at_37 rfl rfl ?_
  refine Wk.ldcI (q := 41) (w_5 hw) at_39 rfl ?_
  refine Wk.iand (q := 42) (v := (p4 &&& (2147483647 : Int32))) at_41 rfl rfl ?_
  refine Wk.iconst (q := 43) (v := (5 : Int32)) at_42 rfl rfl ?_
  refine Wk.irem (q := 44) (v := (4 : Int32)) at_43 rfl (by decide) k_s ?_
  refine Wk.istore (q := 46) (ls' := #[.val (.int p0), .val (.int p1), .val (.int p2), .val (.int p3), .val (.int p4), .val (.ref a1), .val (.int (4 : Int32)), .unset, .unset, .unset]) at_44 rfl rfl ?_
  refine Wk.iload (q := 48) at_46 rfl rfl ?_
  refine Wk.iload (q := 50) at_48 rfl rfl ?_
  refine Wk.bipush (q := 52) (v := (8 : Int32)) at_50 rfl rfl ?_
  refine Wk.iushr (q := 53) (v := (XT.ushr p4 (8 : Int32))) at_52 rfl rfl ?_
  refine Wk.ldcI (q := 55) (w_5 hw) at_53 rfl ?_
  refine Wk.iand (q := 56) (v := ((XT.ushr p4 (8 : Int32)) &&& (2147483647 : Int32))) at_55 rfl rfl ?_
  refine Wk.iconst (q := 57) (v := (5 : Int32)) at_56 rfl rfl ?_
  refine Wk.iload (q := 59) at_57 rfl rfl ?_
  refine Wk.isub (q := 60) (v := (1 : Int32)) at_59 rfl (by decide) ?_
  refine Wk.irem (q := 61) (v := (0 : Int32)) at_60 rfl (by decide) k_e ?_
  refine Wk.iadd (q := 62) (v := (4 : Int32)) at_61 rfl (by decide) ?_
  refine Wk.istore (q := 64) (ls' := #[.val (.int p0), .val (.int p1), .val (.int p2), .val (.int p3), .val (.int p4), .val (.ref a1), .val (.int (4 : Int32)), .val (.int (4 : Int32)), .unset, .unset]) at_62 rfl rfl ?_
  refine Wk.iload (q := 66) at_64 rfl rfl ?_
  refine Wk.istore (q := 68) (ls' := #[.val (.int p0), .val (.int p1), .val (.int p2), .val (.int p3), .val (.int p4), .val (.ref a1), .val (.int (4 : Int32)), .val (.int (4 : Int32)), .val (.int (4 : Int32)), .unset]) at_66 rfl rfl ?_
  refine Wk.iconst (q := 69) (v := (3 : Int32)) at_68 rfl rfl ?_
  refine Wk.iload (q := 71) at_69 rfl rfl ?_
  refine Wk.icmpT (q := 93) at_71 (by decide) rfl (by decide : (3 : Int32) < (4 : Int32)) ?_
  refine Wk.iconst (q := 94) (v := (2 : Int32)) at_93 rfl rfl ?_
  refine Wk.iload (q := 96) at_94 rfl rfl ?_
  refine Wk.icmpT (q := 118) at_96 (by decide) rfl (by decide : (2 : Int32) < (4 : Int32)) ?_
  refine Wk.iconst (q := 119) (v := (1 : Int32)) at_118 rfl rfl ?_
  refine Wk.iload (q := 121) at_119 rfl rfl ?_
  refine Wk.icmpT (q := 143) at_121 (by decide) rfl (by decide : (1 : Int32) < (4 : Int32)) ?_
  refine Wk.iconst (q := 144) (v := (0 : Int32)) at_143 rfl rfl ?_
  refine Wk.iload (q := 146) at_144 rfl rfl ?_
  refine Wk.icmpT (q := 168) at_146 (by decide) rfl (by decide : (0 : Int32) < (4 : Int32)) ?_
  refine Wk.iconst (q := 169) (v := (-1 : Int32)) at_168 rfl rfl ?_
  refine Wk.istore (q := 171) (ls' := #[.val (.int p0), .val (.int p1), .val (.int p2), .val (.int p3), .val (.int p4), .val (.ref a1), .val (.int (4 : Int32)), .val (.int (4 : Int32)), .val (.int (4 : Int32)), .val (.int (-1 : Int32))]) at_169 rfl rfl ?_
  refine Wk.iload (q := 173) at_171 rfl rfl ?_
  refine Wk.iload (q := 175) at_173 rfl rfl ?_
  refine Wk.icmpT (q := 199) at_175 (by decide) rfl (by decide : ¬ (4 : Int32) < (4 : Int32)) ?_
  refine Wk.aload (q := 201) at_199 rfl rfl rfl ?_
  refine Wk.iload (q := 203) at_201 rfl rfl ?_
  refine Wk.iload (q := 205) at_203 rfl rfl ?_
  refine Wk.callS1 (q := 208) (argsL := [(.ref a1), (.int (4 : Int32)), (.int (4 : Int32))]) (rest := []) (fr := 0) (lo := 0) (v0 := (.int (-1 : Int32))) (m_14 hw F A1 S1 e_0 e_1 e_2 e_3) (w_6 hw) (w_7 hw) (w_8 hw) (w_9 hw) (by decide) pd_0 rfl rfl rfl at_205 rfl (W := 0) rfl (by decide) (by decide) (by decide) (by decide) ?_
  refine Wk.iload (q := 210) at_208 rfl rfl ?_
  refine Wk.icmpF (q := 213) at_210 rfl (by decide : (-1 : Int32) = (-1 : Int32)) ?_
  refine Wk.iconst (q := 214) (v := (1 : Int32)) at_213 rfl rfl ?_
  refine Wk.goto (q := 218) at_214 (by decide) rfl ?_
  exact Wk.retZ rfl rfl at_218 (by decide) (by decide) rfl
set_option maxRecDepth 65536 in
set_option maxHeartbeats 40000000 in
theorem law_all {l : Launch} {Z : State} {a0 : Array Value} {n0 : Nat} {a_T : Addr} {c_T : Cell} (hw : ∀ d ∈ tables_1, d.before a0 Z = true) (F0 : OwnF Z Z.heap  a_T c_T) (O : Old Z n0 Z.heap) (p0 p1 p2 p3 p4 : Int32) : Met l Z n0 x code maxLocals ret room_1 #[(.int p0), (.int p1), (.int p2), (.int p3), (.int p4)] Z.heap (fun v _ => v = some (.int (1 : Int32))) := by
  refine Met.of_wk (ls := #[.val (.int p0), .val (.int p1), .val (.int p2), .val (.int p3), .val (.int p4), .unset, .unset, .unset, .unset, .unset]) (plainFor_of_name pn_0) (fun m => ef_3 m p0 p1 p2 p3 p4) ?_
  show Wk l Z n0 "com/example/tallykey/tallykey/HttpSyntaxNameEndPinLaw" "law" code maxLocals ret room_1 16 128 (fun v _ => v = some (.int (1 : Int32))) Z.heap 0 0 0 #[.val (.int p0), .val (.int p1), .val (.int p2), .val (.int p3), .val (.int p4), .unset, .unset, .unset, .unset, .unset] []
  have F := F0
  refine Wk.iconst (q := 1) (v := (4 : Int32)) at_0 rfl rfl ?_
  refine Wk.newP (q := 3) (aty := .byte) (cap := 4) (w_0 hw) at_1 rfl (by decide) (by decide) (by decide) (by decide) (by decide) ?_
  intro h1 a1 cA g1 E1 A1
  have A1 : Arr Z h1 a1 (newA cA .byte (4 : Int32)) .byte := A1
  have ge1 : n0 ≤ a1 := g1 ▸ own_ge O
  have O := O.ext E1
  have F := F0.ext O.2
  have S1 : _ = 4 := sz_new cA .byte (4 : Int32)
  refine Wk.astore (q := 5) (ls' := #[.val (.int p0), .val (.int p1), .val (.int p2), .val (.int p3), .val (.int p4), .val (.ref a1), .unset, .unset, .unset, .unset]) at_3 rfl rfl rfl ?_
  refine Wk.aload (q := 7) at_5 rfl rfl rfl ?_
  refine Wk.iconst (q := 8) (v := (0 : Int32)) at_7 rfl rfl ?_
  refine Wk.iloadN (q := 9) at_8 rfl rfl ?_
  refine Wk.callS2 (q := 12) (argsL := [(.int p0)]) (rest := [(.int (0 : Int32)), (.ref a1)]) (fr := 0) (lo := 0) (P := fun w => ∃ z : Int32, w = .int z) (m_pick hw F p0) (w_1 hw) (w_2 hw) (w_3 hw) (w_4 hw) (by decide) pd_2 rfl rfl rfl at_9 rfl (W := 2) rfl (by decide) (by decide) (by decide) (by decide) ?_
  rintro _ ⟨y1, rfl⟩
  refine Wk.stB (q := 13) A1 (by rw [S1]; decide) rfl at_12 rfl ge1 ?_
  intro h2 W2
  have e_0 := own_hit (j := 0) W2 S1 (by decide) (by decide)
  have A1 := A1.same W2
  have S1 := own_szs W2 S1
  have O := O.wr W2 ge1
  have F := F0.ext O.2
  refine Wk.aload (q := 15) at_13 rfl rfl rfl ?_
  refine Wk.iconst (q := 16) (v := (1 : Int32)) at_15 rfl rfl ?_
  refine Wk.iloadN (q := 17) at_16 rfl rfl ?_
  refine Wk.callS2 (q := 20) (argsL := [(.int p1)]) (rest := [(.int (1 : Int32)), (.ref a1)]) (fr := 0) (lo := 0) (P := fun w => ∃ z : Int32, w = .int z) (m_pick hw F p1) (w_1 hw) (w_2 hw) (w_3 hw) (w_4 hw) (by decide) pd_2 rfl rfl rfl at_17 rfl (W := 2) rfl (by decide) (by decide) (by decide) (by decide) ?_
  rintro _ ⟨y2, rfl⟩
  refine Wk.stB (q := 21) A1 (by rw [S1]; decide) rfl at_20 rfl ge1 ?_
  intro h2 W2
  have e_0 := own_miss (j := 0) W2 (by decide) e_0
  have e_1 := own_hit (j := 1) W2 S1 (by decide) (by decide)
  have A1 := A1.same W2
  have S1 := own_szs W2 S1
  have O := O.wr W2 ge1
  have F := F0.ext O.2
  refine Wk.aload (q := 23) at_21 rfl rfl rfl ?_
  refine Wk.iconst (q := 24) (v := (2 : Int32)) at_23 rfl rfl ?_
  refine Wk.iloadN (q := 25) at_24 rfl rfl ?_
  refine Wk.callS2 (q := 28) (argsL := [(.int p2)]) (rest := [(.int (2 : Int32)), (.ref a1)]) (fr := 0) (lo := 0) (P := fun w => ∃ z : Int32, w = .int z) (m_pick hw F p2) (w_1 hw) (w_2 hw) (w_3 hw) (w_4 hw) (by decide) pd_2 rfl rfl rfl at_25 rfl (W := 2) rfl (by decide) (by decide) (by decide) (by decide) ?_
  rintro _ ⟨y3, rfl⟩
  refine Wk.stB (q := 29) A1 (by rw [S1]; decide) rfl at_28 rfl ge1 ?_
  intro h2 W2
  have e_0 := own_miss (j := 0) W2 (by decide) e_0
  have e_1 := own_miss (j := 1) W2 (by decide) e_1
  have e_2 := own_hit (j := 2) W2 S1 (by decide) (by decide)
  have A1 := A1.same W2
  have S1 := own_szs W2 S1
  have O := O.wr W2 ge1
  have F := F0.ext O.2
  refine Wk.aload (q := 31) at_29 rfl rfl rfl ?_
  refine Wk.iconst (q := 32) (v := (3 : Int32)) at_31 rfl rfl ?_
  refine Wk.iloadN (q := 33) at_32 rfl rfl ?_
  refine Wk.callS2 (q := 36) (argsL := [(.int p3)]) (rest := [(.int (3 : Int32)), (.ref a1)]) (fr := 0) (lo := 0) (P := fun w => ∃ z : Int32, w = .int z) (m_pick hw F p3) (w_1 hw) (w_2 hw) (w_3 hw) (w_4 hw) (by decide) pd_2 rfl rfl rfl at_33 rfl (W := 2) rfl (by decide) (by decide) (by decide) (by decide) ?_
  rintro _ ⟨y4, rfl⟩
  refine Wk.stB (q := 37) A1 (by rw [S1]; decide) rfl at_36 rfl ge1 ?_
  intro h2 W2
  have e_0 := own_miss (j := 0) W2 (by decide) e_0
  have e_1 := own_miss (j := 1) W2 (by decide) e_1
  have e_2 := own_miss (j := 2) W2 (by decide) e_2
  have e_3 := own_hit (j := 3) W2 S1 (by decide) (by decide)
  have A1 := A1.same W2
  have S1 := own_szs W2 S1
  have O := O.wr W2 ge1
  have F := F0.ext O.2
  rcases own_mod5 p4 with k_s | k_s | k_s | k_s | k_s
  · rcases own_mod5 (XT.ushr p4 (8 : Int32)) with k_e | k_e | k_e | k_e | k_e
    · exact law_tail_0_0 hw F A1 S1 e_0 e_1 e_2 e_3 p0 p1 p2 p3 p4 k_s k_e
    · exact law_tail_0_1 hw F A1 S1 e_0 e_1 e_2 e_3 p0 p1 p2 p3 p4 k_s k_e
    · exact law_tail_0_2 hw F A1 S1 e_0 e_1 e_2 e_3 p0 p1 p2 p3 p4 k_s k_e
    · exact law_tail_0_3 hw F A1 S1 e_0 e_1 e_2 e_3 p0 p1 p2 p3 p4 k_s k_e
    · exact law_tail_0_4 hw F A1 S1 e_0 e_1 e_2 e_3 p0 p1 p2 p3 p4 k_s k_e
  · rcases own_mod4 (XT.ushr p4 (8 : Int32)) with k_e | k_e | k_e | k_e
    · exact law_tail_1_0 hw F A1 S1 e_0 e_1 e_2 e_3 p0 p1 p2 p3 p4 k_s k_e
    · exact law_tail_1_1 hw F A1 S1 e_0 e_1 e_2 e_3 p0 p1 p2 p3 p4 k_s k_e
    · exact law_tail_1_2 hw F A1 S1 e_0 e_1 e_2 e_3 p0 p1 p2 p3 p4 k_s k_e
    · exact law_tail_1_3 hw F A1 S1 e_0 e_1 e_2 e_3 p0 p1 p2 p3 p4 k_s k_e
  · rcases own_mod3 (XT.ushr p4 (8 : Int32)) with k_e | k_e | k_e
    · exact law_tail_2_0 hw F A1 S1 e_0 e_1 e_2 e_3 p0 p1 p2 p3 p4 k_s k_e
    · exact law_tail_2_1 hw F A1 S1 e_0 e_1 e_2 e_3 p0 p1 p2 p3 p4 k_s k_e
    · exact law_tail_2_2 hw F A1 S1 e_0 e_1 e_2 e_3 p0 p1 p2 p3 p4 k_s k_e
  · rcases own_mod2 (XT.ushr p4 (8 : Int32)) with k_e | k_e
    · exact law_tail_3_0 hw F A1 S1 e_0 e_1 e_2 e_3 p0 p1 p2 p3 p4 k_s k_e
    · exact law_tail_3_1 hw F A1 S1 e_0 e_1 e_2 e_3 p0 p1 p2 p3 p4 k_s k_e
  · have k_e := own_mod1 (XT.ushr p4 (8 : Int32))
    exact law_tail_4_0 hw F A1 S1 e_0 e_1 e_2 e_3 p0 p1 p2 p3 p4 k_s k_e
set_option maxRecDepth 65536 in
set_option maxHeartbeats 40000000 in
theorem comes_1 {Post : Tables → Env → Array Value → State → Outcome → State → Prop} (hpost : ∀ tb e args s v u, (limb_1_1.after args s (.returned v) u = true ∧ limb_1_2.after args s (.returned v) u = true ∧ True) → FrameEnd s (.returned v) u (Jvm.fieldLocs frame_1_writes args s ++ Jvm.arrayLocs frame_1_arrays args s ++ Jvm.staticLocs frame_1_statics s) 16 128 → Post tb e args s (.returned v) u) :
    ArmFor flags0 classFile x code maxLocals ret World_1 tables_1 room_1 Calls_1 rest_1 Pre_1 Post := by
  intro l hfl _ _ p e ha hc hk s m args below hf hA hF happ hP
  obtain ⟨hcalls, hrest, hpre⟩ := hP
  obtain ⟨-, -, -, hnamed, -, -, -, hat⟩ := (Spec.applies_iff hf).mp happ
  obtain ⟨hg, hn⟩ := and_e (Cond.before_iff.mp (show (Jvm.Cond.and given_1 narrow_1).before args s = true from hpre))
  obtain ⟨h1, g0⟩ := and_e hg
  obtain ⟨w0, w1, w2, w3, w4, rfl⟩ : ∃ w0 w1 w2 w3 w4 : Value, args = #[w0, w1, w2, w3, w4] := by
    have hs : args.size = 5 := by simpa [Cond.value, given_1] using h1
    obtain ⟨L⟩ := args
    match L, hs with
    | [w0, w1, w2, w3, w4], _ => exact ⟨w0, w1, w2, w3, w4, rfl⟩
  have hw := fun d (hd : d ∈ tables_1) => atoms_spec (ws := Jvm.Cond.code x code maxLocals ret :: tables_1) hat d (List.mem_cons_of_mem _ hd)
  have hfit : Fit s := fun {y c} hc i hi => by
    obtain ⟨ha, rfl⟩ := Array.getElem?_eq_some_iff.mp hc
    have q := List.all_eq_true.mp ((Array.all_eq_true_iff_forall_mem.mp hF) _ (Array.getElem_mem ha)) i (List.mem_range.mpr hi)
    simpa [Array.getElem?_eq_getElem hi] using q
  obtain ⟨q0, g1⟩ := and_e g0
  obtain ⟨i0, e0⟩ := is_v q0
  obtain rfl : w0 = (.int i0) := Option.some.inj e0
  obtain ⟨q1, g2⟩ := and_e g1
  obtain ⟨i1, e1⟩ := is_v q1
  obtain rfl : w1 = (.int i1) := Option.some.inj e1
  obtain ⟨q2, g3⟩ := and_e g2
  obtain ⟨i2, e2⟩ := is_v q2
  obtain rfl : w2 = (.int i2) := Option.some.inj e2
  obtain ⟨q3, g4⟩ := and_e g3
  obtain ⟨i3, e3⟩ := is_v q3
  obtain rfl : w3 = (.int i3) := Option.some.inj e3
  obtain ⟨i4, e4⟩ := is_v g4
  obtain rfl : w4 = (.int i4) := Option.some.inj e4
  obtain ⟨k1a, k1b⟩ := and_e hn
  obtain ⟨k2a, k2b⟩ := and_e k1b
  obtain ⟨k3a, k3b⟩ := and_e k2b
  obtain ⟨k4a, k4b⟩ := and_e k3b
  obtain ⟨k5a, k5b⟩ := and_e k4b
  obtain ⟨k6a, k6b⟩ := and_e k5b
  obtain ⟨k7a, k7b⟩ := and_e k6b
  obtain ⟨k8a, k8b⟩ := and_e k7b
  obtain ⟨k9a, k9b⟩ := and_e k8b
  obtain ⟨k10a, k10b⟩ := and_e k9b
  obtain ⟨k11a, k11b⟩ := and_e k10b
  obtain ⟨k12a, k12b⟩ := and_e k11b
  obtain ⟨k13a, k13b⟩ := and_e k12b
  obtain ⟨k14a, k14b⟩ := and_e k13b
  obtain ⟨k15a, k15b⟩ := and_e k14b
  obtain ⟨k16a, k16b⟩ := and_e k15b
  obtain ⟨k17a, k17b⟩ := and_e k16b
  obtain ⟨k18a, k18b⟩ := and_e k17b
  obtain ⟨k19a, k19b⟩ := and_e k18b
  obtain ⟨k20a, k20b⟩ := and_e k19b
  obtain ⟨k21a, k21b⟩ := and_e k20b
  obtain ⟨k22a, k22b⟩ := and_e k21b
  obtain ⟨k23a, k23b⟩ := and_e k22b
  obtain ⟨k24a, k24b⟩ := and_e k23b
  obtain ⟨k25a, k25b⟩ := and_e k24b
  obtain ⟨a_T, c_T, v_T, s_T, r_T⟩ := own_arr k1a (w_8 hw) (w_14 hw)
  have z_T : c_T.slots.size = 256 := own_len v_T r_T (own_eqi k2a (Term.int_eval _)) (by decide)
  have y_0 : ∀ k, k < 256 → 0 ≤ k → k ≤ 32 → c_T.slots[k]? = some (Value.int (0 : Int32)) := fun k hk h1 h2 => own_tk v_T r_T hk (own_or (own_all v_T r_T k3a k (by rw [z_T]; exact hk)) (Cond.le_ints (Term.int_eval _) (Term.index_eval k)) (fun z => by rw [own_kle (m := 33) (by decide) hk] at z; omega))
  have y_1 : c_T.slots[33]? = some (Value.int (1 : Int32)) := own_elem v_T r_T (own_eqi k4a (Term.int_eval _))
  have y_2 : c_T.slots[34]? = some (Value.int (0 : Int32)) := own_elem v_T r_T (own_eqi k5a (Term.int_eval _))
  have y_3 : ∀ k, k < 256 → 35 ≤ k → k ≤ 39 → c_T.slots[k]? = some (Value.int (1 : Int32)) := fun k hk h1 h2 => own_tk v_T r_T hk (own_or (own_or (own_all v_T r_T k6a k (by rw [z_T]; exact hk)) (Cond.lt_ints (Term.index_eval k) (Term.int_eval _)) (fun z => by rw [own_klt (m := 35) (by decide) hk] at z; omega)) (Cond.le_ints (Term.int_eval _) (Term.index_eval k)) (fun z => by rw [own_kle (m := 40) (by decide) hk] at z; omega))
  have y_4 : c_T.slots[40]? = some (Value.int (0 : Int32)) := own_elem v_T r_T (own_eqi k7a (Term.int_eval _))
  have y_5 : c_T.slots[41]? = some (Value.int (0 : Int32)) := own_elem v_T r_T (own_eqi k8a (Term.int_eval _))
  have y_6 : c_T.slots[42]? = some (Value.int (1 : Int32)) := own_elem v_T r_T (own_eqi k9a (Term.int_eval _))
  have y_7 : c_T.slots[43]? = some (Value.int (1 : Int32)) := own_elem v_T r_T (own_eqi k10a (Term.int_eval _))
  have y_8 : c_T.slots[44]? = some (Value.int (0 : Int32)) := own_elem v_T r_T (own_eqi k11a (Term.int_eval _))
  have y_9 : c_T.slots[45]? = some (Value.int (1 : Int32)) := own_elem v_T r_T (own_eqi k12a (Term.int_eval _))
  have y_10 : c_T.slots[46]? = some (Value.int (1 : Int32)) := own_elem v_T r_T (own_eqi k13a (Term.int_eval _))
  have y_11 : c_T.slots[47]? = some (Value.int (0 : Int32)) := own_elem v_T r_T (own_eqi k14a (Term.int_eval _))
  have y_12 : ∀ k, k < 256 → 48 ≤ k → k ≤ 57 → c_T.slots[k]? = some (Value.int (1 : Int32)) := fun k hk h1 h2 => own_tk v_T r_T hk (own_or (own_or (own_all v_T r_T k15a k (by rw [z_T]; exact hk)) (Cond.lt_ints (Term.index_eval k) (Term.int_eval _)) (fun z => by rw [own_klt (m := 48) (by decide) hk] at z; omega)) (Cond.le_ints (Term.int_eval _) (Term.index_eval k)) (fun z => by rw [own_kle (m := 58) (by decide) hk] at z; omega))
  have y_13 : ∀ k, k < 256 → 58 ≤ k → k ≤ 64 → c_T.slots[k]? = some (Value.int (0 : Int32)) := fun k hk h1 h2 => own_tk v_T r_T hk (own_or (own_or (own_all v_T r_T k16a k (by rw [z_T]; exact hk)) (Cond.lt_ints (Term.index_eval k) (Term.int_eval _)) (fun z => by rw [own_klt (m := 58) (by decide) hk] at z; omega)) (Cond.le_ints (Term.int_eval _) (Term.index_eval k)) (fun z => by rw [own_kle (m := 65) (by decide) hk] at z; omega))
  have y_14 : ∀ k, k < 256 → 65 ≤ k → k ≤ 90 → c_T.slots[k]? = some (Value.int (1 : Int32)) := fun k hk h1 h2 => own_tk v_T r_T hk (own_or (own_or (own_all v_T r_T k17a k (by rw [z_T]; exact hk)) (Cond.lt_ints (Term.index_eval k) (Term.int_eval _)) (fun z => by rw [own_klt (m := 65) (by decide) hk] at z; omega)) (Cond.le_ints (Term.int_eval _) (Term.index_eval k)) (fun z => by rw [own_kle (m := 91) (by decide) hk] at z; omega))
  have y_15 : c_T.slots[91]? = some (Value.int (0 : Int32)) := own_elem v_T r_T (own_eqi k18a (Term.int_eval _))
  have y_16 : c_T.slots[92]? = some (Value.int (0 : Int32)) := own_elem v_T r_T (own_eqi k19a (Term.int_eval _))
  have y_17 : c_T.slots[93]? = some (Value.int (0 : Int32)) := own_elem v_T r_T (own_eqi k20a (Term.int_eval _))
  have y_18 : ∀ k, k < 256 → 94 ≤ k → k ≤ 122 → c_T.slots[k]? = some (Value.int (1 : Int32)) := fun k hk h1 h2 => own_tk v_T r_T hk (own_or (own_or (own_all v_T r_T k21a k (by rw [z_T]; exact hk)) (Cond.lt_ints (Term.index_eval k) (Term.int_eval _)) (fun z => by rw [own_klt (m := 94) (by decide) hk] at z; omega)) (Cond.le_ints (Term.int_eval _) (Term.index_eval k)) (fun z => by rw [own_kle (m := 123) (by decide) hk] at z; omega))
  have y_19 : c_T.slots[123]? = some (Value.int (0 : Int32)) := own_elem v_T r_T (own_eqi k22a (Term.int_eval _))
  have y_20 : c_T.slots[124]? = some (Value.int (1 : Int32)) := own_elem v_T r_T (own_eqi k23a (Term.int_eval _))
  have y_21 : c_T.slots[125]? = some (Value.int (0 : Int32)) := own_elem v_T r_T (own_eqi k24a (Term.int_eval _))
  have y_22 : c_T.slots[126]? = some (Value.int (1 : Int32)) := own_elem v_T r_T (own_eqi k25a (Term.int_eval _))
  have y_23 : ∀ k, k < 256 → 127 ≤ k → k ≤ 255 → c_T.slots[k]? = some (Value.int (0 : Int32)) := fun k hk h1 h2 => own_tk v_T r_T hk (own_or (own_all v_T r_T k25b k (by rw [z_T]; exact hk)) (Cond.lt_ints (Term.index_eval k) (Term.int_eval _)) (fun z => by rw [own_klt (m := 127) (by decide) hk] at z; omega))
  have t_T : ∀ k, k < 256 → c_T.slots[k]? = some (Value.int (tabN k)) := by
    intro k hk
    by_cases c_0 : k ≤ 32
    · rw [show tabN _ = (0 : Int32) from (tab0 (by omega))]
      exact y_0 k hk (by omega) (by omega)
    by_cases c_1 : k ≤ 33
    · obtain rfl : k = 33 := by omega
      rw [show tabN _ = (1 : Int32) from (tab1 (by omega))]
      exact y_1
    by_cases c_2 : k ≤ 34
    · obtain rfl : k = 34 := by omega
      rw [show tabN _ = (0 : Int32) from (tab0 (by omega))]
      exact y_2
    by_cases c_3 : k ≤ 39
    · rw [show tabN _ = (1 : Int32) from (tab1 (by omega))]
      exact y_3 k hk (by omega) (by omega)
    by_cases c_4 : k ≤ 40
    · obtain rfl : k = 40 := by omega
      rw [show tabN _ = (0 : Int32) from (tab0 (by omega))]
      exact y_4
    by_cases c_5 : k ≤ 41
    · obtain rfl : k = 41 := by omega
      rw [show tabN _ = (0 : Int32) from (tab0 (by omega))]
      exact y_5
    by_cases c_6 : k ≤ 42
    · obtain rfl : k = 42 := by omega
      rw [show tabN _ = (1 : Int32) from (tab1 (by omega))]
      exact y_6
    by_cases c_7 : k ≤ 43
    · obtain rfl : k = 43 := by omega
      rw [show tabN _ = (1 : Int32) from (tab1 (by omega))]
      exact y_7
    by_cases c_8 : k ≤ 44
    · obtain rfl : k = 44 := by omega
      rw [show tabN _ = (0 : Int32) from (tab0 (by omega))]
      exact y_8
    by_cases c_9 : k ≤ 45
    · obtain rfl : k = 45 := by omega
      rw [show tabN _ = (1 : Int32) from (tab1 (by omega))]
      exact y_9
    by_cases c_10 : k ≤ 46
    · obtain rfl : k = 46 := by omega
      rw [show tabN _ = (1 : Int32) from (tab1 (by omega))]
      exact y_10
    by_cases c_11 : k ≤ 47
    · obtain rfl : k = 47 := by omega
      rw [show tabN _ = (0 : Int32) from (tab0 (by omega))]
      exact y_11
    by_cases c_12 : k ≤ 57
    · rw [show tabN _ = (1 : Int32) from (tab1 (by omega))]
      exact y_12 k hk (by omega) (by omega)
    by_cases c_13 : k ≤ 64
    · rw [show tabN _ = (0 : Int32) from (tab0 (by omega))]
      exact y_13 k hk (by omega) (by omega)
    by_cases c_14 : k ≤ 90
    · rw [show tabN _ = (1 : Int32) from (tab1 (by omega))]
      exact y_14 k hk (by omega) (by omega)
    by_cases c_15 : k ≤ 91
    · obtain rfl : k = 91 := by omega
      rw [show tabN _ = (0 : Int32) from (tab0 (by omega))]
      exact y_15
    by_cases c_16 : k ≤ 92
    · obtain rfl : k = 92 := by omega
      rw [show tabN _ = (0 : Int32) from (tab0 (by omega))]
      exact y_16
    by_cases c_17 : k ≤ 93
    · obtain rfl : k = 93 := by omega
      rw [show tabN _ = (0 : Int32) from (tab0 (by omega))]
      exact y_17
    by_cases c_18 : k ≤ 122
    · rw [show tabN _ = (1 : Int32) from (tab1 (by omega))]
      exact y_18 k hk (by omega) (by omega)
    by_cases c_19 : k ≤ 123
    · obtain rfl : k = 123 := by omega
      rw [show tabN _ = (0 : Int32) from (tab0 (by omega))]
      exact y_19
    by_cases c_20 : k ≤ 124
    · obtain rfl : k = 124 := by omega
      rw [show tabN _ = (1 : Int32) from (tab1 (by omega))]
      exact y_20
    by_cases c_21 : k ≤ 125
    · obtain rfl : k = 125 := by omega
      rw [show tabN _ = (0 : Int32) from (tab0 (by omega))]
      exact y_21
    by_cases c_22 : k ≤ 126
    · obtain rfl : k = 126 := by omega
      rw [show tabN _ = (1 : Int32) from (tab1 (by omega))]
      exact y_22
    rw [show tabN _ = (0 : Int32) from (tab0 (by omega))]
    exact y_23 k hk (by omega) (by omega)
  obtain ⟨n, o, h1, h2, h3, _, L, rfl, ⟨N, rfl⟩, hq⟩ := (law_all (l := l) (n0 := s.heap.size) hw ⟨s_T, r_T, z_T, t_T⟩ (Old.start s) i0 i1 i2 i3 i4) tables_1 p e ha hc hk s m _ below hf ((Spec.applies_iff_loose hf).mp happ).1 ⟨rfl, State.Warmed39.refl s, rfl⟩ trivial
  refine ⟨n, _, h1, h2, h3, hpost _ _ _ _ _ _ ⟨Cond.after_iff.mpr rfl, Cond.after_iff.mpr (eq_i res_at (Term.int_eval (1)) rfl), trivial⟩ ⟨hq.1, hq.2.1, (hq.2.2.sift fun y hy => Or.inr (N y hy)).mono (by decide) (by decide)⟩⟩
theorem main_1_1 : Claimed_1_1 := comes_1 fun _ _ _ _ _ _ h hF => ⟨h.1, hF⟩
theorem main_1_2 : Claimed_1_2 := comes_1 fun _ _ _ _ _ _ h hF => ⟨h.2.1, hF⟩
end Jvm.Pilot.@@N@@
namespace Jvm.Pilot.@@N@@
open Jvm Jvm.ClassFile Sem Op Lib Jvm.Free Jvm.Stand Jvm.Pilot.@@N@@.Jvm.D
/-! MADE BY PROGRAM (witnessworld.py) out of the Statement's table words and the real class files: 11 classes; the members and pool entries that the words name. The judged class is class 1, her method 3. -/
namespace start1
open Jvm.ClassFile
def u (s : String) : CpInfo := .utf8 (stringToUtf16 s)
/-- a pool by its gaps: so many unusable entries, then the entry; so many at the end -/
def gap : Nat → List CpInfo → List CpInfo
  | 0, r => r
  | n + 1, r => .unusable :: gap n r
def poolList (es : List (Nat × CpInfo)) (last : Nat) : List CpInfo := es.foldr (fun e r => gap e.1 (e.2 :: r)) (gap last [])
def pool (es : List (Nat × CpInfo)) (last : Nat) : Array CpInfo := ⟨poolList es last⟩
def fileOf (pool : Array CpInfo) (this : Nat) (attrs : Array Attribute := #[]) (ms : Array MethodInfo := #[]) (fl : Nat := 33) (sup : Nat := 0) (ifs : Array Nat := #[]) (fds : Array FieldInfo := #[]) : ClassFile where
  minorVersion := 0
  majorVersion := 65
  constantPool := pool
  accessFlags := fl
  thisClass := this
  superClass := sup
  interfaces := ifs
  fields := fds
  methods := ms
  attributes := attrs
def plain (name : String) (sup : Option ClassId) : Class where
  name := name
  kind := .ordinary
  loader := none
  accessFlags := 33
  super := sup
  interfaces := #[]
  cf := none
  fields := #[]
  methods := #[]
  instanceTypes := #[]
  staticTypes := #[]
  resolved := #[]
  callSites := []
  init := .initialized
  statics := none
  mirror := none

def pool0 : Array CpInfo := pool [(5, u "<init>"), (0, u "()V"), (1, .class_ 10), (1, u "java/lang/Object")] 113

def k0m0 : Method := { name := "<init>", desc := "()V", sig := { parameters := [], returnType := none }, accessFlags := 1, code := none }
/-- java/lang/Object -/
def k0 : Class := { plain "java/lang/Object" none with
  accessFlags := 33
  interfaces := #[]
  cf := some (fileOf pool0 8 #[] #[{ accessFlags := 1, nameIndex := 5, descriptorIndex := 6, attributes := #[] }] 33 0 #[] #[])
  fields := #[]
  methods := #[k0m0]
  instanceTypes := #[]
  staticTypes := #[]
  resolved := Array.replicate 124 none
  statics := none }

def pool1 : Array CpInfo := pool [(2, .class_ 4), (1, u "java/lang/Object"), (0, u "<init>"), (0, u "()V"), (0, .methodref 8 9), (0, .class_ 10), (0, .nameAndType 11 12), (0, u "com/example/tallykey/tallykey/HttpSyntaxNameEndPinLaw"), (0, u "pick"), (0, u "(I)B"), (0, .integer 2147483647), (0, .methodref 8 15), (0, .nameAndType 16 17), (0, u "tok"), (0, u "(B)Z"), (0, .methodref 19 20), (0, .class_ 21), (0, .nameAndType 22 23), (0, u "com/example/tallykey/tallykey/HttpSyntax"), (0, u "nameEnd"), (0, u "([BII)I"), (3, u "law"), (0, u "(IIIII)Z")] 4

def k1m0 : Method := { name := "<init>", desc := "()V", sig := { parameters := [], returnType := none }, accessFlags := 2, code := none }
def k1c1 : Code := { maxStack := 2, maxLocals := 1, code := method_2_code, exceptionTable := #[], attributes := #[] }
def k1m1 : Method := { name := "pick", desc := "(I)B", sig := { parameters := [.int], returnType := some .byte }, accessFlags := 10, code := some k1c1 }
def k1c2 : Code := { maxStack := 2, maxLocals := 2, code := method_3_code, exceptionTable := #[], attributes := #[] }
def k1m2 : Method := { name := "tok", desc := "(B)Z", sig := { parameters := [.byte], returnType := some .boolean }, accessFlags := 10, code := some k1c2 }
def k1c3 : Code := { maxStack := 4, maxLocals := 10, code := code, exceptionTable := #[], attributes := #[] }
def k1m3 : Method := { name := "law", desc := "(IIIII)Z", sig := { parameters := [.int, .int, .int, .int, .int], returnType := some .boolean }, accessFlags := 9, code := some k1c3 }
/-- com/example/tallykey/tallykey/HttpSyntaxNameEndPinLaw -/
def k1 : Class := { plain "com/example/tallykey/tallykey/HttpSyntaxNameEndPinLaw" (some 0) with
  accessFlags := 49
  interfaces := #[]
  cf := some (fileOf pool1 8 #[] #[{ accessFlags := 2, nameIndex := 5, descriptorIndex := 6, attributes := #[] }, { accessFlags := 10, nameIndex := 11, descriptorIndex := 12, attributes := #[] }, { accessFlags := 10, nameIndex := 16, descriptorIndex := 17, attributes := #[] }, { accessFlags := 9, nameIndex := 27, descriptorIndex := 28, attributes := #[] }] 49 2 #[] #[])
  fields := #[]
  methods := #[k1m0, k1m1, k1m2, k1m3]
  instanceTypes := #[]
  staticTypes := #[]
  resolved := Array.replicate 33 none
  statics := none }

def pool2 : Array CpInfo := pool [(2, .class_ 4), (1, u "java/lang/Object"), (0, u "<init>"), (0, u "()V"), (0, .fieldref 8 9), (0, .class_ 10), (0, .nameAndType 11 12), (0, u "com/example/tallykey/tallykey/HttpSyntax"), (0, u "TOKEN"), (0, u "[Z"), (2, u "TEXT"), (20, u "NOT_A_FIELD_LINE"), (0, u "Ljava/lang/String;"), (12, u "nameEnd"), (0, u "([BII)I")] 4

def k2m0 : Method := { name := "<init>", desc := "()V", sig := { parameters := [], returnType := none }, accessFlags := 2, code := none }
def k2c1 : Code := { maxStack := 3, maxLocals := 4, code := prog_5_method_7_code, exceptionTable := #[], attributes := #[] }
def k2m1 : Method := { name := "nameEnd", desc := "([BII)I", sig := { parameters := [(.array .byte), .int, .int], returnType := some .int }, accessFlags := 8, code := some k2c1 }
/-- com/example/tallykey/tallykey/HttpSyntax -/
def k2 : Class := { plain "com/example/tallykey/tallykey/HttpSyntax" (some 0) with
  accessFlags := 48
  interfaces := #[]
  cf := some (fileOf pool2 8 #[] #[{ accessFlags := 2, nameIndex := 5, descriptorIndex := 6, attributes := #[] }, { accessFlags := 8, nameIndex := 50, descriptorIndex := 51, attributes := #[] }] 48 2 #[] #[{ accessFlags := 26, nameIndex := 11, descriptorIndex := 12, attributes := #[] }, { accessFlags := 26, nameIndex := 15, descriptorIndex := 12, attributes := #[] }, { accessFlags := 24, nameIndex := 36, descriptorIndex := 37, attributes := #[] }])
  fields := #[{ name := "TOKEN", type := (.array .boolean), accessFlags := 26, slot := 0, constantValue := 0 }, { name := "TEXT", type := (.array .boolean), accessFlags := 26, slot := 1, constantValue := 0 }, { name := "NOT_A_FIELD_LINE", type := (.object "java/lang/String"), accessFlags := 24, slot := 2, constantValue := 0 }]
  methods := #[k2m0, k2m1]
  instanceTypes := #[]
  staticTypes := #[(.array .boolean), (.array .boolean), (.object "java/lang/String")]
  resolved := Array.replicate 56 none
  statics := some 0 }

def pool3 : Array CpInfo := pool [(1, u "java/lang/Cloneable"), (0, .class_ 1), (0, u "java/lang/Object"), (0, .class_ 3)] 3

/-- java/lang/Cloneable -/
def k3 : Class := { plain "java/lang/Cloneable" (some 0) with
  accessFlags := 1537
  interfaces := #[]
  cf := some (fileOf pool3 2 #[] #[] 1537 4 #[] #[])
  fields := #[]
  methods := #[]
  instanceTypes := #[]
  staticTypes := #[]
  resolved := Array.replicate 8 none
  statics := none }

def pool4 : Array CpInfo := pool [(1, u "java/io/Serializable"), (0, .class_ 1), (0, u "java/lang/Object"), (0, .class_ 3)] 3

/-- java/io/Serializable -/
def k4 : Class := { plain "java/io/Serializable" (some 0) with
  accessFlags := 1537
  interfaces := #[]
  cf := some (fileOf pool4 2 #[] #[] 1537 4 #[] #[])
  fields := #[]
  methods := #[]
  instanceTypes := #[]
  staticTypes := #[]
  resolved := Array.replicate 8 none
  statics := none }

/-- the primitive boolean -/
def k5 : Class := { plain "boolean" none with kind := .primitive 'Z', accessFlags := 0x411 }
/-- [Z -/
def k6 : Class := { plain "[Z" (some 0) with kind := .array 5 .boolean, interfaces := #[3, 4], accessFlags := 1041 }

/-- the primitive byte -/
def k7 : Class := { plain "byte" none with kind := .primitive 'B', accessFlags := 0x411 }
/-- [B -/
def k8 : Class := { plain "[B" (some 0) with kind := .array 7 .byte, interfaces := #[3, 4], accessFlags := 1041 }

/-- the primitive int -/
def k9 : Class := { plain "int" none with kind := .primitive 'I', accessFlags := 0x411 }
/-- [I -/
def k10 : Class := { plain "[I" (some 0) with kind := .array 9 .int, interfaces := #[3, 4], accessFlags := 1041 }

def heap : Heap := #[{ cls := 2, slots := #[.ref 1, .null, .null], vm := .statics 2 },
  { cls := 6, slots := #[.int 0, .int 0, .int 0, .int 0, .int 0, .int 0, .int 0, .int 0, .int 0, .int 0, .int 0, .int 0, .int 0, .int 0, .int 0, .int 0, .int 0, .int 0, .int 0, .int 0, .int 0, .int 0, .int 0, .int 0, .int 0, .int 0, .int 0, .int 0, .int 0, .int 0, .int 0, .int 0, .int 0, .int 1, .int 0, .int 1, .int 1, .int 1, .int 1, .int 1, .int 0, .int 0, .int 1, .int 1, .int 0, .int 1, .int 1, .int 0, .int 1, .int 1, .int 1, .int 1, .int 1, .int 1, .int 1, .int 1, .int 1, .int 1, .int 0, .int 0, .int 0, .int 0, .int 0, .int 0, .int 0, .int 1, .int 1, .int 1, .int 1, .int 1, .int 1, .int 1, .int 1, .int 1, .int 1, .int 1, .int 1, .int 1, .int 1, .int 1, .int 1, .int 1, .int 1, .int 1, .int 1, .int 1, .int 1, .int 1, .int 1, .int 1, .int 1, .int 0, .int 0, .int 0, .int 1, .int 1, .int 1, .int 1, .int 1, .int 1, .int 1, .int 1, .int 1, .int 1, .int 1, .int 1, .int 1, .int 1, .int 1, .int 1, .int 1, .int 1, .int 1, .int 1, .int 1, .int 1, .int 1, .int 1, .int 1, .int 1, .int 1, .int 1, .int 1, .int 0, .int 1, .int 0, .int 1, .int 0, .int 0, .int 0, .int 0, .int 0, .int 0, .int 0, .int 0, .int 0, .int 0, .int 0, .int 0, .int 0, .int 0, .int 0, .int 0, .int 0, .int 0, .int 0, .int 0, .int 0, .int 0, .int 0, .int 0, .int 0, .int 0, .int 0, .int 0, .int 0, .int 0, .int 0, .int 0, .int 0, .int 0, .int 0, .int 0, .int 0, .int 0, .int 0, .int 0, .int 0, .int 0, .int 0, .int 0, .int 0, .int 0, .int 0, .int 0, .int 0, .int 0, .int 0, .int 0, .int 0, .int 0, .int 0, .int 0, .int 0, .int 0, .int 0, .int 0, .int 0, .int 0, .int 0, .int 0, .int 0, .int 0, .int 0, .int 0, .int 0, .int 0, .int 0, .int 0, .int 0, .int 0, .int 0, .int 0, .int 0, .int 0, .int 0, .int 0, .int 0, .int 0, .int 0, .int 0, .int 0, .int 0, .int 0, .int 0, .int 0, .int 0, .int 0, .int 0, .int 0, .int 0, .int 0, .int 0, .int 0, .int 0, .int 0, .int 0, .int 0, .int 0, .int 0, .int 0, .int 0, .int 0, .int 0, .int 0, .int 0, .int 0, .int 0, .int 0, .int 0, .int 0, .int 0, .int 0, .int 0, .int 0, .int 0, .int 0, .int 0, .int 0, .int 0, .int 0, .int 0, .int 0, .int 0, .int 0, .int 0], vm := .none }]
def classes : Array Class := #[k0, k1, k2, k3, k4, k5, k6, k7, k8, k9, k10]
def interned : List (Array UInt16 × Addr) := []
def slotsUsed : Nat := 259
def theMethod : MethodId := ⟨1, 3⟩
def args0 : Array Value := #[.int 65, .int 66, .int 58, .int 7, .int 0]
def aboutOver (below : List Frame) : State where
  vm := { classes := classes, interned := interned.toArray }
  heap := heap
  slotsUsed := slotsUsed
  threads := #[{ frames := .invoking theMethod args0 :: below }]
def below0 : List Frame := [.native { method := ⟨0, 0⟩, args := #[] }]
def about1 : State := aboutOver below0
def p0 : Program := .bare "" "" ""
def e0 : Env := launch0.env 0 0 0
theorem w_frames : about1.frames = Frame.invoking theMethod args0 :: below0 := rfl
set_option maxRecDepth 65536 in
theorem w_args : argsFit about1.vm theMethod args0 = true := by decide +kernel
set_option maxRecDepth 65536 in
theorem w_heap : heapFits about1 = true := by decide +kernel
set_option maxRecDepth 65536 in
theorem w_runnable : about1.curStatus? = some .runnable := by decide +kernel
set_option maxRecDepth 65536 in
theorem w_alone : about1.alone = true := by decide +kernel
set_option maxRecDepth 65536 in
theorem w_named : about1.methodNamed? x = some theMethod := by decide +kernel
set_option maxRecDepth 65536 in
theorem w_hears : about1.hears theMethod below0 = true := by decide +kernel
set_option maxRecDepth 65536 in
theorem w_ripe : about1.ripe theMethod args0 below0 = true := by decide +kernel
theorem w_running : about1.status = .running := rfl
set_option maxRecDepth 65536 in
theorem w_room : about1.hasRoom e0.platform room_1 = true :=
  launch0.hasRoom_least _ room_1 (by decide +kernel) (by decide +kernel) (by decide +kernel) (by decide +kernel) (by decide +kernel) (by decide +kernel)
theorem allAtoms_all (ts : List Jvm.Cond) (a : Array Jvm.Value) (st : Jvm.State) : (allAtoms ts).before a st = ts.all (fun c => c.before a st) := by
  induction ts with
  | nil => rfl
  | cons c t ih =>
    show (Jvm.Cond.and c (allAtoms t)).before a st = _
    rw [Jvm.Cond.before_and, ih, List.all_cons]
def words1 : List Jvm.Cond := Jvm.Cond.code x code maxLocals ret :: tables_1
/-- a 'code' word, met by the world's own term for the bytes: nothing is compared byte by byte -/
theorem code_word {y : MethodName} {bytes : ByteArray} {mx : Nat} {rt : Option FieldType} {a : Array Value} {s : State} {m : MethodId} {meth : Method} {c : Code} (h1 : s.methodNamed? y = some m) (h2 : s.vm.method? m = some meth) (h3 : meth.code = some c) (h4 : c.code = bytes)
    (h5 : (c.maxLocals == mx && c.exceptionTable.isEmpty && decide (c.maxStack ≤ mostOperands) && decide (meth.sig.returnType = rt) && !meth.locks && decide (parseMethodDescriptor y.desc = some meth.sig)) = true) : (Jvm.Cond.code y bytes mx rt).before a s = true := by
  simp only [Bool.and_eq_true, beq_iff_eq, Bool.not_eq_true', decide_eq_true_eq] at h5
  obtain ⟨⟨⟨⟨⟨g1, g2⟩, g3⟩, g4⟩, g5⟩, g6⟩ := h5
  simp [Cond.before, Cond.holds, Cond.value, h1, h2, h3, h4, g1, g2, g3, g4, g5, g6]
def isCode : Jvm.Cond → Bool
  | .code _ _ _ _ => true
  | _ => false
theorem all_split {L : List Jvm.Cond} {P : Jvm.Cond → Bool} (h1 : L.all (fun c => isCode c || P c) = true) (h2 : ∀ c ∈ L.filter isCode, P c = true) : L.all P = true := by
  refine List.all_eq_true.mpr fun c hc => ?_
  have h := List.all_eq_true.mp h1 c hc
  rcases Bool.eq_false_or_eq_true (isCode c) with hi | hi
  · exact h2 c (List.mem_filter.mpr ⟨hc, hi⟩)
  · simpa [hi] using h
set_option maxRecDepth 65536 in
theorem w_c0 : (Jvm.Cond.code x code maxLocals ret).before args0 about1 = true := code_word (m := ⟨1, 3⟩) (meth := k1m3) (c := k1c3) (by decide +kernel) rfl rfl rfl (by decide +kernel)
set_option maxRecDepth 65536 in
theorem w_c1 : (Jvm.Cond.code ({ cls := "com/example/tallykey/tallykey/HttpSyntaxNameEndPinLaw", name := "pick", desc := "(I)B" } : Jvm.MethodName) method_2_code (1 : Nat) (Option.some Jvm.ClassFile.FieldType.byte)).before args0 about1 = true := code_word (m := ⟨1, 1⟩) (meth := k1m1) (c := k1c1) (by decide +kernel) rfl rfl rfl (by decide +kernel)
set_option maxRecDepth 65536 in
theorem w_c2 : (Jvm.Cond.code ({ cls := "com/example/tallykey/tallykey/HttpSyntax", name := "nameEnd", desc := "([BII)I" } : Jvm.MethodName) prog_5_method_7_code (4 : Nat) (Option.some Jvm.ClassFile.FieldType.int)).before args0 about1 = true := code_word (m := ⟨2, 1⟩) (meth := k2m1) (c := k2c1) (by decide +kernel) rfl rfl rfl (by decide +kernel)
set_option maxRecDepth 65536 in
theorem w_c3 : (Jvm.Cond.code ({ cls := "com/example/tallykey/tallykey/HttpSyntaxNameEndPinLaw", name := "tok", desc := "(B)Z" } : Jvm.MethodName) method_3_code (2 : Nat) (Option.some Jvm.ClassFile.FieldType.boolean)).before args0 about1 = true := code_word (m := ⟨1, 2⟩) (meth := k1m2) (c := k1c2) (by decide +kernel) rfl rfl rfl (by decide +kernel)
def codes1 : List Jvm.Cond := [Jvm.Cond.code x code maxLocals ret, Jvm.Cond.code ({ cls := "com/example/tallykey/tallykey/HttpSyntaxNameEndPinLaw", name := "pick", desc := "(I)B" } : Jvm.MethodName) method_2_code (1 : Nat) (Option.some Jvm.ClassFile.FieldType.byte), Jvm.Cond.code ({ cls := "com/example/tallykey/tallykey/HttpSyntax", name := "nameEnd", desc := "([BII)I" } : Jvm.MethodName) prog_5_method_7_code (4 : Nat) (Option.some Jvm.ClassFile.FieldType.int), Jvm.Cond.code ({ cls := "com/example/tallykey/tallykey/HttpSyntaxNameEndPinLaw", name := "tok", desc := "(B)Z" } : Jvm.MethodName) method_3_code (2 : Nat) (Option.some Jvm.ClassFile.FieldType.boolean)]
set_option maxRecDepth 65536 in
theorem codes_eq : words1.filter isCode = codes1 := rfl
theorem w_codes : ∀ c ∈ words1.filter isCode, c.before args0 about1 = true := by
  rw [codes_eq]
  intro c hc
  simp only [codes1, List.mem_cons, List.not_mem_nil, or_false] at hc
  rcases hc with rfl | rfl | rfl | rfl
  · exact w_c0
  · exact w_c1
  · exact w_c2
  · exact w_c3
set_option maxRecDepth 65536 in
theorem w_t1 : words1.all (fun c => isCode c || c.before args0 about1) = true := by decide +kernel
theorem w_tables : (allAtoms (Jvm.Cond.code x code maxLocals ret :: tables_1)).before args0 about1 = true := by
  rw [allAtoms_all]
  show words1.all (fun c => c.before args0 about1) = true
  refine all_split ?_ w_codes
  rw [w_t1]
set_option maxRecDepth 65536 in
theorem w_case : (Jvm.Cond.and given_1 narrow_1).before args0 about1 = true := by decide +kernel
theorem w_applies : (headSpec (Jvm.Cond.code x code maxLocals ret :: tables_1) room_1).applies x e0.platform about1 = true :=
  (Spec.applies_iff w_frames).mpr ⟨w_running, w_runnable, w_alone, w_named, w_hears, w_ripe, w_room, w_tables⟩
theorem atStart : AtStart classFile x code maxLocals ret World_1 tables_1 room_1 Calls_1 rest_1 Pre_1 launch0 p0 e0 about1 theMethod args0 below0 :=
  ⟨lists_1, trivial, launch0.admits_env _ _ _, launch0.least_env, fairChoices_fair.cas, fairChoices_fair.clock, w_frames, w_args, w_heap, w_applies, trivial, trivial, w_case⟩
end start1
theorem witness_1 : WitnessClaimed_1 := ⟨start1.p0, start1.e0, start1.about1, start1.theMethod, start1.args0, start1.below0, start1.atStart⟩
end Jvm.Pilot.@@N@@
