import JvmDerived
import JvmDerived.Pilot.@@N@@Statement
import JvmDerived.Pilot.@@N@@Code
set_option linter.unusedVariables false
set_option linter.unusedSimpArgs false
namespace Jvm.Pilot.@@N@@
open Jvm Jvm.ClassFile Sem Op Lib Jvm.Free Jvm.Stand Jvm.LawKit Jvm.RoadKit Bundle Jvm.Pilot.@@N@@.Jvm.D
section Own
/-- from any state that stands at this heap, pc, locals and stack the run comes to an end that Q takes -/
def Wk (l : Launch) (Z : State) (n0 : Nat) (own nm : String) (bytes : ByteArray) (maxL : Nat) (ret : Option FieldType) (R : Room) (kc ks : Nat) (Q : Option Value → Heap → Prop) (h : Heap) (cl sl pc : Nat) (ls : Array Slot) (st : List Value) : Prop :=
  ∀ (p : Program) (e : Env) (s : State) (m : MethodId) (args : Array Value) (below : List Frame) (meth : Method) (c : Code) (T : State) (locs : List Loc),
    p.tables.exec = Jvm.exec → c.code = bytes → c.maxLocals = maxL → s.vm.findClass own = some m.cls → meth.name = nm → meth.sig.returnType = ret → meth.locks = false → Z.Warmed39 s.vm →
    Stand p l e R s m args below meth c T locs cl sl → T.heap = h → Fr n0 locs →
    ∃ s₂ o, Steps p.tables e below (T.setTop (mkF m pc ls st)) s₂ ∧ s₂.status = .running ∧ Ended s₂ below o ∧ ∃ v L, o = .returned v ∧ (Fr n0 L ∧ Q v s₂.heap) ∧ FrameEnd s o s₂ L kc ks
/-- a method's contract: from heap h, with the arguments as', it returns as Q says; new places alone are written -/
def Met (l : Launch) (Z : State) (n0 : Nat) (y : MethodName) (bytes : ByteArray) (maxL : Nat) (ret : Option FieldType) (rm : Room) (as' : Array Value) (h : Heap) (Q : Option Value → Heap → Prop) : Prop :=
  ∀ ws : List Jvm.Cond, MetFree l y (head1 (Jvm.Cond.code y bytes maxL ret :: ws) rm) (fun a U => a = as' ∧ Z.Warmed39 U.vm ∧ U.heap = h) (fun _ _ _ _ _ => True) (fun _ U o U' => ∃ v L, o = .returned v ∧ (Fr n0 L ∧ Q v U'.heap) ∧ FrameEnd U o U' L rm.cells rm.slots)
def icP : ClassFile.Cond → Int32 → Int32 → Prop
  | .eq, x, y => x = y | .ne, x, y => ¬ x = y | .lt, x, y => x < y | .ge, x, y => ¬ x < y | .gt, x, y => y < x | .le, x, y => ¬ y < x
def icN : ClassFile.Cond → Int32 → Int32 → Prop
  | .eq, x, y => ¬ x = y | .ne, x, y => x = y | .lt, x, y => ¬ x < y | .ge, x, y => x < y | .gt, x, y => ¬ y < x | .le, x, y => y < x
def acP : ACond → Value → Value → Prop
  | .eq, x, y => x = y | .ne, x, y => ¬ x = y
def acN : ACond → Value → Value → Prop
  | .eq, x, y => ¬ x = y | .ne, x, y => x = y
theorem ic_t {cd : ClassFile.Cond} {x y : Int32} (q : icP cd x y) : if_icmp.holds cd x y = true := by
  cases cd
  · exact (teq q).1
  · exact (feq q).2
  · exact (tlt q).1
  · exact (flt q).2.1
  · exact (tlt q).2.2.1
  · exact (flt q).2.2.2
theorem ic_f {cd : ClassFile.Cond} {x y : Int32} (q : icN cd x y) : if_icmp.holds cd x y = false := by
  cases cd
  · exact (feq q).1
  · exact (teq q).2
  · exact (flt q).1
  · exact (tlt q).2.1
  · exact (flt q).2.2.1
  · exact (tlt q).2.2.2
theorem ic_or (cd : ClassFile.Cond) (x y : Int32) : icP cd x y ∨ icN cd x y := by
  cases cd <;> simp only [icP, icN] <;> first | exact Decidable.em _ | exact (Decidable.em _).symm
theorem ac_t {cd : ACond} {x y : Value} (q : acP cd x y) : XT.acmp cd x y = true := by
  cases cd
  · exact decide_eq_true (show x = y from q)
  · exact decide_eq_true (show x ≠ y from q)
theorem ac_f {cd : ACond} {x y : Value} (q : acN cd x y) : XT.acmp cd x y = false := by
  cases cd
  · exact decide_eq_false (show ¬ x = y from q)
  · exact decide_eq_false (fun z : x ≠ y => z q)
theorem ac_or (cd : ACond) (x y : Value) : acP cd x y ∨ acN cd x y := by
  cases cd <;> simp only [acP, acN] <;> first | exact Classical.em _ | exact (Classical.em _).symm
variable {l : Launch} {Z : State} {a0 : Array Value} {n0 : Nat} {own nm : String} {bytes : ByteArray} {maxL : Nat} {ret : Option FieldType} {R : Room} {kc ks : Nat} {Q : Option Value → Heap → Prop} {h : Heap} {cl sl pc q : Nat} {ls ls' : Array Slot} {st st' rest : List Value}
theorem Met.mono {y : MethodName} {rm : Room} {as' : Array Value} {Q' : Option Value → Heap → Prop} (M : Met l Z n0 y bytes maxL ret rm as' h Q) (f : ∀ v h', Q v h' → Q' v h') : Met l Z n0 y bytes maxL ret rm as' h Q' := fun ws p e a1 a2 a3 s m args below b1 b2 b3 b4 => by
  obtain ⟨n, o, c1, c2, c3, v, L, c4, c5, c6⟩ := M ws p e a1 a2 a3 s m args below b1 b2 b3 b4
  exact ⟨n, o, c1, c2, c3, v, L, c4, ⟨c5.1, f _ _ c5.2⟩, c6⟩
theorem Met.of_wk {y : MethodName} {rm : Room} {as' : Array Value} (hp : plainFor y = true) (he : ∀ m, entryFrame m as' maxL = mkF m 0 ls []) (k : Wk l Z n0 y.cls y.name bytes maxL ret rm rm.cells rm.slots Q h 0 0 0 ls []) : Met l Z n0 y bytes maxL ret rm as' h Q := by
  intro ws
  refine MetFree.of_bodySF hp hisR ?_
  intro p e s m args below meth c s₁ Bd hml0 hP hK
  obtain ⟨rfl, hZ, hh⟩ := hP
  have X0 : Stand p l e rm s m args below meth c s₁ [] 0 0 := Stand.of_body Bd
  have e0 : s₁.heap = h := by rw [← hh, Bd.state]; rfl
  rw [he m]
  exact k p e s m _ below meth c s₁ [] Bd.exec Bd.bytes hml0 (findClass_of_methodNamed Bd.named) (name_of_methodNamed Bd.named Bd.method).1 Bd.returns Bd.notSynchronized hZ X0 e0 (Fr.nil n0)
theorem Wk.step (hs : ∀ {p : Program} {e : Env} {s : State} {m : MethodId} {args : Array Value} {below : List Frame} {meth : Method} {c : Code} {T : State} {locs : List Loc}, p.tables.exec = Jvm.exec → c.code = bytes → s.vm.findClass own = some m.cls → Z.Warmed39 s.vm → Stand p l e R s m args below meth c T locs cl sl → T.heap = h →
      ∀ target, Steps p.tables e below (T.setTop (mkF m q ls' st')) target → Steps p.tables e below (T.setTop (mkF m pc ls st)) target)
    (k : Wk l Z n0 own nm bytes maxL ret R kc ks Q h cl sl q ls' st') : Wk l Z n0 own nm bytes maxL ret R kc ks Q h cl sl pc ls st := by
  intro p e s m args below meth c T locs hx hby hml hown hnm hret hlk hZ X eT N
  obtain ⟨s₂, o, h1, r⟩ := k p e s m args below meth c T locs hx hby hml hown hnm hret hlk hZ X eT N
  exact ⟨s₂, o, hs hx hby hown hZ X eT _ h1, r⟩
theorem Wk.stepW (hs : ∀ {p : Program} {e : Env} {s : State} {m : MethodId} {args : Array Value} {below : List Frame} {meth : Method} {c : Code} {T : State} {locs : List Loc}, p.tables.exec = Jvm.exec → c.code = bytes → s.vm.findClass own = some m.cls → Z.Warmed39 s.vm → Stand p l e R s m args below meth c T locs cl sl → T.heap = h →
      ∃ T', Stand p l e R s m args below meth c T' locs cl sl ∧ T'.heap = h ∧ ∀ target, Steps p.tables e below (T'.setTop (mkF m q ls' st')) target → Steps p.tables e below (T.setTop (mkF m pc ls st)) target)
    (k : Wk l Z n0 own nm bytes maxL ret R kc ks Q h cl sl q ls' st') : Wk l Z n0 own nm bytes maxL ret R kc ks Q h cl sl pc ls st := by
  intro p e s m args below meth c T locs hx hby hml hown hnm hret hlk hZ X eT N
  obtain ⟨T', X', eT', st⟩ := hs hx hby hown hZ X eT
  obtain ⟨s₂, o, h1, r⟩ := k p e s m args below meth c T' locs hx hby hml hown hnm hret hlk hZ X' eT' N
  exact ⟨s₂, o, st _ h1, r⟩
theorem Wk.iloadN {i : Fin 4} {v : Int32} (hd : decode bytes pc = .ok (.iload_n i, 1)) (hq : pc + 1 = q) (hl : ls[i.val]? = some (.val (.int v))) (k : Wk l Z n0 own nm bytes maxL ret R kc ks Q h cl sl q ls (.int v :: st)) : Wk l Z n0 own nm bytes maxL ret R kc ks Q h cl sl pc ls st := by
  subst hq; exact Wk.step (fun hx hby _ _ X _ _ k => XS.iloadN X.here hx rfl (hb hby hd) hl k) k
theorem Wk.iload {i : Nat} {v : Int32} (hd : decode bytes pc = .ok (.iload i, 2)) (hq : pc + 2 = q) (hl : ls[i]? = some (.val (.int v))) (k : Wk l Z n0 own nm bytes maxL ret R kc ks Q h cl sl q ls (.int v :: st)) : Wk l Z n0 own nm bytes maxL ret R kc ks Q h cl sl pc ls st := by
  subst hq; exact Wk.step (fun hx hby _ _ X _ _ k => XS.iload X.here hx rfl (hb hby hd) hl k) k
theorem Wk.lloadN {i : Fin 4} {v : Int64} (hd : decode bytes pc = .ok (.lload_n i, 1)) (hq : pc + 1 = q) (hl : ls[i.val]? = some (.val (.long v))) (k : Wk l Z n0 own nm bytes maxL ret R kc ks Q h cl sl q ls (.long v :: st)) : Wk l Z n0 own nm bytes maxL ret R kc ks Q h cl sl pc ls st := by
  subst hq; exact Wk.step (fun hx hby _ _ X _ _ k => XT.lloadN X.here hx rfl (hb hby hd) hl k) k
theorem Wk.lload {i : Nat} {v : Int64} (hd : decode bytes pc = .ok (.lload i, 2)) (hq : pc + 2 = q) (hl : ls[i]? = some (.val (.long v))) (k : Wk l Z n0 own nm bytes maxL ret R kc ks Q h cl sl q ls (.long v :: st)) : Wk l Z n0 own nm bytes maxL ret R kc ks Q h cl sl pc ls st := by
  subst hq; exact Wk.step (fun hx hby _ _ X _ _ k => XT.lload X.here hx rfl (hb hby hd) hl k) k
theorem Wk.aloadN {i : Fin 4} {v : Value} (hd : decode bytes pc = .ok (.aload_n i, 1)) (hq : pc + 1 = q) (hl : ls[i.val]? = some (.val v)) (hv : v.isRef = true) (k : Wk l Z n0 own nm bytes maxL ret R kc ks Q h cl sl q ls (v :: st)) : Wk l Z n0 own nm bytes maxL ret R kc ks Q h cl sl pc ls st := by
  subst hq; exact Wk.step (fun hx hby _ _ X _ _ k => XS.aloadN X.here hx rfl (hb hby hd) hl hv k) k
theorem Wk.aload {i : Nat} {v : Value} (hd : decode bytes pc = .ok (.aload i, 2)) (hq : pc + 2 = q) (hl : ls[i]? = some (.val v)) (hv : v.isRef = true) (k : Wk l Z n0 own nm bytes maxL ret R kc ks Q h cl sl q ls (v :: st)) : Wk l Z n0 own nm bytes maxL ret R kc ks Q h cl sl pc ls st := by
  subst hq; exact Wk.step (fun hx hby _ _ X _ _ k => XS.aload X.here hx rfl (hb hby hd) hl hv k) k
theorem Wk.istoreN {i : Fin 4} {v : Int32} (hd : decode bytes pc = .ok (.istore_n i, 1)) (hq : pc + 1 = q) (hl : storeLocals ls i.val (.int v) = some ls') (k : Wk l Z n0 own nm bytes maxL ret R kc ks Q h cl sl q ls' st) : Wk l Z n0 own nm bytes maxL ret R kc ks Q h cl sl pc ls (.int v :: st) := by
  subst hq; exact Wk.step (fun hx hby _ _ X _ _ k => XS.istoreN X.here hx rfl (hb hby hd) rfl hl k) k
theorem Wk.istore {i : Nat} {v : Int32} (hd : decode bytes pc = .ok (.istore i, 2)) (hq : pc + 2 = q) (hl : storeLocals ls i (.int v) = some ls') (k : Wk l Z n0 own nm bytes maxL ret R kc ks Q h cl sl q ls' st) : Wk l Z n0 own nm bytes maxL ret R kc ks Q h cl sl pc ls (.int v :: st) := by
  subst hq; exact Wk.step (fun hx hby _ _ X _ _ k => XS.istore X.here hx rfl (hb hby hd) rfl hl k) k
theorem Wk.lstoreN {i : Fin 4} {v : Int64} (hd : decode bytes pc = .ok (.lstore_n i, 1)) (hq : pc + 1 = q) (hl : storeLocals ls i.val (.long v) = some ls') (k : Wk l Z n0 own nm bytes maxL ret R kc ks Q h cl sl q ls' st) : Wk l Z n0 own nm bytes maxL ret R kc ks Q h cl sl pc ls (.long v :: st) := by
  subst hq; exact Wk.step (fun hx hby _ _ X _ _ k => XT.lstoreN X.here hx rfl (hb hby hd) rfl hl k) k
theorem Wk.lstore {i : Nat} {v : Int64} (hd : decode bytes pc = .ok (.lstore i, 2)) (hq : pc + 2 = q) (hl : storeLocals ls i (.long v) = some ls') (k : Wk l Z n0 own nm bytes maxL ret R kc ks Q h cl sl q ls' st) : Wk l Z n0 own nm bytes maxL ret R kc ks Q h cl sl pc ls (.long v :: st) := by
  subst hq; exact Wk.step (fun hx hby _ _ X _ _ k => XT.lstore X.here hx rfl (hb hby hd) rfl hl k) k
theorem Wk.astoreN {i : Fin 4} {v : Value} (hd : decode bytes pc = .ok (.astore_n i, 1)) (hq : pc + 1 = q) (hv : v.isRef = true) (hl : storeLocals ls i.val v = some ls') (k : Wk l Z n0 own nm bytes maxL ret R kc ks Q h cl sl q ls' st) : Wk l Z n0 own nm bytes maxL ret R kc ks Q h cl sl pc ls (v :: st) := by
  subst hq; exact Wk.step (fun hx hby _ _ X _ _ k => XS.astoreN X.here hx rfl (hb hby hd) rfl hv hl k) k
theorem Wk.astore {i : Nat} {v : Value} (hd : decode bytes pc = .ok (.astore i, 2)) (hq : pc + 2 = q) (hv : v.isRef = true) (hl : storeLocals ls i v = some ls') (k : Wk l Z n0 own nm bytes maxL ret R kc ks Q h cl sl q ls' st) : Wk l Z n0 own nm bytes maxL ret R kc ks Q h cl sl pc ls (v :: st) := by
  subst hq; exact Wk.step (fun hx hby _ _ X _ _ k => XS.astore X.here hx rfl (hb hby hd) rfl hv hl k) k
theorem Wk.iconst {i : Int} {v : Int32} (hd : decode bytes pc = .ok (.iconst i, 1)) (hq : pc + 1 = q) (hv : Int32.ofInt i = v) (k : Wk l Z n0 own nm bytes maxL ret R kc ks Q h cl sl q ls (.int v :: st)) : Wk l Z n0 own nm bytes maxL ret R kc ks Q h cl sl pc ls st := by
  subst hq hv; exact Wk.step (fun hx hby _ _ X _ _ k => XS.iconst X.here hx rfl (hb hby hd) k) k
theorem Wk.bipush {i : Int} {v : Int32} (hd : decode bytes pc = .ok (.bipush i, 2)) (hq : pc + 2 = q) (hv : (Int8.ofInt i).toInt32 = v) (k : Wk l Z n0 own nm bytes maxL ret R kc ks Q h cl sl q ls (.int v :: st)) : Wk l Z n0 own nm bytes maxL ret R kc ks Q h cl sl pc ls st := by
  subst hq hv; exact Wk.step (fun hx hby _ _ X _ _ k => XS.bipush X.here hx rfl (hb hby hd) k) k
theorem Wk.sipush {i : Int} {v : Int32} (hd : decode bytes pc = .ok (.sipush i, 3)) (hq : pc + 3 = q) (hv : (Int16.ofInt i).toInt32 = v) (k : Wk l Z n0 own nm bytes maxL ret R kc ks Q h cl sl q ls (.int v :: st)) : Wk l Z n0 own nm bytes maxL ret R kc ks Q h cl sl pc ls st := by
  subst hq hv; exact Wk.step (fun hx hby _ _ X _ _ k => XS.sipush X.here hx rfl (hb hby hd) k) k
theorem Wk.lconst {i : Fin 2} {v : Int64} (hd : decode bytes pc = .ok (.lconst i, 1)) (hq : pc + 1 = q) (hv : Int64.ofNat i = v) (k : Wk l Z n0 own nm bytes maxL ret R kc ks Q h cl sl q ls (.long v :: st)) : Wk l Z n0 own nm bytes maxL ret R kc ks Q h cl sl pc ls st := by
  subst hq hv; exact Wk.step (fun hx hby _ _ X _ _ k => XT.lconst X.here hx rfl (hb hby hd) k) k
theorem Wk.null  (hd : decode bytes pc = .ok (.aconst_null, 1)) (hq : pc + 1 = q)  (k : Wk l Z n0 own nm bytes maxL ret R kc ks Q h cl sl q ls (.null :: st)) : Wk l Z n0 own nm bytes maxL ret R kc ks Q h cl sl pc ls st := by
  subst hq; exact Wk.step (fun hx hby _ _ X _ _ k => XS.aconstNull X.here hx rfl (hb hby hd) k) k
theorem Wk.ldcI {i : Nat} {v : Int32} (w : (Jvm.Cond.constant own i v).before a0 Z = true) (hd : decode bytes pc = .ok (.ldc i, 2)) (hq : pc + 2 = q) (k : Wk l Z n0 own nm bytes maxL ret R kc ks Q h cl sl q ls (.int v :: st)) : Wk l Z n0 own nm bytes maxL ret R kc ks Q h cl sl pc ls st := by
  subst hq; exact Wk.step (fun hx hby hown hZ X _ t k => X.ldcInt hx hown (mv hZ w) (g := mkF _ pc ls st) rfl (hb hby hd) t k) k
theorem Wk.ldc2 {i : Nat} {v : Int64} (w : (Jvm.Cond.constantLong own i v).before a0 Z = true) (hd : decode bytes pc = .ok (.ldc2_w i, 3)) (hq : pc + 3 = q) (k : Wk l Z n0 own nm bytes maxL ret R kc ks Q h cl sl q ls (.long v :: st)) : Wk l Z n0 own nm bytes maxL ret R kc ks Q h cl sl pc ls st := by
  subst hq; exact Wk.step (fun hx hby hown hZ X _ t k => X.ldc2Long hx hown (mv hZ w) (g := mkF _ pc ls st) rfl (hb hby hd) t k) k
theorem Wk.iadd {x y v : Int32} (hd : decode bytes pc = .ok (.iadd, 1)) (hq : pc + 1 = q) (hv : x + y = v) (k : Wk l Z n0 own nm bytes maxL ret R kc ks Q h cl sl q ls (.int v :: st)) : Wk l Z n0 own nm bytes maxL ret R kc ks Q h cl sl pc ls (.int y :: .int x :: st) := by
  subst hq hv; exact Wk.step (fun hx hby _ _ X _ _ k => XS.iadd X.here hx rfl (hb hby hd) rfl k) k
theorem Wk.isub {x y v : Int32} (hd : decode bytes pc = .ok (.isub, 1)) (hq : pc + 1 = q) (hv : x - y = v) (k : Wk l Z n0 own nm bytes maxL ret R kc ks Q h cl sl q ls (.int v :: st)) : Wk l Z n0 own nm bytes maxL ret R kc ks Q h cl sl pc ls (.int y :: .int x :: st) := by
  subst hq hv; exact Wk.step (fun hx hby _ _ X _ _ k => XS.isub X.here hx rfl (hb hby hd) rfl k) k
theorem Wk.iand {x y v : Int32} (hd : decode bytes pc = .ok (.iand, 1)) (hq : pc + 1 = q) (hv : x &&& y = v) (k : Wk l Z n0 own nm bytes maxL ret R kc ks Q h cl sl q ls (.int v :: st)) : Wk l Z n0 own nm bytes maxL ret R kc ks Q h cl sl pc ls (.int y :: .int x :: st) := by
  subst hq hv; exact Wk.step (fun hx hby _ _ X _ _ k => XS.iand X.here hx rfl (hb hby hd) rfl k) k
theorem Wk.imul {x y v : Int32} (hd : decode bytes pc = .ok (.imul, 1)) (hq : pc + 1 = q) (hv : x * y = v) (k : Wk l Z n0 own nm bytes maxL ret R kc ks Q h cl sl q ls (.int v :: st)) : Wk l Z n0 own nm bytes maxL ret R kc ks Q h cl sl pc ls (.int y :: .int x :: st) := by
  subst hq hv; exact Wk.step (fun hx hby _ _ X _ _ k => XS.imul X.here hx rfl (hb hby hd) rfl k) k
theorem Wk.ishr {x y v : Int32} (hd : decode bytes pc = .ok (.ishr, 1)) (hq : pc + 1 = q) (hv : x >>> (y &&& 31) = v) (k : Wk l Z n0 own nm bytes maxL ret R kc ks Q h cl sl q ls (.int v :: st)) : Wk l Z n0 own nm bytes maxL ret R kc ks Q h cl sl pc ls (.int y :: .int x :: st) := by
  subst hq hv; exact Wk.step (fun hx hby _ _ X _ _ k => XT.ishr X.here hx rfl (hb hby hd) rfl k) k
theorem Wk.iushr {x y v : Int32} (hd : decode bytes pc = .ok (.iushr, 1)) (hq : pc + 1 = q) (hv : XT.ushr x y = v) (k : Wk l Z n0 own nm bytes maxL ret R kc ks Q h cl sl q ls (.int v :: st)) : Wk l Z n0 own nm bytes maxL ret R kc ks Q h cl sl pc ls (.int y :: .int x :: st) := by
  subst hq hv; exact Wk.step (fun hx hby _ _ X _ _ k => XT.iushr X.here hx rfl (hb hby hd) rfl k) k
theorem Wk.irem {x y v : Int32} (hd : decode bytes pc = .ok (.irem, 1)) (hq : pc + 1 = q) (hy : y ≠ 0) (hv : x % y = v) (k : Wk l Z n0 own nm bytes maxL ret R kc ks Q h cl sl q ls (.int v :: st)) : Wk l Z n0 own nm bytes maxL ret R kc ks Q h cl sl pc ls (.int y :: .int x :: st) := by
  subst hq hv; exact Wk.step (fun hx hby _ _ X _ _ k => iremM X hx (g := mkF _ pc ls (.int y :: .int x :: st)) rfl (hb hby hd) rfl hy k) k
theorem Wk.idiv {x y v : Int32} (hd : decode bytes pc = .ok (.idiv, 1)) (hq : pc + 1 = q) (hy : y ≠ 0) (hv : x / y = v) (k : Wk l Z n0 own nm bytes maxL ret R kc ks Q h cl sl q ls (.int v :: st)) : Wk l Z n0 own nm bytes maxL ret R kc ks Q h cl sl pc ls (.int y :: .int x :: st) := by
  subst hq hv; exact Wk.step (fun hx hby _ _ X _ _ k => XS.idiv X.here hx rfl (hb hby hd) rfl hy k) k
theorem Wk.i2b {x v : Int32} (hd : decode bytes pc = .ok (.i2b, 1)) (hq : pc + 1 = q) (hv : x.toInt8.toInt32 = v) (k : Wk l Z n0 own nm bytes maxL ret R kc ks Q h cl sl q ls (.int v :: st)) : Wk l Z n0 own nm bytes maxL ret R kc ks Q h cl sl pc ls (.int x :: st) := by
  subst hq hv; exact Wk.step (fun hx hby _ _ X _ _ k => XT.i2b X.here hx rfl (hb hby hd) rfl k) k
theorem Wk.i2s {x v : Int32} (hd : decode bytes pc = .ok (.i2s, 1)) (hq : pc + 1 = q) (hv : x.toInt16.toInt32 = v) (k : Wk l Z n0 own nm bytes maxL ret R kc ks Q h cl sl q ls (.int v :: st)) : Wk l Z n0 own nm bytes maxL ret R kc ks Q h cl sl pc ls (.int x :: st) := by
  subst hq hv; exact Wk.step (fun hx hby _ _ X _ _ k => XT.i2s X.here hx rfl (hb hby hd) rfl k) k
theorem Wk.i2l {x : Int32} {v : Int64} (hd : decode bytes pc = .ok (.i2l, 1)) (hq : pc + 1 = q) (hv : x.toInt64 = v) (k : Wk l Z n0 own nm bytes maxL ret R kc ks Q h cl sl q ls (.long v :: st)) : Wk l Z n0 own nm bytes maxL ret R kc ks Q h cl sl pc ls (.int x :: st) := by
  subst hq hv; exact Wk.step (fun hx hby _ _ X _ _ k => XT.i2l X.here hx rfl (hb hby hd) rfl k) k
theorem Wk.l2i {x : Int64} {v : Int32} (hd : decode bytes pc = .ok (.l2i, 1)) (hq : pc + 1 = q) (hv : x.toInt32 = v) (k : Wk l Z n0 own nm bytes maxL ret R kc ks Q h cl sl q ls (.int v :: st)) : Wk l Z n0 own nm bytes maxL ret R kc ks Q h cl sl pc ls (.long x :: st) := by
  subst hq hv; exact Wk.step (fun hx hby _ _ X _ _ k => XT.l2i X.here hx rfl (hb hby hd) rfl k) k
theorem Wk.ladd {x y v : Int64} (hd : decode bytes pc = .ok (.ladd, 1)) (hq : pc + 1 = q) (hv : x + y = v) (k : Wk l Z n0 own nm bytes maxL ret R kc ks Q h cl sl q ls (.long v :: st)) : Wk l Z n0 own nm bytes maxL ret R kc ks Q h cl sl pc ls (.long y :: .long x :: st) := by
  subst hq hv; exact Wk.step (fun hx hby _ _ X _ _ k => XT.ladd X.here hx rfl (hb hby hd) rfl k) k
theorem Wk.lsub {x y v : Int64} (hd : decode bytes pc = .ok (.lsub, 1)) (hq : pc + 1 = q) (hv : x - y = v) (k : Wk l Z n0 own nm bytes maxL ret R kc ks Q h cl sl q ls (.long v :: st)) : Wk l Z n0 own nm bytes maxL ret R kc ks Q h cl sl pc ls (.long y :: .long x :: st) := by
  subst hq hv; exact Wk.step (fun hx hby _ _ X _ _ k => XT.lsub X.here hx rfl (hb hby hd) rfl k) k
theorem Wk.lmul {x y v : Int64} (hd : decode bytes pc = .ok (.lmul, 1)) (hq : pc + 1 = q) (hv : x * y = v) (k : Wk l Z n0 own nm bytes maxL ret R kc ks Q h cl sl q ls (.long v :: st)) : Wk l Z n0 own nm bytes maxL ret R kc ks Q h cl sl pc ls (.long y :: .long x :: st) := by
  subst hq hv; exact Wk.step (fun hx hby _ _ X _ _ k => XT.lmul X.here hx rfl (hb hby hd) rfl k) k
theorem Wk.lneg {x v : Int64} (hd : decode bytes pc = .ok (.lneg, 1)) (hq : pc + 1 = q) (hv : -x = v) (k : Wk l Z n0 own nm bytes maxL ret R kc ks Q h cl sl q ls (.long v :: st)) : Wk l Z n0 own nm bytes maxL ret R kc ks Q h cl sl pc ls (.long x :: st) := by
  subst hq hv; exact Wk.step (fun hx hby _ _ X _ _ k => XT.lneg X.here hx rfl (hb hby hd) rfl k) k
theorem Wk.lcmp {x y : Int64} {v : Int32} (hd : decode bytes pc = .ok (.lcmp, 1)) (hq : pc + 1 = q) (hv : XT.cmpL x y = v) (k : Wk l Z n0 own nm bytes maxL ret R kc ks Q h cl sl q ls (.int v :: st)) : Wk l Z n0 own nm bytes maxL ret R kc ks Q h cl sl pc ls (.long y :: .long x :: st) := by
  subst hq hv; exact Wk.step (fun hx hby _ _ X _ _ k => XT.lcmp X.here hx rfl (hb hby hd) rfl k) k
theorem Wk.iinc {i : Nat} {cst : Int} {x v : Int32} (hd : decode bytes pc = .ok (.iinc i cst, 3)) (hq : pc + 3 = q) (hl : ls[i]? = some (.val (.int x))) (hv : x + Int32.ofInt cst = v) (hl' : storeLocals ls i (.int v) = some ls') (k : Wk l Z n0 own nm bytes maxL ret R kc ks Q h cl sl q ls' st) : Wk l Z n0 own nm bytes maxL ret R kc ks Q h cl sl pc ls st := by
  subst hq hv; exact Wk.step (fun hx hby _ _ X _ _ k => XS.iinc X.here hx rfl (hb hby hd) hl hl' k) k
theorem Wk.dup {x : Value} (hd : decode bytes pc = .ok (.dup, 1)) (hq : pc + 1 = q) (hc : x.category = 1) (k : Wk l Z n0 own nm bytes maxL ret R kc ks Q h cl sl q ls (x :: x :: st)) : Wk l Z n0 own nm bytes maxL ret R kc ks Q h cl sl pc ls (x :: st) := by
  subst hq; exact Wk.step (fun hx hby _ _ X _ _ k => XS.dup X.here hx rfl (hb hby hd) rfl hc k) k
theorem Wk.dupX1 {x y : Value} (hd : decode bytes pc = .ok (.dup_x1, 1)) (hq : pc + 1 = q) (hc : x.category = 1) (hc' : y.category = 1) (k : Wk l Z n0 own nm bytes maxL ret R kc ks Q h cl sl q ls (x :: y :: x :: st)) : Wk l Z n0 own nm bytes maxL ret R kc ks Q h cl sl pc ls (x :: y :: st) := by
  subst hq; exact Wk.step (fun hx hby _ _ X _ _ k => XT.dupX1 X.here hx rfl (hb hby hd) rfl hc hc' k) k
theorem Wk.pop {x : Value} (hd : decode bytes pc = .ok (.pop, 1)) (hq : pc + 1 = q) (hc : x.category = 1) (k : Wk l Z n0 own nm bytes maxL ret R kc ks Q h cl sl q ls st) : Wk l Z n0 own nm bytes maxL ret R kc ks Q h cl sl pc ls (x :: st) := by
  subst hq; exact Wk.step (fun hx hby _ _ X _ _ k => XT.pop X.here hx rfl (hb hby hd) rfl hc k) k
theorem Wk.goto {o : Int} (hd : decode bytes pc = .ok (.goto o, 3)) (ho : 0 ≤ (pc : Int) + o) (hp : ((pc : Int) + o).toNat = q) (k : Wk l Z n0 own nm bytes maxL ret R kc ks Q h cl sl q ls st) : Wk l Z n0 own nm bytes maxL ret R kc ks Q h cl sl pc ls st :=
  Wk.step (fun hx hby _ _ X _ _ k => XS.goto X.here hx rfl rfl (hb hby hd) ho hp k) k
theorem Wk.icmpT {cd : ClassFile.Cond} {o : Int} {x y : Int32} (hd : decode bytes pc = .ok (.if_icmp cd o, 3)) (ho : 0 ≤ (pc : Int) + o) (hp : ((pc : Int) + o).toNat = q) (hc : icP cd x y) (k : Wk l Z n0 own nm bytes maxL ret R kc ks Q h cl sl q ls st) : Wk l Z n0 own nm bytes maxL ret R kc ks Q h cl sl pc ls (.int y :: .int x :: st) :=
  Wk.step (fun hx hby _ _ X _ _ k => XS.icmpYes X.here hx rfl rfl (hb hby hd) rfl (ic_t hc) ho hp k) k
theorem Wk.icmpF {cd : ClassFile.Cond} {o : Int} {x y : Int32} (hd : decode bytes pc = .ok (.if_icmp cd o, 3)) (hq : pc + 3 = q) (hc : icN cd x y) (k : Wk l Z n0 own nm bytes maxL ret R kc ks Q h cl sl q ls st) : Wk l Z n0 own nm bytes maxL ret R kc ks Q h cl sl pc ls (.int y :: .int x :: st) := by
  subst hq; exact Wk.step (fun hx hby _ _ X _ _ k => XS.icmpNo X.here hx rfl (hb hby hd) rfl (ic_f hc) k) k
theorem Wk.icmp {cd : ClassFile.Cond} {o : Int} {x y : Int32} {q' : Nat} (hd : decode bytes pc = .ok (.if_icmp cd o, 3)) (ho : 0 ≤ (pc : Int) + o) (hp : ((pc : Int) + o).toNat = q) (hq : pc + 3 = q') (kT : icP cd x y → Wk l Z n0 own nm bytes maxL ret R kc ks Q h cl sl q ls st) (kF : icN cd x y → Wk l Z n0 own nm bytes maxL ret R kc ks Q h cl sl q' ls st) : Wk l Z n0 own nm bytes maxL ret R kc ks Q h cl sl pc ls (.int y :: .int x :: st) :=
  (ic_or cd x y).elim (fun z => Wk.icmpT hd ho hp z (kT z)) (fun z => Wk.icmpF hd hq z (kF z))
theorem Wk.ifcT {cd : ClassFile.Cond} {o : Int} {x : Int32} (hd : decode bytes pc = .ok (.ifCond cd o, 3)) (ho : 0 ≤ (pc : Int) + o) (hp : ((pc : Int) + o).toNat = q) (hc : icP cd x 0) (k : Wk l Z n0 own nm bytes maxL ret R kc ks Q h cl sl q ls st) : Wk l Z n0 own nm bytes maxL ret R kc ks Q h cl sl pc ls (.int x :: st) :=
  Wk.step (fun hx hby _ _ X _ _ k => XS.ifYes X.here hx rfl rfl (hb hby hd) rfl ((if0 cd x).trans (ic_t hc)) ho hp k) k
theorem Wk.ifcF {cd : ClassFile.Cond} {o : Int} {x : Int32} (hd : decode bytes pc = .ok (.ifCond cd o, 3)) (hq : pc + 3 = q) (hc : icN cd x 0) (k : Wk l Z n0 own nm bytes maxL ret R kc ks Q h cl sl q ls st) : Wk l Z n0 own nm bytes maxL ret R kc ks Q h cl sl pc ls (.int x :: st) := by
  subst hq; exact Wk.step (fun hx hby _ _ X _ _ k => XS.ifNo X.here hx rfl (hb hby hd) rfl ((if0 cd x).trans (ic_f hc)) k) k
theorem Wk.ifc {cd : ClassFile.Cond} {o : Int} {x : Int32} {q' : Nat} (hd : decode bytes pc = .ok (.ifCond cd o, 3)) (ho : 0 ≤ (pc : Int) + o) (hp : ((pc : Int) + o).toNat = q) (hq : pc + 3 = q') (kT : icP cd x 0 → Wk l Z n0 own nm bytes maxL ret R kc ks Q h cl sl q ls st) (kF : icN cd x 0 → Wk l Z n0 own nm bytes maxL ret R kc ks Q h cl sl q' ls st) : Wk l Z n0 own nm bytes maxL ret R kc ks Q h cl sl pc ls (.int x :: st) :=
  (ic_or cd x 0).elim (fun z => Wk.ifcT hd ho hp z (kT z)) (fun z => Wk.ifcF hd hq z (kF z))
theorem Wk.acmpT {cd : ACond} {o : Int} {x y : Value} (hd : decode bytes pc = .ok (.if_acmp cd o, 3)) (ho : 0 ≤ (pc : Int) + o) (hp : ((pc : Int) + o).toNat = q) (hx' : x.isRef = true) (hy' : y.isRef = true) (hc : acP cd x y) (k : Wk l Z n0 own nm bytes maxL ret R kc ks Q h cl sl q ls st) : Wk l Z n0 own nm bytes maxL ret R kc ks Q h cl sl pc ls (y :: x :: st) :=
  Wk.step (fun hx hby _ _ X _ _ k => XT.acmpYes X.here hx rfl rfl (hb hby hd) rfl hx' hy' (ac_t hc) ho hp k) k
theorem Wk.acmpF {cd : ACond} {o : Int} {x y : Value} (hd : decode bytes pc = .ok (.if_acmp cd o, 3)) (hq : pc + 3 = q) (hx' : x.isRef = true) (hy' : y.isRef = true) (hc : acN cd x y) (k : Wk l Z n0 own nm bytes maxL ret R kc ks Q h cl sl q ls st) : Wk l Z n0 own nm bytes maxL ret R kc ks Q h cl sl pc ls (y :: x :: st) := by
  subst hq; exact Wk.step (fun hx hby _ _ X _ _ k => XT.acmpNo X.here hx rfl (hb hby hd) rfl hx' hy' (ac_f hc) k) k
theorem Wk.acmp {cd : ACond} {o : Int} {x y : Value} {q' : Nat} (hd : decode bytes pc = .ok (.if_acmp cd o, 3)) (ho : 0 ≤ (pc : Int) + o) (hp : ((pc : Int) + o).toNat = q) (hq : pc + 3 = q') (hx' : x.isRef = true) (hy' : y.isRef = true) (kT : acP cd x y → Wk l Z n0 own nm bytes maxL ret R kc ks Q h cl sl q ls st) (kF : acN cd x y → Wk l Z n0 own nm bytes maxL ret R kc ks Q h cl sl q' ls st) : Wk l Z n0 own nm bytes maxL ret R kc ks Q h cl sl pc ls (y :: x :: st) :=
  (ac_or cd x y).elim (fun z => Wk.acmpT hd ho hp hx' hy' z (kT z)) (fun z => Wk.acmpF hd hq hx' hy' z (kF z))
theorem Wk.ifnullT {o : Int} (hd : decode bytes pc = .ok (.ifnull o, 3)) (ho : 0 ≤ (pc : Int) + o) (hp : ((pc : Int) + o).toNat = q) (k : Wk l Z n0 own nm bytes maxL ret R kc ks Q h cl sl q ls st) : Wk l Z n0 own nm bytes maxL ret R kc ks Q h cl sl pc ls (.null :: st) :=
  Wk.step (fun hx hby _ _ X _ _ k => XS.ifnullYes X.here hx rfl rfl (hb hby hd) rfl ho hp k) k
theorem Wk.ifnullF {o : Int} {b : Addr} (hd : decode bytes pc = .ok (.ifnull o, 3)) (hq : pc + 3 = q) (k : Wk l Z n0 own nm bytes maxL ret R kc ks Q h cl sl q ls st) : Wk l Z n0 own nm bytes maxL ret R kc ks Q h cl sl pc ls (.ref b :: st) := by
  subst hq; exact Wk.step (fun hx hby _ _ X _ _ k => XS.ifnullNo X.here hx rfl (hb hby hd) rfl k) k
theorem Wk.ifnonnullT {o : Int} {b : Addr} (hd : decode bytes pc = .ok (.ifnonnull o, 3)) (ho : 0 ≤ (pc : Int) + o) (hp : ((pc : Int) + o).toNat = q) (k : Wk l Z n0 own nm bytes maxL ret R kc ks Q h cl sl q ls st) : Wk l Z n0 own nm bytes maxL ret R kc ks Q h cl sl pc ls (.ref b :: st) :=
  Wk.step (fun hx hby _ _ X _ _ k => XT.ifnonnullYes X.here hx rfl rfl (hb hby hd) rfl ho hp k) k
theorem Wk.ifnonnullF {o : Int} (hd : decode bytes pc = .ok (.ifnonnull o, 3)) (hq : pc + 3 = q) (k : Wk l Z n0 own nm bytes maxL ret R kc ks Q h cl sl q ls st) : Wk l Z n0 own nm bytes maxL ret R kc ks Q h cl sl pc ls (.null :: st) := by
  subst hq; exact Wk.step (fun hx hby _ _ X _ _ k => XT.ifnonnullNo X.here hx rfl (hb hby hd) rfl k) k
theorem Wk.tsw {dflt low high : Int} {offs : Array Int} {len : Nat} {o : Int} {i : Int32} (hd : decode bytes pc = .ok (.tableswitch dflt low high offs, len)) (hin : ¬ (i.toInt < low ∨ i.toInt > high)) (hoff : offs[(i.toInt - low).toNat]? = some o) (ho : 0 ≤ (pc : Int) + o) (hp : ((pc : Int) + o).toNat = q) (k : Wk l Z n0 own nm bytes maxL ret R kc ks Q h cl sl q ls st) : Wk l Z n0 own nm bytes maxL ret R kc ks Q h cl sl pc ls (.int i :: st) :=
  Wk.step (fun hx hby _ _ X _ _ k => XS.tswIn X.here hx rfl rfl (hb hby hd) rfl hin hoff ho hp k) k
theorem Wk.getS {O n d R0 : String} {i : Nat} {v : Value} (w : (Jvm.Cond.fieldLink own i R0 n d).before a0 Z = true) (via : Via Z R0 O n d) (F : Sta Z h O n d v) (hd : decode bytes pc = .ok (.getstatic i, 3)) (hq : pc + 3 = q) (k : Wk l Z n0 own nm bytes maxL ret R kc ks Q h cl sl q ls (v :: st)) : Wk l Z n0 own nm bytes maxL ret R kc ks Q h cl sl pc ls st := by
  subst hq; exact Wk.stepW (fun hx hby hown hZ X eT => RoadKit.getS (host := "") X hx hZ hown w via eT F (g := mkF _ pc ls st) rfl (hb hby hd)) k
theorem Wk.getF {O n d R0 : String} {i : Nat} {a : Addr} {v : Value} (w : (Jvm.Cond.fieldLink own i R0 n d).before a0 Z = true) (via : Via Z R0 O n d) (F : Fld Z h a O n d v) (hd : decode bytes pc = .ok (.getfield i, 3)) (hq : pc + 3 = q) (k : Wk l Z n0 own nm bytes maxL ret R kc ks Q h cl sl q ls (v :: st)) : Wk l Z n0 own nm bytes maxL ret R kc ks Q h cl sl pc ls (.ref a :: st) := by
  subst hq; exact Wk.stepW (fun hx hby hown hZ X eT => RoadKit.getF (host := "") X hx hZ hown (Or.inl w) via eT F (g := mkF _ pc ls (.ref a :: st)) rfl rfl (hb hby hd)) k
theorem Wk.alen {a : Addr} {c0 : Cell} {ty : FieldType} {v : Int32} (A : Arr Z h a c0 ty) (hv : c0.slots.size.toInt32 = v) (hd : decode bytes pc = .ok (.arraylength, 1)) (hq : pc + 1 = q) (k : Wk l Z n0 own nm bytes maxL ret R kc ks Q h cl sl q ls (.int v :: st)) : Wk l Z n0 own nm bytes maxL ret R kc ks Q h cl sl pc ls (.ref a :: st) := by
  subst hq hv; exact Wk.step (fun hx hby _ hZ X eT t k => X.arraylength hx (by rw [eT]; exact A.1) (State.isArrayOf_alike hZ.alike A.2.1) (g := mkF _ pc ls (.ref a :: st)) rfl rfl (hb hby hd) t k) k
theorem Wk.aaload {a : Addr} {c0 : Cell} {ty : FieldType} {j : Int32} {v : Value} (A : Arr Z h a c0 ty) (hty : ty.isReference = true) (hin : ¬ (j < 0 ∨ c0.slots.size ≤ j.toNatClampNeg)) (hv : c0.slots[j.toNatClampNeg]? = some v) (hd : decode bytes pc = .ok (.aaload, 1)) (hq : pc + 1 = q) (k : Wk l Z n0 own nm bytes maxL ret R kc ks Q h cl sl q ls (v :: st)) : Wk l Z n0 own nm bytes maxL ret R kc ks Q h cl sl pc ls (.int j :: .ref a :: st) := by
  subst hq; exact Wk.step (fun hx hby _ hZ X eT t k => X.aaload hx (by rw [eT]; exact A.1) (State.isArrayOf_alike hZ.alike A.2.1) hty A.2.2 hin hv (g := mkF _ pc ls (.int j :: .ref a :: st)) rfl rfl (hb hby hd) t k) k
theorem Wk.baloadB {a : Addr} {c0 : Cell} {j : Int32} {v : Value} (A : Arr Z h a c0 .byte) (hin : ¬ (j < 0 ∨ c0.slots.size ≤ j.toNatClampNeg)) (hv : c0.slots[j.toNatClampNeg]? = some v) (hd : decode bytes pc = .ok (.baload, 1)) (hq : pc + 1 = q) (k : Wk l Z n0 own nm bytes maxL ret R kc ks Q h cl sl q ls (v :: st)) : Wk l Z n0 own nm bytes maxL ret R kc ks Q h cl sl pc ls (.int j :: .ref a :: st) := by
  subst hq; exact Wk.step (fun hx hby _ hZ X eT t k => X.baloadBytes hx (by rw [eT]; exact A.1) (State.isArrayOf_alike hZ.alike A.2.1) A.2.2 hin hv (g := mkF _ pc ls (.int j :: .ref a :: st)) rfl rfl (hb hby hd) t k) k
theorem Wk.baloadZ {a : Addr} {c0 : Cell} {j : Int32} {v : Value} (A : Arr Z h a c0 .boolean) (hin : ¬ (j < 0 ∨ c0.slots.size ≤ j.toNatClampNeg)) (hv : c0.slots[j.toNatClampNeg]? = some v) (hd : decode bytes pc = .ok (.baload, 1)) (hq : pc + 1 = q) (k : Wk l Z n0 own nm bytes maxL ret R kc ks Q h cl sl q ls (v :: st)) : Wk l Z n0 own nm bytes maxL ret R kc ks Q h cl sl pc ls (.int j :: .ref a :: st) := by
  subst hq; exact Wk.step (fun hx hby _ hZ X eT t k => X.baloadBooleans hx (by rw [eT]; exact A.1) (State.isArrayOf_alike hZ.alike A.2.1) A.2.2 hin hv (g := mkF _ pc ls (.int j :: .ref a :: st)) rfl rfl (hb hby hd) t k) k
theorem Wk.retG {w : Value} {t : FieldType} {i : Instr} (hret : ret = some t) (hn : narrow t w = w)
    (hi : (i = .ireturn ∧ (t = .int ∨ t = .boolean ∨ t = .byte ∨ t = .char ∨ t = .short) ∧ ∃ z, w = .int z) ∨ (i = .lreturn ∧ t = .long ∧ ∃ z, w = .long z) ∨ (i = .dreturn ∧ t = .double ∧ ∃ z, w = .double z) ∨ (i = .freturn ∧ t = .float ∧ ∃ z, w = .float z) ∨ (i = .areturn ∧ t.isReference = true ∧ w.isRef = true))
    (hd : decode bytes pc = .ok (i, 1)) (hc : cl ≤ kc) (hs : sl ≤ ks) (hQ : Q (some w) h) : Wk l Z n0 own nm bytes maxL ret R kc ks Q h cl sl pc ls (w :: st) := by
  intro p e s m args below meth c T locs hx hby hml hown hnm hr hlk hZ X eT N
  obtain ⟨fs, hr', hrun, hended, hW, hsame⟩ := X.leave (v := some w) (fun q => by rw [hr, hret] at q; cases q) hlk
  exact ⟨_, _, RoadKit.retOut X hx (hr.trans hret) hn hi (hb hby hd) hr', hrun, hended, _, _, rfl, ⟨N, by show Q _ T.heap; rw [eT]; exact hQ⟩, ⟨_, rfl⟩, hW, hsame.mono hc hs⟩
theorem Wk.retI {z : Int32} (hret : ret = some .int) (hd : decode bytes pc = .ok (.ireturn, 1)) (hc : cl ≤ kc) (hs : sl ≤ ks) (hQ : Q (some (.int z)) h) : Wk l Z n0 own nm bytes maxL ret R kc ks Q h cl sl pc ls (.int z :: st) :=
  Wk.retG hret rfl (Or.inl ⟨rfl, Or.inl rfl, z, rfl⟩) hd hc hs hQ
theorem Wk.retZ {z : Int32} (hret : ret = some .boolean) (hz : narrow .boolean (.int z) = .int z) (hd : decode bytes pc = .ok (.ireturn, 1)) (hc : cl ≤ kc) (hs : sl ≤ ks) (hQ : Q (some (.int z)) h) : Wk l Z n0 own nm bytes maxL ret R kc ks Q h cl sl pc ls (.int z :: st) :=
  Wk.retG hret hz (Or.inl ⟨rfl, Or.inr (Or.inl rfl), z, rfl⟩) hd hc hs hQ
theorem Wk.retB {z : Int32} (hret : ret = some .byte) (hz : narrow .byte (.int z) = .int z) (hd : decode bytes pc = .ok (.ireturn, 1)) (hc : cl ≤ kc) (hs : sl ≤ ks) (hQ : Q (some (.int z)) h) : Wk l Z n0 own nm bytes maxL ret R kc ks Q h cl sl pc ls (.int z :: st) :=
  Wk.retG hret hz (Or.inl ⟨rfl, Or.inr (Or.inr (Or.inl rfl)), z, rfl⟩) hd hc hs hQ
theorem Wk.retL {z : Int64} (hret : ret = some .long) (hd : decode bytes pc = .ok (.lreturn, 1)) (hc : cl ≤ kc) (hs : sl ≤ ks) (hQ : Q (some (.long z)) h) : Wk l Z n0 own nm bytes maxL ret R kc ks Q h cl sl pc ls (.long z :: st) :=
  Wk.retG hret rfl (Or.inr (Or.inl ⟨rfl, rfl, z, rfl⟩)) hd hc hs hQ
theorem own_narR {t : FieldType} {w : Value} (h1 : t.isReference = true) (h2 : w.isRef = true) : narrow t w = w := by
  cases t <;> cases w <;> first | rfl | (simp [FieldType.isReference] at h1; done) | (simp [Value.isRef] at h2; done)
theorem Wk.retA {w : Value} {t : FieldType} (hret : ret = some t) (ht : t.isReference = true) (hw : w.isRef = true) (hd : decode bytes pc = .ok (.areturn, 1)) (hc : cl ≤ kc) (hs : sl ≤ ks) (hQ : Q (some w) h) : Wk l Z n0 own nm bytes maxL ret R kc ks Q h cl sl pc ls (w :: st) :=
  Wk.retG hret (own_narR ht hw) (Or.inr (Or.inr (Or.inr (Or.inr ⟨rfl, ht, hw⟩)))) hd hc hs hQ
theorem Wk.retV (hret : ret = none) (hd : decode bytes pc = .ok (.return_, 1)) (hc : cl ≤ kc) (hs : sl ≤ ks) (hQ : Q none h) : Wk l Z n0 own nm bytes maxL ret R kc ks Q h cl sl pc ls [] := by
  intro p e s m args below meth c T locs hx hby hml hown hnm hr hlk hZ X eT N
  obtain ⟨fs, hr', hrun, hended, hW, hsame⟩ := X.leave (v := none) (fun _ => rfl) hlk
  exact ⟨_, _, X.returnOut hx (hr.trans hret) (hb hby hd) hr', hrun, hended, _, _, rfl, ⟨N, by show Q _ T.heap; rw [eT]; exact hQ⟩, ⟨_, rfl⟩, hW, hsame.mono hc hs⟩
theorem Wk.callS {i : Nat} {y : MethodName} {by' : ByteArray} {mL : Nat} {rt : Option FieldType} {rm : Room} {argsL rest : List Value} {Q' : Value → Heap → Prop} {ps : List FieldType} {r' : Option FieldType}
    (hM : Met l Z n0 y by' mL rt rm argsL.toArray h (fun v h' => ∃ w, v = some w ∧ Q' w h'))
    (w1 : (Jvm.Cond.methodLink own i y).before a0 Z = true) (w2 : (Jvm.Cond.static y).before a0 Z = true) (w3 : (Jvm.Cond.initialized y.cls).before a0 Z = true) (w4 : (Jvm.Cond.code y by' mL rt).before a0 Z = true) (hy : y.cls ≠ "java/lang/invoke/MethodHandle" ∧ y.cls ≠ "java/lang/invoke/VarHandle")
    (hds : parseMethodDescriptor y.desc = some ⟨ps, r'⟩) (hln : argsL.length = ps.length) (hst : st = argsL.reverse ++ rest) (hls : ls.size = maxL) (hd : decode bytes pc = .ok (.invokestatic i, 3)) (hq : pc + 3 = q)
    {W : Nat} (hW : (rest.map fun v => v.category).sum = W) (hf : rm.frames + 1 ≤ R.frames) (hlo : W + (mL + 11) + rm.locals ≤ R.locals) (hce : cl + rm.cells ≤ R.cells) (hsl : sl + rm.slots ≤ R.slots)
    (k : ∀ w h', Q' w h' → Wk l Z n0 own nm bytes maxL ret R kc ks Q h' (cl + rm.cells) (sl + rm.slots) q ls (w :: rest)) : Wk l Z n0 own nm bytes maxL ret R kc ks Q h cl sl pc ls st := by
  subst hq hst hW
  intro p e s m args below meth c T locs hx hby hml hown hnm hr hlk hZ X eT N
  obtain ⟨v, _, ⟨T', L', k', n'⟩, -, X', ⟨Lc, ⟨N', hQ⟩, l', y', z'⟩, stp⟩ := Jvm.LawKit.callS X hx (y := y) hown (mvT hZ w1) (mvT hZ w2) (mvT hZ w3) (mvT hZ w4) hy (backOf (W := (rest.map fun v => v.category).sum) (Q := fun v h' L => Fr n0 L ∧ (fun v h' => ∃ w, v = some w ∧ Q' w h') v h') (hM []) hZ w4 w3 hf hlo) (g := mkF m pc ls (argsL.reverse ++ rest)) rfl (by rw [hml]; exact hls) (argsL := argsL) (rest := rest) (lenOf hds hln) rfl (by show 2 * 0 + _ ≤ _; omega) (hb hby hd) (fun _ _ => ⟨rfl, eT, hce, hsl⟩)
  dsimp only [Pt.U, Pt.locs, Pt.cells, Pt.slots] at X' l' y' z' stp hQ
  subst l' y' z'
  obtain ⟨w, rfl, hQ⟩ := hQ
  obtain ⟨s₂, o, h1, r⟩ := k w T'.heap hQ p e s m args below meth c T' _ hx hby hml hown hnm hr hlk hZ X' rfl (Fr.app N N')
  exact ⟨s₂, o, stp _ h1, r⟩
theorem Wk.callS1 {i : Nat} {y : MethodName} {by' : ByteArray} {mL : Nat} {rt : Option FieldType} {fr lo : Nat} {argsL rest : List Value} {v0 : Value} {ps : List FieldType} {r' : Option FieldType}
    (hM : Met l Z n0 y by' mL rt ⟨fr, 0, 0, lo⟩ argsL.toArray h (fun v h' => v = some v0 ∧ h' = h))
    (w1 : (Jvm.Cond.methodLink own i y).before a0 Z = true) (w2 : (Jvm.Cond.static y).before a0 Z = true) (w3 : (Jvm.Cond.initialized y.cls).before a0 Z = true) (w4 : (Jvm.Cond.code y by' mL rt).before a0 Z = true) (hy : y.cls ≠ "java/lang/invoke/MethodHandle" ∧ y.cls ≠ "java/lang/invoke/VarHandle")
    (hds : parseMethodDescriptor y.desc = some ⟨ps, r'⟩) (hln : argsL.length = ps.length) (hst : st = argsL.reverse ++ rest) (hls : ls.size = maxL) (hd : decode bytes pc = .ok (.invokestatic i, 3)) (hq : pc + 3 = q)
    {W : Nat} (hW : (rest.map fun v => v.category).sum = W) (hf : fr + 1 ≤ R.frames) (hlo : W + (mL + 11) + lo ≤ R.locals) (hce : cl ≤ R.cells) (hsl : sl ≤ R.slots)
    (k : Wk l Z n0 own nm bytes maxL ret R kc ks Q h cl sl q ls (v0 :: rest)) : Wk l Z n0 own nm bytes maxL ret R kc ks Q h cl sl pc ls st :=
  Wk.callS (Q' := fun w h' => w = v0 ∧ h' = h) (rm := ⟨fr, 0, 0, lo⟩) (hM.mono fun v h' z => ⟨v0, z.1, rfl, z.2⟩) w1 w2 w3 w4 hy hds hln hst hls hd hq hW hf hlo hce hsl (fun w h' z => by obtain ⟨rfl, rfl⟩ := z; exact k)
theorem Wk.callS0 {i : Nat} {y : MethodName} {by' : ByteArray} {mL : Nat} {rt : Option FieldType} {rm : Room} {argsL rest : List Value} {Q' : Heap → Prop} {ps : List FieldType} {r' : Option FieldType}
    (hM : Met l Z n0 y by' mL rt rm argsL.toArray h (fun v h' => v = none ∧ Q' h'))
    (w1 : (Jvm.Cond.methodLink own i y).before a0 Z = true) (w2 : (Jvm.Cond.static y).before a0 Z = true) (w3 : (Jvm.Cond.initialized y.cls).before a0 Z = true) (w4 : (Jvm.Cond.code y by' mL rt).before a0 Z = true) (hy : y.cls ≠ "java/lang/invoke/MethodHandle" ∧ y.cls ≠ "java/lang/invoke/VarHandle")
    (hds : parseMethodDescriptor y.desc = some ⟨ps, r'⟩) (hln : argsL.length = ps.length) (hst : st = argsL.reverse ++ rest) (hls : ls.size = maxL) (hd : decode bytes pc = .ok (.invokestatic i, 3)) (hq : pc + 3 = q)
    {W : Nat} (hW : (rest.map fun v => v.category).sum = W) (hf : rm.frames + 1 ≤ R.frames) (hlo : W + (mL + 11) + rm.locals ≤ R.locals) (hce : cl + rm.cells ≤ R.cells) (hsl : sl + rm.slots ≤ R.slots)
    (k : ∀ h', Q' h' → Wk l Z n0 own nm bytes maxL ret R kc ks Q h' (cl + rm.cells) (sl + rm.slots) q ls rest) : Wk l Z n0 own nm bytes maxL ret R kc ks Q h cl sl pc ls st := by
  subst hq hst hW
  intro p e s m args below meth c T locs hx hby hml hown hnm hr hlk hZ X eT N
  obtain ⟨v, _, ⟨T', L', k', n'⟩, -, X', ⟨Lc, ⟨N', hQ⟩, l', y', z'⟩, stp⟩ := Jvm.LawKit.callS X hx (y := y) hown (mvT hZ w1) (mvT hZ w2) (mvT hZ w3) (mvT hZ w4) hy (backOf (W := (rest.map fun v => v.category).sum) (Q := fun v h' L => Fr n0 L ∧ (fun v h' => v = none ∧ Q' h') v h') (hM []) hZ w4 w3 hf hlo) (g := mkF m pc ls (argsL.reverse ++ rest)) rfl (by rw [hml]; exact hls) (argsL := argsL) (rest := rest) (lenOf hds hln) rfl (by show 2 * 0 + _ ≤ _; omega) (hb hby hd) (fun _ _ => ⟨rfl, eT, hce, hsl⟩)
  dsimp only [Pt.U, Pt.locs, Pt.cells, Pt.slots] at X' l' y' z' stp hQ
  subst l' y' z'
  obtain ⟨rfl, hQ⟩ := hQ
  obtain ⟨s₂, o, h1, r⟩ := k T'.heap hQ p e s m args below meth c T' _ hx hby hml hown hnm hr hlk hZ X' rfl (Fr.app N N')
  exact ⟨s₂, o, stp _ h1, r⟩
theorem Wk.callV {i : Nat} {C : String} {y : MethodName} {by' : ByteArray} {mL : Nat} {rt : Option FieldType} {rm : Room} {a : Addr} {argsL rest : List Value} {Q' : Value → Heap → Prop} {ps : List FieldType} {r' : Option FieldType}
    (hM : Met l Z n0 y by' mL rt rm (.ref a :: argsL).toArray h (fun v h' => ∃ w, v = some w ∧ Q' w h')) (E : Exa Z h a C)
    (w1 : (Jvm.Cond.methodLink own i y).before a0 Z = true) (w2 : (Jvm.Cond.declares y).before a0 Z = true) (w3 : (Jvm.Cond.selects C y y).before a0 Z = true) (w4 : (Jvm.Cond.instanceMethod y).before a0 Z = true) (w5 : (Jvm.Cond.code y by' mL rt).before a0 Z = true) (w6 : (Jvm.Cond.initialized y.cls).before a0 Z = true) (hy : y.cls ≠ "java/lang/invoke/MethodHandle" ∧ y.cls ≠ "java/lang/invoke/VarHandle")
    (hds : parseMethodDescriptor y.desc = some ⟨ps, r'⟩) (hln : argsL.length = ps.length) (hst : st = argsL.reverse ++ .ref a :: rest) (hls : ls.size = maxL) (hd : decode bytes pc = .ok (.invokevirtual i, 3)) (hq : pc + 3 = q)
    {W : Nat} (hW : (rest.map fun v => v.category).sum = W) (hf : rm.frames + 1 ≤ R.frames) (hlo : W + (mL + 11) + rm.locals ≤ R.locals) (hce : cl + rm.cells ≤ R.cells) (hsl : sl + rm.slots ≤ R.slots)
    (k : ∀ w h', Q' w h' → Wk l Z n0 own nm bytes maxL ret R kc ks Q h' (cl + rm.cells) (sl + rm.slots) q ls (w :: rest)) : Wk l Z n0 own nm bytes maxL ret R kc ks Q h cl sl pc ls st := by
  subst hq hst hW
  intro p e s m args below meth c T locs hx hby hml hown hnm hr hlk hZ X eT N
  obtain ⟨cq, kq, q1, q2, q3⟩ := isOf hZ eT E
  obtain ⟨v, _, ⟨T', L', k', n'⟩, -, X', ⟨Lc, ⟨N', hQ⟩, l', y', z'⟩, stp⟩ := X.virtualBack hx (y := y) (z := y) hown (mvT hZ w1) (mvT hZ w2) (notFace_of_selects (args := #[]) (mvT hZ w3)) (mvT hZ w3) (mvT hZ w4) hy (backOf (W := (rest.map fun v => v.category).sum) (Q := fun v h' L => Fr n0 L ∧ (fun v h' => ∃ w, v = some w ∧ Q' w h') v h') (hM []) hZ w5 w6 hf hlo) q1 q3 (g := mkF m pc ls (argsL.reverse ++ .ref a :: rest)) rfl (by rw [hml]; exact hls) (Steps.refl _) (argsL := argsL) (rest := rest) (lenOf hds hln) rfl (by show 2 * 0 + _ ≤ _; omega) (hb hby hd) (fun _ _ => ⟨rfl, eT, hce, hsl⟩)
  dsimp only [Pt.U, Pt.locs, Pt.cells, Pt.slots] at X' l' y' z' stp hQ
  subst l' y' z'
  obtain ⟨w, rfl, hQ⟩ := hQ
  obtain ⟨s₂, o, h1, r⟩ := k w T'.heap hQ p e s m args below meth c T' _ hx hby hml hown hnm hr hlk hZ X' rfl (Fr.app N N')
  exact ⟨s₂, o, stp.trans h1, r⟩
theorem Wk.callV1 {i : Nat} {C : String} {y : MethodName} {by' : ByteArray} {mL : Nat} {rt : Option FieldType} {fr lo : Nat} {a : Addr} {argsL rest : List Value} {v0 : Value} {ps : List FieldType} {r' : Option FieldType}
    (hM : Met l Z n0 y by' mL rt ⟨fr, 0, 0, lo⟩ (.ref a :: argsL).toArray h (fun v h' => v = some v0 ∧ h' = h)) (E : Exa Z h a C)
    (w1 : (Jvm.Cond.methodLink own i y).before a0 Z = true) (w2 : (Jvm.Cond.declares y).before a0 Z = true) (w3 : (Jvm.Cond.selects C y y).before a0 Z = true) (w4 : (Jvm.Cond.instanceMethod y).before a0 Z = true) (w5 : (Jvm.Cond.code y by' mL rt).before a0 Z = true) (w6 : (Jvm.Cond.initialized y.cls).before a0 Z = true) (hy : y.cls ≠ "java/lang/invoke/MethodHandle" ∧ y.cls ≠ "java/lang/invoke/VarHandle")
    (hds : parseMethodDescriptor y.desc = some ⟨ps, r'⟩) (hln : argsL.length = ps.length) (hst : st = argsL.reverse ++ .ref a :: rest) (hls : ls.size = maxL) (hd : decode bytes pc = .ok (.invokevirtual i, 3)) (hq : pc + 3 = q)
    {W : Nat} (hW : (rest.map fun v => v.category).sum = W) (hf : fr + 1 ≤ R.frames) (hlo : W + (mL + 11) + lo ≤ R.locals) (hce : cl ≤ R.cells) (hsl : sl ≤ R.slots)
    (k : Wk l Z n0 own nm bytes maxL ret R kc ks Q h cl sl q ls (v0 :: rest)) : Wk l Z n0 own nm bytes maxL ret R kc ks Q h cl sl pc ls st :=
  Wk.callV (Q' := fun w h' => w = v0 ∧ h' = h) (rm := ⟨fr, 0, 0, lo⟩) (hM.mono fun v h' z => ⟨v0, z.1, rfl, z.2⟩) E w1 w2 w3 w4 w5 w6 hy hds hln hst hls hd hq hW hf hlo hce hsl (fun w h' z => by obtain ⟨rfl, rfl⟩ := z; exact k)
theorem Wk.callV0 {i : Nat} {C : String} {y : MethodName} {by' : ByteArray} {mL : Nat} {rt : Option FieldType} {rm : Room} {a : Addr} {argsL rest : List Value} {Q' : Heap → Prop} {ps : List FieldType} {r' : Option FieldType}
    (hM : Met l Z n0 y by' mL rt rm (.ref a :: argsL).toArray h (fun v h' => v = none ∧ Q' h')) (E : Exa Z h a C)
    (w1 : (Jvm.Cond.methodLink own i y).before a0 Z = true) (w2 : (Jvm.Cond.declares y).before a0 Z = true) (w3 : (Jvm.Cond.selects C y y).before a0 Z = true) (w4 : (Jvm.Cond.instanceMethod y).before a0 Z = true) (w5 : (Jvm.Cond.code y by' mL rt).before a0 Z = true) (w6 : (Jvm.Cond.initialized y.cls).before a0 Z = true) (hy : y.cls ≠ "java/lang/invoke/MethodHandle" ∧ y.cls ≠ "java/lang/invoke/VarHandle")
    (hds : parseMethodDescriptor y.desc = some ⟨ps, r'⟩) (hln : argsL.length = ps.length) (hst : st = argsL.reverse ++ .ref a :: rest) (hls : ls.size = maxL) (hd : decode bytes pc = .ok (.invokevirtual i, 3)) (hq : pc + 3 = q)
    {W : Nat} (hW : (rest.map fun v => v.category).sum = W) (hf : rm.frames + 1 ≤ R.frames) (hlo : W + (mL + 11) + rm.locals ≤ R.locals) (hce : cl + rm.cells ≤ R.cells) (hsl : sl + rm.slots ≤ R.slots)
    (k : ∀ h', Q' h' → Wk l Z n0 own nm bytes maxL ret R kc ks Q h' (cl + rm.cells) (sl + rm.slots) q ls rest) : Wk l Z n0 own nm bytes maxL ret R kc ks Q h cl sl pc ls st := by
  subst hq hst hW
  intro p e s m args below meth c T locs hx hby hml hown hnm hr hlk hZ X eT N
  obtain ⟨cq, kq, q1, q2, q3⟩ := isOf hZ eT E
  obtain ⟨v, _, ⟨T', L', k', n'⟩, -, X', ⟨Lc, ⟨N', hQ⟩, l', y', z'⟩, stp⟩ := X.virtualBack hx (y := y) (z := y) hown (mvT hZ w1) (mvT hZ w2) (notFace_of_selects (args := #[]) (mvT hZ w3)) (mvT hZ w3) (mvT hZ w4) hy (backOf (W := (rest.map fun v => v.category).sum) (Q := fun v h' L => Fr n0 L ∧ (fun v h' => v = none ∧ Q' h') v h') (hM []) hZ w5 w6 hf hlo) q1 q3 (g := mkF m pc ls (argsL.reverse ++ .ref a :: rest)) rfl (by rw [hml]; exact hls) (Steps.refl _) (argsL := argsL) (rest := rest) (lenOf hds hln) rfl (by show 2 * 0 + _ ≤ _; omega) (hb hby hd) (fun _ _ => ⟨rfl, eT, hce, hsl⟩)
  dsimp only [Pt.U, Pt.locs, Pt.cells, Pt.slots] at X' l' y' z' stp hQ
  subst l' y' z'
  obtain ⟨rfl, hQ⟩ := hQ
  obtain ⟨s₂, o, h1, r⟩ := k T'.heap hQ p e s m args below meth c T' _ hx hby hml hown hnm hr hlk hZ X' rfl (Fr.app N N')
  exact ⟨s₂, o, stp.trans h1, r⟩
theorem Wk.callU {i : Nat} {C owner : String} {y z : MethodName} {by' : ByteArray} {mL : Nat} {rt : Option FieldType} {rm : Room} {a : Addr} {argsL rest : List Value} {Q' : Value → Heap → Prop} {ps : List FieldType} {r' : Option FieldType}
    (hM : Met l Z n0 z by' mL rt rm (.ref a :: argsL).toArray h (fun v h' => ∃ w, v = some w ∧ Q' w h')) (E : Exa Z h a C)
    (w1 : (Jvm.Cond.methodLink own i y).before a0 Z = true) (w2 : (Jvm.Cond.sameMethod y.cls owner y.name y.desc).before a0 Z = true) (w3 : (Jvm.Cond.declares ⟨owner, y.name, y.desc⟩).before a0 Z = true) (w4 : (Jvm.Cond.selects C y z).before a0 Z = true) (w5 : (Jvm.Cond.instanceMethod z).before a0 Z = true) (w6 : (Jvm.Cond.code z by' mL rt).before a0 Z = true) (w7 : (Jvm.Cond.initialized z.cls).before a0 Z = true) (hy : owner ≠ "java/lang/invoke/MethodHandle" ∧ owner ≠ "java/lang/invoke/VarHandle")
    (hds : parseMethodDescriptor y.desc = some ⟨ps, r'⟩) (hln : argsL.length = ps.length) (hst : st = argsL.reverse ++ .ref a :: rest) (hls : ls.size = maxL) (hd : decode bytes pc = .ok (.invokevirtual i, 3)) (hq : pc + 3 = q)
    {W : Nat} (hW : (rest.map fun v => v.category).sum = W) (hf : rm.frames + 1 ≤ R.frames) (hlo : W + (mL + 11) + rm.locals ≤ R.locals) (hce : cl + rm.cells ≤ R.cells) (hsl : sl + rm.slots ≤ R.slots)
    (k : ∀ w h', Q' w h' → Wk l Z n0 own nm bytes maxL ret R kc ks Q h' (cl + rm.cells) (sl + rm.slots) q ls (w :: rest)) : Wk l Z n0 own nm bytes maxL ret R kc ks Q h cl sl pc ls st := by
  subst hq hst hW
  intro p e s m args below meth c T locs hx hby hml hown hnm hr hlk hZ X eT N
  obtain ⟨cq, kq, q1, q2, q3⟩ := isOf hZ eT E
  obtain ⟨v, _, ⟨T', L', k', n'⟩, -, X', ⟨Lc, ⟨N', hQ⟩, l', y', z'⟩, stp⟩ := X.virtualBackUp hx (x := y) (y := z) (owner := owner) hown (mvT hZ w1) (mvT hZ w2) (mvT hZ w3) hy (mvT hZ w4) (mvT hZ w5) (backOf (W := (rest.map fun v => v.category).sum) (Q := fun v h' L => Fr n0 L ∧ (fun v h' => ∃ w, v = some w ∧ Q' w h') v h') (hM []) hZ w6 w7 hf hlo) q1 q3 (g := mkF m pc ls (argsL.reverse ++ .ref a :: rest)) rfl (by rw [hml]; exact hls) (Steps.refl _) (argsL := argsL) (rest := rest) (lenOf hds hln) rfl (by show 2 * 0 + _ ≤ _; omega) (hb hby hd) (fun _ _ => ⟨rfl, eT, hce, hsl⟩)
  dsimp only [Pt.U, Pt.locs, Pt.cells, Pt.slots] at X' l' y' z' stp hQ
  subst l' y' z'
  obtain ⟨w, rfl, hQ⟩ := hQ
  obtain ⟨s₂, o, h1, r⟩ := k w T'.heap hQ p e s m args below meth c T' _ hx hby hml hown hnm hr hlk hZ X' rfl (Fr.app N N')
  exact ⟨s₂, o, stp.trans h1, r⟩
theorem Wk.callU1 {i : Nat} {C owner : String} {y z : MethodName} {by' : ByteArray} {mL : Nat} {rt : Option FieldType} {fr lo : Nat} {a : Addr} {argsL rest : List Value} {v0 : Value} {ps : List FieldType} {r' : Option FieldType}
    (hM : Met l Z n0 z by' mL rt ⟨fr, 0, 0, lo⟩ (.ref a :: argsL).toArray h (fun v h' => v = some v0 ∧ h' = h)) (E : Exa Z h a C)
    (w1 : (Jvm.Cond.methodLink own i y).before a0 Z = true) (w2 : (Jvm.Cond.sameMethod y.cls owner y.name y.desc).before a0 Z = true) (w3 : (Jvm.Cond.declares ⟨owner, y.name, y.desc⟩).before a0 Z = true) (w4 : (Jvm.Cond.selects C y z).before a0 Z = true) (w5 : (Jvm.Cond.instanceMethod z).before a0 Z = true) (w6 : (Jvm.Cond.code z by' mL rt).before a0 Z = true) (w7 : (Jvm.Cond.initialized z.cls).before a0 Z = true) (hy : owner ≠ "java/lang/invoke/MethodHandle" ∧ owner ≠ "java/lang/invoke/VarHandle")
    (hds : parseMethodDescriptor y.desc = some ⟨ps, r'⟩) (hln : argsL.length = ps.length) (hst : st = argsL.reverse ++ .ref a :: rest) (hls : ls.size = maxL) (hd : decode bytes pc = .ok (.invokevirtual i, 3)) (hq : pc + 3 = q)
    {W : Nat} (hW : (rest.map fun v => v.category).sum = W) (hf : fr + 1 ≤ R.frames) (hlo : W + (mL + 11) + lo ≤ R.locals) (hce : cl ≤ R.cells) (hsl : sl ≤ R.slots)
    (k : Wk l Z n0 own nm bytes maxL ret R kc ks Q h cl sl q ls (v0 :: rest)) : Wk l Z n0 own nm bytes maxL ret R kc ks Q h cl sl pc ls st :=
  Wk.callU (Q' := fun w h' => w = v0 ∧ h' = h) (rm := ⟨fr, 0, 0, lo⟩) (hM.mono fun v h' z => ⟨v0, z.1, rfl, z.2⟩) E w1 w2 w3 w4 w5 w6 w7 hy hds hln hst hls hd hq hW hf hlo hce hsl (fun w h' z => by obtain ⟨rfl, rfl⟩ := z; exact k)
theorem Wk.callS2 {i : Nat} {y : MethodName} {by' : ByteArray} {mL : Nat} {rt : Option FieldType} {fr lo : Nat} {argsL rest : List Value} {P : Value → Prop} {ps : List FieldType} {r' : Option FieldType}
    (hM : Met l Z n0 y by' mL rt ⟨fr, 0, 0, lo⟩ argsL.toArray h (fun v h' => (∃ w, v = some w ∧ P w) ∧ h' = h))
    (w1 : (Jvm.Cond.methodLink own i y).before a0 Z = true) (w2 : (Jvm.Cond.static y).before a0 Z = true) (w3 : (Jvm.Cond.initialized y.cls).before a0 Z = true) (w4 : (Jvm.Cond.code y by' mL rt).before a0 Z = true) (hy : y.cls ≠ "java/lang/invoke/MethodHandle" ∧ y.cls ≠ "java/lang/invoke/VarHandle")
    (hds : parseMethodDescriptor y.desc = some ⟨ps, r'⟩) (hln : argsL.length = ps.length) (hst : st = argsL.reverse ++ rest) (hls : ls.size = maxL) (hd : decode bytes pc = .ok (.invokestatic i, 3)) (hq : pc + 3 = q)
    {W : Nat} (hW : (rest.map fun v => v.category).sum = W) (hf : fr + 1 ≤ R.frames) (hlo : W + (mL + 11) + lo ≤ R.locals) (hce : cl ≤ R.cells) (hsl : sl ≤ R.slots)
    (k : ∀ w, P w → Wk l Z n0 own nm bytes maxL ret R kc ks Q h cl sl q ls (w :: rest)) : Wk l Z n0 own nm bytes maxL ret R kc ks Q h cl sl pc ls st :=
  Wk.callS (Q' := fun w h' => P w ∧ h' = h) (rm := ⟨fr, 0, 0, lo⟩) (hM.mono fun v h' z => by obtain ⟨⟨w, e, p⟩, q⟩ := z; exact ⟨w, e, p, q⟩) w1 w2 w3 w4 hy hds hln hst hls hd hq hW hf hlo hce hsl (fun w h' z => by obtain ⟨z1, rfl⟩ := z; exact k w z1)
theorem Wk.callV2 {i : Nat} {C : String} {y : MethodName} {a : Addr} {by' : ByteArray} {mL : Nat} {rt : Option FieldType} {fr lo : Nat} {argsL rest : List Value} {P : Value → Prop} {ps : List FieldType} {r' : Option FieldType}
    (hM : Met l Z n0 y by' mL rt ⟨fr, 0, 0, lo⟩ (.ref a :: argsL).toArray h (fun v h' => (∃ w, v = some w ∧ P w) ∧ h' = h)) (E : Exa Z h a C)
    (w1 : (Jvm.Cond.methodLink own i y).before a0 Z = true) (w2 : (Jvm.Cond.declares y).before a0 Z = true) (w3 : (Jvm.Cond.selects C y y).before a0 Z = true) (w4 : (Jvm.Cond.instanceMethod y).before a0 Z = true) (w5 : (Jvm.Cond.code y by' mL rt).before a0 Z = true) (w6 : (Jvm.Cond.initialized y.cls).before a0 Z = true) (hy : y.cls ≠ "java/lang/invoke/MethodHandle" ∧ y.cls ≠ "java/lang/invoke/VarHandle")
    (hds : parseMethodDescriptor y.desc = some ⟨ps, r'⟩) (hln : argsL.length = ps.length) (hst : st = argsL.reverse ++ .ref a :: rest) (hls : ls.size = maxL) (hd : decode bytes pc = .ok (.invokevirtual i, 3)) (hq : pc + 3 = q)
    {W : Nat} (hW : (rest.map fun v => v.category).sum = W) (hf : fr + 1 ≤ R.frames) (hlo : W + (mL + 11) + lo ≤ R.locals) (hce : cl ≤ R.cells) (hsl : sl ≤ R.slots)
    (k : ∀ w, P w → Wk l Z n0 own nm bytes maxL ret R kc ks Q h cl sl q ls (w :: rest)) : Wk l Z n0 own nm bytes maxL ret R kc ks Q h cl sl pc ls st :=
  Wk.callV (Q' := fun w h' => P w ∧ h' = h) (rm := ⟨fr, 0, 0, lo⟩) (hM.mono fun v h' z => by obtain ⟨⟨w, e, p⟩, q⟩ := z; exact ⟨w, e, p, q⟩) E w1 w2 w3 w4 w5 w6 hy hds hln hst hls hd hq hW hf hlo hce hsl (fun w h' z => by obtain ⟨z1, rfl⟩ := z; exact k w z1)
/-! the case's words -/
theorem own_exa {args : Array Value} {C n d K : String} (hx : (Jvm.Cond.exactly (.static C n d) K).value args Z none Z [] = some true) (wi : (Jvm.Cond.initialized C).before args Z = true) (wl : (Jvm.Cond.laysStatic C n d).before args Z = true) :
    ∃ a, (Term.static C n d).eval args Z none [] Z = some (.ref a) ∧ Sta Z Z.heap C n d (.ref a) ∧ Exa Z Z.heap a K := by
  obtain ⟨a, ev⟩ := exa_v hx
  exact ⟨a, ev, Sta.start ev (Or.inr ⟨wi, wl⟩), Exa.start ev hx⟩
theorem own_arr {args : Array Value} {C n d : String} {ty : FieldType} (hx : (Jvm.Cond.arrayOf (.static C n d) ty).value args Z none Z [] = some true) (wi : (Jvm.Cond.initialized C).before args Z = true) (wl : (Jvm.Cond.laysStatic C n d).before args Z = true) :
    ∃ a c, (Term.static C n d).eval args Z none [] Z = some (.ref a) ∧ Sta Z Z.heap C n d (.ref a) ∧ Arr Z Z.heap a c ty := by
  obtain ⟨a, ev⟩ := arr_v hx
  obtain ⟨c, A⟩ := Arr.start ev hx
  exact ⟨a, c, ev, Sta.start ev (Or.inr ⟨wi, wl⟩), A⟩
theorem own_eqi {args : Array Value} {t u : Term} {y : Int32} {idx : List Nat} (h : (Jvm.Cond.eq t u).value args Z none Z idx = some true) (hu : u.eval args Z none idx Z = some (.int y)) : t.eval args Z none idx Z = some (.int y) := by
  obtain ⟨x, y', h1, h2, k1, k2⟩ := cmp_v (Or.inl h)
  cases hu.symm.trans h2
  obtain ⟨z, rfl⟩ := k2
  have e : z = y := by simpa [Cond.value, h1, hu] using h
  rw [h1, e]
theorem own_eqr {args : Array Value} {t u : Term} {y : Addr} {idx : List Nat} (h : (Jvm.Cond.eq t u).value args Z none Z idx = some true) (hu : u.eval args Z none idx Z = some (.ref y)) : t.eval args Z none idx Z = some (.ref y) := by
  obtain ⟨x, y', h1, h2, k1, k2⟩ := cmp_v (Or.inl h)
  cases hu.symm.trans h2
  have e := gotT (eq_R h1 hu k2.2 rfl) h
  rw [h1, e]
theorem own_fld {args : Array Value} {t : Term} {O f d : String} {a : Addr} {v : Value} (ev : t.eval args Z none [] Z = some (.ref a)) (e : (Term.field t O f d).eval args Z none [] Z = some v) : Fld Z Z.heap a O f d v :=
  Fld.start ((fld_at ev).symm.trans e)
theorem own_len {args : Array Value} {t : Term} {a : Addr} {c : Cell} {ty : FieldType} {n : Int32} {k : Nat} (ev : t.eval args Z none [] Z = some (.ref a)) (A : Arr Z Z.heap a c ty) (e : (Term.length t).eval args Z none [] Z = some (.int n)) (hk : n.toInt = (k : Int)) : c.slots.size = k := by
  have hA : Z.arrayAt? a = some c := A.fin (Vm.Alike.refl _)
  have hs : c.slots.size < 2 ^ 31 := by
    by_cases q : c.slots.size < 2 ^ 31
    · exact q
    · simp [Term.eval, ev, hA, q] at e
  have e2 := (len_f ev hA hs).symm.trans e
  have e3 : c.slots.size.toInt32 = n := by injection e2 with e2; injection e2
  have e4 := len_toInt hs
  rw [e3, hk] at e4
  exact (Int.ofNat.inj e4).symm
theorem own_elem {args : Array Value} {t : Term} {a : Addr} {c : Cell} {ty : FieldType} {i : Int32} {v : Value} {idx : List Nat} (ev : t.eval args Z none idx Z = some (.ref a)) (A : Arr Z Z.heap a c ty) (e : (Term.elem t (.int i)).eval args Z none idx Z = some v) : c.slots[i.toNatClampNeg]? = some v :=
  (elem_in e ev (Term.int_eval i) A.1).2
theorem own_all {args : Array Value} {C n d : String} {c : Jvm.Cond} {a : Addr} {cl : Cell} {ty : FieldType} (ev : (Term.static C n d).eval args Z none [] Z = some (.ref a)) (A : Arr Z Z.heap a cl ty) (h : (Jvm.Cond.all (.static C n d) c).value args Z none Z [] = some true) (k : Nat) (hk : k < cl.slots.size) : c.value args Z none Z [k] = some true :=
  Cond.all_elim ev (A.fin (Vm.Alike.refl _)) h k hk
theorem own_tk {args : Array Value} {C n d : String} {a : Addr} {cl : Cell} {ty : FieldType} {v : Int32} {k : Nat} (ev : (Term.static C n d).eval args Z none [] Z = some (.ref a)) (A : Arr Z Z.heap a cl ty) (hk : k < 256) (h : (Jvm.Cond.eq (.elem (.static C n d) (.index 0)) (.int v)).value args Z none Z [k] = some true) : cl.slots[k]? = some (.int v) := by
  have ev' : (Term.static C n d).eval args Z none [k] Z = some (.ref a) := ev
  have e := (elem_in (own_eqi h (Term.int_eval v)) ev' (Term.index_eval k) A.1).2
  have q : k.toInt32.toNatClampNeg = k := by simp only [Int32.toNatClampNeg, len_toInt (show k < 2 ^ 31 by omega)]; rfl
  rwa [q] at e
theorem own_or {args : Array Value} {G X : Jvm.Cond} {P : Prop} [Decidable P] {idx : List Nat} (h : (Jvm.Cond.or G X).value args Z none Z idx = some true) (hG : G.value args Z none Z idx = some (decide P)) (np : ¬ P) : X.value args Z none Z idx = some true := by
  rwa [Cond.or_of_right (by rw [hG]; simp [np])] at h
theorem own_kle {a : Int32} {k m : Nat} (ha : a.toInt = (m : Int)) (hk : k < 256) : a ≤ k.toInt32 ↔ m ≤ k := by
  rw [Int32.le_iff_toInt_le, ha, len_toInt (show k < 2 ^ 31 by omega)]; omega
theorem own_klt {a : Int32} {k m : Nat} (ha : a.toInt = (m : Int)) (hk : k < 256) : k.toInt32 < a ↔ k < m := by
  rw [Int32.lt_iff_toInt_lt, ha, len_toInt (show k < 2 ^ 31 by omega)]; omega
theorem own_neR {a b : Addr} (h : a ≠ b) : ¬ (Value.ref a) = (Value.ref b) := fun e => h (Value.ref.inj e)
theorem own_neN {a : Addr} : ¬ (Value.ref a) = Value.null := fun e => nomatch e
theorem own_nNe {a : Addr} : ¬ Value.null = (Value.ref a) := fun e => nomatch e
/-- (x & 0x7fffffff) % n lies from 0 to n - 1 -/
theorem own_mod (x n : Int32) (hn : 0 < n.toInt) : 0 ≤ ((x &&& 2147483647) % n).toInt ∧ ((x &&& 2147483647) % n).toInt < n.toInt := by
  have h1 := c_and x 2147483647 (by decide)
  rw [Int32.toInt_mod]
  have h2 := Int.tmod_nonneg n.toInt h1.1
  have h3 := Int.tmod_lt_of_pos (x &&& 2147483647).toInt hn
  exact ⟨h2, h3⟩
theorem own_cl_lt (x y : Int64) : XT.cmpL x y < 0 ↔ x < y := by unfold XT.cmpL; split <;> (try split) <;> simp_all [Int64.lt_iff_toInt_lt, ← Int64.toInt_inj] <;> omega
theorem own_cl_gt (x y : Int64) : 0 < XT.cmpL x y ↔ y < x := by unfold XT.cmpL; split <;> (try split) <;> simp_all [Int64.lt_iff_toInt_lt, ← Int64.toInt_inj] <;> omega
theorem own_cl_eq (x y : Int64) : XT.cmpL x y = 0 ↔ x = y := by unfold XT.cmpL; split <;> (try split) <;> simp_all [Int64.lt_iff_toInt_lt, ← Int64.toInt_inj] <;> omega
theorem own_i32 {x y : Int32} (e : x.toInt = y.toInt) : x = y := Int32.toInt_inj.mp e
end Own
section Own2
variable {l : Launch} {Z : State} {a0 : Array Value} {n0 : Nat} {own nm : String} {bytes : ByteArray} {maxL : Nat} {ret : Option FieldType} {R : Room} {kc ks : Nat} {Q : Option Value → Heap → Prop} {h : Heap} {cl sl pc q : Nat} {ls ls' : Array Slot} {st st' rest : List Value}
theorem own_hit {h' : Heap} {a : Addr} {sl n j : Nat} {v : Value} {c : Cell} (W : Wr h h' a sl v) (S : c.slots.size = n) (hj : sl = j) (hl : j < n) : (c.setSlot sl v).slots[j]? = some v := by
  subst hj S; simp [Cell.setSlot, hl]
theorem own_miss {h' : Heap} {a : Addr} {sl j : Nat} {v w : Value} {c : Cell} (W : Wr h h' a sl v) (hj : sl ≠ j) (e : c.slots[j]? = some w) : (c.setSlot sl v).slots[j]? = some w := by
  rw [← e]; exact Array.getElem?_setIfInBounds_ne hj
theorem own_szs {h' : Heap} {a : Addr} {sl n : Nat} {v : Value} {c : Cell} (W : Wr h h' a sl v) (S : c.slots.size = n) : (c.setSlot sl v).slots.size = n := (sz_set _ _ _).trans S
theorem own_ge (O : Old Z n0 h) : n0 ≤ h.size := by have := O.1; have := O.2.1; omega
theorem Wk.new {i n : Nat} {C : String} (w : (Jvm.Cond.classLink own i C).before a0 Z = true) (wi : (Jvm.Cond.instantiable C n).before a0 Z = true) (wz : (Jvm.Cond.initialized C).before a0 Z = true) (hd : decode bytes pc = .ok (.new i, 3)) (hq : pc + 3 = q) (hc : cl + 1 ≤ R.cells) (hl : sl + n ≤ R.slots)
    (k : ∀ h' a, a = h.size → Ext h h' → Exa Z h' a C → (∀ {O f d : String} {ty : FieldType}, Laid Z a0 C O f d → parseFieldDescriptor d = some ty → Fld Z h' a O f d (defaultValue ty)) → Wk l Z n0 own nm bytes maxL ret R kc ks Q h' (cl + 1) (sl + n) q ls (.ref a :: st)) : Wk l Z n0 own nm bytes maxL ret R kc ks Q h cl sl pc ls st := by
  subst hq
  intro p e s m args below meth c T locs hx hby hml hown hnm hr hlk hZ X eT N
  obtain ⟨T', h', X', e', E, A, D, -, stp⟩ := newO X hx hZ hown w wi wz eT (g := mkF m pc ls st) rfl (hb hby hd) hc hl
  obtain ⟨s₂, o, h1, r⟩ := k h' _ rfl E A D p e s m args below meth c T' _ hx hby hml hown hnm hr hlk hZ X' e' N
  exact ⟨s₂, o, stp _ h1, r⟩
theorem Wk.putF {O f d C R0 : String} {i kk : Nat} {ty : FieldType} {a : Addr} {v old : Value} (w : (Jvm.Cond.fieldLink own i R0 f d).before a0 Z = true) (via : Via Z R0 O f d) (F : Fld Z h a O f d old) (E : Exa Z h a C) (L : (Jvm.Cond.lays C O f d).before a0 Z = true ∨ ((Jvm.Cond.laysFinal C O f d).before a0 Z = true ∧ own = O ∧ nm = "<init>")) (wi : (Jvm.Cond.instantiable C kk).before a0 Z = true)
    (hty : parseFieldDescriptor d = some ty) (hn : narrow ty v = v) (hf : fits ty v = true) (hd : decode bytes pc = .ok (.putfield i, 3)) (hq : pc + 3 = q) (ha : n0 ≤ a)
    (k : ∀ h', Wr h h' a (RoadKit.slotOf Z O f d) v → Wk l Z n0 own nm bytes maxL ret R kc ks Q h' cl sl q ls st) : Wk l Z n0 own nm bytes maxL ret R kc ks Q h cl sl pc ls (v :: .ref a :: st) := by
  subst hq
  intro p e s m args below meth c T locs hx hby hml hown hnm hr hlk hZ X eT N
  obtain ⟨T', h', X', e', W', stp⟩ := RoadKit.putF X hx hZ hown (host := "") (Or.inl w) via eT F E (L.imp id fun z => ⟨z.1, z.2.1, hnm.trans z.2.2⟩) wi hty hn hf (g := mkF m pc ls (v :: .ref a :: st)) rfl rfl (hb hby hd)
  obtain ⟨s₂, o, h1, r⟩ := k h' W' p e s m args below meth c T' _ hx hby hml hown hnm hr hlk hZ X' e' (Fr.snoc X' N ha)
  exact ⟨s₂, o, stp _ h1, r⟩
theorem Wk.initO {i : Nat} {a : Addr} {W : Nat} (w1 : (Jvm.Cond.methodLink own i Lib.objectInit).before a0 Z = true) (w2 : (Jvm.Cond.instanceMethod Lib.objectInit).before a0 Z = true) (w3 : (Jvm.Cond.code Lib.objectInit ⟨#[0xb1]⟩ 1 none).before a0 Z = true) (hd : decode bytes pc = .ok (.invokespecial i, 3)) (hq : pc + 3 = q) (hls : ls.size = maxL) (hf : 1 ≤ R.frames) (hW : (st.map fun v => v.category).sum = W) (hl : W + 12 ≤ R.locals)
    (k : Wk l Z n0 own nm bytes maxL ret R kc ks Q h cl sl q ls st) : Wk l Z n0 own nm bytes maxL ret R kc ks Q h cl sl pc ls (.ref a :: st) := by
  subst hq hW
  intro p e s m args below meth c T locs hx hby hml hown hnm hr hlk hZ X eT N
  obtain ⟨T', X', e', stp⟩ := RoadKit.initO X hx hZ hown w1 w2 w3 eT (g := mkF m pc ls (.ref a :: st)) rfl (by rw [hml]; exact hls) rfl (hb hby hd) hf (W := (st.map fun v => v.category).sum) (by show 2 * 0 + _ ≤ _; omega) hl
  obtain ⟨s₂, o, h1, r⟩ := k p e s m args below meth c T' _ hx hby hml hown hnm hr hlk hZ X' e' N
  exact ⟨s₂, o, stp _ h1, r⟩
theorem Wk.special {i : Nat} {y : MethodName} {by' : ByteArray} {mL : Nat} {rm : Room} {a : Addr} {argsL rest : List Value} {Q' : Heap → Prop} {ps : List FieldType} {r' : Option FieldType}
    (hM : Met l Z n0 y by' mL none rm (.ref a :: argsL).toArray h (fun v h' => v = none ∧ Q' h'))
    (hy1 : y.name = "<init>") (w1 : (Jvm.Cond.methodLink own i y).before a0 Z = true) (w2 : (Jvm.Cond.instanceMethod y).before a0 Z = true) (w3 : (Jvm.Cond.code y by' mL none).before a0 Z = true) (w4 : (Jvm.Cond.initialized y.cls).before a0 Z = true) (hy : y.cls ≠ "java/lang/invoke/MethodHandle" ∧ y.cls ≠ "java/lang/invoke/VarHandle")
    (hds : parseMethodDescriptor y.desc = some ⟨ps, r'⟩) (hln : argsL.length = ps.length) (hst : st = argsL.reverse ++ .ref a :: rest) (hls : ls.size = maxL) (hd : decode bytes pc = .ok (.invokespecial i, 3)) (hq : pc + 3 = q)
    {W : Nat} (hW : (rest.map fun v => v.category).sum = W) (hf : rm.frames + 1 ≤ R.frames) (hlo : W + (mL + 11) + rm.locals ≤ R.locals) (hce : cl + rm.cells ≤ R.cells) (hsl : sl + rm.slots ≤ R.slots)
    (k : ∀ h', Q' h' → Wk l Z n0 own nm bytes maxL ret R kc ks Q h' (cl + rm.cells) (sl + rm.slots) q ls rest) : Wk l Z n0 own nm bytes maxL ret R kc ks Q h cl sl pc ls st := by
  subst hq hst hW
  intro p e s m args below meth c T locs hx hby hml hown hnm hr hlk hZ X eT N
  obtain ⟨v, _, ⟨T', L', k', n'⟩, -, X', ⟨Lc, ⟨N', hQ⟩, l', y', z'⟩, stp⟩ := X.specialBack hx (y := y) hy1 hown (mvT hZ w1) (mvT hZ w2) (mvT hZ w3) hy (backOf (W := (rest.map fun v => v.category).sum) (Q := fun v h' L => Fr n0 L ∧ (fun v h' => v = none ∧ Q' h') v h') (hM []) hZ w3 w4 hf hlo) (g := mkF m pc ls (argsL.reverse ++ .ref a :: rest)) rfl (by rw [hml]; exact hls) (Steps.refl _) (a := a) (argsL := argsL) (rest := rest) (lenOf hds hln) rfl (by show 2 * 0 + _ ≤ _; omega) (hb hby hd) (fun _ _ => ⟨rfl, eT, hce, hsl⟩)
  dsimp only [Pt.U, Pt.locs, Pt.cells, Pt.slots] at X' l' y' z' stp hQ
  subst l' y' z'
  obtain ⟨rfl, hQ⟩ := hQ
  obtain ⟨s₂, o, h1, r⟩ := k T'.heap hQ p e s m args below meth c T' _ hx hby hml hown hnm hr hlk hZ X' rfl (Fr.app N N')
  exact ⟨s₂, o, stp.trans h1, r⟩
theorem Wk.newP {aty : ArrayType} {n : Int32} (w : (Jvm.Cond.arrayClass (newarray.typeOf aty)).before a0 Z = true) (hd : decode bytes pc = .ok (.newarray aty, 2)) (hq : pc + 2 = q) (hn : ¬ n < 0) {cap : Nat} (hcap : n.toNatClampNeg ≤ cap) (hb8 : cap * 8 ≤ 536870912) (hc : cl + 1 ≤ R.cells) (hl : sl + cap ≤ R.slots)
    (k : ∀ h' a cA, a = h.size → Ext h h' → Arr Z h' a (newA cA (newarray.typeOf aty) n) (newarray.typeOf aty) → Wk l Z n0 own nm bytes maxL ret R kc ks Q h' (cl + 1) (sl + cap) q ls (.ref a :: st)) : Wk l Z n0 own nm bytes maxL ret R kc ks Q h cl sl pc ls (.int n :: st) := by
  subst hq
  intro p e s m args below meth c T locs hx hby hml hown hnm hr hlk hZ X eT N
  obtain ⟨T', h', cA, X', e', E, A, stp⟩ := RoadKit.newP X hx hZ w eT (g := mkF m pc ls (.int n :: st)) rfl (hb hby hd) rfl hn hcap hb8 hc hl
  obtain ⟨s₂, o, h1, r⟩ := k h' _ cA rfl E A p e s m args below meth c T' _ hx hby hml hown hnm hr hlk hZ X' e' N
  exact ⟨s₂, o, stp _ h1, r⟩
theorem Wk.newR {i : Nat} {C : String} {n : Int32} (w1 : (Jvm.Cond.classLink own i C).before a0 Z = true) (w2 : (Jvm.Cond.arrayOver (.object C)).before a0 Z = true) (hd : decode bytes pc = .ok (.anewarray i, 3)) (hq : pc + 3 = q) (hn : ¬ n < 0) {cap : Nat} (hcap : n.toNatClampNeg ≤ cap) (hb8 : cap * 8 ≤ 536870912) (hc : cl + 1 ≤ R.cells) (hl : sl + cap ≤ R.slots)
    (k : ∀ h' a cA, a = h.size → Ext h h' → Arr Z h' a (newA cA (.object C) n) (.object C) → Ovr Z cA C → Wk l Z n0 own nm bytes maxL ret R kc ks Q h' (cl + 1) (sl + cap) q ls (.ref a :: st)) : Wk l Z n0 own nm bytes maxL ret R kc ks Q h cl sl pc ls (.int n :: st) := by
  subst hq
  intro p e s m args below meth c T locs hx hby hml hown hnm hr hlk hZ X eT N
  obtain ⟨T', h', cA, X', e', E, A, -, O, stp⟩ := RoadKit.newRE X hx hZ hown w1 w2 eT (g := mkF m pc ls (.int n :: st)) rfl (hb hby hd) rfl hn hcap hb8 hc hl rfl
  obtain ⟨s₂, o, h1, r⟩ := k h' _ cA rfl E A O p e s m args below meth c T' _ hx hby hml hown hnm hr hlk hZ X' e' N
  exact ⟨s₂, o, stp _ h1, r⟩
theorem Wk.stB {a : Addr} {c0 : Cell} {j x v : Int32} (A : Arr Z h a c0 .byte) (hj : ¬ (j < 0 ∨ c0.slots.size ≤ j.toNatClampNeg)) (hv : nar .byte x = v) (hd : decode bytes pc = .ok (.bastore, 1)) (hq : pc + 1 = q) (ha : n0 ≤ a)
    (k : ∀ h', Wr h h' a j.toNatClampNeg (.int v) → Wk l Z n0 own nm bytes maxL ret R kc ks Q h' cl sl q ls st) : Wk l Z n0 own nm bytes maxL ret R kc ks Q h cl sl pc ls (.int x :: .int j :: .ref a :: st) := by
  subst hq hv
  intro p e s m args below meth c T locs hx hby hml hown hnm hr hlk hZ X eT N
  obtain ⟨T', h', X', e', W', stp⟩ := RoadKit.stB X hx hZ eT A hj (g := mkF m pc ls (.int x :: .int j :: .ref a :: st)) rfl rfl (hb hby hd)
  obtain ⟨s₂, o, h1, r⟩ := k h' W' p e s m args below meth c T' _ hx hby hml hown hnm hr hlk hZ X' e' (Fr.snoc X' N ha)
  exact ⟨s₂, o, stp _ h1, r⟩
theorem Wk.stR {a : Addr} {c0 : Cell} {ty : FieldType} {j : Int32} {v : Value} (A : Arr Z h a c0 ty) (hj : ¬ (j < 0 ∨ c0.slots.size ≤ j.toNatClampNeg)) (hty : ty.isReference = true) (F : Sto Z h a v) (hv : v.isRef = true) (hd : decode bytes pc = .ok (.aastore, 1)) (hq : pc + 1 = q) (ha : n0 ≤ a)
    (k : ∀ h', Wr h h' a j.toNatClampNeg v → Wk l Z n0 own nm bytes maxL ret R kc ks Q h' cl sl q ls st) : Wk l Z n0 own nm bytes maxL ret R kc ks Q h cl sl pc ls (v :: .int j :: .ref a :: st) := by
  subst hq
  intro p e s m args below meth c T locs hx hby hml hown hnm hr hlk hZ X eT N
  obtain ⟨T', h', X', e', W', stp⟩ := RoadKit.stR X hx hZ eT A hj hty F (g := mkF m pc ls (v :: .int j :: .ref a :: st)) rfl rfl (hb hby hd)
  obtain ⟨s₂, o, h1, r⟩ := k h' W' p e s m args below meth c T' _ hx hby hml hown hnm hr hlk hZ X' e' (Fr.snoc X' N ha)
  exact ⟨s₂, o, stp _ h1, r⟩
theorem Wk.castY {i : Nat} {K : String} {a : Addr} (w : (Jvm.Cond.classLink own i K).before a0 Z = true) (F : Ins Z h a K true) (hd : decode bytes pc = .ok (.checkcast i, 3)) (hq : pc + 3 = q) (k : Wk l Z n0 own nm bytes maxL ret R kc ks Q h cl sl q ls (.ref a :: st)) : Wk l Z n0 own nm bytes maxL ret R kc ks Q h cl sl pc ls (.ref a :: st) := by
  subst hq; exact Wk.stepW (fun hx hby hown hZ X eT => RoadKit.castY X hx hZ hown w eT F (g := mkF _ pc ls (.ref a :: st)) rfl rfl (hb hby hd)) k
theorem Wk.instNull {i : Nat} (hd : decode bytes pc = .ok (.instanceof i, 3)) (hq : pc + 3 = q) (k : Wk l Z n0 own nm bytes maxL ret R kc ks Q h cl sl q ls (.int 0 :: st)) : Wk l Z n0 own nm bytes maxL ret R kc ks Q h cl sl pc ls (.null :: st) := by
  subst hq; exact Wk.step (fun hx hby _ _ X _ t k => X.instanceofNull hx (g := mkF _ pc ls (.null :: st)) rfl rfl (hb hby hd) t k) k
theorem own_nsroot {O K : String} {n : Nat} (w : (Jvm.Cond.noSuperclass O).before a0 Z = true) (wi : (Jvm.Cond.instantiable K n).before a0 Z = true) (hn : O ≠ K) : NS Z O K := by
  obtain ⟨c, k, h1, h2, h3, -, -⟩ := Cond.noSuperclass_spec w
  obtain ⟨t, kt, g1, -⟩ := Cond.instantiable_spec wi
  have ne := ids_ne h1 g1 hn
  exact ⟨c, t, h1, g1, fun fuel => by cases fuel <;> simp [Vm.isSubclassAux, ne, h2, h3]⟩
theorem own_nsno {C S K : String} {n : Nat} (w : (Jvm.Cond.superclass C S).before a0 Z = true) (wi : (Jvm.Cond.instantiable K n).before a0 Z = true) (m : NS Z C K) (hn : C ≠ K) : ∃ c t, Z.vm.findClass C = some c ∧ Z.vm.findClass K = some t ∧ Z.vm.assignable c t = false := by
  obtain ⟨c, t, h0, g0, n3⟩ := m
  obtain ⟨p, k, kp, h1, h2, h3, h4, h5, -, h7⟩ := Cond.superclass_spec h0 w
  obtain ⟨t', kt, g1, g2, g3, g4, -⟩ := Cond.instantiable_spec wi
  cases g0.symm.trans g1
  have ne := ids_ne h0 g0 hn
  have g5 : kt.isInterface = false := by cases hi : kt.isInterface <;> simp [hi] at g4 ⊢
  refine ⟨c, t, h0, g0, ?_⟩
  show Z.vm.assignableAux (255 + 1) c t = false
  simp [Vm.assignableAux, ne, h2, g2, h5, g3, g5, Vm.isSubclass, n3]
theorem Wk.instY {i : Nat} {K : String} {a : Addr} (w : (Jvm.Cond.classLink own i K).before a0 Z = true) (F : Ins Z h a K true) (hd : decode bytes pc = .ok (.instanceof i, 3)) (hq : pc + 3 = q) (k : Wk l Z n0 own nm bytes maxL ret R kc ks Q h cl sl q ls (.int 1 :: st)) : Wk l Z n0 own nm bytes maxL ret R kc ks Q h cl sl pc ls (.ref a :: st) := by
  subst hq; exact Wk.stepW (fun hx hby hown hZ X eT => RoadKit.instY X hx hZ hown w eT F (g := mkF _ pc ls (.ref a :: st)) rfl rfl (hb hby hd)) k
theorem Wk.instNo {i : Nat} {K C : String} {a : Addr} (w : (Jvm.Cond.classLink own i K).before a0 Z = true) (E : Exa Z h a C) (F : ∃ c t, Z.vm.findClass C = some c ∧ Z.vm.findClass K = some t ∧ Z.vm.assignable c t = false) (hd : decode bytes pc = .ok (.instanceof i, 3)) (hq : pc + 3 = q) (k : Wk l Z n0 own nm bytes maxL ret R kc ks Q h cl sl q ls (.int 0 :: st)) : Wk l Z n0 own nm bytes maxL ret R kc ks Q h cl sl pc ls (.ref a :: st) := by
  subst hq; exact Wk.stepW (fun hx hby hown hZ X eT => RoadKit.instNo X hx hZ hown w eT E F (g := mkF _ pc ls (.ref a :: st)) rfl rfl (hb hby hd)) k
end Own2

theorem w_0 {a0 : Array Value} {Z : State} (hw : ∀ d ∈ tables_1, d.before a0 Z = true) : (Jvm.Cond.arrayClass Jvm.ClassFile.FieldType.byte).before a0 Z = true := hw _ (List.mem_of_getElem? (i := 0) rfl)
theorem w_1 {a0 : Array Value} {Z : State} (hw : ∀ d ∈ tables_1, d.before a0 Z = true) : (Jvm.Cond.constant "com/example/tallykey/tallykey/HttpSyntaxIsTextPinLaw" (13 : Nat) (2147483647 : Int32)).before a0 Z = true := hw _ (List.mem_of_getElem? (i := 1) rfl)
theorem w_2 {a0 : Array Value} {Z : State} (hw : ∀ d ∈ tables_1, d.before a0 Z = true) : (Jvm.Cond.methodLink "com/example/tallykey/tallykey/HttpSyntaxIsTextPinLaw" (14 : Nat) ({ cls := "com/example/tallykey/tallykey/HttpSyntaxIsTextPinLaw", name := "ok", desc := "(IIIB)Z" } : Jvm.MethodName)).before a0 Z = true := hw _ (List.mem_of_getElem? (i := 2) rfl)
theorem w_3 {a0 : Array Value} {Z : State} (hw : ∀ d ∈ tables_1, d.before a0 Z = true) : (Jvm.Cond.static ({ cls := "com/example/tallykey/tallykey/HttpSyntaxIsTextPinLaw", name := "ok", desc := "(IIIB)Z" } : Jvm.MethodName)).before a0 Z = true := hw _ (List.mem_of_getElem? (i := 3) rfl)
theorem w_4 {a0 : Array Value} {Z : State} (hw : ∀ d ∈ tables_1, d.before a0 Z = true) : (Jvm.Cond.initialized "com/example/tallykey/tallykey/HttpSyntaxIsTextPinLaw").before a0 Z = true := hw _ (List.mem_of_getElem? (i := 4) rfl)
theorem w_5 {a0 : Array Value} {Z : State} (hw : ∀ d ∈ tables_1, d.before a0 Z = true) : (Jvm.Cond.code ({ cls := "com/example/tallykey/tallykey/HttpSyntaxIsTextPinLaw", name := "ok", desc := "(IIIB)Z" } : Jvm.MethodName) method_3_code (5 : Nat) (Option.some Jvm.ClassFile.FieldType.boolean)).before a0 Z = true := hw _ (List.mem_of_getElem? (i := 5) rfl)
theorem w_6 {a0 : Array Value} {Z : State} (hw : ∀ d ∈ tables_1, d.before a0 Z = true) : (Jvm.Cond.methodLink "com/example/tallykey/tallykey/HttpSyntaxIsTextPinLaw" (7 : Nat) ({ cls := "com/example/tallykey/tallykey/HttpSyntaxIsTextPinLaw", name := "text", desc := "(B)Z" } : Jvm.MethodName)).before a0 Z = true := hw _ (List.mem_of_getElem? (i := 6) rfl)
theorem w_7 {a0 : Array Value} {Z : State} (hw : ∀ d ∈ tables_1, d.before a0 Z = true) : (Jvm.Cond.static ({ cls := "com/example/tallykey/tallykey/HttpSyntaxIsTextPinLaw", name := "text", desc := "(B)Z" } : Jvm.MethodName)).before a0 Z = true := hw _ (List.mem_of_getElem? (i := 7) rfl)
theorem w_8 {a0 : Array Value} {Z : State} (hw : ∀ d ∈ tables_1, d.before a0 Z = true) : (Jvm.Cond.code ({ cls := "com/example/tallykey/tallykey/HttpSyntaxIsTextPinLaw", name := "text", desc := "(B)Z" } : Jvm.MethodName) method_2_code (2 : Nat) (Option.some Jvm.ClassFile.FieldType.boolean)).before a0 Z = true := hw _ (List.mem_of_getElem? (i := 8) rfl)
theorem w_9 {a0 : Array Value} {Z : State} (hw : ∀ d ∈ tables_1, d.before a0 Z = true) : (Jvm.Cond.methodLink "com/example/tallykey/tallykey/HttpSyntaxIsTextPinLaw" (18 : Nat) ({ cls := "com/example/tallykey/tallykey/HttpSyntax", name := "isText", desc := "([BII)Z" } : Jvm.MethodName)).before a0 Z = true := hw _ (List.mem_of_getElem? (i := 9) rfl)
theorem w_10 {a0 : Array Value} {Z : State} (hw : ∀ d ∈ tables_1, d.before a0 Z = true) : (Jvm.Cond.static ({ cls := "com/example/tallykey/tallykey/HttpSyntax", name := "isText", desc := "([BII)Z" } : Jvm.MethodName)).before a0 Z = true := hw _ (List.mem_of_getElem? (i := 10) rfl)
theorem w_11 {a0 : Array Value} {Z : State} (hw : ∀ d ∈ tables_1, d.before a0 Z = true) : (Jvm.Cond.initialized "com/example/tallykey/tallykey/HttpSyntax").before a0 Z = true := hw _ (List.mem_of_getElem? (i := 11) rfl)
theorem w_12 {a0 : Array Value} {Z : State} (hw : ∀ d ∈ tables_1, d.before a0 Z = true) : (Jvm.Cond.code ({ cls := "com/example/tallykey/tallykey/HttpSyntax", name := "isText", desc := "([BII)Z" } : Jvm.MethodName) prog_5_method_5_code (4 : Nat) (Option.some Jvm.ClassFile.FieldType.boolean)).before a0 Z = true := hw _ (List.mem_of_getElem? (i := 12) rfl)
theorem w_13 {a0 : Array Value} {Z : State} (hw : ∀ d ∈ tables_1, d.before a0 Z = true) : (Jvm.Cond.fieldLink "com/example/tallykey/tallykey/HttpSyntax" (13 : Nat) "com/example/tallykey/tallykey/HttpSyntax" "TEXT" "[Z").before a0 Z = true := hw _ (List.mem_of_getElem? (i := 13) rfl)
theorem w_14 {a0 : Array Value} {Z : State} (hw : ∀ d ∈ tables_1, d.before a0 Z = true) : (Jvm.Cond.laysStatic "com/example/tallykey/tallykey/HttpSyntax" "TEXT" "[Z").before a0 Z = true := hw _ (List.mem_of_getElem? (i := 14) rfl)
theorem pn_0 : plainName "com/example/tallykey/tallykey/HttpSyntaxIsTextPinLaw" = true := by first | (simp [plainName, overriddenIn]; done) | decide +kernel
theorem pn_1 : plainName "com/example/tallykey/tallykey/HttpSyntax" = true := by first | (simp [plainName, overriddenIn]; done) | decide +kernel
theorem pd_0 : parseMethodDescriptor "(IIIB)Z" = some ⟨[.int, .int, .int, .byte], (some .boolean)⟩ := by decide +kernel
theorem pd_1 : parseMethodDescriptor "([BII)Z" = some ⟨[(.array .byte), .int, .int], (some .boolean)⟩ := by decide +kernel
theorem pd_2 : parseMethodDescriptor "(B)Z" = some ⟨[.byte], (some .boolean)⟩ := by decide +kernel
theorem ef_0 (m : MethodId) (x0 : Int32) : entryFrame m #[(.int x0)] 2 = mkF m 0 #[.val (.int x0), .unset] [] := by first | (simp [entryFrame, mkF, argsToLocals, Value.category, maxLocals]; done) | rfl
theorem ef_1 (m : MethodId) (x0 : Int32) (x1 : Int32) (x2 : Int32) (x3 : Int32) : entryFrame m #[(.int x0), (.int x1), (.int x2), (.int x3)] 5 = mkF m 0 #[.val (.int x0), .val (.int x1), .val (.int x2), .val (.int x3), .unset] [] := by first | (simp [entryFrame, mkF, argsToLocals, Value.category, maxLocals]; done) | rfl
theorem ef_2 (m : MethodId) (x0 : Addr) (x1 : Int32) (x2 : Int32) : entryFrame m #[(.ref x0), (.int x1), (.int x2)] 4 = mkF m 0 #[.val (.ref x0), .val (.int x1), .val (.int x2), .unset] [] := by first | (simp [entryFrame, mkF, argsToLocals, Value.category, maxLocals]; done) | rfl
theorem ef_3 (m : MethodId) (x0 : Int32) (x1 : Int32) (x2 : Int32) (x3 : Int32) (x4 : Int32) (x5 : Int32) : entryFrame m #[(.int x0), (.int x1), (.int x2), (.int x3), (.int x4), (.int x5)] maxLocals = mkF m 0 #[.val (.int x0), .val (.int x1), .val (.int x2), .val (.int x3), .val (.int x4), .val (.int x5), .unset, .unset, .unset, .unset] [] := by first | (simp [entryFrame, mkF, argsToLocals, Value.category, maxLocals]; done) | rfl
theorem d1_0 : decode method_3_code 0 = .ok (.iload_n 1, 1) := by decide +kernel
theorem d1_1 : decode method_3_code 1 = .ok (.iload_n 0, 1) := by decide +kernel
theorem d1_2 : decode method_3_code 2 = .ok (.if_icmp .gt 12, 3) := by decide +kernel
theorem d1_5 : decode method_3_code 5 = .ok (.iload_n 0, 1) := by decide +kernel
theorem d1_6 : decode method_3_code 6 = .ok (.iload_n 2, 1) := by decide +kernel
theorem d1_7 : decode method_3_code 7 = .ok (.if_icmp .ge 7, 3) := by decide +kernel
theorem d1_10 : decode method_3_code 10 = .ok (.iconst 1, 1) := by decide +kernel
theorem d1_11 : decode method_3_code 11 = .ok (.goto 4, 3) := by decide +kernel
theorem d1_14 : decode method_3_code 14 = .ok (.iconst 0, 1) := by decide +kernel
theorem d1_15 : decode method_3_code 15 = .ok (.istore 4, 2) := by decide +kernel
theorem d1_17 : decode method_3_code 17 = .ok (.iload 4, 2) := by decide +kernel
theorem d1_19 : decode method_3_code 19 = .ok (.ifCond .eq 10, 3) := by decide +kernel
theorem d1_22 : decode method_3_code 22 = .ok (.iload_n 3, 1) := by decide +kernel
theorem d1_23 : decode method_3_code 23 = .ok (.invokestatic 7, 3) := by decide +kernel
theorem d1_26 : decode method_3_code 26 = .ok (.ifCond .eq 7, 3) := by decide +kernel
theorem d1_29 : decode method_3_code 29 = .ok (.iconst 1, 1) := by decide +kernel
theorem d1_30 : decode method_3_code 30 = .ok (.goto 4, 3) := by decide +kernel
theorem d1_33 : decode method_3_code 33 = .ok (.iconst 0, 1) := by decide +kernel
theorem d1_34 : decode method_3_code 34 = .ok (.ireturn, 1) := by decide +kernel
theorem d2_0 : decode method_2_code 0 = .ok (.iload_n 0, 1) := by decide +kernel
theorem d2_1 : decode method_2_code 1 = .ok (.sipush 255, 3) := by decide +kernel
theorem d2_4 : decode method_2_code 4 = .ok (.iand, 1) := by decide +kernel
theorem d2_5 : decode method_2_code 5 = .ok (.istore_n 1, 1) := by decide +kernel
theorem d2_6 : decode method_2_code 6 = .ok (.iload_n 1, 1) := by decide +kernel
theorem d2_7 : decode method_2_code 7 = .ok (.bipush 9, 2) := by decide +kernel
theorem d2_9 : decode method_2_code 9 = .ok (.if_icmp .eq 22, 3) := by decide +kernel
theorem d2_12 : decode method_2_code 12 = .ok (.iload_n 1, 1) := by decide +kernel
theorem d2_13 : decode method_2_code 13 = .ok (.bipush 32, 2) := by decide +kernel
theorem d2_15 : decode method_2_code 15 = .ok (.if_icmp .lt 9, 3) := by decide +kernel
theorem d2_18 : decode method_2_code 18 = .ok (.iload_n 1, 1) := by decide +kernel
theorem d2_19 : decode method_2_code 19 = .ok (.bipush 126, 2) := by decide +kernel
theorem d2_21 : decode method_2_code 21 = .ok (.if_icmp .le 10, 3) := by decide +kernel
theorem d2_24 : decode method_2_code 24 = .ok (.iload_n 1, 1) := by decide +kernel
theorem d2_25 : decode method_2_code 25 = .ok (.sipush 128, 3) := by decide +kernel
theorem d2_28 : decode method_2_code 28 = .ok (.if_icmp .lt 7, 3) := by decide +kernel
theorem d2_31 : decode method_2_code 31 = .ok (.iconst 1, 1) := by decide +kernel
theorem d2_32 : decode method_2_code 32 = .ok (.goto 4, 3) := by decide +kernel
theorem d2_35 : decode method_2_code 35 = .ok (.iconst 0, 1) := by decide +kernel
theorem d2_36 : decode method_2_code 36 = .ok (.ireturn, 1) := by decide +kernel
theorem d3_0 : decode prog_5_method_5_code 0 = .ok (.iload_n 1, 1) := by decide +kernel
theorem d3_1 : decode prog_5_method_5_code 1 = .ok (.istore_n 3, 1) := by decide +kernel
theorem d3_2 : decode prog_5_method_5_code 2 = .ok (.iload_n 3, 1) := by decide +kernel
theorem d3_3 : decode prog_5_method_5_code 3 = .ok (.iload_n 2, 1) := by decide +kernel
theorem d3_4 : decode prog_5_method_5_code 4 = .ok (.if_icmp .ge 25, 3) := by decide +kernel
theorem d3_7 : decode prog_5_method_5_code 7 = .ok (.getstatic 13, 3) := by decide +kernel
theorem d3_10 : decode prog_5_method_5_code 10 = .ok (.aload_n 0, 1) := by decide +kernel
theorem d3_11 : decode prog_5_method_5_code 11 = .ok (.iload_n 3, 1) := by decide +kernel
theorem d3_12 : decode prog_5_method_5_code 12 = .ok (.baload, 1) := by decide +kernel
theorem d3_13 : decode prog_5_method_5_code 13 = .ok (.sipush 255, 3) := by decide +kernel
theorem d3_16 : decode prog_5_method_5_code 16 = .ok (.iand, 1) := by decide +kernel
theorem d3_17 : decode prog_5_method_5_code 17 = .ok (.baload, 1) := by decide +kernel
theorem d3_18 : decode prog_5_method_5_code 18 = .ok (.ifCond .ne 5, 3) := by decide +kernel
theorem d3_21 : decode prog_5_method_5_code 21 = .ok (.iconst 0, 1) := by decide +kernel
theorem d3_22 : decode prog_5_method_5_code 22 = .ok (.ireturn, 1) := by decide +kernel
theorem d3_23 : decode prog_5_method_5_code 23 = .ok (.iinc 3 1, 3) := by decide +kernel
theorem d3_26 : decode prog_5_method_5_code 26 = .ok (.goto (-24), 3) := by decide +kernel
theorem d3_29 : decode prog_5_method_5_code 29 = .ok (.iconst 1, 1) := by decide +kernel
theorem d3_30 : decode prog_5_method_5_code 30 = .ok (.ireturn, 1) := by decide +kernel
theorem own_mod5 (x : Int32) : (x &&& (2147483647 : Int32)) % (5 : Int32) = (0 : Int32) ∨ (x &&& (2147483647 : Int32)) % (5 : Int32) = (1 : Int32) ∨ (x &&& (2147483647 : Int32)) % (5 : Int32) = (2 : Int32) ∨ (x &&& (2147483647 : Int32)) % (5 : Int32) = (3 : Int32) ∨ (x &&& (2147483647 : Int32)) % (5 : Int32) = (4 : Int32) := by
  obtain ⟨h1, h2⟩ := own_mod x 5 (by decide)
  have h3 : ((5 : Int32)).toInt = 5 := by decide
  rw [h3] at h2
  have h4 : ((x &&& (2147483647 : Int32)) % (5 : Int32)).toInt = 0 ∨ ((x &&& (2147483647 : Int32)) % (5 : Int32)).toInt = 1 ∨ ((x &&& (2147483647 : Int32)) % (5 : Int32)).toInt = 2 ∨ ((x &&& (2147483647 : Int32)) % (5 : Int32)).toInt = 3 ∨ ((x &&& (2147483647 : Int32)) % (5 : Int32)).toInt = 4 := by omega
  rcases h4 with h4 | h4 | h4 | h4 | h4
  · exact (Or.inl (own_i32 (h4.trans (by decide))))
  · exact (Or.inr (Or.inl (own_i32 (h4.trans (by decide)))))
  · exact (Or.inr (Or.inr (Or.inl (own_i32 (h4.trans (by decide))))))
  · exact (Or.inr (Or.inr (Or.inr (Or.inl (own_i32 (h4.trans (by decide)))))))
  · exact (Or.inr (Or.inr (Or.inr (Or.inr (own_i32 (h4.trans (by decide)))))))
def tabN (k : Nat) : Int32 := if (9 ≤ k ∧ k ≤ 9) ∨ (32 ≤ k ∧ k ≤ 126) ∨ (128 ≤ k ∧ k ≤ 255) then 1 else 0
theorem tab1 {k : Nat} (q : (9 ≤ k ∧ k ≤ 9) ∨ (32 ≤ k ∧ k ≤ 126) ∨ (128 ≤ k ∧ k ≤ 255)) : tabN k = 1 := if_pos q
theorem tab0 {k : Nat} (q : ¬ ((9 ≤ k ∧ k ≤ 9) ∨ (32 ≤ k ∧ k ≤ 126) ∨ (128 ≤ k ∧ k ≤ 255))) : tabN k = 0 := if_neg q
theorem tab_nar (k : Nat) : narrow .boolean (.int (tabN k)) = .int (tabN k) := by
  by_cases q : (9 ≤ k ∧ k ≤ 9) ∨ (32 ≤ k ∧ k ≤ 126) ∨ (128 ≤ k ∧ k ≤ 255)
  · rw [tab1 q]; rfl
  · rw [tab0 q]; rfl
theorem own_255 (x : Int32) : 0 ≤ (x &&& (255 : Int32)).toInt ∧ (x &&& (255 : Int32)).toInt ≤ 255 := c_and x 255 (by decide)
theorem own_in {x : Int32} {n : Nat} (h1 : 0 ≤ x.toInt) (h2 : x.toInt < (n : Int)) : ¬ (x < 0 ∨ n ≤ x.toNatClampNeg) := by
  simp only [Int32.lt_iff_toInt_lt, Int32.reduceToInt, Int32.toNatClampNeg]; omega
theorem own_clamp {x : Int32} (h1 : 0 ≤ x.toInt) : (x.toNatClampNeg : Int) = x.toInt := by simp only [Int32.toNatClampNeg]; omega
def OwnF (Z : State) (h : Heap)  (a_T : Addr) (c_T : Cell) : Prop := (Sta Z h "com/example/tallykey/tallykey/HttpSyntax" "TEXT" "[Z" (.ref a_T)) ∧ (Arr Z h a_T c_T .boolean) ∧ (c_T.slots.size = 256) ∧ (∀ k, k < 256 → c_T.slots[k]? = some (Value.int (tabN k)))
theorem OwnF.s_T {Z : State} {h : Heap}  {a_T : Addr} {c_T : Cell} (F : OwnF Z h  a_T c_T) : Sta Z h "com/example/tallykey/tallykey/HttpSyntax" "TEXT" "[Z" (.ref a_T) := F.1
theorem OwnF.r_T {Z : State} {h : Heap}  {a_T : Addr} {c_T : Cell} (F : OwnF Z h  a_T c_T) : Arr Z h a_T c_T .boolean := F.2.1
theorem OwnF.z_T {Z : State} {h : Heap}  {a_T : Addr} {c_T : Cell} (F : OwnF Z h  a_T c_T) : c_T.slots.size = 256 := F.2.2.1
theorem OwnF.t_T {Z : State} {h : Heap}  {a_T : Addr} {c_T : Cell} (F : OwnF Z h  a_T c_T) : ∀ k, k < 256 → c_T.slots[k]? = some (Value.int (tabN k)) := F.2.2.2
theorem OwnF.ext {Z : State} {h h' : Heap}  {a_T : Addr} {c_T : Cell} (F : OwnF Z h  a_T c_T) (E : Ext h h') : OwnF Z h'  a_T c_T := ⟨F.s_T.ext E, F.r_T.ext E, F.z_T, F.t_T⟩
set_option maxRecDepth 65536 in
set_option maxHeartbeats 40000000 in
theorem m_cls {l : Launch} {Z : State} {a0 : Array Value} {n0 : Nat} {h : Heap}  {a_T : Addr} {c_T : Cell} (hw : ∀ d ∈ tables_1, d.before a0 Z = true) (F : OwnF Z h  a_T c_T) (z0 : Int32) : Met l Z n0 (⟨"com/example/tallykey/tallykey/HttpSyntaxIsTextPinLaw", "text", "(B)Z"⟩ : MethodName) method_2_code 2 (Option.some Jvm.ClassFile.FieldType.boolean) (⟨0, 0, 0, 0⟩ : Room) #[(.int z0)] h (fun v h' => v = some (.int (tabN (z0 &&& (255 : Int32)).toNatClampNeg)) ∧ h' = h) := by
  refine Met.of_wk (ls := #[.val (.int z0), .unset]) (plainFor_of_name pn_0) (fun m => ef_0 m z0) ?_
  show Wk l Z n0 "com/example/tallykey/tallykey/HttpSyntaxIsTextPinLaw" "text" method_2_code 2 (Option.some Jvm.ClassFile.FieldType.boolean) (⟨0, 0, 0, 0⟩ : Room) 0 0 (fun v h' => v = some (.int (tabN (z0 &&& (255 : Int32)).toNatClampNeg)) ∧ h' = h) h 0 0 0 #[.val (.int z0), .unset] []
  have r1 := (own_255 z0).1
  have r2 := (own_255 z0).2
  have r3 := own_clamp r1
  refine Wk.iloadN (q := 1) d2_0 rfl rfl ?_
  refine Wk.sipush (q := 4) (v := (255 : Int32)) d2_1 rfl rfl ?_
  refine Wk.iand (q := 5) (v := (z0 &&& (255 : Int32))) d2_4 rfl rfl ?_
  refine Wk.istoreN (q := 6) (ls' := #[.val (.int z0), .val (.int (z0 &&& (255 : Int32)))]) d2_5 rfl rfl ?_
  refine Wk.iloadN (q := 7) d2_6 rfl rfl ?_
  refine Wk.bipush (q := 9) (v := (9 : Int32)) d2_7 rfl rfl ?_
  refine Wk.icmp (q := 31) (q' := 12) d2_9 (by decide) rfl rfl (fun (h1 : (z0 &&& (255 : Int32)) = (9 : Int32)) => ?_) (fun (h1 : ¬ (z0 &&& (255 : Int32)) = (9 : Int32)) => ?_)
  · refine Wk.iconst (q := 32) (v := (1 : Int32)) d2_31 rfl rfl ?_
    refine Wk.goto (q := 36) d2_32 (by decide) rfl ?_
    simp only [Int32.lt_iff_toInt_lt, ← Int32.toInt_inj, Int32.reduceToInt] at h1
    exact Wk.retZ rfl rfl d2_36 (by decide) (by decide) ⟨by rw [tab1 (by omega)], rfl⟩
  · refine Wk.iloadN (q := 13) d2_12 rfl rfl ?_
    refine Wk.bipush (q := 15) (v := (32 : Int32)) d2_13 rfl rfl ?_
    refine Wk.icmp (q := 24) (q' := 18) d2_15 (by decide) rfl rfl (fun (h2 : (z0 &&& (255 : Int32)) < (32 : Int32)) => ?_) (fun (h2 : ¬ (z0 &&& (255 : Int32)) < (32 : Int32)) => ?_)
    · refine Wk.iloadN (q := 25) d2_24 rfl rfl ?_
      refine Wk.sipush (q := 28) (v := (128 : Int32)) d2_25 rfl rfl ?_
      refine Wk.icmp (q := 35) (q' := 31) d2_28 (by decide) rfl rfl (fun (h3 : (z0 &&& (255 : Int32)) < (128 : Int32)) => ?_) (fun (h3 : ¬ (z0 &&& (255 : Int32)) < (128 : Int32)) => ?_)
      · refine Wk.iconst (q := 36) (v := (0 : Int32)) d2_35 rfl rfl ?_
        simp only [Int32.lt_iff_toInt_lt, ← Int32.toInt_inj, Int32.reduceToInt] at h1 h2 h3
        exact Wk.retZ rfl rfl d2_36 (by decide) (by decide) ⟨by rw [tab0 (by omega)], rfl⟩
      · refine Wk.iconst (q := 32) (v := (1 : Int32)) d2_31 rfl rfl ?_
        refine Wk.goto (q := 36) d2_32 (by decide) rfl ?_
        simp only [Int32.lt_iff_toInt_lt, ← Int32.toInt_inj, Int32.reduceToInt] at h1 h2 h3
        exact Wk.retZ rfl rfl d2_36 (by decide) (by decide) ⟨by rw [tab1 (by omega)], rfl⟩
    · refine Wk.iloadN (q := 19) d2_18 rfl rfl ?_
      refine Wk.bipush (q := 21) (v := (126 : Int32)) d2_19 rfl rfl ?_
      refine Wk.icmp (q := 31) (q' := 24) d2_21 (by decide) rfl rfl (fun (h4 : ¬ (126 : Int32) < (z0 &&& (255 : Int32))) => ?_) (fun (h4 : (126 : Int32) < (z0 &&& (255 : Int32))) => ?_)
      · refine Wk.iconst (q := 32) (v := (1 : Int32)) d2_31 rfl rfl ?_
        refine Wk.goto (q := 36) d2_32 (by decide) rfl ?_
        simp only [Int32.lt_iff_toInt_lt, ← Int32.toInt_inj, Int32.reduceToInt] at h1 h2 h4
        exact Wk.retZ rfl rfl d2_36 (by decide) (by decide) ⟨by rw [tab1 (by omega)], rfl⟩
      · refine Wk.iloadN (q := 25) d2_24 rfl rfl ?_
        refine Wk.sipush (q := 28) (v := (128 : Int32)) d2_25 rfl rfl ?_
        refine Wk.icmp (q := 35) (q' := 31) d2_28 (by decide) rfl rfl (fun (h5 : (z0 &&& (255 : Int32)) < (128 : Int32)) => ?_) (fun (h5 : ¬ (z0 &&& (255 : Int32)) < (128 : Int32)) => ?_)
        · refine Wk.iconst (q := 36) (v := (0 : Int32)) d2_35 rfl rfl ?_
          simp only [Int32.lt_iff_toInt_lt, ← Int32.toInt_inj, Int32.reduceToInt] at h1 h2 h4 h5
          exact Wk.retZ rfl rfl d2_36 (by decide) (by decide) ⟨by rw [tab0 (by omega)], rfl⟩
        · refine Wk.iconst (q := 32) (v := (1 : Int32)) d2_31 rfl rfl ?_
          refine Wk.goto (q := 36) d2_32 (by decide) rfl ?_
          simp only [Int32.lt_iff_toInt_lt, ← Int32.toInt_inj, Int32.reduceToInt] at h1 h2 h4 h5
          exact Wk.retZ rfl rfl d2_36 (by decide) (by decide) ⟨by rw [tab1 (by omega)], rfl⟩
set_option maxRecDepth 65536 in
set_option maxHeartbeats 40000000 in
theorem m_0 {l : Launch} {Z : State} {a0 : Array Value} {n0 : Nat} {h : Heap}  {a_T : Addr} {c_T : Cell} (hw : ∀ d ∈ tables_1, d.before a0 Z = true) (F : OwnF Z h  a_T c_T) {a1 : Addr} {c1 : Cell} {b0 b1 b2 b3 : Int32} (A1 : Arr Z h a1 c1 .byte) (S1 : c1.slots.size = 4) (e_0 : c1.slots[0]? = some (Value.int b0)) (e_1 : c1.slots[1]? = some (Value.int b1)) (e_2 : c1.slots[2]? = some (Value.int b2)) (e_3 : c1.slots[3]? = some (Value.int b3)) (z0 : Int32) : Met l Z n0 (⟨"com/example/tallykey/tallykey/HttpSyntaxIsTextPinLaw", "ok", "(IIIB)Z"⟩ : MethodName) method_3_code 5 (Option.some Jvm.ClassFile.FieldType.boolean) (⟨0, 0, 0, 0⟩ : Room) #[(.int (0 : Int32)), (.int (0 : Int32)), (.int (0 : Int32)), (.int z0)] h (fun v h' => v = some (.int (1 : Int32)) ∧ h' = h) := by
  refine Met.of_wk (ls := #[.val (.int (0 : Int32)), .val (.int (0 : Int32)), .val (.int (0 : Int32)), .val (.int z0), .unset]) (plainFor_of_name pn_0) (fun m => ef_1 m (0 : Int32) (0 : Int32) (0 : Int32) z0) ?_
  show Wk l Z n0 "com/example/tallykey/tallykey/HttpSyntaxIsTextPinLaw" "ok" method_3_code 5 (Option.some Jvm.ClassFile.FieldType.boolean) (⟨0, 0, 0, 0⟩ : Room) 0 0 (fun v h' => v = some (.int (1 : Int32)) ∧ h' = h) h 0 0 0 #[.val (.int (0 : Int32)), .val (.int (0 : Int32)), .val (.int (0 : Int32)), .val (.int z0), .unset] []
  refine Wk.iloadN (q := 1) d1_0 rfl rfl ?_
  refine Wk.iloadN (q := 2) d1_1 rfl rfl ?_
  refine Wk.icmpF (q := 5) d1_2 rfl (by decide : ¬ (0 : Int32) < (0 : Int32)) ?_
  refine Wk.iloadN (q := 6) d1_5 rfl rfl ?_
  refine Wk.iloadN (q := 7) d1_6 rfl rfl ?_
  refine Wk.icmpT (q := 14) d1_7 (by decide) rfl (by decide : ¬ (0 : Int32) < (0 : Int32)) ?_
  refine Wk.iconst (q := 15) (v := (0 : Int32)) d1_14 rfl rfl ?_
  refine Wk.istore (q := 17) (ls' := #[.val (.int (0 : Int32)), .val (.int (0 : Int32)), .val (.int (0 : Int32)), .val (.int z0), .val (.int (0 : Int32))]) d1_15 rfl rfl ?_
  refine Wk.iload (q := 19) d1_17 rfl rfl ?_
  refine Wk.ifcT (q := 29) d1_19 (by decide) rfl (by decide : (0 : Int32) = (0 : Int32)) ?_
  refine Wk.iconst (q := 30) (v := (1 : Int32)) d1_29 rfl rfl ?_
  refine Wk.goto (q := 34) d1_30 (by decide) rfl ?_
  exact Wk.retZ rfl rfl d1_34 (by decide) (by decide) ⟨rfl, rfl⟩
set_option maxRecDepth 65536 in
set_option maxHeartbeats 40000000 in
theorem m_1 {l : Launch} {Z : State} {a0 : Array Value} {n0 : Nat} {h : Heap}  {a_T : Addr} {c_T : Cell} (hw : ∀ d ∈ tables_1, d.before a0 Z = true) (F : OwnF Z h  a_T c_T) {a1 : Addr} {c1 : Cell} {b0 b1 b2 b3 : Int32} (A1 : Arr Z h a1 c1 .byte) (S1 : c1.slots.size = 4) (e_0 : c1.slots[0]? = some (Value.int b0)) (e_1 : c1.slots[1]? = some (Value.int b1)) (e_2 : c1.slots[2]? = some (Value.int b2)) (e_3 : c1.slots[3]? = some (Value.int b3)) (z0 : Int32) : Met l Z n0 (⟨"com/example/tallykey/tallykey/HttpSyntaxIsTextPinLaw", "ok", "(IIIB)Z"⟩ : MethodName) method_3_code 5 (Option.some Jvm.ClassFile.FieldType.boolean) (⟨0, 0, 0, 0⟩ : Room) #[(.int (1 : Int32)), (.int (0 : Int32)), (.int (0 : Int32)), (.int z0)] h (fun v h' => v = some (.int (1 : Int32)) ∧ h' = h) := by
  refine Met.of_wk (ls := #[.val (.int (1 : Int32)), .val (.int (0 : Int32)), .val (.int (0 : Int32)), .val (.int z0), .unset]) (plainFor_of_name pn_0) (fun m => ef_1 m (1 : Int32) (0 : Int32) (0 : Int32) z0) ?_
  show Wk l Z n0 "com/example/tallykey/tallykey/HttpSyntaxIsTextPinLaw" "ok" method_3_code 5 (Option.some Jvm.ClassFile.FieldType.boolean) (⟨0, 0, 0, 0⟩ : Room) 0 0 (fun v h' => v = some (.int (1 : Int32)) ∧ h' = h) h 0 0 0 #[.val (.int (1 : Int32)), .val (.int (0 : Int32)), .val (.int (0 : Int32)), .val (.int z0), .unset] []
  refine Wk.iloadN (q := 1) d1_0 rfl rfl ?_
  refine Wk.iloadN (q := 2) d1_1 rfl rfl ?_
  refine Wk.icmpF (q := 5) d1_2 rfl (by decide : ¬ (1 : Int32) < (0 : Int32)) ?_
  refine Wk.iloadN (q := 6) d1_5 rfl rfl ?_
  refine Wk.iloadN (q := 7) d1_6 rfl rfl ?_
  refine Wk.icmpT (q := 14) d1_7 (by decide) rfl (by decide : ¬ (1 : Int32) < (0 : Int32)) ?_
  refine Wk.iconst (q := 15) (v := (0 : Int32)) d1_14 rfl rfl ?_
  refine Wk.istore (q := 17) (ls' := #[.val (.int (1 : Int32)), .val (.int (0 : Int32)), .val (.int (0 : Int32)), .val (.int z0), .val (.int (0 : Int32))]) d1_15 rfl rfl ?_
  refine Wk.iload (q := 19) d1_17 rfl rfl ?_
  refine Wk.ifcT (q := 29) d1_19 (by decide) rfl (by decide : (0 : Int32) = (0 : Int32)) ?_
  refine Wk.iconst (q := 30) (v := (1 : Int32)) d1_29 rfl rfl ?_
  refine Wk.goto (q := 34) d1_30 (by decide) rfl ?_
  exact Wk.retZ rfl rfl d1_34 (by decide) (by decide) ⟨rfl, rfl⟩
set_option maxRecDepth 65536 in
set_option maxHeartbeats 40000000 in
theorem m_2 {l : Launch} {Z : State} {a0 : Array Value} {n0 : Nat} {h : Heap}  {a_T : Addr} {c_T : Cell} (hw : ∀ d ∈ tables_1, d.before a0 Z = true) (F : OwnF Z h  a_T c_T) {a1 : Addr} {c1 : Cell} {b0 b1 b2 b3 : Int32} (A1 : Arr Z h a1 c1 .byte) (S1 : c1.slots.size = 4) (e_0 : c1.slots[0]? = some (Value.int b0)) (e_1 : c1.slots[1]? = some (Value.int b1)) (e_2 : c1.slots[2]? = some (Value.int b2)) (e_3 : c1.slots[3]? = some (Value.int b3)) (z0 : Int32) : Met l Z n0 (⟨"com/example/tallykey/tallykey/HttpSyntaxIsTextPinLaw", "ok", "(IIIB)Z"⟩ : MethodName) method_3_code 5 (Option.some Jvm.ClassFile.FieldType.boolean) (⟨0, 0, 0, 0⟩ : Room) #[(.int (2 : Int32)), (.int (0 : Int32)), (.int (0 : Int32)), (.int z0)] h (fun v h' => v = some (.int (1 : Int32)) ∧ h' = h) := by
  refine Met.of_wk (ls := #[.val (.int (2 : Int32)), .val (.int (0 : Int32)), .val (.int (0 : Int32)), .val (.int z0), .unset]) (plainFor_of_name pn_0) (fun m => ef_1 m (2 : Int32) (0 : Int32) (0 : Int32) z0) ?_
  show Wk l Z n0 "com/example/tallykey/tallykey/HttpSyntaxIsTextPinLaw" "ok" method_3_code 5 (Option.some Jvm.ClassFile.FieldType.boolean) (⟨0, 0, 0, 0⟩ : Room) 0 0 (fun v h' => v = some (.int (1 : Int32)) ∧ h' = h) h 0 0 0 #[.val (.int (2 : Int32)), .val (.int (0 : Int32)), .val (.int (0 : Int32)), .val (.int z0), .unset] []
  refine Wk.iloadN (q := 1) d1_0 rfl rfl ?_
  refine Wk.iloadN (q := 2) d1_1 rfl rfl ?_
  refine Wk.icmpF (q := 5) d1_2 rfl (by decide : ¬ (2 : Int32) < (0 : Int32)) ?_
  refine Wk.iloadN (q := 6) d1_5 rfl rfl ?_
  refine Wk.iloadN (q := 7) d1_6 rfl rfl ?_
  refine Wk.icmpT (q := 14) d1_7 (by decide) rfl (by decide : ¬ (2 : Int32) < (0 : Int32)) ?_
  refine Wk.iconst (q := 15) (v := (0 : Int32)) d1_14 rfl rfl ?_
  refine Wk.istore (q := 17) (ls' := #[.val (.int (2 : Int32)), .val (.int (0 : Int32)), .val (.int (0 : Int32)), .val (.int z0), .val (.int (0 : Int32))]) d1_15 rfl rfl ?_
  refine Wk.iload (q := 19) d1_17 rfl rfl ?_
  refine Wk.ifcT (q := 29) d1_19 (by decide) rfl (by decide : (0 : Int32) = (0 : Int32)) ?_
  refine Wk.iconst (q := 30) (v := (1 : Int32)) d1_29 rfl rfl ?_
  refine Wk.goto (q := 34) d1_30 (by decide) rfl ?_
  exact Wk.retZ rfl rfl d1_34 (by decide) (by decide) ⟨rfl, rfl⟩
set_option maxRecDepth 65536 in
set_option maxHeartbeats 40000000 in
theorem m_3 {l : Launch} {Z : State} {a0 : Array Value} {n0 : Nat} {h : Heap}  {a_T : Addr} {c_T : Cell} (hw : ∀ d ∈ tables_1, d.before a0 Z = true) (F : OwnF Z h  a_T c_T) {a1 : Addr} {c1 : Cell} {b0 b1 b2 b3 : Int32} (A1 : Arr Z h a1 c1 .byte) (S1 : c1.slots.size = 4) (e_0 : c1.slots[0]? = some (Value.int b0)) (e_1 : c1.slots[1]? = some (Value.int b1)) (e_2 : c1.slots[2]? = some (Value.int b2)) (e_3 : c1.slots[3]? = some (Value.int b3)) (z0 : Int32) : Met l Z n0 (⟨"com/example/tallykey/tallykey/HttpSyntaxIsTextPinLaw", "ok", "(IIIB)Z"⟩ : MethodName) method_3_code 5 (Option.some Jvm.ClassFile.FieldType.boolean) (⟨0, 0, 0, 0⟩ : Room) #[(.int (3 : Int32)), (.int (0 : Int32)), (.int (0 : Int32)), (.int z0)] h (fun v h' => v = some (.int (1 : Int32)) ∧ h' = h) := by
  refine Met.of_wk (ls := #[.val (.int (3 : Int32)), .val (.int (0 : Int32)), .val (.int (0 : Int32)), .val (.int z0), .unset]) (plainFor_of_name pn_0) (fun m => ef_1 m (3 : Int32) (0 : Int32) (0 : Int32) z0) ?_
  show Wk l Z n0 "com/example/tallykey/tallykey/HttpSyntaxIsTextPinLaw" "ok" method_3_code 5 (Option.some Jvm.ClassFile.FieldType.boolean) (⟨0, 0, 0, 0⟩ : Room) 0 0 (fun v h' => v = some (.int (1 : Int32)) ∧ h' = h) h 0 0 0 #[.val (.int (3 : Int32)), .val (.int (0 : Int32)), .val (.int (0 : Int32)), .val (.int z0), .unset] []
  refine Wk.iloadN (q := 1) d1_0 rfl rfl ?_
  refine Wk.iloadN (q := 2) d1_1 rfl rfl ?_
  refine Wk.icmpF (q := 5) d1_2 rfl (by decide : ¬ (3 : Int32) < (0 : Int32)) ?_
  refine Wk.iloadN (q := 6) d1_5 rfl rfl ?_
  refine Wk.iloadN (q := 7) d1_6 rfl rfl ?_
  refine Wk.icmpT (q := 14) d1_7 (by decide) rfl (by decide : ¬ (3 : Int32) < (0 : Int32)) ?_
  refine Wk.iconst (q := 15) (v := (0 : Int32)) d1_14 rfl rfl ?_
  refine Wk.istore (q := 17) (ls' := #[.val (.int (3 : Int32)), .val (.int (0 : Int32)), .val (.int (0 : Int32)), .val (.int z0), .val (.int (0 : Int32))]) d1_15 rfl rfl ?_
  refine Wk.iload (q := 19) d1_17 rfl rfl ?_
  refine Wk.ifcT (q := 29) d1_19 (by decide) rfl (by decide : (0 : Int32) = (0 : Int32)) ?_
  refine Wk.iconst (q := 30) (v := (1 : Int32)) d1_29 rfl rfl ?_
  refine Wk.goto (q := 34) d1_30 (by decide) rfl ?_
  exact Wk.retZ rfl rfl d1_34 (by decide) (by decide) ⟨rfl, rfl⟩
set_option maxRecDepth 65536 in
set_option maxHeartbeats 40000000 in
theorem m_4 {l : Launch} {Z : State} {a0 : Array Value} {n0 : Nat} {h : Heap}  {a_T : Addr} {c_T : Cell} (hw : ∀ d ∈ tables_1, d.before a0 Z = true) (F : OwnF Z h  a_T c_T) {a1 : Addr} {c1 : Cell} {b0 b1 b2 b3 : Int32} (A1 : Arr Z h a1 c1 .byte) (S1 : c1.slots.size = 4) (e_0 : c1.slots[0]? = some (Value.int b0)) (e_1 : c1.slots[1]? = some (Value.int b1)) (e_2 : c1.slots[2]? = some (Value.int b2)) (e_3 : c1.slots[3]? = some (Value.int b3)) : Met l Z n0 (⟨"com/example/tallykey/tallykey/HttpSyntax", "isText", "([BII)Z"⟩ : MethodName) prog_5_method_5_code 4 (Option.some Jvm.ClassFile.FieldType.boolean) (⟨0, 0, 0, 0⟩ : Room) #[(.ref a1), (.int (0 : Int32)), (.int (0 : Int32))] h (fun v h' => v = some (.int (1 : Int32)) ∧ h' = h) := by
  refine Met.of_wk (ls := #[.val (.ref a1), .val (.int (0 : Int32)), .val (.int (0 : Int32)), .unset]) (plainFor_of_name pn_1) (fun m => ef_2 m a1 (0 : Int32) (0 : Int32)) ?_
  show Wk l Z n0 "com/example/tallykey/tallykey/HttpSyntax" "isText" prog_5_method_5_code 4 (Option.some Jvm.ClassFile.FieldType.boolean) (⟨0, 0, 0, 0⟩ : Room) 0 0 (fun v h' => v = some (.int (1 : Int32)) ∧ h' = h) h 0 0 0 #[.val (.ref a1), .val (.int (0 : Int32)), .val (.int (0 : Int32)), .unset] []
  refine Wk.iloadN (q := 1) d3_0 rfl rfl ?_
  refine Wk.istoreN (q := 2) (ls' := #[.val (.ref a1), .val (.int (0 : Int32)), .val (.int (0 : Int32)), .val (.int (0 : Int32))]) d3_1 rfl rfl ?_
  refine Wk.iloadN (q := 3) d3_2 rfl rfl ?_
  refine Wk.iloadN (q := 4) d3_3 rfl rfl ?_
  refine Wk.icmpT (q := 29) d3_4 (by decide) rfl (by decide : ¬ (0 : Int32) < (0 : Int32)) ?_
  refine Wk.iconst (q := 30) (v := (1 : Int32)) d3_29 rfl rfl ?_
  exact Wk.retZ rfl rfl d3_30 (by decide) (by decide) ⟨rfl, rfl⟩
set_option maxRecDepth 65536 in
set_option maxHeartbeats 40000000 in
theorem m_5 {l : Launch} {Z : State} {a0 : Array Value} {n0 : Nat} {h : Heap}  {a_T : Addr} {c_T : Cell} (hw : ∀ d ∈ tables_1, d.before a0 Z = true) (F : OwnF Z h  a_T c_T) {a1 : Addr} {c1 : Cell} {b0 b1 b2 b3 : Int32} (A1 : Arr Z h a1 c1 .byte) (S1 : c1.slots.size = 4) (e_0 : c1.slots[0]? = some (Value.int b0)) (e_1 : c1.slots[1]? = some (Value.int b1)) (e_2 : c1.slots[2]? = some (Value.int b2)) (e_3 : c1.slots[3]? = some (Value.int b3)) (z0 : Int32) : Met l Z n0 (⟨"com/example/tallykey/tallykey/HttpSyntaxIsTextPinLaw", "ok", "(IIIB)Z"⟩ : MethodName) method_3_code 5 (Option.some Jvm.ClassFile.FieldType.boolean) (⟨1, 0, 0, 13⟩ : Room) #[(.int (0 : Int32)), (.int (0 : Int32)), (.int (1 : Int32)), (.int z0)] h (fun v h' => (∃ w, v = some w ∧ ((((tabN (z0 &&& (255 : Int32)).toNatClampNeg) = (0 : Int32)) ∧ w = (.int (0 : Int32))) ∨ ((¬ (tabN (z0 &&& (255 : Int32)).toNatClampNeg) = (0 : Int32)) ∧ w = (.int (1 : Int32))))) ∧ h' = h) := by
  refine Met.of_wk (ls := #[.val (.int (0 : Int32)), .val (.int (0 : Int32)), .val (.int (1 : Int32)), .val (.int z0), .unset]) (plainFor_of_name pn_0) (fun m => ef_1 m (0 : Int32) (0 : Int32) (1 : Int32) z0) ?_
  show Wk l Z n0 "com/example/tallykey/tallykey/HttpSyntaxIsTextPinLaw" "ok" method_3_code 5 (Option.some Jvm.ClassFile.FieldType.boolean) (⟨1, 0, 0, 13⟩ : Room) 0 0 (fun v h' => (∃ w, v = some w ∧ ((((tabN (z0 &&& (255 : Int32)).toNatClampNeg) = (0 : Int32)) ∧ w = (.int (0 : Int32))) ∨ ((¬ (tabN (z0 &&& (255 : Int32)).toNatClampNeg) = (0 : Int32)) ∧ w = (.int (1 : Int32))))) ∧ h' = h) h 0 0 0 #[.val (.int (0 : Int32)), .val (.int (0 : Int32)), .val (.int (1 : Int32)), .val (.int z0), .unset] []
  refine Wk.iloadN (q := 1) d1_0 rfl rfl ?_
  refine Wk.iloadN (q := 2) d1_1 rfl rfl ?_
  refine Wk.icmpF (q := 5) d1_2 rfl (by decide : ¬ (0 : Int32) < (0 : Int32)) ?_
  refine Wk.iloadN (q := 6) d1_5 rfl rfl ?_
  refine Wk.iloadN (q := 7) d1_6 rfl rfl ?_
  refine Wk.icmpF (q := 10) d1_7 rfl (by decide : (0 : Int32) < (1 : Int32)) ?_
  refine Wk.iconst (q := 11) (v := (1 : Int32)) d1_10 rfl rfl ?_
  refine Wk.goto (q := 15) d1_11 (by decide) rfl ?_
  refine Wk.istore (q := 17) (ls' := #[.val (.int (0 : Int32)), .val (.int (0 : Int32)), .val (.int (1 : Int32)), .val (.int z0), .val (.int (1 : Int32))]) d1_15 rfl rfl ?_
  refine Wk.iload (q := 19) d1_17 rfl rfl ?_
  refine Wk.ifcF (q := 22) d1_19 rfl (by decide : ¬ (1 : Int32) = (0 : Int32)) ?_
  refine Wk.iloadN (q := 23) d1_22 rfl rfl ?_
  refine Wk.callS1 (q := 26) (argsL := [(.int z0)]) (rest := []) (fr := 0) (lo := 0) (v0 := (.int (tabN (z0 &&& (255 : Int32)).toNatClampNeg))) (m_cls hw F z0) (w_6 hw) (w_7 hw) (w_4 hw) (w_8 hw) (by decide) pd_2 rfl rfl rfl d1_23 rfl (W := 0) rfl (by decide) (by decide) (by decide) (by decide) ?_
  refine Wk.ifc (q := 33) (q' := 29) d1_26 (by decide) rfl rfl (fun (h1 : (tabN (z0 &&& (255 : Int32)).toNatClampNeg) = (0 : Int32)) => ?_) (fun (h1 : ¬ (tabN (z0 &&& (255 : Int32)).toNatClampNeg) = (0 : Int32)) => ?_)
  · refine Wk.iconst (q := 34) (v := (0 : Int32)) d1_33 rfl rfl ?_
    exact Wk.retZ rfl rfl d1_34 (by decide) (by decide) ⟨⟨_, rfl, Or.inl ⟨h1, rfl⟩⟩, rfl⟩
  · refine Wk.iconst (q := 30) (v := (1 : Int32)) d1_29 rfl rfl ?_
    refine Wk.goto (q := 34) d1_30 (by decide) rfl ?_
    exact Wk.retZ rfl rfl d1_34 (by decide) (by decide) ⟨⟨_, rfl, Or.inr (⟨h1, rfl⟩)⟩, rfl⟩
set_option maxRecDepth 65536 in
set_option maxHeartbeats 40000000 in
theorem m_6 {l : Launch} {Z : State} {a0 : Array Value} {n0 : Nat} {h : Heap}  {a_T : Addr} {c_T : Cell} (hw : ∀ d ∈ tables_1, d.before a0 Z = true) (F : OwnF Z h  a_T c_T) {a1 : Addr} {c1 : Cell} {b0 b1 b2 b3 : Int32} (A1 : Arr Z h a1 c1 .byte) (S1 : c1.slots.size = 4) (e_0 : c1.slots[0]? = some (Value.int b0)) (e_1 : c1.slots[1]? = some (Value.int b1)) (e_2 : c1.slots[2]? = some (Value.int b2)) (e_3 : c1.slots[3]? = some (Value.int b3)) : Met l Z n0 (⟨"com/example/tallykey/tallykey/HttpSyntax", "isText", "([BII)Z"⟩ : MethodName) prog_5_method_5_code 4 (Option.some Jvm.ClassFile.FieldType.boolean) (⟨0, 0, 0, 0⟩ : Room) #[(.ref a1), (.int (0 : Int32)), (.int (1 : Int32))] h (fun v h' => (∃ w, v = some w ∧ (((¬ (tabN (b0 &&& (255 : Int32)).toNatClampNeg) = (0 : Int32)) ∧ w = (.int (1 : Int32))) ∨ (((tabN (b0 &&& (255 : Int32)).toNatClampNeg) = (0 : Int32)) ∧ w = (.int (0 : Int32))))) ∧ h' = h) := by
  refine Met.of_wk (ls := #[.val (.ref a1), .val (.int (0 : Int32)), .val (.int (1 : Int32)), .unset]) (plainFor_of_name pn_1) (fun m => ef_2 m a1 (0 : Int32) (1 : Int32)) ?_
  show Wk l Z n0 "com/example/tallykey/tallykey/HttpSyntax" "isText" prog_5_method_5_code 4 (Option.some Jvm.ClassFile.FieldType.boolean) (⟨0, 0, 0, 0⟩ : Room) 0 0 (fun v h' => (∃ w, v = some w ∧ (((¬ (tabN (b0 &&& (255 : Int32)).toNatClampNeg) = (0 : Int32)) ∧ w = (.int (1 : Int32))) ∨ (((tabN (b0 &&& (255 : Int32)).toNatClampNeg) = (0 : Int32)) ∧ w = (.int (0 : Int32))))) ∧ h' = h) h 0 0 0 #[.val (.ref a1), .val (.int (0 : Int32)), .val (.int (1 : Int32)), .unset] []
  refine Wk.iloadN (q := 1) d3_0 rfl rfl ?_
  refine Wk.istoreN (q := 2) (ls' := #[.val (.ref a1), .val (.int (0 : Int32)), .val (.int (1 : Int32)), .val (.int (0 : Int32))]) d3_1 rfl rfl ?_
  refine Wk.iloadN (q := 3) d3_2 rfl rfl ?_
  refine Wk.iloadN (q := 4) d3_3 rfl rfl ?_
  refine Wk.icmpF (q := 7) d3_4 rfl (by decide : (0 : Int32) < (1 : Int32)) ?_
  refine Wk.getS (q := 10) (w_13 hw) Via.refl F.s_T d3_7 rfl ?_
  refine Wk.aloadN (q := 11) d3_10 rfl rfl rfl ?_
  refine Wk.iloadN (q := 12) d3_11 rfl rfl ?_
  refine Wk.baloadB (q := 13) A1 (by rw [S1]; decide) e_0 d3_12 rfl ?_
  refine Wk.sipush (q := 16) (v := (255 : Int32)) d3_13 rfl rfl ?_
  refine Wk.iand (q := 17) (v := (b0 &&& (255 : Int32))) d3_16 rfl rfl ?_
  refine Wk.baloadZ (q := 18) F.r_T (by rw [F.z_T]; exact own_in (own_255 b0).1 (by have := (own_255 b0).2; omega)) (F.t_T _ (by have := own_clamp (own_255 b0).1; have := (own_255 b0).2; omega)) d3_17 rfl ?_
  refine Wk.ifc (q := 23) (q' := 21) d3_18 (by decide) rfl rfl (fun (h1 : ¬ (tabN (b0 &&& (255 : Int32)).toNatClampNeg) = (0 : Int32)) => ?_) (fun (h1 : (tabN (b0 &&& (255 : Int32)).toNatClampNeg) = (0 : Int32)) => ?_)
  · refine Wk.iinc (q := 26) (v := (1 : Int32)) (ls' := #[.val (.ref a1), .val (.int (0 : Int32)), .val (.int (1 : Int32)), .val (.int (1 : Int32))]) d3_23 rfl rfl (by decide) rfl ?_
    refine Wk.goto (q := 2) d3_26 (by decide) rfl ?_
    refine Wk.iloadN (q := 3) d3_2 rfl rfl ?_
    refine Wk.iloadN (q := 4) d3_3 rfl rfl ?_
    refine Wk.icmpT (q := 29) d3_4 (by decide) rfl (by decide : ¬ (1 : Int32) < (1 : Int32)) ?_
    refine Wk.iconst (q := 30) (v := (1 : Int32)) d3_29 rfl rfl ?_
    exact Wk.retZ rfl rfl d3_30 (by decide) (by decide) ⟨⟨_, rfl, Or.inl ⟨h1, rfl⟩⟩, rfl⟩
  · refine Wk.iconst (q := 22) (v := (0 : Int32)) d3_21 rfl rfl ?_
    exact Wk.retZ rfl rfl d3_22 (by decide) (by decide) ⟨⟨_, rfl, Or.inr (⟨h1, rfl⟩)⟩, rfl⟩
set_option maxRecDepth 65536 in
set_option maxHeartbeats 40000000 in
theorem m_7 {l : Launch} {Z : State} {a0 : Array Value} {n0 : Nat} {h : Heap}  {a_T : Addr} {c_T : Cell} (hw : ∀ d ∈ tables_1, d.before a0 Z = true) (F : OwnF Z h  a_T c_T) {a1 : Addr} {c1 : Cell} {b0 b1 b2 b3 : Int32} (A1 : Arr Z h a1 c1 .byte) (S1 : c1.slots.size = 4) (e_0 : c1.slots[0]? = some (Value.int b0)) (e_1 : c1.slots[1]? = some (Value.int b1)) (e_2 : c1.slots[2]? = some (Value.int b2)) (e_3 : c1.slots[3]? = some (Value.int b3)) (z0 : Int32) : Met l Z n0 (⟨"com/example/tallykey/tallykey/HttpSyntaxIsTextPinLaw", "ok", "(IIIB)Z"⟩ : MethodName) method_3_code 5 (Option.some Jvm.ClassFile.FieldType.boolean) (⟨0, 0, 0, 0⟩ : Room) #[(.int (1 : Int32)), (.int (0 : Int32)), (.int (1 : Int32)), (.int z0)] h (fun v h' => v = some (.int (1 : Int32)) ∧ h' = h) := by
  refine Met.of_wk (ls := #[.val (.int (1 : Int32)), .val (.int (0 : Int32)), .val (.int (1 : Int32)), .val (.int z0), .unset]) (plainFor_of_name pn_0) (fun m => ef_1 m (1 : Int32) (0 : Int32) (1 : Int32) z0) ?_
  show Wk l Z n0 "com/example/tallykey/tallykey/HttpSyntaxIsTextPinLaw" "ok" method_3_code 5 (Option.some Jvm.ClassFile.FieldType.boolean) (⟨0, 0, 0, 0⟩ : Room) 0 0 (fun v h' => v = some (.int (1 : Int32)) ∧ h' = h) h 0 0 0 #[.val (.int (1 : Int32)), .val (.int (0 : Int32)), .val (.int (1 : Int32)), .val (.int z0), .unset] []
  refine Wk.iloadN (q := 1) d1_0 rfl rfl ?_
  refine Wk.iloadN (q := 2) d1_1 rfl rfl ?_
  refine Wk.icmpF (q := 5) d1_2 rfl (by decide : ¬ (1 : Int32) < (0 : Int32)) ?_
  refine Wk.iloadN (q := 6) d1_5 rfl rfl ?_
  refine Wk.iloadN (q := 7) d1_6 rfl rfl ?_
  refine Wk.icmpT (q := 14) d1_7 (by decide) rfl (by decide : ¬ (1 : Int32) < (1 : Int32)) ?_
  refine Wk.iconst (q := 15) (v := (0 : Int32)) d1_14 rfl rfl ?_
  refine Wk.istore (q := 17) (ls' := #[.val (.int (1 : Int32)), .val (.int (0 : Int32)), .val (.int (1 : Int32)), .val (.int z0), .val (.int (0 : Int32))]) d1_15 rfl rfl ?_
  refine Wk.iload (q := 19) d1_17 rfl rfl ?_
  refine Wk.ifcT (q := 29) d1_19 (by decide) rfl (by decide : (0 : Int32) = (0 : Int32)) ?_
  refine Wk.iconst (q := 30) (v := (1 : Int32)) d1_29 rfl rfl ?_
  refine Wk.goto (q := 34) d1_30 (by decide) rfl ?_
  exact Wk.retZ rfl rfl d1_34 (by decide) (by decide) ⟨rfl, rfl⟩
set_option maxRecDepth 65536 in
set_option maxHeartbeats 40000000 in
theorem m_8 {l : Launch} {Z : State} {a0 : Array Value} {n0 : Nat} {h : Heap}  {a_T : Addr} {c_T : Cell} (hw : ∀ d ∈ tables_1, d.before a0 Z = true) (F : OwnF Z h  a_T c_T) {a1 : Addr} {c1 : Cell} {b0 b1 b2 b3 : Int32} (A1 : Arr Z h a1 c1 .byte) (S1 : c1.slots.size = 4) (e_0 : c1.slots[0]? = some (Value.int b0)) (e_1 : c1.slots[1]? = some (Value.int b1)) (e_2 : c1.slots[2]? = some (Value.int b2)) (e_3 : c1.slots[3]? = some (Value.int b3)) (z0 : Int32) : Met l Z n0 (⟨"com/example/tallykey/tallykey/HttpSyntaxIsTextPinLaw", "ok", "(IIIB)Z"⟩ : MethodName) method_3_code 5 (Option.some Jvm.ClassFile.FieldType.boolean) (⟨0, 0, 0, 0⟩ : Room) #[(.int (2 : Int32)), (.int (0 : Int32)), (.int (1 : Int32)), (.int z0)] h (fun v h' => v = some (.int (1 : Int32)) ∧ h' = h) := by
  refine Met.of_wk (ls := #[.val (.int (2 : Int32)), .val (.int (0 : Int32)), .val (.int (1 : Int32)), .val (.int z0), .unset]) (plainFor_of_name pn_0) (fun m => ef_1 m (2 : Int32) (0 : Int32) (1 : Int32) z0) ?_
  show Wk l Z n0 "com/example/tallykey/tallykey/HttpSyntaxIsTextPinLaw" "ok" method_3_code 5 (Option.some Jvm.ClassFile.FieldType.boolean) (⟨0, 0, 0, 0⟩ : Room) 0 0 (fun v h' => v = some (.int (1 : Int32)) ∧ h' = h) h 0 0 0 #[.val (.int (2 : Int32)), .val (.int (0 : Int32)), .val (.int (1 : Int32)), .val (.int z0), .unset] []
  refine Wk.iloadN (q := 1) d1_0 rfl rfl ?_
  refine Wk.iloadN (q := 2) d1_1 rfl rfl ?_
  refine Wk.icmpF (q := 5) d1_2 rfl (by decide : ¬ (2 : Int32) < (0 : Int32)) ?_
  refine Wk.iloadN (q := 6) d1_5 rfl rfl ?_
  refine Wk.iloadN (q := 7) d1_6 rfl rfl ?_
  refine Wk.icmpT (q := 14) d1_7 (by decide) rfl (by decide : ¬ (2 : Int32) < (1 : Int32)) ?_
  refine Wk.iconst (q := 15) (v := (0 : Int32)) d1_14 rfl rfl ?_
  refine Wk.istore (q := 17) (ls' := #[.val (.int (2 : Int32)), .val (.int (0 : Int32)), .val (.int (1 : Int32)), .val (.int z0), .val (.int (0 : Int32))]) d1_15 rfl rfl ?_
  refine Wk.iload (q := 19) d1_17 rfl rfl ?_
  refine Wk.ifcT (q := 29) d1_19 (by decide) rfl (by decide : (0 : Int32) = (0 : Int32)) ?_
  refine Wk.iconst (q := 30) (v := (1 : Int32)) d1_29 rfl rfl ?_
  refine Wk.goto (q := 34) d1_30 (by decide) rfl ?_
  exact Wk.retZ rfl rfl d1_34 (by decide) (by decide) ⟨rfl, rfl⟩
set_option maxRecDepth 65536 in
set_option maxHeartbeats 40000000 in
theorem m_9 {l : Launch} {Z : State} {a0 : Array Value} {n0 : Nat} {h : Heap}  {a_T : Addr} {c_T : Cell} (hw : ∀ d ∈ tables_1, d.before a0 Z = true) (F : OwnF Z h  a_T c_T) {a1 : Addr} {c1 : Cell} {b0 b1 b2 b3 : Int32} (A1 : Arr Z h a1 c1 .byte) (S1 : c1.slots.size = 4) (e_0 : c1.slots[0]? = some (Value.int b0)) (e_1 : c1.slots[1]? = some (Value.int b1)) (e_2 : c1.slots[2]? = some (Value.int b2)) (e_3 : c1.slots[3]? = some (Value.int b3)) (z0 : Int32) : Met l Z n0 (⟨"com/example/tallykey/tallykey/HttpSyntaxIsTextPinLaw", "ok", "(IIIB)Z"⟩ : MethodName) method_3_code 5 (Option.some Jvm.ClassFile.FieldType.boolean) (⟨0, 0, 0, 0⟩ : Room) #[(.int (3 : Int32)), (.int (0 : Int32)), (.int (1 : Int32)), (.int z0)] h (fun v h' => v = some (.int (1 : Int32)) ∧ h' = h) := by
  refine Met.of_wk (ls := #[.val (.int (3 : Int32)), .val (.int (0 : Int32)), .val (.int (1 : Int32)), .val (.int z0), .unset]) (plainFor_of_name pn_0) (fun m => ef_1 m (3 : Int32) (0 : Int32) (1 : Int32) z0) ?_
  show Wk l Z n0 "com/example/tallykey/tallykey/HttpSyntaxIsTextPinLaw" "ok" method_3_code 5 (Option.some Jvm.ClassFile.FieldType.boolean) (⟨0, 0, 0, 0⟩ : Room) 0 0 (fun v h' => v = some (.int (1 : Int32)) ∧ h' = h) h 0 0 0 #[.val (.int (3 : Int32)), .val (.int (0 : Int32)), .val (.int (1 : Int32)), .val (.int z0), .unset] []
  refine Wk.iloadN (q := 1) d1_0 rfl rfl ?_
  refine Wk.iloadN (q := 2) d1_1 rfl rfl ?_
  refine Wk.icmpF (q := 5) d1_2 rfl (by decide : ¬ (3 : Int32) < (0 : Int32)) ?_
  refine Wk.iloadN (q := 6) d1_5 rfl rfl ?_
  refine Wk.iloadN (q := 7) d1_6 rfl rfl ?_
  refine Wk.icmpT (q := 14) d1_7 (by decide) rfl (by decide : ¬ (3 : Int32) < (1 : Int32)) ?_
  refine Wk.iconst (q := 15) (v := (0 : Int32)) d1_14 rfl rfl ?_
  refine Wk.istore (q := 17) (ls' := #[.val (.int (3 : Int32)), .val (.int (0 : Int32)), .val (.int (1 : Int32)), .val (.int z0), .val (.int (0 : Int32))]) d1_15 rfl rfl ?_
  refine Wk.iload (q := 19) d1_17 rfl rfl ?_
  refine Wk.ifcT (q := 29) d1_19 (by decide) rfl (by decide : (0 : Int32) = (0 : Int32)) ?_
  refine Wk.iconst (q := 30) (v := (1 : Int32)) d1_29 rfl rfl ?_
  refine Wk.goto (q := 34) d1_30 (by decide) rfl ?_
  exact Wk.retZ rfl rfl d1_34 (by decide) (by decide) ⟨rfl, rfl⟩
set_option maxRecDepth 65536 in
set_option maxHeartbeats 40000000 in
theorem m_10 {l : Launch} {Z : State} {a0 : Array Value} {n0 : Nat} {h : Heap}  {a_T : Addr} {c_T : Cell} (hw : ∀ d ∈ tables_1, d.before a0 Z = true) (F : OwnF Z h  a_T c_T) {a1 : Addr} {c1 : Cell} {b0 b1 b2 b3 : Int32} (A1 : Arr Z h a1 c1 .byte) (S1 : c1.slots.size = 4) (e_0 : c1.slots[0]? = some (Value.int b0)) (e_1 : c1.slots[1]? = some (Value.int b1)) (e_2 : c1.slots[2]? = some (Value.int b2)) (e_3 : c1.slots[3]? = some (Value.int b3)) (z0 : Int32) : Met l Z n0 (⟨"com/example/tallykey/tallykey/HttpSyntaxIsTextPinLaw", "ok", "(IIIB)Z"⟩ : MethodName) method_3_code 5 (Option.some Jvm.ClassFile.FieldType.boolean) (⟨1, 0, 0, 13⟩ : Room) #[(.int (0 : Int32)), (.int (0 : Int32)), (.int (2 : Int32)), (.int z0)] h (fun v h' => (∃ w, v = some w ∧ ((((tabN (z0 &&& (255 : Int32)).toNatClampNeg) = (0 : Int32)) ∧ w = (.int (0 : Int32))) ∨ ((¬ (tabN (z0 &&& (255 : Int32)).toNatClampNeg) = (0 : Int32)) ∧ w = (.int (1 : Int32))))) ∧ h' = h) := by
  refine Met.of_wk (ls := #[.val (.int (0 : Int32)), .val (.int (0 : Int32)), .val (.int (2 : Int32)), .val (.int z0), .unset]) (plainFor_of_name pn_0) (fun m => ef_1 m (0 : Int32) (0 : Int32) (2 : Int32) z0) ?_
  show Wk l Z n0 "com/example/tallykey/tallykey/HttpSyntaxIsTextPinLaw" "ok" method_3_code 5 (Option.some Jvm.ClassFile.FieldType.boolean) (⟨1, 0, 0, 13⟩ : Room) 0 0 (fun v h' => (∃ w, v = some w ∧ ((((tabN (z0 &&& (255 : Int32)).toNatClampNeg) = (0 : Int32)) ∧ w = (.int (0 : Int32))) ∨ ((¬ (tabN (z0 &&& (255 : Int32)).toNatClampNeg) = (0 : Int32)) ∧ w = (.int (1 : Int32))))) ∧ h' = h) h 0 0 0 #[.val (.int (0 : Int32)), .val (.int (0 : Int32)), .val (.int (2 : Int32)), .val (.int z0), .unset] []
  refine Wk.iloadN (q := 1) d1_0 rfl rfl ?_
  refine Wk.iloadN (q := 2) d1_1 rfl rfl ?_
  refine Wk.icmpF (q := 5) d1_2 rfl (by decide : ¬ (0 : Int32) < (0 : Int32)) ?_
  refine Wk.iloadN (q := 6) d1_5 rfl rfl ?_
  refine Wk.iloadN (q := 7) d1_6 rfl rfl ?_
  refine Wk.icmpF (q := 10) d1_7 rfl (by decide : (0 : Int32) < (2 : Int32)) ?_
  refine Wk.iconst (q := 11) (v := (1 : Int32)) d1_10 rfl rfl ?_
  refine Wk.goto (q := 15) d1_11 (by decide) rfl ?_
  refine Wk.istore (q := 17) (ls' := #[.val (.int (0 : Int32)), .val (.int (0 : Int32)), .val (.int (2 : Int32)), .val (.int z0), .val (.int (1 : Int32))]) d1_15 rfl rfl ?_
  refine Wk.iload (q := 19) d1_17 rfl rfl ?_
  refine Wk.ifcF (q := 22) d1_19 rfl (by decide : ¬ (1 : Int32) = (0 : Int32)) ?_
  refine Wk.iloadN (q := 23) d1_22 rfl rfl ?_
  refine Wk.callS1 (q := 26) (argsL := [(.int z0)]) (rest := []) (fr := 0) (lo := 0) (v0 := (.int (tabN (z0 &&& (255 : Int32)).toNatClampNeg))) (m_cls hw F z0) (w_6 hw) (w_7 hw) (w_4 hw) (w_8 hw) (by decide) pd_2 rfl rfl rfl d1_23 rfl (W := 0) rfl (by decide) (by decide) (by decide) (by decide) ?_
  refine Wk.ifc (q := 33) (q' := 29) d1_26 (by decide) rfl rfl (fun (h1 : (tabN (z0 &&& (255 : Int32)).toNatClampNeg) = (0 : Int32)) => ?_) (fun (h1 : ¬ (tabN (z0 &&& (255 : Int32)).toNatClampNeg) = (0 : Int32)) => ?_)
  · refine Wk.iconst (q := 34) (v := (0 : Int32)) d1_33 rfl rfl ?_
    exact Wk.retZ rfl rfl d1_34 (by decide) (by decide) ⟨⟨_, rfl, Or.inl ⟨h1, rfl⟩⟩, rfl⟩
  · refine Wk.iconst (q := 30) (v := (1 : Int32)) d1_29 rfl rfl ?_
    refine Wk.goto (q := 34) d1_30 (by decide) rfl ?_
    exact Wk.retZ rfl rfl d1_34 (by decide) (by decide) ⟨⟨_, rfl, Or.inr (⟨h1, rfl⟩)⟩, rfl⟩
set_option maxRecDepth 65536 in
set_option maxHeartbeats 40000000 in
theorem m_11 {l : Launch} {Z : State} {a0 : Array Value} {n0 : Nat} {h : Heap}  {a_T : Addr} {c_T : Cell} (hw : ∀ d ∈ tables_1, d.before a0 Z = true) (F : OwnF Z h  a_T c_T) {a1 : Addr} {c1 : Cell} {b0 b1 b2 b3 : Int32} (A1 : Arr Z h a1 c1 .byte) (S1 : c1.slots.size = 4) (e_0 : c1.slots[0]? = some (Value.int b0)) (e_1 : c1.slots[1]? = some (Value.int b1)) (e_2 : c1.slots[2]? = some (Value.int b2)) (e_3 : c1.slots[3]? = some (Value.int b3)) : Met l Z n0 (⟨"com/example/tallykey/tallykey/HttpSyntax", "isText", "([BII)Z"⟩ : MethodName) prog_5_method_5_code 4 (Option.some Jvm.ClassFile.FieldType.boolean) (⟨0, 0, 0, 0⟩ : Room) #[(.ref a1), (.int (0 : Int32)), (.int (2 : Int32))] h (fun v h' => (∃ w, v = some w ∧ (((¬ (tabN (b0 &&& (255 : Int32)).toNatClampNeg) = (0 : Int32)) ∧ (¬ (tabN (b1 &&& (255 : Int32)).toNatClampNeg) = (0 : Int32)) ∧ w = (.int (1 : Int32))) ∨ ((¬ (tabN (b0 &&& (255 : Int32)).toNatClampNeg) = (0 : Int32)) ∧ ((tabN (b1 &&& (255 : Int32)).toNatClampNeg) = (0 : Int32)) ∧ w = (.int (0 : Int32))) ∨ (((tabN (b0 &&& (255 : Int32)).toNatClampNeg) = (0 : Int32)) ∧ w = (.int (0 : Int32))))) ∧ h' = h) := by
  refine Met.of_wk (ls := #[.val (.ref a1), .val (.int (0 : Int32)), .val (.int (2 : Int32)), .unset]) (plainFor_of_name pn_1) (fun m => ef_2 m a1 (0 : Int32) (2 : Int32)) ?_
  show Wk l Z n0 "com/example/tallykey/tallykey/HttpSyntax" "isText" prog_5_method_5_code 4 (Option.some Jvm.ClassFile.FieldType.boolean) (⟨0, 0, 0, 0⟩ : Room) 0 0 (fun v h' => (∃ w, v = some w ∧ (((¬ (tabN (b0 &&& (255 : Int32)).toNatClampNeg) = (0 : Int32)) ∧ (¬ (tabN (b1 &&& (255 : Int32)).toNatClampNeg) = (0 : Int32)) ∧ w = (.int (1 : Int32))) ∨ ((¬ (tabN (b0 &&& (255 : Int32)).toNatClampNeg) = (0 : Int32)) ∧ ((tabN (b1 &&& (255 : Int32)).toNatClampNeg) = (0 : Int32)) ∧ w = (.int (0 : Int32))) ∨ (((tabN (b0 &&& (255 : Int32)).toNatClampNeg) = (0 : Int32)) ∧ w = (.int (0 : Int32))))) ∧ h' = h) h 0 0 0 #[.val (.ref a1), .val (.int (0 : Int32)), .val (.int (2 : Int32)), .unset] []
  refine Wk.iloadN (q := 1) d3_0 rfl rfl ?_
  refine Wk.istoreN (q := 2) (ls' := #[.val (.ref a1), .val (.int (0 : Int32)), .val (.int (2 : Int32)), .val (.int (0 : Int32))]) d3_1 rfl rfl ?_
  refine Wk.iloadN (q := 3) d3_2 rfl rfl ?_
  refine Wk.iloadN (q := 4) d3_3 rfl rfl ?_
  refine Wk.icmpF (q := 7) d3_4 rfl (by decide : (0 : Int32) < (2 : Int32)) ?_
  refine Wk.getS (q := 10) (w_13 hw) Via.refl F.s_T d3_7 rfl ?_
  refine Wk.aloadN (q := 11) d3_10 rfl rfl rfl ?_
  refine Wk.iloadN (q := 12) d3_11 rfl rfl ?_
  refine Wk.baloadB (q := 13) A1 (by rw [S1]; decide) e_0 d3_12 rfl ?_
  refine Wk.sipush (q := 16) (v := (255 : Int32)) d3_13 rfl rfl ?_
  refine Wk.iand (q := 17) (v := (b0 &&& (255 : Int32))) d3_16 rfl rfl ?_
  refine Wk.baloadZ (q := 18) F.r_T (by rw [F.z_T]; exact own_in (own_255 b0).1 (by have := (own_255 b0).2; omega)) (F.t_T _ (by have := own_clamp (own_255 b0).1; have := (own_255 b0).2; omega)) d3_17 rfl ?_
  refine Wk.ifc (q := 23) (q' := 21) d3_18 (by decide) rfl rfl (fun (h1 : ¬ (tabN (b0 &&& (255 : Int32)).toNatClampNeg) = (0 : Int32)) => ?_) (fun (h1 : (tabN (b0 &&& (255 : Int32)).toNatClampNeg) = (0 : Int32)) => ?_)
  · refine Wk.iinc (q := 26) (v := (1 : Int32)) (ls' := #[.val (.ref a1), .val (.int (0 : Int32)), .val (.int (2 : Int32)), .val (.int (1 : Int32))]) d3_23 rfl rfl (by decide) rfl ?_
    refine Wk.goto (q := 2) d3_26 (by decide) rfl ?_
    refine Wk.iloadN (q := 3) d3_2 rfl rfl ?_
    refine Wk.iloadN (q := 4) d3_3 rfl rfl ?_
    refine Wk.icmpF (q := 7) d3_4 rfl (by decide : (1 : Int32) < (2 : Int32)) ?_
    refine Wk.getS (q := 10) (w_13 hw) Via.refl F.s_T d3_7 rfl ?_
    refine Wk.aloadN (q := 11) d3_10 rfl rfl rfl ?_
    refine Wk.iloadN (q := 12) d3_11 rfl rfl ?_
    refine Wk.baloadB (q := 13) A1 (by rw [S1]; decide) e_1 d3_12 rfl ?_
    refine Wk.sipush (q := 16) (v := (255 : Int32)) d3_13 rfl rfl ?_
    refine Wk.iand (q := 17) (v := (b1 &&& (255 : Int32))) d3_16 rfl rfl ?_
    refine Wk.baloadZ (q := 18) F.r_T (by rw [F.z_T]; exact own_in (own_255 b1).1 (by have := (own_255 b1).2; omega)) (F.t_T _ (by have := own_clamp (own_255 b1).1; have := (own_255 b1).2; omega)) d3_17 rfl ?_
    refine Wk.ifc (q := 23) (q' := 21) d3_18 (by decide) rfl rfl (fun (h2 : ¬ (tabN (b1 &&& (255 : Int32)).toNatClampNeg) = (0 : Int32)) => ?_) (fun (h2 : (tabN (b1 &&& (255 : Int32)).toNatClampNeg) = (0 : Int32)) => ?_)
    · refine Wk.iinc (q := 26) (v := (2 : Int32)) (ls' := #[.val (.ref a1), .val (.int (0 : Int32)), .val (.int (2 : Int32)), .val (.int (2 : Int32))]) d3_23 rfl rfl (by decide) rfl ?_
      refine Wk.goto (q := 2) d3_26 (by decide) rfl ?_
      refine Wk.iloadN (q := 3) d3_2 rfl rfl ?_
      refine Wk.iloadN (q := 4) d3_3 rfl rfl ?_
      refine Wk.icmpT (q := 29) d3_4 (by decide) rfl (by decide : ¬ (2 : Int32) < (2 : Int32)) ?_
      refine Wk.iconst (q := 30) (v := (1 : Int32)) d3_29 rfl rfl ?_
      exact Wk.retZ rfl rfl d3_30 (by decide) (by decide) ⟨⟨_, rfl, Or.inl ⟨h1, h2, rfl⟩⟩, rfl⟩
    · refine Wk.iconst (q := 22) (v := (0 : Int32)) d3_21 rfl rfl ?_
      exact Wk.retZ rfl rfl d3_22 (by decide) (by decide) ⟨⟨_, rfl, Or.inr (Or.inl ⟨h1, h2, rfl⟩)⟩, rfl⟩
  · refine Wk.iconst (q := 22) (v := (0 : Int32)) d3_21 rfl rfl ?_
    exact Wk.retZ rfl rfl d3_22 (by decide) (by decide) ⟨⟨_, rfl, Or.inr (Or.inr (⟨h1, rfl⟩))⟩, rfl⟩
set_option maxRecDepth 65536 in
set_option maxHeartbeats 40000000 in
theorem m_12 {l : Launch} {Z : State} {a0 : Array Value} {n0 : Nat} {h : Heap}  {a_T : Addr} {c_T : Cell} (hw : ∀ d ∈ tables_1, d.before a0 Z = true) (F : OwnF Z h  a_T c_T) {a1 : Addr} {c1 : Cell} {b0 b1 b2 b3 : Int32} (A1 : Arr Z h a1 c1 .byte) (S1 : c1.slots.size = 4) (e_0 : c1.slots[0]? = some (Value.int b0)) (e_1 : c1.slots[1]? = some (Value.int b1)) (e_2 : c1.slots[2]? = some (Value.int b2)) (e_3 : c1.slots[3]? = some (Value.int b3)) (z0 : Int32) : Met l Z n0 (⟨"com/example/tallykey/tallykey/HttpSyntaxIsTextPinLaw", "ok", "(IIIB)Z"⟩ : MethodName) method_3_code 5 (Option.some Jvm.ClassFile.FieldType.boolean) (⟨1, 0, 0, 13⟩ : Room) #[(.int (1 : Int32)), (.int (0 : Int32)), (.int (2 : Int32)), (.int z0)] h (fun v h' => (∃ w, v = some w ∧ ((((tabN (z0 &&& (255 : Int32)).toNatClampNeg) = (0 : Int32)) ∧ w = (.int (0 : Int32))) ∨ ((¬ (tabN (z0 &&& (255 : Int32)).toNatClampNeg) = (0 : Int32)) ∧ w = (.int (1 : Int32))))) ∧ h' = h) := by
  refine Met.of_wk (ls := #[.val (.int (1 : Int32)), .val (.int (0 : Int32)), .val (.int (2 : Int32)), .val (.int z0), .unset]) (plainFor_of_name pn_0) (fun m => ef_1 m (1 : Int32) (0 : Int32) (2 : Int32) z0) ?_
  show Wk l Z n0 "com/example/tallykey/tallykey/HttpSyntaxIsTextPinLaw" "ok" method_3_code 5 (Option.some Jvm.ClassFile.FieldType.boolean) (⟨1, 0, 0, 13⟩ : Room) 0 0 (fun v h' => (∃ w, v = some w ∧ ((((tabN (z0 &&& (255 : Int32)).toNatClampNeg) = (0 : Int32)) ∧ w = (.int (0 : Int32))) ∨ ((¬ (tabN (z0 &&& (255 : Int32)).toNatClampNeg) = (0 : Int32)) ∧ w = (.int (1 : Int32))))) ∧ h' = h) h 0 0 0 #[.val (.int (1 : Int32)), .val (.int (0 : Int32)), .val (.int (2 : Int32)), .val (.int z0), .unset] []
  refine Wk.iloadN (q := 1) d1_0 rfl rfl ?_
  refine Wk.iloadN (q := 2) d1_1 rfl rfl ?_
  refine Wk.icmpF (q := 5) d1_2 rfl (by decide : ¬ (1 : Int32) < (0 : Int32)) ?_
  refine Wk.iloadN (q := 6) d1_5 rfl rfl ?_
  refine Wk.iloadN (q := 7) d1_6 rfl rfl ?_
  refine Wk.icmpF (q := 10) d1_7 rfl (by decide : (1 : Int32) < (2 : Int32)) ?_
  refine Wk.iconst (q := 11) (v := (1 : Int32)) d1_10 rfl rfl ?_
  refine Wk.goto (q := 15) d1_11 (by decide) rfl ?_
  refine Wk.istore (q := 17) (ls' := #[.val (.int (1 : Int32)), .val (.int (0 : Int32)), .val (.int (2 : Int32)), .val (.int z0), .val (.int (1 : Int32))]) d1_15 rfl rfl ?_
  refine Wk.iload (q := 19) d1_17 rfl rfl ?_
  refine Wk.ifcF (q := 22) d1_19 rfl (by decide : ¬ (1 : Int32) = (0 : Int32)) ?_
  refine Wk.iloadN (q := 23) d1_22 rfl rfl ?_
  refine Wk.callS1 (q := 26) (argsL := [(.int z0)]) (rest := []) (fr := 0) (lo := 0) (v0 := (.int (tabN (z0 &&& (255 : Int32)).toNatClampNeg))) (m_cls hw F z0) (w_6 hw) (w_7 hw) (w_4 hw) (w_8 hw) (by decide) pd_2 rfl rfl rfl d1_23 rfl (W := 0) rfl (by decide) (by decide) (by decide) (by decide) ?_
  refine Wk.ifc (q := 33) (q' := 29) d1_26 (by decide) rfl rfl (fun (h1 : (tabN (z0 &&& (255 : Int32)).toNatClampNeg) = (0 : Int32)) => ?_) (fun (h1 : ¬ (tabN (z0 &&& (255 : Int32)).toNatClampNeg) = (0 : Int32)) => ?_)
  · refine Wk.iconst (q := 34) (v := (0 : Int32)) d1_33 rfl rfl ?_
    exact Wk.retZ rfl rfl d1_34 (by decide) (by decide) ⟨⟨_, rfl, Or.inl ⟨h1, rfl⟩⟩, rfl⟩
  · refine Wk.iconst (q := 30) (v := (1 : Int32)) d1_29 rfl rfl ?_
    refine Wk.goto (q := 34) d1_30 (by decide) rfl ?_
    exact Wk.retZ rfl rfl d1_34 (by decide) (by decide) ⟨⟨_, rfl, Or.inr (⟨h1, rfl⟩)⟩, rfl⟩
set_option maxRecDepth 65536 in
set_option maxHeartbeats 40000000 in
theorem m_13 {l : Launch} {Z : State} {a0 : Array Value} {n0 : Nat} {h : Heap}  {a_T : Addr} {c_T : Cell} (hw : ∀ d ∈ tables_1, d.before a0 Z = true) (F : OwnF Z h  a_T c_T) {a1 : Addr} {c1 : Cell} {b0 b1 b2 b3 : Int32} (A1 : Arr Z h a1 c1 .byte) (S1 : c1.slots.size = 4) (e_0 : c1.slots[0]? = some (Value.int b0)) (e_1 : c1.slots[1]? = some (Value.int b1)) (e_2 : c1.slots[2]? = some (Value.int b2)) (e_3 : c1.slots[3]? = some (Value.int b3)) (z0 : Int32) : Met l Z n0 (⟨"com/example/tallykey/tallykey/HttpSyntaxIsTextPinLaw", "ok", "(IIIB)Z"⟩ : MethodName) method_3_code 5 (Option.some Jvm.ClassFile.FieldType.boolean) (⟨0, 0, 0, 0⟩ : Room) #[(.int (2 : Int32)), (.int (0 : Int32)), (.int (2 : Int32)), (.int z0)] h (fun v h' => v = some (.int (1 : Int32)) ∧ h' = h) := by
  refine Met.of_wk (ls := #[.val (.int (2 : Int32)), .val (.int (0 : Int32)), .val (.int (2 : Int32)), .val (.int z0), .unset]) (plainFor_of_name pn_0) (fun m => ef_1 m (2 : Int32) (0 : Int32) (2 : Int32) z0) ?_
  show Wk l Z n0 "com/example/tallykey/tallykey/HttpSyntaxIsTextPinLaw" "ok" method_3_code 5 (Option.some Jvm.ClassFile.FieldType.boolean) (⟨0, 0, 0, 0⟩ : Room) 0 0 (fun v h' => v = some (.int (1 : Int32)) ∧ h' = h) h 0 0 0 #[.val (.int (2 : Int32)), .val (.int (0 : Int32)), .val (.int (2 : Int32)), .val (.int z0), .unset] []
  refine Wk.iloadN (q := 1) d1_0 rfl rfl ?_
  refine Wk.iloadN (q := 2) d1_1 rfl rfl ?_
  refine Wk.icmpF (q := 5) d1_2 rfl (by decide : ¬ (2 : Int32) < (0 : Int32)) ?_
  refine Wk.iloadN (q := 6) d1_5 rfl rfl ?_
  refine Wk.iloadN (q := 7) d1_6 rfl rfl ?_
  refine Wk.icmpT (q := 14) d1_7 (by decide) rfl (by decide : ¬ (2 : Int32) < (2 : Int32)) ?_
  refine Wk.iconst (q := 15) (v := (0 : Int32)) d1_14 rfl rfl ?_
  refine Wk.istore (q := 17) (ls' := #[.val (.int (2 : Int32)), .val (.int (0 : Int32)), .val (.int (2 : Int32)), .val (.int z0), .val (.int (0 : Int32))]) d1_15 rfl rfl ?_
  refine Wk.iload (q := 19) d1_17 rfl rfl ?_
  refine Wk.ifcT (q := 29) d1_19 (by decide) rfl (by decide : (0 : Int32) = (0 : Int32)) ?_
  refine Wk.iconst (q := 30) (v := (1 : Int32)) d1_29 rfl rfl ?_
  refine Wk.goto (q := 34) d1_30 (by decide) rfl ?_
  exact Wk.retZ rfl rfl d1_34 (by decide) (by decide) ⟨rfl, rfl⟩
set_option maxRecDepth 65536 in
set_option maxHeartbeats 40000000 in
theorem m_14 {l : Launch} {Z : State} {a0 : Array Value} {n0 : Nat} {h : Heap}  {a_T : Addr} {c_T : Cell} (hw : ∀ d ∈ tables_1, d.before a0 Z = true) (F : OwnF Z h  a_T c_T) {a1 : Addr} {c1 : Cell} {b0 b1 b2 b3 : Int32} (A1 : Arr Z h a1 c1 .byte) (S1 : c1.slots.size = 4) (e_0 : c1.slots[0]? = some (Value.int b0)) (e_1 : c1.slots[1]? = some (Value.int b1)) (e_2 : c1.slots[2]? = some (Value.int b2)) (e_3 : c1.slots[3]? = some (Value.int b3)) (z0 : Int32) : Met l Z n0 (⟨"com/example/tallykey/tallykey/HttpSyntaxIsTextPinLaw", "ok", "(IIIB)Z"⟩ : MethodName) method_3_code 5 (Option.some Jvm.ClassFile.FieldType.boolean) (⟨0, 0, 0, 0⟩ : Room) #[(.int (3 : Int32)), (.int (0 : Int32)), (.int (2 : Int32)), (.int z0)] h (fun v h' => v = some (.int (1 : Int32)) ∧ h' = h) := by
  refine Met.of_wk (ls := #[.val (.int (3 : Int32)), .val (.int (0 : Int32)), .val (.int (2 : Int32)), .val (.int z0), .unset]) (plainFor_of_name pn_0) (fun m => ef_1 m (3 : Int32) (0 : Int32) (2 : Int32) z0) ?_
  show Wk l Z n0 "com/example/tallykey/tallykey/HttpSyntaxIsTextPinLaw" "ok" method_3_code 5 (Option.some Jvm.ClassFile.FieldType.boolean) (⟨0, 0, 0, 0⟩ : Room) 0 0 (fun v h' => v = some (.int (1 : Int32)) ∧ h' = h) h 0 0 0 #[.val (.int (3 : Int32)), .val (.int (0 : Int32)), .val (.int (2 : Int32)), .val (.int z0), .unset] []
  refine Wk.iloadN (q := 1) d1_0 rfl rfl ?_
  refine Wk.iloadN (q := 2) d1_1 rfl rfl ?_
  refine Wk.icmpF (q := 5) d1_2 rfl (by decide : ¬ (3 : Int32) < (0 : Int32)) ?_
  refine Wk.iloadN (q := 6) d1_5 rfl rfl ?_
  refine Wk.iloadN (q := 7) d1_6 rfl rfl ?_
  refine Wk.icmpT (q := 14) d1_7 (by decide) rfl (by decide : ¬ (3 : Int32) < (2 : Int32)) ?_
  refine Wk.iconst (q := 15) (v := (0 : Int32)) d1_14 rfl rfl ?_
  refine Wk.istore (q := 17) (ls' := #[.val (.int (3 : Int32)), .val (.int (0 : Int32)), .val (.int (2 : Int32)), .val (.int z0), .val (.int (0 : Int32))]) d1_15 rfl rfl ?_
  refine Wk.iload (q := 19) d1_17 rfl rfl ?_
  refine Wk.ifcT (q := 29) d1_19 (by decide) rfl (by decide : (0 : Int32) = (0 : Int32)) ?_
  refine Wk.iconst (q := 30) (v := (1 : Int32)) d1_29 rfl rfl ?_
  refine Wk.goto (q := 34) d1_30 (by decide) rfl ?_
  exact Wk.retZ rfl rfl d1_34 (by decide) (by decide) ⟨rfl, rfl⟩
set_option maxRecDepth 65536 in
set_option maxHeartbeats 40000000 in
theorem m_15 {l : Launch} {Z : State} {a0 : Array Value} {n0 : Nat} {h : Heap}  {a_T : Addr} {c_T : Cell} (hw : ∀ d ∈ tables_1, d.before a0 Z = true) (F : OwnF Z h  a_T c_T) {a1 : Addr} {c1 : Cell} {b0 b1 b2 b3 : Int32} (A1 : Arr Z h a1 c1 .byte) (S1 : c1.slots.size = 4) (e_0 : c1.slots[0]? = some (Value.int b0)) (e_1 : c1.slots[1]? = some (Value.int b1)) (e_2 : c1.slots[2]? = some (Value.int b2)) (e_3 : c1.slots[3]? = some (Value.int b3)) (z0 : Int32) : Met l Z n0 (⟨"com/example/tallykey/tallykey/HttpSyntaxIsTextPinLaw", "ok", "(IIIB)Z"⟩ : MethodName) method_3_code 5 (Option.some Jvm.ClassFile.FieldType.boolean) (⟨1, 0, 0, 13⟩ : Room) #[(.int (0 : Int32)), (.int (0 : Int32)), (.int (3 : Int32)), (.int z0)] h (fun v h' => (∃ w, v = some w ∧ ((((tabN (z0 &&& (255 : Int32)).toNatClampNeg) = (0 : Int32)) ∧ w = (.int (0 : Int32))) ∨ ((¬ (tabN (z0 &&& (255 : Int32)).toNatClampNeg) = (0 : Int32)) ∧ w = (.int (1 : Int32))))) ∧ h' = h) := by
  refine Met.of_wk (ls := #[.val (.int (0 : Int32)), .val (.int (0 : Int32)), .val (.int (3 : Int32)), .val (.int z0), .unset]) (plainFor_of_name pn_0) (fun m => ef_1 m (0 : Int32) (0 : Int32) (3 : Int32) z0) ?_
  show Wk l Z n0 "com/example/tallykey/tallykey/HttpSyntaxIsTextPinLaw" "ok" method_3_code 5 (Option.some Jvm.ClassFile.FieldType.boolean) (⟨1, 0, 0, 13⟩ : Room) 0 0 (fun v h' => (∃ w, v = some w ∧ ((((tabN (z0 &&& (255 : Int32)).toNatClampNeg) = (0 : Int32)) ∧ w = (.int (0 : Int32))) ∨ ((¬ (tabN (z0 &&& (255 : Int32)).toNatClampNeg) = (0 : Int32)) ∧ w = (.int (1 : Int32))))) ∧ h' = h) h 0 0 0 #[.val (.int (0 : Int32)), .val (.int (0 : Int32)), .val (.int (3 : Int32)), .val (.int z0), .unset] []
  refine Wk.iloadN (q := 1) d1_0 rfl rfl ?_
  refine Wk.iloadN (q := 2) d1_1 rfl rfl ?_
  refine Wk.icmpF (q := 5) d1_2 rfl (by decide : ¬ (0 : Int32) < (0 : Int32)) ?_
  refine Wk.iloadN (q := 6) d1_5 rfl rfl ?_
  refine Wk.iloadN (q := 7) d1_6 rfl rfl ?_
  refine Wk.icmpF (q := 10) d1_7 rfl (by decide : (0 : Int32) < (3 : Int32)) ?_
  refine Wk.iconst (q := 11) (v := (1 : Int32)) d1_10 rfl rfl ?_
  refine Wk.goto (q := 15) d1_11 (by decide) rfl ?_
  refine Wk.istore (q := 17) (ls' := #[.val (.int (0 : Int32)), .val (.int (0 : Int32)), .val (.int (3 : Int32)), .val (.int z0), .val (.int (1 : Int32))]) d1_15 rfl rfl ?_
  refine Wk.iload (q := 19) d1_17 rfl rfl ?_
  refine Wk.ifcF (q := 22) d1_19 rfl (by decide : ¬ (1 : Int32) = (0 : Int32)) ?_
  refine Wk.iloadN (q := 23) d1_22 rfl rfl ?_
  refine Wk.callS1 (q := 26) (argsL := [(.int z0)]) (rest := []) (fr := 0) (lo := 0) (v0 := (.int (tabN (z0 &&& (255 : Int32)).toNatClampNeg))) (m_cls hw F z0) (w_6 hw) (w_7 hw) (w_4 hw) (w_8 hw) (by decide) pd_2 rfl rfl rfl d1_23 rfl (W := 0) rfl (by decide) (by decide) (by decide) (by decide) ?_
  refine Wk.ifc (q := 33) (q' := 29) d1_26 (by decide) rfl rfl (fun (h1 : (tabN (z0 &&& (255 : Int32)).toNatClampNeg) = (0 : Int32)) => ?_) (fun (h1 : ¬ (tabN (z0 &&& (255 : Int32)).toNatClampNeg) = (0 : Int32)) => ?_)
  · refine Wk.iconst (q := 34) (v := (0 : Int32)) d1_33 rfl rfl ?_
    exact Wk.retZ rfl rfl d1_34 (by decide) (by decide) ⟨⟨_, rfl, Or.inl ⟨h1, rfl⟩⟩, rfl⟩
  · refine Wk.iconst (q := 30) (v := (1 : Int32)) d1_29 rfl rfl ?_
    refine Wk.goto (q := 34) d1_30 (by decide) rfl ?_
    exact Wk.retZ rfl rfl d1_34 (by decide) (by decide) ⟨⟨_, rfl, Or.inr (⟨h1, rfl⟩)⟩, rfl⟩
set_option maxRecDepth 65536 in
set_option maxHeartbeats 40000000 in
theorem m_16 {l : Launch} {Z : State} {a0 : Array Value} {n0 : Nat} {h : Heap}  {a_T : Addr} {c_T : Cell} (hw : ∀ d ∈ tables_1, d.before a0 Z = true) (F : OwnF Z h  a_T c_T) {a1 : Addr} {c1 : Cell} {b0 b1 b2 b3 : Int32} (A1 : Arr Z h a1 c1 .byte) (S1 : c1.slots.size = 4) (e_0 : c1.slots[0]? = some (Value.int b0)) (e_1 : c1.slots[1]? = some (Value.int b1)) (e_2 : c1.slots[2]? = some (Value.int b2)) (e_3 : c1.slots[3]? = some (Value.int b3)) : Met l Z n0 (⟨"com/example/tallykey/tallykey/HttpSyntax", "isText", "([BII)Z"⟩ : MethodName) prog_5_method_5_code 4 (Option.some Jvm.ClassFile.FieldType.boolean) (⟨0, 0, 0, 0⟩ : Room) #[(.ref a1), (.int (0 : Int32)), (.int (3 : Int32))] h (fun v h' => (∃ w, v = some w ∧ (((¬ (tabN (b0 &&& (255 : Int32)).toNatClampNeg) = (0 : Int32)) ∧ (¬ (tabN (b1 &&& (255 : Int32)).toNatClampNeg) = (0 : Int32)) ∧ (¬ (tabN (b2 &&& (255 : Int32)).toNatClampNeg) = (0 : Int32)) ∧ w = (.int (1 : Int32))) ∨ ((¬ (tabN (b0 &&& (255 : Int32)).toNatClampNeg) = (0 : Int32)) ∧ (¬ (tabN (b1 &&& (255 : Int32)).toNatClampNeg) = (0 : Int32)) ∧ ((tabN (b2 &&& (255 : Int32)).toNatClampNeg) = (0 : Int32)) ∧ w = (.int (0 : Int32))) ∨ ((¬ (tabN (b0 &&& (255 : Int32)).toNatClampNeg) = (0 : Int32)) ∧ ((tabN (b1 &&& (255 : Int32)).toNatClampNeg) = (0 : Int32)) ∧ w = (.int (0 : Int32))) ∨ (((tabN (b0 &&& (255 : Int32)).toNatClampNeg) = (0 : Int32)) ∧ w = (.int (0 : Int32))))) ∧ h' = h) := by
  refine Met.of_wk (ls := #[.val (.ref a1), .val (.int (0 : Int32)), .val (.int (3 : Int32)), .unset]) (plainFor_of_name pn_1) (fun m => ef_2 m a1 (0 : Int32) (3 : Int32)) ?_
  show Wk l Z n0 "com/example/tallykey/tallykey/HttpSyntax" "isText" prog_5_method_5_code 4 (Option.some Jvm.ClassFile.FieldType.boolean) (⟨0, 0, 0, 0⟩ : Room) 0 0 (fun v h' => (∃ w, v = some w ∧ (((¬ (tabN (b0 &&& (255 : Int32)).toNatClampNeg) = (0 : Int32)) ∧ (¬ (tabN (b1 &&& (255 : Int32)).toNatClampNeg) = (0 : Int32)) ∧ (¬ (tabN (b2 &&& (255 : Int32)).toNatClampNeg) = (0 : Int32)) ∧ w = (.int (1 : Int32))) ∨ ((¬ (tabN (b0 &&& (255 : Int32)).toNatClampNeg) = (0 : Int32)) ∧ (¬ (tabN (b1 &&& (255 : Int32)).toNatClampNeg) = (0 : Int32)) ∧ ((tabN (b2 &&& (255 : Int32)).toNatClampNeg) = (0 : Int32)) ∧ w = (.int (0 : Int32))) ∨ ((¬ (tabN (b0 &&& (255 : Int32)).toNatClampNeg) = (0 : Int32)) ∧ ((tabN (b1 &&& (255 : Int32)).toNatClampNeg) = (0 : Int32)) ∧ w = (.int (0 : Int32))) ∨ (((tabN (b0 &&& (255 : Int32)).toNatClampNeg) = (0 : Int32)) ∧ w = (.int (0 : Int32))))) ∧ h' = h) h 0 0 0 #[.val (.ref a1), .val (.int (0 : Int32)), .val (.int (3 : Int32)), .unset] []
  refine Wk.iloadN (q := 1) d3_0 rfl rfl ?_
  refine Wk.istoreN (q := 2) (ls' := #[.val (.ref a1), .val (.int (0 : Int32)), .val (.int (3 : Int32)), .val (.int (0 : Int32))]) d3_1 rfl rfl ?_
  refine Wk.iloadN (q := 3) d3_2 rfl rfl ?_
  refine Wk.iloadN (q := 4) d3_3 rfl rfl ?_
  refine Wk.icmpF (q := 7) d3_4 rfl (by decide : (0 : Int32) < (3 : Int32)) ?_
  refine Wk.getS (q := 10) (w_13 hw) Via.refl F.s_T d3_7 rfl ?_
  refine Wk.aloadN (q := 11) d3_10 rfl rfl rfl ?_
  refine Wk.iloadN (q := 12) d3_11 rfl rfl ?_
  refine Wk.baloadB (q := 13) A1 (by rw [S1]; decide) e_0 d3_12 rfl ?_
  refine Wk.sipush (q := 16) (v := (255 : Int32)) d3_13 rfl rfl ?_
  refine Wk.iand (q := 17) (v := (b0 &&& (255 : Int32))) d3_16 rfl rfl ?_
  refine Wk.baloadZ (q := 18) F.r_T (by rw [F.z_T]; exact own_in (own_255 b0).1 (by have := (own_255 b0).2; omega)) (F.t_T _ (by have := own_clamp (own_255 b0).1; have := (own_255 b0).2; omega)) d3_17 rfl ?_
  refine Wk.ifc (q := 23) (q' := 21) d3_18 (by decide) rfl rfl (fun (h1 : ¬ (tabN (b0 &&& (255 : Int32)).toNatClampNeg) = (0 : Int32)) => ?_) (fun (h1 : (tabN (b0 &&& (255 : Int32)).toNatClampNeg) = (0 : Int32)) => ?_)
  · refine Wk.iinc (q := 26) (v := (1 : Int32)) (ls' := #[.val (.ref a1), .val (.int (0 : Int32)), .val (.int (3 : Int32)), .val (.int (1 : Int32))]) d3_23 rfl rfl (by decide) rfl ?_
    refine Wk.goto (q := 2) d3_26 (by decide) rfl ?_
    refine Wk.iloadN (q := 3) d3_2 rfl rfl ?_
    refine Wk.iloadN (q := 4) d3_3 rfl rfl ?_
    refine Wk.icmpF (q := 7) d3_4 rfl (by decide : (1 : Int32) < (3 : Int32)) ?_
    refine Wk.getS (q := 10) (w_13 hw) Via.refl F.s_T d3_7 rfl ?_
    refine Wk.aloadN (q := 11) d3_10 rfl rfl rfl ?_
    refine Wk.iloadN (q := 12) d3_11 rfl rfl ?_
    refine Wk.baloadB (q := 13) A1 (by rw [S1]; decide) e_1 d3_12 rfl ?_
    refine Wk.sipush (q := 16) (v := (255 : Int32)) d3_13 rfl rfl ?_
    refine Wk.iand (q := 17) (v := (b1 &&& (255 : Int32))) d3_16 rfl rfl ?_
    refine Wk.baloadZ (q := 18) F.r_T (by rw [F.z_T]; exact own_in (own_255 b1).1 (by have := (own_255 b1).2; omega)) (F.t_T _ (by have := own_clamp (own_255 b1).1; have := (own_255 b1).2; omega)) d3_17 rfl ?_
    refine Wk.ifc (q := 23) (q' := 21) d3_18 (by decide) rfl rfl (fun (h2 : ¬ (tabN (b1 &&& (255 : Int32)).toNatClampNeg) = (0 : Int32)) => ?_) (fun (h2 : (tabN (b1 &&& (255 : Int32)).toNatClampNeg) = (0 : Int32)) => ?_)
    · refine Wk.iinc (q := 26) (v := (2 : Int32)) (ls' := #[.val (.ref a1), .val (.int (0 : Int32)), .val (.int (3 : Int32)), .val (.int (2 : Int32))]) d3_23 rfl rfl (by decide) rfl ?_
      refine Wk.goto (q := 2) d3_26 (by decide) rfl ?_
      refine Wk.iloadN (q := 3) d3_2 rfl rfl ?_
      refine Wk.iloadN (q := 4) d3_3 rfl rfl ?_
      refine Wk.icmpF (q := 7) d3_4 rfl (by decide : (2 : Int32) < (3 : Int32)) ?_
      refine Wk.getS (q := 10) (w_13 hw) Via.refl F.s_T d3_7 rfl ?_
      refine Wk.aloadN (q := 11) d3_10 rfl rfl rfl ?_
      refine Wk.iloadN (q := 12) d3_11 rfl rfl ?_
      refine Wk.baloadB (q := 13) A1 (by rw [S1]; decide) e_2 d3_12 rfl ?_
      refine Wk.sipush (q := 16) (v := (255 : Int32)) d3_13 rfl rfl ?_
      refine Wk.iand (q := 17) (v := (b2 &&& (255 : Int32))) d3_16 rfl rfl ?_
      refine Wk.baloadZ (q := 18) F.r_T (by rw [F.z_T]; exact own_in (own_255 b2).1 (by have := (own_255 b2).2; omega)) (F.t_T _ (by have := own_clamp (own_255 b2).1; have := (own_255 b2).2; omega)) d3_17 rfl ?_
      refine Wk.ifc (q := 23) (q' := 21) d3_18 (by decide) rfl rfl (fun (h3 : ¬ (tabN (b2 &&& (255 : Int32)).toNatClampNeg) = (0 : Int32)) => ?_) (fun (h3 : (tabN (b2 &&& (255 : Int32)).toNatClampNeg) = (0 : Int32)) => ?_)
      · refine Wk.iinc (q := 26) (v := (3 : Int32)) (ls' := #[.val (.ref a1), .val (.int (0 : Int32)), .val (.int (3 : Int32)), .val (.int (3 : Int32))]) d3_23 rfl rfl (by decide) rfl ?_
        refine Wk.goto (q := 2) d3_26 (by decide) rfl ?_
        refine Wk.iloadN (q := 3) d3_2 rfl rfl ?_
        refine Wk.iloadN (q := 4) d3_3 rfl rfl ?_
        refine Wk.icmpT (q := 29) d3_4 (by decide) rfl (by decide : ¬ (3 : Int32) < (3 : Int32)) ?_
        refine Wk.iconst (q := 30) (v := (1 : Int32)) d3_29 rfl rfl ?_
        exact Wk.retZ rfl rfl d3_30 (by decide) (by decide) ⟨⟨_, rfl, Or.inl ⟨h1, h2, h3, rfl⟩⟩, rfl⟩
      · refine Wk.iconst (q := 22) (v := (0 : Int32)) d3_21 rfl rfl ?_
        exact Wk.retZ rfl rfl d3_22 (by decide) (by decide) ⟨⟨_, rfl, Or.inr (Or.inl ⟨h1, h2, h3, rfl⟩)⟩, rfl⟩
    · refine Wk.iconst (q := 22) (v := (0 : Int32)) d3_21 rfl rfl ?_
      exact Wk.retZ rfl rfl d3_22 (by decide) (by decide) ⟨⟨_, rfl, Or.inr (Or.inr (Or.inl ⟨h1, h2, rfl⟩))⟩, rfl⟩
  · refine Wk.iconst (q := 22) (v := (0 : Int32)) d3_21 rfl rfl ?_
    exact Wk.retZ rfl rfl d3_22 (by decide) (by decide) ⟨⟨_, rfl, Or.inr (Or.inr (Or.inr (⟨h1, rfl⟩)))⟩, rfl⟩
set_option maxRecDepth 65536 in
set_option maxHeartbeats 40000000 in
theorem m_17 {l : Launch} {Z : State} {a0 : Array Value} {n0 : Nat} {h : Heap}  {a_T : Addr} {c_T : Cell} (hw : ∀ d ∈ tables_1, d.before a0 Z = true) (F : OwnF Z h  a_T c_T) {a1 : Addr} {c1 : Cell} {b0 b1 b2 b3 : Int32} (A1 : Arr Z h a1 c1 .byte) (S1 : c1.slots.size = 4) (e_0 : c1.slots[0]? = some (Value.int b0)) (e_1 : c1.slots[1]? = some (Value.int b1)) (e_2 : c1.slots[2]? = some (Value.int b2)) (e_3 : c1.slots[3]? = some (Value.int b3)) (z0 : Int32) : Met l Z n0 (⟨"com/example/tallykey/tallykey/HttpSyntaxIsTextPinLaw", "ok", "(IIIB)Z"⟩ : MethodName) method_3_code 5 (Option.some Jvm.ClassFile.FieldType.boolean) (⟨1, 0, 0, 13⟩ : Room) #[(.int (1 : Int32)), (.int (0 : Int32)), (.int (3 : Int32)), (.int z0)] h (fun v h' => (∃ w, v = some w ∧ ((((tabN (z0 &&& (255 : Int32)).toNatClampNeg) = (0 : Int32)) ∧ w = (.int (0 : Int32))) ∨ ((¬ (tabN (z0 &&& (255 : Int32)).toNatClampNeg) = (0 : Int32)) ∧ w = (.int (1 : Int32))))) ∧ h' = h) := by
  refine Met.of_wk (ls := #[.val (.int (1 : Int32)), .val (.int (0 : Int32)), .val (.int (3 : Int32)), .val (.int z0), .unset]) (plainFor_of_name pn_0) (fun m => ef_1 m (1 : Int32) (0 : Int32) (3 : Int32) z0) ?_
  show Wk l Z n0 "com/example/tallykey/tallykey/HttpSyntaxIsTextPinLaw" "ok" method_3_code 5 (Option.some Jvm.ClassFile.FieldType.boolean) (⟨1, 0, 0, 13⟩ : Room) 0 0 (fun v h' => (∃ w, v = some w ∧ ((((tabN (z0 &&& (255 : Int32)).toNatClampNeg) = (0 : Int32)) ∧ w = (.int (0 : Int32))) ∨ ((¬ (tabN (z0 &&& (255 : Int32)).toNatClampNeg) = (0 : Int32)) ∧ w = (.int (1 : Int32))))) ∧ h' = h) h 0 0 0 #[.val (.int (1 : Int32)), .val (.int (0 : Int32)), .val (.int (3 : Int32)), .val (.int z0), .unset] []
  refine Wk.iloadN (q := 1) d1_0 rfl rfl ?_
  refine Wk.iloadN (q := 2) d1_1 rfl rfl ?_
  refine Wk.icmpF (q := 5) d1_2 rfl (by decide : ¬ (1 : Int32) < (0 : Int32)) ?_
  refine Wk.iloadN (q := 6) d1_5 rfl rfl ?_
  refine Wk.iloadN (q := 7) d1_6 rfl rfl ?_
  refine Wk.icmpF (q := 10) d1_7 rfl (by decide : (1 : Int32) < (3 : Int32)) ?_
  refine Wk.iconst (q := 11) (v := (1 : Int32)) d1_10 rfl rfl ?_
  refine Wk.goto (q := 15) d1_11 (by decide) rfl ?_
  refine Wk.istore (q := 17) (ls' := #[.val (.int (1 : Int32)), .val (.int (0 : Int32)), .val (.int (3 : Int32)), .val (.int z0), .val (.int (1 : Int32))]) d1_15 rfl rfl ?_
  refine Wk.iload (q := 19) d1_17 rfl rfl ?_
  refine Wk.ifcF (q := 22) d1_19 rfl (by decide : ¬ (1 : Int32) = (0 : Int32)) ?_
  refine Wk.iloadN (q := 23) d1_22 rfl rfl ?_
  refine Wk.callS1 (q := 26) (argsL := [(.int z0)]) (rest := []) (fr := 0) (lo := 0) (v0 := (.int (tabN (z0 &&& (255 : Int32)).toNatClampNeg))) (m_cls hw F z0) (w_6 hw) (w_7 hw) (w_4 hw) (w_8 hw) (by decide) pd_2 rfl rfl rfl d1_23 rfl (W := 0) rfl (by decide) (by decide) (by decide) (by decide) ?_
  refine Wk.ifc (q := 33) (q' := 29) d1_26 (by decide) rfl rfl (fun (h1 : (tabN (z0 &&& (255 : Int32)).toNatClampNeg) = (0 : Int32)) => ?_) (fun (h1 : ¬ (tabN (z0 &&& (255 : Int32)).toNatClampNeg) = (0 : Int32)) => ?_)
  · refine Wk.iconst (q := 34) (v := (0 : Int32)) d1_33 rfl rfl ?_
    exact Wk.retZ rfl rfl d1_34 (by decide) (by decide) ⟨⟨_, rfl, Or.inl ⟨h1, rfl⟩⟩, rfl⟩
  · refine Wk.iconst (q := 30) (v := (1 : Int32)) d1_29 rfl rfl ?_
    refine Wk.goto (q := 34) d1_30 (by decide) rfl ?_
    exact Wk.retZ rfl rfl d1_34 (by decide) (by decide) ⟨⟨_, rfl, Or.inr (⟨h1, rfl⟩)⟩, rfl⟩
set_option maxRecDepth 65536 in
set_option maxHeartbeats 40000000 in
theorem m_18 {l : Launch} {Z : State} {a0 : Array Value} {n0 : Nat} {h : Heap}  {a_T : Addr} {c_T : Cell} (hw : ∀ d ∈ tables_1, d.before a0 Z = true) (F : OwnF Z h  a_T c_T) {a1 : Addr} {c1 : Cell} {b0 b1 b2 b3 : Int32} (A1 : Arr Z h a1 c1 .byte) (S1 : c1.slots.size = 4) (e_0 : c1.slots[0]? = some (Value.int b0)) (e_1 : c1.slots[1]? = some (Value.int b1)) (e_2 : c1.slots[2]? = some (Value.int b2)) (e_3 : c1.slots[3]? = some (Value.int b3)) (z0 : Int32) : Met l Z n0 (⟨"com/example/tallykey/tallykey/HttpSyntaxIsTextPinLaw", "ok", "(IIIB)Z"⟩ : MethodName) method_3_code 5 (Option.some Jvm.ClassFile.FieldType.boolean) (⟨1, 0, 0, 13⟩ : Room) #[(.int (2 : Int32)), (.int (0 : Int32)), (.int (3 : Int32)), (.int z0)] h (fun v h' => (∃ w, v = some w ∧ ((((tabN (z0 &&& (255 : Int32)).toNatClampNeg) = (0 : Int32)) ∧ w = (.int (0 : Int32))) ∨ ((¬ (tabN (z0 &&& (255 : Int32)).toNatClampNeg) = (0 : Int32)) ∧ w = (.int (1 : Int32))))) ∧ h' = h) := by
  refine Met.of_wk (ls := #[.val (.int (2 : Int32)), .val (.int (0 : Int32)), .val (.int (3 : Int32)), .val (.int z0), .unset]) (plainFor_of_name pn_0) (fun m => ef_1 m (2 : Int32) (0 : Int32) (3 : Int32) z0) ?_
  show Wk l Z n0 "com/example/tallykey/tallykey/HttpSyntaxIsTextPinLaw" "ok" method_3_code 5 (Option.some Jvm.ClassFile.FieldType.boolean) (⟨1, 0, 0, 13⟩ : Room) 0 0 (fun v h' => (∃ w, v = some w ∧ ((((tabN (z0 &&& (255 : Int32)).toNatClampNeg) = (0 : Int32)) ∧ w = (.int (0 : Int32))) ∨ ((¬ (tabN (z0 &&& (255 : Int32)).toNatClampNeg) = (0 : Int32)) ∧ w = (.int (1 : Int32))))) ∧ h' = h) h 0 0 0 #[.val (.int (2 : Int32)), .val (.int (0 : Int32)), .val (.int (3 : Int32)), .val (.int z0), .unset] []
  refine Wk.iloadN (q := 1) d1_0 rfl rfl ?_
  refine Wk.iloadN (q := 2) d1_1 rfl rfl ?_
  refine Wk.icmpF (q := 5) d1_2 rfl (by decide : ¬ (2 : Int32) < (0 : Int32)) ?_
  refine Wk.iloadN (q := 6) d1_5 rfl rfl ?_
  refine Wk.iloadN (q := 7) d1_6 rfl rfl ?_
  refine Wk.icmpF (q := 10) d1_7 rfl (by decide : (2 : Int32) < (3 : Int32)) ?_
  refine Wk.iconst (q := 11) (v := (1 : Int32)) d1_10 rfl rfl ?_
  refine Wk.goto (q := 15) d1_11 (by decide) rfl ?_
  refine Wk.istore (q := 17) (ls' := #[.val (.int (2 : Int32)), .val (.int (0 : Int32)), .val (.int (3 : Int32)), .val (.int z0), .val (.int (1 : Int32))]) d1_15 rfl rfl ?_
  refine Wk.iload (q := 19) d1_17 rfl rfl ?_
  refine Wk.ifcF (q := 22) d1_19 rfl (by decide : ¬ (1 : Int32) = (0 : Int32)) ?_
  refine Wk.iloadN (q := 23) d1_22 rfl rfl ?_
  refine Wk.callS1 (q := 26) (argsL := [(.int z0)]) (rest := []) (fr := 0) (lo := 0) (v0 := (.int (tabN (z0 &&& (255 : Int32)).toNatClampNeg))) (m_cls hw F z0) (w_6 hw) (w_7 hw) (w_4 hw) (w_8 hw) (by decide) pd_2 rfl rfl rfl d1_23 rfl (W := 0) rfl (by decide) (by decide) (by decide) (by decide) ?_
  refine Wk.ifc (q := 33) (q' := 29) d1_26 (by decide) rfl rfl (fun (h1 : (tabN (z0 &&& (255 : Int32)).toNatClampNeg) = (0 : Int32)) => ?_) (fun (h1 : ¬ (tabN (z0 &&& (255 : Int32)).toNatClampNeg) = (0 : Int32)) => ?_)
  · refine Wk.iconst (q := 34) (v := (0 : Int32)) d1_33 rfl rfl ?_
    exact Wk.retZ rfl rfl d1_34 (by decide) (by decide) ⟨⟨_, rfl, Or.inl ⟨h1, rfl⟩⟩, rfl⟩
  · refine Wk.iconst (q := 30) (v := (1 : Int32)) d1_29 rfl rfl ?_
    refine Wk.goto (q := 34) d1_30 (by decide) rfl ?_
    exact Wk.retZ rfl rfl d1_34 (by decide) (by decide) ⟨⟨_, rfl, Or.inr (⟨h1, rfl⟩)⟩, rfl⟩
set_option maxRecDepth 65536 in
set_option maxHeartbeats 40000000 in
theorem m_19 {l : Launch} {Z : State} {a0 : Array Value} {n0 : Nat} {h : Heap}  {a_T : Addr} {c_T : Cell} (hw : ∀ d ∈ tables_1, d.before a0 Z = true) (F : OwnF Z h  a_T c_T) {a1 : Addr} {c1 : Cell} {b0 b1 b2 b3 : Int32} (A1 : Arr Z h a1 c1 .byte) (S1 : c1.slots.size = 4) (e_0 : c1.slots[0]? = some (Value.int b0)) (e_1 : c1.slots[1]? = some (Value.int b1)) (e_2 : c1.slots[2]? = some (Value.int b2)) (e_3 : c1.slots[3]? = some (Value.int b3)) (z0 : Int32) : Met l Z n0 (⟨"com/example/tallykey/tallykey/HttpSyntaxIsTextPinLaw", "ok", "(IIIB)Z"⟩ : MethodName) method_3_code 5 (Option.some Jvm.ClassFile.FieldType.boolean) (⟨0, 0, 0, 0⟩ : Room) #[(.int (3 : Int32)), (.int (0 : Int32)), (.int (3 : Int32)), (.int z0)] h (fun v h' => v = some (.int (1 : Int32)) ∧ h' = h) := by
  refine Met.of_wk (ls := #[.val (.int (3 : Int32)), .val (.int (0 : Int32)), .val (.int (3 : Int32)), .val (.int z0), .unset]) (plainFor_of_name pn_0) (fun m => ef_1 m (3 : Int32) (0 : Int32) (3 : Int32) z0) ?_
  show Wk l Z n0 "com/example/tallykey/tallykey/HttpSyntaxIsTextPinLaw" "ok" method_3_code 5 (Option.some Jvm.ClassFile.FieldType.boolean) (⟨0, 0, 0, 0⟩ : Room) 0 0 (fun v h' => v = some (.int (1 : Int32)) ∧ h' = h) h 0 0 0 #[.val (.int (3 : Int32)), .val (.int (0 : Int32)), .val (.int (3 : Int32)), .val (.int z0), .unset] []
  refine Wk.iloadN (q := 1) d1_0 rfl rfl ?_
  refine Wk.iloadN (q := 2) d1_1 rfl rfl ?_
  refine Wk.icmpF (q := 5) d1_2 rfl (by decide : ¬ (3 : Int32) < (0 : Int32)) ?_
  refine Wk.iloadN (q := 6) d1_5 rfl rfl ?_
  refine Wk.iloadN (q := 7) d1_6 rfl rfl ?_
  refine Wk.icmpT (q := 14) d1_7 (by decide) rfl (by decide : ¬ (3 : Int32) < (3 : Int32)) ?_
  refine Wk.iconst (q := 15) (v := (0 : Int32)) d1_14 rfl rfl ?_
  refine Wk.istore (q := 17) (ls' := #[.val (.int (3 : Int32)), .val (.int (0 : Int32)), .val (.int (3 : Int32)), .val (.int z0), .val (.int (0 : Int32))]) d1_15 rfl rfl ?_
  refine Wk.iload (q := 19) d1_17 rfl rfl ?_
  refine Wk.ifcT (q := 29) d1_19 (by decide) rfl (by decide : (0 : Int32) = (0 : Int32)) ?_
  refine Wk.iconst (q := 30) (v := (1 : Int32)) d1_29 rfl rfl ?_
  refine Wk.goto (q := 34) d1_30 (by decide) rfl ?_
  exact Wk.retZ rfl rfl d1_34 (by decide) (by decide) ⟨rfl, rfl⟩
set_option maxRecDepth 65536 in
set_option maxHeartbeats 40000000 in
theorem m_20 {l : Launch} {Z : State} {a0 : Array Value} {n0 : Nat} {h : Heap}  {a_T : Addr} {c_T : Cell} (hw : ∀ d ∈ tables_1, d.before a0 Z = true) (F : OwnF Z h  a_T c_T) {a1 : Addr} {c1 : Cell} {b0 b1 b2 b3 : Int32} (A1 : Arr Z h a1 c1 .byte) (S1 : c1.slots.size = 4) (e_0 : c1.slots[0]? = some (Value.int b0)) (e_1 : c1.slots[1]? = some (Value.int b1)) (e_2 : c1.slots[2]? = some (Value.int b2)) (e_3 : c1.slots[3]? = some (Value.int b3)) (z0 : Int32) : Met l Z n0 (⟨"com/example/tallykey/tallykey/HttpSyntaxIsTextPinLaw", "ok", "(IIIB)Z"⟩ : MethodName) method_3_code 5 (Option.some Jvm.ClassFile.FieldType.boolean) (⟨1, 0, 0, 13⟩ : Room) #[(.int (0 : Int32)), (.int (0 : Int32)), (.int (4 : Int32)), (.int z0)] h (fun v h' => (∃ w, v = some w ∧ ((((tabN (z0 &&& (255 : Int32)).toNatClampNeg) = (0 : Int32)) ∧ w = (.int (0 : Int32))) ∨ ((¬ (tabN (z0 &&& (255 : Int32)).toNatClampNeg) = (0 : Int32)) ∧ w = (.int (1 : Int32))))) ∧ h' = h) := by
  refine Met.of_wk (ls := #[.val (.int (0 : Int32)), .val (.int (0 : Int32)), .val (.int (4 : Int32)), .val (.int z0), .unset]) (plainFor_of_name pn_0) (fun m => ef_1 m (0 : Int32) (0 : Int32) (4 : Int32) z0) ?_
  show Wk l Z n0 "com/example/tallykey/tallykey/HttpSyntaxIsTextPinLaw" "ok" method_3_code 5 (Option.some Jvm.ClassFile.FieldType.boolean) (⟨1, 0, 0, 13⟩ : Room) 0 0 (fun v h' => (∃ w, v = some w ∧ ((((tabN (z0 &&& (255 : Int32)).toNatClampNeg) = (0 : Int32)) ∧ w = (.int (0 : Int32))) ∨ ((¬ (tabN (z0 &&& (255 : Int32)).toNatClampNeg) = (0 : Int32)) ∧ w = (.int (1 : Int32))))) ∧ h' = h) h 0 0 0 #[.val (.int (0 : Int32)), .val (.int (0 : Int32)), .val (.int (4 : Int32)), .val (.int z0), .unset] []
  refine Wk.iloadN (q := 1) d1_0 rfl rfl ?_
  refine Wk.iloadN (q := 2) d1_1 rfl rfl ?_
  refine Wk.icmpF (q := 5) d1_2 rfl (by decide : ¬ (0 : Int32) < (0 : Int32)) ?_
  refine Wk.iloadN (q := 6) d1_5 rfl rfl ?_
  refine Wk.iloadN (q := 7) d1_6 rfl rfl ?_
  refine Wk.icmpF (q := 10) d1_7 rfl (by decide : (0 : Int32) < (4 : Int32)) ?_
  refine Wk.iconst (q := 11) (v := (1 : Int32)) d1_10 rfl rfl ?_
  refine Wk.goto (q := 15) d1_11 (by decide) rfl ?_
  refine Wk.istore (q := 17) (ls' := #[.val (.int (0 : Int32)), .val (.int (0 : Int32)), .val (.int (4 : Int32)), .val (.int z0), .val (.int (1 : Int32))]) d1_15 rfl rfl ?_
  refine Wk.iload (q := 19) d1_17 rfl rfl ?_
  refine Wk.ifcF (q := 22) d1_19 rfl (by decide : ¬ (1 : Int32) = (0 : Int32)) ?_
  refine Wk.iloadN (q := 23) d1_22 rfl rfl ?_
  refine Wk.callS1 (q := 26) (argsL := [(.int z0)]) (rest := []) (fr := 0) (lo := 0) (v0 := (.int (tabN (z0 &&& (255 : Int32)).toNatClampNeg))) (m_cls hw F z0) (w_6 hw) (w_7 hw) (w_4 hw) (w_8 hw) (by decide) pd_2 rfl rfl rfl d1_23 rfl (W := 0) rfl (by decide) (by decide) (by decide) (by decide) ?_
  refine Wk.ifc (q := 33) (q' := 29) d1_26 (by decide) rfl rfl (fun (h1 : (tabN (z0 &&& (255 : Int32)).toNatClampNeg) = (0 : Int32)) => ?_) (fun (h1 : ¬ (tabN (z0 &&& (255 : Int32)).toNatClampNeg) = (0 : Int32)) => ?_)
  · refine Wk.iconst (q := 34) (v := (0 : Int32)) d1_33 rfl rfl ?_
    exact Wk.retZ rfl rfl d1_34 (by decide) (by decide) ⟨⟨_, rfl, Or.inl ⟨h1, rfl⟩⟩, rfl⟩
  · refine Wk.iconst (q := 30) (v := (1 : Int32)) d1_29 rfl rfl ?_
    refine Wk.goto (q := 34) d1_30 (by decide) rfl ?_
    exact Wk.retZ rfl rfl d1_34 (by decide) (by decide) ⟨⟨_, rfl, Or.inr (⟨h1, rfl⟩)⟩, rfl⟩
set_option maxRecDepth 65536 in
set_option maxHeartbeats 40000000 in
theorem m_21 {l : Launch} {Z : State} {a0 : Array Value} {n0 : Nat} {h : Heap}  {a_T : Addr} {c_T : Cell} (hw : ∀ d ∈ tables_1, d.before a0 Z = true) (F : OwnF Z h  a_T c_T) {a1 : Addr} {c1 : Cell} {b0 b1 b2 b3 : Int32} (A1 : Arr Z h a1 c1 .byte) (S1 : c1.slots.size = 4) (e_0 : c1.slots[0]? = some (Value.int b0)) (e_1 : c1.slots[1]? = some (Value.int b1)) (e_2 : c1.slots[2]? = some (Value.int b2)) (e_3 : c1.slots[3]? = some (Value.int b3)) : Met l Z n0 (⟨"com/example/tallykey/tallykey/HttpSyntax", "isText", "([BII)Z"⟩ : MethodName) prog_5_method_5_code 4 (Option.some Jvm.ClassFile.FieldType.boolean) (⟨0, 0, 0, 0⟩ : Room) #[(.ref a1), (.int (0 : Int32)), (.int (4 : Int32))] h (fun v h' => (∃ w, v = some w ∧ (((¬ (tabN (b0 &&& (255 : Int32)).toNatClampNeg) = (0 : Int32)) ∧ (¬ (tabN (b1 &&& (255 : Int32)).toNatClampNeg) = (0 : Int32)) ∧ (¬ (tabN (b2 &&& (255 : Int32)).toNatClampNeg) = (0 : Int32)) ∧ (¬ (tabN (b3 &&& (255 : Int32)).toNatClampNeg) = (0 : Int32)) ∧ w = (.int (1 : Int32))) ∨ ((¬ (tabN (b0 &&& (255 : Int32)).toNatClampNeg) = (0 : Int32)) ∧ (¬ (tabN (b1 &&& (255 : Int32)).toNatClampNeg) = (0 : Int32)) ∧ (¬ (tabN (b2 &&& (255 : Int32)).toNatClampNeg) = (0 : Int32)) ∧ ((tabN (b3 &&& (255 : Int32)).toNatClampNeg) = (0 : Int32)) ∧ w = (.int (0 : Int32))) ∨ ((¬ (tabN (b0 &&& (255 : Int32)).toNatClampNeg) = (0 : Int32)) ∧ (¬ (tabN (b1 &&& (255 : Int32)).toNatClampNeg) = (0 : Int32)) ∧ ((tabN (b2 &&& (255 : Int32)).toNatClampNeg) = (0 : Int32)) ∧ w = (.int (0 : Int32))) ∨ ((¬ (tabN (b0 &&& (255 : Int32)).toNatClampNeg) = (0 : Int32)) ∧ ((tabN (b1 &&& (255 : Int32)).toNatClampNeg) = (0 : Int32)) ∧ w = (.int (0 : Int32))) ∨ (((tabN (b0 &&& (255 : Int32)).toNatClampNeg) = (0 : Int32)) ∧ w = (.int (0 : Int32))))) ∧ h' = h) := by
  refine Met.of_wk (ls := #[.val (.ref a1), .val (.int (0 : Int32)), .val (.int (4 : Int32)), .unset]) (plainFor_of_name pn_1) (fun m => ef_2 m a1 (0 : Int32) (4 : Int32)) ?_
  show Wk l Z n0 "com/example/tallykey/tallykey/HttpSyntax" "isText" prog_5_method_5_code 4 (Option.some Jvm.ClassFile.FieldType.boolean) (⟨0, 0, 0, 0⟩ : Room) 0 0 (fun v h' => (∃ w, v = some w ∧ (((¬ (tabN (b0 &&& (255 : Int32)).toNatClampNeg) = (0 : Int32)) ∧ (¬ (tabN (b1 &&& (255 : Int32)).toNatClampNeg) = (0 : Int32)) ∧ (¬ (tabN (b2 &&& (255 : Int32)).toNatClampNeg) = (0 : Int32)) ∧ (¬ (tabN (b3 &&& (255 : Int32)).toNatClampNeg) = (0 : Int32)) ∧ w = (.int (1 : Int32))) ∨ ((¬ (tabN (b0 &&& (255 : Int32)).toNatClampNeg) = (0 : Int32)) ∧ (¬ (tabN (b1 &&& (255 : Int32)).toNatClampNeg) = (0 : Int32)) ∧ (¬ (tabN (b2 &&& (255 : Int32)).toNatClampNeg) = (0 : Int32)) ∧ ((tabN (b3 &&& (255 : Int32)).toNatClampNeg) = (0 : Int32)) ∧ w = (.int (0 : Int32))) ∨ ((¬ (tabN (b0 &&& (255 : Int32)).toNatClampNeg) = (0 : Int32)) ∧ (¬ (tabN (b1 &&& (255 : Int32)).toNatClampNeg) = (0 : Int32)) ∧ ((tabN (b2 &&& (255 : Int32)).toNatClampNeg) = (0 : Int32)) ∧ w = (.int (0 : Int32))) ∨ ((¬ (tabN (b0 &&& (255 : Int32)).toNatClampNeg) = (0 : Int32)) ∧ ((tabN (b1 &&& (255 : Int32)).toNatClampNeg) = (0 : Int32)) ∧ w = (.int (0 : Int32))) ∨ (((tabN (b0 &&& (255 : Int32)).toNatClampNeg) = (0 : Int32)) ∧ w = (.int (0 : Int32))))) ∧ h' = h) h 0 0 0 #[.val (.ref a1), .val (.int (0 : Int32)), .val (.int (4 : Int32)), .unset] []
  refine Wk.iloadN (q := 1) d3_0 rfl rfl ?_
  refine Wk.istoreN (q := 2) (ls' := #[.val (.ref a1), .val (.int (0 : Int32)), .val (.int (4 : Int32)), .val (.int (0 : Int32))]) d3_1 rfl rfl ?_
  refine Wk.iloadN (q := 3) d3_2 rfl rfl ?_
  refine Wk.iloadN (q := 4) d3_3 rfl rfl ?_
  refine Wk.icmpF (q := 7) d3_4 rfl (by decide : (0 : Int32) < (4 : Int32)) ?_
  refine Wk.getS (q := 10) (w_13 hw) Via.refl F.s_T d3_7 rfl ?_
  refine Wk.aloadN (q := 11) d3_10 rfl rfl rfl ?_
  refine Wk.iloadN (q := 12) d3_11 rfl rfl ?_
  refine Wk.baloadB (q := 13) A1 (by rw [S1]; decide) e_0 d3_12 rfl ?_
  refine Wk.sipush (q := 16) (v := (255 : Int32)) d3_13 rfl rfl ?_
  refine Wk.iand (q := 17) (v := (b0 &&& (255 : Int32))) d3_16 rfl rfl ?_
  refine Wk.baloadZ (q := 18) F.r_T (by rw [F.z_T]; exact own_in (own_255 b0).1 (by have := (own_255 b0).2; omega)) (F.t_T _ (by have := own_clamp (own_255 b0).1; have := (own_255 b0).2; omega)) d3_17 rfl ?_
  refine Wk.ifc (q := 23) (q' := 21) d3_18 (by decide) rfl rfl (fun (h1 : ¬ (tabN (b0 &&& (255 : Int32)).toNatClampNeg) = (0 : Int32)) => ?_) (fun (h1 : (tabN (b0 &&& (255 : Int32)).toNatClampNeg) = (0 : Int32)) => ?_)
  · refine Wk.iinc (q := 26) (v := (1 : Int32)) (ls' := #[.val (.ref a1), .val (.int (0 : Int32)), .val (.int (4 : Int32)), .val (.int (1 : Int32))]) d3_23 rfl rfl (by decide) rfl ?_
    refine Wk.goto (q := 2) d3_26 (by decide) rfl ?_
    refine Wk.iloadN (q := 3) d3_2 rfl rfl ?_
    refine Wk.iloadN (q := 4) d3_3 rfl rfl ?_
    refine Wk.icmpF (q := 7) d3_4 rfl (by decide : (1 : Int32) < (4 : Int32)) ?_
    refine Wk.getS (q := 10) (w_13 hw) Via.refl F.s_T d3_7 rfl ?_
    refine Wk.aloadN (q := 11) d3_10 rfl rfl rfl ?_
    refine Wk.iloadN (q := 12) d3_11 rfl rfl ?_
    refine Wk.baloadB (q := 13) A1 (by rw [S1]; decide) e_1 d3_12 rfl ?_
    refine Wk.sipush (q := 16) (v := (255 : Int32)) d3_13 rfl rfl ?_
    refine Wk.iand (q := 17) (v := (b1 &&& (255 : Int32))) d3_16 rfl rfl ?_
    refine Wk.baloadZ (q := 18) F.r_T (by rw [F.z_T]; exact own_in (own_255 b1).1 (by have := (own_255 b1).2; omega)) (F.t_T _ (by have := own_clamp (own_255 b1).1; have := (own_255 b1).2; omega)) d3_17 rfl ?_
    refine Wk.ifc (q := 23) (q' := 21) d3_18 (by decide) rfl rfl (fun (h2 : ¬ (tabN (b1 &&& (255 : Int32)).toNatClampNeg) = (0 : Int32)) => ?_) (fun (h2 : (tabN (b1 &&& (255 : Int32)).toNatClampNeg) = (0 : Int32)) => ?_)
    · refine Wk.iinc (q := 26) (v := (2 : Int32)) (ls' := #[.val (.ref a1), .val (.int (0 : Int32)), .val (.int (4 : Int32)), .val (.int (2 : Int32))]) d3_23 rfl rfl (by decide) rfl ?_
      refine Wk.goto (q := 2) d3_26 (by decide) rfl ?_
      refine Wk.iloadN (q := 3) d3_2 rfl rfl ?_
      refine Wk.iloadN (q := 4) d3_3 rfl rfl ?_
      refine Wk.icmpF (q := 7) d3_4 rfl (by decide : (2 : Int32) < (4 : Int32)) ?_
      refine Wk.getS (q := 10) (w_13 hw) Via.refl F.s_T d3_7 rfl ?_
      refine Wk.aloadN (q := 11) d3_10 rfl rfl rfl ?_
      refine Wk.iloadN (q := 12) d3_11 rfl rfl ?_
      refine Wk.baloadB (q := 13) A1 (by rw [S1]; decide) e_2 d3_12 rfl ?_
      refine Wk.sipush (q := 16) (v := (255 : Int32)) d3_13 rfl rfl ?_
      refine Wk.iand (q := 17) (v := (b2 &&& (255 : Int32))) d3_16 rfl rfl ?_
      refine Wk.baloadZ (q := 18) F.r_T (by rw [F.z_T]; exact own_in (own_255 b2).1 (by have := (own_255 b2).2; omega)) (F.t_T _ (by have := own_clamp (own_255 b2).1; have := (own_255 b2).2; omega)) d3_17 rfl ?_
      refine Wk.ifc (q := 23) (q' := 21) d3_18 (by decide) rfl rfl (fun (h3 : ¬ (tabN (b2 &&& (255 : Int32)).toNatClampNeg) = (0 : Int32)) => ?_) (fun (h3 : (tabN (b2 &&& (255 : Int32)).toNatClampNeg) = (0 : Int32)) => ?_)
      · refine Wk.iinc (q := 26) (v := (3 : Int32)) (ls' := #[.val (.ref a1), .val (.int (0 : Int32)), .val (.int (4 : Int32)), .val (.int (3 : Int32))]) d3_23 rfl rfl (by decide) rfl ?_
        refine Wk.goto (q := 2) d3_26 (by decide) rfl ?_
        refine Wk.iloadN (q := 3) d3_2 rfl rfl ?_
        refine Wk.iloadN (q := 4) d3_3 rfl rfl ?_
        refine Wk.icmpF (q := 7) d3_4 rfl (by decide : (3 : Int32) < (4 : Int32)) ?_
        refine Wk.getS (q := 10) (w_13 hw) Via.refl F.s_T d3_7 rfl ?_
        refine Wk.aloadN (q := 11) d3_10 rfl rfl rfl ?_
        refine Wk.iloadN (q := 12) d3_11 rfl rfl ?_
        refine Wk.baloadB (q := 13) A1 (by rw [S1]; decide) e_3 d3_12 rfl ?_
        refine Wk.sipush (q := 16) (v := (255 : Int32)) d3_13 rfl rfl ?_
        refine Wk.iand (q := 17) (v := (b3 &&& (255 : Int32))) d3_16 rfl rfl ?_
        refine Wk.baloadZ (q := 18) F.r_T (by rw [F.z_T]; exact own_in (own_255 b3).1 (by have := (own_255 b3).2; omega)) (F.t_T _ (by have := own_clamp (own_255 b3).1; have := (own_255 b3).2; omega)) d3_17 rfl ?_
        refine Wk.ifc (q := 23) (q' := 21) d3_18 (by decide) rfl rfl (fun (h4 : ¬ (tabN (b3 &&& (255 : Int32)).toNatClampNeg) = (0 : Int32)) => ?_) (fun (h4 : (tabN (b3 &&& (255 : Int32)).toNatClampNeg) = (0 : Int32)) => ?_)
        · refine Wk.iinc (q := 26) (v := (4 : Int32)) (ls' := #[.val (.ref a1), .val (.int (0 : Int32)), .val (.int (4 : Int32)), .val (.int (4 : Int32))]) d3_23 rfl rfl (by decide) rfl ?_
          refine Wk.goto (q := 2) d3_26 (by decide) rfl ?_
          refine Wk.iloadN (q := 3) d3_2 rfl rfl ?_
          refine Wk.iloadN (q := 4) d3_3 rfl rfl ?_
          refine Wk.icmpT (q := 29) d3_4 (by decide) rfl (by decide : ¬ (4 : Int32) < (4 : Int32)) ?_
          refine Wk.iconst (q := 30) (v := (1 : Int32)) d3_29 rfl rfl ?_
          exact Wk.retZ rfl rfl d3_30 (by decide) (by decide) ⟨⟨_, rfl, Or.inl ⟨h1, h2, h3, h4, rfl⟩⟩, rfl⟩
        · refine Wk.iconst (q := 22) (v := (0 : Int32)) d3_21 rfl rfl ?_
          exact Wk.retZ rfl rfl d3_22 (by decide) (by decide) ⟨⟨_, rfl, Or.inr (Or.inl ⟨h1, h2, h3, h4, rfl⟩)⟩, rfl⟩
      · refine Wk.iconst (q := 22) (v := (0 : Int32)) d3_21 rfl rfl ?_
        exact Wk.retZ rfl rfl d3_22 (by decide) (by decide) ⟨⟨_, rfl, Or.inr (Or.inr (Or.inl ⟨h1, h2, h3, rfl⟩))⟩, rfl⟩
    · refine Wk.iconst (q := 22) (v := (0 : Int32)) d3_21 rfl rfl ?_
      exact Wk.retZ rfl rfl d3_22 (by decide) (by decide) ⟨⟨_, rfl, Or.inr (Or.inr (Or.inr (Or.inl ⟨h1, h2, rfl⟩)))⟩, rfl⟩
  · refine Wk.iconst (q := 22) (v := (0 : Int32)) d3_21 rfl rfl ?_
    exact Wk.retZ rfl rfl d3_22 (by decide) (by decide) ⟨⟨_, rfl, Or.inr (Or.inr (Or.inr (Or.inr (⟨h1, rfl⟩))))⟩, rfl⟩
set_option maxRecDepth 65536 in
set_option maxHeartbeats 40000000 in
theorem m_22 {l : Launch} {Z : State} {a0 : Array Value} {n0 : Nat} {h : Heap}  {a_T : Addr} {c_T : Cell} (hw : ∀ d ∈ tables_1, d.before a0 Z = true) (F : OwnF Z h  a_T c_T) {a1 : Addr} {c1 : Cell} {b0 b1 b2 b3 : Int32} (A1 : Arr Z h a1 c1 .byte) (S1 : c1.slots.size = 4) (e_0 : c1.slots[0]? = some (Value.int b0)) (e_1 : c1.slots[1]? = some (Value.int b1)) (e_2 : c1.slots[2]? = some (Value.int b2)) (e_3 : c1.slots[3]? = some (Value.int b3)) (z0 : Int32) : Met l Z n0 (⟨"com/example/tallykey/tallykey/HttpSyntaxIsTextPinLaw", "ok", "(IIIB)Z"⟩ : MethodName) method_3_code 5 (Option.some Jvm.ClassFile.FieldType.boolean) (⟨1, 0, 0, 13⟩ : Room) #[(.int (1 : Int32)), (.int (0 : Int32)), (.int (4 : Int32)), (.int z0)] h (fun v h' => (∃ w, v = some w ∧ ((((tabN (z0 &&& (255 : Int32)).toNatClampNeg) = (0 : Int32)) ∧ w = (.int (0 : Int32))) ∨ ((¬ (tabN (z0 &&& (255 : Int32)).toNatClampNeg) = (0 : Int32)) ∧ w = (.int (1 : Int32))))) ∧ h' = h) := by
  refine Met.of_wk (ls := #[.val (.int (1 : Int32)), .val (.int (0 : Int32)), .val (.int (4 : Int32)), .val (.int z0), .unset]) (plainFor_of_name pn_0) (fun m => ef_1 m (1 : Int32) (0 : Int32) (4 : Int32) z0) ?_
  show Wk l Z n0 "com/example/tallykey/tallykey/HttpSyntaxIsTextPinLaw" "ok" method_3_code 5 (Option.some Jvm.ClassFile.FieldType.boolean) (⟨1, 0, 0, 13⟩ : Room) 0 0 (fun v h' => (∃ w, v = some w ∧ ((((tabN (z0 &&& (255 : Int32)).toNatClampNeg) = (0 : Int32)) ∧ w = (.int (0 : Int32))) ∨ ((¬ (tabN (z0 &&& (255 : Int32)).toNatClampNeg) = (0 : Int32)) ∧ w = (.int (1 : Int32))))) ∧ h' = h) h 0 0 0 #[.val (.int (1 : Int32)), .val (.int (0 : Int32)), .val (.int (4 : Int32)), .val (.int z0), .unset] []
  refine Wk.iloadN (q := 1) d1_0 rfl rfl ?_
  refine Wk.iloadN (q := 2) d1_1 rfl rfl ?_
  refine Wk.icmpF (q := 5) d1_2 rfl (by decide : ¬ (1 : Int32) < (0 : Int32)) ?_
  refine Wk.iloadN (q := 6) d1_5 rfl rfl ?_
  refine Wk.iloadN (q := 7) d1_6 rfl rfl ?_
  refine Wk.icmpF (q := 10) d1_7 rfl (by decide : (1 : Int32) < (4 : Int32)) ?_
  refine Wk.iconst (q := 11) (v := (1 : Int32)) d1_10 rfl rfl ?_
  refine Wk.goto (q := 15) d1_11 (by decide) rfl ?_
  refine Wk.istore (q := 17) (ls' := #[.val (.int (1 : Int32)), .val (.int (0 : Int32)), .val (.int (4 : Int32)), .val (.int z0), .val (.int (1 : Int32))]) d1_15 rfl rfl ?_
  refine Wk.iload (q := 19) d1_17 rfl rfl ?_
  refine Wk.ifcF (q := 22) d1_19 rfl (by decide : ¬ (1 : Int32) = (0 : Int32)) ?_
  refine Wk.iloadN (q := 23) d1_22 rfl rfl ?_
  refine Wk.callS1 (q := 26) (argsL := [(.int z0)]) (rest := []) (fr := 0) (lo := 0) (v0 := (.int (tabN (z0 &&& (255 : Int32)).toNatClampNeg))) (m_cls hw F z0) (w_6 hw) (w_7 hw) (w_4 hw) (w_8 hw) (by decide) pd_2 rfl rfl rfl d1_23 rfl (W := 0) rfl (by decide) (by decide) (by decide) (by decide) ?_
  refine Wk.ifc (q := 33) (q' := 29) d1_26 (by decide) rfl rfl (fun (h1 : (tabN (z0 &&& (255 : Int32)).toNatClampNeg) = (0 : Int32)) => ?_) (fun (h1 : ¬ (tabN (z0 &&& (255 : Int32)).toNatClampNeg) = (0 : Int32)) => ?_)
  · refine Wk.iconst (q := 34) (v := (0 : Int32)) d1_33 rfl rfl ?_
    exact Wk.retZ rfl rfl d1_34 (by decide) (by decide) ⟨⟨_, rfl, Or.inl ⟨h1, rfl⟩⟩, rfl⟩
  · refine Wk.iconst (q := 30) (v := (1 : Int32)) d1_29 rfl rfl ?_
    refine Wk.goto (q := 34) d1_30 (by decide) rfl ?_
    exact Wk.retZ rfl rfl d1_34 (by decide) (by decide) ⟨⟨_, rfl, Or.inr (⟨h1, rfl⟩)⟩, rfl⟩
set_option maxRecDepth 65536 in
set_option maxHeartbeats 40000000 in
theorem m_23 {l : Launch} {Z : State} {a0 : Array Value} {n0 : Nat} {h : Heap}  {a_T : Addr} {c_T : Cell} (hw : ∀ d ∈ tables_1, d.before a0 Z = true) (F : OwnF Z h  a_T c_T) {a1 : Addr} {c1 : Cell} {b0 b1 b2 b3 : Int32} (A1 : Arr Z h a1 c1 .byte) (S1 : c1.slots.size = 4) (e_0 : c1.slots[0]? = some (Value.int b0)) (e_1 : c1.slots[1]? = some (Value.int b1)) (e_2 : c1.slots[2]? = some (Value.int b2)) (e_3 : c1.slots[3]? = some (Value.int b3)) (z0 : Int32) : Met l Z n0 (⟨"com/example/tallykey/tallykey/HttpSyntaxIsTextPinLaw", "ok", "(IIIB)Z"⟩ : MethodName) method_3_code 5 (Option.some Jvm.ClassFile.FieldType.boolean) (⟨1, 0, 0, 13⟩ : Room) #[(.int (2 : Int32)), (.int (0 : Int32)), (.int (4 : Int32)), (.int z0)] h (fun v h' => (∃ w, v = some w ∧ ((((tabN (z0 &&& (255 : Int32)).toNatClampNeg) = (0 : Int32)) ∧ w = (.int (0 : Int32))) ∨ ((¬ (tabN (z0 &&& (255 : Int32)).toNatClampNeg) = (0 : Int32)) ∧ w = (.int (1 : Int32))))) ∧ h' = h) := by
  refine Met.of_wk (ls := #[.val (.int (2 : Int32)), .val (.int (0 : Int32)), .val (.int (4 : Int32)), .val (.int z0), .unset]) (plainFor_of_name pn_0) (fun m => ef_1 m (2 : Int32) (0 : Int32) (4 : Int32) z0) ?_
  show Wk l Z n0 "com/example/tallykey/tallykey/HttpSyntaxIsTextPinLaw" "ok" method_3_code 5 (Option.some Jvm.ClassFile.FieldType.boolean) (⟨1, 0, 0, 13⟩ : Room) 0 0 (fun v h' => (∃ w, v = some w ∧ ((((tabN (z0 &&& (255 : Int32)).toNatClampNeg) = (0 : Int32)) ∧ w = (.int (0 : Int32))) ∨ ((¬ (tabN (z0 &&& (255 : Int32)).toNatClampNeg) = (0 : Int32)) ∧ w = (.int (1 : Int32))))) ∧ h' = h) h 0 0 0 #[.val (.int (2 : Int32)), .val (.int (0 : Int32)), .val (.int (4 : Int32)), .val (.int z0), .unset] []
  refine Wk.iloadN (q := 1) d1_0 rfl rfl ?_
  refine Wk.iloadN (q := 2) d1_1 rfl rfl ?_
  refine Wk.icmpF (q := 5) d1_2 rfl (by decide : ¬ (2 : Int32) < (0 : Int32)) ?_
  refine Wk.iloadN (q := 6) d1_5 rfl rfl ?_
  refine Wk.iloadN (q := 7) d1_6 rfl rfl ?_
  refine Wk.icmpF (q := 10) d1_7 rfl (by decide : (2 : Int32) < (4 : Int32)) ?_
  refine Wk.iconst (q := 11) (v := (1 : Int32)) d1_10 rfl rfl ?_
  refine Wk.goto (q := 15) d1_11 (by decide) rfl ?_
  refine Wk.istore (q := 17) (ls' := #[.val (.int (2 : Int32)), .val (.int (0 : Int32)), .val (.int (4 : Int32)), .val (.int z0), .val (.int (1 : Int32))]) d1_15 rfl rfl ?_
  refine Wk.iload (q := 19) d1_17 rfl rfl ?_
  refine Wk.ifcF (q := 22) d1_19 rfl (by decide : ¬ (1 : Int32) = (0 : Int32)) ?_
  refine Wk.iloadN (q := 23) d1_22 rfl rfl ?_
  refine Wk.callS1 (q := 26) (argsL := [(.int z0)]) (rest := []) (fr := 0) (lo := 0) (v0 := (.int (tabN (z0 &&& (255 : Int32)).toNatClampNeg))) (m_cls hw F z0) (w_6 hw) (w_7 hw) (w_4 hw) (w_8 hw) (by decide) pd_2 rfl rfl rfl d1_23 rfl (W := 0) rfl (by decide) (by decide) (by decide) (by decide) ?_
  refine Wk.ifc (q := 33) (q' := 29) d1_26 (by decide) rfl rfl (fun (h1 : (tabN (z0 &&& (255 : Int32)).toNatClampNeg) = (0 : Int32)) => ?_) (fun (h1 : ¬ (tabN (z0 &&& (255 : Int32)).toNatClampNeg) = (0 : Int32)) => ?_)
  · refine Wk.iconst (q := 34) (v := (0 : Int32)) d1_33 rfl rfl ?_
    exact Wk.retZ rfl rfl d1_34 (by decide) (by decide) ⟨⟨_, rfl, Or.inl ⟨h1, rfl⟩⟩, rfl⟩
  · refine Wk.iconst (q := 30) (v := (1 : Int32)) d1_29 rfl rfl ?_
    refine Wk.goto (q := 34) d1_30 (by decide) rfl ?_
    exact Wk.retZ rfl rfl d1_34 (by decide) (by decide) ⟨⟨_, rfl, Or.inr (⟨h1, rfl⟩)⟩, rfl⟩
set_option maxRecDepth 65536 in
set_option maxHeartbeats 40000000 in
theorem m_24 {l : Launch} {Z : State} {a0 : Array Value} {n0 : Nat} {h : Heap}  {a_T : Addr} {c_T : Cell} (hw : ∀ d ∈ tables_1, d.before a0 Z = true) (F : OwnF Z h  a_T c_T) {a1 : Addr} {c1 : Cell} {b0 b1 b2 b3 : Int32} (A1 : Arr Z h a1 c1 .byte) (S1 : c1.slots.size = 4) (e_0 : c1.slots[0]? = some (Value.int b0)) (e_1 : c1.slots[1]? = some (Value.int b1)) (e_2 : c1.slots[2]? = some (Value.int b2)) (e_3 : c1.slots[3]? = some (Value.int b3)) (z0 : Int32) : Met l Z n0 (⟨"com/example/tallykey/tallykey/HttpSyntaxIsTextPinLaw", "ok", "(IIIB)Z"⟩ : MethodName) method_3_code 5 (Option.some Jvm.ClassFile.FieldType.boolean) (⟨1, 0, 0, 13⟩ : Room) #[(.int (3 : Int32)), (.int (0 : Int32)), (.int (4 : Int32)), (.int z0)] h (fun v h' => (∃ w, v = some w ∧ ((((tabN (z0 &&& (255 : Int32)).toNatClampNeg) = (0 : Int32)) ∧ w = (.int (0 : Int32))) ∨ ((¬ (tabN (z0 &&& (255 : Int32)).toNatClampNeg) = (0 : Int32)) ∧ w = (.int (1 : Int32))))) ∧ h' = h) := by
  refine Met.of_wk (ls := #[.val (.int (3 : Int32)), .val (.int (0 : Int32)), .val (.int (4 : Int32)), .val (.int z0), .unset]) (plainFor_of_name pn_0) (fun m => ef_1 m (3 : Int32) (0 : Int32) (4 : Int32) z0) ?_
  show Wk l Z n0 "com/example/tallykey/tallykey/HttpSyntaxIsTextPinLaw" "ok" method_3_code 5 (Option.some Jvm.ClassFile.FieldType.boolean) (⟨1, 0, 0, 13⟩ : Room) 0 0 (fun v h' => (∃ w, v = some w ∧ ((((tabN (z0 &&& (255 : Int32)).toNatClampNeg) = (0 : Int32)) ∧ w = (.int (0 : Int32))) ∨ ((¬ (tabN (z0 &&& (255 : Int32)).toNatClampNeg) = (0 : Int32)) ∧ w = (.int (1 : Int32))))) ∧ h' = h) h 0 0 0 #[.val (.int (3 : Int32)), .val (.int (0 : Int32)), .val (.int (4 : Int32)), .val (.int z0), .unset] []
  refine Wk.iloadN (q := 1) d1_0 rfl rfl ?_
  refine Wk.iloadN (q := 2) d1_1 rfl rfl ?_
  refine Wk.icmpF (q := 5) d1_2 rfl (by decide : ¬ (3 : Int32) < (0 : Int32)) ?_
  refine Wk.iloadN (q := 6) d1_5 rfl rfl ?_
  refine Wk.iloadN (q := 7) d1_6 rfl rfl ?_
  refine Wk.icmpF (q := 10) d1_7 rfl (by decide : (3 : Int32) < (4 : Int32)) ?_
  refine Wk.iconst (q := 11) (v := (1 : Int32)) d1_10 rfl rfl ?_
  refine Wk.goto (q := 15) d1_11 (by decide) rfl ?_
  refine Wk.istore (q := 17) (ls' := #[.val (.int (3 : Int32)), .val (.int (0 : Int32)), .val (.int (4 : Int32)), .val (.int z0), .val (.int (1 : Int32))]) d1_15 rfl rfl ?_
  refine Wk.iload (q := 19) d1_17 rfl rfl ?_
  refine Wk.ifcF (q := 22) d1_19 rfl (by decide : ¬ (1 : Int32) = (0 : Int32)) ?_
  refine Wk.iloadN (q := 23) d1_22 rfl rfl ?_
  refine Wk.callS1 (q := 26) (argsL := [(.int z0)]) (rest := []) (fr := 0) (lo := 0) (v0 := (.int (tabN (z0 &&& (255 : Int32)).toNatClampNeg))) (m_cls hw F z0) (w_6 hw) (w_7 hw) (w_4 hw) (w_8 hw) (by decide) pd_2 rfl rfl rfl d1_23 rfl (W := 0) rfl (by decide) (by decide) (by decide) (by decide) ?_
  refine Wk.ifc (q := 33) (q' := 29) d1_26 (by decide) rfl rfl (fun (h1 : (tabN (z0 &&& (255 : Int32)).toNatClampNeg) = (0 : Int32)) => ?_) (fun (h1 : ¬ (tabN (z0 &&& (255 : Int32)).toNatClampNeg) = (0 : Int32)) => ?_)
  · refine Wk.iconst (q := 34) (v := (0 : Int32)) d1_33 rfl rfl ?_
    exact Wk.retZ rfl rfl d1_34 (by decide) (by decide) ⟨⟨_, rfl, Or.inl ⟨h1, rfl⟩⟩, rfl⟩
  · refine Wk.iconst (q := 30) (v := (1 : Int32)) d1_29 rfl rfl ?_
    refine Wk.goto (q := 34) d1_30 (by decide) rfl ?_
    exact Wk.retZ rfl rfl d1_34 (by decide) (by decide) ⟨⟨_, rfl, Or.inr (⟨h1, rfl⟩)⟩, rfl⟩
set_option maxRecDepth 65536 in
set_option maxHeartbeats 40000000 in
theorem m_25 {l : Launch} {Z : State} {a0 : Array Value} {n0 : Nat} {h : Heap}  {a_T : Addr} {c_T : Cell} (hw : ∀ d ∈ tables_1, d.before a0 Z = true) (F : OwnF Z h  a_T c_T) {a1 : Addr} {c1 : Cell} {b0 b1 b2 b3 : Int32} (A1 : Arr Z h a1 c1 .byte) (S1 : c1.slots.size = 4) (e_0 : c1.slots[0]? = some (Value.int b0)) (e_1 : c1.slots[1]? = some (Value.int b1)) (e_2 : c1.slots[2]? = some (Value.int b2)) (e_3 : c1.slots[3]? = some (Value.int b3)) (z0 : Int32) : Met l Z n0 (⟨"com/example/tallykey/tallykey/HttpSyntaxIsTextPinLaw", "ok", "(IIIB)Z"⟩ : MethodName) method_3_code 5 (Option.some Jvm.ClassFile.FieldType.boolean) (⟨0, 0, 0, 0⟩ : Room) #[(.int (0 : Int32)), (.int (1 : Int32)), (.int (0 : Int32)), (.int z0)] h (fun v h' => v = some (.int (1 : Int32)) ∧ h' = h) := by
  refine Met.of_wk (ls := #[.val (.int (0 : Int32)), .val (.int (1 : Int32)), .val (.int (0 : Int32)), .val (.int z0), .unset]) (plainFor_of_name pn_0) (fun m => ef_1 m (0 : Int32) (1 : Int32) (0 : Int32) z0) ?_
  show Wk l Z n0 "com/example/tallykey/tallykey/HttpSyntaxIsTextPinLaw" "ok" method_3_code 5 (Option.some Jvm.ClassFile.FieldType.boolean) (⟨0, 0, 0, 0⟩ : Room) 0 0 (fun v h' => v = some (.int (1 : Int32)) ∧ h' = h) h 0 0 0 #[.val (.int (0 : Int32)), .val (.int (1 : Int32)), .val (.int (0 : Int32)), .val (.int z0), .unset] []
  refine Wk.iloadN (q := 1) d1_0 rfl rfl ?_
  refine Wk.iloadN (q := 2) d1_1 rfl rfl ?_
  refine Wk.icmpT (q := 14) d1_2 (by decide) rfl (by decide : (0 : Int32) < (1 : Int32)) ?_
  refine Wk.iconst (q := 15) (v := (0 : Int32)) d1_14 rfl rfl ?_
  refine Wk.istore (q := 17) (ls' := #[.val (.int (0 : Int32)), .val (.int (1 : Int32)), .val (.int (0 : Int32)), .val (.int z0), .val (.int (0 : Int32))]) d1_15 rfl rfl ?_
  refine Wk.iload (q := 19) d1_17 rfl rfl ?_
  refine Wk.ifcT (q := 29) d1_19 (by decide) rfl (by decide : (0 : Int32) = (0 : Int32)) ?_
  refine Wk.iconst (q := 30) (v := (1 : Int32)) d1_29 rfl rfl ?_
  refine Wk.goto (q := 34) d1_30 (by decide) rfl ?_
  exact Wk.retZ rfl rfl d1_34 (by decide) (by decide) ⟨rfl, rfl⟩
set_option maxRecDepth 65536 in
set_option maxHeartbeats 40000000 in
theorem m_26 {l : Launch} {Z : State} {a0 : Array Value} {n0 : Nat} {h : Heap}  {a_T : Addr} {c_T : Cell} (hw : ∀ d ∈ tables_1, d.before a0 Z = true) (F : OwnF Z h  a_T c_T) {a1 : Addr} {c1 : Cell} {b0 b1 b2 b3 : Int32} (A1 : Arr Z h a1 c1 .byte) (S1 : c1.slots.size = 4) (e_0 : c1.slots[0]? = some (Value.int b0)) (e_1 : c1.slots[1]? = some (Value.int b1)) (e_2 : c1.slots[2]? = some (Value.int b2)) (e_3 : c1.slots[3]? = some (Value.int b3)) (z0 : Int32) : Met l Z n0 (⟨"com/example/tallykey/tallykey/HttpSyntaxIsTextPinLaw", "ok", "(IIIB)Z"⟩ : MethodName) method_3_code 5 (Option.some Jvm.ClassFile.FieldType.boolean) (⟨0, 0, 0, 0⟩ : Room) #[(.int (1 : Int32)), (.int (1 : Int32)), (.int (0 : Int32)), (.int z0)] h (fun v h' => v = some (.int (1 : Int32)) ∧ h' = h) := by
  refine Met.of_wk (ls := #[.val (.int (1 : Int32)), .val (.int (1 : Int32)), .val (.int (0 : Int32)), .val (.int z0), .unset]) (plainFor_of_name pn_0) (fun m => ef_1 m (1 : Int32) (1 : Int32) (0 : Int32) z0) ?_
  show Wk l Z n0 "com/example/tallykey/tallykey/HttpSyntaxIsTextPinLaw" "ok" method_3_code 5 (Option.some Jvm.ClassFile.FieldType.boolean) (⟨0, 0, 0, 0⟩ : Room) 0 0 (fun v h' => v = some (.int (1 : Int32)) ∧ h' = h) h 0 0 0 #[.val (.int (1 : Int32)), .val (.int (1 : Int32)), .val (.int (0 : Int32)), .val (.int z0), .unset] []
  refine Wk.iloadN (q := 1) d1_0 rfl rfl ?_
  refine Wk.iloadN (q := 2) d1_1 rfl rfl ?_
  refine Wk.icmpF (q := 5) d1_2 rfl (by decide : ¬ (1 : Int32) < (1 : Int32)) ?_
  refine Wk.iloadN (q := 6) d1_5 rfl rfl ?_
  refine Wk.iloadN (q := 7) d1_6 rfl rfl ?_
  refine Wk.icmpT (q := 14) d1_7 (by decide) rfl (by decide : ¬ (1 : Int32) < (0 : Int32)) ?_
  refine Wk.iconst (q := 15) (v := (0 : Int32)) d1_14 rfl rfl ?_
  refine Wk.istore (q := 17) (ls' := #[.val (.int (1 : Int32)), .val (.int (1 : Int32)), .val (.int (0 : Int32)), .val (.int z0), .val (.int (0 : Int32))]) d1_15 rfl rfl ?_
  refine Wk.iload (q := 19) d1_17 rfl rfl ?_
  refine Wk.ifcT (q := 29) d1_19 (by decide) rfl (by decide : (0 : Int32) = (0 : Int32)) ?_
  refine Wk.iconst (q := 30) (v := (1 : Int32)) d1_29 rfl rfl ?_
  refine Wk.goto (q := 34) d1_30 (by decide) rfl ?_
  exact Wk.retZ rfl rfl d1_34 (by decide) (by decide) ⟨rfl, rfl⟩
set_option maxRecDepth 65536 in
set_option maxHeartbeats 40000000 in
theorem m_27 {l : Launch} {Z : State} {a0 : Array Value} {n0 : Nat} {h : Heap}  {a_T : Addr} {c_T : Cell} (hw : ∀ d ∈ tables_1, d.before a0 Z = true) (F : OwnF Z h  a_T c_T) {a1 : Addr} {c1 : Cell} {b0 b1 b2 b3 : Int32} (A1 : Arr Z h a1 c1 .byte) (S1 : c1.slots.size = 4) (e_0 : c1.slots[0]? = some (Value.int b0)) (e_1 : c1.slots[1]? = some (Value.int b1)) (e_2 : c1.slots[2]? = some (Value.int b2)) (e_3 : c1.slots[3]? = some (Value.int b3)) (z0 : Int32) : Met l Z n0 (⟨"com/example/tallykey/tallykey/HttpSyntaxIsTextPinLaw", "ok", "(IIIB)Z"⟩ : MethodName) method_3_code 5 (Option.some Jvm.ClassFile.FieldType.boolean) (⟨0, 0, 0, 0⟩ : Room) #[(.int (2 : Int32)), (.int (1 : Int32)), (.int (0 : Int32)), (.int z0)] h (fun v h' => v = some (.int (1 : Int32)) ∧ h' = h) := by
  refine Met.of_wk (ls := #[.val (.int (2 : Int32)), .val (.int (1 : Int32)), .val (.int (0 : Int32)), .val (.int z0), .unset]) (plainFor_of_name pn_0) (fun m => ef_1 m (2 : Int32) (1 : Int32) (0 : Int32) z0) ?_
  show Wk l Z n0 "com/example/tallykey/tallykey/HttpSyntaxIsTextPinLaw" "ok" method_3_code 5 (Option.some Jvm.ClassFile.FieldType.boolean) (⟨0, 0, 0, 0⟩ : Room) 0 0 (fun v h' => v = some (.int (1 : Int32)) ∧ h' = h) h 0 0 0 #[.val (.int (2 : Int32)), .val (.int (1 : Int32)), .val (.int (0 : Int32)), .val (.int z0), .unset] []
  refine Wk.iloadN (q := 1) d1_0 rfl rfl ?_
  refine Wk.iloadN (q := 2) d1_1 rfl rfl ?_
  refine Wk.icmpF (q := 5) d1_2 rfl (by decide : ¬ (2 : Int32) < (1 : Int32)) ?_
  refine Wk.iloadN (q := 6) d1_5 rfl rfl ?_
  refine Wk.iloadN (q := 7) d1_6 rfl rfl ?_
  refine Wk.icmpT (q := 14) d1_7 (by decide) rfl (by decide : ¬ (2 : Int32) < (0 : Int32)) ?_
  refine Wk.iconst (q := 15) (v := (0 : Int32)) d1_14 rfl rfl ?_
  refine Wk.istore (q := 17) (ls' := #[.val (.int (2 : Int32)), .val (.int (1 : Int32)), .val (.int (0 : Int32)), .val (.int z0), .val (.int (0 : Int32))]) d1_15 rfl rfl ?_
  refine Wk.iload (q := 19) d1_17 rfl rfl ?_
  refine Wk.ifcT (q := 29) d1_19 (by decide) rfl (by decide : (0 : Int32) = (0 : Int32)) ?_
  refine Wk.iconst (q := 30) (v := (1 : Int32)) d1_29 rfl rfl ?_
  refine Wk.goto (q := 34) d1_30 (by decide) rfl ?_
  exact Wk.retZ rfl rfl d1_34 (by decide) (by decide) ⟨rfl, rfl⟩
set_option maxRecDepth 65536 in
set_option maxHeartbeats 40000000 in
theorem m_28 {l : Launch} {Z : State} {a0 : Array Value} {n0 : Nat} {h : Heap}  {a_T : Addr} {c_T : Cell} (hw : ∀ d ∈ tables_1, d.before a0 Z = true) (F : OwnF Z h  a_T c_T) {a1 : Addr} {c1 : Cell} {b0 b1 b2 b3 : Int32} (A1 : Arr Z h a1 c1 .byte) (S1 : c1.slots.size = 4) (e_0 : c1.slots[0]? = some (Value.int b0)) (e_1 : c1.slots[1]? = some (Value.int b1)) (e_2 : c1.slots[2]? = some (Value.int b2)) (e_3 : c1.slots[3]? = some (Value.int b3)) (z0 : Int32) : Met l Z n0 (⟨"com/example/tallykey/tallykey/HttpSyntaxIsTextPinLaw", "ok", "(IIIB)Z"⟩ : MethodName) method_3_code 5 (Option.some Jvm.ClassFile.FieldType.boolean) (⟨0, 0, 0, 0⟩ : Room) #[(.int (3 : Int32)), (.int (1 : Int32)), (.int (0 : Int32)), (.int z0)] h (fun v h' => v = some (.int (1 : Int32)) ∧ h' = h) := by
  refine Met.of_wk (ls := #[.val (.int (3 : Int32)), .val (.int (1 : Int32)), .val (.int (0 : Int32)), .val (.int z0), .unset]) (plainFor_of_name pn_0) (fun m => ef_1 m (3 : Int32) (1 : Int32) (0 : Int32) z0) ?_
  show Wk l Z n0 "com/example/tallykey/tallykey/HttpSyntaxIsTextPinLaw" "ok" method_3_code 5 (Option.some Jvm.ClassFile.FieldType.boolean) (⟨0, 0, 0, 0⟩ : Room) 0 0 (fun v h' => v = some (.int (1 : Int32)) ∧ h' = h) h 0 0 0 #[.val (.int (3 : Int32)), .val (.int (1 : Int32)), .val (.int (0 : Int32)), .val (.int z0), .unset] []
  refine Wk.iloadN (q := 1) d1_0 rfl rfl ?_
  refine Wk.iloadN (q := 2) d1_1 rfl rfl ?_
  refine Wk.icmpF (q := 5) d1_2 rfl (by decide : ¬ (3 : Int32) < (1 : Int32)) ?_
  refine Wk.iloadN (q := 6) d1_5 rfl rfl ?_
  refine Wk.iloadN (q := 7) d1_6 rfl rfl ?_
  refine Wk.icmpT (q := 14) d1_7 (by decide) rfl (by decide : ¬ (3 : Int32) < (0 : Int32)) ?_
  refine Wk.iconst (q := 15) (v := (0 : Int32)) d1_14 rfl rfl ?_
  refine Wk.istore (q := 17) (ls' := #[.val (.int (3 : Int32)), .val (.int (1 : Int32)), .val (.int (0 : Int32)), .val (.int z0), .val (.int (0 : Int32))]) d1_15 rfl rfl ?_
  refine Wk.iload (q := 19) d1_17 rfl rfl ?_
  refine Wk.ifcT (q := 29) d1_19 (by decide) rfl (by decide : (0 : Int32) = (0 : Int32)) ?_
  refine Wk.iconst (q := 30) (v := (1 : Int32)) d1_29 rfl rfl ?_
  refine Wk.goto (q := 34) d1_30 (by decide) rfl ?_
  exact Wk.retZ rfl rfl d1_34 (by decide) (by decide) ⟨rfl, rfl⟩
set_option maxRecDepth 65536 in
set_option maxHeartbeats 40000000 in
theorem m_29 {l : Launch} {Z : State} {a0 : Array Value} {n0 : Nat} {h : Heap}  {a_T : Addr} {c_T : Cell} (hw : ∀ d ∈ tables_1, d.before a0 Z = true) (F : OwnF Z h  a_T c_T) {a1 : Addr} {c1 : Cell} {b0 b1 b2 b3 : Int32} (A1 : Arr Z h a1 c1 .byte) (S1 : c1.slots.size = 4) (e_0 : c1.slots[0]? = some (Value.int b0)) (e_1 : c1.slots[1]? = some (Value.int b1)) (e_2 : c1.slots[2]? = some (Value.int b2)) (e_3 : c1.slots[3]? = some (Value.int b3)) : Met l Z n0 (⟨"com/example/tallykey/tallykey/HttpSyntax", "isText", "([BII)Z"⟩ : MethodName) prog_5_method_5_code 4 (Option.some Jvm.ClassFile.FieldType.boolean) (⟨0, 0, 0, 0⟩ : Room) #[(.ref a1), (.int (1 : Int32)), (.int (0 : Int32))] h (fun v h' => v = some (.int (1 : Int32)) ∧ h' = h) := by
  refine Met.of_wk (ls := #[.val (.ref a1), .val (.int (1 : Int32)), .val (.int (0 : Int32)), .unset]) (plainFor_of_name pn_1) (fun m => ef_2 m a1 (1 : Int32) (0 : Int32)) ?_
  show Wk l Z n0 "com/example/tallykey/tallykey/HttpSyntax" "isText" prog_5_method_5_code 4 (Option.some Jvm.ClassFile.FieldType.boolean) (⟨0, 0, 0, 0⟩ : Room) 0 0 (fun v h' => v = some (.int (1 : Int32)) ∧ h' = h) h 0 0 0 #[.val (.ref a1), .val (.int (1 : Int32)), .val (.int (0 : Int32)), .unset] []
  refine Wk.iloadN (q := 1) d3_0 rfl rfl ?_
  refine Wk.istoreN (q := 2) (ls' := #[.val (.ref a1), .val (.int (1 : Int32)), .val (.int (0 : Int32)), .val (.int (1 : Int32))]) d3_1 rfl rfl ?_
  refine Wk.iloadN (q := 3) d3_2 rfl rfl ?_
  refine Wk.iloadN (q := 4) d3_3 rfl rfl ?_
  refine Wk.icmpT (q := 29) d3_4 (by decide) rfl (by decide : ¬ (1 : Int32) < (0 : Int32)) ?_
  refine Wk.iconst (q := 30) (v := (1 : Int32)) d3_29 rfl rfl ?_
  exact Wk.retZ rfl rfl d3_30 (by decide) (by decide) ⟨rfl, rfl⟩
set_option maxRecDepth 65536 in
set_option maxHeartbeats 40000000 in
theorem m_30 {l : Launch} {Z : State} {a0 : Array Value} {n0 : Nat} {h : Heap}  {a_T : Addr} {c_T : Cell} (hw : ∀ d ∈ tables_1, d.before a0 Z = true) (F : OwnF Z h  a_T c_T) {a1 : Addr} {c1 : Cell} {b0 b1 b2 b3 : Int32} (A1 : Arr Z h a1 c1 .byte) (S1 : c1.slots.size = 4) (e_0 : c1.slots[0]? = some (Value.int b0)) (e_1 : c1.slots[1]? = some (Value.int b1)) (e_2 : c1.slots[2]? = some (Value.int b2)) (e_3 : c1.slots[3]? = some (Value.int b3)) (z0 : Int32) : Met l Z n0 (⟨"com/example/tallykey/tallykey/HttpSyntaxIsTextPinLaw", "ok", "(IIIB)Z"⟩ : MethodName) method_3_code 5 (Option.some Jvm.ClassFile.FieldType.boolean) (⟨0, 0, 0, 0⟩ : Room) #[(.int (0 : Int32)), (.int (1 : Int32)), (.int (1 : Int32)), (.int z0)] h (fun v h' => v = some (.int (1 : Int32)) ∧ h' = h) := by
  refine Met.of_wk (ls := #[.val (.int (0 : Int32)), .val (.int (1 : Int32)), .val (.int (1 : Int32)), .val (.int z0), .unset]) (plainFor_of_name pn_0) (fun m => ef_1 m (0 : Int32) (1 : Int32) (1 : Int32) z0) ?_
  show Wk l Z n0 "com/example/tallykey/tallykey/HttpSyntaxIsTextPinLaw" "ok" method_3_code 5 (Option.some Jvm.ClassFile.FieldType.boolean) (⟨0, 0, 0, 0⟩ : Room) 0 0 (fun v h' => v = some (.int (1 : Int32)) ∧ h' = h) h 0 0 0 #[.val (.int (0 : Int32)), .val (.int (1 : Int32)), .val (.int (1 : Int32)), .val (.int z0), .unset] []
  refine Wk.iloadN (q := 1) d1_0 rfl rfl ?_
  refine Wk.iloadN (q := 2) d1_1 rfl rfl ?_
  refine Wk.icmpT (q := 14) d1_2 (by decide) rfl (by decide : (0 : Int32) < (1 : Int32)) ?_
  refine Wk.iconst (q := 15) (v := (0 : Int32)) d1_14 rfl rfl ?_
  refine Wk.istore (q := 17) (ls' := #[.val (.int (0 : Int32)), .val (.int (1 : Int32)), .val (.int (1 : Int32)), .val (.int z0), .val (.int (0 : Int32))]) d1_15 rfl rfl ?_
  refine Wk.iload (q := 19) d1_17 rfl rfl ?_
  refine Wk.ifcT (q := 29) d1_19 (by decide) rfl (by decide : (0 : Int32) = (0 : Int32)) ?_
  refine Wk.iconst (q := 30) (v := (1 : Int32)) d1_29 rfl rfl ?_
  refine Wk.goto (q := 34) d1_30 (by decide) rfl ?_
  exact Wk.retZ rfl rfl d1_34 (by decide) (by decide) ⟨rfl, rfl⟩
set_option maxRecDepth 65536 in
set_option maxHeartbeats 40000000 in
theorem m_31 {l : Launch} {Z : State} {a0 : Array Value} {n0 : Nat} {h : Heap}  {a_T : Addr} {c_T : Cell} (hw : ∀ d ∈ tables_1, d.before a0 Z = true) (F : OwnF Z h  a_T c_T) {a1 : Addr} {c1 : Cell} {b0 b1 b2 b3 : Int32} (A1 : Arr Z h a1 c1 .byte) (S1 : c1.slots.size = 4) (e_0 : c1.slots[0]? = some (Value.int b0)) (e_1 : c1.slots[1]? = some (Value.int b1)) (e_2 : c1.slots[2]? = some (Value.int b2)) (e_3 : c1.slots[3]? = some (Value.int b3)) (z0 : Int32) : Met l Z n0 (⟨"com/example/tallykey/tallykey/HttpSyntaxIsTextPinLaw", "ok", "(IIIB)Z"⟩ : MethodName) method_3_code 5 (Option.some Jvm.ClassFile.FieldType.boolean) (⟨0, 0, 0, 0⟩ : Room) #[(.int (1 : Int32)), (.int (1 : Int32)), (.int (1 : Int32)), (.int z0)] h (fun v h' => v = some (.int (1 : Int32)) ∧ h' = h) := by
  refine Met.of_wk (ls := #[.val (.int (1 : Int32)), .val (.int (1 : Int32)), .val (.int (1 : Int32)), .val (.int z0), .unset]) (plainFor_of_name pn_0) (fun m => ef_1 m (1 : Int32) (1 : Int32) (1 : Int32) z0) ?_
  show Wk l Z n0 "com/example/tallykey/tallykey/HttpSyntaxIsTextPinLaw" "ok" method_3_code 5 (Option.some Jvm.ClassFile.FieldType.boolean) (⟨0, 0, 0, 0⟩ : Room) 0 0 (fun v h' => v = some (.int (1 : Int32)) ∧ h' = h) h 0 0 0 #[.val (.int (1 : Int32)), .val (.int (1 : Int32)), .val (.int (1 : Int32)), .val (.int z0), .unset] []
  refine Wk.iloadN (q := 1) d1_0 rfl rfl ?_
  refine Wk.iloadN (q := 2) d1_1 rfl rfl ?_
  refine Wk.icmpF (q := 5) d1_2 rfl (by decide : ¬ (1 : Int32) < (1 : Int32)) ?_
  refine Wk.iloadN (q := 6) d1_5 rfl rfl ?_
  refine Wk.iloadN (q := 7) d1_6 rfl rfl ?_
  refine Wk.icmpT (q := 14) d1_7 (by decide) rfl (by decide : ¬ (1 : Int32) < (1 : Int32)) ?_
  refine Wk.iconst (q := 15) (v := (0 : Int32)) d1_14 rfl rfl ?_
  refine Wk.istore (q := 17) (ls' := #[.val (.int (1 : Int32)), .val (.int (1 : Int32)), .val (.int (1 : Int32)), .val (.int z0), .val (.int (0 : Int32))]) d1_15 rfl rfl ?_
  refine Wk.iload (q := 19) d1_17 rfl rfl ?_
  refine Wk.ifcT (q := 29) d1_19 (by decide) rfl (by decide : (0 : Int32) = (0 : Int32)) ?_
  refine Wk.iconst (q := 30) (v := (1 : Int32)) d1_29 rfl rfl ?_
  refine Wk.goto (q := 34) d1_30 (by decide) rfl ?_
  exact Wk.retZ rfl rfl d1_34 (by decide) (by decide) ⟨rfl, rfl⟩
set_option maxRecDepth 65536 in
set_option maxHeartbeats 40000000 in
theorem m_32 {l : Launch} {Z : State} {a0 : Array Value} {n0 : Nat} {h : Heap}  {a_T : Addr} {c_T : Cell} (hw : ∀ d ∈ tables_1, d.before a0 Z = true) (F : OwnF Z h  a_T c_T) {a1 : Addr} {c1 : Cell} {b0 b1 b2 b3 : Int32} (A1 : Arr Z h a1 c1 .byte) (S1 : c1.slots.size = 4) (e_0 : c1.slots[0]? = some (Value.int b0)) (e_1 : c1.slots[1]? = some (Value.int b1)) (e_2 : c1.slots[2]? = some (Value.int b2)) (e_3 : c1.slots[3]? = some (Value.int b3)) (z0 : Int32) : Met l Z n0 (⟨"com/example/tallykey/tallykey/HttpSyntaxIsTextPinLaw", "ok", "(IIIB)Z"⟩ : MethodName) method_3_code 5 (Option.some Jvm.ClassFile.FieldType.boolean) (⟨0, 0, 0, 0⟩ : Room) #[(.int (2 : Int32)), (.int (1 : Int32)), (.int (1 : Int32)), (.int z0)] h (fun v h' => v = some (.int (1 : Int32)) ∧ h' = h) := by
  refine Met.of_wk (ls := #[.val (.int (2 : Int32)), .val (.int (1 : Int32)), .val (.int (1 : Int32)), .val (.int z0), .unset]) (plainFor_of_name pn_0) (fun m => ef_1 m (2 : Int32) (1 : Int32) (1 : Int32) z0) ?_
  show Wk l Z n0 "com/example/tallykey/tallykey/HttpSyntaxIsTextPinLaw" "ok" method_3_code 5 (Option.some Jvm.ClassFile.FieldType.boolean) (⟨0, 0, 0, 0⟩ : Room) 0 0 (fun v h' => v = some (.int (1 : Int32)) ∧ h' = h) h 0 0 0 #[.val (.int (2 : Int32)), .val (.int (1 : Int32)), .val (.int (1 : Int32)), .val (.int z0), .unset] []
  refine Wk.iloadN (q := 1) d1_0 rfl rfl ?_
  refine Wk.iloadN (q := 2) d1_1 rfl rfl ?_
  refine Wk.icmpF (q := 5) d1_2 rfl (by decide : ¬ (2 : Int32) < (1 : Int32)) ?_
  refine Wk.iloadN (q := 6) d1_5 rfl rfl ?_
  refine Wk.iloadN (q := 7) d1_6 rfl rfl ?_
  refine Wk.icmpT (q := 14) d1_7 (by decide) rfl (by decide : ¬ (2 : Int32) < (1 : Int32)) ?_
  refine Wk.iconst (q := 15) (v := (0 : Int32)) d1_14 rfl rfl ?_
  refine Wk.istore (q := 17) (ls' := #[.val (.int (2 : Int32)), .val (.int (1 : Int32)), .val (.int (1 : Int32)), .val (.int z0), .val (.int (0 : Int32))]) d1_15 rfl rfl ?_
  refine Wk.iload (q := 19) d1_17 rfl rfl ?_
  refine Wk.ifcT (q := 29) d1_19 (by decide) rfl (by decide : (0 : Int32) = (0 : Int32)) ?_
  refine Wk.iconst (q := 30) (v := (1 : Int32)) d1_29 rfl rfl ?_
  refine Wk.goto (q := 34) d1_30 (by decide) rfl ?_
  exact Wk.retZ rfl rfl d1_34 (by decide) (by decide) ⟨rfl, rfl⟩
set_option maxRecDepth 65536 in
set_option maxHeartbeats 40000000 in
theorem m_33 {l : Launch} {Z : State} {a0 : Array Value} {n0 : Nat} {h : Heap}  {a_T : Addr} {c_T : Cell} (hw : ∀ d ∈ tables_1, d.before a0 Z = true) (F : OwnF Z h  a_T c_T) {a1 : Addr} {c1 : Cell} {b0 b1 b2 b3 : Int32} (A1 : Arr Z h a1 c1 .byte) (S1 : c1.slots.size = 4) (e_0 : c1.slots[0]? = some (Value.int b0)) (e_1 : c1.slots[1]? = some (Value.int b1)) (e_2 : c1.slots[2]? = some (Value.int b2)) (e_3 : c1.slots[3]? = some (Value.int b3)) (z0 : Int32) : Met l Z n0 (⟨"com/example/tallykey/tallykey/HttpSyntaxIsTextPinLaw", "ok", "(IIIB)Z"⟩ : MethodName) method_3_code 5 (Option.some Jvm.ClassFile.FieldType.boolean) (⟨0, 0, 0, 0⟩ : Room) #[(.int (3 : Int32)), (.int (1 : Int32)), (.int (1 : Int32)), (.int z0)] h (fun v h' => v = some (.int (1 : Int32)) ∧ h' = h) := by
  refine Met.of_wk (ls := #[.val (.int (3 : Int32)), .val (.int (1 : Int32)), .val (.int (1 : Int32)), .val (.int z0), .unset]) (plainFor_of_name pn_0) (fun m => ef_1 m (3 : Int32) (1 : Int32) (1 : Int32) z0) ?_
  show Wk l Z n0 "com/example/tallykey/tallykey/HttpSyntaxIsTextPinLaw" "ok" method_3_code 5 (Option.some Jvm.ClassFile.FieldType.boolean) (⟨0, 0, 0, 0⟩ : Room) 0 0 (fun v h' => v = some (.int (1 : Int32)) ∧ h' = h) h 0 0 0 #[.val (.int (3 : Int32)), .val (.int (1 : Int32)), .val (.int (1 : Int32)), .val (.int z0), .unset] []
  refine Wk.iloadN (q := 1) d1_0 rfl rfl ?_
  refine Wk.iloadN (q := 2) d1_1 rfl rfl ?_
  refine Wk.icmpF (q := 5) d1_2 rfl (by decide : ¬ (3 : Int32) < (1 : Int32)) ?_
  refine Wk.iloadN (q := 6) d1_5 rfl rfl ?_
  refine Wk.iloadN (q := 7) d1_6 rfl rfl ?_
  refine Wk.icmpT (q := 14) d1_7 (by decide) rfl (by decide : ¬ (3 : Int32) < (1 : Int32)) ?_
  refine Wk.iconst (q := 15) (v := (0 : Int32)) d1_14 rfl rfl ?_
  refine Wk.istore (q := 17) (ls' := #[.val (.int (3 : Int32)), .val (.int (1 : Int32)), .val (.int (1 : Int32)), .val (.int z0), .val (.int (0 : Int32))]) d1_15 rfl rfl ?_
  refine Wk.iload (q := 19) d1_17 rfl rfl ?_
  refine Wk.ifcT (q := 29) d1_19 (by decide) rfl (by decide : (0 : Int32) = (0 : Int32)) ?_
  refine Wk.iconst (q := 30) (v := (1 : Int32)) d1_29 rfl rfl ?_
  refine Wk.goto (q := 34) d1_30 (by decide) rfl ?_
  exact Wk.retZ rfl rfl d1_34 (by decide) (by decide) ⟨rfl, rfl⟩
set_option maxRecDepth 65536 in
set_option maxHeartbeats 40000000 in
theorem m_34 {l : Launch} {Z : State} {a0 : Array Value} {n0 : Nat} {h : Heap}  {a_T : Addr} {c_T : Cell} (hw : ∀ d ∈ tables_1, d.before a0 Z = true) (F : OwnF Z h  a_T c_T) {a1 : Addr} {c1 : Cell} {b0 b1 b2 b3 : Int32} (A1 : Arr Z h a1 c1 .byte) (S1 : c1.slots.size = 4) (e_0 : c1.slots[0]? = some (Value.int b0)) (e_1 : c1.slots[1]? = some (Value.int b1)) (e_2 : c1.slots[2]? = some (Value.int b2)) (e_3 : c1.slots[3]? = some (Value.int b3)) : Met l Z n0 (⟨"com/example/tallykey/tallykey/HttpSyntax", "isText", "([BII)Z"⟩ : MethodName) prog_5_method_5_code 4 (Option.some Jvm.ClassFile.FieldType.boolean) (⟨0, 0, 0, 0⟩ : Room) #[(.ref a1), (.int (1 : Int32)), (.int (1 : Int32))] h (fun v h' => v = some (.int (1 : Int32)) ∧ h' = h) := by
  refine Met.of_wk (ls := #[.val (.ref a1), .val (.int (1 : Int32)), .val (.int (1 : Int32)), .unset]) (plainFor_of_name pn_1) (fun m => ef_2 m a1 (1 : Int32) (1 : Int32)) ?_
  show Wk l Z n0 "com/example/tallykey/tallykey/HttpSyntax" "isText" prog_5_method_5_code 4 (Option.some Jvm.ClassFile.FieldType.boolean) (⟨0, 0, 0, 0⟩ : Room) 0 0 (fun v h' => v = some (.int (1 : Int32)) ∧ h' = h) h 0 0 0 #[.val (.ref a1), .val (.int (1 : Int32)), .val (.int (1 : Int32)), .unset] []
  refine Wk.iloadN (q := 1) d3_0 rfl rfl ?_
  refine Wk.istoreN (q := 2) (ls' := #[.val (.ref a1), .val (.int (1 : Int32)), .val (.int (1 : Int32)), .val (.int (1 : Int32))]) d3_1 rfl rfl ?_
  refine Wk.iloadN (q := 3) d3_2 rfl rfl ?_
  refine Wk.iloadN (q := 4) d3_3 rfl rfl ?_
  refine Wk.icmpT (q := 29) d3_4 (by decide) rfl (by decide : ¬ (1 : Int32) < (1 : Int32)) ?_
  refine Wk.iconst (q := 30) (v := (1 : Int32)) d3_29 rfl rfl ?_
  exact Wk.retZ rfl rfl d3_30 (by decide) (by decide) ⟨rfl, rfl⟩
set_option maxRecDepth 65536 in
set_option maxHeartbeats 40000000 in
theorem m_35 {l : Launch} {Z : State} {a0 : Array Value} {n0 : Nat} {h : Heap}  {a_T : Addr} {c_T : Cell} (hw : ∀ d ∈ tables_1, d.before a0 Z = true) (F : OwnF Z h  a_T c_T) {a1 : Addr} {c1 : Cell} {b0 b1 b2 b3 : Int32} (A1 : Arr Z h a1 c1 .byte) (S1 : c1.slots.size = 4) (e_0 : c1.slots[0]? = some (Value.int b0)) (e_1 : c1.slots[1]? = some (Value.int b1)) (e_2 : c1.slots[2]? = some (Value.int b2)) (e_3 : c1.slots[3]? = some (Value.int b3)) (z0 : Int32) : Met l Z n0 (⟨"com/example/tallykey/tallykey/HttpSyntaxIsTextPinLaw", "ok", "(IIIB)Z"⟩ : MethodName) method_3_code 5 (Option.some Jvm.ClassFile.FieldType.boolean) (⟨0, 0, 0, 0⟩ : Room) #[(.int (0 : Int32)), (.int (1 : Int32)), (.int (2 : Int32)), (.int z0)] h (fun v h' => v = some (.int (1 : Int32)) ∧ h' = h) := by
  refine Met.of_wk (ls := #[.val (.int (0 : Int32)), .val (.int (1 : Int32)), .val (.int (2 : Int32)), .val (.int z0), .unset]) (plainFor_of_name pn_0) (fun m => ef_1 m (0 : Int32) (1 : Int32) (2 : Int32) z0) ?_
  show Wk l Z n0 "com/example/tallykey/tallykey/HttpSyntaxIsTextPinLaw" "ok" method_3_code 5 (Option.some Jvm.ClassFile.FieldType.boolean) (⟨0, 0, 0, 0⟩ : Room) 0 0 (fun v h' => v = some (.int (1 : Int32)) ∧ h' = h) h 0 0 0 #[.val (.int (0 : Int32)), .val (.int (1 : Int32)), .val (.int (2 : Int32)), .val (.int z0), .unset] []
  refine Wk.iloadN (q := 1) d1_0 rfl rfl ?_
  refine Wk.iloadN (q := 2) d1_1 rfl rfl ?_
  refine Wk.icmpT (q := 14) d1_2 (by decide) rfl (by decide : (0 : Int32) < (1 : Int32)) ?_
  refine Wk.iconst (q := 15) (v := (0 : Int32)) d1_14 rfl rfl ?_
  refine Wk.istore (q := 17) (ls' := #[.val (.int (0 : Int32)), .val (.int (1 : Int32)), .val (.int (2 : Int32)), .val (.int z0), .val (.int (0 : Int32))]) d1_15 rfl rfl ?_
  refine Wk.iload (q := 19) d1_17 rfl rfl ?_
  refine Wk.ifcT (q := 29) d1_19 (by decide) rfl (by decide : (0 : Int32) = (0 : Int32)) ?_
  refine Wk.iconst (q := 30) (v := (1 : Int32)) d1_29 rfl rfl ?_
  refine Wk.goto (q := 34) d1_30 (by decide) rfl ?_
  exact Wk.retZ rfl rfl d1_34 (by decide) (by decide) ⟨rfl, rfl⟩
set_option maxRecDepth 65536 in
set_option maxHeartbeats 40000000 in
theorem m_36 {l : Launch} {Z : State} {a0 : Array Value} {n0 : Nat} {h : Heap}  {a_T : Addr} {c_T : Cell} (hw : ∀ d ∈ tables_1, d.before a0 Z = true) (F : OwnF Z h  a_T c_T) {a1 : Addr} {c1 : Cell} {b0 b1 b2 b3 : Int32} (A1 : Arr Z h a1 c1 .byte) (S1 : c1.slots.size = 4) (e_0 : c1.slots[0]? = some (Value.int b0)) (e_1 : c1.slots[1]? = some (Value.int b1)) (e_2 : c1.slots[2]? = some (Value.int b2)) (e_3 : c1.slots[3]? = some (Value.int b3)) (z0 : Int32) : Met l Z n0 (⟨"com/example/tallykey/tallykey/HttpSyntaxIsTextPinLaw", "ok", "(IIIB)Z"⟩ : MethodName) method_3_code 5 (Option.some Jvm.ClassFile.FieldType.boolean) (⟨1, 0, 0, 13⟩ : Room) #[(.int (1 : Int32)), (.int (1 : Int32)), (.int (2 : Int32)), (.int z0)] h (fun v h' => (∃ w, v = some w ∧ ((((tabN (z0 &&& (255 : Int32)).toNatClampNeg) = (0 : Int32)) ∧ w = (.int (0 : Int32))) ∨ ((¬ (tabN (z0 &&& (255 : Int32)).toNatClampNeg) = (0 : Int32)) ∧ w = (.int (1 : Int32))))) ∧ h' = h) := by
  refine Met.of_wk (ls := #[.val (.int (1 : Int32)), .val (.int (1 : Int32)), .val (.int (2 : Int32)), .val (.int z0), .unset]) (plainFor_of_name pn_0) (fun m => ef_1 m (1 : Int32) (1 : Int32) (2 : Int32) z0) ?_
  show Wk l Z n0 "com/example/tallykey/tallykey/HttpSyntaxIsTextPinLaw" "ok" method_3_code 5 (Option.some Jvm.ClassFile.FieldType.boolean) (⟨1, 0, 0, 13⟩ : Room) 0 0 (fun v h' => (∃ w, v = some w ∧ ((((tabN (z0 &&& (255 : Int32)).toNatClampNeg) = (0 : Int32)) ∧ w = (.int (0 : Int32))) ∨ ((¬ (tabN (z0 &&& (255 : Int32)).toNatClampNeg) = (0 : Int32)) ∧ w = (.int (1 : Int32))))) ∧ h' = h) h 0 0 0 #[.val (.int (1 : Int32)), .val (.int (1 : Int32)), .val (.int (2 : Int32)), .val (.int z0), .unset] []
  refine Wk.iloadN (q := 1) d1_0 rfl rfl ?_
  refine Wk.iloadN (q := 2) d1_1 rfl rfl ?_
  refine Wk.icmpF (q := 5) d1_2 rfl (by decide : ¬ (1 : Int32) < (1 : Int32)) ?_
  refine Wk.iloadN (q := 6) d1_5 rfl rfl ?_
  refine Wk.iloadN (q := 7) d1_6 rfl rfl ?_
  refine Wk.icmpF (q := 10) d1_7 rfl (by decide : (1 : Int32) < (2 : Int32)) ?_
  refine Wk.iconst (q := 11) (v := (1 : Int32)) d1_10 rfl rfl ?_
  refine Wk.goto (q := 15) d1_11 (by decide) rfl ?_
  refine Wk.istore (q := 17) (ls' := #[.val (.int (1 : Int32)), .val (.int (1 : Int32)), .val (.int (2 : Int32)), .val (.int z0), .val (.int (1 : Int32))]) d1_15 rfl rfl ?_
  refine Wk.iload (q := 19) d1_17 rfl rfl ?_
  refine Wk.ifcF (q := 22) d1_19 rfl (by decide : ¬ (1 : Int32) = (0 : Int32)) ?_
  refine Wk.iloadN (q := 23) d1_22 rfl rfl ?_
  refine Wk.callS1 (q := 26) (argsL := [(.int z0)]) (rest := []) (fr := 0) (lo := 0) (v0 := (.int (tabN (z0 &&& (255 : Int32)).toNatClampNeg))) (m_cls hw F z0) (w_6 hw) (w_7 hw) (w_4 hw) (w_8 hw) (by decide) pd_2 rfl rfl rfl d1_23 rfl (W := 0) rfl (by decide) (by decide) (by decide) (by decide) ?_
  refine Wk.ifc (q := 33) (q' := 29) d1_26 (by decide) rfl rfl (fun (h1 : (tabN (z0 &&& (255 : Int32)).toNatClampNeg) = (0 : Int32)) => ?_) (fun (h1 : ¬ (tabN (z0 &&& (255 : Int32)).toNatClampNeg) = (0 : Int32)) => ?_)
  · refine Wk.iconst (q := 34) (v := (0 : Int32)) d1_33 rfl rfl ?_
    exact Wk.retZ rfl rfl d1_34 (by decide) (by decide) ⟨⟨_, rfl, Or.inl ⟨h1, rfl⟩⟩, rfl⟩
  · refine Wk.iconst (q := 30) (v := (1 : Int32)) d1_29 rfl rfl ?_
    refine Wk.goto (q := 34) d1_30 (by decide) rfl ?_
    exact Wk.retZ rfl rfl d1_34 (by decide) (by decide) ⟨⟨_, rfl, Or.inr (⟨h1, rfl⟩)⟩, rfl⟩
set_option maxRecDepth 65536 in
set_option maxHeartbeats 40000000 in
theorem m_37 {l : Launch} {Z : State} {a0 : Array Value} {n0 : Nat} {h : Heap}  {a_T : Addr} {c_T : Cell} (hw : ∀ d ∈ tables_1, d.before a0 Z = true) (F : OwnF Z h  a_T c_T) {a1 : Addr} {c1 : Cell} {b0 b1 b2 b3 : Int32} (A1 : Arr Z h a1 c1 .byte) (S1 : c1.slots.size = 4) (e_0 : c1.slots[0]? = some (Value.int b0)) (e_1 : c1.slots[1]? = some (Value.int b1)) (e_2 : c1.slots[2]? = some (Value.int b2)) (e_3 : c1.slots[3]? = some (Value.int b3)) : Met l Z n0 (⟨"com/example/tallykey/tallykey/HttpSyntax", "isText", "([BII)Z"⟩ : MethodName) prog_5_method_5_code 4 (Option.some Jvm.ClassFile.FieldType.boolean) (⟨0, 0, 0, 0⟩ : Room) #[(.ref a1), (.int (1 : Int32)), (.int (2 : Int32))] h (fun v h' => (∃ w, v = some w ∧ (((¬ (tabN (b1 &&& (255 : Int32)).toNatClampNeg) = (0 : Int32)) ∧ w = (.int (1 : Int32))) ∨ (((tabN (b1 &&& (255 : Int32)).toNatClampNeg) = (0 : Int32)) ∧ w = (.int (0 : Int32))))) ∧ h' = h) := by
  refine Met.of_wk (ls := #[.val (.ref a1), .val (.int (1 : Int32)), .val (.int (2 : Int32)), .unset]) (plainFor_of_name pn_1) (fun m => ef_2 m a1 (1 : Int32) (2 : Int32)) ?_
  show Wk l Z n0 "com/example/tallykey/tallykey/HttpSyntax" "isText" prog_5_method_5_code 4 (Option.some Jvm.ClassFile.FieldType.boolean) (⟨0, 0, 0, 0⟩ : Room) 0 0 (fun v h' => (∃ w, v = some w ∧ (((¬ (tabN (b1 &&& (255 : Int32)).toNatClampNeg) = (0 : Int32)) ∧ w = (.int (1 : Int32))) ∨ (((tabN (b1 &&& (255 : Int32)).toNatClampNeg) = (0 : Int32)) ∧ w = (.int (0 : Int32))))) ∧ h' = h) h 0 0 0 #[.val (.ref a1), .val (.int (1 : Int32)), .val (.int (2 : Int32)), .unset] []
  refine Wk.iloadN (q := 1) d3_0 rfl rfl ?_
  refine Wk.istoreN (q := 2) (ls' := #[.val (.ref a1), .val (.int (1 : Int32)), .val (.int (2 : Int32)), .val (.int (1 : Int32))]) d3_1 rfl rfl ?_
  refine Wk.iloadN (q := 3) d3_2 rfl rfl ?_
  refine Wk.iloadN (q := 4) d3_3 rfl rfl ?_
  refine Wk.icmpF (q := 7) d3_4 rfl (by decide : (1 : Int32) < (2 : Int32)) ?_
  refine Wk.getS (q := 10) (w_13 hw) Via.refl F.s_T d3_7 rfl ?_
  refine Wk.aloadN (q := 11) d3_10 rfl rfl rfl ?_
  refine Wk.iloadN (q := 12) d3_11 rfl rfl ?_
  refine Wk.baloadB (q := 13) A1 (by rw [S1]; decide) e_1 d3_12 rfl ?_
  refine Wk.sipush (q := 16) (v := (255 : Int32)) d3_13 rfl rfl ?_
  refine Wk.iand (q := 17) (v := (b1 &&& (255 : Int32))) d3_16 rfl rfl ?_
  refine Wk.baloadZ (q := 18) F.r_T (by rw [F.z_T]; exact own_in (own_255 b1).1 (by have := (own_255 b1).2; omega)) (F.t_T _ (by have := own_clamp (own_255 b1).1; have := (own_255 b1).2; omega)) d3_17 rfl ?_
  refine Wk.ifc (q := 23) (q' := 21) d3_18 (by decide) rfl rfl (fun (h1 : ¬ (tabN (b1 &&& (255 : Int32)).toNatClampNeg) = (0 : Int32)) => ?_) (fun (h1 : (tabN (b1 &&& (255 : Int32)).toNatClampNeg) = (0 : Int32)) => ?_)
  · refine Wk.iinc (q := 26) (v := (2 : Int32)) (ls' := #[.val (.ref a1), .val (.int (1 : Int32)), .val (.int (2 : Int32)), .val (.int (2 : Int32))]) d3_23 rfl rfl (by decide) rfl ?_
    refine Wk.goto (q := 2) d3_26 (by decide) rfl ?_
    refine Wk.iloadN (q := 3) d3_2 rfl rfl ?_
    refine Wk.iloadN (q := 4) d3_3 rfl rfl ?_
    refine Wk.icmpT (q := 29) d3_4 (by decide) rfl (by decide : ¬ (2 : Int32) < (2 : Int32)) ?_
    refine Wk.iconst (q := 30) (v := (1 : Int32)) d3_29 rfl rfl ?_
    exact Wk.retZ rfl rfl d3_30 (by decide) (by decide) ⟨⟨_, rfl, Or.inl ⟨h1, rfl⟩⟩, rfl⟩
  · refine Wk.iconst (q := 22) (v := (0 : Int32)) d3_21 rfl rfl ?_
    exact Wk.retZ rfl rfl d3_22 (by decide) (by decide) ⟨⟨_, rfl, Or.inr (⟨h1, rfl⟩)⟩, rfl⟩
set_option maxRecDepth 65536 in
set_option maxHeartbeats 40000000 in
theorem m_38 {l : Launch} {Z : State} {a0 : Array Value} {n0 : Nat} {h : Heap}  {a_T : Addr} {c_T : Cell} (hw : ∀ d ∈ tables_1, d.before a0 Z = true) (F : OwnF Z h  a_T c_T) {a1 : Addr} {c1 : Cell} {b0 b1 b2 b3 : Int32} (A1 : Arr Z h a1 c1 .byte) (S1 : c1.slots.size = 4) (e_0 : c1.slots[0]? = some (Value.int b0)) (e_1 : c1.slots[1]? = some (Value.int b1)) (e_2 : c1.slots[2]? = some (Value.int b2)) (e_3 : c1.slots[3]? = some (Value.int b3)) (z0 : Int32) : Met l Z n0 (⟨"com/example/tallykey/tallykey/HttpSyntaxIsTextPinLaw", "ok", "(IIIB)Z"⟩ : MethodName) method_3_code 5 (Option.some Jvm.ClassFile.FieldType.boolean) (⟨0, 0, 0, 0⟩ : Room) #[(.int (2 : Int32)), (.int (1 : Int32)), (.int (2 : Int32)), (.int z0)] h (fun v h' => v = some (.int (1 : Int32)) ∧ h' = h) := by
  refine Met.of_wk (ls := #[.val (.int (2 : Int32)), .val (.int (1 : Int32)), .val (.int (2 : Int32)), .val (.int z0), .unset]) (plainFor_of_name pn_0) (fun m => ef_1 m (2 : Int32) (1 : Int32) (2 : Int32) z0) ?_
  show Wk l Z n0 "com/example/tallykey/tallykey/HttpSyntaxIsTextPinLaw" "ok" method_3_code 5 (Option.some Jvm.ClassFile.FieldType.boolean) (⟨0, 0, 0, 0⟩ : Room) 0 0 (fun v h' => v = some (.int (1 : Int32)) ∧ h' = h) h 0 0 0 #[.val (.int (2 : Int32)), .val (.int (1 : Int32)), .val (.int (2 : Int32)), .val (.int z0), .unset] []
  refine Wk.iloadN (q := 1) d1_0 rfl rfl ?_
  refine Wk.iloadN (q := 2) d1_1 rfl rfl ?_
  refine Wk.icmpF (q := 5) d1_2 rfl (by decide : ¬ (2 : Int32) < (1 : Int32)) ?_
  refine Wk.iloadN (q := 6) d1_5 rfl rfl ?_
  refine Wk.iloadN (q := 7) d1_6 rfl rfl ?_
  refine Wk.icmpT (q := 14) d1_7 (by decide) rfl (by decide : ¬ (2 : Int32) < (2 : Int32)) ?_
  refine Wk.iconst (q := 15) (v := (0 : Int32)) d1_14 rfl rfl ?_
  refine Wk.istore (q := 17) (ls' := #[.val (.int (2 : Int32)), .val (.int (1 : Int32)), .val (.int (2 : Int32)), .val (.int z0), .val (.int (0 : Int32))]) d1_15 rfl rfl ?_
  refine Wk.iload (q := 19) d1_17 rfl rfl ?_
  refine Wk.ifcT (q := 29) d1_19 (by decide) rfl (by decide : (0 : Int32) = (0 : Int32)) ?_
  refine Wk.iconst (q := 30) (v := (1 : Int32)) d1_29 rfl rfl ?_
  refine Wk.goto (q := 34) d1_30 (by decide) rfl ?_
  exact Wk.retZ rfl rfl d1_34 (by decide) (by decide) ⟨rfl, rfl⟩
set_option maxRecDepth 65536 in
set_option maxHeartbeats 40000000 in
theorem m_39 {l : Launch} {Z : State} {a0 : Array Value} {n0 : Nat} {h : Heap}  {a_T : Addr} {c_T : Cell} (hw : ∀ d ∈ tables_1, d.before a0 Z = true) (F : OwnF Z h  a_T c_T) {a1 : Addr} {c1 : Cell} {b0 b1 b2 b3 : Int32} (A1 : Arr Z h a1 c1 .byte) (S1 : c1.slots.size = 4) (e_0 : c1.slots[0]? = some (Value.int b0)) (e_1 : c1.slots[1]? = some (Value.int b1)) (e_2 : c1.slots[2]? = some (Value.int b2)) (e_3 : c1.slots[3]? = some (Value.int b3)) (z0 : Int32) : Met l Z n0 (⟨"com/example/tallykey/tallykey/HttpSyntaxIsTextPinLaw", "ok", "(IIIB)Z"⟩ : MethodName) method_3_code 5 (Option.some Jvm.ClassFile.FieldType.boolean) (⟨0, 0, 0, 0⟩ : Room) #[(.int (3 : Int32)), (.int (1 : Int32)), (.int (2 : Int32)), (.int z0)] h (fun v h' => v = some (.int (1 : Int32)) ∧ h' = h) := by
  refine Met.of_wk (ls := #[.val (.int (3 : Int32)), .val (.int (1 : Int32)), .val (.int (2 : Int32)), .val (.int z0), .unset]) (plainFor_of_name pn_0) (fun m => ef_1 m (3 : Int32) (1 : Int32) (2 : Int32) z0) ?_
  show Wk l Z n0 "com/example/tallykey/tallykey/HttpSyntaxIsTextPinLaw" "ok" method_3_code 5 (Option.some Jvm.ClassFile.FieldType.boolean) (⟨0, 0, 0, 0⟩ : Room) 0 0 (fun v h' => v = some (.int (1 : Int32)) ∧ h' = h) h 0 0 0 #[.val (.int (3 : Int32)), .val (.int (1 : Int32)), .val (.int (2 : Int32)), .val (.int z0), .unset] []
  refine Wk.iloadN (q := 1) d1_0 rfl rfl ?_
  refine Wk.iloadN (q := 2) d1_1 rfl rfl ?_
  refine Wk.icmpF (q := 5) d1_2 rfl (by decide : ¬ (3 : Int32) < (1 : Int32)) ?_
  refine Wk.iloadN (q := 6) d1_5 rfl rfl ?_
  refine Wk.iloadN (q := 7) d1_6 rfl rfl ?_
  refine Wk.icmpT (q := 14) d1_7 (by decide) rfl (by decide : ¬ (3 : Int32) < (2 : Int32)) ?_
  refine Wk.iconst (q := 15) (v := (0 : Int32)) d1_14 rfl rfl ?_
  refine Wk.istore (q := 17) (ls' := #[.val (.int (3 : Int32)), .val (.int (1 : Int32)), .val (.int (2 : Int32)), .val (.int z0), .val (.int (0 : Int32))]) d1_15 rfl rfl ?_
  refine Wk.iload (q := 19) d1_17 rfl rfl ?_
  refine Wk.ifcT (q := 29) d1_19 (by decide) rfl (by decide : (0 : Int32) = (0 : Int32)) ?_
  refine Wk.iconst (q := 30) (v := (1 : Int32)) d1_29 rfl rfl ?_
  refine Wk.goto (q := 34) d1_30 (by decide) rfl ?_
  exact Wk.retZ rfl rfl d1_34 (by decide) (by decide) ⟨rfl, rfl⟩
set_option maxRecDepth 65536 in
set_option maxHeartbeats 40000000 in
theorem m_40 {l : Launch} {Z : State} {a0 : Array Value} {n0 : Nat} {h : Heap}  {a_T : Addr} {c_T : Cell} (hw : ∀ d ∈ tables_1, d.before a0 Z = true) (F : OwnF Z h  a_T c_T) {a1 : Addr} {c1 : Cell} {b0 b1 b2 b3 : Int32} (A1 : Arr Z h a1 c1 .byte) (S1 : c1.slots.size = 4) (e_0 : c1.slots[0]? = some (Value.int b0)) (e_1 : c1.slots[1]? = some (Value.int b1)) (e_2 : c1.slots[2]? = some (Value.int b2)) (e_3 : c1.slots[3]? = some (Value.int b3)) (z0 : Int32) : Met l Z n0 (⟨"com/example/tallykey/tallykey/HttpSyntaxIsTextPinLaw", "ok", "(IIIB)Z"⟩ : MethodName) method_3_code 5 (Option.some Jvm.ClassFile.FieldType.boolean) (⟨0, 0, 0, 0⟩ : Room) #[(.int (0 : Int32)), (.int (1 : Int32)), (.int (3 : Int32)), (.int z0)] h (fun v h' => v = some (.int (1 : Int32)) ∧ h' = h) := by
  refine Met.of_wk (ls := #[.val (.int (0 : Int32)), .val (.int (1 : Int32)), .val (.int (3 : Int32)), .val (.int z0), .unset]) (plainFor_of_name pn_0) (fun m => ef_1 m (0 : Int32) (1 : Int32) (3 : Int32) z0) ?_
  show Wk l Z n0 "com/example/tallykey/tallykey/HttpSyntaxIsTextPinLaw" "ok" method_3_code 5 (Option.some Jvm.ClassFile.FieldType.boolean) (⟨0, 0, 0, 0⟩ : Room) 0 0 (fun v h' => v = some (.int (1 : Int32)) ∧ h' = h) h 0 0 0 #[.val (.int (0 : Int32)), .val (.int (1 : Int32)), .val (.int (3 : Int32)), .val (.int z0), .unset] []
  refine Wk.iloadN (q := 1) d1_0 rfl rfl ?_
  refine Wk.iloadN (q := 2) d1_1 rfl rfl ?_
  refine Wk.icmpT (q := 14) d1_2 (by decide) rfl (by decide : (0 : Int32) < (1 : Int32)) ?_
  refine Wk.iconst (q := 15) (v := (0 : Int32)) d1_14 rfl rfl ?_
  refine Wk.istore (q := 17) (ls' := #[.val (.int (0 : Int32)), .val (.int (1 : Int32)), .val (.int (3 : Int32)), .val (.int z0), .val (.int (0 : Int32))]) d1_15 rfl rfl ?_
  refine Wk.iload (q := 19) d1_17 rfl rfl ?_
  refine Wk.ifcT (q := 29) d1_19 (by decide) rfl (by decide : (0 : Int32) = (0 : Int32)) ?_
  refine Wk.iconst (q := 30) (v := (1 : Int32)) d1_29 rfl rfl ?_
  refine Wk.goto (q := 34) d1_30 (by decide) rfl ?_
  exact Wk.retZ rfl rfl d1_34 (by decide) (by decide) ⟨rfl, rfl⟩
set_option maxRecDepth 65536 in
set_option maxHeartbeats 40000000 in
theorem m_41 {l : Launch} {Z : State} {a0 : Array Value} {n0 : Nat} {h : Heap}  {a_T : Addr} {c_T : Cell} (hw : ∀ d ∈ tables_1, d.before a0 Z = true) (F : OwnF Z h  a_T c_T) {a1 : Addr} {c1 : Cell} {b0 b1 b2 b3 : Int32} (A1 : Arr Z h a1 c1 .byte) (S1 : c1.slots.size = 4) (e_0 : c1.slots[0]? = some (Value.int b0)) (e_1 : c1.slots[1]? = some (Value.int b1)) (e_2 : c1.slots[2]? = some (Value.int b2)) (e_3 : c1.slots[3]? = some (Value.int b3)) (z0 : Int32) : Met l Z n0 (⟨"com/example/tallykey/tallykey/HttpSyntaxIsTextPinLaw", "ok", "(IIIB)Z"⟩ : MethodName) method_3_code 5 (Option.some Jvm.ClassFile.FieldType.boolean) (⟨1, 0, 0, 13⟩ : Room) #[(.int (1 : Int32)), (.int (1 : Int32)), (.int (3 : Int32)), (.int z0)] h (fun v h' => (∃ w, v = some w ∧ ((((tabN (z0 &&& (255 : Int32)).toNatClampNeg) = (0 : Int32)) ∧ w = (.int (0 : Int32))) ∨ ((¬ (tabN (z0 &&& (255 : Int32)).toNatClampNeg) = (0 : Int32)) ∧ w = (.int (1 : Int32))))) ∧ h' = h) := by
  refine Met.of_wk (ls := #[.val (.int (1 : Int32)), .val (.int (1 : Int32)), .val (.int (3 : Int32)), .val (.int z0), .unset]) (plainFor_of_name pn_0) (fun m => ef_1 m (1 : Int32) (1 : Int32) (3 : Int32) z0) ?_
  show Wk l Z n0 "com/example/tallykey/tallykey/HttpSyntaxIsTextPinLaw" "ok" method_3_code 5 (Option.some Jvm.ClassFile.FieldType.boolean) (⟨1, 0, 0, 13⟩ : Room) 0 0 (fun v h' => (∃ w, v = some w ∧ ((((tabN (z0 &&& (255 : Int32)).toNatClampNeg) = (0 : Int32)) ∧ w = (.int (0 : Int32))) ∨ ((¬ (tabN (z0 &&& (255 : Int32)).toNatClampNeg) = (0 : Int32)) ∧ w = (.int (1 : Int32))))) ∧ h' = h) h 0 0 0 #[.val (.int (1 : Int32)), .val (.int (1 : Int32)), .val (.int (3 : Int32)), .val (.int z0), .unset] []
  refine Wk.iloadN (q := 1) d1_0 rfl rfl ?_
  refine Wk.iloadN (q := 2) d1_1 rfl rfl ?_
  refine Wk.icmpF (q := 5) d1_2 rfl (by decide : ¬ (1 : Int32) < (1 : Int32)) ?_
  refine Wk.iloadN (q := 6) d1_5 rfl rfl ?_
  refine Wk.iloadN (q := 7) d1_6 rfl rfl ?_
  refine Wk.icmpF (q := 10) d1_7 rfl (by decide : (1 : Int32) < (3 : Int32)) ?_
  refine Wk.iconst (q := 11) (v := (1 : Int32)) d1_10 rfl rfl ?_
  refine Wk.goto (q := 15) d1_11 (by decide) rfl ?_
  refine Wk.istore (q := 17) (ls' := #[.val (.int (1 : Int32)), .val (.int (1 : Int32)), .val (.int (3 : Int32)), .val (.int z0), .val (.int (1 : Int32))]) d1_15 rfl rfl ?_
  refine Wk.iload (q := 19) d1_17 rfl rfl ?_
  refine Wk.ifcF (q := 22) d1_19 rfl (by decide : ¬ (1 : Int32) = (0 : Int32)) ?_
  refine Wk.iloadN (q := 23) d1_22 rfl rfl ?_
  refine Wk.callS1 (q := 26) (argsL := [(.int z0)]) (rest := []) (fr := 0) (lo := 0) (v0 := (.int (tabN (z0 &&& (255 : Int32)).toNatClampNeg))) (m_cls hw F z0) (w_6 hw) (w_7 hw) (w_4 hw) (w_8 hw) (by decide) pd_2 rfl rfl rfl d1_23 rfl (W := 0) rfl (by decide) (by decide) (by decide) (by decide) ?_
  refine Wk.ifc (q := 33) (q' := 29) d1_26 (by decide) rfl rfl (fun (h1 : (tabN (z0 &&& (255 : Int32)).toNatClampNeg) = (0 : Int32)) => ?_) (fun (h1 : ¬ (tabN (z0 &&& (255 : Int32)).toNatClampNeg) = (0 : Int32)) => ?_)
  · refine Wk.iconst (q := 34) (v := (0 : Int32)) d1_33 rfl rfl ?_
    exact Wk.retZ rfl rfl d1_34 (by decide) (by decide) ⟨⟨_, rfl, Or.inl ⟨h1, rfl⟩⟩, rfl⟩
  · refine Wk.iconst (q := 30) (v := (1 : Int32)) d1_29 rfl rfl ?_
    refine Wk.goto (q := 34) d1_30 (by decide) rfl ?_
    exact Wk.retZ rfl rfl d1_34 (by decide) (by decide) ⟨⟨_, rfl, Or.inr (⟨h1, rfl⟩)⟩, rfl⟩
set_option maxRecDepth 65536 in
set_option maxHeartbeats 40000000 in
theorem m_42 {l : Launch} {Z : State} {a0 : Array Value} {n0 : Nat} {h : Heap}  {a_T : Addr} {c_T : Cell} (hw : ∀ d ∈ tables_1, d.before a0 Z = true) (F : OwnF Z h  a_T c_T) {a1 : Addr} {c1 : Cell} {b0 b1 b2 b3 : Int32} (A1 : Arr Z h a1 c1 .byte) (S1 : c1.slots.size = 4) (e_0 : c1.slots[0]? = some (Value.int b0)) (e_1 : c1.slots[1]? = some (Value.int b1)) (e_2 : c1.slots[2]? = some (Value.int b2)) (e_3 : c1.slots[3]? = some (Value.int b3)) : Met l Z n0 (⟨"com/example/tallykey/tallykey/HttpSyntax", "isText", "([BII)Z"⟩ : MethodName) prog_5_method_5_code 4 (Option.some Jvm.ClassFile.FieldType.boolean) (⟨0, 0, 0, 0⟩ : Room) #[(.ref a1), (.int (1 : Int32)), (.int (3 : Int32))] h (fun v h' => (∃ w, v = some w ∧ (((¬ (tabN (b1 &&& (255 : Int32)).toNatClampNeg) = (0 : Int32)) ∧ (¬ (tabN (b2 &&& (255 : Int32)).toNatClampNeg) = (0 : Int32)) ∧ w = (.int (1 : Int32))) ∨ ((¬ (tabN (b1 &&& (255 : Int32)).toNatClampNeg) = (0 : Int32)) ∧ ((tabN (b2 &&& (255 : Int32)).toNatClampNeg) = (0 : Int32)) ∧ w = (.int (0 : Int32))) ∨ (((tabN (b1 &&& (255 : Int32)).toNatClampNeg) = (0 : Int32)) ∧ w = (.int (0 : Int32))))) ∧ h' = h) := by
  refine Met.of_wk (ls := #[.val (.ref a1), .val (.int (1 : Int32)), .val (.int (3 : Int32)), .unset]) (plainFor_of_name pn_1) (fun m => ef_2 m a1 (1 : Int32) (3 : Int32)) ?_
  show Wk l Z n0 "com/example/tallykey/tallykey/HttpSyntax" "isText" prog_5_method_5_code 4 (Option.some Jvm.ClassFile.FieldType.boolean) (⟨0, 0, 0, 0⟩ : Room) 0 0 (fun v h' => (∃ w, v = some w ∧ (((¬ (tabN (b1 &&& (255 : Int32)).toNatClampNeg) = (0 : Int32)) ∧ (¬ (tabN (b2 &&& (255 : Int32)).toNatClampNeg) = (0 : Int32)) ∧ w = (.int (1 : Int32))) ∨ ((¬ (tabN (b1 &&& (255 : Int32)).toNatClampNeg) = (0 : Int32)) ∧ ((tabN (b2 &&& (255 : Int32)).toNatClampNeg) = (0 : Int32)) ∧ w = (.int (0 : Int32))) ∨ (((tabN (b1 &&& (255 : Int32)).toNatClampNeg) = (0 : Int32)) ∧ w = (.int (0 : Int32))))) ∧ h' = h) h 0 0 0 #[.val (.ref a1), .val (.int (1 : Int32)), .val (.int (3 : Int32)), .unset] []
  refine Wk.iloadN (q := 1) d3_0 rfl rfl ?_
  refine Wk.istoreN (q := 2) (ls' := #[.val (.ref a1), .val (.int (1 : Int32)), .val (.int (3 : Int32)), .val (.int (1 : Int32))]) d3_1 rfl rfl ?_
  refine Wk.iloadN (q := 3) d3_2 rfl rfl ?_
  refine Wk.iloadN (q := 4) d3_3 rfl rfl ?_
  refine Wk.icmpF (q := 7) d3_4 rfl (by decide : (1 : Int32) < (3 : Int32)) ?_
  refine Wk.getS (q := 10) (w_13 hw) Via.refl F.s_T d3_7 rfl ?_
  refine Wk.aloadN (q := 11) d3_10 rfl rfl rfl ?_
  refine Wk.iloadN (q := 12) d3_11 rfl rfl ?_
  refine Wk.baloadB (q := 13) A1 (by rw [S1]; decide) e_1 d3_12 rfl ?_
  refine Wk.sipush (q := 16) (v := (255 : Int32)) d3_13 rfl rfl ?_
  refine Wk.iand (q := 17) (v := (b1 &&& (255 : Int32))) d3_16 rfl rfl ?_
  refine Wk.baloadZ (q := 18) F.r_T (by rw [F.z_T]; exact own_in (own_255 b1).1 (by have := (own_255 b1).2; omega)) (F.t_T _ (by have := own_clamp (own_255 b1).1; have := (own_255 b1).2; omega)) d3_17 rfl ?_
  refine Wk.ifc (q := 23) (q' := 21) d3_18 (by decide) rfl rfl (fun (h1 : ¬ (tabN (b1 &&& (255 : Int32)).toNatClampNeg) = (0 : Int32)) => ?_) (fun (h1 : (tabN (b1 &&& (255 : Int32)).toNatClampNeg) = (0 : Int32)) => ?_)
  · refine Wk.iinc (q := 26) (v := (2 : Int32)) (ls' := #[.val (.ref a1), .val (.int (1 : Int32)), .val (.int (3 : Int32)), .val (.int (2 : Int32))]) d3_23 rfl rfl (by decide) rfl ?_
    refine Wk.goto (q := 2) d3_26 (by decide) rfl ?_
    refine Wk.iloadN (q := 3) d3_2 rfl rfl ?_
    refine Wk.iloadN (q := 4) d3_3 rfl rfl ?_
    refine Wk.icmpF (q := 7) d3_4 rfl (by decide : (2 : Int32) < (3 : Int32)) ?_
    refine Wk.getS (q := 10) (w_13 hw) Via.refl F.s_T d3_7 rfl ?_
    refine Wk.aloadN (q := 11) d3_10 rfl rfl rfl ?_
    refine Wk.iloadN (q := 12) d3_11 rfl rfl ?_
    refine Wk.baloadB (q := 13) A1 (by rw [S1]; decide) e_2 d3_12 rfl ?_
    refine Wk.sipush (q := 16) (v := (255 : Int32)) d3_13 rfl rfl ?_
    refine Wk.iand (q := 17) (v := (b2 &&& (255 : Int32))) d3_16 rfl rfl ?_
    refine Wk.baloadZ (q := 18) F.r_T (by rw [F.z_T]; exact own_in (own_255 b2).1 (by have := (own_255 b2).2; omega)) (F.t_T _ (by have := own_clamp (own_255 b2).1; have := (own_255 b2).2; omega)) d3_17 rfl ?_
    refine Wk.ifc (q := 23) (q' := 21) d3_18 (by decide) rfl rfl (fun (h2 : ¬ (tabN (b2 &&& (255 : Int32)).toNatClampNeg) = (0 : Int32)) => ?_) (fun (h2 : (tabN (b2 &&& (255 : Int32)).toNatClampNeg) = (0 : Int32)) => ?_)
    · refine Wk.iinc (q := 26) (v := (3 : Int32)) (ls' := #[.val (.ref a1), .val (.int (1 : Int32)), .val (.int (3 : Int32)), .val (.int (3 : Int32))]) d3_23 rfl rfl (by decide) rfl ?_
      refine Wk.goto (q := 2) d3_26 (by decide) rfl ?_
      refine Wk.iloadN (q := 3) d3_2 rfl rfl ?_
      refine Wk.iloadN (q := 4) d3_3 rfl rfl ?_
      refine Wk.icmpT (q := 29) d3_4 (by decide) rfl (by decide : ¬ (3 : Int32) < (3 : Int32)) ?_
      refine Wk.iconst (q := 30) (v := (1 : Int32)) d3_29 rfl rfl ?_
      exact Wk.retZ rfl rfl d3_30 (by decide) (by decide) ⟨⟨_, rfl, Or.inl ⟨h1, h2, rfl⟩⟩, rfl⟩
    · refine Wk.iconst (q := 22) (v := (0 : Int32)) d3_21 rfl rfl ?_
      exact Wk.retZ rfl rfl d3_22 (by decide) (by decide) ⟨⟨_, rfl, Or.inr (Or.inl ⟨h1, h2, rfl⟩)⟩, rfl⟩
  · refine Wk.iconst (q := 22) (v := (0 : Int32)) d3_21 rfl rfl ?_
    exact Wk.retZ rfl rfl d3_22 (by decide) (by decide) ⟨⟨_, rfl, Or.inr (Or.inr (⟨h1, rfl⟩))⟩, rfl⟩
set_option maxRecDepth 65536 in
set_option maxHeartbeats 40000000 in
theorem m_43 {l : Launch} {Z : State} {a0 : Array Value} {n0 : Nat} {h : Heap}  {a_T : Addr} {c_T : Cell} (hw : ∀ d ∈ tables_1, d.before a0 Z = true) (F : OwnF Z h  a_T c_T) {a1 : Addr} {c1 : Cell} {b0 b1 b2 b3 : Int32} (A1 : Arr Z h a1 c1 .byte) (S1 : c1.slots.size = 4) (e_0 : c1.slots[0]? = some (Value.int b0)) (e_1 : c1.slots[1]? = some (Value.int b1)) (e_2 : c1.slots[2]? = some (Value.int b2)) (e_3 : c1.slots[3]? = some (Value.int b3)) (z0 : Int32) : Met l Z n0 (⟨"com/example/tallykey/tallykey/HttpSyntaxIsTextPinLaw", "ok", "(IIIB)Z"⟩ : MethodName) method_3_code 5 (Option.some Jvm.ClassFile.FieldType.boolean) (⟨1, 0, 0, 13⟩ : Room) #[(.int (2 : Int32)), (.int (1 : Int32)), (.int (3 : Int32)), (.int z0)] h (fun v h' => (∃ w, v = some w ∧ ((((tabN (z0 &&& (255 : Int32)).toNatClampNeg) = (0 : Int32)) ∧ w = (.int (0 : Int32))) ∨ ((¬ (tabN (z0 &&& (255 : Int32)).toNatClampNeg) = (0 : Int32)) ∧ w = (.int (1 : Int32))))) ∧ h' = h) := by
  refine Met.of_wk (ls := #[.val (.int (2 : Int32)), .val (.int (1 : Int32)), .val (.int (3 : Int32)), .val (.int z0), .unset]) (plainFor_of_name pn_0) (fun m => ef_1 m (2 : Int32) (1 : Int32) (3 : Int32) z0) ?_
  show Wk l Z n0 "com/example/tallykey/tallykey/HttpSyntaxIsTextPinLaw" "ok" method_3_code 5 (Option.some Jvm.ClassFile.FieldType.boolean) (⟨1, 0, 0, 13⟩ : Room) 0 0 (fun v h' => (∃ w, v = some w ∧ ((((tabN (z0 &&& (255 : Int32)).toNatClampNeg) = (0 : Int32)) ∧ w = (.int (0 : Int32))) ∨ ((¬ (tabN (z0 &&& (255 : Int32)).toNatClampNeg) = (0 : Int32)) ∧ w = (.int (1 : Int32))))) ∧ h' = h) h 0 0 0 #[.val (.int (2 : Int32)), .val (.int (1 : Int32)), .val (.int (3 : Int32)), .val (.int z0), .unset] []
  refine Wk.iloadN (q := 1) d1_0 rfl rfl ?_
  refine Wk.iloadN (q := 2) d1_1 rfl rfl ?_
  refine Wk.icmpF (q := 5) d1_2 rfl (by decide : ¬ (2 : Int32) < (1 : Int32)) ?_
  refine Wk.iloadN (q := 6) d1_5 rfl rfl ?_
  refine Wk.iloadN (q := 7) d1_6 rfl rfl ?_
  refine Wk.icmpF (q := 10) d1_7 rfl (by decide : (2 : Int32) < (3 : Int32)) ?_
  refine Wk.iconst (q := 11) (v := (1 : Int32)) d1_10 rfl rfl ?_
  refine Wk.goto (q := 15) d1_11 (by decide) rfl ?_
  refine Wk.istore (q := 17) (ls' := #[.val (.int (2 : Int32)), .val (.int (1 : Int32)), .val (.int (3 : Int32)), .val (.int z0), .val (.int (1 : Int32))]) d1_15 rfl rfl ?_
  refine Wk.iload (q := 19) d1_17 rfl rfl ?_
  refine Wk.ifcF (q := 22) d1_19 rfl (by decide : ¬ (1 : Int32) = (0 : Int32)) ?_
  refine Wk.iloadN (q := 23) d1_22 rfl rfl ?_
  refine Wk.callS1 (q := 26) (argsL := [(.int z0)]) (rest := []) (fr := 0) (lo := 0) (v0 := (.int (tabN (z0 &&& (255 : Int32)).toNatClampNeg))) (m_cls hw F z0) (w_6 hw) (w_7 hw) (w_4 hw) (w_8 hw) (by decide) pd_2 rfl rfl rfl d1_23 rfl (W := 0) rfl (by decide) (by decide) (by decide) (by decide) ?_
  refine Wk.ifc (q := 33) (q' := 29) d1_26 (by decide) rfl rfl (fun (h1 : (tabN (z0 &&& (255 : Int32)).toNatClampNeg) = (0 : Int32)) => ?_) (fun (h1 : ¬ (tabN (z0 &&& (255 : Int32)).toNatClampNeg) = (0 : Int32)) => ?_)
  · refine Wk.iconst (q := 34) (v := (0 : Int32)) d1_33 rfl rfl ?_
    exact Wk.retZ rfl rfl d1_34 (by decide) (by decide) ⟨⟨_, rfl, Or.inl ⟨h1, rfl⟩⟩, rfl⟩
  · refine Wk.iconst (q := 30) (v := (1 : Int32)) d1_29 rfl rfl ?_
    refine Wk.goto (q := 34) d1_30 (by decide) rfl ?_
    exact Wk.retZ rfl rfl d1_34 (by decide) (by decide) ⟨⟨_, rfl, Or.inr (⟨h1, rfl⟩)⟩, rfl⟩
set_option maxRecDepth 65536 in
set_option maxHeartbeats 40000000 in
theorem m_44 {l : Launch} {Z : State} {a0 : Array Value} {n0 : Nat} {h : Heap}  {a_T : Addr} {c_T : Cell} (hw : ∀ d ∈ tables_1, d.before a0 Z = true) (F : OwnF Z h  a_T c_T) {a1 : Addr} {c1 : Cell} {b0 b1 b2 b3 : Int32} (A1 : Arr Z h a1 c1 .byte) (S1 : c1.slots.size = 4) (e_0 : c1.slots[0]? = some (Value.int b0)) (e_1 : c1.slots[1]? = some (Value.int b1)) (e_2 : c1.slots[2]? = some (Value.int b2)) (e_3 : c1.slots[3]? = some (Value.int b3)) (z0 : Int32) : Met l Z n0 (⟨"com/example/tallykey/tallykey/HttpSyntaxIsTextPinLaw", "ok", "(IIIB)Z"⟩ : MethodName) method_3_code 5 (Option.some Jvm.ClassFile.FieldType.boolean) (⟨0, 0, 0, 0⟩ : Room) #[(.int (3 : Int32)), (.int (1 : Int32)), (.int (3 : Int32)), (.int z0)] h (fun v h' => v = some (.int (1 : Int32)) ∧ h' = h) := by
  refine Met.of_wk (ls := #[.val (.int (3 : Int32)), .val (.int (1 : Int32)), .val (.int (3 : Int32)), .val (.int z0), .unset]) (plainFor_of_name pn_0) (fun m => ef_1 m (3 : Int32) (1 : Int32) (3 : Int32) z0) ?_
  show Wk l Z n0 "com/example/tallykey/tallykey/HttpSyntaxIsTextPinLaw" "ok" method_3_code 5 (Option.some Jvm.ClassFile.FieldType.boolean) (⟨0, 0, 0, 0⟩ : Room) 0 0 (fun v h' => v = some (.int (1 : Int32)) ∧ h' = h) h 0 0 0 #[.val (.int (3 : Int32)), .val (.int (1 : Int32)), .val (.int (3 : Int32)), .val (.int z0), .unset] []
  refine Wk.iloadN (q := 1) d1_0 rfl rfl ?_
  refine Wk.iloadN (q := 2) d1_1 rfl rfl ?_
  refine Wk.icmpF (q := 5) d1_2 rfl (by decide : ¬ (3 : Int32) < (1 : Int32)) ?_
  refine Wk.iloadN (q := 6) d1_5 rfl rfl ?_
  refine Wk.iloadN (q := 7) d1_6 rfl rfl ?_
  refine Wk.icmpT (q := 14) d1_7 (by decide) rfl (by decide : ¬ (3 : Int32) < (3 : Int32)) ?_
  refine Wk.iconst (q := 15) (v := (0 : Int32)) d1_14 rfl rfl ?_
  refine Wk.istore (q := 17) (ls' := #[.val (.int (3 : Int32)), .val (.int (1 : Int32)), .val (.int (3 : Int32)), .val (.int z0), .val (.int (0 : Int32))]) d1_15 rfl rfl ?_
  refine Wk.iload (q := 19) d1_17 rfl rfl ?_
  refine Wk.ifcT (q := 29) d1_19 (by decide) rfl (by decide : (0 : Int32) = (0 : Int32)) ?_
  refine Wk.iconst (q := 30) (v := (1 : Int32)) d1_29 rfl rfl ?_
  refine Wk.goto (q := 34) d1_30 (by decide) rfl ?_
  exact Wk.retZ rfl rfl d1_34 (by decide) (by decide) ⟨rfl, rfl⟩
set_option maxRecDepth 65536 in
set_option maxHeartbeats 40000000 in
theorem m_45 {l : Launch} {Z : State} {a0 : Array Value} {n0 : Nat} {h : Heap}  {a_T : Addr} {c_T : Cell} (hw : ∀ d ∈ tables_1, d.before a0 Z = true) (F : OwnF Z h  a_T c_T) {a1 : Addr} {c1 : Cell} {b0 b1 b2 b3 : Int32} (A1 : Arr Z h a1 c1 .byte) (S1 : c1.slots.size = 4) (e_0 : c1.slots[0]? = some (Value.int b0)) (e_1 : c1.slots[1]? = some (Value.int b1)) (e_2 : c1.slots[2]? = some (Value.int b2)) (e_3 : c1.slots[3]? = some (Value.int b3)) (z0 : Int32) : Met l Z n0 (⟨"com/example/tallykey/tallykey/HttpSyntaxIsTextPinLaw", "ok", "(IIIB)Z"⟩ : MethodName) method_3_code 5 (Option.some Jvm.ClassFile.FieldType.boolean) (⟨0, 0, 0, 0⟩ : Room) #[(.int (0 : Int32)), (.int (1 : Int32)), (.int (4 : Int32)), (.int z0)] h (fun v h' => v = some (.int (1 : Int32)) ∧ h' = h) := by
  refine Met.of_wk (ls := #[.val (.int (0 : Int32)), .val (.int (1 : Int32)), .val (.int (4 : Int32)), .val (.int z0), .unset]) (plainFor_of_name pn_0) (fun m => ef_1 m (0 : Int32) (1 : Int32) (4 : Int32) z0) ?_
  show Wk l Z n0 "com/example/tallykey/tallykey/HttpSyntaxIsTextPinLaw" "ok" method_3_code 5 (Option.some Jvm.ClassFile.FieldType.boolean) (⟨0, 0, 0, 0⟩ : Room) 0 0 (fun v h' => v = some (.int (1 : Int32)) ∧ h' = h) h 0 0 0 #[.val (.int (0 : Int32)), .val (.int (1 : Int32)), .val (.int (4 : Int32)), .val (.int z0), .unset] []
  refine Wk.iloadN (q := 1) d1_0 rfl rfl ?_
  refine Wk.iloadN (q := 2) d1_1 rfl rfl ?_
  refine Wk.icmpT (q := 14) d1_2 (by decide) rfl (by decide : (0 : Int32) < (1 : Int32)) ?_
  refine Wk.iconst (q := 15) (v := (0 : Int32)) d1_14 rfl rfl ?_
  refine Wk.istore (q := 17) (ls' := #[.val (.int (0 : Int32)), .val (.int (1 : Int32)), .val (.int (4 : Int32)), .val (.int z0), .val (.int (0 : Int32))]) d1_15 rfl rfl ?_
  refine Wk.iload (q := 19) d1_17 rfl rfl ?_
  refine Wk.ifcT (q := 29) d1_19 (by decide) rfl (by decide : (0 : Int32) = (0 : Int32)) ?_
  refine Wk.iconst (q := 30) (v := (1 : Int32)) d1_29 rfl rfl ?_
  refine Wk.goto (q := 34) d1_30 (by decide) rfl ?_
  exact Wk.retZ rfl rfl d1_34 (by decide) (by decide) ⟨rfl, rfl⟩
set_option maxRecDepth 65536 in
set_option maxHeartbeats 40000000 in
theorem m_46 {l : Launch} {Z : State} {a0 : Array Value} {n0 : Nat} {h : Heap}  {a_T : Addr} {c_T : Cell} (hw : ∀ d ∈ tables_1, d.before a0 Z = true) (F : OwnF Z h  a_T c_T) {a1 : Addr} {c1 : Cell} {b0 b1 b2 b3 : Int32} (A1 : Arr Z h a1 c1 .byte) (S1 : c1.slots.size = 4) (e_0 : c1.slots[0]? = some (Value.int b0)) (e_1 : c1.slots[1]? = some (Value.int b1)) (e_2 : c1.slots[2]? = some (Value.int b2)) (e_3 : c1.slots[3]? = some (Value.int b3)) (z0 : Int32) : Met l Z n0 (⟨"com/example/tallykey/tallykey/HttpSyntaxIsTextPinLaw", "ok", "(IIIB)Z"⟩ : MethodName) method_3_code 5 (Option.some Jvm.ClassFile.FieldType.boolean) (⟨1, 0, 0, 13⟩ : Room) #[(.int (1 : Int32)), (.int (1 : Int32)), (.int (4 : Int32)), (.int z0)] h (fun v h' => (∃ w, v = some w ∧ ((((tabN (z0 &&& (255 : Int32)).toNatClampNeg) = (0 : Int32)) ∧ w = (.int (0 : Int32))) ∨ ((¬ (tabN (z0 &&& (255 : Int32)).toNatClampNeg) = (0 : Int32)) ∧ w = (.int (1 : Int32))))) ∧ h' = h) := by
  refine Met.of_wk (ls := #[.val (.int (1 : Int32)), .val (.int (1 : Int32)), .val (.int (4 : Int32)), .val (.int z0), .unset]) (plainFor_of_name pn_0) (fun m => ef_1 m (1 : Int32) (1 : Int32) (4 : Int32) z0) ?_
  show Wk l Z n0 "com/example/tallykey/tallykey/HttpSyntaxIsTextPinLaw" "ok" method_3_code 5 (Option.some Jvm.ClassFile.FieldType.boolean) (⟨1, 0, 0, 13⟩ : Room) 0 0 (fun v h' => (∃ w, v = some w ∧ ((((tabN (z0 &&& (255 : Int32)).toNatClampNeg) = (0 : Int32)) ∧ w = (.int (0 : Int32))) ∨ ((¬ (tabN (z0 &&& (255 : Int32)).toNatClampNeg) = (0 : Int32)) ∧ w = (.int (1 : Int32))))) ∧ h' = h) h 0 0 0 #[.val (.int (1 : Int32)), .val (.int (1 : Int32)), .val (.int (4 : Int32)), .val (.int z0), .unset] []
  refine Wk.iloadN (q := 1) d1_0 rfl rfl ?_
  refine Wk.iloadN (q := 2) d1_1 rfl rfl ?_
  refine Wk.icmpF (q := 5) d1_2 rfl (by decide : ¬ (1 : Int32) < (1 : Int32)) ?_
  refine Wk.iloadN (q := 6) d1_5 rfl rfl ?_
  refine Wk.iloadN (q := 7) d1_6 rfl rfl ?_
  refine Wk.icmpF (q := 10) d1_7 rfl (by decide : (1 : Int32) < (4 : Int32)) ?_
  refine Wk.iconst (q := 11) (v := (1 : Int32)) d1_10 rfl rfl ?_
  refine Wk.goto (q := 15) d1_11 (by decide) rfl ?_
  refine Wk.istore (q := 17) (ls' := #[.val (.int (1 : Int32)), .val (.int (1 : Int32)), .val (.int (4 : Int32)), .val (.int z0), .val (.int (1 : Int32))]) d1_15 rfl rfl ?_
  refine Wk.iload (q := 19) d1_17 rfl rfl ?_
  refine Wk.ifcF (q := 22) d1_19 rfl (by decide : ¬ (1 : Int32) = (0 : Int32)) ?_
  refine Wk.iloadN (q := 23) d1_22 rfl rfl ?_
  refine Wk.callS1 (q := 26) (argsL := [(.int z0)]) (rest := []) (fr := 0) (lo := 0) (v0 := (.int (tabN (z0 &&& (255 : Int32)).toNatClampNeg))) (m_cls hw F z0) (w_6 hw) (w_7 hw) (w_4 hw) (w_8 hw) (by decide) pd_2 rfl rfl rfl d1_23 rfl (W := 0) rfl (by decide) (by decide) (by decide) (by decide) ?_
  refine Wk.ifc (q := 33) (q' := 29) d1_26 (by decide) rfl rfl (fun (h1 : (tabN (z0 &&& (255 : Int32)).toNatClampNeg) = (0 : Int32)) => ?_) (fun (h1 : ¬ (tabN (z0 &&& (255 : Int32)).toNatClampNeg) = (0 : Int32)) => ?_)
  · refine Wk.iconst (q := 34) (v := (0 : Int32)) d1_33 rfl rfl ?_
    exact Wk.retZ rfl rfl d1_34 (by decide) (by decide) ⟨⟨_, rfl, Or.inl ⟨h1, rfl⟩⟩, rfl⟩
  · refine Wk.iconst (q := 30) (v := (1 : Int32)) d1_29 rfl rfl ?_
    refine Wk.goto (q := 34) d1_30 (by decide) rfl ?_
    exact Wk.retZ rfl rfl d1_34 (by decide) (by decide) ⟨⟨_, rfl, Or.inr (⟨h1, rfl⟩)⟩, rfl⟩
set_option maxRecDepth 65536 in
set_option maxHeartbeats 40000000 in
theorem m_47 {l : Launch} {Z : State} {a0 : Array Value} {n0 : Nat} {h : Heap}  {a_T : Addr} {c_T : Cell} (hw : ∀ d ∈ tables_1, d.before a0 Z = true) (F : OwnF Z h  a_T c_T) {a1 : Addr} {c1 : Cell} {b0 b1 b2 b3 : Int32} (A1 : Arr Z h a1 c1 .byte) (S1 : c1.slots.size = 4) (e_0 : c1.slots[0]? = some (Value.int b0)) (e_1 : c1.slots[1]? = some (Value.int b1)) (e_2 : c1.slots[2]? = some (Value.int b2)) (e_3 : c1.slots[3]? = some (Value.int b3)) : Met l Z n0 (⟨"com/example/tallykey/tallykey/HttpSyntax", "isText", "([BII)Z"⟩ : MethodName) prog_5_method_5_code 4 (Option.some Jvm.ClassFile.FieldType.boolean) (⟨0, 0, 0, 0⟩ : Room) #[(.ref a1), (.int (1 : Int32)), (.int (4 : Int32))] h (fun v h' => (∃ w, v = some w ∧ (((¬ (tabN (b1 &&& (255 : Int32)).toNatClampNeg) = (0 : Int32)) ∧ (¬ (tabN (b2 &&& (255 : Int32)).toNatClampNeg) = (0 : Int32)) ∧ (¬ (tabN (b3 &&& (255 : Int32)).toNatClampNeg) = (0 : Int32)) ∧ w = (.int (1 : Int32))) ∨ ((¬ (tabN (b1 &&& (255 : Int32)).toNatClampNeg) = (0 : Int32)) ∧ (¬ (tabN (b2 &&& (255 : Int32)).toNatClampNeg) = (0 : Int32)) ∧ ((tabN (b3 &&& (255 : Int32)).toNatClampNeg) = (0 : Int32)) ∧ w = (.int (0 : Int32))) ∨ ((¬ (tabN (b1 &&& (255 : Int32)).toNatClampNeg) = (0 : Int32)) ∧ ((tabN (b2 &&& (255 : Int32)).toNatClampNeg) = (0 : Int32)) ∧ w = (.int (0 : Int32))) ∨ (((tabN (b1 &&& (255 : Int32)).toNatClampNeg) = (0 : Int32)) ∧ w = (.int (0 : Int32))))) ∧ h' = h) := by
  refine Met.of_wk (ls := #[.val (.ref a1), .val (.int (1 : Int32)), .val (.int (4 : Int32)), .unset]) (plainFor_of_name pn_1) (fun m => ef_2 m a1 (1 : Int32) (4 : Int32)) ?_
  show Wk l Z n0 "com/example/tallykey/tallykey/HttpSyntax" "isText" prog_5_method_5_code 4 (Option.some Jvm.ClassFile.FieldType.boolean) (⟨0, 0, 0, 0⟩ : Room) 0 0 (fun v h' => (∃ w, v = some w ∧ (((¬ (tabN (b1 &&& (255 : Int32)).toNatClampNeg) = (0 : Int32)) ∧ (¬ (tabN (b2 &&& (255 : Int32)).toNatClampNeg) = (0 : Int32)) ∧ (¬ (tabN (b3 &&& (255 : Int32)).toNatClampNeg) = (0 : Int32)) ∧ w = (.int (1 : Int32))) ∨ ((¬ (tabN (b1 &&& (255 : Int32)).toNatClampNeg) = (0 : Int32)) ∧ (¬ (tabN (b2 &&& (255 : Int32)).toNatClampNeg) = (0 : Int32)) ∧ ((tabN (b3 &&& (255 : Int32)).toNatClampNeg) = (0 : Int32)) ∧ w = (.int (0 : Int32))) ∨ ((¬ (tabN (b1 &&& (255 : Int32)).toNatClampNeg) = (0 : Int32)) ∧ ((tabN (b2 &&& (255 : Int32)).toNatClampNeg) = (0 : Int32)) ∧ w = (.int (0 : Int32))) ∨ (((tabN (b1 &&& (255 : Int32)).toNatClampNeg) = (0 : Int32)) ∧ w = (.int (0 : Int32))))) ∧ h' = h) h 0 0 0 #[.val (.ref a1), .val (.int (1 : Int32)), .val (.int (4 : Int32)), .unset] []
  refine Wk.iloadN (q := 1) d3_0 rfl rfl ?_
  refine Wk.istoreN (q := 2) (ls' := #[.val (.ref a1), .val (.int (1 : Int32)), .val (.int (4 : Int32)), .val (.int (1 : Int32))]) d3_1 rfl rfl ?_
  refine Wk.iloadN (q := 3) d3_2 rfl rfl ?_
  refine Wk.iloadN (q := 4) d3_3 rfl rfl ?_
  refine Wk.icmpF (q := 7) d3_4 rfl (by decide : (1 : Int32) < (4 : Int32)) ?_
  refine Wk.getS (q := 10) (w_13 hw) Via.refl F.s_T d3_7 rfl ?_
  refine Wk.aloadN (q := 11) d3_10 rfl rfl rfl ?_
  refine Wk.iloadN (q := 12) d3_11 rfl rfl ?_
  refine Wk.baloadB (q := 13) A1 (by rw [S1]; decide) e_1 d3_12 rfl ?_
  refine Wk.sipush (q := 16) (v := (255 : Int32)) d3_13 rfl rfl ?_
  refine Wk.iand (q := 17) (v := (b1 &&& (255 : Int32))) d3_16 rfl rfl ?_
  refine Wk.baloadZ (q := 18) F.r_T (by rw [F.z_T]; exact own_in (own_255 b1).1 (by have := (own_255 b1).2; omega)) (F.t_T _ (by have := own_clamp (own_255 b1).1; have := (own_255 b1).2; omega)) d3_17 rfl ?_
  refine Wk.ifc (q := 23) (q' := 21) d3_18 (by decide) rfl rfl (fun (h1 : ¬ (tabN (b1 &&& (255 : Int32)).toNatClampNeg) = (0 : Int32)) => ?_) (fun (h1 : (tabN (b1 &&& (255 : Int32)).toNatClampNeg) = (0 : Int32)) => ?_)
  · refine Wk.iinc (q := 26) (v := (2 : Int32)) (ls' := #[.val (.ref a1), .val (.int (1 : Int32)), .val (.int (4 : Int32)), .val (.int (2 : Int32))]) d3_23 rfl rfl (by decide) rfl ?_
    refine Wk.goto (q := 2) d3_26 (by decide) rfl ?_
    refine Wk.iloadN (q := 3) d3_2 rfl rfl ?_
    refine Wk.iloadN (q := 4) d3_3 rfl rfl ?_
    refine Wk.icmpF (q := 7) d3_4 rfl (by decide : (2 : Int32) < (4 : Int32)) ?_
    refine Wk.getS (q := 10) (w_13 hw) Via.refl F.s_T d3_7 rfl ?_
    refine Wk.aloadN (q := 11) d3_10 rfl rfl rfl ?_
    refine Wk.iloadN (q := 12) d3_11 rfl rfl ?_
    refine Wk.baloadB (q := 13) A1 (by rw [S1]; decide) e_2 d3_12 rfl ?_
    refine Wk.sipush (q := 16) (v := (255 : Int32)) d3_13 rfl rfl ?_
    refine Wk.iand (q := 17) (v := (b2 &&& (255 : Int32))) d3_16 rfl rfl ?_
    refine Wk.baloadZ (q := 18) F.r_T (by rw [F.z_T]; exact own_in (own_255 b2).1 (by have := (own_255 b2).2; omega)) (F.t_T _ (by have := own_clamp (own_255 b2).1; have := (own_255 b2).2; omega)) d3_17 rfl ?_
    refine Wk.ifc (q := 23) (q' := 21) d3_18 (by decide) rfl rfl (fun (h2 : ¬ (tabN (b2 &&& (255 : Int32)).toNatClampNeg) = (0 : Int32)) => ?_) (fun (h2 : (tabN (b2 &&& (255 : Int32)).toNatClampNeg) = (0 : Int32)) => ?_)
    · refine Wk.iinc (q := 26) (v := (3 : Int32)) (ls' := #[.val (.ref a1), .val (.int (1 : Int32)), .val (.int (4 : Int32)), .val (.int (3 : Int32))]) d3_23 rfl rfl (by decide) rfl ?_
      refine Wk.goto (q := 2) d3_26 (by decide) rfl ?_
      refine Wk.iloadN (q := 3) d3_2 rfl rfl ?_
      refine Wk.iloadN (q := 4) d3_3 rfl rfl ?_
      refine Wk.icmpF (q := 7) d3_4 rfl (by decide : (3 : Int32) < (4 : Int32)) ?_
      refine Wk.getS (q := 10) (w_13 hw) Via.refl F.s_T d3_7 rfl ?_
      refine Wk.aloadN (q := 11) d3_10 rfl rfl rfl ?_
      refine Wk.iloadN (q := 12) d3_11 rfl rfl ?_
      refine Wk.baloadB (q := 13) A1 (by rw [S1]; decide) e_3 d3_12 rfl ?_
      refine Wk.sipush (q := 16) (v := (255 : Int32)) d3_13 rfl rfl ?_
      refine Wk.iand (q := 17) (v := (b3 &&& (255 : Int32))) d3_16 rfl rfl ?_
      refine Wk.baloadZ (q := 18) F.r_T (by rw [F.z_T]; exact own_in (own_255 b3).1 (by have := (own_255 b3).2; omega)) (F.t_T _ (by have := own_clamp (own_255 b3).1; have := (own_255 b3).2; omega)) d3_17 rfl ?_
      refine Wk.ifc (q := 23) (q' := 21) d3_18 (by decide) rfl rfl (fun (h3 : ¬ (tabN (b3 &&& (255 : Int32)).toNatClampNeg) = (0 : Int32)) => ?_) (fun (h3 : (tabN (b3 &&& (255 : Int32)).toNatClampNeg) = (0 : Int32)) => ?_)
      · refine Wk.iinc (q := 26) (v := (4 : Int32)) (ls' := #[.val (.ref a1), .val (.int (1 : Int32)), .val (.int (4 : Int32)), .val (.int (4 : Int32))]) d3_23 rfl rfl (by decide) rfl ?_
        refine Wk.goto (q := 2) d3_26 (by decide) rfl ?_
        refine Wk.iloadN (q := 3) d3_2 rfl rfl ?_
        refine Wk.iloadN (q := 4) d3_3 rfl rfl ?_
        refine Wk.icmpT (q := 29) d3_4 (by decide) rfl (by decide : ¬ (4 : Int32) < (4 : Int32)) ?_
        refine Wk.iconst (q := 30) (v := (1 : Int32)) d3_29 rfl rfl ?_
        exact Wk.retZ rfl rfl d3_30 (by decide) (by decide) ⟨⟨_, rfl, Or.inl ⟨h1, h2, h3, rfl⟩⟩, rfl⟩
      · refine Wk.iconst (q := 22) (v := (0 : Int32)) d3_21 rfl rfl ?_
        exact Wk.retZ rfl rfl d3_22 (by decide) (by decide) ⟨⟨_, rfl, Or.inr (Or.inl ⟨h1, h2, h3, rfl⟩)⟩, rfl⟩
    · refine Wk.iconst (q := 22) (v := (0 : Int32)) d3_21 rfl rfl ?_
      exact Wk.retZ rfl rfl d3_22 (by decide) (by decide) ⟨⟨_, rfl, Or.inr (Or.inr (Or.inl ⟨h1, h2, rfl⟩))⟩, rfl⟩
  · refine Wk.iconst (q := 22) (v := (0 : Int32)) d3_21 rfl rfl ?_
    exact Wk.retZ rfl rfl d3_22 (by decide) (by decide) ⟨⟨_, rfl, Or.inr (Or.inr (Or.inr (⟨h1, rfl⟩)))⟩, rfl⟩
set_option maxRecDepth 65536 in
set_option maxHeartbeats 40000000 in
theorem m_48 {l : Launch} {Z : State} {a0 : Array Value} {n0 : Nat} {h : Heap}  {a_T : Addr} {c_T : Cell} (hw : ∀ d ∈ tables_1, d.before a0 Z = true) (F : OwnF Z h  a_T c_T) {a1 : Addr} {c1 : Cell} {b0 b1 b2 b3 : Int32} (A1 : Arr Z h a1 c1 .byte) (S1 : c1.slots.size = 4) (e_0 : c1.slots[0]? = some (Value.int b0)) (e_1 : c1.slots[1]? = some (Value.int b1)) (e_2 : c1.slots[2]? = some (Value.int b2)) (e_3 : c1.slots[3]? = some (Value.int b3)) (z0 : Int32) : Met l Z n0 (⟨"com/example/tallykey/tallykey/HttpSyntaxIsTextPinLaw", "ok", "(IIIB)Z"⟩ : MethodName) method_3_code 5 (Option.some Jvm.ClassFile.FieldType.boolean) (⟨1, 0, 0, 13⟩ : Room) #[(.int (2 : Int32)), (.int (1 : Int32)), (.int (4 : Int32)), (.int z0)] h (fun v h' => (∃ w, v = some w ∧ ((((tabN (z0 &&& (255 : Int32)).toNatClampNeg) = (0 : Int32)) ∧ w = (.int (0 : Int32))) ∨ ((¬ (tabN (z0 &&& (255 : Int32)).toNatClampNeg) = (0 : Int32)) ∧ w = (.int (1 : Int32))))) ∧ h' = h) := by
  refine Met.of_wk (ls := #[.val (.int (2 : Int32)), .val (.int (1 : Int32)), .val (.int (4 : Int32)), .val (.int z0), .unset]) (plainFor_of_name pn_0) (fun m => ef_1 m (2 : Int32) (1 : Int32) (4 : Int32) z0) ?_
  show Wk l Z n0 "com/example/tallykey/tallykey/HttpSyntaxIsTextPinLaw" "ok" method_3_code 5 (Option.some Jvm.ClassFile.FieldType.boolean) (⟨1, 0, 0, 13⟩ : Room) 0 0 (fun v h' => (∃ w, v = some w ∧ ((((tabN (z0 &&& (255 : Int32)).toNatClampNeg) = (0 : Int32)) ∧ w = (.int (0 : Int32))) ∨ ((¬ (tabN (z0 &&& (255 : Int32)).toNatClampNeg) = (0 : Int32)) ∧ w = (.int (1 : Int32))))) ∧ h' = h) h 0 0 0 #[.val (.int (2 : Int32)), .val (.int (1 : Int32)), .val (.int (4 : Int32)), .val (.int z0), .unset] []
  refine Wk.iloadN (q := 1) d1_0 rfl rfl ?_
  refine Wk.iloadN (q := 2) d1_1 rfl rfl ?_
  refine Wk.icmpF (q := 5) d1_2 rfl (by decide : ¬ (2 : Int32) < (1 : Int32)) ?_
  refine Wk.iloadN (q := 6) d1_5 rfl rfl ?_
  refine Wk.iloadN (q := 7) d1_6 rfl rfl ?_
  refine Wk.icmpF (q := 10) d1_7 rfl (by decide : (2 : Int32) < (4 : Int32)) ?_
  refine Wk.iconst (q := 11) (v := (1 : Int32)) d1_10 rfl rfl ?_
  refine Wk.goto (q := 15) d1_11 (by decide) rfl ?_
  refine Wk.istore (q := 17) (ls' := #[.val (.int (2 : Int32)), .val (.int (1 : Int32)), .val (.int (4 : Int32)), .val (.int z0), .val (.int (1 : Int32))]) d1_15 rfl rfl ?_
  refine Wk.iload (q := 19) d1_17 rfl rfl ?_
  refine Wk.ifcF (q := 22) d1_19 rfl (by decide : ¬ (1 : Int32) = (0 : Int32)) ?_
  refine Wk.iloadN (q := 23) d1_22 rfl rfl ?_
  refine Wk.callS1 (q := 26) (argsL := [(.int z0)]) (rest := []) (fr := 0) (lo := 0) (v0 := (.int (tabN (z0 &&& (255 : Int32)).toNatClampNeg))) (m_cls hw F z0) (w_6 hw) (w_7 hw) (w_4 hw) (w_8 hw) (by decide) pd_2 rfl rfl rfl d1_23 rfl (W := 0) rfl (by decide) (by decide) (by decide) (by decide) ?_
  refine Wk.ifc (q := 33) (q' := 29) d1_26 (by decide) rfl rfl (fun (h1 : (tabN (z0 &&& (255 : Int32)).toNatClampNeg) = (0 : Int32)) => ?_) (fun (h1 : ¬ (tabN (z0 &&& (255 : Int32)).toNatClampNeg) = (0 : Int32)) => ?_)
  · refine Wk.iconst (q := 34) (v := (0 : Int32)) d1_33 rfl rfl ?_
    exact Wk.retZ rfl rfl d1_34 (by decide) (by decide) ⟨⟨_, rfl, Or.inl ⟨h1, rfl⟩⟩, rfl⟩
  · refine Wk.iconst (q := 30) (v := (1 : Int32)) d1_29 rfl rfl ?_
    refine Wk.goto (q := 34) d1_30 (by decide) rfl ?_
    exact Wk.retZ rfl rfl d1_34 (by decide) (by decide) ⟨⟨_, rfl, Or.inr (⟨h1, rfl⟩)⟩, rfl⟩
set_option maxRecDepth 65536 in
set_option maxHeartbeats 40000000 in
theorem m_49 {l : Launch} {Z : State} {a0 : Array Value} {n0 : Nat} {h : Heap}  {a_T : Addr} {c_T : Cell} (hw : ∀ d ∈ tables_1, d.before a0 Z = true) (F : OwnF Z h  a_T c_T) {a1 : Addr} {c1 : Cell} {b0 b1 b2 b3 : Int32} (A1 : Arr Z h a1 c1 .byte) (S1 : c1.slots.size = 4) (e_0 : c1.slots[0]? = some (Value.int b0)) (e_1 : c1.slots[1]? = some (Value.int b1)) (e_2 : c1.slots[2]? = some (Value.int b2)) (e_3 : c1.slots[3]? = some (Value.int b3)) (z0 : Int32) : Met l Z n0 (⟨"com/example/tallykey/tallykey/HttpSyntaxIsTextPinLaw", "ok", "(IIIB)Z"⟩ : MethodName) method_3_code 5 (Option.some Jvm.ClassFile.FieldType.boolean) (⟨1, 0, 0, 13⟩ : Room) #[(.int (3 : Int32)), (.int (1 : Int32)), (.int (4 : Int32)), (.int z0)] h (fun v h' => (∃ w, v = some w ∧ ((((tabN (z0 &&& (255 : Int32)).toNatClampNeg) = (0 : Int32)) ∧ w = (.int (0 : Int32))) ∨ ((¬ (tabN (z0 &&& (255 : Int32)).toNatClampNeg) = (0 : Int32)) ∧ w = (.int (1 : Int32))))) ∧ h' = h) := by
  refine Met.of_wk (ls := #[.val (.int (3 : Int32)), .val (.int (1 : Int32)), .val (.int (4 : Int32)), .val (.int z0), .unset]) (plainFor_of_name pn_0) (fun m => ef_1 m (3 : Int32) (1 : Int32) (4 : Int32) z0) ?_
  show Wk l Z n0 "com/example/tallykey/tallykey/HttpSyntaxIsTextPinLaw" "ok" method_3_code 5 (Option.some Jvm.ClassFile.FieldType.boolean) (⟨1, 0, 0, 13⟩ : Room) 0 0 (fun v h' => (∃ w, v = some w ∧ ((((tabN (z0 &&& (255 : Int32)).toNatClampNeg) = (0 : Int32)) ∧ w = (.int (0 : Int32))) ∨ ((¬ (tabN (z0 &&& (255 : Int32)).toNatClampNeg) = (0 : Int32)) ∧ w = (.int (1 : Int32))))) ∧ h' = h) h 0 0 0 #[.val (.int (3 : Int32)), .val (.int (1 : Int32)), .val (.int (4 : Int32)), .val (.int z0), .unset] []
  refine Wk.iloadN (q := 1) d1_0 rfl rfl ?_
  refine Wk.iloadN (q := 2) d1_1 rfl rfl ?_
  refine Wk.icmpF (q := 5) d1_2 rfl (by decide : ¬ (3 : Int32) < (1 : Int32)) ?_
  refine Wk.iloadN (q := 6) d1_5 rfl rfl ?_
  refine Wk.iloadN (q := 7) d1_6 rfl rfl ?_
  refine Wk.icmpF (q := 10) d1_7 rfl (by decide : (3 : Int32) < (4 : Int32)) ?_
  refine Wk.iconst (q := 11) (v := (1 : Int32)) d1_10 rfl rfl ?_
  refine Wk.goto (q := 15) d1_11 (by decide) rfl ?_
  refine Wk.istore (q := 17) (ls' := #[.val (.int (3 : Int32)), .val (.int (1 : Int32)), .val (.int (4 : Int32)), .val (.int z0), .val (.int (1 : Int32))]) d1_15 rfl rfl ?_
  refine Wk.iload (q := 19) d1_17 rfl rfl ?_
  refine Wk.ifcF (q := 22) d1_19 rfl (by decide : ¬ (1 : Int32) = (0 : Int32)) ?_
  refine Wk.iloadN (q := 23) d1_22 rfl rfl ?_
  refine Wk.callS1 (q := 26) (argsL := [(.int z0)]) (rest := []) (fr := 0) (lo := 0) (v0 := (.int (tabN (z0 &&& (255 : Int32)).toNatClampNeg))) (m_cls hw F z0) (w_6 hw) (w_7 hw) (w_4 hw) (w_8 hw) (by decide) pd_2 rfl rfl rfl d1_23 rfl (W := 0) rfl (by decide) (by decide) (by decide) (by decide) ?_
  refine Wk.ifc (q := 33) (q' := 29) d1_26 (by decide) rfl rfl (fun (h1 : (tabN (z0 &&& (255 : Int32)).toNatClampNeg) = (0 : Int32)) => ?_) (fun (h1 : ¬ (tabN (z0 &&& (255 : Int32)).toNatClampNeg) = (0 : Int32)) => ?_)
  · refine Wk.iconst (q := 34) (v := (0 : Int32)) d1_33 rfl rfl ?_
    exact Wk.retZ rfl rfl d1_34 (by decide) (by decide) ⟨⟨_, rfl, Or.inl ⟨h1, rfl⟩⟩, rfl⟩
  · refine Wk.iconst (q := 30) (v := (1 : Int32)) d1_29 rfl rfl ?_
    refine Wk.goto (q := 34) d1_30 (by decide) rfl ?_
    exact Wk.retZ rfl rfl d1_34 (by decide) (by decide) ⟨⟨_, rfl, Or.inr (⟨h1, rfl⟩)⟩, rfl⟩
set_option maxRecDepth 65536 in
set_option maxHeartbeats 40000000 in
theorem m_50 {l : Launch} {Z : State} {a0 : Array Value} {n0 : Nat} {h : Heap}  {a_T : Addr} {c_T : Cell} (hw : ∀ d ∈ tables_1, d.before a0 Z = true) (F : OwnF Z h  a_T c_T) {a1 : Addr} {c1 : Cell} {b0 b1 b2 b3 : Int32} (A1 : Arr Z h a1 c1 .byte) (S1 : c1.slots.size = 4) (e_0 : c1.slots[0]? = some (Value.int b0)) (e_1 : c1.slots[1]? = some (Value.int b1)) (e_2 : c1.slots[2]? = some (Value.int b2)) (e_3 : c1.slots[3]? = some (Value.int b3)) (z0 : Int32) : Met l Z n0 (⟨"com/example/tallykey/tallykey/HttpSyntaxIsTextPinLaw", "ok", "(IIIB)Z"⟩ : MethodName) method_3_code 5 (Option.some Jvm.ClassFile.FieldType.boolean) (⟨0, 0, 0, 0⟩ : Room) #[(.int (0 : Int32)), (.int (2 : Int32)), (.int (0 : Int32)), (.int z0)] h (fun v h' => v = some (.int (1 : Int32)) ∧ h' = h) := by
  refine Met.of_wk (ls := #[.val (.int (0 : Int32)), .val (.int (2 : Int32)), .val (.int (0 : Int32)), .val (.int z0), .unset]) (plainFor_of_name pn_0) (fun m => ef_1 m (0 : Int32) (2 : Int32) (0 : Int32) z0) ?_
  show Wk l Z n0 "com/example/tallykey/tallykey/HttpSyntaxIsTextPinLaw" "ok" method_3_code 5 (Option.some Jvm.ClassFile.FieldType.boolean) (⟨0, 0, 0, 0⟩ : Room) 0 0 (fun v h' => v = some (.int (1 : Int32)) ∧ h' = h) h 0 0 0 #[.val (.int (0 : Int32)), .val (.int (2 : Int32)), .val (.int (0 : Int32)), .val (.int z0), .unset] []
  refine Wk.iloadN (q := 1) d1_0 rfl rfl ?_
  refine Wk.iloadN (q := 2) d1_1 rfl rfl ?_
  refine Wk.icmpT (q := 14) d1_2 (by decide) rfl (by decide : (0 : Int32) < (2 : Int32)) ?_
  refine Wk.iconst (q := 15) (v := (0 : Int32)) d1_14 rfl rfl ?_
  refine Wk.istore (q := 17) (ls' := #[.val (.int (0 : Int32)), .val (.int (2 : Int32)), .val (.int (0 : Int32)), .val (.int z0), .val (.int (0 : Int32))]) d1_15 rfl rfl ?_
  refine Wk.iload (q := 19) d1_17 rfl rfl ?_
  refine Wk.ifcT (q := 29) d1_19 (by decide) rfl (by decide : (0 : Int32) = (0 : Int32)) ?_
  refine Wk.iconst (q := 30) (v := (1 : Int32)) d1_29 rfl rfl ?_
  refine Wk.goto (q := 34) d1_30 (by decide) rfl ?_
  exact Wk.retZ rfl rfl d1_34 (by decide) (by decide) ⟨rfl, rfl⟩
set_option maxRecDepth 65536 in
set_option maxHeartbeats 40000000 in
theorem m_51 {l : Launch} {Z : State} {a0 : Array Value} {n0 : Nat} {h : Heap}  {a_T : Addr} {c_T : Cell} (hw : ∀ d ∈ tables_1, d.before a0 Z = true) (F : OwnF Z h  a_T c_T) {a1 : Addr} {c1 : Cell} {b0 b1 b2 b3 : Int32} (A1 : Arr Z h a1 c1 .byte) (S1 : c1.slots.size = 4) (e_0 : c1.slots[0]? = some (Value.int b0)) (e_1 : c1.slots[1]? = some (Value.int b1)) (e_2 : c1.slots[2]? = some (Value.int b2)) (e_3 : c1.slots[3]? = some (Value.int b3)) (z0 : Int32) : Met l Z n0 (⟨"com/example/tallykey/tallykey/HttpSyntaxIsTextPinLaw", "ok", "(IIIB)Z"⟩ : MethodName) method_3_code 5 (Option.some Jvm.ClassFile.FieldType.boolean) (⟨0, 0, 0, 0⟩ : Room) #[(.int (1 : Int32)), (.int (2 : Int32)), (.int (0 : Int32)), (.int z0)] h (fun v h' => v = some (.int (1 : Int32)) ∧ h' = h) := by
  refine Met.of_wk (ls := #[.val (.int (1 : Int32)), .val (.int (2 : Int32)), .val (.int (0 : Int32)), .val (.int z0), .unset]) (plainFor_of_name pn_0) (fun m => ef_1 m (1 : Int32) (2 : Int32) (0 : Int32) z0) ?_
  show Wk l Z n0 "com/example/tallykey/tallykey/HttpSyntaxIsTextPinLaw" "ok" method_3_code 5 (Option.some Jvm.ClassFile.FieldType.boolean) (⟨0, 0, 0, 0⟩ : Room) 0 0 (fun v h' => v = some (.int (1 : Int32)) ∧ h' = h) h 0 0 0 #[.val (.int (1 : Int32)), .val (.int (2 : Int32)), .val (.int (0 : Int32)), .val (.int z0), .unset] []
  refine Wk.iloadN (q := 1) d1_0 rfl rfl ?_
  refine Wk.iloadN (q := 2) d1_1 rfl rfl ?_
  refine Wk.icmpT (q := 14) d1_2 (by decide) rfl (by decide : (1 : Int32) < (2 : Int32)) ?_
  refine Wk.iconst (q := 15) (v := (0 : Int32)) d1_14 rfl rfl ?_
  refine Wk.istore (q := 17) (ls' := #[.val (.int (1 : Int32)), .val (.int (2 : Int32)), .val (.int (0 : Int32)), .val (.int z0), .val (.int (0 : Int32))]) d1_15 rfl rfl ?_
  refine Wk.iload (q := 19) d1_17 rfl rfl ?_
  refine Wk.ifcT (q := 29) d1_19 (by decide) rfl (by decide : (0 : Int32) = (0 : Int32)) ?_
  refine Wk.iconst (q := 30) (v := (1 : Int32)) d1_29 rfl rfl ?_
  refine Wk.goto (q := 34) d1_30 (by decide) rfl ?_
  exact Wk.retZ rfl rfl d1_34 (by decide) (by decide) ⟨rfl, rfl⟩
set_option maxRecDepth 65536 in
set_option maxHeartbeats 40000000 in
theorem m_52 {l : Launch} {Z : State} {a0 : Array Value} {n0 : Nat} {h : Heap}  {a_T : Addr} {c_T : Cell} (hw : ∀ d ∈ tables_1, d.before a0 Z = true) (F : OwnF Z h  a_T c_T) {a1 : Addr} {c1 : Cell} {b0 b1 b2 b3 : Int32} (A1 : Arr Z h a1 c1 .byte) (S1 : c1.slots.size = 4) (e_0 : c1.slots[0]? = some (Value.int b0)) (e_1 : c1.slots[1]? = some (Value.int b1)) (e_2 : c1.slots[2]? = some (Value.int b2)) (e_3 : c1.slots[3]? = some (Value.int b3)) (z0 : Int32) : Met l Z n0 (⟨"com/example/tallykey/tallykey/HttpSyntaxIsTextPinLaw", "ok", "(IIIB)Z"⟩ : MethodName) method_3_code 5 (Option.some Jvm.ClassFile.FieldType.boolean) (⟨0, 0, 0, 0⟩ : Room) #[(.int (2 : Int32)), (.int (2 : Int32)), (.int (0 : Int32)), (.int z0)] h (fun v h' => v = some (.int (1 : Int32)) ∧ h' = h) := by
  refine Met.of_wk (ls := #[.val (.int (2 : Int32)), .val (.int (2 : Int32)), .val (.int (0 : Int32)), .val (.int z0), .unset]) (plainFor_of_name pn_0) (fun m => ef_1 m (2 : Int32) (2 : Int32) (0 : Int32) z0) ?_
  show Wk l Z n0 "com/example/tallykey/tallykey/HttpSyntaxIsTextPinLaw" "ok" method_3_code 5 (Option.some Jvm.ClassFile.FieldType.boolean) (⟨0, 0, 0, 0⟩ : Room) 0 0 (fun v h' => v = some (.int (1 : Int32)) ∧ h' = h) h 0 0 0 #[.val (.int (2 : Int32)), .val (.int (2 : Int32)), .val (.int (0 : Int32)), .val (.int z0), .unset] []
  refine Wk.iloadN (q := 1) d1_0 rfl rfl ?_
  refine Wk.iloadN (q := 2) d1_1 rfl rfl ?_
  refine Wk.icmpF (q := 5) d1_2 rfl (by decide : ¬ (2 : Int32) < (2 : Int32)) ?_
  refine Wk.iloadN (q := 6) d1_5 rfl rfl ?_
  refine Wk.iloadN (q := 7) d1_6 rfl rfl ?_
  refine Wk.icmpT (q := 14) d1_7 (by decide) rfl (by decide : ¬ (2 : Int32) < (0 : Int32)) ?_
  refine Wk.iconst (q := 15) (v := (0 : Int32)) d1_14 rfl rfl ?_
  refine Wk.istore (q := 17) (ls' := #[.val (.int (2 : Int32)), .val (.int (2 : Int32)), .val (.int (0 : Int32)), .val (.int z0), .val (.int (0 : Int32))]) d1_15 rfl rfl ?_
  refine Wk.iload (q := 19) d1_17 rfl rfl ?_
  refine Wk.ifcT (q := 29) d1_19 (by decide) rfl (by decide : (0 : Int32) = (0 : Int32)) ?_
  refine Wk.iconst (q := 30) (v := (1 : Int32)) d1_29 rfl rfl ?_
  refine Wk.goto (q := 34) d1_30 (by decide) rfl ?_
  exact Wk.retZ rfl rfl d1_34 (by decide) (by decide) ⟨rfl, rfl⟩
set_option maxRecDepth 65536 in
set_option maxHeartbeats 40000000 in
theorem m_53 {l : Launch} {Z : State} {a0 : Array Value} {n0 : Nat} {h : Heap}  {a_T : Addr} {c_T : Cell} (hw : ∀ d ∈ tables_1, d.before a0 Z = true) (F : OwnF Z h  a_T c_T) {a1 : Addr} {c1 : Cell} {b0 b1 b2 b3 : Int32} (A1 : Arr Z h a1 c1 .byte) (S1 : c1.slots.size = 4) (e_0 : c1.slots[0]? = some (Value.int b0)) (e_1 : c1.slots[1]? = some (Value.int b1)) (e_2 : c1.slots[2]? = some (Value.int b2)) (e_3 : c1.slots[3]? = some (Value.int b3)) (z0 : Int32) : Met l Z n0 (⟨"com/example/tallykey/tallykey/HttpSyntaxIsTextPinLaw", "ok", "(IIIB)Z"⟩ : MethodName) method_3_code 5 (Option.some Jvm.ClassFile.FieldType.boolean) (⟨0, 0, 0, 0⟩ : Room) #[(.int (3 : Int32)), (.int (2 : Int32)), (.int (0 : Int32)), (.int z0)] h (fun v h' => v = some (.int (1 : Int32)) ∧ h' = h) := by
  refine Met.of_wk (ls := #[.val (.int (3 : Int32)), .val (.int (2 : Int32)), .val (.int (0 : Int32)), .val (.int z0), .unset]) (plainFor_of_name pn_0) (fun m => ef_1 m (3 : Int32) (2 : Int32) (0 : Int32) z0) ?_
  show Wk l Z n0 "com/example/tallykey/tallykey/HttpSyntaxIsTextPinLaw" "ok" method_3_code 5 (Option.some Jvm.ClassFile.FieldType.boolean) (⟨0, 0, 0, 0⟩ : Room) 0 0 (fun v h' => v = some (.int (1 : Int32)) ∧ h' = h) h 0 0 0 #[.val (.int (3 : Int32)), .val (.int (2 : Int32)), .val (.int (0 : Int32)), .val (.int z0), .unset] []
  refine Wk.iloadN (q := 1) d1_0 rfl rfl ?_
  refine Wk.iloadN (q := 2) d1_1 rfl rfl ?_
  refine Wk.icmpF (q := 5) d1_2 rfl (by decide : ¬ (3 : Int32) < (2 : Int32)) ?_
  refine Wk.iloadN (q := 6) d1_5 rfl rfl ?_
  refine Wk.iloadN (q := 7) d1_6 rfl rfl ?_
  refine Wk.icmpT (q := 14) d1_7 (by decide) rfl (by decide : ¬ (3 : Int32) < (0 : Int32)) ?_
  refine Wk.iconst (q := 15) (v := (0 : Int32)) d1_14 rfl rfl ?_
  refine Wk.istore (q := 17) (ls' := #[.val (.int (3 : Int32)), .val (.int (2 : Int32)), .val (.int (0 : Int32)), .val (.int z0), .val (.int (0 : Int32))]) d1_15 rfl rfl ?_
  refine Wk.iload (q := 19) d1_17 rfl rfl ?_
  refine Wk.ifcT (q := 29) d1_19 (by decide) rfl (by decide : (0 : Int32) = (0 : Int32)) ?_
  refine Wk.iconst (q := 30) (v := (1 : Int32)) d1_29 rfl rfl ?_
  refine Wk.goto (q := 34) d1_30 (by decide) rfl ?_
  exact Wk.retZ rfl rfl d1_34 (by decide) (by decide) ⟨rfl, rfl⟩
set_option maxRecDepth 65536 in
set_option maxHeartbeats 40000000 in
theorem m_54 {l : Launch} {Z : State} {a0 : Array Value} {n0 : Nat} {h : Heap}  {a_T : Addr} {c_T : Cell} (hw : ∀ d ∈ tables_1, d.before a0 Z = true) (F : OwnF Z h  a_T c_T) {a1 : Addr} {c1 : Cell} {b0 b1 b2 b3 : Int32} (A1 : Arr Z h a1 c1 .byte) (S1 : c1.slots.size = 4) (e_0 : c1.slots[0]? = some (Value.int b0)) (e_1 : c1.slots[1]? = some (Value.int b1)) (e_2 : c1.slots[2]? = some (Value.int b2)) (e_3 : c1.slots[3]? = some (Value.int b3)) : Met l Z n0 (⟨"com/example/tallykey/tallykey/HttpSyntax", "isText", "([BII)Z"⟩ : MethodName) prog_5_method_5_code 4 (Option.some Jvm.ClassFile.FieldType.boolean) (⟨0, 0, 0, 0⟩ : Room) #[(.ref a1), (.int (2 : Int32)), (.int (0 : Int32))] h (fun v h' => v = some (.int (1 : Int32)) ∧ h' = h) := by
  refine Met.of_wk (ls := #[.val (.ref a1), .val (.int (2 : Int32)), .val (.int (0 : Int32)), .unset]) (plainFor_of_name pn_1) (fun m => ef_2 m a1 (2 : Int32) (0 : Int32)) ?_
  show Wk l Z n0 "com/example/tallykey/tallykey/HttpSyntax" "isText" prog_5_method_5_code 4 (Option.some Jvm.ClassFile.FieldType.boolean) (⟨0, 0, 0, 0⟩ : Room) 0 0 (fun v h' => v = some (.int (1 : Int32)) ∧ h' = h) h 0 0 0 #[.val (.ref a1), .val (.int (2 : Int32)), .val (.int (0 : Int32)), .unset] []
  refine Wk.iloadN (q := 1) d3_0 rfl rfl ?_
  refine Wk.istoreN (q := 2) (ls' := #[.val (.ref a1), .val (.int (2 : Int32)), .val (.int (0 : Int32)), .val (.int (2 : Int32))]) d3_1 rfl rfl ?_
  refine Wk.iloadN (q := 3) d3_2 rfl rfl ?_
  refine Wk.iloadN (q := 4) d3_3 rfl rfl ?_
  refine Wk.icmpT (q := 29) d3_4 (by decide) rfl (by decide : ¬ (2 : Int32) < (0 : Int32)) ?_
  refine Wk.iconst (q := 30) (v := (1 : Int32)) d3_29 rfl rfl ?_
  exact Wk.retZ rfl rfl d3_30 (by decide) (by decide) ⟨rfl, rfl⟩
set_option maxRecDepth 65536 in
set_option maxHeartbeats 40000000 in
theorem m_55 {l : Launch} {Z : State} {a0 : Array Value} {n0 : Nat} {h : Heap}  {a_T : Addr} {c_T : Cell} (hw : ∀ d ∈ tables_1, d.before a0 Z = true) (F : OwnF Z h  a_T c_T) {a1 : Addr} {c1 : Cell} {b0 b1 b2 b3 : Int32} (A1 : Arr Z h a1 c1 .byte) (S1 : c1.slots.size = 4) (e_0 : c1.slots[0]? = some (Value.int b0)) (e_1 : c1.slots[1]? = some (Value.int b1)) (e_2 : c1.slots[2]? = some (Value.int b2)) (e_3 : c1.slots[3]? = some (Value.int b3)) (z0 : Int32) : Met l Z n0 (⟨"com/example/tallykey/tallykey/HttpSyntaxIsTextPinLaw", "ok", "(IIIB)Z"⟩ : MethodName) method_3_code 5 (Option.some Jvm.ClassFile.FieldType.boolean) (⟨0, 0, 0, 0⟩ : Room) #[(.int (0 : Int32)), (.int (2 : Int32)), (.int (1 : Int32)), (.int z0)] h (fun v h' => v = some (.int (1 : Int32)) ∧ h' = h) := by
  refine Met.of_wk (ls := #[.val (.int (0 : Int32)), .val (.int (2 : Int32)), .val (.int (1 : Int32)), .val (.int z0), .unset]) (plainFor_of_name pn_0) (fun m => ef_1 m (0 : Int32) (2 : Int32) (1 : Int32) z0) ?_
  show Wk l Z n0 "com/example/tallykey/tallykey/HttpSyntaxIsTextPinLaw" "ok" method_3_code 5 (Option.some Jvm.ClassFile.FieldType.boolean) (⟨0, 0, 0, 0⟩ : Room) 0 0 (fun v h' => v = some (.int (1 : Int32)) ∧ h' = h) h 0 0 0 #[.val (.int (0 : Int32)), .val (.int (2 : Int32)), .val (.int (1 : Int32)), .val (.int z0), .unset] []
  refine Wk.iloadN (q := 1) d1_0 rfl rfl ?_
  refine Wk.iloadN (q := 2) d1_1 rfl rfl ?_
  refine Wk.icmpT (q := 14) d1_2 (by decide) rfl (by decide : (0 : Int32) < (2 : Int32)) ?_
  refine Wk.iconst (q := 15) (v := (0 : Int32)) d1_14 rfl rfl ?_
  refine Wk.istore (q := 17) (ls' := #[.val (.int (0 : Int32)), .val (.int (2 : Int32)), .val (.int (1 : Int32)), .val (.int z0), .val (.int (0 : Int32))]) d1_15 rfl rfl ?_
  refine Wk.iload (q := 19) d1_17 rfl rfl ?_
  refine Wk.ifcT (q := 29) d1_19 (by decide) rfl (by decide : (0 : Int32) = (0 : Int32)) ?_
  refine Wk.iconst (q := 30) (v := (1 : Int32)) d1_29 rfl rfl ?_
  refine Wk.goto (q := 34) d1_30 (by decide) rfl ?_
  exact Wk.retZ rfl rfl d1_34 (by decide) (by decide) ⟨rfl, rfl⟩
set_option maxRecDepth 65536 in
set_option maxHeartbeats 40000000 in
theorem m_56 {l : Launch} {Z : State} {a0 : Array Value} {n0 : Nat} {h : Heap}  {a_T : Addr} {c_T : Cell} (hw : ∀ d ∈ tables_1, d.before a0 Z = true) (F : OwnF Z h  a_T c_T) {a1 : Addr} {c1 : Cell} {b0 b1 b2 b3 : Int32} (A1 : Arr Z h a1 c1 .byte) (S1 : c1.slots.size = 4) (e_0 : c1.slots[0]? = some (Value.int b0)) (e_1 : c1.slots[1]? = some (Value.int b1)) (e_2 : c1.slots[2]? = some (Value.int b2)) (e_3 : c1.slots[3]? = some (Value.int b3)) (z0 : Int32) : Met l Z n0 (⟨"com/example/tallykey/tallykey/HttpSyntaxIsTextPinLaw", "ok", "(IIIB)Z"⟩ : MethodName) method_3_code 5 (Option.some Jvm.ClassFile.FieldType.boolean) (⟨0, 0, 0, 0⟩ : Room) #[(.int (1 : Int32)), (.int (2 : Int32)), (.int (1 : Int32)), (.int z0)] h (fun v h' => v = some (.int (1 : Int32)) ∧ h' = h) := by
  refine Met.of_wk (ls := #[.val (.int (1 : Int32)), .val (.int (2 : Int32)), .val (.int (1 : Int32)), .val (.int z0), .unset]) (plainFor_of_name pn_0) (fun m => ef_1 m (1 : Int32) (2 : Int32) (1 : Int32) z0) ?_
  show Wk l Z n0 "com/example/tallykey/tallykey/HttpSyntaxIsTextPinLaw" "ok" method_3_code 5 (Option.some Jvm.ClassFile.FieldType.boolean) (⟨0, 0, 0, 0⟩ : Room) 0 0 (fun v h' => v = some (.int (1 : Int32)) ∧ h' = h) h 0 0 0 #[.val (.int (1 : Int32)), .val (.int (2 : Int32)), .val (.int (1 : Int32)), .val (.int z0), .unset] []
  refine Wk.iloadN (q := 1) d1_0 rfl rfl ?_
  refine Wk.iloadN (q := 2) d1_1 rfl rfl ?_
  refine Wk.icmpT (q := 14) d1_2 (by decide) rfl (by decide : (1 : Int32) < (2 : Int32)) ?_
  refine Wk.iconst (q := 15) (v := (0 : Int32)) d1_14 rfl rfl ?_
  refine Wk.istore (q := 17) (ls' := #[.val (.int (1 : Int32)), .val (.int (2 : Int32)), .val (.int (1 : Int32)), .val (.int z0), .val (.int (0 : Int32))]) d1_15 rfl rfl ?_
  refine Wk.iload (q := 19) d1_17 rfl rfl ?_
  refine Wk.ifcT (q := 29) d1_19 (by decide) rfl (by decide : (0 : Int32) = (0 : Int32)) ?_
  refine Wk.iconst (q := 30) (v := (1 : Int32)) d1_29 rfl rfl ?_
  refine Wk.goto (q := 34) d1_30 (by decide) rfl ?_
  exact Wk.retZ rfl rfl d1_34 (by decide) (by decide) ⟨rfl, rfl⟩
set_option maxRecDepth 65536 in
set_option maxHeartbeats 40000000 in
theorem m_57 {l : Launch} {Z : State} {a0 : Array Value} {n0 : Nat} {h : Heap}  {a_T : Addr} {c_T : Cell} (hw : ∀ d ∈ tables_1, d.before a0 Z = true) (F : OwnF Z h  a_T c_T) {a1 : Addr} {c1 : Cell} {b0 b1 b2 b3 : Int32} (A1 : Arr Z h a1 c1 .byte) (S1 : c1.slots.size = 4) (e_0 : c1.slots[0]? = some (Value.int b0)) (e_1 : c1.slots[1]? = some (Value.int b1)) (e_2 : c1.slots[2]? = some (Value.int b2)) (e_3 : c1.slots[3]? = some (Value.int b3)) (z0 : Int32) : Met l Z n0 (⟨"com/example/tallykey/tallykey/HttpSyntaxIsTextPinLaw", "ok", "(IIIB)Z"⟩ : MethodName) method_3_code 5 (Option.some Jvm.ClassFile.FieldType.boolean) (⟨0, 0, 0, 0⟩ : Room) #[(.int (2 : Int32)), (.int (2 : Int32)), (.int (1 : Int32)), (.int z0)] h (fun v h' => v = some (.int (1 : Int32)) ∧ h' = h) := by
  refine Met.of_wk (ls := #[.val (.int (2 : Int32)), .val (.int (2 : Int32)), .val (.int (1 : Int32)), .val (.int z0), .unset]) (plainFor_of_name pn_0) (fun m => ef_1 m (2 : Int32) (2 : Int32) (1 : Int32) z0) ?_
  show Wk l Z n0 "com/example/tallykey/tallykey/HttpSyntaxIsTextPinLaw" "ok" method_3_code 5 (Option.some Jvm.ClassFile.FieldType.boolean) (⟨0, 0, 0, 0⟩ : Room) 0 0 (fun v h' => v = some (.int (1 : Int32)) ∧ h' = h) h 0 0 0 #[.val (.int (2 : Int32)), .val (.int (2 : Int32)), .val (.int (1 : Int32)), .val (.int z0), .unset] []
  refine Wk.iloadN (q := 1) d1_0 rfl rfl ?_
  refine Wk.iloadN (q := 2) d1_1 rfl rfl ?_
  refine Wk.icmpF (q := 5) d1_2 rfl (by decide : ¬ (2 : Int32) < (2 : Int32)) ?_
  refine Wk.iloadN (q := 6) d1_5 rfl rfl ?_
  refine Wk.iloadN (q := 7) d1_6 rfl rfl ?_
  refine Wk.icmpT (q := 14) d1_7 (by decide) rfl (by decide : ¬ (2 : Int32) < (1 : Int32)) ?_
  refine Wk.iconst (q := 15) (v := (0 : Int32)) d1_14 rfl rfl ?_
  refine Wk.istore (q := 17) (ls' := #[.val (.int (2 : Int32)), .val (.int (2 : Int32)), .val (.int (1 : Int32)), .val (.int z0), .val (.int (0 : Int32))]) d1_15 rfl rfl ?_
  refine Wk.iload (q := 19) d1_17 rfl rfl ?_
  refine Wk.ifcT (q := 29) d1_19 (by decide) rfl (by decide : (0 : Int32) = (0 : Int32)) ?_
  refine Wk.iconst (q := 30) (v := (1 : Int32)) d1_29 rfl rfl ?_
  refine Wk.goto (q := 34) d1_30 (by decide) rfl ?_
  exact Wk.retZ rfl rfl d1_34 (by decide) (by decide) ⟨rfl, rfl⟩
set_option maxRecDepth 65536 in
set_option maxHeartbeats 40000000 in
theorem m_58 {l : Launch} {Z : State} {a0 : Array Value} {n0 : Nat} {h : Heap}  {a_T : Addr} {c_T : Cell} (hw : ∀ d ∈ tables_1, d.before a0 Z = true) (F : OwnF Z h  a_T c_T) {a1 : Addr} {c1 : Cell} {b0 b1 b2 b3 : Int32} (A1 : Arr Z h a1 c1 .byte) (S1 : c1.slots.size = 4) (e_0 : c1.slots[0]? = some (Value.int b0)) (e_1 : c1.slots[1]? = some (Value.int b1)) (e_2 : c1.slots[2]? = some (Value.int b2)) (e_3 : c1.slots[3]? = some (Value.int b3)) (z0 : Int32) : Met l Z n0 (⟨"com/example/tallykey/tallykey/HttpSyntaxIsTextPinLaw", "ok", "(IIIB)Z"⟩ : MethodName) method_3_code 5 (Option.some Jvm.ClassFile.FieldType.boolean) (⟨0, 0, 0, 0⟩ : Room) #[(.int (3 : Int32)), (.int (2 : Int32)), (.int (1 : Int32)), (.int z0)] h (fun v h' => v = some (.int (1 : Int32)) ∧ h' = h) := by
  refine Met.of_wk (ls := #[.val (.int (3 : Int32)), .val (.int (2 : Int32)), .val (.int (1 : Int32)), .val (.int z0), .unset]) (plainFor_of_name pn_0) (fun m => ef_1 m (3 : Int32) (2 : Int32) (1 : Int32) z0) ?_
  show Wk l Z n0 "com/example/tallykey/tallykey/HttpSyntaxIsTextPinLaw" "ok" method_3_code 5 (Option.some Jvm.ClassFile.FieldType.boolean) (⟨0, 0, 0, 0⟩ : Room) 0 0 (fun v h' => v = some (.int (1 : Int32)) ∧ h' = h) h 0 0 0 #[.val (.int (3 : Int32)), .val (.int (2 : Int32)), .val (.int (1 : Int32)), .val (.int z0), .unset] []
  refine Wk.iloadN (q := 1) d1_0 rfl rfl ?_
  refine Wk.iloadN (q := 2) d1_1 rfl rfl ?_
  refine Wk.icmpF (q := 5) d1_2 rfl (by decide : ¬ (3 : Int32) < (2 : Int32)) ?_
  refine Wk.iloadN (q := 6) d1_5 rfl rfl ?_
  refine Wk.iloadN (q := 7) d1_6 rfl rfl ?_
  refine Wk.icmpT (q := 14) d1_7 (by decide) rfl (by decide : ¬ (3 : Int32) < (1 : Int32)) ?_
  refine Wk.iconst (q := 15) (v := (0 : Int32)) d1_14 rfl rfl ?_
  refine Wk.istore (q := 17) (ls' := #[.val (.int (3 : Int32)), .val (.int (2 : Int32)), .val (.int (1 : Int32)), .val (.int z0), .val (.int (0 : Int32))]) d1_15 rfl rfl ?_
  refine Wk.iload (q := 19) d1_17 rfl rfl ?_
  refine Wk.ifcT (q := 29) d1_19 (by decide) rfl (by decide : (0 : Int32) = (0 : Int32)) ?_
  refine Wk.iconst (q := 30) (v := (1 : Int32)) d1_29 rfl rfl ?_
  refine Wk.goto (q := 34) d1_30 (by decide) rfl ?_
  exact Wk.retZ rfl rfl d1_34 (by decide) (by decide) ⟨rfl, rfl⟩
set_option maxRecDepth 65536 in
set_option maxHeartbeats 40000000 in
theorem m_59 {l : Launch} {Z : State} {a0 : Array Value} {n0 : Nat} {h : Heap}  {a_T : Addr} {c_T : Cell} (hw : ∀ d ∈ tables_1, d.before a0 Z = true) (F : OwnF Z h  a_T c_T) {a1 : Addr} {c1 : Cell} {b0 b1 b2 b3 : Int32} (A1 : Arr Z h a1 c1 .byte) (S1 : c1.slots.size = 4) (e_0 : c1.slots[0]? = some (Value.int b0)) (e_1 : c1.slots[1]? = some (Value.int b1)) (e_2 : c1.slots[2]? = some (Value.int b2)) (e_3 : c1.slots[3]? = some (Value.int b3)) : Met l Z n0 (⟨"com/example/tallykey/tallykey/HttpSyntax", "isText", "([BII)Z"⟩ : MethodName) prog_5_method_5_code 4 (Option.some Jvm.ClassFile.FieldType.boolean) (⟨0, 0, 0, 0⟩ : Room) #[(.ref a1), (.int (2 : Int32)), (.int (1 : Int32))] h (fun v h' => v = some (.int (1 : Int32)) ∧ h' = h) := by
  refine Met.of_wk (ls := #[.val (.ref a1), .val (.int (2 : Int32)), .val (.int (1 : Int32)), .unset]) (plainFor_of_name pn_1) (fun m => ef_2 m a1 (2 : Int32) (1 : Int32)) ?_
  show Wk l Z n0 "com/example/tallykey/tallykey/HttpSyntax" "isText" prog_5_method_5_code 4 (Option.some Jvm.ClassFile.FieldType.boolean) (⟨0, 0, 0, 0⟩ : Room) 0 0 (fun v h' => v = some (.int (1 : Int32)) ∧ h' = h) h 0 0 0 #[.val (.ref a1), .val (.int (2 : Int32)), .val (.int (1 : Int32)), .unset] []
  refine Wk.iloadN (q := 1) d3_0 rfl rfl ?_
  refine Wk.istoreN (q := 2) (ls' := #[.val (.ref a1), .val (.int (2 : Int32)), .val (.int (1 : Int32)), .val (.int (2 : Int32))]) d3_1 rfl rfl ?_
  refine Wk.iloadN (q := 3) d3_2 rfl rfl ?_
  refine Wk.iloadN (q := 4) d3_3 rfl rfl ?_
  refine Wk.icmpT (q := 29) d3_4 (by decide) rfl (by decide : ¬ (2 : Int32) < (1 : Int32)) ?_
  refine Wk.iconst (q := 30) (v := (1 : Int32)) d3_29 rfl rfl ?_
  exact Wk.retZ rfl rfl d3_30 (by decide) (by decide) ⟨rfl, rfl⟩
set_option maxRecDepth 65536 in
set_option maxHeartbeats 40000000 in
theorem m_60 {l : Launch} {Z : State} {a0 : Array Value} {n0 : Nat} {h : Heap}  {a_T : Addr} {c_T : Cell} (hw : ∀ d ∈ tables_1, d.before a0 Z = true) (F : OwnF Z h  a_T c_T) {a1 : Addr} {c1 : Cell} {b0 b1 b2 b3 : Int32} (A1 : Arr Z h a1 c1 .byte) (S1 : c1.slots.size = 4) (e_0 : c1.slots[0]? = some (Value.int b0)) (e_1 : c1.slots[1]? = some (Value.int b1)) (e_2 : c1.slots[2]? = some (Value.int b2)) (e_3 : c1.slots[3]? = some (Value.int b3)) (z0 : Int32) : Met l Z n0 (⟨"com/example/tallykey/tallykey/HttpSyntaxIsTextPinLaw", "ok", "(IIIB)Z"⟩ : MethodName) method_3_code 5 (Option.some Jvm.ClassFile.FieldType.boolean) (⟨0, 0, 0, 0⟩ : Room) #[(.int (0 : Int32)), (.int (2 : Int32)), (.int (2 : Int32)), (.int z0)] h (fun v h' => v = some (.int (1 : Int32)) ∧ h' = h) := by
  refine Met.of_wk (ls := #[.val (.int (0 : Int32)), .val (.int (2 : Int32)), .val (.int (2 : Int32)), .val (.int z0), .unset]) (plainFor_of_name pn_0) (fun m => ef_1 m (0 : Int32) (2 : Int32) (2 : Int32) z0) ?_
  show Wk l Z n0 "com/example/tallykey/tallykey/HttpSyntaxIsTextPinLaw" "ok" method_3_code 5 (Option.some Jvm.ClassFile.FieldType.boolean) (⟨0, 0, 0, 0⟩ : Room) 0 0 (fun v h' => v = some (.int (1 : Int32)) ∧ h' = h) h 0 0 0 #[.val (.int (0 : Int32)), .val (.int (2 : Int32)), .val (.int (2 : Int32)), .val (.int z0), .unset] []
  refine Wk.iloadN (q := 1) d1_0 rfl rfl ?_
  refine Wk.iloadN (q := 2) d1_1 rfl rfl ?_
  refine Wk.icmpT (q := 14) d1_2 (by decide) rfl (by decide : (0 : Int32) < (2 : Int32)) ?_
  refine Wk.iconst (q := 15) (v := (0 : Int32)) d1_14 rfl rfl ?_
  refine Wk.istore (q := 17) (ls' := #[.val (.int (0 : Int32)), .val (.int (2 : Int32)), .val (.int (2 : Int32)), .val (.int z0), .val (.int (0 : Int32))]) d1_15 rfl rfl ?_
  refine Wk.iload (q := 19) d1_17 rfl rfl ?_
  refine Wk.ifcT (q := 29) d1_19 (by decide) rfl (by decide : (0 : Int32) = (0 : Int32)) ?_
  refine Wk.iconst (q := 30) (v := (1 : Int32)) d1_29 rfl rfl ?_
  refine Wk.goto (q := 34) d1_30 (by decide) rfl ?_
  exact Wk.retZ rfl rfl d1_34 (by decide) (by decide) ⟨rfl, rfl⟩
set_option maxRecDepth 65536 in
set_option maxHeartbeats 40000000 in
theorem m_61 {l : Launch} {Z : State} {a0 : Array Value} {n0 : Nat} {h : Heap}  {a_T : Addr} {c_T : Cell} (hw : ∀ d ∈ tables_1, d.before a0 Z = true) (F : OwnF Z h  a_T c_T) {a1 : Addr} {c1 : Cell} {b0 b1 b2 b3 : Int32} (A1 : Arr Z h a1 c1 .byte) (S1 : c1.slots.size = 4) (e_0 : c1.slots[0]? = some (Value.int b0)) (e_1 : c1.slots[1]? = some (Value.int b1)) (e_2 : c1.slots[2]? = some (Value.int b2)) (e_3 : c1.slots[3]? = some (Value.int b3)) (z0 : Int32) : Met l Z n0 (⟨"com/example/tallykey/tallykey/HttpSyntaxIsTextPinLaw", "ok", "(IIIB)Z"⟩ : MethodName) method_3_code 5 (Option.some Jvm.ClassFile.FieldType.boolean) (⟨0, 0, 0, 0⟩ : Room) #[(.int (1 : Int32)), (.int (2 : Int32)), (.int (2 : Int32)), (.int z0)] h (fun v h' => v = some (.int (1 : Int32)) ∧ h' = h) := by
  refine Met.of_wk (ls := #[.val (.int (1 : Int32)), .val (.int (2 : Int32)), .val (.int (2 : Int32)), .val (.int z0), .unset]) (plainFor_of_name pn_0) (fun m => ef_1 m (1 : Int32) (2 : Int32) (2 : Int32) z0) ?_
  show Wk l Z n0 "com/example/tallykey/tallykey/HttpSyntaxIsTextPinLaw" "ok" method_3_code 5 (Option.some Jvm.ClassFile.FieldType.boolean) (⟨0, 0, 0, 0⟩ : Room) 0 0 (fun v h' => v = some (.int (1 : Int32)) ∧ h' = h) h 0 0 0 #[.val (.int (1 : Int32)), .val (.int (2 : Int32)), .val (.int (2 : Int32)), .val (.int z0), .unset] []
  refine Wk.iloadN (q := 1) d1_0 rfl rfl ?_
  refine Wk.iloadN (q := 2) d1_1 rfl rfl ?_
  refine Wk.icmpT (q := 14) d1_2 (by decide) rfl (by decide : (1 : Int32) < (2 : Int32)) ?_
  refine Wk.iconst (q := 15) (v := (0 : Int32)) d1_14 rfl rfl ?_
  refine Wk.istore (q := 17) (ls' := #[.val (.int (1 : Int32)), .val (.int (2 : Int32)), .val (.int (2 : Int32)), .val (.int z0), .val (.int (0 : Int32))]) d1_15 rfl rfl ?_
  refine Wk.iload (q := 19) d1_17 rfl rfl ?_
  refine Wk.ifcT (q := 29) d1_19 (by decide) rfl (by decide : (0 : Int32) = (0 : Int32)) ?_
  refine Wk.iconst (q := 30) (v := (1 : Int32)) d1_29 rfl rfl ?_
  refine Wk.goto (q := 34) d1_30 (by decide) rfl ?_
  exact Wk.retZ rfl rfl d1_34 (by decide) (by decide) ⟨rfl, rfl⟩
set_option maxRecDepth 65536 in
set_option maxHeartbeats 40000000 in
theorem m_62 {l : Launch} {Z : State} {a0 : Array Value} {n0 : Nat} {h : Heap}  {a_T : Addr} {c_T : Cell} (hw : ∀ d ∈ tables_1, d.before a0 Z = true) (F : OwnF Z h  a_T c_T) {a1 : Addr} {c1 : Cell} {b0 b1 b2 b3 : Int32} (A1 : Arr Z h a1 c1 .byte) (S1 : c1.slots.size = 4) (e_0 : c1.slots[0]? = some (Value.int b0)) (e_1 : c1.slots[1]? = some (Value.int b1)) (e_2 : c1.slots[2]? = some (Value.int b2)) (e_3 : c1.slots[3]? = some (Value.int b3)) (z0 : Int32) : Met l Z n0 (⟨"com/example/tallykey/tallykey/HttpSyntaxIsTextPinLaw", "ok", "(IIIB)Z"⟩ : MethodName) method_3_code 5 (Option.some Jvm.ClassFile.FieldType.boolean) (⟨0, 0, 0, 0⟩ : Room) #[(.int (2 : Int32)), (.int (2 : Int32)), (.int (2 : Int32)), (.int z0)] h (fun v h' => v = some (.int (1 : Int32)) ∧ h' = h) := by
  refine Met.of_wk (ls := #[.val (.int (2 : Int32)), .val (.int (2 : Int32)), .val (.int (2 : Int32)), .val (.int z0), .unset]) (plainFor_of_name pn_0) (fun m => ef_1 m (2 : Int32) (2 : Int32) (2 : Int32) z0) ?_
  show Wk l Z n0 "com/example/tallykey/tallykey/HttpSyntaxIsTextPinLaw" "ok" method_3_code 5 (Option.some Jvm.ClassFile.FieldType.boolean) (⟨0, 0, 0, 0⟩ : Room) 0 0 (fun v h' => v = some (.int (1 : Int32)) ∧ h' = h) h 0 0 0 #[.val (.int (2 : Int32)), .val (.int (2 : Int32)), .val (.int (2 : Int32)), .val (.int z0), .unset] []
  refine Wk.iloadN (q := 1) d1_0 rfl rfl ?_
  refine Wk.iloadN (q := 2) d1_1 rfl rfl ?_
  refine Wk.icmpF (q := 5) d1_2 rfl (by decide : ¬ (2 : Int32) < (2 : Int32)) ?_
  refine Wk.iloadN (q := 6) d1_5 rfl rfl ?_
  refine Wk.iloadN (q := 7) d1_6 rfl rfl ?_
  refine Wk.icmpT (q := 14) d1_7 (by decide) rfl (by decide : ¬ (2 : Int32) < (2 : Int32)) ?_
  refine Wk.iconst (q := 15) (v := (0 : Int32)) d1_14 rfl rfl ?_
  refine Wk.istore (q := 17) (ls' := #[.val (.int (2 : Int32)), .val (.int (2 : Int32)), .val (.int (2 : Int32)), .val (.int z0), .val (.int (0 : Int32))]) d1_15 rfl rfl ?_
  refine Wk.iload (q := 19) d1_17 rfl rfl ?_
  refine Wk.ifcT (q := 29) d1_19 (by decide) rfl (by decide : (0 : Int32) = (0 : Int32)) ?_
  refine Wk.iconst (q := 30) (v := (1 : Int32)) d1_29 rfl rfl ?_
  refine Wk.goto (q := 34) d1_30 (by decide) rfl ?_
  exact Wk.retZ rfl rfl d1_34 (by decide) (by decide) ⟨rfl, rfl⟩
set_option maxRecDepth 65536 in
set_option maxHeartbeats 40000000 in
theorem m_63 {l : Launch} {Z : State} {a0 : Array Value} {n0 : Nat} {h : Heap}  {a_T : Addr} {c_T : Cell} (hw : ∀ d ∈ tables_1, d.before a0 Z = true) (F : OwnF Z h  a_T c_T) {a1 : Addr} {c1 : Cell} {b0 b1 b2 b3 : Int32} (A1 : Arr Z h a1 c1 .byte) (S1 : c1.slots.size = 4) (e_0 : c1.slots[0]? = some (Value.int b0)) (e_1 : c1.slots[1]? = some (Value.int b1)) (e_2 : c1.slots[2]? = some (Value.int b2)) (e_3 : c1.slots[3]? = some (Value.int b3)) (z0 : Int32) : Met l Z n0 (⟨"com/example/tallykey/tallykey/HttpSyntaxIsTextPinLaw", "ok", "(IIIB)Z"⟩ : MethodName) method_3_code 5 (Option.some Jvm.ClassFile.FieldType.boolean) (⟨0, 0, 0, 0⟩ : Room) #[(.int (3 : Int32)), (.int (2 : Int32)), (.int (2 : Int32)), (.int z0)] h (fun v h' => v = some (.int (1 : Int32)) ∧ h' = h) := by
  refine Met.of_wk (ls := #[.val (.int (3 : Int32)), .val (.int (2 : Int32)), .val (.int (2 : Int32)), .val (.int z0), .unset]) (plainFor_of_name pn_0) (fun m => ef_1 m (3 : Int32) (2 : Int32) (2 : Int32) z0) ?_
  show Wk l Z n0 "com/example/tallykey/tallykey/HttpSyntaxIsTextPinLaw" "ok" method_3_code 5 (Option.some Jvm.ClassFile.FieldType.boolean) (⟨0, 0, 0, 0⟩ : Room) 0 0 (fun v h' => v = some (.int (1 : Int32)) ∧ h' = h) h 0 0 0 #[.val (.int (3 : Int32)), .val (.int (2 : Int32)), .val (.int (2 : Int32)), .val (.int z0), .unset] []
  refine Wk.iloadN (q := 1) d1_0 rfl rfl ?_
  refine Wk.iloadN (q := 2) d1_1 rfl rfl ?_
  refine Wk.icmpF (q := 5) d1_2 rfl (by decide : ¬ (3 : Int32) < (2 : Int32)) ?_
  refine Wk.iloadN (q := 6) d1_5 rfl rfl ?_
  refine Wk.iloadN (q := 7) d1_6 rfl rfl ?_
  refine Wk.icmpT (q := 14) d1_7 (by decide) rfl (by decide : ¬ (3 : Int32) < (2 : Int32)) ?_
  refine Wk.iconst (q := 15) (v := (0 : Int32)) d1_14 rfl rfl ?_
  refine Wk.istore (q := 17) (ls' := #[.val (.int (3 : Int32)), .val (.int (2 : Int32)), .val (.int (2 : Int32)), .val (.int z0), .val (.int (0 : Int32))]) d1_15 rfl rfl ?_
  refine Wk.iload (q := 19) d1_17 rfl rfl ?_
  refine Wk.ifcT (q := 29) d1_19 (by decide) rfl (by decide : (0 : Int32) = (0 : Int32)) ?_
  refine Wk.iconst (q := 30) (v := (1 : Int32)) d1_29 rfl rfl ?_
  refine Wk.goto (q := 34) d1_30 (by decide) rfl ?_
  exact Wk.retZ rfl rfl d1_34 (by decide) (by decide) ⟨rfl, rfl⟩
set_option maxRecDepth 65536 in
set_option maxHeartbeats 40000000 in
theorem m_64 {l : Launch} {Z : State} {a0 : Array Value} {n0 : Nat} {h : Heap}  {a_T : Addr} {c_T : Cell} (hw : ∀ d ∈ tables_1, d.before a0 Z = true) (F : OwnF Z h  a_T c_T) {a1 : Addr} {c1 : Cell} {b0 b1 b2 b3 : Int32} (A1 : Arr Z h a1 c1 .byte) (S1 : c1.slots.size = 4) (e_0 : c1.slots[0]? = some (Value.int b0)) (e_1 : c1.slots[1]? = some (Value.int b1)) (e_2 : c1.slots[2]? = some (Value.int b2)) (e_3 : c1.slots[3]? = some (Value.int b3)) : Met l Z n0 (⟨"com/example/tallykey/tallykey/HttpSyntax", "isText", "([BII)Z"⟩ : MethodName) prog_5_method_5_code 4 (Option.some Jvm.ClassFile.FieldType.boolean) (⟨0, 0, 0, 0⟩ : Room) #[(.ref a1), (.int (2 : Int32)), (.int (2 : Int32))] h (fun v h' => v = some (.int (1 : Int32)) ∧ h' = h) := by
  refine Met.of_wk (ls := #[.val (.ref a1), .val (.int (2 : Int32)), .val (.int (2 : Int32)), .unset]) (plainFor_of_name pn_1) (fun m => ef_2 m a1 (2 : Int32) (2 : Int32)) ?_
  show Wk l Z n0 "com/example/tallykey/tallykey/HttpSyntax" "isText" prog_5_method_5_code 4 (Option.some Jvm.ClassFile.FieldType.boolean) (⟨0, 0, 0, 0⟩ : Room) 0 0 (fun v h' => v = some (.int (1 : Int32)) ∧ h' = h) h 0 0 0 #[.val (.ref a1), .val (.int (2 : Int32)), .val (.int (2 : Int32)), .unset] []
  refine Wk.iloadN (q := 1) d3_0 rfl rfl ?_
  refine Wk.istoreN (q := 2) (ls' := #[.val (.ref a1), .val (.int (2 : Int32)), .val (.int (2 : Int32)), .val (.int (2 : Int32))]) d3_1 rfl rfl ?_
  refine Wk.iloadN (q := 3) d3_2 rfl rfl ?_
  refine Wk.iloadN (q := 4) d3_3 rfl rfl ?_
  refine Wk.icmpT (q := 29) d3_4 (by decide) rfl (by decide : ¬ (2 : Int32) < (2 : Int32)) ?_
  refine Wk.iconst (q := 30) (v := (1 : Int32)) d3_29 rfl rfl ?_
  exact Wk.retZ rfl rfl d3_30 (by decide) (by decide) ⟨rfl, rfl⟩
set_option maxRecDepth 65536 in
set_option maxHeartbeats 40000000 in
theorem m_65 {l : Launch} {Z : State} {a0 : Array Value} {n0 : Nat} {h : Heap}  {a_T : Addr} {c_T : Cell} (hw : ∀ d ∈ tables_1, d.before a0 Z = true) (F : OwnF Z h  a_T c_T) {a1 : Addr} {c1 : Cell} {b0 b1 b2 b3 : Int32} (A1 : Arr Z h a1 c1 .byte) (S1 : c1.slots.size = 4) (e_0 : c1.slots[0]? = some (Value.int b0)) (e_1 : c1.slots[1]? = some (Value.int b1)) (e_2 : c1.slots[2]? = some (Value.int b2)) (e_3 : c1.slots[3]? = some (Value.int b3)) (z0 : Int32) : Met l Z n0 (⟨"com/example/tallykey/tallykey/HttpSyntaxIsTextPinLaw", "ok", "(IIIB)Z"⟩ : MethodName) method_3_code 5 (Option.some Jvm.ClassFile.FieldType.boolean) (⟨0, 0, 0, 0⟩ : Room) #[(.int (0 : Int32)), (.int (2 : Int32)), (.int (3 : Int32)), (.int z0)] h (fun v h' => v = some (.int (1 : Int32)) ∧ h' = h) := by
  refine Met.of_wk (ls := #[.val (.int (0 : Int32)), .val (.int (2 : Int32)), .val (.int (3 : Int32)), .val (.int z0), .unset]) (plainFor_of_name pn_0) (fun m => ef_1 m (0 : Int32) (2 : Int32) (3 : Int32) z0) ?_
  show Wk l Z n0 "com/example/tallykey/tallykey/HttpSyntaxIsTextPinLaw" "ok" method_3_code 5 (Option.some Jvm.ClassFile.FieldType.boolean) (⟨0, 0, 0, 0⟩ : Room) 0 0 (fun v h' => v = some (.int (1 : Int32)) ∧ h' = h) h 0 0 0 #[.val (.int (0 : Int32)), .val (.int (2 : Int32)), .val (.int (3 : Int32)), .val (.int z0), .unset] []
  refine Wk.iloadN (q := 1) d1_0 rfl rfl ?_
  refine Wk.iloadN (q := 2) d1_1 rfl rfl ?_
  refine Wk.icmpT (q := 14) d1_2 (by decide) rfl (by decide : (0 : Int32) < (2 : Int32)) ?_
  refine Wk.iconst (q := 15) (v := (0 : Int32)) d1_14 rfl rfl ?_
  refine Wk.istore (q := 17) (ls' := #[.val (.int (0 : Int32)), .val (.int (2 : Int32)), .val (.int (3 : Int32)), .val (.int z0), .val (.int (0 : Int32))]) d1_15 rfl rfl ?_
  refine Wk.iload (q := 19) d1_17 rfl rfl ?_
  refine Wk.ifcT (q := 29) d1_19 (by decide) rfl (by decide : (0 : Int32) = (0 : Int32)) ?_
  refine Wk.iconst (q := 30) (v := (1 : Int32)) d1_29 rfl rfl ?_
  refine Wk.goto (q := 34) d1_30 (by decide) rfl ?_
  exact Wk.retZ rfl rfl d1_34 (by decide) (by decide) ⟨rfl, rfl⟩
set_option maxRecDepth 65536 in
set_option maxHeartbeats 40000000 in
theorem m_66 {l : Launch} {Z : State} {a0 : Array Value} {n0 : Nat} {h : Heap}  {a_T : Addr} {c_T : Cell} (hw : ∀ d ∈ tables_1, d.before a0 Z = true) (F : OwnF Z h  a_T c_T) {a1 : Addr} {c1 : Cell} {b0 b1 b2 b3 : Int32} (A1 : Arr Z h a1 c1 .byte) (S1 : c1.slots.size = 4) (e_0 : c1.slots[0]? = some (Value.int b0)) (e_1 : c1.slots[1]? = some (Value.int b1)) (e_2 : c1.slots[2]? = some (Value.int b2)) (e_3 : c1.slots[3]? = some (Value.int b3)) (z0 : Int32) : Met l Z n0 (⟨"com/example/tallykey/tallykey/HttpSyntaxIsTextPinLaw", "ok", "(IIIB)Z"⟩ : MethodName) method_3_code 5 (Option.some Jvm.ClassFile.FieldType.boolean) (⟨0, 0, 0, 0⟩ : Room) #[(.int (1 : Int32)), (.int (2 : Int32)), (.int (3 : Int32)), (.int z0)] h (fun v h' => v = some (.int (1 : Int32)) ∧ h' = h) := by
  refine Met.of_wk (ls := #[.val (.int (1 : Int32)), .val (.int (2 : Int32)), .val (.int (3 : Int32)), .val (.int z0), .unset]) (plainFor_of_name pn_0) (fun m => ef_1 m (1 : Int32) (2 : Int32) (3 : Int32) z0) ?_
  show Wk l Z n0 "com/example/tallykey/tallykey/HttpSyntaxIsTextPinLaw" "ok" method_3_code 5 (Option.some Jvm.ClassFile.FieldType.boolean) (⟨0, 0, 0, 0⟩ : Room) 0 0 (fun v h' => v = some (.int (1 : Int32)) ∧ h' = h) h 0 0 0 #[.val (.int (1 : Int32)), .val (.int (2 : Int32)), .val (.int (3 : Int32)), .val (.int z0), .unset] []
  refine Wk.iloadN (q := 1) d1_0 rfl rfl ?_
  refine Wk.iloadN (q := 2) d1_1 rfl rfl ?_
  refine Wk.icmpT (q := 14) d1_2 (by decide) rfl (by decide : (1 : Int32) < (2 : Int32)) ?_
  refine Wk.iconst (q := 15) (v := (0 : Int32)) d1_14 rfl rfl ?_
  refine Wk.istore (q := 17) (ls' := #[.val (.int (1 : Int32)), .val (.int (2 : Int32)), .val (.int (3 : Int32)), .val (.int z0), .val (.int (0 : Int32))]) d1_15 rfl rfl ?_
  refine Wk.iload (q := 19) d1_17 rfl rfl ?_
  refine Wk.ifcT (q := 29) d1_19 (by decide) rfl (by decide : (0 : Int32) = (0 : Int32)) ?_
  refine Wk.iconst (q := 30) (v := (1 : Int32)) d1_29 rfl rfl ?_
  refine Wk.goto (q := 34) d1_30 (by decide) rfl ?_
  exact Wk.retZ rfl rfl d1_34 (by decide) (by decide) ⟨rfl, rfl⟩
set_option maxRecDepth 65536 in
set_option maxHeartbeats 40000000 in
theorem m_67 {l : Launch} {Z : State} {a0 : Array Value} {n0 : Nat} {h : Heap}  {a_T : Addr} {c_T : Cell} (hw : ∀ d ∈ tables_1, d.before a0 Z = true) (F : OwnF Z h  a_T c_T) {a1 : Addr} {c1 : Cell} {b0 b1 b2 b3 : Int32} (A1 : Arr Z h a1 c1 .byte) (S1 : c1.slots.size = 4) (e_0 : c1.slots[0]? = some (Value.int b0)) (e_1 : c1.slots[1]? = some (Value.int b1)) (e_2 : c1.slots[2]? = some (Value.int b2)) (e_3 : c1.slots[3]? = some (Value.int b3)) (z0 : Int32) : Met l Z n0 (⟨"com/example/tallykey/tallykey/HttpSyntaxIsTextPinLaw", "ok", "(IIIB)Z"⟩ : MethodName) method_3_code 5 (Option.some Jvm.ClassFile.FieldType.boolean) (⟨1, 0, 0, 13⟩ : Room) #[(.int (2 : Int32)), (.int (2 : Int32)), (.int (3 : Int32)), (.int z0)] h (fun v h' => (∃ w, v = some w ∧ ((((tabN (z0 &&& (255 : Int32)).toNatClampNeg) = (0 : Int32)) ∧ w = (.int (0 : Int32))) ∨ ((¬ (tabN (z0 &&& (255 : Int32)).toNatClampNeg) = (0 : Int32)) ∧ w = (.int (1 : Int32))))) ∧ h' = h) := by
  refine Met.of_wk (ls := #[.val (.int (2 : Int32)), .val (.int (2 : Int32)), .val (.int (3 : Int32)), .val (.int z0), .unset]) (plainFor_of_name pn_0) (fun m => ef_1 m (2 : Int32) (2 : Int32) (3 : Int32) z0) ?_
  show Wk l Z n0 "com/example/tallykey/tallykey/HttpSyntaxIsTextPinLaw" "ok" method_3_code 5 (Option.some Jvm.ClassFile.FieldType.boolean) (⟨1, 0, 0, 13⟩ : Room) 0 0 (fun v h' => (∃ w, v = some w ∧ ((((tabN (z0 &&& (255 : Int32)).toNatClampNeg) = (0 : Int32)) ∧ w = (.int (0 : Int32))) ∨ ((¬ (tabN (z0 &&& (255 : Int32)).toNatClampNeg) = (0 : Int32)) ∧ w = (.int (1 : Int32))))) ∧ h' = h) h 0 0 0 #[.val (.int (2 : Int32)), .val (.int (2 : Int32)), .val (.int (3 : Int32)), .val (.int z0), .unset] []
  refine Wk.iloadN (q := 1) d1_0 rfl rfl ?_
  refine Wk.iloadN (q := 2) d1_1 rfl rfl ?_
  refine Wk.icmpF (q := 5) d1_2 rfl (by decide : ¬ (2 : Int32) < (2 : Int32)) ?_
  refine Wk.iloadN (q := 6) d1_5 rfl rfl ?_
  refine Wk.iloadN (q := 7) d1_6 rfl rfl ?_
  refine Wk.icmpF (q := 10) d1_7 rfl (by decide : (2 : Int32) < (3 : Int32)) ?_
  refine Wk.iconst (q := 11) (v := (1 : Int32)) d1_10 rfl rfl ?_
  refine Wk.goto (q := 15) d1_11 (by decide) rfl ?_
  refine Wk.istore (q := 17) (ls' := #[.val (.int (2 : Int32)), .val (.int (2 : Int32)), .val (.int (3 : Int32)), .val (.int z0), .val (.int (1 : Int32))]) d1_15 rfl rfl ?_
  refine Wk.iload (q := 19) d1_17 rfl rfl ?_
  refine Wk.ifcF (q := 22) d1_19 rfl (by decide : ¬ (1 : Int32) = (0 : Int32)) ?_
  refine Wk.iloadN (q := 23) d1_22 rfl rfl ?_
  refine Wk.callS1 (q := 26) (argsL := [(.int z0)]) (rest := []) (fr := 0) (lo := 0) (v0 := (.int (tabN (z0 &&& (255 : Int32)).toNatClampNeg))) (m_cls hw F z0) (w_6 hw) (w_7 hw) (w_4 hw) (w_8 hw) (by decide) pd_2 rfl rfl rfl d1_23 rfl (W := 0) rfl (by decide) (by decide) (by decide) (by decide) ?_
  refine Wk.ifc (q := 33) (q' := 29) d1_26 (by decide) rfl rfl (fun (h1 : (tabN (z0 &&& (255 : Int32)).toNatClampNeg) = (0 : Int32)) => ?_) (fun (h1 : ¬ (tabN (z0 &&& (255 : Int32)).toNatClampNeg) = (0 : Int32)) => ?_)
  · refine Wk.iconst (q := 34) (v := (0 : Int32)) d1_33 rfl rfl ?_
    exact Wk.retZ rfl rfl d1_34 (by decide) (by decide) ⟨⟨_, rfl, Or.inl ⟨h1, rfl⟩⟩, rfl⟩
  · refine Wk.iconst (q := 30) (v := (1 : Int32)) d1_29 rfl rfl ?_
    refine Wk.goto (q := 34) d1_30 (by decide) rfl ?_
    exact Wk.retZ rfl rfl d1_34 (by decide) (by decide) ⟨⟨_, rfl, Or.inr (⟨h1, rfl⟩)⟩, rfl⟩
set_option maxRecDepth 65536 in
set_option maxHeartbeats 40000000 in
theorem m_68 {l : Launch} {Z : State} {a0 : Array Value} {n0 : Nat} {h : Heap}  {a_T : Addr} {c_T : Cell} (hw : ∀ d ∈ tables_1, d.before a0 Z = true) (F : OwnF Z h  a_T c_T) {a1 : Addr} {c1 : Cell} {b0 b1 b2 b3 : Int32} (A1 : Arr Z h a1 c1 .byte) (S1 : c1.slots.size = 4) (e_0 : c1.slots[0]? = some (Value.int b0)) (e_1 : c1.slots[1]? = some (Value.int b1)) (e_2 : c1.slots[2]? = some (Value.int b2)) (e_3 : c1.slots[3]? = some (Value.int b3)) : Met l Z n0 (⟨"com/example/tallykey/tallykey/HttpSyntax", "isText", "([BII)Z"⟩ : MethodName) prog_5_method_5_code 4 (Option.some Jvm.ClassFile.FieldType.boolean) (⟨0, 0, 0, 0⟩ : Room) #[(.ref a1), (.int (2 : Int32)), (.int (3 : Int32))] h (fun v h' => (∃ w, v = some w ∧ (((¬ (tabN (b2 &&& (255 : Int32)).toNatClampNeg) = (0 : Int32)) ∧ w = (.int (1 : Int32))) ∨ (((tabN (b2 &&& (255 : Int32)).toNatClampNeg) = (0 : Int32)) ∧ w = (.int (0 : Int32))))) ∧ h' = h) := by
  refine Met.of_wk (ls := #[.val (.ref a1), .val (.int (2 : Int32)), .val (.int (3 : Int32)), .unset]) (plainFor_of_name pn_1) (fun m => ef_2 m a1 (2 : Int32) (3 : Int32)) ?_
  show Wk l Z n0 "com/example/tallykey/tallykey/HttpSyntax" "isText" prog_5_method_5_code 4 (Option.some Jvm.ClassFile.FieldType.boolean) (⟨0, 0, 0, 0⟩ : Room) 0 0 (fun v h' => (∃ w, v = some w ∧ (((¬ (tabN (b2 &&& (255 : Int32)).toNatClampNeg) = (0 : Int32)) ∧ w = (.int (1 : Int32))) ∨ (((tabN (b2 &&& (255 : Int32)).toNatClampNeg) = (0 : Int32)) ∧ w = (.int (0 : Int32))))) ∧ h' = h) h 0 0 0 #[.val (.ref a1), .val (.int (2 : Int32)), .val (.int (3 : Int32)), .unset] []
  refine Wk.iloadN (q := 1) d3_0 rfl rfl ?_
  refine Wk.istoreN (q := 2) (ls' := #[.val (.ref a1), .val (.int (2 : Int32)), .val (.int (3 : Int32)), .val (.int (2 : Int32))]) d3_1 rfl rfl ?_
  refine Wk.iloadN (q := 3) d3_2 rfl rfl ?_
  refine Wk.iloadN (q := 4) d3_3 rfl rfl ?_
  refine Wk.icmpF (q := 7) d3_4 rfl (by decide : (2 : Int32) < (3 : Int32)) ?_
  refine Wk.getS (q := 10) (w_13 hw) Via.refl F.s_T d3_7 rfl ?_
  refine Wk.aloadN (q := 11) d3_10 rfl rfl rfl ?_
  refine Wk.iloadN (q := 12) d3_11 rfl rfl ?_
  refine Wk.baloadB (q := 13) A1 (by rw [S1]; decide) e_2 d3_12 rfl ?_
  refine Wk.sipush (q := 16) (v := (255 : Int32)) d3_13 rfl rfl ?_
  refine Wk.iand (q := 17) (v := (b2 &&& (255 : Int32))) d3_16 rfl rfl ?_
  refine Wk.baloadZ (q := 18) F.r_T (by rw [F.z_T]; exact own_in (own_255 b2).1 (by have := (own_255 b2).2; omega)) (F.t_T _ (by have := own_clamp (own_255 b2).1; have := (own_255 b2).2; omega)) d3_17 rfl ?_
  refine Wk.ifc (q := 23) (q' := 21) d3_18 (by decide) rfl rfl (fun (h1 : ¬ (tabN (b2 &&& (255 : Int32)).toNatClampNeg) = (0 : Int32)) => ?_) (fun (h1 : (tabN (b2 &&& (255 : Int32)).toNatClampNeg) = (0 : Int32)) => ?_)
  · refine Wk.iinc (q := 26) (v := (3 : Int32)) (ls' := #[.val (.ref a1), .val (.int (2 : Int32)), .val (.int (3 : Int32)), .val (.int (3 : Int32))]) d3_23 rfl rfl (by decide) rfl ?_
    refine Wk.goto (q := 2) d3_26 (by decide) rfl ?_
    refine Wk.iloadN (q := 3) d3_2 rfl rfl ?_
    refine Wk.iloadN (q := 4) d3_3 rfl rfl ?_
    refine Wk.icmpT (q := 29) d3_4 (by decide) rfl (by decide : ¬ (3 : Int32) < (3 : Int32)) ?_
    refine Wk.iconst (q := 30) (v := (1 : Int32)) d3_29 rfl rfl ?_
    exact Wk.retZ rfl rfl d3_30 (by decide) (by decide) ⟨⟨_, rfl, Or.inl ⟨h1, rfl⟩⟩, rfl⟩
  · refine Wk.iconst (q := 22) (v := (0 : Int32)) d3_21 rfl rfl ?_
    exact Wk.retZ rfl rfl d3_22 (by decide) (by decide) ⟨⟨_, rfl, Or.inr (⟨h1, rfl⟩)⟩, rfl⟩
set_option maxRecDepth 65536 in
set_option maxHeartbeats 40000000 in
theorem m_69 {l : Launch} {Z : State} {a0 : Array Value} {n0 : Nat} {h : Heap}  {a_T : Addr} {c_T : Cell} (hw : ∀ d ∈ tables_1, d.before a0 Z = true) (F : OwnF Z h  a_T c_T) {a1 : Addr} {c1 : Cell} {b0 b1 b2 b3 : Int32} (A1 : Arr Z h a1 c1 .byte) (S1 : c1.slots.size = 4) (e_0 : c1.slots[0]? = some (Value.int b0)) (e_1 : c1.slots[1]? = some (Value.int b1)) (e_2 : c1.slots[2]? = some (Value.int b2)) (e_3 : c1.slots[3]? = some (Value.int b3)) (z0 : Int32) : Met l Z n0 (⟨"com/example/tallykey/tallykey/HttpSyntaxIsTextPinLaw", "ok", "(IIIB)Z"⟩ : MethodName) method_3_code 5 (Option.some Jvm.ClassFile.FieldType.boolean) (⟨0, 0, 0, 0⟩ : Room) #[(.int (3 : Int32)), (.int (2 : Int32)), (.int (3 : Int32)), (.int z0)] h (fun v h' => v = some (.int (1 : Int32)) ∧ h' = h) := by
  refine Met.of_wk (ls := #[.val (.int (3 : Int32)), .val (.int (2 : Int32)), .val (.int (3 : Int32)), .val (.int z0), .unset]) (plainFor_of_name pn_0) (fun m => ef_1 m (3 : Int32) (2 : Int32) (3 : Int32) z0) ?_
  show Wk l Z n0 "com/example/tallykey/tallykey/HttpSyntaxIsTextPinLaw" "ok" method_3_code 5 (Option.some Jvm.ClassFile.FieldType.boolean) (⟨0, 0, 0, 0⟩ : Room) 0 0 (fun v h' => v = some (.int (1 : Int32)) ∧ h' = h) h 0 0 0 #[.val (.int (3 : Int32)), .val (.int (2 : Int32)), .val (.int (3 : Int32)), .val (.int z0), .unset] []
  refine Wk.iloadN (q := 1) d1_0 rfl rfl ?_
  refine Wk.iloadN (q := 2) d1_1 rfl rfl ?_
  refine Wk.icmpF (q := 5) d1_2 rfl (by decide : ¬ (3 : Int32) < (2 : Int32)) ?_
  refine Wk.iloadN (q := 6) d1_5 rfl rfl ?_
  refine Wk.iloadN (q := 7) d1_6 rfl rfl ?_
  refine Wk.icmpT (q := 14) d1_7 (by decide) rfl (by decide : ¬ (3 : Int32) < (3 : Int32)) ?_
  refine Wk.iconst (q := 15) (v := (0 : Int32)) d1_14 rfl rfl ?_
  refine Wk.istore (q := 17) (ls' := #[.val (.int (3 : Int32)), .val (.int (2 : Int32)), .val (.int (3 : Int32)), .val (.int z0), .val (.int (0 : Int32))]) d1_15 rfl rfl ?_
  refine Wk.iload (q := 19) d1_17 rfl rfl ?_
  refine Wk.ifcT (q := 29) d1_19 (by decide) rfl (by decide : (0 : Int32) = (0 : Int32)) ?_
  refine Wk.iconst (q := 30) (v := (1 : Int32)) d1_29 rfl rfl ?_
  refine Wk.goto (q := 34) d1_30 (by decide) rfl ?_
  exact Wk.retZ rfl rfl d1_34 (by decide) (by decide) ⟨rfl, rfl⟩
set_option maxRecDepth 65536 in
set_option maxHeartbeats 40000000 in
theorem m_70 {l : Launch} {Z : State} {a0 : Array Value} {n0 : Nat} {h : Heap}  {a_T : Addr} {c_T : Cell} (hw : ∀ d ∈ tables_1, d.before a0 Z = true) (F : OwnF Z h  a_T c_T) {a1 : Addr} {c1 : Cell} {b0 b1 b2 b3 : Int32} (A1 : Arr Z h a1 c1 .byte) (S1 : c1.slots.size = 4) (e_0 : c1.slots[0]? = some (Value.int b0)) (e_1 : c1.slots[1]? = some (Value.int b1)) (e_2 : c1.slots[2]? = some (Value.int b2)) (e_3 : c1.slots[3]? = some (Value.int b3)) (z0 : Int32) : Met l Z n0 (⟨"com/example/tallykey/tallykey/HttpSyntaxIsTextPinLaw", "ok", "(IIIB)Z"⟩ : MethodName) method_3_code 5 (Option.some Jvm.ClassFile.FieldType.boolean) (⟨0, 0, 0, 0⟩ : Room) #[(.int (0 : Int32)), (.int (2 : Int32)), (.int (4 : Int32)), (.int z0)] h (fun v h' => v = some (.int (1 : Int32)) ∧ h' = h) := by
  refine Met.of_wk (ls := #[.val (.int (0 : Int32)), .val (.int (2 : Int32)), .val (.int (4 : Int32)), .val (.int z0), .unset]) (plainFor_of_name pn_0) (fun m => ef_1 m (0 : Int32) (2 : Int32) (4 : Int32) z0) ?_
  show Wk l Z n0 "com/example/tallykey/tallykey/HttpSyntaxIsTextPinLaw" "ok" method_3_code 5 (Option.some Jvm.ClassFile.FieldType.boolean) (⟨0, 0, 0, 0⟩ : Room) 0 0 (fun v h' => v = some (.int (1 : Int32)) ∧ h' = h) h 0 0 0 #[.val (.int (0 : Int32)), .val (.int (2 : Int32)), .val (.int (4 : Int32)), .val (.int z0), .unset] []
  refine Wk.iloadN (q := 1) d1_0 rfl rfl ?_
  refine Wk.iloadN (q := 2) d1_1 rfl rfl ?_
  refine Wk.icmpT (q := 14) d1_2 (by decide) rfl (by decide : (0 : Int32) < (2 : Int32)) ?_
  refine Wk.iconst (q := 15) (v := (0 : Int32)) d1_14 rfl rfl ?_
  refine Wk.istore (q := 17) (ls' := #[.val (.int (0 : Int32)), .val (.int (2 : Int32)), .val (.int (4 : Int32)), .val (.int z0), .val (.int (0 : Int32))]) d1_15 rfl rfl ?_
  refine Wk.iload (q := 19) d1_17 rfl rfl ?_
  refine Wk.ifcT (q := 29) d1_19 (by decide) rfl (by decide : (0 : Int32) = (0 : Int32)) ?_
  refine Wk.iconst (q := 30) (v := (1 : Int32)) d1_29 rfl rfl ?_
  refine Wk.goto (q := 34) d1_30 (by decide) rfl ?_
  exact Wk.retZ rfl rfl d1_34 (by decide) (by decide) ⟨rfl, rfl⟩
set_option maxRecDepth 65536 in
set_option maxHeartbeats 40000000 in
theorem m_71 {l : Launch} {Z : State} {a0 : Array Value} {n0 : Nat} {h : Heap}  {a_T : Addr} {c_T : Cell} (hw : ∀ d ∈ tables_1, d.before a0 Z = true) (F : OwnF Z h  a_T c_T) {a1 : Addr} {c1 : Cell} {b0 b1 b2 b3 : Int32} (A1 : Arr Z h a1 c1 .byte) (S1 : c1.slots.size = 4) (e_0 : c1.slots[0]? = some (Value.int b0)) (e_1 : c1.slots[1]? = some (Value.int b1)) (e_2 : c1.slots[2]? = some (Value.int b2)) (e_3 : c1.slots[3]? = some (Value.int b3)) (z0 : Int32) : Met l Z n0 (⟨"com/example/tallykey/tallykey/HttpSyntaxIsTextPinLaw", "ok", "(IIIB)Z"⟩ : MethodName) method_3_code 5 (Option.some Jvm.ClassFile.FieldType.boolean) (⟨0, 0, 0, 0⟩ : Room) #[(.int (1 : Int32)), (.int (2 : Int32)), (.int (4 : Int32)), (.int z0)] h (fun v h' => v = some (.int (1 : Int32)) ∧ h' = h) := by
  refine Met.of_wk (ls := #[.val (.int (1 : Int32)), .val (.int (2 : Int32)), .val (.int (4 : Int32)), .val (.int z0), .unset]) (plainFor_of_name pn_0) (fun m => ef_1 m (1 : Int32) (2 : Int32) (4 : Int32) z0) ?_
  show Wk l Z n0 "com/example/tallykey/tallykey/HttpSyntaxIsTextPinLaw" "ok" method_3_code 5 (Option.some Jvm.ClassFile.FieldType.boolean) (⟨0, 0, 0, 0⟩ : Room) 0 0 (fun v h' => v = some (.int (1 : Int32)) ∧ h' = h) h 0 0 0 #[.val (.int (1 : Int32)), .val (.int (2 : Int32)), .val (.int (4 : Int32)), .val (.int z0), .unset] []
  refine Wk.iloadN (q := 1) d1_0 rfl rfl ?_
  refine Wk.iloadN (q := 2) d1_1 rfl rfl ?_
  refine Wk.icmpT (q := 14) d1_2 (by decide) rfl (by decide : (1 : Int32) < (2 : Int32)) ?_
  refine Wk.iconst (q := 15) (v := (0 : Int32)) d1_14 rfl rfl ?_
  refine Wk.istore (q := 17) (ls' := #[.val (.int (1 : Int32)), .val (.int (2 : Int32)), .val (.int (4 : Int32)), .val (.int z0), .val (.int (0 : Int32))]) d1_15 rfl rfl ?_
  refine Wk.iload (q := 19) d1_17 rfl rfl ?_
  refine Wk.ifcT (q := 29) d1_19 (by decide) rfl (by decide : (0 : Int32) = (0 : Int32)) ?_
  refine Wk.iconst (q := 30) (v := (1 : Int32)) d1_29 rfl rfl ?_
  refine Wk.goto (q := 34) d1_30 (by decide) rfl ?_
  exact Wk.retZ rfl rfl d1_34 (by decide) (by decide) ⟨rfl, rfl⟩
set_option maxRecDepth 65536 in
set_option maxHeartbeats 40000000 in
theorem m_72 {l : Launch} {Z : State} {a0 : Array Value} {n0 : Nat} {h : Heap}  {a_T : Addr} {c_T : Cell} (hw : ∀ d ∈ tables_1, d.before a0 Z = true) (F : OwnF Z h  a_T c_T) {a1 : Addr} {c1 : Cell} {b0 b1 b2 b3 : Int32} (A1 : Arr Z h a1 c1 .byte) (S1 : c1.slots.size = 4) (e_0 : c1.slots[0]? = some (Value.int b0)) (e_1 : c1.slots[1]? = some (Value.int b1)) (e_2 : c1.slots[2]? = some (Value.int b2)) (e_3 : c1.slots[3]? = some (Value.int b3)) (z0 : Int32) : Met l Z n0 (⟨"com/example/tallykey/tallykey/HttpSyntaxIsTextPinLaw", "ok", "(IIIB)Z"⟩ : MethodName) method_3_code 5 (Option.some Jvm.ClassFile.FieldType.boolean) (⟨1, 0, 0, 13⟩ : Room) #[(.int (2 : Int32)), (.int (2 : Int32)), (.int (4 : Int32)), (.int z0)] h (fun v h' => (∃ w, v = some w ∧ ((((tabN (z0 &&& (255 : Int32)).toNatClampNeg) = (0 : Int32)) ∧ w = (.int (0 : Int32))) ∨ ((¬ (tabN (z0 &&& (255 : Int32)).toNatClampNeg) = (0 : Int32)) ∧ w = (.int (1 : Int32))))) ∧ h' = h) := by
  refine Met.of_wk (ls := #[.val (.int (2 : Int32)), .val (.int (2 : Int32)), .val (.int (4 : Int32)), .val (.int z0), .unset]) (plainFor_of_name pn_0) (fun m => ef_1 m (2 : Int32) (2 : Int32) (4 : Int32) z0) ?_
  show Wk l Z n0 "com/example/tallykey/tallykey/HttpSyntaxIsTextPinLaw" "ok" method_3_code 5 (Option.some Jvm.ClassFile.FieldType.boolean) (⟨1, 0, 0, 13⟩ : Room) 0 0 (fun v h' => (∃ w, v = some w ∧ ((((tabN (z0 &&& (255 : Int32)).toNatClampNeg) = (0 : Int32)) ∧ w = (.int (0 : Int32))) ∨ ((¬ (tabN (z0 &&& (255 : Int32)).toNatClampNeg) = (0 : Int32)) ∧ w = (.int (1 : Int32))))) ∧ h' = h) h 0 0 0 #[.val (.int (2 : Int32)), .val (.int (2 : Int32)), .val (.int (4 : Int32)), .val (.int z0), .unset] []
  refine Wk.iloadN (q := 1) d1_0 rfl rfl ?_
  refine Wk.iloadN (q := 2) d1_1 rfl rfl ?_
  refine Wk.icmpF (q := 5) d1_2 rfl (by decide : ¬ (2 : Int32) < (2 : Int32)) ?_
  refine Wk.iloadN (q := 6) d1_5 rfl rfl ?_
  refine Wk.iloadN (q := 7) d1_6 rfl rfl ?_
  refine Wk.icmpF (q := 10) d1_7 rfl (by decide : (2 : Int32) < (4 : Int32)) ?_
  refine Wk.iconst (q := 11) (v := (1 : Int32)) d1_10 rfl rfl ?_
  refine Wk.goto (q := 15) d1_11 (by decide) rfl ?_
  refine Wk.istore (q := 17) (ls' := #[.val (.int (2 : Int32)), .val (.int (2 : Int32)), .val (.int (4 : Int32)), .val (.int z0), .val (.int (1 : Int32))]) d1_15 rfl rfl ?_
  refine Wk.iload (q := 19) d1_17 rfl rfl ?_
  refine Wk.ifcF (q := 22) d1_19 rfl (by decide : ¬ (1 : Int32) = (0 : Int32)) ?_
  refine Wk.iloadN (q := 23) d1_22 rfl rfl ?_
  refine Wk.callS1 (q := 26) (argsL := [(.int z0)]) (rest := []) (fr := 0) (lo := 0) (v0 := (.int (tabN (z0 &&& (255 : Int32)).toNatClampNeg))) (m_cls hw F z0) (w_6 hw) (w_7 hw) (w_4 hw) (w_8 hw) (by decide) pd_2 rfl rfl rfl d1_23 rfl (W := 0) rfl (by decide) (by decide) (by decide) (by decide) ?_
  refine Wk.ifc (q := 33) (q' := 29) d1_26 (by decide) rfl rfl (fun (h1 : (tabN (z0 &&& (255 : Int32)).toNatClampNeg) = (0 : Int32)) => ?_) (fun (h1 : ¬ (tabN (z0 &&& (255 : Int32)).toNatClampNeg) = (0 : Int32)) => ?_)
  · refine Wk.iconst (q := 34) (v := (0 : Int32)) d1_33 rfl rfl ?_
    exact Wk.retZ rfl rfl d1_34 (by decide) (by decide) ⟨⟨_, rfl, Or.inl ⟨h1, rfl⟩⟩, rfl⟩
  · refine Wk.iconst (q := 30) (v := (1 : Int32)) d1_29 rfl rfl ?_
    refine Wk.goto (q := 34) d1_30 (by decide) rfl ?_
    exact Wk.retZ rfl rfl d1_34 (by decide) (by decide) ⟨⟨_, rfl, Or.inr (⟨h1, rfl⟩)⟩, rfl⟩
set_option maxRecDepth 65536 in
set_option maxHeartbeats 40000000 in
theorem m_73 {l : Launch} {Z : State} {a0 : Array Value} {n0 : Nat} {h : Heap}  {a_T : Addr} {c_T : Cell} (hw : ∀ d ∈ tables_1, d.before a0 Z = true) (F : OwnF Z h  a_T c_T) {a1 : Addr} {c1 : Cell} {b0 b1 b2 b3 : Int32} (A1 : Arr Z h a1 c1 .byte) (S1 : c1.slots.size = 4) (e_0 : c1.slots[0]? = some (Value.int b0)) (e_1 : c1.slots[1]? = some (Value.int b1)) (e_2 : c1.slots[2]? = some (Value.int b2)) (e_3 : c1.slots[3]? = some (Value.int b3)) : Met l Z n0 (⟨"com/example/tallykey/tallykey/HttpSyntax", "isText", "([BII)Z"⟩ : MethodName) prog_5_method_5_code 4 (Option.some Jvm.ClassFile.FieldType.boolean) (⟨0, 0, 0, 0⟩ : Room) #[(.ref a1), (.int (2 : Int32)), (.int (4 : Int32))] h (fun v h' => (∃ w, v = some w ∧ (((¬ (tabN (b2 &&& (255 : Int32)).toNatClampNeg) = (0 : Int32)) ∧ (¬ (tabN (b3 &&& (255 : Int32)).toNatClampNeg) = (0 : Int32)) ∧ w = (.int (1 : Int32))) ∨ ((¬ (tabN (b2 &&& (255 : Int32)).toNatClampNeg) = (0 : Int32)) ∧ ((tabN (b3 &&& (255 : Int32)).toNatClampNeg) = (0 : Int32)) ∧ w = (.int (0 : Int32))) ∨ (((tabN (b2 &&& (255 : Int32)).toNatClampNeg) = (0 : Int32)) ∧ w = (.int (0 : Int32))))) ∧ h' = h) := by
  refine Met.of_wk (ls := #[.val (.ref a1), .val (.int (2 : Int32)), .val (.int (4 : Int32)), .unset]) (plainFor_of_name pn_1) (fun m => ef_2 m a1 (2 : Int32) (4 : Int32)) ?_
  show Wk l Z n0 "com/example/tallykey/tallykey/HttpSyntax" "isText" prog_5_method_5_code 4 (Option.some Jvm.ClassFile.FieldType.boolean) (⟨0, 0, 0, 0⟩ : Room) 0 0 (fun v h' => (∃ w, v = some w ∧ (((¬ (tabN (b2 &&& (255 : Int32)).toNatClampNeg) = (0 : Int32)) ∧ (¬ (tabN (b3 &&& (255 : Int32)).toNatClampNeg) = (0 : Int32)) ∧ w = (.int (1 : Int32))) ∨ ((¬ (tabN (b2 &&& (255 : Int32)).toNatClampNeg) = (0 : Int32)) ∧ ((tabN (b3 &&& (255 : Int32)).toNatClampNeg) = (0 : Int32)) ∧ w = (.int (0 : Int32))) ∨ (((tabN (b2 &&& (255 : Int32)).toNatClampNeg) = (0 : Int32)) ∧ w = (.int (0 : Int32))))) ∧ h' = h) h 0 0 0 #[.val (.ref a1), .val (.int (2 : Int32)), .val (.int (4 : Int32)), .unset] []
  refine Wk.iloadN (q := 1) d3_0 rfl rfl ?_
  refine Wk.istoreN (q := 2) (ls' := #[.val (.ref a1), .val (.int (2 : Int32)), .val (.int (4 : Int32)), .val (.int (2 : Int32))]) d3_1 rfl rfl ?_
  refine Wk.iloadN (q := 3) d3_2 rfl rfl ?_
  refine Wk.iloadN (q := 4) d3_3 rfl rfl ?_
  refine Wk.icmpF (q := 7) d3_4 rfl (by decide : (2 : Int32) < (4 : Int32)) ?_
  refine Wk.getS (q := 10) (w_13 hw) Via.refl F.s_T d3_7 rfl ?_
  refine Wk.aloadN (q := 11) d3_10 rfl rfl rfl ?_
  refine Wk.iloadN (q := 12) d3_11 rfl rfl ?_
  refine Wk.baloadB (q := 13) A1 (by rw [S1]; decide) e_2 d3_12 rfl ?_
  refine Wk.sipush (q := 16) (v := (255 : Int32)) d3_13 rfl rfl ?_
  refine Wk.iand (q := 17) (v := (b2 &&& (255 : Int32))) d3_16 rfl rfl ?_
  refine Wk.baloadZ (q := 18) F.r_T (by rw [F.z_T]; exact own_in (own_255 b2).1 (by have := (own_255 b2).2; omega)) (F.t_T _ (by have := own_clamp (own_255 b2).1; have := (own_255 b2).2; omega)) d3_17 rfl ?_
  refine Wk.ifc (q := 23) (q' := 21) d3_18 (by decide) rfl rfl (fun (h1 : ¬ (tabN (b2 &&& (255 : Int32)).toNatClampNeg) = (0 : Int32)) => ?_) (fun (h1 : (tabN (b2 &&& (255 : Int32)).toNatClampNeg) = (0 : Int32)) => ?_)
  · refine Wk.iinc (q := 26) (v := (3 : Int32)) (ls' := #[.val (.ref a1), .val (.int (2 : Int32)), .val (.int (4 : Int32)), .val (.int (3 : Int32))]) d3_23 rfl rfl (by decide) rfl ?_
    refine Wk.goto (q := 2) d3_26 (by decide) rfl ?_
    refine Wk.iloadN (q := 3) d3_2 rfl rfl ?_
    refine Wk.iloadN (q := 4) d3_3 rfl rfl ?_
    refine Wk.icmpF (q := 7) d3_4 rfl (by decide : (3 : Int32) < (4 : Int32)) ?_
    refine Wk.getS (q := 10) (w_13 hw) Via.refl F.s_T d3_7 rfl ?_
    refine Wk.aloadN (q := 11) d3_10 rfl rfl rfl ?_
    refine Wk.iloadN (q := 12) d3_11 rfl rfl ?_
    refine Wk.baloadB (q := 13) A1 (by rw [S1]; decide) e_3 d3_12 rfl ?_
    refine Wk.sipush (q := 16) (v := (255 : Int32)) d3_13 rfl rfl ?_
    refine Wk.iand (q := 17) (v := (b3 &&& (255 : Int32))) d3_16 rfl rfl ?_
    refine Wk.baloadZ (q := 18) F.r_T (by rw [F.z_T]; exact own_in (own_255 b3).1 (by have := (own_255 b3).2; omega)) (F.t_T _ (by have := own_clamp (own_255 b3).1; have := (own_255 b3).2; omega)) d3_17 rfl ?_
    refine Wk.ifc (q := 23) (q' := 21) d3_18 (by decide) rfl rfl (fun (h2 : ¬ (tabN (b3 &&& (255 : Int32)).toNatClampNeg) = (0 : Int32)) => ?_) (fun (h2 : (tabN (b3 &&& (255 : Int32)).toNatClampNeg) = (0 : Int32)) => ?_)
    · refine Wk.iinc (q := 26) (v := (4 : Int32)) (ls' := #[.val (.ref a1), .val (.int (2 : Int32)), .val (.int (4 : Int32)), .val (.int (4 : Int32))]) d3_23 rfl rfl (by decide) rfl ?_
      refine Wk.goto (q := 2) d3_26 (by decide) rfl ?_
      refine Wk.iloadN (q := 3) d3_2 rfl rfl ?_
      refine Wk.iloadN (q := 4) d3_3 rfl rfl ?_
      refine Wk.icmpT (q := 29) d3_4 (by decide) rfl (by decide : ¬ (4 : Int32) < (4 : Int32)) ?_
      refine Wk.iconst (q := 30) (v := (1 : Int32)) d3_29 rfl rfl ?_
      exact Wk.retZ rfl rfl d3_30 (by decide) (by decide) ⟨⟨_, rfl, Or.inl ⟨h1, h2, rfl⟩⟩, rfl⟩
    · refine Wk.iconst (q := 22) (v := (0 : Int32)) d3_21 rfl rfl ?_
      exact Wk.retZ rfl rfl d3_22 (by decide) (by decide) ⟨⟨_, rfl, Or.inr (Or.inl ⟨h1, h2, rfl⟩)⟩, rfl⟩
  · refine Wk.iconst (q := 22) (v := (0 : Int32)) d3_21 rfl rfl ?_
    exact Wk.retZ rfl rfl d3_22 (by decide) (by decide) ⟨⟨_, rfl, Or.inr (Or.inr (⟨h1, rfl⟩))⟩, rfl⟩
set_option maxRecDepth 65536 in
set_option maxHeartbeats 40000000 in
theorem m_74 {l : Launch} {Z : State} {a0 : Array Value} {n0 : Nat} {h : Heap}  {a_T : Addr} {c_T : Cell} (hw : ∀ d ∈ tables_1, d.before a0 Z = true) (F : OwnF Z h  a_T c_T) {a1 : Addr} {c1 : Cell} {b0 b1 b2 b3 : Int32} (A1 : Arr Z h a1 c1 .byte) (S1 : c1.slots.size = 4) (e_0 : c1.slots[0]? = some (Value.int b0)) (e_1 : c1.slots[1]? = some (Value.int b1)) (e_2 : c1.slots[2]? = some (Value.int b2)) (e_3 : c1.slots[3]? = some (Value.int b3)) (z0 : Int32) : Met l Z n0 (⟨"com/example/tallykey/tallykey/HttpSyntaxIsTextPinLaw", "ok", "(IIIB)Z"⟩ : MethodName) method_3_code 5 (Option.some Jvm.ClassFile.FieldType.boolean) (⟨1, 0, 0, 13⟩ : Room) #[(.int (3 : Int32)), (.int (2 : Int32)), (.int (4 : Int32)), (.int z0)] h (fun v h' => (∃ w, v = some w ∧ ((((tabN (z0 &&& (255 : Int32)).toNatClampNeg) = (0 : Int32)) ∧ w = (.int (0 : Int32))) ∨ ((¬ (tabN (z0 &&& (255 : Int32)).toNatClampNeg) = (0 : Int32)) ∧ w = (.int (1 : Int32))))) ∧ h' = h) := by
  refine Met.of_wk (ls := #[.val (.int (3 : Int32)), .val (.int (2 : Int32)), .val (.int (4 : Int32)), .val (.int z0), .unset]) (plainFor_of_name pn_0) (fun m => ef_1 m (3 : Int32) (2 : Int32) (4 : Int32) z0) ?_
  show Wk l Z n0 "com/example/tallykey/tallykey/HttpSyntaxIsTextPinLaw" "ok" method_3_code 5 (Option.some Jvm.ClassFile.FieldType.boolean) (⟨1, 0, 0, 13⟩ : Room) 0 0 (fun v h' => (∃ w, v = some w ∧ ((((tabN (z0 &&& (255 : Int32)).toNatClampNeg) = (0 : Int32)) ∧ w = (.int (0 : Int32))) ∨ ((¬ (tabN (z0 &&& (255 : Int32)).toNatClampNeg) = (0 : Int32)) ∧ w = (.int (1 : Int32))))) ∧ h' = h) h 0 0 0 #[.val (.int (3 : Int32)), .val (.int (2 : Int32)), .val (.int (4 : Int32)), .val (.int z0), .unset] []
  refine Wk.iloadN (q := 1) d1_0 rfl rfl ?_
  refine Wk.iloadN (q := 2) d1_1 rfl rfl ?_
  refine Wk.icmpF (q := 5) d1_2 rfl (by decide : ¬ (3 : Int32) < (2 : Int32)) ?_
  refine Wk.iloadN (q := 6) d1_5 rfl rfl ?_
  refine Wk.iloadN (q := 7) d1_6 rfl rfl ?_
  refine Wk.icmpF (q := 10) d1_7 rfl (by decide : (3 : Int32) < (4 : Int32)) ?_
  refine Wk.iconst (q := 11) (v := (1 : Int32)) d1_10 rfl rfl ?_
  refine Wk.goto (q := 15) d1_11 (by decide) rfl ?_
  refine Wk.istore (q := 17) (ls' := #[.val (.int (3 : Int32)), .val (.int (2 : Int32)), .val (.int (4 : Int32)), .val (.int z0), .val (.int (1 : Int32))]) d1_15 rfl rfl ?_
  refine Wk.iload (q := 19) d1_17 rfl rfl ?_
  refine Wk.ifcF (q := 22) d1_19 rfl (by decide : ¬ (1 : Int32) = (0 : Int32)) ?_
  refine Wk.iloadN (q := 23) d1_22 rfl rfl ?_
  refine Wk.callS1 (q := 26) (argsL := [(.int z0)]) (rest := []) (fr := 0) (lo := 0) (v0 := (.int (tabN (z0 &&& (255 : Int32)).toNatClampNeg))) (m_cls hw F z0) (w_6 hw) (w_7 hw) (w_4 hw) (w_8 hw) (by decide) pd_2 rfl rfl rfl d1_23 rfl (W := 0) rfl (by decide) (by decide) (by decide) (by decide) ?_
  refine Wk.ifc (q := 33) (q' := 29) d1_26 (by decide) rfl rfl (fun (h1 : (tabN (z0 &&& (255 : Int32)).toNatClampNeg) = (0 : Int32)) => ?_) (fun (h1 : ¬ (tabN (z0 &&& (255 : Int32)).toNatClampNeg) = (0 : Int32)) => ?_)
  · refine Wk.iconst (q := 34) (v := (0 : Int32)) d1_33 rfl rfl ?_
    exact Wk.retZ rfl rfl d1_34 (by decide) (by decide) ⟨⟨_, rfl, Or.inl ⟨h1, rfl⟩⟩, rfl⟩
  · refine Wk.iconst (q := 30) (v := (1 : Int32)) d1_29 rfl rfl ?_
    refine Wk.goto (q := 34) d1_30 (by decide) rfl ?_
    exact Wk.retZ rfl rfl d1_34 (by decide) (by decide) ⟨⟨_, rfl, Or.inr (⟨h1, rfl⟩)⟩, rfl⟩
set_option maxRecDepth 65536 in
set_option maxHeartbeats 40000000 in
theorem m_75 {l : Launch} {Z : State} {a0 : Array Value} {n0 : Nat} {h : Heap}  {a_T : Addr} {c_T : Cell} (hw : ∀ d ∈ tables_1, d.before a0 Z = true) (F : OwnF Z h  a_T c_T) {a1 : Addr} {c1 : Cell} {b0 b1 b2 b3 : Int32} (A1 : Arr Z h a1 c1 .byte) (S1 : c1.slots.size = 4) (e_0 : c1.slots[0]? = some (Value.int b0)) (e_1 : c1.slots[1]? = some (Value.int b1)) (e_2 : c1.slots[2]? = some (Value.int b2)) (e_3 : c1.slots[3]? = some (Value.int b3)) (z0 : Int32) : Met l Z n0 (⟨"com/example/tallykey/tallykey/HttpSyntaxIsTextPinLaw", "ok", "(IIIB)Z"⟩ : MethodName) method_3_code 5 (Option.some Jvm.ClassFile.FieldType.boolean) (⟨0, 0, 0, 0⟩ : Room) #[(.int (0 : Int32)), (.int (3 : Int32)), (.int (0 : Int32)), (.int z0)] h (fun v h' => v = some (.int (1 : Int32)) ∧ h' = h) := by
  refine Met.of_wk (ls := #[.val (.int (0 : Int32)), .val (.int (3 : Int32)), .val (.int (0 : Int32)), .val (.int z0), .unset]) (plainFor_of_name pn_0) (fun m => ef_1 m (0 : Int32) (3 : Int32) (0 : Int32) z0) ?_
  show Wk l Z n0 "com/example/tallykey/tallykey/HttpSyntaxIsTextPinLaw" "ok" method_3_code 5 (Option.some Jvm.ClassFile.FieldType.boolean) (⟨0, 0, 0, 0⟩ : Room) 0 0 (fun v h' => v = some (.int (1 : Int32)) ∧ h' = h) h 0 0 0 #[.val (.int (0 : Int32)), .val (.int (3 : Int32)), .val (.int (0 : Int32)), .val (.int z0), .unset] []
  refine Wk.iloadN (q := 1) d1_0 rfl rfl ?_
  refine Wk.iloadN (q := 2) d1_1 rfl rfl ?_
  refine Wk.icmpT (q := 14) d1_2 (by decide) rfl (by decide : (0 : Int32) < (3 : Int32)) ?_
  refine Wk.iconst (q := 15) (v := (0 : Int32)) d1_14 rfl rfl ?_
  refine Wk.istore (q := 17) (ls' := #[.val (.int (0 : Int32)), .val (.int (3 : Int32)), .val (.int (0 : Int32)), .val (.int z0), .val (.int (0 : Int32))]) d1_15 rfl rfl ?_
  refine Wk.iload (q := 19) d1_17 rfl rfl ?_
  refine Wk.ifcT (q := 29) d1_19 (by decide) rfl (by decide : (0 : Int32) = (0 : Int32)) ?_
  refine Wk.iconst (q := 30) (v := (1 : Int32)) d1_29 rfl rfl ?_
  refine Wk.goto (q := 34) d1_30 (by decide) rfl ?_
  exact Wk.retZ rfl rfl d1_34 (by decide) (by decide) ⟨rfl, rfl⟩
set_option maxRecDepth 65536 in
set_option maxHeartbeats 40000000 in
theorem m_76 {l : Launch} {Z : State} {a0 : Array Value} {n0 : Nat} {h : Heap}  {a_T : Addr} {c_T : Cell} (hw : ∀ d ∈ tables_1, d.before a0 Z = true) (F : OwnF Z h  a_T c_T) {a1 : Addr} {c1 : Cell} {b0 b1 b2 b3 : Int32} (A1 : Arr Z h a1 c1 .byte) (S1 : c1.slots.size = 4) (e_0 : c1.slots[0]? = some (Value.int b0)) (e_1 : c1.slots[1]? = some (Value.int b1)) (e_2 : c1.slots[2]? = some (Value.int b2)) (e_3 : c1.slots[3]? = some (Value.int b3)) (z0 : Int32) : Met l Z n0 (⟨"com/example/tallykey/tallykey/HttpSyntaxIsTextPinLaw", "ok", "(IIIB)Z"⟩ : MethodName) method_3_code 5 (Option.some Jvm.ClassFile.FieldType.boolean) (⟨0, 0, 0, 0⟩ : Room) #[(.int (1 : Int32)), (.int (3 : Int32)), (.int (0 : Int32)), (.int z0)] h (fun v h' => v = some (.int (1 : Int32)) ∧ h' = h) := by
  refine Met.of_wk (ls := #[.val (.int (1 : Int32)), .val (.int (3 : Int32)), .val (.int (0 : Int32)), .val (.int z0), .unset]) (plainFor_of_name pn_0) (fun m => ef_1 m (1 : Int32) (3 : Int32) (0 : Int32) z0) ?_
  show Wk l Z n0 "com/example/tallykey/tallykey/HttpSyntaxIsTextPinLaw" "ok" method_3_code 5 (Option.some Jvm.ClassFile.FieldType.boolean) (⟨0, 0, 0, 0⟩ : Room) 0 0 (fun v h' => v = some (.int (1 : Int32)) ∧ h' = h) h 0 0 0 #[.val (.int (1 : Int32)), .val (.int (3 : Int32)), .val (.int (0 : Int32)), .val (.int z0), .unset] []
  refine Wk.iloadN (q := 1) d1_0 rfl rfl ?_
  refine Wk.iloadN (q := 2) d1_1 rfl rfl ?_
  refine Wk.icmpT (q := 14) d1_2 (by decide) rfl (by decide : (1 : Int32) < (3 : Int32)) ?_
  refine Wk.iconst (q := 15) (v := (0 : Int32)) d1_14 rfl rfl ?_
  refine Wk.istore (q := 17) (ls' := #[.val (.int (1 : Int32)), .val (.int (3 : Int32)), .val (.int (0 : Int32)), .val (.int z0), .val (.int (0 : Int32))]) d1_15 rfl rfl ?_
  refine Wk.iload (q := 19) d1_17 rfl rfl ?_
  refine Wk.ifcT (q := 29) d1_19 (by decide) rfl (by decide : (0 : Int32) = (0 : Int32)) ?_
  refine Wk.iconst (q := 30) (v := (1 : Int32)) d1_29 rfl rfl ?_
  refine Wk.goto (q := 34) d1_30 (by decide) rfl ?_
  exact Wk.retZ rfl rfl d1_34 (by decide) (by decide) ⟨rfl, rfl⟩
set_option maxRecDepth 65536 in
set_option maxHeartbeats 40000000 in
theorem m_77 {l : Launch} {Z : State} {a0 : Array Value} {n0 : Nat} {h : Heap}  {a_T : Addr} {c_T : Cell} (hw : ∀ d ∈ tables_1, d.before a0 Z = true) (F : OwnF Z h  a_T c_T) {a1 : Addr} {c1 : Cell} {b0 b1 b2 b3 : Int32} (A1 : Arr Z h a1 c1 .byte) (S1 : c1.slots.size = 4) (e_0 : c1.slots[0]? = some (Value.int b0)) (e_1 : c1.slots[1]? = some (Value.int b1)) (e_2 : c1.slots[2]? = some (Value.int b2)) (e_3 : c1.slots[3]? = some (Value.int b3)) (z0 : Int32) : Met l Z n0 (⟨"com/example/tallykey/tallykey/HttpSyntaxIsTextPinLaw", "ok", "(IIIB)Z"⟩ : MethodName) method_3_code 5 (Option.some Jvm.ClassFile.FieldType.boolean) (⟨0, 0, 0, 0⟩ : Room) #[(.int (2 : Int32)), (.int (3 : Int32)), (.int (0 : Int32)), (.int z0)] h (fun v h' => v = some (.int (1 : Int32)) ∧ h' = h) := by
  refine Met.of_wk (ls := #[.val (.int (2 : Int32)), .val (.int (3 : Int32)), .val (.int (0 : Int32)), .val (.int z0), .unset]) (plainFor_of_name pn_0) (fun m => ef_1 m (2 : Int32) (3 : Int32) (0 : Int32) z0) ?_
  show Wk l Z n0 "com/example/tallykey/tallykey/HttpSyntaxIsTextPinLaw" "ok" method_3_code 5 (Option.some Jvm.ClassFile.FieldType.boolean) (⟨0, 0, 0, 0⟩ : Room) 0 0 (fun v h' => v = some (.int (1 : Int32)) ∧ h' = h) h 0 0 0 #[.val (.int (2 : Int32)), .val (.int (3 : Int32)), .val (.int (0 : Int32)), .val (.int z0), .unset] []
  refine Wk.iloadN (q := 1) d1_0 rfl rfl ?_
  refine Wk.iloadN (q := 2) d1_1 rfl rfl ?_
  refine Wk.icmpT (q := 14) d1_2 (by decide) rfl (by decide : (2 : Int32) < (3 : Int32)) ?_
  refine Wk.iconst (q := 15) (v := (0 : Int32)) d1_14 rfl rfl ?_
  refine Wk.istore (q := 17) (ls' := #[.val (.int (2 : Int32)), .val (.int (3 : Int32)), .val (.int (0 : Int32)), .val (.int z0), .val (.int (0 : Int32))]) d1_15 rfl rfl ?_
  refine Wk.iload (q := 19) d1_17 rfl rfl ?_
  refine Wk.ifcT (q := 29) d1_19 (by decide) rfl (by decide : (0 : Int32) = (0 : Int32)) ?_
  refine Wk.iconst (q := 30) (v := (1 : Int32)) d1_29 rfl rfl ?_
  refine Wk.goto (q := 34) d1_30 (by decide) rfl ?_
  exact Wk.retZ rfl rfl d1_34 (by decide) (by decide) ⟨rfl, rfl⟩
set_option maxRecDepth 65536 in
set_option maxHeartbeats 40000000 in
theorem m_78 {l : Launch} {Z : State} {a0 : Array Value} {n0 : Nat} {h : Heap}  {a_T : Addr} {c_T : Cell} (hw : ∀ d ∈ tables_1, d.before a0 Z = true) (F : OwnF Z h  a_T c_T) {a1 : Addr} {c1 : Cell} {b0 b1 b2 b3 : Int32} (A1 : Arr Z h a1 c1 .byte) (S1 : c1.slots.size = 4) (e_0 : c1.slots[0]? = some (Value.int b0)) (e_1 : c1.slots[1]? = some (Value.int b1)) (e_2 : c1.slots[2]? = some (Value.int b2)) (e_3 : c1.slots[3]? = some (Value.int b3)) (z0 : Int32) : Met l Z n0 (⟨"com/example/tallykey/tallykey/HttpSyntaxIsTextPinLaw", "ok", "(IIIB)Z"⟩ : MethodName) method_3_code 5 (Option.some Jvm.ClassFile.FieldType.boolean) (⟨0, 0, 0, 0⟩ : Room) #[(.int (3 : Int32)), (.int (3 : Int32)), (.int (0 : Int32)), (.int z0)] h (fun v h' => v = some (.int (1 : Int32)) ∧ h' = h) := by
  refine Met.of_wk (ls := #[.val (.int (3 : Int32)), .val (.int (3 : Int32)), .val (.int (0 : Int32)), .val (.int z0), .unset]) (plainFor_of_name pn_0) (fun m => ef_1 m (3 : Int32) (3 : Int32) (0 : Int32) z0) ?_
  show Wk l Z n0 "com/example/tallykey/tallykey/HttpSyntaxIsTextPinLaw" "ok" method_3_code 5 (Option.some Jvm.ClassFile.FieldType.boolean) (⟨0, 0, 0, 0⟩ : Room) 0 0 (fun v h' => v = some (.int (1 : Int32)) ∧ h' = h) h 0 0 0 #[.val (.int (3 : Int32)), .val (.int (3 : Int32)), .val (.int (0 : Int32)), .val (.int z0), .unset] []
  refine Wk.iloadN (q := 1) d1_0 rfl rfl ?_
  refine Wk.iloadN (q := 2) d1_1 rfl rfl ?_
  refine Wk.icmpF (q := 5) d1_2 rfl (by decide : ¬ (3 : Int32) < (3 : Int32)) ?_
  refine Wk.iloadN (q := 6) d1_5 rfl rfl ?_
  refine Wk.iloadN (q := 7) d1_6 rfl rfl ?_
  refine Wk.icmpT (q := 14) d1_7 (by decide) rfl (by decide : ¬ (3 : Int32) < (0 : Int32)) ?_
  refine Wk.iconst (q := 15) (v := (0 : Int32)) d1_14 rfl rfl ?_
  refine Wk.istore (q := 17) (ls' := #[.val (.int (3 : Int32)), .val (.int (3 : Int32)), .val (.int (0 : Int32)), .val (.int z0), .val (.int (0 : Int32))]) d1_15 rfl rfl ?_
  refine Wk.iload (q := 19) d1_17 rfl rfl ?_
  refine Wk.ifcT (q := 29) d1_19 (by decide) rfl (by decide : (0 : Int32) = (0 : Int32)) ?_
  refine Wk.iconst (q := 30) (v := (1 : Int32)) d1_29 rfl rfl ?_
  refine Wk.goto (q := 34) d1_30 (by decide) rfl ?_
  exact Wk.retZ rfl rfl d1_34 (by decide) (by decide) ⟨rfl, rfl⟩
set_option maxRecDepth 65536 in
set_option maxHeartbeats 40000000 in
theorem m_79 {l : Launch} {Z : State} {a0 : Array Value} {n0 : Nat} {h : Heap}  {a_T : Addr} {c_T : Cell} (hw : ∀ d ∈ tables_1, d.before a0 Z = true) (F : OwnF Z h  a_T c_T) {a1 : Addr} {c1 : Cell} {b0 b1 b2 b3 : Int32} (A1 : Arr Z h a1 c1 .byte) (S1 : c1.slots.size = 4) (e_0 : c1.slots[0]? = some (Value.int b0)) (e_1 : c1.slots[1]? = some (Value.int b1)) (e_2 : c1.slots[2]? = some (Value.int b2)) (e_3 : c1.slots[3]? = some (Value.int b3)) : Met l Z n0 (⟨"com/example/tallykey/tallykey/HttpSyntax", "isText", "([BII)Z"⟩ : MethodName) prog_5_method_5_code 4 (Option.some Jvm.ClassFile.FieldType.boolean) (⟨0, 0, 0, 0⟩ : Room) #[(.ref a1), (.int (3 : Int32)), (.int (0 : Int32))] h (fun v h' => v = some (.int (1 : Int32)) ∧ h' = h) := by
  refine Met.of_wk (ls := #[.val (.ref a1), .val (.int (3 : Int32)), .val (.int (0 : Int32)), .unset]) (plainFor_of_name pn_1) (fun m => ef_2 m a1 (3 : Int32) (0 : Int32)) ?_
  show Wk l Z n0 "com/example/tallykey/tallykey/HttpSyntax" "isText" prog_5_method_5_code 4 (Option.some Jvm.ClassFile.FieldType.boolean) (⟨0, 0, 0, 0⟩ : Room) 0 0 (fun v h' => v = some (.int (1 : Int32)) ∧ h' = h) h 0 0 0 #[.val (.ref a1), .val (.int (3 : Int32)), .val (.int (0 : Int32)), .unset] []
  refine Wk.iloadN (q := 1) d3_0 rfl rfl ?_
  refine Wk.istoreN (q := 2) (ls' := #[.val (.ref a1), .val (.int (3 : Int32)), .val (.int (0 : Int32)), .val (.int (3 : Int32))]) d3_1 rfl rfl ?_
  refine Wk.iloadN (q := 3) d3_2 rfl rfl ?_
  refine Wk.iloadN (q := 4) d3_3 rfl rfl ?_
  refine Wk.icmpT (q := 29) d3_4 (by decide) rfl (by decide : ¬ (3 : Int32) < (0 : Int32)) ?_
  refine Wk.iconst (q := 30) (v := (1 : Int32)) d3_29 rfl rfl ?_
  exact Wk.retZ rfl rfl d3_30 (by decide) (by decide) ⟨rfl, rfl⟩
set_option maxRecDepth 65536 in
set_option maxHeartbeats 40000000 in
theorem m_80 {l : Launch} {Z : State} {a0 : Array Value} {n0 : Nat} {h : Heap}  {a_T : Addr} {c_T : Cell} (hw : ∀ d ∈ tables_1, d.before a0 Z = true) (F : OwnF Z h  a_T c_T) {a1 : Addr} {c1 : Cell} {b0 b1 b2 b3 : Int32} (A1 : Arr Z h a1 c1 .byte) (S1 : c1.slots.size = 4) (e_0 : c1.slots[0]? = some (Value.int b0)) (e_1 : c1.slots[1]? = some (Value.int b1)) (e_2 : c1.slots[2]? = some (Value.int b2)) (e_3 : c1.slots[3]? = some (Value.int b3)) (z0 : Int32) : Met l Z n0 (⟨"com/example/tallykey/tallykey/HttpSyntaxIsTextPinLaw", "ok", "(IIIB)Z"⟩ : MethodName) method_3_code 5 (Option.some Jvm.ClassFile.FieldType.boolean) (⟨0, 0, 0, 0⟩ : Room) #[(.int (0 : Int32)), (.int (3 : Int32)), (.int (1 : Int32)), (.int z0)] h (fun v h' => v = some (.int (1 : Int32)) ∧ h' = h) := by
  refine Met.of_wk (ls := #[.val (.int (0 : Int32)), .val (.int (3 : Int32)), .val (.int (1 : Int32)), .val (.int z0), .unset]) (plainFor_of_name pn_0) (fun m => ef_1 m (0 : Int32) (3 : Int32) (1 : Int32) z0) ?_
  show Wk l Z n0 "com/example/tallykey/tallykey/HttpSyntaxIsTextPinLaw" "ok" method_3_code 5 (Option.some Jvm.ClassFile.FieldType.boolean) (⟨0, 0, 0, 0⟩ : Room) 0 0 (fun v h' => v = some (.int (1 : Int32)) ∧ h' = h) h 0 0 0 #[.val (.int (0 : Int32)), .val (.int (3 : Int32)), .val (.int (1 : Int32)), .val (.int z0), .unset] []
  refine Wk.iloadN (q := 1) d1_0 rfl rfl ?_
  refine Wk.iloadN (q := 2) d1_1 rfl rfl ?_
  refine Wk.icmpT (q := 14) d1_2 (by decide) rfl (by decide : (0 : Int32) < (3 : Int32)) ?_
  refine Wk.iconst (q := 15) (v := (0 : Int32)) d1_14 rfl rfl ?_
  refine Wk.istore (q := 17) (ls' := #[.val (.int (0 : Int32)), .val (.int (3 : Int32)), .val (.int (1 : Int32)), .val (.int z0), .val (.int (0 : Int32))]) d1_15 rfl rfl ?_
  refine Wk.iload (q := 19) d1_17 rfl rfl ?_
  refine Wk.ifcT (q := 29) d1_19 (by decide) rfl (by decide : (0 : Int32) = (0 : Int32)) ?_
  refine Wk.iconst (q := 30) (v := (1 : Int32)) d1_29 rfl rfl ?_
  refine Wk.goto (q := 34) d1_30 (by decide) rfl ?_
  exact Wk.retZ rfl rfl d1_34 (by decide) (by decide) ⟨rfl, rfl⟩
set_option maxRecDepth 65536 in
set_option maxHeartbeats 40000000 in
theorem m_81 {l : Launch} {Z : State} {a0 : Array Value} {n0 : Nat} {h : Heap}  {a_T : Addr} {c_T : Cell} (hw : ∀ d ∈ tables_1, d.before a0 Z = true) (F : OwnF Z h  a_T c_T) {a1 : Addr} {c1 : Cell} {b0 b1 b2 b3 : Int32} (A1 : Arr Z h a1 c1 .byte) (S1 : c1.slots.size = 4) (e_0 : c1.slots[0]? = some (Value.int b0)) (e_1 : c1.slots[1]? = some (Value.int b1)) (e_2 : c1.slots[2]? = some (Value.int b2)) (e_3 : c1.slots[3]? = some (Value.int b3)) (z0 : Int32) : Met l Z n0 (⟨"com/example/tallykey/tallykey/HttpSyntaxIsTextPinLaw", "ok", "(IIIB)Z"⟩ : MethodName) method_3_code 5 (Option.some Jvm.ClassFile.FieldType.boolean) (⟨0, 0, 0, 0⟩ : Room) #[(.int (1 : Int32)), (.int (3 : Int32)), (.int (1 : Int32)), (.int z0)] h (fun v h' => v = some (.int (1 : Int32)) ∧ h' = h) := by
  refine Met.of_wk (ls := #[.val (.int (1 : Int32)), .val (.int (3 : Int32)), .val (.int (1 : Int32)), .val (.int z0), .unset]) (plainFor_of_name pn_0) (fun m => ef_1 m (1 : Int32) (3 : Int32) (1 : Int32) z0) ?_
  show Wk l Z n0 "com/example/tallykey/tallykey/HttpSyntaxIsTextPinLaw" "ok" method_3_code 5 (Option.some Jvm.ClassFile.FieldType.boolean) (⟨0, 0, 0, 0⟩ : Room) 0 0 (fun v h' => v = some (.int (1 : Int32)) ∧ h' = h) h 0 0 0 #[.val (.int (1 : Int32)), .val (.int (3 : Int32)), .val (.int (1 : Int32)), .val (.int z0), .unset] []
  refine Wk.iloadN (q := 1) d1_0 rfl rfl ?_
  refine Wk.iloadN (q := 2) d1_1 rfl rfl ?_
  refine Wk.icmpT (q := 14) d1_2 (by decide) rfl (by decide : (1 : Int32) < (3 : Int32)) ?_
  refine Wk.iconst (q := 15) (v := (0 : Int32)) d1_14 rfl rfl ?_
  refine Wk.istore (q := 17) (ls' := #[.val (.int (1 : Int32)), .val (.int (3 : Int32)), .val (.int (1 : Int32)), .val (.int z0), .val (.int (0 : Int32))]) d1_15 rfl rfl ?_
  refine Wk.iload (q := 19) d1_17 rfl rfl ?_
  refine Wk.ifcT (q := 29) d1_19 (by decide) rfl (by decide : (0 : Int32) = (0 : Int32)) ?_
  refine Wk.iconst (q := 30) (v := (1 : Int32)) d1_29 rfl rfl ?_
  refine Wk.goto (q := 34) d1_30 (by decide) rfl ?_
  exact Wk.retZ rfl rfl d1_34 (by decide) (by decide) ⟨rfl, rfl⟩
set_option maxRecDepth 65536 in
set_option maxHeartbeats 40000000 in
theorem m_82 {l : Launch} {Z : State} {a0 : Array Value} {n0 : Nat} {h : Heap}  {a_T : Addr} {c_T : Cell} (hw : ∀ d ∈ tables_1, d.before a0 Z = true) (F : OwnF Z h  a_T c_T) {a1 : Addr} {c1 : Cell} {b0 b1 b2 b3 : Int32} (A1 : Arr Z h a1 c1 .byte) (S1 : c1.slots.size = 4) (e_0 : c1.slots[0]? = some (Value.int b0)) (e_1 : c1.slots[1]? = some (Value.int b1)) (e_2 : c1.slots[2]? = some (Value.int b2)) (e_3 : c1.slots[3]? = some (Value.int b3)) (z0 : Int32) : Met l Z n0 (⟨"com/example/tallykey/tallykey/HttpSyntaxIsTextPinLaw", "ok", "(IIIB)Z"⟩ : MethodName) method_3_code 5 (Option.some Jvm.ClassFile.FieldType.boolean) (⟨0, 0, 0, 0⟩ : Room) #[(.int (2 : Int32)), (.int (3 : Int32)), (.int (1 : Int32)), (.int z0)] h (fun v h' => v = some (.int (1 : Int32)) ∧ h' = h) := by
  refine Met.of_wk (ls := #[.val (.int (2 : Int32)), .val (.int (3 : Int32)), .val (.int (1 : Int32)), .val (.int z0), .unset]) (plainFor_of_name pn_0) (fun m => ef_1 m (2 : Int32) (3 : Int32) (1 : Int32) z0) ?_
  show Wk l Z n0 "com/example/tallykey/tallykey/HttpSyntaxIsTextPinLaw" "ok" method_3_code 5 (Option.some Jvm.ClassFile.FieldType.boolean) (⟨0, 0, 0, 0⟩ : Room) 0 0 (fun v h' => v = some (.int (1 : Int32)) ∧ h' = h) h 0 0 0 #[.val (.int (2 : Int32)), .val (.int (3 : Int32)), .val (.int (1 : Int32)), .val (.int z0), .unset] []
  refine Wk.iloadN (q := 1) d1_0 rfl rfl ?_
  refine Wk.iloadN (q := 2) d1_1 rfl rfl ?_
  refine Wk.icmpT (q := 14) d1_2 (by decide) rfl (by decide : (2 : Int32) < (3 : Int32)) ?_
  refine Wk.iconst (q := 15) (v := (0 : Int32)) d1_14 rfl rfl ?_
  refine Wk.istore (q := 17) (ls' := #[.val (.int (2 : Int32)), .val (.int (3 : Int32)), .val (.int (1 : Int32)), .val (.int z0), .val (.int (0 : Int32))]) d1_15 rfl rfl ?_
  refine Wk.iload (q := 19) d1_17 rfl rfl ?_
  refine Wk.ifcT (q := 29) d1_19 (by decide) rfl (by decide : (0 : Int32) = (0 : Int32)) ?_
  refine Wk.iconst (q := 30) (v := (1 : Int32)) d1_29 rfl rfl ?_
  refine Wk.goto (q := 34) d1_30 (by decide) rfl ?_
  exact Wk.retZ rfl rfl d1_34 (by decide) (by decide) ⟨rfl, rfl⟩
set_option maxRecDepth 65536 in
set_option maxHeartbeats 40000000 in
theorem m_83 {l : Launch} {Z : State} {a0 : Array Value} {n0 : Nat} {h : Heap}  {a_T : Addr} {c_T : Cell} (hw : ∀ d ∈ tables_1, d.before a0 Z = true) (F : OwnF Z h  a_T c_T) {a1 : Addr} {c1 : Cell} {b0 b1 b2 b3 : Int32} (A1 : Arr Z h a1 c1 .byte) (S1 : c1.slots.size = 4) (e_0 : c1.slots[0]? = some (Value.int b0)) (e_1 : c1.slots[1]? = some (Value.int b1)) (e_2 : c1.slots[2]? = some (Value.int b2)) (e_3 : c1.slots[3]? = some (Value.int b3)) (z0 : Int32) : Met l Z n0 (⟨"com/example/tallykey/tallykey/HttpSyntaxIsTextPinLaw", "ok", "(IIIB)Z"⟩ : MethodName) method_3_code 5 (Option.some Jvm.ClassFile.FieldType.boolean) (⟨0, 0, 0, 0⟩ : Room) #[(.int (3 : Int32)), (.int (3 : Int32)), (.int (1 : Int32)), (.int z0)] h (fun v h' => v = some (.int (1 : Int32)) ∧ h' = h) := by
  refine Met.of_wk (ls := #[.val (.int (3 : Int32)), .val (.int (3 : Int32)), .val (.int (1 : Int32)), .val (.int z0), .unset]) (plainFor_of_name pn_0) (fun m => ef_1 m (3 : Int32) (3 : Int32) (1 : Int32) z0) ?_
  show Wk l Z n0 "com/example/tallykey/tallykey/HttpSyntaxIsTextPinLaw" "ok" method_3_code 5 (Option.some Jvm.ClassFile.FieldType.boolean) (⟨0, 0, 0, 0⟩ : Room) 0 0 (fun v h' => v = some (.int (1 : Int32)) ∧ h' = h) h 0 0 0 #[.val (.int (3 : Int32)), .val (.int (3 : Int32)), .val (.int (1 : Int32)), .val (.int z0), .unset] []
  refine Wk.iloadN (q := 1) d1_0 rfl rfl ?_
  refine Wk.iloadN (q := 2) d1_1 rfl rfl ?_
  refine Wk.icmpF (q := 5) d1_2 rfl (by decide : ¬ (3 : Int32) < (3 : Int32)) ?_
  refine Wk.iloadN (q := 6) d1_5 rfl rfl ?_
  refine Wk.iloadN (q := 7) d1_6 rfl rfl ?_
  refine Wk.icmpT (q := 14) d1_7 (by decide) rfl (by decide : ¬ (3 : Int32) < (1 : Int32)) ?_
  refine Wk.iconst (q := 15) (v := (0 : Int32)) d1_14 rfl rfl ?_
  refine Wk.istore (q := 17) (ls' := #[.val (.int (3 : Int32)), .val (.int (3 : Int32)), .val (.int (1 : Int32)), .val (.int z0), .val (.int (0 : Int32))]) d1_15 rfl rfl ?_
  refine Wk.iload (q := 19) d1_17 rfl rfl ?_
  refine Wk.ifcT (q := 29) d1_19 (by decide) rfl (by decide : (0 : Int32) = (0 : Int32)) ?_
  refine Wk.iconst (q := 30) (v := (1 : Int32)) d1_29 rfl rfl ?_
  refine Wk.goto (q := 34) d1_30 (by decide) rfl ?_
  exact Wk.retZ rfl rfl d1_34 (by decide) (by decide) ⟨rfl, rfl⟩
set_option maxRecDepth 65536 in
set_option maxHeartbeats 40000000 in
theorem m_84 {l : Launch} {Z : State} {a0 : Array Value} {n0 : Nat} {h : Heap}  {a_T : Addr} {c_T : Cell} (hw : ∀ d ∈ tables_1, d.before a0 Z = true) (F : OwnF Z h  a_T c_T) {a1 : Addr} {c1 : Cell} {b0 b1 b2 b3 : Int32} (A1 : Arr Z h a1 c1 .byte) (S1 : c1.slots.size = 4) (e_0 : c1.slots[0]? = some (Value.int b0)) (e_1 : c1.slots[1]? = some (Value.int b1)) (e_2 : c1.slots[2]? = some (Value.int b2)) (e_3 : c1.slots[3]? = some (Value.int b3)) : Met l Z n0 (⟨"com/example/tallykey/tallykey/HttpSyntax", "isText", "([BII)Z"⟩ : MethodName) prog_5_method_5_code 4 (Option.some Jvm.ClassFile.FieldType.boolean) (⟨0, 0, 0, 0⟩ : Room) #[(.ref a1), (.int (3 : Int32)), (.int (1 : Int32))] h (fun v h' => v = some (.int (1 : Int32)) ∧ h' = h) := by
  refine Met.of_wk (ls := #[.val (.ref a1), .val (.int (3 : Int32)), .val (.int (1 : Int32)), .unset]) (plainFor_of_name pn_1) (fun m => ef_2 m a1 (3 : Int32) (1 : Int32)) ?_
  show Wk l Z n0 "com/example/tallykey/tallykey/HttpSyntax" "isText" prog_5_method_5_code 4 (Option.some Jvm.ClassFile.FieldType.boolean) (⟨0, 0, 0, 0⟩ : Room) 0 0 (fun v h' => v = some (.int (1 : Int32)) ∧ h' = h) h 0 0 0 #[.val (.ref a1), .val (.int (3 : Int32)), .val (.int (1 : Int32)), .unset] []
  refine Wk.iloadN (q := 1) d3_0 rfl rfl ?_
  refine Wk.istoreN (q := 2) (ls' := #[.val (.ref a1), .val (.int (3 : Int32)), .val (.int (1 : Int32)), .val (.int (3 : Int32))]) d3_1 rfl rfl ?_
  refine Wk.iloadN (q := 3) d3_2 rfl rfl ?_
  refine Wk.iloadN (q := 4) d3_3 rfl rfl ?_
  refine Wk.icmpT (q := 29) d3_4 (by decide) rfl (by decide : ¬ (3 : Int32) < (1 : Int32)) ?_
  refine Wk.iconst (q := 30) (v := (1 : Int32)) d3_29 rfl rfl ?_
  exact Wk.retZ rfl rfl d3_30 (by decide) (by decide) ⟨rfl, rfl⟩
set_option maxRecDepth 65536 in
set_option maxHeartbeats 40000000 in
theorem m_85 {l : Launch} {Z : State} {a0 : Array Value} {n0 : Nat} {h : Heap}  {a_T : Addr} {c_T : Cell} (hw : ∀ d ∈ tables_1, d.before a0 Z = true) (F : OwnF Z h  a_T c_T) {a1 : Addr} {c1 : Cell} {b0 b1 b2 b3 : Int32} (A1 : Arr Z h a1 c1 .byte) (S1 : c1.slots.size = 4) (e_0 : c1.slots[0]? = some (Value.int b0)) (e_1 : c1.slots[1]? = some (Value.int b1)) (e_2 : c1.slots[2]? = some (Value.int b2)) (e_3 : c1.slots[3]? = some (Value.int b3)) (z0 : Int32) : Met l Z n0 (⟨"com/example/tallykey/tallykey/HttpSyntaxIsTextPinLaw", "ok", "(IIIB)Z"⟩ : MethodName) method_3_code 5 (Option.some Jvm.ClassFile.FieldType.boolean) (⟨0, 0, 0, 0⟩ : Room) #[(.int (0 : Int32)), (.int (3 : Int32)), (.int (2 : Int32)), (.int z0)] h (fun v h' => v = some (.int (1 : Int32)) ∧ h' = h) := by
  refine Met.of_wk (ls := #[.val (.int (0 : Int32)), .val (.int (3 : Int32)), .val (.int (2 : Int32)), .val (.int z0), .unset]) (plainFor_of_name pn_0) (fun m => ef_1 m (0 : Int32) (3 : Int32) (2 : Int32) z0) ?_
  show Wk l Z n0 "com/example/tallykey/tallykey/HttpSyntaxIsTextPinLaw" "ok" method_3_code 5 (Option.some Jvm.ClassFile.FieldType.boolean) (⟨0, 0, 0, 0⟩ : Room) 0 0 (fun v h' => v = some (.int (1 : Int32)) ∧ h' = h) h 0 0 0 #[.val (.int (0 : Int32)), .val (.int (3 : Int32)), .val (.int (2 : Int32)), .val (.int z0), .unset] []
  refine Wk.iloadN (q := 1) d1_0 rfl rfl ?_
  refine Wk.iloadN (q := 2) d1_1 rfl rfl ?_
  refine Wk.icmpT (q := 14) d1_2 (by decide) rfl (by decide : (0 : Int32) < (3 : Int32)) ?_
  refine Wk.iconst (q := 15) (v := (0 : Int32)) d1_14 rfl rfl ?_
  refine Wk.istore (q := 17) (ls' := #[.val (.int (0 : Int32)), .val (.int (3 : Int32)), .val (.int (2 : Int32)), .val (.int z0), .val (.int (0 : Int32))]) d1_15 rfl rfl ?_
  refine Wk.iload (q := 19) d1_17 rfl rfl ?_
  refine Wk.ifcT (q := 29) d1_19 (by decide) rfl (by decide : (0 : Int32) = (0 : Int32)) ?_
  refine Wk.iconst (q := 30) (v := (1 : Int32)) d1_29 rfl rfl ?_
  refine Wk.goto (q := 34) d1_30 (by decide) rfl ?_
  exact Wk.retZ rfl rfl d1_34 (by decide) (by decide) ⟨rfl, rfl⟩
set_option maxRecDepth 65536 in
set_option maxHeartbeats 40000000 in
theorem m_86 {l : Launch} {Z : State} {a0 : Array Value} {n0 : Nat} {h : Heap}  {a_T : Addr} {c_T : Cell} (hw : ∀ d ∈ tables_1, d.before a0 Z = true) (F : OwnF Z h  a_T c_T) {a1 : Addr} {c1 : Cell} {b0 b1 b2 b3 : Int32} (A1 : Arr Z h a1 c1 .byte) (S1 : c1.slots.size = 4) (e_0 : c1.slots[0]? = some (Value.int b0)) (e_1 : c1.slots[1]? = some (Value.int b1)) (e_2 : c1.slots[2]? = some (Value.int b2)) (e_3 : c1.slots[3]? = some (Value.int b3)) (z0 : Int32) : Met l Z n0 (⟨"com/example/tallykey/tallykey/HttpSyntaxIsTextPinLaw", "ok", "(IIIB)Z"⟩ : MethodName) method_3_code 5 (Option.some Jvm.ClassFile.FieldType.boolean) (⟨0, 0, 0, 0⟩ : Room) #[(.int (1 : Int32)), (.int (3 : Int32)), (.int (2 : Int32)), (.int z0)] h (fun v h' => v = some (.int (1 : Int32)) ∧ h' = h) := by
  refine Met.of_wk (ls := #[.val (.int (1 : Int32)), .val (.int (3 : Int32)), .val (.int (2 : Int32)), .val (.int z0), .unset]) (plainFor_of_name pn_0) (fun m => ef_1 m (1 : Int32) (3 : Int32) (2 : Int32) z0) ?_
  show Wk l Z n0 "com/example/tallykey/tallykey/HttpSyntaxIsTextPinLaw" "ok" method_3_code 5 (Option.some Jvm.ClassFile.FieldType.boolean) (⟨0, 0, 0, 0⟩ : Room) 0 0 (fun v h' => v = some (.int (1 : Int32)) ∧ h' = h) h 0 0 0 #[.val (.int (1 : Int32)), .val (.int (3 : Int32)), .val (.int (2 : Int32)), .val (.int z0), .unset] []
  refine Wk.iloadN (q := 1) d1_0 rfl rfl ?_
  refine Wk.iloadN (q := 2) d1_1 rfl rfl ?_
  refine Wk.icmpT (q := 14) d1_2 (by decide) rfl (by decide : (1 : Int32) < (3 : Int32)) ?_
  refine Wk.iconst (q := 15) (v := (0 : Int32)) d1_14 rfl rfl ?_
  refine Wk.istore (q := 17) (ls' := #[.val (.int (1 : Int32)), .val (.int (3 : Int32)), .val (.int (2 : Int32)), .val (.int z0), .val (.int (0 : Int32))]) d1_15 rfl rfl ?_
  refine Wk.iload (q := 19) d1_17 rfl rfl ?_
  refine Wk.ifcT (q := 29) d1_19 (by decide) rfl (by decide : (0 : Int32) = (0 : Int32)) ?_
  refine Wk.iconst (q := 30) (v := (1 : Int32)) d1_29 rfl rfl ?_
  refine Wk.goto (q := 34) d1_30 (by decide) rfl ?_
  exact Wk.retZ rfl rfl d1_34 (by decide) (by decide) ⟨rfl, rfl⟩
set_option maxRecDepth 65536 in
set_option maxHeartbeats 40000000 in
theorem m_87 {l : Launch} {Z : State} {a0 : Array Value} {n0 : Nat} {h : Heap}  {a_T : Addr} {c_T : Cell} (hw : ∀ d ∈ tables_1, d.before a0 Z = true) (F : OwnF Z h  a_T c_T) {a1 : Addr} {c1 : Cell} {b0 b1 b2 b3 : Int32} (A1 : Arr Z h a1 c1 .byte) (S1 : c1.slots.size = 4) (e_0 : c1.slots[0]? = some (Value.int b0)) (e_1 : c1.slots[1]? = some (Value.int b1)) (e_2 : c1.slots[2]? = some (Value.int b2)) (e_3 : c1.slots[3]? = some (Value.int b3)) (z0 : Int32) : Met l Z n0 (⟨"com/example/tallykey/tallykey/HttpSyntaxIsTextPinLaw", "ok", "(IIIB)Z"⟩ : MethodName) method_3_code 5 (Option.some Jvm.ClassFile.FieldType.boolean) (⟨0, 0, 0, 0⟩ : Room) #[(.int (2 : Int32)), (.int (3 : Int32)), (.int (2 : Int32)), (.int z0)] h (fun v h' => v = some (.int (1 : Int32)) ∧ h' = h) := by
  refine Met.of_wk (ls := #[.val (.int (2 : Int32)), .val (.int (3 : Int32)), .val (.int (2 : Int32)), .val (.int z0), .unset]) (plainFor_of_name pn_0) (fun m => ef_1 m (2 : Int32) (3 : Int32) (2 : Int32) z0) ?_
  show Wk l Z n0 "com/example/tallykey/tallykey/HttpSyntaxIsTextPinLaw" "ok" method_3_code 5 (Option.some Jvm.ClassFile.FieldType.boolean) (⟨0, 0, 0, 0⟩ : Room) 0 0 (fun v h' => v = some (.int (1 : Int32)) ∧ h' = h) h 0 0 0 #[.val (.int (2 : Int32)), .val (.int (3 : Int32)), .val (.int (2 : Int32)), .val (.int z0), .unset] []
  refine Wk.iloadN (q := 1) d1_0 rfl rfl ?_
  refine Wk.iloadN (q := 2) d1_1 rfl rfl ?_
  refine Wk.icmpT (q := 14) d1_2 (by decide) rfl (by decide : (2 : Int32) < (3 : Int32)) ?_
  refine Wk.iconst (q := 15) (v := (0 : Int32)) d1_14 rfl rfl ?_
  refine Wk.istore (q := 17) (ls' := #[.val (.int (2 : Int32)), .val (.int (3 : Int32)), .val (.int (2 : Int32)), .val (.int z0), .val (.int (0 : Int32))]) d1_15 rfl rfl ?_
  refine Wk.iload (q := 19) d1_17 rfl rfl ?_
  refine Wk.ifcT (q := 29) d1_19 (by decide) rfl (by decide : (0 : Int32) = (0 : Int32)) ?_
  refine Wk.iconst (q := 30) (v := (1 : Int32)) d1_29 rfl rfl ?_
  refine Wk.goto (q := 34) d1_30 (by decide) rfl ?_
  exact Wk.retZ rfl rfl d1_34 (by decide) (by decide) ⟨rfl, rfl⟩
set_option maxRecDepth 65536 in
set_option maxHeartbeats 40000000 in
theorem m_88 {l : Launch} {Z : State} {a0 : Array Value} {n0 : Nat} {h : Heap}  {a_T : Addr} {c_T : Cell} (hw : ∀ d ∈ tables_1, d.before a0 Z = true) (F : OwnF Z h  a_T c_T) {a1 : Addr} {c1 : Cell} {b0 b1 b2 b3 : Int32} (A1 : Arr Z h a1 c1 .byte) (S1 : c1.slots.size = 4) (e_0 : c1.slots[0]? = some (Value.int b0)) (e_1 : c1.slots[1]? = some (Value.int b1)) (e_2 : c1.slots[2]? = some (Value.int b2)) (e_3 : c1.slots[3]? = some (Value.int b3)) (z0 : Int32) : Met l Z n0 (⟨"com/example/tallykey/tallykey/HttpSyntaxIsTextPinLaw", "ok", "(IIIB)Z"⟩ : MethodName) method_3_code 5 (Option.some Jvm.ClassFile.FieldType.boolean) (⟨0, 0, 0, 0⟩ : Room) #[(.int (3 : Int32)), (.int (3 : Int32)), (.int (2 : Int32)), (.int z0)] h (fun v h' => v = some (.int (1 : Int32)) ∧ h' = h) := by
  refine Met.of_wk (ls := #[.val (.int (3 : Int32)), .val (.int (3 : Int32)), .val (.int (2 : Int32)), .val (.int z0), .unset]) (plainFor_of_name pn_0) (fun m => ef_1 m (3 : Int32) (3 : Int32) (2 : Int32) z0) ?_
  show Wk l Z n0 "com/example/tallykey/tallykey/HttpSyntaxIsTextPinLaw" "ok" method_3_code 5 (Option.some Jvm.ClassFile.FieldType.boolean) (⟨0, 0, 0, 0⟩ : Room) 0 0 (fun v h' => v = some (.int (1 : Int32)) ∧ h' = h) h 0 0 0 #[.val (.int (3 : Int32)), .val (.int (3 : Int32)), .val (.int (2 : Int32)), .val (.int z0), .unset] []
  refine Wk.iloadN (q := 1) d1_0 rfl rfl ?_
  refine Wk.iloadN (q := 2) d1_1 rfl rfl ?_
  refine Wk.icmpF (q := 5) d1_2 rfl (by decide : ¬ (3 : Int32) < (3 : Int32)) ?_
  refine Wk.iloadN (q := 6) d1_5 rfl rfl ?_
  refine Wk.iloadN (q := 7) d1_6 rfl rfl ?_
  refine Wk.icmpT (q := 14) d1_7 (by decide) rfl (by decide : ¬ (3 : Int32) < (2 : Int32)) ?_
  refine Wk.iconst (q := 15) (v := (0 : Int32)) d1_14 rfl rfl ?_
  refine Wk.istore (q := 17) (ls' := #[.val (.int (3 : Int32)), .val (.int (3 : Int32)), .val (.int (2 : Int32)), .val (.int z0), .val (.int (0 : Int32))]) d1_15 rfl rfl ?_
  refine Wk.iload (q := 19) d1_17 rfl rfl ?_
  refine Wk.ifcT (q := 29) d1_19 (by decide) rfl (by decide : (0 : Int32) = (0 : Int32)) ?_
  refine Wk.iconst (q := 30) (v := (1 : Int32)) d1_29 rfl rfl ?_
  refine Wk.goto (q := 34) d1_30 (by decide) rfl ?_
  exact Wk.retZ rfl rfl d1_34 (by decide) (by decide) ⟨rfl, rfl⟩
set_option maxRecDepth 65536 in
set_option maxHeartbeats 40000000 in
theorem m_89 {l : Launch} {Z : State} {a0 : Array Value} {n0 : Nat} {h : Heap}  {a_T : Addr} {c_T : Cell} (hw : ∀ d ∈ tables_1, d.before a0 Z = true) (F : OwnF Z h  a_T c_T) {a1 : Addr} {c1 : Cell} {b0 b1 b2 b3 : Int32} (A1 : Arr Z h a1 c1 .byte) (S1 : c1.slots.size = 4) (e_0 : c1.slots[0]? = some (Value.int b0)) (e_1 : c1.slots[1]? = some (Value.int b1)) (e_2 : c1.slots[2]? = some (Value.int b2)) (e_3 : c1.slots[3]? = some (Value.int b3)) : Met l Z n0 (⟨"com/example/tallykey/tallykey/HttpSyntax", "isText", "([BII)Z"⟩ : MethodName) prog_5_method_5_code 4 (Option.some Jvm.ClassFile.FieldType.boolean) (⟨0, 0, 0, 0⟩ : Room) #[(.ref a1), (.int (3 : Int32)), (.int (2 : Int32))] h (fun v h' => v = some (.int (1 : Int32)) ∧ h' = h) := by
  refine Met.of_wk (ls := #[.val (.ref a1), .val (.int (3 : Int32)), .val (.int (2 : Int32)), .unset]) (plainFor_of_name pn_1) (fun m => ef_2 m a1 (3 : Int32) (2 : Int32)) ?_
  show Wk l Z n0 "com/example/tallykey/tallykey/HttpSyntax" "isText" prog_5_method_5_code 4 (Option.some Jvm.ClassFile.FieldType.boolean) (⟨0, 0, 0, 0⟩ : Room) 0 0 (fun v h' => v = some (.int (1 : Int32)) ∧ h' = h) h 0 0 0 #[.val (.ref a1), .val (.int (3 : Int32)), .val (.int (2 : Int32)), .unset] []
  refine Wk.iloadN (q := 1) d3_0 rfl rfl ?_
  refine Wk.istoreN (q := 2) (ls' := #[.val (.ref a1), .val (.int (3 : Int32)), .val (.int (2 : Int32)), .val (.int (3 : Int32))]) d3_1 rfl rfl ?_
  refine Wk.iloadN (q := 3) d3_2 rfl rfl ?_
  refine Wk.iloadN (q := 4) d3_3 rfl rfl ?_
  refine Wk.icmpT (q := 29) d3_4 (by decide) rfl (by decide : ¬ (3 : Int32) < (2 : Int32)) ?_
  refine Wk.iconst (q := 30) (v := (1 : Int32)) d3_29 rfl rfl ?_
  exact Wk.retZ rfl rfl d3_30 (by decide) (by decide) ⟨rfl, rfl⟩
set_option maxRecDepth 65536 in
set_option maxHeartbeats 40000000 in
theorem m_90 {l : Launch} {Z : State} {a0 : Array Value} {n0 : Nat} {h : Heap}  {a_T : Addr} {c_T : Cell} (hw : ∀ d ∈ tables_1, d.before a0 Z = true) (F : OwnF Z h  a_T c_T) {a1 : Addr} {c1 : Cell} {b0 b1 b2 b3 : Int32} (A1 : Arr Z h a1 c1 .byte) (S1 : c1.slots.size = 4) (e_0 : c1.slots[0]? = some (Value.int b0)) (e_1 : c1.slots[1]? = some (Value.int b1)) (e_2 : c1.slots[2]? = some (Value.int b2)) (e_3 : c1.slots[3]? = some (Value.int b3)) (z0 : Int32) : Met l Z n0 (⟨"com/example/tallykey/tallykey/HttpSyntaxIsTextPinLaw", "ok", "(IIIB)Z"⟩ : MethodName) method_3_code 5 (Option.some Jvm.ClassFile.FieldType.boolean) (⟨0, 0, 0, 0⟩ : Room) #[(.int (0 : Int32)), (.int (3 : Int32)), (.int (3 : Int32)), (.int z0)] h (fun v h' => v = some (.int (1 : Int32)) ∧ h' = h) := by
  refine Met.of_wk (ls := #[.val (.int (0 : Int32)), .val (.int (3 : Int32)), .val (.int (3 : Int32)), .val (.int z0), .unset]) (plainFor_of_name pn_0) (fun m => ef_1 m (0 : Int32) (3 : Int32) (3 : Int32) z0) ?_
  show Wk l Z n0 "com/example/tallykey/tallykey/HttpSyntaxIsTextPinLaw" "ok" method_3_code 5 (Option.some Jvm.ClassFile.FieldType.boolean) (⟨0, 0, 0, 0⟩ : Room) 0 0 (fun v h' => v = some (.int (1 : Int32)) ∧ h' = h) h 0 0 0 #[.val (.int (0 : Int32)), .val (.int (3 : Int32)), .val (.int (3 : Int32)), .val (.int z0), .unset] []
  refine Wk.iloadN (q := 1) d1_0 rfl rfl ?_
  refine Wk.iloadN (q := 2) d1_1 rfl rfl ?_
  refine Wk.icmpT (q := 14) d1_2 (by decide) rfl (by decide : (0 : Int32) < (3 : Int32)) ?_
  refine Wk.iconst (q := 15) (v := (0 : Int32)) d1_14 rfl rfl ?_
  refine Wk.istore (q := 17) (ls' := #[.val (.int (0 : Int32)), .val (.int (3 : Int32)), .val (.int (3 : Int32)), .val (.int z0), .val (.int (0 : Int32))]) d1_15 rfl rfl ?_
  refine Wk.iload (q := 19) d1_17 rfl rfl ?_
  refine Wk.ifcT (q := 29) d1_19 (by decide) rfl (by decide : (0 : Int32) = (0 : Int32)) ?_
  refine Wk.iconst (q := 30) (v := (1 : Int32)) d1_29 rfl rfl ?_
  refine Wk.goto (q := 34) d1_30 (by decide) rfl ?_
  exact Wk.retZ rfl rfl d1_34 (by decide) (by decide) ⟨rfl, rfl⟩
set_option maxRecDepth 65536 in
set_option maxHeartbeats 40000000 in
theorem m_91 {l : Launch} {Z : State} {a0 : Array Value} {n0 : Nat} {h : Heap}  {a_T : Addr} {c_T : Cell} (hw : ∀ d ∈ tables_1, d.before a0 Z = true) (F : OwnF Z h  a_T c_T) {a1 : Addr} {c1 : Cell} {b0 b1 b2 b3 : Int32} (A1 : Arr Z h a1 c1 .byte) (S1 : c1.slots.size = 4) (e_0 : c1.slots[0]? = some (Value.int b0)) (e_1 : c1.slots[1]? = some (Value.int b1)) (e_2 : c1.slots[2]? = some (Value.int b2)) (e_3 : c1.slots[3]? = some (Value.int b3)) (z0 : Int32) : Met l Z n0 (⟨"com/example/tallykey/tallykey/HttpSyntaxIsTextPinLaw", "ok", "(IIIB)Z"⟩ : MethodName) method_3_code 5 (Option.some Jvm.ClassFile.FieldType.boolean) (⟨0, 0, 0, 0⟩ : Room) #[(.int (1 : Int32)), (.int (3 : Int32)), (.int (3 : Int32)), (.int z0)] h (fun v h' => v = some (.int (1 : Int32)) ∧ h' = h) := by
  refine Met.of_wk (ls := #[.val (.int (1 : Int32)), .val (.int (3 : Int32)), .val (.int (3 : Int32)), .val (.int z0), .unset]) (plainFor_of_name pn_0) (fun m => ef_1 m (1 : Int32) (3 : Int32) (3 : Int32) z0) ?_
  show Wk l Z n0 "com/example/tallykey/tallykey/HttpSyntaxIsTextPinLaw" "ok" method_3_code 5 (Option.some Jvm.ClassFile.FieldType.boolean) (⟨0, 0, 0, 0⟩ : Room) 0 0 (fun v h' => v = some (.int (1 : Int32)) ∧ h' = h) h 0 0 0 #[.val (.int (1 : Int32)), .val (.int (3 : Int32)), .val (.int (3 : Int32)), .val (.int z0), .unset] []
  refine Wk.iloadN (q := 1) d1_0 rfl rfl ?_
  refine Wk.iloadN (q := 2) d1_1 rfl rfl ?_
  refine Wk.icmpT (q := 14) d1_2 (by decide) rfl (by decide : (1 : Int32) < (3 : Int32)) ?_
  refine Wk.iconst (q := 15) (v := (0 : Int32)) d1_14 rfl rfl ?_
  refine Wk.istore (q := 17) (ls' := #[.val (.int (1 : Int32)), .val (.int (3 : Int32)), .val (.int (3 : Int32)), .val (.int z0), .val (.int (0 : Int32))]) d1_15 rfl rfl ?_
  refine Wk.iload (q := 19) d1_17 rfl rfl ?_
  refine Wk.ifcT (q := 29) d1_19 (by decide) rfl (by decide : (0 : Int32) = (0 : Int32)) ?_
  refine Wk.iconst (q := 30) (v := (1 : Int32)) d1_29 rfl rfl ?_
  refine Wk.goto (q := 34) d1_30 (by decide) rfl ?_
  exact Wk.retZ rfl rfl d1_34 (by decide) (by decide) ⟨rfl, rfl⟩
set_option maxRecDepth 65536 in
set_option maxHeartbeats 40000000 in
theorem m_92 {l : Launch} {Z : State} {a0 : Array Value} {n0 : Nat} {h : Heap}  {a_T : Addr} {c_T : Cell} (hw : ∀ d ∈ tables_1, d.before a0 Z = true) (F : OwnF Z h  a_T c_T) {a1 : Addr} {c1 : Cell} {b0 b1 b2 b3 : Int32} (A1 : Arr Z h a1 c1 .byte) (S1 : c1.slots.size = 4) (e_0 : c1.slots[0]? = some (Value.int b0)) (e_1 : c1.slots[1]? = some (Value.int b1)) (e_2 : c1.slots[2]? = some (Value.int b2)) (e_3 : c1.slots[3]? = some (Value.int b3)) (z0 : Int32) : Met l Z n0 (⟨"com/example/tallykey/tallykey/HttpSyntaxIsTextPinLaw", "ok", "(IIIB)Z"⟩ : MethodName) method_3_code 5 (Option.some Jvm.ClassFile.FieldType.boolean) (⟨0, 0, 0, 0⟩ : Room) #[(.int (2 : Int32)), (.int (3 : Int32)), (.int (3 : Int32)), (.int z0)] h (fun v h' => v = some (.int (1 : Int32)) ∧ h' = h) := by
  refine Met.of_wk (ls := #[.val (.int (2 : Int32)), .val (.int (3 : Int32)), .val (.int (3 : Int32)), .val (.int z0), .unset]) (plainFor_of_name pn_0) (fun m => ef_1 m (2 : Int32) (3 : Int32) (3 : Int32) z0) ?_
  show Wk l Z n0 "com/example/tallykey/tallykey/HttpSyntaxIsTextPinLaw" "ok" method_3_code 5 (Option.some Jvm.ClassFile.FieldType.boolean) (⟨0, 0, 0, 0⟩ : Room) 0 0 (fun v h' => v = some (.int (1 : Int32)) ∧ h' = h) h 0 0 0 #[.val (.int (2 : Int32)), .val (.int (3 : Int32)), .val (.int (3 : Int32)), .val (.int z0), .unset] []
  refine Wk.iloadN (q := 1) d1_0 rfl rfl ?_
  refine Wk.iloadN (q := 2) d1_1 rfl rfl ?_
  refine Wk.icmpT (q := 14) d1_2 (by decide) rfl (by decide : (2 : Int32) < (3 : Int32)) ?_
  refine Wk.iconst (q := 15) (v := (0 : Int32)) d1_14 rfl rfl ?_
  refine Wk.istore (q := 17) (ls' := #[.val (.int (2 : Int32)), .val (.int (3 : Int32)), .val (.int (3 : Int32)), .val (.int z0), .val (.int (0 : Int32))]) d1_15 rfl rfl ?_
  refine Wk.iload (q := 19) d1_17 rfl rfl ?_
  refine Wk.ifcT (q := 29) d1_19 (by decide) rfl (by decide : (0 : Int32) = (0 : Int32)) ?_
  refine Wk.iconst (q := 30) (v := (1 : Int32)) d1_29 rfl rfl ?_
  refine Wk.goto (q := 34) d1_30 (by decide) rfl ?_
  exact Wk.retZ rfl rfl d1_34 (by decide) (by decide) ⟨rfl, rfl⟩
set_option maxRecDepth 65536 in
set_option maxHeartbeats 40000000 in
theorem m_93 {l : Launch} {Z : State} {a0 : Array Value} {n0 : Nat} {h : Heap}  {a_T : Addr} {c_T : Cell} (hw : ∀ d ∈ tables_1, d.before a0 Z = true) (F : OwnF Z h  a_T c_T) {a1 : Addr} {c1 : Cell} {b0 b1 b2 b3 : Int32} (A1 : Arr Z h a1 c1 .byte) (S1 : c1.slots.size = 4) (e_0 : c1.slots[0]? = some (Value.int b0)) (e_1 : c1.slots[1]? = some (Value.int b1)) (e_2 : c1.slots[2]? = some (Value.int b2)) (e_3 : c1.slots[3]? = some (Value.int b3)) (z0 : Int32) : Met l Z n0 (⟨"com/example/tallykey/tallykey/HttpSyntaxIsTextPinLaw", "ok", "(IIIB)Z"⟩ : MethodName) method_3_code 5 (Option.some Jvm.ClassFile.FieldType.boolean) (⟨0, 0, 0, 0⟩ : Room) #[(.int (3 : Int32)), (.int (3 : Int32)), (.int (3 : Int32)), (.int z0)] h (fun v h' => v = some (.int (1 : Int32)) ∧ h' = h) := by
  refine Met.of_wk (ls := #[.val (.int (3 : Int32)), .val (.int (3 : Int32)), .val (.int (3 : Int32)), .val (.int z0), .unset]) (plainFor_of_name pn_0) (fun m => ef_1 m (3 : Int32) (3 : Int32) (3 : Int32) z0) ?_
  show Wk l Z n0 "com/example/tallykey/tallykey/HttpSyntaxIsTextPinLaw" "ok" method_3_code 5 (Option.some Jvm.ClassFile.FieldType.boolean) (⟨0, 0, 0, 0⟩ : Room) 0 0 (fun v h' => v = some (.int (1 : Int32)) ∧ h' = h) h 0 0 0 #[.val (.int (3 : Int32)), .val (.int (3 : Int32)), .val (.int (3 : Int32)), .val (.int z0), .unset] []
  refine Wk.iloadN (q := 1) d1_0 rfl rfl ?_
  refine Wk.iloadN (q := 2) d1_1 rfl rfl ?_
  refine Wk.icmpF (q := 5) d1_2 rfl (by decide : ¬ (3 : Int32) < (3 : Int32)) ?_
  refine Wk.iloadN (q := 6) d1_5 rfl rfl ?_
  refine Wk.iloadN (q := 7) d1_6 rfl rfl ?_
  refine Wk.icmpT (q := 14) d1_7 (by decide) rfl (by decide : ¬ (3 : Int32) < (3 : Int32)) ?_
  refine Wk.iconst (q := 15) (v := (0 : Int32)) d1_14 rfl rfl ?_
  refine Wk.istore (q := 17) (ls' := #[.val (.int (3 : Int32)), .val (.int (3 : Int32)), .val (.int (3 : Int32)), .val (.int z0), .val (.int (0 : Int32))]) d1_15 rfl rfl ?_
  refine Wk.iload (q := 19) d1_17 rfl rfl ?_
  refine Wk.ifcT (q := 29) d1_19 (by decide) rfl (by decide : (0 : Int32) = (0 : Int32)) ?_
  refine Wk.iconst (q := 30) (v := (1 : Int32)) d1_29 rfl rfl ?_
  refine Wk.goto (q := 34) d1_30 (by decide) rfl ?_
  exact Wk.retZ rfl rfl d1_34 (by decide) (by decide) ⟨rfl, rfl⟩
set_option maxRecDepth 65536 in
set_option maxHeartbeats 40000000 in
theorem m_94 {l : Launch} {Z : State} {a0 : Array Value} {n0 : Nat} {h : Heap}  {a_T : Addr} {c_T : Cell} (hw : ∀ d ∈ tables_1, d.before a0 Z = true) (F : OwnF Z h  a_T c_T) {a1 : Addr} {c1 : Cell} {b0 b1 b2 b3 : Int32} (A1 : Arr Z h a1 c1 .byte) (S1 : c1.slots.size = 4) (e_0 : c1.slots[0]? = some (Value.int b0)) (e_1 : c1.slots[1]? = some (Value.int b1)) (e_2 : c1.slots[2]? = some (Value.int b2)) (e_3 : c1.slots[3]? = some (Value.int b3)) : Met l Z n0 (⟨"com/example/tallykey/tallykey/HttpSyntax", "isText", "([BII)Z"⟩ : MethodName) prog_5_method_5_code 4 (Option.some Jvm.ClassFile.FieldType.boolean) (⟨0, 0, 0, 0⟩ : Room) #[(.ref a1), (.int (3 : Int32)), (.int (3 : Int32))] h (fun v h' => v = some (.int (1 : Int32)) ∧ h' = h) := by
  refine Met.of_wk (ls := #[.val (.ref a1), .val (.int (3 : Int32)), .val (.int (3 : Int32)), .unset]) (plainFor_of_name pn_1) (fun m => ef_2 m a1 (3 : Int32) (3 : Int32)) ?_
  show Wk l Z n0 "com/example/tallykey/tallykey/HttpSyntax" "isText" prog_5_method_5_code 4 (Option.some Jvm.ClassFile.FieldType.boolean) (⟨0, 0, 0, 0⟩ : Room) 0 0 (fun v h' => v = some (.int (1 : Int32)) ∧ h' = h) h 0 0 0 #[.val (.ref a1), .val (.int (3 : Int32)), .val (.int (3 : Int32)), .unset] []
  refine Wk.iloadN (q := 1) d3_0 rfl rfl ?_
  refine Wk.istoreN (q := 2) (ls' := #[.val (.ref a1), .val (.int (3 : Int32)), .val (.int (3 : Int32)), .val (.int (3 : Int32))]) d3_1 rfl rfl ?_
  refine Wk.iloadN (q := 3) d3_2 rfl rfl ?_
  refine Wk.iloadN (q := 4) d3_3 rfl rfl ?_
  refine Wk.icmpT (q := 29) d3_4 (by decide) rfl (by decide : ¬ (3 : Int32) < (3 : Int32)) ?_
  refine Wk.iconst (q := 30) (v := (1 : Int32)) d3_29 rfl rfl ?_
  exact Wk.retZ rfl rfl d3_30 (by decide) (by decide) ⟨rfl, rfl⟩
set_option maxRecDepth 65536 in
set_option maxHeartbeats 40000000 in
theorem m_95 {l : Launch} {Z : State} {a0 : Array Value} {n0 : Nat} {h : Heap}  {a_T : Addr} {c_T : Cell} (hw : ∀ d ∈ tables_1, d.before a0 Z = true) (F : OwnF Z h  a_T c_T) {a1 : Addr} {c1 : Cell} {b0 b1 b2 b3 : Int32} (A1 : Arr Z h a1 c1 .byte) (S1 : c1.slots.size = 4) (e_0 : c1.slots[0]? = some (Value.int b0)) (e_1 : c1.slots[1]? = some (Value.int b1)) (e_2 : c1.slots[2]? = some (Value.int b2)) (e_3 : c1.slots[3]? = some (Value.int b3)) (z0 : Int32) : Met l Z n0 (⟨"com/example/tallykey/tallykey/HttpSyntaxIsTextPinLaw", "ok", "(IIIB)Z"⟩ : MethodName) method_3_code 5 (Option.some Jvm.ClassFile.FieldType.boolean) (⟨0, 0, 0, 0⟩ : Room) #[(.int (0 : Int32)), (.int (3 : Int32)), (.int (4 : Int32)), (.int z0)] h (fun v h' => v = some (.int (1 : Int32)) ∧ h' = h) := by
  refine Met.of_wk (ls := #[.val (.int (0 : Int32)), .val (.int (3 : Int32)), .val (.int (4 : Int32)), .val (.int z0), .unset]) (plainFor_of_name pn_0) (fun m => ef_1 m (0 : Int32) (3 : Int32) (4 : Int32) z0) ?_
  show Wk l Z n0 "com/example/tallykey/tallykey/HttpSyntaxIsTextPinLaw" "ok" method_3_code 5 (Option.some Jvm.ClassFile.FieldType.boolean) (⟨0, 0, 0, 0⟩ : Room) 0 0 (fun v h' => v = some (.int (1 : Int32)) ∧ h' = h) h 0 0 0 #[.val (.int (0 : Int32)), .val (.int (3 : Int32)), .val (.int (4 : Int32)), .val (.int z0), .unset] []
  refine Wk.iloadN (q := 1) d1_0 rfl rfl ?_
  refine Wk.iloadN (q := 2) d1_1 rfl rfl ?_
  refine Wk.icmpT (q := 14) d1_2 (by decide) rfl (by decide : (0 : Int32) < (3 : Int32)) ?_
  refine Wk.iconst (q := 15) (v := (0 : Int32)) d1_14 rfl rfl ?_
  refine Wk.istore (q := 17) (ls' := #[.val (.int (0 : Int32)), .val (.int (3 : Int32)), .val (.int (4 : Int32)), .val (.int z0), .val (.int (0 : Int32))]) d1_15 rfl rfl ?_
  refine Wk.iload (q := 19) d1_17 rfl rfl ?_
  refine Wk.ifcT (q := 29) d1_19 (by decide) rfl (by decide : (0 : Int32) = (0 : Int32)) ?_
  refine Wk.iconst (q := 30) (v := (1 : Int32)) d1_29 rfl rfl ?_
  refine Wk.goto (q := 34) d1_30 (by decide) rfl ?_
  exact Wk.retZ rfl rfl d1_34 (by decide) (by decide) ⟨rfl, rfl⟩
set_option maxRecDepth 65536 in
set_option maxHeartbeats 40000000 in
theorem m_96 {l : Launch} {Z : State} {a0 : Array Value} {n0 : Nat} {h : Heap}  {a_T : Addr} {c_T : Cell} (hw : ∀ d ∈ tables_1, d.before a0 Z = true) (F : OwnF Z h  a_T c_T) {a1 : Addr} {c1 : Cell} {b0 b1 b2 b3 : Int32} (A1 : Arr Z h a1 c1 .byte) (S1 : c1.slots.size = 4) (e_0 : c1.slots[0]? = some (Value.int b0)) (e_1 : c1.slots[1]? = some (Value.int b1)) (e_2 : c1.slots[2]? = some (Value.int b2)) (e_3 : c1.slots[3]? = some (Value.int b3)) (z0 : Int32) : Met l Z n0 (⟨"com/example/tallykey/tallykey/HttpSyntaxIsTextPinLaw", "ok", "(IIIB)Z"⟩ : MethodName) method_3_code 5 (Option.some Jvm.ClassFile.FieldType.boolean) (⟨0, 0, 0, 0⟩ : Room) #[(.int (1 : Int32)), (.int (3 : Int32)), (.int (4 : Int32)), (.int z0)] h (fun v h' => v = some (.int (1 : Int32)) ∧ h' = h) := by
  refine Met.of_wk (ls := #[.val (.int (1 : Int32)), .val (.int (3 : Int32)), .val (.int (4 : Int32)), .val (.int z0), .unset]) (plainFor_of_name pn_0) (fun m => ef_1 m (1 : Int32) (3 : Int32) (4 : Int32) z0) ?_
  show Wk l Z n0 "com/example/tallykey/tallykey/HttpSyntaxIsTextPinLaw" "ok" method_3_code 5 (Option.some Jvm.ClassFile.FieldType.boolean) (⟨0, 0, 0, 0⟩ : Room) 0 0 (fun v h' => v = some (.int (1 : Int32)) ∧ h' = h) h 0 0 0 #[.val (.int (1 : Int32)), .val (.int (3 : Int32)), .val (.int (4 : Int32)), .val (.int z0), .unset] []
  refine Wk.iloadN (q := 1) d1_0 rfl rfl ?_
  refine Wk.iloadN (q := 2) d1_1 rfl rfl ?_
  refine Wk.icmpT (q := 14) d1_2 (by decide) rfl (by decide : (1 : Int32) < (3 : Int32)) ?_
  refine Wk.iconst (q := 15) (v := (0 : Int32)) d1_14 rfl rfl ?_
  refine Wk.istore (q := 17) (ls' := #[.val (.int (1 : Int32)), .val (.int (3 : Int32)), .val (.int (4 : Int32)), .val (.int z0), .val (.int (0 : Int32))]) d1_15 rfl rfl ?_
  refine Wk.iload (q := 19) d1_17 rfl rfl ?_
  refine Wk.ifcT (q := 29) d1_19 (by decide) rfl (by decide : (0 : Int32) = (0 : Int32)) ?_
  refine Wk.iconst (q := 30) (v := (1 : Int32)) d1_29 rfl rfl ?_
  refine Wk.goto (q := 34) d1_30 (by decide) rfl ?_
  exact Wk.retZ rfl rfl d1_34 (by decide) (by decide) ⟨rfl, rfl⟩
set_option maxRecDepth 65536 in
set_option maxHeartbeats 40000000 in
theorem m_97 {l : Launch} {Z : State} {a0 : Array Value} {n0 : Nat} {h : Heap}  {a_T : Addr} {c_T : Cell} (hw : ∀ d ∈ tables_1, d.before a0 Z = true) (F : OwnF Z h  a_T c_T) {a1 : Addr} {c1 : Cell} {b0 b1 b2 b3 : Int32} (A1 : Arr Z h a1 c1 .byte) (S1 : c1.slots.size = 4) (e_0 : c1.slots[0]? = some (Value.int b0)) (e_1 : c1.slots[1]? = some (Value.int b1)) (e_2 : c1.slots[2]? = some (Value.int b2)) (e_3 : c1.slots[3]? = some (Value.int b3)) (z0 : Int32) : Met l Z n0 (⟨"com/example/tallykey/tallykey/HttpSyntaxIsTextPinLaw", "ok", "(IIIB)Z"⟩ : MethodName) method_3_code 5 (Option.some Jvm.ClassFile.FieldType.boolean) (⟨0, 0, 0, 0⟩ : Room) #[(.int (2 : Int32)), (.int (3 : Int32)), (.int (4 : Int32)), (.int z0)] h (fun v h' => v = some (.int (1 : Int32)) ∧ h' = h) := by
  refine Met.of_wk (ls := #[.val (.int (2 : Int32)), .val (.int (3 : Int32)), .val (.int (4 : Int32)), .val (.int z0), .unset]) (plainFor_of_name pn_0) (fun m => ef_1 m (2 : Int32) (3 : Int32) (4 : Int32) z0) ?_
  show Wk l Z n0 "com/example/tallykey/tallykey/HttpSyntaxIsTextPinLaw" "ok" method_3_code 5 (Option.some Jvm.ClassFile.FieldType.boolean) (⟨0, 0, 0, 0⟩ : Room) 0 0 (fun v h' => v = some (.int (1 : Int32)) ∧ h' = h) h 0 0 0 #[.val (.int (2 : Int32)), .val (.int (3 : Int32)), .val (.int (4 : Int32)), .val (.int z0), .unset] []
  refine Wk.iloadN (q := 1) d1_0 rfl rfl ?_
  refine Wk.iloadN (q := 2) d1_1 rfl rfl ?_
  refine Wk.icmpT (q := 14) d1_2 (by decide) rfl (by decide : (2 : Int32) < (3 : Int32)) ?_
  refine Wk.iconst (q := 15) (v := (0 : Int32)) d1_14 rfl rfl ?_
  refine Wk.istore (q := 17) (ls' := #[.val (.int (2 : Int32)), .val (.int (3 : Int32)), .val (.int (4 : Int32)), .val (.int z0), .val (.int (0 : Int32))]) d1_15 rfl rfl ?_
  refine Wk.iload (q := 19) d1_17 rfl rfl ?_
  refine Wk.ifcT (q := 29) d1_19 (by decide) rfl (by decide : (0 : Int32) = (0 : Int32)) ?_
  refine Wk.iconst (q := 30) (v := (1 : Int32)) d1_29 rfl rfl ?_
  refine Wk.goto (q := 34) d1_30 (by decide) rfl ?_
  exact Wk.retZ rfl rfl d1_34 (by decide) (by decide) ⟨rfl, rfl⟩
set_option maxRecDepth 65536 in
set_option maxHeartbeats 40000000 in
theorem m_98 {l : Launch} {Z : State} {a0 : Array Value} {n0 : Nat} {h : Heap}  {a_T : Addr} {c_T : Cell} (hw : ∀ d ∈ tables_1, d.before a0 Z = true) (F : OwnF Z h  a_T c_T) {a1 : Addr} {c1 : Cell} {b0 b1 b2 b3 : Int32} (A1 : Arr Z h a1 c1 .byte) (S1 : c1.slots.size = 4) (e_0 : c1.slots[0]? = some (Value.int b0)) (e_1 : c1.slots[1]? = some (Value.int b1)) (e_2 : c1.slots[2]? = some (Value.int b2)) (e_3 : c1.slots[3]? = some (Value.int b3)) (z0 : Int32) : Met l Z n0 (⟨"com/example/tallykey/tallykey/HttpSyntaxIsTextPinLaw", "ok", "(IIIB)Z"⟩ : MethodName) method_3_code 5 (Option.some Jvm.ClassFile.FieldType.boolean) (⟨1, 0, 0, 13⟩ : Room) #[(.int (3 : Int32)), (.int (3 : Int32)), (.int (4 : Int32)), (.int z0)] h (fun v h' => (∃ w, v = some w ∧ ((((tabN (z0 &&& (255 : Int32)).toNatClampNeg) = (0 : Int32)) ∧ w = (.int (0 : Int32))) ∨ ((¬ (tabN (z0 &&& (255 : Int32)).toNatClampNeg) = (0 : Int32)) ∧ w = (.int (1 : Int32))))) ∧ h' = h) := by
  refine Met.of_wk (ls := #[.val (.int (3 : Int32)), .val (.int (3 : Int32)), .val (.int (4 : Int32)), .val (.int z0), .unset]) (plainFor_of_name pn_0) (fun m => ef_1 m (3 : Int32) (3 : Int32) (4 : Int32) z0) ?_
  show Wk l Z n0 "com/example/tallykey/tallykey/HttpSyntaxIsTextPinLaw" "ok" method_3_code 5 (Option.some Jvm.ClassFile.FieldType.boolean) (⟨1, 0, 0, 13⟩ : Room) 0 0 (fun v h' => (∃ w, v = some w ∧ ((((tabN (z0 &&& (255 : Int32)).toNatClampNeg) = (0 : Int32)) ∧ w = (.int (0 : Int32))) ∨ ((¬ (tabN (z0 &&& (255 : Int32)).toNatClampNeg) = (0 : Int32)) ∧ w = (.int (1 : Int32))))) ∧ h' = h) h 0 0 0 #[.val (.int (3 : Int32)), .val (.int (3 : Int32)), .val (.int (4 : Int32)), .val (.int z0), .unset] []
  refine Wk.iloadN (q := 1) d1_0 rfl rfl ?_
  refine Wk.iloadN (q := 2) d1_1 rfl rfl ?_
  refine Wk.icmpF (q := 5) d1_2 rfl (by decide : ¬ (3 : Int32) < (3 : Int32)) ?_
  refine Wk.iloadN (q := 6) d1_5 rfl rfl ?_
  refine Wk.iloadN (q := 7) d1_6 rfl rfl ?_
  refine Wk.icmpF (q := 10) d1_7 rfl (by decide : (3 : Int32) < (4 : Int32)) ?_
  refine Wk.iconst (q := 11) (v := (1 : Int32)) d1_10 rfl rfl ?_
  refine Wk.goto (q := 15) d1_11 (by decide) rfl ?_
  refine Wk.istore (q := 17) (ls' := #[.val (.int (3 : Int32)), .val (.int (3 : Int32)), .val (.int (4 : Int32)), .val (.int z0), .val (.int (1 : Int32))]) d1_15 rfl rfl ?_
  refine Wk.iload (q := 19) d1_17 rfl rfl ?_
  refine Wk.ifcF (q := 22) d1_19 rfl (by decide : ¬ (1 : Int32) = (0 : Int32)) ?_
  refine Wk.iloadN (q := 23) d1_22 rfl rfl ?_
  refine Wk.callS1 (q := 26) (argsL := [(.int z0)]) (rest := []) (fr := 0) (lo := 0) (v0 := (.int (tabN (z0 &&& (255 : Int32)).toNatClampNeg))) (m_cls hw F z0) (w_6 hw) (w_7 hw) (w_4 hw) (w_8 hw) (by decide) pd_2 rfl rfl rfl d1_23 rfl (W := 0) rfl (by decide) (by decide) (by decide) (by decide) ?_
  refine Wk.ifc (q := 33) (q' := 29) d1_26 (by decide) rfl rfl (fun (h1 : (tabN (z0 &&& (255 : Int32)).toNatClampNeg) = (0 : Int32)) => ?_) (fun (h1 : ¬ (tabN (z0 &&& (255 : Int32)).toNatClampNeg) = (0 : Int32)) => ?_)
  · refine Wk.iconst (q := 34) (v := (0 : Int32)) d1_33 rfl rfl ?_
    exact Wk.retZ rfl rfl d1_34 (by decide) (by decide) ⟨⟨_, rfl, Or.inl ⟨h1, rfl⟩⟩, rfl⟩
  · refine Wk.iconst (q := 30) (v := (1 : Int32)) d1_29 rfl rfl ?_
    refine Wk.goto (q := 34) d1_30 (by decide) rfl ?_
    exact Wk.retZ rfl rfl d1_34 (by decide) (by decide) ⟨⟨_, rfl, Or.inr (⟨h1, rfl⟩)⟩, rfl⟩
set_option maxRecDepth 65536 in
set_option maxHeartbeats 40000000 in
theorem m_99 {l : Launch} {Z : State} {a0 : Array Value} {n0 : Nat} {h : Heap}  {a_T : Addr} {c_T : Cell} (hw : ∀ d ∈ tables_1, d.before a0 Z = true) (F : OwnF Z h  a_T c_T) {a1 : Addr} {c1 : Cell} {b0 b1 b2 b3 : Int32} (A1 : Arr Z h a1 c1 .byte) (S1 : c1.slots.size = 4) (e_0 : c1.slots[0]? = some (Value.int b0)) (e_1 : c1.slots[1]? = some (Value.int b1)) (e_2 : c1.slots[2]? = some (Value.int b2)) (e_3 : c1.slots[3]? = some (Value.int b3)) : Met l Z n0 (⟨"com/example/tallykey/tallykey/HttpSyntax", "isText", "([BII)Z"⟩ : MethodName) prog_5_method_5_code 4 (Option.some Jvm.ClassFile.FieldType.boolean) (⟨0, 0, 0, 0⟩ : Room) #[(.ref a1), (.int (3 : Int32)), (.int (4 : Int32))] h (fun v h' => (∃ w, v = some w ∧ (((¬ (tabN (b3 &&& (255 : Int32)).toNatClampNeg) = (0 : Int32)) ∧ w = (.int (1 : Int32))) ∨ (((tabN (b3 &&& (255 : Int32)).toNatClampNeg) = (0 : Int32)) ∧ w = (.int (0 : Int32))))) ∧ h' = h) := by
  refine Met.of_wk (ls := #[.val (.ref a1), .val (.int (3 : Int32)), .val (.int (4 : Int32)), .unset]) (plainFor_of_name pn_1) (fun m => ef_2 m a1 (3 : Int32) (4 : Int32)) ?_
  show Wk l Z n0 "com/example/tallykey/tallykey/HttpSyntax" "isText" prog_5_method_5_code 4 (Option.some Jvm.ClassFile.FieldType.boolean) (⟨0, 0, 0, 0⟩ : Room) 0 0 (fun v h' => (∃ w, v = some w ∧ (((¬ (tabN (b3 &&& (255 : Int32)).toNatClampNeg) = (0 : Int32)) ∧ w = (.int (1 : Int32))) ∨ (((tabN (b3 &&& (255 : Int32)).toNatClampNeg) = (0 : Int32)) ∧ w = (.int (0 : Int32))))) ∧ h' = h) h 0 0 0 #[.val (.ref a1), .val (.int (3 : Int32)), .val (.int (4 : Int32)), .unset] []
  refine Wk.iloadN (q := 1) d3_0 rfl rfl ?_
  refine Wk.istoreN (q := 2) (ls' := #[.val (.ref a1), .val (.int (3 : Int32)), .val (.int (4 : Int32)), .val (.int (3 : Int32))]) d3_1 rfl rfl ?_
  refine Wk.iloadN (q := 3) d3_2 rfl rfl ?_
  refine Wk.iloadN (q := 4) d3_3 rfl rfl ?_
  refine Wk.icmpF (q := 7) d3_4 rfl (by decide : (3 : Int32) < (4 : Int32)) ?_
  refine Wk.getS (q := 10) (w_13 hw) Via.refl F.s_T d3_7 rfl ?_
  refine Wk.aloadN (q := 11) d3_10 rfl rfl rfl ?_
  refine Wk.iloadN (q := 12) d3_11 rfl rfl ?_
  refine Wk.baloadB (q := 13) A1 (by rw [S1]; decide) e_3 d3_12 rfl ?_
  refine Wk.sipush (q := 16) (v := (255 : Int32)) d3_13 rfl rfl ?_
  refine Wk.iand (q := 17) (v := (b3 &&& (255 : Int32))) d3_16 rfl rfl ?_
  refine Wk.baloadZ (q := 18) F.r_T (by rw [F.z_T]; exact own_in (own_255 b3).1 (by have := (own_255 b3).2; omega)) (F.t_T _ (by have := own_clamp (own_255 b3).1; have := (own_255 b3).2; omega)) d3_17 rfl ?_
  refine Wk.ifc (q := 23) (q' := 21) d3_18 (by decide) rfl rfl (fun (h1 : ¬ (tabN (b3 &&& (255 : Int32)).toNatClampNeg) = (0 : Int32)) => ?_) (fun (h1 : (tabN (b3 &&& (255 : Int32)).toNatClampNeg) = (0 : Int32)) => ?_)
  · refine Wk.iinc (q := 26) (v := (4 : Int32)) (ls' := #[.val (.ref a1), .val (.int (3 : Int32)), .val (.int (4 : Int32)), .val (.int (4 : Int32))]) d3_23 rfl rfl (by decide) rfl ?_
    refine Wk.goto (q := 2) d3_26 (by decide) rfl ?_
    refine Wk.iloadN (q := 3) d3_2 rfl rfl ?_
    refine Wk.iloadN (q := 4) d3_3 rfl rfl ?_
    refine Wk.icmpT (q := 29) d3_4 (by decide) rfl (by decide : ¬ (4 : Int32) < (4 : Int32)) ?_
    refine Wk.iconst (q := 30) (v := (1 : Int32)) d3_29 rfl rfl ?_
    exact Wk.retZ rfl rfl d3_30 (by decide) (by decide) ⟨⟨_, rfl, Or.inl ⟨h1, rfl⟩⟩, rfl⟩
  · refine Wk.iconst (q := 22) (v := (0 : Int32)) d3_21 rfl rfl ?_
    exact Wk.retZ rfl rfl d3_22 (by decide) (by decide) ⟨⟨_, rfl, Or.inr (⟨h1, rfl⟩)⟩, rfl⟩
set_option maxRecDepth 65536 in
set_option maxHeartbeats 40000000 in
theorem m_100 {l : Launch} {Z : State} {a0 : Array Value} {n0 : Nat} {h : Heap}  {a_T : Addr} {c_T : Cell} (hw : ∀ d ∈ tables_1, d.before a0 Z = true) (F : OwnF Z h  a_T c_T) {a1 : Addr} {c1 : Cell} {b0 b1 b2 b3 : Int32} (A1 : Arr Z h a1 c1 .byte) (S1 : c1.slots.size = 4) (e_0 : c1.slots[0]? = some (Value.int b0)) (e_1 : c1.slots[1]? = some (Value.int b1)) (e_2 : c1.slots[2]? = some (Value.int b2)) (e_3 : c1.slots[3]? = some (Value.int b3)) (z0 : Int32) : Met l Z n0 (⟨"com/example/tallykey/tallykey/HttpSyntaxIsTextPinLaw", "ok", "(IIIB)Z"⟩ : MethodName) method_3_code 5 (Option.some Jvm.ClassFile.FieldType.boolean) (⟨0, 0, 0, 0⟩ : Room) #[(.int (0 : Int32)), (.int (4 : Int32)), (.int (0 : Int32)), (.int z0)] h (fun v h' => v = some (.int (1 : Int32)) ∧ h' = h) := by
  refine Met.of_wk (ls := #[.val (.int (0 : Int32)), .val (.int (4 : Int32)), .val (.int (0 : Int32)), .val (.int z0), .unset]) (plainFor_of_name pn_0) (fun m => ef_1 m (0 : Int32) (4 : Int32) (0 : Int32) z0) ?_
  show Wk l Z n0 "com/example/tallykey/tallykey/HttpSyntaxIsTextPinLaw" "ok" method_3_code 5 (Option.some Jvm.ClassFile.FieldType.boolean) (⟨0, 0, 0, 0⟩ : Room) 0 0 (fun v h' => v = some (.int (1 : Int32)) ∧ h' = h) h 0 0 0 #[.val (.int (0 : Int32)), .val (.int (4 : Int32)), .val (.int (0 : Int32)), .val (.int z0), .unset] []
  refine Wk.iloadN (q := 1) d1_0 rfl rfl ?_
  refine Wk.iloadN (q := 2) d1_1 rfl rfl ?_
  refine Wk.icmpT (q := 14) d1_2 (by decide) rfl (by decide : (0 : Int32) < (4 : Int32)) ?_
  refine Wk.iconst (q := 15) (v := (0 : Int32)) d1_14 rfl rfl ?_
  refine Wk.istore (q := 17) (ls' := #[.val (.int (0 : Int32)), .val (.int (4 : Int32)), .val (.int (0 : Int32)), .val (.int z0), .val (.int (0 : Int32))]) d1_15 rfl rfl ?_
  refine Wk.iload (q := 19) d1_17 rfl rfl ?_
  refine Wk.ifcT (q := 29) d1_19 (by decide) rfl (by decide : (0 : Int32) = (0 : Int32)) ?_
  refine Wk.iconst (q := 30) (v := (1 : Int32)) d1_29 rfl rfl ?_
  refine Wk.goto (q := 34) d1_30 (by decide) rfl ?_
  exact Wk.retZ rfl rfl d1_34 (by decide) (by decide) ⟨rfl, rfl⟩
set_option maxRecDepth 65536 in
set_option maxHeartbeats 40000000 in
theorem m_101 {l : Launch} {Z : State} {a0 : Array Value} {n0 : Nat} {h : Heap}  {a_T : Addr} {c_T : Cell} (hw : ∀ d ∈ tables_1, d.before a0 Z = true) (F : OwnF Z h  a_T c_T) {a1 : Addr} {c1 : Cell} {b0 b1 b2 b3 : Int32} (A1 : Arr Z h a1 c1 .byte) (S1 : c1.slots.size = 4) (e_0 : c1.slots[0]? = some (Value.int b0)) (e_1 : c1.slots[1]? = some (Value.int b1)) (e_2 : c1.slots[2]? = some (Value.int b2)) (e_3 : c1.slots[3]? = some (Value.int b3)) (z0 : Int32) : Met l Z n0 (⟨"com/example/tallykey/tallykey/HttpSyntaxIsTextPinLaw", "ok", "(IIIB)Z"⟩ : MethodName) method_3_code 5 (Option.some Jvm.ClassFile.FieldType.boolean) (⟨0, 0, 0, 0⟩ : Room) #[(.int (1 : Int32)), (.int (4 : Int32)), (.int (0 : Int32)), (.int z0)] h (fun v h' => v = some (.int (1 : Int32)) ∧ h' = h) := by
  refine Met.of_wk (ls := #[.val (.int (1 : Int32)), .val (.int (4 : Int32)), .val (.int (0 : Int32)), .val (.int z0), .unset]) (plainFor_of_name pn_0) (fun m => ef_1 m (1 : Int32) (4 : Int32) (0 : Int32) z0) ?_
  show Wk l Z n0 "com/example/tallykey/tallykey/HttpSyntaxIsTextPinLaw" "ok" method_3_code 5 (Option.some Jvm.ClassFile.FieldType.boolean) (⟨0, 0, 0, 0⟩ : Room) 0 0 (fun v h' => v = some (.int (1 : Int32)) ∧ h' = h) h 0 0 0 #[.val (.int (1 : Int32)), .val (.int (4 : Int32)), .val (.int (0 : Int32)), .val (.int z0), .unset] []
  refine Wk.iloadN (q := 1) d1_0 rfl rfl ?_
  refine Wk.iloadN (q := 2) d1_1 rfl rfl ?_
  refine Wk.icmpT (q := 14) d1_2 (by decide) rfl (by decide : (1 : Int32) < (4 : Int32)) ?_
  refine Wk.iconst (q := 15) (v := (0 : Int32)) d1_14 rfl rfl ?_
  refine Wk.istore (q := 17) (ls' := #[.val (.int (1 : Int32)), .val (.int (4 : Int32)), .val (.int (0 : Int32)), .val (.int z0), .val (.int (0 : Int32))]) d1_15 rfl rfl ?_
  refine Wk.iload (q := 19) d1_17 rfl rfl ?_
  refine Wk.ifcT (q := 29) d1_19 (by decide) rfl (by decide : (0 : Int32) = (0 : Int32)) ?_
  refine Wk.iconst (q := 30) (v := (1 : Int32)) d1_29 rfl rfl ?_
  refine Wk.goto (q := 34) d1_30 (by decide) rfl ?_
  exact Wk.retZ rfl rfl d1_34 (by decide) (by decide) ⟨rfl, rfl⟩
set_option maxRecDepth 65536 in
set_option maxHeartbeats 40000000 in
theorem m_102 {l : Launch} {Z : State} {a0 : Array Value} {n0 : Nat} {h : Heap}  {a_T : Addr} {c_T : Cell} (hw : ∀ d ∈ tables_1, d.before a0 Z = true) (F : OwnF Z h  a_T c_T) {a1 : Addr} {c1 : Cell} {b0 b1 b2 b3 : Int32} (A1 : Arr Z h a1 c1 .byte) (S1 : c1.slots.size = 4) (e_0 : c1.slots[0]? = some (Value.int b0)) (e_1 : c1.slots[1]? = some (Value.int b1)) (e_2 : c1.slots[2]? = some (Value.int b2)) (e_3 : c1.slots[3]? = some (Value.int b3)) (z0 : Int32) : Met l Z n0 (⟨"com/example/tallykey/tallykey/HttpSyntaxIsTextPinLaw", "ok", "(IIIB)Z"⟩ : MethodName) method_3_code 5 (Option.some Jvm.ClassFile.FieldType.boolean) (⟨0, 0, 0, 0⟩ : Room) #[(.int (2 : Int32)), (.int (4 : Int32)), (.int (0 : Int32)), (.int z0)] h (fun v h' => v = some (.int (1 : Int32)) ∧ h' = h) := by
  refine Met.of_wk (ls := #[.val (.int (2 : Int32)), .val (.int (4 : Int32)), .val (.int (0 : Int32)), .val (.int z0), .unset]) (plainFor_of_name pn_0) (fun m => ef_1 m (2 : Int32) (4 : Int32) (0 : Int32) z0) ?_
  show Wk l Z n0 "com/example/tallykey/tallykey/HttpSyntaxIsTextPinLaw" "ok" method_3_code 5 (Option.some Jvm.ClassFile.FieldType.boolean) (⟨0, 0, 0, 0⟩ : Room) 0 0 (fun v h' => v = some (.int (1 : Int32)) ∧ h' = h) h 0 0 0 #[.val (.int (2 : Int32)), .val (.int (4 : Int32)), .val (.int (0 : Int32)), .val (.int z0), .unset] []
  refine Wk.iloadN (q := 1) d1_0 rfl rfl ?_
  refine Wk.iloadN (q := 2) d1_1 rfl rfl ?_
  refine Wk.icmpT (q := 14) d1_2 (by decide) rfl (by decide : (2 : Int32) < (4 : Int32)) ?_
  refine Wk.iconst (q := 15) (v := (0 : Int32)) d1_14 rfl rfl ?_
  refine Wk.istore (q := 17) (ls' := #[.val (.int (2 : Int32)), .val (.int (4 : Int32)), .val (.int (0 : Int32)), .val (.int z0), .val (.int (0 : Int32))]) d1_15 rfl rfl ?_
  refine Wk.iload (q := 19) d1_17 rfl rfl ?_
  refine Wk.ifcT (q := 29) d1_19 (by decide) rfl (by decide : (0 : Int32) = (0 : Int32)) ?_
  refine Wk.iconst (q := 30) (v := (1 : Int32)) d1_29 rfl rfl ?_
  refine Wk.goto (q := 34) d1_30 (by decide) rfl ?_
  exact Wk.retZ rfl rfl d1_34 (by decide) (by decide) ⟨rfl, rfl⟩
set_option maxRecDepth 65536 in
set_option maxHeartbeats 40000000 in
theorem m_103 {l : Launch} {Z : State} {a0 : Array Value} {n0 : Nat} {h : Heap}  {a_T : Addr} {c_T : Cell} (hw : ∀ d ∈ tables_1, d.before a0 Z = true) (F : OwnF Z h  a_T c_T) {a1 : Addr} {c1 : Cell} {b0 b1 b2 b3 : Int32} (A1 : Arr Z h a1 c1 .byte) (S1 : c1.slots.size = 4) (e_0 : c1.slots[0]? = some (Value.int b0)) (e_1 : c1.slots[1]? = some (Value.int b1)) (e_2 : c1.slots[2]? = some (Value.int b2)) (e_3 : c1.slots[3]? = some (Value.int b3)) (z0 : Int32) : Met l Z n0 (⟨"com/example/tallykey/tallykey/HttpSyntaxIsTextPinLaw", "ok", "(IIIB)Z"⟩ : MethodName) method_3_code 5 (Option.some Jvm.ClassFile.FieldType.boolean) (⟨0, 0, 0, 0⟩ : Room) #[(.int (3 : Int32)), (.int (4 : Int32)), (.int (0 : Int32)), (.int z0)] h (fun v h' => v = some (.int (1 : Int32)) ∧ h' = h) := by
  refine Met.of_wk (ls := #[.val (.int (3 : Int32)), .val (.int (4 : Int32)), .val (.int (0 : Int32)), .val (.int z0), .unset]) (plainFor_of_name pn_0) (fun m => ef_1 m (3 : Int32) (4 : Int32) (0 : Int32) z0) ?_
  show Wk l Z n0 "com/example/tallykey/tallykey/HttpSyntaxIsTextPinLaw" "ok" method_3_code 5 (Option.some Jvm.ClassFile.FieldType.boolean) (⟨0, 0, 0, 0⟩ : Room) 0 0 (fun v h' => v = some (.int (1 : Int32)) ∧ h' = h) h 0 0 0 #[.val (.int (3 : Int32)), .val (.int (4 : Int32)), .val (.int (0 : Int32)), .val (.int z0), .unset] []
  refine Wk.iloadN (q := 1) d1_0 rfl rfl ?_
  refine Wk.iloadN (q := 2) d1_1 rfl rfl ?_
  refine Wk.icmpT (q := 14) d1_2 (by decide) rfl (by decide : (3 : Int32) < (4 : Int32)) ?_
  refine Wk.iconst (q := 15) (v := (0 : Int32)) d1_14 rfl rfl ?_
  refine Wk.istore (q := 17) (ls' := #[.val (.int (3 : Int32)), .val (.int (4 : Int32)), .val (.int (0 : Int32)), .val (.int z0), .val (.int (0 : Int32))]) d1_15 rfl rfl ?_
  refine Wk.iload (q := 19) d1_17 rfl rfl ?_
  refine Wk.ifcT (q := 29) d1_19 (by decide) rfl (by decide : (0 : Int32) = (0 : Int32)) ?_
  refine Wk.iconst (q := 30) (v := (1 : Int32)) d1_29 rfl rfl ?_
  refine Wk.goto (q := 34) d1_30 (by decide) rfl ?_
  exact Wk.retZ rfl rfl d1_34 (by decide) (by decide) ⟨rfl, rfl⟩
set_option maxRecDepth 65536 in
set_option maxHeartbeats 40000000 in
theorem m_104 {l : Launch} {Z : State} {a0 : Array Value} {n0 : Nat} {h : Heap}  {a_T : Addr} {c_T : Cell} (hw : ∀ d ∈ tables_1, d.before a0 Z = true) (F : OwnF Z h  a_T c_T) {a1 : Addr} {c1 : Cell} {b0 b1 b2 b3 : Int32} (A1 : Arr Z h a1 c1 .byte) (S1 : c1.slots.size = 4) (e_0 : c1.slots[0]? = some (Value.int b0)) (e_1 : c1.slots[1]? = some (Value.int b1)) (e_2 : c1.slots[2]? = some (Value.int b2)) (e_3 : c1.slots[3]? = some (Value.int b3)) : Met l Z n0 (⟨"com/example/tallykey/tallykey/HttpSyntax", "isText", "([BII)Z"⟩ : MethodName) prog_5_method_5_code 4 (Option.some Jvm.ClassFile.FieldType.boolean) (⟨0, 0, 0, 0⟩ : Room) #[(.ref a1), (.int (4 : Int32)), (.int (0 : Int32))] h (fun v h' => v = some (.int (1 : Int32)) ∧ h' = h) := by
  refine Met.of_wk (ls := #[.val (.ref a1), .val (.int (4 : Int32)), .val (.int (0 : Int32)), .unset]) (plainFor_of_name pn_1) (fun m => ef_2 m a1 (4 : Int32) (0 : Int32)) ?_
  show Wk l Z n0 "com/example/tallykey/tallykey/HttpSyntax" "isText" prog_5_method_5_code 4 (Option.some Jvm.ClassFile.FieldType.boolean) (⟨0, 0, 0, 0⟩ : Room) 0 0 (fun v h' => v = some (.int (1 : Int32)) ∧ h' = h) h 0 0 0 #[.val (.ref a1), .val (.int (4 : Int32)), .val (.int (0 : Int32)), .unset] []
  refine Wk.iloadN (q := 1) d3_0 rfl rfl ?_
  refine Wk.istoreN (q := 2) (ls' := #[.val (.ref a1), .val (.int (4 : Int32)), .val (.int (0 : Int32)), .val (.int (4 : Int32))]) d3_1 rfl rfl ?_
  refine Wk.iloadN (q := 3) d3_2 rfl rfl ?_
  refine Wk.iloadN (q := 4) d3_3 rfl rfl ?_
  refine Wk.icmpT (q := 29) d3_4 (by decide) rfl (by decide : ¬ (4 : Int32) < (0 : Int32)) ?_
  refine Wk.iconst (q := 30) (v := (1 : Int32)) d3_29 rfl rfl ?_
  exact Wk.retZ rfl rfl d3_30 (by decide) (by decide) ⟨rfl, rfl⟩
set_option maxRecDepth 65536 in
set_option maxHeartbeats 40000000 in
theorem m_105 {l : Launch} {Z : State} {a0 : Array Value} {n0 : Nat} {h : Heap}  {a_T : Addr} {c_T : Cell} (hw : ∀ d ∈ tables_1, d.before a0 Z = true) (F : OwnF Z h  a_T c_T) {a1 : Addr} {c1 : Cell} {b0 b1 b2 b3 : Int32} (A1 : Arr Z h a1 c1 .byte) (S1 : c1.slots.size = 4) (e_0 : c1.slots[0]? = some (Value.int b0)) (e_1 : c1.slots[1]? = some (Value.int b1)) (e_2 : c1.slots[2]? = some (Value.int b2)) (e_3 : c1.slots[3]? = some (Value.int b3)) (z0 : Int32) : Met l Z n0 (⟨"com/example/tallykey/tallykey/HttpSyntaxIsTextPinLaw", "ok", "(IIIB)Z"⟩ : MethodName) method_3_code 5 (Option.some Jvm.ClassFile.FieldType.boolean) (⟨0, 0, 0, 0⟩ : Room) #[(.int (0 : Int32)), (.int (4 : Int32)), (.int (1 : Int32)), (.int z0)] h (fun v h' => v = some (.int (1 : Int32)) ∧ h' = h) := by
  refine Met.of_wk (ls := #[.val (.int (0 : Int32)), .val (.int (4 : Int32)), .val (.int (1 : Int32)), .val (.int z0), .unset]) (plainFor_of_name pn_0) (fun m => ef_1 m (0 : Int32) (4 : Int32) (1 : Int32) z0) ?_
  show Wk l Z n0 "com/example/tallykey/tallykey/HttpSyntaxIsTextPinLaw" "ok" method_3_code 5 (Option.some Jvm.ClassFile.FieldType.boolean) (⟨0, 0, 0, 0⟩ : Room) 0 0 (fun v h' => v = some (.int (1 : Int32)) ∧ h' = h) h 0 0 0 #[.val (.int (0 : Int32)), .val (.int (4 : Int32)), .val (.int (1 : Int32)), .val (.int z0), .unset] []
  refine Wk.iloadN (q := 1) d1_0 rfl rfl ?_
  refine Wk.iloadN (q := 2) d1_1 rfl rfl ?_
  refine Wk.icmpT (q := 14) d1_2 (by decide) rfl (by decide : (0 : Int32) < (4 : Int32)) ?_
  refine Wk.iconst (q := 15) (v := (0 : Int32)) d1_14 rfl rfl ?_
  refine Wk.istore (q := 17) (ls' := #[.val (.int (0 : Int32)), .val (.int (4 : Int32)), .val (.int (1 : Int32)), .val (.int z0), .val (.int (0 : Int32))]) d1_15 rfl rfl ?_
  refine Wk.iload (q := 19) d1_17 rfl rfl ?_
  refine Wk.ifcT (q := 29) d1_19 (by decide) rfl (by decide : (0 : Int32) = (0 : Int32)) ?_
  refine Wk.iconst (q := 30) (v := (1 : Int32)) d1_29 rfl rfl ?_
  refine Wk.goto (q := 34) d1_30 (by decide) rfl ?_
  exact Wk.retZ rfl rfl d1_34 (by decide) (by decide) ⟨rfl, rfl⟩
set_option maxRecDepth 65536 in
set_option maxHeartbeats 40000000 in
theorem m_106 {l : Launch} {Z : State} {a0 : Array Value} {n0 : Nat} {h : Heap}  {a_T : Addr} {c_T : Cell} (hw : ∀ d ∈ tables_1, d.before a0 Z = true) (F : OwnF Z h  a_T c_T) {a1 : Addr} {c1 : Cell} {b0 b1 b2 b3 : Int32} (A1 : Arr Z h a1 c1 .byte) (S1 : c1.slots.size = 4) (e_0 : c1.slots[0]? = some (Value.int b0)) (e_1 : c1.slots[1]? = some (Value.int b1)) (e_2 : c1.slots[2]? = some (Value.int b2)) (e_3 : c1.slots[3]? = some (Value.int b3)) (z0 : Int32) : Met l Z n0 (⟨"com/example/tallykey/tallykey/HttpSyntaxIsTextPinLaw", "ok", "(IIIB)Z"⟩ : MethodName) method_3_code 5 (Option.some Jvm.ClassFile.FieldType.boolean) (⟨0, 0, 0, 0⟩ : Room) #[(.int (1 : Int32)), (.int (4 : Int32)), (.int (1 : Int32)), (.int z0)] h (fun v h' => v = some (.int (1 : Int32)) ∧ h' = h) := by
  refine Met.of_wk (ls := #[.val (.int (1 : Int32)), .val (.int (4 : Int32)), .val (.int (1 : Int32)), .val (.int z0), .unset]) (plainFor_of_name pn_0) (fun m => ef_1 m (1 : Int32) (4 : Int32) (1 : Int32) z0) ?_
  show Wk l Z n0 "com/example/tallykey/tallykey/HttpSyntaxIsTextPinLaw" "ok" method_3_code 5 (Option.some Jvm.ClassFile.FieldType.boolean) (⟨0, 0, 0, 0⟩ : Room) 0 0 (fun v h' => v = some (.int (1 : Int32)) ∧ h' = h) h 0 0 0 #[.val (.int (1 : Int32)), .val (.int (4 : Int32)), .val (.int (1 : Int32)), .val (.int z0), .unset] []
  refine Wk.iloadN (q := 1) d1_0 rfl rfl ?_
  refine Wk.iloadN (q := 2) d1_1 rfl rfl ?_
  refine Wk.icmpT (q := 14) d1_2 (by decide) rfl (by decide : (1 : Int32) < (4 : Int32)) ?_
  refine Wk.iconst (q := 15) (v := (0 : Int32)) d1_14 rfl rfl ?_
  refine Wk.istore (q := 17) (ls' := #[.val (.int (1 : Int32)), .val (.int (4 : Int32)), .val (.int (1 : Int32)), .val (.int z0), .val (.int (0 : Int32))]) d1_15 rfl rfl ?_
  refine Wk.iload (q := 19) d1_17 rfl rfl ?_
  refine Wk.ifcT (q := 29) d1_19 (by decide) rfl (by decide : (0 : Int32) = (0 : Int32)) ?_
  refine Wk.iconst (q := 30) (v := (1 : Int32)) d1_29 rfl rfl ?_
  refine Wk.goto (q := 34) d1_30 (by decide) rfl ?_
  exact Wk.retZ rfl rfl d1_34 (by decide) (by decide) ⟨rfl, rfl⟩
set_option maxRecDepth 65536 in
set_option maxHeartbeats 40000000 in
theorem m_107 {l : Launch} {Z : State} {a0 : Array Value} {n0 : Nat} {h : Heap}  {a_T : Addr} {c_T : Cell} (hw : ∀ d ∈ tables_1, d.before a0 Z = true) (F : OwnF Z h  a_T c_T) {a1 : Addr} {c1 : Cell} {b0 b1 b2 b3 : Int32} (A1 : Arr Z h a1 c1 .byte) (S1 : c1.slots.size = 4) (e_0 : c1.slots[0]? = some (Value.int b0)) (e_1 : c1.slots[1]? = some (Value.int b1)) (e_2 : c1.slots[2]? = some (Value.int b2)) (e_3 : c1.slots[3]? = some (Value.int b3)) (z0 : Int32) : Met l Z n0 (⟨"com/example/tallykey/tallykey/HttpSyntaxIsTextPinLaw", "ok", "(IIIB)Z"⟩ : MethodName) method_3_code 5 (Option.some Jvm.ClassFile.FieldType.boolean) (⟨0, 0, 0, 0⟩ : Room) #[(.int (2 : Int32)), (.int (4 : Int32)), (.int (1 : Int32)), (.int z0)] h (fun v h' => v = some (.int (1 : Int32)) ∧ h' = h) := by
  refine Met.of_wk (ls := #[.val (.int (2 : Int32)), .val (.int (4 : Int32)), .val (.int (1 : Int32)), .val (.int z0), .unset]) (plainFor_of_name pn_0) (fun m => ef_1 m (2 : Int32) (4 : Int32) (1 : Int32) z0) ?_
  show Wk l Z n0 "com/example/tallykey/tallykey/HttpSyntaxIsTextPinLaw" "ok" method_3_code 5 (Option.some Jvm.ClassFile.FieldType.boolean) (⟨0, 0, 0, 0⟩ : Room) 0 0 (fun v h' => v = some (.int (1 : Int32)) ∧ h' = h) h 0 0 0 #[.val (.int (2 : Int32)), .val (.int (4 : Int32)), .val (.int (1 : Int32)), .val (.int z0), .unset] []
  refine Wk.iloadN (q := 1) d1_0 rfl rfl ?_
  refine Wk.iloadN (q := 2) d1_1 rfl rfl ?_
  refine Wk.icmpT (q := 14) d1_2 (by decide) rfl (by decide : (2 : Int32) < (4 : Int32)) ?_
  refine Wk.iconst (q := 15) (v := (0 : Int32)) d1_14 rfl rfl ?_
  refine Wk.istore (q := 17) (ls' := #[.val (.int (2 : Int32)), .val (.int (4 : Int32)), .val (.int (1 : Int32)), .val (.int z0), .val (.int (0 : Int32))]) d1_15 rfl rfl ?_
  refine Wk.iload (q := 19) d1_17 rfl rfl ?_
  refine Wk.ifcT (q := 29) d1_19 (by decide) rfl (by decide : (0 : Int32) = (0 : Int32)) ?_
  refine Wk.iconst (q := 30) (v := (1 : Int32)) d1_29 rfl rfl ?_
  refine Wk.goto (q := 34) d1_30 (by decide) rfl ?_
  exact Wk.retZ rfl rfl d1_34 (by decide) (by decide) ⟨rfl, rfl⟩
set_option maxRecDepth 65536 in
set_option maxHeartbeats 40000000 in
theorem m_108 {l : Launch} {Z : State} {a0 : Array Value} {n0 : Nat} {h : Heap}  {a_T : Addr} {c_T : Cell} (hw : ∀ d ∈ tables_1, d.before a0 Z = true) (F : OwnF Z h  a_T c_T) {a1 : Addr} {c1 : Cell} {b0 b1 b2 b3 : Int32} (A1 : Arr Z h a1 c1 .byte) (S1 : c1.slots.size = 4) (e_0 : c1.slots[0]? = some (Value.int b0)) (e_1 : c1.slots[1]? = some (Value.int b1)) (e_2 : c1.slots[2]? = some (Value.int b2)) (e_3 : c1.slots[3]? = some (Value.int b3)) (z0 : Int32) : Met l Z n0 (⟨"com/example/tallykey/tallykey/HttpSyntaxIsTextPinLaw", "ok", "(IIIB)Z"⟩ : MethodName) method_3_code 5 (Option.some Jvm.ClassFile.FieldType.boolean) (⟨0, 0, 0, 0⟩ : Room) #[(.int (3 : Int32)), (.int (4 : Int32)), (.int (1 : Int32)), (.int z0)] h (fun v h' => v = some (.int (1 : Int32)) ∧ h' = h) := by
  refine Met.of_wk (ls := #[.val (.int (3 : Int32)), .val (.int (4 : Int32)), .val (.int (1 : Int32)), .val (.int z0), .unset]) (plainFor_of_name pn_0) (fun m => ef_1 m (3 : Int32) (4 : Int32) (1 : Int32) z0) ?_
  show Wk l Z n0 "com/example/tallykey/tallykey/HttpSyntaxIsTextPinLaw" "ok" method_3_code 5 (Option.some Jvm.ClassFile.FieldType.boolean) (⟨0, 0, 0, 0⟩ : Room) 0 0 (fun v h' => v = some (.int (1 : Int32)) ∧ h' = h) h 0 0 0 #[.val (.int (3 : Int32)), .val (.int (4 : Int32)), .val (.int (1 : Int32)), .val (.int z0), .unset] []
  refine Wk.iloadN (q := 1) d1_0 rfl rfl ?_
  refine Wk.iloadN (q := 2) d1_1 rfl rfl ?_
  refine Wk.icmpT (q := 14) d1_2 (by decide) rfl (by decide : (3 : Int32) < (4 : Int32)) ?_
  refine Wk.iconst (q := 15) (v := (0 : Int32)) d1_14 rfl rfl ?_
  refine Wk.istore (q := 17) (ls' := #[.val (.int (3 : Int32)), .val (.int (4 : Int32)), .val (.int (1 : Int32)), .val (.int z0), .val (.int (0 : Int32))]) d1_15 rfl rfl ?_
  refine Wk.iload (q := 19) d1_17 rfl rfl ?_
  refine Wk.ifcT (q := 29) d1_19 (by decide) rfl (by decide : (0 : Int32) = (0 : Int32)) ?_
  refine Wk.iconst (q := 30) (v := (1 : Int32)) d1_29 rfl rfl ?_
  refine Wk.goto (q := 34) d1_30 (by decide) rfl ?_
  exact Wk.retZ rfl rfl d1_34 (by decide) (by decide) ⟨rfl, rfl⟩
set_option maxRecDepth 65536 in
set_option maxHeartbeats 40000000 in
theorem m_109 {l : Launch} {Z : State} {a0 : Array Value} {n0 : Nat} {h : Heap}  {a_T : Addr} {c_T : Cell} (hw : ∀ d ∈ tables_1, d.before a0 Z = true) (F : OwnF Z h  a_T c_T) {a1 : Addr} {c1 : Cell} {b0 b1 b2 b3 : Int32} (A1 : Arr Z h a1 c1 .byte) (S1 : c1.slots.size = 4) (e_0 : c1.slots[0]? = some (Value.int b0)) (e_1 : c1.slots[1]? = some (Value.int b1)) (e_2 : c1.slots[2]? = some (Value.int b2)) (e_3 : c1.slots[3]? = some (Value.int b3)) : Met l Z n0 (⟨"com/example/tallykey/tallykey/HttpSyntax", "isText", "([BII)Z"⟩ : MethodName) prog_5_method_5_code 4 (Option.some Jvm.ClassFile.FieldType.boolean) (⟨0, 0, 0, 0⟩ : Room) #[(.ref a1), (.int (4 : Int32)), (.int (1 : Int32))] h (fun v h' => v = some (.int (1 : Int32)) ∧ h' = h) := by
  refine Met.of_wk (ls := #[.val (.ref a1), .val (.int (4 : Int32)), .val (.int (1 : Int32)), .unset]) (plainFor_of_name pn_1) (fun m => ef_2 m a1 (4 : Int32) (1 : Int32)) ?_
  show Wk l Z n0 "com/example/tallykey/tallykey/HttpSyntax" "isText" prog_5_method_5_code 4 (Option.some Jvm.ClassFile.FieldType.boolean) (⟨0, 0, 0, 0⟩ : Room) 0 0 (fun v h' => v = some (.int (1 : Int32)) ∧ h' = h) h 0 0 0 #[.val (.ref a1), .val (.int (4 : Int32)), .val (.int (1 : Int32)), .unset] []
  refine Wk.iloadN (q := 1) d3_0 rfl rfl ?_
  refine Wk.istoreN (q := 2) (ls' := #[.val (.ref a1), .val (.int (4 : Int32)), .val (.int (1 : Int32)), .val (.int (4 : Int32))]) d3_1 rfl rfl ?_
  refine Wk.iloadN (q := 3) d3_2 rfl rfl ?_
  refine Wk.iloadN (q := 4) d3_3 rfl rfl ?_
  refine Wk.icmpT (q := 29) d3_4 (by decide) rfl (by decide : ¬ (4 : Int32) < (1 : Int32)) ?_
  refine Wk.iconst (q := 30) (v := (1 : Int32)) d3_29 rfl rfl ?_
  exact Wk.retZ rfl rfl d3_30 (by decide) (by decide) ⟨rfl, rfl⟩
set_option maxRecDepth 65536 in
set_option maxHeartbeats 40000000 in
theorem m_110 {l : Launch} {Z : State} {a0 : Array Value} {n0 : Nat} {h : Heap}  {a_T : Addr} {c_T : Cell} (hw : ∀ d ∈ tables_1, d.before a0 Z = true) (F : OwnF Z h  a_T c_T) {a1 : Addr} {c1 : Cell} {b0 b1 b2 b3 : Int32} (A1 : Arr Z h a1 c1 .byte) (S1 : c1.slots.size = 4) (e_0 : c1.slots[0]? = some (Value.int b0)) (e_1 : c1.slots[1]? = some (Value.int b1)) (e_2 : c1.slots[2]? = some (Value.int b2)) (e_3 : c1.slots[3]? = some (Value.int b3)) (z0 : Int32) : Met l Z n0 (⟨"com/example/tallykey/tallykey/HttpSyntaxIsTextPinLaw", "ok", "(IIIB)Z"⟩ : MethodName) method_3_code 5 (Option.some Jvm.ClassFile.FieldType.boolean) (⟨0, 0, 0, 0⟩ : Room) #[(.int (0 : Int32)), (.int (4 : Int32)), (.int (2 : Int32)), (.int z0)] h (fun v h' => v = some (.int (1 : Int32)) ∧ h' = h) := by
  refine Met.of_wk (ls := #[.val (.int (0 : Int32)), .val (.int (4 : Int32)), .val (.int (2 : Int32)), .val (.int z0), .unset]) (plainFor_of_name pn_0) (fun m => ef_1 m (0 : Int32) (4 : Int32) (2 : Int32) z0) ?_
  show Wk l Z n0 "com/example/tallykey/tallykey/HttpSyntaxIsTextPinLaw" "ok" method_3_code 5 (Option.some Jvm.ClassFile.FieldType.boolean) (⟨0, 0, 0, 0⟩ : Room) 0 0 (fun v h' => v = some (.int (1 : Int32)) ∧ h' = h) h 0 0 0 #[.val (.int (0 : Int32)), .val (.int (4 : Int32)), .val (.int (2 : Int32)), .val (.int z0), .unset] []
  refine Wk.iloadN (q := 1) d1_0 rfl rfl ?_
  refine Wk.iloadN (q := 2) d1_1 rfl rfl ?_
  refine Wk.icmpT (q := 14) d1_2 (by decide) rfl (by decide : (0 : Int32) < (4 : Int32)) ?_
  refine Wk.iconst (q := 15) (v := (0 : Int32)) d1_14 rfl rfl ?_
  refine Wk.istore (q := 17) (ls' := #[.val (.int (0 : Int32)), .val (.int (4 : Int32)), .val (.int (2 : Int32)), .val (.int z0), .val (.int (0 : Int32))]) d1_15 rfl rfl ?_
  refine Wk.iload (q := 19) d1_17 rfl rfl ?_
  refine Wk.ifcT (q := 29) d1_19 (by decide) rfl (by decide : (0 : Int32) = (0 : Int32)) ?_
  refine Wk.iconst (q := 30) (v := (1 : Int32)) d1_29 rfl rfl ?_
  refine Wk.goto (q := 34) d1_30 (by decide) rfl ?_
  exact Wk.retZ rfl rfl d1_34 (by decide) (by decide) ⟨rfl, rfl⟩
set_option maxRecDepth 65536 in
set_option maxHeartbeats 40000000 in
theorem m_111 {l : Launch} {Z : State} {a0 : Array Value} {n0 : Nat} {h : Heap}  {a_T : Addr} {c_T : Cell} (hw : ∀ d ∈ tables_1, d.before a0 Z = true) (F : OwnF Z h  a_T c_T) {a1 : Addr} {c1 : Cell} {b0 b1 b2 b3 : Int32} (A1 : Arr Z h a1 c1 .byte) (S1 : c1.slots.size = 4) (e_0 : c1.slots[0]? = some (Value.int b0)) (e_1 : c1.slots[1]? = some (Value.int b1)) (e_2 : c1.slots[2]? = some (Value.int b2)) (e_3 : c1.slots[3]? = some (Value.int b3)) (z0 : Int32) : Met l Z n0 (⟨"com/example/tallykey/tallykey/HttpSyntaxIsTextPinLaw", "ok", "(IIIB)Z"⟩ : MethodName) method_3_code 5 (Option.some Jvm.ClassFile.FieldType.boolean) (⟨0, 0, 0, 0⟩ : Room) #[(.int (1 : Int32)), (.int (4 : Int32)), (.int (2 : Int32)), (.int z0)] h (fun v h' => v = some (.int (1 : Int32)) ∧ h' = h) := by
  refine Met.of_wk (ls := #[.val (.int (1 : Int32)), .val (.int (4 : Int32)), .val (.int (2 : Int32)), .val (.int z0), .unset]) (plainFor_of_name pn_0) (fun m => ef_1 m (1 : Int32) (4 : Int32) (2 : Int32) z0) ?_
  show Wk l Z n0 "com/example/tallykey/tallykey/HttpSyntaxIsTextPinLaw" "ok" method_3_code 5 (Option.some Jvm.ClassFile.FieldType.boolean) (⟨0, 0, 0, 0⟩ : Room) 0 0 (fun v h' => v = some (.int (1 : Int32)) ∧ h' = h) h 0 0 0 #[.val (.int (1 : Int32)), .val (.int (4 : Int32)), .val (.int (2 : Int32)), .val (.int z0), .unset] []
  refine Wk.iloadN (q := 1) d1_0 rfl rfl ?_
  refine Wk.iloadN (q := 2) d1_1 rfl rfl ?_
  refine Wk.icmpT (q := 14) d1_2 (by decide) rfl (by decide : (1 : Int32) < (4 : Int32)) ?_
  refine Wk.iconst (q := 15) (v := (0 : Int32)) d1_14 rfl rfl ?_
  refine Wk.istore (q := 17) (ls' := #[.val (.int (1 : Int32)), .val (.int (4 : Int32)), .val (.int (2 : Int32)), .val (.int z0), .val (.int (0 : Int32))]) d1_15 rfl rfl ?_
  refine Wk.iload (q := 19) d1_17 rfl rfl ?_
  refine Wk.ifcT (q := 29) d1_19 (by decide) rfl (by decide : (0 : Int32) = (0 : Int32)) ?_
  refine Wk.iconst (q := 30) (v := (1 : Int32)) d1_29 rfl rfl ?_
  refine Wk.goto (q := 34) d1_30 (by decide) rfl ?_
  exact Wk.retZ rfl rfl d1_34 (by decide) (by decide) ⟨rfl, rfl⟩
set_option maxRecDepth 65536 in
set_option maxHeartbeats 40000000 in
theorem m_112 {l : Launch} {Z : State} {a0 : Array Value} {n0 : Nat} {h : Heap}  {a_T : Addr} {c_T : Cell} (hw : ∀ d ∈ tables_1, d.before a0 Z = true) (F : OwnF Z h  a_T c_T) {a1 : Addr} {c1 : Cell} {b0 b1 b2 b3 : Int32} (A1 : Arr Z h a1 c1 .byte) (S1 : c1.slots.size = 4) (e_0 : c1.slots[0]? = some (Value.int b0)) (e_1 : c1.slots[1]? = some (Value.int b1)) (e_2 : c1.slots[2]? = some (Value.int b2)) (e_3 : c1.slots[3]? = some (Value.int b3)) (z0 : Int32) : Met l Z n0 (⟨"com/example/tallykey/tallykey/HttpSyntaxIsTextPinLaw", "ok", "(IIIB)Z"⟩ : MethodName) method_3_code 5 (Option.some Jvm.ClassFile.FieldType.boolean) (⟨0, 0, 0, 0⟩ : Room) #[(.int (2 : Int32)), (.int (4 : Int32)), (.int (2 : Int32)), (.int z0)] h (fun v h' => v = some (.int (1 : Int32)) ∧ h' = h) := by
  refine Met.of_wk (ls := #[.val (.int (2 : Int32)), .val (.int (4 : Int32)), .val (.int (2 : Int32)), .val (.int z0), .unset]) (plainFor_of_name pn_0) (fun m => ef_1 m (2 : Int32) (4 : Int32) (2 : Int32) z0) ?_
  show Wk l Z n0 "com/example/tallykey/tallykey/HttpSyntaxIsTextPinLaw" "ok" method_3_code 5 (Option.some Jvm.ClassFile.FieldType.boolean) (⟨0, 0, 0, 0⟩ : Room) 0 0 (fun v h' => v = some (.int (1 : Int32)) ∧ h' = h) h 0 0 0 #[.val (.int (2 : Int32)), .val (.int (4 : Int32)), .val (.int (2 : Int32)), .val (.int z0), .unset] []
  refine Wk.iloadN (q := 1) d1_0 rfl rfl ?_
  refine Wk.iloadN (q := 2) d1_1 rfl rfl ?_
  refine Wk.icmpT (q := 14) d1_2 (by decide) rfl (by decide : (2 : Int32) < (4 : Int32)) ?_
  refine Wk.iconst (q := 15) (v := (0 : Int32)) d1_14 rfl rfl ?_
  refine Wk.istore (q := 17) (ls' := #[.val (.int (2 : Int32)), .val (.int (4 : Int32)), .val (.int (2 : Int32)), .val (.int z0), .val (.int (0 : Int32))]) d1_15 rfl rfl ?_
  refine Wk.iload (q := 19) d1_17 rfl rfl ?_
  refine Wk.ifcT (q := 29) d1_19 (by decide) rfl (by decide : (0 : Int32) = (0 : Int32)) ?_
  refine Wk.iconst (q := 30) (v := (1 : Int32)) d1_29 rfl rfl ?_
  refine Wk.goto (q := 34) d1_30 (by decide) rfl ?_
  exact Wk.retZ rfl rfl d1_34 (by decide) (by decide) ⟨rfl, rfl⟩
set_option maxRecDepth 65536 in
set_option maxHeartbeats 40000000 in
theorem m_113 {l : Launch} {Z : State} {a0 : Array Value} {n0 : Nat} {h : Heap}  {a_T : Addr} {c_T : Cell} (hw : ∀ d ∈ tables_1, d.before a0 Z = true) (F : OwnF Z h  a_T c_T) {a1 : Addr} {c1 : Cell} {b0 b1 b2 b3 : Int32} (A1 : Arr Z h a1 c1 .byte) (S1 : c1.slots.size = 4) (e_0 : c1.slots[0]? = some (Value.int b0)) (e_1 : c1.slots[1]? = some (Value.int b1)) (e_2 : c1.slots[2]? = some (Value.int b2)) (e_3 : c1.slots[3]? = some (Value.int b3)) (z0 : Int32) : Met l Z n0 (⟨"com/example/tallykey/tallykey/HttpSyntaxIsTextPinLaw", "ok", "(IIIB)Z"⟩ : MethodName) method_3_code 5 (Option.some Jvm.ClassFile.FieldType.boolean) (⟨0, 0, 0, 0⟩ : Room) #[(.int (3 : Int32)), (.int (4 : Int32)), (.int (2 : Int32)), (.int z0)] h (fun v h' => v = some (.int (1 : Int32)) ∧ h' = h) := by
  refine Met.of_wk (ls := #[.val (.int (3 : Int32)), .val (.int (4 : Int32)), .val (.int (2 : Int32)), .val (.int z0), .unset]) (plainFor_of_name pn_0) (fun m => ef_1 m (3 : Int32) (4 : Int32) (2 : Int32) z0) ?_
  show Wk l Z n0 "com/example/tallykey/tallykey/HttpSyntaxIsTextPinLaw" "ok" method_3_code 5 (Option.some Jvm.ClassFile.FieldType.boolean) (⟨0, 0, 0, 0⟩ : Room) 0 0 (fun v h' => v = some (.int (1 : Int32)) ∧ h' = h) h 0 0 0 #[.val (.int (3 : Int32)), .val (.int (4 : Int32)), .val (.int (2 : Int32)), .val (.int z0), .unset] []
  refine Wk.iloadN (q := 1) d1_0 rfl rfl ?_
  refine Wk.iloadN (q := 2) d1_1 rfl rfl ?_
  refine Wk.icmpT (q := 14) d1_2 (by decide) rfl (by decide : (3 : Int32) < (4 : Int32)) ?_
  refine Wk.iconst (q := 15) (v := (0 : Int32)) d1_14 rfl rfl ?_
  refine Wk.istore (q := 17) (ls' := #[.val (.int (3 : Int32)), .val (.int (4 : Int32)), .val (.int (2 : Int32)), .val (.int z0), .val (.int (0 : Int32))]) d1_15 rfl rfl ?_
  refine Wk.iload (q := 19) d1_17 rfl rfl ?_
  refine Wk.ifcT (q := 29) d1_19 (by decide) rfl (by decide : (0 : Int32) = (0 : Int32)) ?_
  refine Wk.iconst (q := 30) (v := (1 : Int32)) d1_29 rfl rfl ?_
  refine Wk.goto (q := 34) d1_30 (by decide) rfl ?_
  exact Wk.retZ rfl rfl d1_34 (by decide) (by decide) ⟨rfl, rfl⟩
set_option maxRecDepth 65536 in
set_option maxHeartbeats 40000000 in
theorem m_114 {l : Launch} {Z : State} {a0 : Array Value} {n0 : Nat} {h : Heap}  {a_T : Addr} {c_T : Cell} (hw : ∀ d ∈ tables_1, d.before a0 Z = true) (F : OwnF Z h  a_T c_T) {a1 : Addr} {c1 : Cell} {b0 b1 b2 b3 : Int32} (A1 : Arr Z h a1 c1 .byte) (S1 : c1.slots.size = 4) (e_0 : c1.slots[0]? = some (Value.int b0)) (e_1 : c1.slots[1]? = some (Value.int b1)) (e_2 : c1.slots[2]? = some (Value.int b2)) (e_3 : c1.slots[3]? = some (Value.int b3)) : Met l Z n0 (⟨"com/example/tallykey/tallykey/HttpSyntax", "isText", "([BII)Z"⟩ : MethodName) prog_5_method_5_code 4 (Option.some Jvm.ClassFile.FieldType.boolean) (⟨0, 0, 0, 0⟩ : Room) #[(.ref a1), (.int (4 : Int32)), (.int (2 : Int32))] h (fun v h' => v = some (.int (1 : Int32)) ∧ h' = h) := by
  refine Met.of_wk (ls := #[.val (.ref a1), .val (.int (4 : Int32)), .val (.int (2 : Int32)), .unset]) (plainFor_of_name pn_1) (fun m => ef_2 m a1 (4 : Int32) (2 : Int32)) ?_
  show Wk l Z n0 "com/example/tallykey/tallykey/HttpSyntax" "isText" prog_5_method_5_code 4 (Option.some Jvm.ClassFile.FieldType.boolean) (⟨0, 0, 0, 0⟩ : Room) 0 0 (fun v h' => v = some (.int (1 : Int32)) ∧ h' = h) h 0 0 0 #[.val (.ref a1), .val (.int (4 : Int32)), .val (.int (2 : Int32)), .unset] []
  refine Wk.iloadN (q := 1) d3_0 rfl rfl ?_
  refine Wk.istoreN (q := 2) (ls' := #[.val (.ref a1), .val (.int (4 : Int32)), .val (.int (2 : Int32)), .val (.int (4 : Int32))]) d3_1 rfl rfl ?_
  refine Wk.iloadN (q := 3) d3_2 rfl rfl ?_
  refine Wk.iloadN (q := 4) d3_3 rfl rfl ?_
  refine Wk.icmpT (q := 29) d3_4 (by decide) rfl (by decide : ¬ (4 : Int32) < (2 : Int32)) ?_
  refine Wk.iconst (q := 30) (v := (1 : Int32)) d3_29 rfl rfl ?_
  exact Wk.retZ rfl rfl d3_30 (by decide) (by decide) ⟨rfl, rfl⟩
set_option maxRecDepth 65536 in
set_option maxHeartbeats 40000000 in
theorem m_115 {l : Launch} {Z : State} {a0 : Array Value} {n0 : Nat} {h : Heap}  {a_T : Addr} {c_T : Cell} (hw : ∀ d ∈ tables_1, d.before a0 Z = true) (F : OwnF Z h  a_T c_T) {a1 : Addr} {c1 : Cell} {b0 b1 b2 b3 : Int32} (A1 : Arr Z h a1 c1 .byte) (S1 : c1.slots.size = 4) (e_0 : c1.slots[0]? = some (Value.int b0)) (e_1 : c1.slots[1]? = some (Value.int b1)) (e_2 : c1.slots[2]? = some (Value.int b2)) (e_3 : c1.slots[3]? = some (Value.int b3)) (z0 : Int32) : Met l Z n0 (⟨"com/example/tallykey/tallykey/HttpSyntaxIsTextPinLaw", "ok", "(IIIB)Z"⟩ : MethodName) method_3_code 5 (Option.some Jvm.ClassFile.FieldType.boolean) (⟨0, 0, 0, 0⟩ : Room) #[(.int (0 : Int32)), (.int (4 : Int32)), (.int (3 : Int32)), (.int z0)] h (fun v h' => v = some (.int (1 : Int32)) ∧ h' = h) := by
  refine Met.of_wk (ls := #[.val (.int (0 : Int32)), .val (.int (4 : Int32)), .val (.int (3 : Int32)), .val (.int z0), .unset]) (plainFor_of_name pn_0) (fun m => ef_1 m (0 : Int32) (4 : Int32) (3 : Int32) z0) ?_
  show Wk l Z n0 "com/example/tallykey/tallykey/HttpSyntaxIsTextPinLaw" "ok" method_3_code 5 (Option.some Jvm.ClassFile.FieldType.boolean) (⟨0, 0, 0, 0⟩ : Room) 0 0 (fun v h' => v = some (.int (1 : Int32)) ∧ h' = h) h 0 0 0 #[.val (.int (0 : Int32)), .val (.int (4 : Int32)), .val (.int (3 : Int32)), .val (.int z0), .unset] []
  refine Wk.iloadN (q := 1) d1_0 rfl rfl ?_
  refine Wk.iloadN (q := 2) d1_1 rfl rfl ?_
  refine Wk.icmpT (q := 14) d1_2 (by decide) rfl (by decide : (0 : Int32) < (4 : Int32)) ?_
  refine Wk.iconst (q := 15) (v := (0 : Int32)) d1_14 rfl rfl ?_
  refine Wk.istore (q := 17) (ls' := #[.val (.int (0 : Int32)), .val (.int (4 : Int32)), .val (.int (3 : Int32)), .val (.int z0), .val (.int (0 : Int32))]) d1_15 rfl rfl ?_
  refine Wk.iload (q := 19) d1_17 rfl rfl ?_
  refine Wk.ifcT (q := 29) d1_19 (by decide) rfl (by decide : (0 : Int32) = (0 : Int32)) ?_
  refine Wk.iconst (q := 30) (v := (1 : Int32)) d1_29 rfl rfl ?_
  refine Wk.goto (q := 34) d1_30 (by decide) rfl ?_
  exact Wk.retZ rfl rfl d1_34 (by decide) (by decide) ⟨rfl, rfl⟩
set_option maxRecDepth 65536 in
set_option maxHeartbeats 40000000 in
theorem m_116 {l : Launch} {Z : State} {a0 : Array Value} {n0 : Nat} {h : Heap}  {a_T : Addr} {c_T : Cell} (hw : ∀ d ∈ tables_1, d.before a0 Z = true) (F : OwnF Z h  a_T c_T) {a1 : Addr} {c1 : Cell} {b0 b1 b2 b3 : Int32} (A1 : Arr Z h a1 c1 .byte) (S1 : c1.slots.size = 4) (e_0 : c1.slots[0]? = some (Value.int b0)) (e_1 : c1.slots[1]? = some (Value.int b1)) (e_2 : c1.slots[2]? = some (Value.int b2)) (e_3 : c1.slots[3]? = some (Value.int b3)) (z0 : Int32) : Met l Z n0 (⟨"com/example/tallykey/tallykey/HttpSyntaxIsTextPinLaw", "ok", "(IIIB)Z"⟩ : MethodName) method_3_code 5 (Option.some Jvm.ClassFile.FieldType.boolean) (⟨0, 0, 0, 0⟩ : Room) #[(.int (1 : Int32)), (.int (4 : Int32)), (.int (3 : Int32)), (.int z0)] h (fun v h' => v = some (.int (1 : Int32)) ∧ h' = h) := by
  refine Met.of_wk (ls := #[.val (.int (1 : Int32)), .val (.int (4 : Int32)), .val (.int (3 : Int32)), .val (.int z0), .unset]) (plainFor_of_name pn_0) (fun m => ef_1 m (1 : Int32) (4 : Int32) (3 : Int32) z0) ?_
  show Wk l Z n0 "com/example/tallykey/tallykey/HttpSyntaxIsTextPinLaw" "ok" method_3_code 5 (Option.some Jvm.ClassFile.FieldType.boolean) (⟨0, 0, 0, 0⟩ : Room) 0 0 (fun v h' => v = some (.int (1 : Int32)) ∧ h' = h) h 0 0 0 #[.val (.int (1 : Int32)), .val (.int (4 : Int32)), .val (.int (3 : Int32)), .val (.int z0), .unset] []
  refine Wk.iloadN (q := 1) d1_0 rfl rfl ?_
  refine Wk.iloadN (q := 2) d1_1 rfl rfl ?_
  refine Wk.icmpT (q := 14) d1_2 (by decide) rfl (by decide : (1 : Int32) < (4 : Int32)) ?_
  refine Wk.iconst (q := 15) (v := (0 : Int32)) d1_14 rfl rfl ?_
  refine Wk.istore (q := 17) (ls' := #[.val (.int (1 : Int32)), .val (.int (4 : Int32)), .val (.int (3 : Int32)), .val (.int z0), .val (.int (0 : Int32))]) d1_15 rfl rfl ?_
  refine Wk.iload (q := 19) d1_17 rfl rfl ?_
  refine Wk.ifcT (q := 29) d1_19 (by decide) rfl (by decide : (0 : Int32) = (0 : Int32)) ?_
  refine Wk.iconst (q := 30) (v := (1 : Int32)) d1_29 rfl rfl ?_
  refine Wk.goto (q := 34) d1_30 (by decide) rfl ?_
  exact Wk.retZ rfl rfl d1_34 (by decide) (by decide) ⟨rfl, rfl⟩
set_option maxRecDepth 65536 in
set_option maxHeartbeats 40000000 in
theorem m_117 {l : Launch} {Z : State} {a0 : Array Value} {n0 : Nat} {h : Heap}  {a_T : Addr} {c_T : Cell} (hw : ∀ d ∈ tables_1, d.before a0 Z = true) (F : OwnF Z h  a_T c_T) {a1 : Addr} {c1 : Cell} {b0 b1 b2 b3 : Int32} (A1 : Arr Z h a1 c1 .byte) (S1 : c1.slots.size = 4) (e_0 : c1.slots[0]? = some (Value.int b0)) (e_1 : c1.slots[1]? = some (Value.int b1)) (e_2 : c1.slots[2]? = some (Value.int b2)) (e_3 : c1.slots[3]? = some (Value.int b3)) (z0 : Int32) : Met l Z n0 (⟨"com/example/tallykey/tallykey/HttpSyntaxIsTextPinLaw", "ok", "(IIIB)Z"⟩ : MethodName) method_3_code 5 (Option.some Jvm.ClassFile.FieldType.boolean) (⟨0, 0, 0, 0⟩ : Room) #[(.int (2 : Int32)), (.int (4 : Int32)), (.int (3 : Int32)), (.int z0)] h (fun v h' => v = some (.int (1 : Int32)) ∧ h' = h) := by
  refine Met.of_wk (ls := #[.val (.int (2 : Int32)), .val (.int (4 : Int32)), .val (.int (3 : Int32)), .val (.int z0), .unset]) (plainFor_of_name pn_0) (fun m => ef_1 m (2 : Int32) (4 : Int32) (3 : Int32) z0) ?_
  show Wk l Z n0 "com/example/tallykey/tallykey/HttpSyntaxIsTextPinLaw" "ok" method_3_code 5 (Option.some Jvm.ClassFile.FieldType.boolean) (⟨0, 0, 0, 0⟩ : Room) 0 0 (fun v h' => v = some (.int (1 : Int32)) ∧ h' = h) h 0 0 0 #[.val (.int (2 : Int32)), .val (.int (4 : Int32)), .val (.int (3 : Int32)), .val (.int z0), .unset] []
  refine Wk.iloadN (q := 1) d1_0 rfl rfl ?_
  refine Wk.iloadN (q := 2) d1_1 rfl rfl ?_
  refine Wk.icmpT (q := 14) d1_2 (by decide) rfl (by decide : (2 : Int32) < (4 : Int32)) ?_
  refine Wk.iconst (q := 15) (v := (0 : Int32)) d1_14 rfl rfl ?_
  refine Wk.istore (q := 17) (ls' := #[.val (.int (2 : Int32)), .val (.int (4 : Int32)), .val (.int (3 : Int32)), .val (.int z0), .val (.int (0 : Int32))]) d1_15 rfl rfl ?_
  refine Wk.iload (q := 19) d1_17 rfl rfl ?_
  refine Wk.ifcT (q := 29) d1_19 (by decide) rfl (by decide : (0 : Int32) = (0 : Int32)) ?_
  refine Wk.iconst (q := 30) (v := (1 : Int32)) d1_29 rfl rfl ?_
  refine Wk.goto (q := 34) d1_30 (by decide) rfl ?_
  exact Wk.retZ rfl rfl d1_34 (by decide) (by decide) ⟨rfl, rfl⟩
set_option maxRecDepth 65536 in
set_option maxHeartbeats 40000000 in
theorem m_118 {l : Launch} {Z : State} {a0 : Array Value} {n0 : Nat} {h : Heap}  {a_T : Addr} {c_T : Cell} (hw : ∀ d ∈ tables_1, d.before a0 Z = true) (F : OwnF Z h  a_T c_T) {a1 : Addr} {c1 : Cell} {b0 b1 b2 b3 : Int32} (A1 : Arr Z h a1 c1 .byte) (S1 : c1.slots.size = 4) (e_0 : c1.slots[0]? = some (Value.int b0)) (e_1 : c1.slots[1]? = some (Value.int b1)) (e_2 : c1.slots[2]? = some (Value.int b2)) (e_3 : c1.slots[3]? = some (Value.int b3)) (z0 : Int32) : Met l Z n0 (⟨"com/example/tallykey/tallykey/HttpSyntaxIsTextPinLaw", "ok", "(IIIB)Z"⟩ : MethodName) method_3_code 5 (Option.some Jvm.ClassFile.FieldType.boolean) (⟨0, 0, 0, 0⟩ : Room) #[(.int (3 : Int32)), (.int (4 : Int32)), (.int (3 : Int32)), (.int z0)] h (fun v h' => v = some (.int (1 : Int32)) ∧ h' = h) := by
  refine Met.of_wk (ls := #[.val (.int (3 : Int32)), .val (.int (4 : Int32)), .val (.int (3 : Int32)), .val (.int z0), .unset]) (plainFor_of_name pn_0) (fun m => ef_1 m (3 : Int32) (4 : Int32) (3 : Int32) z0) ?_
  show Wk l Z n0 "com/example/tallykey/tallykey/HttpSyntaxIsTextPinLaw" "ok" method_3_code 5 (Option.some Jvm.ClassFile.FieldType.boolean) (⟨0, 0, 0, 0⟩ : Room) 0 0 (fun v h' => v = some (.int (1 : Int32)) ∧ h' = h) h 0 0 0 #[.val (.int (3 : Int32)), .val (.int (4 : Int32)), .val (.int (3 : Int32)), .val (.int z0), .unset] []
  refine Wk.iloadN (q := 1) d1_0 rfl rfl ?_
  refine Wk.iloadN (q := 2) d1_1 rfl rfl ?_
  refine Wk.icmpT (q := 14) d1_2 (by decide) rfl (by decide : (3 : Int32) < (4 : Int32)) ?_
  refine Wk.iconst (q := 15) (v := (0 : Int32)) d1_14 rfl rfl ?_
  refine Wk.istore (q := 17) (ls' := #[.val (.int (3 : Int32)), .val (.int (4 : Int32)), .val (.int (3 : Int32)), .val (.int z0), .val (.int (0 : Int32))]) d1_15 rfl rfl ?_
  refine Wk.iload (q := 19) d1_17 rfl rfl ?_
  refine Wk.ifcT (q := 29) d1_19 (by decide) rfl (by decide : (0 : Int32) = (0 : Int32)) ?_
  refine Wk.iconst (q := 30) (v := (1 : Int32)) d1_29 rfl rfl ?_
  refine Wk.goto (q := 34) d1_30 (by decide) rfl ?_
  exact Wk.retZ rfl rfl d1_34 (by decide) (by decide) ⟨rfl, rfl⟩
set_option maxRecDepth 65536 in
set_option maxHeartbeats 40000000 in
theorem m_119 {l : Launch} {Z : State} {a0 : Array Value} {n0 : Nat} {h : Heap}  {a_T : Addr} {c_T : Cell} (hw : ∀ d ∈ tables_1, d.before a0 Z = true) (F : OwnF Z h  a_T c_T) {a1 : Addr} {c1 : Cell} {b0 b1 b2 b3 : Int32} (A1 : Arr Z h a1 c1 .byte) (S1 : c1.slots.size = 4) (e_0 : c1.slots[0]? = some (Value.int b0)) (e_1 : c1.slots[1]? = some (Value.int b1)) (e_2 : c1.slots[2]? = some (Value.int b2)) (e_3 : c1.slots[3]? = some (Value.int b3)) : Met l Z n0 (⟨"com/example/tallykey/tallykey/HttpSyntax", "isText", "([BII)Z"⟩ : MethodName) prog_5_method_5_code 4 (Option.some Jvm.ClassFile.FieldType.boolean) (⟨0, 0, 0, 0⟩ : Room) #[(.ref a1), (.int (4 : Int32)), (.int (3 : Int32))] h (fun v h' => v = some (.int (1 : Int32)) ∧ h' = h) := by
  refine Met.of_wk (ls := #[.val (.ref a1), .val (.int (4 : Int32)), .val (.int (3 : Int32)), .unset]) (plainFor_of_name pn_1) (fun m => ef_2 m a1 (4 : Int32) (3 : Int32)) ?_
  show Wk l Z n0 "com/example/tallykey/tallykey/HttpSyntax" "isText" prog_5_method_5_code 4 (Option.some Jvm.ClassFile.FieldType.boolean) (⟨0, 0, 0, 0⟩ : Room) 0 0 (fun v h' => v = some (.int (1 : Int32)) ∧ h' = h) h 0 0 0 #[.val (.ref a1), .val (.int (4 : Int32)), .val (.int (3 : Int32)), .unset] []
  refine Wk.iloadN (q := 1) d3_0 rfl rfl ?_
  refine Wk.istoreN (q := 2) (ls' := #[.val (.ref a1), .val (.int (4 : Int32)), .val (.int (3 : Int32)), .val (.int (4 : Int32))]) d3_1 rfl rfl ?_
  refine Wk.iloadN (q := 3) d3_2 rfl rfl ?_
  refine Wk.iloadN (q := 4) d3_3 rfl rfl ?_
  refine Wk.icmpT (q := 29) d3_4 (by decide) rfl (by decide : ¬ (4 : Int32) < (3 : Int32)) ?_
  refine Wk.iconst (q := 30) (v := (1 : Int32)) d3_29 rfl rfl ?_
  exact Wk.retZ rfl rfl d3_30 (by decide) (by decide) ⟨rfl, rfl⟩
set_option maxRecDepth 65536 in
set_option maxHeartbeats 40000000 in
theorem m_120 {l : Launch} {Z : State} {a0 : Array Value} {n0 : Nat} {h : Heap}  {a_T : Addr} {c_T : Cell} (hw : ∀ d ∈ tables_1, d.before a0 Z = true) (F : OwnF Z h  a_T c_T) {a1 : Addr} {c1 : Cell} {b0 b1 b2 b3 : Int32} (A1 : Arr Z h a1 c1 .byte) (S1 : c1.slots.size = 4) (e_0 : c1.slots[0]? = some (Value.int b0)) (e_1 : c1.slots[1]? = some (Value.int b1)) (e_2 : c1.slots[2]? = some (Value.int b2)) (e_3 : c1.slots[3]? = some (Value.int b3)) (z0 : Int32) : Met l Z n0 (⟨"com/example/tallykey/tallykey/HttpSyntaxIsTextPinLaw", "ok", "(IIIB)Z"⟩ : MethodName) method_3_code 5 (Option.some Jvm.ClassFile.FieldType.boolean) (⟨0, 0, 0, 0⟩ : Room) #[(.int (0 : Int32)), (.int (4 : Int32)), (.int (4 : Int32)), (.int z0)] h (fun v h' => v = some (.int (1 : Int32)) ∧ h' = h) := by
  refine Met.of_wk (ls := #[.val (.int (0 : Int32)), .val (.int (4 : Int32)), .val (.int (4 : Int32)), .val (.int z0), .unset]) (plainFor_of_name pn_0) (fun m => ef_1 m (0 : Int32) (4 : Int32) (4 : Int32) z0) ?_
  show Wk l Z n0 "com/example/tallykey/tallykey/HttpSyntaxIsTextPinLaw" "ok" method_3_code 5 (Option.some Jvm.ClassFile.FieldType.boolean) (⟨0, 0, 0, 0⟩ : Room) 0 0 (fun v h' => v = some (.int (1 : Int32)) ∧ h' = h) h 0 0 0 #[.val (.int (0 : Int32)), .val (.int (4 : Int32)), .val (.int (4 : Int32)), .val (.int z0), .unset] []
  refine Wk.iloadN (q := 1) d1_0 rfl rfl ?_
  refine Wk.iloadN (q := 2) d1_1 rfl rfl ?_
  refine Wk.icmpT (q := 14) d1_2 (by decide) rfl (by decide : (0 : Int32) < (4 : Int32)) ?_
  refine Wk.iconst (q := 15) (v := (0 : Int32)) d1_14 rfl rfl ?_
  refine Wk.istore (q := 17) (ls' := #[.val (.int (0 : Int32)), .val (.int (4 : Int32)), .val (.int (4 : Int32)), .val (.int z0), .val (.int (0 : Int32))]) d1_15 rfl rfl ?_
  refine Wk.iload (q := 19) d1_17 rfl rfl ?_
  refine Wk.ifcT (q := 29) d1_19 (by decide) rfl (by decide : (0 : Int32) = (0 : Int32)) ?_
  refine Wk.iconst (q := 30) (v := (1 : Int32)) d1_29 rfl rfl ?_
  refine Wk.goto (q := 34) d1_30 (by decide) rfl ?_
  exact Wk.retZ rfl rfl d1_34 (by decide) (by decide) ⟨rfl, rfl⟩
set_option maxRecDepth 65536 in
set_option maxHeartbeats 40000000 in
theorem m_121 {l : Launch} {Z : State} {a0 : Array Value} {n0 : Nat} {h : Heap}  {a_T : Addr} {c_T : Cell} (hw : ∀ d ∈ tables_1, d.before a0 Z = true) (F : OwnF Z h  a_T c_T) {a1 : Addr} {c1 : Cell} {b0 b1 b2 b3 : Int32} (A1 : Arr Z h a1 c1 .byte) (S1 : c1.slots.size = 4) (e_0 : c1.slots[0]? = some (Value.int b0)) (e_1 : c1.slots[1]? = some (Value.int b1)) (e_2 : c1.slots[2]? = some (Value.int b2)) (e_3 : c1.slots[3]? = some (Value.int b3)) (z0 : Int32) : Met l Z n0 (⟨"com/example/tallykey/tallykey/HttpSyntaxIsTextPinLaw", "ok", "(IIIB)Z"⟩ : MethodName) method_3_code 5 (Option.some Jvm.ClassFile.FieldType.boolean) (⟨0, 0, 0, 0⟩ : Room) #[(.int (1 : Int32)), (.int (4 : Int32)), (.int (4 : Int32)), (.int z0)] h (fun v h' => v = some (.int (1 : Int32)) ∧ h' = h) := by
  refine Met.of_wk (ls := #[.val (.int (1 : Int32)), .val (.int (4 : Int32)), .val (.int (4 : Int32)), .val (.int z0), .unset]) (plainFor_of_name pn_0) (fun m => ef_1 m (1 : Int32) (4 : Int32) (4 : Int32) z0) ?_
  show Wk l Z n0 "com/example/tallykey/tallykey/HttpSyntaxIsTextPinLaw" "ok" method_3_code 5 (Option.some Jvm.ClassFile.FieldType.boolean) (⟨0, 0, 0, 0⟩ : Room) 0 0 (fun v h' => v = some (.int (1 : Int32)) ∧ h' = h) h 0 0 0 #[.val (.int (1 : Int32)), .val (.int (4 : Int32)), .val (.int (4 : Int32)), .val (.int z0), .unset] []
  refine Wk.iloadN (q := 1) d1_0 rfl rfl ?_
  refine Wk.iloadN (q := 2) d1_1 rfl rfl ?_
  refine Wk.icmpT (q := 14) d1_2 (by decide) rfl (by decide : (1 : Int32) < (4 : Int32)) ?_
  refine Wk.iconst (q := 15) (v := (0 : Int32)) d1_14 rfl rfl ?_
  refine Wk.istore (q := 17) (ls' := #[.val (.int (1 : Int32)), .val (.int (4 : Int32)), .val (.int (4 : Int32)), .val (.int z0), .val (.int (0 : Int32))]) d1_15 rfl rfl ?_
  refine Wk.iload (q := 19) d1_17 rfl rfl ?_
  refine Wk.ifcT (q := 29) d1_19 (by decide) rfl (by decide : (0 : Int32) = (0 : Int32)) ?_
  refine Wk.iconst (q := 30) (v := (1 : Int32)) d1_29 rfl rfl ?_
  refine Wk.goto (q := 34) d1_30 (by decide) rfl ?_
  exact Wk.retZ rfl rfl d1_34 (by decide) (by decide) ⟨rfl, rfl⟩
set_option maxRecDepth 65536 in
set_option maxHeartbeats 40000000 in
theorem m_122 {l : Launch} {Z : State} {a0 : Array Value} {n0 : Nat} {h : Heap}  {a_T : Addr} {c_T : Cell} (hw : ∀ d ∈ tables_1, d.before a0 Z = true) (F : OwnF Z h  a_T c_T) {a1 : Addr} {c1 : Cell} {b0 b1 b2 b3 : Int32} (A1 : Arr Z h a1 c1 .byte) (S1 : c1.slots.size = 4) (e_0 : c1.slots[0]? = some (Value.int b0)) (e_1 : c1.slots[1]? = some (Value.int b1)) (e_2 : c1.slots[2]? = some (Value.int b2)) (e_3 : c1.slots[3]? = some (Value.int b3)) (z0 : Int32) : Met l Z n0 (⟨"com/example/tallykey/tallykey/HttpSyntaxIsTextPinLaw", "ok", "(IIIB)Z"⟩ : MethodName) method_3_code 5 (Option.some Jvm.ClassFile.FieldType.boolean) (⟨0, 0, 0, 0⟩ : Room) #[(.int (2 : Int32)), (.int (4 : Int32)), (.int (4 : Int32)), (.int z0)] h (fun v h' => v = some (.int (1 : Int32)) ∧ h' = h) := by
  refine Met.of_wk (ls := #[.val (.int (2 : Int32)), .val (.int (4 : Int32)), .val (.int (4 : Int32)), .val (.int z0), .unset]) (plainFor_of_name pn_0) (fun m => ef_1 m (2 : Int32) (4 : Int32) (4 : Int32) z0) ?_
  show Wk l Z n0 "com/example/tallykey/tallykey/HttpSyntaxIsTextPinLaw" "ok" method_3_code 5 (Option.some Jvm.ClassFile.FieldType.boolean) (⟨0, 0, 0, 0⟩ : Room) 0 0 (fun v h' => v = some (.int (1 : Int32)) ∧ h' = h) h 0 0 0 #[.val (.int (2 : Int32)), .val (.int (4 : Int32)), .val (.int (4 : Int32)), .val (.int z0), .unset] []
  refine Wk.iloadN (q := 1) d1_0 rfl rfl ?_
  refine Wk.iloadN (q := 2) d1_1 rfl rfl ?_
  refine Wk.icmpT (q := 14) d1_2 (by decide) rfl (by decide : (2 : Int32) < (4 : Int32)) ?_
  refine Wk.iconst (q := 15) (v := (0 : Int32)) d1_14 rfl rfl ?_
  refine Wk.istore (q := 17) (ls' := #[.val (.int (2 : Int32)), .val (.int (4 : Int32)), .val (.int (4 : Int32)), .val (.int z0), .val (.int (0 : Int32))]) d1_15 rfl rfl ?_
  refine Wk.iload (q := 19) d1_17 rfl rfl ?_
  refine Wk.ifcT (q := 29) d1_19 (by decide) rfl (by decide : (0 : Int32) = (0 : Int32)) ?_
  refine Wk.iconst (q := 30) (v := (1 : Int32)) d1_29 rfl rfl ?_
  refine Wk.goto (q := 34) d1_30 (by decide) rfl ?_
  exact Wk.retZ rfl rfl d1_34 (by decide) (by decide) ⟨rfl, rfl⟩
set_option maxRecDepth 65536 in
set_option maxHeartbeats 40000000 in
theorem m_123 {l : Launch} {Z : State} {a0 : Array Value} {n0 : Nat} {h : Heap}  {a_T : Addr} {c_T : Cell} (hw : ∀ d ∈ tables_1, d.before a0 Z = true) (F : OwnF Z h  a_T c_T) {a1 : Addr} {c1 : Cell} {b0 b1 b2 b3 : Int32} (A1 : Arr Z h a1 c1 .byte) (S1 : c1.slots.size = 4) (e_0 : c1.slots[0]? = some (Value.int b0)) (e_1 : c1.slots[1]? = some (Value.int b1)) (e_2 : c1.slots[2]? = some (Value.int b2)) (e_3 : c1.slots[3]? = some (Value.int b3)) (z0 : Int32) : Met l Z n0 (⟨"com/example/tallykey/tallykey/HttpSyntaxIsTextPinLaw", "ok", "(IIIB)Z"⟩ : MethodName) method_3_code 5 (Option.some Jvm.ClassFile.FieldType.boolean) (⟨0, 0, 0, 0⟩ : Room) #[(.int (3 : Int32)), (.int (4 : Int32)), (.int (4 : Int32)), (.int z0)] h (fun v h' => v = some (.int (1 : Int32)) ∧ h' = h) := by
  refine Met.of_wk (ls := #[.val (.int (3 : Int32)), .val (.int (4 : Int32)), .val (.int (4 : Int32)), .val (.int z0), .unset]) (plainFor_of_name pn_0) (fun m => ef_1 m (3 : Int32) (4 : Int32) (4 : Int32) z0) ?_
  show Wk l Z n0 "com/example/tallykey/tallykey/HttpSyntaxIsTextPinLaw" "ok" method_3_code 5 (Option.some Jvm.ClassFile.FieldType.boolean) (⟨0, 0, 0, 0⟩ : Room) 0 0 (fun v h' => v = some (.int (1 : Int32)) ∧ h' = h) h 0 0 0 #[.val (.int (3 : Int32)), .val (.int (4 : Int32)), .val (.int (4 : Int32)), .val (.int z0), .unset] []
  refine Wk.iloadN (q := 1) d1_0 rfl rfl ?_
  refine Wk.iloadN (q := 2) d1_1 rfl rfl ?_
  refine Wk.icmpT (q := 14) d1_2 (by decide) rfl (by decide : (3 : Int32) < (4 : Int32)) ?_
  refine Wk.iconst (q := 15) (v := (0 : Int32)) d1_14 rfl rfl ?_
  refine Wk.istore (q := 17) (ls' := #[.val (.int (3 : Int32)), .val (.int (4 : Int32)), .val (.int (4 : Int32)), .val (.int z0), .val (.int (0 : Int32))]) d1_15 rfl rfl ?_
  refine Wk.iload (q := 19) d1_17 rfl rfl ?_
  refine Wk.ifcT (q := 29) d1_19 (by decide) rfl (by decide : (0 : Int32) = (0 : Int32)) ?_
  refine Wk.iconst (q := 30) (v := (1 : Int32)) d1_29 rfl rfl ?_
  refine Wk.goto (q := 34) d1_30 (by decide) rfl ?_
  exact Wk.retZ rfl rfl d1_34 (by decide) (by decide) ⟨rfl, rfl⟩
set_option maxRecDepth 65536 in
set_option maxHeartbeats 40000000 in
theorem m_124 {l : Launch} {Z : State} {a0 : Array Value} {n0 : Nat} {h : Heap}  {a_T : Addr} {c_T : Cell} (hw : ∀ d ∈ tables_1, d.before a0 Z = true) (F : OwnF Z h  a_T c_T) {a1 : Addr} {c1 : Cell} {b0 b1 b2 b3 : Int32} (A1 : Arr Z h a1 c1 .byte) (S1 : c1.slots.size = 4) (e_0 : c1.slots[0]? = some (Value.int b0)) (e_1 : c1.slots[1]? = some (Value.int b1)) (e_2 : c1.slots[2]? = some (Value.int b2)) (e_3 : c1.slots[3]? = some (Value.int b3)) : Met l Z n0 (⟨"com/example/tallykey/tallykey/HttpSyntax", "isText", "([BII)Z"⟩ : MethodName) prog_5_method_5_code 4 (Option.some Jvm.ClassFile.FieldType.boolean) (⟨0, 0, 0, 0⟩ : Room) #[(.ref a1), (.int (4 : Int32)), (.int (4 : Int32))] h (fun v h' => v = some (.int (1 : Int32)) ∧ h' = h) := by
  refine Met.of_wk (ls := #[.val (.ref a1), .val (.int (4 : Int32)), .val (.int (4 : Int32)), .unset]) (plainFor_of_name pn_1) (fun m => ef_2 m a1 (4 : Int32) (4 : Int32)) ?_
  show Wk l Z n0 "com/example/tallykey/tallykey/HttpSyntax" "isText" prog_5_method_5_code 4 (Option.some Jvm.ClassFile.FieldType.boolean) (⟨0, 0, 0, 0⟩ : Room) 0 0 (fun v h' => v = some (.int (1 : Int32)) ∧ h' = h) h 0 0 0 #[.val (.ref a1), .val (.int (4 : Int32)), .val (.int (4 : Int32)), .unset] []
  refine Wk.iloadN (q := 1) d3_0 rfl rfl ?_
  refine Wk.istoreN (q := 2) (ls' := #[.val (.ref a1), .val (.int (4 : Int32)), .val (.int (4 : Int32)), .val (.int (4 : Int32))]) d3_1 rfl rfl ?_
  refine Wk.iloadN (q := 3) d3_2 rfl rfl ?_
  refine Wk.iloadN (q := 4) d3_3 rfl rfl ?_
  refine Wk.icmpT (q := 29) d3_4 (by decide) rfl (by decide : ¬ (4 : Int32) < (4 : Int32)) ?_
  refine Wk.iconst (q := 30) (v := (1 : Int32)) d3_29 rfl rfl ?_
  exact Wk.retZ rfl rfl d3_30 (by decide) (by decide) ⟨rfl, rfl⟩
set_option maxRecDepth 65536 in
set_option maxHeartbeats 40000000 in
theorem law_tail_0_0 {l : Launch} {Z : State} {a0 : Array Value} {n0 : Nat} {h : Heap}  {a_T : Addr} {c_T : Cell} (hw : ∀ d ∈ tables_1, d.before a0 Z = true) (F : OwnF Z h  a_T c_T) {a1 : Addr} {c1 : Cell} {b0 b1 b2 b3 : Int32} (A1 : Arr Z h a1 c1 .byte) (S1 : c1.slots.size = 4) (e_0 : c1.slots[0]? = some (Value.int b0)) (e_1 : c1.slots[1]? = some (Value.int b1)) (e_2 : c1.slots[2]? = some (Value.int b2)) (e_3 : c1.slots[3]? = some (Value.int b3)) (p0 p1 p2 p3 p4 p5 : Int32) (k_s : ((p4 &&& (2147483647 : Int32)) % (5 : Int32)) = (0 : Int32)) (k_e : ((p5 &&& (2147483647 : Int32)) % (5 : Int32)) = (0 : Int32)) : Wk l Z n0 "com/example/tallykey/tallykey/HttpSyntaxIsTextPinLaw" "law" code maxLocals ret room_1 16 128 (fun v _ => v = some (.int (1 : Int32))) h 1 4 29 #[.val (.int p0), .val (.int p1), .val (.int p2), .val (.int p3), .val (.int p4), .val (.int p5), .val (.ref a1), .unset, .unset, .unset] [] := by
  refine Wk.iload (q := 31) at_29 rfl rfl ?_
  refine Wk.ldcI (q := 33) (w_1 hw) at_31 rfl ?_
  refine Wk.iand (q := 34) (v := (p4 &&& (2147483647 : Int32))) at_33 rfl rfl ?_
  refine Wk.iconst (q := 35) (v := (5 : Int32)) at_34 rfl rfl ?_
  refine Wk.irem (q := 36) (v := (0 : Int32)) at_35 rfl (by decide) k_s ?_
  refine Wk.istore (q := 38) (ls' := #[.val (.int p0), .val (.int p1), .val (.int p2), .val (.int p3), .val (.int p4), .val (.int p5), .val (.ref a1), .val (.int (0 : Int32)), .unset, .unset]) at_36 rfl rfl ?_
  refine Wk.iload (q := 40) at_38 rfl rfl ?_
  refine Wk.ldcI (q := 42) (w_1 hw) at_40 rfl ?_
  refine Wk.iand (q := 43) (v := (p5 &&& (2147483647 : Int32))) at_42 rfl rfl ?_
  refine Wk.iconst (q := 44) (v := (5 : Int32)) at_43 rfl rfl ?_
  refine Wk.irem (q := 45) (v := (0 : Int32)) at_44 rfl (by decide) k_e ?_
  refine Wk.istore (q := 47) (ls' := #[.val (.int p0), .val (.int p1), .val (.int p2), .val (.int p3), .val (.int p4), .val (.int p5), .val (.ref a1), .val (.int (0 : Int32)), .val (.int (0 : Int32)), .unset]) at_45 rfl rfl ?_
  refine Wk.iconst (q := 48) (v := (0 : Int32)) at_47 rfl rfl ?_
  refine Wk.iload (q := 50) at_48 rfl rfl ?_
  refine Wk.iload (q := 52) at_50 rfl rfl ?_
  refine Wk.aload (q := 54) at_52 rfl rfl rfl ?_
  refine Wk.iconst (q := 55) (v := (0 : Int32)) at_54 rfl rfl ?_
  refine Wk.baloadB (q := 56) A1 (by rw [S1]; decide) e_0 at_55 rfl ?_
  refine Wk.callS1 (q := 59) (argsL := [(.int (0 : Int32)), (.int (0 : Int32)), (.int (0 : Int32)), (.int b0)]) (rest := []) (fr := 0) (lo := 0) (v0 := (.int (1 : Int32))) (m_0 hw F A1 S1 e_0 e_1 e_2 e_3 b0) (w_2 hw) (w_3 hw) (w_4 hw) (w_5 hw) (by decide) pd_0 rfl rfl rfl at_56 rfl (W := 0) rfl (by decide) (by decide) (by decide) (by decide) ?_
  refine Wk.ifcF (q := 62) at_59 rfl (by decide : ¬ (1 : Int32) = (0 : Int32)) ?_
  refine Wk.iconst (q := 63) (v := (1 : Int32)) at_62 rfl rfl ?_
  refine Wk.iload (q := 65) at_63 rfl rfl ?_
  refine Wk.iload (q := 67) at_65 rfl rfl ?_
  refine Wk.aload (q := 69) at_67 rfl rfl rfl ?_
  refine Wk.iconst (q := 70) (v := (1 : Int32)) at_69 rfl rfl ?_
  refine Wk.baloadB (q := 71) A1 (by rw [S1]; decide) e_1 at_70 rfl ?_
  refine Wk.callS1 (q := 74) (argsL := [(.int (1 : Int32)), (.int (0 : Int32)), (.int (0 : Int32)), (.int b1)]) (rest := []) (fr := 0) (lo := 0) (v0 := (.int (1 : Int32))) (m_1 hw F A1 S1 e_0 e_1 e_2 e_3 b1) (w_2 hw) (w_3 hw) (w_4 hw) (w_5 hw) (by decide) pd_0 rfl rfl rfl at_71 rfl (W := 0) rfl (by decide) (by decide) (by decide) (by decide) ?_
  refine Wk.ifcF (q := 77) at_74 rfl (by decide : ¬ (1 : Int32) = (0 : Int32)) ?_
  refine Wk.iconst (q := 78) (v := (2 : Int32)) at_77 rfl rfl ?_
  refine Wk.iload (q := 80) at_78 rfl rfl ?_
  refine Wk.iload (q := 82) at_80 rfl rfl ?_
  refine Wk.aload (q := 84) at_82 rfl rfl rfl ?_
  refine Wk.iconst (q := 85) (v := (2 : Int32)) at_84 rfl rfl ?_
  refine Wk.baloadB (q := 86) A1 (by rw [S1]; decide) e_2 at_85 rfl ?_
  refine Wk.callS1 (q := 89) (argsL := [(.int (2 : Int32)), (.int (0 : Int32)), (.int (0 : Int32)), (.int b2)]) (rest := []) (fr := 0) (lo := 0) (v0 := (.int (1 : Int32))) (m_2 hw F A1 S1 e_0 e_1 e_2 e_3 b2) (w_2 hw) (w_3 hw) (w_4 hw) (w_5 hw) (by decide) pd_0 rfl rfl rfl at_86 rfl (W := 0) rfl (by decide) (by decide) (by decide) (by decide) ?_
  refine Wk.ifcF (q := 92) at_89 rfl (by decide : ¬ (1 : Int32) = (0 : Int32)) ?_
  refine Wk.iconst (q := 93) (v := (3 : Int32)) at_92 rfl rfl ?_
  refine Wk.iload (q := 95) at_93 rfl rfl ?_
  refine Wk.iload (q := 97) at_95 rfl rfl ?_
  refine Wk.aload (q := 99) at_97 rfl rfl rfl ?_
  refine Wk.iconst (q := 100) (v := (3 : Int32)) at_99 rfl rfl ?_
  refine Wk.baloadB (q := 101) A1 (by rw [S1]; decide) e_3 at_100 rfl ?_
  refine Wk.callS1 (q := 104) (argsL := [(.int (3 : Int32)), (.int (0 : Int32)), (.int (0 : Int32)), (.int b3)]) (rest := []) (fr := 0) (lo := 0) (v0 := (.int (1 : Int32))) (m_3 hw F A1 S1 e_0 e_1 e_2 e_3 b3) (w_2 hw) (w_3 hw) (w_4 hw) (w_5 hw) (by decide) pd_0 rfl rfl rfl at_101 rfl (W := 0) rfl (by decide) (by decide) (by decide) (by decide) ?_
  refine Wk.ifcF (q := 107) at_104 rfl (by decide : ¬ (1 : Int32) = (0 : Int32)) ?_
  refine Wk.iconst (q := 108) (v := (1 : Int32)) at_107 rfl rfl ?_
  refine Wk.goto (q := 112) at_108 (by decide) rfl ?_
  refine Wk.istore (q := 114) (ls' := #[.val (.int p0), .val (.int p1), .val (.int p2), .val (.int p3), .val (.int p4), .val (.int p5), .val (.ref a1), .val (.int (0 : Int32)), .val (.int (0 : Int32)), .val (.int (1 : Int32))]) at_112 rfl rfl ?_
  refine Wk.aload (q := 116) at_114 rfl rfl rfl ?_
  refine Wk.iload (q := 118) at_116 rfl rfl ?_
  refine Wk.iload (q := 120) at_118 rfl rfl ?_
  refine Wk.callS1 (q := 123) (argsL := [(.ref a1), (.int (0 : Int32)), (.int (0 : Int32))]) (rest := []) (fr := 0) (lo := 0) (v0 := (.int (1 : Int32))) (m_4 hw F A1 S1 e_0 e_1 e_2 e_3) (w_9 hw) (w_10 hw) (w_11 hw) (w_12 hw) (by decide) pd_1 rfl rfl rfl at_120 rfl (W := 0) rfl (by decide) (by decide) (by decide) (by decide) ?_
  refine Wk.iload (q := 125) at_123 rfl rfl ?_
  refine Wk.icmpF (q := 128) at_125 rfl (by decide : (1 : Int32) = (1 : Int32)) ?_
  refine Wk.iconst (q := 129) (v := (1 : Int32)) at_128 rfl rfl ?_
  refine Wk.goto (q := 133) at_129 (by decide) rfl ?_
  exact Wk.retZ rfl rfl at_133 (by decide) (by decide) rfl
set_option maxRecDepth 65536 in
set_option maxHeartbeats 40000000 in
theorem law_tail_0_1 {l : Launch} {Z : State} {a0 : Array Value} {n0 : Nat} {h : Heap}  {a_T : Addr} {c_T : Cell} (hw : ∀ d ∈ tables_1, d.before a0 Z = true) (F : OwnF Z h  a_T c_T) {a1 : Addr} {c1 : Cell} {b0 b1 b2 b3 : Int32} (A1 : Arr Z h a1 c1 .byte) (S1 : c1.slots.size = 4) (e_0 : c1.slots[0]? = some (Value.int b0)) (e_1 : c1.slots[1]? = some (Value.int b1)) (e_2 : c1.slots[2]? = some (Value.int b2)) (e_3 : c1.slots[3]? = some (Value.int b3)) (p0 p1 p2 p3 p4 p5 : Int32) (k_s : ((p4 &&& (2147483647 : Int32)) % (5 : Int32)) = (0 : Int32)) (k_e : ((p5 &&& (2147483647 : Int32)) % (5 : Int32)) = (1 : Int32)) : Wk l Z n0 "com/example/tallykey/tallykey/HttpSyntaxIsTextPinLaw" "law" code maxLocals ret room_1 16 128 (fun v _ => v = some (.int (1 : Int32))) h 1 4 29 #[.val (.int p0), .val (.int p1), .val (.int p2), .val (.int p3), .val (.int p4), .val (.int p5), .val (.ref a1), .unset, .unset, .unset] [] := by
  refine Wk.iload (q := 31) at_29 rfl rfl ?_
  refine Wk.ldcI (q := 33) (w_1 hw) at_31 rfl ?_
  refine Wk.iand (q := 34) (v := (p4 &&& (2147483647 : Int32))) at_33 rfl rfl ?_
  refine Wk.iconst (q := 35) (v := (5 : Int32)) at_34 rfl rfl ?_
  refine Wk.irem (q := 36) (v := (0 : Int32)) at_35 rfl (by decide) k_s ?_
  refine Wk.istore (q := 38) (ls' := #[.val (.int p0), .val (.int p1), .val (.int p2), .val (.int p3), .val (.int p4), .val (.int p5), .val (.ref a1), .val (.int (0 : Int32)), .unset, .unset]) at_36 rfl rfl ?_
  refine Wk.iload (q := 40) at_38 rfl rfl ?_
  refine Wk.ldcI (q := 42) (w_1 hw) at_40 rfl ?_
  refine Wk.iand (q := 43) (v := (p5 &&& (2147483647 : Int32))) at_42 rfl rfl ?_
  refine Wk.iconst (q := 44) (v := (5 : Int32)) at_43 rfl rfl ?_
  refine Wk.irem (q := 45) (v := (1 : Int32)) at_44 rfl (by decide) k_e ?_
  refine Wk.istore (q := 47) (ls' := #[.val (.int p0), .val (.int p1), .val (.int p2), .val (.int p3), .val (.int p4), .val (.int p5), .val (.ref a1), .val (.int (0 : Int32)), .val (.int (1 : Int32)), .unset]) at_45 rfl rfl ?_
  refine Wk.iconst (q := 48) (v := (0 : Int32)) at_47 rfl rfl ?_
  refine Wk.iload (q := 50) at_48 rfl rfl ?_
  refine Wk.iload (q := 52) at_50 rfl rfl ?_
  refine Wk.aload (q := 54) at_52 rfl rfl rfl ?_
  refine Wk.iconst (q := 55) (v := (0 : Int32)) at_54 rfl rfl ?_
  refine Wk.baloadB (q := 56) A1 (by rw [S1]; decide) e_0 at_55 rfl ?_
  refine Wk.callS2 (q := 59) (argsL := [(.int (0 : Int32)), (.int (0 : Int32)), (.int (1 : Int32)), (.int b0)]) (rest := []) (fr := 1) (lo := 13) (P := fun w => (((tabN (b0 &&& (255 : Int32)).toNatClampNeg) = (0 : Int32)) ∧ w = (.int (0 : Int32))) ∨ ((¬ (tabN (b0 &&& (255 : Int32)).toNatClampNeg) = (0 : Int32)) ∧ w = (.int (1 : Int32)))) (m_5 hw F A1 S1 e_0 e_1 e_2 e_3 b0) (w_2 hw) (w_3 hw) (w_4 hw) (w_5 hw) (by decide) pd_0 rfl rfl rfl at_56 rfl (W := 0) rfl (by decide) (by decide) (by decide) (by decide) ?_
  intro w1 hP; rcases hP with ⟨h2, rfl⟩ | ⟨h3, rfl⟩
  · refine Wk.ifcT (q := 111) at_59 (by decide) rfl (by decide : (0 : Int32) = (0 : Int32)) ?_
    refine Wk.iconst (q := 112) (v := (0 : Int32)) at_111 rfl rfl ?_
    refine Wk.istore (q := 114) (ls' := #[.val (.int p0), .val (.int p1), .val (.int p2), .val (.int p3), .val (.int p4), .val (.int p5), .val (.ref a1), .val (.int (0 : Int32)), .val (.int (1 : Int32)), .val (.int (0 : Int32))]) at_112 rfl rfl ?_
    refine Wk.aload (q := 116) at_114 rfl rfl rfl ?_
    refine Wk.iload (q := 118) at_116 rfl rfl ?_
    refine Wk.iload (q := 120) at_118 rfl rfl ?_
    refine Wk.callS2 (q := 123) (argsL := [(.ref a1), (.int (0 : Int32)), (.int (1 : Int32))]) (rest := []) (fr := 0) (lo := 0) (P := fun w => ((¬ (tabN (b0 &&& (255 : Int32)).toNatClampNeg) = (0 : Int32)) ∧ w = (.int (1 : Int32))) ∨ (((tabN (b0 &&& (255 : Int32)).toNatClampNeg) = (0 : Int32)) ∧ w = (.int (0 : Int32)))) (m_6 hw F A1 S1 e_0 e_1 e_2 e_3) (w_9 hw) (w_10 hw) (w_11 hw) (w_12 hw) (by decide) pd_1 rfl rfl rfl at_120 rfl (W := 0) rfl (by decide) (by decide) (by decide) (by decide) ?_
    intro w4 hP; rcases hP with ⟨h5, rfl⟩ | ⟨h6, rfl⟩
    · exact absurd h2 h5
    · refine Wk.iload (q := 125) at_123 rfl rfl ?_
      refine Wk.icmpF (q := 128) at_125 rfl (by decide : (0 : Int32) = (0 : Int32)) ?_
      refine Wk.iconst (q := 129) (v := (1 : Int32)) at_128 rfl rfl ?_
      refine Wk.goto (q := 133) at_129 (by decide) rfl ?_
      exact Wk.retZ rfl rfl at_133 (by decide) (by decide) rfl
  · refine Wk.ifcF (q := 62) at_59 rfl (by decide : ¬ (1 : Int32) = (0 : Int32)) ?_
    refine Wk.iconst (q := 63) (v := (1 : Int32)) at_62 rfl rfl ?_
    refine Wk.iload (q := 65) at_63 rfl rfl ?_
    refine Wk.iload (q := 67) at_65 rfl rfl ?_
    refine Wk.aload (q := 69) at_67 rfl rfl rfl ?_
    refine Wk.iconst (q := 70) (v := (1 : Int32)) at_69 rfl rfl ?_
    refine Wk.baloadB (q := 71) A1 (by rw [S1]; decide) e_1 at_70 rfl ?_
    refine Wk.callS1 (q := 74) (argsL := [(.int (1 : Int32)), (.int (0 : Int32)), (.int (1 : Int32)), (.int b1)]) (rest := []) (fr := 0) (lo := 0) (v0 := (.int (1 : Int32))) (m_7 hw F A1 S1 e_0 e_1 e_2 e_3 b1) (w_2 hw) (w_3 hw) (w_4 hw) (w_5 hw) (by decide) pd_0 rfl rfl rfl at_71 rfl (W := 0) rfl (by decide) (by decide) (by decide) (by decide) ?_
    refine Wk.ifcF (q := 77) at_74 rfl (by decide : ¬ (1 : Int32) = (0 : Int32)) ?_
    refine Wk.iconst (q := 78) (v := (2 : Int32)) at_77 rfl rfl ?_
    refine Wk.iload (q := 80) at_78 rfl rfl ?_
    refine Wk.iload (q := 82) at_80 rfl rfl ?_
    refine Wk.aload (q := 84) at_82 rfl rfl rfl ?_
    refine Wk.iconst (q := 85) (v := (2 : Int32)) at_84 rfl rfl ?_
    refine Wk.baloadB (q := 86) A1 (by rw [S1]; decide) e_2 at_85 rfl ?_
    refine Wk.callS1 (q := 89) (argsL := [(.int (2 : Int32)), (.int (0 : Int32)), (.int (1 : Int32)), (.int b2)]) (rest := []) (fr := 0) (lo := 0) (v0 := (.int (1 : Int32))) (m_8 hw F A1 S1 e_0 e_1 e_2 e_3 b2) (w_2 hw) (w_3 hw) (w_4 hw) (w_5 hw) (by decide) pd_0 rfl rfl rfl at_86 rfl (W := 0) rfl (by decide) (by decide) (by decide) (by decide) ?_
    refine Wk.ifcF (q := 92) at_89 rfl (by decide : ¬ (1 : Int32) = (0 : Int32)) ?_
    refine Wk.iconst (q := 93) (v := (3 : Int32)) at_92 rfl rfl ?_
    refine Wk.iload (q := 95) at_93 rfl rfl ?_
    refine Wk.iload (q := 97) at_95 rfl rfl ?_
    refine Wk.aload (q := 99) at_97 rfl rfl rfl ?_
    refine Wk.iconst (q := 100) (v := (3 : Int32)) at_99 rfl rfl ?_
    refine Wk.baloadB (q := 101) A1 (by rw [S1]; decide) e_3 at_100 rfl ?_
    refine Wk.callS1 (q := 104) (argsL := [(.int (3 : Int32)), (.int (0 : Int32)), (.int (1 : Int32)), (.int b3)]) (rest := []) (fr := 0) (lo := 0) (v0 := (.int (1 : Int32))) (m_9 hw F A1 S1 e_0 e_1 e_2 e_3 b3) (w_2 hw) (w_3 hw) (w_4 hw) (w_5 hw) (by decide) pd_0 rfl rfl rfl at_101 rfl (W := 0) rfl (by decide) (by decide) (by decide) (by decide) ?_
    refine Wk.ifcF (q := 107) at_104 rfl (by decide : ¬ (1 : Int32) = (0 : Int32)) ?_
    refine Wk.iconst (q := 108) (v := (1 : Int32)) at_107 rfl rfl ?_
    refine Wk.goto (q := 112) at_108 (by decide) rfl ?_
    refine Wk.istore (q := 114) (ls' := #[.val (.int p0), .val (.int p1), .val (.int p2), .val (.int p3), .val (.int p4), .val (.int p5), .val (.ref a1), .val (.int (0 : Int32)), .val (.int (1 : Int32)), .val (.int (1 : Int32))]) at_112 rfl rfl ?_
    refine Wk.aload (q := 116) at_114 rfl rfl rfl ?_
    refine Wk.iload (q := 118) at_116 rfl rfl ?_
    refine Wk.iload (q := 120) at_118 rfl rfl ?_
    refine Wk.callS2 (q := 123) (argsL := [(.ref a1), (.int (0 : Int32)), (.int (1 : Int32))]) (rest := []) (fr := 0) (lo := 0) (P := fun w => ((¬ (tabN (b0 &&& (255 : Int32)).toNatClampNeg) = (0 : Int32)) ∧ w = (.int (1 : Int32))) ∨ (((tabN (b0 &&& (255 : Int32)).toNatClampNeg) = (0 : Int32)) ∧ w = (.int (0 : Int32)))) (m_6 hw F A1 S1 e_0 e_1 e_2 e_3) (w_9 hw) (w_10 hw) (w_11 hw) (w_12 hw) (by decide) pd_1 rfl rfl rfl at_120 rfl (W := 0) rfl (by decide) (by decide) (by decide) (by decide) ?_
    intro w7 hP; rcases hP with ⟨h8, rfl⟩ | ⟨h9, rfl⟩
    · refine Wk.iload (q := 125) at_123 rfl rfl ?_
      refine Wk.icmpF (q := 128) at_125 rfl (by decide : (1 : Int32) = (1 : Int32)) ?_
      refine Wk.iconst (q := 129) (v := (1 : Int32)) at_128 rfl rfl ?_
      refine Wk.goto (q := 133) at_129 (by decide) rfl ?_
      exact Wk.retZ rfl rfl at_133 (by decide) (by decide) rfl
    · exact absurd h9 h3
set_option maxRecDepth 65536 in
set_option maxHeartbeats 40000000 in
theorem law_tail_0_2 {l : Launch} {Z : State} {a0 : Array Value} {n0 : Nat} {h : Heap}  {a_T : Addr} {c_T : Cell} (hw : ∀ d ∈ tables_1, d.before a0 Z = true) (F : OwnF Z h  a_T c_T) {a1 : Addr} {c1 : Cell} {b0 b1 b2 b3 : Int32} (A1 : Arr Z h a1 c1 .byte) (S1 : c1.slots.size = 4) (e_0 : c1.slots[0]? = some (Value.int b0)) (e_1 : c1.slots[1]? = some (Value.int b1)) (e_2 : c1.slots[2]? = some (Value.int b2)) (e_3 : c1.slots[3]? = some (Value.int b3)) (p0 p1 p2 p3 p4 p5 : Int32) (k_s : ((p4 &&& (2147483647 : Int32)) % (5 : Int32)) = (0 : Int32)) (k_e : ((p5 &&& (2147483647 : Int32)) % (5 : Int32)) = (2 : Int32)) : Wk l Z n0 "com/example/tallykey/tallykey/HttpSyntaxIsTextPinLaw" "law" code maxLocals ret room_1 16 128 (fun v _ => v = some (.int (1 : Int32))) h 1 4 29 #[.val (.int p0), .val (.int p1), .val (.int p2), .val (.int p3), .val (.int p4), .val (.int p5), .val (.ref a1), .unset, .unset, .unset] [] := by
  refine Wk.iload (q := 31) at_29 rfl rfl ?_
  refine Wk.ldcI (q := 33) (w_1 hw) at_31 rfl ?_
  refine Wk.iand (q := 34) (v := (p4 &&& (2147483647 : Int32))) at_33 rfl rfl ?_
  refine Wk.iconst (q := 35) (v := (5 : Int32)) at_34 rfl rfl ?_
  refine Wk.irem (q := 36) (v := (0 : Int32)) at_35 rfl (by decide) k_s ?_
  refine Wk.istore (q := 38) (ls' := #[.val (.int p0), .val (.int p1), .val (.int p2), .val (.int p3), .val (.int p4), .val (.int p5), .val (.ref a1), .val (.int (0 : Int32)), .unset, .unset]) at_36 rfl rfl ?_
  refine Wk.iload (q := 40) at_38 rfl rfl ?_
  refine Wk.ldcI (q := 42) (w_1 hw) at_40 rfl ?_
  refine Wk.iand (q := 43) (v := (p5 &&& (2147483647 : Int32))) at_42 rfl rfl ?_
  refine Wk.iconst (q := 44) (v := (5 : Int32)) at_43 rfl rfl ?_
  refine Wk.irem (q := 45) (v := (2 : Int32)) at_44 rfl (by decide) k_e ?_
  refine Wk.istore (q := 47) (ls' := #[.val (.int p0), .val (.int p1), .val (.int p2), .val (.int p3), .val (.int p4), .val (.int p5), .val (.ref a1), .val (.int (0 : Int32)), .val (.int (2 : Int32)), .unset]) at_45 rfl rfl ?_
  refine Wk.iconst (q := 48) (v := (0 : Int32)) at_47 rfl rfl ?_
  refine Wk.iload (q := 50) at_48 rfl rfl ?_
  refine Wk.iload (q := 52) at_50 rfl rfl ?_
  refine Wk.aload (q := 54) at_52 rfl rfl rfl ?_
  refine Wk.iconst (q := 55) (v := (0 : Int32)) at_54 rfl rfl ?_
  refine Wk.baloadB (q := 56) A1 (by rw [S1]; decide) e_0 at_55 rfl ?_
  refine Wk.callS2 (q := 59) (argsL := [(.int (0 : Int32)), (.int (0 : Int32)), (.int (2 : Int32)), (.int b0)]) (rest := []) (fr := 1) (lo := 13) (P := fun w => (((tabN (b0 &&& (255 : Int32)).toNatClampNeg) = (0 : Int32)) ∧ w = (.int (0 : Int32))) ∨ ((¬ (tabN (b0 &&& (255 : Int32)).toNatClampNeg) = (0 : Int32)) ∧ w = (.int (1 : Int32)))) (m_10 hw F A1 S1 e_0 e_1 e_2 e_3 b0) (w_2 hw) (w_3 hw) (w_4 hw) (w_5 hw) (by decide) pd_0 rfl rfl rfl at_56 rfl (W := 0) rfl (by decide) (by decide) (by decide) (by decide) ?_
  intro w1 hP; rcases hP with ⟨h2, rfl⟩ | ⟨h3, rfl⟩
  · refine Wk.ifcT (q := 111) at_59 (by decide) rfl (by decide : (0 : Int32) = (0 : Int32)) ?_
    refine Wk.iconst (q := 112) (v := (0 : Int32)) at_111 rfl rfl ?_
    refine Wk.istore (q := 114) (ls' := #[.val (.int p0), .val (.int p1), .val (.int p2), .val (.int p3), .val (.int p4), .val (.int p5), .val (.ref a1), .val (.int (0 : Int32)), .val (.int (2 : Int32)), .val (.int (0 : Int32))]) at_112 rfl rfl ?_
    refine Wk.aload (q := 116) at_114 rfl rfl rfl ?_
    refine Wk.iload (q := 118) at_116 rfl rfl ?_
    refine Wk.iload (q := 120) at_118 rfl rfl ?_
    refine Wk.callS2 (q := 123) (argsL := [(.ref a1), (.int (0 : Int32)), (.int (2 : Int32))]) (rest := []) (fr := 0) (lo := 0) (P := fun w => ((¬ (tabN (b0 &&& (255 : Int32)).toNatClampNeg) = (0 : Int32)) ∧ (¬ (tabN (b1 &&& (255 : Int32)).toNatClampNeg) = (0 : Int32)) ∧ w = (.int (1 : Int32))) ∨ ((¬ (tabN (b0 &&& (255 : Int32)).toNatClampNeg) = (0 : Int32)) ∧ ((tabN (b1 &&& (255 : Int32)).toNatClampNeg) = (0 : Int32)) ∧ w = (.int (0 : Int32))) ∨ (((tabN (b0 &&& (255 : Int32)).toNatClampNeg) = (0 : Int32)) ∧ w = (.int (0 : Int32)))) (m_11 hw F A1 S1 e_0 e_1 e_2 e_3) (w_9 hw) (w_10 hw) (w_11 hw) (w_12 hw) (by decide) pd_1 rfl rfl rfl at_120 rfl (W := 0) rfl (by decide) (by decide) (by decide) (by decide) ?_
    intro w4 hP; rcases hP with ⟨h5, h6, rfl⟩ | ⟨h7, h8, rfl⟩ | ⟨h9, rfl⟩
    · exact absurd h2 h5
    · exact absurd h2 h7
    · refine Wk.iload (q := 125) at_123 rfl rfl ?_
      refine Wk.icmpF (q := 128) at_125 rfl (by decide : (0 : Int32) = (0 : Int32)) ?_
      refine Wk.iconst (q := 129) (v := (1 : Int32)) at_128 rfl rfl ?_
      refine Wk.goto (q := 133) at_129 (by decide) rfl ?_
      exact Wk.retZ rfl rfl at_133 (by decide) (by decide) rfl
  · refine Wk.ifcF (q := 62) at_59 rfl (by decide : ¬ (1 : Int32) = (0 : Int32)) ?_
    refine Wk.iconst (q := 63) (v := (1 : Int32)) at_62 rfl rfl ?_
    refine Wk.iload (q := 65) at_63 rfl rfl ?_
    refine Wk.iload (q := 67) at_65 rfl rfl ?_
    refine Wk.aload (q := 69) at_67 rfl rfl rfl ?_
    refine Wk.iconst (q := 70) (v := (1 : Int32)) at_69 rfl rfl ?_
    refine Wk.baloadB (q := 71) A1 (by rw [S1]; decide) e_1 at_70 rfl ?_
    refine Wk.callS2 (q := 74) (argsL := [(.int (1 : Int32)), (.int (0 : Int32)), (.int (2 : Int32)), (.int b1)]) (rest := []) (fr := 1) (lo := 13) (P := fun w => (((tabN (b1 &&& (255 : Int32)).toNatClampNeg) = (0 : Int32)) ∧ w = (.int (0 : Int32))) ∨ ((¬ (tabN (b1 &&& (255 : Int32)).toNatClampNeg) = (0 : Int32)) ∧ w = (.int (1 : Int32)))) (m_12 hw F A1 S1 e_0 e_1 e_2 e_3 b1) (w_2 hw) (w_3 hw) (w_4 hw) (w_5 hw) (by decide) pd_0 rfl rfl rfl at_71 rfl (W := 0) rfl (by decide) (by decide) (by decide) (by decide) ?_
    intro w10 hP; rcases hP with ⟨h11, rfl⟩ | ⟨h12, rfl⟩
    · refine Wk.ifcT (q := 111) at_74 (by decide) rfl (by decide : (0 : Int32) = (0 : Int32)) ?_
      refine Wk.iconst (q := 112) (v := (0 : Int32)) at_111 rfl rfl ?_
      refine Wk.istore (q := 114) (ls' := #[.val (.int p0), .val (.int p1), .val (.int p2), .val (.int p3), .val (.int p4), .val (.int p5), .val (.ref a1), .val (.int (0 : Int32)), .val (.int (2 : Int32)), .val (.int (0 : Int32))]) at_112 rfl rfl ?_
      refine Wk.aload (q := 116) at_114 rfl rfl rfl ?_
      refine Wk.iload (q := 118) at_116 rfl rfl ?_
      refine Wk.iload (q := 120) at_118 rfl rfl ?_
      refine Wk.callS2 (q := 123) (argsL := [(.ref a1), (.int (0 : Int32)), (.int (2 : Int32))]) (rest := []) (fr := 0) (lo := 0) (P := fun w => ((¬ (tabN (b0 &&& (255 : Int32)).toNatClampNeg) = (0 : Int32)) ∧ (¬ (tabN (b1 &&& (255 : Int32)).toNatClampNeg) = (0 : Int32)) ∧ w = (.int (1 : Int32))) ∨ ((¬ (tabN (b0 &&& (255 : Int32)).toNatClampNeg) = (0 : Int32)) ∧ ((tabN (b1 &&& (255 : Int32)).toNatClampNeg) = (0 : Int32)) ∧ w = (.int (0 : Int32))) ∨ (((tabN (b0 &&& (255 : Int32)).toNatClampNeg) = (0 : Int32)) ∧ w = (.int (0 : Int32)))) (m_11 hw F A1 S1 e_0 e_1 e_2 e_3) (w_9 hw) (w_10 hw) (w_11 hw) (w_12 hw) (by decide) pd_1 rfl rfl rfl at_120 rfl (W := 0) rfl (by decide) (by decide) (by decide) (by decide) ?_
      intro w13 hP; rcases hP with ⟨h14, h15, rfl⟩ | ⟨h16, h17, rfl⟩ | ⟨h18, rfl⟩
      · exact absurd h11 h15
      · refine Wk.iload (q := 125) at_123 rfl rfl ?_
        refine Wk.icmpF (q := 128) at_125 rfl (by decide : (0 : Int32) = (0 : Int32)) ?_
        refine Wk.iconst (q := 129) (v := (1 : Int32)) at_128 rfl rfl ?_
        refine Wk.goto (q := 133) at_129 (by decide) rfl ?_
        exact Wk.retZ rfl rfl at_133 (by decide) (by decide) rfl
      · exact absurd h18 h3
    · refine Wk.ifcF (q := 77) at_74 rfl (by decide : ¬ (1 : Int32) = (0 : Int32)) ?_
      refine Wk.iconst (q := 78) (v := (2 : Int32)) at_77 rfl rfl ?_
      refine Wk.iload (q := 80) at_78 rfl rfl ?_
      refine Wk.iload (q := 82) at_80 rfl rfl ?_
      refine Wk.aload (q := 84) at_82 rfl rfl rfl ?_
      refine Wk.iconst (q := 85) (v := (2 : Int32)) at_84 rfl rfl ?_
      refine Wk.baloadB (q := 86) A1 (by rw [S1]; decide) e_2 at_85 rfl ?_
      refine Wk.callS1 (q := 89) (argsL := [(.int (2 : Int32)), (.int (0 : Int32)), (.int (2 : Int32)), (.int b2)]) (rest := []) (fr := 0) (lo := 0) (v0 := (.int (1 : Int32))) (m_13 hw F A1 S1 e_0 e_1 e_2 e_3 b2) (w_2 hw) (w_3 hw) (w_4 hw) (w_5 hw) (by decide) pd_0 rfl rfl rfl at_86 rfl (W := 0) rfl (by decide) (by decide) (by decide) (by decide) ?_
      refine Wk.ifcF (q := 92) at_89 rfl (by decide : ¬ (1 : Int32) = (0 : Int32)) ?_
      refine Wk.iconst (q := 93) (v := (3 : Int32)) at_92 rfl rfl ?_
      refine Wk.iload (q := 95) at_93 rfl rfl ?_
      refine Wk.iload (q := 97) at_95 rfl rfl ?_
      refine Wk.aload (q := 99) at_97 rfl rfl rfl ?_
      refine Wk.iconst (q := 100) (v := (3 : Int32)) at_99 rfl rfl ?_
      refine Wk.baloadB (q := 101) A1 (by rw [S1]; decide) e_3 at_100 rfl ?_
      refine Wk.callS1 (q := 104) (argsL := [(.int (3 : Int32)), (.int (0 : Int32)), (.int (2 : Int32)), (.int b3)]) (rest := []) (fr := 0) (lo := 0) (v0 := (.int (1 : Int32))) (m_14 hw F A1 S1 e_0 e_1 e_2 e_3 b3) (w_2 hw) (w_3 hw) (w_4 hw) (w_5 hw) (by decide) pd_0 rfl rfl rfl at_101 rfl (W := 0) rfl (by decide) (by decide) (by decide) (by decide) ?_
      refine Wk.ifcF (q := 107) at_104 rfl (by decide : ¬ (1 : Int32) = (0 : Int32)) ?_
      refine Wk.iconst (q := 108) (v := (1 : Int32)) at_107 rfl rfl ?_
      refine Wk.goto (q := 112) at_108 (by decide) rfl ?_
      refine Wk.istore (q := 114) (ls' := #[.val (.int p0), .val (.int p1), .val (.int p2), .val (.int p3), .val (.int p4), .val (.int p5), .val (.ref a1), .val (.int (0 : Int32)), .val (.int (2 : Int32)), .val (.int (1 : Int32))]) at_112 rfl rfl ?_
      refine Wk.aload (q := 116) at_114 rfl rfl rfl ?_
      refine Wk.iload (q := 118) at_116 rfl rfl ?_
      refine Wk.iload (q := 120) at_118 rfl rfl ?_
      refine Wk.callS2 (q := 123) (argsL := [(.ref a1), (.int (0 : Int32)), (.int (2 : Int32))]) (rest := []) (fr := 0) (lo := 0) (P := fun w => ((¬ (tabN (b0 &&& (255 : Int32)).toNatClampNeg) = (0 : Int32)) ∧ (¬ (tabN (b1 &&& (255 : Int32)).toNatClampNeg) = (0 : Int32)) ∧ w = (.int (1 : Int32))) ∨ ((¬ (tabN (b0 &&& (255 : Int32)).toNatClampNeg) = (0 : Int32)) ∧ ((tabN (b1 &&& (255 : Int32)).toNatClampNeg) = (0 : Int32)) ∧ w = (.int (0 : Int32))) ∨ (((tabN (b0 &&& (255 : Int32)).toNatClampNeg) = (0 : Int32)) ∧ w = (.int (0 : Int32)))) (m_11 hw F A1 S1 e_0 e_1 e_2 e_3) (w_9 hw) (w_10 hw) (w_11 hw) (w_12 hw) (by decide) pd_1 rfl rfl rfl at_120 rfl (W := 0) rfl (by decide) (by decide) (by decide) (by decide) ?_
      intro w19 hP; rcases hP with ⟨h20, h21, rfl⟩ | ⟨h22, h23, rfl⟩ | ⟨h24, rfl⟩
      · refine Wk.iload (q := 125) at_123 rfl rfl ?_
        refine Wk.icmpF (q := 128) at_125 rfl (by decide : (1 : Int32) = (1 : Int32)) ?_
        refine Wk.iconst (q := 129) (v := (1 : Int32)) at_128 rfl rfl ?_
        refine Wk.goto (q := 133) at_129 (by decide) rfl ?_
        exact Wk.retZ rfl rfl at_133 (by decide) (by decide) rfl
      · exact absurd h23 h12
      · exact absurd h24 h3
set_option maxRecDepth 65536 in
set_option maxHeartbeats 40000000 in
theorem law_tail_0_3 {l : Launch} {Z : State} {a0 : Array Value} {n0 : Nat} {h : Heap}  {a_T : Addr} {c_T : Cell} (hw : ∀ d ∈ tables_1, d.before a0 Z = true) (F : OwnF Z h  a_T c_T) {a1 : Addr} {c1 : Cell} {b0 b1 b2 b3 : Int32} (A1 : Arr Z h a1 c1 .byte) (S1 : c1.slots.size = 4) (e_0 : c1.slots[0]? = some (Value.int b0)) (e_1 : c1.slots[1]? = some (Value.int b1)) (e_2 : c1.slots[2]? = some (Value.int b2)) (e_3 : c1.slots[3]? = some (Value.int b3)) (p0 p1 p2 p3 p4 p5 : Int32) (k_s : ((p4 &&& (2147483647 : Int32)) % (5 : Int32)) = (0 : Int32)) (k_e : ((p5 &&& (2147483647 : Int32)) % (5 : Int32)) = (3 : Int32)) : Wk l Z n0 "com/example/tallykey/tallykey/HttpSyntaxIsTextPinLaw" "law" code maxLocals ret room_1 16 128 (fun v _ => v = some (.int (1 : Int32))) h 1 4 29 #[.val (.int p0), .val (.int p1), .val (.int p2), .val (.int p3), .val (.int p4), .val (.int p5), .val (.ref a1), .unset, .unset, .unset] [] := by
  refine Wk.iload (q := 31) at_29 rfl rfl ?_
  refine Wk.ldcI (q := 33) (w_1 hw) at_31 rfl ?_
  refine Wk.iand (q := 34) (v := (p4 &&& (2147483647 : Int32))) at_33 rfl rfl ?_
  refine Wk.iconst (q := 35) (v := (5 : Int32)) at_34 rfl rfl ?_
  refine Wk.irem (q := 36) (v := (0 : Int32)) at_35 rfl (by decide) k_s ?_
  refine Wk.istore (q := 38) (ls' := #[.val (.int p0), .val (.int p1), .val (.int p2), .val (.int p3), .val (.int p4), .val (.int p5), .val (.ref a1), .val (.int (0 : Int32)), .unset, .unset]) at_36 rfl rfl ?_
  refine Wk.iload (q := 40) at_38 rfl rfl ?_
  refine Wk.ldcI (q := 42) (w_1 hw) at_40 rfl ?_
  refine Wk.iand (q := 43) (v := (p5 &&& (2147483647 : Int32))) at_42 rfl rfl ?_
  refine Wk.iconst (q := 44) (v := (5 : Int32)) at_43 rfl rfl ?_
  refine Wk.irem (q := 45) (v := (3 : Int32)) at_44 rfl (by decide) k_e ?_
  refine Wk.istore (q := 47) (ls' := #[.val (.int p0), .val (.int p1), .val (.int p2), .val (.int p3), .val (.int p4), .val (.int p5), .val (.ref a1), .val (.int (0 : Int32)), .val (.int (3 : Int32)), .unset]) at_45 rfl rfl ?_
  refine Wk.iconst (q := 48) (v := (0 : Int32)) at_47 rfl rfl ?_
  refine Wk.iload (q := 50) at_48 rfl rfl ?_
  refine Wk.iload (q := 52) at_50 rfl rfl ?_
  refine Wk.aload (q := 54) at_52 rfl rfl rfl ?_
  refine Wk.iconst (q := 55) (v := (0 : Int32)) at_54 rfl rfl ?_
  refine Wk.baloadB (q := 56) A1 (by rw [S1]; decide) e_0 at_55 rfl ?_
  refine Wk.callS2 (q := 59) (argsL := [(.int (0 : Int32)), (.int (0 : Int32)), (.int (3 : Int32)), (.int b0)]) (rest := []) (fr := 1) (lo := 13) (P := fun w => (((tabN (b0 &&& (255 : Int32)).toNatClampNeg) = (0 : Int32)) ∧ w = (.int (0 : Int32))) ∨ ((¬ (tabN (b0 &&& (255 : Int32)).toNatClampNeg) = (0 : Int32)) ∧ w = (.int (1 : Int32)))) (m_15 hw F A1 S1 e_0 e_1 e_2 e_3 b0) (w_2 hw) (w_3 hw) (w_4 hw) (w_5 hw) (by decide) pd_0 rfl rfl rfl at_56 rfl (W := 0) rfl (by decide) (by decide) (by decide) (by decide) ?_
  intro w1 hP; rcases hP with ⟨h2, rfl⟩ | ⟨h3, rfl⟩
  · refine Wk.ifcT (q := 111) at_59 (by decide) rfl (by decide : (0 : Int32) = (0 : Int32)) ?_
    refine Wk.iconst (q := 112) (v := (0 : Int32)) at_111 rfl rfl ?_
    refine Wk.istore (q := 114) (ls' := #[.val (.int p0), .val (.int p1), .val (.int p2), .val (.int p3), .val (.int p4), .val (.int p5), .val (.ref a1), .val (.int (0 : Int32)), .val (.int (3 : Int32)), .val (.int (0 : Int32))]) at_112 rfl rfl ?_
    refine Wk.aload (q := 116) at_114 rfl rfl rfl ?_
    refine Wk.iload (q := 118) at_116 rfl rfl ?_
    refine Wk.iload (q := 120) at_118 rfl rfl ?_
    refine Wk.callS2 (q := 123) (argsL := [(.ref a1), (.int (0 : Int32)), (.int (3 : Int32))]) (rest := []) (fr := 0) (lo := 0) (P := fun w => ((¬ (tabN (b0 &&& (255 : Int32)).toNatClampNeg) = (0 : Int32)) ∧ (¬ (tabN (b1 &&& (255 : Int32)).toNatClampNeg) = (0 : Int32)) ∧ (¬ (tabN (b2 &&& (255 : Int32)).toNatClampNeg) = (0 : Int32)) ∧ w = (.int (1 : Int32))) ∨ ((¬ (tabN (b0 &&& (255 : Int32)).toNatClampNeg) = (0 : Int32)) ∧ (¬ (tabN (b1 &&& (255 : Int32)).toNatClampNeg) = (0 : Int32)) ∧ ((tabN (b2 &&& (255 : Int32)).toNatClampNeg) = (0 : Int32)) ∧ w = (.int (0 : Int32))) ∨ ((¬ (tabN (b0 &&& (255 : Int32)).toNatClampNeg) = (0 : Int32)) ∧ ((tabN (b1 &&& (255 : Int32)).toNatClampNeg) = (0 : Int32)) ∧ w = (.int (0 : Int32))) ∨ (((tabN (b0 &&& (255 : Int32)).toNatClampNeg) = (0 : Int32)) ∧ w = (.int (0 : Int32)))) (m_16 hw F A1 S1 e_0 e_1 e_2 e_3) (w_9 hw) (w_10 hw) (w_11 hw) (w_12 hw) (by decide) pd_1 rfl rfl rfl at_120 rfl (W := 0) rfl (by decide) (by decide) (by decide) (by decide) ?_
    intro w4 hP; rcases hP with ⟨h5, h6, h7, rfl⟩ | ⟨h8, h9, h10, rfl⟩ | ⟨h11, h12, rfl⟩ | ⟨h13, rfl⟩
    · exact absurd h2 h5
    · exact absurd h2 h8
    · exact absurd h2 h11
    · refine Wk.iload (q := 125) at_123 rfl rfl ?_
      refine Wk.icmpF (q := 128) at_125 rfl (by decide : (0 : Int32) = (0 : Int32)) ?_
      refine Wk.iconst (q := 129) (v := (1 : Int32)) at_128 rfl rfl ?_
      refine Wk.goto (q := 133) at_129 (by decide) rfl ?_
      exact Wk.retZ rfl rfl at_133 (by decide) (by decide) rfl
  · refine Wk.ifcF (q := 62) at_59 rfl (by decide : ¬ (1 : Int32) = (0 : Int32)) ?_
    refine Wk.iconst (q := 63) (v := (1 : Int32)) at_62 rfl rfl ?_
    refine Wk.iload (q := 65) at_63 rfl rfl ?_
    refine Wk.iload (q := 67) at_65 rfl rfl ?_
    refine Wk.aload (q := 69) at_67 rfl rfl rfl ?_
    refine Wk.iconst (q := 70) (v := (1 : Int32)) at_69 rfl rfl ?_
    refine Wk.baloadB (q := 71) A1 (by rw [S1]; decide) e_1 at_70 rfl ?_
    refine Wk.callS2 (q := 74) (argsL := [(.int (1 : Int32)), (.int (0 : Int32)), (.int (3 : Int32)), (.int b1)]) (rest := []) (fr := 1) (lo := 13) (P := fun w => (((tabN (b1 &&& (255 : Int32)).toNatClampNeg) = (0 : Int32)) ∧ w = (.int (0 : Int32))) ∨ ((¬ (tabN (b1 &&& (255 : Int32)).toNatClampNeg) = (0 : Int32)) ∧ w = (.int (1 : Int32)))) (m_17 hw F A1 S1 e_0 e_1 e_2 e_3 b1) (w_2 hw) (w_3 hw) (w_4 hw) (w_5 hw) (by decide) pd_0 rfl rfl rfl at_71 rfl (W := 0) rfl (by decide) (by decide) (by decide) (by decide) ?_
    intro w14 hP; rcases hP with ⟨h15, rfl⟩ | ⟨h16, rfl⟩
    · refine Wk.ifcT (q := 111) at_74 (by decide) rfl (by decide : (0 : Int32) = (0 : Int32)) ?_
      refine Wk.iconst (q := 112) (v := (0 : Int32)) at_111 rfl rfl ?_
      refine Wk.istore (q := 114) (ls' := #[.val (.int p0), .val (.int p1), .val (.int p2), .val (.int p3), .val (.int p4), .val (.int p5), .val (.ref a1), .val (.int (0 : Int32)), .val (.int (3 : Int32)), .val (.int (0 : Int32))]) at_112 rfl rfl ?_
      refine Wk.aload (q := 116) at_114 rfl rfl rfl ?_
      refine Wk.iload (q := 118) at_116 rfl rfl ?_
      refine Wk.iload (q := 120) at_118 rfl rfl ?_
      refine Wk.callS2 (q := 123) (argsL := [(.ref a1), (.int (0 : Int32)), (.int (3 : Int32))]) (rest := []) (fr := 0) (lo := 0) (P := fun w => ((¬ (tabN (b0 &&& (255 : Int32)).toNatClampNeg) = (0 : Int32)) ∧ (¬ (tabN (b1 &&& (255 : Int32)).toNatClampNeg) = (0 : Int32)) ∧ (¬ (tabN (b2 &&& (255 : Int32)).toNatClampNeg) = (0 : Int32)) ∧ w = (.int (1 : Int32))) ∨ ((¬ (tabN (b0 &&& (255 : Int32)).toNatClampNeg) = (0 : Int32)) ∧ (¬ (tabN (b1 &&& (255 : Int32)).toNatClampNeg) = (0 : Int32)) ∧ ((tabN (b2 &&& (255 : Int32)).toNatClampNeg) = (0 : Int32)) ∧ w = (.int (0 : Int32))) ∨ ((¬ (tabN (b0 &&& (255 : Int32)).toNatClampNeg) = (0 : Int32)) ∧ ((tabN (b1 &&& (255 : Int32)).toNatClampNeg) = (0 : Int32)) ∧ w = (.int (0 : Int32))) ∨ (((tabN (b0 &&& (255 : Int32)).toNatClampNeg) = (0 : Int32)) ∧ w = (.int (0 : Int32)))) (m_16 hw F A1 S1 e_0 e_1 e_2 e_3) (w_9 hw) (w_10 hw) (w_11 hw) (w_12 hw) (by decide) pd_1 rfl rfl rfl at_120 rfl (W := 0) rfl (by decide) (by decide) (by decide) (by decide) ?_
      intro w17 hP; rcases hP with ⟨h18, h19, h20, rfl⟩ | ⟨h21, h22, h23, rfl⟩ | ⟨h24, h25, rfl⟩ | ⟨h26, rfl⟩
      · exact absurd h15 h19
      · exact absurd h15 h22
      · refine Wk.iload (q := 125) at_123 rfl rfl ?_
        refine Wk.icmpF (q := 128) at_125 rfl (by decide : (0 : Int32) = (0 : Int32)) ?_
        refine Wk.iconst (q := 129) (v := (1 : Int32)) at_128 rfl rfl ?_
        refine Wk.goto (q := 133) at_129 (by decide) rfl ?_
        exact Wk.retZ rfl rfl at_133 (by decide) (by decide) rfl
      · exact absurd h26 h3
    · refine Wk.ifcF (q := 77) at_74 rfl (by decide : ¬ (1 : Int32) = (0 : Int32)) ?_
      refine Wk.iconst (q := 78) (v := (2 : Int32)) at_77 rfl rfl ?_
      refine Wk.iload (q := 80) at_78 rfl rfl ?_
      refine Wk.iload (q := 82) at_80 rfl rfl ?_
      refine Wk.aload (q := 84) at_82 rfl rfl rfl ?_
      refine Wk.iconst (q := 85) (v := (2 : Int32)) at_84 rfl rfl ?_
      refine Wk.baloadB (q := 86) A1 (by rw [S1]; decide) e_2 at_85 rfl ?_
      refine Wk.callS2 (q := 89) (argsL := [(.int (2 : Int32)), (.int (0 : Int32)), (.int (3 : Int32)), (.int b2)]) (rest := []) (fr := 1) (lo := 13) (P := fun w => (((tabN (b2 &&& (255 : Int32)).toNatClampNeg) = (0 : Int32)) ∧ w = (.int (0 : Int32))) ∨ ((¬ (tabN (b2 &&& (255 : Int32)).toNatClampNeg) = (0 : Int32)) ∧ w = (.int (1 : Int32)))) (m_18 hw F A1 S1 e_0 e_1 e_2 e_3 b2) (w_2 hw) (w_3 hw) (w_4 hw) (w_5 hw) (by decide) pd_0 rfl rfl rfl at_86 rfl (W := 0) rfl (by decide) (by decide) (by decide) (by decide) ?_
      intro w27 hP; rcases hP with ⟨h28, rfl⟩ | ⟨h29, rfl⟩
      · refine Wk.ifcT (q := 111) at_89 (by decide) rfl (by decide : (0 : Int32) = (0 : Int32)) ?_
        refine Wk.iconst (q := 112) (v := (0 : Int32)) at_111 rfl rfl ?_
        refine Wk.istore (q := 114) (ls' := #[.val (.int p0), .val (.int p1), .val (.int p2), .val (.int p3), .val (.int p4), .val (.int p5), .val (.ref a1), .val (.int (0 : Int32)), .val (.int (3 : Int32)), .val (.int (0 : Int32))]) at_112 rfl rfl ?_
        refine Wk.aload (q := 116) at_114 rfl rfl rfl ?_
        refine Wk.iload (q := 118) at_116 rfl rfl ?_
        refine Wk.iload (q := 120) at_118 rfl rfl ?_
        refine Wk.callS2 (q := 123) (argsL := [(.ref a1), (.int (0 : Int32)), (.int (3 : Int32))]) (rest := []) (fr := 0) (lo := 0) (P := fun w => ((¬ (tabN (b0 &&& (255 : Int32)).toNatClampNeg) = (0 : Int32)) ∧ (¬ (tabN (b1 &&& (255 : Int32)).toNatClampNeg) = (0 : Int32)) ∧ (¬ (tabN (b2 &&& (255 : Int32)).toNatClampNeg) = (0 : Int32)) ∧ w = (.int (1 : Int32))) ∨ ((¬ (tabN (b0 &&& (255 : Int32)).toNatClampNeg) = (0 : Int32)) ∧ (¬ (tabN (b1 &&& (255 : Int32)).toNatClampNeg) = (0 : Int32)) ∧ ((tabN (b2 &&& (255 : Int32)).toNatClampNeg) = (0 : Int32)) ∧ w = (.int (0 : Int32))) ∨ ((¬ (tabN (b0 &&& (255 : Int32)).toNatClampNeg) = (0 : Int32)) ∧ ((tabN (b1 &&& (255 : Int32)).toNatClampNeg) = (0 : Int32)) ∧ w = (.int (0 : Int32))) ∨ (((tabN (b0 &&& (255 : Int32)).toNatClampNeg) = (0 : Int32)) ∧ w = (.int (0 : Int32)))) (m_16 hw F A1 S1 e_0 e_1 e_2 e_3) (w_9 hw) (w_10 hw) (w_11 hw) (w_12 hw) (by decide) pd_1 rfl rfl rfl at_120 rfl (W := 0) rfl (by decide) (by decide) (by decide) (by decide) ?_
        intro w30 hP; rcases hP with ⟨h31, h32, h33, rfl⟩ | ⟨h34, h35, h36, rfl⟩ | ⟨h37, h38, rfl⟩ | ⟨h39, rfl⟩
        · exact absurd h28 h33
        · refine Wk.iload (q := 125) at_123 rfl rfl ?_
          refine Wk.icmpF (q := 128) at_125 rfl (by decide : (0 : Int32) = (0 : Int32)) ?_
          refine Wk.iconst (q := 129) (v := (1 : Int32)) at_128 rfl rfl ?_
          refine Wk.goto (q := 133) at_129 (by decide) rfl ?_
          exact Wk.retZ rfl rfl at_133 (by decide) (by decide) rfl
        · exact absurd h38 h16
        · exact absurd h39 h3
      · refine Wk.ifcF (q := 92) at_89 rfl (by decide : ¬ (1 : Int32) = (0 : Int32)) ?_
        refine Wk.iconst (q := 93) (v := (3 : Int32)) at_92 rfl rfl ?_
        refine Wk.iload (q := 95) at_93 rfl rfl ?_
        refine Wk.iload (q := 97) at_95 rfl rfl ?_
        refine Wk.aload (q := 99) at_97 rfl rfl rfl ?_
        refine Wk.iconst (q := 100) (v := (3 : Int32)) at_99 rfl rfl ?_
        refine Wk.baloadB (q := 101) A1 (by rw [S1]; decide) e_3 at_100 rfl ?_
        refine Wk.callS1 (q := 104) (argsL := [(.int (3 : Int32)), (.int (0 : Int32)), (.int (3 : Int32)), (.int b3)]) (rest := []) (fr := 0) (lo := 0) (v0 := (.int (1 : Int32))) (m_19 hw F A1 S1 e_0 e_1 e_2 e_3 b3) (w_2 hw) (w_3 hw) (w_4 hw) (w_5 hw) (by decide) pd_0 rfl rfl rfl at_101 rfl (W := 0) rfl (by decide) (by decide) (by decide) (by decide) ?_
        refine Wk.ifcF (q := 107) at_104 rfl (by decide : ¬ (1 : Int32) = (0 : Int32)) ?_
        refine Wk.iconst (q := 108) (v := (1 : Int32)) at_107 rfl rfl ?_
        refine Wk.goto (q := 112) at_108 (by decide) rfl ?_
        refine Wk.istore (q := 114) (ls' := #[.val (.int p0), .val (.int p1), .val (.int p2), .val (.int p3), .val (.int p4), .val (.int p5), .val (.ref a1), .val (.int (0 : Int32)), .val (.int (3 : Int32)), .val (.int (1 : Int32))]) at_112 rfl rfl ?_
        refine Wk.aload (q := 116) at_114 rfl rfl rfl ?_
        refine Wk.iload (q := 118) at_116 rfl rfl ?_
        refine Wk.iload (q := 120) at_118 rfl rfl ?_
        refine Wk.callS2 (q := 123) (argsL := [(.ref a1), (.int (0 : Int32)), (.int (3 : Int32))]) (rest := []) (fr := 0) (lo := 0) (P := fun w => ((¬ (tabN (b0 &&& (255 : Int32)).toNatClampNeg) = (0 : Int32)) ∧ (¬ (tabN (b1 &&& (255 : Int32)).toNatClampNeg) = (0 : Int32)) ∧ (¬ (tabN (b2 &&& (255 : Int32)).toNatClampNeg) = (0 : Int32)) ∧ w = (.int (1 : Int32))) ∨ ((¬ (tabN (b0 &&& (255 : Int32)).toNatClampNeg) = (0 : Int32)) ∧ (¬ (tabN (b1 &&& (255 : Int32)).toNatClampNeg) = (0 : Int32)) ∧ ((tabN (b2 &&& (255 : Int32)).toNatClampNeg) = (0 : Int32)) ∧ w = (.int (0 : Int32))) ∨ ((¬ (tabN (b0 &&& (255 : Int32)).toNatClampNeg) = (0 : Int32)) ∧ ((tabN (b1 &&& (255 : Int32)).toNatClampNeg) = (0 : Int32)) ∧ w = (.int (0 : Int32))) ∨ (((tabN (b0 &&& (255 : Int32)).toNatClampNeg) = (0 : Int32)) ∧ w = (.int (0 : Int32)))) (m_16 hw F A1 S1 e_0 e_1 e_2 e_3) (w_9 hw) (w_10 hw) (w_11 hw) (w_12 hw) (by decide) pd_1 rfl rfl rfl at_120 rfl (W := 0) rfl (by decide) (by decide) (by decide) (by decide) ?_
        intro w40 hP; rcases hP with ⟨h41, h42, h43, rfl⟩ | ⟨h44, h45, h46, rfl⟩ | ⟨h47, h48, rfl⟩ | ⟨h49, rfl⟩
        · refine Wk.iload (q := 125) at_123 rfl rfl ?_
          refine Wk.icmpF (q := 128) at_125 rfl (by decide : (1 : Int32) = (1 : Int32)) ?_
          refine Wk.iconst (q := 129) (v := (1 : Int32)) at_128 rfl rfl ?_
          refine Wk.goto (q := 133) at_129 (by decide) rfl ?_
          exact Wk.retZ rfl rfl at_133 (by decide) (by decide) rfl
        · exact absurd h46 h29
        · exact absurd h48 h16
        · exact absurd h49 h3
set_option maxRecDepth 65536 in
set_option maxHeartbeats 40000000 in
theorem law_tail_0_4 {l : Launch} {Z : State} {a0 : Array Value} {n0 : Nat} {h : Heap}  {a_T : Addr} {c_T : Cell} (hw : ∀ d ∈ tables_1, d.before a0 Z = true) (F : OwnF Z h  a_T c_T) {a1 : Addr} {c1 : Cell} {b0 b1 b2 b3 : Int32} (A1 : Arr Z h a1 c1 .byte) (S1 : c1.slots.size = 4) (e_0 : c1.slots[0]? = some (Value.int b0)) (e_1 : c1.slots[1]? = some (Value.int b1)) (e_2 : c1.slots[2]? = some (Value.int b2)) (e_3 : c1.slots[3]? = some (Value.int b3)) (p0 p1 p2 p3 p4 p5 : Int32) (k_s : ((p4 &&& (2147483647 : Int32)) % (5 : Int32)) = (0 : Int32)) (k_e : ((p5 &&& (2147483647 : Int32)) % (5 : Int32)) = (4 : Int32)) : Wk l Z n0 "com/example/tallykey/tallykey/HttpSyntaxIsTextPinLaw" "law" code maxLocals ret room_1 16 128 (fun v _ => v = some (.int (1 : Int32))) h 1 4 29 #[.val (.int p0), .val (.int p1), .val (.int p2), .val (.int p3), .val (.int p4), .val (.int p5), .val (.ref a1), .unset, .unset, .unset] [] := by
  refine Wk.iload (q := 31) at_29 rfl rfl ?_
  refine Wk.ldcI (q := 33) (w_1 hw) at_31 rfl ?_
  refine Wk.iand (q := 34) (v := (p4 &&& (2147483647 : Int32))) at_33 rfl rfl ?_
  refine Wk.iconst (q := 35) (v := (5 : Int32)) at_34 rfl rfl ?_
  refine Wk.irem (q := 36) (v := (0 : Int32)) at_35 rfl (by decide) k_s ?_
  refine Wk.istore (q := 38) (ls' := #[.val (.int p0), .val (.int p1), .val (.int p2), .val (.int p3), .val (.int p4), .val (.int p5), .val (.ref a1), .val (.int (0 : Int32)), .unset, .unset]) at_36 rfl rfl ?_
  refine Wk.iload (q := 40) at_38 rfl rfl ?_
  refine Wk.ldcI (q := 42) (w_1 hw) at_40 rfl ?_
  refine Wk.iand (q := 43) (v := (p5 &&& (2147483647 : Int32))) at_42 rfl rfl ?_
  refine Wk.iconst (q := 44) (v := (5 : Int32)) at_43 rfl rfl ?_
  refine Wk.irem (q := 45) (v := (4 : Int32)) at_44 rfl (by decide) k_e ?_
  refine Wk.istore (q := 47) (ls' := #[.val (.int p0), .val (.int p1), .val (.int p2), .val (.int p3), .val (.int p4), .val (.int p5), .val (.ref a1), .val (.int (0 : Int32)), .val (.int (4 : Int32)), .unset]) at_45 rfl rfl ?_
  refine Wk.iconst (q := 48) (v := (0 : Int32)) at_47 rfl rfl ?_
  refine Wk.iload (q := 50) at_48 rfl rfl ?_
  refine Wk.iload (q := 52) at_50 rfl rfl ?_
  refine Wk.aload (q := 54) at_52 rfl rfl rfl ?_
  refine Wk.iconst (q := 55) (v := (0 : Int32)) at_54 rfl rfl ?_
  refine Wk.baloadB (q := 56) A1 (by rw [S1]; decide) e_0 at_55 rfl ?_
  refine Wk.callS2 (q := 59) (argsL := [(.int (0 : Int32)), (.int (0 : Int32)), (.int (4 : Int32)), (.int b0)]) (rest := []) (fr := 1) (lo := 13) (P := fun w => (((tabN (b0 &&& (255 : Int32)).toNatClampNeg) = (0 : Int32)) ∧ w = (.int (0 : Int32))) ∨ ((¬ (tabN (b0 &&& (255 : Int32)).toNatClampNeg) = (0 : Int32)) ∧ w = (.int (1 : Int32)))) (m_20 hw F A1 S1 e_0 e_1 e_2 e_3 b0) (w_2 hw) (w_3 hw) (w_4 hw) (w_5 hw) (by decide) pd_0 rfl rfl rfl at_56 rfl (W := 0) rfl (by decide) (by decide) (by decide) (by decide) ?_
  intro w1 hP; rcases hP with ⟨h2, rfl⟩ | ⟨h3, rfl⟩
  · refine Wk.ifcT (q := 111) at_59 (by decide) rfl (by decide : (0 : Int32) = (0 : Int32)) ?_
    refine Wk.iconst (q := 112) (v := (0 : Int32)) at_111 rfl rfl ?_
    refine Wk.istore (q := 114) (ls' := #[.val (.int p0), .val (.int p1), .val (.int p2), .val (.int p3), .val (.int p4), .val (.int p5), .val (.ref a1), .val (.int (0 : Int32)), .val (.int (4 : Int32)), .val (.int (0 : Int32))]) at_112 rfl rfl ?_
    refine Wk.aload (q := 116) at_114 rfl rfl rfl ?_
    refine Wk.iload (q := 118) at_116 rfl rfl ?_
    refine Wk.iload (q := 120) at_118 rfl rfl ?_
    refine Wk.callS2 (q := 123) (argsL := [(.ref a1), (.int (0 : Int32)), (.int (4 : Int32))]) (rest := []) (fr := 0) (lo := 0) (P := fun w => ((¬ (tabN (b0 &&& (255 : Int32)).toNatClampNeg) = (0 : Int32)) ∧ (¬ (tabN (b1 &&& (255 : Int32)).toNatClampNeg) = (0 : Int32)) ∧ (¬ (tabN (b2 &&& (255 : Int32)).toNatClampNeg) = (0 : Int32)) ∧ (¬ (tabN (b3 &&& (255 : Int32)).toNatClampNeg) = (0 : Int32)) ∧ w = (.int (1 : Int32))) ∨ ((¬ (tabN (b0 &&& (255 : Int32)).toNatClampNeg) = (0 : Int32)) ∧ (¬ (tabN (b1 &&& (255 : Int32)).toNatClampNeg) = (0 : Int32)) ∧ (¬ (tabN (b2 &&& (255 : Int32)).toNatClampNeg) = (0 : Int32)) ∧ ((tabN (b3 &&& (255 : Int32)).toNatClampNeg) = (0 : Int32)) ∧ w = (.int (0 : Int32))) ∨ ((¬ (tabN (b0 &&& (255 : Int32)).toNatClampNeg) = (0 : Int32)) ∧ (¬ (tabN (b1 &&& (255 : Int32)).toNatClampNeg) = (0 : Int32)) ∧ ((tabN (b2 &&& (255 : Int32)).toNatClampNeg) = (0 : Int32)) ∧ w = (.int (0 : Int32))) ∨ ((¬ (tabN (b0 &&& (255 : Int32)).toNatClampNeg) = (0 : Int32)) ∧ ((tabN (b1 &&& (255 : Int32)).toNatClampNeg) = (0 : Int32)) ∧ w = (.int (0 : Int32))) ∨ (((tabN (b0 &&& (255 : Int32)).toNatClampNeg) = (0 : Int32)) ∧ w = (.int (0 : Int32)))) (m_21 hw F A1 S1 e_0 e_1 e_2 e_3) (w_9 hw) (w_10 hw) (w_11 hw) (w_12 hw) (by decide) pd_1 rfl rfl rfl at_120 rfl (W := 0) rfl (by decide) (by decide) (by decide) (by decide) ?_
    intro w4 hP; rcases hP with ⟨h5, h6, h7, h8, rfl⟩ | ⟨h9, h10, h11, h12, rfl⟩ | ⟨h13, h14, h15, rfl⟩ | ⟨h16, h17, rfl⟩ | ⟨h18, rfl⟩
    · exact absurd h2 h5
    · exact absurd h2 h9
    · exact absurd h2 h13
    · exact absurd h2 h16
    · refine Wk.iload (q := 125) at_123 rfl rfl ?_
      refine Wk.icmpF (q := 128) at_125 rfl (by decide : (0 : Int32) = (0 : Int32)) ?_
      refine Wk.iconst (q := 129) (v := (1 : Int32)) at_128 rfl rfl ?_
      refine Wk.goto (q := 133) at_129 (by decide) rfl ?_
      exact Wk.retZ rfl rfl at_133 (by decide) (by decide) rfl
  · refine Wk.ifcF (q := 62) at_59 rfl (by decide : ¬ (1 : Int32) = (0 : Int32)) ?_
    refine Wk.iconst (q := 63) (v := (1 : Int32)) at_62 rfl rfl ?_
    refine Wk.iload (q := 65) at_63 rfl rfl ?_
    refine Wk.iload (q := 67) at_65 rfl rfl ?_
    refine Wk.aload (q := 69) at_67 rfl rfl rfl ?_
    refine Wk.iconst (q := 70) (v := (1 : Int32)) at_69 rfl rfl ?_
    refine Wk.baloadB (q := 71) A1 (by rw [S1]; decide) e_1 at_70 rfl ?_
    refine Wk.callS2 (q := 74) (argsL := [(.int (1 : Int32)), (.int (0 : Int32)), (.int (4 : Int32)), (.int b1)]) (rest := []) (fr := 1) (lo := 13) (P := fun w => (((tabN (b1 &&& (255 : Int32)).toNatClampNeg) = (0 : Int32)) ∧ w = (.int (0 : Int32))) ∨ ((¬ (tabN (b1 &&& (255 : Int32)).toNatClampNeg) = (0 : Int32)) ∧ w = (.int (1 : Int32)))) (m_22 hw F A1 S1 e_0 e_1 e_2 e_3 b1) (w_2 hw) (w_3 hw) (w_4 hw) (w_5 hw) (by decide) pd_0 rfl rfl rfl at_71 rfl (W := 0) rfl (by decide) (by decide) (by decide) (by decide) ?_
    intro w19 hP; rcases hP with ⟨h20, rfl⟩ | ⟨h21, rfl⟩
    · refine Wk.ifcT (q := 111) at_74 (by decide) rfl (by decide : (0 : Int32) = (0 : Int32)) ?_
      refine Wk.iconst (q := 112) (v := (0 : Int32)) at_111 rfl rfl ?_
      refine Wk.istore (q := 114) (ls' := #[.val (.int p0), .val (.int p1), .val (.int p2), .val (.int p3), .val (.int p4), .val (.int p5), .val (.ref a1), .val (.int (0 : Int32)), .val (.int (4 : Int32)), .val (.int (0 : Int32))]) at_112 rfl rfl ?_
      refine Wk.aload (q := 116) at_114 rfl rfl rfl ?_
      refine Wk.iload (q := 118) at_116 rfl rfl ?_
      refine Wk.iload (q := 120) at_118 rfl rfl ?_
      refine Wk.callS2 (q := 123) (argsL := [(.ref a1), (.int (0 : Int32)), (.int (4 : Int32))]) (rest := []) (fr := 0) (lo := 0) (P := fun w => ((¬ (tabN (b0 &&& (255 : Int32)).toNatClampNeg) = (0 : Int32)) ∧ (¬ (tabN (b1 &&& (255 : Int32)).toNatClampNeg) = (0 : Int32)) ∧ (¬ (tabN (b2 &&& (255 : Int32)).toNatClampNeg) = (0 : Int32)) ∧ (¬ (tabN (b3 &&& (255 : Int32)).toNatClampNeg) = (0 : Int32)) ∧ w = (.int (1 : Int32))) ∨ ((¬ (tabN (b0 &&& (255 : Int32)).toNatClampNeg) = (0 : Int32)) ∧ (¬ (tabN (b1 &&& (255 : Int32)).toNatClampNeg) = (0 : Int32)) ∧ (¬ (tabN (b2 &&& (255 : Int32)).toNatClampNeg) = (0 : Int32)) ∧ ((tabN (b3 &&& (255 : Int32)).toNatClampNeg) = (0 : Int32)) ∧ w = (.int (0 : Int32))) ∨ ((¬ (tabN (b0 &&& (255 : Int32)).toNatClampNeg) = (0 : Int32)) ∧ (¬ (tabN (b1 &&& (255 : Int32)).toNatClampNeg) = (0 : Int32)) ∧ ((tabN (b2 &&& (255 : Int32)).toNatClampNeg) = (0 : Int32)) ∧ w = (.int (0 : Int32))) ∨ ((¬ (tabN (b0 &&& (255 : Int32)).toNatClampNeg) = (0 : Int32)) ∧ ((tabN (b1 &&& (255 : Int32)).toNatClampNeg) = (0 : Int32)) ∧ w = (.int (0 : Int32))) ∨ (((tabN (b0 &&& (255 : Int32)).toNatClampNeg) = (0 : Int32)) ∧ w = (.int (0 : Int32)))) (m_21 hw F A1 S1 e_0 e_1 e_2 e_3) (w_9 hw) (w_10 hw) (w_11 hw) (w_12 hw) (by decide) pd_1 rfl rfl rfl at_120 rfl (W := 0) rfl (by decide) (by decide) (by decide) (by decide) ?_
      intro w22 hP; rcases hP with ⟨h23, h24, h25, h26, rfl⟩ | ⟨h27, h28, h29, h30, rfl⟩ | ⟨h31, h32, h33, rfl⟩ | ⟨h34, h35, rfl⟩ | ⟨h36, rfl⟩
      · exact absurd h20 h24
      · exact absurd h20 h28
      · exact absurd h20 h32
      · refine Wk.iload (q := 125) at_123 rfl rfl ?_
        refine Wk.icmpF (q := 128) at_125 rfl (by decide : (0 : Int32) = (0 : Int32)) ?_
        refine Wk.iconst (q := 129) (v := (1 : Int32)) at_128 rfl rfl ?_
        refine Wk.goto (q := 133) at_129 (by decide) rfl ?_
        exact Wk.retZ rfl rfl at_133 (by decide) (by decide) rfl
      · exact absurd h36 h3
    · refine Wk.ifcF (q := 77) at_74 rfl (by decide : ¬ (1 : Int32) = (0 : Int32)) ?_
      refine Wk.iconst (q := 78) (v := (2 : Int32)) at_77 rfl rfl ?_
      refine Wk.iload (q := 80) at_78 rfl rfl ?_
      refine Wk.iload (q := 82) at_80 rfl rfl ?_
      refine Wk.aload (q := 84) at_82 rfl rfl rfl ?_
      refine Wk.iconst (q := 85) (v := (2 : Int32)) at_84 rfl rfl ?_
      refine Wk.baloadB (q := 86) A1 (by rw [S1]; decide) e_2 at_85 rfl ?_
      refine Wk.callS2 (q := 89) (argsL := [(.int (2 : Int32)), (.int (0 : Int32)), (.int (4 : Int32)), (.int b2)]) (rest := []) (fr := 1) (lo := 13) (P := fun w => (((tabN (b2 &&& (255 : Int32)).toNatClampNeg) = (0 : Int32)) ∧ w = (.int (0 : Int32))) ∨ ((¬ (tabN (b2 &&& (255 : Int32)).toNatClampNeg) = (0 : Int32)) ∧ w = (.int (1 : Int32)))) (m_23 hw F A1 S1 e_0 e_1 e_2 e_3 b2) (w_2 hw) (w_3 hw) (w_4 hw) (w_5 hw) (by decide) pd_0 rfl rfl rfl at_86 rfl (W := 0) rfl (by decide) (by decide) (by decide) (by decide) ?_
      intro w37 hP; rcases hP with ⟨h38, rfl⟩ | ⟨h39, rfl⟩
      · refine Wk.ifcT (q := 111) at_89 (by decide) rfl (by decide : (0 : Int32) = (0 : Int32)) ?_
        refine Wk.iconst (q := 112) (v := (0 : Int32)) at_111 rfl rfl ?_
        refine Wk.istore (q := 114) (ls' := #[.val (.int p0), .val (.int p1), .val (.int p2), .val (.int p3), .val (.int p4), .val (.int p5), .val (.ref a1), .val (.int (0 : Int32)), .val (.int (4 : Int32)), .val (.int (0 : Int32))]) at_112 rfl rfl ?_
        refine Wk.aload (q := 116) at_114 rfl rfl rfl ?_
        refine Wk.iload (q := 118) at_116 rfl rfl ?_
        refine Wk.iload (q := 120) at_118 rfl rfl ?_
        refine Wk.callS2 (q := 123) (argsL := [(.ref a1), (.int (0 : Int32)), (.int (4 : Int32))]) (rest := []) (fr := 0) (lo := 0) (P := fun w => ((¬ (tabN (b0 &&& (255 : Int32)).toNatClampNeg) = (0 : Int32)) ∧ (¬ (tabN (b1 &&& (255 : Int32)).toNatClampNeg) = (0 : Int32)) ∧ (¬ (tabN (b2 &&& (255 : Int32)).toNatClampNeg) = (0 : Int32)) ∧ (¬ (tabN (b3 &&& (255 : Int32)).toNatClampNeg) = (0 : Int32)) ∧ w = (.int (1 : Int32))) ∨ ((¬ (tabN (b0 &&& (255 : Int32)).toNatClampNeg) = (0 : Int32)) ∧ (¬ (tabN (b1 &&& (255 : Int32)).toNatClampNeg) = (0 : Int32)) ∧ (¬ (tabN (b2 &&& (255 : Int32)).toNatClampNeg) = (0 : Int32)) ∧ ((tabN (b3 &&& (255 : Int32)).toNatClampNeg) = (0 : Int32)) ∧ w = (.int (0 : Int32))) ∨ ((¬ (tabN (b0 &&& (255 : Int32)).toNatClampNeg) = (0 : Int32)) ∧ (¬ (tabN (b1 &&& (255 : Int32)).toNatClampNeg) = (0 : Int32)) ∧ ((tabN (b2 &&& (255 : Int32)).toNatClampNeg) = (0 : Int32)) ∧ w = (.int (0 : Int32))) ∨ ((¬ (tabN (b0 &&& (255 : Int32)).toNatClampNeg) = (0 : Int32)) ∧ ((tabN (b1 &&& (255 : Int32)).toNatClampNeg) = (0 : Int32)) ∧ w = (.int (0 : Int32))) ∨ (((tabN (b0 &&& (255 : Int32)).toNatClampNeg) = (0 : Int32)) ∧ w = (.int (0 : Int32)))) (m_21 hw F A1 S1 e_0 e_1 e_2 e_3) (w_9 hw) (w_10 hw) (w_11 hw) (w_12 hw) (by decide) pd_1 rfl rfl rfl at_120 rfl (W := 0) rfl (by decide) (by decide) (by decide) (by decide) ?_
        intro w40 hP; rcases hP with ⟨h41, h42, h43, h44, rfl⟩ | ⟨h45, h46, h47, h48, rfl⟩ | ⟨h49, h50, h51, rfl⟩ | ⟨h52, h53, rfl⟩ | ⟨h54, rfl⟩
        · exact absurd h38 h43
        · exact absurd h38 h47
        · refine Wk.iload (q := 125) at_123 rfl rfl ?_
          refine Wk.icmpF (q := 128) at_125 rfl (by decide : (0 : Int32) = (0 : Int32)) ?_
          refine Wk.iconst (q := 129) (v := (1 : Int32)) at_128 rfl rfl ?_
          refine Wk.goto (q := 133) at_129 (by decide) rfl ?_
          exact Wk.retZ rfl rfl at_133 (by decide) (by decide) rfl
        · exact absurd h53 h21
        · exact absurd h54 h3
      · refine Wk.ifcF (q := 92) at_89 rfl (by decide : ¬ (1 : Int32) = (0 : Int32)) ?_
        refine Wk.iconst (q := 93) (v := (3 : Int32)) at_92 rfl rfl ?_
        refine Wk.iload (q := 95) at_93 rfl rfl ?_
        refine Wk.iload (q := 97) at_95 rfl rfl ?_
        refine Wk.aload (q := 99) at_97 rfl rfl rfl ?_
        refine Wk.iconst (q := 100) (v := (3 : Int32)) at_99 rfl rfl ?_
        refine Wk.baloadB (q := 101) A1 (by rw [S1]; decide) e_3 at_100 rfl ?_
        refine Wk.callS2 (q := 104) (argsL := [(.int (3 : Int32)), (.int (0 : Int32)), (.int (4 : Int32)), (.int b3)]) (rest := []) (fr := 1) (lo := 13) (P := fun w => (((tabN (b3 &&& (255 : Int32)).toNatClampNeg) = (0 : Int32)) ∧ w = (.int (0 : Int32))) ∨ ((¬ (tabN (b3 &&& (255 : Int32)).toNatClampNeg) = (0 : Int32)) ∧ w = (.int (1 : Int32)))) (m_24 hw F A1 S1 e_0 e_1 e_2 e_3 b3) (w_2 hw) (w_3 hw) (w_4 hw) (w_5 hw) (by decide) pd_0 rfl rfl rfl at_101 rfl (W := 0) rfl (by decide) (by decide) (by decide) (by decide) ?_
        intro w55 hP; rcases hP with ⟨h56, rfl⟩ | ⟨h57, rfl⟩
        · refine Wk.ifcT (q := 111) at_104 (by decide) rfl (by decide : (0 : Int32) = (0 : Int32)) ?_
          refine Wk.iconst (q := 112) (v := (0 : Int32)) at_111 rfl rfl ?_
          refine Wk.istore (q := 114) (ls' := #[.val (.int p0), .val (.int p1), .val (.int p2), .val (.int p3), .val (.int p4), .val (.int p5), .val (.ref a1), .val (.int (0 : Int32)), .val (.int (4 : Int32)), .val (.int (0 : Int32))]) at_112 rfl rfl ?_
          refine Wk.aload (q := 116) at_114 rfl rfl rfl ?_
          refine Wk.iload (q := 118) at_116 rfl rfl ?_
          refine Wk.iload (q := 120) at_118 rfl rfl ?_
          refine Wk.callS2 (q := 123) (argsL := [(.ref a1), (.int (0 : Int32)), (.int (4 : Int32))]) (rest := []) (fr := 0) (lo := 0) (P := fun w => ((¬ (tabN (b0 &&& (255 : Int32)).toNatClampNeg) = (0 : Int32)) ∧ (¬ (tabN (b1 &&& (255 : Int32)).toNatClampNeg) = (0 : Int32)) ∧ (¬ (tabN (b2 &&& (255 : Int32)).toNatClampNeg) = (0 : Int32)) ∧ (¬ (tabN (b3 &&& (255 : Int32)).toNatClampNeg) = (0 : Int32)) ∧ w = (.int (1 : Int32))) ∨ ((¬ (tabN (b0 &&& (255 : Int32)).toNatClampNeg) = (0 : Int32)) ∧ (¬ (tabN (b1 &&& (255 : Int32)).toNatClampNeg) = (0 : Int32)) ∧ (¬ (tabN (b2 &&& (255 : Int32)).toNatClampNeg) = (0 : Int32)) ∧ ((tabN (b3 &&& (255 : Int32)).toNatClampNeg) = (0 : Int32)) ∧ w = (.int (0 : Int32))) ∨ ((¬ (tabN (b0 &&& (255 : Int32)).toNatClampNeg) = (0 : Int32)) ∧ (¬ (tabN (b1 &&& (255 : Int32)).toNatClampNeg) = (0 : Int32)) ∧ ((tabN (b2 &&& (255 : Int32)).toNatClampNeg) = (0 : Int32)) ∧ w = (.int (0 : Int32))) ∨ ((¬ (tabN (b0 &&& (255 : Int32)).toNatClampNeg) = (0 : Int32)) ∧ ((tabN (b1 &&& (255 : Int32)).toNatClampNeg) = (0 : Int32)) ∧ w = (.int (0 : Int32))) ∨ (((tabN (b0 &&& (255 : Int32)).toNatClampNeg) = (0 : Int32)) ∧ w = (.int (0 : Int32)))) (m_21 hw F A1 S1 e_0 e_1 e_2 e_3) (w_9 hw) (w_10 hw) (w_11 hw) (w_12 hw) (by decide) pd_1 rfl rfl rfl at_120 rfl (W := 0) rfl (by decide) (by decide) (by decide) (by decide) ?_
          intro w58 hP; rcases hP with ⟨h59, h60, h61, h62, rfl⟩ | ⟨h63, h64, h65, h66, rfl⟩ | ⟨h67, h68, h69, rfl⟩ | ⟨h70, h71, rfl⟩ | ⟨h72, rfl⟩
          · exact absurd h56 h62
          · refine Wk.iload (q := 125) at_123 rfl rfl ?_
            refine Wk.icmpF (q := 128) at_125 rfl (by decide : (0 : Int32) = (0 : Int32)) ?_
            refine Wk.iconst (q := 129) (v := (1 : Int32)) at_128 rfl rfl ?_
            refine Wk.goto (q := 133) at_129 (by decide) rfl ?_
            exact Wk.retZ rfl rfl at_133 (by decide) (by decide) rfl
          · exact absurd h69 h39
          · exact absurd h71 h21
          · exact absurd h72 h3
        · refine Wk.ifcF (q := 107) at_104 rfl (by decide : ¬ (1 : Int32) = (0 : Int32)) ?_
          refine Wk.iconst (q := 108) (v := (1 : Int32)) at_107 rfl rfl ?_
          refine Wk.goto (q := 112) at_108 (by decide) rfl ?_
          refine Wk.istore (q := 114) (ls' := #[.val (.int p0), .val (.int p1), .val (.int p2), .val (.int p3), .val (.int p4), .val (.int p5), .val (.ref a1), .val (.int (0 : Int32)), .val (.int (4 : Int32)), .val (.int (1 : Int32))]) at_112 rfl rfl ?_
          refine Wk.aload (q := 116) at_114 rfl rfl rfl ?_
          refine Wk.iload (q := 118) at_116 rfl rfl ?_
          refine Wk.iload (q := 120) at_118 rfl rfl ?_
          refine Wk.callS2 (q := 123) (argsL := [(.ref a1), (.int (0 : Int32)), (.int (4 : Int32))]) (rest := []) (fr := 0) (lo := 0) (P := fun w => ((¬ (tabN (b0 &&& (255 : Int32)).toNatClampNeg) = (0 : Int32)) ∧ (¬ (tabN (b1 &&& (255 : Int32)).toNatClampNeg) = (0 : Int32)) ∧ (¬ (tabN (b2 &&& (255 : Int32)).toNatClampNeg) = (0 : Int32)) ∧ (¬ (tabN (b3 &&& (255 : Int32)).toNatClampNeg) = (0 : Int32)) ∧ w = (.int (1 : Int32))) ∨ ((¬ (tabN (b0 &&& (255 : Int32)).toNatClampNeg) = (0 : Int32)) ∧ (¬ (tabN (b1 &&& (255 : Int32)).toNatClampNeg) = (0 : Int32)) ∧ (¬ (tabN (b2 &&& (255 : Int32)).toNatClampNeg) = (0 : Int32)) ∧ ((tabN (b3 &&& (255 : Int32)).toNatClampNeg) = (0 : Int32)) ∧ w = (.int (0 : Int32))) ∨ ((¬ (tabN (b0 &&& (255 : Int32)).toNatClampNeg) = (0 : Int32)) ∧ (¬ (tabN (b1 &&& (255 : Int32)).toNatClampNeg) = (0 : Int32)) ∧ ((tabN (b2 &&& (255 : Int32)).toNatClampNeg) = (0 : Int32)) ∧ w = (.int (0 : Int32))) ∨ ((¬ (tabN (b0 &&& (255 : Int32)).toNatClampNeg) = (0 : Int32)) ∧ ((tabN (b1 &&& (255 : Int32)).toNatClampNeg) = (0 : Int32)) ∧ w = (.int (0 : Int32))) ∨ (((tabN (b0 &&& (255 : Int32)).toNatClampNeg) = (0 : Int32)) ∧ w = (.int (0 : Int32)))) (m_21 hw F A1 S1 e_0 e_1 e_2 e_3) (w_9 hw) (w_10 hw) (w_11 hw) (w_12 hw) (by decide) pd_1 rfl rfl rfl at_120 rfl (W := 0) rfl (by decide) (by decide) (by decide) (by decide) ?_
          intro w73 hP; rcases hP with ⟨h74, h75, h76, h77, rfl⟩ | ⟨h78, h79, h80, h81, rfl⟩ | ⟨h82, h83, h84, rfl⟩ | ⟨h85, h86, rfl⟩ | ⟨h87, rfl⟩
          · refine Wk.iload (q := 125) at_123 rfl rfl ?_
            refine Wk.icmpF (q := 128) at_125 rfl (by decide : (1 : Int32) = (1 : Int32)) ?_
            refine Wk.iconst (q := 129) (v := (1 : Int32)) at_128 rfl rfl ?_
            refine Wk.goto (q := 133) at_129 (by decide) rfl ?_
            exact Wk.retZ rfl rfl at_133 (by decide) (by decide) rfl
          · exact absurd h81 h57
          · exact absurd h84 h39
          · exact absurd h86 h21
          · exact absurd h87 h3
set_option maxRecDepth 65536 in
set_option maxHeartbeats 40000000 in
theorem law_tail_1_0 {l : Launch} {Z : State} {a0 : Array Value} {n0 : Nat} {h : Heap}  {a_T : Addr} {c_T : Cell} (hw : ∀ d ∈ tables_1, d.before a0 Z = true) (F : OwnF Z h  a_T c_T) {a1 : Addr} {c1 : Cell} {b0 b1 b2 b3 : Int32} (A1 : Arr Z h a1 c1 .byte) (S1 : c1.slots.size = 4) (e_0 : c1.slots[0]? = some (Value.int b0)) (e_1 : c1.slots[1]? = some (Value.int b1)) (e_2 : c1.slots[2]? = some (Value.int b2)) (e_3 : c1.slots[3]? = some (Value.int b3)) (p0 p1 p2 p3 p4 p5 : Int32) (k_s : ((p4 &&& (2147483647 : Int32)) % (5 : Int32)) = (1 : Int32)) (k_e : ((p5 &&& (2147483647 : Int32)) % (5 : Int32)) = (0 : Int32)) : Wk l Z n0 "com/example/tallykey/tallykey/HttpSyntaxIsTextPinLaw" "law" code maxLocals ret room_1 16 128 (fun v _ => v = some (.int (1 : Int32))) h 1 4 29 #[.val (.int p0), .val (.int p1), .val (.int p2), .val (.int p3), .val (.int p4), .val (.int p5), .val (.ref a1), .unset, .unset, .unset] [] := by
  refine Wk.iload (q := 31) at_29 rfl rfl ?_
  refine Wk.ldcI (q := 33) (w_1 hw) at_31 rfl ?_
  refine Wk.iand (q := 34) (v := (p4 &&& (2147483647 : Int32))) at_33 rfl rfl ?_
  refine Wk.iconst (q := 35) (v := (5 : Int32)) at_34 rfl rfl ?_
  refine Wk.irem (q := 36) (v := (1 : Int32)) at_35 rfl (by decide) k_s ?_
  refine Wk.istore (q := 38) (ls' := #[.val (.int p0), .val (.int p1), .val (.int p2), .val (.int p3), .val (.int p4), .val (.int p5), .val (.ref a1), .val (.int (1 : Int32)), .unset, .unset]) at_36 rfl rfl ?_
  refine Wk.iload (q := 40) at_38 rfl rfl ?_
  refine Wk.ldcI (q := 42) (w_1 hw) at_40 rfl ?_
  refine Wk.iand (q := 43) (v := (p5 &&& (2147483647 : Int32))) at_42 rfl rfl ?_
  refine Wk.iconst (q := 44) (v := (5 : Int32)) at_43 rfl rfl ?_
  refine Wk.irem (q := 45) (v := (0 : Int32)) at_44 rfl (by decide) k_e ?_
  refine Wk.istore (q := 47) (ls' := #[.val (.int p0), .val (.int p1), .val (.int p2), .val (.int p3), .val (.int p4), .val (.int p5), .val (.ref a1), .val (.int (1 : Int32)), .val (.int (0 : Int32)), .unset]) at_45 rfl rfl ?_
  refine Wk.iconst (q := 48) (v := (0 : Int32)) at_47 rfl rfl ?_
  refine Wk.iload (q := 50) at_48 rfl rfl ?_
  refine Wk.iload (q := 52) at_50 rfl rfl ?_
  refine Wk.aload (q := 54) at_52 rfl rfl rfl ?_
  refine Wk.iconst (q := 55) (v := (0 : Int32)) at_54 rfl rfl ?_
  refine Wk.baloadB (q := 56) A1 (by rw [S1]; decide) e_0 at_55 rfl ?_
  refine Wk.callS1 (q := 59) (argsL := [(.int (0 : Int32)), (.int (1 : Int32)), (.int (0 : Int32)), (.int b0)]) (rest := []) (fr := 0) (lo := 0) (v0 := (.int (1 : Int32))) (m_25 hw F A1 S1 e_0 e_1 e_2 e_3 b0) (w_2 hw) (w_3 hw) (w_4 hw) (w_5 hw) (by decide) pd_0 rfl rfl rfl at_56 rfl (W := 0) rfl (by decide) (by decide) (by decide) (by decide) ?_
  refine Wk.ifcF (q := 62) at_59 rfl (by decide : ¬ (1 : Int32) = (0 : Int32)) ?_
  refine Wk.iconst (q := 63) (v := (1 : Int32)) at_62 rfl rfl ?_
  refine Wk.iload (q := 65) at_63 rfl rfl ?_
  refine Wk.iload (q := 67) at_65 rfl rfl ?_
  refine Wk.aload (q := 69) at_67 rfl rfl rfl ?_
  refine Wk.iconst (q := 70) (v := (1 : Int32)) at_69 rfl rfl ?_
  refine Wk.baloadB (q := 71) A1 (by rw [S1]; decide) e_1 at_70 rfl ?_
  refine Wk.callS1 (q := 74) (argsL := [(.int (1 : Int32)), (.int (1 : Int32)), (.int (0 : Int32)), (.int b1)]) (rest := []) (fr := 0) (lo := 0) (v0 := (.int (1 : Int32))) (m_26 hw F A1 S1 e_0 e_1 e_2 e_3 b1) (w_2 hw) (w_3 hw) (w_4 hw) (w_5 hw) (by decide) pd_0 rfl rfl rfl at_71 rfl (W := 0) rfl (by decide) (by decide) (by decide) (by decide) ?_
  refine Wk.ifcF (q := 77) at_74 rfl (by decide : ¬ (1 : Int32) = (0 : Int32)) ?_
  refine Wk.iconst (q := 78) (v := (2 : Int32)) at_77 rfl rfl ?_
  refine Wk.iload (q := 80) at_78 rfl rfl ?_
  refine Wk.iload (q := 82) at_80 rfl rfl ?_
  refine Wk.aload (q := 84) at_82 rfl rfl rfl ?_
  refine Wk.iconst (q := 85) (v := (2 : Int32)) at_84 rfl rfl ?_
  refine Wk.baloadB (q := 86) A1 (by rw [S1]; decide) e_2 at_85 rfl ?_
  refine Wk.callS1 (q := 89) (argsL := [(.int (2 : Int32)), (.int (1 : Int32)), (.int (0 : Int32)), (.int b2)]) (rest := []) (fr := 0) (lo := 0) (v0 := (.int (1 : Int32))) (m_27 hw F A1 S1 e_0 e_1 e_2 e_3 b2) (w_2 hw) (w_3 hw) (w_4 hw) (w_5 hw) (by decide) pd_0 rfl rfl rfl at_86 rfl (W := 0) rfl (by decide) (by decide) (by decide) (by decide) ?_
  refine Wk.ifcF (q := 92) at_89 rfl (by decide : ¬ (1 : Int32) = (0 : Int32)) ?_
  refine Wk.iconst (q := 93) (v := (3 : Int32)) at_92 rfl rfl ?_
  refine Wk.iload (q := 95) at_93 rfl rfl ?_
  refine Wk.iload (q := 97) at_95 rfl rfl ?_
  refine Wk.aload (q := 99) at_97 rfl rfl rfl ?_
  refine Wk.iconst (q := 100) (v := (3 : Int32)) at_99 rfl rfl ?_
  refine Wk.baloadB (q := 101) A1 (by rw [S1]; decide) e_3 at_100 rfl ?_
  refine Wk.callS1 (q := 104) (argsL := [(.int (3 : Int32)), (.int (1 : Int32)), (.int (0 : Int32)), (.int b3)]) (rest := []) (fr := 0) (lo := 0) (v0 := (.int (1 : Int32))) (m_28 hw F A1 S1 e_0 e_1 e_2 e_3 b3) (w_2 hw) (w_3 hw) (w_4 hw) (w_5 hw) (by decide) pd_0 rfl rfl rfl at_101 rfl (W := 0) rfl (by decide) (by decide) (by decide) (by decide) ?_
  refine Wk.ifcF (q := 107) at_104 rfl (by decide : ¬ (1 : Int32) = (0 : Int32)) ?_
  refine Wk.iconst (q := 108) (v := (1 : Int32)) at_107 rfl rfl ?_
  refine Wk.goto (q := 112) at_108 (by decide) rfl ?_
  refine Wk.istore (q := 114) (ls' := #[.val (.int p0), .val (.int p1), .val (.int p2), .val (.int p3), .val (.int p4), .val (.int p5), .val (.ref a1), .val (.int (1 : Int32)), .val (.int (0 : Int32)), .val (.int (1 : Int32))]) at_112 rfl rfl ?_
  refine Wk.aload (q := 116) at_114 rfl rfl rfl ?_
  refine Wk.iload (q := 118) at_116 rfl rfl ?_
  refine Wk.iload (q := 120) at_118 rfl rfl ?_
  refine Wk.callS1 (q := 123) (argsL := [(.ref a1), (.int (1 : Int32)), (.int (0 : Int32))]) (rest := []) (fr := 0) (lo := 0) (v0 := (.int (1 : Int32))) (m_29 hw F A1 S1 e_0 e_1 e_2 e_3) (w_9 hw) (w_10 hw) (w_11 hw) (w_12 hw) (by decide) pd_1 rfl rfl rfl at_120 rfl (W := 0) rfl (by decide) (by decide) (by decide) (by decide) ?_
  refine Wk.iload (q := 125) at_123 rfl rfl ?_
  refine Wk.icmpF (q := 128) at_125 rfl (by decide : (1 : Int32) = (1 : Int32)) ?_
  refine Wk.iconst (q := 129) (v := (1 : Int32)) at_128 rfl rfl ?_
  refine Wk.goto (q := 133) at_129 (by decide) rfl ?_
  exact Wk.retZ rfl rfl at_133 (by decide) (by decide) rfl
set_option maxRecDepth 65536 in
set_option maxHeartbeats 40000000 in
theorem law_tail_1_1 {l : Launch} {Z : State} {a0 : Array Value} {n0 : Nat} {h : Heap}  {a_T : Addr} {c_T : Cell} (hw : ∀ d ∈ tables_1, d.before a0 Z = true) (F : OwnF Z h  a_T c_T) {a1 : Addr} {c1 : Cell} {b0 b1 b2 b3 : Int32} (A1 : Arr Z h a1 c1 .byte) (S1 : c1.slots.size = 4) (e_0 : c1.slots[0]? = some (Value.int b0)) (e_1 : c1.slots[1]? = some (Value.int b1)) (e_2 : c1.slots[2]? = some (Value.int b2)) (e_3 : c1.slots[3]? = some (Value.int b3)) (p0 p1 p2 p3 p4 p5 : Int32) (k_s : ((p4 &&& (2147483647 : Int32)) % (5 : Int32)) = (1 : Int32)) (k_e : ((p5 &&& (2147483647 : Int32)) % (5 : Int32)) = (1 : Int32)) : Wk l Z n0 "com/example/tallykey/tallykey/HttpSyntaxIsTextPinLaw" "law" code maxLocals ret room_1 16 128 (fun v _ => v = some (.int (1 : Int32))) h 1 4 29 #[.val (.int p0), .val (.int p1), .val (.int p2), .val (.int p3), .val (.int p4), .val (.int p5), .val (.ref a1), .unset, .unset, .unset] [] := by
  refine Wk.iload (q := 31) at_29 rfl rfl ?_
  refine Wk.ldcI (q := 33) (w_1 hw) at_31 rfl ?_
  refine Wk.iand (q := 34) (v := (p4 &&& (2147483647 : Int32))) at_33 rfl rfl ?_
  refine Wk.iconst (q := 35) (v := (5 : Int32)) at_34 rfl rfl ?_
  refine Wk.irem (q := 36) (v := (1 : Int32)) at_35 rfl (by decide) k_s ?_
  refine Wk.istore (q := 38) (ls' := #[.val (.int p0), .val (.int p1), .val (.int p2), .val (.int p3), .val (.int p4), .val (.int p5), .val (.ref a1), .val (.int (1 : Int32)), .unset, .unset]) at_36 rfl rfl ?_
  refine Wk.iload (q := 40) at_38 rfl rfl ?_
  refine Wk.ldcI (q := 42) (w_1 hw) at_40 rfl ?_
  refine Wk.iand (q := 43) (v := (p5 &&& (2147483647 : Int32))) at_42 rfl rfl ?_
  refine Wk.iconst (q := 44) (v := (5 : Int32)) at_43 rfl rfl ?_
  refine Wk.irem (q := 45) (v := (1 : Int32)) at_44 rfl (by decide) k_e ?_
  refine Wk.istore (q := 47) (ls' := #[.val (.int p0), .val (.int p1), .val (.int p2), .val (.int p3), .val (.int p4), .val (.int p5), .val (.ref a1), .val (.int (1 : Int32)), .val (.int (1 : Int32)), .unset]) at_45 rfl rfl ?_
  refine Wk.iconst (q := 48) (v := (0 : Int32)) at_47 rfl rfl ?_
  refine Wk.iload (q := 50) at_48 rfl rfl ?_
  refine Wk.iload (q := 52) at_50 rfl rfl ?_
  refine Wk.aload (q := 54) at_52 rfl rfl rfl ?_
  refine Wk.iconst (q := 55) (v := (0 : Int32)) at_54 rfl rfl ?_
  refine Wk.baloadB (q := 56) A1 (by rw [S1]; decide) e_0 at_55 rfl ?_
  refine Wk.callS1 (q := 59) (argsL := [(.int (0 : Int32)), (.int (1 : Int32)), (.int (1 : Int32)), (.int b0)]) (rest := []) (fr := 0) (lo := 0) (v0 := (.int (1 : Int32))) (m_30 hw F A1 S1 e_0 e_1 e_2 e_3 b0) (w_2 hw) (w_3 hw) (w_4 hw) (w_5 hw) (by decide) pd_0 rfl rfl rfl at_56 rfl (W := 0) rfl (by decide) (by decide) (by decide) (by decide) ?_
  refine Wk.ifcF (q := 62) at_59 rfl (by decide : ¬ (1 : Int32) = (0 : Int32)) ?_
  refine Wk.iconst (q := 63) (v := (1 : Int32)) at_62 rfl rfl ?_
  refine Wk.iload (q := 65) at_63 rfl rfl ?_
  refine Wk.iload (q := 67) at_65 rfl rfl ?_
  refine Wk.aload (q := 69) at_67 rfl rfl rfl ?_
  refine Wk.iconst (q := 70) (v := (1 : Int32)) at_69 rfl rfl ?_
  refine Wk.baloadB (q := 71) A1 (by rw [S1]; decide) e_1 at_70 rfl ?_
  refine Wk.callS1 (q := 74) (argsL := [(.int (1 : Int32)), (.int (1 : Int32)), (.int (1 : Int32)), (.int b1)]) (rest := []) (fr := 0) (lo := 0) (v0 := (.int (1 : Int32))) (m_31 hw F A1 S1 e_0 e_1 e_2 e_3 b1) (w_2 hw) (w_3 hw) (w_4 hw) (w_5 hw) (by decide) pd_0 rfl rfl rfl at_71 rfl (W := 0) rfl (by decide) (by decide) (by decide) (by decide) ?_
  refine Wk.ifcF (q := 77) at_74 rfl (by decide : ¬ (1 : Int32) = (0 : Int32)) ?_
  refine Wk.iconst (q := 78) (v := (2 : Int32)) at_77 rfl rfl ?_
  refine Wk.iload (q := 80) at_78 rfl rfl ?_
  refine Wk.iload (q := 82) at_80 rfl rfl ?_
  refine Wk.aload (q := 84) at_82 rfl rfl rfl ?_
  refine Wk.iconst (q := 85) (v := (2 : Int32)) at_84 rfl rfl ?_
  refine Wk.baloadB (q := 86) A1 (by rw [S1]; decide) e_2 at_85 rfl ?_
  refine Wk.callS1 (q := 89) (argsL := [(.int (2 : Int32)), (.int (1 : Int32)), (.int (1 : Int32)), (.int b2)]) (rest := []) (fr := 0) (lo := 0) (v0 := (.int (1 : Int32))) (m_32 hw F A1 S1 e_0 e_1 e_2 e_3 b2) (w_2 hw) (w_3 hw) (w_4 hw) (w_5 hw) (by decide) pd_0 rfl rfl rfl at_86 rfl (W := 0) rfl (by decide) (by decide) (by decide) (by decide) ?_
  refine Wk.ifcF (q := 92) at_89 rfl (by decide : ¬ (1 : Int32) = (0 : Int32)) ?_
  refine Wk.iconst (q := 93) (v := (3 : Int32)) at_92 rfl rfl ?_
  refine Wk.iload (q := 95) at_93 rfl rfl ?_
  refine Wk.iload (q := 97) at_95 rfl rfl ?_
  refine Wk.aload (q := 99) at_97 rfl rfl rfl ?_
  refine Wk.iconst (q := 100) (v := (3 : Int32)) at_99 rfl rfl ?_
  refine Wk.baloadB (q := 101) A1 (by rw [S1]; decide) e_3 at_100 rfl ?_
  refine Wk.callS1 (q := 104) (argsL := [(.int (3 : Int32)), (.int (1 : Int32)), (.int (1 : Int32)), (.int b3)]) (rest := []) (fr := 0) (lo := 0) (v0 := (.int (1 : Int32))) (m_33 hw F A1 S1 e_0 e_1 e_2 e_3 b3) (w_2 hw) (w_3 hw) (w_4 hw) (w_5 hw) (by decide) pd_0 rfl rfl rfl at_101 rfl (W := 0) rfl (by decide) (by decide) (by decide) (by decide) ?_
  refine Wk.ifcF (q := 107) at_104 rfl (by decide : ¬ (1 : Int32) = (0 : Int32)) ?_
  refine Wk.iconst (q := 108) (v := (1 : Int32)) at_107 rfl rfl ?_
  refine Wk.goto (q := 112) at_108 (by decide) rfl ?_
  refine Wk.istore (q := 114) (ls' := #[.val (.int p0), .val (.int p1), .val (.int p2), .val (.int p3), .val (.int p4), .val (.int p5), .val (.ref a1), .val (.int (1 : Int32)), .val (.int (1 : Int32)), .val (.int (1 : Int32))]) at_112 rfl rfl ?_
  refine Wk.aload (q := 116) at_114 rfl rfl rfl ?_
  refine Wk.iload (q := 118) at_116 rfl rfl ?_
  refine Wk.iload (q := 120) at_118 rfl rfl ?_
  refine Wk.callS1 (q := 123) (argsL := [(.ref a1), (.int (1 : Int32)), (.int (1 : Int32))]) (rest := []) (fr := 0) (lo := 0) (v0 := (.int (1 : Int32))) (m_34 hw F A1 S1 e_0 e_1 e_2 e_3) (w_9 hw) (w_10 hw) (w_11 hw) (w_12 hw) (by decide) pd_1 rfl rfl rfl at_120 rfl (W := 0) rfl (by decide) (by decide) (by decide) (by decide) ?_
  refine Wk.iload (q := 125) at_123 rfl rfl ?_
  refine Wk.icmpF (q := 128) at_125 rfl (by decide : (1 : Int32) = (1 : Int32)) ?_
  refine Wk.iconst (q := 129) (v := (1 : Int32)) at_128 rfl rfl ?_
  refine Wk.goto (q := 133) at_129 (by decide) rfl ?_
  exact Wk.retZ rfl rfl at_133 (by decide) (by decide) rfl
set_option maxRecDepth 65536 in
set_option maxHeartbeats 40000000 in
theorem law_tail_1_2 {l : Launch} {Z : State} {a0 : Array Value} {n0 : Nat} {h : Heap}  {a_T : Addr} {c_T : Cell} (hw : ∀ d ∈ tables_1, d.before a0 Z = true) (F : OwnF Z h  a_T c_T) {a1 : Addr} {c1 : Cell} {b0 b1 b2 b3 : Int32} (A1 : Arr Z h a1 c1 .byte) (S1 : c1.slots.size = 4) (e_0 : c1.slots[0]? = some (Value.int b0)) (e_1 : c1.slots[1]? = some (Value.int b1)) (e_2 : c1.slots[2]? = some (Value.int b2)) (e_3 : c1.slots[3]? = some (Value.int b3)) (p0 p1 p2 p3 p4 p5 : Int32) (k_s : ((p4 &&& (2147483647 : Int32)) % (5 : Int32)) = (1 : Int32)) (k_e : ((p5 &&& (2147483647 : Int32)) % (5 : Int32)) = (2 : Int32)) : Wk l Z n0 "com/example/tallykey/tallykey/HttpSyntaxIsTextPinLaw" "law" code maxLocals ret room_1 16 128 (fun v _ => v = some (.int (1 : Int32))) h 1 4 29 #[.val (.int p0), .val (.int p1), .val (.int p2), .val (.int p3), .val (.int p4), .val (.int p5), .val (.ref a1), .unset, .unset, .unset] [] := by
  refine Wk.iload (q := 31) at_29 rfl rfl ?_
  refine Wk.ldcI (q := 33) (w_1 hw) at_31 rfl ?_
  refine Wk.iand (q := 34) (v := (p4 &&& (2147483647 : Int32))) at_33 rfl rfl ?_
  refine Wk.iconst (q := 35) (v := (5 : Int32)) at_34 rfl rfl ?_
  refine Wk.irem (q := 36) (v := (1 : Int32)) at_35 rfl (by decide) k_s ?_
  refine Wk.istore (q := 38) (ls' := #[.val (.int p0), .val (.int p1), .val (.int p2), .val (.int p3), .val (.int p4), .val (.int p5), .val (.ref a1), .val (.int (1 : Int32)), .unset, .unset]) at_36 rfl rfl ?_
  refine Wk.iload (q := 40) at_38 rfl rfl ?_
  refine Wk.ldcI (q := 42) (w_1 hw) at_40 rfl ?_
  refine Wk.iand (q := 43) (v := (p5 &&& (2147483647 : Int32))) at_42 rfl rfl ?_
  refine Wk.iconst (q := 44) (v := (5 : Int32)) at_43 rfl rfl ?_
  refine Wk.irem (q := 45) (v := (2 : Int32)) at_44 rfl (by decide) k_e ?_
  refine Wk.istore (q := 47) (ls' := #[.val (.int p0), .val (.int p1), .val (.int p2), .val (.int p3), .val (.int p4), .val (.int p5), .val (.ref a1), .val (.int (1 : Int32)), .val (.int (2 : Int32)), .unset]) at_45 rfl rfl ?_
  refine Wk.iconst (q := 48) (v := (0 : Int32)) at_47 rfl rfl ?_
  refine Wk.iload (q := 50) at_48 rfl rfl ?_
  refine Wk.iload (q := 52) at_50 rfl rfl ?_
  refine Wk.aload (q := 54) at_52 rfl rfl rfl ?_
  refine Wk.iconst (q := 55) (v := (0 : Int32)) at_54 rfl rfl ?_
  refine Wk.baloadB (q := 56) A1 (by rw [S1]; decide) e_0 at_55 rfl ?_
  refine Wk.callS1 (q := 59) (argsL := [(.int (0 : Int32)), (.int (1 : Int32)), (.int (2 : Int32)), (.int b0)]) (rest := []) (fr := 0) (lo := 0) (v0 := (.int (1 : Int32))) (m_35 hw F A1 S1 e_0 e_1 e_2 e_3 b0) (w_2 hw) (w_3 hw) (w_4 hw) (w_5 hw) (by decide) pd_0 rfl rfl rfl at_56 rfl (W := 0) rfl (by decide) (by decide) (by decide) (by decide) ?_
  refine Wk.ifcF (q := 62) at_59 rfl (by decide : ¬ (1 : Int32) = (0 : Int32)) ?_
  refine Wk.iconst (q := 63) (v := (1 : Int32)) at_62 rfl rfl ?_
  refine Wk.iload (q := 65) at_63 rfl rfl ?_
  refine Wk.iload (q := 67) at_65 rfl rfl ?_
  refine Wk.aload (q := 69) at_67 rfl rfl rfl ?_
  refine Wk.iconst (q := 70) (v := (1 : Int32)) at_69 rfl rfl ?_
  refine Wk.baloadB (q := 71) A1 (by rw [S1]; decide) e_1 at_70 rfl ?_
  refine Wk.callS2 (q := 74) (argsL := [(.int (1 : Int32)), (.int (1 : Int32)), (.int (2 : Int32)), (.int b1)]) (rest := []) (fr := 1) (lo := 13) (P := fun w => (((tabN (b1 &&& (255 : Int32)).toNatClampNeg) = (0 : Int32)) ∧ w = (.int (0 : Int32))) ∨ ((¬ (tabN (b1 &&& (255 : Int32)).toNatClampNeg) = (0 : Int32)) ∧ w = (.int (1 : Int32)))) (m_36 hw F A1 S1 e_0 e_1 e_2 e_3 b1) (w_2 hw) (w_3 hw) (w_4 hw) (w_5 hw) (by decide) pd_0 rfl rfl rfl at_71 rfl (W := 0) rfl (by decide) (by decide) (by decide) (by decide) ?_
  intro w1 hP; rcases hP with ⟨h2, rfl⟩ | ⟨h3, rfl⟩
  · refine Wk.ifcT (q := 111) at_74 (by decide) rfl (by decide : (0 : Int32) = (0 : Int32)) ?_
    refine Wk.iconst (q := 112) (v := (0 : Int32)) at_111 rfl rfl ?_
    refine Wk.istore (q := 114) (ls' := #[.val (.int p0), .val (.int p1), .val (.int p2), .val (.int p3), .val (.int p4), .val (.int p5), .val (.ref a1), .val (.int (1 : Int32)), .val (.int (2 : Int32)), .val (.int (0 : Int32))]) at_112 rfl rfl ?_
    refine Wk.aload (q := 116) at_114 rfl rfl rfl ?_
    refine Wk.iload (q := 118) at_116 rfl rfl ?_
    refine Wk.iload (q := 120) at_118 rfl rfl ?_
    refine Wk.callS2 (q := 123) (argsL := [(.ref a1), (.int (1 : Int32)), (.int (2 : Int32))]) (rest := []) (fr := 0) (lo := 0) (P := fun w => ((¬ (tabN (b1 &&& (255 : Int32)).toNatClampNeg) = (0 : Int32)) ∧ w = (.int (1 : Int32))) ∨ (((tabN (b1 &&& (255 : Int32)).toNatClampNeg) = (0 : Int32)) ∧ w = (.int (0 : Int32)))) (m_37 hw F A1 S1 e_0 e_1 e_2 e_3) (w_9 hw) (w_10 hw) (w_11 hw) (w_12 hw) (by decide) pd_1 rfl rfl rfl at_120 rfl (W := 0) rfl (by decide) (by decide) (by decide) (by decide) ?_
    intro w4 hP; rcases hP with ⟨h5, rfl⟩ | ⟨h6, rfl⟩
    · exact absurd h2 h5
    · refine Wk.iload (q := 125) at_123 rfl rfl ?_
      refine Wk.icmpF (q := 128) at_125 rfl (by decide : (0 : Int32) = (0 : Int32)) ?_
      refine Wk.iconst (q := 129) (v := (1 : Int32)) at_128 rfl rfl ?_
      refine Wk.goto (q := 133) at_129 (by decide) rfl ?_
      exact Wk.retZ rfl rfl at_133 (by decide) (by decide) rfl
  · refine Wk.ifcF (q := 77) at_74 rfl (by decide : ¬ (1 : Int32) = (0 : Int32)) ?_
    refine Wk.iconst (q := 78) (v := (2 : Int32)) at_77 rfl rfl ?_
    refine Wk.iload (q := 80) at_78 rfl rfl ?_
    refine Wk.iload (q := 82) at_80 rfl rfl ?_
    refine Wk.aload (q := 84) at_82 rfl rfl rfl ?_
    refine Wk.iconst (q := 85) (v := (2 : Int32)) at_84 rfl rfl ?_
    refine Wk.baloadB (q := 86) A1 (by rw [S1]; decide) e_2 at_85 rfl ?_
    refine Wk.callS1 (q := 89) (argsL := [(.int (2 : Int32)), (.int (1 : Int32)), (.int (2 : Int32)), (.int b2)]) (rest := []) (fr := 0) (lo := 0) (v0 := (.int (1 : Int32))) (m_38 hw F A1 S1 e_0 e_1 e_2 e_3 b2) (w_2 hw) (w_3 hw) (w_4 hw) (w_5 hw) (by decide) pd_0 rfl rfl rfl at_86 rfl (W := 0) rfl (by decide) (by decide) (by decide) (by decide) ?_
    refine Wk.ifcF (q := 92) at_89 rfl (by decide : ¬ (1 : Int32) = (0 : Int32)) ?_
    refine Wk.iconst (q := 93) (v := (3 : Int32)) at_92 rfl rfl ?_
    refine Wk.iload (q := 95) at_93 rfl rfl ?_
    refine Wk.iload (q := 97) at_95 rfl rfl ?_
    refine Wk.aload (q := 99) at_97 rfl rfl rfl ?_
    refine Wk.iconst (q := 100) (v := (3 : Int32)) at_99 rfl rfl ?_
    refine Wk.baloadB (q := 101) A1 (by rw [S1]; decide) e_3 at_100 rfl ?_
    refine Wk.callS1 (q := 104) (argsL := [(.int (3 : Int32)), (.int (1 : Int32)), (.int (2 : Int32)), (.int b3)]) (rest := []) (fr := 0) (lo := 0) (v0 := (.int (1 : Int32))) (m_39 hw F A1 S1 e_0 e_1 e_2 e_3 b3) (w_2 hw) (w_3 hw) (w_4 hw) (w_5 hw) (by decide) pd_0 rfl rfl rfl at_101 rfl (W := 0) rfl (by decide) (by decide) (by decide) (by decide) ?_
    refine Wk.ifcF (q := 107) at_104 rfl (by decide : ¬ (1 : Int32) = (0 : Int32)) ?_
    refine Wk.iconst (q := 108) (v := (1 : Int32)) at_107 rfl rfl ?_
    refine Wk.goto (q := 112) at_108 (by decide) rfl ?_
    refine Wk.istore (q := 114) (ls' := #[.val (.int p0), .val (.int p1), .val (.int p2), .val (.int p3), .val (.int p4), .val (.int p5), .val (.ref a1), .val (.int (1 : Int32)), .val (.int (2 : Int32)), .val (.int (1 : Int32))]) at_112 rfl rfl ?_
    refine Wk.aload (q := 116) at_114 rfl rfl rfl ?_
    refine Wk.iload (q := 118) at_116 rfl rfl ?_
    refine Wk.iload (q := 120) at_118 rfl rfl ?_
    refine Wk.callS2 (q := 123) (argsL := [(.ref a1), (.int (1 : Int32)), (.int (2 : Int32))]) (rest := []) (fr := 0) (lo := 0) (P := fun w => ((¬ (tabN (b1 &&& (255 : Int32)).toNatClampNeg) = (0 : Int32)) ∧ w = (.int (1 : Int32))) ∨ (((tabN (b1 &&& (255 : Int32)).toNatClampNeg) = (0 : Int32)) ∧ w = (.int (0 : Int32)))) (m_37 hw F A1 S1 e_0 e_1 e_2 e_3) (w_9 hw) (w_10 hw) (w_11 hw) (w_12 hw) (by decide) pd_1 rfl rfl rfl at_120 rfl (W := 0) rfl (by decide) (by decide) (by decide) (by decide) ?_
    intro w7 hP; rcases hP with ⟨h8, rfl⟩ | ⟨h9, rfl⟩
    · refine Wk.iload (q := 125) at_123 rfl rfl ?_
      refine Wk.icmpF (q := 128) at_125 rfl (by decide : (1 : Int32) = (1 : Int32)) ?_
      refine Wk.iconst (q := 129) (v := (1 : Int32)) at_128 rfl rfl ?_
      refine Wk.goto (q := 133) at_129 (by decide) rfl ?_
      exact Wk.retZ rfl rfl at_133 (by decide) (by decide) rfl
    · exact absurd h9 h3
set_option maxRecDepth 65536 in
set_option maxHeartbeats 40000000 in
theorem law_tail_1_3 {l : Launch} {Z : State} {a0 : Array Value} {n0 : Nat} {h : Heap}  {a_T : Addr} {c_T : Cell} (hw : ∀ d ∈ tables_1, d.before a0 Z = true) (F : OwnF Z h  a_T c_T) {a1 : Addr} {c1 : Cell} {b0 b1 b2 b3 : Int32} (A1 : Arr Z h a1 c1 .byte) (S1 : c1.slots.size = 4) (e_0 : c1.slots[0]? = some (Value.int b0)) (e_1 : c1.slots[1]? = some (Value.int b1)) (e_2 : c1.slots[2]? = some (Value.int b2)) (e_3 : c1.slots[3]? = some (Value.int b3)) (p0 p1 p2 p3 p4 p5 : Int32) (k_s : ((p4 &&& (2147483647 : Int32)) % (5 : Int32)) = (1 : Int32)) (k_e : ((p5 &&& (2147483647 : Int32)) % (5 : Int32)) = (3 : Int32)) : Wk l Z n0 "com/example/tallykey/tallykey/HttpSyntaxIsTextPinLaw" "law" code maxLocals ret room_1 16 128 (fun v _ => v = some (.int (1 : Int32))) h 1 4 29 #[.val (.int p0), .val (.int p1), .val (.int p2), .val (.int p3), .val (.int p4), .val (.int p5), .val (.ref a1), .unset, .unset, .unset] [] := by
  refine Wk.iload (q := 31) at_29 rfl rfl ?_
  refine Wk.ldcI (q := 33) (w_1 hw) at_31 rfl ?_
  refine Wk.iand (q := 34) (v := (p4 &&& (2147483647 : Int32))) at_33 rfl rfl ?_
  refine Wk.iconst (q := 35) (v := (5 : Int32)) at_34 rfl rfl ?_
  refine Wk.irem (q := 36) (v := (1 : Int32)) at_35 rfl (by decide) k_s ?_
  refine Wk.istore (q := 38) (ls' := #[.val (.int p0), .val (.int p1), .val (.int p2), .val (.int p3), .val (.int p4), .val (.int p5), .val (.ref a1), .val (.int (1 : Int32)), .unset, .unset]) at_36 rfl rfl ?_
  refine Wk.iload (q := 40) at_38 rfl rfl ?_
  refine Wk.ldcI (q := 42) (w_1 hw) at_40 rfl ?_
  refine Wk.iand (q := 43) (v := (p5 &&& (2147483647 : Int32))) at_42 rfl rfl ?_
  refine Wk.iconst (q := 44) (v := (5 : Int32)) at_43 rfl rfl ?_
  refine Wk.irem (q := 45) (v := (3 : Int32)) at_44 rfl (by decide) k_e ?_
  refine Wk.istore (q := 47) (ls' := #[.val (.int p0), .val (.int p1), .val (.int p2), .val (.int p3), .val (.int p4), .val (.int p5), .val (.ref a1), .val (.int (1 : Int32)), .val (.int (3 : Int32)), .unset]) at_45 rfl rfl ?_
  refine Wk.iconst (q := 48) (v := (0 : Int32)) at_47 rfl rfl ?_
  refine Wk.iload (q := 50) at_48 rfl rfl ?_
  refine Wk.iload (q := 52) at_50 rfl rfl ?_
  refine Wk.aload (q := 54) at_52 rfl rfl rfl ?_
  refine Wk.iconst (q := 55) (v := (0 : Int32)) at_54 rfl rfl ?_
  refine Wk.baloadB (q := 56) A1 (by rw [S1]; decide) e_0 at_55 rfl ?_
  refine Wk.callS1 (q := 59) (argsL := [(.int (0 : Int32)), (.int (1 : Int32)), (.int (3 : Int32)), (.int b0)]) (rest := []) (fr := 0) (lo := 0) (v0 := (.int (1 : Int32))) (m_40 hw F A1 S1 e_0 e_1 e_2 e_3 b0) (w_2 hw) (w_3 hw) (w_4 hw) (w_5 hw) (by decide) pd_0 rfl rfl rfl at_56 rfl (W := 0) rfl (by decide) (by decide) (by decide) (by decide) ?_
  refine Wk.ifcF (q := 62) at_59 rfl (by decide : ¬ (1 : Int32) = (0 : Int32)) ?_
  refine Wk.iconst (q := 63) (v := (1 : Int32)) at_62 rfl rfl ?_
  refine Wk.iload (q := 65) at_63 rfl rfl ?_
  refine Wk.iload (q := 67) at_65 rfl rfl ?_
  refine Wk.aload (q := 69) at_67 rfl rfl rfl ?_
  refine Wk.iconst (q := 70) (v := (1 : Int32)) at_69 rfl rfl ?_
  refine Wk.baloadB (q := 71) A1 (by rw [S1]; decide) e_1 at_70 rfl ?_
  refine Wk.callS2 (q := 74) (argsL := [(.int (1 : Int32)), (.int (1 : Int32)), (.int (3 : Int32)), (.int b1)]) (rest := []) (fr := 1) (lo := 13) (P := fun w => (((tabN (b1 &&& (255 : Int32)).toNatClampNeg) = (0 : Int32)) ∧ w = (.int (0 : Int32))) ∨ ((¬ (tabN (b1 &&& (255 : Int32)).toNatClampNeg) = (0 : Int32)) ∧ w = (.int (1 : Int32)))) (m_41 hw F A1 S1 e_0 e_1 e_2 e_3 b1) (w_2 hw) (w_3 hw) (w_4 hw) (w_5 hw) (by decide) pd_0 rfl rfl rfl at_71 rfl (W := 0) rfl (by decide) (by decide) (by decide) (by decide) ?_
  intro w1 hP; rcases hP with ⟨h2, rfl⟩ | ⟨h3, rfl⟩
  · refine Wk.ifcT (q := 111) at_74 (by decide) rfl (by decide : (0 : Int32) = (0 : Int32)) ?_
    refine Wk.iconst (q := 112) (v := (0 : Int32)) at_111 rfl rfl ?_
    refine Wk.istore (q := 114) (ls' := #[.val (.int p0), .val (.int p1), .val (.int p2), .val (.int p3), .val (.int p4), .val (.int p5), .val (.ref a1), .val (.int (1 : Int32)), .val (.int (3 : Int32)), .val (.int (0 : Int32))]) at_112 rfl rfl ?_
    refine Wk.aload (q := 116) at_114 rfl rfl rfl ?_
    refine Wk.iload (q := 118) at_116 rfl rfl ?_
    refine Wk.iload (q := 120) at_118 rfl rfl ?_
    refine Wk.callS2 (q := 123) (argsL := [(.ref a1), (.int (1 : Int32)), (.int (3 : Int32))]) (rest := []) (fr := 0) (lo := 0) (P := fun w => ((¬ (tabN (b1 &&& (255 : Int32)).toNatClampNeg) = (0 : Int32)) ∧ (¬ (tabN (b2 &&& (255 : Int32)).toNatClampNeg) = (0 : Int32)) ∧ w = (.int (1 : Int32))) ∨ ((¬ (tabN (b1 &&& (255 : Int32)).toNatClampNeg) = (0 : Int32)) ∧ ((tabN (b2 &&& (255 : Int32)).toNatClampNeg) = (0 : Int32)) ∧ w = (.int (0 : Int32))) ∨ (((tabN (b1 &&& (255 : Int32)).toNatClampNeg) = (0 : Int32)) ∧ w = (.int (0 : Int32)))) (m_42 hw F A1 S1 e_0 e_1 e_2 e_3) (w_9 hw) (w_10 hw) (w_11 hw) (w_12 hw) (by decide) pd_1 rfl rfl rfl at_120 rfl (W := 0) rfl (by decide) (by decide) (by decide) (by decide) ?_
    intro w4 hP; rcases hP with ⟨h5, h6, rfl⟩ | ⟨h7, h8, rfl⟩ | ⟨h9, rfl⟩
    · exact absurd h2 h5
    · exact absurd h2 h7
    · refine Wk.iload (q := 125) at_123 rfl rfl ?_
      refine Wk.icmpF (q := 128) at_125 rfl (by decide : (0 : Int32) = (0 : Int32)) ?_
      refine Wk.iconst (q := 129) (v := (1 : Int32)) at_128 rfl rfl ?_
      refine Wk.goto (q := 133) at_129 (by decide) rfl ?_
      exact Wk.retZ rfl rfl at_133 (by decide) (by decide) rfl
  · refine Wk.ifcF (q := 77) at_74 rfl (by decide : ¬ (1 : Int32) = (0 : Int32)) ?_
    refine Wk.iconst (q := 78) (v := (2 : Int32)) at_77 rfl rfl ?_
    refine Wk.iload (q := 80) at_78 rfl rfl ?_
    refine Wk.iload (q := 82) at_80 rfl rfl ?_
    refine Wk.aload (q := 84) at_82 rfl rfl rfl ?_
    refine Wk.iconst (q := 85) (v := (2 : Int32)) at_84 rfl rfl ?_
    refine Wk.baloadB (q := 86) A1 (by rw [S1]; decide) e_2 at_85 rfl ?_
    refine Wk.callS2 (q := 89) (argsL := [(.int (2 : Int32)), (.int (1 : Int32)), (.int (3 : Int32)), (.int b2)]) (rest := []) (fr := 1) (lo := 13) (P := fun w => (((tabN (b2 &&& (255 : Int32)).toNatClampNeg) = (0 : Int32)) ∧ w = (.int (0 : Int32))) ∨ ((¬ (tabN (b2 &&& (255 : Int32)).toNatClampNeg) = (0 : Int32)) ∧ w = (.int (1 : Int32)))) (m_43 hw F A1 S1 e_0 e_1 e_2 e_3 b2) (w_2 hw) (w_3 hw) (w_4 hw) (w_5 hw) (by decide) pd_0 rfl rfl rfl at_86 rfl (W := 0) rfl (by decide) (by decide) (by decide) (by decide) ?_
    intro w10 hP; rcases hP with ⟨h11, rfl⟩ | ⟨h12, rfl⟩
    · refine Wk.ifcT (q := 111) at_89 (by decide) rfl (by decide : (0 : Int32) = (0 : Int32)) ?_
      refine Wk.iconst (q := 112) (v := (0 : Int32)) at_111 rfl rfl ?_
      refine Wk.istore (q := 114) (ls' := #[.val (.int p0), .val (.int p1), .val (.int p2), .val (.int p3), .val (.int p4), .val (.int p5), .val (.ref a1), .val (.int (1 : Int32)), .val (.int (3 : Int32)), .val (.int (0 : Int32))]) at_112 rfl rfl ?_
      refine Wk.aload (q := 116) at_114 rfl rfl rfl ?_
      refine Wk.iload (q := 118) at_116 rfl rfl ?_
      refine Wk.iload (q := 120) at_118 rfl rfl ?_
      refine Wk.callS2 (q := 123) (argsL := [(.ref a1), (.int (1 : Int32)), (.int (3 : Int32))]) (rest := []) (fr := 0) (lo := 0) (P := fun w => ((¬ (tabN (b1 &&& (255 : Int32)).toNatClampNeg) = (0 : Int32)) ∧ (¬ (tabN (b2 &&& (255 : Int32)).toNatClampNeg) = (0 : Int32)) ∧ w = (.int (1 : Int32))) ∨ ((¬ (tabN (b1 &&& (255 : Int32)).toNatClampNeg) = (0 : Int32)) ∧ ((tabN (b2 &&& (255 : Int32)).toNatClampNeg) = (0 : Int32)) ∧ w = (.int (0 : Int32))) ∨ (((tabN (b1 &&& (255 : Int32)).toNatClampNeg) = (0 : Int32)) ∧ w = (.int (0 : Int32)))) (m_42 hw F A1 S1 e_0 e_1 e_2 e_3) (w_9 hw) (w_10 hw) (w_11 hw) (w_12 hw) (by decide) pd_1 rfl rfl rfl at_120 rfl (W := 0) rfl (by decide) (by decide) (by decide) (by decide) ?_
      intro w13 hP; rcases hP with ⟨h14, h15, rfl⟩ | ⟨h16, h17, rfl⟩ | ⟨h18, rfl⟩
      · exact absurd h11 h15
      · refine Wk.iload (q := 125) at_123 rfl rfl ?_
        refine Wk.icmpF (q := 128) at_125 rfl (by decide : (0 : Int32) = (0 : Int32)) ?_
        refine Wk.iconst (q := 129) (v := (1 : Int32)) at_128 rfl rfl ?_
        refine Wk.goto (q := 133) at_129 (by decide) rfl ?_
        exact Wk.retZ rfl rfl at_133 (by decide) (by decide) rfl
      · exact absurd h18 h3
    · refine Wk.ifcF (q := 92) at_89 rfl (by decide : ¬ (1 : Int32) = (0 : Int32)) ?_
      refine Wk.iconst (q := 93) (v := (3 : Int32)) at_92 rfl rfl ?_
      refine Wk.iload (q := 95) at_93 rfl rfl ?_
      refine Wk.iload (q := 97) at_95 rfl rfl ?_
      refine Wk.aload (q := 99) at_97 rfl rfl rfl ?_
      refine Wk.iconst (q := 100) (v := (3 : Int32)) at_99 rfl rfl ?_
      refine Wk.baloadB (q := 101) A1 (by rw [S1]; decide) e_3 at_100 rfl ?_
      refine Wk.callS1 (q := 104) (argsL := [(.int (3 : Int32)), (.int (1 : Int32)), (.int (3 : Int32)), (.int b3)]) (rest := []) (fr := 0) (lo := 0) (v0 := (.int (1 : Int32))) (m_44 hw F A1 S1 e_0 e_1 e_2 e_3 b3) (w_2 hw) (w_3 hw) (w_4 hw) (w_5 hw) (by decide) pd_0 rfl rfl rfl at_101 rfl (W := 0) rfl (by decide) (by decide) (by decide) (by decide) ?_
      refine Wk.ifcF (q := 107) at_104 rfl (by decide : ¬ (1 : Int32) = (0 : Int32)) ?_
      refine Wk.iconst (q := 108) (v := (1 : Int32)) at_107 rfl rfl ?_
      refine Wk.goto (q := 112) at_108 (by decide) rfl ?_
      refine Wk.istore (q := 114) (ls' := #[.val (.int p0), .val (.int p1), .val (.int p2), .val (.int p3), .val (.int p4), .val (.int p5), .val (.ref a1), .val (.int (1 : Int32)), .val (.int (3 : Int32)), .val (.int (1 : Int32))]) at_112 rfl rfl ?_
      refine Wk.aload (q := 116) at_114 rfl rfl rfl ?_
      refine Wk.iload (q := 118) at_116 rfl rfl ?_
      refine Wk.iload (q := 120) at_118 rfl rfl ?_
      refine Wk.callS2 (q := 123) (argsL := [(.ref a1), (.int (1 : Int32)), (.int (3 : Int32))]) (rest := []) (fr := 0) (lo := 0) (P := fun w => ((¬ (tabN (b1 &&& (255 : Int32)).toNatClampNeg) = (0 : Int32)) ∧ (¬ (tabN (b2 &&& (255 : Int32)).toNatClampNeg) = (0 : Int32)) ∧ w = (.int (1 : Int32))) ∨ ((¬ (tabN (b1 &&& (255 : Int32)).toNatClampNeg) = (0 : Int32)) ∧ ((tabN (b2 &&& (255 : Int32)).toNatClampNeg) = (0 : Int32)) ∧ w = (.int (0 : Int32))) ∨ (((tabN (b1 &&& (255 : Int32)).toNatClampNeg) = (0 : Int32)) ∧ w = (.int (0 : Int32)))) (m_42 hw F A1 S1 e_0 e_1 e_2 e_3) (w_9 hw) (w_10 hw) (w_11 hw) (w_12 hw) (by decide) pd_1 rfl rfl rfl at_120 rfl (W := 0) rfl (by decide) (by decide) (by decide) (by decide) ?_
      intro w19 hP; rcases hP with ⟨h20, h21, rfl⟩ | ⟨h22, h23, rfl⟩ | ⟨h24, rfl⟩
      · refine Wk.iload (q := 125) at_123 rfl rfl ?_
        refine Wk.icmpF (q := 128) at_125 rfl (by decide : (1 : Int32) = (1 : Int32)) ?_
        refine Wk.iconst (q := 129) (v := (1 : Int32)) at_128 rfl rfl ?_
        refine Wk.goto (q := 133) at_129 (by decide) rfl ?_
        exact Wk.retZ rfl rfl at_133 (by decide) (by decide) rfl
      · exact absurd h23 h12
      · exact absurd h24 h3
set_option maxRecDepth 65536 in
set_option maxHeartbeats 40000000 in
theorem law_tail_1_4 {l : Launch} {Z : State} {a0 : Array Value} {n0 : Nat} {h : Heap}  {a_T : Addr} {c_T : Cell} (hw : ∀ d ∈ tables_1, d.before a0 Z = true) (F : OwnF Z h  a_T c_T) {a1 : Addr} {c1 : Cell} {b0 b1 b2 b3 : Int32} (A1 : Arr Z h a1 c1 .byte) (S1 : c1.slots.size = 4) (e_0 : c1.slots[0]? = some (Value.int b0)) (e_1 : c1.slots[1]? = some (Value.int b1)) (e_2 : c1.slots[2]? = some (Value.int b2)) (e_3 : c1.slots[3]? = some (Value.int b3)) (p0 p1 p2 p3 p4 p5 : Int32) (k_s : ((p4 &&& (2147483647 : Int32)) % (5 : Int32)) = (1 : Int32)) (k_e : ((p5 &&& (2147483647 : Int32)) % (5 : Int32)) = (4 : Int32)) : Wk l Z n0 "com/example/tallykey/tallykey/HttpSyntaxIsTextPinLaw" "law" code maxLocals ret room_1 16 128 (fun v _ => v = some (.int (1 : Int32))) h 1 4 29 #[.val (.int p0), .val (.int p1), .val (.int p2), .val (.int p3), .val (.int p4), .val (.int p5), .val (.ref a1), .unset, .unset, .unset] [] := by
  refine Wk.iload (q := 31) at_29 rfl rfl ?_
  refine Wk.ldcI (q := 33) (w_1 hw) at_31 rfl ?_
  refine Wk.iand (q := 34) (v := (p4 &&& (2147483647 : Int32))) at_33 rfl rfl ?_
  refine Wk.iconst (q := 35) (v := (5 : Int32)) at_34 rfl rfl ?_
  refine Wk.irem (q := 36) (v := (1 : Int32)) at_35 rfl (by decide) k_s ?_
  refine Wk.istore (q := 38) (ls' := #[.val (.int p0), .val (.int p1), .val (.int p2), .val (.int p3), .val (.int p4), .val (.int p5), .val (.ref a1), .val (.int (1 : Int32)), .unset, .unset]) at_36 rfl rfl ?_
  refine Wk.iload (q := 40) at_38 rfl rfl ?_
  refine Wk.ldcI (q := 42) (w_1 hw) at_40 rfl ?_
  refine Wk.iand (q := 43) (v := (p5 &&& (2147483647 : Int32))) at_42 rfl rfl ?_
  refine Wk.iconst (q := 44) (v := (5 : Int32)) at_43 rfl rfl ?_
  refine Wk.irem (q := 45) (v := (4 : Int32)) at_44 rfl (by decide) k_e ?_
  refine Wk.istore (q := 47) (ls' := #[.val (.int p0), .val (.int p1), .val (.int p2), .val (.int p3), .val (.int p4), .val (.int p5), .val (.ref a1), .val (.int (1 : Int32)), .val (.int (4 : Int32)), .unset]) at_45 rfl rfl ?_
  refine Wk.iconst (q := 48) (v := (0 : Int32)) at_47 rfl rfl ?_
  refine Wk.iload (q := 50) at_48 rfl rfl ?_
  refine Wk.iload (q := 52) at_50 rfl rfl ?_
  refine Wk.aload (q := 54) at_52 rfl rfl rfl ?_
  refine Wk.iconst (q := 55) (v := (0 : Int32)) at_54 rfl rfl ?_
  refine Wk.baloadB (q := 56) A1 (by rw [S1]; decide) e_0 at_55 rfl ?_
  refine Wk.callS1 (q := 59) (argsL := [(.int (0 : Int32)), (.int (1 : Int32)), (.int (4 : Int32)), (.int b0)]) (rest := []) (fr := 0) (lo := 0) (v0 := (.int (1 : Int32))) (m_45 hw F A1 S1 e_0 e_1 e_2 e_3 b0) (w_2 hw) (w_3 hw) (w_4 hw) (w_5 hw) (by decide) pd_0 rfl rfl rfl at_56 rfl (W := 0) rfl (by decide) (by decide) (by decide) (by decide) ?_
  refine Wk.ifcF (q := 62) at_59 rfl (by decide : ¬ (1 : Int32) = (0 : Int32)) ?_
  refine Wk.iconst (q := 63) (v := (1 : Int32)) at_62 rfl rfl ?_
  refine Wk.iload (q := 65) at_63 rfl rfl ?_
  refine Wk.iload (q := 67) at_65 rfl rfl ?_
  refine Wk.aload (q := 69) at_67 rfl rfl rfl ?_
  refine Wk.iconst (q := 70) (v := (1 : Int32)) at_69 rfl rfl ?_
  refine Wk.baloadB (q := 71) A1 (by rw [S1]; decide) e_1 at_70 rfl ?_
  refine Wk.callS2 (q := 74) (argsL := [(.int (1 : Int32)), (.int (1 : Int32)), (.int (4 : Int32)), (.int b1)]) (rest := []) (fr := 1) (lo := 13) (P := fun w => (((tabN (b1 &&& (255 : Int32)).toNatClampNeg) = (0 : Int32)) ∧ w = (.int (0 : Int32))) ∨ ((¬ (tabN (b1 &&& (255 : Int32)).toNatClampNeg) = (0 : Int32)) ∧ w = (.int (1 : Int32)))) (m_46 hw F A1 S1 e_0 e_1 e_2 e_3 b1) (w_2 hw) (w_3 hw) (w_4 hw) (w_5 hw) (by decide) pd_0 rfl rfl rfl at_71 rfl (W := 0) rfl (by decide) (by decide) (by decide) (by decide) ?_
  intro w1 hP; rcases hP with ⟨h2, rfl⟩ | ⟨h3, rfl⟩
  · refine Wk.ifcT (q := 111) at_74 (by decide) rfl (by decide : (0 : Int32) = (0 : Int32)) ?_
    refine Wk.iconst (q := 112) (v := (0 : Int32)) at_111 rfl rfl ?_
    refine Wk.istore (q := 114) (ls' := #[.val (.int p0), .val (.int p1), .val (.int p2), .val (.int p3), .val (.int p4), .val (.int p5), .val (.ref a1), .val (.int (1 : Int32)), .val (.int (4 : Int32)), .val (.int (0 : Int32))]) at_112 rfl rfl ?_
    refine Wk.aload (q := 116) at_114 rfl rfl rfl ?_
    refine Wk.iload (q := 118) at_116 rfl rfl ?_
    refine Wk.iload (q := 120) at_118 rfl rfl ?_
    refine Wk.callS2 (q := 123) (argsL := [(.ref a1), (.int (1 : Int32)), (.int (4 : Int32))]) (rest := []) (fr := 0) (lo := 0) (P := fun w => ((¬ (tabN (b1 &&& (255 : Int32)).toNatClampNeg) = (0 : Int32)) ∧ (¬ (tabN (b2 &&& (255 : Int32)).toNatClampNeg) = (0 : Int32)) ∧ (¬ (tabN (b3 &&& (255 : Int32)).toNatClampNeg) = (0 : Int32)) ∧ w = (.int (1 : Int32))) ∨ ((¬ (tabN (b1 &&& (255 : Int32)).toNatClampNeg) = (0 : Int32)) ∧ (¬ (tabN (b2 &&& (255 : Int32)).toNatClampNeg) = (0 : Int32)) ∧ ((tabN (b3 &&& (255 : Int32)).toNatClampNeg) = (0 : Int32)) ∧ w = (.int (0 : Int32))) ∨ ((¬ (tabN (b1 &&& (255 : Int32)).toNatClampNeg) = (0 : Int32)) ∧ ((tabN (b2 &&& (255 : Int32)).toNatClampNeg) = (0 : Int32)) ∧ w = (.int (0 : Int32))) ∨ (((tabN (b1 &&& (255 : Int32)).toNatClampNeg) = (0 : Int32)) ∧ w = (.int (0 : Int32)))) (m_47 hw F A1 S1 e_0 e_1 e_2 e_3) (w_9 hw) (w_10 hw) (w_11 hw) (w_12 hw) (by decide) pd_1 rfl rfl rfl at_120 rfl (W := 0) rfl (by decide) (by decide) (by decide) (by decide) ?_
    intro w4 hP; rcases hP with ⟨h5, h6, h7, rfl⟩ | ⟨h8, h9, h10, rfl⟩ | ⟨h11, h12, rfl⟩ | ⟨h13, rfl⟩
    · exact absurd h2 h5
    · exact absurd h2 h8
    · exact absurd h2 h11
    · refine Wk.iload (q := 125) at_123 rfl rfl ?_
      refine Wk.icmpF (q := 128) at_125 rfl (by decide : (0 : Int32) = (0 : Int32)) ?_
      refine Wk.iconst (q := 129) (v := (1 : Int32)) at_128 rfl rfl ?_
      refine Wk.goto (q := 133) at_129 (by decide) rfl ?_
      exact Wk.retZ rfl rfl at_133 (by decide) (by decide) rfl
  · refine Wk.ifcF (q := 77) at_74 rfl (by decide : ¬ (1 : Int32) = (0 : Int32)) ?_
    refine Wk.iconst (q := 78) (v := (2 : Int32)) at_77 rfl rfl ?_
    refine Wk.iload (q := 80) at_78 rfl rfl ?_
    refine Wk.iload (q := 82) at_80 rfl rfl ?_
    refine Wk.aload (q := 84) at_82 rfl rfl rfl ?_
    refine Wk.iconst (q := 85) (v := (2 : Int32)) at_84 rfl rfl ?_
    refine Wk.baloadB (q := 86) A1 (by rw [S1]; decide) e_2 at_85 rfl ?_
    refine Wk.callS2 (q := 89) (argsL := [(.int (2 : Int32)), (.int (1 : Int32)), (.int (4 : Int32)), (.int b2)]) (rest := []) (fr := 1) (lo := 13) (P := fun w => (((tabN (b2 &&& (255 : Int32)).toNatClampNeg) = (0 : Int32)) ∧ w = (.int (0 : Int32))) ∨ ((¬ (tabN (b2 &&& (255 : Int32)).toNatClampNeg) = (0 : Int32)) ∧ w = (.int (1 : Int32)))) (m_48 hw F A1 S1 e_0 e_1 e_2 e_3 b2) (w_2 hw) (w_3 hw) (w_4 hw) (w_5 hw) (by decide) pd_0 rfl rfl rfl at_86 rfl (W := 0) rfl (by decide) (by decide) (by decide) (by decide) ?_
    intro w14 hP; rcases hP with ⟨h15, rfl⟩ | ⟨h16, rfl⟩
    · refine Wk.ifcT (q := 111) at_89 (by decide) rfl (by decide : (0 : Int32) = (0 : Int32)) ?_
      refine Wk.iconst (q := 112) (v := (0 : Int32)) at_111 rfl rfl ?_
      refine Wk.istore (q := 114) (ls' := #[.val (.int p0), .val (.int p1), .val (.int p2), .val (.int p3), .val (.int p4), .val (.int p5), .val (.ref a1), .val (.int (1 : Int32)), .val (.int (4 : Int32)), .val (.int (0 : Int32))]) at_112 rfl rfl ?_
      refine Wk.aload (q := 116) at_114 rfl rfl rfl ?_
      refine Wk.iload (q := 118) at_116 rfl rfl ?_
      refine Wk.iload (q := 120) at_118 rfl rfl ?_
      refine Wk.callS2 (q := 123) (argsL := [(.ref a1), (.int (1 : Int32)), (.int (4 : Int32))]) (rest := []) (fr := 0) (lo := 0) (P := fun w => ((¬ (tabN (b1 &&& (255 : Int32)).toNatClampNeg) = (0 : Int32)) ∧ (¬ (tabN (b2 &&& (255 : Int32)).toNatClampNeg) = (0 : Int32)) ∧ (¬ (tabN (b3 &&& (255 : Int32)).toNatClampNeg) = (0 : Int32)) ∧ w = (.int (1 : Int32))) ∨ ((¬ (tabN (b1 &&& (255 : Int32)).toNatClampNeg) = (0 : Int32)) ∧ (¬ (tabN (b2 &&& (255 : Int32)).toNatClampNeg) = (0 : Int32)) ∧ ((tabN (b3 &&& (255 : Int32)).toNatClampNeg) = (0 : Int32)) ∧ w = (.int (0 : Int32))) ∨ ((¬ (tabN (b1 &&& (255 : Int32)).toNatClampNeg) = (0 : Int32)) ∧ ((tabN (b2 &&& (255 : Int32)).toNatClampNeg) = (0 : Int32)) ∧ w = (.int (0 : Int32))) ∨ (((tabN (b1 &&& (255 : Int32)).toNatClampNeg) = (0 : Int32)) ∧ w = (.int (0 : Int32)))) (m_47 hw F A1 S1 e_0 e_1 e_2 e_3) (w_9 hw) (w_10 hw) (w_11 hw) (w_12 hw) (by decide) pd_1 rfl rfl rfl at_120 rfl (W := 0) rfl (by decide) (by decide) (by decide) (by decide) ?_
      intro w17 hP; rcases hP with ⟨h18, h19, h20, rfl⟩ | ⟨h21, h22, h23, rfl⟩ | ⟨h24, h25, rfl⟩ | ⟨h26, rfl⟩
      · exact absurd h15 h19
      · exact absurd h15 h22
      · refine Wk.iload (q := 125) at_123 rfl rfl ?_
        refine Wk.icmpF (q := 128) at_125 rfl (by decide : (0 : Int32) = (0 : Int32)) ?_
        refine Wk.iconst (q := 129) (v := (1 : Int32)) at_128 rfl rfl ?_
        refine Wk.goto (q := 133) at_129 (by decide) rfl ?_
        exact Wk.retZ rfl rfl at_133 (by decide) (by decide) rfl
      · exact absurd h26 h3
    · refine Wk.ifcF (q := 92) at_89 rfl (by decide : ¬ (1 : Int32) = (0 : Int32)) ?_
      refine Wk.iconst (q := 93) (v := (3 : Int32)) at_92 rfl rfl ?_
      refine Wk.iload (q := 95) at_93 rfl rfl ?_
      refine Wk.iload (q := 97) at_95 rfl rfl ?_
      refine Wk.aload (q := 99) at_97 rfl rfl rfl ?_
      refine Wk.iconst (q := 100) (v := (3 : Int32)) at_99 rfl rfl ?_
      refine Wk.baloadB (q := 101) A1 (by rw [S1]; decide) e_3 at_100 rfl ?_
      refine Wk.callS2 (q := 104) (argsL := [(.int (3 : Int32)), (.int (1 : Int32)), (.int (4 : Int32)), (.int b3)]) (rest := []) (fr := 1) (lo := 13) (P := fun w => (((tabN (b3 &&& (255 : Int32)).toNatClampNeg) = (0 : Int32)) ∧ w = (.int (0 : Int32))) ∨ ((¬ (tabN (b3 &&& (255 : Int32)).toNatClampNeg) = (0 : Int32)) ∧ w = (.int (1 : Int32)))) (m_49 hw F A1 S1 e_0 e_1 e_2 e_3 b3) (w_2 hw) (w_3 hw) (w_4 hw) (w_5 hw) (by decide) pd_0 rfl rfl rfl at_101 rfl (W := 0) rfl (by decide) (by decide) (by decide) (by decide) ?_
      intro w27 hP; rcases hP with ⟨h28, rfl⟩ | ⟨h29, rfl⟩
      · refine Wk.ifcT (q := 111) at_104 (by decide) rfl (by decide : (0 : Int32) = (0 : Int32)) ?_
        refine Wk.iconst (q := 112) (v := (0 : Int32)) at_111 rfl rfl ?_
        refine Wk.istore (q := 114) (ls' := #[.val (.int p0), .val (.int p1), .val (.int p2), .val (.int p3), .val (.int p4), .val (.int p5), .val (.ref a1), .val (.int (1 : Int32)), .val (.int (4 : Int32)), .val (.int (0 : Int32))]) at_112 rfl rfl ?_
        refine Wk.aload (q := 116) at_114 rfl rfl rfl ?_
        refine Wk.iload (q := 118) at_116 rfl rfl ?_
        refine Wk.iload (q := 120) at_118 rfl rfl ?_
        refine Wk.callS2 (q := 123) (argsL := [(.ref a1), (.int (1 : Int32)), (.int (4 : Int32))]) (rest := []) (fr := 0) (lo := 0) (P := fun w => ((¬ (tabN (b1 &&& (255 : Int32)).toNatClampNeg) = (0 : Int32)) ∧ (¬ (tabN (b2 &&& (255 : Int32)).toNatClampNeg) = (0 : Int32)) ∧ (¬ (tabN (b3 &&& (255 : Int32)).toNatClampNeg) = (0 : Int32)) ∧ w = (.int (1 : Int32))) ∨ ((¬ (tabN (b1 &&& (255 : Int32)).toNatClampNeg) = (0 : Int32)) ∧ (¬ (tabN (b2 &&& (255 : Int32)).toNatClampNeg) = (0 : Int32)) ∧ ((tabN (b3 &&& (255 : Int32)).toNatClampNeg) = (0 : Int32)) ∧ w = (.int (0 : Int32))) ∨ ((¬ (tabN (b1 &&& (255 : Int32)).toNatClampNeg) = (0 : Int32)) ∧ ((tabN (b2 &&& (255 : Int32)).toNatClampNeg) = (0 : Int32)) ∧ w = (.int (0 : Int32))) ∨ (((tabN (b1 &&& (255 : Int32)).toNatClampNeg) = (0 : Int32)) ∧ w = (.int (0 : Int32)))) (m_47 hw F A1 S1 e_0 e_1 e_2 e_3) (w_9 hw) (w_10 hw) (w_11 hw) (w_12 hw) (by decide) pd_1 rfl rfl rfl at_120 rfl (W := 0) rfl (by decide) (by decide) (by decide) (by decide) ?_
        intro w30 hP; rcases hP with ⟨h31, h32, h33, rfl⟩ | ⟨h34, h35, h36, rfl⟩ | ⟨h37, h38, rfl⟩ | ⟨h39, rfl⟩
        · exact absurd h28 h33
        · refine Wk.iload (q := 125) at_123 rfl rfl ?_
          refine Wk.icmpF (q := 128) at_125 rfl (by decide : (0 : Int32) = (0 : Int32)) ?_
          refine Wk.iconst (q := 129) (v := (1 : Int32)) at_128 rfl rfl ?_
          refine Wk.goto (q := 133) at_129 (by decide) rfl ?_
          exact Wk.retZ rfl rfl at_133 (by decide) (by decide) rfl
        · exact absurd h38 h16
        · exact absurd h39 h3
      · refine Wk.ifcF (q := 107) at_104 rfl (by decide : ¬ (1 : Int32) = (0 : Int32)) ?_
        refine Wk.iconst (q := 108) (v := (1 : Int32)) at_107 rfl rfl ?_
        refine Wk.goto (q := 112) at_108 (by decide) rfl ?_
        refine Wk.istore (q := 114) (ls' := #[.val (.int p0), .val (.int p1), .val (.int p2), .val (.int p3), .val (.int p4), .val (.int p5), .val (.ref a1), .val (.int (1 : Int32)), .val (.int (4 : Int32)), .val (.int (1 : Int32))]) at_112 rfl rfl ?_
        refine Wk.aload (q := 116) at_114 rfl rfl rfl ?_
        refine Wk.iload (q := 118) at_116 rfl rfl ?_
        refine Wk.iload (q := 120) at_118 rfl rfl ?_
        refine Wk.callS2 (q := 123) (argsL := [(.ref a1), (.int (1 : Int32)), (.int (4 : Int32))]) (rest := []) (fr := 0) (lo := 0) (P := fun w => ((¬ (tabN (b1 &&& (255 : Int32)).toNatClampNeg) = (0 : Int32)) ∧ (¬ (tabN (b2 &&& (255 : Int32)).toNatClampNeg) = (0 : Int32)) ∧ (¬ (tabN (b3 &&& (255 : Int32)).toNatClampNeg) = (0 : Int32)) ∧ w = (.int (1 : Int32))) ∨ ((¬ (tabN (b1 &&& (255 : Int32)).toNatClampNeg) = (0 : Int32)) ∧ (¬ (tabN (b2 &&& (255 : Int32)).toNatClampNeg) = (0 : Int32)) ∧ ((tabN (b3 &&& (255 : Int32)).toNatClampNeg) = (0 : Int32)) ∧ w = (.int (0 : Int32))) ∨ ((¬ (tabN (b1 &&& (255 : Int32)).toNatClampNeg) = (0 : Int32)) ∧ ((tabN (b2 &&& (255 : Int32)).toNatClampNeg) = (0 : Int32)) ∧ w = (.int (0 : Int32))) ∨ (((tabN (b1 &&& (255 : Int32)).toNatClampNeg) = (0 : Int32)) ∧ w = (.int (0 : Int32)))) (m_47 hw F A1 S1 e_0 e_1 e_2 e_3) (w_9 hw) (w_10 hw) (w_11 hw) (w_12 hw) (by decide) pd_1 rfl rfl rfl at_120 rfl (W := 0) rfl (by decide) (by decide) (by decide) (by decide) ?_
        intro w40 hP; rcases hP with ⟨h41, h42, h43, rfl⟩ | ⟨h44, h45, h46, rfl⟩ | ⟨h47, h48, rfl⟩ | ⟨h49, rfl⟩
        · refine Wk.iload (q := 125) at_123 rfl rfl ?_
          refine Wk.icmpF (q := 128) at_125 rfl (by decide : (1 : Int32) = (1 : Int32)) ?_
          refine Wk.iconst (q := 129) (v := (1 : Int32)) at_128 rfl rfl ?_
          refine Wk.goto (q := 133) at_129 (by decide) rfl ?_
          exact Wk.retZ rfl rfl at_133 (by decide) (by decide) rfl
        · exact absurd h46 h29
        · exact absurd h48 h16
        · exact absurd h49 h3
set_option maxRecDepth 65536 in
set_option maxHeartbeats 40000000 in
theorem law_tail_2_0 {l : Launch} {Z : State} {a0 : Array Value} {n0 : Nat} {h : Heap}  {a_T : Addr} {c_T : Cell} (hw : ∀ d ∈ tables_1, d.before a0 Z = true) (F : OwnF Z h  a_T c_T) {a1 : Addr} {c1 : Cell} {b0 b1 b2 b3 : Int32} (A1 : Arr Z h a1 c1 .byte) (S1 : c1.slots.size = 4) (e_0 : c1.slots[0]? = some (Value.int b0)) (e_1 : c1.slots[1]? = some (Value.int b1)) (e_2 : c1.slots[2]? = some (Value.int b2)) (e_3 : c1.slots[3]? = some (Value.int b3)) (p0 p1 p2 p3 p4 p5 : Int32) (k_s : ((p4 &&& (2147483647 : Int32)) % (5 : Int32)) = (2 : Int32)) (k_e : ((p5 &&& (2147483647 : Int32)) % (5 : Int32)) = (0 : Int32)) : Wk l Z n0 "com/example/tallykey/tallykey/HttpSyntaxIsTextPinLaw" "law" code maxLocals ret room_1 16 128 (fun v _ => v = some (.int (1 : Int32))) h 1 4 29 #[.val (.int p0), .val (.int p1), .val (.int p2), .val (.int p3), .val (.int p4), .val (.int p5), .val (.ref a1), .unset, .unset, .unset] [] := by
  refine Wk.iload (q := 31) at_29 rfl rfl ?_
  refine Wk.ldcI (q := 33) (w_1 hw) at_31 rfl ?_
  refine Wk.iand (q := 34) (v := (p4 &&& (2147483647 : Int32))) at_33 rfl rfl ?_
  refine Wk.iconst (q := 35) (v := (5 : Int32)) at_34 rfl rfl ?_
  refine Wk.irem (q := 36) (v := (2 : Int32)) at_35 rfl (by decide) k_s ?_
  refine Wk.istore (q := 38) (ls' := #[.val (.int p0), .val (.int p1), .val (.int p2), .val (.int p3), .val (.int p4), .val (.int p5), .val (.ref a1), .val (.int (2 : Int32)), .unset, .unset]) at_36 rfl rfl ?_
  refine Wk.iload (q := 40) at_38 rfl rfl ?_
  refine Wk.ldcI (q := 42) (w_1 hw) at_40 rfl ?_
  refine Wk.iand (q := 43) (v := (p5 &&& (2147483647 : Int32))) at_42 rfl rfl ?_
  refine Wk.iconst (q := 44) (v := (5 : Int32)) at_43 rfl rfl ?_
  refine Wk.irem (q := 45) (v := (0 : Int32)) at_44 rfl (by decide) k_e ?_
  refine Wk.istore (q := 47) (ls' := #[.val (.int p0), .val (.int p1), .val (.int p2), .val (.int p3), .val (.int p4), .val (.int p5), .val (.ref a1), .val (.int (2 : Int32)), .val (.int (0 : Int32)), .unset]) at_45 rfl rfl ?_
  refine Wk.iconst (q := 48) (v := (0 : Int32)) at_47 rfl rfl ?_
  refine Wk.iload (q := 50) at_48 rfl rfl ?_
  refine Wk.iload (q := 52) at_50 rfl rfl ?_
  refine Wk.aload (q := 54) at_52 rfl rfl rfl ?_
  refine Wk.iconst (q := 55) (v := (0 : Int32)) at_54 rfl rfl ?_
  refine Wk.baloadB (q := 56) A1 (by rw [S1]; decide) e_0 at_55 rfl ?_
  refine Wk.callS1 (q := 59) (argsL := [(.int (0 : Int32)), (.int (2 : Int32)), (.int (0 : Int32)), (.int b0)]) (rest := []) (fr := 0) (lo := 0) (v0 := (.int (1 : Int32))) (m_50 hw F A1 S1 e_0 e_1 e_2 e_3 b0) (w_2 hw) (w_3 hw) (w_4 hw) (w_5 hw) (by decide) pd_0 rfl rfl rfl at_56 rfl (W := 0) rfl (by decide) (by decide) (by decide) (by decide) ?_
  refine Wk.ifcF (q := 62) at_59 rfl (by decide : ¬ (1 : Int32) = (0 : Int32)) ?_
  refine Wk.iconst (q := 63) (v := (1 : Int32)) at_62 rfl rfl ?_
  refine Wk.iload (q := 65) at_63 rfl rfl ?_
  refine Wk.iload (q := 67) at_65 rfl rfl ?_
  refine Wk.aload (q := 69) at_67 rfl rfl rfl ?_
  refine Wk.iconst (q := 70) (v := (1 : Int32)) at_69 rfl rfl ?_
  refine Wk.baloadB (q := 71) A1 (by rw [S1]; decide) e_1 at_70 rfl ?_
  refine Wk.callS1 (q := 74) (argsL := [(.int (1 : Int32)), (.int (2 : Int32)), (.int (0 : Int32)), (.int b1)]) (rest := []) (fr := 0) (lo := 0) (v0 := (.int (1 : Int32))) (m_51 hw F A1 S1 e_0 e_1 e_2 e_3 b1) (w_2 hw) (w_3 hw) (w_4 hw) (w_5 hw) (by decide) pd_0 rfl rfl rfl at_71 rfl (W := 0) rfl (by decide) (by decide) (by decide) (by decide) ?_
  refine Wk.ifcF (q := 77) at_74 rfl (by decide : ¬ (1 : Int32) = (0 : Int32)) ?_
  refine Wk.iconst (q := 78) (v := (2 : Int32)) at_77 rfl rfl ?_
  refine Wk.iload (q := 80) at_78 rfl rfl ?_
  refine Wk.iload (q := 82) at_80 rfl rfl ?_
  refine Wk.aload (q := 84) at_82 rfl rfl rfl ?_
  refine Wk.iconst (q := 85) (v := (2 : Int32)) at_84 rfl rfl ?_
  refine Wk.baloadB (q := 86) A1 (by rw [S1]; decide) e_2 at_85 rfl ?_
  refine Wk.callS1 (q := 89) (argsL := [(.int (2 : Int32)), (.int (2 : Int32)), (.int (0 : Int32)), (.int b2)]) (rest := []) (fr := 0) (lo := 0) (v0 := (.int (1 : Int32))) (m_52 hw F A1 S1 e_0 e_1 e_2 e_3 b2) (w_2 hw) (w_3 hw) (w_4 hw) (w_5 hw) (by decide) pd_0 rfl rfl rfl at_86 rfl (W := 0) rfl (by decide) (by decide) (by decide) (by decide) ?_
  refine Wk.ifcF (q := 92) at_89 rfl (by decide : ¬ (1 : Int32) = (0 : Int32)) ?_
  refine Wk.iconst (q := 93) (v := (3 : Int32)) at_92 rfl rfl ?_
  refine Wk.iload (q := 95) at_93 rfl rfl ?_
  refine Wk.iload (q := 97) at_95 rfl rfl ?_
  refine Wk.aload (q := 99) at_97 rfl rfl rfl ?_
  refine Wk.iconst (q := 100) (v := (3 : Int32)) at_99 rfl rfl ?_
  refine Wk.baloadB (q := 101) A1 (by rw [S1]; decide) e_3 at_100 rfl ?_
  refine Wk.callS1 (q := 104) (argsL := [(.int (3 : Int32)), (.int (2 : Int32)), (.int (0 : Int32)), (.int b3)]) (rest := []) (fr := 0) (lo := 0) (v0 := (.int (1 : Int32))) (m_53 hw F A1 S1 e_0 e_1 e_2 e_3 b3) (w_2 hw) (w_3 hw) (w_4 hw) (w_5 hw) (by decide) pd_0 rfl rfl rfl at_101 rfl (W := 0) rfl (by decide) (by decide) (by decide) (by decide) ?_
  refine Wk.ifcF (q := 107) at_104 rfl (by decide : ¬ (1 : Int32) = (0 : Int32)) ?_
  refine Wk.iconst (q := 108) (v := (1 : Int32)) at_107 rfl rfl ?_
  refine Wk.goto (q := 112) at_108 (by decide) rfl ?_
  refine Wk.istore (q := 114) (ls' := #[.val (.int p0), .val (.int p1), .val (.int p2), .val (.int p3), .val (.int p4), .val (.int p5), .val (.ref a1), .val (.int (2 : Int32)), .val (.int (0 : Int32)), .val (.int (1 : Int32))]) at_112 rfl rfl ?_
  refine Wk.aload (q := 116) at_114 rfl rfl rfl ?_
  refine Wk.iload (q := 118) at_116 rfl rfl ?_
  refine Wk.iload (q := 120) at_118 rfl rfl ?_
  refine Wk.callS1 (q := 123) (argsL := [(.ref a1), (.int (2 : Int32)), (.int (0 : Int32))]) (rest := []) (fr := 0) (lo := 0) (v0 := (.int (1 : Int32))) (m_54 hw F A1 S1 e_0 e_1 e_2 e_3) (w_9 hw) (w_10 hw) (w_11 hw) (w_12 hw) (by decide) pd_1 rfl rfl rfl at_120 rfl (W := 0) rfl (by decide) (by decide) (by decide) (by decide) ?_
  refine Wk.iload (q := 125) at_123 rfl rfl ?_
  refine Wk.icmpF (q := 128) at_125 rfl (by decide : (1 : Int32) = (1 : Int32)) ?_
  refine Wk.iconst (q := 129) (v := (1 : Int32)) at_128 rfl rfl ?_
  refine Wk.goto (q := 133) at_129 (by decide) rfl ?_
  exact Wk.retZ rfl rfl at_133 (by decide) (by decide) rfl
set_option maxRecDepth 65536 in
set_option maxHeartbeats 40000000 in
theorem law_tail_2_1 {l : Launch} {Z : State} {a0 : Array Value} {n0 : Nat} {h : Heap}  {a_T : Addr} {c_T : Cell} (hw : ∀ d ∈ tables_1, d.before a0 Z = true) (F : OwnF Z h  a_T c_T) {a1 : Addr} {c1 : Cell} {b0 b1 b2 b3 : Int32} (A1 : Arr Z h a1 c1 .byte) (S1 : c1.slots.size = 4) (e_0 : c1.slots[0]? = some (Value.int b0)) (e_1 : c1.slots[1]? = some (Value.int b1)) (e_2 : c1.slots[2]? = some (Value.int b2)) (e_3 : c1.slots[3]? = some (Value.int b3)) (p0 p1 p2 p3 p4 p5 : Int32) (k_s : ((p4 &&& (2147483647 : Int32)) % (5 : Int32)) = (2 : Int32)) (k_e : ((p5 &&& (2147483647 : Int32)) % (5 : Int32)) = (1 : Int32)) : Wk l Z n0 "com/example/tallykey/tallykey/HttpSyntaxIsTextPinLaw" "law" code maxLocals ret room_1 16 128 (fun v _ => v = some (.int (1 : Int32))) h 1 4 29 #[.val (.int p0), .val (.int p1), .val (.int p2), .val (.int p3), .val (.int p4), .val (.int p5), .val (.ref a1), .unset, .unset, .unset] [] := by
  refine Wk.iload (q := 31) at_29 rfl rfl ?_
  refine Wk.ldcI (q := 33) (w_1 hw) at_31 rfl ?_
  refine Wk.iand (q := 34) (v := (p4 &&& (2147483647 : Int32))) at_33 rfl rfl ?_
  refine Wk.iconst (q := 35) (v := (5 : Int32)) at_34 rfl rfl ?_
  refine Wk.irem (q := 36) (v := (2 : Int32)) at_35 rfl (by decide) k_s ?_
  refine Wk.istore (q := 38) (ls' := #[.val (.int p0), .val (.int p1), .val (.int p2), .val (.int p3), .val (.int p4), .val (.int p5), .val (.ref a1), .val (.int (2 : Int32)), .unset, .unset]) at_36 rfl rfl ?_
  refine Wk.iload (q := 40) at_38 rfl rfl ?_
  refine Wk.ldcI (q := 42) (w_1 hw) at_40 rfl ?_
  refine Wk.iand (q := 43) (v := (p5 &&& (2147483647 : Int32))) at_42 rfl rfl ?_
  refine Wk.iconst (q := 44) (v := (5 : Int32)) at_43 rfl rfl ?_
  refine Wk.irem (q := 45) (v := (1 : Int32)) at_44 rfl (by decide) k_e ?_
  refine Wk.istore (q := 47) (ls' := #[.val (.int p0), .val (.int p1), .val (.int p2), .val (.int p3), .val (.int p4), .val (.int p5), .val (.ref a1), .val (.int (2 : Int32)), .val (.int (1 : Int32)), .unset]) at_45 rfl rfl ?_
  refine Wk.iconst (q := 48) (v := (0 : Int32)) at_47 rfl rfl ?_
  refine Wk.iload (q := 50) at_48 rfl rfl ?_
  refine Wk.iload (q := 52) at_50 rfl rfl ?_
  refine Wk.aload (q := 54) at_52 rfl rfl rfl ?_
  refine Wk.iconst (q := 55) (v := (0 : Int32)) at_54 rfl rfl ?_
  refine Wk.baloadB (q := 56) A1 (by rw [S1]; decide) e_0 at_55 rfl ?_
  refine Wk.callS1 (q := 59) (argsL := [(.int (0 : Int32)), (.int (2 : Int32)), (.int (1 : Int32)), (.int b0)]) (rest := []) (fr := 0) (lo := 0) (v0 := (.int (1 : Int32))) (m_55 hw F A1 S1 e_0 e_1 e_2 e_3 b0) (w_2 hw) (w_3 hw) (w_4 hw) (w_5 hw) (by decide) pd_0 rfl rfl rfl at_56 rfl (W := 0) rfl (by decide) (by decide) (by decide) (by decide) ?_
  refine Wk.ifcF (q := 62) at_59 rfl (by decide : ¬ (1 : Int32) = (0 : Int32)) ?_
  refine Wk.iconst (q := 63) (v := (1 : Int32)) at_62 rfl rfl ?_
  refine Wk.iload (q := 65) at_63 rfl rfl ?_
  refine Wk.iload (q := 67) at_65 rfl rfl ?_
  refine Wk.aload (q := 69) at_67 rfl rfl rfl ?_
  refine Wk.iconst (q := 70) (v := (1 : Int32)) at_69 rfl rfl ?_
  refine Wk.baloadB (q := 71) A1 (by rw [S1]; decide) e_1 at_70 rfl ?_
  refine Wk.callS1 (q := 74) (argsL := [(.int (1 : Int32)), (.int (2 : Int32)), (.int (1 : Int32)), (.int b1)]) (rest := []) (fr := 0) (lo := 0) (v0 := (.int (1 : Int32))) (m_56 hw F A1 S1 e_0 e_1 e_2 e_3 b1) (w_2 hw) (w_3 hw) (w_4 hw) (w_5 hw) (by decide) pd_0 rfl rfl rfl at_71 rfl (W := 0) rfl (by decide) (by decide) (by decide) (by decide) ?_
  refine Wk.ifcF (q := 77) at_74 rfl (by decide : ¬ (1 : Int32) = (0 : Int32)) ?_
  refine Wk.iconst (q := 78) (v := (2 : Int32)) at_77 rfl rfl ?_
  refine Wk.iload (q := 80) at_78 rfl rfl ?_
  refine Wk.iload (q := 82) at_80 rfl rfl ?_
  refine Wk.aload (q := 84) at_82 rfl rfl rfl ?_
  refine Wk.iconst (q := 85) (v := (2 : Int32)) at_84 rfl rfl ?_
  refine Wk.baloadB (q := 86) A1 (by rw [S1]; decide) e_2 at_85 rfl ?_
  refine Wk.callS1 (q := 89) (argsL := [(.int (2 : Int32)), (.int (2 : Int32)), (.int (1 : Int32)), (.int b2)]) (rest := []) (fr := 0) (lo := 0) (v0 := (.int (1 : Int32))) (m_57 hw F A1 S1 e_0 e_1 e_2 e_3 b2) (w_2 hw) (w_3 hw) (w_4 hw) (w_5 hw) (by decide) pd_0 rfl rfl rfl at_86 rfl (W := 0) rfl (by decide) (by decide) (by decide) (by decide) ?_
  refine Wk.ifcF (q := 92) at_89 rfl (by decide : ¬ (1 : Int32) = (0 : Int32)) ?_
  refine Wk.iconst (q := 93) (v := (3 : Int32)) at_92 rfl rfl ?_
  refine Wk.iload (q := 95) at_93 rfl rfl ?_
  refine Wk.iload (q := 97) at_95 rfl rfl ?_
  refine Wk.aload (q := 99) at_97 rfl rfl rfl ?_
  refine Wk.iconst (q := 100) (v := (3 : Int32)) at_99 rfl rfl ?_
  refine Wk.baloadB (q := 101) A1 (by rw [S1]; decide) e_3 at_100 rfl ?_
  refine Wk.callS1 (q := 104) (argsL := [(.int (3 : Int32)), (.int (2 : Int32)), (.int (1 : Int32)), (.int b3)]) (rest := []) (fr := 0) (lo := 0) (v0 := (.int (1 : Int32))) (m_58 hw F A1 S1 e_0 e_1 e_2 e_3 b3) (w_2 hw) (w_3 hw) (w_4 hw) (w_5 hw) (by decide) pd_0 rfl rfl rfl at_101 rfl (W := 0) rfl (by decide) (by decide) (by decide) (by decide) ?_
  refine Wk.ifcF (q := 107) at_104 rfl (by decide : ¬ (1 : Int32) = (0 : Int32)) ?_
  refine Wk.iconst (q := 108) (v := (1 : Int32)) at_107 rfl rfl ?_
  refine Wk.goto (q := 112) at_108 (by decide) rfl ?_
  refine Wk.istore (q := 114) (ls' := #[.val (.int p0), .val (.int p1), .val (.int p2), .val (.int p3), .val (.int p4), .val (.int p5), .val (.ref a1), .val (.int (2 : Int32)), .val (.int (1 : Int32)), .val (.int (1 : Int32))]) at_112 rfl rfl ?_
  refine Wk.aload (q := 116) at_114 rfl rfl rfl ?_
  refine Wk.iload (q := 118) at_116 rfl rfl ?_
  refine Wk.iload (q := 120) at_118 rfl rfl ?_
  refine Wk.callS1 (q := 123) (argsL := [(.ref a1), (.int (2 : Int32)), (.int (1 : Int32))]) (rest := []) (fr := 0) (lo := 0) (v0 := (.int (1 : Int32))) (m_59 hw F A1 S1 e_0 e_1 e_2 e_3) (w_9 hw) (w_10 hw) (w_11 hw) (w_12 hw) (by decide) pd_1 rfl rfl rfl at_120 rfl (W := 0) rfl (by decide) (by decide) (by decide) (by decide) ?_
  refine Wk.iload (q := 125) at_123 rfl rfl ?_
  refine Wk.icmpF (q := 128) at_125 rfl (by decide : (1 : Int32) = (1 : Int32)) ?_
  refine Wk.iconst (q := 129) (v := (1 : Int32)) at_128 rfl rfl ?_
  refine Wk.goto (q := 133) at_129 (by decide) rfl ?_
  exact Wk.retZ rfl rfl at_133 (by decide) (by decide) rfl
set_option maxRecDepth 65536 in
set_option maxHeartbeats 40000000 in
theorem law_tail_2_2 {l : Launch} {Z : State} {a0 : Array Value} {n0 : Nat} {h : Heap}  {a_T : Addr} {c_T : Cell} (hw : ∀ d ∈ tables_1, d.before a0 Z = true) (F : OwnF Z h  a_T c_T) {a1 : Addr} {c1 : Cell} {b0 b1 b2 b3 : Int32} (A1 : Arr Z h a1 c1 .byte) (S1 : c1.slots.size = 4) (e_0 : c1.slots[0]? = some (Value.int b0)) (e_1 : c1.slots[1]? = some (Value.int b1)) (e_2 : c1.slots[2]? = some (Value.int b2)) (e_3 : c1.slots[3]? = some (Value.int b3)) (p0 p1 p2 p3 p4 p5 : Int32) (k_s : ((p4 &&& (2147483647 : Int32)) % (5 : Int32)) = (2 : Int32)) (k_e : ((p5 &&& (2147483647 : Int32)) % (5 : Int32)) = (2 : Int32)) : Wk l Z n0 "com/example/tallykey/tallykey/HttpSyntaxIsTextPinLaw" "law" code maxLocals ret room_1 16 128 (fun v _ => v = some (.int (1 : Int32))) h 1 4 29 #[.val (.int p0), .val (.int p1), .val (.int p2), .val (.int p3), .val (.int p4), .val (.int p5), .val (.ref a1), .unset, .unset, .unset] [] := by
  refine Wk.iload (q := 31) at_29 rfl rfl ?_
  refine Wk.ldcI (q := 33) (w_1 hw) at_31 rfl ?_
  refine Wk.iand (q := 34) (v := (p4 &&& (2147483647 : Int32))) at_33 rfl rfl ?_
  refine Wk.iconst (q := 35) (v := (5 : Int32)) at_34 rfl rfl ?_
  refine Wk.irem (q := 36) (v := (2 : Int32)) at_35 rfl (by decide) k_s ?_
  refine Wk.istore (q := 38) (ls' := #[.val (.int p0), .val (.int p1), .val (.int p2), .val (.int p3), .val (.int p4), .val (.int p5), .val (.ref a1), .val (.int (2 : Int32)), .unset, .unset]) at_36 rfl rfl ?_
  refine Wk.iload (q := 40) at_38 rfl rfl ?_
  refine Wk.ldcI (q := 42) (w_1 hw) at_40 rfl ?_
  refine Wk.iand (q := 43) (v := (p5 &&& (2147483647 : Int32))) at_42 rfl rfl ?_
  refine Wk.iconst (q := 44) (v := (5 : Int32)) at_43 rfl rfl ?_
  refine Wk.irem (q := 45) (v := (2 : Int32)) at_44 rfl (by decide) k_e ?_
  refine Wk.istore (q := 47) (ls' := #[.val (.int p0), .val (.int p1), .val (.int p2), .val (.int p3), .val (.int p4), .val (.int p5), .val (.ref a1), .val (.int (2 : Int32)), .val (.int (2 : Int32)), .unset]) at_45 rfl rfl ?_
  refine Wk.iconst (q := 48) (v := (0 : Int32)) at_47 rfl rfl ?_
  refine Wk.iload (q := 50) at_48 rfl rfl ?_
  refine Wk.iload (q := 52) at_50 rfl rfl ?_
  refine Wk.aload (q := 54) at_52 rfl rfl rfl ?_
  refine Wk.iconst (q := 55) (v := (0 : Int32)) at_54 rfl rfl ?_
  refine Wk.baloadB (q := 56) A1 (by rw [S1]; decide) e_0 at_55 rfl ?_
  refine Wk.callS1 (q := 59) (argsL := [(.int (0 : Int32)), (.int (2 : Int32)), (.int (2 : Int32)), (.int b0)]) (rest := []) (fr := 0) (lo := 0) (v0 := (.int (1 : Int32))) (m_60 hw F A1 S1 e_0 e_1 e_2 e_3 b0) (w_2 hw) (w_3 hw) (w_4 hw) (w_5 hw) (by decide) pd_0 rfl rfl rfl at_56 rfl (W := 0) rfl (by decide) (by decide) (by decide) (by decide) ?_
  refine Wk.ifcF (q := 62) at_59 rfl (by decide : ¬ (1 : Int32) = (0 : Int32)) ?_
  refine Wk.iconst (q := 63) (v := (1 : Int32)) at_62 rfl rfl ?_
  refine Wk.iload (q := 65) at_63 rfl rfl ?_
  refine Wk.iload (q := 67) at_65 rfl rfl ?_
  refine Wk.aload (q := 69) at_67 rfl rfl rfl ?_
  refine Wk.iconst (q := 70) (v := (1 : Int32)) at_69 rfl rfl ?_
  refine Wk.baloadB (q := 71) A1 (by rw [S1]; decide) e_1 at_70 rfl ?_
  refine Wk.callS1 (q := 74) (argsL := [(.int (1 : Int32)), (.int (2 : Int32)), (.int (2 : Int32)), (.int b1)]) (rest := []) (fr := 0) (lo := 0) (v0 := (.int (1 : Int32))) (m_61 hw F A1 S1 e_0 e_1 e_2 e_3 b1) (w_2 hw) (w_3 hw) (w_4 hw) (w_5 hw) (by decide) pd_0 rfl rfl rfl at_71 rfl (W := 0) rfl (by decide) (by decide) (by decide) (by decide) ?_
  refine Wk.ifcF (q := 77) at_74 rfl (by decide : ¬ (1 : Int32) = (0 : Int32)) ?_
  refine Wk.iconst (q := 78) (v := (2 : Int32)) at_77 rfl rfl ?_
  refine Wk.iload (q := 80) at_78 rfl rfl ?_
  refine Wk.iload (q := 82) at_80 rfl rfl ?_
  refine Wk.aload (q := 84) at_82 rfl rfl rfl ?_
  refine Wk.iconst (q := 85) (v := (2 : Int32)) at_84 rfl rfl ?_
  refine Wk.baloadB (q := 86) A1 (by rw [S1]; decide) e_2 at_85 rfl ?_
  refine Wk.callS1 (q := 89) (argsL := [(.int (2 : Int32)), (.int (2 : Int32)), (.int (2 : Int32)), (.int b2)]) (rest := []) (fr := 0) (lo := 0) (v0 := (.int (1 : Int32))) (m_62 hw F A1 S1 e_0 e_1 e_2 e_3 b2) (w_2 hw) (w_3 hw) (w_4 hw) (w_5 hw) (by decide) pd_0 rfl rfl rfl at_86 rfl (W := 0) rfl (by decide) (by decide) (by decide) (by decide) ?_
  refine Wk.ifcF (q := 92) at_89 rfl (by decide : ¬ (1 : Int32) = (0 : Int32)) ?_
  refine Wk.iconst (q := 93) (v := (3 : Int32)) at_92 rfl rfl ?_
  refine Wk.iload (q := 95) at_93 rfl rfl ?_
  refine Wk.iload (q := 97) at_95 rfl rfl ?_
  refine Wk.aload (q := 99) at_97 rfl rfl rfl ?_
  refine Wk.iconst (q := 100) (v := (3 : Int32)) at_99 rfl rfl ?_
  refine Wk.baloadB (q := 101) A1 (by rw [S1]; decide) e_3 at_100 rfl ?_
  refine Wk.callS1 (q := 104) (argsL := [(.int (3 : Int32)), (.int (2 : Int32)), (.int (2 : Int32)), (.int b3)]) (rest := []) (fr := 0) (lo := 0) (v0 := (.int (1 : Int32))) (m_63 hw F A1 S1 e_0 e_1 e_2 e_3 b3) (w_2 hw) (w_3 hw) (w_4 hw) (w_5 hw) (by decide) pd_0 rfl rfl rfl at_101 rfl (W := 0) rfl (by decide) (by decide) (by decide) (by decide) ?_
  refine Wk.ifcF (q := 107) at_104 rfl (by decide : ¬ (1 : Int32) = (0 : Int32)) ?_
  refine Wk.iconst (q := 108) (v := (1 : Int32)) at_107 rfl rfl ?_
  refine Wk.goto (q := 112) at_108 (by decide) rfl ?_
  refine Wk.istore (q := 114) (ls' := #[.val (.int p0), .val (.int p1), .val (.int p2), .val (.int p3), .val (.int p4), .val (.int p5), .val (.ref a1), .val (.int (2 : Int32)), .val (.int (2 : Int32)), .val (.int (1 : Int32))]) at_112 rfl rfl ?_
  refine Wk.aload (q := 116) at_114 rfl rfl rfl ?_
  refine Wk.iload (q := 118) at_116 rfl rfl ?_
  refine Wk.iload (q := 120) at_118 rfl rfl ?_
  refine Wk.callS1 (q := 123) (argsL := [(.ref a1), (.int (2 : Int32)), (.int (2 : Int32))]) (rest := []) (fr := 0) (lo := 0) (v0 := (.int (1 : Int32))) (m_64 hw F A1 S1 e_0 e_1 e_2 e_3) (w_9 hw) (w_10 hw) (w_11 hw) (w_12 hw) (by decide) pd_1 rfl rfl rfl at_120 rfl (W := 0) rfl (by decide) (by decide) (by decide) (by decide) ?_
  refine Wk.iload (q := 125) at_123 rfl rfl ?_
  refine Wk.icmpF (q := 128) at_125 rfl (by decide : (1 : Int32) = (1 : Int32)) ?_
  refine Wk.iconst (q := 129) (v := (1 : Int32)) at_128 rfl rfl ?_
  refine Wk.goto (q := 133) at_129 (by decide) rfl ?_
  exact Wk.retZ rfl rfl at_133 (by decide) (by decide) rfl
set_option maxRecDepth 65536 in
set_option maxHeartbeats 40000000 in
theorem law_tail_2_3 {l : Launch} {Z : State} {a0 : Array Value} {n0 : Nat} {h : Heap}  {a_T : Addr} {c_T : Cell} (hw : ∀ d ∈ tables_1, d.before a0 Z = true) (F : OwnF Z h  a_T c_T) {a1 : Addr} {c1 : Cell} {b0 b1 b2 b3 : Int32} (A1 : Arr Z h a1 c1 .byte) (S1 : c1.slots.size = 4) (e_0 : c1.slots[0]? = some (Value.int b0)) (e_1 : c1.slots[1]? = some (Value.int b1)) (e_2 : c1.slots[2]? = some (Value.int b2)) (e_3 : c1.slots[3]? = some (Value.int b3)) (p0 p1 p2 p3 p4 p5 : Int32) (k_s : ((p4 &&& (2147483647 : Int32)) % (5 : Int32)) = (2 : Int32)) (k_e : ((p5 &&& (2147483647 : Int32)) % (5 : Int32)) = (3 : Int32)) : Wk l Z n0 "com/example/tallykey/tallykey/HttpSyntaxIsTextPinLaw" "law" code maxLocals ret room_1 16 128 (fun v _ => v = some (.int (1 : Int32))) h 1 4 29 #[.val (.int p0), .val (.int p1), .val (.int p2), .val (.int p3), .val (.int p4), .val (.int p5), .val (.ref a1), .unset, .unset, .unset] [] := by
  refine Wk.iload (q := 31) at_29 rfl rfl ?_
  refine Wk.ldcI (q := 33) (w_1 hw) at_31 rfl ?_
  refine Wk.iand (q := 34) (v := (p4 &&& (2147483647 : Int32))) at_33 rfl rfl ?_
  refine Wk.iconst (q := 35) (v := (5 : Int32)) at_34 rfl rfl ?_
  refine Wk.irem (q := 36) (v := (2 : Int32)) at_35 rfl (by decide) k_s ?_
  refine Wk.istore (q := 38) (ls' := #[.val (.int p0), .val (.int p1), .val (.int p2), .val (.int p3), .val (.int p4), .val (.int p5), .val (.ref a1), .val (.int (2 : Int32)), .unset, .unset]) at_36 rfl rfl ?_
  refine Wk.iload (q := 40) at_38 rfl rfl ?_
  refine Wk.ldcI (q := 42) (w_1 hw) at_40 rfl ?_
  refine Wk.iand (q := 43) (v := (p5 &&& (2147483647 : Int32))) at_42 rfl rfl ?_
  refine Wk.iconst (q := 44) (v := (5 : Int32)) at_43 rfl rfl ?_
  refine Wk.irem (q := 45) (v := (3 : Int32)) at_44 rfl (by decide) k_e ?_
  refine Wk.istore (q := 47) (ls' := #[.val (.int p0), .val (.int p1), .val (.int p2), .val (.int p3), .val (.int p4), .val (.int p5), .val (.ref a1), .val (.int (2 : Int32)), .val (.int (3 : Int32)), .unset]) at_45 rfl rfl ?_
  refine Wk.iconst (q := 48) (v := (0 : Int32)) at_47 rfl rfl ?_
  refine Wk.iload (q := 50) at_48 rfl rfl ?_
  refine Wk.iload (q := 52) at_50 rfl rfl ?_
  refine Wk.aload (q := 54) at_52 rfl rfl rfl ?_
  refine Wk.iconst (q := 55) (v := (0 : Int32)) at_54 rfl rfl ?_
  refine Wk.baloadB (q := 56) A1 (by rw [S1]; decide) e_0 at_55 rfl ?_
  refine Wk.callS1 (q := 59) (argsL := [(.int (0 : Int32)), (.int (2 : Int32)), (.int (3 : Int32)), (.int b0)]) (rest := []) (fr := 0) (lo := 0) (v0 := (.int (1 : Int32))) (m_65 hw F A1 S1 e_0 e_1 e_2 e_3 b0) (w_2 hw) (w_3 hw) (w_4 hw) (w_5 hw) (by decide) pd_0 rfl rfl rfl at_56 rfl (W := 0) rfl (by decide) (by decide) (by decide) (by decide) ?_
  refine Wk.ifcF (q := 62) at_59 rfl (by decide : ¬ (1 : Int32) = (0 : Int32)) ?_
  refine Wk.iconst (q := 63) (v := (1 : Int32)) at_62 rfl rfl ?_
  refine Wk.iload (q := 65) at_63 rfl rfl ?_
  refine Wk.iload (q := 67) at_65 rfl rfl ?_
  refine Wk.aload (q := 69) at_67 rfl rfl rfl ?_
  refine Wk.iconst (q := 70) (v := (1 : Int32)) at_69 rfl rfl ?_
  refine Wk.baloadB (q := 71) A1 (by rw [S1]; decide) e_1 at_70 rfl ?_
  refine Wk.callS1 (q := 74) (argsL := [(.int (1 : Int32)), (.int (2 : Int32)), (.int (3 : Int32)), (.int b1)]) (rest := []) (fr := 0) (lo := 0) (v0 := (.int (1 : Int32))) (m_66 hw F A1 S1 e_0 e_1 e_2 e_3 b1) (w_2 hw) (w_3 hw) (w_4 hw) (w_5 hw) (by decide) pd_0 rfl rfl rfl at_71 rfl (W := 0) rfl (by decide) (by decide) (by decide) (by decide) ?_
  refine Wk.ifcF (q := 77) at_74 rfl (by decide : ¬ (1 : Int32) = (0 : Int32)) ?_
  refine Wk.iconst (q := 78) (v := (2 : Int32)) at_77 rfl rfl ?_
  refine Wk.iload (q := 80) at_78 rfl rfl ?_
  refine Wk.iload (q := 82) at_80 rfl rfl ?_
  refine Wk.aload (q := 84) at_82 rfl rfl rfl ?_
  refine Wk.iconst (q := 85) (v := (2 : Int32)) at_84 rfl rfl ?_
  refine Wk.baloadB (q := 86) A1 (by rw [S1]; decide) e_2 at_85 rfl ?_
  refine Wk.callS2 (q := 89) (argsL := [(.int (2 : Int32)), (.int (2 : Int32)), (.int (3 : Int32)), (.int b2)]) (rest := []) (fr := 1) (lo := 13) (P := fun w => (((tabN (b2 &&& (255 : Int32)).toNatClampNeg) = (0 : Int32)) ∧ w = (.int (0 : Int32))) ∨ ((¬ (tabN (b2 &&& (255 : Int32)).toNatClampNeg) = (0 : Int32)) ∧ w = (.int (1 : Int32)))) (m_67 hw F A1 S1 e_0 e_1 e_2 e_3 b2) (w_2 hw) (w_3 hw) (w_4 hw) (w_5 hw) (by decide) pd_0 rfl rfl rfl at_86 rfl (W := 0) rfl (by decide) (by decide) (by decide) (by decide) ?_
  intro w1 hP; rcases hP with ⟨h2, rfl⟩ | ⟨h3, rfl⟩
  · refine Wk.ifcT (q := 111) at_89 (by decide) rfl (by decide : (0 : Int32) = (0 : Int32)) ?_
    refine Wk.iconst (q := 112) (v := (0 : Int32)) at_111 rfl rfl ?_
    refine Wk.istore (q := 114) (ls' := #[.val (.int p0), .val (.int p1), .val (.int p2), .val (.int p3), .val (.int p4), .val (.int p5), .val (.ref a1), .val (.int (2 : Int32)), .val (.int (3 : Int32)), .val (.int (0 : Int32))]) at_112 rfl rfl ?_
    refine Wk.aload (q := 116) at_114 rfl rfl rfl ?_
    refine Wk.iload (q := 118) at_116 rfl rfl ?_
    refine Wk.iload (q := 120) at_118 rfl rfl ?_
    refine Wk.callS2 (q := 123) (argsL := [(.ref a1), (.int (2 : Int32)), (.int (3 : Int32))]) (rest := []) (fr := 0) (lo := 0) (P := fun w => ((¬ (tabN (b2 &&& (255 : Int32)).toNatClampNeg) = (0 : Int32)) ∧ w = (.int (1 : Int32))) ∨ (((tabN (b2 &&& (255 : Int32)).toNatClampNeg) = (0 : Int32)) ∧ w = (.int (0 : Int32)))) (m_68 hw F A1 S1 e_0 e_1 e_2 e_3) (w_9 hw) (w_10 hw) (w_11 hw) (w_12 hw) (by decide) pd_1 rfl rfl rfl at_120 rfl (W := 0) rfl (by decide) (by decide) (by decide) (by decide) ?_
    intro w4 hP; rcases hP with ⟨h5, rfl⟩ | ⟨h6, rfl⟩
    · exact absurd h2 h5
    · refine Wk.iload (q := 125) at_123 rfl rfl ?_
      refine Wk.icmpF (q := 128) at_125 rfl (by decide : (0 : Int32) = (0 : Int32)) ?_
      refine Wk.iconst (q := 129) (v := (1 : Int32)) at_128 rfl rfl ?_
      refine Wk.goto (q := 133) at_129 (by decide) rfl ?_
      exact Wk.retZ rfl rfl at_133 (by decide) (by decide) rfl
  · refine Wk.ifcF (q := 92) at_89 rfl (by decide : ¬ (1 : Int32) = (0 : Int32)) ?_
    refine Wk.iconst (q := 93) (v := (3 : Int32)) at_92 rfl rfl ?_
    refine Wk.iload (q := 95) at_93 rfl rfl ?_
    refine Wk.iload (q := 97) at_95 rfl rfl ?_
    refine Wk.aload (q := 99) at_97 rfl rfl rfl ?_
    refine Wk.iconst (q := 100) (v := (3 : Int32)) at_99 rfl rfl ?_
    refine Wk.baloadB (q := 101) A1 (by rw [S1]; decide) e_3 at_100 rfl ?_
    refine Wk.callS1 (q := 104) (argsL := [(.int (3 : Int32)), (.int (2 : Int32)), (.int (3 : Int32)), (.int b3)]) (rest := []) (fr := 0) (lo := 0) (v0 := (.int (1 : Int32))) (m_69 hw F A1 S1 e_0 e_1 e_2 e_3 b3) (w_2 hw) (w_3 hw) (w_4 hw) (w_5 hw) (by decide) pd_0 rfl rfl rfl at_101 rfl (W := 0) rfl (by decide) (by decide) (by decide) (by decide) ?_
    refine Wk.ifcF (q := 107) at_104 rfl (by decide : ¬ (1 : Int32) = (0 : Int32)) ?_
    refine Wk.iconst (q := 108) (v := (1 : Int32)) at_107 rfl rfl ?_
    refine Wk.goto (q := 112) at_108 (by decide) rfl ?_
    refine Wk.istore (q := 114) (ls' := #[.val (.int p0), .val (.int p1), .val (.int p2), .val (.int p3), .val (.int p4), .val (.int p5), .val (.ref a1), .val (.int (2 : Int32)), .val (.int (3 : Int32)), .val (.int (1 : Int32))]) at_112 rfl rfl ?_
    refine Wk.aload (q := 116) at_114 rfl rfl rfl ?_
    refine Wk.iload (q := 118) at_116 rfl rfl ?_
    refine Wk.iload (q := 120) at_118 rfl rfl ?_
    refine Wk.callS2 (q := 123) (argsL := [(.ref a1), (.int (2 : Int32)), (.int (3 : Int32))]) (rest := []) (fr := 0) (lo := 0) (P := fun w => ((¬ (tabN (b2 &&& (255 : Int32)).toNatClampNeg) = (0 : Int32)) ∧ w = (.int (1 : Int32))) ∨ (((tabN (b2 &&& (255 : Int32)).toNatClampNeg) = (0 : Int32)) ∧ w = (.int (0 : Int32)))) (m_68 hw F A1 S1 e_0 e_1 e_2 e_3) (w_9 hw) (w_10 hw) (w_11 hw) (w_12 hw) (by decide) pd_1 rfl rfl rfl at_120 rfl (W := 0) rfl (by decide) (by decide) (by decide) (by decide) ?_
    intro w7 hP; rcases hP with ⟨h8, rfl⟩ | ⟨h9, rfl⟩
    · refine Wk.iload (q := 125) at_123 rfl rfl ?_
      refine Wk.icmpF (q := 128) at_125 rfl (by decide : (1 : Int32) = (1 : Int32)) ?_
      refine Wk.iconst (q := 129) (v := (1 : Int32)) at_128 rfl rfl ?_
      refine Wk.goto (q := 133) at_129 (by decide) rfl ?_
      exact Wk.retZ rfl rfl at_133 (by decide) (by decide) rfl
    · exact absurd h9 h3
set_option maxRecDepth 65536 in
set_option maxHeartbeats 40000000 in
theorem law_tail_2_4 {l : Launch} {Z : State} {a0 : Array Value} {n0 : Nat} {h : Heap}  {a_T : Addr} {c_T : Cell} (hw : ∀ d ∈ tables_1, d.before a0 Z = true) (F : OwnF Z h  a_T c_T) {a1 : Addr} {c1 : Cell} {b0 b1 b2 b3 : Int32} (A1 : Arr Z h a1 c1 .byte) (S1 : c1.slots.size = 4) (e_0 : c1.slots[0]? = some (Value.int b0)) (e_1 : c1.slots[1]? = some (Value.int b1)) (e_2 : c1.slots[2]? = some (Value.int b2)) (e_3 : c1.slots[3]? = some (Value.int b3)) (p0 p1 p2 p3 p4 p5 : Int32) (k_s : ((p4 &&& (2147483647 : Int32)) % (5 : Int32)) = (2 : Int32)) (k_e : ((p5 &&& (2147483647 : Int32)) % (5 : Int32)) = (4 : Int32)) : Wk l Z n0 "com/example/tallykey/tallykey/HttpSyntaxIsTextPinLaw" "law" code maxLocals ret room_1 16 128 (fun v _ => v = some (.int (1 : Int32))) h 1 4 29 #[.val (.int p0), .val (.int p1), .val (.int p2), .val (.int p3), .val (.int p4), .val (.int p5), .val (.ref a1), .unset, .unset, .unset] [] := by
  refine Wk.iload (q := 31) at_29 rfl rfl ?_
  refine Wk.ldcI (q := 33) (w_1 hw) at_31 rfl ?_
  refine Wk.iand (q := 34) (v := (p4 &&& (2147483647 : Int32))) at_33 rfl rfl ?_
  refine Wk.iconst (q := 35) (v := (5 : Int32)) at_34 rfl rfl ?_
  refine Wk.irem (q := 36) (v := (2 : Int32)) at_35 rfl (by decide) k_s ?_
  refine Wk.istore (q := 38) (ls' := #[.val (.int p0), .val (.int p1), .val (.int p2), .val (.int p3), .val (.int p4), .val (.int p5), .val (.ref a1), .val (.int (2 : Int32)), .unset, .unset]) at_36 rfl rfl ?_
  refine Wk.iload (q := 40) at_38 rfl rfl ?_
  refine Wk.ldcI (q := 42) (w_1 hw) at_40 rfl ?_
  refine Wk.iand (q := 43) (v := (p5 &&& (2147483647 : Int32))) at_42 rfl rfl ?_
  refine Wk.iconst (q := 44) (v := (5 : Int32)) at_43 rfl rfl ?_
  refine Wk.irem (q := 45) (v := (4 : Int32)) at_44 rfl (by decide) k_e ?_
  refine Wk.istore (q := 47) (ls' := #[.val (.int p0), .val (.int p1), .val (.int p2), .val (.int p3), .val (.int p4), .val (.int p5), .val (.ref a1), .val (.int (2 : Int32)), .val (.int (4 : Int32)), .unset]) at_45 rfl rfl ?_
  refine Wk.iconst (q := 48) (v := (0 : Int32)) at_47 rfl rfl ?_
  refine Wk.iload (q := 50) at_48 rfl rfl ?_
  refine Wk.iload (q := 52) at_50 rfl rfl ?_
  refine Wk.aload (q := 54) at_52 rfl rfl rfl ?_
  refine Wk.iconst (q := 55) (v := (0 : Int32)) at_54 rfl rfl ?_
  refine Wk.baloadB (q := 56) A1 (by rw [S1]; decide) e_0 at_55 rfl ?_
  refine Wk.callS1 (q := 59) (argsL := [(.int (0 : Int32)), (.int (2 : Int32)), (.int (4 : Int32)), (.int b0)]) (rest := []) (fr := 0) (lo := 0) (v0 := (.int (1 : Int32))) (m_70 hw F A1 S1 e_0 e_1 e_2 e_3 b0) (w_2 hw) (w_3 hw) (w_4 hw) (w_5 hw) (by decide) pd_0 rfl rfl rfl at_56 rfl (W := 0) rfl (by decide) (by decide) (by decide) (by decide) ?_
  refine Wk.ifcF (q := 62) at_59 rfl (by decide : ¬ (1 : Int32) = (0 : Int32)) ?_
  refine Wk.iconst (q := 63) (v := (1 : Int32)) at_62 rfl rfl ?_
  refine Wk.iload (q := 65) at_63 rfl rfl ?_
  refine Wk.iload (q := 67) at_65 rfl rfl ?_
  refine Wk.aload (q := 69) at_67 rfl rfl rfl ?_
  refine Wk.iconst (q := 70) (v := (1 : Int32)) at_69 rfl rfl ?_
  refine Wk.baloadB (q := 71) A1 (by rw [S1]; decide) e_1 at_70 rfl ?_
  refine Wk.callS1 (q := 74) (argsL := [(.int (1 : Int32)), (.int (2 : Int32)), (.int (4 : Int32)), (.int b1)]) (rest := []) (fr := 0) (lo := 0) (v0 := (.int (1 : Int32))) (m_71 hw F A1 S1 e_0 e_1 e_2 e_3 b1) (w_2 hw) (w_3 hw) (w_4 hw) (w_5 hw) (by decide) pd_0 rfl rfl rfl at_71 rfl (W := 0) rfl (by decide) (by decide) (by decide) (by decide) ?_
  refine Wk.ifcF (q := 77) at_74 rfl (by decide : ¬ (1 : Int32) = (0 : Int32)) ?_
  refine Wk.iconst (q := 78) (v := (2 : Int32)) at_77 rfl rfl ?_
  refine Wk.iload (q := 80) at_78 rfl rfl ?_
  refine Wk.iload (q := 82) at_80 rfl rfl ?_
  refine Wk.aload (q := 84) at_82 rfl rfl rfl ?_
  refine Wk.iconst (q := 85) (v := (2 : Int32)) at_84 rfl rfl ?_
  refine Wk.baloadB (q := 86) A1 (by rw [S1]; decide) e_2 at_85 rfl ?_
  refine Wk.callS2 (q := 89) (argsL := [(.int (2 : Int32)), (.int (2 : Int32)), (.int (4 : Int32)), (.int b2)]) (rest := []) (fr := 1) (lo := 13) (P := fun w => (((tabN (b2 &&& (255 : Int32)).toNatClampNeg) = (0 : Int32)) ∧ w = (.int (0 : Int32))) ∨ ((¬ (tabN (b2 &&& (255 : Int32)).toNatClampNeg) = (0 : Int32)) ∧ w = (.int (1 : Int32)))) (m_72 hw F A1 S1 e_0 e_1 e_2 e_3 b2) (w_2 hw) (w_3 hw) (w_4 hw) (w_5 hw) (by decide) pd_0 rfl rfl rfl at_86 rfl (W := 0) rfl (by decide) (by decide) (by decide) (by decide) ?_
  intro w1 hP; rcases hP with ⟨h2, rfl⟩ | ⟨h3, rfl⟩
  · refine Wk.ifcT (q := 111) at_89 (by decide) rfl (by decide : (0 : Int32) = (0 : Int32)) ?_
    refine Wk.iconst (q := 112) (v := (0 : Int32)) at_111 rfl rfl ?_
    refine Wk.istore (q := 114) (ls' := #[.val (.int p0), .val (.int p1), .val (.int p2), .val (.int p3), .val (.int p4), .val (.int p5), .val (.ref a1), .val (.int (2 : Int32)), .val (.int (4 : Int32)), .val (.int (0 : Int32))]) at_112 rfl rfl ?_
    refine Wk.aload (q := 116) at_114 rfl rfl rfl ?_
    refine Wk.iload (q := 118) at_116 rfl rfl ?_
    refine Wk.iload (q := 120) at_118 rfl rfl ?_
    refine Wk.callS2 (q := 123) (argsL := [(.ref a1), (.int (2 : Int32)), (.int (4 : Int32))]) (rest := []) (fr := 0) (lo := 0) (P := fun w => ((¬ (tabN (b2 &&& (255 : Int32)).toNatClampNeg) = (0 : Int32)) ∧ (¬ (tabN (b3 &&& (255 : Int32)).toNatClampNeg) = (0 : Int32)) ∧ w = (.int (1 : Int32))) ∨ ((¬ (tabN (b2 &&& (255 : Int32)).toNatClampNeg) = (0 : Int32)) ∧ ((tabN (b3 &&& (255 : Int32)).toNatClampNeg) = (0 : Int32)) ∧ w = (.int (0 : Int32))) ∨ (((tabN (b2 &&& (255 : Int32)).toNatClampNeg) = (0 : Int32)) ∧ w = (.int (0 : Int32)))) (m_73 hw F A1 S1 e_0 e_1 e_2 e_3) (w_9 hw) (w_10 hw) (w_11 hw) (w_12 hw) (by decide) pd_1 rfl rfl rfl at_120 rfl (W := 0) rfl (by decide) (by decide) (by decide) (by decide) ?_
    intro w4 hP; rcases hP with ⟨h5, h6, rfl⟩ | ⟨h7, h8, rfl⟩ | ⟨h9, rfl⟩
    · exact absurd h2 h5
    · exact absurd h2 h7
    · refine Wk.iload (q := 125) at_123 rfl rfl ?_
      refine Wk.icmpF (q := 128) at_125 rfl (by decide : (0 : Int32) = (0 : Int32)) ?_
      refine Wk.iconst (q := 129) (v := (1 : Int32)) at_128 rfl rfl ?_
      refine Wk.goto (q := 133) at_129 (by decide) rfl ?_
      exact Wk.retZ rfl rfl at_133 (by decide) (by decide) rfl
  · refine Wk.ifcF (q := 92) at_89 rfl (by decide : ¬ (1 : Int32) = (0 : Int32)) ?_
    refine Wk.iconst (q := 93) (v := (3 : Int32)) at_92 rfl rfl ?_
    refine Wk.iload (q := 95) at_93 rfl rfl ?_
    refine Wk.iload (q := 97) at_95 rfl rfl ?_
    refine Wk.aload (q := 99) at_97 rfl rfl rfl ?_
    refine Wk.iconst (q := 100) (v := (3 : Int32)) at_99 rfl rfl ?_
    refine Wk.baloadB (q := 101) A1 (by rw [S1]; decide) e_3 at_100 rfl ?_
    refine Wk.callS2 (q := 104) (argsL := [(.int (3 : Int32)), (.int (2 : Int32)), (.int (4 : Int32)), (.int b3)]) (rest := []) (fr := 1) (lo := 13) (P := fun w => (((tabN (b3 &&& (255 : Int32)).toNatClampNeg) = (0 : Int32)) ∧ w = (.int (0 : Int32))) ∨ ((¬ (tabN (b3 &&& (255 : Int32)).toNatClampNeg) = (0 : Int32)) ∧ w = (.int (1 : Int32)))) (m_74 hw F A1 S1 e_0 e_1 e_2 e_3 b3) (w_2 hw) (w_3 hw) (w_4 hw) (w_5 hw) (by decide) pd_0 rfl rfl rfl at_101 rfl (W := 0) rfl (by decide) (by decide) (by decide) (by decide) ?_
    intro w10 hP; rcases hP with ⟨h11, rfl⟩ | ⟨h12, rfl⟩
    · refine Wk.ifcT (q := 111) at_104 (by decide) rfl (by decide : (0 : Int32) = (0 : Int32)) ?_
      refine Wk.iconst (q := 112) (v := (0 : Int32)) at_111 rfl rfl ?_
      refine Wk.istore (q := 114) (ls' := #[.val (.int p0), .val (.int p1), .val (.int p2), .val (.int p3), .val (.int p4), .val (.int p5), .val (.ref a1), .val (.int (2 : Int32)), .val (.int (4 : Int32)), .val (.int (0 : Int32))]) at_112 rfl rfl ?_
      refine Wk.aload (q := 116) at_114 rfl rfl rfl ?_
      refine Wk.iload (q := 118) at_116 rfl rfl ?_
      refine Wk.iload (q := 120) at_118 rfl rfl ?_
      refine Wk.callS2 (q := 123) (argsL := [(.ref a1), (.int (2 : Int32)), (.int (4 : Int32))]) (rest := []) (fr := 0) (lo := 0) (P := fun w => ((¬ (tabN (b2 &&& (255 : Int32)).toNatClampNeg) = (0 : Int32)) ∧ (¬ (tabN (b3 &&& (255 : Int32)).toNatClampNeg) = (0 : Int32)) ∧ w = (.int (1 : Int32))) ∨ ((¬ (tabN (b2 &&& (255 : Int32)).toNatClampNeg) = (0 : Int32)) ∧ ((tabN (b3 &&& (255 : Int32)).toNatClampNeg) = (0 : Int32)) ∧ w = (.int (0 : Int32))) ∨ (((tabN (b2 &&& (255 : Int32)).toNatClampNeg) = (0 : Int32)) ∧ w = (.int (0 : Int32)))) (m_73 hw F A1 S1 e_0 e_1 e_2 e_3) (w_9 hw) (w_10 hw) (w_11 hw) (w_12 hw) (by decide) pd_1 rfl rfl rfl at_120 rfl (W := 0) rfl (by decide) (by decide) (by decide) (by decide) ?_
      intro w13 hP; rcases hP with ⟨h14, h15, rfl⟩ | ⟨h16, h17, rfl⟩ | ⟨h18, rfl⟩
      · exact absurd h11 h15
      · refine Wk.iload (q := 125) at_123 rfl rfl ?_
        refine Wk.icmpF (q := 128) at_125 rfl (by decide : (0 : Int32) = (0 : Int32)) ?_
        refine Wk.iconst (q := 129) (v := (1 : Int32)) at_128 rfl rfl ?_
        refine Wk.goto (q := 133) at_129 (by decide) rfl ?_
        exact Wk.retZ rfl rfl at_133 (by decide) (by decide) rfl
      · exact absurd h18 h3
    · refine Wk.ifcF (q := 107) at_104 rfl (by decide : ¬ (1 : Int32) = (0 : Int32)) ?_
      refine Wk.iconst (q := 108) (v := (1 : Int32)) at_107 rfl rfl ?_
      refine Wk.goto (q := 112) at_108 (by decide) rfl ?_
      refine Wk.istore (q := 114) (ls' := #[.val (.int p0), .val (.int p1), .val (.int p2), .val (.int p3), .val (.int p4), .val (.int p5), .val (.ref a1), .val (.int (2 : Int32)), .val (.int (4 : Int32)), .val (.int (1 : Int32))]) at_112 rfl rfl ?_
      refine Wk.aload (q := 116) at_114 rfl rfl rfl ?_
      refine Wk.iload (q := 118) at_116 rfl rfl ?_
      refine Wk.iload (q := 120) at_118 rfl rfl ?_
      refine Wk.callS2 (q := 123) (argsL := [(.ref a1), (.int (2 : Int32)), (.int (4 : Int32))]) (rest := []) (fr := 0) (lo := 0) (P := fun w => ((¬ (tabN (b2 &&& (255 : Int32)).toNatClampNeg) = (0 : Int32)) ∧ (¬ (tabN (b3 &&& (255 : Int32)).toNatClampNeg) = (0 : Int32)) ∧ w = (.int (1 : Int32))) ∨ ((¬ (tabN (b2 &&& (255 : Int32)).toNatClampNeg) = (0 : Int32)) ∧ ((tabN (b3 &&& (255 : Int32)).toNatClampNeg) = (0 : Int32)) ∧ w = (.int (0 : Int32))) ∨ (((tabN (b2 &&& (255 : Int32)).toNatClampNeg) = (0 : Int32)) ∧ w = (.int (0 : Int32)))) (m_73 hw F A1 S1 e_0 e_1 e_2 e_3) (w_9 hw) (w_10 hw) (w_11 hw) (w_12 hw) (by decide) pd_1 rfl rfl rfl at_120 rfl (W := 0) rfl (by decide) (by decide) (by decide) (by decide) ?_
      intro w19 hP; rcases hP with ⟨h20, h21, rfl⟩ | ⟨h22, h23, rfl⟩ | ⟨h24, rfl⟩
      · refine Wk.iload (q := 125) at_123 rfl rfl ?_
        refine Wk.icmpF (q := 128) at_125 rfl (by decide : (1 : Int32) = (1 : Int32)) ?_
        refine Wk.iconst (q := 129) (v := (1 : Int32)) at_128 rfl rfl ?_
        refine Wk.goto (q := 133) at_129 (by decide) rfl ?_
        exact Wk.retZ rfl rfl at_133 (by decide) (by decide) rfl
      · exact absurd h23 h12
      · exact absurd h24 h3
set_option maxRecDepth 65536 in
set_option maxHeartbeats 40000000 in
theorem law_tail_3_0 {l : Launch} {Z : State} {a0 : Array Value} {n0 : Nat} {h : Heap}  {a_T : Addr} {c_T : Cell} (hw : ∀ d ∈ tables_1, d.before a0 Z = true) (F : OwnF Z h  a_T c_T) {a1 : Addr} {c1 : Cell} {b0 b1 b2 b3 : Int32} (A1 : Arr Z h a1 c1 .byte) (S1 : c1.slots.size = 4) (e_0 : c1.slots[0]? = some (Value.int b0)) (e_1 : c1.slots[1]? = some (Value.int b1)) (e_2 : c1.slots[2]? = some (Value.int b2)) (e_3 : c1.slots[3]? = some (Value.int b3)) (p0 p1 p2 p3 p4 p5 : Int32) (k_s : ((p4 &&& (2147483647 : Int32)) % (5 : Int32)) = (3 : Int32)) (k_e : ((p5 &&& (2147483647 : Int32)) % (5 : Int32)) = (0 : Int32)) : Wk l Z n0 "com/example/tallykey/tallykey/HttpSyntaxIsTextPinLaw" "law" code maxLocals ret room_1 16 128 (fun v _ => v = some (.int (1 : Int32))) h 1 4 29 #[.val (.int p0), .val (.int p1), .val (.int p2), .val (.int p3), .val (.int p4), .val (.int p5), .val (.ref a1), .unset, .unset, .unset] [] := by
  refine Wk.iload (q := 31) at_29 rfl rfl ?_
  refine Wk.ldcI (q := 33) (w_1 hw) at_31 rfl ?_
  refine Wk.iand (q := 34) (v := (p4 &&& (2147483647 : Int32))) at_33 rfl rfl ?_
  refine Wk.iconst (q := 35) (v := (5 : Int32)) at_34 rfl rfl ?_
  refine Wk.irem (q := 36) (v := (3 : Int32)) at_35 rfl (by decide) k_s ?_
  refine Wk.istore (q := 38) (ls' := #[.val (.int p0), .val (.int p1), .val (.int p2), .val (.int p3), .val (.int p4), .val (.int p5), .val (.ref a1), .val (.int (3 : Int32)), .unset, .unset]) at_36 rfl rfl ?_
  refine Wk.iload (q := 40) at_38 rfl rfl ?_
  refine Wk.ldcI (q := 42) (w_1 hw) at_40 rfl ?_
  refine Wk.iand (q := 43) (v := (p5 &&& (2147483647 : Int32))) at_42 rfl rfl ?_
  refine Wk.iconst (q := 44) (v := (5 : Int32)) at_43 rfl rfl ?_
  refine Wk.irem (q := 45) (v := (0 : Int32)) at_44 rfl (by decide) k_e ?_
  refine Wk.istore (q := 47) (ls' := #[.val (.int p0), .val (.int p1), .val (.int p2), .val (.int p3), .val (.int p4), .val (.int p5), .val (.ref a1), .val (.int (3 : Int32)), .val (.int (0 : Int32)), .unset]) at_45 rfl rfl ?_
  refine Wk.iconst (q := 48) (v := (0 : Int32)) at_47 rfl rfl ?_
  refine Wk.iload (q := 50) at_48 rfl rfl ?_
  refine Wk.iload (q := 52) at_50 rfl rfl ?_
  refine Wk.aload (q := 54) at_52 rfl rfl rfl ?_
  refine Wk.iconst (q := 55) (v := (0 : Int32)) at_54 rfl rfl ?_
  refine Wk.baloadB (q := 56) A1 (by rw [S1]; decide) e_0 at_55 rfl ?_
  refine Wk.callS1 (q := 59) (argsL := [(.int (0 : Int32)), (.int (3 : Int32)), (.int (0 : Int32)), (.int b0)]) (rest := []) (fr := 0) (lo := 0) (v0 := (.int (1 : Int32))) (m_75 hw F A1 S1 e_0 e_1 e_2 e_3 b0) (w_2 hw) (w_3 hw) (w_4 hw) (w_5 hw) (by decide) pd_0 rfl rfl rfl at_56 rfl (W := 0) rfl (by decide) (by decide) (by decide) (by decide) ?_
  refine Wk.ifcF (q := 62) at_59 rfl (by decide : ¬ (1 : Int32) = (0 : Int32)) ?_
  refine Wk.iconst (q := 63) (v := (1 : Int32)) at_62 rfl rfl ?_
  refine Wk.iload (q := 65) at_63 rfl rfl ?_
  refine Wk.iload (q := 67) at_65 rfl rfl ?_
  refine Wk.aload (q := 69) at_67 rfl rfl rfl ?_
  refine Wk.iconst (q := 70) (v := (1 : Int32)) at_69 rfl rfl ?_
  refine Wk.baloadB (q := 71) A1 (by rw [S1]; decide) e_1 at_70 rfl ?_
  refine Wk.callS1 (q := 74) (argsL := [(.int (1 : Int32)), (.int (3 : Int32)), (.int (0 : Int32)), (.int b1)]) (rest := []) (fr := 0) (lo := 0) (v0 := (.int (1 : Int32))) (m_76 hw F A1 S1 e_0 e_1 e_2 e_3 b1) (w_2 hw) (w_3 hw) (w_4 hw) (w_5 hw) (by decide) pd_0 rfl rfl rfl at_71 rfl (W := 0) rfl (by decide) (by decide) (by decide) (by decide) ?_
  refine Wk.ifcF (q := 77) at_74 rfl (by decide : ¬ (1 : Int32) = (0 : Int32)) ?_
  refine Wk.iconst (q := 78) (v := (2 : Int32)) at_77 rfl rfl ?_
  refine Wk.iload (q := 80) at_78 rfl rfl ?_
  refine Wk.iload (q := 82) at_80 rfl rfl ?_
  refine Wk.aload (q := 84) at_82 rfl rfl rfl ?_
  refine Wk.iconst (q := 85) (v := (2 : Int32)) at_84 rfl rfl ?_
  refine Wk.baloadB (q := 86) A1 (by rw [S1]; decide) e_2 at_85 rfl ?_
  refine Wk.callS1 (q := 89) (argsL := [(.int (2 : Int32)), (.int (3 : Int32)), (.int (0 : Int32)), (.int b2)]) (rest := []) (fr := 0) (lo := 0) (v0 := (.int (1 : Int32))) (m_77 hw F A1 S1 e_0 e_1 e_2 e_3 b2) (w_2 hw) (w_3 hw) (w_4 hw) (w_5 hw) (by decide) pd_0 rfl rfl rfl at_86 rfl (W := 0) rfl (by decide) (by decide) (by decide) (by decide) ?_
  refine Wk.ifcF (q := 92) at_89 rfl (by decide : ¬ (1 : Int32) = (0 : Int32)) ?_
  refine Wk.iconst (q := 93) (v := (3 : Int32)) at_92 rfl rfl ?_
  refine Wk.iload (q := 95) at_93 rfl rfl ?_
  refine Wk.iload (q := 97) at_95 rfl rfl ?_
  refine Wk.aload (q := 99) at_97 rfl rfl rfl ?_
  refine Wk.iconst (q := 100) (v := (3 : Int32)) at_99 rfl rfl ?_
  refine Wk.baloadB (q := 101) A1 (by rw [S1]; decide) e_3 at_100 rfl ?_
  refine Wk.callS1 (q := 104) (argsL := [(.int (3 : Int32)), (.int (3 : Int32)), (.int (0 : Int32)), (.int b3)]) (rest := []) (fr := 0) (lo := 0) (v0 := (.int (1 : Int32))) (m_78 hw F A1 S1 e_0 e_1 e_2 e_3 b3) (w_2 hw) (w_3 hw) (w_4 hw) (w_5 hw) (by decide) pd_0 rfl rfl rfl at_101 rfl (W := 0) rfl (by decide) (by decide) (by decide) (by decide) ?_
  refine Wk.ifcF (q := 107) at_104 rfl (by decide : ¬ (1 : Int32) = (0 : Int32)) ?_
  refine Wk.iconst (q := 108) (v := (1 : Int32)) at_107 rfl rfl ?_
  refine Wk.goto (q := 112) at_108 (by decide) rfl ?_
  refine Wk.istore (q := 114) (ls' := #[.val (.int p0), .val (.int p1), .val (.int p2), .val (.int p3), .val (.int p4), .val (.int p5), .val (.ref a1), .val (.int (3 : Int32)), .val (.int (0 : Int32)), .val (.int (1 : Int32))]) at_112 rfl rfl ?_
  refine Wk.aload (q := 116) at_114 rfl rfl rfl ?_
  refine Wk.iload (q := 118) at_116 rfl rfl ?_
  refine Wk.iload (q := 120) at_118 rfl rfl ?_
  refine Wk.callS1 (q := 123) (argsL := [(.ref a1), (.int (3 : Int32)), (.int (0 : Int32))]) (rest := []) (fr := 0) (lo := 0) (v0 := (.int (1 : Int32))) (m_79 hw F A1 S1 e_0 e_1 e_2 e_3) (w_9 hw) (w_10 hw) (w_11 hw) (w_12 hw) (by decide) pd_1 rfl rfl rfl at_120 rfl (W := 0) rfl (by decide) (by decide) (by decide) (by decide) ?_
  refine Wk.iload (q := 125) at_123 rfl rfl ?_
  refine Wk.icmpF (q := 128) at_125 rfl (by decide : (1 : Int32) = (1 : Int32)) ?_
  refine Wk.iconst (q := 129) (v := (1 : Int32)) at_128 rfl rfl ?_
  refine Wk.goto (q := 133) at_129 (by decide) rfl ?_
  exact Wk.retZ rfl rfl at_133 (by decide) (by decide) rfl
set_option maxRecDepth 65536 in
set_option maxHeartbeats 40000000 in
theorem law_tail_3_1 {l : Launch} {Z : State} {a0 : Array Value} {n0 : Nat} {h : Heap}  {a_T : Addr} {c_T : Cell} (hw : ∀ d ∈ tables_1, d.before a0 Z = true) (F : OwnF Z h  a_T c_T) {a1 : Addr} {c1 : Cell} {b0 b1 b2 b3 : Int32} (A1 : Arr Z h a1 c1 .byte) (S1 : c1.slots.size = 4) (e_0 : c1.slots[0]? = some (Value.int b0)) (e_1 : c1.slots[1]? = some (Value.int b1)) (e_2 : c1.slots[2]? = some (Value.int b2)) (e_3 : c1.slots[3]? = some (Value.int b3)) (p0 p1 p2 p3 p4 p5 : Int32) (k_s : ((p4 &&& (2147483647 : Int32)) % (5 : Int32)) = (3 : Int32)) (k_e : ((p5 &&& (2147483647 : Int32)) % (5 : Int32)) = (1 : Int32)) : Wk l Z n0 "com/example/tallykey/tallykey/HttpSyntaxIsTextPinLaw" "law" code maxLocals ret room_1 16 128 (fun v _ => v = some (.int (1 : Int32))) h 1 4 29 #[.val (.int p0), .val (.int p1), .val (.int p2), .val (.int p3), .val (.int p4), .val (.int p5), .val (.ref a1), .unset, .unset, .unset] [] := by
  refine Wk.iload (q := 31) at_29 rfl rfl ?_
  refine Wk.ldcI (q := 33) (w_1 hw) at_31 rfl ?_
  refine Wk.iand (q := 34) (v := (p4 &&& (2147483647 : Int32))) at_33 rfl rfl ?_
  refine Wk.iconst (q := 35) (v := (5 : Int32)) at_34 rfl rfl ?_
  refine Wk.irem (q := 36) (v := (3 : Int32)) at_35 rfl (by decide) k_s ?_
  refine Wk.istore (q := 38) (ls' := #[.val (.int p0), .val (.int p1), .val (.int p2), .val (.int p3), .val (.int p4), .val (.int p5), .val (.ref a1), .val (.int (3 : Int32)), .unset, .unset]) at_36 rfl rfl ?_
  refine Wk.iload (q := 40) at_38 rfl rfl ?_
  refine Wk.ldcI (q := 42) (w_1 hw) at_40 rfl ?_
  refine Wk.iand (q := 43) (v := (p5 &&& (2147483647 : Int32))) at_42 rfl rfl ?_
  refine Wk.iconst (q := 44) (v := (5 : Int32)) at_43 rfl rfl ?_
  refine Wk.irem (q := 45) (v := (1 : Int32)) at_44 rfl (by decide) k_e ?_
  refine Wk.istore (q := 47) (ls' := #[.val (.int p0), .val (.int p1), .val (.int p2), .val (.int p3), .val (.int p4), .val (.int p5), .val (.ref a1), .val (.int (3 : Int32)), .val (.int (1 : Int32)), .unset]) at_45 rfl rfl ?_
  refine Wk.iconst (q := 48) (v := (0 : Int32)) at_47 rfl rfl ?_
  refine Wk.iload (q := 50) at_48 rfl rfl ?_
  refine Wk.iload (q := 52) at_50 rfl rfl ?_
  refine Wk.aload (q := 54) at_52 rfl rfl rfl ?_
  refine Wk.iconst (q := 55) (v := (0 : Int32)) at_54 rfl rfl ?_
  refine Wk.baloadB (q := 56) A1 (by rw [S1]; decide) e_0 at_55 rfl ?_
  refine Wk.callS1 (q := 59) (argsL := [(.int (0 : Int32)), (.int (3 : Int32)), (.int (1 : Int32)), (.int b0)]) (rest := []) (fr := 0) (lo := 0) (v0 := (.int (1 : Int32))) (m_80 hw F A1 S1 e_0 e_1 e_2 e_3 b0) (w_2 hw) (w_3 hw) (w_4 hw) (w_5 hw) (by decide) pd_0 rfl rfl rfl at_56 rfl (W := 0) rfl (by decide) (by decide) (by decide) (by decide) ?_
  refine Wk.ifcF (q := 62) at_59 rfl (by decide : ¬ (1 : Int32) = (0 : Int32)) ?_
  refine Wk.iconst (q := 63) (v := (1 : Int32)) at_62 rfl rfl ?_
  refine Wk.iload (q := 65) at_63 rfl rfl ?_
  refine Wk.iload (q := 67) at_65 rfl rfl ?_
  refine Wk.aload (q := 69) at_67 rfl rfl rfl ?_
  refine Wk.iconst (q := 70) (v := (1 : Int32)) at_69 rfl rfl ?_
  refine Wk.baloadB (q := 71) A1 (by rw [S1]; decide) e_1 at_70 rfl ?_
  refine Wk.callS1 (q := 74) (argsL := [(.int (1 : Int32)), (.int (3 : Int32)), (.int (1 : Int32)), (.int b1)]) (rest := []) (fr := 0) (lo := 0) (v0 := (.int (1 : Int32))) (m_81 hw F A1 S1 e_0 e_1 e_2 e_3 b1) (w_2 hw) (w_3 hw) (w_4 hw) (w_5 hw) (by decide) pd_0 rfl rfl rfl at_71 rfl (W := 0) rfl (by decide) (by decide) (by decide) (by decide) ?_
  refine Wk.ifcF (q := 77) at_74 rfl (by decide : ¬ (1 : Int32) = (0 : Int32)) ?_
  refine Wk.iconst (q := 78) (v := (2 : Int32)) at_77 rfl rfl ?_
  refine Wk.iload (q := 80) at_78 rfl rfl ?_
  refine Wk.iload (q := 82) at_80 rfl rfl ?_
  refine Wk.aload (q := 84) at_82 rfl rfl rfl ?_
  refine Wk.iconst (q := 85) (v := (2 : Int32)) at_84 rfl rfl ?_
  refine Wk.baloadB (q := 86) A1 (by rw [S1]; decide) e_2 at_85 rfl ?_
  refine Wk.callS1 (q := 89) (argsL := [(.int (2 : Int32)), (.int (3 : Int32)), (.int (1 : Int32)), (.int b2)]) (rest := []) (fr := 0) (lo := 0) (v0 := (.int (1 : Int32))) (m_82 hw F A1 S1 e_0 e_1 e_2 e_3 b2) (w_2 hw) (w_3 hw) (w_4 hw) (w_5 hw) (by decide) pd_0 rfl rfl rfl at_86 rfl (W := 0) rfl (by decide) (by decide) (by decide) (by decide) ?_
  refine Wk.ifcF (q := 92) at_89 rfl (by decide : ¬ (1 : Int32) = (0 : Int32)) ?_
  refine Wk.iconst (q := 93) (v := (3 : Int32)) at_92 rfl rfl ?_
  refine Wk.iload (q := 95) at_93 rfl rfl ?_
  refine Wk.iload (q := 97) at_95 rfl rfl ?_
  refine Wk.aload (q := 99) at_97 rfl rfl rfl ?_
  refine Wk.iconst (q := 100) (v := (3 : Int32)) at_99 rfl rfl ?_
  refine Wk.baloadB (q := 101) A1 (by rw [S1]; decide) e_3 at_100 rfl ?_
  refine Wk.callS1 (q := 104) (argsL := [(.int (3 : Int32)), (.int (3 : Int32)), (.int (1 : Int32)), (.int b3)]) (rest := []) (fr := 0) (lo := 0) (v0 := (.int (1 : Int32))) (m_83 hw F A1 S1 e_0 e_1 e_2 e_3 b3) (w_2 hw) (w_3 hw) (w_4 hw) (w_5 hw) (by decide) pd_0 rfl rfl rfl at_101 rfl (W := 0) rfl (by decide) (by decide) (by decide) (by decide) ?_
  refine Wk.ifcF (q := 107) at_104 rfl (by decide : ¬ (1 : Int32) = (0 : Int32)) ?_
  refine Wk.iconst (q := 108) (v := (1 : Int32)) at_107 rfl rfl ?_
  refine Wk.goto (q := 112) at_108 (by decide) rfl ?_
  refine Wk.istore (q := 114) (ls' := #[.val (.int p0), .val (.int p1), .val (.int p2), .val (.int p3), .val (.int p4), .val (.int p5), .val (.ref a1), .val (.int (3 : Int32)), .val (.int (1 : Int32)), .val (.int (1 : Int32))]) at_112 rfl rfl ?_
  refine Wk.aload (q := 116) at_114 rfl rfl rfl ?_
  refine Wk.iload (q := 118) at_116 rfl rfl ?_
  refine Wk.iload (q := 120) at_118 rfl rfl ?_
  refine Wk.callS1 (q := 123) (argsL := [(.ref a1), (.int (3 : Int32)), (.int (1 : Int32))]) (rest := []) (fr := 0) (lo := 0) (v0 := (.int (1 : Int32))) (m_84 hw F A1 S1 e_0 e_1 e_2 e_3) (w_9 hw) (w_10 hw) (w_11 hw) (w_12 hw) (by decide) pd_1 rfl rfl rfl at_120 rfl (W := 0) rfl (by decide) (by decide) (by decide) (by decide) ?_
  refine Wk.iload (q := 125) at_123 rfl rfl ?_
  refine Wk.icmpF (q := 128) at_125 rfl (by decide : (1 : Int32) = (1 : Int32)) ?_
  refine Wk.iconst (q := 129) (v := (1 : Int32)) at_128 rfl rfl ?_
  refine Wk.goto (q := 133) at_129 (by decide) rfl ?_
  exact Wk.retZ rfl rfl at_133 (by decide) (by decide) rfl
set_option maxRecDepth 65536 in
set_option maxHeartbeats 40000000 in
theorem law_tail_3_2 {l : Launch} {Z : State} {a0 : Array Value} {n0 : Nat} {h : Heap}  {a_T : Addr} {c_T : Cell} (hw : ∀ d ∈ tables_1, d.before a0 Z = true) (F : OwnF Z h  a_T c_T) {a1 : Addr} {c1 : Cell} {b0 b1 b2 b3 : Int32} (A1 : Arr Z h a1 c1 .byte) (S1 : c1.slots.size = 4) (e_0 : c1.slots[0]? = some (Value.int b0)) (e_1 : c1.slots[1]? = some (Value.int b1)) (e_2 : c1.slots[2]? = some (Value.int b2)) (e_3 : c1.slots[3]? = some (Value.int b3)) (p0 p1 p2 p3 p4 p5 : Int32) (k_s : ((p4 &&& (2147483647 : Int32)) % (5 : Int32)) = (3 : Int32)) (k_e : ((p5 &&& (2147483647 : Int32)) % (5 : Int32)) = (2 : Int32)) : Wk l Z n0 "com/example/tallykey/tallykey/HttpSyntaxIsTextPinLaw" "law" code maxLocals ret room_1 16 128 (fun v _ => v = some (.int (1 : Int32))) h 1 4 29 #[.val (.int p0), .val (.int p1), .val (.int p2), .val (.int p3), .val (.int p4), .val (.int p5), .val (.ref a1), .unset, .unset, .unset] [] := by
  refine Wk.iload (q := 31) at_29 rfl rfl ?_
  refine Wk.ldcI (q := 33) (w_1 hw) at_31 rfl ?_
  refine Wk.iand (q := 34) (v := (p4 &&& (2147483647 : Int32))) at_33 rfl rfl ?_
  refine Wk.iconst (q := 35) (v := (5 : Int32)) at_34 rfl rfl ?_
  refine Wk.irem (q := 36) (v := (3 : Int32)) at_35 rfl (by decide) k_s ?_
  refine Wk.istore (q := 38) (ls' := #[.val (.int p0), .val (.int p1), .val (.int p2), .val (.int p3), .val (.int p4), .val (.int p5), .val (.ref a1), .val (.int (3 : Int32)), .unset, .unset]) at_36 rfl rfl ?_
  refine Wk.iload (q := 40) at_38 rfl rfl ?_
  refine Wk.ldcI (q := 42) (w_1 hw) at_40 rfl ?_
  refine Wk.iand (q := 43) (v := (p5 &&& (2147483647 : Int32))) at_42 rfl rfl ?_
  refine Wk.iconst (q := 44) (v := (5 : Int32)) at_43 rfl rfl ?_
  refine Wk.irem (q := 45) (v := (2 : Int32)) at_44 rfl (by decide) k_e ?_
  refine Wk.istore (q := 47) (ls' := #[.val (.int p0), .val (.int p1), .val (.int p2), .val (.int p3), .val (.int p4), .val (.int p5), .val (.ref a1), .val (.int (3 : Int32)), .val (.int (2 : Int32)), .unset]) at_45 rfl rfl ?_
  refine Wk.iconst (q := 48) (v := (0 : Int32)) at_47 rfl rfl ?_
  refine Wk.iload (q := 50) at_48 rfl rfl ?_
  refine Wk.iload (q := 52) at_50 rfl rfl ?_
  refine Wk.aload (q := 54) at_52 rfl rfl rfl ?_
  refine Wk.iconst (q := 55) (v := (0 : Int32)) at_54 rfl rfl ?_
  refine Wk.baloadB (q := 56) A1 (by rw [S1]; decide) e_0 at_55 rfl ?_
  refine Wk.callS1 (q := 59) (argsL := [(.int (0 : Int32)), (.int (3 : Int32)), (.int (2 : Int32)), (.int b0)]) (rest := []) (fr := 0) (lo := 0) (v0 := (.int (1 : Int32))) (m_85 hw F A1 S1 e_0 e_1 e_2 e_3 b0) (w_2 hw) (w_3 hw) (w_4 hw) (w_5 hw) (by decide) pd_0 rfl rfl rfl at_56 rfl (W := 0) rfl (by decide) (by decide) (by decide) (by decide) ?_
  refine Wk.ifcF (q := 62) at_59 rfl (by decide : ¬ (1 : Int32) = (0 : Int32)) ?_
  refine Wk.iconst (q := 63) (v := (1 : Int32)) at_62 rfl rfl ?_
  refine Wk.iload (q := 65) at_63 rfl rfl ?_
  refine Wk.iload (q := 67) at_65 rfl rfl ?_
  refine Wk.aload (q := 69) at_67 rfl rfl rfl ?_
  refine Wk.iconst (q := 70) (v := (1 : Int32)) at_69 rfl rfl ?_
  refine Wk.baloadB (q := 71) A1 (by rw [S1]; decide) e_1 at_70 rfl ?_
  refine Wk.callS1 (q := 74) (argsL := [(.int (1 : Int32)), (.int (3 : Int32)), (.int (2 : Int32)), (.int b1)]) (rest := []) (fr := 0) (lo := 0) (v0 := (.int (1 : Int32))) (m_86 hw F A1 S1 e_0 e_1 e_2 e_3 b1) (w_2 hw) (w_3 hw) (w_4 hw) (w_5 hw) (by decide) pd_0 rfl rfl rfl at_71 rfl (W := 0) rfl (by decide) (by decide) (by decide) (by decide) ?_
  refine Wk.ifcF (q := 77) at_74 rfl (by decide : ¬ (1 : Int32) = (0 : Int32)) ?_
  refine Wk.iconst (q := 78) (v := (2 : Int32)) at_77 rfl rfl ?_
  refine Wk.iload (q := 80) at_78 rfl rfl ?_
  refine Wk.iload (q := 82) at_80 rfl rfl ?_
  refine Wk.aload (q := 84) at_82 rfl rfl rfl ?_
  refine Wk.iconst (q := 85) (v := (2 : Int32)) at_84 rfl rfl ?_
  refine Wk.baloadB (q := 86) A1 (by rw [S1]; decide) e_2 at_85 rfl ?_
  refine Wk.callS1 (q := 89) (argsL := [(.int (2 : Int32)), (.int (3 : Int32)), (.int (2 : Int32)), (.int b2)]) (rest := []) (fr := 0) (lo := 0) (v0 := (.int (1 : Int32))) (m_87 hw F A1 S1 e_0 e_1 e_2 e_3 b2) (w_2 hw) (w_3 hw) (w_4 hw) (w_5 hw) (by decide) pd_0 rfl rfl rfl at_86 rfl (W := 0) rfl (by decide) (by decide) (by decide) (by decide) ?_
  refine Wk.ifcF (q := 92) at_89 rfl (by decide : ¬ (1 : Int32) = (0 : Int32)) ?_
  refine Wk.iconst (q := 93) (v := (3 : Int32)) at_92 rfl rfl ?_
  refine Wk.iload (q := 95) at_93 rfl rfl ?_
  refine Wk.iload (q := 97) at_95 rfl rfl ?_
  refine Wk.aload (q := 99) at_97 rfl rfl rfl ?_
  refine Wk.iconst (q := 100) (v := (3 : Int32)) at_99 rfl rfl ?_
  refine Wk.baloadB (q := 101) A1 (by rw [S1]; decide) e_3 at_100 rfl ?_
  refine Wk.callS1 (q := 104) (argsL := [(.int (3 : Int32)), (.int (3 : Int32)), (.int (2 : Int32)), (.int b3)]) (rest := []) (fr := 0) (lo := 0) (v0 := (.int (1 : Int32))) (m_88 hw F A1 S1 e_0 e_1 e_2 e_3 b3) (w_2 hw) (w_3 hw) (w_4 hw) (w_5 hw) (by decide) pd_0 rfl rfl rfl at_101 rfl (W := 0) rfl (by decide) (by decide) (by decide) (by decide) ?_
  refine Wk.ifcF (q := 107) at_104 rfl (by decide : ¬ (1 : Int32) = (0 : Int32)) ?_
  refine Wk.iconst (q := 108) (v := (1 : Int32)) at_107 rfl rfl ?_
  refine Wk.goto (q := 112) at_108 (by decide) rfl ?_
  refine Wk.istore (q := 114) (ls' := #[.val (.int p0), .val (.int p1), .val (.int p2), .val (.int p3), .val (.int p4), .val (.int p5), .val (.ref a1), .val (.int (3 : Int32)), .val (.int (2 : Int32)), .val (.int (1 : Int32))]) at_112 rfl rfl ?_
  refine Wk.aload (q := 116) at_114 rfl rfl rfl ?_
  refine Wk.iload (q := 118) at_116 rfl rfl ?_
  refine Wk.iload (q := 120) at_118 rfl rfl ?_
  refine Wk.callS1 (q := 123) (argsL := [(.ref a1), (.int (3 : Int32)), (.int (2 : Int32))]) (rest := []) (fr := 0) (lo := 0) (v0 := (.int (1 : Int32))) (m_89 hw F A1 S1 e_0 e_1 e_2 e_3) (w_9 hw) (w_10 hw) (w_11 hw) (w_12 hw) (by decide) pd_1 rfl rfl rfl at_120 rfl (W := 0) rfl (by decide) (by decide) (by decide) (by decide) ?_
  refine Wk.iload (q := 125) at_123 rfl rfl ?_
  refine Wk.icmpF (q := 128) at_125 rfl (by decide : (1 : Int32) = (1 : Int32)) ?_
  refine Wk.iconst (q := 129) (v := (1 : Int32)) at_128 rfl rfl ?_
  refine Wk.goto (q := 133) at_129 (by decide) rfl ?_
  exact Wk.retZ rfl rfl at_133 (by decide) (by decide) rfl
set_option maxRecDepth 65536 in
set_option maxHeartbeats 40000000 in
theorem law_tail_3_3 {l : Launch} {Z : State} {a0 : Array Value} {n0 : Nat} {h : Heap}  {a_T : Addr} {c_T : Cell} (hw : ∀ d ∈ tables_1, d.before a0 Z = true) (F : OwnF Z h  a_T c_T) {a1 : Addr} {c1 : Cell} {b0 b1 b2 b3 : Int32} (A1 : Arr Z h a1 c1 .byte) (S1 : c1.slots.size = 4) (e_0 : c1.slots[0]? = some (Value.int b0)) (e_1 : c1.slots[1]? = some (Value.int b1)) (e_2 : c1.slots[2]? = some (Value.int b2)) (e_3 : c1.slots[3]? = some (Value.int b3)) (p0 p1 p2 p3 p4 p5 : Int32) (k_s : ((p4 &&& (2147483647 : Int32)) % (5 : Int32)) = (3 : Int32)) (k_e : ((p5 &&& (2147483647 : Int32)) % (5 : Int32)) = (3 : Int32)) : Wk l Z n0 "com/example/tallykey/tallykey/HttpSyntaxIsTextPinLaw" "law" code maxLocals ret room_1 16 128 (fun v _ => v = some (.int (1 : Int32))) h 1 4 29 #[.val (.int p0), .val (.int p1), .val (.int p2), .val (.int p3), .val (.int p4), .val (.int p5), .val (.ref a1), .unset, .unset, .unset] [] := by
  refine Wk.iload (q := 31) at_29 rfl rfl ?_
  refine Wk.ldcI (q := 33) (w_1 hw) at_31 rfl ?_
  refine Wk.iand (q := 34) (v := (p4 &&& (2147483647 : Int32))) at_33 rfl rfl ?_
  refine Wk.iconst (q := 35) (v := (5 : Int32)) at_34 rfl rfl ?_
  refine Wk.irem (q := 36) (v := (3 : Int32)) at_35 rfl (by decide) k_s ?_
  refine Wk.istore (q := 38) (ls' := #[.val (.int p0), .val (.int p1), .val (.int p2), .val (.int p3), .val (.int p4), .val (.int p5), .val (.ref a1), .val (.int (3 : Int32)), .unset, .unset]) at_36 rfl rfl ?_
  refine Wk.iload (q := 40) at_38 rfl rfl ?_
  refine Wk.ldcI (q := 42) (w_1 hw) at_40 rfl ?_
  refine Wk.iand (q := 43) (v := (p5 &&& (2147483647 : Int32))) at_42 rfl rfl ?_
  refine Wk.iconst (q := 44) (v := (5 : Int32)) at_43 rfl rfl ?_
  refine Wk.irem (q := 45) (v := (3 : Int32)) at_44 rfl (by decide) k_e ?_
  refine Wk.istore (q := 47) (ls' := #[.val (.int p0), .val (.int p1), .val (.int p2), .val (.int p3), .val (.int p4), .val (.int p5), .val (.ref a1), .val (.int (3 : Int32)), .val (.int (3 : Int32)), .unset]) at_45 rfl rfl ?_
  refine Wk.iconst (q := 48) (v := (0 : Int32)) at_47 rfl rfl ?_
  refine Wk.iload (q := 50) at_48 rfl rfl ?_
  refine Wk.iload (q := 52) at_50 rfl rfl ?_
  refine Wk.aload (q := 54) at_52 rfl rfl rfl ?_
  refine Wk.iconst (q := 55) (v := (0 : Int32)) at_54 rfl rfl ?_
  refine Wk.baloadB (q := 56) A1 (by rw [S1]; decide) e_0 at_55 rfl ?_
  refine Wk.callS1 (q := 59) (argsL := [(.int (0 : Int32)), (.int (3 : Int32)), (.int (3 : Int32)), (.int b0)]) (rest := []) (fr := 0) (lo := 0) (v0 := (.int (1 : Int32))) (m_90 hw F A1 S1 e_0 e_1 e_2 e_3 b0) (w_2 hw) (w_3 hw) (w_4 hw) (w_5 hw) (by decide) pd_0 rfl rfl rfl at_56 rfl (W := 0) rfl (by decide) (by decide) (by decide) (by decide) ?_
  refine Wk.ifcF (q := 62) at_59 rfl (by decide : ¬ (1 : Int32) = (0 : Int32)) ?_
  refine Wk.iconst (q := 63) (v := (1 : Int32)) at_62 rfl rfl ?_
  refine Wk.iload (q := 65) at_63 rfl rfl ?_
  refine Wk.iload (q := 67) at_65 rfl rfl ?_
  refine Wk.aload (q := 69) at_67 rfl rfl rfl ?_
  refine Wk.iconst (q := 70) (v := (1 : Int32)) at_69 rfl rfl ?_
  refine Wk.baloadB (q := 71) A1 (by rw [S1]; decide) e_1 at_70 rfl ?_
  refine Wk.callS1 (q := 74) (argsL := [(.int (1 : Int32)), (.int (3 : Int32)), (.int (3 : Int32)), (.int b1)]) (rest := []) (fr := 0) (lo := 0) (v0 := (.int (1 : Int32))) (m_91 hw F A1 S1 e_0 e_1 e_2 e_3 b1) (w_2 hw) (w_3 hw) (w_4 hw) (w_5 hw) (by decide) pd_0 rfl rfl rfl at_71 rfl (W := 0) rfl (by decide) (by decide) (by decide) (by decide) ?_
  refine Wk.ifcF (q := 77) at_74 rfl (by decide : ¬ (1 : Int32) = (0 : Int32)) ?_
  refine Wk.iconst (q := 78) (v := (2 : Int32)) at_77 rfl rfl ?_
  refine Wk.iload (q := 80) at_78 rfl rfl ?_
  refine Wk.iload (q := 82) at_80 rfl rfl ?_
  refine Wk.aload (q := 84) at_82 rfl rfl rfl ?_
  refine Wk.iconst (q := 85) (v := (2 : Int32)) at_84 rfl rfl ?_
  refine Wk.baloadB (q := 86) A1 (by rw [S1]; decide) e_2 at_85 rfl ?_
  refine Wk.callS1 (q := 89) (argsL := [(.int (2 : Int32)), (.int (3 : Int32)), (.int (3 : Int32)), (.int b2)]) (rest := []) (fr := 0) (lo := 0) (v0 := (.int (1 : Int32))) (m_92 hw F A1 S1 e_0 e_1 e_2 e_3 b2) (w_2 hw) (w_3 hw) (w_4 hw) (w_5 hw) (by decide) pd_0 rfl rfl rfl at_86 rfl (W := 0) rfl (by decide) (by decide) (by decide) (by decide) ?_
  refine Wk.ifcF (q := 92) at_89 rfl (by decide : ¬ (1 : Int32) = (0 : Int32)) ?_
  refine Wk.iconst (q := 93) (v := (3 : Int32)) at_92 rfl rfl ?_
  refine Wk.iload (q := 95) at_93 rfl rfl ?_
  refine Wk.iload (q := 97) at_95 rfl rfl ?_
  refine Wk.aload (q := 99) at_97 rfl rfl rfl ?_
  refine Wk.iconst (q := 100) (v := (3 : Int32)) at_99 rfl rfl ?_
  refine Wk.baloadB (q := 101) A1 (by rw [S1]; decide) e_3 at_100 rfl ?_
  refine Wk.callS1 (q := 104) (argsL := [(.int (3 : Int32)), (.int (3 : Int32)), (.int (3 : Int32)), (.int b3)]) (rest := []) (fr := 0) (lo := 0) (v0 := (.int (1 : Int32))) (m_93 hw F A1 S1 e_0 e_1 e_2 e_3 b3) (w_2 hw) (w_3 hw) (w_4 hw) (w_5 hw) (by decide) pd_0 rfl rfl rfl at_101 rfl (W := 0) rfl (by decide) (by decide) (by decide) (by decide) ?_
  refine Wk.ifcF (q := 107) at_104 rfl (by decide : ¬ (1 : Int32) = (0 : Int32)) ?_
  refine Wk.iconst (q := 108) (v := (1 : Int32)) at_107 rfl rfl ?_
  refine Wk.goto (q := 112) at_108 (by decide) rfl ?_
  refine Wk.istore (q := 114) (ls' := #[.val (.int p0), .val (.int p1), .val (.int p2), .val (.int p3), .val (.int p4), .val (.int p5), .val (.ref a1), .val (.int (3 : Int32)), .val (.int (3 : Int32)), .val (.int (1 : Int32))]) at_112 rfl rfl ?_
  refine Wk.aload (q := 116) at_114 rfl rfl rfl ?_
  refine Wk.iload (q := 118) at_116 rfl rfl ?_
  refine Wk.iload (q := 120) at_118 rfl rfl ?_
  refine Wk.callS1 (q := 123) (argsL := [(.ref a1), (.int (3 : Int32)), (.int (3 : Int32))]) (rest := []) (fr := 0) (lo := 0) (v0 := (.int (1 : Int32))) (m_94 hw F A1 S1 e_0 e_1 e_2 e_3) (w_9 hw) (w_10 hw) (w_11 hw) (w_12 hw) (by decide) pd_1 rfl rfl rfl at_120 rfl (W := 0) rfl (by decide) (by decide) (by decide) (by decide) ?_
  refine Wk.iload (q := 125) at_123 rfl rfl ?_
  refine Wk.icmpF (q := 128) at_125 rfl (by decide : (1 : Int32) = (1 : Int32)) ?_
  refine Wk.iconst (q := 129) (v := (1 : Int32)) at_128 rfl rfl ?_
  refine Wk.goto (q := 133) at_129 (by decide) rfl ?_
  exact Wk.retZ rfl rfl at_133 (by decide) (by decide) rfl
set_option maxRecDepth 65536 in
set_option maxHeartbeats 40000000 in
theorem law_tail_3_4 {l : Launch} {Z : State} {a0 : Array Value} {n0 : Nat} {h : Heap}  {a_T : Addr} {c_T : Cell} (hw : ∀ d ∈ tables_1, d.before a0 Z = true) (F : OwnF Z h  a_T c_T) {a1 : Addr} {c1 : Cell} {b0 b1 b2 b3 : Int32} (A1 : Arr Z h a1 c1 .byte) (S1 : c1.slots.size = 4) (e_0 : c1.slots[0]? = some (Value.int b0)) (e_1 : c1.slots[1]? = some (Value.int b1)) (e_2 : c1.slots[2]? = some (Value.int b2)) (e_3 : c1.slots[3]? = some (Value.int b3)) (p0 p1 p2 p3 p4 p5 : Int32) (k_s : ((p4 &&& (2147483647 : Int32)) % (5 : Int32)) = (3 : Int32)) (k_e : ((p5 &&& (2147483647 : Int32)) % (5 : Int32)) = (4 : Int32)) : Wk l Z n0 "com/example/tallykey/tallykey/HttpSyntaxIsTextPinLaw" "law" code maxLocals ret room_1 16 128 (fun v _ => v = some (.int (1 : Int32))) h 1 4 29 #[.val (.int p0), .val (.int p1), .val (.int p2), .val (.int p3), .val (.int p4), .val (.int p5), .val (.ref a1), .unset, .unset, .unset] [] := by
  refine Wk.iload (q := 31) at_29 rfl rfl ?_
  refine Wk.ldcI (q := 33) (w_1 hw) at_31 rfl ?_
  refine Wk.iand (q := 34) (v := (p4 &&& (2147483647 : Int32))) at_33 rfl rfl ?_
  refine Wk.iconst (q := 35) (v := (5 : Int32)) at_34 rfl rfl ?_
  refine Wk.irem (q := 36) (v := (3 : Int32)) at_35 rfl (by decide) k_s ?_
  refine Wk.istore (q := 38) (ls' := #[.val (.int p0), .val (.int p1), .val (.int p2), .val (.int p3), .val (.int p4), .val (.int p5), .val (.ref a1), .val (.int (3 : Int32)), .unset, .unset]) at_36 rfl rfl ?_
  refine Wk.iload (q := 40) at_38 rfl rfl ?_
  refine Wk.ldcI (q := 42) (w_1 hw) at_40 rfl ?_
  refine Wk.iand (q := 43) (v := (p5 &&& (2147483647 : Int32))) at_42 rfl rfl ?_
  refine Wk.iconst (q := 44) (v := (5 : Int32)) at_43 rfl rfl ?_
  refine Wk.irem (q := 45) (v := (4 : Int32)) at_44 rfl (by decide) k_e ?_
  refine Wk.istore (q := 47) (ls' := #[.val (.int p0), .val (.int p1), .val (.int p2), .val (.int p3), .val (.int p4), .val (.int p5), .val (.ref a1), .val (.int (3 : Int32)), .val (.int (4 : Int32)), .unset]) at_45 rfl rfl ?_
  refine Wk.iconst (q := 48) (v := (0 : Int32)) at_47 rfl rfl ?_
  refine Wk.iload (q := 50) at_48 rfl rfl ?_
  refine Wk.iload (q := 52) at_50 rfl rfl ?_
  refine Wk.aload (q := 54) at_52 rfl rfl rfl ?_
  refine Wk.iconst (q := 55) (v := (0 : Int32)) at_54 rfl rfl ?_
  refine Wk.baloadB (q := 56) A1 (by rw [S1]; decide) e_0 at_55 rfl ?_
  refine Wk.callS1 (q := 59) (argsL := [(.int (0 : Int32)), (.int (3 : Int32)), (.int (4 : Int32)), (.int b0)]) (rest := []) (fr := 0) (lo := 0) (v0 := (.int (1 : Int32))) (m_95 hw F A1 S1 e_0 e_1 e_2 e_3 b0) (w_2 hw) (w_3 hw) (w_4 hw) (w_5 hw) (by decide) pd_0 rfl rfl rfl at_56 rfl (W := 0) rfl (by decide) (by decide) (by decide) (by decide) ?_
  refine Wk.ifcF (q := 62) at_59 rfl (by decide : ¬ (1 : Int32) = (0 : Int32)) ?_
  refine Wk.iconst (q := 63) (v := (1 : Int32)) at_62 rfl rfl ?_
  refine Wk.iload (q := 65) at_63 rfl rfl ?_
  refine Wk.iload (q := 67) at_65 rfl rfl ?_
  refine Wk.aload (q := 69) at_67 rfl rfl rfl ?_
  refine Wk.iconst (q := 70) (v := (1 : Int32)) at_69 rfl rfl ?_
  refine Wk.baloadB (q := 71) A1 (by rw [S1]; decide) e_1 at_70 rfl ?_
  refine Wk.callS1 (q := 74) (argsL := [(.int (1 : Int32)), (.int (3 : Int32)), (.int (4 : Int32)), (.int b1)]) (rest := []) (fr := 0) (lo := 0) (v0 := (.int (1 : Int32))) (m_96 hw F A1 S1 e_0 e_1 e_2 e_3 b1) (w_2 hw) (w_3 hw) (w_4 hw) (w_5 hw) (by decide) pd_0 rfl rfl rfl at_71 rfl (W := 0) rfl (by decide) (by decide) (by decide) (by decide) ?_
  refine Wk.ifcF (q := 77) at_74 rfl (by decide : ¬ (1 : Int32) = (0 : Int32)) ?_
  refine Wk.iconst (q := 78) (v := (2 : Int32)) at_77 rfl rfl ?_
  refine Wk.iload (q := 80) at_78 rfl rfl ?_
  refine Wk.iload (q := 82) at_80 rfl rfl ?_
  refine Wk.aload (q := 84) at_82 rfl rfl rfl ?_
  refine Wk.iconst (q := 85) (v := (2 : Int32)) at_84 rfl rfl ?_
  refine Wk.baloadB (q := 86) A1 (by rw [S1]; decide) e_2 at_85 rfl ?_
  refine Wk.callS1 (q := 89) (argsL := [(.int (2 : Int32)), (.int (3 : Int32)), (.int (4 : Int32)), (.int b2)]) (rest := []) (fr := 0) (lo := 0) (v0 := (.int (1 : Int32))) (m_97 hw F A1 S1 e_0 e_1 e_2 e_3 b2) (w_2 hw) (w_3 hw) (w_4 hw) (w_5 hw) (by decide) pd_0 rfl rfl rfl at_86 rfl (W := 0) rfl (by decide) (by decide) (by decide) (by decide) ?_
  refine Wk.ifcF (q := 92) at_89 rfl (by decide : ¬ (1 : Int32) = (0 : Int32)) ?_
  refine Wk.iconst (q := 93) (v := (3 : Int32)) at_92 rfl rfl ?_
  refine Wk.iload (q := 95) at_93 rfl rfl ?_
  refine Wk.iload (q := 97) at_95 rfl rfl ?_
  refine Wk.aload (q := 99) at_97 rfl rfl rfl ?_
  refine Wk.iconst (q := 100) (v := (3 : Int32)) at_99 rfl rfl ?_
  refine Wk.baloadB (q := 101) A1 (by rw [S1]; decide) e_3 at_100 rfl ?_
  refine Wk.callS2 (q := 104) (argsL := [(.int (3 : Int32)), (.int (3 : Int32)), (.int (4 : Int32)), (.int b3)]) (rest := []) (fr := 1) (lo := 13) (P := fun w => (((tabN (b3 &&& (255 : Int32)).toNatClampNeg) = (0 : Int32)) ∧ w = (.int (0 : Int32))) ∨ ((¬ (tabN (b3 &&& (255 : Int32)).toNatClampNeg) = (0 : Int32)) ∧ w = (.int (1 : Int32)))) (m_98 hw F A1 S1 e_0 e_1 e_2 e_3 b3) (w_2 hw) (w_3 hw) (w_4 hw) (w_5 hw) (by decide) pd_0 rfl rfl rfl at_101 rfl (W := 0) rfl (by decide) (by decide) (by decide) (by decide) ?_
  intro w1 hP; rcases hP with ⟨h2, rfl⟩ | ⟨h3, rfl⟩
  · refine Wk.ifcT (q := 111) at_104 (by decide) rfl (by decide : (0 : Int32) = (0 : Int32)) ?_
    refine Wk.iconst (q := 112) (v := (0 : Int32)) at_111 rfl rfl ?_
    refine Wk.istore (q := 114) (ls' := #[.val (.int p0), .val (.int p1), .val (.int p2), .val (.int p3), .val (.int p4), .val (.int p5), .val (.ref a1), .val (.int (3 : Int32)), .val (.int (4 : Int32)), .val (.int (0 : Int32))]) at_112 rfl rfl ?_
    refine Wk.aload (q := 116) at_114 rfl rfl rfl ?_
    refine Wk.iload (q := 118) at_116 rfl rfl ?_
    refine Wk.iload (q := 120) at_118 rfl rfl ?_
    refine Wk.callS2 (q := 123) (argsL := [(.ref a1), (.int (3 : Int32)), (.int (4 : Int32))]) (rest := []) (fr := 0) (lo := 0) (P := fun w => ((¬ (tabN (b3 &&& (255 : Int32)).toNatClampNeg) = (0 : Int32)) ∧ w = (.int (1 : Int32))) ∨ (((tabN (b3 &&& (255 : Int32)).toNatClampNeg) = (0 : Int32)) ∧ w = (.int (0 : Int32)))) (m_99 hw F A1 S1 e_0 e_1 e_2 e_3) (w_9 hw) (w_10 hw) (w_11 hw) (w_12 hw) (by decide) pd_1 rfl rfl rfl at_120 rfl (W := 0) rfl (by decide) (by decide) (by decide) (by decide) ?_
    intro w4 hP; rcases hP with ⟨h5, rfl⟩ | ⟨h6, rfl⟩
    · exact absurd h2 h5
    · refine Wk.iload (q := 125) at_123 rfl rfl ?_
      refine Wk.icmpF (q := 128) at_125 rfl (by decide : (0 : Int32) = (0 : Int32)) ?_
      refine Wk.iconst (q := 129) (v := (1 : Int32)) at_128 rfl rfl ?_
      refine Wk.goto (q := 133) at_129 (by decide) rfl ?_
      exact Wk.retZ rfl rfl at_133 (by decide) (by decide) rfl
  · refine Wk.ifcF (q := 107) at_104 rfl (by decide : ¬ (1 : Int32) = (0 : Int32)) ?_
    refine Wk.iconst (q := 108) (v := (1 : Int32)) at_107 rfl rfl ?_
    refine Wk.goto (q := 112) at_108 (by decide) rfl ?_
    refine Wk.istore (q := 114) (ls' := #[.val (.int p0), .val (.int p1), .val (.int p2), .val (.int p3), .val (.int p4), .val (.int p5), .val (.ref a1), .val (.int (3 : Int32)), .val (.int (4 : Int32)), .val (.int (1 : Int32))]) at_112 rfl rfl ?_
    refine Wk.aload (q := 116) at_114 rfl rfl rfl ?_
    refine Wk.iload (q := 118) at_116 rfl rfl ?_
    refine Wk.iload (q := 120) at_118 rfl rfl ?_
    refine Wk.callS2 (q := 123) (argsL := [(.ref a1), (.int (3 : Int32)), (.int (4 : Int32))]) (rest := []) (fr := 0) (lo := 0) (P := fun w => ((¬ (tabN (b3 &&& (255 : Int32)).toNatClampNeg) = (0 : Int32)) ∧ w = (.int (1 : Int32))) ∨ (((tabN (b3 &&& (255 : Int32)).toNatClampNeg) = (0 : Int32)) ∧ w = (.int (0 : Int32)))) (m_99 hw F A1 S1 e_0 e_1 e_2 e_3) (w_9 hw) (w_10 hw) (w_11 hw) (w_12 hw) (by decide) pd_1 rfl rfl rfl at_120 rfl (W := 0) rfl (by decide) (by decide) (by decide) (by decide) ?_
    intro w7 hP; rcases hP with ⟨h8, rfl⟩ | ⟨h9, rfl⟩
    · refine Wk.iload (q := 125) at_123 rfl rfl ?_
      refine Wk.icmpF (q := 128) at_125 rfl (by decide : (1 : Int32) = (1 : Int32)) ?_
      refine Wk.iconst (q := 129) (v := (1 : Int32)) at_128 rfl rfl ?_
      refine Wk.goto (q := 133) at_129 (by decide) rfl ?_
      exact Wk.retZ rfl rfl at_133 (by decide) (by decide) rfl
    · exact absurd h9 h3
set_option maxRecDepth 65536 in
set_option maxHeartbeats 40000000 in
theorem law_tail_4_0 {l : Launch} {Z : State} {a0 : Array Value} {n0 : Nat} {h : Heap}  {a_T : Addr} {c_T : Cell} (hw : ∀ d ∈ tables_1, d.before a0 Z = true) (F : OwnF Z h  a_T c_T) {a1 : Addr} {c1 : Cell} {b0 b1 b2 b3 : Int32} (A1 : Arr Z h a1 c1 .byte) (S1 : c1.slots.size = 4) (e_0 : c1.slots[0]? = some (Value.int b0)) (e_1 : c1.slots[1]? = some (Value.int b1)) (e_2 : c1.slots[2]? = some (Value.int b2)) (e_3 : c1.slots[3]? = some (Value.int b3)) (p0 p1 p2 p3 p4 p5 : Int32) (k_s : ((p4 &&& (2147483647 : Int32)) % (5 : Int32)) = (4 : Int32)) (k_e : ((p5 &&& (2147483647 : Int32)) % (5 : Int32)) = (0 : Int32)) : Wk l Z n0 "com/example/tallykey/tallykey/HttpSyntaxIsTextPinLaw" "law" code maxLocals ret room_1 16 128 (fun v _ => v = some (.int (1 : Int32))) h 1 4 29 #[.val (.int p0), .val (.int p1), .val (.int p2), .val (.int p3), .val (.int p4), .val (.int p5), .val (.ref a1), .unset, .unset, .unset] [] := by
  refine Wk.iload (q := 31) at_29 rfl rfl ?_
  refine Wk.ldcI (q := 33) (w_1 hw) at_31 rfl ?_
  refine Wk.iand (q := 34) (v := (p4 &&& (2147483647 : Int32))) at_33 rfl rfl ?_
  refine Wk.iconst (q := 35) (v := (5 : Int32)) at_34 rfl rfl ?_
  refine Wk.irem (q := 36) (v := (4 : Int32)) at_35 rfl (by decide) k_s ?_
  refine Wk.istore (q := 38) (ls' := #[.val (.int p0), .val (.int p1), .val (.int p2), .val (.int p3), .val (.int p4), .val (.int p5), .val (.ref a1), .val (.int (4 : Int32)), .unset, .unset]) at_36 rfl rfl ?_
  refine Wk.iload (q := 40) at_38 rfl rfl ?_
  refine Wk.ldcI (q := 42) (w_1 hw) at_40 rfl ?_
  refine Wk.iand (q := 43) (v := (p5 &&& (2147483647 : Int32))) at_42 rfl rfl ?_
  refine Wk.iconst (q := 44) (v := (5 : Int32)) at_43 rfl rfl ?_
  refine Wk.irem (q := 45) (v := (0 : Int32)) at_44 rfl (by decide) k_e ?_
  refine Wk.istore (q := 47) (ls' := #[.val (.int p0), .val (.int p1), .val (.int p2), .val (.int p3), .val (.int p4), .val (.int p5), .val (.ref a1), .val (.int (4 : Int32)), .val (.int (0 : Int32)), .unset]) at_45 rfl rfl ?_
  refine Wk.iconst (q := 48) (v := (0 : Int32)) at_47 rfl rfl ?_
  refine Wk.iload (q := 50) at_48 rfl rfl ?_
  refine Wk.iload (q := 52) at_50 rfl rfl ?_
  refine Wk.aload (q := 54) at_52 rfl rfl rfl ?_
  refine Wk.iconst (q := 55) (v := (0 : Int32)) at_54 rfl rfl ?_
  refine Wk.baloadB (q := 56) A1 (by rw [S1]; decide) e_0 at_55 rfl ?_
  refine Wk.callS1 (q := 59) (argsL := [(.int (0 : Int32)), (.int (4 : Int32)), (.int (0 : Int32)), (.int b0)]) (rest := []) (fr := 0) (lo := 0) (v0 := (.int (1 : Int32))) (m_100 hw F A1 S1 e_0 e_1 e_2 e_3 b0) (w_2 hw) (w_3 hw) (w_4 hw) (w_5 hw) (by decide) pd_0 rfl rfl rfl at_56 rfl (W := 0) rfl (by decide) (by decide) (by decide) (by decide) ?_
  refine Wk.ifcF (q := 62) at_59 rfl (by decide : ¬ (1 : Int32) = (0 : Int32)) ?_
  refine Wk.iconst (q := 63) (v := (1 : Int32)) at_62 rfl rfl ?_
  refine Wk.iload (q := 65) at_63 rfl rfl ?_
  refine Wk.iload (q := 67) at_65 rfl rfl ?_
  refine Wk.aload (q := 69) at_67 rfl rfl rfl ?_
  refine Wk.iconst (q := 70) (v := (1 : Int32)) at_69 rfl rfl ?_
  refine Wk.baloadB (q := 71) A1 (by rw [S1]; decide) e_1 at_70 rfl ?_
  refine Wk.callS1 (q := 74) (argsL := [(.int (1 : Int32)), (.int (4 : Int32)), (.int (0 : Int32)), (.int b1)]) (rest := []) (fr := 0) (lo := 0) (v0 := (.int (1 : Int32))) (m_101 hw F A1 S1 e_0 e_1 e_2 e_3 b1) (w_2 hw) (w_3 hw) (w_4 hw) (w_5 hw) (by decide) pd_0 rfl rfl rfl at_71 rfl (W := 0) rfl (by decide) (by decide) (by decide) (by decide) ?_
  refine Wk.ifcF (q := 77) at_74 rfl (by decide : ¬ (1 : Int32) = (0 : Int32)) ?_
  refine Wk.iconst (q := 78) (v := (2 : Int32)) at_77 rfl rfl ?_
  refine Wk.iload (q := 80) at_78 rfl rfl ?_
  refine Wk.iload (q := 82) at_80 rfl rfl ?_
  refine Wk.aload (q := 84) at_82 rfl rfl rfl ?_
  refine Wk.iconst (q := 85) (v := (2 : Int32)) at_84 rfl rfl ?_
  refine Wk.baloadB (q := 86) A1 (by rw [S1]; decide) e_2 at_85 rfl ?_
  refine Wk.callS1 (q := 89) (argsL := [(.int (2 : Int32)), (.int (4 : Int32)), (.int (0 : Int32)), (.int b2)]) (rest := []) (fr := 0) (lo := 0) (v0 := (.int (1 : Int32))) (m_102 hw F A1 S1 e_0 e_1 e_2 e_3 b2) (w_2 hw) (w_3 hw) (w_4 hw) (w_5 hw) (by decide) pd_0 rfl rfl rfl at_86 rfl (W := 0) rfl (by decide) (by decide) (by decide) (by decide) ?_
  refine Wk.ifcF (q := 92) at_89 rfl (by decide : ¬ (1 : Int32) = (0 : Int32)) ?_
  refine Wk.iconst (q := 93) (v := (3 : Int32)) at_92 rfl rfl ?_
  refine Wk.iload (q := 95) at_93 rfl rfl ?_
  refine Wk.iload (q := 97) at_95 rfl rfl ?_
  refine Wk.aload (q := 99) at_97 rfl rfl rfl ?_
  refine Wk.iconst (q := 100) (v := (3 : Int32)) at_99 rfl rfl ?_
  refine Wk.baloadB (q := 101) A1 (by rw [S1]; decide) e_3 at_100 rfl ?_
  refine Wk.callS1 (q := 104) (argsL := [(.int (3 : Int32)), (.int (4 : Int32)), (.int (0 : Int32)), (.int b3)]) (rest := []) (fr := 0) (lo := 0) (v0 := (.int (1 : Int32))) (m_103 hw F A1 S1 e_0 e_1 e_2 e_3 b3) (w_2 hw) (w_3 hw) (w_4 hw) (w_5 hw) (by decide) pd_0 rfl rfl rfl at_101 rfl (W := 0) rfl (by decide) (by decide) (by decide) (by decide) ?_
  refine Wk.ifcF (q := 107) at_104 rfl (by decide : ¬ (1 : Int32) = (0 : Int32)) ?_
  refine Wk.iconst (q := 108) (v := (1 : Int32)) at_107 rfl rfl ?_
  refine Wk.goto (q := 112) at_108 (by decide) rfl ?_
  refine Wk.istore (q := 114) (ls' := #[.val (.int p0), .val (.int p1), .val (.int p2), .val (.int p3), .val (.int p4), .val (.int p5), .val (.ref a1), .val (.int (4 : Int32)), .val (.int (0 : Int32)), .val (.int (1 : Int32))]) at_112 rfl rfl ?_
  refine Wk.aload (q := 116) at_114 rfl rfl rfl ?_
  refine Wk.iload (q := 118) at_116 rfl rfl ?_
  refine Wk.iload (q := 120) at_118 rfl rfl ?_
  refine Wk.callS1 (q := 123) (argsL := [(.ref a1), (.int (4 : Int32)), (.int (0 : Int32))]) (rest := []) (fr := 0) (lo := 0) (v0 := (.int (1 : Int32))) (m_104 hw F A1 S1 e_0 e_1 e_2 e_3) (w_9 hw) (w_10 hw) (w_11 hw) (w_12 hw) (by decide) pd_1 rfl rfl rfl at_120 rfl (W := 0) rfl (by decide) (by decide) (by decide) (by decide) ?_
  refine Wk.iload (q := 125) at_123 rfl rfl ?_
  refine Wk.icmpF (q := 128) at_125 rfl (by decide : (1 : Int32) = (1 : Int32)) ?_
  refine Wk.iconst (q := 129) (v := (1 : Int32)) at_128 rfl rfl ?_
  refine Wk.goto (q := 133) at_129 (by decide) rfl ?_
  exact Wk.retZ rfl rfl at_133 (by decide) (by decide) rfl
set_option maxRecDepth 65536 in
set_option maxHeartbeats 40000000 in
theorem law_tail_4_1 {l : Launch} {Z : State} {a0 : Array Value} {n0 : Nat} {h : Heap}  {a_T : Addr} {c_T : Cell} (hw : ∀ d ∈ tables_1, d.before a0 Z = true) (F : OwnF Z h  a_T c_T) {a1 : Addr} {c1 : Cell} {b0 b1 b2 b3 : Int32} (A1 : Arr Z h a1 c1 .byte) (S1 : c1.slots.size = 4) (e_0 : c1.slots[0]? = some (Value.int b0)) (e_1 : c1.slots[1]? = some (Value.int b1)) (e_2 : c1.slots[2]? = some (Value.int b2)) (e_3 : c1.slots[3]? = some (Value.int b3)) (p0 p1 p2 p3 p4 p5 : Int32) (k_s : ((p4 &&& (2147483647 : Int32)) % (5 : Int32)) = (4 : Int32)) (k_e : ((p5 &&& (2147483647 : Int32)) % (5 : Int32)) = (1 : Int32)) : Wk l Z n0 "com/example/tallykey/tallykey/HttpSyntaxIsTextPinLaw" "law" code maxLocals ret room_1 16 128 (fun v _ => v = some (.int (1 : Int32))) h 1 4 29 #[.val (.int p0), .val (.int p1), .val (.int p2), .val (.int p3), .val (.int p4), .val (.int p5), .val (.ref a1), .unset, .unset, .unset] [] := by
  refine Wk.iload (q := 31) at_29 rfl rfl ?_
  refine Wk.ldcI (q := 33) (w_1 hw) at_31 rfl ?_
  refine Wk.iand (q := 34) (v := (p4 &&& (2147483647 : Int32))) at_33 rfl rfl ?_
  refine Wk.iconst (q := 35) (v := (5 : Int32)) at_34 rfl rfl ?_
  refine Wk.irem (q := 36) (v := (4 : Int32)) at_35 rfl (by decide) k_s ?_
  refine Wk.istore (q := 38) (ls' := #[.val (.int p0), .val (.int p1), .val (.int p2), .val (.int p3), .val (.int p4), .val (.int p5), .val (.ref a1), .val (.int (4 : Int32)), .unset, .unset]) at_36 rfl rfl ?_
  refine Wk.iload (q := 40) at_38 rfl rfl ?_
  refine Wk.ldcI (q := 42) (w_1 hw) at_40 rfl ?_
  refine Wk.iand (q := 43) (v := (p5 &&& (2147483647 : Int32))) at_42 rfl rfl ?_
  refine Wk.iconst (q := 44) (v := (5 : Int32)) at_43 rfl rfl ?_
  refine Wk.irem (q := 45) (v := (1 : Int32)) at_44 rfl (by decide) k_e ?_
  refine Wk.istore (q := 47) (ls' := #[.val (.int p0), .val (.int p1), .val (.int p2), .val (.int p3), .val (.int p4), .val (.int p5), .val (.ref a1), .val (.int (4 : Int32)), .val (.int (1 : Int32)), .unset]) at_45 rfl rfl ?_
  refine Wk.iconst (q := 48) (v := (0 : Int32)) at_47 rfl rfl ?_
  refine Wk.iload (q := 50) at_48 rfl rfl ?_
  refine Wk.iload (q := 52) at_50 rfl rfl ?_
  refine Wk.aload (q := 54) at_52 rfl rfl rfl ?_
  refine Wk.iconst (q := 55) (v := (0 : Int32)) at_54 rfl rfl ?_
  refine Wk.baloadB (q := 56) A1 (by rw [S1]; decide) e_0 at_55 rfl ?_
  refine Wk.callS1 (q := 59) (argsL := [(.int (0 : Int32)), (.int (4 : Int32)), (.int (1 : Int32)), (.int b0)]) (rest := []) (fr := 0) (lo := 0) (v0 := (.int (1 : Int32))) (m_105 hw F A1 S1 e_0 e_1 e_2 e_3 b0) (w_2 hw) (w_3 hw) (w_4 hw) (w_5 hw) (by decide) pd_0 rfl rfl rfl at_56 rfl (W := 0) rfl (by decide) (by decide) (by decide) (by decide) ?_
  refine Wk.ifcF (q := 62) at_59 rfl (by decide : ¬ (1 : Int32) = (0 : Int32)) ?_
  refine Wk.iconst (q := 63) (v := (1 : Int32)) at_62 rfl rfl ?_
  refine Wk.iload (q := 65) at_63 rfl rfl ?_
  refine Wk.iload (q := 67) at_65 rfl rfl ?_
  refine Wk.aload (q := 69) at_67 rfl rfl rfl ?_
  refine Wk.iconst (q := 70) (v := (1 : Int32)) at_69 rfl rfl ?_
  refine Wk.baloadB (q := 71) A1 (by rw [S1]; decide) e_1 at_70 rfl ?_
  refine Wk.callS1 (q := 74) (argsL := [(.int (1 : Int32)), (.int (4 : Int32)), (.int (1 : Int32)), (.int b1)]) (rest := []) (fr := 0) (lo := 0) (v0 := (.int (1 : Int32))) (m_106 hw F A1 S1 e_0 e_1 e_2 e_3 b1) (w_2 hw) (w_3 hw) (w_4 hw) (w_5 hw) (by decide) pd_0 rfl rfl rfl at_71 rfl (W := 0) rfl (by decide) (by decide) (by decide) (by decide) ?_
  refine Wk.ifcF (q := 77) at_74 rfl (by decide : ¬ (1 : Int32) = (0 : Int32)) ?_
  refine Wk.iconst (q := 78) (v := (2 : Int32)) at_77 rfl rfl ?_
  refine Wk.iload (q := 80) at_78 rfl rfl ?_
  refine Wk.iload (q := 82) at_80 rfl rfl ?_
  refine Wk.aload (q := 84) at_82 rfl rfl rfl ?_
  refine Wk.iconst (q := 85) (v := (2 : Int32)) at_84 rfl rfl ?_
  refine Wk.baloadB (q := 86) A1 (by rw [S1]; decide) e_2 at_85 rfl ?_
  refine Wk.callS1 (q := 89) (argsL := [(.int (2 : Int32)), (.int (4 : Int32)), (.int (1 : Int32)), (.int b2)]) (rest := []) (fr := 0) (lo := 0) (v0 := (.int (1 : Int32))) (m_107 hw F A1 S1 e_0 e_1 e_2 e_3 b2) (w_2 hw) (w_3 hw) (w_4 hw) (w_5 hw) (by decide) pd_0 rfl rfl rfl at_86 rfl (W := 0) rfl (by decide) (by decide) (by decide) (by decide) ?_
  refine Wk.ifcF (q := 92) at_89 rfl (by decide : ¬ (1 : Int32) = (0 : Int32)) ?_
  refine Wk.iconst (q := 93) (v := (3 : Int32)) at_92 rfl rfl ?_
  refine Wk.iload (q := 95) at_93 rfl rfl ?_
  refine Wk.iload (q := 97) at_95 rfl rfl ?_
  refine Wk.aload (q := 99) at_97 rfl rfl rfl ?_
  refine Wk.iconst (q := 100) (v := (3 : Int32)) at_99 rfl rfl ?_
  refine Wk.baloadB (q := 101) A1 (by rw [S1]; decide) e_3 at_100 rfl ?_
  refine Wk.callS1 (q := 104) (argsL := [(.int (3 : Int32)), (.int (4 : Int32)), (.int (1 : Int32)), (.int b3)]) (rest := []) (fr := 0) (lo := 0) (v0 := (.int (1 : Int32))) (m_108 hw F A1 S1 e_0 e_1 e_2 e_3 b3) (w_2 hw) (w_3 hw) (w_4 hw) (w_5 hw) (by decide) pd_0 rfl rfl rfl at_101 rfl (W := 0) rfl (by decide) (by decide) (by decide) (by decide) ?_
  refine Wk.ifcF (q := 107) at_104 rfl (by decide : ¬ (1 : Int32) = (0 : Int32)) ?_
  refine Wk.iconst (q := 108) (v := (1 : Int32)) at_107 rfl rfl ?_
  refine Wk.goto (q := 112) at_108 (by decide) rfl ?_
  refine Wk.istore (q := 114) (ls' := #[.val (.int p0), .val (.int p1), .val (.int p2), .val (.int p3), .val (.int p4), .val (.int p5), .val (.ref a1), .val (.int (4 : Int32)), .val (.int (1 : Int32)), .val (.int (1 : Int32))]) at_112 rfl rfl ?_
  refine Wk.aload (q := 116) at_114 rfl rfl rfl ?_
  refine Wk.iload (q := 118) at_116 rfl rfl ?_
  refine Wk.iload (q := 120) at_118 rfl rfl ?_
  refine Wk.callS1 (q := 123) (argsL := [(.ref a1), (.int (4 : Int32)), (.int (1 : Int32))]) (rest := []) (fr := 0) (lo := 0) (v0 := (.int (1 : Int32))) (m_109 hw F A1 S1 e_0 e_1 e_2 e_3) (w_9 hw) (w_10 hw) (w_11 hw) (w_12 hw) (by decide) pd_1 rfl rfl rfl at_120 rfl (W := 0) rfl (by decide) (by decide) (by decide) (by decide) ?_
  refine Wk.iload (q := 125) at_123 rfl rfl ?_
  refine Wk.icmpF (q := 128) at_125 rfl (by decide : (1 : Int32) = (1 : Int32)) ?_
  refine Wk.iconst (q := 129) (v := (1 : Int32)) at_128 rfl rfl ?_
  refine Wk.goto (q := 133) at_129 (by decide) rfl ?_
  exact Wk.retZ rfl rfl at_133 (by decide) (by decide) rfl
set_option maxRecDepth 65536 in
set_option maxHeartbeats 40000000 in
theorem law_tail_4_2 {l : Launch} {Z : State} {a0 : Array Value} {n0 : Nat} {h : Heap}  {a_T : Addr} {c_T : Cell} (hw : ∀ d ∈ tables_1, d.before a0 Z = true) (F : OwnF Z h  a_T c_T) {a1 : Addr} {c1 : Cell} {b0 b1 b2 b3 : Int32} (A1 : Arr Z h a1 c1 .byte) (S1 : c1.slots.size = 4) (e_0 : c1.slots[0]? = some (Value.int b0)) (e_1 : c1.slots[1]? = some (Value.int b1)) (e_2 : c1.slots[2]? = some (Value.int b2)) (e_3 : c1.slots[3]? = some (Value.int b3)) (p0 p1 p2 p3 p4 p5 : Int32) (k_s : ((p4 &&& (2147483647 : Int32)) % (5 : Int32)) = (4 : Int32)) (k_e : ((p5 &&& (2147483647 : Int32)) % (5 : Int32)) = (2 : Int32)) : Wk l Z n0 "com/example/tallykey/tallykey/HttpSyntaxIsTextPinLaw" "law" code maxLocals ret room_1 16 128 (fun v _ => v = some (.int (1 : Int32))) h 1 4 29 #[.val (.int p0), .val (.int p1), .val (.int p2), .val (.int p3), .val (.int p4), .val (.int p5), .val (.ref a1), .unset, .unset, .unset] [] := by
  refine Wk.iload (q := 31) at_29 rfl rfl ?_
  refine Wk.ldcI (q := 33) (w_1 hw) at_31 rfl ?_
  refine Wk.iand (q := 34) (v := (p4 &&& (2147483647 : Int32))) at_33 rfl rfl ?_
  refine Wk.iconst (q := 35) (v := (5 : Int32)) at_34 rfl rfl ?_
  refine Wk.irem (q := 36) (v := (4 : Int32)) at_35 rfl (by decide) k_s ?_
  refine Wk.istore (q := 38) (ls' := #[.val (.int p0), .val (.int p1), .val (.int p2), .val (.int p3), .val (.int p4), .val (.int p5), .val (.ref a1), .val (.int (4 : Int32)), .unset, .unset]) at_36 rfl rfl ?_
  refine Wk.iload (q := 40) at_38 rfl rfl ?_
  refine Wk.ldcI (q := 42) (w_1 hw) at_40 rfl ?_
  refine Wk.iand (q := 43) (v := (p5 &&& (2147483647 : Int32))) at_42 rfl rfl ?_
  refine Wk.iconst (q := 44) (v := (5 : Int32)) at_43 rfl rfl ?_
  refine Wk.irem (q := 45) (v := (2 : Int32)) at_44 rfl (by decide) k_e ?_
  refine Wk.istore (q := 47) (ls' := #[.val (.int p0), .val (.int p1), .val (.int p2), .val (.int p3), .val (.int p4), .val (.int p5), .val (.ref a1), .val (.int (4 : Int32)), .val (.int (2 : Int32)), .unset]) at_45 rfl rfl ?_
  refine Wk.iconst (q := 48) (v := (0 : Int32)) at_47 rfl rfl ?_
  refine Wk.iload (q := 50) at_48 rfl rfl ?_
  refine Wk.iload (q := 52) at_50 rfl rfl ?_
  refine Wk.aload (q := 54) at_52 rfl rfl rfl ?_
  refine Wk.iconst (q := 55) (v := (0 : Int32)) at_54 rfl rfl ?_
  refine Wk.baloadB (q := 56) A1 (by rw [S1]; decide) e_0 at_55 rfl ?_
  refine Wk.callS1 (q := 59) (argsL := [(.int (0 : Int32)), (.int (4 : Int32)), (.int (2 : Int32)), (.int b0)]) (rest := []) (fr := 0) (lo := 0) (v0 := (.int (1 : Int32))) (m_110 hw F A1 S1 e_0 e_1 e_2 e_3 b0) (w_2 hw) (w_3 hw) (w_4 hw) (w_5 hw) (by decide) pd_0 rfl rfl rfl at_56 rfl (W := 0) rfl (by decide) (by decide) (by decide) (by decide) ?_
  refine Wk.ifcF (q := 62) at_59 rfl (by decide : ¬ (1 : Int32) = (0 : Int32)) ?_
  refine Wk.iconst (q := 63) (v := (1 : Int32)) at_62 rfl rfl ?_
  refine Wk.iload (q := 65) at_63 rfl rfl ?_
  refine Wk.iload (q := 67) at_65 rfl rfl ?_
  refine Wk.aload (q := 69) at_67 rfl rfl rfl ?_
  refine Wk.iconst (q := 70) (v := (1 : Int32)) at_69 rfl rfl ?_
  refine Wk.baloadB (q := 71) A1 (by rw [S1]; decide) e_1 at_70 rfl ?_
  refine Wk.callS1 (q := 74) (argsL := [(.int (1 : Int32)), (.int (4 : Int32)), (.int (2 : Int32)), (.int b1)]) (rest := []) (fr := 0) (lo := 0) (v0 := (.int (1 : Int32))) (m_111 hw F A1 S1 e_0 e_1 e_2 e_3 b1) (w_2 hw) (w_3 hw) (w_4 hw) (w_5 hw) (by decide) pd_0 rfl rfl rfl at_71 rfl (W := 0) rfl (by decide) (by decide) (by decide) (by decide) ?_
  refine Wk.ifcF (q := 77) at_74 rfl (by decide : ¬ (1 : Int32) = (0 : Int32)) ?_
  refine Wk.iconst (q := 78) (v := (2 : Int32)) at_77 rfl rfl ?_
  refine Wk.iload (q := 80) at_78 rfl rfl ?_
  refine Wk.iload (q := 82) at_80 rfl rfl ?_
  refine Wk.aload (q := 84) at_82 rfl rfl rfl ?_
  refine Wk.iconst (q := 85) (v := (2 : Int32)) at_84 rfl rfl ?_
  refine Wk.baloadB (q := 86) A1 (by rw [S1]; decide) e_2 at_85 rfl ?_
  refine Wk.callS1 (q := 89) (argsL := [(.int (2 : Int32)), (.int (4 : Int32)), (.int (2 : Int32)), (.int b2)]) (rest := []) (fr := 0) (lo := 0) (v0 := (.int (1 : Int32))) (m_112 hw F A1 S1 e_0 e_1 e_2 e_3 b2) (w_2 hw) (w_3 hw) (w_4 hw) (w_5 hw) (by decide) pd_0 rfl rfl rfl at_86 rfl (W := 0) rfl (by decide) (by decide) (by decide) (by decide) ?_
  refine Wk.ifcF (q := 92) at_89 rfl (by decide : ¬ (1 : Int32) = (0 : Int32)) ?_
  refine Wk.iconst (q := 93) (v := (3 : Int32)) at_92 rfl rfl ?_
  refine Wk.iload (q := 95) at_93 rfl rfl ?_
  refine Wk.iload (q := 97) at_95 rfl rfl ?_
  refine Wk.aload (q := 99) at_97 rfl rfl rfl ?_
  refine Wk.iconst (q := 100) (v := (3 : Int32)) at_99 rfl rfl ?_
  refine Wk.baloadB (q := 101) A1 (by rw [S1]; decide) e_3 at_100 rfl ?_
  refine Wk.callS1 (q := 104) (argsL := [(.int (3 : Int32)), (.int (4 : Int32)), (.int (2 : Int32)), (.int b3)]) (rest := []) (fr := 0) (lo := 0) (v0 := (.int (1 : Int32))) (m_113 hw F A1 S1 e_0 e_1 e_2 e_3 b3) (w_2 hw) (w_3 hw) (w_4 hw) (w_5 hw) (by decide) pd_0 rfl rfl rfl at_101 rfl (W := 0) rfl (by decide) (by decide) (by decide) (by decide) ?_
  refine Wk.ifcF (q := 107) at_104 rfl (by decide : ¬ (1 : Int32) = (0 : Int32)) ?_
  refine Wk.iconst (q := 108) (v := (1 : Int32)) at_107 rfl rfl ?_
  refine Wk.goto (q := 112) at_108 (by decide) rfl ?_
  refine Wk.istore (q := 114) (ls' := #[.val (.int p0), .val (.int p1), .val (.int p2), .val (.int p3), .val (.int p4), .val (.int p5), .val (.ref a1), .val (.int (4 : Int32)), .val (.int (2 : Int32)), .val (.int (1 : Int32))]) at_112 rfl rfl ?_
  refine Wk.aload (q := 116) at_114 rfl rfl rfl ?_
  refine Wk.iload (q := 118) at_116 rfl rfl ?_
  refine Wk.iload (q := 120) at_118 rfl rfl ?_
  refine Wk.callS1 (q := 123) (argsL := [(.ref a1), (.int (4 : Int32)), (.int (2 : Int32))]) (rest := []) (fr := 0) (lo := 0) (v0 := (.int (1 : Int32))) (m_114 hw F A1 S1 e_0 e_1 e_2 e_3) (w_9 hw) (w_10 hw) (w_11 hw) (w_12 hw) (by decide) pd_1 rfl rfl rfl at_120 rfl (W := 0) rfl (by decide) (by decide) (by decide) (by decide) ?_
  refine Wk.iload (q := 125) at_123 rfl rfl ?_
  refine Wk.icmpF (q := 128) at_125 rfl (by decide : (1 : Int32) = (1 : Int32)) ?_
  refine Wk.iconst (q := 129) (v := (1 : Int32)) at_128 rfl rfl ?_
  refine Wk.goto (q := 133) at_129 (by decide) rfl ?_
  exact Wk.retZ rfl rfl at_133 (by decide) (by decide) rfl
set_option maxRecDepth 65536 in
set_option maxHeartbeats 40000000 in
theorem law_tail_4_3 {l : Launch} {Z : State} {a0 : Array Value} {n0 : Nat} {h : Heap}  {a_T : Addr} {c_T : Cell} (hw : ∀ d ∈ tables_1, d.before a0 Z = true) (F : OwnF Z h  a_T c_T) {a1 : Addr} {c1 : Cell} {b0 b1 b2 b3 : Int32} (A1 : Arr Z h a1 c1 .byte) (S1 : c1.slots.size = 4) (e_0 : c1.slots[0]? = some (Value.int b0)) (e_1 : c1.slots[1]? = some (Value.int b1)) (e_2 : c1.slots[2]? = some (Value.int b2)) (e_3 : c1.slots[3]? = some (Value.int b3)) (p0 p1 p2 p3 p4 p5 : Int32) (k_s : ((p4 &&& (2147483647 : Int32)) % (5 : Int32)) = (4 : Int32)) (k_e : ((p5 &&& (2147483647 : Int32)) % (5 : Int32)) = (3 : Int32)) : Wk l Z n0 "com/example/tallykey/tallykey/HttpSyntaxIsTextPinLaw" "law" code maxLocals ret room_1 16 128 (fun v _ => v = some (.int (1 : Int32))) h 1 4 29 #[.val (.int p0), .val (.int p1), .val (.int p2), .val (.int p3), .val (.int p4), .val (.int p5), .val (.ref a1), .unset, .unset, .unset] [] := by
  refine Wk.iload (q := 31) at_29 rfl rfl ?_
  refine Wk.ldcI (q := 33) (w_1 hw) at_31 rfl ?_
  refine Wk.iand (q := 34) (v := (p4 &&& (2147483647 : Int32))) at_33 rfl rfl ?_
  refine Wk.iconst (q := 35) (v := (5 : Int32)) at_34 rfl rfl ?_
  refine Wk.irem (q := 36) (v := (4 : Int32)) at_35 rfl (by decide) k_s ?_
  refine Wk.istore (q := 38) (ls' := #[.val (.int p0), .val (.int p1), .val (.int p2), .val (.int p3), .val (.int p4), .val (.int p5), .val (.ref a1), .val (.int (4 : Int32)), .unset, .unset]) at_36 rfl rfl ?_
  refine Wk.iload (q := 40) at_38 rfl rfl ?_
  refine Wk.ldcI (q := 42) (w_1 hw) at_40 rfl ?_
  refine Wk.iand (q := 43) (v := (p5 &&& (2147483647 : Int32))) at_42 rfl rfl ?_
  refine Wk.iconst (q := 44) (v := (5 : Int32)) at_43 rfl rfl ?_
  refine Wk.irem (q := 45) (v := (3 : Int32)) at_44 rfl (by decide) k_e ?_
  refine Wk.istore (q := 47) (ls' := #[.val (.int p0), .val (.int p1), .val (.int p2), .val (.int p3), .val (.int p4), .val (.int p5), .val (.ref a1), .val (.int (4 : Int32)), .val (.int (3 : Int32)), .unset]) at_45 rfl rfl ?_
  refine Wk.iconst (q := 48) (v := (0 : Int32)) at_47 rfl rfl ?_
  refine Wk.iload (q := 50) at_48 rfl rfl ?_
  refine Wk.iload (q := 52) at_50 rfl rfl ?_
  refine Wk.aload (q := 54) at_52 rfl rfl rfl ?_
  refine Wk.iconst (q := 55) (v := (0 : Int32)) at_54 rfl rfl ?_
  refine Wk.baloadB (q := 56) A1 (by rw [S1]; decide) e_0 at_55 rfl ?_
  refine Wk.callS1 (q := 59) (argsL := [(.int (0 : Int32)), (.int (4 : Int32)), (.int (3 : Int32)), (.int b0)]) (rest := []) (fr := 0) (lo := 0) (v0 := (.int (1 : Int32))) (m_115 hw F A1 S1 e_0 e_1 e_2 e_3 b0) (w_2 hw) (w_3 hw) (w_4 hw) (w_5 hw) (by decide) pd_0 rfl rfl rfl at_56 rfl (W := 0) rfl (by decide) (by decide) (by decide) (by decide) ?_
  refine Wk.ifcF (q := 62) at_59 rfl (by decide : ¬ (1 : Int32) = (0 : Int32)) ?_
  refine Wk.iconst (q := 63) (v := (1 : Int32)) at_62 rfl rfl ?_
  refine Wk.iload (q := 65) at_63 rfl rfl ?_
  refine Wk.iload (q := 67) at_65 rfl rfl ?_
  refine Wk.aload (q := 69) at_67 rfl rfl rfl ?_
  refine Wk.iconst (q := 70) (v := (1 : Int32)) at_69 rfl rfl ?_
  refine Wk.baloadB (q := 71) A1 (by rw [S1]; decide) e_1 at_70 rfl ?_
  refine Wk.callS1 (q := 74) (argsL := [(.int (1 : Int32)), (.int (4 : Int32)), (.int (3 : Int32)), (.int b1)]) (rest := []) (fr := 0) (lo := 0) (v0 := (.int (1 : Int32))) (m_116 hw F A1 S1 e_0 e_1 e_2 e_3 b1) (w_2 hw) (w_3 hw) (w_4 hw) (w_5 hw) (by decide) pd_0 rfl rfl rfl at_71 rfl (W := 0) rfl (by decide) (by decide) (by decide) (by decide) ?_
  refine Wk.ifcF (q := 77) at_74 rfl (by decide : ¬ (1 : Int32) = (0 : Int32)) ?_
  refine Wk.iconst (q := 78) (v := (2 : Int32)) at_77 rfl rfl ?_
  refine Wk.iload (q := 80) at_78 rfl rfl ?_
  refine Wk.iload (q := 82) at_80 rfl rfl ?_
  refine Wk.aload (q := 84) at_82 rfl rfl rfl ?_
  refine Wk.iconst (q := 85) (v := (2 : Int32)) at_84 rfl rfl ?_
  refine Wk.baloadB (q := 86) A1 (by rw [S1]; decide) e_2 at_85 rfl ?_
  refine Wk.callS1 (q := 89) (argsL := [(.int (2 : Int32)), (.int (4 : Int32)), (.int (3 : Int32)), (.int b2)]) (rest := []) (fr := 0) (lo := 0) (v0 := (.int (1 : Int32))) (m_117 hw F A1 S1 e_0 e_1 e_2 e_3 b2) (w_2 hw) (w_3 hw) (w_4 hw) (w_5 hw) (by decide) pd_0 rfl rfl rfl at_86 rfl (W := 0) rfl (by decide) (by decide) (by decide) (by decide) ?_
  refine Wk.ifcF (q := 92) at_89 rfl (by decide : ¬ (1 : Int32) = (0 : Int32)) ?_
  refine Wk.iconst (q := 93) (v := (3 : Int32)) at_92 rfl rfl ?_
  refine Wk.iload (q := 95) at_93 rfl rfl ?_
  refine Wk.iload (q := 97) at_95 rfl rfl ?_
  refine Wk.aload (q := 99) at_97 rfl rfl rfl ?_
  refine Wk.iconst (q := 100) (v := (3 : Int32)) at_99 rfl rfl ?_
  refine Wk.baloadB (q := 101) A1 (by rw [S1]; decide) e_3 at_100 rfl ?_
  refine Wk.callS1 (q := 104) (argsL := [(.int (3 : Int32)), (.int (4 : Int32)), (.int (3 : Int32)), (.int b3)]) (rest := []) (fr := 0) (lo := 0) (v0 := (.int (1 : Int32))) (m_118 hw F A1 S1 e_0 e_1 e_2 e_3 b3) (w_2 hw) (w_3 hw) (w_4 hw) (w_5 hw) (by decide) pd_0 rfl rfl rfl at_101 rfl (W := 0) rfl (by decide) (by decide) (by decide) (by decide) ?_
  refine Wk.ifcF (q := 107) at_104 rfl (by decide : ¬ (1 : Int32) = (0 : Int32)) ?_
  refine Wk.iconst (q := 108) (v := (1 : Int32)) at_107 rfl rfl ?_
  refine Wk.goto (q := 112) at_108 (by decide) rfl ?_
  refine Wk.istore (q := 114) (ls' := #[.val (.int p0), .val (.int p1), .val (.int p2), .val (.int p3), .val (.int p4), .val (.int p5), .val (.ref a1), .val (.int (4 : Int32)), .val (.int (3 : Int32)), .val (.int (1 : Int32))]) at_112 rfl rfl ?_
  refine Wk.aload (q := 116) at_114 rfl rfl rfl ?_
  refine Wk.iload (q := 118) at_116 rfl rfl ?_
  refine Wk.iload (q := 120) at_118 rfl rfl ?_
  refine Wk.callS1 (q := 123) (argsL := [(.ref a1), (.int (4 : Int32)), (.int (3 : Int32))]) (rest := []) (fr := 0) (lo := 0) (v0 := (.int (1 : Int32))) (m_119 hw F A1 S1 e_0 e_1 e_2 e_3) (w_9 hw) (w_10 hw) (w_11 hw) (w_12 hw) (by decide) pd_1 rfl rfl rfl at_120 rfl (W := 0) rfl (by decide) (by decide) (by decide) (by decide) ?_
  refine Wk.iload (q := 125) at_123 rfl rfl ?_
  refine Wk.icmpF (q := 128) at_125 rfl (by decide : (1 : Int32) = (1 : Int32)) ?_
  refine Wk.iconst (q := 129) (v := (1 : Int32)) at_128 rfl rfl ?_
  refine Wk.goto (q := 133) at_129 (by decide) rfl ?_
  exact Wk.retZ rfl rfl at_133 (by decide) (by decide) rfl
set_option maxRecDepth 65536 in
set_option maxHeartbeats 40000000 in
theorem law_tail_4_4 {l : Launch} {Z : State} {a0 : Array Value} {n0 : Nat} {h : Heap}  {a_T : Addr} {c_T : Cell} (hw : ∀ d ∈ tables_1, d.before a0 Z = true) (F : OwnF Z h  a_T c_T) {a1 : Addr} {c1 : Cell} {b0 b1 b2 b3 : Int32} (A1 : Arr Z h a1 c1 .byte) (S1 : c1.slots.size = 4) (e_0 : c1.slots[0]? = some (Value.int b0)) (e_1 : c1.slots[1]? = some (Value.int b1)) (e_2 : c1.slots[2]? = some (Value.int b2)) (e_3 : c1.slots[3]? = some (Value.int b3)) (p0 p1 p2 p3 p4 p5 : Int32) (k_s : ((p4 &&& (2147483647 : Int32)) % (5 : Int32)) = (4 : Int32)) (k_e : ((p5 &&& (2147483647 : Int32)) % (5 : Int32)) = (4 : Int32)) : Wk l Z n0 "com/example/tallykey/tallykey/HttpSyntaxIsTextPinLaw" "law" code maxLocals ret room_1 16 128 (fun v _ => v = some (.int (1 : Int32))) h 1 4 29 #[.val (.int p0), .val (.int p1), .val (.int p2), .val (.int p3), .val (.int p4), .val (.int p5), .val (.ref a1), .unset, .unset, .unset] [] := by
  refine Wk.iload (q := 31) at_29 rfl rfl ?_
  refine Wk.ldcI (q := 33) (w_1 hw) at_31 rfl ?_
  refine Wk.iand (q := 34) (v := (p4 &&& (2147483647 : Int32))) at_33 rfl rfl ?_
  refine Wk.iconst (q := 35) (v := (5 : Int32)) at_34 rfl rfl ?_
  refine Wk.irem (q := 36) (v := (4 : Int32)) at_35 rfl (by decide) k_s ?_
  refine Wk.istore (q := 38) (ls' := #[.val (.int p0), .val (.int p1), .val (.int p2), .val (.int p3), .val (.int p4), .val (.int p5), .val (.ref a1), .val (.int (4 : Int32)), .unset, .unset]) at_36 rfl rfl ?_
  refine Wk.iload (q := 40) at_38 rfl rfl ?_
  refine Wk.ldcI (q := 42) (w_1 hw) at_40 rfl ?_
  refine Wk.iand (q := 43) (v := (p5 &&& (2147483647 : Int32))) at_42 rfl rfl ?_
  refine Wk.iconst (q := 44) (v := (5 : Int32)) at_43 rfl rfl ?_
  refine Wk.irem (q := 45) (v := (4 : Int32)) at_44 rfl (by decide) k_e ?_
  refine Wk.istore (q := 47) (ls' := #[.val (.int p0), .val (.int p1), .val (.int p2), .val (.int p3), .val (.int p4), .val (.int p5), .val (.ref a1), .val (.int (4 : Int32)), .val (.int (4 : Int32)), .unset]) at_45 rfl rfl ?_
  refine Wk.iconst (q := 48) (v := (0 : Int32)) at_47 rfl rfl ?_
  refine Wk.iload (q := 50) at_48 rfl rfl ?_
  refine Wk.iload (q := 52) at_50 rfl rfl ?_
  refine Wk.aload (q := 54) at_52 rfl rfl rfl ?_
  refine Wk.iconst (q := 55) (v := (0 : Int32)) at_54 rfl rfl ?_
  refine Wk.baloadB (q := 56) A1 (by rw [S1]; decide) e_0 at_55 rfl ?_
  refine Wk.callS1 (q := 59) (argsL := [(.int (0 : Int32)), (.int (4 : Int32)), (.int (4 : Int32)), (.int b0)]) (rest := []) (fr := 0) (lo := 0) (v0 := (.int (1 : Int32))) (m_120 hw F A1 S1 e_0 e_1 e_2 e_3 b0) (w_2 hw) (w_3 hw) (w_4 hw) (w_5 hw) (by decide) pd_0 rfl rfl rfl at_56 rfl (W := 0) rfl (by decide) (by decide) (by decide) (by decide) ?_
  refine Wk.ifcF (q := 62) at_59 rfl (by decide : ¬ (1 : Int32) = (0 : Int32)) ?_
  refine Wk.iconst (q := 63) (v := (1 : Int32)) at_62 rfl rfl ?_
  refine Wk.iload (q := 65) at_63 rfl rfl ?_
  refine Wk.iload (q := 67) at_65 rfl rfl ?_
  refine Wk.aload (q := 69) at_67 rfl rfl rfl ?_
  refine Wk.iconst (q := 70) (v := (1 : Int32)) at_69 rfl rfl ?_
  refine Wk.baloadB (q := 71) A1 (by rw [S1]; decide) e_1 at_70 rfl ?_
  refine Wk.callS1 (q := 74) (argsL := [(.int (1 : Int32)), (.int (4 : Int32)), (.int (4 : Int32)), (.int b1)]) (rest := []) (fr := 0) (lo := 0) (v0 := (.int (1 : Int32))) (m_121 hw F A1 S1 e_0 e_1 e_2 e_3 b1) (w_2 hw) (w_3 hw) (w_4 hw) (w_5 hw) (by decide) pd_0 rfl rfl rfl at_71 rfl (W := 0) rfl (by decide) (by decide) (by decide) (by decide) ?_
  refine Wk.ifcF (q := 77) at_74 rfl (by decide : ¬ (1 : Int32) = (0 : Int32)) ?_
  refine Wk.iconst (q := 78) (v := (2 : Int32)) at_77 rfl rfl ?_
  refine Wk.iload (q := 80) at_78 rfl rfl ?_
  refine Wk.iload (q := 82) at_80 rfl rfl ?_
  refine Wk.aload (q := 84) at_82 rfl rfl rfl ?_
  refine Wk.iconst (q := 85) (v := (2 : Int32)) at_84 rfl rfl ?_
  refine Wk.baloadB (q := 86) A1 (by rw [S1]; decide) e_2 at_85 rfl ?_
  refine Wk.callS1 (q := 89) (argsL := [(.int (2 : Int32)), (.int (4 : Int32)), (.int (4 : Int32)), (.int b2)]) (rest := []) (fr := 0) (lo := 0) (v0 := (.int (1 : Int32))) (m_122 hw F A1 S1 e_0 e_1 e_2 e_3 b2) (w_2 hw) (w_3 hw) (w_4 hw) (w_5 hw) (by decide) pd_0 rfl rfl rfl at_86 rfl (W := 0) rfl (by decide) (by decide) (by decide) (by decide) ?_
  refine Wk.ifcF (q := 92) at_89 rfl (by decide : ¬ (1 : Int32) = (0 : Int32)) ?_
  refine Wk.iconst (q := 93) (v := (3 : Int32)) at_92 rfl rfl ?_
  refine Wk.iload (q := 95) at_93 rfl rfl ?_
  refine Wk.iload (q := 97) at_95 rfl rfl ?_
  refine Wk.aload (q := 99) at_97 rfl rfl rfl ?_
  refine Wk.iconst (q := 100) (v := (3 : Int32)) at_99 rfl rfl ?_
  refine Wk.baloadB (q := 101) A1 (by rw [S1]; decide) e_3 at_100 rfl ?_
  refine Wk.callS1 (q := 104) (argsL := [(.int (3 : Int32)), (.int (4 : Int32)), (.int (4 : Int32)), (.int b3)]) (rest := []) (fr := 0) (lo := 0) (v0 := (.int (1 : Int32))) (m_123 hw F A1 S1 e_0 e_1 e_2 e_3 b3) (w_2 hw) (w_3 hw) (w_4 hw) (w_5 hw) (by decide) pd_0 rfl rfl rfl at_101 rfl (W := 0) rfl (by decide) (by decide) (by decide) (by decide) ?_
  refine Wk.ifcF (q := 107) at_104 rfl (by decide : ¬ (1 : Int32) = (0 : Int32)) ?_
  refine Wk.iconst (q := 108) (v := (1 : Int32)) at_107 rfl rfl ?_
  refine Wk.goto (q := 112) at_108 (by decide) rfl ?_
  refine Wk.istore (q := 114) (ls' := #[.val (.int p0), .val (.int p1), .val (.int p2), .val (.int p3), .val (.int p4), .val (.int p5), .val (.ref a1), .val (.int (4 : Int32)), .val (.int (4 : Int32)), .val (.int (1 : Int32))]) at_112 rfl rfl ?_
  refine Wk.aload (q := 116) at_114 rfl rfl rfl ?_
  refine Wk.iload (q := 118) at_116 rfl rfl ?_
  refine Wk.iload (q := 120) at_118 rfl rfl ?_
  refine Wk.callS1 (q := 123) (argsL := [(.ref a1), (.int (4 : Int32)), (.int (4 : Int32))]) (rest := []) (fr := 0) (lo := 0) (v0 := (.int (1 : Int32))) (m_124 hw F A1 S1 e_0 e_1 e_2 e_3) (w_9 hw) (w_10 hw) (w_11 hw) (w_12 hw) (by decide) pd_1 rfl rfl rfl at_120 rfl (W := 0) rfl (by decide) (by decide) (by decide) (by decide) ?_
  refine Wk.iload (q := 125) at_123 rfl rfl ?_
  refine Wk.icmpF (q := 128) at_125 rfl (by decide : (1 : Int32) = (1 : Int32)) ?_
  refine Wk.iconst (q := 129) (v := (1 : Int32)) at_128 rfl rfl ?_
  refine Wk.goto (q := 133) at_129 (by decide) rfl ?_
  exact Wk.retZ rfl rfl at_133 (by decide) (by decide) rfl
set_option maxRecDepth 65536 in
set_option maxHeartbeats 40000000 in
theorem law_all {l : Launch} {Z : State} {a0 : Array Value} {n0 : Nat} {a_T : Addr} {c_T : Cell} (hw : ∀ d ∈ tables_1, d.before a0 Z = true) (F0 : OwnF Z Z.heap  a_T c_T) (O : Old Z n0 Z.heap) (p0 p1 p2 p3 p4 p5 : Int32) : Met l Z n0 x code maxLocals ret room_1 #[(.int p0), (.int p1), (.int p2), (.int p3), (.int p4), (.int p5)] Z.heap (fun v _ => v = some (.int (1 : Int32))) := by
  refine Met.of_wk (ls := #[.val (.int p0), .val (.int p1), .val (.int p2), .val (.int p3), .val (.int p4), .val (.int p5), .unset, .unset, .unset, .unset]) (plainFor_of_name pn_0) (fun m => ef_3 m p0 p1 p2 p3 p4 p5) ?_
  show Wk l Z n0 "com/example/tallykey/tallykey/HttpSyntaxIsTextPinLaw" "law" code maxLocals ret room_1 16 128 (fun v _ => v = some (.int (1 : Int32))) Z.heap 0 0 0 #[.val (.int p0), .val (.int p1), .val (.int p2), .val (.int p3), .val (.int p4), .val (.int p5), .unset, .unset, .unset, .unset] []
  have F := F0
  refine Wk.iconst (q := 1) (v := (4 : Int32)) at_0 rfl rfl ?_
  refine Wk.newP (q := 3) (aty := .byte) (cap := 4) (w_0 hw) at_1 rfl (by decide) (by decide) (by decide) (by decide) (by decide) ?_
  intro h1 a1 cA g1 E1 A1
  have A1 : Arr Z h1 a1 (newA cA .byte (4 : Int32)) .byte := A1
  have ge1 : n0 ≤ a1 := g1 ▸ own_ge O
  have O := O.ext E1
  have F := F0.ext O.2
  have S1 : _ = 4 := sz_new cA .byte (4 : Int32)
  refine Wk.astore (q := 5) (ls' := #[.val (.int p0), .val (.int p1), .val (.int p2), .val (.int p3), .val (.int p4), .val (.int p5), .val (.ref a1), .unset, .unset, .unset]) at_3 rfl rfl rfl ?_
  refine Wk.aload (q := 7) at_5 rfl rfl rfl ?_
  refine Wk.iconst (q := 8) (v := (0 : Int32)) at_7 rfl rfl ?_
  refine Wk.iloadN (q := 9) at_8 rfl rfl ?_
  refine Wk.i2b (q := 10) (v := p0.toInt8.toInt32) at_9 rfl rfl ?_
  refine Wk.stB (q := 11) A1 (by rw [S1]; decide) rfl at_10 rfl ge1 ?_
  intro h2 W2
  have e_0 := own_hit (j := 0) W2 S1 (by decide) (by decide)
  have A1 := A1.same W2
  have S1 := own_szs W2 S1
  have O := O.wr W2 ge1
  have F := F0.ext O.2
  refine Wk.aload (q := 13) at_11 rfl rfl rfl ?_
  refine Wk.iconst (q := 14) (v := (1 : Int32)) at_13 rfl rfl ?_
  refine Wk.iloadN (q := 15) at_14 rfl rfl ?_
  refine Wk.i2b (q := 16) (v := p1.toInt8.toInt32) at_15 rfl rfl ?_
  refine Wk.stB (q := 17) A1 (by rw [S1]; decide) rfl at_16 rfl ge1 ?_
  intro h2 W2
  have e_0 := own_miss (j := 0) W2 (by decide) e_0
  have e_1 := own_hit (j := 1) W2 S1 (by decide) (by decide)
  have A1 := A1.same W2
  have S1 := own_szs W2 S1
  have O := O.wr W2 ge1
  have F := F0.ext O.2
  refine Wk.aload (q := 19) at_17 rfl rfl rfl ?_
  refine Wk.iconst (q := 20) (v := (2 : Int32)) at_19 rfl rfl ?_
  refine Wk.iloadN (q := 21) at_20 rfl rfl ?_
  refine Wk.i2b (q := 22) (v := p2.toInt8.toInt32) at_21 rfl rfl ?_
  refine Wk.stB (q := 23) A1 (by rw [S1]; decide) rfl at_22 rfl ge1 ?_
  intro h2 W2
  have e_0 := own_miss (j := 0) W2 (by decide) e_0
  have e_1 := own_miss (j := 1) W2 (by decide) e_1
  have e_2 := own_hit (j := 2) W2 S1 (by decide) (by decide)
  have A1 := A1.same W2
  have S1 := own_szs W2 S1
  have O := O.wr W2 ge1
  have F := F0.ext O.2
  refine Wk.aload (q := 25) at_23 rfl rfl rfl ?_
  refine Wk.iconst (q := 26) (v := (3 : Int32)) at_25 rfl rfl ?_
  refine Wk.iloadN (q := 27) at_26 rfl rfl ?_
  refine Wk.i2b (q := 28) (v := p3.toInt8.toInt32) at_27 rfl rfl ?_
  refine Wk.stB (q := 29) A1 (by rw [S1]; decide) rfl at_28 rfl ge1 ?_
  intro h2 W2
  have e_0 := own_miss (j := 0) W2 (by decide) e_0
  have e_1 := own_miss (j := 1) W2 (by decide) e_1
  have e_2 := own_miss (j := 2) W2 (by decide) e_2
  have e_3 := own_hit (j := 3) W2 S1 (by decide) (by decide)
  have A1 := A1.same W2
  have S1 := own_szs W2 S1
  have O := O.wr W2 ge1
  have F := F0.ext O.2
  rcases own_mod5 p4 with k_s | k_s | k_s | k_s | k_s
  · rcases own_mod5 p5 with k_e | k_e | k_e | k_e | k_e
    · exact law_tail_0_0 hw F A1 S1 e_0 e_1 e_2 e_3 p0 p1 p2 p3 p4 p5 k_s k_e
    · exact law_tail_0_1 hw F A1 S1 e_0 e_1 e_2 e_3 p0 p1 p2 p3 p4 p5 k_s k_e
    · exact law_tail_0_2 hw F A1 S1 e_0 e_1 e_2 e_3 p0 p1 p2 p3 p4 p5 k_s k_e
    · exact law_tail_0_3 hw F A1 S1 e_0 e_1 e_2 e_3 p0 p1 p2 p3 p4 p5 k_s k_e
    · exact law_tail_0_4 hw F A1 S1 e_0 e_1 e_2 e_3 p0 p1 p2 p3 p4 p5 k_s k_e
  · rcases own_mod5 p5 with k_e | k_e | k_e | k_e | k_e
    · exact law_tail_1_0 hw F A1 S1 e_0 e_1 e_2 e_3 p0 p1 p2 p3 p4 p5 k_s k_e
    · exact law_tail_1_1 hw F A1 S1 e_0 e_1 e_2 e_3 p0 p1 p2 p3 p4 p5 k_s k_e
    · exact law_tail_1_2 hw F A1 S1 e_0 e_1 e_2 e_3 p0 p1 p2 p3 p4 p5 k_s k_e
    · exact law_tail_1_3 hw F A1 S1 e_0 e_1 e_2 e_3 p0 p1 p2 p3 p4 p5 k_s k_e
    · exact law_tail_1_4 hw F A1 S1 e_0 e_1 e_2 e_3 p0 p1 p2 p3 p4 p5 k_s k_e
  · rcases own_mod5 p5 with k_e | k_e | k_e | k_e | k_e
    · exact law_tail_2_0 hw F A1 S1 e_0 e_1 e_2 e_3 p0 p1 p2 p3 p4 p5 k_s k_e
    · exact law_tail_2_1 hw F A1 S1 e_0 e_1 e_2 e_3 p0 p1 p2 p3 p4 p5 k_s k_e
    · exact law_tail_2_2 hw F A1 S1 e_0 e_1 e_2 e_3 p0 p1 p2 p3 p4 p5 k_s k_e
    · exact law_tail_2_3 hw F A1 S1 e_0 e_1 e_2 e_3 p0 p1 p2 p3 p4 p5 k_s k_e
    · exact law_tail_2_4 hw F A1 S1 e_0 e_1 e_2 e_3 p0 p1 p2 p3 p4 p5 k_s k_e
  · rcases own_mod5 p5 with k_e | k_e | k_e | k_e | k_e
    · exact law_tail_3_0 hw F A1 S1 e_0 e_1 e_2 e_3 p0 p1 p2 p3 p4 p5 k_s k_e
    · exact law_tail_3_1 hw F A1 S1 e_0 e_1 e_2 e_3 p0 p1 p2 p3 p4 p5 k_s k_e
    · exact law_tail_3_2 hw F A1 S1 e_0 e_1 e_2 e_3 p0 p1 p2 p3 p4 p5 k_s k_e
    · exact law_tail_3_3 hw F A1 S1 e_0 e_1 e_2 e_3 p0 p1 p2 p3 p4 p5 k_s k_e
    · exact law_tail_3_4 hw F A1 S1 e_0 e_1 e_2 e_3 p0 p1 p2 p3 p4 p5 k_s k_e
  · rcases own_mod5 p5 with k_e | k_e | k_e | k_e | k_e
    · exact law_tail_4_0 hw F A1 S1 e_0 e_1 e_2 e_3 p0 p1 p2 p3 p4 p5 k_s k_e
    · exact law_tail_4_1 hw F A1 S1 e_0 e_1 e_2 e_3 p0 p1 p2 p3 p4 p5 k_s k_e
    · exact law_tail_4_2 hw F A1 S1 e_0 e_1 e_2 e_3 p0 p1 p2 p3 p4 p5 k_s k_e
    · exact law_tail_4_3 hw F A1 S1 e_0 e_1 e_2 e_3 p0 p1 p2 p3 p4 p5 k_s k_e
    · exact law_tail_4_4 hw F A1 S1 e_0 e_1 e_2 e_3 p0 p1 p2 p3 p4 p5 k_s k_e
set_option maxRecDepth 65536 in
set_option maxHeartbeats 40000000 in
theorem comes_1 {Post : Tables → Env → Array Value → State → Outcome → State → Prop} (hpost : ∀ tb e args s v u, (limb_1_1.after args s (.returned v) u = true ∧ limb_1_2.after args s (.returned v) u = true ∧ True) → FrameEnd s (.returned v) u (Jvm.fieldLocs frame_1_writes args s ++ Jvm.arrayLocs frame_1_arrays args s ++ Jvm.staticLocs frame_1_statics s) 16 128 → Post tb e args s (.returned v) u) :
    ArmFor flags0 classFile x code maxLocals ret World_1 tables_1 room_1 Calls_1 rest_1 Pre_1 Post := by
  intro l hfl _ _ p e ha hc hk s m args below hf hA hF happ hP
  obtain ⟨hcalls, hrest, hpre⟩ := hP
  obtain ⟨-, -, -, hnamed, -, -, -, hat⟩ := (Spec.applies_iff hf).mp happ
  obtain ⟨hg, hn⟩ := and_e (Cond.before_iff.mp (show (Jvm.Cond.and given_1 narrow_1).before args s = true from hpre))
  obtain ⟨h1, g0⟩ := and_e hg
  obtain ⟨w0, w1, w2, w3, w4, w5, rfl⟩ : ∃ w0 w1 w2 w3 w4 w5 : Value, args = #[w0, w1, w2, w3, w4, w5] := by
    have hs : args.size = 6 := by simpa [Cond.value, given_1] using h1
    obtain ⟨L⟩ := args
    match L, hs with
    | [w0, w1, w2, w3, w4, w5], _ => exact ⟨w0, w1, w2, w3, w4, w5, rfl⟩
  have hw := fun d (hd : d ∈ tables_1) => atoms_spec (ws := Jvm.Cond.code x code maxLocals ret :: tables_1) hat d (List.mem_cons_of_mem _ hd)
  have hfit : Fit s := fun {y c} hc i hi => by
    obtain ⟨ha, rfl⟩ := Array.getElem?_eq_some_iff.mp hc
    have q := List.all_eq_true.mp ((Array.all_eq_true_iff_forall_mem.mp hF) _ (Array.getElem_mem ha)) i (List.mem_range.mpr hi)
    simpa [Array.getElem?_eq_getElem hi] using q
  obtain ⟨q0, g1⟩ := and_e g0
  obtain ⟨i0, e0⟩ := is_v q0
  obtain rfl : w0 = (.int i0) := Option.some.inj e0
  obtain ⟨q1, g2⟩ := and_e g1
  obtain ⟨i1, e1⟩ := is_v q1
  obtain rfl : w1 = (.int i1) := Option.some.inj e1
  obtain ⟨q2, g3⟩ := and_e g2
  obtain ⟨i2, e2⟩ := is_v q2
  obtain rfl : w2 = (.int i2) := Option.some.inj e2
  obtain ⟨q3, g4⟩ := and_e g3
  obtain ⟨i3, e3⟩ := is_v q3
  obtain rfl : w3 = (.int i3) := Option.some.inj e3
  obtain ⟨q4, g5⟩ := and_e g4
  obtain ⟨i4, e4⟩ := is_v q4
  obtain rfl : w4 = (.int i4) := Option.some.inj e4
  obtain ⟨i5, e5⟩ := is_v g5
  obtain rfl : w5 = (.int i5) := Option.some.inj e5
  obtain ⟨k1a, k1b⟩ := and_e hn
  obtain ⟨k2a, k2b⟩ := and_e k1b
  obtain ⟨k3a, k3b⟩ := and_e k2b
  obtain ⟨k4a, k4b⟩ := and_e k3b
  obtain ⟨k5a, k5b⟩ := and_e k4b
  obtain ⟨k6a, k6b⟩ := and_e k5b
  obtain ⟨k7a, k7b⟩ := and_e k6b
  obtain ⟨a_T, c_T, v_T, s_T, r_T⟩ := own_arr k1a (w_11 hw) (w_14 hw)
  have z_T : c_T.slots.size = 256 := own_len v_T r_T (own_eqi k2a (Term.int_eval _)) (by decide)
  have y_0 : ∀ k, k < 256 → 0 ≤ k → k ≤ 8 → c_T.slots[k]? = some (Value.int (0 : Int32)) := fun k hk h1 h2 => own_tk v_T r_T hk (own_or (own_all v_T r_T k3a k (by rw [z_T]; exact hk)) (Cond.le_ints (Term.int_eval _) (Term.index_eval k)) (fun z => by rw [own_kle (m := 9) (by decide) hk] at z; omega))
  have y_1 : c_T.slots[9]? = some (Value.int (1 : Int32)) := own_elem v_T r_T (own_eqi k4a (Term.int_eval _))
  have y_2 : ∀ k, k < 256 → 10 ≤ k → k ≤ 31 → c_T.slots[k]? = some (Value.int (0 : Int32)) := fun k hk h1 h2 => own_tk v_T r_T hk (own_or (own_or (own_all v_T r_T k5a k (by rw [z_T]; exact hk)) (Cond.lt_ints (Term.index_eval k) (Term.int_eval _)) (fun z => by rw [own_klt (m := 10) (by decide) hk] at z; omega)) (Cond.le_ints (Term.int_eval _) (Term.index_eval k)) (fun z => by rw [own_kle (m := 32) (by decide) hk] at z; omega))
  have y_3 : ∀ k, k < 256 → 32 ≤ k → k ≤ 126 → c_T.slots[k]? = some (Value.int (1 : Int32)) := fun k hk h1 h2 => own_tk v_T r_T hk (own_or (own_or (own_all v_T r_T k6a k (by rw [z_T]; exact hk)) (Cond.lt_ints (Term.index_eval k) (Term.int_eval _)) (fun z => by rw [own_klt (m := 32) (by decide) hk] at z; omega)) (Cond.le_ints (Term.int_eval _) (Term.index_eval k)) (fun z => by rw [own_kle (m := 127) (by decide) hk] at z; omega))
  have y_4 : c_T.slots[127]? = some (Value.int (0 : Int32)) := own_elem v_T r_T (own_eqi k7a (Term.int_eval _))
  have y_5 : ∀ k, k < 256 → 128 ≤ k → k ≤ 255 → c_T.slots[k]? = some (Value.int (1 : Int32)) := fun k hk h1 h2 => own_tk v_T r_T hk (own_or (own_all v_T r_T k7b k (by rw [z_T]; exact hk)) (Cond.lt_ints (Term.index_eval k) (Term.int_eval _)) (fun z => by rw [own_klt (m := 128) (by decide) hk] at z; omega))
  have t_T : ∀ k, k < 256 → c_T.slots[k]? = some (Value.int (tabN k)) := by
    intro k hk
    by_cases c_0 : k ≤ 8
    · rw [show tabN _ = (0 : Int32) from (tab0 (by omega))]
      exact y_0 k hk (by omega) (by omega)
    by_cases c_1 : k ≤ 9
    · obtain rfl : k = 9 := by omega
      rw [show tabN _ = (1 : Int32) from (tab1 (by omega))]
      exact y_1
    by_cases c_2 : k ≤ 31
    · rw [show tabN _ = (0 : Int32) from (tab0 (by omega))]
      exact y_2 k hk (by omega) (by omega)
    by_cases c_3 : k ≤ 126
    · rw [show tabN _ = (1 : Int32) from (tab1 (by omega))]
      exact y_3 k hk (by omega) (by omega)
    by_cases c_4 : k ≤ 127
    · obtain rfl : k = 127 := by omega
      rw [show tabN _ = (0 : Int32) from (tab0 (by omega))]
      exact y_4
    rw [show tabN _ = (1 : Int32) from (tab1 (by omega))]
    exact y_5 k hk (by omega) (by omega)
  obtain ⟨n, o, h1, h2, h3, _, L, rfl, ⟨N, rfl⟩, hq⟩ := (law_all (l := l) (n0 := s.heap.size) hw ⟨s_T, r_T, z_T, t_T⟩ (Old.start s) i0 i1 i2 i3 i4 i5) tables_1 p e ha hc hk s m _ below hf ((Spec.applies_iff_loose hf).mp happ).1 ⟨rfl, State.Warmed39.refl s, rfl⟩ trivial
  refine ⟨n, _, h1, h2, h3, hpost _ _ _ _ _ _ ⟨Cond.after_iff.mpr rfl, Cond.after_iff.mpr (eq_i res_at (Term.int_eval (1)) rfl), trivial⟩ ⟨hq.1, hq.2.1, (hq.2.2.sift fun y hy => Or.inr (N y hy)).mono (by decide) (by decide)⟩⟩
theorem main_1_1 : Claimed_1_1 := comes_1 fun _ _ _ _ _ _ h hF => ⟨h.1, hF⟩
theorem main_1_2 : Claimed_1_2 := comes_1 fun _ _ _ _ _ _ h hF => ⟨h.2.1, hF⟩
end Jvm.Pilot.@@N@@
namespace Jvm.Pilot.@@N@@
open Jvm Jvm.ClassFile Sem Op Lib Jvm.Free Jvm.Stand Jvm.Pilot.@@N@@.Jvm.D
/-! MADE BY PROGRAM (witnessworld.py) out of the Statement's table words and the real class files: 11 classes; the members and pool entries that the words name. The judged class is class 1, her method 3. -/
namespace start1
open Jvm.ClassFile
def u (s : String) : CpInfo := .utf8 (stringToUtf16 s)
/-- a pool by its gaps: so many unusable entries, then the entry; so many at the end -/
def gap : Nat → List CpInfo → List CpInfo
  | 0, r => r
  | n + 1, r => .unusable :: gap n r
def poolList (es : List (Nat × CpInfo)) (last : Nat) : List CpInfo := es.foldr (fun e r => gap e.1 (e.2 :: r)) (gap last [])
def pool (es : List (Nat × CpInfo)) (last : Nat) : Array CpInfo := ⟨poolList es last⟩
def fileOf (pool : Array CpInfo) (this : Nat) (attrs : Array Attribute := #[]) (ms : Array MethodInfo := #[]) (fl : Nat := 33) (sup : Nat := 0) (ifs : Array Nat := #[]) (fds : Array FieldInfo := #[]) : ClassFile where
  minorVersion := 0
  majorVersion := 65
  constantPool := pool
  accessFlags := fl
  thisClass := this
  superClass := sup
  interfaces := ifs
  fields := fds
  methods := ms
  attributes := attrs
def plain (name : String) (sup : Option ClassId) : Class where
  name := name
  kind := .ordinary
  loader := none
  accessFlags := 33
  super := sup
  interfaces := #[]
  cf := none
  fields := #[]
  methods := #[]
  instanceTypes := #[]
  staticTypes := #[]
  resolved := #[]
  callSites := []
  init := .initialized
  statics := none
  mirror := none

def pool0 : Array CpInfo := pool [(5, u "<init>"), (0, u "()V"), (1, .class_ 10), (1, u "java/lang/Object")] 113

def k0m0 : Method := { name := "<init>", desc := "()V", sig := { parameters := [], returnType := none }, accessFlags := 1, code := none }
/-- java/lang/Object -/
def k0 : Class := { plain "java/lang/Object" none with
  accessFlags := 33
  interfaces := #[]
  cf := some (fileOf pool0 8 #[] #[{ accessFlags := 1, nameIndex := 5, descriptorIndex := 6, attributes := #[] }] 33 0 #[] #[])
  fields := #[]
  methods := #[k0m0]
  instanceTypes := #[]
  staticTypes := #[]
  resolved := Array.replicate 124 none
  statics := none }

def pool1 : Array CpInfo := pool [(2, .class_ 4), (1, u "java/lang/Object"), (0, u "<init>"), (0, u "()V"), (0, .methodref 8 9), (0, .class_ 10), (0, .nameAndType 11 12), (0, u "com/example/tallykey/tallykey/HttpSyntaxIsTextPinLaw"), (0, u "text"), (0, u "(B)Z"), (0, .integer 2147483647), (0, .methodref 8 15), (0, .nameAndType 16 17), (0, u "ok"), (0, u "(IIIB)Z"), (0, .methodref 19 20), (0, .class_ 21), (0, .nameAndType 22 23), (0, u "com/example/tallykey/tallykey/HttpSyntax"), (0, u "isText"), (0, u "([BII)Z"), (3, u "law"), (0, u "(IIIIII)Z")] 4

def k1m0 : Method := { name := "<init>", desc := "()V", sig := { parameters := [], returnType := none }, accessFlags := 2, code := none }
def k1c1 : Code := { maxStack := 2, maxLocals := 2, code := method_2_code, exceptionTable := #[], attributes := #[] }
def k1m1 : Method := { name := "text", desc := "(B)Z", sig := { parameters := [.byte], returnType := some .boolean }, accessFlags := 10, code := some k1c1 }
def k1c2 : Code := { maxStack := 2, maxLocals := 5, code := method_3_code, exceptionTable := #[], attributes := #[] }
def k1m2 : Method := { name := "ok", desc := "(IIIB)Z", sig := { parameters := [.int, .int, .int, .byte], returnType := some .boolean }, accessFlags := 10, code := some k1c2 }
def k1c3 : Code := { maxStack := 5, maxLocals := 10, code := code, exceptionTable := #[], attributes := #[] }
def k1m3 : Method := { name := "law", desc := "(IIIIII)Z", sig := { parameters := [.int, .int, .int, .int, .int, .int], returnType := some .boolean }, accessFlags := 9, code := some k1c3 }
/-- com/example/tallykey/tallykey/HttpSyntaxIsTextPinLaw -/
def k1 : Class := { plain "com/example/tallykey/tallykey/HttpSyntaxIsTextPinLaw" (some 0) with
  accessFlags := 49
  interfaces := #[]
  cf := some (fileOf pool1 8 #[] #[{ accessFlags := 2, nameIndex := 5, descriptorIndex := 6, attributes := #[] }, { accessFlags := 10, nameIndex := 11, descriptorIndex := 12, attributes := #[] }, { accessFlags := 10, nameIndex := 16, descriptorIndex := 17, attributes := #[] }, { accessFlags := 9, nameIndex := 27, descriptorIndex := 28, attributes := #[] }] 49 2 #[] #[])
  fields := #[]
  methods := #[k1m0, k1m1, k1m2, k1m3]
  instanceTypes := #[]
  staticTypes := #[]
  resolved := Array.replicate 33 none
  statics := none }

def pool2 : Array CpInfo := pool [(2, .class_ 4), (1, u "java/lang/Object"), (0, u "<init>"), (0, u "()V"), (1, .class_ 10), (1, u "com/example/tallykey/tallykey/HttpSyntax"), (0, u "TOKEN"), (0, u "[Z"), (0, .fieldref 8 14), (0, .nameAndType 15 12), (0, u "TEXT"), (20, u "NOT_A_FIELD_LINE"), (0, u "Ljava/lang/String;"), (9, u "isText"), (0, u "([BII)Z")] 7

def k2m0 : Method := { name := "<init>", desc := "()V", sig := { parameters := [], returnType := none }, accessFlags := 2, code := none }
def k2c1 : Code := { maxStack := 3, maxLocals := 4, code := prog_5_method_5_code, exceptionTable := #[], attributes := #[] }
def k2m1 : Method := { name := "isText", desc := "([BII)Z", sig := { parameters := [(.array .byte), .int, .int], returnType := some .boolean }, accessFlags := 8, code := some k2c1 }
/-- com/example/tallykey/tallykey/HttpSyntax -/
def k2 : Class := { plain "com/example/tallykey/tallykey/HttpSyntax" (some 0) with
  accessFlags := 48
  interfaces := #[]
  cf := some (fileOf pool2 8 #[] #[{ accessFlags := 2, nameIndex := 5, descriptorIndex := 6, attributes := #[] }, { accessFlags := 8, nameIndex := 47, descriptorIndex := 48, attributes := #[] }] 48 2 #[] #[{ accessFlags := 26, nameIndex := 11, descriptorIndex := 12, attributes := #[] }, { accessFlags := 26, nameIndex := 15, descriptorIndex := 12, attributes := #[] }, { accessFlags := 24, nameIndex := 36, descriptorIndex := 37, attributes := #[] }])
  fields := #[{ name := "TOKEN", type := (.array .boolean), accessFlags := 26, slot := 0, constantValue := 0 }, { name := "TEXT", type := (.array .boolean), accessFlags := 26, slot := 1, constantValue := 0 }, { name := "NOT_A_FIELD_LINE", type := (.object "java/lang/String"), accessFlags := 24, slot := 2, constantValue := 0 }]
  methods := #[k2m0, k2m1]
  instanceTypes := #[]
  staticTypes := #[(.array .boolean), (.array .boolean), (.object "java/lang/String")]
  resolved := Array.replicate 56 none
  statics := some 0 }

def pool3 : Array CpInfo := pool [(1, u "java/lang/Cloneable"), (0, .class_ 1), (0, u "java/lang/Object"), (0, .class_ 3)] 3

/-- java/lang/Cloneable -/
def k3 : Class := { plain "java/lang/Cloneable" (some 0) with
  accessFlags := 1537
  interfaces := #[]
  cf := some (fileOf pool3 2 #[] #[] 1537 4 #[] #[])
  fields := #[]
  methods := #[]
  instanceTypes := #[]
  staticTypes := #[]
  resolved := Array.replicate 8 none
  statics := none }

def pool4 : Array CpInfo := pool [(1, u "java/io/Serializable"), (0, .class_ 1), (0, u "java/lang/Object"), (0, .class_ 3)] 3

/-- java/io/Serializable -/
def k4 : Class := { plain "java/io/Serializable" (some 0) with
  accessFlags := 1537
  interfaces := #[]
  cf := some (fileOf pool4 2 #[] #[] 1537 4 #[] #[])
  fields := #[]
  methods := #[]
  instanceTypes := #[]
  staticTypes := #[]
  resolved := Array.replicate 8 none
  statics := none }

/-- the primitive boolean -/
def k5 : Class := { plain "boolean" none with kind := .primitive 'Z', accessFlags := 0x411 }
/-- [Z -/
def k6 : Class := { plain "[Z" (some 0) with kind := .array 5 .boolean, interfaces := #[3, 4], accessFlags := 1041 }

/-- the primitive byte -/
def k7 : Class := { plain "byte" none with kind := .primitive 'B', accessFlags := 0x411 }
/-- [B -/
def k8 : Class := { plain "[B" (some 0) with kind := .array 7 .byte, interfaces := #[3, 4], accessFlags := 1041 }

/-- the primitive int -/
def k9 : Class := { plain "int" none with kind := .primitive 'I', accessFlags := 0x411 }
/-- [I -/
def k10 : Class := { plain "[I" (some 0) with kind := .array 9 .int, interfaces := #[3, 4], accessFlags := 1041 }

def heap : Heap := #[{ cls := 2, slots := #[.null, .ref 1, .null], vm := .statics 2 },
  { cls := 6, slots := #[.int 0, .int 0, .int 0, .int 0, .int 0, .int 0, .int 0, .int 0, .int 0, .int 1, .int 0, .int 0, .int 0, .int 0, .int 0, .int 0, .int 0, .int 0, .int 0, .int 0, .int 0, .int 0, .int 0, .int 0, .int 0, .int 0, .int 0, .int 0, .int 0, .int 0, .int 0, .int 0, .int 1, .int 1, .int 1, .int 1, .int 1, .int 1, .int 1, .int 1, .int 1, .int 1, .int 1, .int 1, .int 1, .int 1, .int 1, .int 1, .int 1, .int 1, .int 1, .int 1, .int 1, .int 1, .int 1, .int 1, .int 1, .int 1, .int 1, .int 1, .int 1, .int 1, .int 1, .int 1, .int 1, .int 1, .int 1, .int 1, .int 1, .int 1, .int 1, .int 1, .int 1, .int 1, .int 1, .int 1, .int 1, .int 1, .int 1, .int 1, .int 1, .int 1, .int 1, .int 1, .int 1, .int 1, .int 1, .int 1, .int 1, .int 1, .int 1, .int 1, .int 1, .int 1, .int 1, .int 1, .int 1, .int 1, .int 1, .int 1, .int 1, .int 1, .int 1, .int 1, .int 1, .int 1, .int 1, .int 1, .int 1, .int 1, .int 1, .int 1, .int 1, .int 1, .int 1, .int 1, .int 1, .int 1, .int 1, .int 1, .int 1, .int 1, .int 1, .int 1, .int 1, .int 1, .int 1, .int 0, .int 1, .int 1, .int 1, .int 1, .int 1, .int 1, .int 1, .int 1, .int 1, .int 1, .int 1, .int 1, .int 1, .int 1, .int 1, .int 1, .int 1, .int 1, .int 1, .int 1, .int 1, .int 1, .int 1, .int 1, .int 1, .int 1, .int 1, .int 1, .int 1, .int 1, .int 1, .int 1, .int 1, .int 1, .int 1, .int 1, .int 1, .int 1, .int 1, .int 1, .int 1, .int 1, .int 1, .int 1, .int 1, .int 1, .int 1, .int 1, .int 1, .int 1, .int 1, .int 1, .int 1, .int 1, .int 1, .int 1, .int 1, .int 1, .int 1, .int 1, .int 1, .int 1, .int 1, .int 1, .int 1, .int 1, .int 1, .int 1, .int 1, .int 1, .int 1, .int 1, .int 1, .int 1, .int 1, .int 1, .int 1, .int 1, .int 1, .int 1, .int 1, .int 1, .int 1, .int 1, .int 1, .int 1, .int 1, .int 1, .int 1, .int 1, .int 1, .int 1, .int 1, .int 1, .int 1, .int 1, .int 1, .int 1, .int 1, .int 1, .int 1, .int 1, .int 1, .int 1, .int 1, .int 1, .int 1, .int 1, .int 1, .int 1, .int 1, .int 1, .int 1, .int 1, .int 1, .int 1, .int 1, .int 1, .int 1, .int 1, .int 1, .int 1, .int 1, .int 1, .int 1, .int 1, .int 1, .int 1], vm := .none }]
def classes : Array Class := #[k0, k1, k2, k3, k4, k5, k6, k7, k8, k9, k10]
def interned : List (Array UInt16 × Addr) := []
def slotsUsed : Nat := 259
def theMethod : MethodId := ⟨1, 3⟩
def args0 : Array Value := #[.int 65, .int 66, .int 9, .int 7, .int 0, .int 4]
def aboutOver (below : List Frame) : State where
  vm := { classes := classes, interned := interned.toArray }
  heap := heap
  slotsUsed := slotsUsed
  threads := #[{ frames := .invoking theMethod args0 :: below }]
def below0 : List Frame := [.native { method := ⟨0, 0⟩, args := #[] }]
def about1 : State := aboutOver below0
def p0 : Program := .bare "" "" ""
def e0 : Env := launch0.env 0 0 0
theorem w_frames : about1.frames = Frame.invoking theMethod args0 :: below0 := rfl
set_option maxRecDepth 65536 in
theorem w_args : argsFit about1.vm theMethod args0 = true := by decide +kernel
set_option maxRecDepth 65536 in
theorem w_heap : heapFits about1 = true := by decide +kernel
set_option maxRecDepth 65536 in
theorem w_runnable : about1.curStatus? = some .runnable := by decide +kernel
set_option maxRecDepth 65536 in
theorem w_alone : about1.alone = true := by decide +kernel
set_option maxRecDepth 65536 in
theorem w_named : about1.methodNamed? x = some theMethod := by decide +kernel
set_option maxRecDepth 65536 in
theorem w_hears : about1.hears theMethod below0 = true := by decide +kernel
set_option maxRecDepth 65536 in
theorem w_ripe : about1.ripe theMethod args0 below0 = true := by decide +kernel
theorem w_running : about1.status = .running := rfl
set_option maxRecDepth 65536 in
theorem w_room : about1.hasRoom e0.platform room_1 = true :=
  launch0.hasRoom_least _ room_1 (by decide +kernel) (by decide +kernel) (by decide +kernel) (by decide +kernel) (by decide +kernel) (by decide +kernel)
theorem allAtoms_all (ts : List Jvm.Cond) (a : Array Jvm.Value) (st : Jvm.State) : (allAtoms ts).before a st = ts.all (fun c => c.before a st) := by
  induction ts with
  | nil => rfl
  | cons c t ih =>
    show (Jvm.Cond.and c (allAtoms t)).before a st = _
    rw [Jvm.Cond.before_and, ih, List.all_cons]
def words1 : List Jvm.Cond := Jvm.Cond.code x code maxLocals ret :: tables_1
/-- a 'code' word, met by the world's own term for the bytes: nothing is compared byte by byte -/
theorem code_word {y : MethodName} {bytes : ByteArray} {mx : Nat} {rt : Option FieldType} {a : Array Value} {s : State} {m : MethodId} {meth : Method} {c : Code} (h1 : s.methodNamed? y = some m) (h2 : s.vm.method? m = some meth) (h3 : meth.code = some c) (h4 : c.code = bytes)
    (h5 : (c.maxLocals == mx && c.exceptionTable.isEmpty && decide (c.maxStack ≤ mostOperands) && decide (meth.sig.returnType = rt) && !meth.locks && decide (parseMethodDescriptor y.desc = some meth.sig)) = true) : (Jvm.Cond.code y bytes mx rt).before a s = true := by
  simp only [Bool.and_eq_true, beq_iff_eq, Bool.not_eq_true', decide_eq_true_eq] at h5
  obtain ⟨⟨⟨⟨⟨g1, g2⟩, g3⟩, g4⟩, g5⟩, g6⟩ := h5
  simp [Cond.before, Cond.holds, Cond.value, h1, h2, h3, h4, g1, g2, g3, g4, g5, g6]
def isCode : Jvm.Cond → Bool
  | .code _ _ _ _ => true
  | _ => false
theorem all_split {L : List Jvm.Cond} {P : Jvm.Cond → Bool} (h1 : L.all (fun c => isCode c || P c) = true) (h2 : ∀ c ∈ L.filter isCode, P c = true) : L.all P = true := by
  refine List.all_eq_true.mpr fun c hc => ?_
  have h := List.all_eq_true.mp h1 c hc
  rcases Bool.eq_false_or_eq_true (isCode c) with hi | hi
  · exact h2 c (List.mem_filter.mpr ⟨hc, hi⟩)
  · simpa [hi] using h
set_option maxRecDepth 65536 in
theorem w_c0 : (Jvm.Cond.code x code maxLocals ret).before args0 about1 = true := code_word (m := ⟨1, 3⟩) (meth := k1m3) (c := k1c3) (by decide +kernel) rfl rfl rfl (by decide +kernel)
set_option maxRecDepth 65536 in
theorem w_c1 : (Jvm.Cond.code ({ cls := "com/example/tallykey/tallykey/HttpSyntaxIsTextPinLaw", name := "ok", desc := "(IIIB)Z" } : Jvm.MethodName) method_3_code (5 : Nat) (Option.some Jvm.ClassFile.FieldType.boolean)).before args0 about1 = true := code_word (m := ⟨1, 2⟩) (meth := k1m2) (c := k1c2) (by decide +kernel) rfl rfl rfl (by decide +kernel)
set_option maxRecDepth 65536 in
theorem w_c2 : (Jvm.Cond.code ({ cls := "com/example/tallykey/tallykey/HttpSyntaxIsTextPinLaw", name := "text", desc := "(B)Z" } : Jvm.MethodName) method_2_code (2 : Nat) (Option.some Jvm.ClassFile.FieldType.boolean)).before args0 about1 = true := code_word (m := ⟨1, 1⟩) (meth := k1m1) (c := k1c1) (by decide +kernel) rfl rfl rfl (by decide +kernel)
set_option maxRecDepth 65536 in
theorem w_c3 : (Jvm.Cond.code ({ cls := "com/example/tallykey/tallykey/HttpSyntax", name := "isText", desc := "([BII)Z" } : Jvm.MethodName) prog_5_method_5_code (4 : Nat) (Option.some Jvm.ClassFile.FieldType.boolean)).before args0 about1 = true := code_word (m := ⟨2, 1⟩) (meth := k2m1) (c := k2c1) (by decide +kernel) rfl rfl rfl (by decide +kernel)
def codes1 : List Jvm.Cond := [Jvm.Cond.code x code maxLocals ret, Jvm.Cond.code ({ cls := "com/example/tallykey/tallykey/HttpSyntaxIsTextPinLaw", name := "ok", desc := "(IIIB)Z" } : Jvm.MethodName) method_3_code (5 : Nat) (Option.some Jvm.ClassFile.FieldType.boolean), Jvm.Cond.code ({ cls := "com/example/tallykey/tallykey/HttpSyntaxIsTextPinLaw", name := "text", desc := "(B)Z" } : Jvm.MethodName) method_2_code (2 : Nat) (Option.some Jvm.ClassFile.FieldType.boolean), Jvm.Cond.code ({ cls := "com/example/tallykey/tallykey/HttpSyntax", name := "isText", desc := "([BII)Z" } : Jvm.MethodName) prog_5_method_5_code (4 : Nat) (Option.some Jvm.ClassFile.FieldType.boolean)]
set_option maxRecDepth 65536 in
theorem codes_eq : words1.filter isCode = codes1 := rfl
theorem w_codes : ∀ c ∈ words1.filter isCode, c.before args0 about1 = true := by
  rw [codes_eq]
  intro c hc
  simp only [codes1, List.mem_cons, List.not_mem_nil, or_false] at hc
  rcases hc with rfl | rfl | rfl | rfl
  · exact w_c0
  · exact w_c1
  · exact w_c2
  · exact w_c3
set_option maxRecDepth 65536 in
theorem w_t1 : words1.all (fun c => isCode c || c.before args0 about1) = true := by decide +kernel
theorem w_tables : (allAtoms (Jvm.Cond.code x code maxLocals ret :: tables_1)).before args0 about1 = true := by
  rw [allAtoms_all]
  show words1.all (fun c => c.before args0 about1) = true
  refine all_split ?_ w_codes
  rw [w_t1]
set_option maxRecDepth 65536 in
theorem w_case : (Jvm.Cond.and given_1 narrow_1).before args0 about1 = true := by decide +kernel
theorem w_applies : (headSpec (Jvm.Cond.code x code maxLocals ret :: tables_1) room_1).applies x e0.platform about1 = true :=
  (Spec.applies_iff w_frames).mpr ⟨w_running, w_runnable, w_alone, w_named, w_hears, w_ripe, w_room, w_tables⟩
theorem atStart : AtStart classFile x code maxLocals ret World_1 tables_1 room_1 Calls_1 rest_1 Pre_1 launch0 p0 e0 about1 theMethod args0 below0 :=
  ⟨lists_1, trivial, launch0.admits_env _ _ _, launch0.least_env, fairChoices_fair.cas, fairChoices_fair.clock, w_frames, w_args, w_heap, w_applies, trivial, trivial, w_case⟩
end start1
theorem witness_1 : WitnessClaimed_1 := ⟨start1.p0, start1.e0, start1.about1, start1.theMethod, start1.args0, start1.below0, start1.atStart⟩
end Jvm.Pilot.@@N@@
