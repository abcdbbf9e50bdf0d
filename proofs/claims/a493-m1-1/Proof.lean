import JvmDerived
import JvmDerived.Pilot.@@N@@Statement
import JvmDerived.Pilot.@@N@@Code
set_option linter.unusedVariables false
set_option linter.unusedSimpArgs false
namespace Jvm.Pilot.@@N@@
open Jvm Jvm.ClassFile Sem Op Lib Jvm.Free Jvm.Stand Jvm.LawKit Jvm.RoadKit Bundle Jvm.Pilot.@@N@@.Jvm.D
section Own
/-- from any state that stands at this heap, pc, locals and stack the run comes to an end that Q takes -/
def Wk (l : Launch) (Z : State) (n0 : Nat) (own nm : String) (bytes : ByteArray) (maxL : Nat) (ret : Option FieldType) (R : Room) (kc ks : Nat) (Q : Option Value → Heap → Prop) (h : Heap) (cl sl pc : Nat) (ls : Array Slot) (st : List Value) : Prop :=
  ∀ (p : Program) (e : Env) (s : State) (m : MethodId) (args : Array Value) (below : List Frame) (meth : Method) (c : Code) (T : State) (locs : List Loc),
    p.tables.exec = Jvm.exec → c.code = bytes → c.maxLocals = maxL → s.vm.findClass own = some m.cls → meth.name = nm → meth.sig.returnType = ret → meth.locks = false → Z.Warmed39 s.vm →
    Stand p l e R s m args below meth c T locs cl sl → T.heap = h → Fr n0 locs →
    ∃ s₂ o, Steps p.tables e below (T.setTop (mkF m pc ls st)) s₂ ∧ s₂.status = .running ∧ Ended s₂ below o ∧ ∃ v L, o = .returned v ∧ (Fr n0 L ∧ Q v s₂.heap) ∧ FrameEnd s o s₂ L kc ks
/-- a method's contract: from heap h, with the arguments as', it returns as Q says; new places alone are written -/
def Met (l : Launch) (Z : State) (n0 : Nat) (y : MethodName) (bytes : ByteArray) (maxL : Nat) (ret : Option FieldType) (rm : Room) (as' : Array Value) (h : Heap) (Q : Option Value → Heap → Prop) : Prop :=
  ∀ ws : List Jvm.Cond, MetFree l y (head1 (Jvm.Cond.code y bytes maxL ret :: ws) rm) (fun a U => a = as' ∧ Z.Warmed39 U.vm ∧ U.heap = h) (fun _ _ _ _ _ => True) (fun _ U o U' => ∃ v L, o = .returned v ∧ (Fr n0 L ∧ Q v U'.heap) ∧ FrameEnd U o U' L rm.cells rm.slots)
def icP : ClassFile.Cond → Int32 → Int32 → Prop
  | .eq, x, y => x = y | .ne, x, y => ¬ x = y | .lt, x, y => x < y | .ge, x, y => ¬ x < y | .gt, x, y => y < x | .le, x, y => ¬ y < x
def icN : ClassFile.Cond → Int32 → Int32 → Prop
  | .eq, x, y => ¬ x = y | .ne, x, y => x = y | .lt, x, y => ¬ x < y | .ge, x, y => x < y | .gt, x, y => ¬ y < x | .le, x, y => y < x
def acP : ACond → Value → Value → Prop
  | .eq, x, y => x = y | .ne, x, y => ¬ x = y
def acN : ACond → Value → Value → Prop
  | .eq, x, y => ¬ x = y | .ne, x, y => x = y
theorem ic_t {cd : ClassFile.Cond} {x y : Int32} (q : icP cd x y) : if_icmp.holds cd x y = true := by
  cases cd
  · exact (teq q).1
  · exact (feq q).2
  · exact (tlt q).1
  · exact (flt q).2.1
  · exact (tlt q).2.2.1
  · exact (flt q).2.2.2
theorem ic_f {cd : ClassFile.Cond} {x y : Int32} (q : icN cd x y) : if_icmp.holds cd x y = false := by
  cases cd
  · exact (feq q).1
  · exact (teq q).2
  · exact (flt q).1
  · exact (tlt q).2.1
  · exact (flt q).2.2.1
  · exact (tlt q).2.2.2
theorem ic_or (cd : ClassFile.Cond) (x y : Int32) : icP cd x y ∨ icN cd x y := by
  cases cd <;> simp only [icP, icN] <;> first | exact Decidable.em _ | exact (Decidable.em _).symm
theorem ac_t {cd : ACond} {x y : Value} (q : acP cd x y) : XT.acmp cd x y = true := by
  cases cd
  · exact decide_eq_true (show x = y from q)
  · exact decide_eq_true (show x ≠ y from q)
theorem ac_f {cd : ACond} {x y : Value} (q : acN cd x y) : XT.acmp cd x y = false := by
  cases cd
  · exact decide_eq_false (show ¬ x = y from q)
  · exact decide_eq_false (fun z : x ≠ y => z q)
theorem ac_or (cd : ACond) (x y : Value) : acP cd x y ∨ acN cd x y := by
  cases cd <;> simp only [acP, acN] <;> first | exact Classical.em _ | exact (Classical.em _).symm
variable {l : Launch} {Z : State} {a0 : Array Value} {n0 : Nat} {own nm : String} {bytes : ByteArray} {maxL : Nat} {ret : Option FieldType} {R : Room} {kc ks : Nat} {Q : Option Value → Heap → Prop} {h : Heap} {cl sl pc q : Nat} {ls ls' : Array Slot} {st st' rest : List Value}
theorem Met.mono {y : MethodName} {rm : Room} {as' : Array Value} {Q' : Option Value → Heap → Prop} (M : Met l Z n0 y bytes maxL ret rm as' h Q) (f : ∀ v h', Q v h' → Q' v h') : Met l Z n0 y bytes maxL ret rm as' h Q' := fun ws p e a1 a2 a3 s m args below b1 b2 b3 b4 => by
  obtain ⟨n, o, c1, c2, c3, v, L, c4, c5, c6⟩ := M ws p e a1 a2 a3 s m args below b1 b2 b3 b4
  exact ⟨n, o, c1, c2, c3, v, L, c4, ⟨c5.1, f _ _ c5.2⟩, c6⟩
theorem Met.of_wk {y : MethodName} {rm : Room} {as' : Array Value} (hp : plainFor y = true) (he : ∀ m, entryFrame m as' maxL = mkF m 0 ls []) (k : Wk l Z n0 y.cls y.name bytes maxL ret rm rm.cells rm.slots Q h 0 0 0 ls []) : Met l Z n0 y bytes maxL ret rm as' h Q := by
  intro ws
  refine MetFree.of_bodySF hp hisR ?_
  intro p e s m args below meth c s₁ Bd hml0 hP hK
  obtain ⟨rfl, hZ, hh⟩ := hP
  have X0 : Stand p l e rm s m args below meth c s₁ [] 0 0 := Stand.of_body Bd
  have e0 : s₁.heap = h := by rw [← hh, Bd.state]; rfl
  rw [he m]
  exact k p e s m _ below meth c s₁ [] Bd.exec Bd.bytes hml0 (findClass_of_methodNamed Bd.named) (name_of_methodNamed Bd.named Bd.method).1 Bd.returns Bd.notSynchronized hZ X0 e0 (Fr.nil n0)
theorem Wk.step (hs : ∀ {p : Program} {e : Env} {s : State} {m : MethodId} {args : Array Value} {below : List Frame} {meth : Method} {c : Code} {T : State} {locs : List Loc}, p.tables.exec = Jvm.exec → c.code = bytes → s.vm.findClass own = some m.cls → Z.Warmed39 s.vm → Stand p l e R s m args below meth c T locs cl sl → T.heap = h →
      ∀ target, Steps p.tables e below (T.setTop (mkF m q ls' st')) target → Steps p.tables e below (T.setTop (mkF m pc ls st)) target)
    (k : Wk l Z n0 own nm bytes maxL ret R kc ks Q h cl sl q ls' st') : Wk l Z n0 own nm bytes maxL ret R kc ks Q h cl sl pc ls st := by
  intro p e s m args below meth c T locs hx hby hml hown hnm hret hlk hZ X eT N
  obtain ⟨s₂, o, h1, r⟩ := k p e s m args below meth c T locs hx hby hml hown hnm hret hlk hZ X eT N
  exact ⟨s₂, o, hs hx hby hown hZ X eT _ h1, r⟩
theorem Wk.stepW (hs : ∀ {p : Program} {e : Env} {s : State} {m : MethodId} {args : Array Value} {below : List Frame} {meth : Method} {c : Code} {T : State} {locs : List Loc}, p.tables.exec = Jvm.exec → c.code = bytes → s.vm.findClass own = some m.cls → Z.Warmed39 s.vm → Stand p l e R s m args below meth c T locs cl sl → T.heap = h →
      ∃ T', Stand p l e R s m args below meth c T' locs cl sl ∧ T'.heap = h ∧ ∀ target, Steps p.tables e below (T'.setTop (mkF m q ls' st')) target → Steps p.tables e below (T.setTop (mkF m pc ls st)) target)
    (k : Wk l Z n0 own nm bytes maxL ret R kc ks Q h cl sl q ls' st') : Wk l Z n0 own nm bytes maxL ret R kc ks Q h cl sl pc ls st := by
  intro p e s m args below meth c T locs hx hby hml hown hnm hret hlk hZ X eT N
  obtain ⟨T', X', eT', st⟩ := hs hx hby hown hZ X eT
  obtain ⟨s₂, o, h1, r⟩ := k p e s m args below meth c T' locs hx hby hml hown hnm hret hlk hZ X' eT' N
  exact ⟨s₂, o, st _ h1, r⟩
theorem Wk.iloadN {i : Fin 4} {v : Int32} (hd : decode bytes pc = .ok (.iload_n i, 1)) (hq : pc + 1 = q) (hl : ls[i.val]? = some (.val (.int v))) (k : Wk l Z n0 own nm bytes maxL ret R kc ks Q h cl sl q ls (.int v :: st)) : Wk l Z n0 own nm bytes maxL ret R kc ks Q h cl sl pc ls st := by
  subst hq; exact Wk.step (fun hx hby _ _ X _ _ k => XS.iloadN X.here hx rfl (hb hby hd) hl k) k
theorem Wk.iload {i : Nat} {v : Int32} (hd : decode bytes pc = .ok (.iload i, 2)) (hq : pc + 2 = q) (hl : ls[i]? = some (.val (.int v))) (k : Wk l Z n0 own nm bytes maxL ret R kc ks Q h cl sl q ls (.int v :: st)) : Wk l Z n0 own nm bytes maxL ret R kc ks Q h cl sl pc ls st := by
  subst hq; exact Wk.step (fun hx hby _ _ X _ _ k => XS.iload X.here hx rfl (hb hby hd) hl k) k
theorem Wk.lloadN {i : Fin 4} {v : Int64} (hd : decode bytes pc = .ok (.lload_n i, 1)) (hq : pc + 1 = q) (hl : ls[i.val]? = some (.val (.long v))) (k : Wk l Z n0 own nm bytes maxL ret R kc ks Q h cl sl q ls (.long v :: st)) : Wk l Z n0 own nm bytes maxL ret R kc ks Q h cl sl pc ls st := by
  subst hq; exact Wk.step (fun hx hby _ _ X _ _ k => XT.lloadN X.here hx rfl (hb hby hd) hl k) k
theorem Wk.lload {i : Nat} {v : Int64} (hd : decode bytes pc = .ok (.lload i, 2)) (hq : pc + 2 = q) (hl : ls[i]? = some (.val (.long v))) (k : Wk l Z n0 own nm bytes maxL ret R kc ks Q h cl sl q ls (.long v :: st)) : Wk l Z n0 own nm bytes maxL ret R kc ks Q h cl sl pc ls st := by
  subst hq; exact Wk.step (fun hx hby _ _ X _ _ k => XT.lload X.here hx rfl (hb hby hd) hl k) k
theorem Wk.aloadN {i : Fin 4} {v : Value} (hd : decode bytes pc = .ok (.aload_n i, 1)) (hq : pc + 1 = q) (hl : ls[i.val]? = some (.val v)) (hv : v.isRef = true) (k : Wk l Z n0 own nm bytes maxL ret R kc ks Q h cl sl q ls (v :: st)) : Wk l Z n0 own nm bytes maxL ret R kc ks Q h cl sl pc ls st := by
  subst hq; exact Wk.step (fun hx hby _ _ X _ _ k => XS.aloadN X.here hx rfl (hb hby hd) hl hv k) k
theorem Wk.aload {i : Nat} {v : Value} (hd : decode bytes pc = .ok (.aload i, 2)) (hq : pc + 2 = q) (hl : ls[i]? = some (.val v)) (hv : v.isRef = true) (k : Wk l Z n0 own nm bytes maxL ret R kc ks Q h cl sl q ls (v :: st)) : Wk l Z n0 own nm bytes maxL ret R kc ks Q h cl sl pc ls st := by
  subst hq; exact Wk.step (fun hx hby _ _ X _ _ k => XS.aload X.here hx rfl (hb hby hd) hl hv k) k
theorem Wk.istoreN {i : Fin 4} {v : Int32} (hd : decode bytes pc = .ok (.istore_n i, 1)) (hq : pc + 1 = q) (hl : storeLocals ls i.val (.int v) = some ls') (k : Wk l Z n0 own nm bytes maxL ret R kc ks Q h cl sl q ls' st) : Wk l Z n0 own nm bytes maxL ret R kc ks Q h cl sl pc ls (.int v :: st) := by
  subst hq; exact Wk.step (fun hx hby _ _ X _ _ k => XS.istoreN X.here hx rfl (hb hby hd) rfl hl k) k
theorem Wk.istore {i : Nat} {v : Int32} (hd : decode bytes pc = .ok (.istore i, 2)) (hq : pc + 2 = q) (hl : storeLocals ls i (.int v) = some ls') (k : Wk l Z n0 own nm bytes maxL ret R kc ks Q h cl sl q ls' st) : Wk l Z n0 own nm bytes maxL ret R kc ks Q h cl sl pc ls (.int v :: st) := by
  subst hq; exact Wk.step (fun hx hby _ _ X _ _ k => XS.istore X.here hx rfl (hb hby hd) rfl hl k) k
theorem Wk.lstoreN {i : Fin 4} {v : Int64} (hd : decode bytes pc = .ok (.lstore_n i, 1)) (hq : pc + 1 = q) (hl : storeLocals ls i.val (.long v) = some ls') (k : Wk l Z n0 own nm bytes maxL ret R kc ks Q h cl sl q ls' st) : Wk l Z n0 own nm bytes maxL ret R kc ks Q h cl sl pc ls (.long v :: st) := by
  subst hq; exact Wk.step (fun hx hby _ _ X _ _ k => XT.lstoreN X.here hx rfl (hb hby hd) rfl hl k) k
theorem Wk.lstore {i : Nat} {v : Int64} (hd : decode bytes pc = .ok (.lstore i, 2)) (hq : pc + 2 = q) (hl : storeLocals ls i (.long v) = some ls') (k : Wk l Z n0 own nm bytes maxL ret R kc ks Q h cl sl q ls' st) : Wk l Z n0 own nm bytes maxL ret R kc ks Q h cl sl pc ls (.long v :: st) := by
  subst hq; exact Wk.step (fun hx hby _ _ X _ _ k => XT.lstore X.here hx rfl (hb hby hd) rfl hl k) k
theorem Wk.astoreN {i : Fin 4} {v : Value} (hd : decode bytes pc = .ok (.astore_n i, 1)) (hq : pc + 1 = q) (hv : v.isRef = true) (hl : storeLocals ls i.val v = some ls') (k : Wk l Z n0 own nm bytes maxL ret R kc ks Q h cl sl q ls' st) : Wk l Z n0 own nm bytes maxL ret R kc ks Q h cl sl pc ls (v :: st) := by
  subst hq; exact Wk.step (fun hx hby _ _ X _ _ k => XS.astoreN X.here hx rfl (hb hby hd) rfl hv hl k) k
theorem Wk.astore {i : Nat} {v : Value} (hd : decode bytes pc = .ok (.astore i, 2)) (hq : pc + 2 = q) (hv : v.isRef = true) (hl : storeLocals ls i v = some ls') (k : Wk l Z n0 own nm bytes maxL ret R kc ks Q h cl sl q ls' st) : Wk l Z n0 own nm bytes maxL ret R kc ks Q h cl sl pc ls (v :: st) := by
  subst hq; exact Wk.step (fun hx hby _ _ X _ _ k => XS.astore X.here hx rfl (hb hby hd) rfl hv hl k) k
theorem Wk.iconst {i : Int} {v : Int32} (hd : decode bytes pc = .ok (.iconst i, 1)) (hq : pc + 1 = q) (hv : Int32.ofInt i = v) (k : Wk l Z n0 own nm bytes maxL ret R kc ks Q h cl sl q ls (.int v :: st)) : Wk l Z n0 own nm bytes maxL ret R kc ks Q h cl sl pc ls st := by
  subst hq hv; exact Wk.step (fun hx hby _ _ X _ _ k => XS.iconst X.here hx rfl (hb hby hd) k) k
theorem Wk.bipush {i : Int} {v : Int32} (hd : decode bytes pc = .ok (.bipush i, 2)) (hq : pc + 2 = q) (hv : (Int8.ofInt i).toInt32 = v) (k : Wk l Z n0 own nm bytes maxL ret R kc ks Q h cl sl q ls (.int v :: st)) : Wk l Z n0 own nm bytes maxL ret R kc ks Q h cl sl pc ls st := by
  subst hq hv; exact Wk.step (fun hx hby _ _ X _ _ k => XS.bipush X.here hx rfl (hb hby hd) k) k
theorem Wk.sipush {i : Int} {v : Int32} (hd : decode bytes pc = .ok (.sipush i, 3)) (hq : pc + 3 = q) (hv : (Int16.ofInt i).toInt32 = v) (k : Wk l Z n0 own nm bytes maxL ret R kc ks Q h cl sl q ls (.int v :: st)) : Wk l Z n0 own nm bytes maxL ret R kc ks Q h cl sl pc ls st := by
  subst hq hv; exact Wk.step (fun hx hby _ _ X _ _ k => XS.sipush X.here hx rfl (hb hby hd) k) k
theorem Wk.lconst {i : Fin 2} {v : Int64} (hd : decode bytes pc = .ok (.lconst i, 1)) (hq : pc + 1 = q) (hv : Int64.ofNat i = v) (k : Wk l Z n0 own nm bytes maxL ret R kc ks Q h cl sl q ls (.long v :: st)) : Wk l Z n0 own nm bytes maxL ret R kc ks Q h cl sl pc ls st := by
  subst hq hv; exact Wk.step (fun hx hby _ _ X _ _ k => XT.lconst X.here hx rfl (hb hby hd) k) k
theorem Wk.null  (hd : decode bytes pc = .ok (.aconst_null, 1)) (hq : pc + 1 = q)  (k : Wk l Z n0 own nm bytes maxL ret R kc ks Q h cl sl q ls (.null :: st)) : Wk l Z n0 own nm bytes maxL ret R kc ks Q h cl sl pc ls st := by
  subst hq; exact Wk.step (fun hx hby _ _ X _ _ k => XS.aconstNull X.here hx rfl (hb hby hd) k) k
theorem Wk.ldcI {i : Nat} {v : Int32} (w : (Jvm.Cond.constant own i v).before a0 Z = true) (hd : decode bytes pc = .ok (.ldc i, 2)) (hq : pc + 2 = q) (k : Wk l Z n0 own nm bytes maxL ret R kc ks Q h cl sl q ls (.int v :: st)) : Wk l Z n0 own nm bytes maxL ret R kc ks Q h cl sl pc ls st := by
  subst hq; exact Wk.step (fun hx hby hown hZ X _ t k => X.ldcInt hx hown (mv hZ w) (g := mkF _ pc ls st) rfl (hb hby hd) t k) k
theorem Wk.ldc2 {i : Nat} {v : Int64} (w : (Jvm.Cond.constantLong own i v).before a0 Z = true) (hd : decode bytes pc = .ok (.ldc2_w i, 3)) (hq : pc + 3 = q) (k : Wk l Z n0 own nm bytes maxL ret R kc ks Q h cl sl q ls (.long v :: st)) : Wk l Z n0 own nm bytes maxL ret R kc ks Q h cl sl pc ls st := by
  subst hq; exact Wk.step (fun hx hby hown hZ X _ t k => X.ldc2Long hx hown (mv hZ w) (g := mkF _ pc ls st) rfl (hb hby hd) t k) k
theorem Wk.iadd {x y v : Int32} (hd : decode bytes pc = .ok (.iadd, 1)) (hq : pc + 1 = q) (hv : x + y = v) (k : Wk l Z n0 own nm bytes maxL ret R kc ks Q h cl sl q ls (.int v :: st)) : Wk l Z n0 own nm bytes maxL ret R kc ks Q h cl sl pc ls (.int y :: .int x :: st) := by
  subst hq hv; exact Wk.step (fun hx hby _ _ X _ _ k => XS.iadd X.here hx rfl (hb hby hd) rfl k) k
theorem Wk.isub {x y v : Int32} (hd : decode bytes pc = .ok (.isub, 1)) (hq : pc + 1 = q) (hv : x - y = v) (k : Wk l Z n0 own nm bytes maxL ret R kc ks Q h cl sl q ls (.int v :: st)) : Wk l Z n0 own nm bytes maxL ret R kc ks Q h cl sl pc ls (.int y :: .int x :: st) := by
  subst hq hv; exact Wk.step (fun hx hby _ _ X _ _ k => XS.isub X.here hx rfl (hb hby hd) rfl k) k
theorem Wk.iand {x y v : Int32} (hd : decode bytes pc = .ok (.iand, 1)) (hq : pc + 1 = q) (hv : x &&& y = v) (k : Wk l Z n0 own nm bytes maxL ret R kc ks Q h cl sl q ls (.int v :: st)) : Wk l Z n0 own nm bytes maxL ret R kc ks Q h cl sl pc ls (.int y :: .int x :: st) := by
  subst hq hv; exact Wk.step (fun hx hby _ _ X _ _ k => XS.iand X.here hx rfl (hb hby hd) rfl k) k
theorem Wk.imul {x y v : Int32} (hd : decode bytes pc = .ok (.imul, 1)) (hq : pc + 1 = q) (hv : x * y = v) (k : Wk l Z n0 own nm bytes maxL ret R kc ks Q h cl sl q ls (.int v :: st)) : Wk l Z n0 own nm bytes maxL ret R kc ks Q h cl sl pc ls (.int y :: .int x :: st) := by
  subst hq hv; exact Wk.step (fun hx hby _ _ X _ _ k => XS.imul X.here hx rfl (hb hby hd) rfl k) k
theorem Wk.ishr {x y v : Int32} (hd : decode bytes pc = .ok (.ishr, 1)) (hq : pc + 1 = q) (hv : x >>> (y &&& 31) = v) (k : Wk l Z n0 own nm bytes maxL ret R kc ks Q h cl sl q ls (.int v :: st)) : Wk l Z n0 own nm bytes maxL ret R kc ks Q h cl sl pc ls (.int y :: .int x :: st) := by
  subst hq hv; exact Wk.step (fun hx hby _ _ X _ _ k => XT.ishr X.here hx rfl (hb hby hd) rfl k) k
theorem Wk.iushr {x y v : Int32} (hd : decode bytes pc = .ok (.iushr, 1)) (hq : pc + 1 = q) (hv : XT.ushr x y = v) (k : Wk l Z n0 own nm bytes maxL ret R kc ks Q h cl sl q ls (.int v :: st)) : Wk l Z n0 own nm bytes maxL ret R kc ks Q h cl sl pc ls (.int y :: .int x :: st) := by
  subst hq hv; exact Wk.step (fun hx hby _ _ X _ _ k => XT.iushr X.here hx rfl (hb hby hd) rfl k) k
theorem Wk.irem {x y v : Int32} (hd : decode bytes pc = .ok (.irem, 1)) (hq : pc + 1 = q) (hy : y ≠ 0) (hv : x % y = v) (k : Wk l Z n0 own nm bytes maxL ret R kc ks Q h cl sl q ls (.int v :: st)) : Wk l Z n0 own nm bytes maxL ret R kc ks Q h cl sl pc ls (.int y :: .int x :: st) := by
  subst hq hv; exact Wk.step (fun hx hby _ _ X _ _ k => iremM X hx (g := mkF _ pc ls (.int y :: .int x :: st)) rfl (hb hby hd) rfl hy k) k
theorem Wk.idiv {x y v : Int32} (hd : decode bytes pc = .ok (.idiv, 1)) (hq : pc + 1 = q) (hy : y ≠ 0) (hv : x / y = v) (k : Wk l Z n0 own nm bytes maxL ret R kc ks Q h cl sl q ls (.int v :: st)) : Wk l Z n0 own nm bytes maxL ret R kc ks Q h cl sl pc ls (.int y :: .int x :: st) := by
  subst hq hv; exact Wk.step (fun hx hby _ _ X _ _ k => XS.idiv X.here hx rfl (hb hby hd) rfl hy k) k
theorem Wk.i2b {x v : Int32} (hd : decode bytes pc = .ok (.i2b, 1)) (hq : pc + 1 = q) (hv : x.toInt8.toInt32 = v) (k : Wk l Z n0 own nm bytes maxL ret R kc ks Q h cl sl q ls (.int v :: st)) : Wk l Z n0 own nm bytes maxL ret R kc ks Q h cl sl pc ls (.int x :: st) := by
  subst hq hv; exact Wk.step (fun hx hby _ _ X _ _ k => XT.i2b X.here hx rfl (hb hby hd) rfl k) k
theorem Wk.i2s {x v : Int32} (hd : decode bytes pc = .ok (.i2s, 1)) (hq : pc + 1 = q) (hv : x.toInt16.toInt32 = v) (k : Wk l Z n0 own nm bytes maxL ret R kc ks Q h cl sl q ls (.int v :: st)) : Wk l Z n0 own nm bytes maxL ret R kc ks Q h cl sl pc ls (.int x :: st) := by
  subst hq hv; exact Wk.step (fun hx hby _ _ X _ _ k => XT.i2s X.here hx rfl (hb hby hd) rfl k) k
theorem Wk.i2l {x : Int32} {v : Int64} (hd : decode bytes pc = .ok (.i2l, 1)) (hq : pc + 1 = q) (hv : x.toInt64 = v) (k : Wk l Z n0 own nm bytes maxL ret R kc ks Q h cl sl q ls (.long v :: st)) : Wk l Z n0 own nm bytes maxL ret R kc ks Q h cl sl pc ls (.int x :: st) := by
  subst hq hv; exact Wk.step (fun hx hby _ _ X _ _ k => XT.i2l X.here hx rfl (hb hby hd) rfl k) k
theorem Wk.l2i {x : Int64} {v : Int32} (hd : decode bytes pc = .ok (.l2i, 1)) (hq : pc + 1 = q) (hv : x.toInt32 = v) (k : Wk l Z n0 own nm bytes maxL ret R kc ks Q h cl sl q ls (.int v :: st)) : Wk l Z n0 own nm bytes maxL ret R kc ks Q h cl sl pc ls (.long x :: st) := by
  subst hq hv; exact Wk.step (fun hx hby _ _ X _ _ k => XT.l2i X.here hx rfl (hb hby hd) rfl k) k
theorem Wk.ladd {x y v : Int64} (hd : decode bytes pc = .ok (.ladd, 1)) (hq : pc + 1 = q) (hv : x + y = v) (k : Wk l Z n0 own nm bytes maxL ret R kc ks Q h cl sl q ls (.long v :: st)) : Wk l Z n0 own nm bytes maxL ret R kc ks Q h cl sl pc ls (.long y :: .long x :: st) := by
  subst hq hv; exact Wk.step (fun hx hby _ _ X _ _ k => XT.ladd X.here hx rfl (hb hby hd) rfl k) k
theorem Wk.lsub {x y v : Int64} (hd : decode bytes pc = .ok (.lsub, 1)) (hq : pc + 1 = q) (hv : x - y = v) (k : Wk l Z n0 own nm bytes maxL ret R kc ks Q h cl sl q ls (.long v :: st)) : Wk l Z n0 own nm bytes maxL ret R kc ks Q h cl sl pc ls (.long y :: .long x :: st) := by
  subst hq hv; exact Wk.step (fun hx hby _ _ X _ _ k => XT.lsub X.here hx rfl (hb hby hd) rfl k) k
theorem Wk.lmul {x y v : Int64} (hd : decode bytes pc = .ok (.lmul, 1)) (hq : pc + 1 = q) (hv : x * y = v) (k : Wk l Z n0 own nm bytes maxL ret R kc ks Q h cl sl q ls (.long v :: st)) : Wk l Z n0 own nm bytes maxL ret R kc ks Q h cl sl pc ls (.long y :: .long x :: st) := by
  subst hq hv; exact Wk.step (fun hx hby _ _ X _ _ k => XT.lmul X.here hx rfl (hb hby hd) rfl k) k
theorem Wk.lneg {x v : Int64} (hd : decode bytes pc = .ok (.lneg, 1)) (hq : pc + 1 = q) (hv : -x = v) (k : Wk l Z n0 own nm bytes maxL ret R kc ks Q h cl sl q ls (.long v :: st)) : Wk l Z n0 own nm bytes maxL ret R kc ks Q h cl sl pc ls (.long x :: st) := by
  subst hq hv; exact Wk.step (fun hx hby _ _ X _ _ k => XT.lneg X.here hx rfl (hb hby hd) rfl k) k
theorem Wk.lcmp {x y : Int64} {v : Int32} (hd : decode bytes pc = .ok (.lcmp, 1)) (hq : pc + 1 = q) (hv : XT.cmpL x y = v) (k : Wk l Z n0 own nm bytes maxL ret R kc ks Q h cl sl q ls (.int v :: st)) : Wk l Z n0 own nm bytes maxL ret R kc ks Q h cl sl pc ls (.long y :: .long x :: st) := by
  subst hq hv; exact Wk.step (fun hx hby _ _ X _ _ k => XT.lcmp X.here hx rfl (hb hby hd) rfl k) k
theorem Wk.iinc {i : Nat} {cst : Int} {x v : Int32} (hd : decode bytes pc = .ok (.iinc i cst, 3)) (hq : pc + 3 = q) (hl : ls[i]? = some (.val (.int x))) (hv : x + Int32.ofInt cst = v) (hl' : storeLocals ls i (.int v) = some ls') (k : Wk l Z n0 own nm bytes maxL ret R kc ks Q h cl sl q ls' st) : Wk l Z n0 own nm bytes maxL ret R kc ks Q h cl sl pc ls st := by
  subst hq hv; exact Wk.step (fun hx hby _ _ X _ _ k => XS.iinc X.here hx rfl (hb hby hd) hl hl' k) k
theorem Wk.dup {x : Value} (hd : decode bytes pc = .ok (.dup, 1)) (hq : pc + 1 = q) (hc : x.category = 1) (k : Wk l Z n0 own nm bytes maxL ret R kc ks Q h cl sl q ls (x :: x :: st)) : Wk l Z n0 own nm bytes maxL ret R kc ks Q h cl sl pc ls (x :: st) := by
  subst hq; exact Wk.step (fun hx hby _ _ X _ _ k => XS.dup X.here hx rfl (hb hby hd) rfl hc k) k
theorem Wk.dupX1 {x y : Value} (hd : decode bytes pc = .ok (.dup_x1, 1)) (hq : pc + 1 = q) (hc : x.category = 1) (hc' : y.category = 1) (k : Wk l Z n0 own nm bytes maxL ret R kc ks Q h cl sl q ls (x :: y :: x :: st)) : Wk l Z n0 own nm bytes maxL ret R kc ks Q h cl sl pc ls (x :: y :: st) := by
  subst hq; exact Wk.step (fun hx hby _ _ X _ _ k => XT.dupX1 X.here hx rfl (hb hby hd) rfl hc hc' k) k
theorem Wk.pop {x : Value} (hd : decode bytes pc = .ok (.pop, 1)) (hq : pc + 1 = q) (hc : x.category = 1) (k : Wk l Z n0 own nm bytes maxL ret R kc ks Q h cl sl q ls st) : Wk l Z n0 own nm bytes maxL ret R kc ks Q h cl sl pc ls (x :: st) := by
  subst hq; exact Wk.step (fun hx hby _ _ X _ _ k => XT.pop X.here hx rfl (hb hby hd) rfl hc k) k
theorem Wk.goto {o : Int} (hd : decode bytes pc = .ok (.goto o, 3)) (ho : 0 ≤ (pc : Int) + o) (hp : ((pc : Int) + o).toNat = q) (k : Wk l Z n0 own nm bytes maxL ret R kc ks Q h cl sl q ls st) : Wk l Z n0 own nm bytes maxL ret R kc ks Q h cl sl pc ls st :=
  Wk.step (fun hx hby _ _ X _ _ k => XS.goto X.here hx rfl rfl (hb hby hd) ho hp k) k
theorem Wk.icmpT {cd : ClassFile.Cond} {o : Int} {x y : Int32} (hd : decode bytes pc = .ok (.if_icmp cd o, 3)) (ho : 0 ≤ (pc : Int) + o) (hp : ((pc : Int) + o).toNat = q) (hc : icP cd x y) (k : Wk l Z n0 own nm bytes maxL ret R kc ks Q h cl sl q ls st) : Wk l Z n0 own nm bytes maxL ret R kc ks Q h cl sl pc ls (.int y :: .int x :: st) :=
  Wk.step (fun hx hby _ _ X _ _ k => XS.icmpYes X.here hx rfl rfl (hb hby hd) rfl (ic_t hc) ho hp k) k
theorem Wk.icmpF {cd : ClassFile.Cond} {o : Int} {x y : Int32} (hd : decode bytes pc = .ok (.if_icmp cd o, 3)) (hq : pc + 3 = q) (hc : icN cd x y) (k : Wk l Z n0 own nm bytes maxL ret R kc ks Q h cl sl q ls st) : Wk l Z n0 own nm bytes maxL ret R kc ks Q h cl sl pc ls (.int y :: .int x :: st) := by
  subst hq; exact Wk.step (fun hx hby _ _ X _ _ k => XS.icmpNo X.here hx rfl (hb hby hd) rfl (ic_f hc) k) k
theorem Wk.icmp {cd : ClassFile.Cond} {o : Int} {x y : Int32} {q' : Nat} (hd : decode bytes pc = .ok (.if_icmp cd o, 3)) (ho : 0 ≤ (pc : Int) + o) (hp : ((pc : Int) + o).toNat = q) (hq : pc + 3 = q') (kT : icP cd x y → Wk l Z n0 own nm bytes maxL ret R kc ks Q h cl sl q ls st) (kF : icN cd x y → Wk l Z n0 own nm bytes maxL ret R kc ks Q h cl sl q' ls st) : Wk l Z n0 own nm bytes maxL ret R kc ks Q h cl sl pc ls (.int y :: .int x :: st) :=
  (ic_or cd x y).elim (fun z => Wk.icmpT hd ho hp z (kT z)) (fun z => Wk.icmpF hd hq z (kF z))
theorem Wk.ifcT {cd : ClassFile.Cond} {o : Int} {x : Int32} (hd : decode bytes pc = .ok (.ifCond cd o, 3)) (ho : 0 ≤ (pc : Int) + o) (hp : ((pc : Int) + o).toNat = q) (hc : icP cd x 0) (k : Wk l Z n0 own nm bytes maxL ret R kc ks Q h cl sl q ls st) : Wk l Z n0 own nm bytes maxL ret R kc ks Q h cl sl pc ls (.int x :: st) :=
  Wk.step (fun hx hby _ _ X _ _ k => XS.ifYes X.here hx rfl rfl (hb hby hd) rfl ((if0 cd x).trans (ic_t hc)) ho hp k) k
theorem Wk.ifcF {cd : ClassFile.Cond} {o : Int} {x : Int32} (hd : decode bytes pc = .ok (.ifCond cd o, 3)) (hq : pc + 3 = q) (hc : icN cd x 0) (k : Wk l Z n0 own nm bytes maxL ret R kc ks Q h cl sl q ls st) : Wk l Z n0 own nm bytes maxL ret R kc ks Q h cl sl pc ls (.int x :: st) := by
  subst hq; exact Wk.step (fun hx hby _ _ X _ _ k => XS.ifNo X.here hx rfl (hb hby hd) rfl ((if0 cd x).trans (ic_f hc)) k) k
theorem Wk.ifc {cd : ClassFile.Cond} {o : Int} {x : Int32} {q' : Nat} (hd : decode bytes pc = .ok (.ifCond cd o, 3)) (ho : 0 ≤ (pc : Int) + o) (hp : ((pc : Int) + o).toNat = q) (hq : pc + 3 = q') (kT : icP cd x 0 → Wk l Z n0 own nm bytes maxL ret R kc ks Q h cl sl q ls st) (kF : icN cd x 0 → Wk l Z n0 own nm bytes maxL ret R kc ks Q h cl sl q' ls st) : Wk l Z n0 own nm bytes maxL ret R kc ks Q h cl sl pc ls (.int x :: st) :=
  (ic_or cd x 0).elim (fun z => Wk.ifcT hd ho hp z (kT z)) (fun z => Wk.ifcF hd hq z (kF z))
theorem Wk.acmpT {cd : ACond} {o : Int} {x y : Value} (hd : decode bytes pc = .ok (.if_acmp cd o, 3)) (ho : 0 ≤ (pc : Int) + o) (hp : ((pc : Int) + o).toNat = q) (hx' : x.isRef = true) (hy' : y.isRef = true) (hc : acP cd x y) (k : Wk l Z n0 own nm bytes maxL ret R kc ks Q h cl sl q ls st) : Wk l Z n0 own nm bytes maxL ret R kc ks Q h cl sl pc ls (y :: x :: st) :=
  Wk.step (fun hx hby _ _ X _ _ k => XT.acmpYes X.here hx rfl rfl (hb hby hd) rfl hx' hy' (ac_t hc) ho hp k) k
theorem Wk.acmpF {cd : ACond} {o : Int} {x y : Value} (hd : decode bytes pc = .ok (.if_acmp cd o, 3)) (hq : pc + 3 = q) (hx' : x.isRef = true) (hy' : y.isRef = true) (hc : acN cd x y) (k : Wk l Z n0 own nm bytes maxL ret R kc ks Q h cl sl q ls st) : Wk l Z n0 own nm bytes maxL ret R kc ks Q h cl sl pc ls (y :: x :: st) := by
  subst hq; exact Wk.step (fun hx hby _ _ X _ _ k => XT.acmpNo X.here hx rfl (hb hby hd) rfl hx' hy' (ac_f hc) k) k
theorem Wk.acmp {cd : ACond} {o : Int} {x y : Value} {q' : Nat} (hd : decode bytes pc = .ok (.if_acmp cd o, 3)) (ho : 0 ≤ (pc : Int) + o) (hp : ((pc : Int) + o).toNat = q) (hq : pc + 3 = q') (hx' : x.isRef = true) (hy' : y.isRef = true) (kT : acP cd x y → Wk l Z n0 own nm bytes maxL ret R kc ks Q h cl sl q ls st) (kF : acN cd x y → Wk l Z n0 own nm bytes maxL ret R kc ks Q h cl sl q' ls st) : Wk l Z n0 own nm bytes maxL ret R kc ks Q h cl sl pc ls (y :: x :: st) :=
  (ac_or cd x y).elim (fun z => Wk.acmpT hd ho hp hx' hy' z (kT z)) (fun z => Wk.acmpF hd hq hx' hy' z (kF z))
theorem Wk.ifnullT {o : Int} (hd : decode bytes pc = .ok (.ifnull o, 3)) (ho : 0 ≤ (pc : Int) + o) (hp : ((pc : Int) + o).toNat = q) (k : Wk l Z n0 own nm bytes maxL ret R kc ks Q h cl sl q ls st) : Wk l Z n0 own nm bytes maxL ret R kc ks Q h cl sl pc ls (.null :: st) :=
  Wk.step (fun hx hby _ _ X _ _ k => XS.ifnullYes X.here hx rfl rfl (hb hby hd) rfl ho hp k) k
theorem Wk.ifnullF {o : Int} {b : Addr} (hd : decode bytes pc = .ok (.ifnull o, 3)) (hq : pc + 3 = q) (k : Wk l Z n0 own nm bytes maxL ret R kc ks Q h cl sl q ls st) : Wk l Z n0 own nm bytes maxL ret R kc ks Q h cl sl pc ls (.ref b :: st) := by
  subst hq; exact Wk.step (fun hx hby _ _ X _ _ k => XS.ifnullNo X.here hx rfl (hb hby hd) rfl k) k
theorem Wk.ifnonnullT {o : Int} {b : Addr} (hd : decode bytes pc = .ok (.ifnonnull o, 3)) (ho : 0 ≤ (pc : Int) + o) (hp : ((pc : Int) + o).toNat = q) (k : Wk l Z n0 own nm bytes maxL ret R kc ks Q h cl sl q ls st) : Wk l Z n0 own nm bytes maxL ret R kc ks Q h cl sl pc ls (.ref b :: st) :=
  Wk.step (fun hx hby _ _ X _ _ k => XT.ifnonnullYes X.here hx rfl rfl (hb hby hd) rfl ho hp k) k
theorem Wk.ifnonnullF {o : Int} (hd : decode bytes pc = .ok (.ifnonnull o, 3)) (hq : pc + 3 = q) (k : Wk l Z n0 own nm bytes maxL ret R kc ks Q h cl sl q ls st) : Wk l Z n0 own nm bytes maxL ret R kc ks Q h cl sl pc ls (.null :: st) := by
  subst hq; exact Wk.step (fun hx hby _ _ X _ _ k => XT.ifnonnullNo X.here hx rfl (hb hby hd) rfl k) k
theorem Wk.tsw {dflt low high : Int} {offs : Array Int} {len : Nat} {o : Int} {i : Int32} (hd : decode bytes pc = .ok (.tableswitch dflt low high offs, len)) (hin : ¬ (i.toInt < low ∨ i.toInt > high)) (hoff : offs[(i.toInt - low).toNat]? = some o) (ho : 0 ≤ (pc : Int) + o) (hp : ((pc : Int) + o).toNat = q) (k : Wk l Z n0 own nm bytes maxL ret R kc ks Q h cl sl q ls st) : Wk l Z n0 own nm bytes maxL ret R kc ks Q h cl sl pc ls (.int i :: st) :=
  Wk.step (fun hx hby _ _ X _ _ k => XS.tswIn X.here hx rfl rfl (hb hby hd) rfl hin hoff ho hp k) k
theorem Wk.getS {O n d R0 : String} {i : Nat} {v : Value} (w : (Jvm.Cond.fieldLink own i R0 n d).before a0 Z = true) (via : Via Z R0 O n d) (F : Sta Z h O n d v) (hd : decode bytes pc = .ok (.getstatic i, 3)) (hq : pc + 3 = q) (k : Wk l Z n0 own nm bytes maxL ret R kc ks Q h cl sl q ls (v :: st)) : Wk l Z n0 own nm bytes maxL ret R kc ks Q h cl sl pc ls st := by
  subst hq; exact Wk.stepW (fun hx hby hown hZ X eT => RoadKit.getS (host := "") X hx hZ hown w via eT F (g := mkF _ pc ls st) rfl (hb hby hd)) k
theorem Wk.getF {O n d R0 : String} {i : Nat} {a : Addr} {v : Value} (w : (Jvm.Cond.fieldLink own i R0 n d).before a0 Z = true) (via : Via Z R0 O n d) (F : Fld Z h a O n d v) (hd : decode bytes pc = .ok (.getfield i, 3)) (hq : pc + 3 = q) (k : Wk l Z n0 own nm bytes maxL ret R kc ks Q h cl sl q ls (v :: st)) : Wk l Z n0 own nm bytes maxL ret R kc ks Q h cl sl pc ls (.ref a :: st) := by
  subst hq; exact Wk.stepW (fun hx hby hown hZ X eT => RoadKit.getF (host := "") X hx hZ hown (Or.inl w) via eT F (g := mkF _ pc ls (.ref a :: st)) rfl rfl (hb hby hd)) k
theorem Wk.alen {a : Addr} {c0 : Cell} {ty : FieldType} {v : Int32} (A : Arr Z h a c0 ty) (hv : c0.slots.size.toInt32 = v) (hd : decode bytes pc = .ok (.arraylength, 1)) (hq : pc + 1 = q) (k : Wk l Z n0 own nm bytes maxL ret R kc ks Q h cl sl q ls (.int v :: st)) : Wk l Z n0 own nm bytes maxL ret R kc ks Q h cl sl pc ls (.ref a :: st) := by
  subst hq hv; exact Wk.step (fun hx hby _ hZ X eT t k => X.arraylength hx (by rw [eT]; exact A.1) (State.isArrayOf_alike hZ.alike A.2.1) (g := mkF _ pc ls (.ref a :: st)) rfl rfl (hb hby hd) t k) k
theorem Wk.aaload {a : Addr} {c0 : Cell} {ty : FieldType} {j : Int32} {v : Value} (A : Arr Z h a c0 ty) (hty : ty.isReference = true) (hin : ¬ (j < 0 ∨ c0.slots.size ≤ j.toNatClampNeg)) (hv : c0.slots[j.toNatClampNeg]? = some v) (hd : decode bytes pc = .ok (.aaload, 1)) (hq : pc + 1 = q) (k : Wk l Z n0 own nm bytes maxL ret R kc ks Q h cl sl q ls (v :: st)) : Wk l Z n0 own nm bytes maxL ret R kc ks Q h cl sl pc ls (.int j :: .ref a :: st) := by
  subst hq; exact Wk.step (fun hx hby _ hZ X eT t k => X.aaload hx (by rw [eT]; exact A.1) (State.isArrayOf_alike hZ.alike A.2.1) hty A.2.2 hin hv (g := mkF _ pc ls (.int j :: .ref a :: st)) rfl rfl (hb hby hd) t k) k
theorem Wk.baloadB {a : Addr} {c0 : Cell} {j : Int32} {v : Value} (A : Arr Z h a c0 .byte) (hin : ¬ (j < 0 ∨ c0.slots.size ≤ j.toNatClampNeg)) (hv : c0.slots[j.toNatClampNeg]? = some v) (hd : decode bytes pc = .ok (.baload, 1)) (hq : pc + 1 = q) (k : Wk l Z n0 own nm bytes maxL ret R kc ks Q h cl sl q ls (v :: st)) : Wk l Z n0 own nm bytes maxL ret R kc ks Q h cl sl pc ls (.int j :: .ref a :: st) := by
  subst hq; exact Wk.step (fun hx hby _ hZ X eT t k => X.baloadBytes hx (by rw [eT]; exact A.1) (State.isArrayOf_alike hZ.alike A.2.1) A.2.2 hin hv (g := mkF _ pc ls (.int j :: .ref a :: st)) rfl rfl (hb hby hd) t k) k
theorem Wk.baloadZ {a : Addr} {c0 : Cell} {j : Int32} {v : Value} (A : Arr Z h a c0 .boolean) (hin : ¬ (j < 0 ∨ c0.slots.size ≤ j.toNatClampNeg)) (hv : c0.slots[j.toNatClampNeg]? = some v) (hd : decode bytes pc = .ok (.baload, 1)) (hq : pc + 1 = q) (k : Wk l Z n0 own nm bytes maxL ret R kc ks Q h cl sl q ls (v :: st)) : Wk l Z n0 own nm bytes maxL ret R kc ks Q h cl sl pc ls (.int j :: .ref a :: st) := by
  subst hq; exact Wk.step (fun hx hby _ hZ X eT t k => X.baloadBooleans hx (by rw [eT]; exact A.1) (State.isArrayOf_alike hZ.alike A.2.1) A.2.2 hin hv (g := mkF _ pc ls (.int j :: .ref a :: st)) rfl rfl (hb hby hd) t k) k
theorem Wk.retG {w : Value} {t : FieldType} {i : Instr} (hret : ret = some t) (hn : narrow t w = w)
    (hi : (i = .ireturn ∧ (t = .int ∨ t = .boolean ∨ t = .byte ∨ t = .char ∨ t = .short) ∧ ∃ z, w = .int z) ∨ (i = .lreturn ∧ t = .long ∧ ∃ z, w = .long z) ∨ (i = .dreturn ∧ t = .double ∧ ∃ z, w = .double z) ∨ (i = .freturn ∧ t = .float ∧ ∃ z, w = .float z) ∨ (i = .areturn ∧ t.isReference = true ∧ w.isRef = true))
    (hd : decode bytes pc = .ok (i, 1)) (hc : cl ≤ kc) (hs : sl ≤ ks) (hQ : Q (some w) h) : Wk l Z n0 own nm bytes maxL ret R kc ks Q h cl sl pc ls (w :: st) := by
  intro p e s m args below meth c T locs hx hby hml hown hnm hr hlk hZ X eT N
  obtain ⟨fs, hr', hrun, hended, hW, hsame⟩ := X.leave (v := some w) (fun q => by rw [hr, hret] at q; cases q) hlk
  exact ⟨_, _, RoadKit.retOut X hx (hr.trans hret) hn hi (hb hby hd) hr', hrun, hended, _, _, rfl, ⟨N, by show Q _ T.heap; rw [eT]; exact hQ⟩, ⟨_, rfl⟩, hW, hsame.mono hc hs⟩
theorem Wk.retI {z : Int32} (hret : ret = some .int) (hd : decode bytes pc = .ok (.ireturn, 1)) (hc : cl ≤ kc) (hs : sl ≤ ks) (hQ : Q (some (.int z)) h) : Wk l Z n0 own nm bytes maxL ret R kc ks Q h cl sl pc ls (.int z :: st) :=
  Wk.retG hret rfl (Or.inl ⟨rfl, Or.inl rfl, z, rfl⟩) hd hc hs hQ
theorem Wk.retZ {z : Int32} (hret : ret = some .boolean) (hz : narrow .boolean (.int z) = .int z) (hd : decode bytes pc = .ok (.ireturn, 1)) (hc : cl ≤ kc) (hs : sl ≤ ks) (hQ : Q (some (.int z)) h) : Wk l Z n0 own nm bytes maxL ret R kc ks Q h cl sl pc ls (.int z :: st) :=
  Wk.retG hret hz (Or.inl ⟨rfl, Or.inr (Or.inl rfl), z, rfl⟩) hd hc hs hQ
theorem Wk.retB {z : Int32} (hret : ret = some .byte) (hz : narrow .byte (.int z) = .int z) (hd : decode bytes pc = .ok (.ireturn, 1)) (hc : cl ≤ kc) (hs : sl ≤ ks) (hQ : Q (some (.int z)) h) : Wk l Z n0 own nm bytes maxL ret R kc ks Q h cl sl pc ls (.int z :: st) :=
  Wk.retG hret hz (Or.inl ⟨rfl, Or.inr (Or.inr (Or.inl rfl)), z, rfl⟩) hd hc hs hQ
theorem Wk.retL {z : Int64} (hret : ret = some .long) (hd : decode bytes pc = .ok (.lreturn, 1)) (hc : cl ≤ kc) (hs : sl ≤ ks) (hQ : Q (some (.long z)) h) : Wk l Z n0 own nm bytes maxL ret R kc ks Q h cl sl pc ls (.long z :: st) :=
  Wk.retG hret rfl (Or.inr (Or.inl ⟨rfl, rfl, z, rfl⟩)) hd hc hs hQ
theorem own_narR {t : FieldType} {w : Value} (h1 : t.isReference = true) (h2 : w.isRef = true) : narrow t w = w := by
  cases t <;> cases w <;> first | rfl | (simp [FieldType.isReference] at h1; done) | (simp [Value.isRef] at h2; done)
theorem Wk.retA {w : Value} {t : FieldType} (hret : ret = some t) (ht : t.isReference = true) (hw : w.isRef = true) (hd : decode bytes pc = .ok (.areturn, 1)) (hc : cl ≤ kc) (hs : sl ≤ ks) (hQ : Q (some w) h) : Wk l Z n0 own nm bytes maxL ret R kc ks Q h cl sl pc ls (w :: st) :=
  Wk.retG hret (own_narR ht hw) (Or.inr (Or.inr (Or.inr (Or.inr ⟨rfl, ht, hw⟩)))) hd hc hs hQ
theorem Wk.retV (hret : ret = none) (hd : decode bytes pc = .ok (.return_, 1)) (hc : cl ≤ kc) (hs : sl ≤ ks) (hQ : Q none h) : Wk l Z n0 own nm bytes maxL ret R kc ks Q h cl sl pc ls [] := by
  intro p e s m args below meth c T locs hx hby hml hown hnm hr hlk hZ X eT N
  obtain ⟨fs, hr', hrun, hended, hW, hsame⟩ := X.leave (v := none) (fun _ => rfl) hlk
  exact ⟨_, _, X.returnOut hx (hr.trans hret) (hb hby hd) hr', hrun, hended, _, _, rfl, ⟨N, by show Q _ T.heap; rw [eT]; exact hQ⟩, ⟨_, rfl⟩, hW, hsame.mono hc hs⟩
theorem Wk.callS {i : Nat} {y : MethodName} {by' : ByteArray} {mL : Nat} {rt : Option FieldType} {rm : Room} {argsL rest : List Value} {Q' : Value → Heap → Prop} {ps : List FieldType} {r' : Option FieldType}
    (hM : Met l Z n0 y by' mL rt rm argsL.toArray h (fun v h' => ∃ w, v = some w ∧ Q' w h'))
    (w1 : (Jvm.Cond.methodLink own i y).before a0 Z = true) (w2 : (Jvm.Cond.static y).before a0 Z = true) (w3 : (Jvm.Cond.initialized y.cls).before a0 Z = true) (w4 : (Jvm.Cond.code y by' mL rt).before a0 Z = true) (hy : y.cls ≠ "java/lang/invoke/MethodHandle" ∧ y.cls ≠ "java/lang/invoke/VarHandle")
    (hds : parseMethodDescriptor y.desc = some ⟨ps, r'⟩) (hln : argsL.length = ps.length) (hst : st = argsL.reverse ++ rest) (hls : ls.size = maxL) (hd : decode bytes pc = .ok (.invokestatic i, 3)) (hq : pc + 3 = q)
    {W : Nat} (hW : (rest.map fun v => v.category).sum = W) (hf : rm.frames + 1 ≤ R.frames) (hlo : W + (mL + 11) + rm.locals ≤ R.locals) (hce : cl + rm.cells ≤ R.cells) (hsl : sl + rm.slots ≤ R.slots)
    (k : ∀ w h', Q' w h' → Wk l Z n0 own nm bytes maxL ret R kc ks Q h' (cl + rm.cells) (sl + rm.slots) q ls (w :: rest)) : Wk l Z n0 own nm bytes maxL ret R kc ks Q h cl sl pc ls st := by
  subst hq hst hW
  intro p e s m args below meth c T locs hx hby hml hown hnm hr hlk hZ X eT N
  obtain ⟨v, _, ⟨T', L', k', n'⟩, -, X', ⟨Lc, ⟨N', hQ⟩, l', y', z'⟩, stp⟩ := Jvm.LawKit.callS X hx (y := y) hown (mvT hZ w1) (mvT hZ w2) (mvT hZ w3) (mvT hZ w4) hy (backOf (W := (rest.map fun v => v.category).sum) (Q := fun v h' L => Fr n0 L ∧ (fun v h' => ∃ w, v = some w ∧ Q' w h') v h') (hM []) hZ w4 w3 hf hlo) (g := mkF m pc ls (argsL.reverse ++ rest)) rfl (by rw [hml]; exact hls) (argsL := argsL) (rest := rest) (lenOf hds hln) rfl (by show 2 * 0 + _ ≤ _; omega) (hb hby hd) (fun _ _ => ⟨rfl, eT, hce, hsl⟩)
  dsimp only [Pt.U, Pt.locs, Pt.cells, Pt.slots] at X' l' y' z' stp hQ
  subst l' y' z'
  obtain ⟨w, rfl, hQ⟩ := hQ
  obtain ⟨s₂, o, h1, r⟩ := k w T'.heap hQ p e s m args below meth c T' _ hx hby hml hown hnm hr hlk hZ X' rfl (Fr.app N N')
  exact ⟨s₂, o, stp _ h1, r⟩
theorem Wk.callS1 {i : Nat} {y : MethodName} {by' : ByteArray} {mL : Nat} {rt : Option FieldType} {fr lo : Nat} {argsL rest : List Value} {v0 : Value} {ps : List FieldType} {r' : Option FieldType}
    (hM : Met l Z n0 y by' mL rt ⟨fr, 0, 0, lo⟩ argsL.toArray h (fun v h' => v = some v0 ∧ h' = h))
    (w1 : (Jvm.Cond.methodLink own i y).before a0 Z = true) (w2 : (Jvm.Cond.static y).before a0 Z = true) (w3 : (Jvm.Cond.initialized y.cls).before a0 Z = true) (w4 : (Jvm.Cond.code y by' mL rt).before a0 Z = true) (hy : y.cls ≠ "java/lang/invoke/MethodHandle" ∧ y.cls ≠ "java/lang/invoke/VarHandle")
    (hds : parseMethodDescriptor y.desc = some ⟨ps, r'⟩) (hln : argsL.length = ps.length) (hst : st = argsL.reverse ++ rest) (hls : ls.size = maxL) (hd : decode bytes pc = .ok (.invokestatic i, 3)) (hq : pc + 3 = q)
    {W : Nat} (hW : (rest.map fun v => v.category).sum = W) (hf : fr + 1 ≤ R.frames) (hlo : W + (mL + 11) + lo ≤ R.locals) (hce : cl ≤ R.cells) (hsl : sl ≤ R.slots)
    (k : Wk l Z n0 own nm bytes maxL ret R kc ks Q h cl sl q ls (v0 :: rest)) : Wk l Z n0 own nm bytes maxL ret R kc ks Q h cl sl pc ls st :=
  Wk.callS (Q' := fun w h' => w = v0 ∧ h' = h) (rm := ⟨fr, 0, 0, lo⟩) (hM.mono fun v h' z => ⟨v0, z.1, rfl, z.2⟩) w1 w2 w3 w4 hy hds hln hst hls hd hq hW hf hlo hce hsl (fun w h' z => by obtain ⟨rfl, rfl⟩ := z; exact k)
theorem Wk.callS0 {i : Nat} {y : MethodName} {by' : ByteArray} {mL : Nat} {rt : Option FieldType} {rm : Room} {argsL rest : List Value} {Q' : Heap → Prop} {ps : List FieldType} {r' : Option FieldType}
    (hM : Met l Z n0 y by' mL rt rm argsL.toArray h (fun v h' => v = none ∧ Q' h'))
    (w1 : (Jvm.Cond.methodLink own i y).before a0 Z = true) (w2 : (Jvm.Cond.static y).before a0 Z = true) (w3 : (Jvm.Cond.initialized y.cls).before a0 Z = true) (w4 : (Jvm.Cond.code y by' mL rt).before a0 Z = true) (hy : y.cls ≠ "java/lang/invoke/MethodHandle" ∧ y.cls ≠ "java/lang/invoke/VarHandle")
    (hds : parseMethodDescriptor y.desc = some ⟨ps, r'⟩) (hln : argsL.length = ps.length) (hst : st = argsL.reverse ++ rest) (hls : ls.size = maxL) (hd : decode bytes pc = .ok (.invokestatic i, 3)) (hq : pc + 3 = q)
    {W : Nat} (hW : (rest.map fun v => v.category).sum = W) (hf : rm.frames + 1 ≤ R.frames) (hlo : W + (mL + 11) + rm.locals ≤ R.locals) (hce : cl + rm.cells ≤ R.cells) (hsl : sl + rm.slots ≤ R.slots)
    (k : ∀ h', Q' h' → Wk l Z n0 own nm bytes maxL ret R kc ks Q h' (cl + rm.cells) (sl + rm.slots) q ls rest) : Wk l Z n0 own nm bytes maxL ret R kc ks Q h cl sl pc ls st := by
  subst hq hst hW
  intro p e s m args below meth c T locs hx hby hml hown hnm hr hlk hZ X eT N
  obtain ⟨v, _, ⟨T', L', k', n'⟩, -, X', ⟨Lc, ⟨N', hQ⟩, l', y', z'⟩, stp⟩ := Jvm.LawKit.callS X hx (y := y) hown (mvT hZ w1) (mvT hZ w2) (mvT hZ w3) (mvT hZ w4) hy (backOf (W := (rest.map fun v => v.category).sum) (Q := fun v h' L => Fr n0 L ∧ (fun v h' => v = none ∧ Q' h') v h') (hM []) hZ w4 w3 hf hlo) (g := mkF m pc ls (argsL.reverse ++ rest)) rfl (by rw [hml]; exact hls) (argsL := argsL) (rest := rest) (lenOf hds hln) rfl (by show 2 * 0 + _ ≤ _; omega) (hb hby hd) (fun _ _ => ⟨rfl, eT, hce, hsl⟩)
  dsimp only [Pt.U, Pt.locs, Pt.cells, Pt.slots] at X' l' y' z' stp hQ
  subst l' y' z'
  obtain ⟨rfl, hQ⟩ := hQ
  obtain ⟨s₂, o, h1, r⟩ := k T'.heap hQ p e s m args below meth c T' _ hx hby hml hown hnm hr hlk hZ X' rfl (Fr.app N N')
  exact ⟨s₂, o, stp _ h1, r⟩
theorem Wk.callV {i : Nat} {C : String} {y : MethodName} {by' : ByteArray} {mL : Nat} {rt : Option FieldType} {rm : Room} {a : Addr} {argsL rest : List Value} {Q' : Value → Heap → Prop} {ps : List FieldType} {r' : Option FieldType}
    (hM : Met l Z n0 y by' mL rt rm (.ref a :: argsL).toArray h (fun v h' => ∃ w, v = some w ∧ Q' w h')) (E : Exa Z h a C)
    (w1 : (Jvm.Cond.methodLink own i y).before a0 Z = true) (w2 : (Jvm.Cond.declares y).before a0 Z = true) (w3 : (Jvm.Cond.selects C y y).before a0 Z = true) (w4 : (Jvm.Cond.instanceMethod y).before a0 Z = true) (w5 : (Jvm.Cond.code y by' mL rt).before a0 Z = true) (w6 : (Jvm.Cond.initialized y.cls).before a0 Z = true) (hy : y.cls ≠ "java/lang/invoke/MethodHandle" ∧ y.cls ≠ "java/lang/invoke/VarHandle")
    (hds : parseMethodDescriptor y.desc = some ⟨ps, r'⟩) (hln : argsL.length = ps.length) (hst : st = argsL.reverse ++ .ref a :: rest) (hls : ls.size = maxL) (hd : decode bytes pc = .ok (.invokevirtual i, 3)) (hq : pc + 3 = q)
    {W : Nat} (hW : (rest.map fun v => v.category).sum = W) (hf : rm.frames + 1 ≤ R.frames) (hlo : W + (mL + 11) + rm.locals ≤ R.locals) (hce : cl + rm.cells ≤ R.cells) (hsl : sl + rm.slots ≤ R.slots)
    (k : ∀ w h', Q' w h' → Wk l Z n0 own nm bytes maxL ret R kc ks Q h' (cl + rm.cells) (sl + rm.slots) q ls (w :: rest)) : Wk l Z n0 own nm bytes maxL ret R kc ks Q h cl sl pc ls st := by
  subst hq hst hW
  intro p e s m args below meth c T locs hx hby hml hown hnm hr hlk hZ X eT N
  obtain ⟨cq, kq, q1, q2, q3⟩ := isOf hZ eT E
  obtain ⟨v, _, ⟨T', L', k', n'⟩, -, X', ⟨Lc, ⟨N', hQ⟩, l', y', z'⟩, stp⟩ := X.virtualBack hx (y := y) (z := y) hown (mvT hZ w1) (mvT hZ w2) (notFace_of_selects (args := #[]) (mvT hZ w3)) (mvT hZ w3) (mvT hZ w4) hy (backOf (W := (rest.map fun v => v.category).sum) (Q := fun v h' L => Fr n0 L ∧ (fun v h' => ∃ w, v = some w ∧ Q' w h') v h') (hM []) hZ w5 w6 hf hlo) q1 q3 (g := mkF m pc ls (argsL.reverse ++ .ref a :: rest)) rfl (by rw [hml]; exact hls) (Steps.refl _) (argsL := argsL) (rest := rest) (lenOf hds hln) rfl (by show 2 * 0 + _ ≤ _; omega) (hb hby hd) (fun _ _ => ⟨rfl, eT, hce, hsl⟩)
  dsimp only [Pt.U, Pt.locs, Pt.cells, Pt.slots] at X' l' y' z' stp hQ
  subst l' y' z'
  obtain ⟨w, rfl, hQ⟩ := hQ
  obtain ⟨s₂, o, h1, r⟩ := k w T'.heap hQ p e s m args below meth c T' _ hx hby hml hown hnm hr hlk hZ X' rfl (Fr.app N N')
  exact ⟨s₂, o, stp.trans h1, r⟩
theorem Wk.callV1 {i : Nat} {C : String} {y : MethodName} {by' : ByteArray} {mL : Nat} {rt : Option FieldType} {fr lo : Nat} {a : Addr} {argsL rest : List Value} {v0 : Value} {ps : List FieldType} {r' : Option FieldType}
    (hM : Met l Z n0 y by' mL rt ⟨fr, 0, 0, lo⟩ (.ref a :: argsL).toArray h (fun v h' => v = some v0 ∧ h' = h)) (E : Exa Z h a C)
    (w1 : (Jvm.Cond.methodLink own i y).before a0 Z = true) (w2 : (Jvm.Cond.declares y).before a0 Z = true) (w3 : (Jvm.Cond.selects C y y).before a0 Z = true) (w4 : (Jvm.Cond.instanceMethod y).before a0 Z = true) (w5 : (Jvm.Cond.code y by' mL rt).before a0 Z = true) (w6 : (Jvm.Cond.initialized y.cls).before a0 Z = true) (hy : y.cls ≠ "java/lang/invoke/MethodHandle" ∧ y.cls ≠ "java/lang/invoke/VarHandle")
    (hds : parseMethodDescriptor y.desc = some ⟨ps, r'⟩) (hln : argsL.length = ps.length) (hst : st = argsL.reverse ++ .ref a :: rest) (hls : ls.size = maxL) (hd : decode bytes pc = .ok (.invokevirtual i, 3)) (hq : pc + 3 = q)
    {W : Nat} (hW : (rest.map fun v => v.category).sum = W) (hf : fr + 1 ≤ R.frames) (hlo : W + (mL + 11) + lo ≤ R.locals) (hce : cl ≤ R.cells) (hsl : sl ≤ R.slots)
    (k : Wk l Z n0 own nm bytes maxL ret R kc ks Q h cl sl q ls (v0 :: rest)) : Wk l Z n0 own nm bytes maxL ret R kc ks Q h cl sl pc ls st :=
  Wk.callV (Q' := fun w h' => w = v0 ∧ h' = h) (rm := ⟨fr, 0, 0, lo⟩) (hM.mono fun v h' z => ⟨v0, z.1, rfl, z.2⟩) E w1 w2 w3 w4 w5 w6 hy hds hln hst hls hd hq hW hf hlo hce hsl (fun w h' z => by obtain ⟨rfl, rfl⟩ := z; exact k)
theorem Wk.callV0 {i : Nat} {C : String} {y : MethodName} {by' : ByteArray} {mL : Nat} {rt : Option FieldType} {rm : Room} {a : Addr} {argsL rest : List Value} {Q' : Heap → Prop} {ps : List FieldType} {r' : Option FieldType}
    (hM : Met l Z n0 y by' mL rt rm (.ref a :: argsL).toArray h (fun v h' => v = none ∧ Q' h')) (E : Exa Z h a C)
    (w1 : (Jvm.Cond.methodLink own i y).before a0 Z = true) (w2 : (Jvm.Cond.declares y).before a0 Z = true) (w3 : (Jvm.Cond.selects C y y).before a0 Z = true) (w4 : (Jvm.Cond.instanceMethod y).before a0 Z = true) (w5 : (Jvm.Cond.code y by' mL rt).before a0 Z = true) (w6 : (Jvm.Cond.initialized y.cls).before a0 Z = true) (hy : y.cls ≠ "java/lang/invoke/MethodHandle" ∧ y.cls ≠ "java/lang/invoke/VarHandle")
    (hds : parseMethodDescriptor y.desc = some ⟨ps, r'⟩) (hln : argsL.length = ps.length) (hst : st = argsL.reverse ++ .ref a :: rest) (hls : ls.size = maxL) (hd : decode bytes pc = .ok (.invokevirtual i, 3)) (hq : pc + 3 = q)
    {W : Nat} (hW : (rest.map fun v => v.category).sum = W) (hf : rm.frames + 1 ≤ R.frames) (hlo : W + (mL + 11) + rm.locals ≤ R.locals) (hce : cl + rm.cells ≤ R.cells) (hsl : sl + rm.slots ≤ R.slots)
    (k : ∀ h', Q' h' → Wk l Z n0 own nm bytes maxL ret R kc ks Q h' (cl + rm.cells) (sl + rm.slots) q ls rest) : Wk l Z n0 own nm bytes maxL ret R kc ks Q h cl sl pc ls st := by
  subst hq hst hW
  intro p e s m args below meth c T locs hx hby hml hown hnm hr hlk hZ X eT N
  obtain ⟨cq, kq, q1, q2, q3⟩ := isOf hZ eT E
  obtain ⟨v, _, ⟨T', L', k', n'⟩, -, X', ⟨Lc, ⟨N', hQ⟩, l', y', z'⟩, stp⟩ := X.virtualBack hx (y := y) (z := y) hown (mvT hZ w1) (mvT hZ w2) (notFace_of_selects (args := #[]) (mvT hZ w3)) (mvT hZ w3) (mvT hZ w4) hy (backOf (W := (rest.map fun v => v.category).sum) (Q := fun v h' L => Fr n0 L ∧ (fun v h' => v = none ∧ Q' h') v h') (hM []) hZ w5 w6 hf hlo) q1 q3 (g := mkF m pc ls (argsL.reverse ++ .ref a :: rest)) rfl (by rw [hml]; exact hls) (Steps.refl _) (argsL := argsL) (rest := rest) (lenOf hds hln) rfl (by show 2 * 0 + _ ≤ _; omega) (hb hby hd) (fun _ _ => ⟨rfl, eT, hce, hsl⟩)
  dsimp only [Pt.U, Pt.locs, Pt.cells, Pt.slots] at X' l' y' z' stp hQ
  subst l' y' z'
  obtain ⟨rfl, hQ⟩ := hQ
  obtain ⟨s₂, o, h1, r⟩ := k T'.heap hQ p e s m args below meth c T' _ hx hby hml hown hnm hr hlk hZ X' rfl (Fr.app N N')
  exact ⟨s₂, o, stp.trans h1, r⟩
theorem Wk.callU {i : Nat} {C owner : String} {y z : MethodName} {by' : ByteArray} {mL : Nat} {rt : Option FieldType} {rm : Room} {a : Addr} {argsL rest : List Value} {Q' : Value → Heap → Prop} {ps : List FieldType} {r' : Option FieldType}
    (hM : Met l Z n0 z by' mL rt rm (.ref a :: argsL).toArray h (fun v h' => ∃ w, v = some w ∧ Q' w h')) (E : Exa Z h a C)
    (w1 : (Jvm.Cond.methodLink own i y).before a0 Z = true) (w2 : (Jvm.Cond.sameMethod y.cls owner y.name y.desc).before a0 Z = true) (w3 : (Jvm.Cond.declares ⟨owner, y.name, y.desc⟩).before a0 Z = true) (w4 : (Jvm.Cond.selects C y z).before a0 Z = true) (w5 : (Jvm.Cond.instanceMethod z).before a0 Z = true) (w6 : (Jvm.Cond.code z by' mL rt).before a0 Z = true) (w7 : (Jvm.Cond.initialized z.cls).before a0 Z = true) (hy : owner ≠ "java/lang/invoke/MethodHandle" ∧ owner ≠ "java/lang/invoke/VarHandle")
    (hds : parseMethodDescriptor y.desc = some ⟨ps, r'⟩) (hln : argsL.length = ps.length) (hst : st = argsL.reverse ++ .ref a :: rest) (hls : ls.size = maxL) (hd : decode bytes pc = .ok (.invokevirtual i, 3)) (hq : pc + 3 = q)
    {W : Nat} (hW : (rest.map fun v => v.category).sum = W) (hf : rm.frames + 1 ≤ R.frames) (hlo : W + (mL + 11) + rm.locals ≤ R.locals) (hce : cl + rm.cells ≤ R.cells) (hsl : sl + rm.slots ≤ R.slots)
    (k : ∀ w h', Q' w h' → Wk l Z n0 own nm bytes maxL ret R kc ks Q h' (cl + rm.cells) (sl + rm.slots) q ls (w :: rest)) : Wk l Z n0 own nm bytes maxL ret R kc ks Q h cl sl pc ls st := by
  subst hq hst hW
  intro p e s m args below meth c T locs hx hby hml hown hnm hr hlk hZ X eT N
  obtain ⟨cq, kq, q1, q2, q3⟩ := isOf hZ eT E
  obtain ⟨v, _, ⟨T', L', k', n'⟩, -, X', ⟨Lc, ⟨N', hQ⟩, l', y', z'⟩, stp⟩ := X.virtualBackUp hx (x := y) (y := z) (owner := owner) hown (mvT hZ w1) (mvT hZ w2) (mvT hZ w3) hy (mvT hZ w4) (mvT hZ w5) (backOf (W := (rest.map fun v => v.category).sum) (Q := fun v h' L => Fr n0 L ∧ (fun v h' => ∃ w, v = some w ∧ Q' w h') v h') (hM []) hZ w6 w7 hf hlo) q1 q3 (g := mkF m pc ls (argsL.reverse ++ .ref a :: rest)) rfl (by rw [hml]; exact hls) (Steps.refl _) (argsL := argsL) (rest := rest) (lenOf hds hln) rfl (by show 2 * 0 + _ ≤ _; omega) (hb hby hd) (fun _ _ => ⟨rfl, eT, hce, hsl⟩)
  dsimp only [Pt.U, Pt.locs, Pt.cells, Pt.slots] at X' l' y' z' stp hQ
  subst l' y' z'
  obtain ⟨w, rfl, hQ⟩ := hQ
  obtain ⟨s₂, o, h1, r⟩ := k w T'.heap hQ p e s m args below meth c T' _ hx hby hml hown hnm hr hlk hZ X' rfl (Fr.app N N')
  exact ⟨s₂, o, stp.trans h1, r⟩
theorem Wk.callU1 {i : Nat} {C owner : String} {y z : MethodName} {by' : ByteArray} {mL : Nat} {rt : Option FieldType} {fr lo : Nat} {a : Addr} {argsL rest : List Value} {v0 : Value} {ps : List FieldType} {r' : Option FieldType}
    (hM : Met l Z n0 z by' mL rt ⟨fr, 0, 0, lo⟩ (.ref a :: argsL).toArray h (fun v h' => v = some v0 ∧ h' = h)) (E : Exa Z h a C)
    (w1 : (Jvm.Cond.methodLink own i y).before a0 Z = true) (w2 : (Jvm.Cond.sameMethod y.cls owner y.name y.desc).before a0 Z = true) (w3 : (Jvm.Cond.declares ⟨owner, y.name, y.desc⟩).before a0 Z = true) (w4 : (Jvm.Cond.selects C y z).before a0 Z = true) (w5 : (Jvm.Cond.instanceMethod z).before a0 Z = true) (w6 : (Jvm.Cond.code z by' mL rt).before a0 Z = true) (w7 : (Jvm.Cond.initialized z.cls).before a0 Z = true) (hy : owner ≠ "java/lang/invoke/MethodHandle" ∧ owner ≠ "java/lang/invoke/VarHandle")
    (hds : parseMethodDescriptor y.desc = some ⟨ps, r'⟩) (hln : argsL.length = ps.length) (hst : st = argsL.reverse ++ .ref a :: rest) (hls : ls.size = maxL) (hd : decode bytes pc = .ok (.invokevirtual i, 3)) (hq : pc + 3 = q)
    {W : Nat} (hW : (rest.map fun v => v.category).sum = W) (hf : fr + 1 ≤ R.frames) (hlo : W + (mL + 11) + lo ≤ R.locals) (hce : cl ≤ R.cells) (hsl : sl ≤ R.slots)
    (k : Wk l Z n0 own nm bytes maxL ret R kc ks Q h cl sl q ls (v0 :: rest)) : Wk l Z n0 own nm bytes maxL ret R kc ks Q h cl sl pc ls st :=
  Wk.callU (Q' := fun w h' => w = v0 ∧ h' = h) (rm := ⟨fr, 0, 0, lo⟩) (hM.mono fun v h' z => ⟨v0, z.1, rfl, z.2⟩) E w1 w2 w3 w4 w5 w6 w7 hy hds hln hst hls hd hq hW hf hlo hce hsl (fun w h' z => by obtain ⟨rfl, rfl⟩ := z; exact k)
theorem Wk.callS2 {i : Nat} {y : MethodName} {by' : ByteArray} {mL : Nat} {rt : Option FieldType} {fr lo : Nat} {argsL rest : List Value} {P : Value → Prop} {ps : List FieldType} {r' : Option FieldType}
    (hM : Met l Z n0 y by' mL rt ⟨fr, 0, 0, lo⟩ argsL.toArray h (fun v h' => (∃ w, v = some w ∧ P w) ∧ h' = h))
    (w1 : (Jvm.Cond.methodLink own i y).before a0 Z = true) (w2 : (Jvm.Cond.static y).before a0 Z = true) (w3 : (Jvm.Cond.initialized y.cls).before a0 Z = true) (w4 : (Jvm.Cond.code y by' mL rt).before a0 Z = true) (hy : y.cls ≠ "java/lang/invoke/MethodHandle" ∧ y.cls ≠ "java/lang/invoke/VarHandle")
    (hds : parseMethodDescriptor y.desc = some ⟨ps, r'⟩) (hln : argsL.length = ps.length) (hst : st = argsL.reverse ++ rest) (hls : ls.size = maxL) (hd : decode bytes pc = .ok (.invokestatic i, 3)) (hq : pc + 3 = q)
    {W : Nat} (hW : (rest.map fun v => v.category).sum = W) (hf : fr + 1 ≤ R.frames) (hlo : W + (mL + 11) + lo ≤ R.locals) (hce : cl ≤ R.cells) (hsl : sl ≤ R.slots)
    (k : ∀ w, P w → Wk l Z n0 own nm bytes maxL ret R kc ks Q h cl sl q ls (w :: rest)) : Wk l Z n0 own nm bytes maxL ret R kc ks Q h cl sl pc ls st :=
  Wk.callS (Q' := fun w h' => P w ∧ h' = h) (rm := ⟨fr, 0, 0, lo⟩) (hM.mono fun v h' z => by obtain ⟨⟨w, e, p⟩, q⟩ := z; exact ⟨w, e, p, q⟩) w1 w2 w3 w4 hy hds hln hst hls hd hq hW hf hlo hce hsl (fun w h' z => by obtain ⟨z1, rfl⟩ := z; exact k w z1)
theorem Wk.callV2 {i : Nat} {C : String} {y : MethodName} {a : Addr} {by' : ByteArray} {mL : Nat} {rt : Option FieldType} {fr lo : Nat} {argsL rest : List Value} {P : Value → Prop} {ps : List FieldType} {r' : Option FieldType}
    (hM : Met l Z n0 y by' mL rt ⟨fr, 0, 0, lo⟩ (.ref a :: argsL).toArray h (fun v h' => (∃ w, v = some w ∧ P w) ∧ h' = h)) (E : Exa Z h a C)
    (w1 : (Jvm.Cond.methodLink own i y).before a0 Z = true) (w2 : (Jvm.Cond.declares y).before a0 Z = true) (w3 : (Jvm.Cond.selects C y y).before a0 Z = true) (w4 : (Jvm.Cond.instanceMethod y).before a0 Z = true) (w5 : (Jvm.Cond.code y by' mL rt).before a0 Z = true) (w6 : (Jvm.Cond.initialized y.cls).before a0 Z = true) (hy : y.cls ≠ "java/lang/invoke/MethodHandle" ∧ y.cls ≠ "java/lang/invoke/VarHandle")
    (hds : parseMethodDescriptor y.desc = some ⟨ps, r'⟩) (hln : argsL.length = ps.length) (hst : st = argsL.reverse ++ .ref a :: rest) (hls : ls.size = maxL) (hd : decode bytes pc = .ok (.invokevirtual i, 3)) (hq : pc + 3 = q)
    {W : Nat} (hW : (rest.map fun v => v.category).sum = W) (hf : fr + 1 ≤ R.frames) (hlo : W + (mL + 11) + lo ≤ R.locals) (hce : cl ≤ R.cells) (hsl : sl ≤ R.slots)
    (k : ∀ w, P w → Wk l Z n0 own nm bytes maxL ret R kc ks Q h cl sl q ls (w :: rest)) : Wk l Z n0 own nm bytes maxL ret R kc ks Q h cl sl pc ls st :=
  Wk.callV (Q' := fun w h' => P w ∧ h' = h) (rm := ⟨fr, 0, 0, lo⟩) (hM.mono fun v h' z => by obtain ⟨⟨w, e, p⟩, q⟩ := z; exact ⟨w, e, p, q⟩) E w1 w2 w3 w4 w5 w6 hy hds hln hst hls hd hq hW hf hlo hce hsl (fun w h' z => by obtain ⟨z1, rfl⟩ := z; exact k w z1)
/-! the case's words -/
theorem own_exa {args : Array Value} {C n d K : String} (hx : (Jvm.Cond.exactly (.static C n d) K).value args Z none Z [] = some true) (wi : (Jvm.Cond.initialized C).before args Z = true) (wl : (Jvm.Cond.laysStatic C n d).before args Z = true) :
    ∃ a, (Term.static C n d).eval args Z none [] Z = some (.ref a) ∧ Sta Z Z.heap C n d (.ref a) ∧ Exa Z Z.heap a K := by
  obtain ⟨a, ev⟩ := exa_v hx
  exact ⟨a, ev, Sta.start ev (Or.inr ⟨wi, wl⟩), Exa.start ev hx⟩
theorem own_arr {args : Array Value} {C n d : String} {ty : FieldType} (hx : (Jvm.Cond.arrayOf (.static C n d) ty).value args Z none Z [] = some true) (wi : (Jvm.Cond.initialized C).before args Z = true) (wl : (Jvm.Cond.laysStatic C n d).before args Z = true) :
    ∃ a c, (Term.static C n d).eval args Z none [] Z = some (.ref a) ∧ Sta Z Z.heap C n d (.ref a) ∧ Arr Z Z.heap a c ty := by
  obtain ⟨a, ev⟩ := arr_v hx
  obtain ⟨c, A⟩ := Arr.start ev hx
  exact ⟨a, c, ev, Sta.start ev (Or.inr ⟨wi, wl⟩), A⟩
theorem own_eqi {args : Array Value} {t u : Term} {y : Int32} {idx : List Nat} (h : (Jvm.Cond.eq t u).value args Z none Z idx = some true) (hu : u.eval args Z none idx Z = some (.int y)) : t.eval args Z none idx Z = some (.int y) := by
  obtain ⟨x, y', h1, h2, k1, k2⟩ := cmp_v (Or.inl h)
  cases hu.symm.trans h2
  obtain ⟨z, rfl⟩ := k2
  have e : z = y := by simpa [Cond.value, h1, hu] using h
  rw [h1, e]
theorem own_eqr {args : Array Value} {t u : Term} {y : Addr} {idx : List Nat} (h : (Jvm.Cond.eq t u).value args Z none Z idx = some true) (hu : u.eval args Z none idx Z = some (.ref y)) : t.eval args Z none idx Z = some (.ref y) := by
  obtain ⟨x, y', h1, h2, k1, k2⟩ := cmp_v (Or.inl h)
  cases hu.symm.trans h2
  have e := gotT (eq_R h1 hu k2.2 rfl) h
  rw [h1, e]
theorem own_fld {args : Array Value} {t : Term} {O f d : String} {a : Addr} {v : Value} (ev : t.eval args Z none [] Z = some (.ref a)) (e : (Term.field t O f d).eval args Z none [] Z = some v) : Fld Z Z.heap a O f d v :=
  Fld.start ((fld_at ev).symm.trans e)
theorem own_len {args : Array Value} {t : Term} {a : Addr} {c : Cell} {ty : FieldType} {n : Int32} {k : Nat} (ev : t.eval args Z none [] Z = some (.ref a)) (A : Arr Z Z.heap a c ty) (e : (Term.length t).eval args Z none [] Z = some (.int n)) (hk : n.toInt = (k : Int)) : c.slots.size = k := by
  have hA : Z.arrayAt? a = some c := A.fin (Vm.Alike.refl _)
  have hs : c.slots.size < 2 ^ 31 := by
    by_cases q : c.slots.size < 2 ^ 31
    · exact q
    · simp [Term.eval, ev, hA, q] at e
  have e2 := (len_f ev hA hs).symm.trans e
  have e3 : c.slots.size.toInt32 = n := by injection e2 with e2; injection e2
  have e4 := len_toInt hs
  rw [e3, hk] at e4
  exact (Int.ofNat.inj e4).symm
theorem own_elem {args : Array Value} {t : Term} {a : Addr} {c : Cell} {ty : FieldType} {i : Int32} {v : Value} {idx : List Nat} (ev : t.eval args Z none idx Z = some (.ref a)) (A : Arr Z Z.heap a c ty) (e : (Term.elem t (.int i)).eval args Z none idx Z = some v) : c.slots[i.toNatClampNeg]? = some v :=
  (elem_in e ev (Term.int_eval i) A.1).2
theorem own_all {args : Array Value} {C n d : String} {c : Jvm.Cond} {a : Addr} {cl : Cell} {ty : FieldType} (ev : (Term.static C n d).eval args Z none [] Z = some (.ref a)) (A : Arr Z Z.heap a cl ty) (h : (Jvm.Cond.all (.static C n d) c).value args Z none Z [] = some true) (k : Nat) (hk : k < cl.slots.size) : c.value args Z none Z [k] = some true :=
  Cond.all_elim ev (A.fin (Vm.Alike.refl _)) h k hk
theorem own_tk {args : Array Value} {C n d : String} {a : Addr} {cl : Cell} {ty : FieldType} {v : Int32} {k : Nat} (ev : (Term.static C n d).eval args Z none [] Z = some (.ref a)) (A : Arr Z Z.heap a cl ty) (hk : k < 256) (h : (Jvm.Cond.eq (.elem (.static C n d) (.index 0)) (.int v)).value args Z none Z [k] = some true) : cl.slots[k]? = some (.int v) := by
  have ev' : (Term.static C n d).eval args Z none [k] Z = some (.ref a) := ev
  have e := (elem_in (own_eqi h (Term.int_eval v)) ev' (Term.index_eval k) A.1).2
  have q : k.toInt32.toNatClampNeg = k := by simp only [Int32.toNatClampNeg, len_toInt (show k < 2 ^ 31 by omega)]; rfl
  rwa [q] at e
theorem own_or {args : Array Value} {G X : Jvm.Cond} {P : Prop} [Decidable P] {idx : List Nat} (h : (Jvm.Cond.or G X).value args Z none Z idx = some true) (hG : G.value args Z none Z idx = some (decide P)) (np : ¬ P) : X.value args Z none Z idx = some true := by
  rwa [Cond.or_of_right (by rw [hG]; simp [np])] at h
theorem own_kle {a : Int32} {k m : Nat} (ha : a.toInt = (m : Int)) (hk : k < 256) : a ≤ k.toInt32 ↔ m ≤ k := by
  rw [Int32.le_iff_toInt_le, ha, len_toInt (show k < 2 ^ 31 by omega)]; omega
theorem own_klt {a : Int32} {k m : Nat} (ha : a.toInt = (m : Int)) (hk : k < 256) : k.toInt32 < a ↔ k < m := by
  rw [Int32.lt_iff_toInt_lt, ha, len_toInt (show k < 2 ^ 31 by omega)]; omega
theorem own_neR {a b : Addr} (h : a ≠ b) : ¬ (Value.ref a) = (Value.ref b) := fun e => h (Value.ref.inj e)
theorem own_neN {a : Addr} : ¬ (Value.ref a) = Value.null := fun e => nomatch e
theorem own_nNe {a : Addr} : ¬ Value.null = (Value.ref a) := fun e => nomatch e
/-- (x & 0x7fffffff) % n lies from 0 to n - 1 -/
theorem own_mod (x n : Int32) (hn : 0 < n.toInt) : 0 ≤ ((x &&& 2147483647) % n).toInt ∧ ((x &&& 2147483647) % n).toInt < n.toInt := by
  have h1 := c_and x 2147483647 (by decide)
  rw [Int32.toInt_mod]
  have h2 := Int.tmod_nonneg n.toInt h1.1
  have h3 := Int.tmod_lt_of_pos (x &&& 2147483647).toInt hn
  exact ⟨h2, h3⟩
theorem own_cl_lt (x y : Int64) : XT.cmpL x y < 0 ↔ x < y := by unfold XT.cmpL; split <;> (try split) <;> simp_all [Int64.lt_iff_toInt_lt, ← Int64.toInt_inj] <;> omega
theorem own_cl_gt (x y : Int64) : 0 < XT.cmpL x y ↔ y < x := by unfold XT.cmpL; split <;> (try split) <;> simp_all [Int64.lt_iff_toInt_lt, ← Int64.toInt_inj] <;> omega
theorem own_cl_eq (x y : Int64) : XT.cmpL x y = 0 ↔ x = y := by unfold XT.cmpL; split <;> (try split) <;> simp_all [Int64.lt_iff_toInt_lt, ← Int64.toInt_inj] <;> omega
theorem own_i32 {x y : Int32} (e : x.toInt = y.toInt) : x = y := Int32.toInt_inj.mp e
end Own
section Own2
variable {l : Launch} {Z : State} {a0 : Array Value} {n0 : Nat} {own nm : String} {bytes : ByteArray} {maxL : Nat} {ret : Option FieldType} {R : Room} {kc ks : Nat} {Q : Option Value → Heap → Prop} {h : Heap} {cl sl pc q : Nat} {ls ls' : Array Slot} {st st' rest : List Value}
theorem own_hit {h' : Heap} {a : Addr} {sl n j : Nat} {v : Value} {c : Cell} (W : Wr h h' a sl v) (S : c.slots.size = n) (hj : sl = j) (hl : j < n) : (c.setSlot sl v).slots[j]? = some v := by
  subst hj S; simp [Cell.setSlot, hl]
theorem own_miss {h' : Heap} {a : Addr} {sl j : Nat} {v w : Value} {c : Cell} (W : Wr h h' a sl v) (hj : sl ≠ j) (e : c.slots[j]? = some w) : (c.setSlot sl v).slots[j]? = some w := by
  rw [← e]; exact Array.getElem?_setIfInBounds_ne hj
theorem own_szs {h' : Heap} {a : Addr} {sl n : Nat} {v : Value} {c : Cell} (W : Wr h h' a sl v) (S : c.slots.size = n) : (c.setSlot sl v).slots.size = n := (sz_set _ _ _).trans S
theorem own_ge (O : Old Z n0 h) : n0 ≤ h.size := by have := O.1; have := O.2.1; omega
theorem Wk.new {i n : Nat} {C : String} (w : (Jvm.Cond.classLink own i C).before a0 Z = true) (wi : (Jvm.Cond.instantiable C n).before a0 Z = true) (wz : (Jvm.Cond.initialized C).before a0 Z = true) (hd : decode bytes pc = .ok (.new i, 3)) (hq : pc + 3 = q) (hc : cl + 1 ≤ R.cells) (hl : sl + n ≤ R.slots)
    (k : ∀ h' a, a = h.size → Ext h h' → Exa Z h' a C → (∀ {O f d : String} {ty : FieldType}, Laid Z a0 C O f d → parseFieldDescriptor d = some ty → Fld Z h' a O f d (defaultValue ty)) → Wk l Z n0 own nm bytes maxL ret R kc ks Q h' (cl + 1) (sl + n) q ls (.ref a :: st)) : Wk l Z n0 own nm bytes maxL ret R kc ks Q h cl sl pc ls st := by
  subst hq
  intro p e s m args below meth c T locs hx hby hml hown hnm hr hlk hZ X eT N
  obtain ⟨T', h', X', e', E, A, D, -, stp⟩ := newO X hx hZ hown w wi wz eT (g := mkF m pc ls st) rfl (hb hby hd) hc hl
  obtain ⟨s₂, o, h1, r⟩ := k h' _ rfl E A D p e s m args below meth c T' _ hx hby hml hown hnm hr hlk hZ X' e' N
  exact ⟨s₂, o, stp _ h1, r⟩
theorem Wk.putF {O f d C R0 : String} {i kk : Nat} {ty : FieldType} {a : Addr} {v old : Value} (w : (Jvm.Cond.fieldLink own i R0 f d).before a0 Z = true) (via : Via Z R0 O f d) (F : Fld Z h a O f d old) (E : Exa Z h a C) (L : (Jvm.Cond.lays C O f d).before a0 Z = true ∨ ((Jvm.Cond.laysFinal C O f d).before a0 Z = true ∧ own = O ∧ nm = "<init>")) (wi : (Jvm.Cond.instantiable C kk).before a0 Z = true)
    (hty : parseFieldDescriptor d = some ty) (hn : narrow ty v = v) (hf : fits ty v = true) (hd : decode bytes pc = .ok (.putfield i, 3)) (hq : pc + 3 = q) (ha : n0 ≤ a)
    (k : ∀ h', Wr h h' a (RoadKit.slotOf Z O f d) v → Wk l Z n0 own nm bytes maxL ret R kc ks Q h' cl sl q ls st) : Wk l Z n0 own nm bytes maxL ret R kc ks Q h cl sl pc ls (v :: .ref a :: st) := by
  subst hq
  intro p e s m args below meth c T locs hx hby hml hown hnm hr hlk hZ X eT N
  obtain ⟨T', h', X', e', W', stp⟩ := RoadKit.putF X hx hZ hown (host := "") (Or.inl w) via eT F E (L.imp id fun z => ⟨z.1, z.2.1, hnm.trans z.2.2⟩) wi hty hn hf (g := mkF m pc ls (v :: .ref a :: st)) rfl rfl (hb hby hd)
  obtain ⟨s₂, o, h1, r⟩ := k h' W' p e s m args below meth c T' _ hx hby hml hown hnm hr hlk hZ X' e' (Fr.snoc X' N ha)
  exact ⟨s₂, o, stp _ h1, r⟩
theorem Wk.initO {i : Nat} {a : Addr} {W : Nat} (w1 : (Jvm.Cond.methodLink own i Lib.objectInit).before a0 Z = true) (w2 : (Jvm.Cond.instanceMethod Lib.objectInit).before a0 Z = true) (w3 : (Jvm.Cond.code Lib.objectInit ⟨#[0xb1]⟩ 1 none).before a0 Z = true) (hd : decode bytes pc = .ok (.invokespecial i, 3)) (hq : pc + 3 = q) (hls : ls.size = maxL) (hf : 1 ≤ R.frames) (hW : (st.map fun v => v.category).sum = W) (hl : W + 12 ≤ R.locals)
    (k : Wk l Z n0 own nm bytes maxL ret R kc ks Q h cl sl q ls st) : Wk l Z n0 own nm bytes maxL ret R kc ks Q h cl sl pc ls (.ref a :: st) := by
  subst hq hW
  intro p e s m args below meth c T locs hx hby hml hown hnm hr hlk hZ X eT N
  obtain ⟨T', X', e', stp⟩ := RoadKit.initO X hx hZ hown w1 w2 w3 eT (g := mkF m pc ls (.ref a :: st)) rfl (by rw [hml]; exact hls) rfl (hb hby hd) hf (W := (st.map fun v => v.category).sum) (by show 2 * 0 + _ ≤ _; omega) hl
  obtain ⟨s₂, o, h1, r⟩ := k p e s m args below meth c T' _ hx hby hml hown hnm hr hlk hZ X' e' N
  exact ⟨s₂, o, stp _ h1, r⟩
theorem Wk.special {i : Nat} {y : MethodName} {by' : ByteArray} {mL : Nat} {rm : Room} {a : Addr} {argsL rest : List Value} {Q' : Heap → Prop} {ps : List FieldType} {r' : Option FieldType}
    (hM : Met l Z n0 y by' mL none rm (.ref a :: argsL).toArray h (fun v h' => v = none ∧ Q' h'))
    (hy1 : y.name = "<init>") (w1 : (Jvm.Cond.methodLink own i y).before a0 Z = true) (w2 : (Jvm.Cond.instanceMethod y).before a0 Z = true) (w3 : (Jvm.Cond.code y by' mL none).before a0 Z = true) (w4 : (Jvm.Cond.initialized y.cls).before a0 Z = true) (hy : y.cls ≠ "java/lang/invoke/MethodHandle" ∧ y.cls ≠ "java/lang/invoke/VarHandle")
    (hds : parseMethodDescriptor y.desc = some ⟨ps, r'⟩) (hln : argsL.length = ps.length) (hst : st = argsL.reverse ++ .ref a :: rest) (hls : ls.size = maxL) (hd : decode bytes pc = .ok (.invokespecial i, 3)) (hq : pc + 3 = q)
    {W : Nat} (hW : (rest.map fun v => v.category).sum = W) (hf : rm.frames + 1 ≤ R.frames) (hlo : W + (mL + 11) + rm.locals ≤ R.locals) (hce : cl + rm.cells ≤ R.cells) (hsl : sl + rm.slots ≤ R.slots)
    (k : ∀ h', Q' h' → Wk l Z n0 own nm bytes maxL ret R kc ks Q h' (cl + rm.cells) (sl + rm.slots) q ls rest) : Wk l Z n0 own nm bytes maxL ret R kc ks Q h cl sl pc ls st := by
  subst hq hst hW
  intro p e s m args below meth c T locs hx hby hml hown hnm hr hlk hZ X eT N
  obtain ⟨v, _, ⟨T', L', k', n'⟩, -, X', ⟨Lc, ⟨N', hQ⟩, l', y', z'⟩, stp⟩ := X.specialBack hx (y := y) hy1 hown (mvT hZ w1) (mvT hZ w2) (mvT hZ w3) hy (backOf (W := (rest.map fun v => v.category).sum) (Q := fun v h' L => Fr n0 L ∧ (fun v h' => v = none ∧ Q' h') v h') (hM []) hZ w3 w4 hf hlo) (g := mkF m pc ls (argsL.reverse ++ .ref a :: rest)) rfl (by rw [hml]; exact hls) (Steps.refl _) (a := a) (argsL := argsL) (rest := rest) (lenOf hds hln) rfl (by show 2 * 0 + _ ≤ _; omega) (hb hby hd) (fun _ _ => ⟨rfl, eT, hce, hsl⟩)
  dsimp only [Pt.U, Pt.locs, Pt.cells, Pt.slots] at X' l' y' z' stp hQ
  subst l' y' z'
  obtain ⟨rfl, hQ⟩ := hQ
  obtain ⟨s₂, o, h1, r⟩ := k T'.heap hQ p e s m args below meth c T' _ hx hby hml hown hnm hr hlk hZ X' rfl (Fr.app N N')
  exact ⟨s₂, o, stp.trans h1, r⟩
theorem Wk.newP {aty : ArrayType} {n : Int32} (w : (Jvm.Cond.arrayClass (newarray.typeOf aty)).before a0 Z = true) (hd : decode bytes pc = .ok (.newarray aty, 2)) (hq : pc + 2 = q) (hn : ¬ n < 0) {cap : Nat} (hcap : n.toNatClampNeg ≤ cap) (hb8 : cap * 8 ≤ 536870912) (hc : cl + 1 ≤ R.cells) (hl : sl + cap ≤ R.slots)
    (k : ∀ h' a cA, a = h.size → Ext h h' → Arr Z h' a (newA cA (newarray.typeOf aty) n) (newarray.typeOf aty) → Wk l Z n0 own nm bytes maxL ret R kc ks Q h' (cl + 1) (sl + cap) q ls (.ref a :: st)) : Wk l Z n0 own nm bytes maxL ret R kc ks Q h cl sl pc ls (.int n :: st) := by
  subst hq
  intro p e s m args below meth c T locs hx hby hml hown hnm hr hlk hZ X eT N
  obtain ⟨T', h', cA, X', e', E, A, stp⟩ := RoadKit.newP X hx hZ w eT (g := mkF m pc ls (.int n :: st)) rfl (hb hby hd) rfl hn hcap hb8 hc hl
  obtain ⟨s₂, o, h1, r⟩ := k h' _ cA rfl E A p e s m args below meth c T' _ hx hby hml hown hnm hr hlk hZ X' e' N
  exact ⟨s₂, o, stp _ h1, r⟩
theorem Wk.newR {i : Nat} {C : String} {n : Int32} (w1 : (Jvm.Cond.classLink own i C).before a0 Z = true) (w2 : (Jvm.Cond.arrayOver (.object C)).before a0 Z = true) (hd : decode bytes pc = .ok (.anewarray i, 3)) (hq : pc + 3 = q) (hn : ¬ n < 0) {cap : Nat} (hcap : n.toNatClampNeg ≤ cap) (hb8 : cap * 8 ≤ 536870912) (hc : cl + 1 ≤ R.cells) (hl : sl + cap ≤ R.slots)
    (k : ∀ h' a cA, a = h.size → Ext h h' → Arr Z h' a (newA cA (.object C) n) (.object C) → Ovr Z cA C → Wk l Z n0 own nm bytes maxL ret R kc ks Q h' (cl + 1) (sl + cap) q ls (.ref a :: st)) : Wk l Z n0 own nm bytes maxL ret R kc ks Q h cl sl pc ls (.int n :: st) := by
  subst hq
  intro p e s m args below meth c T locs hx hby hml hown hnm hr hlk hZ X eT N
  obtain ⟨T', h', cA, X', e', E, A, -, O, stp⟩ := RoadKit.newRE X hx hZ hown w1 w2 eT (g := mkF m pc ls (.int n :: st)) rfl (hb hby hd) rfl hn hcap hb8 hc hl rfl
  obtain ⟨s₂, o, h1, r⟩ := k h' _ cA rfl E A O p e s m args below meth c T' _ hx hby hml hown hnm hr hlk hZ X' e' N
  exact ⟨s₂, o, stp _ h1, r⟩
theorem Wk.stB {a : Addr} {c0 : Cell} {j x v : Int32} (A : Arr Z h a c0 .byte) (hj : ¬ (j < 0 ∨ c0.slots.size ≤ j.toNatClampNeg)) (hv : nar .byte x = v) (hd : decode bytes pc = .ok (.bastore, 1)) (hq : pc + 1 = q) (ha : n0 ≤ a)
    (k : ∀ h', Wr h h' a j.toNatClampNeg (.int v) → Wk l Z n0 own nm bytes maxL ret R kc ks Q h' cl sl q ls st) : Wk l Z n0 own nm bytes maxL ret R kc ks Q h cl sl pc ls (.int x :: .int j :: .ref a :: st) := by
  subst hq hv
  intro p e s m args below meth c T locs hx hby hml hown hnm hr hlk hZ X eT N
  obtain ⟨T', h', X', e', W', stp⟩ := RoadKit.stB X hx hZ eT A hj (g := mkF m pc ls (.int x :: .int j :: .ref a :: st)) rfl rfl (hb hby hd)
  obtain ⟨s₂, o, h1, r⟩ := k h' W' p e s m args below meth c T' _ hx hby hml hown hnm hr hlk hZ X' e' (Fr.snoc X' N ha)
  exact ⟨s₂, o, stp _ h1, r⟩
theorem Wk.stR {a : Addr} {c0 : Cell} {ty : FieldType} {j : Int32} {v : Value} (A : Arr Z h a c0 ty) (hj : ¬ (j < 0 ∨ c0.slots.size ≤ j.toNatClampNeg)) (hty : ty.isReference = true) (F : Sto Z h a v) (hv : v.isRef = true) (hd : decode bytes pc = .ok (.aastore, 1)) (hq : pc + 1 = q) (ha : n0 ≤ a)
    (k : ∀ h', Wr h h' a j.toNatClampNeg v → Wk l Z n0 own nm bytes maxL ret R kc ks Q h' cl sl q ls st) : Wk l Z n0 own nm bytes maxL ret R kc ks Q h cl sl pc ls (v :: .int j :: .ref a :: st) := by
  subst hq
  intro p e s m args below meth c T locs hx hby hml hown hnm hr hlk hZ X eT N
  obtain ⟨T', h', X', e', W', stp⟩ := RoadKit.stR X hx hZ eT A hj hty F (g := mkF m pc ls (v :: .int j :: .ref a :: st)) rfl rfl (hb hby hd)
  obtain ⟨s₂, o, h1, r⟩ := k h' W' p e s m args below meth c T' _ hx hby hml hown hnm hr hlk hZ X' e' (Fr.snoc X' N ha)
  exact ⟨s₂, o, stp _ h1, r⟩
theorem Wk.castY {i : Nat} {K : String} {a : Addr} (w : (Jvm.Cond.classLink own i K).before a0 Z = true) (F : Ins Z h a K true) (hd : decode bytes pc = .ok (.checkcast i, 3)) (hq : pc + 3 = q) (k : Wk l Z n0 own nm bytes maxL ret R kc ks Q h cl sl q ls (.ref a :: st)) : Wk l Z n0 own nm bytes maxL ret R kc ks Q h cl sl pc ls (.ref a :: st) := by
  subst hq; exact Wk.stepW (fun hx hby hown hZ X eT => RoadKit.castY X hx hZ hown w eT F (g := mkF _ pc ls (.ref a :: st)) rfl rfl (hb hby hd)) k
theorem Wk.instY {i : Nat} {K : String} {a : Addr} (w : (Jvm.Cond.classLink own i K).before a0 Z = true) (F : Ins Z h a K true) (hd : decode bytes pc = .ok (.instanceof i, 3)) (hq : pc + 3 = q) (k : Wk l Z n0 own nm bytes maxL ret R kc ks Q h cl sl q ls (.int 1 :: st)) : Wk l Z n0 own nm bytes maxL ret R kc ks Q h cl sl pc ls (.ref a :: st) := by
  subst hq; exact Wk.stepW (fun hx hby hown hZ X eT => RoadKit.instY X hx hZ hown w eT F (g := mkF _ pc ls (.ref a :: st)) rfl rfl (hb hby hd)) k
theorem Wk.instNo {i : Nat} {K C : String} {a : Addr} (w : (Jvm.Cond.classLink own i K).before a0 Z = true) (E : Exa Z h a C) (F : ∃ c t, Z.vm.findClass C = some c ∧ Z.vm.findClass K = some t ∧ Z.vm.assignable c t = false) (hd : decode bytes pc = .ok (.instanceof i, 3)) (hq : pc + 3 = q) (k : Wk l Z n0 own nm bytes maxL ret R kc ks Q h cl sl q ls (.int 0 :: st)) : Wk l Z n0 own nm bytes maxL ret R kc ks Q h cl sl pc ls (.ref a :: st) := by
  subst hq; exact Wk.stepW (fun hx hby hown hZ X eT => RoadKit.instNo X hx hZ hown w eT E F (g := mkF _ pc ls (.ref a :: st)) rfl rfl (hb hby hd)) k
end Own2

theorem w_0 {a0 : Array Value} {Z : State} (hw : ∀ d ∈ tables_1, d.before a0 Z = true) : (Jvm.Cond.classLink "com/example/kaiten_draft/kaitendraft/cards/CardIsNigiriPinLaw" (7 : Nat) "com/example/kaiten_draft/kaitendraft/cards/Card").before a0 Z = true := hw _ (List.mem_of_getElem? (i := 0) rfl)
theorem w_1 {a0 : Array Value} {Z : State} (hw : ∀ d ∈ tables_1, d.before a0 Z = true) : (Jvm.Cond.arrayOver (Jvm.ClassFile.FieldType.object "com/example/kaiten_draft/kaitendraft/cards/Card")).before a0 Z = true := hw _ (List.mem_of_getElem? (i := 1) rfl)
theorem w_2 {a0 : Array Value} {Z : State} (hw : ∀ d ∈ tables_1, d.before a0 Z = true) : (Jvm.Cond.fieldLink "com/example/kaiten_draft/kaitendraft/cards/CardIsNigiriPinLaw" (9 : Nat) "com/example/kaiten_draft/kaitendraft/cards/Card" "TEMPURA" "Lcom/example/kaiten_draft/kaitendraft/cards/Card;").before a0 Z = true := hw _ (List.mem_of_getElem? (i := 2) rfl)
theorem w_3 {a0 : Array Value} {Z : State} (hw : ∀ d ∈ tables_1, d.before a0 Z = true) : (Jvm.Cond.initialized "com/example/kaiten_draft/kaitendraft/cards/Card").before a0 Z = true := hw _ (List.mem_of_getElem? (i := 3) rfl)
theorem w_4 {a0 : Array Value} {Z : State} (hw : ∀ d ∈ tables_1, d.before a0 Z = true) : (Jvm.Cond.laysStatic "com/example/kaiten_draft/kaitendraft/cards/Card" "TEMPURA" "Lcom/example/kaiten_draft/kaitendraft/cards/Card;").before a0 Z = true := hw _ (List.mem_of_getElem? (i := 4) rfl)
theorem w_5 {a0 : Array Value} {Z : State} (hw : ∀ d ∈ tables_1, d.before a0 Z = true) : (Jvm.Cond.castable "com/example/kaiten_draft/kaitendraft/cards/Card" "com/example/kaiten_draft/kaitendraft/cards/Card").before a0 Z = true := hw _ (List.mem_of_getElem? (i := 5) rfl)
theorem w_6 {a0 : Array Value} {Z : State} (hw : ∀ d ∈ tables_1, d.before a0 Z = true) : (Jvm.Cond.fieldLink "com/example/kaiten_draft/kaitendraft/cards/CardIsNigiriPinLaw" (13 : Nat) "com/example/kaiten_draft/kaitendraft/cards/Card" "SASHIMI" "Lcom/example/kaiten_draft/kaitendraft/cards/Card;").before a0 Z = true := hw _ (List.mem_of_getElem? (i := 6) rfl)
theorem w_7 {a0 : Array Value} {Z : State} (hw : ∀ d ∈ tables_1, d.before a0 Z = true) : (Jvm.Cond.laysStatic "com/example/kaiten_draft/kaitendraft/cards/Card" "SASHIMI" "Lcom/example/kaiten_draft/kaitendraft/cards/Card;").before a0 Z = true := hw _ (List.mem_of_getElem? (i := 7) rfl)
theorem w_8 {a0 : Array Value} {Z : State} (hw : ∀ d ∈ tables_1, d.before a0 Z = true) : (Jvm.Cond.fieldLink "com/example/kaiten_draft/kaitendraft/cards/CardIsNigiriPinLaw" (16 : Nat) "com/example/kaiten_draft/kaitendraft/cards/Card" "DUMPLING" "Lcom/example/kaiten_draft/kaitendraft/cards/Card;").before a0 Z = true := hw _ (List.mem_of_getElem? (i := 8) rfl)
theorem w_9 {a0 : Array Value} {Z : State} (hw : ∀ d ∈ tables_1, d.before a0 Z = true) : (Jvm.Cond.laysStatic "com/example/kaiten_draft/kaitendraft/cards/Card" "DUMPLING" "Lcom/example/kaiten_draft/kaitendraft/cards/Card;").before a0 Z = true := hw _ (List.mem_of_getElem? (i := 9) rfl)
theorem w_10 {a0 : Array Value} {Z : State} (hw : ∀ d ∈ tables_1, d.before a0 Z = true) : (Jvm.Cond.fieldLink "com/example/kaiten_draft/kaitendraft/cards/CardIsNigiriPinLaw" (19 : Nat) "com/example/kaiten_draft/kaitendraft/cards/Card" "MAKI1" "Lcom/example/kaiten_draft/kaitendraft/cards/Card;").before a0 Z = true := hw _ (List.mem_of_getElem? (i := 10) rfl)
theorem w_11 {a0 : Array Value} {Z : State} (hw : ∀ d ∈ tables_1, d.before a0 Z = true) : (Jvm.Cond.laysStatic "com/example/kaiten_draft/kaitendraft/cards/Card" "MAKI1" "Lcom/example/kaiten_draft/kaitendraft/cards/Card;").before a0 Z = true := hw _ (List.mem_of_getElem? (i := 11) rfl)
theorem w_12 {a0 : Array Value} {Z : State} (hw : ∀ d ∈ tables_1, d.before a0 Z = true) : (Jvm.Cond.fieldLink "com/example/kaiten_draft/kaitendraft/cards/CardIsNigiriPinLaw" (22 : Nat) "com/example/kaiten_draft/kaitendraft/cards/Card" "MAKI2" "Lcom/example/kaiten_draft/kaitendraft/cards/Card;").before a0 Z = true := hw _ (List.mem_of_getElem? (i := 12) rfl)
theorem w_13 {a0 : Array Value} {Z : State} (hw : ∀ d ∈ tables_1, d.before a0 Z = true) : (Jvm.Cond.laysStatic "com/example/kaiten_draft/kaitendraft/cards/Card" "MAKI2" "Lcom/example/kaiten_draft/kaitendraft/cards/Card;").before a0 Z = true := hw _ (List.mem_of_getElem? (i := 13) rfl)
theorem w_14 {a0 : Array Value} {Z : State} (hw : ∀ d ∈ tables_1, d.before a0 Z = true) : (Jvm.Cond.fieldLink "com/example/kaiten_draft/kaitendraft/cards/CardIsNigiriPinLaw" (25 : Nat) "com/example/kaiten_draft/kaitendraft/cards/Card" "MAKI3" "Lcom/example/kaiten_draft/kaitendraft/cards/Card;").before a0 Z = true := hw _ (List.mem_of_getElem? (i := 14) rfl)
theorem w_15 {a0 : Array Value} {Z : State} (hw : ∀ d ∈ tables_1, d.before a0 Z = true) : (Jvm.Cond.laysStatic "com/example/kaiten_draft/kaitendraft/cards/Card" "MAKI3" "Lcom/example/kaiten_draft/kaitendraft/cards/Card;").before a0 Z = true := hw _ (List.mem_of_getElem? (i := 15) rfl)
theorem w_16 {a0 : Array Value} {Z : State} (hw : ∀ d ∈ tables_1, d.before a0 Z = true) : (Jvm.Cond.fieldLink "com/example/kaiten_draft/kaitendraft/cards/CardIsNigiriPinLaw" (28 : Nat) "com/example/kaiten_draft/kaitendraft/cards/Card" "SALMON" "Lcom/example/kaiten_draft/kaitendraft/cards/Card;").before a0 Z = true := hw _ (List.mem_of_getElem? (i := 16) rfl)
theorem w_17 {a0 : Array Value} {Z : State} (hw : ∀ d ∈ tables_1, d.before a0 Z = true) : (Jvm.Cond.laysStatic "com/example/kaiten_draft/kaitendraft/cards/Card" "SALMON" "Lcom/example/kaiten_draft/kaitendraft/cards/Card;").before a0 Z = true := hw _ (List.mem_of_getElem? (i := 17) rfl)
theorem w_18 {a0 : Array Value} {Z : State} (hw : ∀ d ∈ tables_1, d.before a0 Z = true) : (Jvm.Cond.fieldLink "com/example/kaiten_draft/kaitendraft/cards/CardIsNigiriPinLaw" (31 : Nat) "com/example/kaiten_draft/kaitendraft/cards/Card" "SQUID" "Lcom/example/kaiten_draft/kaitendraft/cards/Card;").before a0 Z = true := hw _ (List.mem_of_getElem? (i := 18) rfl)
theorem w_19 {a0 : Array Value} {Z : State} (hw : ∀ d ∈ tables_1, d.before a0 Z = true) : (Jvm.Cond.laysStatic "com/example/kaiten_draft/kaitendraft/cards/Card" "SQUID" "Lcom/example/kaiten_draft/kaitendraft/cards/Card;").before a0 Z = true := hw _ (List.mem_of_getElem? (i := 19) rfl)
theorem w_20 {a0 : Array Value} {Z : State} (hw : ∀ d ∈ tables_1, d.before a0 Z = true) : (Jvm.Cond.fieldLink "com/example/kaiten_draft/kaitendraft/cards/CardIsNigiriPinLaw" (34 : Nat) "com/example/kaiten_draft/kaitendraft/cards/Card" "EGG" "Lcom/example/kaiten_draft/kaitendraft/cards/Card;").before a0 Z = true := hw _ (List.mem_of_getElem? (i := 20) rfl)
theorem w_21 {a0 : Array Value} {Z : State} (hw : ∀ d ∈ tables_1, d.before a0 Z = true) : (Jvm.Cond.laysStatic "com/example/kaiten_draft/kaitendraft/cards/Card" "EGG" "Lcom/example/kaiten_draft/kaitendraft/cards/Card;").before a0 Z = true := hw _ (List.mem_of_getElem? (i := 21) rfl)
theorem w_22 {a0 : Array Value} {Z : State} (hw : ∀ d ∈ tables_1, d.before a0 Z = true) : (Jvm.Cond.fieldLink "com/example/kaiten_draft/kaitendraft/cards/CardIsNigiriPinLaw" (37 : Nat) "com/example/kaiten_draft/kaitendraft/cards/Card" "PUDDING" "Lcom/example/kaiten_draft/kaitendraft/cards/Card;").before a0 Z = true := hw _ (List.mem_of_getElem? (i := 22) rfl)
theorem w_23 {a0 : Array Value} {Z : State} (hw : ∀ d ∈ tables_1, d.before a0 Z = true) : (Jvm.Cond.laysStatic "com/example/kaiten_draft/kaitendraft/cards/Card" "PUDDING" "Lcom/example/kaiten_draft/kaitendraft/cards/Card;").before a0 Z = true := hw _ (List.mem_of_getElem? (i := 23) rfl)
theorem w_24 {a0 : Array Value} {Z : State} (hw : ∀ d ∈ tables_1, d.before a0 Z = true) : (Jvm.Cond.fieldLink "com/example/kaiten_draft/kaitendraft/cards/CardIsNigiriPinLaw" (40 : Nat) "com/example/kaiten_draft/kaitendraft/cards/Card" "WASABI" "Lcom/example/kaiten_draft/kaitendraft/cards/Card;").before a0 Z = true := hw _ (List.mem_of_getElem? (i := 24) rfl)
theorem w_25 {a0 : Array Value} {Z : State} (hw : ∀ d ∈ tables_1, d.before a0 Z = true) : (Jvm.Cond.laysStatic "com/example/kaiten_draft/kaitendraft/cards/Card" "WASABI" "Lcom/example/kaiten_draft/kaitendraft/cards/Card;").before a0 Z = true := hw _ (List.mem_of_getElem? (i := 25) rfl)
theorem w_26 {a0 : Array Value} {Z : State} (hw : ∀ d ∈ tables_1, d.before a0 Z = true) : (Jvm.Cond.fieldLink "com/example/kaiten_draft/kaitendraft/cards/CardIsNigiriPinLaw" (43 : Nat) "com/example/kaiten_draft/kaitendraft/cards/Card" "CHOPSTICKS" "Lcom/example/kaiten_draft/kaitendraft/cards/Card;").before a0 Z = true := hw _ (List.mem_of_getElem? (i := 26) rfl)
theorem w_27 {a0 : Array Value} {Z : State} (hw : ∀ d ∈ tables_1, d.before a0 Z = true) : (Jvm.Cond.laysStatic "com/example/kaiten_draft/kaitendraft/cards/Card" "CHOPSTICKS" "Lcom/example/kaiten_draft/kaitendraft/cards/Card;").before a0 Z = true := hw _ (List.mem_of_getElem? (i := 27) rfl)
theorem w_28 {a0 : Array Value} {Z : State} (hw : ∀ d ∈ tables_1, d.before a0 Z = true) : (Jvm.Cond.constant "com/example/kaiten_draft/kaitendraft/cards/CardIsNigiriPinLaw" (46 : Nat) (2147483647 : Int32)).before a0 Z = true := hw _ (List.mem_of_getElem? (i := 28) rfl)
theorem w_29 {a0 : Array Value} {Z : State} (hw : ∀ d ∈ tables_1, d.before a0 Z = true) : (Jvm.Cond.methodLink "com/example/kaiten_draft/kaitendraft/cards/CardIsNigiriPinLaw" (47 : Nat) ({ cls := "com/example/kaiten_draft/kaitendraft/cards/Card", name := "isNigiri", desc := "()Z" } : Jvm.MethodName)).before a0 Z = true := hw _ (List.mem_of_getElem? (i := 29) rfl)
theorem w_30 {a0 : Array Value} {Z : State} (hw : ∀ d ∈ tables_1, d.before a0 Z = true) : (Jvm.Cond.declares ({ cls := "com/example/kaiten_draft/kaitendraft/cards/Card", name := "isNigiri", desc := "()Z" } : Jvm.MethodName)).before a0 Z = true := hw _ (List.mem_of_getElem? (i := 30) rfl)
theorem w_31 {a0 : Array Value} {Z : State} (hw : ∀ d ∈ tables_1, d.before a0 Z = true) : (Jvm.Cond.instanceMethod ({ cls := "com/example/kaiten_draft/kaitendraft/cards/Card", name := "isNigiri", desc := "()Z" } : Jvm.MethodName)).before a0 Z = true := hw _ (List.mem_of_getElem? (i := 31) rfl)
theorem w_32 {a0 : Array Value} {Z : State} (hw : ∀ d ∈ tables_1, d.before a0 Z = true) : (Jvm.Cond.selects "com/example/kaiten_draft/kaitendraft/cards/Card" ({ cls := "com/example/kaiten_draft/kaitendraft/cards/Card", name := "isNigiri", desc := "()Z" } : Jvm.MethodName) ({ cls := "com/example/kaiten_draft/kaitendraft/cards/Card", name := "isNigiri", desc := "()Z" } : Jvm.MethodName)).before a0 Z = true := hw _ (List.mem_of_getElem? (i := 32) rfl)
theorem w_33 {a0 : Array Value} {Z : State} (hw : ∀ d ∈ tables_1, d.before a0 Z = true) : (Jvm.Cond.code ({ cls := "com/example/kaiten_draft/kaitendraft/cards/Card", name := "isNigiri", desc := "()Z" } : Jvm.MethodName) prog_10_method_6_code (1 : Nat) (Option.some Jvm.ClassFile.FieldType.boolean)).before a0 Z = true := hw _ (List.mem_of_getElem? (i := 33) rfl)
theorem w_34 {a0 : Array Value} {Z : State} (hw : ∀ d ∈ tables_1, d.before a0 Z = true) : (Jvm.Cond.fieldLink "com/example/kaiten_draft/kaitendraft/cards/Card" (28 : Nat) "com/example/kaiten_draft/kaitendraft/cards/Card" "EGG" "Lcom/example/kaiten_draft/kaitendraft/cards/Card;").before a0 Z = true := hw _ (List.mem_of_getElem? (i := 34) rfl)
theorem w_35 {a0 : Array Value} {Z : State} (hw : ∀ d ∈ tables_1, d.before a0 Z = true) : (Jvm.Cond.fieldLink "com/example/kaiten_draft/kaitendraft/cards/Card" (22 : Nat) "com/example/kaiten_draft/kaitendraft/cards/Card" "SALMON" "Lcom/example/kaiten_draft/kaitendraft/cards/Card;").before a0 Z = true := hw _ (List.mem_of_getElem? (i := 35) rfl)
theorem w_36 {a0 : Array Value} {Z : State} (hw : ∀ d ∈ tables_1, d.before a0 Z = true) : (Jvm.Cond.fieldLink "com/example/kaiten_draft/kaitendraft/cards/Card" (25 : Nat) "com/example/kaiten_draft/kaitendraft/cards/Card" "SQUID" "Lcom/example/kaiten_draft/kaitendraft/cards/Card;").before a0 Z = true := hw _ (List.mem_of_getElem? (i := 36) rfl)
theorem pn_0 : plainName "com/example/kaiten_draft/kaitendraft/cards/Card" = true := by first | (simp [plainName, overriddenIn]; done) | decide +kernel
theorem pn_1 : plainName "com/example/kaiten_draft/kaitendraft/cards/CardIsNigiriPinLaw" = true := by first | (simp [plainName, overriddenIn]; done) | decide +kernel
theorem pd_0 : parseMethodDescriptor "()Z" = some ⟨[], (some .boolean)⟩ := by decide +kernel
theorem d1_0 : decode prog_10_method_6_code 0 = .ok (.aload_n 0, 1) := by decide +kernel
theorem d1_1 : decode prog_10_method_6_code 1 = .ok (.getstatic 28, 3) := by decide +kernel
theorem d1_4 : decode prog_10_method_6_code 4 = .ok (.if_acmp .eq 17, 3) := by decide +kernel
theorem d1_7 : decode prog_10_method_6_code 7 = .ok (.aload_n 0, 1) := by decide +kernel
theorem d1_8 : decode prog_10_method_6_code 8 = .ok (.getstatic 22, 3) := by decide +kernel
theorem d1_11 : decode prog_10_method_6_code 11 = .ok (.if_acmp .eq 10, 3) := by decide +kernel
theorem d1_14 : decode prog_10_method_6_code 14 = .ok (.aload_n 0, 1) := by decide +kernel
theorem d1_15 : decode prog_10_method_6_code 15 = .ok (.getstatic 25, 3) := by decide +kernel
theorem d1_18 : decode prog_10_method_6_code 18 = .ok (.if_acmp .ne 7, 3) := by decide +kernel
theorem d1_21 : decode prog_10_method_6_code 21 = .ok (.iconst 1, 1) := by decide +kernel
theorem d1_22 : decode prog_10_method_6_code 22 = .ok (.goto 4, 3) := by decide +kernel
theorem d1_25 : decode prog_10_method_6_code 25 = .ok (.iconst 0, 1) := by decide +kernel
theorem d1_26 : decode prog_10_method_6_code 26 = .ok (.ireturn, 1) := by decide +kernel
theorem own_mod12 (x : Int32) : (x &&& (2147483647 : Int32)) % (12 : Int32) = (0 : Int32) ∨ (x &&& (2147483647 : Int32)) % (12 : Int32) = (1 : Int32) ∨ (x &&& (2147483647 : Int32)) % (12 : Int32) = (2 : Int32) ∨ (x &&& (2147483647 : Int32)) % (12 : Int32) = (3 : Int32) ∨ (x &&& (2147483647 : Int32)) % (12 : Int32) = (4 : Int32) ∨ (x &&& (2147483647 : Int32)) % (12 : Int32) = (5 : Int32) ∨ (x &&& (2147483647 : Int32)) % (12 : Int32) = (6 : Int32) ∨ (x &&& (2147483647 : Int32)) % (12 : Int32) = (7 : Int32) ∨ (x &&& (2147483647 : Int32)) % (12 : Int32) = (8 : Int32) ∨ (x &&& (2147483647 : Int32)) % (12 : Int32) = (9 : Int32) ∨ (x &&& (2147483647 : Int32)) % (12 : Int32) = (10 : Int32) ∨ (x &&& (2147483647 : Int32)) % (12 : Int32) = (11 : Int32) := by
  obtain ⟨h1, h2⟩ := own_mod x 12 (by decide)
  have h3 : ((12 : Int32)).toInt = 12 := by decide
  rw [h3] at h2
  have h4 : ((x &&& (2147483647 : Int32)) % (12 : Int32)).toInt = 0 ∨ ((x &&& (2147483647 : Int32)) % (12 : Int32)).toInt = 1 ∨ ((x &&& (2147483647 : Int32)) % (12 : Int32)).toInt = 2 ∨ ((x &&& (2147483647 : Int32)) % (12 : Int32)).toInt = 3 ∨ ((x &&& (2147483647 : Int32)) % (12 : Int32)).toInt = 4 ∨ ((x &&& (2147483647 : Int32)) % (12 : Int32)).toInt = 5 ∨ ((x &&& (2147483647 : Int32)) % (12 : Int32)).toInt = 6 ∨ ((x &&& (2147483647 : Int32)) % (12 : Int32)).toInt = 7 ∨ ((x &&& (2147483647 : Int32)) % (12 : Int32)).toInt = 8 ∨ ((x &&& (2147483647 : Int32)) % (12 : Int32)).toInt = 9 ∨ ((x &&& (2147483647 : Int32)) % (12 : Int32)).toInt = 10 ∨ ((x &&& (2147483647 : Int32)) % (12 : Int32)).toInt = 11 := by omega
  rcases h4 with h4 | h4 | h4 | h4 | h4 | h4 | h4 | h4 | h4 | h4 | h4 | h4
  · exact (Or.inl (own_i32 (h4.trans (by decide))))
  · exact (Or.inr (Or.inl (own_i32 (h4.trans (by decide)))))
  · exact (Or.inr (Or.inr (Or.inl (own_i32 (h4.trans (by decide))))))
  · exact (Or.inr (Or.inr (Or.inr (Or.inl (own_i32 (h4.trans (by decide)))))))
  · exact (Or.inr (Or.inr (Or.inr (Or.inr (Or.inl (own_i32 (h4.trans (by decide))))))))
  · exact (Or.inr (Or.inr (Or.inr (Or.inr (Or.inr (Or.inl (own_i32 (h4.trans (by decide)))))))))
  · exact (Or.inr (Or.inr (Or.inr (Or.inr (Or.inr (Or.inr (Or.inl (own_i32 (h4.trans (by decide))))))))))
  · exact (Or.inr (Or.inr (Or.inr (Or.inr (Or.inr (Or.inr (Or.inr (Or.inl (own_i32 (h4.trans (by decide)))))))))))
  · exact (Or.inr (Or.inr (Or.inr (Or.inr (Or.inr (Or.inr (Or.inr (Or.inr (Or.inl (own_i32 (h4.trans (by decide))))))))))))
  · exact (Or.inr (Or.inr (Or.inr (Or.inr (Or.inr (Or.inr (Or.inr (Or.inr (Or.inr (Or.inl (own_i32 (h4.trans (by decide)))))))))))))
  · exact (Or.inr (Or.inr (Or.inr (Or.inr (Or.inr (Or.inr (Or.inr (Or.inr (Or.inr (Or.inr (Or.inl (own_i32 (h4.trans (by decide))))))))))))))
  · exact (Or.inr (Or.inr (Or.inr (Or.inr (Or.inr (Or.inr (Or.inr (Or.inr (Or.inr (Or.inr (Or.inr (own_i32 (h4.trans (by decide))))))))))))))
def OwnF (Z : State) (h : Heap) (a_TEMPURA a_SASHIMI a_DUMPLING a_MAKI1 a_MAKI2 a_MAKI3 a_SALMON a_SQUID a_EGG a_PUDDING a_WASABI a_CHOPSTICKS : Addr) : Prop := (Sta Z h "com/example/kaiten_draft/kaitendraft/cards/Card" "TEMPURA" "Lcom/example/kaiten_draft/kaitendraft/cards/Card;" (.ref a_TEMPURA)) ∧ (Exa Z h a_TEMPURA "com/example/kaiten_draft/kaitendraft/cards/Card") ∧ (Sta Z h "com/example/kaiten_draft/kaitendraft/cards/Card" "SASHIMI" "Lcom/example/kaiten_draft/kaitendraft/cards/Card;" (.ref a_SASHIMI)) ∧ (Exa Z h a_SASHIMI "com/example/kaiten_draft/kaitendraft/cards/Card") ∧ (Sta Z h "com/example/kaiten_draft/kaitendraft/cards/Card" "DUMPLING" "Lcom/example/kaiten_draft/kaitendraft/cards/Card;" (.ref a_DUMPLING)) ∧ (Exa Z h a_DUMPLING "com/example/kaiten_draft/kaitendraft/cards/Card") ∧ (Sta Z h "com/example/kaiten_draft/kaitendraft/cards/Card" "MAKI1" "Lcom/example/kaiten_draft/kaitendraft/cards/Card;" (.ref a_MAKI1)) ∧ (Exa Z h a_MAKI1 "com/example/kaiten_draft/kaitendraft/cards/Card") ∧ (Sta Z h "com/example/kaiten_draft/kaitendraft/cards/Card" "MAKI2" "Lcom/example/kaiten_draft/kaitendraft/cards/Card;" (.ref a_MAKI2)) ∧ (Exa Z h a_MAKI2 "com/example/kaiten_draft/kaitendraft/cards/Card") ∧ (Sta Z h "com/example/kaiten_draft/kaitendraft/cards/Card" "MAKI3" "Lcom/example/kaiten_draft/kaitendraft/cards/Card;" (.ref a_MAKI3)) ∧ (Exa Z h a_MAKI3 "com/example/kaiten_draft/kaitendraft/cards/Card") ∧ (Sta Z h "com/example/kaiten_draft/kaitendraft/cards/Card" "SALMON" "Lcom/example/kaiten_draft/kaitendraft/cards/Card;" (.ref a_SALMON)) ∧ (Exa Z h a_SALMON "com/example/kaiten_draft/kaitendraft/cards/Card") ∧ (Sta Z h "com/example/kaiten_draft/kaitendraft/cards/Card" "SQUID" "Lcom/example/kaiten_draft/kaitendraft/cards/Card;" (.ref a_SQUID)) ∧ (Exa Z h a_SQUID "com/example/kaiten_draft/kaitendraft/cards/Card") ∧ (Sta Z h "com/example/kaiten_draft/kaitendraft/cards/Card" "EGG" "Lcom/example/kaiten_draft/kaitendraft/cards/Card;" (.ref a_EGG)) ∧ (Exa Z h a_EGG "com/example/kaiten_draft/kaitendraft/cards/Card") ∧ (Sta Z h "com/example/kaiten_draft/kaitendraft/cards/Card" "PUDDING" "Lcom/example/kaiten_draft/kaitendraft/cards/Card;" (.ref a_PUDDING)) ∧ (Exa Z h a_PUDDING "com/example/kaiten_draft/kaitendraft/cards/Card") ∧ (Sta Z h "com/example/kaiten_draft/kaitendraft/cards/Card" "WASABI" "Lcom/example/kaiten_draft/kaitendraft/cards/Card;" (.ref a_WASABI)) ∧ (Exa Z h a_WASABI "com/example/kaiten_draft/kaitendraft/cards/Card") ∧ (Sta Z h "com/example/kaiten_draft/kaitendraft/cards/Card" "CHOPSTICKS" "Lcom/example/kaiten_draft/kaitendraft/cards/Card;" (.ref a_CHOPSTICKS)) ∧ (Exa Z h a_CHOPSTICKS "com/example/kaiten_draft/kaitendraft/cards/Card") ∧ (Fld Z h a_TEMPURA "java/lang/Enum" "ordinal" "I" (.int (0 : Int32))) ∧ (Fld Z h a_EGG "java/lang/Enum" "ordinal" "I" (.int (8 : Int32))) ∧ (Fld Z h a_SALMON "java/lang/Enum" "ordinal" "I" (.int (6 : Int32))) ∧ (Fld Z h a_SQUID "java/lang/Enum" "ordinal" "I" (.int (7 : Int32))) ∧ (Fld Z h a_MAKI1 "java/lang/Enum" "ordinal" "I" (.int (3 : Int32))) ∧ (Fld Z h a_DUMPLING "java/lang/Enum" "ordinal" "I" (.int (2 : Int32))) ∧ (Fld Z h a_CHOPSTICKS "java/lang/Enum" "ordinal" "I" (.int (11 : Int32))) ∧ (Fld Z h a_MAKI2 "java/lang/Enum" "ordinal" "I" (.int (4 : Int32))) ∧ (Fld Z h a_SASHIMI "java/lang/Enum" "ordinal" "I" (.int (1 : Int32))) ∧ (Fld Z h a_WASABI "java/lang/Enum" "ordinal" "I" (.int (10 : Int32))) ∧ (Fld Z h a_PUDDING "java/lang/Enum" "ordinal" "I" (.int (9 : Int32))) ∧ (Fld Z h a_MAKI3 "java/lang/Enum" "ordinal" "I" (.int (5 : Int32)))
theorem OwnF.s_TEMPURA {Z : State} {h : Heap} {a_TEMPURA a_SASHIMI a_DUMPLING a_MAKI1 a_MAKI2 a_MAKI3 a_SALMON a_SQUID a_EGG a_PUDDING a_WASABI a_CHOPSTICKS : Addr} (F : OwnF Z h a_TEMPURA a_SASHIMI a_DUMPLING a_MAKI1 a_MAKI2 a_MAKI3 a_SALMON a_SQUID a_EGG a_PUDDING a_WASABI a_CHOPSTICKS) : Sta Z h "com/example/kaiten_draft/kaitendraft/cards/Card" "TEMPURA" "Lcom/example/kaiten_draft/kaitendraft/cards/Card;" (.ref a_TEMPURA) := F.1
theorem OwnF.x_TEMPURA {Z : State} {h : Heap} {a_TEMPURA a_SASHIMI a_DUMPLING a_MAKI1 a_MAKI2 a_MAKI3 a_SALMON a_SQUID a_EGG a_PUDDING a_WASABI a_CHOPSTICKS : Addr} (F : OwnF Z h a_TEMPURA a_SASHIMI a_DUMPLING a_MAKI1 a_MAKI2 a_MAKI3 a_SALMON a_SQUID a_EGG a_PUDDING a_WASABI a_CHOPSTICKS) : Exa Z h a_TEMPURA "com/example/kaiten_draft/kaitendraft/cards/Card" := F.2.1
theorem OwnF.s_SASHIMI {Z : State} {h : Heap} {a_TEMPURA a_SASHIMI a_DUMPLING a_MAKI1 a_MAKI2 a_MAKI3 a_SALMON a_SQUID a_EGG a_PUDDING a_WASABI a_CHOPSTICKS : Addr} (F : OwnF Z h a_TEMPURA a_SASHIMI a_DUMPLING a_MAKI1 a_MAKI2 a_MAKI3 a_SALMON a_SQUID a_EGG a_PUDDING a_WASABI a_CHOPSTICKS) : Sta Z h "com/example/kaiten_draft/kaitendraft/cards/Card" "SASHIMI" "Lcom/example/kaiten_draft/kaitendraft/cards/Card;" (.ref a_SASHIMI) := F.2.2.1
theorem OwnF.x_SASHIMI {Z : State} {h : Heap} {a_TEMPURA a_SASHIMI a_DUMPLING a_MAKI1 a_MAKI2 a_MAKI3 a_SALMON a_SQUID a_EGG a_PUDDING a_WASABI a_CHOPSTICKS : Addr} (F : OwnF Z h a_TEMPURA a_SASHIMI a_DUMPLING a_MAKI1 a_MAKI2 a_MAKI3 a_SALMON a_SQUID a_EGG a_PUDDING a_WASABI a_CHOPSTICKS) : Exa Z h a_SASHIMI "com/example/kaiten_draft/kaitendraft/cards/Card" := F.2.2.2.1
theorem OwnF.s_DUMPLING {Z : State} {h : Heap} {a_TEMPURA a_SASHIMI a_DUMPLING a_MAKI1 a_MAKI2 a_MAKI3 a_SALMON a_SQUID a_EGG a_PUDDING a_WASABI a_CHOPSTICKS : Addr} (F : OwnF Z h a_TEMPURA a_SASHIMI a_DUMPLING a_MAKI1 a_MAKI2 a_MAKI3 a_SALMON a_SQUID a_EGG a_PUDDING a_WASABI a_CHOPSTICKS) : Sta Z h "com/example/kaiten_draft/kaitendraft/cards/Card" "DUMPLING" "Lcom/example/kaiten_draft/kaitendraft/cards/Card;" (.ref a_DUMPLING) := F.2.2.2.2.1
theorem OwnF.x_DUMPLING {Z : State} {h : Heap} {a_TEMPURA a_SASHIMI a_DUMPLING a_MAKI1 a_MAKI2 a_MAKI3 a_SALMON a_SQUID a_EGG a_PUDDING a_WASABI a_CHOPSTICKS : Addr} (F : OwnF Z h a_TEMPURA a_SASHIMI a_DUMPLING a_MAKI1 a_MAKI2 a_MAKI3 a_SALMON a_SQUID a_EGG a_PUDDING a_WASABI a_CHOPSTICKS) : Exa Z h a_DUMPLING "com/example/kaiten_draft/kaitendraft/cards/Card" := F.2.2.2.2.2.1
theorem OwnF.s_MAKI1 {Z : State} {h : Heap} {a_TEMPURA a_SASHIMI a_DUMPLING a_MAKI1 a_MAKI2 a_MAKI3 a_SALMON a_SQUID a_EGG a_PUDDING a_WASABI a_CHOPSTICKS : Addr} (F : OwnF Z h a_TEMPURA a_SASHIMI a_DUMPLING a_MAKI1 a_MAKI2 a_MAKI3 a_SALMON a_SQUID a_EGG a_PUDDING a_WASABI a_CHOPSTICKS) : Sta Z h "com/example/kaiten_draft/kaitendraft/cards/Card" "MAKI1" "Lcom/example/kaiten_draft/kaitendraft/cards/Card;" (.ref a_MAKI1) := F.2.2.2.2.2.2.1
theorem OwnF.x_MAKI1 {Z : State} {h : Heap} {a_TEMPURA a_SASHIMI a_DUMPLING a_MAKI1 a_MAKI2 a_MAKI3 a_SALMON a_SQUID a_EGG a_PUDDING a_WASABI a_CHOPSTICKS : Addr} (F : OwnF Z h a_TEMPURA a_SASHIMI a_DUMPLING a_MAKI1 a_MAKI2 a_MAKI3 a_SALMON a_SQUID a_EGG a_PUDDING a_WASABI a_CHOPSTICKS) : Exa Z h a_MAKI1 "com/example/kaiten_draft/kaitendraft/cards/Card" := F.2.2.2.2.2.2.2.1
theorem OwnF.s_MAKI2 {Z : State} {h : Heap} {a_TEMPURA a_SASHIMI a_DUMPLING a_MAKI1 a_MAKI2 a_MAKI3 a_SALMON a_SQUID a_EGG a_PUDDING a_WASABI a_CHOPSTICKS : Addr} (F : OwnF Z h a_TEMPURA a_SASHIMI a_DUMPLING a_MAKI1 a_MAKI2 a_MAKI3 a_SALMON a_SQUID a_EGG a_PUDDING a_WASABI a_CHOPSTICKS) : Sta Z h "com/example/kaiten_draft/kaitendraft/cards/Card" "MAKI2" "Lcom/example/kaiten_draft/kaitendraft/cards/Card;" (.ref a_MAKI2) := F.2.2.2.2.2.2.2.2.1
theorem OwnF.x_MAKI2 {Z : State} {h : Heap} {a_TEMPURA a_SASHIMI a_DUMPLING a_MAKI1 a_MAKI2 a_MAKI3 a_SALMON a_SQUID a_EGG a_PUDDING a_WASABI a_CHOPSTICKS : Addr} (F : OwnF Z h a_TEMPURA a_SASHIMI a_DUMPLING a_MAKI1 a_MAKI2 a_MAKI3 a_SALMON a_SQUID a_EGG a_PUDDING a_WASABI a_CHOPSTICKS) : Exa Z h a_MAKI2 "com/example/kaiten_draft/kaitendraft/cards/Card" := F.2.2.2.2.2.2.2.2.2.1
theorem OwnF.s_MAKI3 {Z : State} {h : Heap} {a_TEMPURA a_SASHIMI a_DUMPLING a_MAKI1 a_MAKI2 a_MAKI3 a_SALMON a_SQUID a_EGG a_PUDDING a_WASABI a_CHOPSTICKS : Addr} (F : OwnF Z h a_TEMPURA a_SASHIMI a_DUMPLING a_MAKI1 a_MAKI2 a_MAKI3 a_SALMON a_SQUID a_EGG a_PUDDING a_WASABI a_CHOPSTICKS) : Sta Z h "com/example/kaiten_draft/kaitendraft/cards/Card" "MAKI3" "Lcom/example/kaiten_draft/kaitendraft/cards/Card;" (.ref a_MAKI3) := F.2.2.2.2.2.2.2.2.2.2.1
theorem OwnF.x_MAKI3 {Z : State} {h : Heap} {a_TEMPURA a_SASHIMI a_DUMPLING a_MAKI1 a_MAKI2 a_MAKI3 a_SALMON a_SQUID a_EGG a_PUDDING a_WASABI a_CHOPSTICKS : Addr} (F : OwnF Z h a_TEMPURA a_SASHIMI a_DUMPLING a_MAKI1 a_MAKI2 a_MAKI3 a_SALMON a_SQUID a_EGG a_PUDDING a_WASABI a_CHOPSTICKS) : Exa Z h a_MAKI3 "com/example/kaiten_draft/kaitendraft/cards/Card" := F.2.2.2.2.2.2.2.2.2.2.2.1
theorem OwnF.s_SALMON {Z : State} {h : Heap} {a_TEMPURA a_SASHIMI a_DUMPLING a_MAKI1 a_MAKI2 a_MAKI3 a_SALMON a_SQUID a_EGG a_PUDDING a_WASABI a_CHOPSTICKS : Addr} (F : OwnF Z h a_TEMPURA a_SASHIMI a_DUMPLING a_MAKI1 a_MAKI2 a_MAKI3 a_SALMON a_SQUID a_EGG a_PUDDING a_WASABI a_CHOPSTICKS) : Sta Z h "com/example/kaiten_draft/kaitendraft/cards/Card" "SALMON" "Lcom/example/kaiten_draft/kaitendraft/cards/Card;" (.ref a_SALMON) := F.2.2.2.2.2.2.2.2.2.2.2.2.1
theorem OwnF.x_SALMON {Z : State} {h : Heap} {a_TEMPURA a_SASHIMI a_DUMPLING a_MAKI1 a_MAKI2 a_MAKI3 a_SALMON a_SQUID a_EGG a_PUDDING a_WASABI a_CHOPSTICKS : Addr} (F : OwnF Z h a_TEMPURA a_SASHIMI a_DUMPLING a_MAKI1 a_MAKI2 a_MAKI3 a_SALMON a_SQUID a_EGG a_PUDDING a_WASABI a_CHOPSTICKS) : Exa Z h a_SALMON "com/example/kaiten_draft/kaitendraft/cards/Card" := F.2.2.2.2.2.2.2.2.2.2.2.2.2.1
theorem OwnF.s_SQUID {Z : State} {h : Heap} {a_TEMPURA a_SASHIMI a_DUMPLING a_MAKI1 a_MAKI2 a_MAKI3 a_SALMON a_SQUID a_EGG a_PUDDING a_WASABI a_CHOPSTICKS : Addr} (F : OwnF Z h a_TEMPURA a_SASHIMI a_DUMPLING a_MAKI1 a_MAKI2 a_MAKI3 a_SALMON a_SQUID a_EGG a_PUDDING a_WASABI a_CHOPSTICKS) : Sta Z h "com/example/kaiten_draft/kaitendraft/cards/Card" "SQUID" "Lcom/example/kaiten_draft/kaitendraft/cards/Card;" (.ref a_SQUID) := F.2.2.2.2.2.2.2.2.2.2.2.2.2.2.1
theorem OwnF.x_SQUID {Z : State} {h : Heap} {a_TEMPURA a_SASHIMI a_DUMPLING a_MAKI1 a_MAKI2 a_MAKI3 a_SALMON a_SQUID a_EGG a_PUDDING a_WASABI a_CHOPSTICKS : Addr} (F : OwnF Z h a_TEMPURA a_SASHIMI a_DUMPLING a_MAKI1 a_MAKI2 a_MAKI3 a_SALMON a_SQUID a_EGG a_PUDDING a_WASABI a_CHOPSTICKS) : Exa Z h a_SQUID "com/example/kaiten_draft/kaitendraft/cards/Card" := F.2.2.2.2.2.2.2.2.2.2.2.2.2.2.2.1
theorem OwnF.s_EGG {Z : State} {h : Heap} {a_TEMPURA a_SASHIMI a_DUMPLING a_MAKI1 a_MAKI2 a_MAKI3 a_SALMON a_SQUID a_EGG a_PUDDING a_WASABI a_CHOPSTICKS : Addr} (F : OwnF Z h a_TEMPURA a_SASHIMI a_DUMPLING a_MAKI1 a_MAKI2 a_MAKI3 a_SALMON a_SQUID a_EGG a_PUDDING a_WASABI a_CHOPSTICKS) : Sta Z h "com/example/kaiten_draft/kaitendraft/cards/Card" "EGG" "Lcom/example/kaiten_draft/kaitendraft/cards/Card;" (.ref a_EGG) := F.2.2.2.2.2.2.2.2.2.2.2.2.2.2.2.2.1
theorem OwnF.x_EGG {Z : State} {h : Heap} {a_TEMPURA a_SASHIMI a_DUMPLING a_MAKI1 a_MAKI2 a_MAKI3 a_SALMON a_SQUID a_EGG a_PUDDING a_WASABI a_CHOPSTICKS : Addr} (F : OwnF Z h a_TEMPURA a_SASHIMI a_DUMPLING a_MAKI1 a_MAKI2 a_MAKI3 a_SALMON a_SQUID a_EGG a_PUDDING a_WASABI a_CHOPSTICKS) : Exa Z h a_EGG "com/example/kaiten_draft/kaitendraft/cards/Card" := F.2.2.2.2.2.2.2.2.2.2.2.2.2.2.2.2.2.1
theorem OwnF.s_PUDDING {Z : State} {h : Heap} {a_TEMPURA a_SASHIMI a_DUMPLING a_MAKI1 a_MAKI2 a_MAKI3 a_SALMON a_SQUID a_EGG a_PUDDING a_WASABI a_CHOPSTICKS : Addr} (F : OwnF Z h a_TEMPURA a_SASHIMI a_DUMPLING a_MAKI1 a_MAKI2 a_MAKI3 a_SALMON a_SQUID a_EGG a_PUDDING a_WASABI a_CHOPSTICKS) : Sta Z h "com/example/kaiten_draft/kaitendraft/cards/Card" "PUDDING" "Lcom/example/kaiten_draft/kaitendraft/cards/Card;" (.ref a_PUDDING) := F.2.2.2.2.2.2.2.2.2.2.2.2.2.2.2.2.2.2.1
theorem OwnF.x_PUDDING {Z : State} {h : Heap} {a_TEMPURA a_SASHIMI a_DUMPLING a_MAKI1 a_MAKI2 a_MAKI3 a_SALMON a_SQUID a_EGG a_PUDDING a_WASABI a_CHOPSTICKS : Addr} (F : OwnF Z h a_TEMPURA a_SASHIMI a_DUMPLING a_MAKI1 a_MAKI2 a_MAKI3 a_SALMON a_SQUID a_EGG a_PUDDING a_WASABI a_CHOPSTICKS) : Exa Z h a_PUDDING "com/example/kaiten_draft/kaitendraft/cards/Card" := F.2.2.2.2.2.2.2.2.2.2.2.2.2.2.2.2.2.2.2.1
theorem OwnF.s_WASABI {Z : State} {h : Heap} {a_TEMPURA a_SASHIMI a_DUMPLING a_MAKI1 a_MAKI2 a_MAKI3 a_SALMON a_SQUID a_EGG a_PUDDING a_WASABI a_CHOPSTICKS : Addr} (F : OwnF Z h a_TEMPURA a_SASHIMI a_DUMPLING a_MAKI1 a_MAKI2 a_MAKI3 a_SALMON a_SQUID a_EGG a_PUDDING a_WASABI a_CHOPSTICKS) : Sta Z h "com/example/kaiten_draft/kaitendraft/cards/Card" "WASABI" "Lcom/example/kaiten_draft/kaitendraft/cards/Card;" (.ref a_WASABI) := F.2.2.2.2.2.2.2.2.2.2.2.2.2.2.2.2.2.2.2.2.1
theorem OwnF.x_WASABI {Z : State} {h : Heap} {a_TEMPURA a_SASHIMI a_DUMPLING a_MAKI1 a_MAKI2 a_MAKI3 a_SALMON a_SQUID a_EGG a_PUDDING a_WASABI a_CHOPSTICKS : Addr} (F : OwnF Z h a_TEMPURA a_SASHIMI a_DUMPLING a_MAKI1 a_MAKI2 a_MAKI3 a_SALMON a_SQUID a_EGG a_PUDDING a_WASABI a_CHOPSTICKS) : Exa Z h a_WASABI "com/example/kaiten_draft/kaitendraft/cards/Card" := F.2.2.2.2.2.2.2.2.2.2.2.2.2.2.2.2.2.2.2.2.2.1
theorem OwnF.s_CHOPSTICKS {Z : State} {h : Heap} {a_TEMPURA a_SASHIMI a_DUMPLING a_MAKI1 a_MAKI2 a_MAKI3 a_SALMON a_SQUID a_EGG a_PUDDING a_WASABI a_CHOPSTICKS : Addr} (F : OwnF Z h a_TEMPURA a_SASHIMI a_DUMPLING a_MAKI1 a_MAKI2 a_MAKI3 a_SALMON a_SQUID a_EGG a_PUDDING a_WASABI a_CHOPSTICKS) : Sta Z h "com/example/kaiten_draft/kaitendraft/cards/Card" "CHOPSTICKS" "Lcom/example/kaiten_draft/kaitendraft/cards/Card;" (.ref a_CHOPSTICKS) := F.2.2.2.2.2.2.2.2.2.2.2.2.2.2.2.2.2.2.2.2.2.2.1
theorem OwnF.x_CHOPSTICKS {Z : State} {h : Heap} {a_TEMPURA a_SASHIMI a_DUMPLING a_MAKI1 a_MAKI2 a_MAKI3 a_SALMON a_SQUID a_EGG a_PUDDING a_WASABI a_CHOPSTICKS : Addr} (F : OwnF Z h a_TEMPURA a_SASHIMI a_DUMPLING a_MAKI1 a_MAKI2 a_MAKI3 a_SALMON a_SQUID a_EGG a_PUDDING a_WASABI a_CHOPSTICKS) : Exa Z h a_CHOPSTICKS "com/example/kaiten_draft/kaitendraft/cards/Card" := F.2.2.2.2.2.2.2.2.2.2.2.2.2.2.2.2.2.2.2.2.2.2.2.1
theorem OwnF.f_TEMPURA_ordinal {Z : State} {h : Heap} {a_TEMPURA a_SASHIMI a_DUMPLING a_MAKI1 a_MAKI2 a_MAKI3 a_SALMON a_SQUID a_EGG a_PUDDING a_WASABI a_CHOPSTICKS : Addr} (F : OwnF Z h a_TEMPURA a_SASHIMI a_DUMPLING a_MAKI1 a_MAKI2 a_MAKI3 a_SALMON a_SQUID a_EGG a_PUDDING a_WASABI a_CHOPSTICKS) : Fld Z h a_TEMPURA "java/lang/Enum" "ordinal" "I" (.int (0 : Int32)) := F.2.2.2.2.2.2.2.2.2.2.2.2.2.2.2.2.2.2.2.2.2.2.2.2.1
theorem OwnF.f_EGG_ordinal {Z : State} {h : Heap} {a_TEMPURA a_SASHIMI a_DUMPLING a_MAKI1 a_MAKI2 a_MAKI3 a_SALMON a_SQUID a_EGG a_PUDDING a_WASABI a_CHOPSTICKS : Addr} (F : OwnF Z h a_TEMPURA a_SASHIMI a_DUMPLING a_MAKI1 a_MAKI2 a_MAKI3 a_SALMON a_SQUID a_EGG a_PUDDING a_WASABI a_CHOPSTICKS) : Fld Z h a_EGG "java/lang/Enum" "ordinal" "I" (.int (8 : Int32)) := F.2.2.2.2.2.2.2.2.2.2.2.2.2.2.2.2.2.2.2.2.2.2.2.2.2.1
theorem OwnF.f_SALMON_ordinal {Z : State} {h : Heap} {a_TEMPURA a_SASHIMI a_DUMPLING a_MAKI1 a_MAKI2 a_MAKI3 a_SALMON a_SQUID a_EGG a_PUDDING a_WASABI a_CHOPSTICKS : Addr} (F : OwnF Z h a_TEMPURA a_SASHIMI a_DUMPLING a_MAKI1 a_MAKI2 a_MAKI3 a_SALMON a_SQUID a_EGG a_PUDDING a_WASABI a_CHOPSTICKS) : Fld Z h a_SALMON "java/lang/Enum" "ordinal" "I" (.int (6 : Int32)) := F.2.2.2.2.2.2.2.2.2.2.2.2.2.2.2.2.2.2.2.2.2.2.2.2.2.2.1
theorem OwnF.f_SQUID_ordinal {Z : State} {h : Heap} {a_TEMPURA a_SASHIMI a_DUMPLING a_MAKI1 a_MAKI2 a_MAKI3 a_SALMON a_SQUID a_EGG a_PUDDING a_WASABI a_CHOPSTICKS : Addr} (F : OwnF Z h a_TEMPURA a_SASHIMI a_DUMPLING a_MAKI1 a_MAKI2 a_MAKI3 a_SALMON a_SQUID a_EGG a_PUDDING a_WASABI a_CHOPSTICKS) : Fld Z h a_SQUID "java/lang/Enum" "ordinal" "I" (.int (7 : Int32)) := F.2.2.2.2.2.2.2.2.2.2.2.2.2.2.2.2.2.2.2.2.2.2.2.2.2.2.2.1
theorem OwnF.f_MAKI1_ordinal {Z : State} {h : Heap} {a_TEMPURA a_SASHIMI a_DUMPLING a_MAKI1 a_MAKI2 a_MAKI3 a_SALMON a_SQUID a_EGG a_PUDDING a_WASABI a_CHOPSTICKS : Addr} (F : OwnF Z h a_TEMPURA a_SASHIMI a_DUMPLING a_MAKI1 a_MAKI2 a_MAKI3 a_SALMON a_SQUID a_EGG a_PUDDING a_WASABI a_CHOPSTICKS) : Fld Z h a_MAKI1 "java/lang/Enum" "ordinal" "I" (.int (3 : Int32)) := F.2.2.2.2.2.2.2.2.2.2.2.2.2.2.2.2.2.2.2.2.2.2.2.2.2.2.2.2.1
theorem OwnF.f_DUMPLING_ordinal {Z : State} {h : Heap} {a_TEMPURA a_SASHIMI a_DUMPLING a_MAKI1 a_MAKI2 a_MAKI3 a_SALMON a_SQUID a_EGG a_PUDDING a_WASABI a_CHOPSTICKS : Addr} (F : OwnF Z h a_TEMPURA a_SASHIMI a_DUMPLING a_MAKI1 a_MAKI2 a_MAKI3 a_SALMON a_SQUID a_EGG a_PUDDING a_WASABI a_CHOPSTICKS) : Fld Z h a_DUMPLING "java/lang/Enum" "ordinal" "I" (.int (2 : Int32)) := F.2.2.2.2.2.2.2.2.2.2.2.2.2.2.2.2.2.2.2.2.2.2.2.2.2.2.2.2.2.1
theorem OwnF.f_CHOPSTICKS_ordinal {Z : State} {h : Heap} {a_TEMPURA a_SASHIMI a_DUMPLING a_MAKI1 a_MAKI2 a_MAKI3 a_SALMON a_SQUID a_EGG a_PUDDING a_WASABI a_CHOPSTICKS : Addr} (F : OwnF Z h a_TEMPURA a_SASHIMI a_DUMPLING a_MAKI1 a_MAKI2 a_MAKI3 a_SALMON a_SQUID a_EGG a_PUDDING a_WASABI a_CHOPSTICKS) : Fld Z h a_CHOPSTICKS "java/lang/Enum" "ordinal" "I" (.int (11 : Int32)) := F.2.2.2.2.2.2.2.2.2.2.2.2.2.2.2.2.2.2.2.2.2.2.2.2.2.2.2.2.2.2.1
theorem OwnF.f_MAKI2_ordinal {Z : State} {h : Heap} {a_TEMPURA a_SASHIMI a_DUMPLING a_MAKI1 a_MAKI2 a_MAKI3 a_SALMON a_SQUID a_EGG a_PUDDING a_WASABI a_CHOPSTICKS : Addr} (F : OwnF Z h a_TEMPURA a_SASHIMI a_DUMPLING a_MAKI1 a_MAKI2 a_MAKI3 a_SALMON a_SQUID a_EGG a_PUDDING a_WASABI a_CHOPSTICKS) : Fld Z h a_MAKI2 "java/lang/Enum" "ordinal" "I" (.int (4 : Int32)) := F.2.2.2.2.2.2.2.2.2.2.2.2.2.2.2.2.2.2.2.2.2.2.2.2.2.2.2.2.2.2.2.1
theorem OwnF.f_SASHIMI_ordinal {Z : State} {h : Heap} {a_TEMPURA a_SASHIMI a_DUMPLING a_MAKI1 a_MAKI2 a_MAKI3 a_SALMON a_SQUID a_EGG a_PUDDING a_WASABI a_CHOPSTICKS : Addr} (F : OwnF Z h a_TEMPURA a_SASHIMI a_DUMPLING a_MAKI1 a_MAKI2 a_MAKI3 a_SALMON a_SQUID a_EGG a_PUDDING a_WASABI a_CHOPSTICKS) : Fld Z h a_SASHIMI "java/lang/Enum" "ordinal" "I" (.int (1 : Int32)) := F.2.2.2.2.2.2.2.2.2.2.2.2.2.2.2.2.2.2.2.2.2.2.2.2.2.2.2.2.2.2.2.2.1
theorem OwnF.f_WASABI_ordinal {Z : State} {h : Heap} {a_TEMPURA a_SASHIMI a_DUMPLING a_MAKI1 a_MAKI2 a_MAKI3 a_SALMON a_SQUID a_EGG a_PUDDING a_WASABI a_CHOPSTICKS : Addr} (F : OwnF Z h a_TEMPURA a_SASHIMI a_DUMPLING a_MAKI1 a_MAKI2 a_MAKI3 a_SALMON a_SQUID a_EGG a_PUDDING a_WASABI a_CHOPSTICKS) : Fld Z h a_WASABI "java/lang/Enum" "ordinal" "I" (.int (10 : Int32)) := F.2.2.2.2.2.2.2.2.2.2.2.2.2.2.2.2.2.2.2.2.2.2.2.2.2.2.2.2.2.2.2.2.2.1
theorem OwnF.f_PUDDING_ordinal {Z : State} {h : Heap} {a_TEMPURA a_SASHIMI a_DUMPLING a_MAKI1 a_MAKI2 a_MAKI3 a_SALMON a_SQUID a_EGG a_PUDDING a_WASABI a_CHOPSTICKS : Addr} (F : OwnF Z h a_TEMPURA a_SASHIMI a_DUMPLING a_MAKI1 a_MAKI2 a_MAKI3 a_SALMON a_SQUID a_EGG a_PUDDING a_WASABI a_CHOPSTICKS) : Fld Z h a_PUDDING "java/lang/Enum" "ordinal" "I" (.int (9 : Int32)) := F.2.2.2.2.2.2.2.2.2.2.2.2.2.2.2.2.2.2.2.2.2.2.2.2.2.2.2.2.2.2.2.2.2.2.1
theorem OwnF.f_MAKI3_ordinal {Z : State} {h : Heap} {a_TEMPURA a_SASHIMI a_DUMPLING a_MAKI1 a_MAKI2 a_MAKI3 a_SALMON a_SQUID a_EGG a_PUDDING a_WASABI a_CHOPSTICKS : Addr} (F : OwnF Z h a_TEMPURA a_SASHIMI a_DUMPLING a_MAKI1 a_MAKI2 a_MAKI3 a_SALMON a_SQUID a_EGG a_PUDDING a_WASABI a_CHOPSTICKS) : Fld Z h a_MAKI3 "java/lang/Enum" "ordinal" "I" (.int (5 : Int32)) := F.2.2.2.2.2.2.2.2.2.2.2.2.2.2.2.2.2.2.2.2.2.2.2.2.2.2.2.2.2.2.2.2.2.2.2
theorem OwnF.ext {Z : State} {h h' : Heap} {a_TEMPURA a_SASHIMI a_DUMPLING a_MAKI1 a_MAKI2 a_MAKI3 a_SALMON a_SQUID a_EGG a_PUDDING a_WASABI a_CHOPSTICKS : Addr} (F : OwnF Z h a_TEMPURA a_SASHIMI a_DUMPLING a_MAKI1 a_MAKI2 a_MAKI3 a_SALMON a_SQUID a_EGG a_PUDDING a_WASABI a_CHOPSTICKS) (E : Ext h h') : OwnF Z h' a_TEMPURA a_SASHIMI a_DUMPLING a_MAKI1 a_MAKI2 a_MAKI3 a_SALMON a_SQUID a_EGG a_PUDDING a_WASABI a_CHOPSTICKS := ⟨F.s_TEMPURA.ext E, F.x_TEMPURA.ext E, F.s_SASHIMI.ext E, F.x_SASHIMI.ext E, F.s_DUMPLING.ext E, F.x_DUMPLING.ext E, F.s_MAKI1.ext E, F.x_MAKI1.ext E, F.s_MAKI2.ext E, F.x_MAKI2.ext E, F.s_MAKI3.ext E, F.x_MAKI3.ext E, F.s_SALMON.ext E, F.x_SALMON.ext E, F.s_SQUID.ext E, F.x_SQUID.ext E, F.s_EGG.ext E, F.x_EGG.ext E, F.s_PUDDING.ext E, F.x_PUDDING.ext E, F.s_WASABI.ext E, F.x_WASABI.ext E, F.s_CHOPSTICKS.ext E, F.x_CHOPSTICKS.ext E, F.f_TEMPURA_ordinal.ext E, F.f_EGG_ordinal.ext E, F.f_SALMON_ordinal.ext E, F.f_SQUID_ordinal.ext E, F.f_MAKI1_ordinal.ext E, F.f_DUMPLING_ordinal.ext E, F.f_CHOPSTICKS_ordinal.ext E, F.f_MAKI2_ordinal.ext E, F.f_SASHIMI_ordinal.ext E, F.f_WASABI_ordinal.ext E, F.f_PUDDING_ordinal.ext E, F.f_MAKI3_ordinal.ext E⟩
set_option maxRecDepth 65536 in
set_option maxHeartbeats 40000000 in
theorem m_0 {l : Launch} {Z : State} {a0 : Array Value} {n0 : Nat} {h : Heap} {a_TEMPURA a_SASHIMI a_DUMPLING a_MAKI1 a_MAKI2 a_MAKI3 a_SALMON a_SQUID a_EGG a_PUDDING a_WASABI a_CHOPSTICKS : Addr} (hw : ∀ d ∈ tables_1, d.before a0 Z = true) (F : OwnF Z h a_TEMPURA a_SASHIMI a_DUMPLING a_MAKI1 a_MAKI2 a_MAKI3 a_SALMON a_SQUID a_EGG a_PUDDING a_WASABI a_CHOPSTICKS) : Met l Z n0 (⟨"com/example/kaiten_draft/kaitendraft/cards/Card", "isNigiri", "()Z"⟩ : MethodName) prog_10_method_6_code 1 (Option.some Jvm.ClassFile.FieldType.boolean) (⟨0, 0, 0, 0⟩ : Room) #[(.ref a_TEMPURA)] h (fun v h' => v = some (.int (0 : Int32)) ∧ h' = h) := by
  refine Met.of_wk (ls := #[.val (.ref a_TEMPURA)]) (plainFor_of_name pn_0) (fun _ => rfl) ?_
  show Wk l Z n0 "com/example/kaiten_draft/kaitendraft/cards/Card" "isNigiri" prog_10_method_6_code 1 (Option.some Jvm.ClassFile.FieldType.boolean) (⟨0, 0, 0, 0⟩ : Room) 0 0 (fun v h' => v = some (.int (0 : Int32)) ∧ h' = h) h 0 0 0 #[.val (.ref a_TEMPURA)] []
  refine Wk.aloadN (q := 1) d1_0 rfl rfl rfl ?_
  refine Wk.getS (q := 4) (w_34 hw) Via.refl F.s_EGG d1_1 rfl ?_
  refine Wk.acmpF (q := 7) d1_4 rfl rfl rfl (own_neR (Fld.ne F.f_TEMPURA_ordinal F.f_EGG_ordinal (by decide))) ?_
  refine Wk.aloadN (q := 8) d1_7 rfl rfl rfl ?_
  refine Wk.getS (q := 11) (w_35 hw) Via.refl F.s_SALMON d1_8 rfl ?_
  refine Wk.acmpF (q := 14) d1_11 rfl rfl rfl (own_neR (Fld.ne F.f_TEMPURA_ordinal F.f_SALMON_ordinal (by decide))) ?_
  refine Wk.aloadN (q := 15) d1_14 rfl rfl rfl ?_
  refine Wk.getS (q := 18) (w_36 hw) Via.refl F.s_SQUID d1_15 rfl ?_
  refine Wk.acmpT (q := 25) d1_18 (by decide) rfl rfl rfl (own_neR (Fld.ne F.f_TEMPURA_ordinal F.f_SQUID_ordinal (by decide))) ?_
  refine Wk.iconst (q := 26) (v := (0 : Int32)) d1_25 rfl rfl ?_
  exact Wk.retZ rfl rfl d1_26 (by decide) (by decide) ⟨rfl, rfl⟩
set_option maxRecDepth 65536 in
set_option maxHeartbeats 40000000 in
theorem m_1 {l : Launch} {Z : State} {a0 : Array Value} {n0 : Nat} {h : Heap} {a_TEMPURA a_SASHIMI a_DUMPLING a_MAKI1 a_MAKI2 a_MAKI3 a_SALMON a_SQUID a_EGG a_PUDDING a_WASABI a_CHOPSTICKS : Addr} (hw : ∀ d ∈ tables_1, d.before a0 Z = true) (F : OwnF Z h a_TEMPURA a_SASHIMI a_DUMPLING a_MAKI1 a_MAKI2 a_MAKI3 a_SALMON a_SQUID a_EGG a_PUDDING a_WASABI a_CHOPSTICKS) : Met l Z n0 (⟨"com/example/kaiten_draft/kaitendraft/cards/Card", "isNigiri", "()Z"⟩ : MethodName) prog_10_method_6_code 1 (Option.some Jvm.ClassFile.FieldType.boolean) (⟨0, 0, 0, 0⟩ : Room) #[(.ref a_SASHIMI)] h (fun v h' => v = some (.int (0 : Int32)) ∧ h' = h) := by
  refine Met.of_wk (ls := #[.val (.ref a_SASHIMI)]) (plainFor_of_name pn_0) (fun _ => rfl) ?_
  show Wk l Z n0 "com/example/kaiten_draft/kaitendraft/cards/Card" "isNigiri" prog_10_method_6_code 1 (Option.some Jvm.ClassFile.FieldType.boolean) (⟨0, 0, 0, 0⟩ : Room) 0 0 (fun v h' => v = some (.int (0 : Int32)) ∧ h' = h) h 0 0 0 #[.val (.ref a_SASHIMI)] []
  refine Wk.aloadN (q := 1) d1_0 rfl rfl rfl ?_
  refine Wk.getS (q := 4) (w_34 hw) Via.refl F.s_EGG d1_1 rfl ?_
  refine Wk.acmpF (q := 7) d1_4 rfl rfl rfl (own_neR (Fld.ne F.f_SASHIMI_ordinal F.f_EGG_ordinal (by decide))) ?_
  refine Wk.aloadN (q := 8) d1_7 rfl rfl rfl ?_
  refine Wk.getS (q := 11) (w_35 hw) Via.refl F.s_SALMON d1_8 rfl ?_
  refine Wk.acmpF (q := 14) d1_11 rfl rfl rfl (own_neR (Fld.ne F.f_SASHIMI_ordinal F.f_SALMON_ordinal (by decide))) ?_
  refine Wk.aloadN (q := 15) d1_14 rfl rfl rfl ?_
  refine Wk.getS (q := 18) (w_36 hw) Via.refl F.s_SQUID d1_15 rfl ?_
  refine Wk.acmpT (q := 25) d1_18 (by decide) rfl rfl rfl (own_neR (Fld.ne F.f_SASHIMI_ordinal F.f_SQUID_ordinal (by decide))) ?_
  refine Wk.iconst (q := 26) (v := (0 : Int32)) d1_25 rfl rfl ?_
  exact Wk.retZ rfl rfl d1_26 (by decide) (by decide) ⟨rfl, rfl⟩
set_option maxRecDepth 65536 in
set_option maxHeartbeats 40000000 in
theorem m_2 {l : Launch} {Z : State} {a0 : Array Value} {n0 : Nat} {h : Heap} {a_TEMPURA a_SASHIMI a_DUMPLING a_MAKI1 a_MAKI2 a_MAKI3 a_SALMON a_SQUID a_EGG a_PUDDING a_WASABI a_CHOPSTICKS : Addr} (hw : ∀ d ∈ tables_1, d.before a0 Z = true) (F : OwnF Z h a_TEMPURA a_SASHIMI a_DUMPLING a_MAKI1 a_MAKI2 a_MAKI3 a_SALMON a_SQUID a_EGG a_PUDDING a_WASABI a_CHOPSTICKS) : Met l Z n0 (⟨"com/example/kaiten_draft/kaitendraft/cards/Card", "isNigiri", "()Z"⟩ : MethodName) prog_10_method_6_code 1 (Option.some Jvm.ClassFile.FieldType.boolean) (⟨0, 0, 0, 0⟩ : Room) #[(.ref a_DUMPLING)] h (fun v h' => v = some (.int (0 : Int32)) ∧ h' = h) := by
  refine Met.of_wk (ls := #[.val (.ref a_DUMPLING)]) (plainFor_of_name pn_0) (fun _ => rfl) ?_
  show Wk l Z n0 "com/example/kaiten_draft/kaitendraft/cards/Card" "isNigiri" prog_10_method_6_code 1 (Option.some Jvm.ClassFile.FieldType.boolean) (⟨0, 0, 0, 0⟩ : Room) 0 0 (fun v h' => v = some (.int (0 : Int32)) ∧ h' = h) h 0 0 0 #[.val (.ref a_DUMPLING)] []
  refine Wk.aloadN (q := 1) d1_0 rfl rfl rfl ?_
  refine Wk.getS (q := 4) (w_34 hw) Via.refl F.s_EGG d1_1 rfl ?_
  refine Wk.acmpF (q := 7) d1_4 rfl rfl rfl (own_neR (Fld.ne F.f_DUMPLING_ordinal F.f_EGG_ordinal (by decide))) ?_
  refine Wk.aloadN (q := 8) d1_7 rfl rfl rfl ?_
  refine Wk.getS (q := 11) (w_35 hw) Via.refl F.s_SALMON d1_8 rfl ?_
  refine Wk.acmpF (q := 14) d1_11 rfl rfl rfl (own_neR (Fld.ne F.f_DUMPLING_ordinal F.f_SALMON_ordinal (by decide))) ?_
  refine Wk.aloadN (q := 15) d1_14 rfl rfl rfl ?_
  refine Wk.getS (q := 18) (w_36 hw) Via.refl F.s_SQUID d1_15 rfl ?_
  refine Wk.acmpT (q := 25) d1_18 (by decide) rfl rfl rfl (own_neR (Fld.ne F.f_DUMPLING_ordinal F.f_SQUID_ordinal (by decide))) ?_
  refine Wk.iconst (q := 26) (v := (0 : Int32)) d1_25 rfl rfl ?_
  exact Wk.retZ rfl rfl d1_26 (by decide) (by decide) ⟨rfl, rfl⟩
set_option maxRecDepth 65536 in
set_option maxHeartbeats 40000000 in
theorem m_3 {l : Launch} {Z : State} {a0 : Array Value} {n0 : Nat} {h : Heap} {a_TEMPURA a_SASHIMI a_DUMPLING a_MAKI1 a_MAKI2 a_MAKI3 a_SALMON a_SQUID a_EGG a_PUDDING a_WASABI a_CHOPSTICKS : Addr} (hw : ∀ d ∈ tables_1, d.before a0 Z = true) (F : OwnF Z h a_TEMPURA a_SASHIMI a_DUMPLING a_MAKI1 a_MAKI2 a_MAKI3 a_SALMON a_SQUID a_EGG a_PUDDING a_WASABI a_CHOPSTICKS) : Met l Z n0 (⟨"com/example/kaiten_draft/kaitendraft/cards/Card", "isNigiri", "()Z"⟩ : MethodName) prog_10_method_6_code 1 (Option.some Jvm.ClassFile.FieldType.boolean) (⟨0, 0, 0, 0⟩ : Room) #[(.ref a_MAKI1)] h (fun v h' => v = some (.int (0 : Int32)) ∧ h' = h) := by
  refine Met.of_wk (ls := #[.val (.ref a_MAKI1)]) (plainFor_of_name pn_0) (fun _ => rfl) ?_
  show Wk l Z n0 "com/example/kaiten_draft/kaitendraft/cards/Card" "isNigiri" prog_10_method_6_code 1 (Option.some Jvm.ClassFile.FieldType.boolean) (⟨0, 0, 0, 0⟩ : Room) 0 0 (fun v h' => v = some (.int (0 : Int32)) ∧ h' = h) h 0 0 0 #[.val (.ref a_MAKI1)] []
  refine Wk.aloadN (q := 1) d1_0 rfl rfl rfl ?_
  refine Wk.getS (q := 4) (w_34 hw) Via.refl F.s_EGG d1_1 rfl ?_
  refine Wk.acmpF (q := 7) d1_4 rfl rfl rfl (own_neR (Fld.ne F.f_MAKI1_ordinal F.f_EGG_ordinal (by decide))) ?_
  refine Wk.aloadN (q := 8) d1_7 rfl rfl rfl ?_
  refine Wk.getS (q := 11) (w_35 hw) Via.refl F.s_SALMON d1_8 rfl ?_
  refine Wk.acmpF (q := 14) d1_11 rfl rfl rfl (own_neR (Fld.ne F.f_MAKI1_ordinal F.f_SALMON_ordinal (by decide))) ?_
  refine Wk.aloadN (q := 15) d1_14 rfl rfl rfl ?_
  refine Wk.getS (q := 18) (w_36 hw) Via.refl F.s_SQUID d1_15 rfl ?_
  refine Wk.acmpT (q := 25) d1_18 (by decide) rfl rfl rfl (own_neR (Fld.ne F.f_MAKI1_ordinal F.f_SQUID_ordinal (by decide))) ?_
  refine Wk.iconst (q := 26) (v := (0 : Int32)) d1_25 rfl rfl ?_
  exact Wk.retZ rfl rfl d1_26 (by decide) (by decide) ⟨rfl, rfl⟩
set_option maxRecDepth 65536 in
set_option maxHeartbeats 40000000 in
theorem m_4 {l : Launch} {Z : State} {a0 : Array Value} {n0 : Nat} {h : Heap} {a_TEMPURA a_SASHIMI a_DUMPLING a_MAKI1 a_MAKI2 a_MAKI3 a_SALMON a_SQUID a_EGG a_PUDDING a_WASABI a_CHOPSTICKS : Addr} (hw : ∀ d ∈ tables_1, d.before a0 Z = true) (F : OwnF Z h a_TEMPURA a_SASHIMI a_DUMPLING a_MAKI1 a_MAKI2 a_MAKI3 a_SALMON a_SQUID a_EGG a_PUDDING a_WASABI a_CHOPSTICKS) : Met l Z n0 (⟨"com/example/kaiten_draft/kaitendraft/cards/Card", "isNigiri", "()Z"⟩ : MethodName) prog_10_method_6_code 1 (Option.some Jvm.ClassFile.FieldType.boolean) (⟨0, 0, 0, 0⟩ : Room) #[(.ref a_MAKI2)] h (fun v h' => v = some (.int (0 : Int32)) ∧ h' = h) := by
  refine Met.of_wk (ls := #[.val (.ref a_MAKI2)]) (plainFor_of_name pn_0) (fun _ => rfl) ?_
  show Wk l Z n0 "com/example/kaiten_draft/kaitendraft/cards/Card" "isNigiri" prog_10_method_6_code 1 (Option.some Jvm.ClassFile.FieldType.boolean) (⟨0, 0, 0, 0⟩ : Room) 0 0 (fun v h' => v = some (.int (0 : Int32)) ∧ h' = h) h 0 0 0 #[.val (.ref a_MAKI2)] []
  refine Wk.aloadN (q := 1) d1_0 rfl rfl rfl ?_
  refine Wk.getS (q := 4) (w_34 hw) Via.refl F.s_EGG d1_1 rfl ?_
  refine Wk.acmpF (q := 7) d1_4 rfl rfl rfl (own_neR (Fld.ne F.f_MAKI2_ordinal F.f_EGG_ordinal (by decide))) ?_
  refine Wk.aloadN (q := 8) d1_7 rfl rfl rfl ?_
  refine Wk.getS (q := 11) (w_35 hw) Via.refl F.s_SALMON d1_8 rfl ?_
  refine Wk.acmpF (q := 14) d1_11 rfl rfl rfl (own_neR (Fld.ne F.f_MAKI2_ordinal F.f_SALMON_ordinal (by decide))) ?_
  refine Wk.aloadN (q := 15) d1_14 rfl rfl rfl ?_
  refine Wk.getS (q := 18) (w_36 hw) Via.refl F.s_SQUID d1_15 rfl ?_
  refine Wk.acmpT (q := 25) d1_18 (by decide) rfl rfl rfl (own_neR (Fld.ne F.f_MAKI2_ordinal F.f_SQUID_ordinal (by decide))) ?_
  refine Wk.iconst (q := 26) (v := (0 : Int32)) d1_25 rfl rfl ?_
  exact Wk.retZ rfl rfl d1_26 (by decide) (by decide) ⟨rfl, rfl⟩
set_option maxRecDepth 65536 in
set_option maxHeartbeats 40000000 in
theorem m_5 {l : Launch} {Z : State} {a0 : Array Value} {n0 : Nat} {h : Heap} {a_TEMPURA a_SASHIMI a_DUMPLING a_MAKI1 a_MAKI2 a_MAKI3 a_SALMON a_SQUID a_EGG a_PUDDING a_WASABI a_CHOPSTICKS : Addr} (hw : ∀ d ∈ tables_1, d.before a0 Z = true) (F : OwnF Z h a_TEMPURA a_SASHIMI a_DUMPLING a_MAKI1 a_MAKI2 a_MAKI3 a_SALMON a_SQUID a_EGG a_PUDDING a_WASABI a_CHOPSTICKS) : Met l Z n0 (⟨"com/example/kaiten_draft/kaitendraft/cards/Card", "isNigiri", "()Z"⟩ : MethodName) prog_10_method_6_code 1 (Option.some Jvm.ClassFile.FieldType.boolean) (⟨0, 0, 0, 0⟩ : Room) #[(.ref a_MAKI3)] h (fun v h' => v = some (.int (0 : Int32)) ∧ h' = h) := by
  refine Met.of_wk (ls := #[.val (.ref a_MAKI3)]) (plainFor_of_name pn_0) (fun _ => rfl) ?_
  show Wk l Z n0 "com/example/kaiten_draft/kaitendraft/cards/Card" "isNigiri" prog_10_method_6_code 1 (Option.some Jvm.ClassFile.FieldType.boolean) (⟨0, 0, 0, 0⟩ : Room) 0 0 (fun v h' => v = some (.int (0 : Int32)) ∧ h' = h) h 0 0 0 #[.val (.ref a_MAKI3)] []
  refine Wk.aloadN (q := 1) d1_0 rfl rfl rfl ?_
  refine Wk.getS (q := 4) (w_34 hw) Via.refl F.s_EGG d1_1 rfl ?_
  refine Wk.acmpF (q := 7) d1_4 rfl rfl rfl (own_neR (Fld.ne F.f_MAKI3_ordinal F.f_EGG_ordinal (by decide))) ?_
  refine Wk.aloadN (q := 8) d1_7 rfl rfl rfl ?_
  refine Wk.getS (q := 11) (w_35 hw) Via.refl F.s_SALMON d1_8 rfl ?_
  refine Wk.acmpF (q := 14) d1_11 rfl rfl rfl (own_neR (Fld.ne F.f_MAKI3_ordinal F.f_SALMON_ordinal (by decide))) ?_
  refine Wk.aloadN (q := 15) d1_14 rfl rfl rfl ?_
  refine Wk.getS (q := 18) (w_36 hw) Via.refl F.s_SQUID d1_15 rfl ?_
  refine Wk.acmpT (q := 25) d1_18 (by decide) rfl rfl rfl (own_neR (Fld.ne F.f_MAKI3_ordinal F.f_SQUID_ordinal (by decide))) ?_
  refine Wk.iconst (q := 26) (v := (0 : Int32)) d1_25 rfl rfl ?_
  exact Wk.retZ rfl rfl d1_26 (by decide) (by decide) ⟨rfl, rfl⟩
set_option maxRecDepth 65536 in
set_option maxHeartbeats 40000000 in
theorem m_6 {l : Launch} {Z : State} {a0 : Array Value} {n0 : Nat} {h : Heap} {a_TEMPURA a_SASHIMI a_DUMPLING a_MAKI1 a_MAKI2 a_MAKI3 a_SALMON a_SQUID a_EGG a_PUDDING a_WASABI a_CHOPSTICKS : Addr} (hw : ∀ d ∈ tables_1, d.before a0 Z = true) (F : OwnF Z h a_TEMPURA a_SASHIMI a_DUMPLING a_MAKI1 a_MAKI2 a_MAKI3 a_SALMON a_SQUID a_EGG a_PUDDING a_WASABI a_CHOPSTICKS) : Met l Z n0 (⟨"com/example/kaiten_draft/kaitendraft/cards/Card", "isNigiri", "()Z"⟩ : MethodName) prog_10_method_6_code 1 (Option.some Jvm.ClassFile.FieldType.boolean) (⟨0, 0, 0, 0⟩ : Room) #[(.ref a_SALMON)] h (fun v h' => v = some (.int (1 : Int32)) ∧ h' = h) := by
  refine Met.of_wk (ls := #[.val (.ref a_SALMON)]) (plainFor_of_name pn_0) (fun _ => rfl) ?_
  show Wk l Z n0 "com/example/kaiten_draft/kaitendraft/cards/Card" "isNigiri" prog_10_method_6_code 1 (Option.some Jvm.ClassFile.FieldType.boolean) (⟨0, 0, 0, 0⟩ : Room) 0 0 (fun v h' => v = some (.int (1 : Int32)) ∧ h' = h) h 0 0 0 #[.val (.ref a_SALMON)] []
  refine Wk.aloadN (q := 1) d1_0 rfl rfl rfl ?_
  refine Wk.getS (q := 4) (w_34 hw) Via.refl F.s_EGG d1_1 rfl ?_
  refine Wk.acmpF (q := 7) d1_4 rfl rfl rfl (own_neR (Fld.ne F.f_SALMON_ordinal F.f_EGG_ordinal (by decide))) ?_
  refine Wk.aloadN (q := 8) d1_7 rfl rfl rfl ?_
  refine Wk.getS (q := 11) (w_35 hw) Via.refl F.s_SALMON d1_8 rfl ?_
  refine Wk.acmpT (q := 21) d1_11 (by decide) rfl rfl rfl rfl ?_
  refine Wk.iconst (q := 22) (v := (1 : Int32)) d1_21 rfl rfl ?_
  refine Wk.goto (q := 26) d1_22 (by decide) rfl ?_
  exact Wk.retZ rfl rfl d1_26 (by decide) (by decide) ⟨rfl, rfl⟩
set_option maxRecDepth 65536 in
set_option maxHeartbeats 40000000 in
theorem m_7 {l : Launch} {Z : State} {a0 : Array Value} {n0 : Nat} {h : Heap} {a_TEMPURA a_SASHIMI a_DUMPLING a_MAKI1 a_MAKI2 a_MAKI3 a_SALMON a_SQUID a_EGG a_PUDDING a_WASABI a_CHOPSTICKS : Addr} (hw : ∀ d ∈ tables_1, d.before a0 Z = true) (F : OwnF Z h a_TEMPURA a_SASHIMI a_DUMPLING a_MAKI1 a_MAKI2 a_MAKI3 a_SALMON a_SQUID a_EGG a_PUDDING a_WASABI a_CHOPSTICKS) : Met l Z n0 (⟨"com/example/kaiten_draft/kaitendraft/cards/Card", "isNigiri", "()Z"⟩ : MethodName) prog_10_method_6_code 1 (Option.some Jvm.ClassFile.FieldType.boolean) (⟨0, 0, 0, 0⟩ : Room) #[(.ref a_SQUID)] h (fun v h' => v = some (.int (1 : Int32)) ∧ h' = h) := by
  refine Met.of_wk (ls := #[.val (.ref a_SQUID)]) (plainFor_of_name pn_0) (fun _ => rfl) ?_
  show Wk l Z n0 "com/example/kaiten_draft/kaitendraft/cards/Card" "isNigiri" prog_10_method_6_code 1 (Option.some Jvm.ClassFile.FieldType.boolean) (⟨0, 0, 0, 0⟩ : Room) 0 0 (fun v h' => v = some (.int (1 : Int32)) ∧ h' = h) h 0 0 0 #[.val (.ref a_SQUID)] []
  refine Wk.aloadN (q := 1) d1_0 rfl rfl rfl ?_
  refine Wk.getS (q := 4) (w_34 hw) Via.refl F.s_EGG d1_1 rfl ?_
  refine Wk.acmpF (q := 7) d1_4 rfl rfl rfl (own_neR (Fld.ne F.f_SQUID_ordinal F.f_EGG_ordinal (by decide))) ?_
  refine Wk.aloadN (q := 8) d1_7 rfl rfl rfl ?_
  refine Wk.getS (q := 11) (w_35 hw) Via.refl F.s_SALMON d1_8 rfl ?_
  refine Wk.acmpF (q := 14) d1_11 rfl rfl rfl (own_neR (Fld.ne F.f_SQUID_ordinal F.f_SALMON_ordinal (by decide))) ?_
  refine Wk.aloadN (q := 15) d1_14 rfl rfl rfl ?_
  refine Wk.getS (q := 18) (w_36 hw) Via.refl F.s_SQUID d1_15 rfl ?_
  refine Wk.acmpF (q := 21) d1_18 rfl rfl rfl rfl ?_
  refine Wk.iconst (q := 22) (v := (1 : Int32)) d1_21 rfl rfl ?_
  refine Wk.goto (q := 26) d1_22 (by decide) rfl ?_
  exact Wk.retZ rfl rfl d1_26 (by decide) (by decide) ⟨rfl, rfl⟩
set_option maxRecDepth 65536 in
set_option maxHeartbeats 40000000 in
theorem m_8 {l : Launch} {Z : State} {a0 : Array Value} {n0 : Nat} {h : Heap} {a_TEMPURA a_SASHIMI a_DUMPLING a_MAKI1 a_MAKI2 a_MAKI3 a_SALMON a_SQUID a_EGG a_PUDDING a_WASABI a_CHOPSTICKS : Addr} (hw : ∀ d ∈ tables_1, d.before a0 Z = true) (F : OwnF Z h a_TEMPURA a_SASHIMI a_DUMPLING a_MAKI1 a_MAKI2 a_MAKI3 a_SALMON a_SQUID a_EGG a_PUDDING a_WASABI a_CHOPSTICKS) : Met l Z n0 (⟨"com/example/kaiten_draft/kaitendraft/cards/Card", "isNigiri", "()Z"⟩ : MethodName) prog_10_method_6_code 1 (Option.some Jvm.ClassFile.FieldType.boolean) (⟨0, 0, 0, 0⟩ : Room) #[(.ref a_EGG)] h (fun v h' => v = some (.int (1 : Int32)) ∧ h' = h) := by
  refine Met.of_wk (ls := #[.val (.ref a_EGG)]) (plainFor_of_name pn_0) (fun _ => rfl) ?_
  show Wk l Z n0 "com/example/kaiten_draft/kaitendraft/cards/Card" "isNigiri" prog_10_method_6_code 1 (Option.some Jvm.ClassFile.FieldType.boolean) (⟨0, 0, 0, 0⟩ : Room) 0 0 (fun v h' => v = some (.int (1 : Int32)) ∧ h' = h) h 0 0 0 #[.val (.ref a_EGG)] []
  refine Wk.aloadN (q := 1) d1_0 rfl rfl rfl ?_
  refine Wk.getS (q := 4) (w_34 hw) Via.refl F.s_EGG d1_1 rfl ?_
  refine Wk.acmpT (q := 21) d1_4 (by decide) rfl rfl rfl rfl ?_
  refine Wk.iconst (q := 22) (v := (1 : Int32)) d1_21 rfl rfl ?_
  refine Wk.goto (q := 26) d1_22 (by decide) rfl ?_
  exact Wk.retZ rfl rfl d1_26 (by decide) (by decide) ⟨rfl, rfl⟩
set_option maxRecDepth 65536 in
set_option maxHeartbeats 40000000 in
theorem m_9 {l : Launch} {Z : State} {a0 : Array Value} {n0 : Nat} {h : Heap} {a_TEMPURA a_SASHIMI a_DUMPLING a_MAKI1 a_MAKI2 a_MAKI3 a_SALMON a_SQUID a_EGG a_PUDDING a_WASABI a_CHOPSTICKS : Addr} (hw : ∀ d ∈ tables_1, d.before a0 Z = true) (F : OwnF Z h a_TEMPURA a_SASHIMI a_DUMPLING a_MAKI1 a_MAKI2 a_MAKI3 a_SALMON a_SQUID a_EGG a_PUDDING a_WASABI a_CHOPSTICKS) : Met l Z n0 (⟨"com/example/kaiten_draft/kaitendraft/cards/Card", "isNigiri", "()Z"⟩ : MethodName) prog_10_method_6_code 1 (Option.some Jvm.ClassFile.FieldType.boolean) (⟨0, 0, 0, 0⟩ : Room) #[(.ref a_PUDDING)] h (fun v h' => v = some (.int (0 : Int32)) ∧ h' = h) := by
  refine Met.of_wk (ls := #[.val (.ref a_PUDDING)]) (plainFor_of_name pn_0) (fun _ => rfl) ?_
  show Wk l Z n0 "com/example/kaiten_draft/kaitendraft/cards/Card" "isNigiri" prog_10_method_6_code 1 (Option.some Jvm.ClassFile.FieldType.boolean) (⟨0, 0, 0, 0⟩ : Room) 0 0 (fun v h' => v = some (.int (0 : Int32)) ∧ h' = h) h 0 0 0 #[.val (.ref a_PUDDING)] []
  refine Wk.aloadN (q := 1) d1_0 rfl rfl rfl ?_
  refine Wk.getS (q := 4) (w_34 hw) Via.refl F.s_EGG d1_1 rfl ?_
  refine Wk.acmpF (q := 7) d1_4 rfl rfl rfl (own_neR (Fld.ne F.f_PUDDING_ordinal F.f_EGG_ordinal (by decide))) ?_
  refine Wk.aloadN (q := 8) d1_7 rfl rfl rfl ?_
  refine Wk.getS (q := 11) (w_35 hw) Via.refl F.s_SALMON d1_8 rfl ?_
  refine Wk.acmpF (q := 14) d1_11 rfl rfl rfl (own_neR (Fld.ne F.f_PUDDING_ordinal F.f_SALMON_ordinal (by decide))) ?_
  refine Wk.aloadN (q := 15) d1_14 rfl rfl rfl ?_
  refine Wk.getS (q := 18) (w_36 hw) Via.refl F.s_SQUID d1_15 rfl ?_
  refine Wk.acmpT (q := 25) d1_18 (by decide) rfl rfl rfl (own_neR (Fld.ne F.f_PUDDING_ordinal F.f_SQUID_ordinal (by decide))) ?_
  refine Wk.iconst (q := 26) (v := (0 : Int32)) d1_25 rfl rfl ?_
  exact Wk.retZ rfl rfl d1_26 (by decide) (by decide) ⟨rfl, rfl⟩
set_option maxRecDepth 65536 in
set_option maxHeartbeats 40000000 in
theorem m_10 {l : Launch} {Z : State} {a0 : Array Value} {n0 : Nat} {h : Heap} {a_TEMPURA a_SASHIMI a_DUMPLING a_MAKI1 a_MAKI2 a_MAKI3 a_SALMON a_SQUID a_EGG a_PUDDING a_WASABI a_CHOPSTICKS : Addr} (hw : ∀ d ∈ tables_1, d.before a0 Z = true) (F : OwnF Z h a_TEMPURA a_SASHIMI a_DUMPLING a_MAKI1 a_MAKI2 a_MAKI3 a_SALMON a_SQUID a_EGG a_PUDDING a_WASABI a_CHOPSTICKS) : Met l Z n0 (⟨"com/example/kaiten_draft/kaitendraft/cards/Card", "isNigiri", "()Z"⟩ : MethodName) prog_10_method_6_code 1 (Option.some Jvm.ClassFile.FieldType.boolean) (⟨0, 0, 0, 0⟩ : Room) #[(.ref a_WASABI)] h (fun v h' => v = some (.int (0 : Int32)) ∧ h' = h) := by
  refine Met.of_wk (ls := #[.val (.ref a_WASABI)]) (plainFor_of_name pn_0) (fun _ => rfl) ?_
  show Wk l Z n0 "com/example/kaiten_draft/kaitendraft/cards/Card" "isNigiri" prog_10_method_6_code 1 (Option.some Jvm.ClassFile.FieldType.boolean) (⟨0, 0, 0, 0⟩ : Room) 0 0 (fun v h' => v = some (.int (0 : Int32)) ∧ h' = h) h 0 0 0 #[.val (.ref a_WASABI)] []
  refine Wk.aloadN (q := 1) d1_0 rfl rfl rfl ?_
  refine Wk.getS (q := 4) (w_34 hw) Via.refl F.s_EGG d1_1 rfl ?_
  refine Wk.acmpF (q := 7) d1_4 rfl rfl rfl (own_neR (Fld.ne F.f_WASABI_ordinal F.f_EGG_ordinal (by decide))) ?_
  refine Wk.aloadN (q := 8) d1_7 rfl rfl rfl ?_
  refine Wk.getS (q := 11) (w_35 hw) Via.refl F.s_SALMON d1_8 rfl ?_
  refine Wk.acmpF (q := 14) d1_11 rfl rfl rfl (own_neR (Fld.ne F.f_WASABI_ordinal F.f_SALMON_ordinal (by decide))) ?_
  refine Wk.aloadN (q := 15) d1_14 rfl rfl rfl ?_
  refine Wk.getS (q := 18) (w_36 hw) Via.refl F.s_SQUID d1_15 rfl ?_
  refine Wk.acmpT (q := 25) d1_18 (by decide) rfl rfl rfl (own_neR (Fld.ne F.f_WASABI_ordinal F.f_SQUID_ordinal (by decide))) ?_
  refine Wk.iconst (q := 26) (v := (0 : Int32)) d1_25 rfl rfl ?_
  exact Wk.retZ rfl rfl d1_26 (by decide) (by decide) ⟨rfl, rfl⟩
set_option maxRecDepth 65536 in
set_option maxHeartbeats 40000000 in
theorem m_11 {l : Launch} {Z : State} {a0 : Array Value} {n0 : Nat} {h : Heap} {a_TEMPURA a_SASHIMI a_DUMPLING a_MAKI1 a_MAKI2 a_MAKI3 a_SALMON a_SQUID a_EGG a_PUDDING a_WASABI a_CHOPSTICKS : Addr} (hw : ∀ d ∈ tables_1, d.before a0 Z = true) (F : OwnF Z h a_TEMPURA a_SASHIMI a_DUMPLING a_MAKI1 a_MAKI2 a_MAKI3 a_SALMON a_SQUID a_EGG a_PUDDING a_WASABI a_CHOPSTICKS) : Met l Z n0 (⟨"com/example/kaiten_draft/kaitendraft/cards/Card", "isNigiri", "()Z"⟩ : MethodName) prog_10_method_6_code 1 (Option.some Jvm.ClassFile.FieldType.boolean) (⟨0, 0, 0, 0⟩ : Room) #[(.ref a_CHOPSTICKS)] h (fun v h' => v = some (.int (0 : Int32)) ∧ h' = h) := by
  refine Met.of_wk (ls := #[.val (.ref a_CHOPSTICKS)]) (plainFor_of_name pn_0) (fun _ => rfl) ?_
  show Wk l Z n0 "com/example/kaiten_draft/kaitendraft/cards/Card" "isNigiri" prog_10_method_6_code 1 (Option.some Jvm.ClassFile.FieldType.boolean) (⟨0, 0, 0, 0⟩ : Room) 0 0 (fun v h' => v = some (.int (0 : Int32)) ∧ h' = h) h 0 0 0 #[.val (.ref a_CHOPSTICKS)] []
  refine Wk.aloadN (q := 1) d1_0 rfl rfl rfl ?_
  refine Wk.getS (q := 4) (w_34 hw) Via.refl F.s_EGG d1_1 rfl ?_
  refine Wk.acmpF (q := 7) d1_4 rfl rfl rfl (own_neR (Fld.ne F.f_CHOPSTICKS_ordinal F.f_EGG_ordinal (by decide))) ?_
  refine Wk.aloadN (q := 8) d1_7 rfl rfl rfl ?_
  refine Wk.getS (q := 11) (w_35 hw) Via.refl F.s_SALMON d1_8 rfl ?_
  refine Wk.acmpF (q := 14) d1_11 rfl rfl rfl (own_neR (Fld.ne F.f_CHOPSTICKS_ordinal F.f_SALMON_ordinal (by decide))) ?_
  refine Wk.aloadN (q := 15) d1_14 rfl rfl rfl ?_
  refine Wk.getS (q := 18) (w_36 hw) Via.refl F.s_SQUID d1_15 rfl ?_
  refine Wk.acmpT (q := 25) d1_18 (by decide) rfl rfl rfl (own_neR (Fld.ne F.f_CHOPSTICKS_ordinal F.f_SQUID_ordinal (by decide))) ?_
  refine Wk.iconst (q := 26) (v := (0 : Int32)) d1_25 rfl rfl ?_
  exact Wk.retZ rfl rfl d1_26 (by decide) (by decide) ⟨rfl, rfl⟩
set_option maxRecDepth 65536 in
set_option maxHeartbeats 40000000 in
theorem law_tail_0 {l : Launch} {Z : State} {a0 : Array Value} {n0 : Nat} {h : Heap} {a_TEMPURA a_SASHIMI a_DUMPLING a_MAKI1 a_MAKI2 a_MAKI3 a_SALMON a_SQUID a_EGG a_PUDDING a_WASABI a_CHOPSTICKS : Addr} (hw : ∀ d ∈ tables_1, d.before a0 Z = true) (F : OwnF Z h a_TEMPURA a_SASHIMI a_DUMPLING a_MAKI1 a_MAKI2 a_MAKI3 a_SALMON a_SQUID a_EGG a_PUDDING a_WASABI a_CHOPSTICKS) {a1 : Addr} {c1 : Cell} (p0 : Int32) (A1 : Arr Z h a1 c1 (.object "com/example/kaiten_draft/kaitendraft/cards/Card")) (S1 : c1.slots.size = 12) (e_0 : c1.slots[0]? = some (Value.ref a_TEMPURA)) (e_1 : c1.slots[1]? = some (Value.ref a_SASHIMI)) (e_2 : c1.slots[2]? = some (Value.ref a_DUMPLING)) (e_3 : c1.slots[3]? = some (Value.ref a_MAKI1)) (e_4 : c1.slots[4]? = some (Value.ref a_MAKI2)) (e_5 : c1.slots[5]? = some (Value.ref a_MAKI3)) (e_6 : c1.slots[6]? = some (Value.ref a_SALMON)) (e_7 : c1.slots[7]? = some (Value.ref a_SQUID)) (e_8 : c1.slots[8]? = some (Value.ref a_EGG)) (e_9 : c1.slots[9]? = some (Value.ref a_PUDDING)) (e_10 : c1.slots[10]? = some (Value.ref a_WASABI)) (e_11 : c1.slots[11]? = some (Value.ref a_CHOPSTICKS)) (k_p0 : ((p0 &&& (2147483647 : Int32)) % (12 : Int32)) = (0 : Int32)) : Wk l Z n0 "com/example/kaiten_draft/kaitendraft/cards/CardIsNigiriPinLaw" "law" code maxLocals ret room_1 16 128 (fun v _ => v = some (.int (1 : Int32))) h 1 12 84 #[.val (.int p0), .val (.ref a1), .unset, .unset] [] := by
  refine Wk.iloadN (q := 85) at_84 rfl rfl ?_
  refine Wk.ldcI (q := 87) (w_28 hw) at_85 rfl ?_
  refine Wk.iand (q := 88) (v := (p0 &&& (2147483647 : Int32))) at_87 rfl rfl ?_
  refine Wk.bipush (q := 90) (v := (12 : Int32)) at_88 rfl rfl ?_
  refine Wk.irem (q := 91) (v := (0 : Int32)) at_90 rfl (by decide) k_p0 ?_
  refine Wk.istoreN (q := 92) (ls' := #[.val (.int p0), .val (.ref a1), .val (.int (0 : Int32)), .unset]) at_91 rfl rfl ?_
  refine Wk.iloadN (q := 93) at_92 rfl rfl ?_
  refine Wk.bipush (q := 95) (v := (6 : Int32)) at_93 rfl rfl ?_
  refine Wk.icmpT (q := 108) at_95 (by decide) rfl (by decide : (0 : Int32) < (6 : Int32)) ?_
  refine Wk.iconst (q := 109) (v := (0 : Int32)) at_108 rfl rfl ?_
  refine Wk.istoreN (q := 110) (ls' := #[.val (.int p0), .val (.ref a1), .val (.int (0 : Int32)), .val (.int (0 : Int32))]) at_109 rfl rfl ?_
  refine Wk.aloadN (q := 111) at_110 rfl rfl rfl ?_
  refine Wk.iloadN (q := 112) at_111 rfl rfl ?_
  refine Wk.aaload (q := 113) A1 rfl (by rw [S1]; decide) e_0 at_112 rfl ?_
  refine Wk.callV1 (a := a_TEMPURA) (q := 116) (argsL := []) (rest := []) (fr := 0) (lo := 0) (v0 := (.int (0 : Int32))) (m_0 hw F) F.x_TEMPURA (w_29 hw) (w_30 hw) (w_32 hw) (w_31 hw) (w_33 hw) (w_3 hw) (by decide) pd_0 rfl rfl rfl at_113 rfl (W := 0) rfl (by decide) (by decide) (by decide) (by decide) ?_
  refine Wk.iloadN (q := 117) at_116 rfl rfl ?_
  refine Wk.icmpF (q := 120) at_117 rfl (by decide : (0 : Int32) = (0 : Int32)) ?_
  refine Wk.iconst (q := 121) (v := (1 : Int32)) at_120 rfl rfl ?_
  refine Wk.goto (q := 125) at_121 (by decide) rfl ?_
  exact Wk.retZ rfl rfl at_125 (by decide) (by decide) rfl
set_option maxRecDepth 65536 in
set_option maxHeartbeats 40000000 in
theorem law_tail_1 {l : Launch} {Z : State} {a0 : Array Value} {n0 : Nat} {h : Heap} {a_TEMPURA a_SASHIMI a_DUMPLING a_MAKI1 a_MAKI2 a_MAKI3 a_SALMON a_SQUID a_EGG a_PUDDING a_WASABI a_CHOPSTICKS : Addr} (hw : ∀ d ∈ tables_1, d.before a0 Z = true) (F : OwnF Z h a_TEMPURA a_SASHIMI a_DUMPLING a_MAKI1 a_MAKI2 a_MAKI3 a_SALMON a_SQUID a_EGG a_PUDDING a_WASABI a_CHOPSTICKS) {a1 : Addr} {c1 : Cell} (p0 : Int32) (A1 : Arr Z h a1 c1 (.object "com/example/kaiten_draft/kaitendraft/cards/Card")) (S1 : c1.slots.size = 12) (e_0 : c1.slots[0]? = some (Value.ref a_TEMPURA)) (e_1 : c1.slots[1]? = some (Value.ref a_SASHIMI)) (e_2 : c1.slots[2]? = some (Value.ref a_DUMPLING)) (e_3 : c1.slots[3]? = some (Value.ref a_MAKI1)) (e_4 : c1.slots[4]? = some (Value.ref a_MAKI2)) (e_5 : c1.slots[5]? = some (Value.ref a_MAKI3)) (e_6 : c1.slots[6]? = some (Value.ref a_SALMON)) (e_7 : c1.slots[7]? = some (Value.ref a_SQUID)) (e_8 : c1.slots[8]? = some (Value.ref a_EGG)) (e_9 : c1.slots[9]? = some (Value.ref a_PUDDING)) (e_10 : c1.slots[10]? = some (Value.ref a_WASABI)) (e_11 : c1.slots[11]? = some (Value.ref a_CHOPSTICKS)) (k_p0 : ((p0 &&& (2147483647 : Int32)) % (12 : Int32)) = (1 : Int32)) : Wk l Z n0 "com/example/kaiten_draft/kaitendraft/cards/CardIsNigiriPinLaw" "law" code maxLocals ret room_1 16 128 (fun v _ => v = some (.int (1 : Int32))) h 1 12 84 #[.val (.int p0), .val (.ref a1), .unset, .unset] [] := by
  refine Wk.iloadN (q := 85) at_84 rfl rfl ?_
  refine Wk.ldcI (q := 87) (w_28 hw) at_85 rfl ?_
  refine Wk.iand (q := 88) (v := (p0 &&& (2147483647 : Int32))) at_87 rfl rfl ?_
  refine Wk.bipush (q := 90) (v := (12 : Int32)) at_88 rfl rfl ?_
  refine Wk.irem (q := 91) (v := (1 : Int32)) at_90 rfl (by decide) k_p0 ?_
  refine Wk.istoreN (q := 92) (ls' := #[.val (.int p0), .val (.ref a1), .val (.int (1 : Int32)), .unset]) at_91 rfl rfl ?_
  refine Wk.iloadN (q := 93) at_92 rfl rfl ?_
  refine Wk.bipush (q := 95) (v := (6 : Int32)) at_93 rfl rfl ?_
  refine Wk.icmpT (q := 108) at_95 (by decide) rfl (by decide : (1 : Int32) < (6 : Int32)) ?_
  refine Wk.iconst (q := 109) (v := (0 : Int32)) at_108 rfl rfl ?_
  refine Wk.istoreN (q := 110) (ls' := #[.val (.int p0), .val (.ref a1), .val (.int (1 : Int32)), .val (.int (0 : Int32))]) at_109 rfl rfl ?_
  refine Wk.aloadN (q := 111) at_110 rfl rfl rfl ?_
  refine Wk.iloadN (q := 112) at_111 rfl rfl ?_
  refine Wk.aaload (q := 113) A1 rfl (by rw [S1]; decide) e_1 at_112 rfl ?_
  refine Wk.callV1 (a := a_SASHIMI) (q := 116) (argsL := []) (rest := []) (fr := 0) (lo := 0) (v0 := (.int (0 : Int32))) (m_1 hw F) F.x_SASHIMI (w_29 hw) (w_30 hw) (w_32 hw) (w_31 hw) (w_33 hw) (w_3 hw) (by decide) pd_0 rfl rfl rfl at_113 rfl (W := 0) rfl (by decide) (by decide) (by decide) (by decide) ?_
  refine Wk.iloadN (q := 117) at_116 rfl rfl ?_
  refine Wk.icmpF (q := 120) at_117 rfl (by decide : (0 : Int32) = (0 : Int32)) ?_
  refine Wk.iconst (q := 121) (v := (1 : Int32)) at_120 rfl rfl ?_
  refine Wk.goto (q := 125) at_121 (by decide) rfl ?_
  exact Wk.retZ rfl rfl at_125 (by decide) (by decide) rfl
set_option maxRecDepth 65536 in
set_option maxHeartbeats 40000000 in
theorem law_tail_2 {l : Launch} {Z : State} {a0 : Array Value} {n0 : Nat} {h : Heap} {a_TEMPURA a_SASHIMI a_DUMPLING a_MAKI1 a_MAKI2 a_MAKI3 a_SALMON a_SQUID a_EGG a_PUDDING a_WASABI a_CHOPSTICKS : Addr} (hw : ∀ d ∈ tables_1, d.before a0 Z = true) (F : OwnF Z h a_TEMPURA a_SASHIMI a_DUMPLING a_MAKI1 a_MAKI2 a_MAKI3 a_SALMON a_SQUID a_EGG a_PUDDING a_WASABI a_CHOPSTICKS) {a1 : Addr} {c1 : Cell} (p0 : Int32) (A1 : Arr Z h a1 c1 (.object "com/example/kaiten_draft/kaitendraft/cards/Card")) (S1 : c1.slots.size = 12) (e_0 : c1.slots[0]? = some (Value.ref a_TEMPURA)) (e_1 : c1.slots[1]? = some (Value.ref a_SASHIMI)) (e_2 : c1.slots[2]? = some (Value.ref a_DUMPLING)) (e_3 : c1.slots[3]? = some (Value.ref a_MAKI1)) (e_4 : c1.slots[4]? = some (Value.ref a_MAKI2)) (e_5 : c1.slots[5]? = some (Value.ref a_MAKI3)) (e_6 : c1.slots[6]? = some (Value.ref a_SALMON)) (e_7 : c1.slots[7]? = some (Value.ref a_SQUID)) (e_8 : c1.slots[8]? = some (Value.ref a_EGG)) (e_9 : c1.slots[9]? = some (Value.ref a_PUDDING)) (e_10 : c1.slots[10]? = some (Value.ref a_WASABI)) (e_11 : c1.slots[11]? = some (Value.ref a_CHOPSTICKS)) (k_p0 : ((p0 &&& (2147483647 : Int32)) % (12 : Int32)) = (2 : Int32)) : Wk l Z n0 "com/example/kaiten_draft/kaitendraft/cards/CardIsNigiriPinLaw" "law" code maxLocals ret room_1 16 128 (fun v _ => v = some (.int (1 : Int32))) h 1 12 84 #[.val (.int p0), .val (.ref a1), .unset, .unset] [] := by
  refine Wk.iloadN (q := 85) at_84 rfl rfl ?_
  refine Wk.ldcI (q := 87) (w_28 hw) at_85 rfl ?_
  refine Wk.iand (q := 88) (v := (p0 &&& (2147483647 : Int32))) at_87 rfl rfl ?_
  refine Wk.bipush (q := 90) (v := (12 : Int32)) at_88 rfl rfl ?_
  refine Wk.irem (q := 91) (v := (2 : Int32)) at_90 rfl (by decide) k_p0 ?_
  refine Wk.istoreN (q := 92) (ls' := #[.val (.int p0), .val (.ref a1), .val (.int (2 : Int32)), .unset]) at_91 rfl rfl ?_
  refine Wk.iloadN (q := 93) at_92 rfl rfl ?_
  refine Wk.bipush (q := 95) (v := (6 : Int32)) at_93 rfl rfl ?_
  refine Wk.icmpT (q := 108) at_95 (by decide) rfl (by decide : (2 : Int32) < (6 : Int32)) ?_
  refine Wk.iconst (q := 109) (v := (0 : Int32)) at_108 rfl rfl ?_
  refine Wk.istoreN (q := 110) (ls' := #[.val (.int p0), .val (.ref a1), .val (.int (2 : Int32)), .val (.int (0 : Int32))]) at_109 rfl rfl ?_
  refine Wk.aloadN (q := 111) at_110 rfl rfl rfl ?_
  refine Wk.iloadN (q := 112) at_111 rfl rfl ?_
  refine Wk.aaload (q := 113) A1 rfl (by rw [S1]; decide) e_2 at_112 rfl ?_
  refine Wk.callV1 (a := a_DUMPLING) (q := 116) (argsL := []) (rest := []) (fr := 0) (lo := 0) (v0 := (.int (0 : Int32))) (m_2 hw F) F.x_DUMPLING (w_29 hw) (w_30 hw) (w_32 hw) (w_31 hw) (w_33 hw) (w_3 hw) (by decide) pd_0 rfl rfl rfl at_113 rfl (W := 0) rfl (by decide) (by decide) (by decide) (by decide) ?_
  refine Wk.iloadN (q := 117) at_116 rfl rfl ?_
  refine Wk.icmpF (q := 120) at_117 rfl (by decide : (0 : Int32) = (0 : Int32)) ?_
  refine Wk.iconst (q := 121) (v := (1 : Int32)) at_120 rfl rfl ?_
  refine Wk.goto (q := 125) at_121 (by decide) rfl ?_
  exact Wk.retZ rfl rfl at_125 (by decide) (by decide) rfl
set_option maxRecDepth 65536 in
set_option maxHeartbeats 40000000 in
theorem law_tail_3 {l : Launch} {Z : State} {a0 : Array Value} {n0 : Nat} {h : Heap} {a_TEMPURA a_SASHIMI a_DUMPLING a_MAKI1 a_MAKI2 a_MAKI3 a_SALMON a_SQUID a_EGG a_PUDDING a_WASABI a_CHOPSTICKS : Addr} (hw : ∀ d ∈ tables_1, d.before a0 Z = true) (F : OwnF Z h a_TEMPURA a_SASHIMI a_DUMPLING a_MAKI1 a_MAKI2 a_MAKI3 a_SALMON a_SQUID a_EGG a_PUDDING a_WASABI a_CHOPSTICKS) {a1 : Addr} {c1 : Cell} (p0 : Int32) (A1 : Arr Z h a1 c1 (.object "com/example/kaiten_draft/kaitendraft/cards/Card")) (S1 : c1.slots.size = 12) (e_0 : c1.slots[0]? = some (Value.ref a_TEMPURA)) (e_1 : c1.slots[1]? = some (Value.ref a_SASHIMI)) (e_2 : c1.slots[2]? = some (Value.ref a_DUMPLING)) (e_3 : c1.slots[3]? = some (Value.ref a_MAKI1)) (e_4 : c1.slots[4]? = some (Value.ref a_MAKI2)) (e_5 : c1.slots[5]? = some (Value.ref a_MAKI3)) (e_6 : c1.slots[6]? = some (Value.ref a_SALMON)) (e_7 : c1.slots[7]? = some (Value.ref a_SQUID)) (e_8 : c1.slots[8]? = some (Value.ref a_EGG)) (e_9 : c1.slots[9]? = some (Value.ref a_PUDDING)) (e_10 : c1.slots[10]? = some (Value.ref a_WASABI)) (e_11 : c1.slots[11]? = some (Value.ref a_CHOPSTICKS)) (k_p0 : ((p0 &&& (2147483647 : Int32)) % (12 : Int32)) = (3 : Int32)) : Wk l Z n0 "com/example/kaiten_draft/kaitendraft/cards/CardIsNigiriPinLaw" "law" code maxLocals ret room_1 16 128 (fun v _ => v = some (.int (1 : Int32))) h 1 12 84 #[.val (.int p0), .val (.ref a1), .unset, .unset] [] := by
  refine Wk.iloadN (q := 85) at_84 rfl rfl ?_
  refine Wk.ldcI (q := 87) (w_28 hw) at_85 rfl ?_
  refine Wk.iand (q := 88) (v := (p0 &&& (2147483647 : Int32))) at_87 rfl rfl ?_
  refine Wk.bipush (q := 90) (v := (12 : Int32)) at_88 rfl rfl ?_
  refine Wk.irem (q := 91) (v := (3 : Int32)) at_90 rfl (by decide) k_p0 ?_
  refine Wk.istoreN (q := 92) (ls' := #[.val (.int p0), .val (.ref a1), .val (.int (3 : Int32)), .unset]) at_91 rfl rfl ?_
  refine Wk.iloadN (q := 93) at_92 rfl rfl ?_
  refine Wk.bipush (q := 95) (v := (6 : Int32)) at_93 rfl rfl ?_
  refine Wk.icmpT (q := 108) at_95 (by decide) rfl (by decide : (3 : Int32) < (6 : Int32)) ?_
  refine Wk.iconst (q := 109) (v := (0 : Int32)) at_108 rfl rfl ?_
  refine Wk.istoreN (q := 110) (ls' := #[.val (.int p0), .val (.ref a1), .val (.int (3 : Int32)), .val (.int (0 : Int32))]) at_109 rfl rfl ?_
  refine Wk.aloadN (q := 111) at_110 rfl rfl rfl ?_
  refine Wk.iloadN (q := 112) at_111 rfl rfl ?_
  refine Wk.aaload (q := 113) A1 rfl (by rw [S1]; decide) e_3 at_112 rfl ?_
  refine Wk.callV1 (a := a_MAKI1) (q := 116) (argsL := []) (rest := []) (fr := 0) (lo := 0) (v0 := (.int (0 : Int32))) (m_3 hw F) F.x_MAKI1 (w_29 hw) (w_30 hw) (w_32 hw) (w_31 hw) (w_33 hw) (w_3 hw) (by decide) pd_0 rfl rfl rfl at_113 rfl (W := 0) rfl (by decide) (by decide) (by decide) (by decide) ?_
  refine Wk.iloadN (q := 117) at_116 rfl rfl ?_
  refine Wk.icmpF (q := 120) at_117 rfl (by decide : (0 : Int32) = (0 : Int32)) ?_
  refine Wk.iconst (q := 121) (v := (1 : Int32)) at_120 rfl rfl ?_
  refine Wk.goto (q := 125) at_121 (by decide) rfl ?_
  exact Wk.retZ rfl rfl at_125 (by decide) (by decide) rfl
set_option maxRecDepth 65536 in
set_option maxHeartbeats 40000000 in
theorem law_tail_4 {l : Launch} {Z : State} {a0 : Array Value} {n0 : Nat} {h : Heap} {a_TEMPURA a_SASHIMI a_DUMPLING a_MAKI1 a_MAKI2 a_MAKI3 a_SALMON a_SQUID a_EGG a_PUDDING a_WASABI a_CHOPSTICKS : Addr} (hw : ∀ d ∈ tables_1, d.before a0 Z = true) (F : OwnF Z h a_TEMPURA a_SASHIMI a_DUMPLING a_MAKI1 a_MAKI2 a_MAKI3 a_SALMON a_SQUID a_EGG a_PUDDING a_WASABI a_CHOPSTICKS) {a1 : Addr} {c1 : Cell} (p0 : Int32) (A1 : Arr Z h a1 c1 (.object "com/example/kaiten_draft/kaitendraft/cards/Card")) (S1 : c1.slots.size = 12) (e_0 : c1.slots[0]? = some (Value.ref a_TEMPURA)) (e_1 : c1.slots[1]? = some (Value.ref a_SASHIMI)) (e_2 : c1.slots[2]? = some (Value.ref a_DUMPLING)) (e_3 : c1.slots[3]? = some (Value.ref a_MAKI1)) (e_4 : c1.slots[4]? = some (Value.ref a_MAKI2)) (e_5 : c1.slots[5]? = some (Value.ref a_MAKI3)) (e_6 : c1.slots[6]? = some (Value.ref a_SALMON)) (e_7 : c1.slots[7]? = some (Value.ref a_SQUID)) (e_8 : c1.slots[8]? = some (Value.ref a_EGG)) (e_9 : c1.slots[9]? = some (Value.ref a_PUDDING)) (e_10 : c1.slots[10]? = some (Value.ref a_WASABI)) (e_11 : c1.slots[11]? = some (Value.ref a_CHOPSTICKS)) (k_p0 : ((p0 &&& (2147483647 : Int32)) % (12 : Int32)) = (4 : Int32)) : Wk l Z n0 "com/example/kaiten_draft/kaitendraft/cards/CardIsNigiriPinLaw" "law" code maxLocals ret room_1 16 128 (fun v _ => v = some (.int (1 : Int32))) h 1 12 84 #[.val (.int p0), .val (.ref a1), .unset, .unset] [] := by
  refine Wk.iloadN (q := 85) at_84 rfl rfl ?_
  refine Wk.ldcI (q := 87) (w_28 hw) at_85 rfl ?_
  refine Wk.iand (q := 88) (v := (p0 &&& (2147483647 : Int32))) at_87 rfl rfl ?_
  refine Wk.bipush (q := 90) (v := (12 : Int32)) at_88 rfl rfl ?_
  refine Wk.irem (q := 91) (v := (4 : Int32)) at_90 rfl (by decide) k_p0 ?_
  refine Wk.istoreN (q := 92) (ls' := #[.val (.int p0), .val (.ref a1), .val (.int (4 : Int32)), .unset]) at_91 rfl rfl ?_
  refine Wk.iloadN (q := 93) at_92 rfl rfl ?_
  refine Wk.bipush (q := 95) (v := (6 : Int32)) at_93 rfl rfl ?_
  refine Wk.icmpT (q := 108) at_95 (by decide) rfl (by decide : (4 : Int32) < (6 : Int32)) ?_
  refine Wk.iconst (q := 109) (v := (0 : Int32)) at_108 rfl rfl ?_
  refine Wk.istoreN (q := 110) (ls' := #[.val (.int p0), .val (.ref a1), .val (.int (4 : Int32)), .val (.int (0 : Int32))]) at_109 rfl rfl ?_
  refine Wk.aloadN (q := 111) at_110 rfl rfl rfl ?_
  refine Wk.iloadN (q := 112) at_111 rfl rfl ?_
  refine Wk.aaload (q := 113) A1 rfl (by rw [S1]; decide) e_4 at_112 rfl ?_
  refine Wk.callV1 (a := a_MAKI2) (q := 116) (argsL := []) (rest := []) (fr := 0) (lo := 0) (v0 := (.int (0 : Int32))) (m_4 hw F) F.x_MAKI2 (w_29 hw) (w_30 hw) (w_32 hw) (w_31 hw) (w_33 hw) (w_3 hw) (by decide) pd_0 rfl rfl rfl at_113 rfl (W := 0) rfl (by decide) (by decide) (by decide) (by decide) ?_
  refine Wk.iloadN (q := 117) at_116 rfl rfl ?_
  refine Wk.icmpF (q := 120) at_117 rfl (by decide : (0 : Int32) = (0 : Int32)) ?_
  refine Wk.iconst (q := 121) (v := (1 : Int32)) at_120 rfl rfl ?_
  refine Wk.goto (q := 125) at_121 (by decide) rfl ?_
  exact Wk.retZ rfl rfl at_125 (by decide) (by decide) rfl
set_option maxRecDepth 65536 in
set_option maxHeartbeats 40000000 in
theorem law_tail_5 {l : Launch} {Z : State} {a0 : Array Value} {n0 : Nat} {h : Heap} {a_TEMPURA a_SASHIMI a_DUMPLING a_MAKI1 a_MAKI2 a_MAKI3 a_SALMON a_SQUID a_EGG a_PUDDING a_WASABI a_CHOPSTICKS : Addr} (hw : ∀ d ∈ tables_1, d.before a0 Z = true) (F : OwnF Z h a_TEMPURA a_SASHIMI a_DUMPLING a_MAKI1 a_MAKI2 a_MAKI3 a_SALMON a_SQUID a_EGG a_PUDDING a_WASABI a_CHOPSTICKS) {a1 : Addr} {c1 : Cell} (p0 : Int32) (A1 : Arr Z h a1 c1 (.object "com/example/kaiten_draft/kaitendraft/cards/Card")) (S1 : c1.slots.size = 12) (e_0 : c1.slots[0]? = some (Value.ref a_TEMPURA)) (e_1 : c1.slots[1]? = some (Value.ref a_SASHIMI)) (e_2 : c1.slots[2]? = some (Value.ref a_DUMPLING)) (e_3 : c1.slots[3]? = some (Value.ref a_MAKI1)) (e_4 : c1.slots[4]? = some (Value.ref a_MAKI2)) (e_5 : c1.slots[5]? = some (Value.ref a_MAKI3)) (e_6 : c1.slots[6]? = some (Value.ref a_SALMON)) (e_7 : c1.slots[7]? = some (Value.ref a_SQUID)) (e_8 : c1.slots[8]? = some (Value.ref a_EGG)) (e_9 : c1.slots[9]? = some (Value.ref a_PUDDING)) (e_10 : c1.slots[10]? = some (Value.ref a_WASABI)) (e_11 : c1.slots[11]? = some (Value.ref a_CHOPSTICKS)) (k_p0 : ((p0 &&& (2147483647 : Int32)) % (12 : Int32)) = (5 : Int32)) : Wk l Z n0 "com/example/kaiten_draft/kaitendraft/cards/CardIsNigiriPinLaw" "law" code maxLocals ret room_1 16 128 (fun v _ => v = some (.int (1 : Int32))) h 1 12 84 #[.val (.int p0), .val (.ref a1), .unset, .unset] [] := by
  refine Wk.iloadN (q := 85) at_84 rfl rfl ?_
  refine Wk.ldcI (q := 87) (w_28 hw) at_85 rfl ?_
  refine Wk.iand (q := 88) (v := (p0 &&& (2147483647 : Int32))) at_87 rfl rfl ?_
  refine Wk.bipush (q := 90) (v := (12 : Int32)) at_88 rfl rfl ?_
  refine Wk.irem (q := 91) (v := (5 : Int32)) at_90 rfl (by decide) k_p0 ?_
  refine Wk.istoreN (q := 92) (ls' := #[.val (.int p0), .val (.ref a1), .val (.int (5 : Int32)), .unset]) at_91 rfl rfl ?_
  refine Wk.iloadN (q := 93) at_92 rfl rfl ?_
  refine Wk.bipush (q := 95) (v := (6 : Int32)) at_93 rfl rfl ?_
  refine Wk.icmpT (q := 108) at_95 (by decide) rfl (by decide : (5 : Int32) < (6 : Int32)) ?_
  refine Wk.iconst (q := 109) (v := (0 : Int32)) at_108 rfl rfl ?_
  refine Wk.istoreN (q := 110) (ls' := #[.val (.int p0), .val (.ref a1), .val (.int (5 : Int32)), .val (.int (0 : Int32))]) at_109 rfl rfl ?_
  refine Wk.aloadN (q := 111) at_110 rfl rfl rfl ?_
  refine Wk.iloadN (q := 112) at_111 rfl rfl ?_
  refine Wk.aaload (q := 113) A1 rfl (by rw [S1]; decide) e_5 at_112 rfl ?_
  refine Wk.callV1 (a := a_MAKI3) (q := 116) (argsL := []) (rest := []) (fr := 0) (lo := 0) (v0 := (.int (0 : Int32))) (m_5 hw F) F.x_MAKI3 (w_29 hw) (w_30 hw) (w_32 hw) (w_31 hw) (w_33 hw) (w_3 hw) (by decide) pd_0 rfl rfl rfl at_113 rfl (W := 0) rfl (by decide) (by decide) (by decide) (by decide) ?_
  refine Wk.iloadN (q := 117) at_116 rfl rfl ?_
  refine Wk.icmpF (q := 120) at_117 rfl (by decide : (0 : Int32) = (0 : Int32)) ?_
  refine Wk.iconst (q := 121) (v := (1 : Int32)) at_120 rfl rfl ?_
  refine Wk.goto (q := 125) at_121 (by decide) rfl ?_
  exact Wk.retZ rfl rfl at_125 (by decide) (by decide) rfl
set_option maxRecDepth 65536 in
set_option maxHeartbeats 40000000 in
theorem law_tail_6 {l : Launch} {Z : State} {a0 : Array Value} {n0 : Nat} {h : Heap} {a_TEMPURA a_SASHIMI a_DUMPLING a_MAKI1 a_MAKI2 a_MAKI3 a_SALMON a_SQUID a_EGG a_PUDDING a_WASABI a_CHOPSTICKS : Addr} (hw : ∀ d ∈ tables_1, d.before a0 Z = true) (F : OwnF Z h a_TEMPURA a_SASHIMI a_DUMPLING a_MAKI1 a_MAKI2 a_MAKI3 a_SALMON a_SQUID a_EGG a_PUDDING a_WASABI a_CHOPSTICKS) {a1 : Addr} {c1 : Cell} (p0 : Int32) (A1 : Arr Z h a1 c1 (.object "com/example/kaiten_draft/kaitendraft/cards/Card")) (S1 : c1.slots.size = 12) (e_0 : c1.slots[0]? = some (Value.ref a_TEMPURA)) (e_1 : c1.slots[1]? = some (Value.ref a_SASHIMI)) (e_2 : c1.slots[2]? = some (Value.ref a_DUMPLING)) (e_3 : c1.slots[3]? = some (Value.ref a_MAKI1)) (e_4 : c1.slots[4]? = some (Value.ref a_MAKI2)) (e_5 : c1.slots[5]? = some (Value.ref a_MAKI3)) (e_6 : c1.slots[6]? = some (Value.ref a_SALMON)) (e_7 : c1.slots[7]? = some (Value.ref a_SQUID)) (e_8 : c1.slots[8]? = some (Value.ref a_EGG)) (e_9 : c1.slots[9]? = some (Value.ref a_PUDDING)) (e_10 : c1.slots[10]? = some (Value.ref a_WASABI)) (e_11 : c1.slots[11]? = some (Value.ref a_CHOPSTICKS)) (k_p0 : ((p0 &&& (2147483647 : Int32)) % (12 : Int32)) = (6 : Int32)) : Wk l Z n0 "com/example/kaiten_draft/kaitendraft/cards/CardIsNigiriPinLaw" "law" code maxLocals ret room_1 16 128 (fun v _ => v = some (.int (1 : Int32))) h 1 12 84 #[.val (.int p0), .val (.ref a1), .unset, .unset] [] := by
  refine Wk.iloadN (q := 85) at_84 rfl rfl ?_
  refine Wk.ldcI (q := 87) (w_28 hw) at_85 rfl ?_
  refine Wk.iand (q := 88) (v := (p0 &&& (2147483647 : Int32))) at_87 rfl rfl ?_
  refine Wk.bipush (q := 90) (v := (12 : Int32)) at_88 rfl rfl ?_
  refine Wk.irem (q := 91) (v := (6 : Int32)) at_90 rfl (by decide) k_p0 ?_
  refine Wk.istoreN (q := 92) (ls' := #[.val (.int p0), .val (.ref a1), .val (.int (6 : Int32)), .unset]) at_91 rfl rfl ?_
  refine Wk.iloadN (q := 93) at_92 rfl rfl ?_
  refine Wk.bipush (q := 95) (v := (6 : Int32)) at_93 rfl rfl ?_
  refine Wk.icmpF (q := 98) at_95 rfl (by decide : ¬ (6 : Int32) < (6 : Int32)) ?_
  refine Wk.iloadN (q := 99) at_98 rfl rfl ?_
  refine Wk.bipush (q := 101) (v := (8 : Int32)) at_99 rfl rfl ?_
  refine Wk.icmpF (q := 104) at_101 rfl (by decide : ¬ (8 : Int32) < (6 : Int32)) ?_
  refine Wk.iconst (q := 105) (v := (1 : Int32)) at_104 rfl rfl ?_
  refine Wk.goto (q := 109) at_105 (by decide) rfl ?_
  refine Wk.istoreN (q := 110) (ls' := #[.val (.int p0), .val (.ref a1), .val (.int (6 : Int32)), .val (.int (1 : Int32))]) at_109 rfl rfl ?_
  refine Wk.aloadN (q := 111) at_110 rfl rfl rfl ?_
  refine Wk.iloadN (q := 112) at_111 rfl rfl ?_
  refine Wk.aaload (q := 113) A1 rfl (by rw [S1]; decide) e_6 at_112 rfl ?_
  refine Wk.callV1 (a := a_SALMON) (q := 116) (argsL := []) (rest := []) (fr := 0) (lo := 0) (v0 := (.int (1 : Int32))) (m_6 hw F) F.x_SALMON (w_29 hw) (w_30 hw) (w_32 hw) (w_31 hw) (w_33 hw) (w_3 hw) (by decide) pd_0 rfl rfl rfl at_113 rfl (W := 0) rfl (by decide) (by decide) (by decide) (by decide) ?_
  refine Wk.iloadN (q := 117) at_116 rfl rfl ?_
  refine Wk.icmpF (q := 120) at_117 rfl (by decide : (1 : Int32) = (1 : Int32)) ?_
  refine Wk.iconst (q := 121) (v := (1 : Int32)) at_120 rfl rfl ?_
  refine Wk.goto (q := 125) at_121 (by decide) rfl ?_
  exact Wk.retZ rfl rfl at_125 (by decide) (by decide) rfl
set_option maxRecDepth 65536 in
set_option maxHeartbeats 40000000 in
theorem law_tail_7 {l : Launch} {Z : State} {a0 : Array Value} {n0 : Nat} {h : Heap} {a_TEMPURA a_SASHIMI a_DUMPLING a_MAKI1 a_MAKI2 a_MAKI3 a_SALMON a_SQUID a_EGG a_PUDDING a_WASABI a_CHOPSTICKS : Addr} (hw : ∀ d ∈ tables_1, d.before a0 Z = true) (F : OwnF Z h a_TEMPURA a_SASHIMI a_DUMPLING a_MAKI1 a_MAKI2 a_MAKI3 a_SALMON a_SQUID a_EGG a_PUDDING a_WASABI a_CHOPSTICKS) {a1 : Addr} {c1 : Cell} (p0 : Int32) (A1 : Arr Z h a1 c1 (.object "com/example/kaiten_draft/kaitendraft/cards/Card")) (S1 : c1.slots.size = 12) (e_0 : c1.slots[0]? = some (Value.ref a_TEMPURA)) (e_1 : c1.slots[1]? = some (Value.ref a_SASHIMI)) (e_2 : c1.slots[2]? = some (Value.ref a_DUMPLING)) (e_3 : c1.slots[3]? = some (Value.ref a_MAKI1)) (e_4 : c1.slots[4]? = some (Value.ref a_MAKI2)) (e_5 : c1.slots[5]? = some (Value.ref a_MAKI3)) (e_6 : c1.slots[6]? = some (Value.ref a_SALMON)) (e_7 : c1.slots[7]? = some (Value.ref a_SQUID)) (e_8 : c1.slots[8]? = some (Value.ref a_EGG)) (e_9 : c1.slots[9]? = some (Value.ref a_PUDDING)) (e_10 : c1.slots[10]? = some (Value.ref a_WASABI)) (e_11 : c1.slots[11]? = some (Value.ref a_CHOPSTICKS)) (k_p0 : ((p0 &&& (2147483647 : Int32)) % (12 : Int32)) = (7 : Int32)) : Wk l Z n0 "com/example/kaiten_draft/kaitendraft/cards/CardIsNigiriPinLaw" "law" code maxLocals ret room_1 16 128 (fun v _ => v = some (.int (1 : Int32))) h 1 12 84 #[.val (.int p0), .val (.ref a1), .unset, .unset] [] := by
  refine Wk.iloadN (q := 85) at_84 rfl rfl ?_
  refine Wk.ldcI (q := 87) (w_28 hw) at_85 rfl ?_
  refine Wk.iand (q := 88) (v := (p0 &&& (2147483647 : Int32))) at_87 rfl rfl ?_
  refine Wk.bipush (q := 90) (v := (12 : Int32)) at_88 rfl rfl ?_
  refine Wk.irem (q := 91) (v := (7 : Int32)) at_90 rfl (by decide) k_p0 ?_
  refine Wk.istoreN (q := 92) (ls' := #[.val (.int p0), .val (.ref a1), .val (.int (7 : Int32)), .unset]) at_91 rfl rfl ?_
  refine Wk.iloadN (q := 93) at_92 rfl rfl ?_
  refine Wk.bipush (q := 95) (v := (6 : Int32)) at_93 rfl rfl ?_
  refine Wk.icmpF (q := 98) at_95 rfl (by decide : ¬ (7 : Int32) < (6 : Int32)) ?_
  refine Wk.iloadN (q := 99) at_98 rfl rfl ?_
  refine Wk.bipush (q := 101) (v := (8 : Int32)) at_99 rfl rfl ?_
  refine Wk.icmpF (q := 104) at_101 rfl (by decide : ¬ (8 : Int32) < (7 : Int32)) ?_
  refine Wk.iconst (q := 105) (v := (1 : Int32)) at_104 rfl rfl ?_
  refine Wk.goto (q := 109) at_105 (by decide) rfl ?_
  refine Wk.istoreN (q := 110) (ls' := #[.val (.int p0), .val (.ref a1), .val (.int (7 : Int32)), .val (.int (1 : Int32))]) at_109 rfl rfl ?_
  refine Wk.aloadN (q := 111) at_110 rfl rfl rfl ?_
  refine Wk.iloadN (q := 112) at_111 rfl rfl ?_
  refine Wk.aaload (q := 113) A1 rfl (by rw [S1]; decide) e_7 at_112 rfl ?_
  refine Wk.callV1 (a := a_SQUID) (q := 116) (argsL := []) (rest := []) (fr := 0) (lo := 0) (v0 := (.int (1 : Int32))) (m_7 hw F) F.x_SQUID (w_29 hw) (w_30 hw) (w_32 hw) (w_31 hw) (w_33 hw) (w_3 hw) (by decide) pd_0 rfl rfl rfl at_113 rfl (W := 0) rfl (by decide) (by decide) (by decide) (by decide) ?_
  refine Wk.iloadN (q := 117) at_116 rfl rfl ?_
  refine Wk.icmpF (q := 120) at_117 rfl (by decide : (1 : Int32) = (1 : Int32)) ?_
  refine Wk.iconst (q := 121) (v := (1 : Int32)) at_120 rfl rfl ?_
  refine Wk.goto (q := 125) at_121 (by decide) rfl ?_
  exact Wk.retZ rfl rfl at_125 (by decide) (by decide) rfl
set_option maxRecDepth 65536 in
set_option maxHeartbeats 40000000 in
theorem law_tail_8 {l : Launch} {Z : State} {a0 : Array Value} {n0 : Nat} {h : Heap} {a_TEMPURA a_SASHIMI a_DUMPLING a_MAKI1 a_MAKI2 a_MAKI3 a_SALMON a_SQUID a_EGG a_PUDDING a_WASABI a_CHOPSTICKS : Addr} (hw : ∀ d ∈ tables_1, d.before a0 Z = true) (F : OwnF Z h a_TEMPURA a_SASHIMI a_DUMPLING a_MAKI1 a_MAKI2 a_MAKI3 a_SALMON a_SQUID a_EGG a_PUDDING a_WASABI a_CHOPSTICKS) {a1 : Addr} {c1 : Cell} (p0 : Int32) (A1 : Arr Z h a1 c1 (.object "com/example/kaiten_draft/kaitendraft/cards/Card")) (S1 : c1.slots.size = 12) (e_0 : c1.slots[0]? = some (Value.ref a_TEMPURA)) (e_1 : c1.slots[1]? = some (Value.ref a_SASHIMI)) (e_2 : c1.slots[2]? = some (Value.ref a_DUMPLING)) (e_3 : c1.slots[3]? = some (Value.ref a_MAKI1)) (e_4 : c1.slots[4]? = some (Value.ref a_MAKI2)) (e_5 : c1.slots[5]? = some (Value.ref a_MAKI3)) (e_6 : c1.slots[6]? = some (Value.ref a_SALMON)) (e_7 : c1.slots[7]? = some (Value.ref a_SQUID)) (e_8 : c1.slots[8]? = some (Value.ref a_EGG)) (e_9 : c1.slots[9]? = some (Value.ref a_PUDDING)) (e_10 : c1.slots[10]? = some (Value.ref a_WASABI)) (e_11 : c1.slots[11]? = some (Value.ref a_CHOPSTICKS)) (k_p0 : ((p0 &&& (2147483647 : Int32)) % (12 : Int32)) = (8 : Int32)) : Wk l Z n0 "com/example/kaiten_draft/kaitendraft/cards/CardIsNigiriPinLaw" "law" code maxLocals ret room_1 16 128 (fun v _ => v = some (.int (1 : Int32))) h 1 12 84 #[.val (.int p0), .val (.ref a1), .unset, .unset] [] := by
  refine Wk.iloadN (q := 85) at_84 rfl rfl ?_
  refine Wk.ldcI (q := 87) (w_28 hw) at_85 rfl ?_
  refine Wk.iand (q := 88) (v := (p0 &&& (2147483647 : Int32))) at_87 rfl rfl ?_
  refine Wk.bipush (q := 90) (v := (12 : Int32)) at_88 rfl rfl ?_
  refine Wk.irem (q := 91) (v := (8 : Int32)) at_90 rfl (by decide) k_p0 ?_
  refine Wk.istoreN (q := 92) (ls' := #[.val (.int p0), .val (.ref a1), .val (.int (8 : Int32)), .unset]) at_91 rfl rfl ?_
  refine Wk.iloadN (q := 93) at_92 rfl rfl ?_
  refine Wk.bipush (q := 95) (v := (6 : Int32)) at_93 rfl rfl ?_
  refine Wk.icmpF (q := 98) at_95 rfl (by decide : ¬ (8 : Int32) < (6 : Int32)) ?_
  refine Wk.iloadN (q := 99) at_98 rfl rfl ?_
  refine Wk.bipush (q := 101) (v := (8 : Int32)) at_99 rfl rfl ?_
  refine Wk.icmpF (q := 104) at_101 rfl (by decide : ¬ (8 : Int32) < (8 : Int32)) ?_
  refine Wk.iconst (q := 105) (v := (1 : Int32)) at_104 rfl rfl ?_
  refine Wk.goto (q := 109) at_105 (by decide) rfl ?_
  refine Wk.istoreN (q := 110) (ls' := #[.val (.int p0), .val (.ref a1), .val (.int (8 : Int32)), .val (.int (1 : Int32))]) at_109 rfl rfl ?_
  refine Wk.aloadN (q := 111) at_110 rfl rfl rfl ?_
  refine Wk.iloadN (q := 112) at_111 rfl rfl ?_
  refine Wk.aaload (q := 113) A1 rfl (by rw [S1]; decide) e_8 at_112 rfl ?_
  refine Wk.callV1 (a := a_EGG) (q := 116) (argsL := []) (rest := []) (fr := 0) (lo := 0) (v0 := (.int (1 : Int32))) (m_8 hw F) F.x_EGG (w_29 hw) (w_30 hw) (w_32 hw) (w_31 hw) (w_33 hw) (w_3 hw) (by decide) pd_0 rfl rfl rfl at_113 rfl (W := 0) rfl (by decide) (by decide) (by decide) (by decide) ?_
  refine Wk.iloadN (q := 117) at_116 rfl rfl ?_
  refine Wk.icmpF (q := 120) at_117 rfl (by decide : (1 : Int32) = (1 : Int32)) ?_
  refine Wk.iconst (q := 121) (v := (1 : Int32)) at_120 rfl rfl ?_
  refine Wk.goto (q := 125) at_121 (by decide) rfl ?_
  exact Wk.retZ rfl rfl at_125 (by decide) (by decide) rfl
set_option maxRecDepth 65536 in
set_option maxHeartbeats 40000000 in
theorem law_tail_9 {l : Launch} {Z : State} {a0 : Array Value} {n0 : Nat} {h : Heap} {a_TEMPURA a_SASHIMI a_DUMPLING a_MAKI1 a_MAKI2 a_MAKI3 a_SALMON a_SQUID a_EGG a_PUDDING a_WASABI a_CHOPSTICKS : Addr} (hw : ∀ d ∈ tables_1, d.before a0 Z = true) (F : OwnF Z h a_TEMPURA a_SASHIMI a_DUMPLING a_MAKI1 a_MAKI2 a_MAKI3 a_SALMON a_SQUID a_EGG a_PUDDING a_WASABI a_CHOPSTICKS) {a1 : Addr} {c1 : Cell} (p0 : Int32) (A1 : Arr Z h a1 c1 (.object "com/example/kaiten_draft/kaitendraft/cards/Card")) (S1 : c1.slots.size = 12) (e_0 : c1.slots[0]? = some (Value.ref a_TEMPURA)) (e_1 : c1.slots[1]? = some (Value.ref a_SASHIMI)) (e_2 : c1.slots[2]? = some (Value.ref a_DUMPLING)) (e_3 : c1.slots[3]? = some (Value.ref a_MAKI1)) (e_4 : c1.slots[4]? = some (Value.ref a_MAKI2)) (e_5 : c1.slots[5]? = some (Value.ref a_MAKI3)) (e_6 : c1.slots[6]? = some (Value.ref a_SALMON)) (e_7 : c1.slots[7]? = some (Value.ref a_SQUID)) (e_8 : c1.slots[8]? = some (Value.ref a_EGG)) (e_9 : c1.slots[9]? = some (Value.ref a_PUDDING)) (e_10 : c1.slots[10]? = some (Value.ref a_WASABI)) (e_11 : c1.slots[11]? = some (Value.ref a_CHOPSTICKS)) (k_p0 : ((p0 &&& (2147483647 : Int32)) % (12 : Int32)) = (9 : Int32)) : Wk l Z n0 "com/example/kaiten_draft/kaitendraft/cards/CardIsNigiriPinLaw" "law" code maxLocals ret room_1 16 128 (fun v _ => v = some (.int (1 : Int32))) h 1 12 84 #[.val (.int p0), .val (.ref a1), .unset, .unset] [] := by
  refine Wk.iloadN (q := 85) at_84 rfl rfl ?_
  refine Wk.ldcI (q := 87) (w_28 hw) at_85 rfl ?_
  refine Wk.iand (q := 88) (v := (p0 &&& (2147483647 : Int32))) at_87 rfl rfl ?_
  refine Wk.bipush (q := 90) (v := (12 : Int32)) at_88 rfl rfl ?_
  refine Wk.irem (q := 91) (v := (9 : Int32)) at_90 rfl (by decide) k_p0 ?_
  refine Wk.istoreN (q := 92) (ls' := #[.val (.int p0), .val (.ref a1), .val (.int (9 : Int32)), .unset]) at_91 rfl rfl ?_
  refine Wk.iloadN (q := 93) at_92 rfl rfl ?_
  refine Wk.bipush (q := 95) (v := (6 : Int32)) at_93 rfl rfl ?_
  refine Wk.icmpF (q := 98) at_95 rfl (by decide : ¬ (9 : Int32) < (6 : Int32)) ?_
  refine Wk.iloadN (q := 99) at_98 rfl rfl ?_
  refine Wk.bipush (q := 101) (v := (8 : Int32)) at_99 rfl rfl ?_
  refine Wk.icmpT (q := 108) at_101 (by decide) rfl (by decide : (8 : Int32) < (9 : Int32)) ?_
  refine Wk.iconst (q := 109) (v := (0 : Int32)) at_108 rfl rfl ?_
  refine Wk.istoreN (q := 110) (ls' := #[.val (.int p0), .val (.ref a1), .val (.int (9 : Int32)), .val (.int (0 : Int32))]) at_109 rfl rfl ?_
  refine Wk.aloadN (q := 111) at_110 rfl rfl rfl ?_
  refine Wk.iloadN (q := 112) at_111 rfl rfl ?_
  refine Wk.aaload (q := 113) A1 rfl (by rw [S1]; decide) e_9 at_112 rfl ?_
  refine Wk.callV1 (a := a_PUDDING) (q := 116) (argsL := []) (rest := []) (fr := 0) (lo := 0) (v0 := (.int (0 : Int32))) (m_9 hw F) F.x_PUDDING (w_29 hw) (w_30 hw) (w_32 hw) (w_31 hw) (w_33 hw) (w_3 hw) (by decide) pd_0 rfl rfl rfl at_113 rfl (W := 0) rfl (by decide) (by decide) (by decide) (by decide) ?_
  refine Wk.iloadN (q := 117) at_116 rfl rfl ?_
  refine Wk.icmpF (q := 120) at_117 rfl (by decide : (0 : Int32) = (0 : Int32)) ?_
  refine Wk.iconst (q := 121) (v := (1 : Int32)) at_120 rfl rfl ?_
  refine Wk.goto (q := 125) at_121 (by decide) rfl ?_
  exact Wk.retZ rfl rfl at_125 (by decide) (by decide) rfl
set_option maxRecDepth 65536 in
set_option maxHeartbeats 40000000 in
theorem law_tail_10 {l : Launch} {Z : State} {a0 : Array Value} {n0 : Nat} {h : Heap} {a_TEMPURA a_SASHIMI a_DUMPLING a_MAKI1 a_MAKI2 a_MAKI3 a_SALMON a_SQUID a_EGG a_PUDDING a_WASABI a_CHOPSTICKS : Addr} (hw : ∀ d ∈ tables_1, d.before a0 Z = true) (F : OwnF Z h a_TEMPURA a_SASHIMI a_DUMPLING a_MAKI1 a_MAKI2 a_MAKI3 a_SALMON a_SQUID a_EGG a_PUDDING a_WASABI a_CHOPSTICKS) {a1 : Addr} {c1 : Cell} (p0 : Int32) (A1 : Arr Z h a1 c1 (.object "com/example/kaiten_draft/kaitendraft/cards/Card")) (S1 : c1.slots.size = 12) (e_0 : c1.slots[0]? = some (Value.ref a_TEMPURA)) (e_1 : c1.slots[1]? = some (Value.ref a_SASHIMI)) (e_2 : c1.slots[2]? = some (Value.ref a_DUMPLING)) (e_3 : c1.slots[3]? = some (Value.ref a_MAKI1)) (e_4 : c1.slots[4]? = some (Value.ref a_MAKI2)) (e_5 : c1.slots[5]? = some (Value.ref a_MAKI3)) (e_6 : c1.slots[6]? = some (Value.ref a_SALMON)) (e_7 : c1.slots[7]? = some (Value.ref a_SQUID)) (e_8 : c1.slots[8]? = some (Value.ref a_EGG)) (e_9 : c1.slots[9]? = some (Value.ref a_PUDDING)) (e_10 : c1.slots[10]? = some (Value.ref a_WASABI)) (e_11 : c1.slots[11]? = some (Value.ref a_CHOPSTICKS)) (k_p0 : ((p0 &&& (2147483647 : Int32)) % (12 : Int32)) = (10 : Int32)) : Wk l Z n0 "com/example/kaiten_draft/kaitendraft/cards/CardIsNigiriPinLaw" "law" code maxLocals ret room_1 16 128 (fun v _ => v = some (.int (1 : Int32))) h 1 12 84 #[.val (.int p0), .val (.ref a1), .unset, .unset] [] := by
  refine Wk.iloadN (q := 85) at_84 rfl rfl ?_
  refine Wk.ldcI (q := 87) (w_28 hw) at_85 rfl ?_
  refine Wk.iand (q := 88) (v := (p0 &&& (2147483647 : Int32))) at_87 rfl rfl ?_
  refine Wk.bipush (q := 90) (v := (12 : Int32)) at_88 rfl rfl ?_
  refine Wk.irem (q := 91) (v := (10 : Int32)) at_90 rfl (by decide) k_p0 ?_
  refine Wk.istoreN (q := 92) (ls' := #[.val (.int p0), .val (.ref a1), .val (.int (10 : Int32)), .unset]) at_91 rfl rfl ?_
  refine Wk.iloadN (q := 93) at_92 rfl rfl ?_
  refine Wk.bipush (q := 95) (v := (6 : Int32)) at_93 rfl rfl ?_
  refine Wk.icmpF (q := 98) at_95 rfl (by decide : ¬ (10 : Int32) < (6 : Int32)) ?_
  refine Wk.iloadN (q := 99) at_98 rfl rfl ?_
  refine Wk.bipush (q := 101) (v := (8 : Int32)) at_99 rfl rfl ?_
  refine Wk.icmpT (q := 108) at_101 (by decide) rfl (by decide : (8 : Int32) < (10 : Int32)) ?_
  refine Wk.iconst (q := 109) (v := (0 : Int32)) at_108 rfl rfl ?_
  refine Wk.istoreN (q := 110) (ls' := #[.val (.int p0), .val (.ref a1), .val (.int (10 : Int32)), .val (.int (0 : Int32))]) at_109 rfl rfl ?_
  refine Wk.aloadN (q := 111) at_110 rfl rfl rfl ?_
  refine Wk.iloadN (q := 112) at_111 rfl rfl ?_
  refine Wk.aaload (q := 113) A1 rfl (by rw [S1]; decide) e_10 at_112 rfl ?_
  refine Wk.callV1 (a := a_WASABI) (q := 116) (argsL := []) (rest := []) (fr := 0) (lo := 0) (v0 := (.int (0 : Int32))) (m_10 hw F) F.x_WASABI (w_29 hw) (w_30 hw) (w_32 hw) (w_31 hw) (w_33 hw) (w_3 hw) (by decide) pd_0 rfl rfl rfl at_113 rfl (W := 0) rfl (by decide) (by decide) (by decide) (by decide) ?_
  refine Wk.iloadN (q := 117) at_116 rfl rfl ?_
  refine Wk.icmpF (q := 120) at_117 rfl (by decide : (0 : Int32) = (0 : Int32)) ?_
  refine Wk.iconst (q := 121) (v := (1 : Int32)) at_120 rfl rfl ?_
  refine Wk.goto (q := 125) at_121 (by decide) rfl ?_
  exact Wk.retZ rfl rfl at_125 (by decide) (by decide) rfl
set_option maxRecDepth 65536 in
set_option maxHeartbeats 40000000 in
theorem law_tail_11 {l : Launch} {Z : State} {a0 : Array Value} {n0 : Nat} {h : Heap} {a_TEMPURA a_SASHIMI a_DUMPLING a_MAKI1 a_MAKI2 a_MAKI3 a_SALMON a_SQUID a_EGG a_PUDDING a_WASABI a_CHOPSTICKS : Addr} (hw : ∀ d ∈ tables_1, d.before a0 Z = true) (F : OwnF Z h a_TEMPURA a_SASHIMI a_DUMPLING a_MAKI1 a_MAKI2 a_MAKI3 a_SALMON a_SQUID a_EGG a_PUDDING a_WASABI a_CHOPSTICKS) {a1 : Addr} {c1 : Cell} (p0 : Int32) (A1 : Arr Z h a1 c1 (.object "com/example/kaiten_draft/kaitendraft/cards/Card")) (S1 : c1.slots.size = 12) (e_0 : c1.slots[0]? = some (Value.ref a_TEMPURA)) (e_1 : c1.slots[1]? = some (Value.ref a_SASHIMI)) (e_2 : c1.slots[2]? = some (Value.ref a_DUMPLING)) (e_3 : c1.slots[3]? = some (Value.ref a_MAKI1)) (e_4 : c1.slots[4]? = some (Value.ref a_MAKI2)) (e_5 : c1.slots[5]? = some (Value.ref a_MAKI3)) (e_6 : c1.slots[6]? = some (Value.ref a_SALMON)) (e_7 : c1.slots[7]? = some (Value.ref a_SQUID)) (e_8 : c1.slots[8]? = some (Value.ref a_EGG)) (e_9 : c1.slots[9]? = some (Value.ref a_PUDDING)) (e_10 : c1.slots[10]? = some (Value.ref a_WASABI)) (e_11 : c1.slots[11]? = some (Value.ref a_CHOPSTICKS)) (k_p0 : ((p0 &&& (2147483647 : Int32)) % (12 : Int32)) = (11 : Int32)) : Wk l Z n0 "com/example/kaiten_draft/kaitendraft/cards/CardIsNigiriPinLaw" "law" code maxLocals ret room_1 16 128 (fun v _ => v = some (.int (1 : Int32))) h 1 12 84 #[.val (.int p0), .val (.ref a1), .unset, .unset] [] := by
  refine Wk.iloadN (q := 85) at_84 rfl rfl ?_
  refine Wk.ldcI (q := 87) (w_28 hw) at_85 rfl ?_
  refine Wk.iand (q := 88) (v := (p0 &&& (2147483647 : Int32))) at_87 rfl rfl ?_
  refine Wk.bipush (q := 90) (v := (12 : Int32)) at_88 rfl rfl ?_
  refine Wk.irem (q := 91) (v := (11 : Int32)) at_90 rfl (by decide) k_p0 ?_
  refine Wk.istoreN (q := 92) (ls' := #[.val (.int p0), .val (.ref a1), .val (.int (11 : Int32)), .unset]) at_91 rfl rfl ?_
  refine Wk.iloadN (q := 93) at_92 rfl rfl ?_
  refine Wk.bipush (q := 95) (v := (6 : Int32)) at_93 rfl rfl ?_
  refine Wk.icmpF (q := 98) at_95 rfl (by decide : ¬ (11 : Int32) < (6 : Int32)) ?_
  refine Wk.iloadN (q := 99) at_98 rfl rfl ?_
  refine Wk.bipush (q := 101) (v := (8 : Int32)) at_99 rfl rfl ?_
  refine Wk.icmpT (q := 108) at_101 (by decide) rfl (by decide : (8 : Int32) < (11 : Int32)) ?_
  refine Wk.iconst (q := 109) (v := (0 : Int32)) at_108 rfl rfl ?_
  refine Wk.istoreN (q := 110) (ls' := #[.val (.int p0), .val (.ref a1), .val (.int (11 : Int32)), .val (.int (0 : Int32))]) at_109 rfl rfl ?_
  refine Wk.aloadN (q := 111) at_110 rfl rfl rfl ?_
  refine Wk.iloadN (q := 112) at_111 rfl rfl ?_
  refine Wk.aaload (q := 113) A1 rfl (by rw [S1]; decide) e_11 at_112 rfl ?_
  refine Wk.callV1 (a := a_CHOPSTICKS) (q := 116) (argsL := []) (rest := []) (fr := 0) (lo := 0) (v0 := (.int (0 : Int32))) (m_11 hw F) F.x_CHOPSTICKS (w_29 hw) (w_30 hw) (w_32 hw) (w_31 hw) (w_33 hw) (w_3 hw) (by decide) pd_0 rfl rfl rfl at_113 rfl (W := 0) rfl (by decide) (by decide) (by decide) (by decide) ?_
  refine Wk.iloadN (q := 117) at_116 rfl rfl ?_
  refine Wk.icmpF (q := 120) at_117 rfl (by decide : (0 : Int32) = (0 : Int32)) ?_
  refine Wk.iconst (q := 121) (v := (1 : Int32)) at_120 rfl rfl ?_
  refine Wk.goto (q := 125) at_121 (by decide) rfl ?_
  exact Wk.retZ rfl rfl at_125 (by decide) (by decide) rfl
set_option maxRecDepth 65536 in
set_option maxHeartbeats 40000000 in
theorem law_all {l : Launch} {Z : State} {a0 : Array Value} {n0 : Nat} {a_TEMPURA a_SASHIMI a_DUMPLING a_MAKI1 a_MAKI2 a_MAKI3 a_SALMON a_SQUID a_EGG a_PUDDING a_WASABI a_CHOPSTICKS : Addr} (hw : ∀ d ∈ tables_1, d.before a0 Z = true) (F0 : OwnF Z Z.heap a_TEMPURA a_SASHIMI a_DUMPLING a_MAKI1 a_MAKI2 a_MAKI3 a_SALMON a_SQUID a_EGG a_PUDDING a_WASABI a_CHOPSTICKS) (O : Old Z n0 Z.heap) (p0 : Int32) : Met l Z n0 x code maxLocals ret room_1 #[(.int p0)] Z.heap (fun v _ => v = some (.int (1 : Int32))) := by
  refine Met.of_wk (ls := #[.val (.int p0), .unset, .unset, .unset]) (plainFor_of_name pn_1) (fun _ => rfl) ?_
  show Wk l Z n0 "com/example/kaiten_draft/kaitendraft/cards/CardIsNigiriPinLaw" "law" code maxLocals ret room_1 16 128 (fun v _ => v = some (.int (1 : Int32))) Z.heap 0 0 0 #[.val (.int p0), .unset, .unset, .unset] []
  refine Wk.bipush (q := 2) (v := (12 : Int32)) at_0 rfl rfl ?_
  refine Wk.newR (q := 5) (cap := 12) (w_0 hw) (w_1 hw) at_2 rfl (by decide) (by decide) (by decide) (by decide) (by decide) ?_
  intro h1 a1 cA g1 E1 A1 V1
  have ge1 : n0 ≤ a1 := g1 ▸ own_ge O
  have O := O.ext E1
  have F := F0.ext O.2
  have S1 : _ = 12 := sz_new cA (.object "com/example/kaiten_draft/kaitendraft/cards/Card") (12 : Int32)
  refine Wk.dup (q := 6) at_5 rfl rfl ?_
  refine Wk.iconst (q := 7) (v := (0 : Int32)) at_6 rfl rfl ?_
  refine Wk.getS (q := 10) (w_2 hw) Via.refl F.s_TEMPURA at_7 rfl ?_
  refine Wk.stR (q := 11) A1 (by rw [S1]; decide) rfl (Sto.of A1 V1 (Ins.self F.x_TEMPURA)) rfl at_10 rfl ge1 ?_
  intro h2 W2
  have e_0 := own_hit (j := 0) W2 S1 (by decide) (by decide)
  have A1 := A1.same W2
  have S1 := own_szs W2 S1
  have O := O.wr W2 ge1
  have F := F0.ext O.2
  refine Wk.dup (q := 12) at_11 rfl rfl ?_
  refine Wk.iconst (q := 13) (v := (1 : Int32)) at_12 rfl rfl ?_
  refine Wk.getS (q := 16) (w_6 hw) Via.refl F.s_SASHIMI at_13 rfl ?_
  refine Wk.stR (q := 17) A1 (by rw [S1]; decide) rfl (Sto.of A1 V1 (Ins.self F.x_SASHIMI)) rfl at_16 rfl ge1 ?_
  intro h2 W2
  have e_0 := own_miss (j := 0) W2 (by decide) e_0
  have e_1 := own_hit (j := 1) W2 S1 (by decide) (by decide)
  have A1 := A1.same W2
  have S1 := own_szs W2 S1
  have O := O.wr W2 ge1
  have F := F0.ext O.2
  refine Wk.dup (q := 18) at_17 rfl rfl ?_
  refine Wk.iconst (q := 19) (v := (2 : Int32)) at_18 rfl rfl ?_
  refine Wk.getS (q := 22) (w_8 hw) Via.refl F.s_DUMPLING at_19 rfl ?_
  refine Wk.stR (q := 23) A1 (by rw [S1]; decide) rfl (Sto.of A1 V1 (Ins.self F.x_DUMPLING)) rfl at_22 rfl ge1 ?_
  intro h2 W2
  have e_0 := own_miss (j := 0) W2 (by decide) e_0
  have e_1 := own_miss (j := 1) W2 (by decide) e_1
  have e_2 := own_hit (j := 2) W2 S1 (by decide) (by decide)
  have A1 := A1.same W2
  have S1 := own_szs W2 S1
  have O := O.wr W2 ge1
  have F := F0.ext O.2
  refine Wk.dup (q := 24) at_23 rfl rfl ?_
  refine Wk.iconst (q := 25) (v := (3 : Int32)) at_24 rfl rfl ?_
  refine Wk.getS (q := 28) (w_10 hw) Via.refl F.s_MAKI1 at_25 rfl ?_
  refine Wk.stR (q := 29) A1 (by rw [S1]; decide) rfl (Sto.of A1 V1 (Ins.self F.x_MAKI1)) rfl at_28 rfl ge1 ?_
  intro h2 W2
  have e_0 := own_miss (j := 0) W2 (by decide) e_0
  have e_1 := own_miss (j := 1) W2 (by decide) e_1
  have e_2 := own_miss (j := 2) W2 (by decide) e_2
  have e_3 := own_hit (j := 3) W2 S1 (by decide) (by decide)
  have A1 := A1.same W2
  have S1 := own_szs W2 S1
  have O := O.wr W2 ge1
  have F := F0.ext O.2
  refine Wk.dup (q := 30) at_29 rfl rfl ?_
  refine Wk.iconst (q := 31) (v := (4 : Int32)) at_30 rfl rfl ?_
  refine Wk.getS (q := 34) (w_12 hw) Via.refl F.s_MAKI2 at_31 rfl ?_
  refine Wk.stR (q := 35) A1 (by rw [S1]; decide) rfl (Sto.of A1 V1 (Ins.self F.x_MAKI2)) rfl at_34 rfl ge1 ?_
  intro h2 W2
  have e_0 := own_miss (j := 0) W2 (by decide) e_0
  have e_1 := own_miss (j := 1) W2 (by decide) e_1
  have e_2 := own_miss (j := 2) W2 (by decide) e_2
  have e_3 := own_miss (j := 3) W2 (by decide) e_3
  have e_4 := own_hit (j := 4) W2 S1 (by decide) (by decide)
  have A1 := A1.same W2
  have S1 := own_szs W2 S1
  have O := O.wr W2 ge1
  have F := F0.ext O.2
  refine Wk.dup (q := 36) at_35 rfl rfl ?_
  refine Wk.iconst (q := 37) (v := (5 : Int32)) at_36 rfl rfl ?_
  refine Wk.getS (q := 40) (w_14 hw) Via.refl F.s_MAKI3 at_37 rfl ?_
  refine Wk.stR (q := 41) A1 (by rw [S1]; decide) rfl (Sto.of A1 V1 (Ins.self F.x_MAKI3)) rfl at_40 rfl ge1 ?_
  intro h2 W2
  have e_0 := own_miss (j := 0) W2 (by decide) e_0
  have e_1 := own_miss (j := 1) W2 (by decide) e_1
  have e_2 := own_miss (j := 2) W2 (by decide) e_2
  have e_3 := own_miss (j := 3) W2 (by decide) e_3
  have e_4 := own_miss (j := 4) W2 (by decide) e_4
  have e_5 := own_hit (j := 5) W2 S1 (by decide) (by decide)
  have A1 := A1.same W2
  have S1 := own_szs W2 S1
  have O := O.wr W2 ge1
  have F := F0.ext O.2
  refine Wk.dup (q := 42) at_41 rfl rfl ?_
  refine Wk.bipush (q := 44) (v := (6 : Int32)) at_42 rfl rfl ?_
  refine Wk.getS (q := 47) (w_16 hw) Via.refl F.s_SALMON at_44 rfl ?_
  refine Wk.stR (q := 48) A1 (by rw [S1]; decide) rfl (Sto.of A1 V1 (Ins.self F.x_SALMON)) rfl at_47 rfl ge1 ?_
  intro h2 W2
  have e_0 := own_miss (j := 0) W2 (by decide) e_0
  have e_1 := own_miss (j := 1) W2 (by decide) e_1
  have e_2 := own_miss (j := 2) W2 (by decide) e_2
  have e_3 := own_miss (j := 3) W2 (by decide) e_3
  have e_4 := own_miss (j := 4) W2 (by decide) e_4
  have e_5 := own_miss (j := 5) W2 (by decide) e_5
  have e_6 := own_hit (j := 6) W2 S1 (by decide) (by decide)
  have A1 := A1.same W2
  have S1 := own_szs W2 S1
  have O := O.wr W2 ge1
  have F := F0.ext O.2
  refine Wk.dup (q := 49) at_48 rfl rfl ?_
  refine Wk.bipush (q := 51) (v := (7 : Int32)) at_49 rfl rfl ?_
  refine Wk.getS (q := 54) (w_18 hw) Via.refl F.s_SQUID at_51 rfl ?_
  refine Wk.stR (q := 55) A1 (by rw [S1]; decide) rfl (Sto.of A1 V1 (Ins.self F.x_SQUID)) rfl at_54 rfl ge1 ?_
  intro h2 W2
  have e_0 := own_miss (j := 0) W2 (by decide) e_0
  have e_1 := own_miss (j := 1) W2 (by decide) e_1
  have e_2 := own_miss (j := 2) W2 (by decide) e_2
  have e_3 := own_miss (j := 3) W2 (by decide) e_3
  have e_4 := own_miss (j := 4) W2 (by decide) e_4
  have e_5 := own_miss (j := 5) W2 (by decide) e_5
  have e_6 := own_miss (j := 6) W2 (by decide) e_6
  have e_7 := own_hit (j := 7) W2 S1 (by decide) (by decide)
  have A1 := A1.same W2
  have S1 := own_szs W2 S1
  have O := O.wr W2 ge1
  have F := F0.ext O.2
  refine Wk.dup (q := 56) at_55 rfl rfl ?_
  refine Wk.bipush (q := 58) (v := (8 : Int32)) at_56 rfl rfl ?_
  refine Wk.getS (q := 61) (w_20 hw) Via.refl F.s_EGG at_58 rfl ?_
  refine Wk.stR (q := 62) A1 (by rw [S1]; decide) rfl (Sto.of A1 V1 (Ins.self F.x_EGG)) rfl at_61 rfl ge1 ?_
  intro h2 W2
  have e_0 := own_miss (j := 0) W2 (by decide) e_0
  have e_1 := own_miss (j := 1) W2 (by decide) e_1
  have e_2 := own_miss (j := 2) W2 (by decide) e_2
  have e_3 := own_miss (j := 3) W2 (by decide) e_3
  have e_4 := own_miss (j := 4) W2 (by decide) e_4
  have e_5 := own_miss (j := 5) W2 (by decide) e_5
  have e_6 := own_miss (j := 6) W2 (by decide) e_6
  have e_7 := own_miss (j := 7) W2 (by decide) e_7
  have e_8 := own_hit (j := 8) W2 S1 (by decide) (by decide)
  have A1 := A1.same W2
  have S1 := own_szs W2 S1
  have O := O.wr W2 ge1
  have F := F0.ext O.2
  refine Wk.dup (q := 63) at_62 rfl rfl ?_
  refine Wk.bipush (q := 65) (v := (9 : Int32)) at_63 rfl rfl ?_
  refine Wk.getS (q := 68) (w_22 hw) Via.refl F.s_PUDDING at_65 rfl ?_
  refine Wk.stR (q := 69) A1 (by rw [S1]; decide) rfl (Sto.of A1 V1 (Ins.self F.x_PUDDING)) rfl at_68 rfl ge1 ?_
  intro h2 W2
  have e_0 := own_miss (j := 0) W2 (by decide) e_0
  have e_1 := own_miss (j := 1) W2 (by decide) e_1
  have e_2 := own_miss (j := 2) W2 (by decide) e_2
  have e_3 := own_miss (j := 3) W2 (by decide) e_3
  have e_4 := own_miss (j := 4) W2 (by decide) e_4
  have e_5 := own_miss (j := 5) W2 (by decide) e_5
  have e_6 := own_miss (j := 6) W2 (by decide) e_6
  have e_7 := own_miss (j := 7) W2 (by decide) e_7
  have e_8 := own_miss (j := 8) W2 (by decide) e_8
  have e_9 := own_hit (j := 9) W2 S1 (by decide) (by decide)
  have A1 := A1.same W2
  have S1 := own_szs W2 S1
  have O := O.wr W2 ge1
  have F := F0.ext O.2
  refine Wk.dup (q := 70) at_69 rfl rfl ?_
  refine Wk.bipush (q := 72) (v := (10 : Int32)) at_70 rfl rfl ?_
  refine Wk.getS (q := 75) (w_24 hw) Via.refl F.s_WASABI at_72 rfl ?_
  refine Wk.stR (q := 76) A1 (by rw [S1]; decide) rfl (Sto.of A1 V1 (Ins.self F.x_WASABI)) rfl at_75 rfl ge1 ?_
  intro h2 W2
  have e_0 := own_miss (j := 0) W2 (by decide) e_0
  have e_1 := own_miss (j := 1) W2 (by decide) e_1
  have e_2 := own_miss (j := 2) W2 (by decide) e_2
  have e_3 := own_miss (j := 3) W2 (by decide) e_3
  have e_4 := own_miss (j := 4) W2 (by decide) e_4
  have e_5 := own_miss (j := 5) W2 (by decide) e_5
  have e_6 := own_miss (j := 6) W2 (by decide) e_6
  have e_7 := own_miss (j := 7) W2 (by decide) e_7
  have e_8 := own_miss (j := 8) W2 (by decide) e_8
  have e_9 := own_miss (j := 9) W2 (by decide) e_9
  have e_10 := own_hit (j := 10) W2 S1 (by decide) (by decide)
  have A1 := A1.same W2
  have S1 := own_szs W2 S1
  have O := O.wr W2 ge1
  have F := F0.ext O.2
  refine Wk.dup (q := 77) at_76 rfl rfl ?_
  refine Wk.bipush (q := 79) (v := (11 : Int32)) at_77 rfl rfl ?_
  refine Wk.getS (q := 82) (w_26 hw) Via.refl F.s_CHOPSTICKS at_79 rfl ?_
  refine Wk.stR (q := 83) A1 (by rw [S1]; decide) rfl (Sto.of A1 V1 (Ins.self F.x_CHOPSTICKS)) rfl at_82 rfl ge1 ?_
  intro h2 W2
  have e_0 := own_miss (j := 0) W2 (by decide) e_0
  have e_1 := own_miss (j := 1) W2 (by decide) e_1
  have e_2 := own_miss (j := 2) W2 (by decide) e_2
  have e_3 := own_miss (j := 3) W2 (by decide) e_3
  have e_4 := own_miss (j := 4) W2 (by decide) e_4
  have e_5 := own_miss (j := 5) W2 (by decide) e_5
  have e_6 := own_miss (j := 6) W2 (by decide) e_6
  have e_7 := own_miss (j := 7) W2 (by decide) e_7
  have e_8 := own_miss (j := 8) W2 (by decide) e_8
  have e_9 := own_miss (j := 9) W2 (by decide) e_9
  have e_10 := own_miss (j := 10) W2 (by decide) e_10
  have e_11 := own_hit (j := 11) W2 S1 (by decide) (by decide)
  have A1 := A1.same W2
  have S1 := own_szs W2 S1
  have O := O.wr W2 ge1
  have F := F0.ext O.2
  refine Wk.astoreN (q := 84) (ls' := #[.val (.int p0), .val (.ref a1), .unset, .unset]) at_83 rfl rfl rfl ?_
  rcases own_mod12 p0 with k_p0 | k_p0 | k_p0 | k_p0 | k_p0 | k_p0 | k_p0 | k_p0 | k_p0 | k_p0 | k_p0 | k_p0
  · exact law_tail_0 hw F p0 A1 S1 e_0 e_1 e_2 e_3 e_4 e_5 e_6 e_7 e_8 e_9 e_10 e_11 k_p0
  · exact law_tail_1 hw F p0 A1 S1 e_0 e_1 e_2 e_3 e_4 e_5 e_6 e_7 e_8 e_9 e_10 e_11 k_p0
  · exact law_tail_2 hw F p0 A1 S1 e_0 e_1 e_2 e_3 e_4 e_5 e_6 e_7 e_8 e_9 e_10 e_11 k_p0
  · exact law_tail_3 hw F p0 A1 S1 e_0 e_1 e_2 e_3 e_4 e_5 e_6 e_7 e_8 e_9 e_10 e_11 k_p0
  · exact law_tail_4 hw F p0 A1 S1 e_0 e_1 e_2 e_3 e_4 e_5 e_6 e_7 e_8 e_9 e_10 e_11 k_p0
  · exact law_tail_5 hw F p0 A1 S1 e_0 e_1 e_2 e_3 e_4 e_5 e_6 e_7 e_8 e_9 e_10 e_11 k_p0
  · exact law_tail_6 hw F p0 A1 S1 e_0 e_1 e_2 e_3 e_4 e_5 e_6 e_7 e_8 e_9 e_10 e_11 k_p0
  · exact law_tail_7 hw F p0 A1 S1 e_0 e_1 e_2 e_3 e_4 e_5 e_6 e_7 e_8 e_9 e_10 e_11 k_p0
  · exact law_tail_8 hw F p0 A1 S1 e_0 e_1 e_2 e_3 e_4 e_5 e_6 e_7 e_8 e_9 e_10 e_11 k_p0
  · exact law_tail_9 hw F p0 A1 S1 e_0 e_1 e_2 e_3 e_4 e_5 e_6 e_7 e_8 e_9 e_10 e_11 k_p0
  · exact law_tail_10 hw F p0 A1 S1 e_0 e_1 e_2 e_3 e_4 e_5 e_6 e_7 e_8 e_9 e_10 e_11 k_p0
  · exact law_tail_11 hw F p0 A1 S1 e_0 e_1 e_2 e_3 e_4 e_5 e_6 e_7 e_8 e_9 e_10 e_11 k_p0
set_option maxRecDepth 65536 in
set_option maxHeartbeats 40000000 in
theorem comes_1 {Post : Tables → Env → Array Value → State → Outcome → State → Prop} (hpost : ∀ tb e args s v u, (limb_1_1.after args s (.returned v) u = true ∧ limb_1_2.after args s (.returned v) u = true ∧ True) → FrameEnd s (.returned v) u (Jvm.fieldLocs frame_1_writes args s ++ Jvm.arrayLocs frame_1_arrays args s ++ Jvm.staticLocs frame_1_statics s) 16 128 → Post tb e args s (.returned v) u) :
    ArmFor flags0 classFile x code maxLocals ret World_1 tables_1 room_1 Calls_1 rest_1 Pre_1 Post := by
  intro l hfl _ _ p e ha hc hk s m args below hf hA hF happ hP
  obtain ⟨hcalls, hrest, hpre⟩ := hP
  obtain ⟨-, -, -, hnamed, -, -, -, hat⟩ := (Spec.applies_iff hf).mp happ
  obtain ⟨hg, hn⟩ := and_e (Cond.before_iff.mp (show (Jvm.Cond.and given_1 narrow_1).before args s = true from hpre))
  obtain ⟨h1, g0⟩ := and_e hg
  obtain ⟨w0, rfl⟩ : ∃ w0 : Value, args = #[w0] := by
    have hs : args.size = 1 := by simpa [Cond.value, given_1] using h1
    obtain ⟨L⟩ := args
    match L, hs with
    | [w0], _ => exact ⟨w0, rfl⟩
  have hw := fun d (hd : d ∈ tables_1) => atoms_spec (ws := Jvm.Cond.code x code maxLocals ret :: tables_1) hat d (List.mem_cons_of_mem _ hd)
  have hfit : Fit s := fun {y c} hc i hi => by
    obtain ⟨ha, rfl⟩ := Array.getElem?_eq_some_iff.mp hc
    have q := List.all_eq_true.mp ((Array.all_eq_true_iff_forall_mem.mp hF) _ (Array.getElem_mem ha)) i (List.mem_range.mpr hi)
    simpa [Array.getElem?_eq_getElem hi] using q
  obtain ⟨i0, e0⟩ := is_v g0
  obtain rfl : w0 = (.int i0) := Option.some.inj e0
  obtain ⟨k1a, k1b⟩ := and_e hn
  obtain ⟨k2a, k2b⟩ := and_e k1b
  obtain ⟨k3a, k3b⟩ := and_e k2b
  obtain ⟨k4a, k4b⟩ := and_e k3b
  obtain ⟨k5a, k5b⟩ := and_e k4b
  obtain ⟨k6a, k6b⟩ := and_e k5b
  obtain ⟨k7a, k7b⟩ := and_e k6b
  obtain ⟨k8a, k8b⟩ := and_e k7b
  obtain ⟨k9a, k9b⟩ := and_e k8b
  obtain ⟨k10a, k10b⟩ := and_e k9b
  obtain ⟨k11a, k11b⟩ := and_e k10b
  obtain ⟨k12a, k12b⟩ := and_e k11b
  obtain ⟨k13a, k13b⟩ := and_e k12b
  obtain ⟨k14a, k14b⟩ := and_e k13b
  obtain ⟨k15a, k15b⟩ := and_e k14b
  obtain ⟨k16a, k16b⟩ := and_e k15b
  obtain ⟨k17a, k17b⟩ := and_e k16b
  obtain ⟨k18a, k18b⟩ := and_e k17b
  obtain ⟨k19a, k19b⟩ := and_e k18b
  obtain ⟨k20a, k20b⟩ := and_e k19b
  obtain ⟨k21a, k21b⟩ := and_e k20b
  obtain ⟨k22a, k22b⟩ := and_e k21b
  obtain ⟨k23a, k23b⟩ := and_e k22b
  obtain ⟨a_TEMPURA, v_TEMPURA, s_TEMPURA, x_TEMPURA⟩ := own_exa k1a (w_3 hw) (w_4 hw)
  obtain ⟨a_SASHIMI, v_SASHIMI, s_SASHIMI, x_SASHIMI⟩ := own_exa k2a (w_3 hw) (w_7 hw)
  obtain ⟨a_DUMPLING, v_DUMPLING, s_DUMPLING, x_DUMPLING⟩ := own_exa k3a (w_3 hw) (w_9 hw)
  obtain ⟨a_MAKI1, v_MAKI1, s_MAKI1, x_MAKI1⟩ := own_exa k4a (w_3 hw) (w_11 hw)
  obtain ⟨a_MAKI2, v_MAKI2, s_MAKI2, x_MAKI2⟩ := own_exa k5a (w_3 hw) (w_13 hw)
  obtain ⟨a_MAKI3, v_MAKI3, s_MAKI3, x_MAKI3⟩ := own_exa k6a (w_3 hw) (w_15 hw)
  obtain ⟨a_SALMON, v_SALMON, s_SALMON, x_SALMON⟩ := own_exa k7a (w_3 hw) (w_17 hw)
  obtain ⟨a_SQUID, v_SQUID, s_SQUID, x_SQUID⟩ := own_exa k8a (w_3 hw) (w_19 hw)
  obtain ⟨a_EGG, v_EGG, s_EGG, x_EGG⟩ := own_exa k9a (w_3 hw) (w_21 hw)
  obtain ⟨a_PUDDING, v_PUDDING, s_PUDDING, x_PUDDING⟩ := own_exa k10a (w_3 hw) (w_23 hw)
  obtain ⟨a_WASABI, v_WASABI, s_WASABI, x_WASABI⟩ := own_exa k11a (w_3 hw) (w_25 hw)
  obtain ⟨a_CHOPSTICKS, v_CHOPSTICKS, s_CHOPSTICKS, x_CHOPSTICKS⟩ := own_exa k12a (w_3 hw) (w_27 hw)
  have f_TEMPURA_ordinal := own_fld v_TEMPURA (own_eqi k13a (Term.int_eval _))
  have f_EGG_ordinal := own_fld v_EGG (own_eqi k14a (Term.int_eval _))
  have f_SALMON_ordinal := own_fld v_SALMON (own_eqi k15a (Term.int_eval _))
  have f_SQUID_ordinal := own_fld v_SQUID (own_eqi k16a (Term.int_eval _))
  have f_MAKI1_ordinal := own_fld v_MAKI1 (own_eqi k17a (Term.int_eval _))
  have f_DUMPLING_ordinal := own_fld v_DUMPLING (own_eqi k18a (Term.int_eval _))
  have f_CHOPSTICKS_ordinal := own_fld v_CHOPSTICKS (own_eqi k19a (Term.int_eval _))
  have f_MAKI2_ordinal := own_fld v_MAKI2 (own_eqi k20a (Term.int_eval _))
  have f_SASHIMI_ordinal := own_fld v_SASHIMI (own_eqi k21a (Term.int_eval _))
  have f_WASABI_ordinal := own_fld v_WASABI (own_eqi k22a (Term.int_eval _))
  have f_PUDDING_ordinal := own_fld v_PUDDING (own_eqi k23a (Term.int_eval _))
  have f_MAKI3_ordinal := own_fld v_MAKI3 (own_eqi k23b (Term.int_eval _))
  obtain ⟨n, o, h1, h2, h3, _, L, rfl, ⟨N, rfl⟩, hq⟩ := (law_all (l := l) (n0 := s.heap.size) hw ⟨s_TEMPURA, x_TEMPURA, s_SASHIMI, x_SASHIMI, s_DUMPLING, x_DUMPLING, s_MAKI1, x_MAKI1, s_MAKI2, x_MAKI2, s_MAKI3, x_MAKI3, s_SALMON, x_SALMON, s_SQUID, x_SQUID, s_EGG, x_EGG, s_PUDDING, x_PUDDING, s_WASABI, x_WASABI, s_CHOPSTICKS, x_CHOPSTICKS, f_TEMPURA_ordinal, f_EGG_ordinal, f_SALMON_ordinal, f_SQUID_ordinal, f_MAKI1_ordinal, f_DUMPLING_ordinal, f_CHOPSTICKS_ordinal, f_MAKI2_ordinal, f_SASHIMI_ordinal, f_WASABI_ordinal, f_PUDDING_ordinal, f_MAKI3_ordinal⟩ (Old.start s) i0) tables_1 p e ha hc hk s m _ below hf ((Spec.applies_iff_loose hf).mp happ).1 ⟨rfl, State.Warmed39.refl s, rfl⟩ trivial
  refine ⟨n, _, h1, h2, h3, hpost _ _ _ _ _ _ ⟨Cond.after_iff.mpr rfl, Cond.after_iff.mpr (eq_i res_at (Term.int_eval (1)) rfl), trivial⟩ ⟨hq.1, hq.2.1, (hq.2.2.sift fun y hy => Or.inr (N y hy)).mono (by decide) (by decide)⟩⟩
theorem main_1_1 : Claimed_1_1 := comes_1 fun _ _ _ _ _ _ h hF => ⟨h.1, hF⟩
theorem main_1_2 : Claimed_1_2 := comes_1 fun _ _ _ _ _ _ h hF => ⟨h.2.1, hF⟩
end Jvm.Pilot.@@N@@
namespace Jvm.Pilot.@@N@@
open Jvm Jvm.ClassFile Sem Op Lib Jvm.Free Jvm.Stand Jvm.Pilot.@@N@@.Jvm.D
/-! MADE BY PROGRAM (witnessworld.py) out of the Statement's table words and the real class files: 13 classes; the members and pool entries that the words name. The judged class is class 1, her method 1. -/
namespace start1
open Jvm.ClassFile
def u (s : String) : CpInfo := .utf8 (stringToUtf16 s)
/-- a pool by its gaps: so many unusable entries, then the entry; so many at the end -/
def gap : Nat → List CpInfo → List CpInfo
  | 0, r => r
  | n + 1, r => .unusable :: gap n r
def poolList (es : List (Nat × CpInfo)) (last : Nat) : List CpInfo := es.foldr (fun e r => gap e.1 (e.2 :: r)) (gap last [])
def pool (es : List (Nat × CpInfo)) (last : Nat) : Array CpInfo := ⟨poolList es last⟩
def fileOf (pool : Array CpInfo) (this : Nat) (attrs : Array Attribute := #[]) (ms : Array MethodInfo := #[]) (fl : Nat := 33) (sup : Nat := 0) (ifs : Array Nat := #[]) (fds : Array FieldInfo := #[]) : ClassFile where
  minorVersion := 0
  majorVersion := 65
  constantPool := pool
  accessFlags := fl
  thisClass := this
  superClass := sup
  interfaces := ifs
  fields := fds
  methods := ms
  attributes := attrs
def plain (name : String) (sup : Option ClassId) : Class where
  name := name
  kind := .ordinary
  loader := none
  accessFlags := 33
  super := sup
  interfaces := #[]
  cf := none
  fields := #[]
  methods := #[]
  instanceTypes := #[]
  staticTypes := #[]
  resolved := #[]
  callSites := []
  init := .initialized
  statics := none
  mirror := none

def pool0 : Array CpInfo := pool [(5, u "<init>"), (0, u "()V"), (1, .class_ 10), (1, u "java/lang/Object")] 113

def k0m0 : Method := { name := "<init>", desc := "()V", sig := { parameters := [], returnType := none }, accessFlags := 1, code := none }
/-- java/lang/Object -/
def k0 : Class := { plain "java/lang/Object" none with
  accessFlags := 33
  interfaces := #[]
  cf := some (fileOf pool0 8 #[] #[{ accessFlags := 1, nameIndex := 5, descriptorIndex := 6, attributes := #[] }] 33 0 #[] #[])
  fields := #[]
  methods := #[k0m0]
  instanceTypes := #[]
  staticTypes := #[]
  resolved := Array.replicate 124 none
  statics := none }

def pool1 : Array CpInfo := pool [(2, .class_ 4), (1, u "java/lang/Object"), (0, u "<init>"), (0, u "()V"), (0, .class_ 8), (0, u "com/example/kaiten_draft/kaitendraft/cards/Card"), (0, .fieldref 7 10), (0, .nameAndType 11 12), (0, u "TEMPURA"), (0, u "Lcom/example/kaiten_draft/kaitendraft/cards/Card;"), (0, .fieldref 7 14), (0, .nameAndType 15 12), (0, u "SASHIMI"), (0, .fieldref 7 17), (0, .nameAndType 18 12), (0, u "DUMPLING"), (0, .fieldref 7 20), (0, .nameAndType 21 12), (0, u "MAKI1"), (0, .fieldref 7 23), (0, .nameAndType 24 12), (0, u "MAKI2"), (0, .fieldref 7 26), (0, .nameAndType 27 12), (0, u "MAKI3"), (0, .fieldref 7 29), (0, .nameAndType 30 12), (0, u "SALMON"), (0, .fieldref 7 32), (0, .nameAndType 33 12), (0, u "SQUID"), (0, .fieldref 7 35), (0, .nameAndType 36 12), (0, u "EGG"), (0, .fieldref 7 38), (0, .nameAndType 39 12), (0, u "PUDDING"), (0, .fieldref 7 41), (0, .nameAndType 42 12), (0, u "WASABI"), (0, .fieldref 7 44), (0, .nameAndType 45 12), (0, u "CHOPSTICKS"), (0, .integer 2147483647), (0, .methodref 7 48), (0, .nameAndType 49 50), (0, u "isNigiri"), (0, u "()Z"), (0, .class_ 52), (0, u "com/example/kaiten_draft/kaitendraft/cards/CardIsNigiriPinLaw"), (2, u "law"), (0, u "(I)Z")] 5

def k1m0 : Method := { name := "<init>", desc := "()V", sig := { parameters := [], returnType := none }, accessFlags := 2, code := none }
def k1c1 : Code := { maxStack := 4, maxLocals := 4, code := code, exceptionTable := #[], attributes := #[] }
def k1m1 : Method := { name := "law", desc := "(I)Z", sig := { parameters := [.int], returnType := some .boolean }, accessFlags := 9, code := some k1c1 }
/-- com/example/kaiten_draft/kaitendraft/cards/CardIsNigiriPinLaw -/
def k1 : Class := { plain "com/example/kaiten_draft/kaitendraft/cards/CardIsNigiriPinLaw" (some 0) with
  accessFlags := 49
  interfaces := #[]
  cf := some (fileOf pool1 51 #[] #[{ accessFlags := 2, nameIndex := 5, descriptorIndex := 6, attributes := #[] }, { accessFlags := 9, nameIndex := 55, descriptorIndex := 56, attributes := #[] }] 49 2 #[] #[])
  fields := #[]
  methods := #[k1m0, k1m1]
  instanceTypes := #[]
  staticTypes := #[]
  resolved := Array.replicate 62 none
  statics := none }

def pool2 : Array CpInfo := pool [(1, .class_ 2), (0, u "java/lang/constant/Constable"), (0, .class_ 4), (0, u "java/lang/Object")] 6

/-- java/lang/constant/Constable -/
def k2 : Class := { plain "java/lang/constant/Constable" (some 0) with
  accessFlags := 1537
  interfaces := #[]
  cf := some (fileOf pool2 1 #[] #[] 1537 3 #[] #[])
  fields := #[]
  methods := #[]
  instanceTypes := #[]
  staticTypes := #[]
  resolved := Array.replicate 11 none
  statics := none }

def pool3 : Array CpInfo := pool [(1, .class_ 2), (0, u "java/lang/Comparable"), (0, .class_ 4), (0, u "java/lang/Object")] 7

/-- java/lang/Comparable -/
def k3 : Class := { plain "java/lang/Comparable" (some 0) with
  accessFlags := 1537
  interfaces := #[]
  cf := some (fileOf pool3 1 #[] #[] 1537 3 #[] #[])
  fields := #[]
  methods := #[]
  instanceTypes := #[]
  staticTypes := #[]
  resolved := Array.replicate 12 none
  statics := none }

def pool4 : Array CpInfo := pool [(1, .class_ 2), (0, u "java/io/Serializable"), (0, .class_ 4), (0, u "java/lang/Object")] 2

/-- java/io/Serializable -/
def k4 : Class := { plain "java/io/Serializable" (some 0) with
  accessFlags := 1537
  interfaces := #[]
  cf := some (fileOf pool4 1 #[] #[] 1537 3 #[] #[])
  fields := #[]
  methods := #[]
  instanceTypes := #[]
  staticTypes := #[]
  resolved := Array.replicate 7 none
  statics := none }

def pool5 : Array CpInfo := pool [(2, .class_ 4), (1, u "java/lang/Enum"), (0, u "name"), (0, u "Ljava/lang/String;"), (2, u "ordinal"), (0, u "I"), (1, .class_ 14), (1, u "java/lang/Object"), (4, u "hash"), (86, .class_ 108), (1, u "java/lang/Enum$EnumDesc"), (2, .class_ 112), (0, u "java/lang/constant/Constable"), (0, .class_ 114), (0, u "java/lang/Comparable"), (0, .class_ 116), (0, u "java/io/Serializable")] 87

/-- java/lang/Enum -/
def k5 : Class := { plain "java/lang/Enum" (some 0) with
  accessFlags := 1057
  interfaces := #[2, 3, 4]
  cf := some (fileOf pool5 2 #[.nestMembers #[106]] #[] 1057 12 #[111, 113, 115] #[{ accessFlags := 18, nameIndex := 5, descriptorIndex := 6, attributes := #[] }, { accessFlags := 18, nameIndex := 9, descriptorIndex := 10, attributes := #[] }, { accessFlags := 2, nameIndex := 19, descriptorIndex := 10, attributes := #[] }])
  fields := #[{ name := "name", type := (.object "java/lang/String"), accessFlags := 18, slot := 0, constantValue := 0 }, { name := "ordinal", type := .int, accessFlags := 18, slot := 1, constantValue := 0 }, { name := "hash", type := .int, accessFlags := 2, slot := 2, constantValue := 0 }]
  methods := #[]
  instanceTypes := #[(.object "java/lang/String"), .int, .int]
  staticTypes := #[]
  resolved := Array.replicate 204 none
  statics := none }

def pool6 : Array CpInfo := pool [(1, .class_ 2), (0, u "com/example/kaiten_draft/kaitendraft/cards/Card"), (2, u "TEMPURA"), (0, u "Lcom/example/kaiten_draft/kaitendraft/cards/Card;"), (2, u "SASHIMI"), (2, u "DUMPLING"), (2, u "MAKI1"), (2, u "MAKI2"), (2, u "MAKI3"), (0, .fieldref 1 23), (0, .nameAndType 24 6), (0, u "SALMON"), (0, .fieldref 1 26), (0, .nameAndType 27 6), (0, u "SQUID"), (0, .fieldref 1 29), (0, .nameAndType 30 6), (0, u "EGG"), (2, u "PUDDING"), (2, u "WASABI"), (2, u "CHOPSTICKS"), (2, u "$VALUES"), (0, u "[Lcom/example/kaiten_draft/kaitendraft/cards/Card;"), (6, .class_ 52), (1, u "java/lang/Enum"), (8, u "word"), (0, u "Ljava/lang/String;"), (2, u "copiesInDeck"), (0, u "I"), (2, u "BY_WORD"), (0, u "Ljava/util/Map;"), (83, u "isNigiri"), (0, u "()Z")] 9

def k6c0 : Code := { maxStack := 2, maxLocals := 1, code := prog_10_method_6_code, exceptionTable := #[], attributes := #[] }
def k6m0 : Method := { name := "isNigiri", desc := "()Z", sig := { parameters := [], returnType := some .boolean }, accessFlags := 1, code := some k6c0 }
/-- com/example/kaiten_draft/kaitendraft/cards/Card -/
def k6 : Class := { plain "com/example/kaiten_draft/kaitendraft/cards/Card" (some 5) with
  accessFlags := 16433
  interfaces := #[]
  cf := some (fileOf pool6 1 #[] #[{ accessFlags := 1, nameIndex := 154, descriptorIndex := 155, attributes := #[] }] 16433 50 #[] #[{ accessFlags := 16409, nameIndex := 5, descriptorIndex := 6, attributes := #[] }, { accessFlags := 16409, nameIndex := 9, descriptorIndex := 6, attributes := #[] }, { accessFlags := 16409, nameIndex := 12, descriptorIndex := 6, attributes := #[] }, { accessFlags := 16409, nameIndex := 15, descriptorIndex := 6, attributes := #[] }, { accessFlags := 16409, nameIndex := 18, descriptorIndex := 6, attributes := #[] }, { accessFlags := 16409, nameIndex := 21, descriptorIndex := 6, attributes := #[] }, { accessFlags := 16409, nameIndex := 24, descriptorIndex := 6, attributes := #[] }, { accessFlags := 16409, nameIndex := 27, descriptorIndex := 6, attributes := #[] }, { accessFlags := 16409, nameIndex := 30, descriptorIndex := 6, attributes := #[] }, { accessFlags := 16409, nameIndex := 33, descriptorIndex := 6, attributes := #[] }, { accessFlags := 16409, nameIndex := 36, descriptorIndex := 6, attributes := #[] }, { accessFlags := 16409, nameIndex := 39, descriptorIndex := 6, attributes := #[] }, { accessFlags := 26, nameIndex := 69, descriptorIndex := 70, attributes := #[] }, { accessFlags := 18, nameIndex := 61, descriptorIndex := 62, attributes := #[] }, { accessFlags := 18, nameIndex := 65, descriptorIndex := 66, attributes := #[] }, { accessFlags := 4122, nameIndex := 42, descriptorIndex := 43, attributes := #[] }])
  fields := #[{ name := "TEMPURA", type := (.object "com/example/kaiten_draft/kaitendraft/cards/Card"), accessFlags := 16409, slot := 0, constantValue := 0 }, { name := "SASHIMI", type := (.object "com/example/kaiten_draft/kaitendraft/cards/Card"), accessFlags := 16409, slot := 1, constantValue := 0 }, { name := "DUMPLING", type := (.object "com/example/kaiten_draft/kaitendraft/cards/Card"), accessFlags := 16409, slot := 2, constantValue := 0 }, { name := "MAKI1", type := (.object "com/example/kaiten_draft/kaitendraft/cards/Card"), accessFlags := 16409, slot := 3, constantValue := 0 }, { name := "MAKI2", type := (.object "com/example/kaiten_draft/kaitendraft/cards/Card"), accessFlags := 16409, slot := 4, constantValue := 0 }, { name := "MAKI3", type := (.object "com/example/kaiten_draft/kaitendraft/cards/Card"), accessFlags := 16409, slot := 5, constantValue := 0 }, { name := "SALMON", type := (.object "com/example/kaiten_draft/kaitendraft/cards/Card"), accessFlags := 16409, slot := 6, constantValue := 0 }, { name := "SQUID", type := (.object "com/example/kaiten_draft/kaitendraft/cards/Card"), accessFlags := 16409, slot := 7, constantValue := 0 }, { name := "EGG", type := (.object "com/example/kaiten_draft/kaitendraft/cards/Card"), accessFlags := 16409, slot := 8, constantValue := 0 }, { name := "PUDDING", type := (.object "com/example/kaiten_draft/kaitendraft/cards/Card"), accessFlags := 16409, slot := 9, constantValue := 0 }, { name := "WASABI", type := (.object "com/example/kaiten_draft/kaitendraft/cards/Card"), accessFlags := 16409, slot := 10, constantValue := 0 }, { name := "CHOPSTICKS", type := (.object "com/example/kaiten_draft/kaitendraft/cards/Card"), accessFlags := 16409, slot := 11, constantValue := 0 }, { name := "BY_WORD", type := (.object "java/util/Map"), accessFlags := 26, slot := 12, constantValue := 0 }, { name := "word", type := (.object "java/lang/String"), accessFlags := 18, slot := 3, constantValue := 0 }, { name := "copiesInDeck", type := .int, accessFlags := 18, slot := 4, constantValue := 0 }, { name := "$VALUES", type := (.array (.object "com/example/kaiten_draft/kaitendraft/cards/Card")), accessFlags := 4122, slot := 13, constantValue := 0 }]
  methods := #[k6m0]
  instanceTypes := #[(.object "java/lang/String"), .int, .int, (.object "java/lang/String"), .int]
  staticTypes := #[(.object "com/example/kaiten_draft/kaitendraft/cards/Card"), (.object "com/example/kaiten_draft/kaitendraft/cards/Card"), (.object "com/example/kaiten_draft/kaitendraft/cards/Card"), (.object "com/example/kaiten_draft/kaitendraft/cards/Card"), (.object "com/example/kaiten_draft/kaitendraft/cards/Card"), (.object "com/example/kaiten_draft/kaitendraft/cards/Card"), (.object "com/example/kaiten_draft/kaitendraft/cards/Card"), (.object "com/example/kaiten_draft/kaitendraft/cards/Card"), (.object "com/example/kaiten_draft/kaitendraft/cards/Card"), (.object "com/example/kaiten_draft/kaitendraft/cards/Card"), (.object "com/example/kaiten_draft/kaitendraft/cards/Card"), (.object "com/example/kaiten_draft/kaitendraft/cards/Card"), (.object "java/util/Map"), (.array (.object "com/example/kaiten_draft/kaitendraft/cards/Card"))]
  resolved := Array.replicate 165 none
  statics := some 0 }

def pool7 : Array CpInfo := pool [(1, u "java/lang/Cloneable"), (0, .class_ 1), (0, u "java/lang/Object"), (0, .class_ 3)] 3

/-- java/lang/Cloneable -/
def k7 : Class := { plain "java/lang/Cloneable" (some 0) with
  accessFlags := 1537
  interfaces := #[]
  cf := some (fileOf pool7 2 #[] #[] 1537 4 #[] #[])
  fields := #[]
  methods := #[]
  instanceTypes := #[]
  staticTypes := #[]
  resolved := Array.replicate 8 none
  statics := none }

/-- the primitive byte -/
def k8 : Class := { plain "byte" none with kind := .primitive 'B', accessFlags := 0x411 }
/-- [B -/
def k9 : Class := { plain "[B" (some 0) with kind := .array 8 .byte, interfaces := #[7, 4], accessFlags := 1041 }

/-- the primitive int -/
def k10 : Class := { plain "int" none with kind := .primitive 'I', accessFlags := 0x411 }
/-- [I -/
def k11 : Class := { plain "[I" (some 0) with kind := .array 10 .int, interfaces := #[7, 4], accessFlags := 1041 }

/-- [Lcom/example/kaiten_draft/kaitendraft/cards/Card; -/
def k12 : Class := { plain "[Lcom/example/kaiten_draft/kaitendraft/cards/Card;" (some 0) with kind := .array 6 (.object "com/example/kaiten_draft/kaitendraft/cards/Card"), interfaces := #[7, 4], accessFlags := 1041 }

def heap : Heap := #[{ cls := 6, slots := #[.ref 1, .ref 2, .ref 3, .ref 4, .ref 5, .ref 6, .ref 7, .ref 8, .ref 9, .ref 10, .ref 11, .ref 12, .null, .null], vm := .statics 6 },
  { cls := 6, slots := #[.null, .int 0, .int 0, .null, .int 0], vm := .none },
  { cls := 6, slots := #[.null, .int 1, .int 0, .null, .int 0], vm := .none },
  { cls := 6, slots := #[.null, .int 2, .int 0, .null, .int 0], vm := .none },
  { cls := 6, slots := #[.null, .int 3, .int 0, .null, .int 0], vm := .none },
  { cls := 6, slots := #[.null, .int 4, .int 0, .null, .int 0], vm := .none },
  { cls := 6, slots := #[.null, .int 5, .int 0, .null, .int 0], vm := .none },
  { cls := 6, slots := #[.null, .int 6, .int 0, .null, .int 0], vm := .none },
  { cls := 6, slots := #[.null, .int 7, .int 0, .null, .int 0], vm := .none },
  { cls := 6, slots := #[.null, .int 8, .int 0, .null, .int 0], vm := .none },
  { cls := 6, slots := #[.null, .int 9, .int 0, .null, .int 0], vm := .none },
  { cls := 6, slots := #[.null, .int 10, .int 0, .null, .int 0], vm := .none },
  { cls := 6, slots := #[.null, .int 11, .int 0, .null, .int 0], vm := .none }]
def classes : Array Class := #[k0, k1, k2, k3, k4, k5, k6, k7, k8, k9, k10, k11, k12]
def interned : List (Array UInt16 × Addr) := []
def slotsUsed : Nat := 74
def theMethod : MethodId := ⟨1, 1⟩
def args0 : Array Value := #[.int 5]
def aboutOver (below : List Frame) : State where
  vm := { classes := classes, interned := interned.toArray }
  heap := heap
  slotsUsed := slotsUsed
  threads := #[{ frames := .invoking theMethod args0 :: below }]
def below0 : List Frame := [.native { method := ⟨0, 0⟩, args := #[] }]
def about1 : State := aboutOver below0
def p0 : Program := .bare "" "" ""
def e0 : Env := launch0.env 0 0 0
theorem w_frames : about1.frames = Frame.invoking theMethod args0 :: below0 := rfl
set_option maxRecDepth 65536 in
theorem w_args : argsFit about1.vm theMethod args0 = true := by decide +kernel
set_option maxRecDepth 65536 in
theorem w_heap : heapFits about1 = true := by decide +kernel
set_option maxRecDepth 65536 in
theorem w_runnable : about1.curStatus? = some .runnable := by decide +kernel
set_option maxRecDepth 65536 in
theorem w_alone : about1.alone = true := by decide +kernel
set_option maxRecDepth 65536 in
theorem w_named : about1.methodNamed? x = some theMethod := by decide +kernel
set_option maxRecDepth 65536 in
theorem w_hears : about1.hears theMethod below0 = true := by decide +kernel
set_option maxRecDepth 65536 in
theorem w_ripe : about1.ripe theMethod args0 below0 = true := by decide +kernel
theorem w_running : about1.status = .running := rfl
set_option maxRecDepth 65536 in
theorem w_room : about1.hasRoom e0.platform room_1 = true :=
  launch0.hasRoom_least _ room_1 (by decide +kernel) (by decide +kernel) (by decide +kernel) (by decide +kernel) (by decide +kernel) (by decide +kernel)
theorem allAtoms_all (ts : List Jvm.Cond) (a : Array Jvm.Value) (st : Jvm.State) : (allAtoms ts).before a st = ts.all (fun c => c.before a st) := by
  induction ts with
  | nil => rfl
  | cons c t ih =>
    show (Jvm.Cond.and c (allAtoms t)).before a st = _
    rw [Jvm.Cond.before_and, ih, List.all_cons]
def words1 : List Jvm.Cond := Jvm.Cond.code x code maxLocals ret :: tables_1
/-- a 'code' word, met by the world's own term for the bytes: nothing is compared byte by byte -/
theorem code_word {y : MethodName} {bytes : ByteArray} {mx : Nat} {rt : Option FieldType} {a : Array Value} {s : State} {m : MethodId} {meth : Method} {c : Code} (h1 : s.methodNamed? y = some m) (h2 : s.vm.method? m = some meth) (h3 : meth.code = some c) (h4 : c.code = bytes)
    (h5 : (c.maxLocals == mx && c.exceptionTable.isEmpty && decide (c.maxStack ≤ mostOperands) && decide (meth.sig.returnType = rt) && !meth.locks && decide (parseMethodDescriptor y.desc = some meth.sig)) = true) : (Jvm.Cond.code y bytes mx rt).before a s = true := by
  simp only [Bool.and_eq_true, beq_iff_eq, Bool.not_eq_true', decide_eq_true_eq] at h5
  obtain ⟨⟨⟨⟨⟨g1, g2⟩, g3⟩, g4⟩, g5⟩, g6⟩ := h5
  simp [Cond.before, Cond.holds, Cond.value, h1, h2, h3, h4, g1, g2, g3, g4, g5, g6]
def isCode : Jvm.Cond → Bool
  | .code _ _ _ _ => true
  | _ => false
theorem all_split {L : List Jvm.Cond} {P : Jvm.Cond → Bool} (h1 : L.all (fun c => isCode c || P c) = true) (h2 : ∀ c ∈ L.filter isCode, P c = true) : L.all P = true := by
  refine List.all_eq_true.mpr fun c hc => ?_
  have h := List.all_eq_true.mp h1 c hc
  rcases Bool.eq_false_or_eq_true (isCode c) with hi | hi
  · exact h2 c (List.mem_filter.mpr ⟨hc, hi⟩)
  · simpa [hi] using h
set_option maxRecDepth 65536 in
theorem w_c0 : (Jvm.Cond.code x code maxLocals ret).before args0 about1 = true := code_word (m := ⟨1, 1⟩) (meth := k1m1) (c := k1c1) (by decide +kernel) rfl rfl rfl (by decide +kernel)
set_option maxRecDepth 65536 in
theorem w_c1 : (Jvm.Cond.code ({ cls := "com/example/kaiten_draft/kaitendraft/cards/Card", name := "isNigiri", desc := "()Z" } : Jvm.MethodName) prog_10_method_6_code (1 : Nat) (Option.some Jvm.ClassFile.FieldType.boolean)).before args0 about1 = true := code_word (m := ⟨6, 0⟩) (meth := k6m0) (c := k6c0) (by decide +kernel) rfl rfl rfl (by decide +kernel)
def codes1 : List Jvm.Cond := [Jvm.Cond.code x code maxLocals ret, Jvm.Cond.code ({ cls := "com/example/kaiten_draft/kaitendraft/cards/Card", name := "isNigiri", desc := "()Z" } : Jvm.MethodName) prog_10_method_6_code (1 : Nat) (Option.some Jvm.ClassFile.FieldType.boolean)]
set_option maxRecDepth 65536 in
theorem codes_eq : words1.filter isCode = codes1 := rfl
theorem w_codes : ∀ c ∈ words1.filter isCode, c.before args0 about1 = true := by
  rw [codes_eq]
  intro c hc
  simp only [codes1, List.mem_cons, List.not_mem_nil, or_false] at hc
  rcases hc with rfl | rfl
  · exact w_c0
  · exact w_c1
set_option maxRecDepth 65536 in
theorem w_t1 : (words1.take 24).all (fun c => isCode c || c.before args0 about1) = true := by decide +kernel
set_option maxRecDepth 65536 in
theorem w_t2 : (words1.drop 24).all (fun c => isCode c || c.before args0 about1) = true := by decide +kernel
theorem w_tables : (allAtoms (Jvm.Cond.code x code maxLocals ret :: tables_1)).before args0 about1 = true := by
  rw [allAtoms_all]
  show words1.all (fun c => c.before args0 about1) = true
  refine all_split ?_ w_codes
  rw [← List.take_append_drop 24 words1, List.all_append, w_t1, w_t2]
  rfl
set_option maxRecDepth 65536 in
theorem w_case : (Jvm.Cond.and given_1 narrow_1).before args0 about1 = true := by decide +kernel
theorem w_applies : (headSpec (Jvm.Cond.code x code maxLocals ret :: tables_1) room_1).applies x e0.platform about1 = true :=
  (Spec.applies_iff w_frames).mpr ⟨w_running, w_runnable, w_alone, w_named, w_hears, w_ripe, w_room, w_tables⟩
theorem atStart : AtStart classFile x code maxLocals ret World_1 tables_1 room_1 Calls_1 rest_1 Pre_1 launch0 p0 e0 about1 theMethod args0 below0 :=
  ⟨lists_1, trivial, launch0.admits_env _ _ _, launch0.least_env, fairChoices_fair.cas, fairChoices_fair.clock, w_frames, w_args, w_heap, w_applies, trivial, trivial, w_case⟩
end start1
theorem witness_1 : WitnessClaimed_1 := ⟨start1.p0, start1.e0, start1.about1, start1.theMethod, start1.args0, start1.below0, start1.atStart⟩
end Jvm.Pilot.@@N@@
