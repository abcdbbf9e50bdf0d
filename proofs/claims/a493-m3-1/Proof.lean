import JvmDerived
import JvmDerived.Pilot.@@N@@Statement
import JvmDerived.Pilot.@@N@@Code
set_option linter.unusedVariables false
set_option linter.unusedSimpArgs false
namespace Jvm.Pilot.@@N@@
open Jvm Jvm.ClassFile Sem Op Lib Jvm.Free Jvm.Stand Jvm.LawKit Jvm.RoadKit Bundle Jvm.Pilot.@@N@@.Jvm.D
section Own
/-- from any state that stands at this heap, pc, locals and stack the run comes to an end that Q takes -/
def Wk (l : Launch) (Z : State) (n0 : Nat) (own nm : String) (bytes : ByteArray) (maxL : Nat) (ret : Option FieldType) (R : Room) (kc ks : Nat) (Q : Option Value → Heap → Prop) (h : Heap) (cl sl pc : Nat) (ls : Array Slot) (st : List Value) : Prop :=
  ∀ (p : Program) (e : Env) (s : State) (m : MethodId) (args : Array Value) (below : List Frame) (meth : Method) (c : Code) (T : State) (locs : List Loc),
    p.tables.exec = Jvm.exec → c.code = bytes → c.maxLocals = maxL → s.vm.findClass own = some m.cls → meth.name = nm → meth.sig.returnType = ret → meth.locks = false → Z.Warmed39 s.vm →
    Stand p l e R s m args below meth c T locs cl sl → T.heap = h → Fr n0 locs →
    ∃ s₂ o, Steps p.tables e below (T.setTop (mkF m pc ls st)) s₂ ∧ s₂.status = .running ∧ Ended s₂ below o ∧ ∃ v L, o = .returned v ∧ (Fr n0 L ∧ Q v s₂.heap) ∧ FrameEnd s o s₂ L kc ks
/-- a method's contract: from heap h, with the arguments as', it returns as Q says; new places alone are written -/
def Met (l : Launch) (Z : State) (n0 : Nat) (y : MethodName) (bytes : ByteArray) (maxL : Nat) (ret : Option FieldType) (rm : Room) (as' : Array Value) (h : Heap) (Q : Option Value → Heap → Prop) : Prop :=
  ∀ ws : List Jvm.Cond, MetFree l y (head1 (Jvm.Cond.code y bytes maxL ret :: ws) rm) (fun a U => a = as' ∧ Z.Warmed39 U.vm ∧ U.heap = h) (fun _ _ _ _ _ => True) (fun _ U o U' => ∃ v L, o = .returned v ∧ (Fr n0 L ∧ Q v U'.heap) ∧ FrameEnd U o U' L rm.cells rm.slots)
def icP : ClassFile.Cond → Int32 → Int32 → Prop
  | .eq, x, y => x = y | .ne, x, y => ¬ x = y | .lt, x, y => x < y | .ge, x, y => ¬ x < y | .gt, x, y => y < x | .le, x, y => ¬ y < x
def icN : ClassFile.Cond → Int32 → Int32 → Prop
  | .eq, x, y => ¬ x = y | .ne, x, y => x = y | .lt, x, y => ¬ x < y | .ge, x, y => x < y | .gt, x, y => ¬ y < x | .le, x, y => y < x
def acP : ACond → Value → Value → Prop
  | .eq, x, y => x = y | .ne, x, y => ¬ x = y
def acN : ACond → Value → Value → Prop
  | .eq, x, y => ¬ x = y | .ne, x, y => x = y
theorem ic_t {cd : ClassFile.Cond} {x y : Int32} (q : icP cd x y) : if_icmp.holds cd x y = true := by
  cases cd
  · exact (teq q).1
  · exact (feq q).2
  · exact (tlt q).1
  · exact (flt q).2.1
  · exact (tlt q).2.2.1
  · exact (flt q).2.2.2
theorem ic_f {cd : ClassFile.Cond} {x y : Int32} (q : icN cd x y) : if_icmp.holds cd x y = false := by
  cases cd
  · exact (feq q).1
  · exact (teq q).2
  · exact (flt q).1
  · exact (tlt q).2.1
  · exact (flt q).2.2.1
  · exact (tlt q).2.2.2
theorem ic_or (cd : ClassFile.Cond) (x y : Int32) : icP cd x y ∨ icN cd x y := by
  cases cd <;> simp only [icP, icN] <;> first | exact Decidable.em _ | exact (Decidable.em _).symm
theorem ac_t {cd : ACond} {x y : Value} (q : acP cd x y) : XT.acmp cd x y = true := by
  cases cd
  · exact decide_eq_true (show x = y from q)
  · exact decide_eq_true (show x ≠ y from q)
theorem ac_f {cd : ACond} {x y : Value} (q : acN cd x y) : XT.acmp cd x y = false := by
  cases cd
  · exact decide_eq_false (show ¬ x = y from q)
  · exact decide_eq_false (fun z : x ≠ y => z q)
theorem ac_or (cd : ACond) (x y : Value) : acP cd x y ∨ acN cd x y := by
  cases cd <;> simp only [acP, acN] <;> first | exact Classical.em _ | exact (Classical.em _).symm
variable {l : Launch} {Z : State} {a0 : Array Value} {n0 : Nat} {own nm : String} {bytes : ByteArray} {maxL : Nat} {ret : Option FieldType} {R : Room} {kc ks : Nat} {Q : Option Value → Heap → Prop} {h : Heap} {cl sl pc q : Nat} {ls ls' : Array Slot} {st st' rest : List Value}
theorem Met.mono {y : MethodName} {rm : Room} {as' : Array Value} {Q' : Option Value → Heap → Prop} (M : Met l Z n0 y bytes maxL ret rm as' h Q) (f : ∀ v h', Q v h' → Q' v h') : Met l Z n0 y bytes maxL ret rm as' h Q' := fun ws p e a1 a2 a3 s m args below b1 b2 b3 b4 => by
  obtain ⟨n, o, c1, c2, c3, v, L, c4, c5, c6⟩ := M ws p e a1 a2 a3 s m args below b1 b2 b3 b4
  exact ⟨n, o, c1, c2, c3, v, L, c4, ⟨c5.1, f _ _ c5.2⟩, c6⟩
theorem Met.of_wk {y : MethodName} {rm : Room} {as' : Array Value} (hp : plainFor y = true) (he : ∀ m, entryFrame m as' maxL = mkF m 0 ls []) (k : Wk l Z n0 y.cls y.name bytes maxL ret rm rm.cells rm.slots Q h 0 0 0 ls []) : Met l Z n0 y bytes maxL ret rm as' h Q := by
  intro ws
  refine MetFree.of_bodySF hp hisR ?_
  intro p e s m args below meth c s₁ Bd hml0 hP hK
  obtain ⟨rfl, hZ, hh⟩ := hP
  have X0 : Stand p l e rm s m args below meth c s₁ [] 0 0 := Stand.of_body Bd
  have e0 : s₁.heap = h := by rw [← hh, Bd.state]; rfl
  rw [he m]
  exact k p e s m _ below meth c s₁ [] Bd.exec Bd.bytes hml0 (findClass_of_methodNamed Bd.named) (name_of_methodNamed Bd.named Bd.method).1 Bd.returns Bd.notSynchronized hZ X0 e0 (Fr.nil n0)
theorem Wk.step (hs : ∀ {p : Program} {e : Env} {s : State} {m : MethodId} {args : Array Value} {below : List Frame} {meth : Method} {c : Code} {T : State} {locs : List Loc}, p.tables.exec = Jvm.exec → c.code = bytes → s.vm.findClass own = some m.cls → Z.Warmed39 s.vm → Stand p l e R s m args below meth c T locs cl sl → T.heap = h →
      ∀ target, Steps p.tables e below (T.setTop (mkF m q ls' st')) target → Steps p.tables e below (T.setTop (mkF m pc ls st)) target)
    (k : Wk l Z n0 own nm bytes maxL ret R kc ks Q h cl sl q ls' st') : Wk l Z n0 own nm bytes maxL ret R kc ks Q h cl sl pc ls st := by
  intro p e s m args below meth c T locs hx hby hml hown hnm hret hlk hZ X eT N
  obtain ⟨s₂, o, h1, r⟩ := k p e s m args below meth c T locs hx hby hml hown hnm hret hlk hZ X eT N
  exact ⟨s₂, o, hs hx hby hown hZ X eT _ h1, r⟩
theorem Wk.stepW (hs : ∀ {p : Program} {e : Env} {s : State} {m : MethodId} {args : Array Value} {below : List Frame} {meth : Method} {c : Code} {T : State} {locs : List Loc}, p.tables.exec = Jvm.exec → c.code = bytes → s.vm.findClass own = some m.cls → Z.Warmed39 s.vm → Stand p l e R s m args below meth c T locs cl sl → T.heap = h →
      ∃ T', Stand p l e R s m args below meth c T' locs cl sl ∧ T'.heap = h ∧ ∀ target, Steps p.tables e below (T'.setTop (mkF m q ls' st')) target → Steps p.tables e below (T.setTop (mkF m pc ls st)) target)
    (k : Wk l Z n0 own nm bytes maxL ret R kc ks Q h cl sl q ls' st') : Wk l Z n0 own nm bytes maxL ret R kc ks Q h cl sl pc ls st := by
  intro p e s m args below meth c T locs hx hby hml hown hnm hret hlk hZ X eT N
  obtain ⟨T', X', eT', st⟩ := hs hx hby hown hZ X eT
  obtain ⟨s₂, o, h1, r⟩ := k p e s m args below meth c T' locs hx hby hml hown hnm hret hlk hZ X' eT' N
  exact ⟨s₂, o, st _ h1, r⟩
theorem Wk.iloadN {i : Fin 4} {v : Int32} (hd : decode bytes pc = .ok (.iload_n i, 1)) (hq : pc + 1 = q) (hl : ls[i.val]? = some (.val (.int v))) (k : Wk l Z n0 own nm bytes maxL ret R kc ks Q h cl sl q ls (.int v :: st)) : Wk l Z n0 own nm bytes maxL ret R kc ks Q h cl sl pc ls st := by
  subst hq; exact Wk.step (fun hx hby _ _ X _ _ k => XS.iloadN X.here hx rfl (hb hby hd) hl k) k
theorem Wk.iload {i : Nat} {v : Int32} (hd : decode bytes pc = .ok (.iload i, 2)) (hq : pc + 2 = q) (hl : ls[i]? = some (.val (.int v))) (k : Wk l Z n0 own nm bytes maxL ret R kc ks Q h cl sl q ls (.int v :: st)) : Wk l Z n0 own nm bytes maxL ret R kc ks Q h cl sl pc ls st := by
  subst hq; exact Wk.step (fun hx hby _ _ X _ _ k => XS.iload X.here hx rfl (hb hby hd) hl k) k
theorem Wk.lloadN {i : Fin 4} {v : Int64} (hd : decode bytes pc = .ok (.lload_n i, 1)) (hq : pc + 1 = q) (hl : ls[i.val]? = some (.val (.long v))) (k : Wk l Z n0 own nm bytes maxL ret R kc ks Q h cl sl q ls (.long v :: st)) : Wk l Z n0 own nm bytes maxL ret R kc ks Q h cl sl pc ls st := by
  subst hq; exact Wk.step (fun hx hby _ _ X _ _ k => XT.lloadN X.here hx rfl (hb hby hd) hl k) k
theorem Wk.lload {i : Nat} {v : Int64} (hd : decode bytes pc = .ok (.lload i, 2)) (hq : pc + 2 = q) (hl : ls[i]? = some (.val (.long v))) (k : Wk l Z n0 own nm bytes maxL ret R kc ks Q h cl sl q ls (.long v :: st)) : Wk l Z n0 own nm bytes maxL ret R kc ks Q h cl sl pc ls st := by
  subst hq; exact Wk.step (fun hx hby _ _ X _ _ k => XT.lload X.here hx rfl (hb hby hd) hl k) k
theorem Wk.aloadN {i : Fin 4} {v : Value} (hd : decode bytes pc = .ok (.aload_n i, 1)) (hq : pc + 1 = q) (hl : ls[i.val]? = some (.val v)) (hv : v.isRef = true) (k : Wk l Z n0 own nm bytes maxL ret R kc ks Q h cl sl q ls (v :: st)) : Wk l Z n0 own nm bytes maxL ret R kc ks Q h cl sl pc ls st := by
  subst hq; exact Wk.step (fun hx hby _ _ X _ _ k => XS.aloadN X.here hx rfl (hb hby hd) hl hv k) k
theorem Wk.aload {i : Nat} {v : Value} (hd : decode bytes pc = .ok (.aload i, 2)) (hq : pc + 2 = q) (hl : ls[i]? = some (.val v)) (hv : v.isRef = true) (k : Wk l Z n0 own nm bytes maxL ret R kc ks Q h cl sl q ls (v :: st)) : Wk l Z n0 own nm bytes maxL ret R kc ks Q h cl sl pc ls st := by
  subst hq; exact Wk.step (fun hx hby _ _ X _ _ k => XS.aload X.here hx rfl (hb hby hd) hl hv k) k
theorem Wk.istoreN {i : Fin 4} {v : Int32} (hd : decode bytes pc = .ok (.istore_n i, 1)) (hq : pc + 1 = q) (hl : storeLocals ls i.val (.int v) = some ls') (k : Wk l Z n0 own nm bytes maxL ret R kc ks Q h cl sl q ls' st) : Wk l Z n0 own nm bytes maxL ret R kc ks Q h cl sl pc ls (.int v :: st) := by
  subst hq; exact Wk.step (fun hx hby _ _ X _ _ k => XS.istoreN X.here hx rfl (hb hby hd) rfl hl k) k
theorem Wk.istore {i : Nat} {v : Int32} (hd : decode bytes pc = .ok (.istore i, 2)) (hq : pc + 2 = q) (hl : storeLocals ls i (.int v) = some ls') (k : Wk l Z n0 own nm bytes maxL ret R kc ks Q h cl sl q ls' st) : Wk l Z n0 own nm bytes maxL ret R kc ks Q h cl sl pc ls (.int v :: st) := by
  subst hq; exact Wk.step (fun hx hby _ _ X _ _ k => XS.istore X.here hx rfl (hb hby hd) rfl hl k) k
theorem Wk.lstoreN {i : Fin 4} {v : Int64} (hd : decode bytes pc = .ok (.lstore_n i, 1)) (hq : pc + 1 = q) (hl : storeLocals ls i.val (.long v) = some ls') (k : Wk l Z n0 own nm bytes maxL ret R kc ks Q h cl sl q ls' st) : Wk l Z n0 own nm bytes maxL ret R kc ks Q h cl sl pc ls (.long v :: st) := by
  subst hq; exact Wk.step (fun hx hby _ _ X _ _ k => XT.lstoreN X.here hx rfl (hb hby hd) rfl hl k) k
theorem Wk.lstore {i : Nat} {v : Int64} (hd : decode bytes pc = .ok (.lstore i, 2)) (hq : pc + 2 = q) (hl : storeLocals ls i (.long v) = some ls') (k : Wk l Z n0 own nm bytes maxL ret R kc ks Q h cl sl q ls' st) : Wk l Z n0 own nm bytes maxL ret R kc ks Q h cl sl pc ls (.long v :: st) := by
  subst hq; exact Wk.step (fun hx hby _ _ X _ _ k => XT.lstore X.here hx rfl (hb hby hd) rfl hl k) k
theorem Wk.astoreN {i : Fin 4} {v : Value} (hd : decode bytes pc = .ok (.astore_n i, 1)) (hq : pc + 1 = q) (hv : v.isRef = true) (hl : storeLocals ls i.val v = some ls') (k : Wk l Z n0 own nm bytes maxL ret R kc ks Q h cl sl q ls' st) : Wk l Z n0 own nm bytes maxL ret R kc ks Q h cl sl pc ls (v :: st) := by
  subst hq; exact Wk.step (fun hx hby _ _ X _ _ k => XS.astoreN X.here hx rfl (hb hby hd) rfl hv hl k) k
theorem Wk.astore {i : Nat} {v : Value} (hd : decode bytes pc = .ok (.astore i, 2)) (hq : pc + 2 = q) (hv : v.isRef = true) (hl : storeLocals ls i v = some ls') (k : Wk l Z n0 own nm bytes maxL ret R kc ks Q h cl sl q ls' st) : Wk l Z n0 own nm bytes maxL ret R kc ks Q h cl sl pc ls (v :: st) := by
  subst hq; exact Wk.step (fun hx hby _ _ X _ _ k => XS.astore X.here hx rfl (hb hby hd) rfl hv hl k) k
theorem Wk.iconst {i : Int} {v : Int32} (hd : decode bytes pc = .ok (.iconst i, 1)) (hq : pc + 1 = q) (hv : Int32.ofInt i = v) (k : Wk l Z n0 own nm bytes maxL ret R kc ks Q h cl sl q ls (.int v :: st)) : Wk l Z n0 own nm bytes maxL ret R kc ks Q h cl sl pc ls st := by
  subst hq hv; exact Wk.step (fun hx hby _ _ X _ _ k => XS.iconst X.here hx rfl (hb hby hd) k) k
theorem Wk.bipush {i : Int} {v : Int32} (hd : decode bytes pc = .ok (.bipush i, 2)) (hq : pc + 2 = q) (hv : (Int8.ofInt i).toInt32 = v) (k : Wk l Z n0 own nm bytes maxL ret R kc ks Q h cl sl q ls (.int v :: st)) : Wk l Z n0 own nm bytes maxL ret R kc ks Q h cl sl pc ls st := by
  subst hq hv; exact Wk.step (fun hx hby _ _ X _ _ k => XS.bipush X.here hx rfl (hb hby hd) k) k
theorem Wk.sipush {i : Int} {v : Int32} (hd : decode bytes pc = .ok (.sipush i, 3)) (hq : pc + 3 = q) (hv : (Int16.ofInt i).toInt32 = v) (k : Wk l Z n0 own nm bytes maxL ret R kc ks Q h cl sl q ls (.int v :: st)) : Wk l Z n0 own nm bytes maxL ret R kc ks Q h cl sl pc ls st := by
  subst hq hv; exact Wk.step (fun hx hby _ _ X _ _ k => XS.sipush X.here hx rfl (hb hby hd) k) k
theorem Wk.lconst {i : Fin 2} {v : Int64} (hd : decode bytes pc = .ok (.lconst i, 1)) (hq : pc + 1 = q) (hv : Int64.ofNat i = v) (k : Wk l Z n0 own nm bytes maxL ret R kc ks Q h cl sl q ls (.long v :: st)) : Wk l Z n0 own nm bytes maxL ret R kc ks Q h cl sl pc ls st := by
  subst hq hv; exact Wk.step (fun hx hby _ _ X _ _ k => XT.lconst X.here hx rfl (hb hby hd) k) k
theorem Wk.null  (hd : decode bytes pc = .ok (.aconst_null, 1)) (hq : pc + 1 = q)  (k : Wk l Z n0 own nm bytes maxL ret R kc ks Q h cl sl q ls (.null :: st)) : Wk l Z n0 own nm bytes maxL ret R kc ks Q h cl sl pc ls st := by
  subst hq; exact Wk.step (fun hx hby _ _ X _ _ k => XS.aconstNull X.here hx rfl (hb hby hd) k) k
theorem Wk.ldcI {i : Nat} {v : Int32} (w : (Jvm.Cond.constant own i v).before a0 Z = true) (hd : decode bytes pc = .ok (.ldc i, 2)) (hq : pc + 2 = q) (k : Wk l Z n0 own nm bytes maxL ret R kc ks Q h cl sl q ls (.int v :: st)) : Wk l Z n0 own nm bytes maxL ret R kc ks Q h cl sl pc ls st := by
  subst hq; exact Wk.step (fun hx hby hown hZ X _ t k => X.ldcInt hx hown (mv hZ w) (g := mkF _ pc ls st) rfl (hb hby hd) t k) k
theorem Wk.ldc2 {i : Nat} {v : Int64} (w : (Jvm.Cond.constantLong own i v).before a0 Z = true) (hd : decode bytes pc = .ok (.ldc2_w i, 3)) (hq : pc + 3 = q) (k : Wk l Z n0 own nm bytes maxL ret R kc ks Q h cl sl q ls (.long v :: st)) : Wk l Z n0 own nm bytes maxL ret R kc ks Q h cl sl pc ls st := by
  subst hq; exact Wk.step (fun hx hby hown hZ X _ t k => X.ldc2Long hx hown (mv hZ w) (g := mkF _ pc ls st) rfl (hb hby hd) t k) k
theorem Wk.iadd {x y v : Int32} (hd : decode bytes pc = .ok (.iadd, 1)) (hq : pc + 1 = q) (hv : x + y = v) (k : Wk l Z n0 own nm bytes maxL ret R kc ks Q h cl sl q ls (.int v :: st)) : Wk l Z n0 own nm bytes maxL ret R kc ks Q h cl sl pc ls (.int y :: .int x :: st) := by
  subst hq hv; exact Wk.step (fun hx hby _ _ X _ _ k => XS.iadd X.here hx rfl (hb hby hd) rfl k) k
theorem Wk.isub {x y v : Int32} (hd : decode bytes pc = .ok (.isub, 1)) (hq : pc + 1 = q) (hv : x - y = v) (k : Wk l Z n0 own nm bytes maxL ret R kc ks Q h cl sl q ls (.int v :: st)) : Wk l Z n0 own nm bytes maxL ret R kc ks Q h cl sl pc ls (.int y :: .int x :: st) := by
  subst hq hv; exact Wk.step (fun hx hby _ _ X _ _ k => XS.isub X.here hx rfl (hb hby hd) rfl k) k
theorem Wk.iand {x y v : Int32} (hd : decode bytes pc = .ok (.iand, 1)) (hq : pc + 1 = q) (hv : x &&& y = v) (k : Wk l Z n0 own nm bytes maxL ret R kc ks Q h cl sl q ls (.int v :: st)) : Wk l Z n0 own nm bytes maxL ret R kc ks Q h cl sl pc ls (.int y :: .int x :: st) := by
  subst hq hv; exact Wk.step (fun hx hby _ _ X _ _ k => XS.iand X.here hx rfl (hb hby hd) rfl k) k
theorem Wk.imul {x y v : Int32} (hd : decode bytes pc = .ok (.imul, 1)) (hq : pc + 1 = q) (hv : x * y = v) (k : Wk l Z n0 own nm bytes maxL ret R kc ks Q h cl sl q ls (.int v :: st)) : Wk l Z n0 own nm bytes maxL ret R kc ks Q h cl sl pc ls (.int y :: .int x :: st) := by
  subst hq hv; exact Wk.step (fun hx hby _ _ X _ _ k => XS.imul X.here hx rfl (hb hby hd) rfl k) k
theorem Wk.ishr {x y v : Int32} (hd : decode bytes pc = .ok (.ishr, 1)) (hq : pc + 1 = q) (hv : x >>> (y &&& 31) = v) (k : Wk l Z n0 own nm bytes maxL ret R kc ks Q h cl sl q ls (.int v :: st)) : Wk l Z n0 own nm bytes maxL ret R kc ks Q h cl sl pc ls (.int y :: .int x :: st) := by
  subst hq hv; exact Wk.step (fun hx hby _ _ X _ _ k => XT.ishr X.here hx rfl (hb hby hd) rfl k) k
theorem Wk.iushr {x y v : Int32} (hd : decode bytes pc = .ok (.iushr, 1)) (hq : pc + 1 = q) (hv : XT.ushr x y = v) (k : Wk l Z n0 own nm bytes maxL ret R kc ks Q h cl sl q ls (.int v :: st)) : Wk l Z n0 own nm bytes maxL ret R kc ks Q h cl sl pc ls (.int y :: .int x :: st) := by
  subst hq hv; exact Wk.step (fun hx hby _ _ X _ _ k => XT.iushr X.here hx rfl (hb hby hd) rfl k) k
theorem Wk.irem {x y v : Int32} (hd : decode bytes pc = .ok (.irem, 1)) (hq : pc + 1 = q) (hy : y ≠ 0) (hv : x % y = v) (k : Wk l Z n0 own nm bytes maxL ret R kc ks Q h cl sl q ls (.int v :: st)) : Wk l Z n0 own nm bytes maxL ret R kc ks Q h cl sl pc ls (.int y :: .int x :: st) := by
  subst hq hv; exact Wk.step (fun hx hby _ _ X _ _ k => iremM X hx (g := mkF _ pc ls (.int y :: .int x :: st)) rfl (hb hby hd) rfl hy k) k
theorem Wk.idiv {x y v : Int32} (hd : decode bytes pc = .ok (.idiv, 1)) (hq : pc + 1 = q) (hy : y ≠ 0) (hv : x / y = v) (k : Wk l Z n0 own nm bytes maxL ret R kc ks Q h cl sl q ls (.int v :: st)) : Wk l Z n0 own nm bytes maxL ret R kc ks Q h cl sl pc ls (.int y :: .int x :: st) := by
  subst hq hv; exact Wk.step (fun hx hby _ _ X _ _ k => XS.idiv X.here hx rfl (hb hby hd) rfl hy k) k
theorem Wk.i2b {x v : Int32} (hd : decode bytes pc = .ok (.i2b, 1)) (hq : pc + 1 = q) (hv : x.toInt8.toInt32 = v) (k : Wk l Z n0 own nm bytes maxL ret R kc ks Q h cl sl q ls (.int v :: st)) : Wk l Z n0 own nm bytes maxL ret R kc ks Q h cl sl pc ls (.int x :: st) := by
  subst hq hv; exact Wk.step (fun hx hby _ _ X _ _ k => XT.i2b X.here hx rfl (hb hby hd) rfl k) k
theorem Wk.i2s {x v : Int32} (hd : decode bytes pc = .ok (.i2s, 1)) (hq : pc + 1 = q) (hv : x.toInt16.toInt32 = v) (k : Wk l Z n0 own nm bytes maxL ret R kc ks Q h cl sl q ls (.int v :: st)) : Wk l Z n0 own nm bytes maxL ret R kc ks Q h cl sl pc ls (.int x :: st) := by
  subst hq hv; exact Wk.step (fun hx hby _ _ X _ _ k => XT.i2s X.here hx rfl (hb hby hd) rfl k) k
theorem Wk.i2l {x : Int32} {v : Int64} (hd : decode bytes pc = .ok (.i2l, 1)) (hq : pc + 1 = q) (hv : x.toInt64 = v) (k : Wk l Z n0 own nm bytes maxL ret R kc ks Q h cl sl q ls (.long v :: st)) : Wk l Z n0 own nm bytes maxL ret R kc ks Q h cl sl pc ls (.int x :: st) := by
  subst hq hv; exact Wk.step (fun hx hby _ _ X _ _ k => XT.i2l X.here hx rfl (hb hby hd) rfl k) k
theorem Wk.l2i {x : Int64} {v : Int32} (hd : decode bytes pc = .ok (.l2i, 1)) (hq : pc + 1 = q) (hv : x.toInt32 = v) (k : Wk l Z n0 own nm bytes maxL ret R kc ks Q h cl sl q ls (.int v :: st)) : Wk l Z n0 own nm bytes maxL ret R kc ks Q h cl sl pc ls (.long x :: st) := by
  subst hq hv; exact Wk.step (fun hx hby _ _ X _ _ k => XT.l2i X.here hx rfl (hb hby hd) rfl k) k
theorem Wk.ladd {x y v : Int64} (hd : decode bytes pc = .ok (.ladd, 1)) (hq : pc + 1 = q) (hv : x + y = v) (k : Wk l Z n0 own nm bytes maxL ret R kc ks Q h cl sl q ls (.long v :: st)) : Wk l Z n0 own nm bytes maxL ret R kc ks Q h cl sl pc ls (.long y :: .long x :: st) := by
  subst hq hv; exact Wk.step (fun hx hby _ _ X _ _ k => XT.ladd X.here hx rfl (hb hby hd) rfl k) k
theorem Wk.lsub {x y v : Int64} (hd : decode bytes pc = .ok (.lsub, 1)) (hq : pc + 1 = q) (hv : x - y = v) (k : Wk l Z n0 own nm bytes maxL ret R kc ks Q h cl sl q ls (.long v :: st)) : Wk l Z n0 own nm bytes maxL ret R kc ks Q h cl sl pc ls (.long y :: .long x :: st) := by
  subst hq hv; exact Wk.step (fun hx hby _ _ X _ _ k => XT.lsub X.here hx rfl (hb hby hd) rfl k) k
theorem Wk.lmul {x y v : Int64} (hd : decode bytes pc = .ok (.lmul, 1)) (hq : pc + 1 = q) (hv : x * y = v) (k : Wk l Z n0 own nm bytes maxL ret R kc ks Q h cl sl q ls (.long v :: st)) : Wk l Z n0 own nm bytes maxL ret R kc ks Q h cl sl pc ls (.long y :: .long x :: st) := by
  subst hq hv; exact Wk.step (fun hx hby _ _ X _ _ k => XT.lmul X.here hx rfl (hb hby hd) rfl k) k
theorem Wk.lneg {x v : Int64} (hd : decode bytes pc = .ok (.lneg, 1)) (hq : pc + 1 = q) (hv : -x = v) (k : Wk l Z n0 own nm bytes maxL ret R kc ks Q h cl sl q ls (.long v :: st)) : Wk l Z n0 own nm bytes maxL ret R kc ks Q h cl sl pc ls (.long x :: st) := by
  subst hq hv; exact Wk.step (fun hx hby _ _ X _ _ k => XT.lneg X.here hx rfl (hb hby hd) rfl k) k
theorem Wk.lcmp {x y : Int64} {v : Int32} (hd : decode bytes pc = .ok (.lcmp, 1)) (hq : pc + 1 = q) (hv : XT.cmpL x y = v) (k : Wk l Z n0 own nm bytes maxL ret R kc ks Q h cl sl q ls (.int v :: st)) : Wk l Z n0 own nm bytes maxL ret R kc ks Q h cl sl pc ls (.long y :: .long x :: st) := by
  subst hq hv; exact Wk.step (fun hx hby _ _ X _ _ k => XT.lcmp X.here hx rfl (hb hby hd) rfl k) k
theorem Wk.iinc {i : Nat} {cst : Int} {x v : Int32} (hd : decode bytes pc = .ok (.iinc i cst, 3)) (hq : pc + 3 = q) (hl : ls[i]? = some (.val (.int x))) (hv : x + Int32.ofInt cst = v) (hl' : storeLocals ls i (.int v) = some ls') (k : Wk l Z n0 own nm bytes maxL ret R kc ks Q h cl sl q ls' st) : Wk l Z n0 own nm bytes maxL ret R kc ks Q h cl sl pc ls st := by
  subst hq hv; exact Wk.step (fun hx hby _ _ X _ _ k => XS.iinc X.here hx rfl (hb hby hd) hl hl' k) k
theorem Wk.dup {x : Value} (hd : decode bytes pc = .ok (.dup, 1)) (hq : pc + 1 = q) (hc : x.category = 1) (k : Wk l Z n0 own nm bytes maxL ret R kc ks Q h cl sl q ls (x :: x :: st)) : Wk l Z n0 own nm bytes maxL ret R kc ks Q h cl sl pc ls (x :: st) := by
  subst hq; exact Wk.step (fun hx hby _ _ X _ _ k => XS.dup X.here hx rfl (hb hby hd) rfl hc k) k
theorem Wk.dupX1 {x y : Value} (hd : decode bytes pc = .ok (.dup_x1, 1)) (hq : pc + 1 = q) (hc : x.category = 1) (hc' : y.category = 1) (k : Wk l Z n0 own nm bytes maxL ret R kc ks Q h cl sl q ls (x :: y :: x :: st)) : Wk l Z n0 own nm bytes maxL ret R kc ks Q h cl sl pc ls (x :: y :: st) := by
  subst hq; exact Wk.step (fun hx hby _ _ X _ _ k => XT.dupX1 X.here hx rfl (hb hby hd) rfl hc hc' k) k
theorem Wk.pop {x : Value} (hd : decode bytes pc = .ok (.pop, 1)) (hq : pc + 1 = q) (hc : x.category = 1) (k : Wk l Z n0 own nm bytes maxL ret R kc ks Q h cl sl q ls st) : Wk l Z n0 own nm bytes maxL ret R kc ks Q h cl sl pc ls (x :: st) := by
  subst hq; exact Wk.step (fun hx hby _ _ X _ _ k => XT.pop X.here hx rfl (hb hby hd) rfl hc k) k
theorem Wk.goto {o : Int} (hd : decode bytes pc = .ok (.goto o, 3)) (ho : 0 ≤ (pc : Int) + o) (hp : ((pc : Int) + o).toNat = q) (k : Wk l Z n0 own nm bytes maxL ret R kc ks Q h cl sl q ls st) : Wk l Z n0 own nm bytes maxL ret R kc ks Q h cl sl pc ls st :=
  Wk.step (fun hx hby _ _ X _ _ k => XS.goto X.here hx rfl rfl (hb hby hd) ho hp k) k
theorem Wk.icmpT {cd : ClassFile.Cond} {o : Int} {x y : Int32} (hd : decode bytes pc = .ok (.if_icmp cd o, 3)) (ho : 0 ≤ (pc : Int) + o) (hp : ((pc : Int) + o).toNat = q) (hc : icP cd x y) (k : Wk l Z n0 own nm bytes maxL ret R kc ks Q h cl sl q ls st) : Wk l Z n0 own nm bytes maxL ret R kc ks Q h cl sl pc ls (.int y :: .int x :: st) :=
  Wk.step (fun hx hby _ _ X _ _ k => XS.icmpYes X.here hx rfl rfl (hb hby hd) rfl (ic_t hc) ho hp k) k
theorem Wk.icmpF {cd : ClassFile.Cond} {o : Int} {x y : Int32} (hd : decode bytes pc = .ok (.if_icmp cd o, 3)) (hq : pc + 3 = q) (hc : icN cd x y) (k : Wk l Z n0 own nm bytes maxL ret R kc ks Q h cl sl q ls st) : Wk l Z n0 own nm bytes maxL ret R kc ks Q h cl sl pc ls (.int y :: .int x :: st) := by
  subst hq; exact Wk.step (fun hx hby _ _ X _ _ k => XS.icmpNo X.here hx rfl (hb hby hd) rfl (ic_f hc) k) k
theorem Wk.icmp {cd : ClassFile.Cond} {o : Int} {x y : Int32} {q' : Nat} (hd : decode bytes pc = .ok (.if_icmp cd o, 3)) (ho : 0 ≤ (pc : Int) + o) (hp : ((pc : Int) + o).toNat = q) (hq : pc + 3 = q') (kT : icP cd x y → Wk l Z n0 own nm bytes maxL ret R kc ks Q h cl sl q ls st) (kF : icN cd x y → Wk l Z n0 own nm bytes maxL ret R kc ks Q h cl sl q' ls st) : Wk l Z n0 own nm bytes maxL ret R kc ks Q h cl sl pc ls (.int y :: .int x :: st) :=
  (ic_or cd x y).elim (fun z => Wk.icmpT hd ho hp z (kT z)) (fun z => Wk.icmpF hd hq z (kF z))
theorem Wk.ifcT {cd : ClassFile.Cond} {o : Int} {x : Int32} (hd : decode bytes pc = .ok (.ifCond cd o, 3)) (ho : 0 ≤ (pc : Int) + o) (hp : ((pc : Int) + o).toNat = q) (hc : icP cd x 0) (k : Wk l Z n0 own nm bytes maxL ret R kc ks Q h cl sl q ls st) : Wk l Z n0 own nm bytes maxL ret R kc ks Q h cl sl pc ls (.int x :: st) :=
  Wk.step (fun hx hby _ _ X _ _ k => XS.ifYes X.here hx rfl rfl (hb hby hd) rfl ((if0 cd x).trans (ic_t hc)) ho hp k) k
theorem Wk.ifcF {cd : ClassFile.Cond} {o : Int} {x : Int32} (hd : decode bytes pc = .ok (.ifCond cd o, 3)) (hq : pc + 3 = q) (hc : icN cd x 0) (k : Wk l Z n0 own nm bytes maxL ret R kc ks Q h cl sl q ls st) : Wk l Z n0 own nm bytes maxL ret R kc ks Q h cl sl pc ls (.int x :: st) := by
  subst hq; exact Wk.step (fun hx hby _ _ X _ _ k => XS.ifNo X.here hx rfl (hb hby hd) rfl ((if0 cd x).trans (ic_f hc)) k) k
theorem Wk.ifc {cd : ClassFile.Cond} {o : Int} {x : Int32} {q' : Nat} (hd : decode bytes pc = .ok (.ifCond cd o, 3)) (ho : 0 ≤ (pc : Int) + o) (hp : ((pc : Int) + o).toNat = q) (hq : pc + 3 = q') (kT : icP cd x 0 → Wk l Z n0 own nm bytes maxL ret R kc ks Q h cl sl q ls st) (kF : icN cd x 0 → Wk l Z n0 own nm bytes maxL ret R kc ks Q h cl sl q' ls st) : Wk l Z n0 own nm bytes maxL ret R kc ks Q h cl sl pc ls (.int x :: st) :=
  (ic_or cd x 0).elim (fun z => Wk.ifcT hd ho hp z (kT z)) (fun z => Wk.ifcF hd hq z (kF z))
theorem Wk.acmpT {cd : ACond} {o : Int} {x y : Value} (hd : decode bytes pc = .ok (.if_acmp cd o, 3)) (ho : 0 ≤ (pc : Int) + o) (hp : ((pc : Int) + o).toNat = q) (hx' : x.isRef = true) (hy' : y.isRef = true) (hc : acP cd x y) (k : Wk l Z n0 own nm bytes maxL ret R kc ks Q h cl sl q ls st) : Wk l Z n0 own nm bytes maxL ret R kc ks Q h cl sl pc ls (y :: x :: st) :=
  Wk.step (fun hx hby _ _ X _ _ k => XT.acmpYes X.here hx rfl rfl (hb hby hd) rfl hx' hy' (ac_t hc) ho hp k) k
theorem Wk.acmpF {cd : ACond} {o : Int} {x y : Value} (hd : decode bytes pc = .ok (.if_acmp cd o, 3)) (hq : pc + 3 = q) (hx' : x.isRef = true) (hy' : y.isRef = true) (hc : acN cd x y) (k : Wk l Z n0 own nm bytes maxL ret R kc ks Q h cl sl q ls st) : Wk l Z n0 own nm bytes maxL ret R kc ks Q h cl sl pc ls (y :: x :: st) := by
  subst hq; exact Wk.step (fun hx hby _ _ X _ _ k => XT.acmpNo X.here hx rfl (hb hby hd) rfl hx' hy' (ac_f hc) k) k
theorem Wk.acmp {cd : ACond} {o : Int} {x y : Value} {q' : Nat} (hd : decode bytes pc = .ok (.if_acmp cd o, 3)) (ho : 0 ≤ (pc : Int) + o) (hp : ((pc : Int) + o).toNat = q) (hq : pc + 3 = q') (hx' : x.isRef = true) (hy' : y.isRef = true) (kT : acP cd x y → Wk l Z n0 own nm bytes maxL ret R kc ks Q h cl sl q ls st) (kF : acN cd x y → Wk l Z n0 own nm bytes maxL ret R kc ks Q h cl sl q' ls st) : Wk l Z n0 own nm bytes maxL ret R kc ks Q h cl sl pc ls (y :: x :: st) :=
  (ac_or cd x y).elim (fun z => Wk.acmpT hd ho hp hx' hy' z (kT z)) (fun z => Wk.acmpF hd hq hx' hy' z (kF z))
theorem Wk.ifnullT {o : Int} (hd : decode bytes pc = .ok (.ifnull o, 3)) (ho : 0 ≤ (pc : Int) + o) (hp : ((pc : Int) + o).toNat = q) (k : Wk l Z n0 own nm bytes maxL ret R kc ks Q h cl sl q ls st) : Wk l Z n0 own nm bytes maxL ret R kc ks Q h cl sl pc ls (.null :: st) :=
  Wk.step (fun hx hby _ _ X _ _ k => XS.ifnullYes X.here hx rfl rfl (hb hby hd) rfl ho hp k) k
theorem Wk.ifnullF {o : Int} {b : Addr} (hd : decode bytes pc = .ok (.ifnull o, 3)) (hq : pc + 3 = q) (k : Wk l Z n0 own nm bytes maxL ret R kc ks Q h cl sl q ls st) : Wk l Z n0 own nm bytes maxL ret R kc ks Q h cl sl pc ls (.ref b :: st) := by
  subst hq; exact Wk.step (fun hx hby _ _ X _ _ k => XS.ifnullNo X.here hx rfl (hb hby hd) rfl k) k
theorem Wk.ifnonnullT {o : Int} {b : Addr} (hd : decode bytes pc = .ok (.ifnonnull o, 3)) (ho : 0 ≤ (pc : Int) + o) (hp : ((pc : Int) + o).toNat = q) (k : Wk l Z n0 own nm bytes maxL ret R kc ks Q h cl sl q ls st) : Wk l Z n0 own nm bytes maxL ret R kc ks Q h cl sl pc ls (.ref b :: st) :=
  Wk.step (fun hx hby _ _ X _ _ k => XT.ifnonnullYes X.here hx rfl rfl (hb hby hd) rfl ho hp k) k
theorem Wk.ifnonnullF {o : Int} (hd : decode bytes pc = .ok (.ifnonnull o, 3)) (hq : pc + 3 = q) (k : Wk l Z n0 own nm bytes maxL ret R kc ks Q h cl sl q ls st) : Wk l Z n0 own nm bytes maxL ret R kc ks Q h cl sl pc ls (.null :: st) := by
  subst hq; exact Wk.step (fun hx hby _ _ X _ _ k => XT.ifnonnullNo X.here hx rfl (hb hby hd) rfl k) k
theorem Wk.tsw {dflt low high : Int} {offs : Array Int} {len : Nat} {o : Int} {i : Int32} (hd : decode bytes pc = .ok (.tableswitch dflt low high offs, len)) (hin : ¬ (i.toInt < low ∨ i.toInt > high)) (hoff : offs[(i.toInt - low).toNat]? = some o) (ho : 0 ≤ (pc : Int) + o) (hp : ((pc : Int) + o).toNat = q) (k : Wk l Z n0 own nm bytes maxL ret R kc ks Q h cl sl q ls st) : Wk l Z n0 own nm bytes maxL ret R kc ks Q h cl sl pc ls (.int i :: st) :=
  Wk.step (fun hx hby _ _ X _ _ k => XS.tswIn X.here hx rfl rfl (hb hby hd) rfl hin hoff ho hp k) k
theorem Wk.getS {O n d R0 : String} {i : Nat} {v : Value} (w : (Jvm.Cond.fieldLink own i R0 n d).before a0 Z = true) (via : Via Z R0 O n d) (F : Sta Z h O n d v) (hd : decode bytes pc = .ok (.getstatic i, 3)) (hq : pc + 3 = q) (k : Wk l Z n0 own nm bytes maxL ret R kc ks Q h cl sl q ls (v :: st)) : Wk l Z n0 own nm bytes maxL ret R kc ks Q h cl sl pc ls st := by
  subst hq; exact Wk.stepW (fun hx hby hown hZ X eT => RoadKit.getS (host := "") X hx hZ hown w via eT F (g := mkF _ pc ls st) rfl (hb hby hd)) k
theorem Wk.getF {O n d R0 : String} {i : Nat} {a : Addr} {v : Value} (w : (Jvm.Cond.fieldLink own i R0 n d).before a0 Z = true) (via : Via Z R0 O n d) (F : Fld Z h a O n d v) (hd : decode bytes pc = .ok (.getfield i, 3)) (hq : pc + 3 = q) (k : Wk l Z n0 own nm bytes maxL ret R kc ks Q h cl sl q ls (v :: st)) : Wk l Z n0 own nm bytes maxL ret R kc ks Q h cl sl pc ls (.ref a :: st) := by
  subst hq; exact Wk.stepW (fun hx hby hown hZ X eT => RoadKit.getF (host := "") X hx hZ hown (Or.inl w) via eT F (g := mkF _ pc ls (.ref a :: st)) rfl rfl (hb hby hd)) k
theorem Wk.alen {a : Addr} {c0 : Cell} {ty : FieldType} {v : Int32} (A : Arr Z h a c0 ty) (hv : c0.slots.size.toInt32 = v) (hd : decode bytes pc = .ok (.arraylength, 1)) (hq : pc + 1 = q) (k : Wk l Z n0 own nm bytes maxL ret R kc ks Q h cl sl q ls (.int v :: st)) : Wk l Z n0 own nm bytes maxL ret R kc ks Q h cl sl pc ls (.ref a :: st) := by
  subst hq hv; exact Wk.step (fun hx hby _ hZ X eT t k => X.arraylength hx (by rw [eT]; exact A.1) (State.isArrayOf_alike hZ.alike A.2.1) (g := mkF _ pc ls (.ref a :: st)) rfl rfl (hb hby hd) t k) k
theorem Wk.aaload {a : Addr} {c0 : Cell} {ty : FieldType} {j : Int32} {v : Value} (A : Arr Z h a c0 ty) (hty : ty.isReference = true) (hin : ¬ (j < 0 ∨ c0.slots.size ≤ j.toNatClampNeg)) (hv : c0.slots[j.toNatClampNeg]? = some v) (hd : decode bytes pc = .ok (.aaload, 1)) (hq : pc + 1 = q) (k : Wk l Z n0 own nm bytes maxL ret R kc ks Q h cl sl q ls (v :: st)) : Wk l Z n0 own nm bytes maxL ret R kc ks Q h cl sl pc ls (.int j :: .ref a :: st) := by
  subst hq; exact Wk.step (fun hx hby _ hZ X eT t k => X.aaload hx (by rw [eT]; exact A.1) (State.isArrayOf_alike hZ.alike A.2.1) hty A.2.2 hin hv (g := mkF _ pc ls (.int j :: .ref a :: st)) rfl rfl (hb hby hd) t k) k
theorem Wk.baloadB {a : Addr} {c0 : Cell} {j : Int32} {v : Value} (A : Arr Z h a c0 .byte) (hin : ¬ (j < 0 ∨ c0.slots.size ≤ j.toNatClampNeg)) (hv : c0.slots[j.toNatClampNeg]? = some v) (hd : decode bytes pc = .ok (.baload, 1)) (hq : pc + 1 = q) (k : Wk l Z n0 own nm bytes maxL ret R kc ks Q h cl sl q ls (v :: st)) : Wk l Z n0 own nm bytes maxL ret R kc ks Q h cl sl pc ls (.int j :: .ref a :: st) := by
  subst hq; exact Wk.step (fun hx hby _ hZ X eT t k => X.baloadBytes hx (by rw [eT]; exact A.1) (State.isArrayOf_alike hZ.alike A.2.1) A.2.2 hin hv (g := mkF _ pc ls (.int j :: .ref a :: st)) rfl rfl (hb hby hd) t k) k
theorem Wk.baloadZ {a : Addr} {c0 : Cell} {j : Int32} {v : Value} (A : Arr Z h a c0 .boolean) (hin : ¬ (j < 0 ∨ c0.slots.size ≤ j.toNatClampNeg)) (hv : c0.slots[j.toNatClampNeg]? = some v) (hd : decode bytes pc = .ok (.baload, 1)) (hq : pc + 1 = q) (k : Wk l Z n0 own nm bytes maxL ret R kc ks Q h cl sl q ls (v :: st)) : Wk l Z n0 own nm bytes maxL ret R kc ks Q h cl sl pc ls (.int j :: .ref a :: st) := by
  subst hq; exact Wk.step (fun hx hby _ hZ X eT t k => X.baloadBooleans hx (by rw [eT]; exact A.1) (State.isArrayOf_alike hZ.alike A.2.1) A.2.2 hin hv (g := mkF _ pc ls (.int j :: .ref a :: st)) rfl rfl (hb hby hd) t k) k
theorem Wk.retG {w : Value} {t : FieldType} {i : Instr} (hret : ret = some t) (hn : narrow t w = w)
    (hi : (i = .ireturn ∧ (t = .int ∨ t = .boolean ∨ t = .byte ∨ t = .char ∨ t = .short) ∧ ∃ z, w = .int z) ∨ (i = .lreturn ∧ t = .long ∧ ∃ z, w = .long z) ∨ (i = .dreturn ∧ t = .double ∧ ∃ z, w = .double z) ∨ (i = .freturn ∧ t = .float ∧ ∃ z, w = .float z) ∨ (i = .areturn ∧ t.isReference = true ∧ w.isRef = true))
    (hd : decode bytes pc = .ok (i, 1)) (hc : cl ≤ kc) (hs : sl ≤ ks) (hQ : Q (some w) h) : Wk l Z n0 own nm bytes maxL ret R kc ks Q h cl sl pc ls (w :: st) := by
  intro p e s m args below meth c T locs hx hby hml hown hnm hr hlk hZ X eT N
  obtain ⟨fs, hr', hrun, hended, hW, hsame⟩ := X.leave (v := some w) (fun q => by rw [hr, hret] at q; cases q) hlk
  exact ⟨_, _, RoadKit.retOut X hx (hr.trans hret) hn hi (hb hby hd) hr', hrun, hended, _, _, rfl, ⟨N, by show Q _ T.heap; rw [eT]; exact hQ⟩, ⟨_, rfl⟩, hW, hsame.mono hc hs⟩
theorem Wk.retI {z : Int32} (hret : ret = some .int) (hd : decode bytes pc = .ok (.ireturn, 1)) (hc : cl ≤ kc) (hs : sl ≤ ks) (hQ : Q (some (.int z)) h) : Wk l Z n0 own nm bytes maxL ret R kc ks Q h cl sl pc ls (.int z :: st) :=
  Wk.retG hret rfl (Or.inl ⟨rfl, Or.inl rfl, z, rfl⟩) hd hc hs hQ
theorem Wk.retZ {z : Int32} (hret : ret = some .boolean) (hz : narrow .boolean (.int z) = .int z) (hd : decode bytes pc = .ok (.ireturn, 1)) (hc : cl ≤ kc) (hs : sl ≤ ks) (hQ : Q (some (.int z)) h) : Wk l Z n0 own nm bytes maxL ret R kc ks Q h cl sl pc ls (.int z :: st) :=
  Wk.retG hret hz (Or.inl ⟨rfl, Or.inr (Or.inl rfl), z, rfl⟩) hd hc hs hQ
theorem Wk.retB {z : Int32} (hret : ret = some .byte) (hz : narrow .byte (.int z) = .int z) (hd : decode bytes pc = .ok (.ireturn, 1)) (hc : cl ≤ kc) (hs : sl ≤ ks) (hQ : Q (some (.int z)) h) : Wk l Z n0 own nm bytes maxL ret R kc ks Q h cl sl pc ls (.int z :: st) :=
  Wk.retG hret hz (Or.inl ⟨rfl, Or.inr (Or.inr (Or.inl rfl)), z, rfl⟩) hd hc hs hQ
theorem Wk.retL {z : Int64} (hret : ret = some .long) (hd : decode bytes pc = .ok (.lreturn, 1)) (hc : cl ≤ kc) (hs : sl ≤ ks) (hQ : Q (some (.long z)) h) : Wk l Z n0 own nm bytes maxL ret R kc ks Q h cl sl pc ls (.long z :: st) :=
  Wk.retG hret rfl (Or.inr (Or.inl ⟨rfl, rfl, z, rfl⟩)) hd hc hs hQ
theorem own_narR {t : FieldType} {w : Value} (h1 : t.isReference = true) (h2 : w.isRef = true) : narrow t w = w := by
  cases t <;> cases w <;> first | rfl | (simp [FieldType.isReference] at h1; done) | (simp [Value.isRef] at h2; done)
theorem Wk.retA {w : Value} {t : FieldType} (hret : ret = some t) (ht : t.isReference = true) (hw : w.isRef = true) (hd : decode bytes pc = .ok (.areturn, 1)) (hc : cl ≤ kc) (hs : sl ≤ ks) (hQ : Q (some w) h) : Wk l Z n0 own nm bytes maxL ret R kc ks Q h cl sl pc ls (w :: st) :=
  Wk.retG hret (own_narR ht hw) (Or.inr (Or.inr (Or.inr (Or.inr ⟨rfl, ht, hw⟩)))) hd hc hs hQ
theorem Wk.retV (hret : ret = none) (hd : decode bytes pc = .ok (.return_, 1)) (hc : cl ≤ kc) (hs : sl ≤ ks) (hQ : Q none h) : Wk l Z n0 own nm bytes maxL ret R kc ks Q h cl sl pc ls [] := by
  intro p e s m args below meth c T locs hx hby hml hown hnm hr hlk hZ X eT N
  obtain ⟨fs, hr', hrun, hended, hW, hsame⟩ := X.leave (v := none) (fun _ => rfl) hlk
  exact ⟨_, _, X.returnOut hx (hr.trans hret) (hb hby hd) hr', hrun, hended, _, _, rfl, ⟨N, by show Q _ T.heap; rw [eT]; exact hQ⟩, ⟨_, rfl⟩, hW, hsame.mono hc hs⟩
theorem Wk.callS {i : Nat} {y : MethodName} {by' : ByteArray} {mL : Nat} {rt : Option FieldType} {rm : Room} {argsL rest : List Value} {Q' : Value → Heap → Prop} {ps : List FieldType} {r' : Option FieldType}
    (hM : Met l Z n0 y by' mL rt rm argsL.toArray h (fun v h' => ∃ w, v = some w ∧ Q' w h'))
    (w1 : (Jvm.Cond.methodLink own i y).before a0 Z = true) (w2 : (Jvm.Cond.static y).before a0 Z = true) (w3 : (Jvm.Cond.initialized y.cls).before a0 Z = true) (w4 : (Jvm.Cond.code y by' mL rt).before a0 Z = true) (hy : y.cls ≠ "java/lang/invoke/MethodHandle" ∧ y.cls ≠ "java/lang/invoke/VarHandle")
    (hds : parseMethodDescriptor y.desc = some ⟨ps, r'⟩) (hln : argsL.length = ps.length) (hst : st = argsL.reverse ++ rest) (hls : ls.size = maxL) (hd : decode bytes pc = .ok (.invokestatic i, 3)) (hq : pc + 3 = q)
    {W : Nat} (hW : (rest.map fun v => v.category).sum = W) (hf : rm.frames + 1 ≤ R.frames) (hlo : W + (mL + 11) + rm.locals ≤ R.locals) (hce : cl + rm.cells ≤ R.cells) (hsl : sl + rm.slots ≤ R.slots)
    (k : ∀ w h', Q' w h' → Wk l Z n0 own nm bytes maxL ret R kc ks Q h' (cl + rm.cells) (sl + rm.slots) q ls (w :: rest)) : Wk l Z n0 own nm bytes maxL ret R kc ks Q h cl sl pc ls st := by
  subst hq hst hW
  intro p e s m args below meth c T locs hx hby hml hown hnm hr hlk hZ X eT N
  obtain ⟨v, _, ⟨T', L', k', n'⟩, -, X', ⟨Lc, ⟨N', hQ⟩, l', y', z'⟩, stp⟩ := Jvm.LawKit.callS X hx (y := y) hown (mvT hZ w1) (mvT hZ w2) (mvT hZ w3) (mvT hZ w4) hy (backOf (W := (rest.map fun v => v.category).sum) (Q := fun v h' L => Fr n0 L ∧ (fun v h' => ∃ w, v = some w ∧ Q' w h') v h') (hM []) hZ w4 w3 hf hlo) (g := mkF m pc ls (argsL.reverse ++ rest)) rfl (by rw [hml]; exact hls) (argsL := argsL) (rest := rest) (lenOf hds hln) rfl (by show 2 * 0 + _ ≤ _; omega) (hb hby hd) (fun _ _ => ⟨rfl, eT, hce, hsl⟩)
  dsimp only [Pt.U, Pt.locs, Pt.cells, Pt.slots] at X' l' y' z' stp hQ
  subst l' y' z'
  obtain ⟨w, rfl, hQ⟩ := hQ
  obtain ⟨s₂, o, h1, r⟩ := k w T'.heap hQ p e s m args below meth c T' _ hx hby hml hown hnm hr hlk hZ X' rfl (Fr.app N N')
  exact ⟨s₂, o, stp _ h1, r⟩
theorem Wk.callS1 {i : Nat} {y : MethodName} {by' : ByteArray} {mL : Nat} {rt : Option FieldType} {fr lo : Nat} {argsL rest : List Value} {v0 : Value} {ps : List FieldType} {r' : Option FieldType}
    (hM : Met l Z n0 y by' mL rt ⟨fr, 0, 0, lo⟩ argsL.toArray h (fun v h' => v = some v0 ∧ h' = h))
    (w1 : (Jvm.Cond.methodLink own i y).before a0 Z = true) (w2 : (Jvm.Cond.static y).before a0 Z = true) (w3 : (Jvm.Cond.initialized y.cls).before a0 Z = true) (w4 : (Jvm.Cond.code y by' mL rt).before a0 Z = true) (hy : y.cls ≠ "java/lang/invoke/MethodHandle" ∧ y.cls ≠ "java/lang/invoke/VarHandle")
    (hds : parseMethodDescriptor y.desc = some ⟨ps, r'⟩) (hln : argsL.length = ps.length) (hst : st = argsL.reverse ++ rest) (hls : ls.size = maxL) (hd : decode bytes pc = .ok (.invokestatic i, 3)) (hq : pc + 3 = q)
    {W : Nat} (hW : (rest.map fun v => v.category).sum = W) (hf : fr + 1 ≤ R.frames) (hlo : W + (mL + 11) + lo ≤ R.locals) (hce : cl ≤ R.cells) (hsl : sl ≤ R.slots)
    (k : Wk l Z n0 own nm bytes maxL ret R kc ks Q h cl sl q ls (v0 :: rest)) : Wk l Z n0 own nm bytes maxL ret R kc ks Q h cl sl pc ls st :=
  Wk.callS (Q' := fun w h' => w = v0 ∧ h' = h) (rm := ⟨fr, 0, 0, lo⟩) (hM.mono fun v h' z => ⟨v0, z.1, rfl, z.2⟩) w1 w2 w3 w4 hy hds hln hst hls hd hq hW hf hlo hce hsl (fun w h' z => by obtain ⟨rfl, rfl⟩ := z; exact k)
theorem Wk.callS0 {i : Nat} {y : MethodName} {by' : ByteArray} {mL : Nat} {rt : Option FieldType} {rm : Room} {argsL rest : List Value} {Q' : Heap → Prop} {ps : List FieldType} {r' : Option FieldType}
    (hM : Met l Z n0 y by' mL rt rm argsL.toArray h (fun v h' => v = none ∧ Q' h'))
    (w1 : (Jvm.Cond.methodLink own i y).before a0 Z = true) (w2 : (Jvm.Cond.static y).before a0 Z = true) (w3 : (Jvm.Cond.initialized y.cls).before a0 Z = true) (w4 : (Jvm.Cond.code y by' mL rt).before a0 Z = true) (hy : y.cls ≠ "java/lang/invoke/MethodHandle" ∧ y.cls ≠ "java/lang/invoke/VarHandle")
    (hds : parseMethodDescriptor y.desc = some ⟨ps, r'⟩) (hln : argsL.length = ps.length) (hst : st = argsL.reverse ++ rest) (hls : ls.size = maxL) (hd : decode bytes pc = .ok (.invokestatic i, 3)) (hq : pc + 3 = q)
    {W : Nat} (hW : (rest.map fun v => v.category).sum = W) (hf : rm.frames + 1 ≤ R.frames) (hlo : W + (mL + 11) + rm.locals ≤ R.locals) (hce : cl + rm.cells ≤ R.cells) (hsl : sl + rm.slots ≤ R.slots)
    (k : ∀ h', Q' h' → Wk l Z n0 own nm bytes maxL ret R kc ks Q h' (cl + rm.cells) (sl + rm.slots) q ls rest) : Wk l Z n0 own nm bytes maxL ret R kc ks Q h cl sl pc ls st := by
  subst hq hst hW
  intro p e s m args below meth c T locs hx hby hml hown hnm hr hlk hZ X eT N
  obtain ⟨v, _, ⟨T', L', k', n'⟩, -, X', ⟨Lc, ⟨N', hQ⟩, l', y', z'⟩, stp⟩ := Jvm.LawKit.callS X hx (y := y) hown (mvT hZ w1) (mvT hZ w2) (mvT hZ w3) (mvT hZ w4) hy (backOf (W := (rest.map fun v => v.category).sum) (Q := fun v h' L => Fr n0 L ∧ (fun v h' => v = none ∧ Q' h') v h') (hM []) hZ w4 w3 hf hlo) (g := mkF m pc ls (argsL.reverse ++ rest)) rfl (by rw [hml]; exact hls) (argsL := argsL) (rest := rest) (lenOf hds hln) rfl (by show 2 * 0 + _ ≤ _; omega) (hb hby hd) (fun _ _ => ⟨rfl, eT, hce, hsl⟩)
  dsimp only [Pt.U, Pt.locs, Pt.cells, Pt.slots] at X' l' y' z' stp hQ
  subst l' y' z'
  obtain ⟨rfl, hQ⟩ := hQ
  obtain ⟨s₂, o, h1, r⟩ := k T'.heap hQ p e s m args below meth c T' _ hx hby hml hown hnm hr hlk hZ X' rfl (Fr.app N N')
  exact ⟨s₂, o, stp _ h1, r⟩
theorem Wk.callV {i : Nat} {C : String} {y : MethodName} {by' : ByteArray} {mL : Nat} {rt : Option FieldType} {rm : Room} {a : Addr} {argsL rest : List Value} {Q' : Value → Heap → Prop} {ps : List FieldType} {r' : Option FieldType}
    (hM : Met l Z n0 y by' mL rt rm (.ref a :: argsL).toArray h (fun v h' => ∃ w, v = some w ∧ Q' w h')) (E : Exa Z h a C)
    (w1 : (Jvm.Cond.methodLink own i y).before a0 Z = true) (w2 : (Jvm.Cond.declares y).before a0 Z = true) (w3 : (Jvm.Cond.selects C y y).before a0 Z = true) (w4 : (Jvm.Cond.instanceMethod y).before a0 Z = true) (w5 : (Jvm.Cond.code y by' mL rt).before a0 Z = true) (w6 : (Jvm.Cond.initialized y.cls).before a0 Z = true) (hy : y.cls ≠ "java/lang/invoke/MethodHandle" ∧ y.cls ≠ "java/lang/invoke/VarHandle")
    (hds : parseMethodDescriptor y.desc = some ⟨ps, r'⟩) (hln : argsL.length = ps.length) (hst : st = argsL.reverse ++ .ref a :: rest) (hls : ls.size = maxL) (hd : decode bytes pc = .ok (.invokevirtual i, 3)) (hq : pc + 3 = q)
    {W : Nat} (hW : (rest.map fun v => v.category).sum = W) (hf : rm.frames + 1 ≤ R.frames) (hlo : W + (mL + 11) + rm.locals ≤ R.locals) (hce : cl + rm.cells ≤ R.cells) (hsl : sl + rm.slots ≤ R.slots)
    (k : ∀ w h', Q' w h' → Wk l Z n0 own nm bytes maxL ret R kc ks Q h' (cl + rm.cells) (sl + rm.slots) q ls (w :: rest)) : Wk l Z n0 own nm bytes maxL ret R kc ks Q h cl sl pc ls st := by
  subst hq hst hW
  intro p e s m args below meth c T locs hx hby hml hown hnm hr hlk hZ X eT N
  obtain ⟨cq, kq, q1, q2, q3⟩ := isOf hZ eT E
  obtain ⟨v, _, ⟨T', L', k', n'⟩, -, X', ⟨Lc, ⟨N', hQ⟩, l', y', z'⟩, stp⟩ := X.virtualBack hx (y := y) (z := y) hown (mvT hZ w1) (mvT hZ w2) (notFace_of_selects (args := #[]) (mvT hZ w3)) (mvT hZ w3) (mvT hZ w4) hy (backOf (W := (rest.map fun v => v.category).sum) (Q := fun v h' L => Fr n0 L ∧ (fun v h' => ∃ w, v = some w ∧ Q' w h') v h') (hM []) hZ w5 w6 hf hlo) q1 q3 (g := mkF m pc ls (argsL.reverse ++ .ref a :: rest)) rfl (by rw [hml]; exact hls) (Steps.refl _) (argsL := argsL) (rest := rest) (lenOf hds hln) rfl (by show 2 * 0 + _ ≤ _; omega) (hb hby hd) (fun _ _ => ⟨rfl, eT, hce, hsl⟩)
  dsimp only [Pt.U, Pt.locs, Pt.cells, Pt.slots] at X' l' y' z' stp hQ
  subst l' y' z'
  obtain ⟨w, rfl, hQ⟩ := hQ
  obtain ⟨s₂, o, h1, r⟩ := k w T'.heap hQ p e s m args below meth c T' _ hx hby hml hown hnm hr hlk hZ X' rfl (Fr.app N N')
  exact ⟨s₂, o, stp.trans h1, r⟩
theorem Wk.callV1 {i : Nat} {C : String} {y : MethodName} {by' : ByteArray} {mL : Nat} {rt : Option FieldType} {fr lo : Nat} {a : Addr} {argsL rest : List Value} {v0 : Value} {ps : List FieldType} {r' : Option FieldType}
    (hM : Met l Z n0 y by' mL rt ⟨fr, 0, 0, lo⟩ (.ref a :: argsL).toArray h (fun v h' => v = some v0 ∧ h' = h)) (E : Exa Z h a C)
    (w1 : (Jvm.Cond.methodLink own i y).before a0 Z = true) (w2 : (Jvm.Cond.declares y).before a0 Z = true) (w3 : (Jvm.Cond.selects C y y).before a0 Z = true) (w4 : (Jvm.Cond.instanceMethod y).before a0 Z = true) (w5 : (Jvm.Cond.code y by' mL rt).before a0 Z = true) (w6 : (Jvm.Cond.initialized y.cls).before a0 Z = true) (hy : y.cls ≠ "java/lang/invoke/MethodHandle" ∧ y.cls ≠ "java/lang/invoke/VarHandle")
    (hds : parseMethodDescriptor y.desc = some ⟨ps, r'⟩) (hln : argsL.length = ps.length) (hst : st = argsL.reverse ++ .ref a :: rest) (hls : ls.size = maxL) (hd : decode bytes pc = .ok (.invokevirtual i, 3)) (hq : pc + 3 = q)
    {W : Nat} (hW : (rest.map fun v => v.category).sum = W) (hf : fr + 1 ≤ R.frames) (hlo : W + (mL + 11) + lo ≤ R.locals) (hce : cl ≤ R.cells) (hsl : sl ≤ R.slots)
    (k : Wk l Z n0 own nm bytes maxL ret R kc ks Q h cl sl q ls (v0 :: rest)) : Wk l Z n0 own nm bytes maxL ret R kc ks Q h cl sl pc ls st :=
  Wk.callV (Q' := fun w h' => w = v0 ∧ h' = h) (rm := ⟨fr, 0, 0, lo⟩) (hM.mono fun v h' z => ⟨v0, z.1, rfl, z.2⟩) E w1 w2 w3 w4 w5 w6 hy hds hln hst hls hd hq hW hf hlo hce hsl (fun w h' z => by obtain ⟨rfl, rfl⟩ := z; exact k)
theorem Wk.callV0 {i : Nat} {C : String} {y : MethodName} {by' : ByteArray} {mL : Nat} {rt : Option FieldType} {rm : Room} {a : Addr} {argsL rest : List Value} {Q' : Heap → Prop} {ps : List FieldType} {r' : Option FieldType}
    (hM : Met l Z n0 y by' mL rt rm (.ref a :: argsL).toArray h (fun v h' => v = none ∧ Q' h')) (E : Exa Z h a C)
    (w1 : (Jvm.Cond.methodLink own i y).before a0 Z = true) (w2 : (Jvm.Cond.declares y).before a0 Z = true) (w3 : (Jvm.Cond.selects C y y).before a0 Z = true) (w4 : (Jvm.Cond.instanceMethod y).before a0 Z = true) (w5 : (Jvm.Cond.code y by' mL rt).before a0 Z = true) (w6 : (Jvm.Cond.initialized y.cls).before a0 Z = true) (hy : y.cls ≠ "java/lang/invoke/MethodHandle" ∧ y.cls ≠ "java/lang/invoke/VarHandle")
    (hds : parseMethodDescriptor y.desc = some ⟨ps, r'⟩) (hln : argsL.length = ps.length) (hst : st = argsL.reverse ++ .ref a :: rest) (hls : ls.size = maxL) (hd : decode bytes pc = .ok (.invokevirtual i, 3)) (hq : pc + 3 = q)
    {W : Nat} (hW : (rest.map fun v => v.category).sum = W) (hf : rm.frames + 1 ≤ R.frames) (hlo : W + (mL + 11) + rm.locals ≤ R.locals) (hce : cl + rm.cells ≤ R.cells) (hsl : sl + rm.slots ≤ R.slots)
    (k : ∀ h', Q' h' → Wk l Z n0 own nm bytes maxL ret R kc ks Q h' (cl + rm.cells) (sl + rm.slots) q ls rest) : Wk l Z n0 own nm bytes maxL ret R kc ks Q h cl sl pc ls st := by
  subst hq hst hW
  intro p e s m args below meth c T locs hx hby hml hown hnm hr hlk hZ X eT N
  obtain ⟨cq, kq, q1, q2, q3⟩ := isOf hZ eT E
  obtain ⟨v, _, ⟨T', L', k', n'⟩, -, X', ⟨Lc, ⟨N', hQ⟩, l', y', z'⟩, stp⟩ := X.virtualBack hx (y := y) (z := y) hown (mvT hZ w1) (mvT hZ w2) (notFace_of_selects (args := #[]) (mvT hZ w3)) (mvT hZ w3) (mvT hZ w4) hy (backOf (W := (rest.map fun v => v.category).sum) (Q := fun v h' L => Fr n0 L ∧ (fun v h' => v = none ∧ Q' h') v h') (hM []) hZ w5 w6 hf hlo) q1 q3 (g := mkF m pc ls (argsL.reverse ++ .ref a :: rest)) rfl (by rw [hml]; exact hls) (Steps.refl _) (argsL := argsL) (rest := rest) (lenOf hds hln) rfl (by show 2 * 0 + _ ≤ _; omega) (hb hby hd) (fun _ _ => ⟨rfl, eT, hce, hsl⟩)
  dsimp only [Pt.U, Pt.locs, Pt.cells, Pt.slots] at X' l' y' z' stp hQ
  subst l' y' z'
  obtain ⟨rfl, hQ⟩ := hQ
  obtain ⟨s₂, o, h1, r⟩ := k T'.heap hQ p e s m args below meth c T' _ hx hby hml hown hnm hr hlk hZ X' rfl (Fr.app N N')
  exact ⟨s₂, o, stp.trans h1, r⟩
theorem Wk.callU {i : Nat} {C owner : String} {y z : MethodName} {by' : ByteArray} {mL : Nat} {rt : Option FieldType} {rm : Room} {a : Addr} {argsL rest : List Value} {Q' : Value → Heap → Prop} {ps : List FieldType} {r' : Option FieldType}
    (hM : Met l Z n0 z by' mL rt rm (.ref a :: argsL).toArray h (fun v h' => ∃ w, v = some w ∧ Q' w h')) (E : Exa Z h a C)
    (w1 : (Jvm.Cond.methodLink own i y).before a0 Z = true) (w2 : (Jvm.Cond.sameMethod y.cls owner y.name y.desc).before a0 Z = true) (w3 : (Jvm.Cond.declares ⟨owner, y.name, y.desc⟩).before a0 Z = true) (w4 : (Jvm.Cond.selects C y z).before a0 Z = true) (w5 : (Jvm.Cond.instanceMethod z).before a0 Z = true) (w6 : (Jvm.Cond.code z by' mL rt).before a0 Z = true) (w7 : (Jvm.Cond.initialized z.cls).before a0 Z = true) (hy : owner ≠ "java/lang/invoke/MethodHandle" ∧ owner ≠ "java/lang/invoke/VarHandle")
    (hds : parseMethodDescriptor y.desc = some ⟨ps, r'⟩) (hln : argsL.length = ps.length) (hst : st = argsL.reverse ++ .ref a :: rest) (hls : ls.size = maxL) (hd : decode bytes pc = .ok (.invokevirtual i, 3)) (hq : pc + 3 = q)
    {W : Nat} (hW : (rest.map fun v => v.category).sum = W) (hf : rm.frames + 1 ≤ R.frames) (hlo : W + (mL + 11) + rm.locals ≤ R.locals) (hce : cl + rm.cells ≤ R.cells) (hsl : sl + rm.slots ≤ R.slots)
    (k : ∀ w h', Q' w h' → Wk l Z n0 own nm bytes maxL ret R kc ks Q h' (cl + rm.cells) (sl + rm.slots) q ls (w :: rest)) : Wk l Z n0 own nm bytes maxL ret R kc ks Q h cl sl pc ls st := by
  subst hq hst hW
  intro p e s m args below meth c T locs hx hby hml hown hnm hr hlk hZ X eT N
  obtain ⟨cq, kq, q1, q2, q3⟩ := isOf hZ eT E
  obtain ⟨v, _, ⟨T', L', k', n'⟩, -, X', ⟨Lc, ⟨N', hQ⟩, l', y', z'⟩, stp⟩ := X.virtualBackUp hx (x := y) (y := z) (owner := owner) hown (mvT hZ w1) (mvT hZ w2) (mvT hZ w3) hy (mvT hZ w4) (mvT hZ w5) (backOf (W := (rest.map fun v => v.category).sum) (Q := fun v h' L => Fr n0 L ∧ (fun v h' => ∃ w, v = some w ∧ Q' w h') v h') (hM []) hZ w6 w7 hf hlo) q1 q3 (g := mkF m pc ls (argsL.reverse ++ .ref a :: rest)) rfl (by rw [hml]; exact hls) (Steps.refl _) (argsL := argsL) (rest := rest) (lenOf hds hln) rfl (by show 2 * 0 + _ ≤ _; omega) (hb hby hd) (fun _ _ => ⟨rfl, eT, hce, hsl⟩)
  dsimp only [Pt.U, Pt.locs, Pt.cells, Pt.slots] at X' l' y' z' stp hQ
  subst l' y' z'
  obtain ⟨w, rfl, hQ⟩ := hQ
  obtain ⟨s₂, o, h1, r⟩ := k w T'.heap hQ p e s m args below meth c T' _ hx hby hml hown hnm hr hlk hZ X' rfl (Fr.app N N')
  exact ⟨s₂, o, stp.trans h1, r⟩
theorem Wk.callU1 {i : Nat} {C owner : String} {y z : MethodName} {by' : ByteArray} {mL : Nat} {rt : Option FieldType} {fr lo : Nat} {a : Addr} {argsL rest : List Value} {v0 : Value} {ps : List FieldType} {r' : Option FieldType}
    (hM : Met l Z n0 z by' mL rt ⟨fr, 0, 0, lo⟩ (.ref a :: argsL).toArray h (fun v h' => v = some v0 ∧ h' = h)) (E : Exa Z h a C)
    (w1 : (Jvm.Cond.methodLink own i y).before a0 Z = true) (w2 : (Jvm.Cond.sameMethod y.cls owner y.name y.desc).before a0 Z = true) (w3 : (Jvm.Cond.declares ⟨owner, y.name, y.desc⟩).before a0 Z = true) (w4 : (Jvm.Cond.selects C y z).before a0 Z = true) (w5 : (Jvm.Cond.instanceMethod z).before a0 Z = true) (w6 : (Jvm.Cond.code z by' mL rt).before a0 Z = true) (w7 : (Jvm.Cond.initialized z.cls).before a0 Z = true) (hy : owner ≠ "java/lang/invoke/MethodHandle" ∧ owner ≠ "java/lang/invoke/VarHandle")
    (hds : parseMethodDescriptor y.desc = some ⟨ps, r'⟩) (hln : argsL.length = ps.length) (hst : st = argsL.reverse ++ .ref a :: rest) (hls : ls.size = maxL) (hd : decode bytes pc = .ok (.invokevirtual i, 3)) (hq : pc + 3 = q)
    {W : Nat} (hW : (rest.map fun v => v.category).sum = W) (hf : fr + 1 ≤ R.frames) (hlo : W + (mL + 11) + lo ≤ R.locals) (hce : cl ≤ R.cells) (hsl : sl ≤ R.slots)
    (k : Wk l Z n0 own nm bytes maxL ret R kc ks Q h cl sl q ls (v0 :: rest)) : Wk l Z n0 own nm bytes maxL ret R kc ks Q h cl sl pc ls st :=
  Wk.callU (Q' := fun w h' => w = v0 ∧ h' = h) (rm := ⟨fr, 0, 0, lo⟩) (hM.mono fun v h' z => ⟨v0, z.1, rfl, z.2⟩) E w1 w2 w3 w4 w5 w6 w7 hy hds hln hst hls hd hq hW hf hlo hce hsl (fun w h' z => by obtain ⟨rfl, rfl⟩ := z; exact k)
theorem Wk.callS2 {i : Nat} {y : MethodName} {by' : ByteArray} {mL : Nat} {rt : Option FieldType} {fr lo : Nat} {argsL rest : List Value} {P : Value → Prop} {ps : List FieldType} {r' : Option FieldType}
    (hM : Met l Z n0 y by' mL rt ⟨fr, 0, 0, lo⟩ argsL.toArray h (fun v h' => (∃ w, v = some w ∧ P w) ∧ h' = h))
    (w1 : (Jvm.Cond.methodLink own i y).before a0 Z = true) (w2 : (Jvm.Cond.static y).before a0 Z = true) (w3 : (Jvm.Cond.initialized y.cls).before a0 Z = true) (w4 : (Jvm.Cond.code y by' mL rt).before a0 Z = true) (hy : y.cls ≠ "java/lang/invoke/MethodHandle" ∧ y.cls ≠ "java/lang/invoke/VarHandle")
    (hds : parseMethodDescriptor y.desc = some ⟨ps, r'⟩) (hln : argsL.length = ps.length) (hst : st = argsL.reverse ++ rest) (hls : ls.size = maxL) (hd : decode bytes pc = .ok (.invokestatic i, 3)) (hq : pc + 3 = q)
    {W : Nat} (hW : (rest.map fun v => v.category).sum = W) (hf : fr + 1 ≤ R.frames) (hlo : W + (mL + 11) + lo ≤ R.locals) (hce : cl ≤ R.cells) (hsl : sl ≤ R.slots)
    (k : ∀ w, P w → Wk l Z n0 own nm bytes maxL ret R kc ks Q h cl sl q ls (w :: rest)) : Wk l Z n0 own nm bytes maxL ret R kc ks Q h cl sl pc ls st :=
  Wk.callS (Q' := fun w h' => P w ∧ h' = h) (rm := ⟨fr, 0, 0, lo⟩) (hM.mono fun v h' z => by obtain ⟨⟨w, e, p⟩, q⟩ := z; exact ⟨w, e, p, q⟩) w1 w2 w3 w4 hy hds hln hst hls hd hq hW hf hlo hce hsl (fun w h' z => by obtain ⟨z1, rfl⟩ := z; exact k w z1)
theorem Wk.callV2 {i : Nat} {C : String} {y : MethodName} {a : Addr} {by' : ByteArray} {mL : Nat} {rt : Option FieldType} {fr lo : Nat} {argsL rest : List Value} {P : Value → Prop} {ps : List FieldType} {r' : Option FieldType}
    (hM : Met l Z n0 y by' mL rt ⟨fr, 0, 0, lo⟩ (.ref a :: argsL).toArray h (fun v h' => (∃ w, v = some w ∧ P w) ∧ h' = h)) (E : Exa Z h a C)
    (w1 : (Jvm.Cond.methodLink own i y).before a0 Z = true) (w2 : (Jvm.Cond.declares y).before a0 Z = true) (w3 : (Jvm.Cond.selects C y y).before a0 Z = true) (w4 : (Jvm.Cond.instanceMethod y).before a0 Z = true) (w5 : (Jvm.Cond.code y by' mL rt).before a0 Z = true) (w6 : (Jvm.Cond.initialized y.cls).before a0 Z = true) (hy : y.cls ≠ "java/lang/invoke/MethodHandle" ∧ y.cls ≠ "java/lang/invoke/VarHandle")
    (hds : parseMethodDescriptor y.desc = some ⟨ps, r'⟩) (hln : argsL.length = ps.length) (hst : st = argsL.reverse ++ .ref a :: rest) (hls : ls.size = maxL) (hd : decode bytes pc = .ok (.invokevirtual i, 3)) (hq : pc + 3 = q)
    {W : Nat} (hW : (rest.map fun v => v.category).sum = W) (hf : fr + 1 ≤ R.frames) (hlo : W + (mL + 11) + lo ≤ R.locals) (hce : cl ≤ R.cells) (hsl : sl ≤ R.slots)
    (k : ∀ w, P w → Wk l Z n0 own nm bytes maxL ret R kc ks Q h cl sl q ls (w :: rest)) : Wk l Z n0 own nm bytes maxL ret R kc ks Q h cl sl pc ls st :=
  Wk.callV (Q' := fun w h' => P w ∧ h' = h) (rm := ⟨fr, 0, 0, lo⟩) (hM.mono fun v h' z => by obtain ⟨⟨w, e, p⟩, q⟩ := z; exact ⟨w, e, p, q⟩) E w1 w2 w3 w4 w5 w6 hy hds hln hst hls hd hq hW hf hlo hce hsl (fun w h' z => by obtain ⟨z1, rfl⟩ := z; exact k w z1)
/-! the case's words -/
theorem own_exa {args : Array Value} {C n d K : String} (hx : (Jvm.Cond.exactly (.static C n d) K).value args Z none Z [] = some true) (wi : (Jvm.Cond.initialized C).before args Z = true) (wl : (Jvm.Cond.laysStatic C n d).before args Z = true) :
    ∃ a, (Term.static C n d).eval args Z none [] Z = some (.ref a) ∧ Sta Z Z.heap C n d (.ref a) ∧ Exa Z Z.heap a K := by
  obtain ⟨a, ev⟩ := exa_v hx
  exact ⟨a, ev, Sta.start ev (Or.inr ⟨wi, wl⟩), Exa.start ev hx⟩
theorem own_arr {args : Array Value} {C n d : String} {ty : FieldType} (hx : (Jvm.Cond.arrayOf (.static C n d) ty).value args Z none Z [] = some true) (wi : (Jvm.Cond.initialized C).before args Z = true) (wl : (Jvm.Cond.laysStatic C n d).before args Z = true) :
    ∃ a c, (Term.static C n d).eval args Z none [] Z = some (.ref a) ∧ Sta Z Z.heap C n d (.ref a) ∧ Arr Z Z.heap a c ty := by
  obtain ⟨a, ev⟩ := arr_v hx
  obtain ⟨c, A⟩ := Arr.start ev hx
  exact ⟨a, c, ev, Sta.start ev (Or.inr ⟨wi, wl⟩), A⟩
theorem own_eqi {args : Array Value} {t u : Term} {y : Int32} {idx : List Nat} (h : (Jvm.Cond.eq t u).value args Z none Z idx = some true) (hu : u.eval args Z none idx Z = some (.int y)) : t.eval args Z none idx Z = some (.int y) := by
  obtain ⟨x, y', h1, h2, k1, k2⟩ := cmp_v (Or.inl h)
  cases hu.symm.trans h2
  obtain ⟨z, rfl⟩ := k2
  have e : z = y := by simpa [Cond.value, h1, hu] using h
  rw [h1, e]
theorem own_eqr {args : Array Value} {t u : Term} {y : Addr} {idx : List Nat} (h : (Jvm.Cond.eq t u).value args Z none Z idx = some true) (hu : u.eval args Z none idx Z = some (.ref y)) : t.eval args Z none idx Z = some (.ref y) := by
  obtain ⟨x, y', h1, h2, k1, k2⟩ := cmp_v (Or.inl h)
  cases hu.symm.trans h2
  have e := gotT (eq_R h1 hu k2.2 rfl) h
  rw [h1, e]
theorem own_fld {args : Array Value} {t : Term} {O f d : String} {a : Addr} {v : Value} (ev : t.eval args Z none [] Z = some (.ref a)) (e : (Term.field t O f d).eval args Z none [] Z = some v) : Fld Z Z.heap a O f d v :=
  Fld.start ((fld_at ev).symm.trans e)
theorem own_len {args : Array Value} {t : Term} {a : Addr} {c : Cell} {ty : FieldType} {n : Int32} {k : Nat} (ev : t.eval args Z none [] Z = some (.ref a)) (A : Arr Z Z.heap a c ty) (e : (Term.length t).eval args Z none [] Z = some (.int n)) (hk : n.toInt = (k : Int)) : c.slots.size = k := by
  have hA : Z.arrayAt? a = some c := A.fin (Vm.Alike.refl _)
  have hs : c.slots.size < 2 ^ 31 := by
    by_cases q : c.slots.size < 2 ^ 31
    · exact q
    · simp [Term.eval, ev, hA, q] at e
  have e2 := (len_f ev hA hs).symm.trans e
  have e3 : c.slots.size.toInt32 = n := by injection e2 with e2; injection e2
  have e4 := len_toInt hs
  rw [e3, hk] at e4
  exact (Int.ofNat.inj e4).symm
theorem own_elem {args : Array Value} {t : Term} {a : Addr} {c : Cell} {ty : FieldType} {i : Int32} {v : Value} {idx : List Nat} (ev : t.eval args Z none idx Z = some (.ref a)) (A : Arr Z Z.heap a c ty) (e : (Term.elem t (.int i)).eval args Z none idx Z = some v) : c.slots[i.toNatClampNeg]? = some v :=
  (elem_in e ev (Term.int_eval i) A.1).2
theorem own_all {args : Array Value} {C n d : String} {c : Jvm.Cond} {a : Addr} {cl : Cell} {ty : FieldType} (ev : (Term.static C n d).eval args Z none [] Z = some (.ref a)) (A : Arr Z Z.heap a cl ty) (h : (Jvm.Cond.all (.static C n d) c).value args Z none Z [] = some true) (k : Nat) (hk : k < cl.slots.size) : c.value args Z none Z [k] = some true :=
  Cond.all_elim ev (A.fin (Vm.Alike.refl _)) h k hk
theorem own_tk {args : Array Value} {C n d : String} {a : Addr} {cl : Cell} {ty : FieldType} {v : Int32} {k : Nat} (ev : (Term.static C n d).eval args Z none [] Z = some (.ref a)) (A : Arr Z Z.heap a cl ty) (hk : k < 256) (h : (Jvm.Cond.eq (.elem (.static C n d) (.index 0)) (.int v)).value args Z none Z [k] = some true) : cl.slots[k]? = some (.int v) := by
  have ev' : (Term.static C n d).eval args Z none [k] Z = some (.ref a) := ev
  have e := (elem_in (own_eqi h (Term.int_eval v)) ev' (Term.index_eval k) A.1).2
  have q : k.toInt32.toNatClampNeg = k := by simp only [Int32.toNatClampNeg, len_toInt (show k < 2 ^ 31 by omega)]; rfl
  rwa [q] at e
theorem own_or {args : Array Value} {G X : Jvm.Cond} {P : Prop} [Decidable P] {idx : List Nat} (h : (Jvm.Cond.or G X).value args Z none Z idx = some true) (hG : G.value args Z none Z idx = some (decide P)) (np : ¬ P) : X.value args Z none Z idx = some true := by
  rwa [Cond.or_of_right (by rw [hG]; simp [np])] at h
theorem own_kle {a : Int32} {k m : Nat} (ha : a.toInt = (m : Int)) (hk : k < 256) : a ≤ k.toInt32 ↔ m ≤ k := by
  rw [Int32.le_iff_toInt_le, ha, len_toInt (show k < 2 ^ 31 by omega)]; omega
theorem own_klt {a : Int32} {k m : Nat} (ha : a.toInt = (m : Int)) (hk : k < 256) : k.toInt32 < a ↔ k < m := by
  rw [Int32.lt_iff_toInt_lt, ha, len_toInt (show k < 2 ^ 31 by omega)]; omega
theorem own_neR {a b : Addr} (h : a ≠ b) : ¬ (Value.ref a) = (Value.ref b) := fun e => h (Value.ref.inj e)
theorem own_neN {a : Addr} : ¬ (Value.ref a) = Value.null := fun e => nomatch e
theorem own_nNe {a : Addr} : ¬ Value.null = (Value.ref a) := fun e => nomatch e
/-- (x & 0x7fffffff) % n lies from 0 to n - 1 -/
theorem own_mod (x n : Int32) (hn : 0 < n.toInt) : 0 ≤ ((x &&& 2147483647) % n).toInt ∧ ((x &&& 2147483647) % n).toInt < n.toInt := by
  have h1 := c_and x 2147483647 (by decide)
  rw [Int32.toInt_mod]
  have h2 := Int.tmod_nonneg n.toInt h1.1
  have h3 := Int.tmod_lt_of_pos (x &&& 2147483647).toInt hn
  exact ⟨h2, h3⟩
theorem own_cl_lt (x y : Int64) : XT.cmpL x y < 0 ↔ x < y := by unfold XT.cmpL; split <;> (try split) <;> simp_all [Int64.lt_iff_toInt_lt, ← Int64.toInt_inj] <;> omega
theorem own_cl_gt (x y : Int64) : 0 < XT.cmpL x y ↔ y < x := by unfold XT.cmpL; split <;> (try split) <;> simp_all [Int64.lt_iff_toInt_lt, ← Int64.toInt_inj] <;> omega
theorem own_cl_eq (x y : Int64) : XT.cmpL x y = 0 ↔ x = y := by unfold XT.cmpL; split <;> (try split) <;> simp_all [Int64.lt_iff_toInt_lt, ← Int64.toInt_inj] <;> omega
theorem own_i32 {x y : Int32} (e : x.toInt = y.toInt) : x = y := Int32.toInt_inj.mp e
end Own

theorem w_0 {a0 : Array Value} {Z : State} (hw : ∀ d ∈ tables_1, d.before a0 Z = true) : (Jvm.Cond.fieldLink "com/example/kaiten_draft/kaitendraft/cards/RuleSetPointsEachPinLaw" (20 : Nat) "com/example/kaiten_draft/kaitendraft/cards/RuleSet" "SPLIT_TIES" "Lcom/example/kaiten_draft/kaitendraft/cards/RuleSet;").before a0 Z = true := hw _ (List.mem_of_getElem? (i := 0) rfl)
theorem w_1 {a0 : Array Value} {Z : State} (hw : ∀ d ∈ tables_1, d.before a0 Z = true) : (Jvm.Cond.initialized "com/example/kaiten_draft/kaitendraft/cards/RuleSet").before a0 Z = true := hw _ (List.mem_of_getElem? (i := 1) rfl)
theorem w_2 {a0 : Array Value} {Z : State} (hw : ∀ d ∈ tables_1, d.before a0 Z = true) : (Jvm.Cond.laysStatic "com/example/kaiten_draft/kaitendraft/cards/RuleSet" "SPLIT_TIES" "Lcom/example/kaiten_draft/kaitendraft/cards/RuleSet;").before a0 Z = true := hw _ (List.mem_of_getElem? (i := 2) rfl)
theorem w_3 {a0 : Array Value} {Z : State} (hw : ∀ d ∈ tables_1, d.before a0 Z = true) : (Jvm.Cond.methodLink "com/example/kaiten_draft/kaitendraft/cards/RuleSetPointsEachPinLaw" (23 : Nat) ({ cls := "com/example/kaiten_draft/kaitendraft/cards/RuleSet", name := "pointsEach", desc := "(II)I" } : Jvm.MethodName)).before a0 Z = true := hw _ (List.mem_of_getElem? (i := 3) rfl)
theorem w_4 {a0 : Array Value} {Z : State} (hw : ∀ d ∈ tables_1, d.before a0 Z = true) : (Jvm.Cond.declares ({ cls := "com/example/kaiten_draft/kaitendraft/cards/RuleSet", name := "pointsEach", desc := "(II)I" } : Jvm.MethodName)).before a0 Z = true := hw _ (List.mem_of_getElem? (i := 4) rfl)
theorem w_5 {a0 : Array Value} {Z : State} (hw : ∀ d ∈ tables_1, d.before a0 Z = true) : (Jvm.Cond.instanceMethod ({ cls := "com/example/kaiten_draft/kaitendraft/cards/RuleSet", name := "pointsEach", desc := "(II)I" } : Jvm.MethodName)).before a0 Z = true := hw _ (List.mem_of_getElem? (i := 5) rfl)
theorem w_6 {a0 : Array Value} {Z : State} (hw : ∀ d ∈ tables_1, d.before a0 Z = true) : (Jvm.Cond.selects "com/example/kaiten_draft/kaitendraft/cards/RuleSet" ({ cls := "com/example/kaiten_draft/kaitendraft/cards/RuleSet", name := "pointsEach", desc := "(II)I" } : Jvm.MethodName) ({ cls := "com/example/kaiten_draft/kaitendraft/cards/RuleSet", name := "pointsEach", desc := "(II)I" } : Jvm.MethodName)).before a0 Z = true := hw _ (List.mem_of_getElem? (i := 6) rfl)
theorem w_7 {a0 : Array Value} {Z : State} (hw : ∀ d ∈ tables_1, d.before a0 Z = true) : (Jvm.Cond.code ({ cls := "com/example/kaiten_draft/kaitendraft/cards/RuleSet", name := "pointsEach", desc := "(II)I" } : Jvm.MethodName) prog_13_method_10_code (3 : Nat) (Option.some Jvm.ClassFile.FieldType.int)).before a0 Z = true := hw _ (List.mem_of_getElem? (i := 7) rfl)
theorem w_8 {a0 : Array Value} {Z : State} (hw : ∀ d ∈ tables_1, d.before a0 Z = true) : (Jvm.Cond.fieldLink "com/example/kaiten_draft/kaitendraft/cards/RuleSet" (44 : Nat) "com/example/kaiten_draft/kaitendraft/cards/RuleSet" "tiedScoreInFull" "Z").before a0 Z = true := hw _ (List.mem_of_getElem? (i := 8) rfl)
theorem w_9 {a0 : Array Value} {Z : State} (hw : ∀ d ∈ tables_1, d.before a0 Z = true) : (Jvm.Cond.laysFinal "com/example/kaiten_draft/kaitendraft/cards/RuleSet" "com/example/kaiten_draft/kaitendraft/cards/RuleSet" "tiedScoreInFull" "Z").before a0 Z = true := hw _ (List.mem_of_getElem? (i := 9) rfl)
theorem w_10 {a0 : Array Value} {Z : State} (hw : ∀ d ∈ tables_1, d.before a0 Z = true) : (Jvm.Cond.fieldLink "com/example/kaiten_draft/kaitendraft/cards/RuleSetPointsEachPinLaw" (14 : Nat) "com/example/kaiten_draft/kaitendraft/cards/RuleSet" "SHARED_TIES" "Lcom/example/kaiten_draft/kaitendraft/cards/RuleSet;").before a0 Z = true := hw _ (List.mem_of_getElem? (i := 10) rfl)
theorem w_11 {a0 : Array Value} {Z : State} (hw : ∀ d ∈ tables_1, d.before a0 Z = true) : (Jvm.Cond.laysStatic "com/example/kaiten_draft/kaitendraft/cards/RuleSet" "SHARED_TIES" "Lcom/example/kaiten_draft/kaitendraft/cards/RuleSet;").before a0 Z = true := hw _ (List.mem_of_getElem? (i := 11) rfl)
theorem w_12 {a0 : Array Value} {Z : State} (hw : ∀ d ∈ tables_1, d.before a0 Z = true) : (Jvm.Cond.constant "com/example/kaiten_draft/kaitendraft/cards/RuleSetPointsEachPinLaw" (7 : Nat) (2147483647 : Int32)).before a0 Z = true := hw _ (List.mem_of_getElem? (i := 12) rfl)
theorem w_13 {a0 : Array Value} {Z : State} (hw : ∀ d ∈ tables_1, d.before a0 Z = true) : (Jvm.Cond.methodLink "com/example/kaiten_draft/kaitendraft/cards/RuleSetPointsEachPinLaw" (8 : Nat) ({ cls := "java/lang/Math", name := "max", desc := "(II)I" } : Jvm.MethodName)).before a0 Z = true := hw _ (List.mem_of_getElem? (i := 13) rfl)
theorem w_14 {a0 : Array Value} {Z : State} (hw : ∀ d ∈ tables_1, d.before a0 Z = true) : (Jvm.Cond.static ({ cls := "java/lang/Math", name := "max", desc := "(II)I" } : Jvm.MethodName)).before a0 Z = true := hw _ (List.mem_of_getElem? (i := 14) rfl)
theorem w_15 {a0 : Array Value} {Z : State} (hw : ∀ d ∈ tables_1, d.before a0 Z = true) : (Jvm.Cond.initialized "java/lang/Math").before a0 Z = true := hw _ (List.mem_of_getElem? (i := 15) rfl)
theorem w_16 {a0 : Array Value} {Z : State} (hw : ∀ d ∈ tables_1, d.before a0 Z = true) : (Jvm.Cond.code ({ cls := "java/lang/Math", name := "max", desc := "(II)I" } : Jvm.MethodName) jdk_29_method_65_code (2 : Nat) (Option.some Jvm.ClassFile.FieldType.int)).before a0 Z = true := hw _ (List.mem_of_getElem? (i := 16) rfl)
theorem pn_0 : plainName "com/example/kaiten_draft/kaitendraft/cards/RuleSet" = true := by first | (simp [plainName, overriddenIn]; done) | decide +kernel
theorem pn_1 : plainFor (⟨"java/lang/Math", "max", "(II)I"⟩ : MethodName) = true := by decide +kernel
theorem pn_2 : plainName "com/example/kaiten_draft/kaitendraft/cards/RuleSetPointsEachPinLaw" = true := by first | (simp [plainName, overriddenIn]; done) | decide +kernel
theorem pd_0 : parseMethodDescriptor "(II)I" = some ⟨[.int, .int], (some .int)⟩ := by decide +kernel
theorem d1_0 : decode prog_13_method_10_code 0 = .ok (.aload_n 0, 1) := by decide +kernel
theorem d1_1 : decode prog_13_method_10_code 1 = .ok (.getfield 44, 3) := by decide +kernel
theorem d1_4 : decode prog_13_method_10_code 4 = .ok (.ifCond .eq 7, 3) := by decide +kernel
theorem d1_7 : decode prog_13_method_10_code 7 = .ok (.iload_n 1, 1) := by decide +kernel
theorem d1_8 : decode prog_13_method_10_code 8 = .ok (.goto 6, 3) := by decide +kernel
theorem d1_11 : decode prog_13_method_10_code 11 = .ok (.iload_n 1, 1) := by decide +kernel
theorem d1_12 : decode prog_13_method_10_code 12 = .ok (.iload_n 2, 1) := by decide +kernel
theorem d1_13 : decode prog_13_method_10_code 13 = .ok (.idiv, 1) := by decide +kernel
theorem d1_14 : decode prog_13_method_10_code 14 = .ok (.ireturn, 1) := by decide +kernel
theorem d2_0 : decode jdk_29_method_65_code 0 = .ok (.iload_n 0, 1) := by decide +kernel
theorem d2_1 : decode jdk_29_method_65_code 1 = .ok (.iload_n 1, 1) := by decide +kernel
theorem d2_2 : decode jdk_29_method_65_code 2 = .ok (.if_icmp .lt 7, 3) := by decide +kernel
theorem d2_5 : decode jdk_29_method_65_code 5 = .ok (.iload_n 0, 1) := by decide +kernel
theorem d2_6 : decode jdk_29_method_65_code 6 = .ok (.goto 4, 3) := by decide +kernel
theorem d2_9 : decode jdk_29_method_65_code 9 = .ok (.iload_n 1, 1) := by decide +kernel
theorem d2_10 : decode jdk_29_method_65_code 10 = .ok (.ireturn, 1) := by decide +kernel
theorem own_pq (p t : Int32) (ht : 1 ≤ t.toInt) : (p.toInt64 - ((p / t).toInt64 * t.toInt64)).toInt = p.toInt.tmod t.toInt := by
  have e1 := c_i2l p
  have e2 := c_i2l t
  have e3 := c_i2l (p / t)
  have r1 := rng32 p
  have r2 := rng32 t
  have hdiv : (p / t).toInt = p.toInt.tdiv t.toInt := by
    rw [Int32.toInt_div]
    have hb : (p.toInt.tdiv t.toInt).natAbs ≤ p.toInt.natAbs := by rw [Int.natAbs_tdiv]; exact Nat.div_le_self _ _
    by_cases hp : 0 ≤ p.toInt
    · have h0 : 0 ≤ p.toInt.tdiv t.toInt := Int.tdiv_nonneg hp (by omega)
      rw [Int.bmod_eq_of_le (by omega) (by omega)]
    · have h1 := Int.neg_tdiv p.toInt t.toInt
      have h2 := Int.tdiv_nonneg (a := -p.toInt) (b := t.toInt) (by omega) (by omega)
      have h0 : p.toInt.tdiv t.toInt ≤ 0 := by omega
      rw [Int.bmod_eq_of_le (by omega) (by omega)]
  have hm := Int.mul_tdiv_add_tmod p.toInt t.toInt
  have hab : (p.toInt.tmod t.toInt).natAbs ≤ p.toInt.natAbs := by rw [Int.natAbs_tmod]; exact Nat.mod_le _ _
  have c1 := c_lmul (p / t).toInt64 t.toInt64
  rw [e2, e3, hdiv] at c1
  have c2 := c_lsub p.toInt64 ((p / t).toInt64 * t.toInt64)
  rw [e1] at c2
  have r3 := rng64 (p.toInt64 - (p / t).toInt64 * t.toInt64)
  rw [Int.mul_comm] at c1
  generalize t.toInt * p.toInt.tdiv t.toInt = w at *
  generalize p.toInt.tmod t.toInt = z at *
  omega
theorem own_r1 (p t : Int32) (ht : 1 ≤ t.toInt) (hp : 0 ≤ p.toInt) : 0 ≤ (p.toInt64 - ((p / t).toInt64 * t.toInt64)).toInt ∧ (p.toInt64 - ((p / t).toInt64 * t.toInt64)).toInt < t.toInt := by
  rw [own_pq p t ht]; exact ⟨Int.tmod_nonneg _ hp, Int.tmod_lt_of_pos _ (by omega)⟩
theorem own_r2 (p t : Int32) (ht : 1 ≤ t.toInt) (hp : p.toInt < 0) : (p.toInt64 - ((p / t).toInt64 * t.toInt64)).toInt ≤ 0 ∧ -t.toInt < (p.toInt64 - ((p / t).toInt64 * t.toInt64)).toInt := by
  rw [own_pq p t ht]
  have h1 := Int.neg_tmod p.toInt t.toInt
  have h2 := Int.tmod_nonneg t.toInt (a := -p.toInt) (by omega)
  have h3 := Int.tmod_lt_of_pos (-p.toInt) (b := t.toInt) (by omega)
  omega
theorem own_ng (t : Int32) : (-(t.toInt64)).toInt = -t.toInt := by
  have c := c_lneg t.toInt64
  have e := c_i2l t
  have r := rng32 t
  have r2 := rng64 (-(t.toInt64))
  omega
theorem own_t_lt {t : Int32} (h : (1 : Int32) < t) : 1 ≤ t.toInt := by
  rw [Int32.lt_iff_toInt_lt] at h
  have e : (1 : Int32).toInt = 1 := by decide
  omega
theorem own_t7 (x : Int32) : 1 ≤ ((1 : Int32) + (x &&& (7 : Int32))).toInt := by
  have h := c_and x 7 (by decide)
  have e : (7 : Int32).toInt = 7 := by decide
  have e1 : (1 : Int32).toInt = 1 := by decide
  have c := c_iadd 1 (x &&& 7)
  have r := rng32 (1 + (x &&& 7))
  omega
theorem own_nz {t : Int32} (h : 1 ≤ t.toInt) : t ≠ 0 := fun q => by
  rw [q] at h; exact absurd h (by decide)
def OwnF (Z : State) (h : Heap) (a_SPLIT_TIES a_SHARED_TIES : Addr) : Prop := (Sta Z h "com/example/kaiten_draft/kaitendraft/cards/RuleSet" "SPLIT_TIES" "Lcom/example/kaiten_draft/kaitendraft/cards/RuleSet;" (.ref a_SPLIT_TIES)) ∧ (Exa Z h a_SPLIT_TIES "com/example/kaiten_draft/kaitendraft/cards/RuleSet") ∧ (Sta Z h "com/example/kaiten_draft/kaitendraft/cards/RuleSet" "SHARED_TIES" "Lcom/example/kaiten_draft/kaitendraft/cards/RuleSet;" (.ref a_SHARED_TIES)) ∧ (Exa Z h a_SHARED_TIES "com/example/kaiten_draft/kaitendraft/cards/RuleSet") ∧ (Fld Z h a_SPLIT_TIES "com/example/kaiten_draft/kaitendraft/cards/RuleSet" "tiedScoreInFull" "Z" (.int (0 : Int32))) ∧ (Fld Z h a_SHARED_TIES "com/example/kaiten_draft/kaitendraft/cards/RuleSet" "tiedScoreInFull" "Z" (.int (1 : Int32)))
theorem OwnF.s_SPLIT_TIES {Z : State} {h : Heap} {a_SPLIT_TIES a_SHARED_TIES : Addr} (F : OwnF Z h a_SPLIT_TIES a_SHARED_TIES) : Sta Z h "com/example/kaiten_draft/kaitendraft/cards/RuleSet" "SPLIT_TIES" "Lcom/example/kaiten_draft/kaitendraft/cards/RuleSet;" (.ref a_SPLIT_TIES) := F.1
theorem OwnF.x_SPLIT_TIES {Z : State} {h : Heap} {a_SPLIT_TIES a_SHARED_TIES : Addr} (F : OwnF Z h a_SPLIT_TIES a_SHARED_TIES) : Exa Z h a_SPLIT_TIES "com/example/kaiten_draft/kaitendraft/cards/RuleSet" := F.2.1
theorem OwnF.s_SHARED_TIES {Z : State} {h : Heap} {a_SPLIT_TIES a_SHARED_TIES : Addr} (F : OwnF Z h a_SPLIT_TIES a_SHARED_TIES) : Sta Z h "com/example/kaiten_draft/kaitendraft/cards/RuleSet" "SHARED_TIES" "Lcom/example/kaiten_draft/kaitendraft/cards/RuleSet;" (.ref a_SHARED_TIES) := F.2.2.1
theorem OwnF.x_SHARED_TIES {Z : State} {h : Heap} {a_SPLIT_TIES a_SHARED_TIES : Addr} (F : OwnF Z h a_SPLIT_TIES a_SHARED_TIES) : Exa Z h a_SHARED_TIES "com/example/kaiten_draft/kaitendraft/cards/RuleSet" := F.2.2.2.1
theorem OwnF.f_SPLIT_TIES_tiedScoreInFull {Z : State} {h : Heap} {a_SPLIT_TIES a_SHARED_TIES : Addr} (F : OwnF Z h a_SPLIT_TIES a_SHARED_TIES) : Fld Z h a_SPLIT_TIES "com/example/kaiten_draft/kaitendraft/cards/RuleSet" "tiedScoreInFull" "Z" (.int (0 : Int32)) := F.2.2.2.2.1
theorem OwnF.f_SHARED_TIES_tiedScoreInFull {Z : State} {h : Heap} {a_SPLIT_TIES a_SHARED_TIES : Addr} (F : OwnF Z h a_SPLIT_TIES a_SHARED_TIES) : Fld Z h a_SHARED_TIES "com/example/kaiten_draft/kaitendraft/cards/RuleSet" "tiedScoreInFull" "Z" (.int (1 : Int32)) := F.2.2.2.2.2
set_option maxRecDepth 65536 in
set_option maxHeartbeats 40000000 in
theorem m_split {l : Launch} {Z : State} {a0 : Array Value} {n0 : Nat} {h : Heap} {a_SPLIT_TIES a_SHARED_TIES : Addr} (hw : ∀ d ∈ tables_1, d.before a0 Z = true) (F : OwnF Z h a_SPLIT_TIES a_SHARED_TIES) (z0 z1 : Int32) (hz : z1 ≠ 0) : Met l Z n0 (⟨"com/example/kaiten_draft/kaitendraft/cards/RuleSet", "pointsEach", "(II)I"⟩ : MethodName) prog_13_method_10_code 3 (Option.some Jvm.ClassFile.FieldType.int) (⟨0, 0, 0, 0⟩ : Room) #[(.ref a_SPLIT_TIES), (.int z0), (.int z1)] h (fun v h' => v = some (.int (z0 / z1)) ∧ h' = h) := by
  refine Met.of_wk (ls := #[.val (.ref a_SPLIT_TIES), .val (.int z0), .val (.int z1)]) (plainFor_of_name pn_0) (fun _ => rfl) ?_
  show Wk l Z n0 "com/example/kaiten_draft/kaitendraft/cards/RuleSet" "pointsEach" prog_13_method_10_code 3 (Option.some Jvm.ClassFile.FieldType.int) (⟨0, 0, 0, 0⟩ : Room) 0 0 (fun v h' => v = some (.int (z0 / z1)) ∧ h' = h) h 0 0 0 #[.val (.ref a_SPLIT_TIES), .val (.int z0), .val (.int z1)] []
  refine Wk.aloadN (q := 1) d1_0 rfl rfl rfl ?_
  refine Wk.getF (q := 4) (w_8 hw) Via.refl F.f_SPLIT_TIES_tiedScoreInFull d1_1 rfl ?_
  refine Wk.ifcT (q := 11) d1_4 (by decide) rfl (by decide : (0 : Int32) = (0 : Int32)) ?_
  refine Wk.iloadN (q := 12) d1_11 rfl rfl ?_
  refine Wk.iloadN (q := 13) d1_12 rfl rfl ?_
  refine Wk.idiv (q := 14) (v := (z0 / z1)) d1_13 rfl hz rfl ?_
  exact Wk.retI rfl d1_14 (by decide) (by decide) ⟨rfl, rfl⟩
set_option maxRecDepth 65536 in
set_option maxHeartbeats 40000000 in
theorem m_shared {l : Launch} {Z : State} {a0 : Array Value} {n0 : Nat} {h : Heap} {a_SPLIT_TIES a_SHARED_TIES : Addr} (hw : ∀ d ∈ tables_1, d.before a0 Z = true) (F : OwnF Z h a_SPLIT_TIES a_SHARED_TIES) (z0 z1 : Int32) : Met l Z n0 (⟨"com/example/kaiten_draft/kaitendraft/cards/RuleSet", "pointsEach", "(II)I"⟩ : MethodName) prog_13_method_10_code 3 (Option.some Jvm.ClassFile.FieldType.int) (⟨0, 0, 0, 0⟩ : Room) #[(.ref a_SHARED_TIES), (.int z0), (.int z1)] h (fun v h' => v = some (.int z0) ∧ h' = h) := by
  refine Met.of_wk (ls := #[.val (.ref a_SHARED_TIES), .val (.int z0), .val (.int z1)]) (plainFor_of_name pn_0) (fun _ => rfl) ?_
  show Wk l Z n0 "com/example/kaiten_draft/kaitendraft/cards/RuleSet" "pointsEach" prog_13_method_10_code 3 (Option.some Jvm.ClassFile.FieldType.int) (⟨0, 0, 0, 0⟩ : Room) 0 0 (fun v h' => v = some (.int z0) ∧ h' = h) h 0 0 0 #[.val (.ref a_SHARED_TIES), .val (.int z0), .val (.int z1)] []
  refine Wk.aloadN (q := 1) d1_0 rfl rfl rfl ?_
  refine Wk.getF (q := 4) (w_8 hw) Via.refl F.f_SHARED_TIES_tiedScoreInFull d1_1 rfl ?_
  refine Wk.ifcF (q := 7) d1_4 rfl (by decide : ¬ (1 : Int32) = (0 : Int32)) ?_
  refine Wk.iloadN (q := 8) d1_7 rfl rfl ?_
  refine Wk.goto (q := 14) d1_8 (by decide) rfl ?_
  exact Wk.retI rfl d1_14 (by decide) (by decide) ⟨rfl, rfl⟩
set_option maxRecDepth 65536 in
set_option maxHeartbeats 40000000 in
theorem m_0 {l : Launch} {Z : State} {a0 : Array Value} {n0 : Nat} {h : Heap} {a_SPLIT_TIES a_SHARED_TIES : Addr} (hw : ∀ d ∈ tables_1, d.before a0 Z = true) (F : OwnF Z h a_SPLIT_TIES a_SHARED_TIES) (z0 : Int32) : Met l Z n0 (⟨"java/lang/Math", "max", "(II)I"⟩ : MethodName) jdk_29_method_65_code 2 (Option.some Jvm.ClassFile.FieldType.int) (⟨0, 0, 0, 0⟩ : Room) #[(.int (1 : Int32)), (.int z0)] h (fun v h' => (∃ w, v = some w ∧ ((((1 : Int32) < z0) ∧ w = (.int z0)) ∨ ((¬ (1 : Int32) < z0) ∧ w = (.int (1 : Int32))))) ∧ h' = h) := by
  refine Met.of_wk (ls := #[.val (.int (1 : Int32)), .val (.int z0)]) pn_1 (fun _ => rfl) ?_
  show Wk l Z n0 "java/lang/Math" "max" jdk_29_method_65_code 2 (Option.some Jvm.ClassFile.FieldType.int) (⟨0, 0, 0, 0⟩ : Room) 0 0 (fun v h' => (∃ w, v = some w ∧ ((((1 : Int32) < z0) ∧ w = (.int z0)) ∨ ((¬ (1 : Int32) < z0) ∧ w = (.int (1 : Int32))))) ∧ h' = h) h 0 0 0 #[.val (.int (1 : Int32)), .val (.int z0)] []
  refine Wk.iloadN (q := 1) d2_0 rfl rfl ?_
  refine Wk.iloadN (q := 2) d2_1 rfl rfl ?_
  refine Wk.icmp (q := 9) (q' := 5) d2_2 (by decide) rfl rfl (fun (h1 : (1 : Int32) < z0) => ?_) (fun (h1 : ¬ (1 : Int32) < z0) => ?_)
  · refine Wk.iloadN (q := 10) d2_9 rfl rfl ?_
    exact Wk.retI rfl d2_10 (by decide) (by decide) ⟨⟨_, rfl, Or.inl ⟨h1, rfl⟩⟩, rfl⟩
  · refine Wk.iloadN (q := 6) d2_5 rfl rfl ?_
    refine Wk.goto (q := 10) d2_6 (by decide) rfl ?_
    exact Wk.retI rfl d2_10 (by decide) (by decide) ⟨⟨_, rfl, Or.inr (⟨h1, rfl⟩)⟩, rfl⟩
set_option maxRecDepth 65536 in
set_option maxHeartbeats 40000000 in
theorem law_tail_0 {l : Launch} {Z : State} {a0 : Array Value} {n0 : Nat} {h : Heap} {a_SPLIT_TIES a_SHARED_TIES : Addr} (hw : ∀ d ∈ tables_1, d.before a0 Z = true) (F : OwnF Z h a_SPLIT_TIES a_SHARED_TIES) (p0 p1 p2 t : Int32) (hT : 1 ≤ t.toInt) : Wk l Z n0 "com/example/kaiten_draft/kaitendraft/cards/RuleSetPointsEachPinLaw" "law" code maxLocals ret room_1 0 0 (fun v _ => v = some (.int (1 : Int32))) h 0 0 35 #[.val (.int p0), .val (.int p1), .val (.int p2), .val (.int (0 : Int32)), .unset, .unset, .unset, .unset, .unset] [.int t] := by
  refine Wk.istore (q := 37) (ls' := #[.val (.int p0), .val (.int p1), .val (.int p2), .val (.int (0 : Int32)), .val (.int t), .unset, .unset, .unset, .unset]) at_35 rfl rfl ?_
  refine Wk.iloadN (q := 38) at_37 rfl rfl ?_
  refine Wk.ifcT (q := 47) at_38 (by decide) rfl (by decide : (0 : Int32) = (0 : Int32)) ?_
  refine Wk.getS (q := 50) (w_0 hw) Via.refl F.s_SPLIT_TIES at_47 rfl ?_
  refine Wk.astore (q := 52) (ls' := #[.val (.int p0), .val (.int p1), .val (.int p2), .val (.int (0 : Int32)), .val (.int t), .val (.ref a_SPLIT_TIES), .unset, .unset, .unset]) at_50 rfl rfl rfl ?_
  refine Wk.aload (q := 54) at_52 rfl rfl rfl ?_
  refine Wk.iloadN (q := 55) at_54 rfl rfl ?_
  refine Wk.iload (q := 57) at_55 rfl rfl ?_
  refine Wk.callV1 (a := a_SPLIT_TIES) (q := 60) (argsL := [(.int p0), (.int t)]) (rest := []) (fr := 0) (lo := 0) (v0 := (.int (p0 / t))) (m_split hw F p0 t (own_nz hT)) F.x_SPLIT_TIES (w_3 hw) (w_4 hw) (w_6 hw) (w_5 hw) (w_7 hw) (w_1 hw) (by decide) pd_0 rfl rfl rfl at_57 rfl (W := 0) rfl (by decide) (by decide) (by decide) (by decide) ?_
  refine Wk.istore (q := 62) (ls' := #[.val (.int p0), .val (.int p1), .val (.int p2), .val (.int (0 : Int32)), .val (.int t), .val (.ref a_SPLIT_TIES), .val (.int (p0 / t)), .unset, .unset]) at_60 rfl rfl ?_
  refine Wk.iloadN (q := 63) at_62 rfl rfl ?_
  refine Wk.ifcT (q := 78) at_63 (by decide) rfl (by decide : (0 : Int32) = (0 : Int32)) ?_
  refine Wk.iloadN (q := 79) at_78 rfl rfl ?_
  refine Wk.i2l (q := 80) (v := p0.toInt64) at_79 rfl rfl ?_
  refine Wk.iload (q := 82) at_80 rfl rfl ?_
  refine Wk.i2l (q := 83) (v := (p0 / t).toInt64) at_82 rfl rfl ?_
  refine Wk.iload (q := 85) at_83 rfl rfl ?_
  refine Wk.i2l (q := 86) (v := t.toInt64) at_85 rfl rfl ?_
  refine Wk.lmul (q := 87) (v := ((p0 / t).toInt64 * t.toInt64)) at_86 rfl rfl ?_
  refine Wk.lsub (q := 88) (v := (p0.toInt64 - ((p0 / t).toInt64 * t.toInt64))) at_87 rfl rfl ?_
  refine Wk.lstore (q := 90) (ls' := #[.val (.int p0), .val (.int p1), .val (.int p2), .val (.int (0 : Int32)), .val (.int t), .val (.ref a_SPLIT_TIES), .val (.int (p0 / t)), .val (.long (p0.toInt64 - ((p0 / t).toInt64 * t.toInt64))), .second]) at_88 rfl rfl ?_
  refine Wk.iloadN (q := 91) at_90 rfl rfl ?_
  refine Wk.ifc (q := 116) (q' := 94) at_91 (by decide) rfl rfl (fun (h1 : p0 < (0 : Int32)) => ?_) (fun (h1 : ¬ p0 < (0 : Int32)) => ?_)
  · refine Wk.lload (q := 118) at_116 rfl rfl ?_
    refine Wk.lconst (q := 119) (v := (0 : Int64)) at_118 rfl rfl ?_
    refine Wk.lcmp (q := 120) (v := (XT.cmpL (p0.toInt64 - ((p0 / t).toInt64 * t.toInt64)) (0 : Int64))) at_119 rfl rfl ?_
    refine Wk.ifc (q := 137) (q' := 123) at_120 (by decide) rfl rfl (fun (h2 : (0 : Int32) < (XT.cmpL (p0.toInt64 - ((p0 / t).toInt64 * t.toInt64)) (0 : Int64))) => ?_) (fun (h2 : ¬ (0 : Int32) < (XT.cmpL (p0.toInt64 - ((p0 / t).toInt64 * t.toInt64)) (0 : Int64))) => ?_)
    · refine Wk.iconst (q := 138) (v := (0 : Int32)) at_137 rfl rfl ?_
      exfalso
      simp only [own_cl_lt, own_cl_gt] at h1 h2
      simp only [Int64.lt_iff_toInt_lt, Int32.lt_iff_toInt_lt, own_ng, c_i2l, Int32.reduceToInt, Int64.reduceToInt] at h1 h2
      have q := own_r2 p0 t hT (by omega)
      omega
    · refine Wk.lload (q := 125) at_123 rfl rfl ?_
      refine Wk.iload (q := 127) at_125 rfl rfl ?_
      refine Wk.i2l (q := 128) (v := t.toInt64) at_127 rfl rfl ?_
      refine Wk.lneg (q := 129) (v := (-t.toInt64)) at_128 rfl rfl ?_
      refine Wk.lcmp (q := 130) (v := (XT.cmpL (p0.toInt64 - ((p0 / t).toInt64 * t.toInt64)) (-t.toInt64))) at_129 rfl rfl ?_
      refine Wk.ifc (q := 137) (q' := 133) at_130 (by decide) rfl rfl (fun (h3 : ¬ (0 : Int32) < (XT.cmpL (p0.toInt64 - ((p0 / t).toInt64 * t.toInt64)) (-t.toInt64))) => ?_) (fun (h3 : (0 : Int32) < (XT.cmpL (p0.toInt64 - ((p0 / t).toInt64 * t.toInt64)) (-t.toInt64))) => ?_)
      · refine Wk.iconst (q := 138) (v := (0 : Int32)) at_137 rfl rfl ?_
        exfalso
        simp only [own_cl_lt, own_cl_gt] at h1 h2 h3
        simp only [Int64.lt_iff_toInt_lt, Int32.lt_iff_toInt_lt, own_ng, c_i2l, Int32.reduceToInt, Int64.reduceToInt] at h1 h2 h3
        have q := own_r2 p0 t hT (by omega)
        omega
      · refine Wk.iconst (q := 134) (v := (1 : Int32)) at_133 rfl rfl ?_
        refine Wk.goto (q := 138) at_134 (by decide) rfl ?_
        exact Wk.retZ rfl rfl at_138 (by decide) (by decide) rfl
  · refine Wk.lload (q := 96) at_94 rfl rfl ?_
    refine Wk.lconst (q := 97) (v := (0 : Int64)) at_96 rfl rfl ?_
    refine Wk.lcmp (q := 98) (v := (XT.cmpL (p0.toInt64 - ((p0 / t).toInt64 * t.toInt64)) (0 : Int64))) at_97 rfl rfl ?_
    refine Wk.ifc (q := 114) (q' := 101) at_98 (by decide) rfl rfl (fun (h4 : (XT.cmpL (p0.toInt64 - ((p0 / t).toInt64 * t.toInt64)) (0 : Int64)) < (0 : Int32)) => ?_) (fun (h4 : ¬ (XT.cmpL (p0.toInt64 - ((p0 / t).toInt64 * t.toInt64)) (0 : Int64)) < (0 : Int32)) => ?_)
    · refine Wk.iconst (q := 115) (v := (0 : Int32)) at_114 rfl rfl ?_
      exfalso
      simp only [own_cl_lt, own_cl_gt] at h1 h4
      simp only [Int64.lt_iff_toInt_lt, Int32.lt_iff_toInt_lt, own_ng, c_i2l, Int32.reduceToInt, Int64.reduceToInt] at h1 h4
      have q := own_r1 p0 t hT (by omega)
      omega
    · refine Wk.lload (q := 103) at_101 rfl rfl ?_
      refine Wk.iload (q := 105) at_103 rfl rfl ?_
      refine Wk.i2l (q := 106) (v := t.toInt64) at_105 rfl rfl ?_
      refine Wk.lcmp (q := 107) (v := (XT.cmpL (p0.toInt64 - ((p0 / t).toInt64 * t.toInt64)) t.toInt64)) at_106 rfl rfl ?_
      refine Wk.ifc (q := 114) (q' := 110) at_107 (by decide) rfl rfl (fun (h5 : ¬ (XT.cmpL (p0.toInt64 - ((p0 / t).toInt64 * t.toInt64)) t.toInt64) < (0 : Int32)) => ?_) (fun (h5 : (XT.cmpL (p0.toInt64 - ((p0 / t).toInt64 * t.toInt64)) t.toInt64) < (0 : Int32)) => ?_)
      · refine Wk.iconst (q := 115) (v := (0 : Int32)) at_114 rfl rfl ?_
        exfalso
        simp only [own_cl_lt, own_cl_gt] at h1 h4 h5
        simp only [Int64.lt_iff_toInt_lt, Int32.lt_iff_toInt_lt, own_ng, c_i2l, Int32.reduceToInt, Int64.reduceToInt] at h1 h4 h5
        have q := own_r1 p0 t hT (by omega)
        omega
      · refine Wk.iconst (q := 111) (v := (1 : Int32)) at_110 rfl rfl ?_
        refine Wk.goto (q := 115) at_111 (by decide) rfl ?_
        exact Wk.retZ rfl rfl at_115 (by decide) (by decide) rfl
set_option maxRecDepth 65536 in
set_option maxHeartbeats 40000000 in
theorem law_tail_1 {l : Launch} {Z : State} {a0 : Array Value} {n0 : Nat} {h : Heap} {a_SPLIT_TIES a_SHARED_TIES : Addr} (hw : ∀ d ∈ tables_1, d.before a0 Z = true) (F : OwnF Z h a_SPLIT_TIES a_SHARED_TIES) (p0 p1 p2 t : Int32) (hT : 1 ≤ t.toInt) : Wk l Z n0 "com/example/kaiten_draft/kaitendraft/cards/RuleSetPointsEachPinLaw" "law" code maxLocals ret room_1 0 0 (fun v _ => v = some (.int (1 : Int32))) h 0 0 35 #[.val (.int p0), .val (.int p1), .val (.int p2), .val (.int (1 : Int32)), .unset, .unset, .unset, .unset, .unset] [.int t] := by
  refine Wk.istore (q := 37) (ls' := #[.val (.int p0), .val (.int p1), .val (.int p2), .val (.int (1 : Int32)), .val (.int t), .unset, .unset, .unset, .unset]) at_35 rfl rfl ?_
  refine Wk.iloadN (q := 38) at_37 rfl rfl ?_
  refine Wk.ifcF (q := 41) at_38 rfl (by decide : ¬ (1 : Int32) = (0 : Int32)) ?_
  refine Wk.getS (q := 44) (w_10 hw) Via.refl F.s_SHARED_TIES at_41 rfl ?_
  refine Wk.goto (q := 50) at_44 (by decide) rfl ?_
  refine Wk.astore (q := 52) (ls' := #[.val (.int p0), .val (.int p1), .val (.int p2), .val (.int (1 : Int32)), .val (.int t), .val (.ref a_SHARED_TIES), .unset, .unset, .unset]) at_50 rfl rfl rfl ?_
  refine Wk.aload (q := 54) at_52 rfl rfl rfl ?_
  refine Wk.iloadN (q := 55) at_54 rfl rfl ?_
  refine Wk.iload (q := 57) at_55 rfl rfl ?_
  refine Wk.callV1 (a := a_SHARED_TIES) (q := 60) (argsL := [(.int p0), (.int t)]) (rest := []) (fr := 0) (lo := 0) (v0 := (.int p0)) (m_shared hw F p0 t) F.x_SHARED_TIES (w_3 hw) (w_4 hw) (w_6 hw) (w_5 hw) (w_7 hw) (w_1 hw) (by decide) pd_0 rfl rfl rfl at_57 rfl (W := 0) rfl (by decide) (by decide) (by decide) (by decide) ?_
  refine Wk.istore (q := 62) (ls' := #[.val (.int p0), .val (.int p1), .val (.int p2), .val (.int (1 : Int32)), .val (.int t), .val (.ref a_SHARED_TIES), .val (.int p0), .unset, .unset]) at_60 rfl rfl ?_
  refine Wk.iloadN (q := 63) at_62 rfl rfl ?_
  refine Wk.ifcF (q := 66) at_63 rfl (by decide : ¬ (1 : Int32) = (0 : Int32)) ?_
  refine Wk.iload (q := 68) at_66 rfl rfl ?_
  refine Wk.iloadN (q := 69) at_68 rfl rfl ?_
  refine Wk.icmpF (q := 72) at_69 rfl rfl ?_
  refine Wk.iconst (q := 73) (v := (1 : Int32)) at_72 rfl rfl ?_
  refine Wk.goto (q := 77) at_73 (by decide) rfl ?_
  exact Wk.retZ rfl rfl at_77 (by decide) (by decide) rfl
set_option maxRecDepth 65536 in
set_option maxHeartbeats 40000000 in
theorem law_all {l : Launch} {Z : State} {a0 : Array Value} {n0 : Nat} {h : Heap} {a_SPLIT_TIES a_SHARED_TIES : Addr} (hw : ∀ d ∈ tables_1, d.before a0 Z = true) (F : OwnF Z h a_SPLIT_TIES a_SHARED_TIES) (p0 p1 p2 : Int32) : Met l Z n0 x code maxLocals ret room_1 #[(.int p0), (.int p1), (.int p2)] h (fun v _ => v = some (.int (1 : Int32))) := by
  refine Met.of_wk (ls := #[.val (.int p0), .val (.int p1), .val (.int p2), .unset, .unset, .unset, .unset, .unset, .unset]) (plainFor_of_name pn_2) (fun _ => rfl) ?_
  show Wk l Z n0 "com/example/kaiten_draft/kaitendraft/cards/RuleSetPointsEachPinLaw" "law" code maxLocals ret room_1 0 0 (fun v _ => v = some (.int (1 : Int32))) h 0 0 0 #[.val (.int p0), .val (.int p1), .val (.int p2), .unset, .unset, .unset, .unset, .unset, .unset] []
  refine Wk.iloadN (q := 1) at_0 rfl rfl ?_
  refine Wk.iconst (q := 2) (v := (1 : Int32)) at_1 rfl rfl ?_
  refine Wk.iand (q := 3) (v := (p2 &&& (1 : Int32))) at_2 rfl rfl ?_
  refine Wk.ifc (q := 10) (q' := 6) at_3 (by decide) rfl rfl (fun (h1 : (p2 &&& (1 : Int32)) = (0 : Int32)) => ?_) (fun (h1 : ¬ (p2 &&& (1 : Int32)) = (0 : Int32)) => ?_)
  · refine Wk.iconst (q := 11) (v := (0 : Int32)) at_10 rfl rfl ?_
    refine Wk.istoreN (q := 12) (ls' := #[.val (.int p0), .val (.int p1), .val (.int p2), .val (.int (0 : Int32)), .unset, .unset, .unset, .unset, .unset]) at_11 rfl rfl ?_
    refine Wk.iloadN (q := 13) at_12 rfl rfl ?_
    refine Wk.iconst (q := 14) (v := (2 : Int32)) at_13 rfl rfl ?_
    refine Wk.iand (q := 15) (v := (p2 &&& (2 : Int32))) at_14 rfl rfl ?_
    refine Wk.ifc (q := 27) (q' := 18) at_15 (by decide) rfl rfl (fun (h2 : (p2 &&& (2 : Int32)) = (0 : Int32)) => ?_) (fun (h2 : ¬ (p2 &&& (2 : Int32)) = (0 : Int32)) => ?_)
    · refine Wk.iconst (q := 28) (v := (1 : Int32)) at_27 rfl rfl ?_
      refine Wk.iloadN (q := 29) at_28 rfl rfl ?_
      refine Wk.ldcI (q := 31) (w_12 hw) at_29 rfl ?_
      refine Wk.iand (q := 32) (v := (p1 &&& (2147483647 : Int32))) at_31 rfl rfl ?_
      refine Wk.callS2 (q := 35) (argsL := [(.int (1 : Int32)), (.int (p1 &&& (2147483647 : Int32)))]) (rest := []) (fr := 0) (lo := 0) (P := fun w => (((1 : Int32) < (p1 &&& (2147483647 : Int32))) ∧ w = (.int (p1 &&& (2147483647 : Int32)))) ∨ ((¬ (1 : Int32) < (p1 &&& (2147483647 : Int32))) ∧ w = (.int (1 : Int32)))) (m_0 hw F (p1 &&& (2147483647 : Int32))) (w_13 hw) (w_14 hw) (w_15 hw) (w_16 hw) (by decide) pd_0 rfl rfl rfl at_32 rfl (W := 0) rfl (by decide) (by decide) (by decide) (by decide) ?_
      intro w3 hP; rcases hP with ⟨h4, rfl⟩ | ⟨h5, rfl⟩
      · exact law_tail_0 hw F p0 p1 p2 (p1 &&& (2147483647 : Int32)) (own_t_lt h4)
      · exact law_tail_0 hw F p0 p1 p2 (1 : Int32) (by decide)
    · refine Wk.iconst (q := 19) (v := (1 : Int32)) at_18 rfl rfl ?_
      refine Wk.iloadN (q := 20) at_19 rfl rfl ?_
      refine Wk.bipush (q := 22) (v := (7 : Int32)) at_20 rfl rfl ?_
      refine Wk.iand (q := 23) (v := (p1 &&& (7 : Int32))) at_22 rfl rfl ?_
      refine Wk.iadd (q := 24) (v := ((1 : Int32) + (p1 &&& (7 : Int32)))) at_23 rfl rfl ?_
      refine Wk.goto (q := 35) at_24 (by decide) rfl ?_
      exact law_tail_0 hw F p0 p1 p2 ((1 : Int32) + (p1 &&& (7 : Int32))) (own_t7 p1)
  · refine Wk.iconst (q := 7) (v := (1 : Int32)) at_6 rfl rfl ?_
    refine Wk.goto (q := 11) at_7 (by decide) rfl ?_
    refine Wk.istoreN (q := 12) (ls' := #[.val (.int p0), .val (.int p1), .val (.int p2), .val (.int (1 : Int32)), .unset, .unset, .unset, .unset, .unset]) at_11 rfl rfl ?_
    refine Wk.iloadN (q := 13) at_12 rfl rfl ?_
    refine Wk.iconst (q := 14) (v := (2 : Int32)) at_13 rfl rfl ?_
    refine Wk.iand (q := 15) (v := (p2 &&& (2 : Int32))) at_14 rfl rfl ?_
    refine Wk.ifc (q := 27) (q' := 18) at_15 (by decide) rfl rfl (fun (h6 : (p2 &&& (2 : Int32)) = (0 : Int32)) => ?_) (fun (h6 : ¬ (p2 &&& (2 : Int32)) = (0 : Int32)) => ?_)
    · refine Wk.iconst (q := 28) (v := (1 : Int32)) at_27 rfl rfl ?_
      refine Wk.iloadN (q := 29) at_28 rfl rfl ?_
      refine Wk.ldcI (q := 31) (w_12 hw) at_29 rfl ?_
      refine Wk.iand (q := 32) (v := (p1 &&& (2147483647 : Int32))) at_31 rfl rfl ?_
      refine Wk.callS2 (q := 35) (argsL := [(.int (1 : Int32)), (.int (p1 &&& (2147483647 : Int32)))]) (rest := []) (fr := 0) (lo := 0) (P := fun w => (((1 : Int32) < (p1 &&& (2147483647 : Int32))) ∧ w = (.int (p1 &&& (2147483647 : Int32)))) ∨ ((¬ (1 : Int32) < (p1 &&& (2147483647 : Int32))) ∧ w = (.int (1 : Int32)))) (m_0 hw F (p1 &&& (2147483647 : Int32))) (w_13 hw) (w_14 hw) (w_15 hw) (w_16 hw) (by decide) pd_0 rfl rfl rfl at_32 rfl (W := 0) rfl (by decide) (by decide) (by decide) (by decide) ?_
      intro w7 hP; rcases hP with ⟨h8, rfl⟩ | ⟨h9, rfl⟩
      · exact law_tail_1 hw F p0 p1 p2 (p1 &&& (2147483647 : Int32)) (own_t_lt h8)
      · exact law_tail_1 hw F p0 p1 p2 (1 : Int32) (by decide)
    · refine Wk.iconst (q := 19) (v := (1 : Int32)) at_18 rfl rfl ?_
      refine Wk.iloadN (q := 20) at_19 rfl rfl ?_
      refine Wk.bipush (q := 22) (v := (7 : Int32)) at_20 rfl rfl ?_
      refine Wk.iand (q := 23) (v := (p1 &&& (7 : Int32))) at_22 rfl rfl ?_
      refine Wk.iadd (q := 24) (v := ((1 : Int32) + (p1 &&& (7 : Int32)))) at_23 rfl rfl ?_
      refine Wk.goto (q := 35) at_24 (by decide) rfl ?_
      exact law_tail_1 hw F p0 p1 p2 ((1 : Int32) + (p1 &&& (7 : Int32))) (own_t7 p1)
set_option maxRecDepth 65536 in
set_option maxHeartbeats 40000000 in
theorem comes_1 {Post : Tables → Env → Array Value → State → Outcome → State → Prop} (hpost : ∀ tb e args s v u, (limb_1_1.after args s (.returned v) u = true ∧ limb_1_2.after args s (.returned v) u = true ∧ True) → FrameEnd s (.returned v) u (Jvm.fieldLocs frame_1_writes args s ++ Jvm.arrayLocs frame_1_arrays args s ++ Jvm.staticLocs frame_1_statics s) 0 0 → Post tb e args s (.returned v) u) :
    ArmFor flags0 classFile x code maxLocals ret World_1 tables_1 room_1 Calls_1 rest_1 Pre_1 Post := by
  intro l hfl _ _ p e ha hc hk s m args below hf hA hF happ hP
  obtain ⟨hcalls, hrest, hpre⟩ := hP
  obtain ⟨-, -, -, hnamed, -, -, -, hat⟩ := (Spec.applies_iff hf).mp happ
  obtain ⟨hg, hn⟩ := and_e (Cond.before_iff.mp (show (Jvm.Cond.and given_1 narrow_1).before args s = true from hpre))
  obtain ⟨h1, g0⟩ := and_e hg
  obtain ⟨w0, w1, w2, rfl⟩ : ∃ w0 w1 w2 : Value, args = #[w0, w1, w2] := by
    have hs : args.size = 3 := by simpa [Cond.value, given_1] using h1
    obtain ⟨L⟩ := args
    match L, hs with
    | [w0, w1, w2], _ => exact ⟨w0, w1, w2, rfl⟩
  have hw := fun d (hd : d ∈ tables_1) => atoms_spec (ws := Jvm.Cond.code x code maxLocals ret :: tables_1) hat d (List.mem_cons_of_mem _ hd)
  have hfit : Fit s := fun {y c} hc i hi => by
    obtain ⟨ha, rfl⟩ := Array.getElem?_eq_some_iff.mp hc
    have q := List.all_eq_true.mp ((Array.all_eq_true_iff_forall_mem.mp hF) _ (Array.getElem_mem ha)) i (List.mem_range.mpr hi)
    simpa [Array.getElem?_eq_getElem hi] using q
  obtain ⟨q0, g1⟩ := and_e g0
  obtain ⟨i0, e0⟩ := is_v q0
  obtain rfl : w0 = (.int i0) := Option.some.inj e0
  obtain ⟨q1, g2⟩ := and_e g1
  obtain ⟨i1, e1⟩ := is_v q1
  obtain rfl : w1 = (.int i1) := Option.some.inj e1
  obtain ⟨i2, e2⟩ := is_v g2
  obtain rfl : w2 = (.int i2) := Option.some.inj e2
  obtain ⟨k1a, k1b⟩ := and_e hn
  obtain ⟨k2a, k2b⟩ := and_e k1b
  obtain ⟨k3a, k3b⟩ := and_e k2b
  obtain ⟨a_SPLIT_TIES, v_SPLIT_TIES, s_SPLIT_TIES, x_SPLIT_TIES⟩ := own_exa k1a (w_1 hw) (w_2 hw)
  obtain ⟨a_SHARED_TIES, v_SHARED_TIES, s_SHARED_TIES, x_SHARED_TIES⟩ := own_exa k3a (w_1 hw) (w_11 hw)
  have f_SPLIT_TIES_tiedScoreInFull := own_fld v_SPLIT_TIES (own_eqi k2a (Term.int_eval _))
  have f_SHARED_TIES_tiedScoreInFull := own_fld v_SHARED_TIES (own_eqi k3b (Term.int_eval _))
  obtain ⟨n, o, h1, h2, h3, _, L, rfl, ⟨N, rfl⟩, hq⟩ := (law_all (l := l) (n0 := s.heap.size) (h := s.heap) hw ⟨s_SPLIT_TIES, x_SPLIT_TIES, s_SHARED_TIES, x_SHARED_TIES, f_SPLIT_TIES_tiedScoreInFull, f_SHARED_TIES_tiedScoreInFull⟩ i0 i1 i2) tables_1 p e ha hc hk s m _ below hf ((Spec.applies_iff_loose hf).mp happ).1 ⟨rfl, State.Warmed39.refl s, rfl⟩ trivial
  refine ⟨n, _, h1, h2, h3, hpost _ _ _ _ _ _ ⟨Cond.after_iff.mpr rfl, Cond.after_iff.mpr (eq_i res_at (Term.int_eval (1)) rfl), trivial⟩ ⟨hq.1, hq.2.1, (hq.2.2.sift fun y hy => Or.inr (N y hy)).mono (by decide) (by decide)⟩⟩
theorem main_1_1 : Claimed_1_1 := comes_1 fun _ _ _ _ _ _ h hF => ⟨h.1, hF⟩
theorem main_1_2 : Claimed_1_2 := comes_1 fun _ _ _ _ _ _ h hF => ⟨h.2.1, hF⟩
end Jvm.Pilot.@@N@@
namespace Jvm.Pilot.@@N@@
open Jvm Jvm.ClassFile Sem Op Lib Jvm.Free Jvm.Stand Jvm.Pilot.@@N@@.Jvm.D
/-! MADE BY PROGRAM (witnessworld.py) out of the Statement's table words and the real class files: 14 classes; the members and pool entries that the words name. The judged class is class 1, her method 1. -/
namespace start1
open Jvm.ClassFile
def u (s : String) : CpInfo := .utf8 (stringToUtf16 s)
/-- a pool by its gaps: so many unusable entries, then the entry; so many at the end -/
def gap : Nat → List CpInfo → List CpInfo
  | 0, r => r
  | n + 1, r => .unusable :: gap n r
def poolList (es : List (Nat × CpInfo)) (last : Nat) : List CpInfo := es.foldr (fun e r => gap e.1 (e.2 :: r)) (gap last [])
def pool (es : List (Nat × CpInfo)) (last : Nat) : Array CpInfo := ⟨poolList es last⟩
def fileOf (pool : Array CpInfo) (this : Nat) (attrs : Array Attribute := #[]) (ms : Array MethodInfo := #[]) (fl : Nat := 33) (sup : Nat := 0) (ifs : Array Nat := #[]) (fds : Array FieldInfo := #[]) : ClassFile where
  minorVersion := 0
  majorVersion := 65
  constantPool := pool
  accessFlags := fl
  thisClass := this
  superClass := sup
  interfaces := ifs
  fields := fds
  methods := ms
  attributes := attrs
def plain (name : String) (sup : Option ClassId) : Class where
  name := name
  kind := .ordinary
  loader := none
  accessFlags := 33
  super := sup
  interfaces := #[]
  cf := none
  fields := #[]
  methods := #[]
  instanceTypes := #[]
  staticTypes := #[]
  resolved := #[]
  callSites := []
  init := .initialized
  statics := none
  mirror := none

def pool0 : Array CpInfo := pool [(5, u "<init>"), (0, u "()V"), (1, .class_ 10), (1, u "java/lang/Object")] 113

def k0m0 : Method := { name := "<init>", desc := "()V", sig := { parameters := [], returnType := none }, accessFlags := 1, code := none }
/-- java/lang/Object -/
def k0 : Class := { plain "java/lang/Object" none with
  accessFlags := 33
  interfaces := #[]
  cf := some (fileOf pool0 8 #[] #[{ accessFlags := 1, nameIndex := 5, descriptorIndex := 6, attributes := #[] }] 33 0 #[] #[])
  fields := #[]
  methods := #[k0m0]
  instanceTypes := #[]
  staticTypes := #[]
  resolved := Array.replicate 124 none
  statics := none }

def pool1 : Array CpInfo := pool [(2, .class_ 4), (1, u "java/lang/Object"), (0, u "<init>"), (0, u "()V"), (0, .integer 2147483647), (0, .methodref 9 10), (0, .class_ 11), (0, .nameAndType 12 13), (0, u "java/lang/Math"), (0, u "max"), (0, u "(II)I"), (0, .fieldref 15 16), (0, .class_ 17), (0, .nameAndType 18 19), (0, u "com/example/kaiten_draft/kaitendraft/cards/RuleSet"), (0, u "SHARED_TIES"), (0, u "Lcom/example/kaiten_draft/kaitendraft/cards/RuleSet;"), (0, .fieldref 15 21), (0, .nameAndType 22 19), (0, u "SPLIT_TIES"), (0, .methodref 15 24), (0, .nameAndType 25 13), (0, u "pointsEach"), (0, .class_ 27), (0, u "com/example/kaiten_draft/kaitendraft/cards/RuleSetPointsEachPinLaw"), (2, u "law"), (0, u "(III)Z")] 3

def k1m0 : Method := { name := "<init>", desc := "()V", sig := { parameters := [], returnType := none }, accessFlags := 1, code := none }
def k1c1 : Code := { maxStack := 6, maxLocals := 9, code := code, exceptionTable := #[], attributes := #[] }
def k1m1 : Method := { name := "law", desc := "(III)Z", sig := { parameters := [.int, .int, .int], returnType := some .boolean }, accessFlags := 9, code := some k1c1 }
/-- com/example/kaiten_draft/kaitendraft/cards/RuleSetPointsEachPinLaw -/
def k1 : Class := { plain "com/example/kaiten_draft/kaitendraft/cards/RuleSetPointsEachPinLaw" (some 0) with
  accessFlags := 49
  interfaces := #[]
  cf := some (fileOf pool1 26 #[] #[{ accessFlags := 1, nameIndex := 5, descriptorIndex := 6, attributes := #[] }, { accessFlags := 9, nameIndex := 30, descriptorIndex := 31, attributes := #[] }] 49 2 #[] #[])
  fields := #[]
  methods := #[k1m0, k1m1]
  instanceTypes := #[]
  staticTypes := #[]
  resolved := Array.replicate 35 none
  statics := none }

def pool2 : Array CpInfo := pool [(1, .class_ 2), (0, u "java/lang/constant/Constable"), (0, .class_ 4), (0, u "java/lang/Object")] 6

/-- java/lang/constant/Constable -/
def k2 : Class := { plain "java/lang/constant/Constable" (some 0) with
  accessFlags := 1537
  interfaces := #[]
  cf := some (fileOf pool2 1 #[] #[] 1537 3 #[] #[])
  fields := #[]
  methods := #[]
  instanceTypes := #[]
  staticTypes := #[]
  resolved := Array.replicate 11 none
  statics := none }

def pool3 : Array CpInfo := pool [(1, .class_ 2), (0, u "java/lang/Comparable"), (0, .class_ 4), (0, u "java/lang/Object")] 7

/-- java/lang/Comparable -/
def k3 : Class := { plain "java/lang/Comparable" (some 0) with
  accessFlags := 1537
  interfaces := #[]
  cf := some (fileOf pool3 1 #[] #[] 1537 3 #[] #[])
  fields := #[]
  methods := #[]
  instanceTypes := #[]
  staticTypes := #[]
  resolved := Array.replicate 12 none
  statics := none }

def pool4 : Array CpInfo := pool [(1, .class_ 2), (0, u "java/io/Serializable"), (0, .class_ 4), (0, u "java/lang/Object")] 2

/-- java/io/Serializable -/
def k4 : Class := { plain "java/io/Serializable" (some 0) with
  accessFlags := 1537
  interfaces := #[]
  cf := some (fileOf pool4 1 #[] #[] 1537 3 #[] #[])
  fields := #[]
  methods := #[]
  instanceTypes := #[]
  staticTypes := #[]
  resolved := Array.replicate 7 none
  statics := none }

def pool5 : Array CpInfo := pool [(2, .class_ 4), (1, u "java/lang/Enum"), (0, u "name"), (0, u "Ljava/lang/String;"), (2, u "ordinal"), (0, u "I"), (1, .class_ 14), (1, u "java/lang/Object"), (4, u "hash"), (86, .class_ 108), (1, u "java/lang/Enum$EnumDesc"), (2, .class_ 112), (0, u "java/lang/constant/Constable"), (0, .class_ 114), (0, u "java/lang/Comparable"), (0, .class_ 116), (0, u "java/io/Serializable")] 87

/-- java/lang/Enum -/
def k5 : Class := { plain "java/lang/Enum" (some 0) with
  accessFlags := 1057
  interfaces := #[2, 3, 4]
  cf := some (fileOf pool5 2 #[.nestMembers #[106]] #[] 1057 12 #[111, 113, 115] #[{ accessFlags := 18, nameIndex := 5, descriptorIndex := 6, attributes := #[] }, { accessFlags := 18, nameIndex := 9, descriptorIndex := 10, attributes := #[] }, { accessFlags := 2, nameIndex := 19, descriptorIndex := 10, attributes := #[] }])
  fields := #[{ name := "name", type := (.object "java/lang/String"), accessFlags := 18, slot := 0, constantValue := 0 }, { name := "ordinal", type := .int, accessFlags := 18, slot := 1, constantValue := 0 }, { name := "hash", type := .int, accessFlags := 2, slot := 2, constantValue := 0 }]
  methods := #[]
  instanceTypes := #[(.object "java/lang/String"), .int, .int]
  staticTypes := #[]
  resolved := Array.replicate 204 none
  statics := none }

def pool6 : Array CpInfo := pool [(2, .class_ 4), (1, u "com/example/kaiten_draft/kaitendraft/cards/Worded"), (44, .class_ 50), (0, u "java/lang/Object")] 32

/-- com/example/kaiten_draft/kaitendraft/cards/Worded -/
def k6 : Class := { plain "com/example/kaiten_draft/kaitendraft/cards/Worded" (some 0) with
  accessFlags := 1537
  interfaces := #[]
  cf := some (fileOf pool6 2 #[] #[] 1537 49 #[] #[])
  fields := #[]
  methods := #[]
  instanceTypes := #[]
  staticTypes := #[]
  resolved := Array.replicate 83 none
  statics := none }

def pool7 : Array CpInfo := pool [(1, .class_ 2), (0, u "com/example/kaiten_draft/kaitendraft/cards/RuleSet"), (2, u "SPLIT_TIES"), (0, u "Lcom/example/kaiten_draft/kaitendraft/cards/RuleSet;"), (2, u "SHARED_TIES"), (2, u "$VALUES"), (0, u "[Lcom/example/kaiten_draft/kaitendraft/cards/RuleSet;"), (6, .class_ 22), (1, u "java/lang/Enum"), (8, u "word"), (0, u "Ljava/lang/String;"), (2, u "fewestPlayers"), (0, u "I"), (2, u "mostPlayers"), (2, u "nigiriMayStayOffWasabi"), (0, u "Z"), (0, .fieldref 1 45), (0, .nameAndType 46 43), (0, u "tiedScoreInFull"), (21, .class_ 70), (1, u "com/example/kaiten_draft/kaitendraft/cards/Worded"), (33, u "pointsEach"), (0, u "(II)I")] 26

def k7c0 : Code := { maxStack := 2, maxLocals := 3, code := prog_13_method_10_code, exceptionTable := #[], attributes := #[] }
def k7m0 : Method := { name := "pointsEach", desc := "(II)I", sig := { parameters := [.int, .int], returnType := some .int }, accessFlags := 1, code := some k7c0 }
/-- com/example/kaiten_draft/kaitendraft/cards/RuleSet -/
def k7 : Class := { plain "com/example/kaiten_draft/kaitendraft/cards/RuleSet" (some 5) with
  accessFlags := 16433
  interfaces := #[6]
  cf := some (fileOf pool7 1 #[] #[{ accessFlags := 1, nameIndex := 104, descriptorIndex := 105, attributes := #[] }] 16433 20 #[68] #[{ accessFlags := 16409, nameIndex := 5, descriptorIndex := 6, attributes := #[] }, { accessFlags := 16409, nameIndex := 9, descriptorIndex := 6, attributes := #[] }, { accessFlags := 18, nameIndex := 31, descriptorIndex := 32, attributes := #[] }, { accessFlags := 18, nameIndex := 35, descriptorIndex := 36, attributes := #[] }, { accessFlags := 18, nameIndex := 39, descriptorIndex := 36, attributes := #[] }, { accessFlags := 18, nameIndex := 42, descriptorIndex := 43, attributes := #[] }, { accessFlags := 18, nameIndex := 46, descriptorIndex := 43, attributes := #[] }, { accessFlags := 4122, nameIndex := 12, descriptorIndex := 13, attributes := #[] }])
  fields := #[{ name := "SPLIT_TIES", type := (.object "com/example/kaiten_draft/kaitendraft/cards/RuleSet"), accessFlags := 16409, slot := 0, constantValue := 0 }, { name := "SHARED_TIES", type := (.object "com/example/kaiten_draft/kaitendraft/cards/RuleSet"), accessFlags := 16409, slot := 1, constantValue := 0 }, { name := "word", type := (.object "java/lang/String"), accessFlags := 18, slot := 3, constantValue := 0 }, { name := "fewestPlayers", type := .int, accessFlags := 18, slot := 4, constantValue := 0 }, { name := "mostPlayers", type := .int, accessFlags := 18, slot := 5, constantValue := 0 }, { name := "nigiriMayStayOffWasabi", type := .boolean, accessFlags := 18, slot := 6, constantValue := 0 }, { name := "tiedScoreInFull", type := .boolean, accessFlags := 18, slot := 7, constantValue := 0 }, { name := "$VALUES", type := (.array (.object "com/example/kaiten_draft/kaitendraft/cards/RuleSet")), accessFlags := 4122, slot := 2, constantValue := 0 }]
  methods := #[k7m0]
  instanceTypes := #[(.object "java/lang/String"), .int, .int, (.object "java/lang/String"), .int, .int, .boolean, .boolean]
  staticTypes := #[(.object "com/example/kaiten_draft/kaitendraft/cards/RuleSet"), (.object "com/example/kaiten_draft/kaitendraft/cards/RuleSet"), (.array (.object "com/example/kaiten_draft/kaitendraft/cards/RuleSet"))]
  resolved := Array.replicate 132 none
  statics := some 0 }

def pool8 : Array CpInfo := pool [(1, .class_ 2), (0, u "java/lang/Math"), (1, .class_ 6), (1, u "java/lang/Object"), (0, u "<init>"), (0, u "()V"), (89, .class_ 100), (1, u "java/lang/Math$RandomNumberGeneratorHolder"), (71, u "negativeZeroFloatBits"), (0, u "J"), (2, u "negativeZeroDoubleBits"), (21, u "max"), (46, u "$assertionsDisabled"), (0, u "Z"), (88, u "(II)I"), (2, u "twoToTheDoubleScaleDown"), (0, u "D"), (4, u "twoToTheDoubleScaleUp"), (9, u "E"), (3, u "PI"), (2, u "TAU"), (2, u "DEGREES_TO_RADIANS"), (0, u "RADIANS_TO_DEGREES")] 94

def k8m0 : Method := { name := "<init>", desc := "()V", sig := { parameters := [], returnType := none }, accessFlags := 2, code := none }
def k8c1 : Code := { maxStack := 2, maxLocals := 2, code := jdk_29_method_65_code, exceptionTable := #[], attributes := #[] }
def k8m1 : Method := { name := "max", desc := "(II)I", sig := { parameters := [.int, .int], returnType := some .int }, accessFlags := 9, code := some k8c1 }
/-- java/lang/Math -/
def k8 : Class := { plain "java/lang/Math" (some 0) with
  accessFlags := 49
  interfaces := #[]
  cf := some (fileOf pool8 1 #[.nestMembers #[98]] #[{ accessFlags := 2, nameIndex := 7, descriptorIndex := 8, attributes := #[] }, { accessFlags := 9, nameIndex := 198, descriptorIndex := 335, attributes := #[] }] 49 4 #[] #[{ accessFlags := 25, nameIndex := 354, descriptorIndex := 339, attributes := #[] }, { accessFlags := 25, nameIndex := 358, descriptorIndex := 339, attributes := #[] }, { accessFlags := 25, nameIndex := 361, descriptorIndex := 339, attributes := #[] }, { accessFlags := 26, nameIndex := 364, descriptorIndex := 339, attributes := #[] }, { accessFlags := 26, nameIndex := 365, descriptorIndex := 339, attributes := #[] }, { accessFlags := 26, nameIndex := 172, descriptorIndex := 173, attributes := #[] }, { accessFlags := 26, nameIndex := 176, descriptorIndex := 173, attributes := #[] }, { accessFlags := 8, nameIndex := 344, descriptorIndex := 339, attributes := #[] }, { accessFlags := 8, nameIndex := 338, descriptorIndex := 339, attributes := #[] }, { accessFlags := 4120, nameIndex := 245, descriptorIndex := 246, attributes := #[] }])
  fields := #[{ name := "E", type := .double, accessFlags := 25, slot := 0, constantValue := 0 }, { name := "PI", type := .double, accessFlags := 25, slot := 1, constantValue := 0 }, { name := "TAU", type := .double, accessFlags := 25, slot := 2, constantValue := 0 }, { name := "DEGREES_TO_RADIANS", type := .double, accessFlags := 26, slot := 3, constantValue := 0 }, { name := "RADIANS_TO_DEGREES", type := .double, accessFlags := 26, slot := 4, constantValue := 0 }, { name := "negativeZeroFloatBits", type := .long, accessFlags := 26, slot := 5, constantValue := 0 }, { name := "negativeZeroDoubleBits", type := .long, accessFlags := 26, slot := 6, constantValue := 0 }, { name := "twoToTheDoubleScaleUp", type := .double, accessFlags := 8, slot := 7, constantValue := 0 }, { name := "twoToTheDoubleScaleDown", type := .double, accessFlags := 8, slot := 8, constantValue := 0 }, { name := "$assertionsDisabled", type := .boolean, accessFlags := 4120, slot := 9, constantValue := 0 }]
  methods := #[k8m0, k8m1]
  instanceTypes := #[]
  staticTypes := #[.double, .double, .double, .double, .double, .long, .long, .double, .double, .boolean]
  resolved := Array.replicate 460 none
  statics := none }

def pool9 : Array CpInfo := pool [(1, u "java/lang/Cloneable"), (0, .class_ 1), (0, u "java/lang/Object"), (0, .class_ 3)] 3

/-- java/lang/Cloneable -/
def k9 : Class := { plain "java/lang/Cloneable" (some 0) with
  accessFlags := 1537
  interfaces := #[]
  cf := some (fileOf pool9 2 #[] #[] 1537 4 #[] #[])
  fields := #[]
  methods := #[]
  instanceTypes := #[]
  staticTypes := #[]
  resolved := Array.replicate 8 none
  statics := none }

/-- the primitive byte -/
def k10 : Class := { plain "byte" none with kind := .primitive 'B', accessFlags := 0x411 }
/-- [B -/
def k11 : Class := { plain "[B" (some 0) with kind := .array 10 .byte, interfaces := #[9, 4], accessFlags := 1041 }

/-- the primitive int -/
def k12 : Class := { plain "int" none with kind := .primitive 'I', accessFlags := 0x411 }
/-- [I -/
def k13 : Class := { plain "[I" (some 0) with kind := .array 12 .int, interfaces := #[9, 4], accessFlags := 1041 }

def heap : Heap := #[{ cls := 7, slots := #[.ref 1, .ref 2, .null], vm := .statics 7 },
  { cls := 7, slots := #[.null, .int 0, .int 0, .null, .int 0, .int 0, .int 0, .int 0], vm := .none },
  { cls := 7, slots := #[.null, .int 0, .int 0, .null, .int 0, .int 0, .int 0, .int 1], vm := .none }]
def classes : Array Class := #[k0, k1, k2, k3, k4, k5, k6, k7, k8, k9, k10, k11, k12, k13]
def interned : List (Array UInt16 × Addr) := []
def slotsUsed : Nat := 19
def theMethod : MethodId := ⟨1, 1⟩
def args0 : Array Value := #[.int 7, .int 3, .int 2]
def aboutOver (below : List Frame) : State where
  vm := { classes := classes, interned := interned.toArray }
  heap := heap
  slotsUsed := slotsUsed
  threads := #[{ frames := .invoking theMethod args0 :: below }]
def below0 : List Frame := [.native { method := ⟨0, 0⟩, args := #[] }]
def about1 : State := aboutOver below0
def p0 : Program := .bare "" "" ""
def e0 : Env := launch0.env 0 0 0
theorem w_frames : about1.frames = Frame.invoking theMethod args0 :: below0 := rfl
set_option maxRecDepth 65536 in
theorem w_args : argsFit about1.vm theMethod args0 = true := by decide +kernel
set_option maxRecDepth 65536 in
theorem w_heap : heapFits about1 = true := by decide +kernel
set_option maxRecDepth 65536 in
theorem w_runnable : about1.curStatus? = some .runnable := by decide +kernel
set_option maxRecDepth 65536 in
theorem w_alone : about1.alone = true := by decide +kernel
set_option maxRecDepth 65536 in
theorem w_named : about1.methodNamed? x = some theMethod := by decide +kernel
set_option maxRecDepth 65536 in
theorem w_hears : about1.hears theMethod below0 = true := by decide +kernel
set_option maxRecDepth 65536 in
theorem w_ripe : about1.ripe theMethod args0 below0 = true := by decide +kernel
theorem w_running : about1.status = .running := rfl
set_option maxRecDepth 65536 in
theorem w_room : about1.hasRoom e0.platform room_1 = true :=
  launch0.hasRoom_least _ room_1 (by decide +kernel) (by decide +kernel) (by decide +kernel) (by decide +kernel) (by decide +kernel) (by decide +kernel)
theorem allAtoms_all (ts : List Jvm.Cond) (a : Array Jvm.Value) (st : Jvm.State) : (allAtoms ts).before a st = ts.all (fun c => c.before a st) := by
  induction ts with
  | nil => rfl
  | cons c t ih =>
    show (Jvm.Cond.and c (allAtoms t)).before a st = _
    rw [Jvm.Cond.before_and, ih, List.all_cons]
def words1 : List Jvm.Cond := Jvm.Cond.code x code maxLocals ret :: tables_1
/-- a 'code' word, met by the world's own term for the bytes: nothing is compared byte by byte -/
theorem code_word {y : MethodName} {bytes : ByteArray} {mx : Nat} {rt : Option FieldType} {a : Array Value} {s : State} {m : MethodId} {meth : Method} {c : Code} (h1 : s.methodNamed? y = some m) (h2 : s.vm.method? m = some meth) (h3 : meth.code = some c) (h4 : c.code = bytes)
    (h5 : (c.maxLocals == mx && c.exceptionTable.isEmpty && decide (c.maxStack ≤ mostOperands) && decide (meth.sig.returnType = rt) && !meth.locks && decide (parseMethodDescriptor y.desc = some meth.sig)) = true) : (Jvm.Cond.code y bytes mx rt).before a s = true := by
  simp only [Bool.and_eq_true, beq_iff_eq, Bool.not_eq_true', decide_eq_true_eq] at h5
  obtain ⟨⟨⟨⟨⟨g1, g2⟩, g3⟩, g4⟩, g5⟩, g6⟩ := h5
  simp [Cond.before, Cond.holds, Cond.value, h1, h2, h3, h4, g1, g2, g3, g4, g5, g6]
def isCode : Jvm.Cond → Bool
  | .code _ _ _ _ => true
  | _ => false
theorem all_split {L : List Jvm.Cond} {P : Jvm.Cond → Bool} (h1 : L.all (fun c => isCode c || P c) = true) (h2 : ∀ c ∈ L.filter isCode, P c = true) : L.all P = true := by
  refine List.all_eq_true.mpr fun c hc => ?_
  have h := List.all_eq_true.mp h1 c hc
  rcases Bool.eq_false_or_eq_true (isCode c) with hi | hi
  · exact h2 c (List.mem_filter.mpr ⟨hc, hi⟩)
  · simpa [hi] using h
set_option maxRecDepth 65536 in
theorem w_c0 : (Jvm.Cond.code x code maxLocals ret).before args0 about1 = true := code_word (m := ⟨1, 1⟩) (meth := k1m1) (c := k1c1) (by decide +kernel) rfl rfl rfl (by decide +kernel)
set_option maxRecDepth 65536 in
theorem w_c1 : (Jvm.Cond.code ({ cls := "com/example/kaiten_draft/kaitendraft/cards/RuleSet", name := "pointsEach", desc := "(II)I" } : Jvm.MethodName) prog_13_method_10_code (3 : Nat) (Option.some Jvm.ClassFile.FieldType.int)).before args0 about1 = true := code_word (m := ⟨7, 0⟩) (meth := k7m0) (c := k7c0) (by decide +kernel) rfl rfl rfl (by decide +kernel)
set_option maxRecDepth 65536 in
theorem w_c2 : (Jvm.Cond.code ({ cls := "java/lang/Math", name := "max", desc := "(II)I" } : Jvm.MethodName) jdk_29_method_65_code (2 : Nat) (Option.some Jvm.ClassFile.FieldType.int)).before args0 about1 = true := code_word (m := ⟨8, 1⟩) (meth := k8m1) (c := k8c1) (by decide +kernel) rfl rfl rfl (by decide +kernel)
def codes1 : List Jvm.Cond := [Jvm.Cond.code x code maxLocals ret, Jvm.Cond.code ({ cls := "com/example/kaiten_draft/kaitendraft/cards/RuleSet", name := "pointsEach", desc := "(II)I" } : Jvm.MethodName) prog_13_method_10_code (3 : Nat) (Option.some Jvm.ClassFile.FieldType.int), Jvm.Cond.code ({ cls := "java/lang/Math", name := "max", desc := "(II)I" } : Jvm.MethodName) jdk_29_method_65_code (2 : Nat) (Option.some Jvm.ClassFile.FieldType.int)]
set_option maxRecDepth 65536 in
theorem codes_eq : words1.filter isCode = codes1 := rfl
theorem w_codes : ∀ c ∈ words1.filter isCode, c.before args0 about1 = true := by
  rw [codes_eq]
  intro c hc
  simp only [codes1, List.mem_cons, List.not_mem_nil, or_false] at hc
  rcases hc with rfl | rfl | rfl
  · exact w_c0
  · exact w_c1
  · exact w_c2
set_option maxRecDepth 65536 in
theorem w_t1 : words1.all (fun c => isCode c || c.before args0 about1) = true := by decide +kernel
theorem w_tables : (allAtoms (Jvm.Cond.code x code maxLocals ret :: tables_1)).before args0 about1 = true := by
  rw [allAtoms_all]
  show words1.all (fun c => c.before args0 about1) = true
  refine all_split ?_ w_codes
  rw [w_t1]
set_option maxRecDepth 65536 in
theorem w_case : (Jvm.Cond.and given_1 narrow_1).before args0 about1 = true := by decide +kernel
theorem w_applies : (headSpec (Jvm.Cond.code x code maxLocals ret :: tables_1) room_1).applies x e0.platform about1 = true :=
  (Spec.applies_iff w_frames).mpr ⟨w_running, w_runnable, w_alone, w_named, w_hears, w_ripe, w_room, w_tables⟩
theorem atStart : AtStart classFile x code maxLocals ret World_1 tables_1 room_1 Calls_1 rest_1 Pre_1 launch0 p0 e0 about1 theMethod args0 below0 :=
  ⟨lists_1, trivial, launch0.admits_env _ _ _, launch0.least_env, fairChoices_fair.cas, fairChoices_fair.clock, w_frames, w_args, w_heap, w_applies, trivial, trivial, w_case⟩
end start1
theorem witness_1 : WitnessClaimed_1 := ⟨start1.p0, start1.e0, start1.about1, start1.theMethod, start1.args0, start1.below0, start1.atStart⟩
end Jvm.Pilot.@@N@@
