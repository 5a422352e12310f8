import JvmDerived
import JvmDerived.Pilot.@@N@@Statement
import JvmDerived.Pilot.@@N@@Code
set_option linter.unusedVariables false
set_option linter.unusedSimpArgs false
namespace Jvm.OwnKit
open Sem ClassFile Op Lib Jvm.Stand Jvm.Free Jvm.LawKit Jvm.RoadKit
section Go
variable {p : Program} {l : Launch} {e : Env} {R : Room} {s : State} {m : MethodId} {args : Array Value} {below : List Frame} {meth : Method} {c : Code} {T T' : State} {locs : List Loc} {cells slots : Nat} {g g' : JFrame} {P : Outcome → State → Prop} {Q : Option Value → Heap → List Loc → Prop} {k n pc : Nat} {Ls : Array Slot} {rest : List Value}
/-- from this state and frame the invocation comes to its end, and the end is as P says -/
def Go (p : Program) (e : Env) (below : List Frame) (T : State) (g : JFrame) (P : Outcome → State → Prop) : Prop :=
  ∃ s₂ o, Steps p.tables e below (T.setTop g) s₂ ∧ s₂.status = .running ∧ Ended s₂ below o ∧ P o s₂
abbrev Po (s : State) (Q : Option Value → Heap → List Loc → Prop) (k n : Nat) : Outcome → State → Prop := fun o U' => ∃ v L, o = .returned v ∧ Q v U'.heap L ∧ FrameEnd s o U' L k n
theorem stp (h : ∀ t, Steps p.tables e below (T'.setTop g') t → Steps p.tables e below (T.setTop g) t) (K : Go p e below T' g' P) : Go p e below T g P := by
  obtain ⟨s2, o, h1, h2⟩ := K
  exact ⟨s2, o, h _ h1, h2⟩
theorem stt (h : Steps p.tables e below (T.setTop g) (T'.setTop g')) (K : Go p e below T' g' P) : Go p e below T g P := by
  obtain ⟨s2, o, h1, h2⟩ := K
  exact ⟨s2, o, h.trans h1, h2⟩
theorem out (X : Stand p l e R s m args below meth c T locs cells slots) {v : Option Value} (hl : meth.locks = false) (hv : meth.sig.returnType = none → v = none)
    (hst : ∀ fs : List Frame, (∀ (f : JFrame) (acts : List Action), f.method = m → f.locked = none → f.entered = [] → (doReturn e (T.setTop f) acts v).1 = T.setFrames fs) → Steps p.tables e below (T.setTop g) (T.setFrames fs))
    (hc : cells ≤ k) (hn : slots ≤ n) (hQ : Q v T.heap locs) : Go p e below T g (Po s Q k n) := by
  obtain ⟨fs, hr, hrun, hended, hW, hsame⟩ := X.leave (v := v) hv hl
  exact ⟨_, _, hst fs hr, hrun, hended, v, locs, rfl, hQ, ⟨_, rfl⟩, hW, hsame.mono hc hn⟩
theorem outN (X : Stand p l e R s m args below meth c T locs cells slots) (hx : p.tables.exec = Jvm.exec) {t : FieldType} {z : Int32} (hret : meth.sig.returnType = some t) (ht : t = .boolean ∨ t = .byte ∨ t = .char ∨ t = .short) (hd : decode c.code pc = .ok (.ireturn, 1)) (hl : meth.locks = false)
    (hc : cells ≤ k) (hn : slots ≤ n) (hQ : Q (some (.int (nar t z))) T.heap locs) : Go p e below T (mkF m pc Ls (.int z :: rest)) (Po s Q k n) :=
  out X hl (fun h => by rw [hret] at h; cases h) (fun fs hr => retN X hx hret ht hd hr) hc hn hQ
theorem outI (X : Stand p l e R s m args below meth c T locs cells slots) (hx : p.tables.exec = Jvm.exec) {z : Int32} (hret : meth.sig.returnType = some .int) (hd : decode c.code pc = .ok (.ireturn, 1)) (hl : meth.locks = false)
    (hc : cells ≤ k) (hn : slots ≤ n) (hQ : Q (some (.int z)) T.heap locs) : Go p e below T (mkF m pc Ls (.int z :: rest)) (Po s Q k n) :=
  out X hl (fun h => by rw [hret] at h; cases h) (fun fs hr => retOut X hx hret rfl (Or.inl ⟨rfl, Or.inl rfl, _, rfl⟩) hd hr) hc hn hQ
theorem outJ (X : Stand p l e R s m args below meth c T locs cells slots) (hx : p.tables.exec = Jvm.exec) {z : Int64} (hret : meth.sig.returnType = some .long) (hd : decode c.code pc = .ok (.lreturn, 1)) (hl : meth.locks = false)
    (hc : cells ≤ k) (hn : slots ≤ n) (hQ : Q (some (.long z)) T.heap locs) : Go p e below T (mkF m pc Ls (.long z :: rest)) (Po s Q k n) :=
  out X hl (fun h => by rw [hret] at h; cases h) (fun fs hr => retOut X hx hret rfl (Or.inr (Or.inl ⟨rfl, rfl, _, rfl⟩)) hd hr) hc hn hQ
theorem outD (X : Stand p l e R s m args below meth c T locs cells slots) (hx : p.tables.exec = Jvm.exec) {w : Value} (hret : meth.sig.returnType = some .double) (hw : ∃ z, w = .double z) (hd : decode c.code pc = .ok (.dreturn, 1)) (hl : meth.locks = false)
    (hc : cells ≤ k) (hn : slots ≤ n) (hQ : Q (some w) T.heap locs) : Go p e below T (mkF m pc Ls (w :: rest)) (Po s Q k n) := by
  obtain ⟨z, rfl⟩ := hw
  exact out X hl (fun h => by rw [hret] at h; cases h) (fun fs hr => retOut X hx hret rfl (Or.inr (Or.inr (Or.inl ⟨rfl, rfl, _, rfl⟩))) hd hr) hc hn hQ
theorem outA (X : Stand p l e R s m args below meth c T locs cells slots) (hx : p.tables.exec = Jvm.exec) {w : Value} {t : FieldType} (hret : meth.sig.returnType = some t) (ht : t.isReference = true) (hw : w.isRef = true) (hd : decode c.code pc = .ok (.areturn, 1)) (hl : meth.locks = false)
    (hc : cells ≤ k) (hn : slots ≤ n) (hQ : Q (some w) T.heap locs) : Go p e below T (mkF m pc Ls (w :: rest)) (Po s Q k n) := by
  refine out X hl (fun h => by rw [hret] at h; cases h) (fun fs hr => retOut X hx hret ?_ (Or.inr (Or.inr (Or.inr (Or.inr ⟨rfl, ht, hw⟩)))) hd hr) hc hn hQ
  rcases ref_cases hw with rfl | ⟨a, rfl⟩ <;> cases t <;> first | rfl | cases ht
theorem outV (X : Stand p l e R s m args below meth c T locs cells slots) (hx : p.tables.exec = Jvm.exec) (hret : meth.sig.returnType = none) (hd : decode c.code pc = .ok (.return_, 1)) (hl : meth.locks = false)
    (hc : cells ≤ k) (hn : slots ≤ n) (hQ : Q none T.heap locs) : Go p e below T (mkF m pc Ls []) (Po s Q k n) :=
  out X hl (fun _ => rfl) (fun fs hr => X.returnOut hx hret hd hr) hc hn hQ
theorem start {y : MethodName} {bytes : ByteArray} {maxL : Nat} {ret : Option FieldType} {ws : List Cond} {rm : Room} {Z : State} {as' : Array Value} {h0 : Heap} (hpl : plainFor y = true)
    (body : ∀ p e s m below meth c T, Stand p l e rm s m as' below meth c T [] 0 0 → p.tables.exec = Jvm.exec → c.code = bytes → c.maxLocals = maxL → s.vm.findClass y.cls = some m.cls → meth.name = y.name → meth.sig.returnType = ret → meth.locks = false → Z.Warmed39 s.vm → T.heap = h0 →
      Go p e below T (entryFrame m as' maxL) (Po s Q k n)) :
    MetFree l y (head1 (Cond.code y bytes maxL ret :: ws) rm) (fun a U => a = as' ∧ Z.Warmed39 U.vm ∧ U.heap = h0) (fun _ _ _ _ _ => True) (fun _ U o U' => ∃ v L, o = .returned v ∧ Q v U'.heap L ∧ FrameEnd U o U' L k n) := by
  refine MetFree.of_bodySF hpl hisR ?_
  intro p e s m args below meth c s₁ Bd hml0 hP hK
  obtain ⟨rfl, hZ, hh⟩ := hP
  exact body p e s m below meth c s₁ (Stand.of_body Bd) Bd.exec Bd.bytes hml0 (findClass_of_methodNamed Bd.named) (name_of_methodNamed Bd.named Bd.method).1 Bd.returns Bd.notSynchronized hZ (by rw [← hh, Bd.state]; rfl)
theorem goAt (q : g = g') (K : Go p e below T g' P) : Go p e below T g P := q ▸ K
end Go
theorem cat_ref {v : Value} (h : v.isRef = true) : v.category = 1 := by cases v <;> simp_all [Value.isRef, Value.category]
section Facts
variable {Z : State} {args : Array Value}
theorem old_le {n0 : Nat} {h : Heap} (O : Old Z n0 h) : n0 ≤ h.size := by
  obtain ⟨rfl, h2⟩ := O
  exact h2.1
theorem fld_of {C n d : String} {t : Term} {a : Addr} {k : Int32} (ev : t.eval args Z none [] Z = some (.ref a)) (h : (Cond.eq (.field t C n d) (.int k)).value args Z none Z [] = some true) : Fld Z Z.heap a C n d (.int k) := by
  obtain ⟨x, y, h1, h2, -, hk⟩ := cmp_v (Or.inl h)
  have h3 : y = .int k := (Option.some.inj h2).symm
  subst h3
  obtain ⟨z, rfl⟩ := hk
  have h4 : z = k := gotT (Cond.eq_ints h1 h2) h
  subst h4
  rw [fld_at ev] at h1
  exact Fld.start h1
theorem fldnull_of {C n d : String} {t : Term} {a : Addr} (ev : t.eval args Z none [] Z = some (.ref a)) (h : (Cond.eq (.field t C n d) .null).value args Z none Z [] = some true) : Fld Z Z.heap a C n d .null := by
  have h1 := null_v h
  rw [fld_at ev] at h1
  exact Fld.start h1
theorem eqint_v {t : Term} {k : Int32} (h : (Cond.eq t (.int k)).value args Z none Z [] = some true) : t.eval args Z none [] Z = some (.int k) := by
  obtain ⟨x, y, h1, h2, -, hk⟩ := cmp_v (Or.inl h)
  have h3 : y = .int k := (Option.some.inj h2).symm
  subst h3
  obtain ⟨z, rfl⟩ := hk
  have h4 : z = k := gotT (Cond.eq_ints h1 h2) h
  subst h4
  exact h1
end Facts
section Small
variable {h h' : Heap} {a : Addr} {sl : Nat} {x : Int32}
theorem ow_wr_char (e : x.toUInt32.toUInt16.toUInt32.toInt32 = x) (W : Wr h h' a sl (.int (nar .char x))) : Wr h h' a sl (.int x) := by rwa [show nar .char x = x from e] at W
theorem ow_fits_char (e : x.toUInt32.toUInt16.toUInt32.toInt32 = x) : fits .char (.int x) = true := by
  have q := fits_nar_char x
  rwa [show nar .char x = x from e] at q
theorem ow_wr_byte (e : x.toInt8.toInt32 = x) (W : Wr h h' a sl (.int (nar .byte x))) : Wr h h' a sl (.int x) := by rwa [show nar .byte x = x from e] at W
theorem ow_fits_byte (e : x.toInt8.toInt32 = x) : fits .byte (.int x) = true := by
  have q := fits_nar_byte x
  rwa [e] at q
theorem char_small (h0 : ¬ x < 0) (h1 : ¬ (65535 : Int32) < x) : x.toUInt32.toUInt16.toUInt32.toInt32 = x := by
  obtain ⟨q1, q2, q3⟩ := c_i2c x
  simp only [Int32.lt_iff_toInt_lt, Int32.reduceToInt] at h0 h1
  exact Int32.toInt_inj.mp (by omega)
theorem char255 (q : ¬ x < 0 ∧ ¬ (255 : Int32) < x) : x.toUInt32.toUInt16.toUInt32.toInt32 = x := char_small q.1 (by
  obtain ⟨q1, q2⟩ := q
  simp only [Int32.lt_iff_toInt_lt, Int32.reduceToInt] at q1 q2 ⊢
  omega)
theorem byte_small (h0 : ¬ x < (-128 : Int32)) (h1 : ¬ (127 : Int32) < x) : x.toInt8.toInt32 = x := by
  obtain ⟨q1, q2, q3⟩ := c_i2b x
  simp only [Int32.lt_iff_toInt_lt, Int32.reduceToInt] at h0 h1
  exact Int32.toInt_inj.mp (by omega)
theorem byte_twice : x.toInt8.toInt32.toInt8.toInt32 = x.toInt8.toInt32 := by simp
theorem and255 (x : Int32) : ¬ (x &&& (255 : Int32)) < 0 ∧ ¬ (255 : Int32) < (x &&& (255 : Int32)) := by
  have h := c_mask x 255 8 (by decide) (by decide)
  simp only [Int32.lt_iff_toInt_lt, Int32.reduceToInt]
  omega
end Small
section Sub
variable {Z : State} {a0 : Array Value}
theorem NSroot {O K : String} {n : Nat} (w : (Cond.noSuperclass O).before a0 Z = true) (wk : (Cond.instantiable K n).before a0 Z = true) (hn : O ≠ K) : NS Z O K := by
  obtain ⟨c, k, h1, h2, h3, -, -⟩ := Cond.noSuperclass_spec w
  obtain ⟨t, kt, g1, -⟩ := Cond.instantiable_spec wk
  have ne := ids_ne h1 g1 hn
  refine ⟨c, t, h1, g1, fun fuel => ?_⟩
  cases fuel with
  | zero => rfl
  | succ f => simp [Vm.isSubclassAux, ne, h2, h3]
theorem NSno {C S K : String} {n : Nat} (w : (Cond.superclass C S).before a0 Z = true) (wk : (Cond.instantiable K n).before a0 Z = true) (N : NS Z C K) (hn : C ≠ K) : ∃ c t, Z.vm.findClass C = some c ∧ Z.vm.findClass K = some t ∧ Z.vm.assignable c t = false := by
  obtain ⟨c, t, h0, g0, n3⟩ := N
  obtain ⟨p, k, kp, h1, h2, h3, h4, h5, -, h7⟩ := Cond.superclass_spec h0 w
  obtain ⟨t', kt, g1, g2, g5, g7, -⟩ := Cond.instantiable_spec wk
  cases g0.symm.trans g1
  rw [Bool.or_eq_false_iff] at g7
  have ne := ids_ne h0 g0 hn
  refine ⟨c, t, h0, g0, ?_⟩
  show Z.vm.assignableAux (255 + 1) c t = false
  simp [Vm.assignableAux, ne, h2, g2, h5, g5, g7.1, Vm.isSubclass, n3]
end Sub
/-- an array of n elements, told by a function -/
def Arf (Z : State) (h : Heap) (a : Addr) (k : ClassId) (ty : FieldType) (n : Nat) (f : Nat → Value) : Prop := ∃ c : Cell, Arr Z h a c ty ∧ c.cls = k ∧ c.slots.size = n ∧ (∀ i, i < n → c.slots[i]? = some (f i)) ∧ ∀ i, i < n → fits ty (f i) = true
section Arf
variable {Z : State} {h h' : Heap} {a b : Addr} {k : ClassId} {ty : FieldType} {n sl : Nat} {f g : Nat → Value} {v : Value} {ws : List Addr} {c : Cell} {j : Int32} {i : Nat}
theorem Arf.lt (F : Arf Z h a k ty n f) : a < h.size := by
  obtain ⟨c, A, -⟩ := F
  exact A.lt
theorem Arf.ext (F : Arf Z h a k ty n f) (E : Ext h h') : Arf Z h' a k ty n f := by
  obtain ⟨c, A, r⟩ := F
  exact ⟨c, A.ext E, r⟩
theorem Arf.other (F : Arf Z h b k ty n f) (W : Wr h h' a sl v) (q : b ≠ a) : Arf Z h' b k ty n f := by
  obtain ⟨c, A, r⟩ := F
  exact ⟨c, A.other W q, r⟩
theorem Arf.keep (F : Arf Z h a k ty n f) (K : Keep h h' ws) (q : a ∉ ws) : Arf Z h' a k ty n f := by
  obtain ⟨c, A, r⟩ := F
  exact ⟨c, ⟨K.2.1 a c A.1 q, A.2⟩, r⟩
theorem Arf.congr (F : Arf Z h a k ty n f) (q : ∀ i, i < n → g i = f i) : Arf Z h a k ty n g := by
  obtain ⟨c, A, r1, r2, H, G⟩ := F
  exact ⟨c, A, r1, r2, fun i hi => by rw [q i hi]; exact H i hi, fun i hi => by rw [q i hi]; exact G i hi⟩
theorem Arf.set (A : Arr Z h a c ty) (q1 : c.cls = k) (S : c.slots.size = n) (H : ∀ i, i < n → c.slots[i]? = some (f i)) (G : ∀ i, i < n → fits ty (f i) = true) (hv : fits ty v = true) (W : Wr h h' a i v) (hi : i < n) : Arf Z h' a k ty n (fun x => if x = i then v else f x) := by
  refine ⟨c.setSlot i v, A.same W, q1, by rw [sz_set]; exact S, fun x hx => ?_, fun x hx => ?_⟩
  · show (c.setSlot i v).slots[x]? = some (if x = i then v else f x)
    by_cases e : x = i
    · subst e
      simp [Cell.setSlot, S, hx]
    · rw [if_neg e, ← H x hx]
      exact Cell.slots_setSlot_ne v (Ne.symm e)
  · by_cases e : x = i
    · simp [e, hv]
    · simp [e, G x hx]
theorem Arv.arf {z : Int32} {vs : List Value} {d : Value} (F : Arv Z h a k ty z vs d) (hz : z.toNatClampNeg = n) : Arf Z h a k ty n (fun i => vs.getD i d) := by
  obtain ⟨c, A, r1, r2, r3, H, G⟩ := F
  exact ⟨c, A, r1, by rw [r2, hz], fun i hi => H i (by rw [r2, hz]; exact hi), fun i hi => G i (by rw [r2, hz]; exact hi)⟩
theorem arf_in (S : c.slots.size = n) (hk : j.toInt = i) (hn : i < n) : ¬ (j < 0 ∨ c.slots.size ≤ j.toNatClampNeg) := by
  simp only [Int32.lt_iff_toInt_lt, Int32.toNatClampNeg, Int32.reduceToInt, S, hk]
  omega
theorem arf_at (H : ∀ i, i < n → c.slots[i]? = some (f i)) (hk : j.toInt = i) (hn : i < n) : c.slots[j.toNatClampNeg]? = some (f i) := by
  have e : j.toNatClampNeg = i := by simp only [Int32.toNatClampNeg, hk]; omega
  rw [e]
  exact H i hn
theorem arf_ix (hk : j.toInt = i) : j.toNatClampNeg = i := by simp only [Int32.toNatClampNeg, hk]; omega
theorem arf_len {z : Int32} (S : c.slots.size = n) (hz : z.toInt = n) : c.slots.size.toInt32 = z := by
  rw [S]
  have h1 := Int32.toInt_lt z
  exact Int32.toInt_inj.mp (by rw [len_toInt (by omega)]; exact hz.symm)
theorem Arf.one (F : Arf Z h a k ty n f) (hi : i < n) : fits ty (f i) = true := by
  obtain ⟨c, A, r1, r2, H, G⟩ := F
  exact G i hi
theorem Arf.new {z : Int32} (A : Arr Z h a (newA k ty z) ty) (q : ¬ z < 0) (hz : z.toNatClampNeg = n) : Arf Z h a k ty n (fun _ => defaultValue ty) := (Arv.arf (Arv.new A q) hz).congr fun i _ => by simp
theorem cloneF {p : Program} {l : Launch} {e : Env} {R : Room} {s : State} {m : MethodId} {args : Array Value} {below : List Frame} {meth : Method} {c : Code} {T : State} {locs : List Loc} {cells slots : Nat} (X : Stand p l e R s m args below meth c T locs cells slots) (hx : p.tables.exec = Jvm.exec) (hZ : Z.Warmed39 s.vm) {a0 : Array Value} {own ad : String} {index : Nat} (hown : s.vm.findClass own = some m.cls)
    (w1 : (Cond.methodLink own index ⟨ad, "clone", "()Ljava/lang/Object;"⟩).before a0 Z = true) (w2 : (Cond.sameMethod ad "java/lang/Object" "clone" "()Ljava/lang/Object;").before a0 Z = true) (w3 : (Cond.native ⟨"java/lang/Object", "clone", "()Ljava/lang/Object;"⟩).before a0 Z = true)
    (w4 : (Cond.instanceMethod ⟨"java/lang/Object", "clone", "()Ljava/lang/Object;"⟩).before a0 Z = true) (w5 : (Cond.selects ad ⟨ad, "clone", "()Ljava/lang/Object;"⟩ ⟨"java/lang/Object", "clone", "()Ljava/lang/Object;"⟩).before a0 Z = true) (w6 : (Cond.castable ad "java/lang/Cloneable").before a0 Z = true)
    (eT : T.heap = h) (F : Arf Z h a k ty n f) (E : Exa Z h a ad) {g : JFrame} (hg : g.method = m) (hsize : g.locals.size = c.maxLocals) {rest : List Value} (hst : g.stack = .ref a :: rest) (hd : decode c.code g.pc = .ok (.invokevirtual index, 3))
    (hf : 1 ≤ R.frames) {W cap : Nat} (hW : 2 * g.monitorRoom + (rest.map fun v => v.category).sum ≤ W) (hl : W + 14 ≤ R.locals) (hcap : n ≤ cap) (hc : cells + 1 ≤ R.cells) (hsl : slots + cap ≤ R.slots) :
    ∃ T' h', Stand p l e R s m args below meth c T' locs (cells + 1) (slots + cap) ∧ T'.heap = h' ∧ Ext h h' ∧ Arf Z h' h.size k ty n f ∧ Exa Z h' h.size ad ∧
      ∀ target, Steps p.tables e below (T'.setTop { g with pc := g.pc + 3, stack := .ref h.size :: rest }) target → Steps p.tables e below (T.setTop g) target := by
  obtain ⟨cl, A, q1, S, H, G⟩ := F
  have FC : FitC Z cl := fitC_of A fun i hi v hv => by rw [H i (S ▸ hi)] at hv; cases hv; exact G i (S ▸ hi)
  obtain ⟨T', h', X', e', ex, A', E', st⟩ := cloneA X hx hZ hown w1 w2 w3 w4 w5 w6 eT A E FC hg hsize hst hd hf hW hl (by rw [S]; exact hcap) hc hsl
  exact ⟨T', h', X', e', ex, ⟨cloneOf cl, A', q1, S, H, G⟩, E', st⟩
end Arf
theorem and1_cases (x : Int32) : x &&& (1 : Int32) = (0 : Int32) ∨ x &&& (1 : Int32) = (1 : Int32) := and_one x
theorem and3_cases (x : Int32) : x &&& (3 : Int32) = (0 : Int32) ∨ x &&& (3 : Int32) = (1 : Int32) ∨ x &&& (3 : Int32) = (2 : Int32) ∨ x &&& (3 : Int32) = (3 : Int32) := by
  have h := c_mask x 3 2 (by decide) (by decide)
  simp only [← Int32.toInt_inj]
  have : (0 : Int32).toInt = 0 := by decide
  have : (1 : Int32).toInt = 1 := by decide
  have : (2 : Int32).toInt = 2 := by decide
  have : (3 : Int32).toInt = 3 := by decide
  omega
end Jvm.OwnKit
namespace Jvm.OwnKit
open Sem ClassFile Op Lib Jvm.Stand Jvm.Free Jvm.LawKit Jvm.RoadKit
section Str
variable {Z : State} {h h' : Heap} {x w o : Addr} {cs : List Int32} {sl n : Nat} {v : Value} {ws : List Addr} {C : String} {a0 : Array Value} {k : ClassId} {ty : FieldType} {z : Int32} {vs : List Value} {d : Value}
/-- x is a Latin-1 String of these chars -/
def StrIs (Z : State) (h : Heap) (x : Addr) (cs : List Int32) : Prop := ∃ (t : Addr) (k : ClassId), Exa Z h x "java/lang/String" ∧ Fld Z h x "java/lang/String" "value" "[B" (.ref t) ∧ Fld Z h x "java/lang/String" "coder" "B" (.int 0) ∧ Arv Z h t k .byte (Int32.ofNat cs.length) ((cs.map fun c => c.toInt8.toInt32).map Value.int) (.int 0) ∧ (∀ c ∈ cs, ¬ c < 0 ∧ ¬ (255 : Int32) < c) ∧ cs.length ≤ 4000
/-- w is no byte[] -/
def Apart (Z : State) (h : Heap) (w : Addr) : Prop := ∀ (t : Addr) (k : ClassId) (z : Int32) (vs : List Value) (d : Value), Arv Z h t k .byte z vs d → t ≠ w
theorem Apart.exa (E : Exa Z h w C) (wi : (Cond.instantiable C n).before a0 Z = true) : Apart Z h w := fun _ _ _ _ _ F => Ne.symm (E.neArv F wi)
theorem Apart.arv (F : Arv Z h w k ty z vs d) (ht : ty ≠ .byte) : Apart Z h w := fun t k' z' vs' d' G e => by
  subst e
  obtain ⟨c1, ⟨e1, ⟨-, k1, f1, p1, g1⟩, -⟩, -⟩ := F
  obtain ⟨c2, ⟨e2, ⟨-, k2, f2, p2, g2⟩, -⟩, -⟩ := G
  cases e1.symm.trans e2
  cases f1.symm.trans f2
  rw [g1] at g2
  cases g2
  exact ht rfl
theorem apart0 : ∀ x ∈ ([] : List Addr), Apart Z h x := fun _ q => nomatch q
theorem apartS (A : Apart Z h w) (r : ∀ x ∈ ws, Apart Z h x) : ∀ x ∈ w :: ws, Apart Z h x := fun x q => (List.mem_cons.mp q).elim (fun u => u ▸ A) (r x)
theorem StrIs.exa (F : StrIs Z h x cs) : Exa Z h x "java/lang/String" := by
  obtain ⟨t, k, E, -⟩ := F
  exact E
theorem StrIs.lt (F : StrIs Z h x cs) : x < h.size := F.exa.lt
theorem StrIs.small (F : StrIs Z h x cs) : ∀ c ∈ cs, ¬ c < 0 ∧ ¬ (255 : Int32) < c := by
  obtain ⟨t, k, -, -, -, -, hp, -⟩ := F
  exact hp
theorem StrIs.ext (F : StrIs Z h x cs) (E : Ext h h') : StrIs Z h' x cs := by
  obtain ⟨t, k, E1, V1, C1, K1, r⟩ := F
  exact ⟨t, k, E1.ext E, V1.ext E, C1.ext E, K1.ext E, r⟩
theorem StrIs.wr (F : StrIs Z h x cs) (W : Wr h h' o sl v) (ne : x ≠ o) (A : Apart Z h o) : StrIs Z h' x cs := by
  obtain ⟨t, k, E1, V1, C1, K1, r⟩ := F
  exact ⟨t, k, E1.wr W, V1.other W (Or.inl ne), C1.other W (Or.inl ne), K1.other W (A _ _ _ _ _ K1), r⟩
theorem StrIs.keep (F : StrIs Z h x cs) (K : Keep h h' ws) (q : x ∉ ws) (A : ∀ y ∈ ws, Apart Z h y) : StrIs Z h' x cs := by
  obtain ⟨t, k, E1, V1, C1, K1, r⟩ := F
  exact ⟨t, k, E1.keep K, V1.keep K q, C1.keep K q, K1.keep K (fun m => A t m _ _ _ _ _ K1 rfl), r⟩
theorem StrIs.of {t : Addr} (E : Exa Z h x "java/lang/String") (V : Fld Z h x "java/lang/String" "value" "[B" (.ref t)) (C : Fld Z h x "java/lang/String" "coder" "B" (.int 0)) (K : Arv Z h t k .byte z vs (.int 0)) (hz : z = Int32.ofNat cs.length) (hv : vs = (cs.map fun c => c.toInt8.toInt32).map Value.int) (hp : ∀ c ∈ cs, ¬ c < 0 ∧ ¬ (255 : Int32) < c) (hl : cs.length ≤ 4000) : StrIs Z h x cs := by
  subst hz hv
  exact ⟨t, k, E, V, C, K, hp, hl⟩
theorem own_one255 {k : Int32} (h : ¬ k < 0 ∧ ¬ (255 : Int32) < k) : ∀ c ∈ ([k] : List Int32), ¬ c < 0 ∧ ¬ (255 : Int32) < c := by
  intro c hc
  cases List.mem_singleton.mp hc
  exact h
end Str
end Jvm.OwnKit
namespace Jvm.OwnKit
theorem own_sm0 : ∀ c ∈ ([] : List Int32), ¬ c < 0 ∧ ¬ (255 : Int32) < c := fun _ q => nomatch q
theorem own_sm1 {k : Int32} {cs : List Int32} (h : ¬ k < 0 ∧ ¬ (255 : Int32) < k) (t : ∀ c ∈ cs, ¬ c < 0 ∧ ¬ (255 : Int32) < c) : ∀ c ∈ k :: cs, ¬ c < 0 ∧ ¬ (255 : Int32) < c := fun c q => (List.mem_cons.mp q).elim (fun u => u ▸ h) (t c)
theorem own_char255 {k x : Int32} (h : k = (x &&& (255 : Int32)).toUInt32.toUInt16.toUInt32.toInt32) : ¬ k < 0 ∧ ¬ (255 : Int32) < k := by
  rw [char255 (and255 x)] at h
  rw [h]
  exact and255 x
end Jvm.OwnKit
namespace Jvm.OwnKit
theorem own_ofNatI {n : Nat} (h : n ≤ 4000) : (Int32.ofNat n).toInt = n := by
  have : (Int32.ofNat n).toInt = ((n : Int)).bmod (2 ^ 32) := Int32.toInt_ofNat'
  rw [this, Int.bmod_def]
  omega
theorem own_ofNat {n : Nat} (h : n ≤ 4000) : (Int32.ofNat n).toNatClampNeg = n := by
  simp only [Int32.toNatClampNeg, own_ofNatI h]
  omega
theorem own_sh0 {x : Int32} : x >>> ((0 : Int32) &&& 31) = x := by
  show x >>> (0 : Int32) = x
  apply Int32.toBitVec_inj.mp
  simp [Int32.toBitVec_shiftRight]
end Jvm.OwnKit
namespace Jvm.OwnKit
def own_by (cs : List Int32) (i : Nat) : Int32 := (cs.map fun c => c.toInt8.toInt32).getD i 0
theorem own_byv (cs : List Int32) (i : Nat) : Value.int (own_by cs i) = ((cs.map fun c => c.toInt8.toInt32).map Value.int).getD i (.int 0) := by
  unfold own_by
  generalize (cs.map fun c => c.toInt8.toInt32) = l
  by_cases q : i < l.length
  · simp [List.getD, q]
  · simp [List.getD, List.getElem?_eq_none (Nat.le_of_not_lt q)]
end Jvm.OwnKit
namespace Jvm.OwnKit
open Sem ClassFile Op Lib Jvm.Stand Jvm.Free Jvm.LawKit Jvm.RoadKit
def own_lo (c : Int32) : Int32 := (c >>> ((0 : Int32) &&& 31)).toInt8.toInt32
def own_hi (c : Int32) : Int32 := (c >>> ((8 : Int32) &&& 31)).toInt8.toInt32
theorem own_lt16 {c : Int32} (h : ¬ c < 0 ∧ ¬ (65535 : Int32) < c) : c.toBitVec.toNat < 65536 := by
  obtain ⟨h1, h2⟩ := h
  simp only [Int32.lt_iff_toInt_lt, Int32.reduceToInt] at h1 h2
  have e : c.toInt = c.toBitVec.toInt := rfl
  rw [BitVec.toInt_eq_toNat_cond] at e
  have := c.toBitVec.isLt
  split at e <;> omega
theorem own_b255 (j : Nat) : (255#32).getLsbD j = decide (j < 8) := by
  have e : (255#32).getLsbD j = (2 ^ 8 - 1).testBit j := rfl
  rw [e, Nat.testBit_two_pow_sub_one]
theorem own_join {c : Int32} (h : ¬ c < 0 ∧ ¬ (65535 : Int32) < c) : (((own_lo c &&& (255 : Int32)) <<< ((0 : Int32) &&& 31)) ||| ((own_hi c &&& (255 : Int32)) <<< ((8 : Int32) &&& 31))) = c := by
  have hx := own_lt16 h
  apply Int32.toBitVec_inj.mp
  unfold own_lo own_hi
  rw [show ((0 : Int32) &&& 31) = 0 from rfl, show ((8 : Int32) &&& 31) = 8 from rfl]
  simp only [Int32.toBitVec_or, Int32.toBitVec_shiftLeft, Int32.toBitVec_and, Int32.toBitVec_shiftRight, Int8.toBitVec_toInt32, Int32.toBitVec_toInt8]
  generalize c.toBitVec = x at hx
  have hb : ∀ i, 16 ≤ i → x.getLsbD i = false := fun i hi => by
    apply Nat.testBit_lt_two_pow
    exact Nat.lt_of_lt_of_le hx (Nat.pow_le_pow_right (by decide) hi : 2 ^ 16 ≤ 2 ^ i)
  have h255 : ∀ (j : Nat) (hj : j < 32), (255#32)[j] = decide (j < 8) := fun j hj => by
    rw [← BitVec.getLsbD_eq_getElem]; exact own_b255 j
  ext i hi
  simp [h255, BitVec.getElem_signExtend]
  by_cases h8 : i < 8
  · simp [h8, hi]
  · by_cases h16 : i < 16
    · have h9 : i - 8 < 8 := by omega
      have h10 : i - 8 < 32 := by omega
      have h11 : 8 + (i - 8) = i := by omega
      simp [h8, h9, h10, BitVec.getElem_sshiftRight, h11, hi]
    · have h9 : ¬ i - 8 < 8 := by omega
      simp [h8, h9]
      rw [← BitVec.getLsbD_eq_getElem]
      exact hb i (by omega)

theorem own_lat {c : Int32} (h : ¬ c < 0 ∧ ¬ (255 : Int32) < c) : (c.toInt8.toInt32 &&& (255 : Int32)) = c := by
  have hx : c.toBitVec.toNat < 256 := by
    obtain ⟨h1, h2⟩ := h
    simp only [Int32.lt_iff_toInt_lt, Int32.reduceToInt] at h1 h2
    have e : c.toInt = c.toBitVec.toInt := rfl
    rw [BitVec.toInt_eq_toNat_cond] at e
    have := c.toBitVec.isLt
    split at e <;> omega
  apply Int32.toBitVec_inj.mp
  simp only [Int32.toBitVec_and, Int8.toBitVec_toInt32, Int32.toBitVec_toInt8]
  generalize c.toBitVec = x at hx
  have hb : ∀ i, 8 ≤ i → x.getLsbD i = false := fun i hi => by
    apply Nat.testBit_lt_two_pow
    exact Nat.lt_of_lt_of_le hx (Nat.pow_le_pow_right (by decide) hi : 2 ^ 8 ≤ 2 ^ i)
  have h255 : ∀ (j : Nat) (hj : j < 32), (255#32)[j] = decide (j < 8) := fun j hj => by
    rw [← BitVec.getLsbD_eq_getElem]; exact own_b255 j
  ext i hi
  simp [h255, BitVec.getElem_signExtend]
  by_cases h8 : i < 8
  · simp [h8, hi]
  · simp [h8]
    rw [← BitVec.getLsbD_eq_getElem]
    exact hb i (by omega)
theorem own_sh1 {k : Nat} (h : k ≤ 10) : (Int32.ofNat (2 * k)) >>> ((1 : Int32) &&& 31) = Int32.ofNat k := by
  have : k = 0 ∨ k = 1 ∨ k = 2 ∨ k = 3 ∨ k = 4 ∨ k = 5 ∨ k = 6 ∨ k = 7 ∨ k = 8 ∨ k = 9 ∨ k = 10 := by omega
  rcases this with rfl | rfl | rfl | rfl | rfl | rfl | rfl | rfl | rfl | rfl | rfl <;> decide
theorem own_isN {n : Int32} {k : Nat} (hN : n.toInt = (k : Int)) (h : k ≤ 10) : n = Int32.ofNat k := by
  apply Int32.toInt_inj.mp
  rw [hN]
  have : k = 0 ∨ k = 1 ∨ k = 2 ∨ k = 3 ∨ k = 4 ∨ k = 5 ∨ k = 6 ∨ k = 7 ∨ k = 8 ∨ k = 9 ∨ k = 10 := by omega
  rcases this with rfl | rfl | rfl | rfl | rfl | rfl | rfl | rfl | rfl | rfl | rfl <;> decide
theorem own_dbl {n : Int32} {k : Nat} (hN : n.toInt = (k : Int)) (h : k ≤ 10) : n <<< ((1 : Int32) &&& 31) = Int32.ofNat (2 * k) := by
  rw [own_isN hN h]
  have : k = 0 ∨ k = 1 ∨ k = 2 ∨ k = 3 ∨ k = 4 ∨ k = 5 ∨ k = 6 ∨ k = 7 ∨ k = 8 ∨ k = 9 ∨ k = 10 := by omega
  rcases this with rfl | rfl | rfl | rfl | rfl | rfl | rfl | rfl | rfl | rfl | rfl <;> decide
theorem own_cfa {n : Int32} {k : Nat} (hN : n.toInt = (k : Int)) (h : k ≤ 10) (h0 : 0 < k) : (((n - Int32.ofNat (2 * k)).toUInt32 >>> ((31 : Int32) &&& 31).toUInt32).toInt32.toInt8.toInt32).toInt8.toInt32 = (1 : Int32) := by
  rw [own_isN hN h]
  have : k = 1 ∨ k = 2 ∨ k = 3 ∨ k = 4 ∨ k = 5 ∨ k = 6 ∨ k = 7 ∨ k = 8 ∨ k = 9 ∨ k = 10 := by omega
  rcases this with rfl | rfl | rfl | rfl | rfl | rfl | rfl | rfl | rfl | rfl <;> decide
def own_at (cs : List Int32) (i : Nat) : Int32 := cs.getD i 0
theorem own_atv (cs : List Int32) (i : Nat) : Value.int (own_at cs i) = (cs.map Value.int).getD i (.int 0) := by
  unfold own_at
  by_cases q : i < cs.length
  · simp [List.getD, q]
  · simp [List.getD, List.getElem?_eq_none (Nat.le_of_not_lt q)]
theorem own_by_at (cs : List Int32) (i : Nat) : own_by cs i = (own_at cs i).toInt8.toInt32 := by
  unfold own_by own_at
  by_cases q : i < cs.length
  · simp [List.getD, q]
  · simp [List.getD, List.getElem?_eq_none (Nat.le_of_not_lt q)]
theorem own_at_mem {cs : List Int32} {i : Nat} (h : i < cs.length) : own_at cs i ∈ cs := by
  unfold own_at
  simp [List.getD, h]
/-- the bytes of these chars, two each -/
def own_ub (cs : List Int32) (x : Nat) : Int32 := if x % 2 = 1 then own_hi (own_at cs (x / 2)) else own_lo (own_at cs (x / 2))
theorem own_ub0 (cs : List Int32) (j : Nat) : own_ub cs (2 * j) = own_lo (own_at cs j) := by
  unfold own_ub
  rw [if_neg (by omega), show 2 * j / 2 = j by omega]
theorem own_ub1 (cs : List Int32) (j : Nat) : own_ub cs (2 * j + 1) = own_hi (own_at cs j) := by
  unfold own_ub
  rw [if_pos (by omega), show (2 * j + 1) / 2 = j by omega]
def own_put (g : Nat → Int32) (j : Nat) (c : Int32) (x : Nat) : Int32 := if x = 2 * j + 1 then own_hi c else if x = 2 * j then own_lo c else g x
theorem own_put_eq (g : Nat → Int32) (j : Nat) (c : Int32) (x : Nat) : Value.int (own_put g j c x) = (if x = 2 * j + 1 then (Value.int (own_hi c)) else (if x = 2 * j then (Value.int (own_lo c)) else (Value.int (g x)))) := by
  unfold own_put
  split
  · rfl
  · split <;> rfl
/-- what the loop of toBytes has written when j chars are through -/
def own_ubj (cs : List Int32) (j x : Nat) : Int32 := if x < 2 * j then own_ub cs x else 0
theorem own_ubj0 (cs : List Int32) (x : Nat) : own_ubj cs 0 x = 0 := by
  unfold own_ubj
  rw [if_neg (by omega)]
theorem own_ubjN {cs : List Int32} {n x : Nat} (h : x < 2 * n) : own_ub cs x = own_ubj cs n x := by
  unfold own_ubj
  rw [if_pos h]
theorem own_ubjS (cs : List Int32) (j x : Nat) : own_ubj cs (j + 1) x = own_put (own_ubj cs j) j (own_at cs j) x := by
  unfold own_put
  by_cases h1 : x = 2 * j + 1
  · rw [if_pos h1, h1]
    unfold own_ubj
    rw [if_pos (by omega), own_ub1]
  · rw [if_neg h1]
    by_cases h2 : x = 2 * j
    · rw [if_pos h2, h2]
      unfold own_ubj
      rw [if_pos (by omega), own_ub0]
    · rw [if_neg h2]
      unfold own_ubj
      by_cases h3 : x < 2 * j
      · rw [if_pos h3, if_pos (by omega)]
      · rw [if_neg h3, if_neg (by omega)]
theorem own_u16all {cs : List Int32} (h : ∀ c ∈ cs, ¬ c < 0 ∧ ¬ (65535 : Int32) < c) {j : Nat} (hj : j < cs.length) : ¬ own_at cs j < 0 ∧ ¬ (65535 : Int32) < own_at cs j := h _ (own_at_mem hj)
theorem own_narc {x : Int32} (h : ¬ x < 0 ∧ ¬ (65535 : Int32) < x) : nar .char x = x := char_small h.1 h.2
theorem own_somei {x y : Int32} (h : x = y) : some (Value.int x) = some (Value.int y) := by rw [h]
theorem own_up16 {x : Int32} (h : ¬ x < 0 ∧ ¬ (255 : Int32) < x) : ¬ x < 0 ∧ ¬ (65535 : Int32) < x := by
  simp only [Int32.lt_iff_toInt_lt, Int32.reduceToInt] at h ⊢
  omega
theorem own_u0 {n : Int32} {k : Nat} (hN : n.toInt = (k : Int)) : ¬ n < 0 := by
  rw [Int32.lt_iff_toInt_lt, hN, show (0 : Int32).toInt = 0 from rfl]
  omega
theorem own_uz {n : Int32} {k : Nat} (hN : n.toInt = (k : Int)) (h : 0 < k) : ¬ n = 0 := by
  intro e
  rw [e, show (0 : Int32).toInt = 0 from rfl] at hN
  omega
theorem own_umax {n : Int32} {k : Nat} (hN : n.toInt = (k : Int)) (h : k ≤ 10) : n < (1073741823 : Int32) := by
  rw [Int32.lt_iff_toInt_lt, hN, show (1073741823 : Int32).toInt = 1073741823 from rfl]
  omega
theorem own_shlI {i : Int32} {j : Nat} (hi : i.toInt = (j : Int)) (h : j ≤ 10) : (i <<< ((1 : Int32) &&& 31)).toInt = ((2 * j : Nat) : Int) := by
  rw [own_dbl hi h, own_ofNatI (by omega)]
theorem own_incI {i : Int32} {j : Nat} (hi : i.toInt = (j : Int)) (h : j ≤ 4000) : (i + (1 : Int32)).toInt = ((j + 1 : Nat) : Int) := by
  rw [Int32.toInt_add, Int.bmod_def, hi, show (1 : Int32).toInt = 1 from rfl]
  omega
theorem own_ltI {i n : Int32} {j k : Nat} (hi : i.toInt = (j : Int)) (hn : n.toInt = (k : Int)) (h : j < k) : i < n := by
  rw [Int32.lt_iff_toInt_lt, hi, hn]
  omega
theorem own_geI {i n : Int32} {j k : Nat} (hi : i.toInt = (j : Int)) (hn : n.toInt = (k : Int)) (h : k ≤ j) : ¬ i < n := by
  rw [Int32.lt_iff_toInt_lt, hi, hn]
  omega
theorem own_neI {i n : Int32} {j k : Nat} (hi : i.toInt = (j : Int)) (hn : n.toInt = (k : Int)) (h : j ≠ k) : ¬ i = n := by
  intro e
  rw [e, hn] at hi
  omega
/-- what the loop of compress has written when j chars are through -/
def own_byj (cs : List Int32) (g : Nat → Int32) (j x : Nat) : Int32 := if x < j then own_by cs x else g x
theorem own_byj0 (cs : List Int32) (g : Nat → Int32) (x : Nat) : own_byj cs g 0 x = g x := by
  unfold own_byj
  rw [if_neg (by omega)]
theorem own_byjN {cs : List Int32} {g : Nat → Int32} {n x : Nat} (h : x < n) : own_by cs x = own_byj cs g n x := by
  unfold own_byj
  rw [if_pos h]
theorem own_byjS (cs : List Int32) (g : Nat → Int32) (j x : Nat) : Value.int (own_byj cs g (j + 1) x) = (if x = j then (Value.int ((own_at cs j).toInt8.toInt32)) else (Value.int (own_byj cs g j x))) := by
  unfold own_byj
  by_cases h1 : x = j
  · rw [if_pos h1, h1, if_pos (by omega), own_by_at]
  · rw [if_neg h1]
    by_cases h3 : x < j
    · rw [if_pos h3, if_pos (by omega)]
    · rw [if_neg h3, if_neg (by omega)]
theorem own_cfa0 {n : Int32} {k : Nat} (hN : n.toInt = (k : Int)) (h : k ≤ 10) : (((n - Int32.ofNat k).toUInt32 >>> ((31 : Int32) &&& 31).toUInt32).toInt32.toInt8.toInt32).toInt8.toInt32 = (0 : Int32) := by
  rw [own_isN hN h, Int32.sub_self]
  decide
/-- the first char above 255 -/
theorem own_first : ∀ (cs : List Int32), (¬ ∀ i, i < cs.length → ¬ (255 : Int32) < own_at cs i) → ∃ J, J < cs.length ∧ (255 : Int32) < own_at cs J ∧ ∀ i, i < J → ¬ (255 : Int32) < own_at cs i
  | [], h => absurd (fun i q => absurd q (Nat.not_lt_zero i)) h
  | c :: cs, h => by
    by_cases q : (255 : Int32) < c
    · exact ⟨0, Nat.succ_pos _, q, fun i hi => absurd hi (Nat.not_lt_zero i)⟩
    · have h' : ¬ ∀ i, i < cs.length → ¬ (255 : Int32) < own_at cs i := fun r => h fun i hi => by
        match i, hi with
        | 0, _ => exact q
        | i + 1, hi => exact r i (Nat.lt_of_succ_lt_succ hi)
      obtain ⟨J, h1, h2, h3⟩ := own_first cs h'
      refine ⟨J + 1, Nat.succ_lt_succ h1, h2, fun i hi => ?_⟩
      match i, hi with
      | 0, _ => exact q
      | i + 1, hi => exact h3 i (Nat.lt_of_succ_lt_succ hi)
theorem own_i2c_sm (x : Int32) : ¬ x.toUInt32.toUInt16.toUInt32.toInt32 < 0 ∧ ¬ (65535 : Int32) < x.toUInt32.toUInt16.toUInt32.toInt32 := by
  obtain ⟨q1, q2, q3⟩ := c_i2c x
  simp only [Int32.lt_iff_toInt_lt, Int32.reduceToInt]
  omega
theorem own_cs16 {x : Int32} (h : ¬ x < 0 ∧ ¬ (65535 : Int32) < x) : x.toUInt32.toUInt16.toUInt32.toInt32 = x := char_small h.1 h.2
theorem own_somej {x y : Int64} (h : x = y) : some (Value.long x) = some (Value.long y) := by rw [h]
theorem own_idx {i : Int32} {j k : Nat} (hi : i.toInt = (j : Int)) (hl : k ≤ 10) (h : i < Int32.ofNat k) : j < k := by
  rw [Int32.lt_iff_toInt_lt, hi, own_ofNatI (by omega)] at h
  omega
section UStr
variable {Z : State} {h h' : Heap} {x : Addr} {cs : List Int32} {k : ClassId}
/-- x is a String of these chars, in two bytes each -/
def Str16 (Z : State) (h : Heap) (x : Addr) (cs : List Int32) : Prop := ∃ (t : Addr) (k : ClassId), Exa Z h x "java/lang/String" ∧ Fld Z h x "java/lang/String" "value" "[B" (.ref t) ∧ Fld Z h x "java/lang/String" "coder" "B" (.int (1 : Int32)) ∧ Arf Z h t k .byte (2 * cs.length) (fun x => (.int (own_ub cs x))) ∧ (∀ c ∈ cs, ¬ c < 0 ∧ ¬ (65535 : Int32) < c) ∧ cs.length ≤ 10
/-- x is a String of these chars, in one byte each -/
def Str8 (Z : State) (h : Heap) (x : Addr) (cs : List Int32) : Prop := ∃ (t : Addr) (k : ClassId), Exa Z h x "java/lang/String" ∧ Fld Z h x "java/lang/String" "value" "[B" (.ref t) ∧ Fld Z h x "java/lang/String" "coder" "B" (.int (0 : Int32)) ∧ Arf Z h t k .byte cs.length (fun i => (.int (own_by cs i))) ∧ (∀ c ∈ cs, ¬ c < 0 ∧ ¬ (255 : Int32) < c) ∧ cs.length ≤ 4000
/-- x is a String of these chars -/
def UStr (Z : State) (h : Heap) (x : Addr) (cs : List Int32) : Prop := Str8 Z h x cs ∨ Str16 Z h x cs
theorem UStr.exa (F : UStr Z h x cs) : Exa Z h x "java/lang/String" := by
  rcases F with ⟨t, k, E, -⟩ | ⟨t, k, E, -⟩
  · exact E
  · exact E
theorem UStr.lt (F : UStr Z h x cs) : x < h.size := F.exa.lt
theorem UStr.small (F : UStr Z h x cs) : ∀ c ∈ cs, ¬ c < 0 ∧ ¬ (65535 : Int32) < c := by
  rcases F with ⟨t, k, -, -, -, -, hp, -⟩ | ⟨t, k, -, -, -, -, hp, -⟩
  · exact fun c q => own_up16 (hp c q)
  · exact hp
theorem own_ucs_of {ds : List Int32} (e : ds = cs) (F : UStr Z h x cs) : UStr Z h x ds := by
  rw [e]
  exact F
theorem UStr.of16 {t : Addr} (E : Exa Z h x "java/lang/String") (V : Fld Z h x "java/lang/String" "value" "[B" (.ref t)) (C : Fld Z h x "java/lang/String" "coder" "B" (.int (1 : Int32))) (K : Arf Z h t k .byte (2 * cs.length) (fun x => (.int (own_ub cs x)))) (hp : ∀ c ∈ cs, ¬ c < 0 ∧ ¬ (65535 : Int32) < c) (hl : cs.length ≤ 10) : UStr Z h x cs := Or.inr ⟨t, k, E, V, C, K, hp, hl⟩
theorem UStr.of8 {t : Addr} (E : Exa Z h x "java/lang/String") (V : Fld Z h x "java/lang/String" "value" "[B" (.ref t)) (C : Fld Z h x "java/lang/String" "coder" "B" (.int (0 : Int32))) (K : Arf Z h t k .byte cs.length (fun i => (.int (own_by cs i)))) (hp : ∀ c ∈ cs, ¬ c < 0 ∧ ¬ (65535 : Int32) < c) (ha : ∀ i, i < cs.length → ¬ (255 : Int32) < own_at cs i) (hl : cs.length ≤ 4000) : UStr Z h x cs := Or.inl ⟨t, k, E, V, C, K, fun c q => by
  obtain ⟨i, hi, e⟩ := List.getElem_of_mem q
  have r := ha i hi
  unfold own_at at r
  rw [List.getD_eq_getElem?_getD, List.getElem?_eq_getElem hi, Option.getD_some, e] at r
  exact ⟨(hp c q).1, r⟩, hl⟩
theorem UStr.ofIs (F : StrIs Z h x cs) : UStr Z h x cs := by
  obtain ⟨t, k, E, V, C, K, hp, hl⟩ := F
  exact Or.inl ⟨t, k, E, V, C, (Arv.arf K (own_ofNat hl)).congr fun i _ => own_byv cs i, hp, hl⟩
end UStr
end Jvm.OwnKit
namespace Jvm.Pilot.@@N@@
open Jvm Jvm.ClassFile Sem Op Lib Jvm.Free Jvm.Stand Jvm.LawKit Jvm.RoadKit Jvm.OwnKit Bundle Jvm.Pilot.@@N@@.Jvm.D
def own_x5 (t0 t1 t2 t3 t4 i : Int32) : Int32 := if i = 0 then t0 else if i = 1 then t1 else if i = 2 then t2 else if i = 3 then t3 else t4
def own_bs (t0 t1 t2 t3 t4 k fr : Int32) : Int32 := if k < fr then 0 else if own_x5 t0 t1 t2 t3 t4 k = (92 : Int32) then 1 else 0
def own_ev (t0 t1 t2 t3 t4 fr jj : Int32) : Int32 := if own_bs t0 t1 t2 t3 t4 (jj - (1 : Int32)) fr = 0 then 1 else if own_bs t0 t1 t2 t3 t4 (jj - (2 : Int32)) fr = 0 then 0 else if own_bs t0 t1 t2 t3 t4 (jj - (3 : Int32)) fr = 0 then 1 else 0
def own_cl (t0 t1 t2 t3 t4 sv jj : Int32) : Int32 := if sv < jj then (if own_x5 t0 t1 t2 t3 t4 jj = (34 : Int32) then (if own_ev t0 t1 t2 t3 t4 (sv + (1 : Int32)) jj = 0 then 0 else 1) else 0) else 0
def own_e4 (t4 : Int32) : Int32 := if t4 = (34 : Int32) then 5 else if t4 = (92 : Int32) then -1 else -1
def own_e3 (t3 t4 : Int32) : Int32 := if t3 = (34 : Int32) then 4 else if t3 = (92 : Int32) then -1 else own_e4 t4
def own_e2 (t2 t3 t4 : Int32) : Int32 := if t2 = (34 : Int32) then 3 else if t2 = (92 : Int32) then own_e4 t4 else own_e3 t3 t4
def own_e1 (t1 t2 t3 t4 : Int32) : Int32 := if t1 = (34 : Int32) then 2 else if t1 = (92 : Int32) then own_e3 t3 t4 else own_e2 t2 t3 t4
def own_e (t0 t1 t2 t3 t4 sv : Int32) : Int32 := if sv = 0 then own_e1 t1 t2 t3 t4 else if sv = 1 then own_e2 t2 t3 t4 else if sv = 2 then own_e3 t3 t4 else if sv = 3 then own_e4 t4 else -1
theorem own_e_0 {t0 t1 t2 t3 t4 : Int32} : own_e t0 t1 t2 t3 t4 (0 : Int32) = own_e1 t1 t2 t3 t4 := rfl
theorem own_e_1 {t0 t1 t2 t3 t4 : Int32} : own_e t0 t1 t2 t3 t4 (1 : Int32) = own_e2 t2 t3 t4 := rfl
theorem own_e_2 {t0 t1 t2 t3 t4 : Int32} : own_e t0 t1 t2 t3 t4 (2 : Int32) = own_e3 t3 t4 := rfl
theorem own_e_3 {t0 t1 t2 t3 t4 : Int32} : own_e t0 t1 t2 t3 t4 (3 : Int32) = own_e4 t4 := rfl
theorem own_e_4 {t0 t1 t2 t3 t4 : Int32} : own_e t0 t1 t2 t3 t4 (4 : Int32) = -1 := rfl
theorem own_tri (t : Int32) : t = 34 ∨ t = 92 ∨ (¬ t = 34 ∧ ¬ t = 92) := by
  by_cases h : t = 34
  · exact Or.inl h
  · by_cases h2 : t = 92
    · exact Or.inr (Or.inl h2)
    · exact Or.inr (Or.inr ⟨h, h2⟩)
theorem own_cl_01 {t0 t1 t2 t3 t4 : Int32} : own_cl t0 t1 t2 t3 t4 (0 : Int32) (1 : Int32) = (if t1 = (34 : Int32) then (1 : Int32) else 0) := rfl
theorem own_cl_02 {t0 t1 t2 t3 t4 : Int32} : own_cl t0 t1 t2 t3 t4 (0 : Int32) (2 : Int32) = (if t2 = (34 : Int32) then (if (if (if t1 = (92 : Int32) then (1 : Int32) else 0) = 0 then (1 : Int32) else 0) = 0 then (0 : Int32) else 1) else 0) := rfl
theorem own_cl_03 {t0 t1 t2 t3 t4 : Int32} : own_cl t0 t1 t2 t3 t4 (0 : Int32) (3 : Int32) = (if t3 = (34 : Int32) then (if (if (if t2 = (92 : Int32) then (1 : Int32) else 0) = 0 then (1 : Int32) else (if (if t1 = (92 : Int32) then (1 : Int32) else 0) = 0 then 0 else 1)) = 0 then (0 : Int32) else 1) else 0) := rfl
theorem own_cl_04 {t0 t1 t2 t3 t4 : Int32} : own_cl t0 t1 t2 t3 t4 (0 : Int32) (4 : Int32) = (if t4 = (34 : Int32) then (if (if (if t3 = (92 : Int32) then (1 : Int32) else 0) = 0 then (1 : Int32) else (if (if t2 = (92 : Int32) then (1 : Int32) else 0) = 0 then 0 else (if (if t1 = (92 : Int32) then (1 : Int32) else 0) = 0 then 1 else 0))) = 0 then (0 : Int32) else 1) else 0) := rfl
theorem own_cl_11 {t0 t1 t2 t3 t4 : Int32} : own_cl t0 t1 t2 t3 t4 (1 : Int32) (1 : Int32) = (0 : Int32) := rfl
theorem own_cl_12 {t0 t1 t2 t3 t4 : Int32} : own_cl t0 t1 t2 t3 t4 (1 : Int32) (2 : Int32) = (if t2 = (34 : Int32) then (1 : Int32) else 0) := rfl
theorem own_cl_13 {t0 t1 t2 t3 t4 : Int32} : own_cl t0 t1 t2 t3 t4 (1 : Int32) (3 : Int32) = (if t3 = (34 : Int32) then (if (if (if t2 = (92 : Int32) then (1 : Int32) else 0) = 0 then (1 : Int32) else 0) = 0 then (0 : Int32) else 1) else 0) := rfl
theorem own_cl_14 {t0 t1 t2 t3 t4 : Int32} : own_cl t0 t1 t2 t3 t4 (1 : Int32) (4 : Int32) = (if t4 = (34 : Int32) then (if (if (if t3 = (92 : Int32) then (1 : Int32) else 0) = 0 then (1 : Int32) else (if (if t2 = (92 : Int32) then (1 : Int32) else 0) = 0 then 0 else 1)) = 0 then (0 : Int32) else 1) else 0) := rfl
theorem own_cl_21 {t0 t1 t2 t3 t4 : Int32} : own_cl t0 t1 t2 t3 t4 (2 : Int32) (1 : Int32) = (0 : Int32) := rfl
theorem own_cl_22 {t0 t1 t2 t3 t4 : Int32} : own_cl t0 t1 t2 t3 t4 (2 : Int32) (2 : Int32) = (0 : Int32) := rfl
theorem own_cl_23 {t0 t1 t2 t3 t4 : Int32} : own_cl t0 t1 t2 t3 t4 (2 : Int32) (3 : Int32) = (if t3 = (34 : Int32) then (1 : Int32) else 0) := rfl
theorem own_cl_24 {t0 t1 t2 t3 t4 : Int32} : own_cl t0 t1 t2 t3 t4 (2 : Int32) (4 : Int32) = (if t4 = (34 : Int32) then (if (if (if t3 = (92 : Int32) then (1 : Int32) else 0) = 0 then (1 : Int32) else 0) = 0 then (0 : Int32) else 1) else 0) := rfl
theorem own_cl_31 {t0 t1 t2 t3 t4 : Int32} : own_cl t0 t1 t2 t3 t4 (3 : Int32) (1 : Int32) = (0 : Int32) := rfl
theorem own_cl_32 {t0 t1 t2 t3 t4 : Int32} : own_cl t0 t1 t2 t3 t4 (3 : Int32) (2 : Int32) = (0 : Int32) := rfl
theorem own_cl_33 {t0 t1 t2 t3 t4 : Int32} : own_cl t0 t1 t2 t3 t4 (3 : Int32) (3 : Int32) = (0 : Int32) := rfl
theorem own_cl_34 {t0 t1 t2 t3 t4 : Int32} : own_cl t0 t1 t2 t3 t4 (3 : Int32) (4 : Int32) = (if t4 = (34 : Int32) then (1 : Int32) else 0) := rfl
theorem own_cl_41 {t0 t1 t2 t3 t4 : Int32} : own_cl t0 t1 t2 t3 t4 (4 : Int32) (1 : Int32) = (0 : Int32) := rfl
theorem own_cl_42 {t0 t1 t2 t3 t4 : Int32} : own_cl t0 t1 t2 t3 t4 (4 : Int32) (2 : Int32) = (0 : Int32) := rfl
theorem own_cl_43 {t0 t1 t2 t3 t4 : Int32} : own_cl t0 t1 t2 t3 t4 (4 : Int32) (3 : Int32) = (0 : Int32) := rfl
theorem own_cl_44 {t0 t1 t2 t3 t4 : Int32} : own_cl t0 t1 t2 t3 t4 (4 : Int32) (4 : Int32) = (0 : Int32) := rfl
theorem own_k34 : ¬ (34 : Int32) = 92 := by decide
theorem own_k92 : ¬ (92 : Int32) = 34 := by decide
theorem own_k10 : ¬ (1 : Int32) = 0 := by decide
theorem own_m_0 {t0 t1 t2 t3 t4 : Int32} : own_e t0 t1 t2 t3 t4 (0 : Int32) = if own_cl t0 t1 t2 t3 t4 (0 : Int32) (1 : Int32) = 0 then (if own_cl t0 t1 t2 t3 t4 (0 : Int32) (2 : Int32) = 0 then (if own_cl t0 t1 t2 t3 t4 (0 : Int32) (3 : Int32) = 0 then (if own_cl t0 t1 t2 t3 t4 (0 : Int32) (4 : Int32) = 0 then -1 else 5) else 4) else 3) else 2 := by
  rw [own_e_0, own_cl_01, own_cl_02, own_cl_03, own_cl_04]
  rcases own_tri t1 with rfl | rfl | ⟨a1, b1⟩ <;> rcases own_tri t2 with rfl | rfl | ⟨a2, b2⟩ <;> rcases own_tri t3 with rfl | rfl | ⟨a3, b3⟩ <;> rcases own_tri t4 with rfl | rfl | ⟨a4, b4⟩ <;>
    simp only [own_e1, own_e2, own_e3, own_e4, own_k34, own_k92, own_k10, if_true, if_false, *]
theorem own_m_1 {t0 t1 t2 t3 t4 : Int32} : own_e t0 t1 t2 t3 t4 (1 : Int32) = if own_cl t0 t1 t2 t3 t4 (1 : Int32) (1 : Int32) = 0 then (if own_cl t0 t1 t2 t3 t4 (1 : Int32) (2 : Int32) = 0 then (if own_cl t0 t1 t2 t3 t4 (1 : Int32) (3 : Int32) = 0 then (if own_cl t0 t1 t2 t3 t4 (1 : Int32) (4 : Int32) = 0 then -1 else 5) else 4) else 3) else 2 := by
  rw [own_e_1, own_cl_11, own_cl_12, own_cl_13, own_cl_14]
  rcases own_tri t2 with rfl | rfl | ⟨a2, b2⟩ <;> rcases own_tri t3 with rfl | rfl | ⟨a3, b3⟩ <;> rcases own_tri t4 with rfl | rfl | ⟨a4, b4⟩ <;>
    simp only [own_e1, own_e2, own_e3, own_e4, own_k34, own_k92, own_k10, if_true, if_false, *]
theorem own_m_2 {t0 t1 t2 t3 t4 : Int32} : own_e t0 t1 t2 t3 t4 (2 : Int32) = if own_cl t0 t1 t2 t3 t4 (2 : Int32) (1 : Int32) = 0 then (if own_cl t0 t1 t2 t3 t4 (2 : Int32) (2 : Int32) = 0 then (if own_cl t0 t1 t2 t3 t4 (2 : Int32) (3 : Int32) = 0 then (if own_cl t0 t1 t2 t3 t4 (2 : Int32) (4 : Int32) = 0 then -1 else 5) else 4) else 3) else 2 := by
  rw [own_e_2, own_cl_21, own_cl_22, own_cl_23, own_cl_24]
  rcases own_tri t3 with rfl | rfl | ⟨a3, b3⟩ <;> rcases own_tri t4 with rfl | rfl | ⟨a4, b4⟩ <;>
    simp only [own_e1, own_e2, own_e3, own_e4, own_k34, own_k92, own_k10, if_true, if_false, *]
theorem own_m_3 {t0 t1 t2 t3 t4 : Int32} : own_e t0 t1 t2 t3 t4 (3 : Int32) = if own_cl t0 t1 t2 t3 t4 (3 : Int32) (1 : Int32) = 0 then (if own_cl t0 t1 t2 t3 t4 (3 : Int32) (2 : Int32) = 0 then (if own_cl t0 t1 t2 t3 t4 (3 : Int32) (3 : Int32) = 0 then (if own_cl t0 t1 t2 t3 t4 (3 : Int32) (4 : Int32) = 0 then -1 else 5) else 4) else 3) else 2 := by
  rw [own_e_3, own_cl_31, own_cl_32, own_cl_33, own_cl_34]
  rcases own_tri t4 with rfl | rfl | ⟨a4, b4⟩ <;>
    simp only [own_e1, own_e2, own_e3, own_e4, own_k34, own_k92, own_k10, if_true, if_false, *]
theorem own_m_4 {t0 t1 t2 t3 t4 : Int32} : own_e t0 t1 t2 t3 t4 (4 : Int32) = if own_cl t0 t1 t2 t3 t4 (4 : Int32) (1 : Int32) = 0 then (if own_cl t0 t1 t2 t3 t4 (4 : Int32) (2 : Int32) = 0 then (if own_cl t0 t1 t2 t3 t4 (4 : Int32) (3 : Int32) = 0 then (if own_cl t0 t1 t2 t3 t4 (4 : Int32) (4 : Int32) = 0 then -1 else 5) else 4) else 3) else 2 := by
  rw [own_e_4, own_cl_41, own_cl_42, own_cl_43, own_cl_44]
  rfl
theorem own_main {t0 t1 t2 t3 t4 sv : Int32} (hs : sv = 0 ∨ sv = 1 ∨ sv = 2 ∨ sv = 3 ∨ sv = 4) : own_e t0 t1 t2 t3 t4 sv = if own_cl t0 t1 t2 t3 t4 sv (1 : Int32) = 0 then (if own_cl t0 t1 t2 t3 t4 sv (2 : Int32) = 0 then (if own_cl t0 t1 t2 t3 t4 sv (3 : Int32) = 0 then (if own_cl t0 t1 t2 t3 t4 sv (4 : Int32) = 0 then -1 else 5) else 4) else 3) else 2 := by
  rcases hs with rfl | rfl | rfl | rfl | rfl
  · exact own_m_0
  · exact own_m_1
  · exact own_m_2
  · exact own_m_3
  · exact own_m_4
def own_pick (sh jj ot : Int32) : Int32 := if (((sh.toUInt32 >>> (((2 : Int32) * jj) &&& 31).toUInt32).toInt32) &&& (3 : Int32)) = 0 then (34 : Int32) else if (((sh.toUInt32 >>> (((2 : Int32) * jj) &&& 31).toUInt32).toInt32) &&& (3 : Int32)) = (1 : Int32) then (92 : Int32) else ot
theorem own_pick_sm {sh jj ot : Int32} (h : ¬ ot < 0 ∧ ¬ (65535 : Int32) < ot) : ¬ own_pick sh jj ot < 0 ∧ ¬ (65535 : Int32) < own_pick sh jj ot := by
  unfold own_pick
  split
  · exact ⟨by decide, by decide⟩
  · split
    · exact ⟨by decide, by decide⟩
    · exact h
theorem own_t16 {k sh jj x : Int32} (h : k = own_pick sh jj x.toUInt32.toUInt16.toUInt32.toInt32) : ¬ k < 0 ∧ ¬ (65535 : Int32) < k := by
  rw [h]
  exact own_pick_sm (own_i2c_sm x)
theorem own_x5at {t0 t1 t2 t3 t4 j : Int32} {d : Value} (q : ¬ j < 0 ∧ j < (5 : Int32)) : ([(.int t0), (.int t1), (.int t2), (.int t3), (.int t4)] : List Value).getD j.toNatClampNeg d = .int (own_x5 t0 t1 t2 t3 t4 j) := by
  have : j = 0 ∨ j = 1 ∨ j = 2 ∨ j = 3 ∨ j = 4 := by
    simp only [Int32.lt_iff_toInt_lt, Int32.reduceToInt] at q
    simp only [← Int32.toInt_inj]
    have : (0 : Int32).toInt = 0 := by decide
    have : (1 : Int32).toInt = 1 := by decide
    have : (2 : Int32).toInt = 2 := by decide
    have : (3 : Int32).toInt = 3 := by decide
    have : (4 : Int32).toInt = 4 := by decide
    omega
  rcases this with rfl | rfl | rfl | rfl | rfl <;> rfl
theorem own_subS {a b : Int32} (h0 : 0 ≤ a.toInt) (h1 : a.toInt ≤ 4000) (h2 : 0 ≤ b.toInt) (h3 : b.toInt ≤ 4000) : (a - b).toInt = a.toInt - b.toInt := by
  rw [Int32.toInt_sub, Int.bmod_def]
  omega
theorem own_inb {jj fr z : Int32} (hj : 0 ≤ jj.toInt ∧ jj.toInt ≤ 4) (hf : 0 ≤ fr.toInt) (hz : 0 ≤ z.toInt ∧ z.toInt ≤ 4) : ¬ (jj - z) < fr → ¬ (jj - z) < 0 ∧ (jj - z) < (5 : Int32) := by
  intro h
  simp only [Int32.lt_iff_toInt_lt, own_subS (a := jj) (b := z) hj.1 (by omega) hz.1 (by omega), Int32.reduceToInt] at h ⊢
  omega
theorem own_in5 {jj : Int32} (hj : 0 ≤ jj.toInt ∧ jj.toInt ≤ 4) : ¬ jj < 0 ∧ jj < (5 : Int32) := by
  simp only [Int32.lt_iff_toInt_lt, Int32.reduceToInt]
  omega
theorem own_sv {x sv : Int32} (h : sv = (x &&& (2147483647 : Int32)) % (5 : Int32)) : sv = 0 ∨ sv = 1 ∨ sv = 2 ∨ sv = 3 ∨ sv = 4 := by
  have q := c_mask x 2147483647 31 (by decide) (by decide)
  have e5 : (5 : Int32).toInt = 5 := by decide
  have q0 : 0 ≤ (x &&& (2147483647 : Int32)).toInt := by omega
  have e : sv.toInt = (x &&& (2147483647 : Int32)).toInt % 5 := by rw [h, Int32.toInt_mod, e5, Int.tmod_eq_emod_of_nonneg q0]
  simp only [← Int32.toInt_inj]
  have : (0 : Int32).toInt = 0 := by decide
  have : (1 : Int32).toInt = 1 := by decide
  have : (2 : Int32).toInt = 2 := by decide
  have : (3 : Int32).toInt = 3 := by decide
  have : (4 : Int32).toInt = 4 := by decide
  omega
theorem own_svI {sv : Int32} (hs : sv = 0 ∨ sv = 1 ∨ sv = 2 ∨ sv = 3 ∨ sv = 4) : 0 ≤ (sv + (1 : Int32)).toInt := by
  rcases hs with rfl | rfl | rfl | rfl | rfl <;> decide
theorem own_sm5 {t0 t1 t2 t3 t4 : Int32} {P : Int32 → Prop} (h0 : P t0) (h1 : P t1) (h2 : P t2) (h3 : P t3) (h4 : P t4) : ∀ c ∈ ([t0, t1, t2, t3, t4] : List Int32), P c := by
  intro c hc
  simp only [List.mem_cons, List.not_mem_nil, or_false] at hc
  rcases hc with rfl | rfl | rfl | rfl | rfl
  · exact h0
  · exact h1
  · exact h2
  · exact h3
  · exact h4
theorem d21_0 : decode jdk_52_method_3_code 0 = .ok (.iload_n 0, 1) := by decide +kernel
theorem d21_1 : decode jdk_52_method_3_code 1 = .ok (.ifCond .ge 11, 3) := by decide +kernel
theorem d21_12 : decode jdk_52_method_3_code 12 = .ok (.iload_n 0, 1) := by decide +kernel
theorem d21_13 : decode jdk_52_method_3_code 13 = .ok (.ldc 20, 2) := by decide +kernel
theorem d21_15 : decode jdk_52_method_3_code 15 = .ok (.if_icmp .lt 40, 3) := by decide +kernel
theorem d21_55 : decode jdk_52_method_3_code 55 = .ok (.iload_n 0, 1) := by decide +kernel
theorem d21_56 : decode jdk_52_method_3_code 56 = .ok (.iconst 1, 1) := by decide +kernel
theorem d21_57 : decode jdk_52_method_3_code 57 = .ok (.ishl, 1) := by decide +kernel
theorem d21_58 : decode jdk_52_method_3_code 58 = .ok (.ireturn, 1) := by decide +kernel
theorem ef_rm_nbl (m : MethodId) (n : Int32)  : entryFrame m #[(.int n)] 1 = mkF m 0 #[.val (.int n)] [] := by first | (simp [entryFrame, mkF, argsToLocals, Value.category]; done) | rfl
def Q_rm_nbl (Z : State) (n : Int32) (cs : List Int32) (h0 : Heap) (n0 : Nat) (v : Option Value) (h : Heap) (L : List Loc) : Prop := v = some (.int (Int32.ofNat (2 * cs.length))) ∧ Fr n0 L ∧ h = h0
theorem pn_0_ : plainName "java/lang/StringUTF16" = true := by first | (simp [plainName, overriddenIn]; done) | decide +kernel
theorem pn_0 : plainFor (⟨"java/lang/StringUTF16", "newBytesLength", "(I)I"⟩ : MethodName) = true := plainFor_of_name pn_0_
set_option maxRecDepth 65536 in
set_option maxHeartbeats 40000000 in
theorem rm_nbl (l : Launch) (Z : State) (a0 : Array Value) (hw : ∀ d ∈ tables_1, d.before a0 Z = true) (ws : List Jvm.Cond) (n : Int32) (cs : List Int32) (h0 : Heap) (n0 : Nat) (O0 : Old Z n0 h0) (hN : n.toInt = (cs.length : Int)) (hN1 : cs.length ≤ 10) :
    MetFree l (⟨"java/lang/StringUTF16", "newBytesLength", "(I)I"⟩ : MethodName) (head1 (Jvm.Cond.code (⟨"java/lang/StringUTF16", "newBytesLength", "(I)I"⟩ : MethodName) jdk_52_method_3_code 1 (some .int) :: ws) ({ frames := 0, cells := 0, slots := 0, locals := 0 } : Room)) (fun args_ U => args_ = #[(.int n)] ∧ Z.Warmed39 U.vm ∧ U.heap = h0) (fun _ _ _ _ _ => True) (fun _ U out_ U' => ∃ val_ loc_, out_ = .returned val_ ∧ (Q_rm_nbl Z n cs h0 n0) val_ U'.heap loc_ ∧ FrameEnd U out_ U' loc_ ({ frames := 0, cells := 0, slots := 0, locals := 0 } : Room).cells ({ frames := 0, cells := 0, slots := 0, locals := 0 } : Room).slots) := by
  refine start (Q := (Q_rm_nbl Z n cs h0 n0)) pn_0 ?_
  intro p e s m below meth c T0 X0 hx hby hml hown hnm hret hlk hZ e0
  replace hown : s.vm.findClass "java/lang/StringUTF16" = some m.cls := hown
  replace hml : c.maxLocals = 1 := hml
  refine goAt (ef_rm_nbl m n ) ?_
  have N0 := Fr.nil n0
  show Go p e below T0 (mkF m 0 #[.val (.int n)] []) _
  refine stp (fun _ => XS.iloadN X0.here hx rfl (hb hby d21_0) rfl) ?_
  show Go p e below T0 (mkF m 1 #[.val (.int n)] [(.int n)]) _
  refine stp (fun _ => XS.ifYes X0.here hx rfl (pc0 := 1) (pc' := 12) rfl (hb hby d21_1) rfl (XT.i0_ge_t (own_u0 hN)) (by decide) (by decide)) ?_
  show Go p e below T0 (mkF m 12 #[.val (.int n)] []) _
  refine stp (fun _ => XS.iloadN X0.here hx rfl (hb hby d21_12) rfl) ?_
  show Go p e below T0 (mkF m 13 #[.val (.int n)] [(.int n)]) _
  refine stp (fun _ => X0.ldcInt hx hown (mvT hZ (hw _ (List.mem_of_getElem? (i := 89) rfl))) (g := (mkF m 13 #[.val (.int n)] [(.int n)])) rfl (hb hby d21_13) _) ?_
  show Go p e below T0 (mkF m 15 #[.val (.int n)] [(.int (1073741823 : Int32)), (.int n)]) _
  refine stp (fun _ => XS.icmpYes X0.here hx rfl (pc0 := 15) (pc' := 55) rfl (hb hby d21_15) rfl (XT.ii_lt_t (own_umax hN hN1)) (by decide) (by decide)) ?_
  show Go p e below T0 (mkF m 55 #[.val (.int n)] []) _
  refine stp (fun _ => XS.iloadN X0.here hx rfl (hb hby d21_55) rfl) ?_
  show Go p e below T0 (mkF m 56 #[.val (.int n)] [(.int n)]) _
  refine stp (fun _ => XS.iconst X0.here hx rfl (hb hby d21_56)) ?_
  show Go p e below T0 (mkF m 57 #[.val (.int n)] [(.int (1 : Int32)), (.int n)]) _
  refine stp (fun _ => XS.ishl X0.here hx rfl (hb hby d21_57) rfl) ?_
  show Go p e below T0 (mkF m 58 #[.val (.int n)] [(.int (n <<< ((1 : Int32) &&& 31)))]) _
  refine outI X0 hx hret (hb hby d21_58) hlk (by decide) (by decide) ?_
  exact ⟨own_somei (own_dbl hN hN1), N0, e0⟩
theorem d20_0 : decode jdk_52_method_2_code 0 = .ok (.iload_n 0, 1) := by decide +kernel
theorem d20_1 : decode jdk_52_method_2_code 1 = .ok (.invokestatic 11, 3) := by decide +kernel
theorem pd_0 : parseMethodDescriptor "(I)I" = some ⟨[.int], some .int⟩ := by decide +kernel
theorem d20_4 : decode jdk_52_method_2_code 4 = .ok (.newarray .byte, 2) := by decide +kernel
theorem d20_6 : decode jdk_52_method_2_code 6 = .ok (.areturn, 1) := by decide +kernel
theorem ef_rm_nbf (m : MethodId) (n : Int32)  : entryFrame m #[(.int n)] 1 = mkF m 0 #[.val (.int n)] [] := by first | (simp [entryFrame, mkF, argsToLocals, Value.category]; done) | rfl
def Q_rm_nbf (Z : State) (n : Int32) (cs : List Int32) (h0 : Heap) (n0 : Nat) (v : Option Value) (h : Heap) (L : List Loc) : Prop := ∃ (r : Addr) (k_r : ClassId), v = some (.ref r) ∧ Fr n0 L ∧ Keep h0 h [] ∧ (n0 ≤ r ∧ h0.size ≤ r) ∧ Exa Z h r "[B" ∧ Arf Z h r k_r .byte (2 * cs.length) (fun _ => (.int (0 : Int32)))
theorem pn_1_ : plainName "java/lang/StringUTF16" = true := by first | (simp [plainName, overriddenIn]; done) | decide +kernel
theorem pn_1 : plainFor (⟨"java/lang/StringUTF16", "newBytesFor", "(I)[B"⟩ : MethodName) = true := plainFor_of_name pn_1_
set_option maxRecDepth 65536 in
set_option maxHeartbeats 40000000 in
theorem rm_nbf (l : Launch) (Z : State) (a0 : Array Value) (hw : ∀ d ∈ tables_1, d.before a0 Z = true) (ws : List Jvm.Cond) (n : Int32) (cs : List Int32) (h0 : Heap) (n0 : Nat) (O0 : Old Z n0 h0) (hN : n.toInt = (cs.length : Int)) (hN1 : cs.length ≤ 10) :
    MetFree l (⟨"java/lang/StringUTF16", "newBytesFor", "(I)[B"⟩ : MethodName) (head1 (Jvm.Cond.code (⟨"java/lang/StringUTF16", "newBytesFor", "(I)[B"⟩ : MethodName) jdk_52_method_2_code 1 (some (.array .byte)) :: ws) ({ frames := 1, cells := 1, slots := 20, locals := 12 } : Room)) (fun args_ U => args_ = #[(.int n)] ∧ Z.Warmed39 U.vm ∧ U.heap = h0) (fun _ _ _ _ _ => True) (fun _ U out_ U' => ∃ val_ loc_, out_ = .returned val_ ∧ (Q_rm_nbf Z n cs h0 n0) val_ U'.heap loc_ ∧ FrameEnd U out_ U' loc_ ({ frames := 1, cells := 1, slots := 20, locals := 12 } : Room).cells ({ frames := 1, cells := 1, slots := 20, locals := 12 } : Room).slots) := by
  refine start (Q := (Q_rm_nbf Z n cs h0 n0)) pn_1 ?_
  intro p e s m below meth c T0 X0 hx hby hml hown hnm hret hlk hZ e0
  replace hown : s.vm.findClass "java/lang/StringUTF16" = some m.cls := hown
  replace hml : c.maxLocals = 1 := hml
  refine goAt (ef_rm_nbf m n ) ?_
  have N0 := Fr.nil n0
  show Go p e below T0 (mkF m 0 #[.val (.int n)] []) _
  refine stp (fun _ => XS.iloadN X0.here hx rfl (hb hby d20_0) rfl) ?_
  show Go p e below T0 (mkF m 1 #[.val (.int n)] [(.int n)]) _
  obtain ⟨_, _, ⟨T1, L1, k1, n1⟩, -, X1, ⟨Lc1, hQ1, l1, y1, z1⟩, st1⟩ := Jvm.LawKit.callS X0 hx (y := (⟨"java/lang/StringUTF16", "newBytesLength", "(I)I"⟩ : MethodName)) hown (mvT hZ (hw _ (List.mem_of_getElem? (i := 86) rfl))) (mvT hZ (hw _ (List.mem_of_getElem? (i := 87) rfl))) (mvT hZ (hw _ (List.mem_of_getElem? (i := 31) rfl))) (mvT hZ (hw _ (List.mem_of_getElem? (i := 88) rfl))) (by decide) (backOf (W := 0) (rm_nbl l Z a0 hw [] n cs h0 n0 O0 hN hN1) hZ (hw _ (List.mem_of_getElem? (i := 88) rfl)) (hw _ (List.mem_of_getElem? (i := 31) rfl)) (by decide) (by decide)) (g := (mkF m 1 #[.val (.int n)] [(.int n)])) rfl (by rw [hml]; rfl) (argsL := [(.int n)]) (rest := []) (lenOf pd_0 rfl) rfl (by show 2 * 0 + _ ≤ _; exact Nat.le_of_eq rfl) (hb hby d20_1) (fun _ _ => ⟨rfl, e0, (by decide : 0 + 0 ≤ _), (by decide : 0 + 0 ≤ _)⟩)
  dsimp only [Pt.U, Pt.locs, Pt.cells, Pt.slots] at X1 l1 y1 z1 st1 hQ1
  subst y1 z1
  obtain ⟨rfl, N1q, e1⟩ := hQ1
  have N1 : Fr n0 L1 := by rw [l1]; exact Fr.app N0 N1q
  refine stp st1 ?_
  show Go p e below T1 (mkF m 4 #[.val (.int n)] [(.int (Int32.ofNat (2 * cs.length)))]) _
  obtain ⟨T2, h2, k2, X2, e2, E2, A2, B2, st2⟩ := newPE X1 hx hZ (hw _ (List.mem_of_getElem? (i := 33) rfl)) e1 (g := (mkF m 4 #[.val (.int n)] [(.int (Int32.ofNat (2 * cs.length)))])) rfl (hb hby d20_4) rfl (own_u0 (own_ofNatI (n := 2 * cs.length) (by omega))) (cap := 20) (by rw [own_ofNat (by omega)]; omega) (by decide) (by decide) (by decide) (ad := "[B") (by decide)
  obtain ⟨b2, g2⟩ : ∃ z, z = h0.size := ⟨_, rfl⟩
  rw [← g2] at A2 B2 st2
  have sz_b2 : h0.size ≤ b2 := Nat.le_trans (Keep.refl h0 []).1 (Nat.le_of_eq g2.symm)
  have ge_b2 : n0 ≤ b2 := Nat.le_trans (old_le O0) (Nat.le_of_eq g2.symm)
  have K2 : Keep h0 h2 [] := (Keep.refl h0 []).ext E2
  have O2 := O0.ext E2
  have V2 : Arf Z h2 b2 k2 .byte (2 * cs.length) (fun _ => (.int (0 : Int32))) := Arf.new A2 (own_u0 (own_ofNatI (n := 2 * cs.length) (by omega))) (own_ofNat (by omega))
  refine stp st2 ?_
  show Go p e below T2 (mkF m 6 #[.val (.int n)] [(.ref b2)]) _
  refine outA X2 hx hret rfl rfl (hb hby d20_6) hlk (by decide) (by decide) ?_
  rw [e2]
  exact ⟨b2, k2, rfl, N1, K2, ⟨ge_b2, sz_b2⟩, B2, V2⟩
theorem d22_0 : decode jdk_52_method_4_code 0 = .ok (.getstatic 44, 3) := by decide +kernel
theorem d22_3 : decode jdk_52_method_4_code 3 = .ok (.ifCond .ne 25, 3) := by decide +kernel
theorem d22_28 : decode jdk_52_method_4_code 28 = .ok (.iload_n 1, 1) := by decide +kernel
theorem d22_29 : decode jdk_52_method_4_code 29 = .ok (.iconst 1, 1) := by decide +kernel
theorem d22_30 : decode jdk_52_method_4_code 30 = .ok (.ishl, 1) := by decide +kernel
theorem d22_31 : decode jdk_52_method_4_code 31 = .ok (.istore_n 1, 1) := by decide +kernel
theorem d22_32 : decode jdk_52_method_4_code 32 = .ok (.aload_n 0, 1) := by decide +kernel
theorem d22_33 : decode jdk_52_method_4_code 33 = .ok (.iload_n 1, 1) := by decide +kernel
theorem d22_34 : decode jdk_52_method_4_code 34 = .ok (.iinc 1 1, 3) := by decide +kernel
theorem d22_37 : decode jdk_52_method_4_code 37 = .ok (.iload_n 2, 1) := by decide +kernel
theorem d22_38 : decode jdk_52_method_4_code 38 = .ok (.getstatic 59, 3) := by decide +kernel
theorem d22_41 : decode jdk_52_method_4_code 41 = .ok (.ishr, 1) := by decide +kernel
theorem d22_42 : decode jdk_52_method_4_code 42 = .ok (.i2b, 1) := by decide +kernel
theorem d22_43 : decode jdk_52_method_4_code 43 = .ok (.bastore, 1) := by decide +kernel
theorem d22_44 : decode jdk_52_method_4_code 44 = .ok (.aload_n 0, 1) := by decide +kernel
theorem d22_45 : decode jdk_52_method_4_code 45 = .ok (.iload_n 1, 1) := by decide +kernel
theorem d22_46 : decode jdk_52_method_4_code 46 = .ok (.iload_n 2, 1) := by decide +kernel
theorem d22_47 : decode jdk_52_method_4_code 47 = .ok (.getstatic 63, 3) := by decide +kernel
theorem d22_50 : decode jdk_52_method_4_code 50 = .ok (.ishr, 1) := by decide +kernel
theorem d22_51 : decode jdk_52_method_4_code 51 = .ok (.i2b, 1) := by decide +kernel
theorem d22_52 : decode jdk_52_method_4_code 52 = .ok (.bastore, 1) := by decide +kernel
theorem d22_53 : decode jdk_52_method_4_code 53 = .ok (.return_, 1) := by decide +kernel
theorem ef_rm_put (m : MethodId) (vb : Addr) (i : Int32) (ch : Int32)  : entryFrame m #[(.ref vb), (.int i), (.int ch)] 3 = mkF m 0 #[.val (.ref vb), .val (.int i), .val (.int ch)] [] := by first | (simp [entryFrame, mkF, argsToLocals, Value.category]; done) | rfl
def Q_rm_put (Z : State) (vb : Addr) (i : Int32) (ch : Int32) (M : Nat) (g : Nat → Int32) (j : Nat) (k_vb : ClassId) (h0 : Heap) (n0 : Nat) (v : Option Value) (h : Heap) (L : List Loc) : Prop := v = none ∧ Fr n0 L ∧ Keep h0 h [vb] ∧ Arf Z h vb k_vb .byte M (fun x => (.int (own_put g j ch x)))
theorem pn_2_ : plainName "java/lang/StringUTF16" = true := by first | (simp [plainName, overriddenIn]; done) | decide +kernel
theorem pn_2 : plainFor (⟨"java/lang/StringUTF16", "putChar", "([BII)V"⟩ : MethodName) = true := plainFor_of_name pn_2_
set_option maxRecDepth 65536 in
set_option maxHeartbeats 40000000 in
theorem rm_put (l : Launch) (Z : State) (a0 : Array Value) (hw : ∀ d ∈ tables_1, d.before a0 Z = true) (ws : List Jvm.Cond) (vb : Addr) (i : Int32) (ch : Int32) (M : Nat) (g : Nat → Int32) (j : Nat) (k_vb : ClassId) (h0 : Heap) (n0 : Nat) (O0 : Old Z n0 h0) (V_vb : Arf Z h0 vb k_vb .byte M (fun x => (.int (g x)))) (S__assertionsDisabled : Sta Z Z.heap "java/lang/StringUTF16" "$assertionsDisabled" "Z" (.int (1 : Int32))) (S_HI_BYTE_SHIFT : Sta Z Z.heap "java/lang/StringUTF16" "HI_BYTE_SHIFT" "I" (.int (0 : Int32))) (S_LO_BYTE_SHIFT : Sta Z Z.heap "java/lang/StringUTF16" "LO_BYTE_SHIFT" "I" (.int (8 : Int32))) (ge_vb : n0 ≤ vb) (hi : i.toInt = (j : Int)) (hj : 2 * j + 1 < M) (hM : M ≤ 20) :
    MetFree l (⟨"java/lang/StringUTF16", "putChar", "([BII)V"⟩ : MethodName) (head1 (Jvm.Cond.code (⟨"java/lang/StringUTF16", "putChar", "([BII)V"⟩ : MethodName) jdk_52_method_4_code 3 none :: ws) ({ frames := 0, cells := 0, slots := 0, locals := 0 } : Room)) (fun args_ U => args_ = #[(.ref vb), (.int i), (.int ch)] ∧ Z.Warmed39 U.vm ∧ U.heap = h0) (fun _ _ _ _ _ => True) (fun _ U out_ U' => ∃ val_ loc_, out_ = .returned val_ ∧ (Q_rm_put Z vb i ch M g j k_vb h0 n0) val_ U'.heap loc_ ∧ FrameEnd U out_ U' loc_ ({ frames := 0, cells := 0, slots := 0, locals := 0 } : Room).cells ({ frames := 0, cells := 0, slots := 0, locals := 0 } : Room).slots) := by
  refine start (Q := (Q_rm_put Z vb i ch M g j k_vb h0 n0)) pn_2 ?_
  intro p e s m below meth c T0 X0 hx hby hml hown hnm hret hlk hZ e0
  replace hown : s.vm.findClass "java/lang/StringUTF16" = some m.cls := hown
  replace hml : c.maxLocals = 3 := hml
  refine goAt (ef_rm_put m vb i ch ) ?_
  have N0 := Fr.nil n0
  show Go p e below T0 (mkF m 0 #[.val (.ref vb), .val (.int i), .val (.int ch)] []) _
  obtain ⟨T1, X1, e1, st1⟩ := getS2 X0 hx hZ hown (host := "") (Or.inl (hw _ (List.mem_of_getElem? (i := 93) rfl))) Via.refl e0 (S__assertionsDisabled.ext O0.2) (g := (mkF m 0 #[.val (.ref vb), .val (.int i), .val (.int ch)] [])) rfl (hb hby d22_0)
  refine stp st1 ?_
  show Go p e below T1 (mkF m 3 #[.val (.ref vb), .val (.int i), .val (.int ch)] [(.int (1 : Int32))]) _
  refine stp (fun _ => XS.ifYes X1.here hx rfl (pc0 := 3) (pc' := 28) rfl (hb hby d22_3) rfl (by decide) (by decide) (by decide)) ?_
  show Go p e below T1 (mkF m 28 #[.val (.ref vb), .val (.int i), .val (.int ch)] []) _
  refine stp (fun _ => XS.iloadN X1.here hx rfl (hb hby d22_28) rfl) ?_
  show Go p e below T1 (mkF m 29 #[.val (.ref vb), .val (.int i), .val (.int ch)] [(.int i)]) _
  refine stp (fun _ => XS.iconst X1.here hx rfl (hb hby d22_29)) ?_
  show Go p e below T1 (mkF m 30 #[.val (.ref vb), .val (.int i), .val (.int ch)] [(.int (1 : Int32)), (.int i)]) _
  refine stp (fun _ => XS.ishl X1.here hx rfl (hb hby d22_30) rfl) ?_
  show Go p e below T1 (mkF m 31 #[.val (.ref vb), .val (.int i), .val (.int ch)] [(.int (i <<< ((1 : Int32) &&& 31)))]) _
  refine stp (fun _ => XS.istoreN X1.here hx rfl (hb hby d22_31) rfl (l' := #[.val (.ref vb), .val (.int (i <<< ((1 : Int32) &&& 31))), .val (.int ch)]) rfl) ?_
  show Go p e below T1 (mkF m 32 #[.val (.ref vb), .val (.int (i <<< ((1 : Int32) &&& 31))), .val (.int ch)] []) _
  refine stp (fun _ => XS.aloadN X1.here hx rfl (hb hby d22_32) rfl rfl) ?_
  show Go p e below T1 (mkF m 33 #[.val (.ref vb), .val (.int (i <<< ((1 : Int32) &&& 31))), .val (.int ch)] [(.ref vb)]) _
  refine stp (fun _ => XS.iloadN X1.here hx rfl (hb hby d22_33) rfl) ?_
  show Go p e below T1 (mkF m 34 #[.val (.ref vb), .val (.int (i <<< ((1 : Int32) &&& 31))), .val (.int ch)] [(.int (i <<< ((1 : Int32) &&& 31))), (.ref vb)]) _
  refine stp (fun _ => XS.iinc X1.here hx rfl (hb hby d22_34) rfl (l' := #[.val (.ref vb), .val (.int ((i <<< ((1 : Int32) &&& 31)) + (1 : Int32))), .val (.int ch)]) rfl) ?_
  show Go p e below T1 (mkF m 37 #[.val (.ref vb), .val (.int ((i <<< ((1 : Int32) &&& 31)) + (1 : Int32))), .val (.int ch)] [(.int (i <<< ((1 : Int32) &&& 31))), (.ref vb)]) _
  refine stp (fun _ => XS.iloadN X1.here hx rfl (hb hby d22_37) rfl) ?_
  show Go p e below T1 (mkF m 38 #[.val (.ref vb), .val (.int ((i <<< ((1 : Int32) &&& 31)) + (1 : Int32))), .val (.int ch)] [(.int ch), (.int (i <<< ((1 : Int32) &&& 31))), (.ref vb)]) _
  obtain ⟨T2, X2, e2, st2⟩ := getS2 X1 hx hZ hown (host := "") (Or.inl (hw _ (List.mem_of_getElem? (i := 94) rfl))) Via.refl e1 (S_HI_BYTE_SHIFT.ext O0.2) (g := (mkF m 38 #[.val (.ref vb), .val (.int ((i <<< ((1 : Int32) &&& 31)) + (1 : Int32))), .val (.int ch)] [(.int ch), (.int (i <<< ((1 : Int32) &&& 31))), (.ref vb)])) rfl (hb hby d22_38)
  refine stp st2 ?_
  show Go p e below T2 (mkF m 41 #[.val (.ref vb), .val (.int ((i <<< ((1 : Int32) &&& 31)) + (1 : Int32))), .val (.int ch)] [(.int (0 : Int32)), (.int ch), (.int (i <<< ((1 : Int32) &&& 31))), (.ref vb)]) _
  refine stp (fun _ => XS.ishr X2.here hx rfl (hb hby d22_41) rfl) ?_
  show Go p e below T2 (mkF m 42 #[.val (.ref vb), .val (.int ((i <<< ((1 : Int32) &&& 31)) + (1 : Int32))), .val (.int ch)] [(.int (ch >>> ((0 : Int32) &&& 31))), (.int (i <<< ((1 : Int32) &&& 31))), (.ref vb)]) _
  refine stp (fun _ => XS.i2b X2.here hx rfl (hb hby d22_42) rfl) ?_
  show Go p e below T2 (mkF m 43 #[.val (.ref vb), .val (.int ((i <<< ((1 : Int32) &&& 31)) + (1 : Int32))), .val (.int ch)] [(.int ((ch >>> ((0 : Int32) &&& 31)).toInt8.toInt32)), (.int (i <<< ((1 : Int32) &&& 31))), (.ref vb)]) _
  obtain ⟨cl3, Ar3, q3, S3, H3, G3⟩ := (id V_vb)
  have in3 : ¬ ((i <<< ((1 : Int32) &&& 31)) < 0 ∨ cl3.slots.size ≤ ((i <<< ((1 : Int32) &&& 31))).toNatClampNeg) := arf_in S3 (own_shlI hi (by omega)) (by omega)
  obtain ⟨T3, h3, X3, e3, W3, st3⟩ := stB X2 hx hZ e2 Ar3 (j := (i <<< ((1 : Int32) &&& 31))) in3 (g := (mkF m 43 #[.val (.ref vb), .val (.int ((i <<< ((1 : Int32) &&& 31)) + (1 : Int32))), .val (.int ch)] [(.int ((ch >>> ((0 : Int32) &&& 31)).toInt8.toInt32)), (.int (i <<< ((1 : Int32) &&& 31))), (.ref vb)])) rfl rfl (hb hby d22_43)
  have V3 := Arf.set Ar3 q3 S3 H3 G3 (ow_fits_byte byte_twice) (arf_ix (own_shlI hi (by omega)) ▸ (ow_wr_byte byte_twice W3)) (by omega)
  have K3 : Keep h0 h3 [vb] := (Keep.refl h0 [vb]).wr W3 (Or.inl (List.mem_of_getElem? (i := 0) rfl))
  have O3 := O0.wr W3 ge_vb
  have N3 := Fr.snoc X3 N0 ge_vb
  refine stp st3 ?_
  show Go p e below T3 (mkF m 44 #[.val (.ref vb), .val (.int ((i <<< ((1 : Int32) &&& 31)) + (1 : Int32))), .val (.int ch)] []) _
  refine stp (fun _ => XS.aloadN X3.here hx rfl (hb hby d22_44) rfl rfl) ?_
  show Go p e below T3 (mkF m 45 #[.val (.ref vb), .val (.int ((i <<< ((1 : Int32) &&& 31)) + (1 : Int32))), .val (.int ch)] [(.ref vb)]) _
  refine stp (fun _ => XS.iloadN X3.here hx rfl (hb hby d22_45) rfl) ?_
  show Go p e below T3 (mkF m 46 #[.val (.ref vb), .val (.int ((i <<< ((1 : Int32) &&& 31)) + (1 : Int32))), .val (.int ch)] [(.int ((i <<< ((1 : Int32) &&& 31)) + (1 : Int32))), (.ref vb)]) _
  refine stp (fun _ => XS.iloadN X3.here hx rfl (hb hby d22_46) rfl) ?_
  show Go p e below T3 (mkF m 47 #[.val (.ref vb), .val (.int ((i <<< ((1 : Int32) &&& 31)) + (1 : Int32))), .val (.int ch)] [(.int ch), (.int ((i <<< ((1 : Int32) &&& 31)) + (1 : Int32))), (.ref vb)]) _
  obtain ⟨T5, X5, e5, st5⟩ := getS2 X3 hx hZ hown (host := "") (Or.inl (hw _ (List.mem_of_getElem? (i := 95) rfl))) Via.refl e3 (S_LO_BYTE_SHIFT.ext O3.2) (g := (mkF m 47 #[.val (.ref vb), .val (.int ((i <<< ((1 : Int32) &&& 31)) + (1 : Int32))), .val (.int ch)] [(.int ch), (.int ((i <<< ((1 : Int32) &&& 31)) + (1 : Int32))), (.ref vb)])) rfl (hb hby d22_47)
  refine stp st5 ?_
  show Go p e below T5 (mkF m 50 #[.val (.ref vb), .val (.int ((i <<< ((1 : Int32) &&& 31)) + (1 : Int32))), .val (.int ch)] [(.int (8 : Int32)), (.int ch), (.int ((i <<< ((1 : Int32) &&& 31)) + (1 : Int32))), (.ref vb)]) _
  refine stp (fun _ => XS.ishr X5.here hx rfl (hb hby d22_50) rfl) ?_
  show Go p e below T5 (mkF m 51 #[.val (.ref vb), .val (.int ((i <<< ((1 : Int32) &&& 31)) + (1 : Int32))), .val (.int ch)] [(.int (ch >>> ((8 : Int32) &&& 31))), (.int ((i <<< ((1 : Int32) &&& 31)) + (1 : Int32))), (.ref vb)]) _
  refine stp (fun _ => XS.i2b X5.here hx rfl (hb hby d22_51) rfl) ?_
  show Go p e below T5 (mkF m 52 #[.val (.ref vb), .val (.int ((i <<< ((1 : Int32) &&& 31)) + (1 : Int32))), .val (.int ch)] [(.int ((ch >>> ((8 : Int32) &&& 31)).toInt8.toInt32)), (.int ((i <<< ((1 : Int32) &&& 31)) + (1 : Int32))), (.ref vb)]) _
  obtain ⟨cl6, Ar6, q6, S6, H6, G6⟩ := (id V3)
  have in6 : ¬ (((i <<< ((1 : Int32) &&& 31)) + (1 : Int32)) < 0 ∨ cl6.slots.size ≤ (((i <<< ((1 : Int32) &&& 31)) + (1 : Int32))).toNatClampNeg) := arf_in S6 (own_incI (own_shlI hi (by omega)) (by omega)) hj
  obtain ⟨T6, h6, X6, e6, W6, st6⟩ := stB X5 hx hZ e5 Ar6 (j := ((i <<< ((1 : Int32) &&& 31)) + (1 : Int32))) in6 (g := (mkF m 52 #[.val (.ref vb), .val (.int ((i <<< ((1 : Int32) &&& 31)) + (1 : Int32))), .val (.int ch)] [(.int ((ch >>> ((8 : Int32) &&& 31)).toInt8.toInt32)), (.int ((i <<< ((1 : Int32) &&& 31)) + (1 : Int32))), (.ref vb)])) rfl rfl (hb hby d22_52)
  have V6 := Arf.set Ar6 q6 S6 H6 G6 (ow_fits_byte byte_twice) (arf_ix (own_incI (own_shlI hi (by omega)) (by omega)) ▸ (ow_wr_byte byte_twice W6)) hj
  replace V6 : Arf Z h6 vb k_vb .byte M (fun x => (.int (own_put g j ch x))) := V6.congr (fun x _ => own_put_eq g j ch x)
  have K6 : Keep h0 h6 [vb] := K3.wr W6 (Or.inl (List.mem_of_getElem? (i := 0) rfl))
  have O6 := O3.wr W6 ge_vb
  have N6 := Fr.snoc X6 N3 ge_vb
  refine stp st6 ?_
  show Go p e below T6 (mkF m 53 #[.val (.ref vb), .val (.int ((i <<< ((1 : Int32) &&& 31)) + (1 : Int32))), .val (.int ch)] []) _
  refine outV X6 hx hret (hb hby d22_53) hlk (by decide) (by decide) ?_
  rw [e6]
  exact ⟨rfl, N6, K6, V6⟩
theorem d19_0 : decode jdk_52_method_14_code 0 = .ok (.iload_n 2, 1) := by decide +kernel
theorem d19_1 : decode jdk_52_method_14_code 1 = .ok (.invokestatic 107, 3) := by decide +kernel
theorem pd_1 : parseMethodDescriptor "(I)[B" = some ⟨[.int], some (.array .byte)⟩ := by decide +kernel
theorem d19_4 : decode jdk_52_method_14_code 4 = .ok (.astore_n 3, 1) := by decide +kernel
theorem d19_5 : decode jdk_52_method_14_code 5 = .ok (.iconst 0, 1) := by decide +kernel
theorem d19_6 : decode jdk_52_method_14_code 6 = .ok (.istore 4, 2) := by decide +kernel
theorem d19_8 : decode jdk_52_method_14_code 8 = .ok (.iload 4, 2) := by decide +kernel
theorem d19_10 : decode jdk_52_method_14_code 10 = .ok (.iload_n 2, 1) := by decide +kernel
theorem d19_11 : decode jdk_52_method_14_code 11 = .ok (.if_icmp .ge 21, 3) := by decide +kernel
theorem d19_32 : decode jdk_52_method_14_code 32 = .ok (.aload_n 3, 1) := by decide +kernel
theorem d19_33 : decode jdk_52_method_14_code 33 = .ok (.areturn, 1) := by decide +kernel
theorem d19_14 : decode jdk_52_method_14_code 14 = .ok (.aload_n 3, 1) := by decide +kernel
theorem d19_15 : decode jdk_52_method_14_code 15 = .ok (.iload 4, 2) := by decide +kernel
theorem d19_17 : decode jdk_52_method_14_code 17 = .ok (.aload_n 0, 1) := by decide +kernel
theorem d19_18 : decode jdk_52_method_14_code 18 = .ok (.iload_n 1, 1) := by decide +kernel
theorem d19_19 : decode jdk_52_method_14_code 19 = .ok (.caload, 1) := by decide +kernel
theorem d19_20 : decode jdk_52_method_14_code 20 = .ok (.invokestatic 111, 3) := by decide +kernel
theorem pd_2 : parseMethodDescriptor "([BII)V" = some ⟨[(.array .byte), .int, .int], none⟩ := by decide +kernel
theorem d19_23 : decode jdk_52_method_14_code 23 = .ok (.iinc 1 1, 3) := by decide +kernel
theorem d19_26 : decode jdk_52_method_14_code 26 = .ok (.iinc 4 1, 3) := by decide +kernel
theorem d19_29 : decode jdk_52_method_14_code 29 = .ok (.goto (-21), 3) := by decide +kernel
theorem ef_rm_utb (m : MethodId) (ca : Addr) (n : Int32)  : entryFrame m #[(.ref ca), (.int (0 : Int32)), (.int n)] 5 = mkF m 0 #[.val (.ref ca), .val (.int (0 : Int32)), .val (.int n), .unset, .unset] [] := by first | (simp [entryFrame, mkF, argsToLocals, Value.category]; done) | rfl
def Q_rm_utb (Z : State) (ca : Addr) (n : Int32) (cs : List Int32) (k_ca : ClassId) (h0 : Heap) (n0 : Nat) (v : Option Value) (h : Heap) (L : List Loc) : Prop := ∃ (r : Addr) (k_r : ClassId), v = some (.ref r) ∧ Fr n0 L ∧ Keep h0 h [] ∧ (n0 ≤ r ∧ h0.size ≤ r) ∧ Exa Z h r "[B" ∧ Arf Z h r k_r .byte (2 * cs.length) (fun x => (.int (own_ub cs x)))
theorem pn_3_ : plainName "java/lang/StringUTF16" = true := by first | (simp [plainName, overriddenIn]; done) | decide +kernel
theorem pn_3 : plainFor (⟨"java/lang/StringUTF16", "toBytes", "([CII)[B"⟩ : MethodName) = true := plainFor_of_name pn_3_
set_option maxRecDepth 65536 in
set_option maxHeartbeats 40000000 in
theorem rm_utb (l : Launch) (Z : State) (a0 : Array Value) (hw : ∀ d ∈ tables_1, d.before a0 Z = true) (ws : List Jvm.Cond) (ca : Addr) (n : Int32) (cs : List Int32) (k_ca : ClassId) (h0 : Heap) (n0 : Nat) (O0 : Old Z n0 h0) (V_ca : Arf Z h0 ca k_ca .char cs.length (fun i => (.int (own_at cs i)))) (S__assertionsDisabled : Sta Z Z.heap "java/lang/StringUTF16" "$assertionsDisabled" "Z" (.int (1 : Int32))) (S_HI_BYTE_SHIFT : Sta Z Z.heap "java/lang/StringUTF16" "HI_BYTE_SHIFT" "I" (.int (0 : Int32))) (S_LO_BYTE_SHIFT : Sta Z Z.heap "java/lang/StringUTF16" "LO_BYTE_SHIFT" "I" (.int (8 : Int32))) (hN : n.toInt = (cs.length : Int)) (hN1 : cs.length ≤ 10) :
    MetFree l (⟨"java/lang/StringUTF16", "toBytes", "([CII)[B"⟩ : MethodName) (head1 (Jvm.Cond.code (⟨"java/lang/StringUTF16", "toBytes", "([CII)[B"⟩ : MethodName) jdk_52_method_14_code 5 (some (.array .byte)) :: ws) ({ frames := 2, cells := 1, slots := 20, locals := 24 } : Room)) (fun args_ U => args_ = #[(.ref ca), (.int (0 : Int32)), (.int n)] ∧ Z.Warmed39 U.vm ∧ U.heap = h0) (fun _ _ _ _ _ => True) (fun _ U out_ U' => ∃ val_ loc_, out_ = .returned val_ ∧ (Q_rm_utb Z ca n cs k_ca h0 n0) val_ U'.heap loc_ ∧ FrameEnd U out_ U' loc_ ({ frames := 2, cells := 1, slots := 20, locals := 24 } : Room).cells ({ frames := 2, cells := 1, slots := 20, locals := 24 } : Room).slots) := by
  refine start (Q := (Q_rm_utb Z ca n cs k_ca h0 n0)) pn_3 ?_
  intro p e s m below meth c T0 X0 hx hby hml hown hnm hret hlk hZ e0
  replace hown : s.vm.findClass "java/lang/StringUTF16" = some m.cls := hown
  replace hml : c.maxLocals = 5 := hml
  refine goAt (ef_rm_utb m ca n ) ?_
  have N0 := Fr.nil n0
  show Go p e below T0 (mkF m 0 #[.val (.ref ca), .val (.int (0 : Int32)), .val (.int n), .unset, .unset] []) _
  refine stp (fun _ => XS.iloadN X0.here hx rfl (hb hby d19_0) rfl) ?_
  show Go p e below T0 (mkF m 1 #[.val (.ref ca), .val (.int (0 : Int32)), .val (.int n), .unset, .unset] [(.int n)]) _
  obtain ⟨_, _, ⟨T1, L1, k1, n1⟩, -, X1, ⟨Lc1, hQ1, l1, y1, z1⟩, st1⟩ := Jvm.LawKit.callS X0 hx (y := (⟨"java/lang/StringUTF16", "newBytesFor", "(I)[B"⟩ : MethodName)) hown (mvT hZ (hw _ (List.mem_of_getElem? (i := 83) rfl))) (mvT hZ (hw _ (List.mem_of_getElem? (i := 84) rfl))) (mvT hZ (hw _ (List.mem_of_getElem? (i := 31) rfl))) (mvT hZ (hw _ (List.mem_of_getElem? (i := 85) rfl))) (by decide) (backOf (W := 0) (rm_nbf l Z a0 hw [] n cs h0 n0 O0 hN hN1) hZ (hw _ (List.mem_of_getElem? (i := 85) rfl)) (hw _ (List.mem_of_getElem? (i := 31) rfl)) (by decide) (by decide)) (g := (mkF m 1 #[.val (.ref ca), .val (.int (0 : Int32)), .val (.int n), .unset, .unset] [(.int n)])) rfl (by rw [hml]; rfl) (argsL := [(.int n)]) (rest := []) (lenOf pd_1 rfl) rfl (by show 2 * 0 + _ ≤ _; exact Nat.le_of_eq rfl) (hb hby d19_1) (fun _ _ => ⟨rfl, e0, (by decide : 0 + 1 ≤ _), (by decide : 0 + 20 ≤ _)⟩)
  dsimp only [Pt.U, Pt.locs, Pt.cells, Pt.slots] at X1 l1 y1 z1 st1 hQ1
  subst y1 z1
  obtain ⟨r1, k_r1, rfl, N1q, K1q, ⟨ge_r1, sz1_r1⟩, r1_0, r1_1⟩ := hQ1
  have N1 : Fr n0 L1 := by rw [l1]; exact Fr.app N0 N1q
  have ne2 : ca ≠ r1 := Nat.ne_of_lt (Nat.lt_of_lt_of_le V_ca.lt sz1_r1)
  have f3 := V_ca.keep K1q nin0
  have sz_r1 : h0.size ≤ r1 := Nat.le_trans (Keep.refl h0 []).1 sz1_r1
  have K1 : Keep h0 T1.heap [] := (Keep.refl h0 []).trans K1q all0
  have O1 := O0.keep K1q all0
  refine stp st1 ?_
  show Go p e below T1 (mkF m 4 #[.val (.ref ca), .val (.int (0 : Int32)), .val (.int n), .unset, .unset] [(.ref r1)]) _
  refine stp (fun _ => XS.astoreN X1.here hx rfl (hb hby d19_4) rfl rfl (l' := #[.val (.ref ca), .val (.int (0 : Int32)), .val (.int n), .val (.ref r1), .unset]) rfl) ?_
  show Go p e below T1 (mkF m 5 #[.val (.ref ca), .val (.int (0 : Int32)), .val (.int n), .val (.ref r1), .unset] []) _
  refine stp (fun _ => XS.iconst X1.here hx rfl (hb hby d19_5)) ?_
  show Go p e below T1 (mkF m 6 #[.val (.ref ca), .val (.int (0 : Int32)), .val (.int n), .val (.ref r1), .unset] [(.int (0 : Int32))]) _
  refine stp (fun _ => XS.istore X1.here hx rfl (hb hby d19_6) rfl (l' := #[.val (.ref ca), .val (.int (0 : Int32)), .val (.int n), .val (.ref r1), .val (.int (0 : Int32))]) rfl) ?_
  show Go p e below T1 (mkF m 8 #[.val (.ref ca), .val (.int (0 : Int32)), .val (.int n), .val (.ref r1), .val (.int (0 : Int32))] []) _
  have G0 : Arf Z T1.heap r1 k_r1 .byte (2 * cs.length) (fun x => (.int (own_ubj cs 0 x))) := r1_1.congr (fun x _ => congrArg Value.int (own_ubj0 cs x))
  have loop8 : ∀ (d : Nat), ∀ (j : Nat) (i1 : Int32) (i4 : Int32), j + d = cs.length → ∀ (T : State) (locs : List Loc) (hA : Heap) (X : Stand p l e ({ frames := 2, cells := 1, slots := 20, locals := 24 } : Room) s m #[(.ref ca), (.int (0 : Int32)), (.int n)] below meth c T locs 1 20) (eA : T.heap = hA) (NA : Fr n0 locs) (OA : Old Z n0 hA) (KA : Keep h0 hA []) (FA0 : Arf Z hA ca k_ca .char cs.length (fun i => (.int (own_at cs i)))) (FA1 : Arf Z hA r1 k_r1 .byte (2 * cs.length) (fun x => (.int (own_ubj cs j x)))) (FA2 : Exa Z hA r1 "[B"), i1.toInt = (j : Int) → i4.toInt = (j : Int) → Go p e below T (mkF m 8 #[.val (.ref ca), .val (.int i1), .val (.int n), .val (.ref r1), .val (.int i4)] []) (Po s (Q_rm_utb Z ca n cs k_ca h0 n0) ({ frames := 2, cells := 1, slots := 20, locals := 24 } : Room).cells ({ frames := 2, cells := 1, slots := 20, locals := 24 } : Room).slots) := by
    intro d
    induction d with
    | zero =>
      intro j i1 i4 hd_ T locs hA X eA NA OA KA FA0 FA1 FA2 hi1 hi4
      have hjN : j = cs.length := hd_
      show Go p e below T (mkF m 8 #[.val (.ref ca), .val (.int i1), .val (.int n), .val (.ref r1), .val (.int i4)] []) _
      refine stp (fun _ => XS.iload X.here hx rfl (hb hby d19_8) rfl) ?_
      show Go p e below T (mkF m 10 #[.val (.ref ca), .val (.int i1), .val (.int n), .val (.ref r1), .val (.int i4)] [(.int i4)]) _
      refine stp (fun _ => XS.iloadN X.here hx rfl (hb hby d19_10) rfl) ?_
      show Go p e below T (mkF m 11 #[.val (.ref ca), .val (.int i1), .val (.int n), .val (.ref r1), .val (.int i4)] [(.int n), (.int i4)]) _
      refine stp (fun _ => XS.icmpYes X.here hx rfl (pc0 := 11) (pc' := 32) rfl (hb hby d19_11) rfl (XT.ii_ge_t (own_geI hi4 hN (by omega))) (by decide) (by decide)) ?_
      show Go p e below T (mkF m 32 #[.val (.ref ca), .val (.int i1), .val (.int n), .val (.ref r1), .val (.int i4)] []) _
      have G2 : Arf Z hA r1 k_r1 .byte (2 * cs.length) (fun x => (.int (own_ub cs x))) := FA1.congr (fun x hx_ => congrArg Value.int (by rw [hjN]; exact own_ubjN hx_))
      refine stp (fun _ => XS.aloadN X.here hx rfl (hb hby d19_32) rfl rfl) ?_
      show Go p e below T (mkF m 33 #[.val (.ref ca), .val (.int i1), .val (.int n), .val (.ref r1), .val (.int i4)] [(.ref r1)]) _
      refine outA X hx hret rfl rfl (hb hby d19_33) hlk (by decide) (by decide) ?_
      rw [eA]
      exact ⟨r1, k_r1, rfl, NA, KA, ⟨ge_r1, sz_r1⟩, FA2, G2⟩
    | succ d ih =>
      intro j i1 i4 hd_ T locs hA X eA NA OA KA FA0 FA1 FA2 hi1 hi4
      have hjl : j < cs.length := by omega
      show Go p e below T (mkF m 8 #[.val (.ref ca), .val (.int i1), .val (.int n), .val (.ref r1), .val (.int i4)] []) _
      refine stp (fun _ => XS.iload X.here hx rfl (hb hby d19_8) rfl) ?_
      show Go p e below T (mkF m 10 #[.val (.ref ca), .val (.int i1), .val (.int n), .val (.ref r1), .val (.int i4)] [(.int i4)]) _
      refine stp (fun _ => XS.iloadN X.here hx rfl (hb hby d19_10) rfl) ?_
      show Go p e below T (mkF m 11 #[.val (.ref ca), .val (.int i1), .val (.int n), .val (.ref r1), .val (.int i4)] [(.int n), (.int i4)]) _
      refine stp (fun _ => XS.icmpNo X.here hx rfl (hb hby d19_11) rfl (XT.ii_ge_f (own_ltI hi4 hN hjl))) ?_
      show Go p e below T (mkF m 14 #[.val (.ref ca), .val (.int i1), .val (.int n), .val (.ref r1), .val (.int i4)] []) _
      refine stp (fun _ => XS.aloadN X.here hx rfl (hb hby d19_14) rfl rfl) ?_
      show Go p e below T (mkF m 15 #[.val (.ref ca), .val (.int i1), .val (.int n), .val (.ref r1), .val (.int i4)] [(.ref r1)]) _
      refine stp (fun _ => XS.iload X.here hx rfl (hb hby d19_15) rfl) ?_
      show Go p e below T (mkF m 17 #[.val (.ref ca), .val (.int i1), .val (.int n), .val (.ref r1), .val (.int i4)] [(.int i4), (.ref r1)]) _
      refine stp (fun _ => XS.aloadN X.here hx rfl (hb hby d19_17) rfl rfl) ?_
      show Go p e below T (mkF m 18 #[.val (.ref ca), .val (.int i1), .val (.int n), .val (.ref r1), .val (.int i4)] [(.ref ca), (.int i4), (.ref r1)]) _
      refine stp (fun _ => XS.iloadN X.here hx rfl (hb hby d19_18) rfl) ?_
      show Go p e below T (mkF m 19 #[.val (.ref ca), .val (.int i1), .val (.int n), .val (.ref r1), .val (.int i4)] [(.int i1), (.ref ca), (.int i4), (.ref r1)]) _
      obtain ⟨cl4, Ar4, q4, S4, H4, G4⟩ := (id FA0)
      have in4 : ¬ (i1 < 0 ∨ cl4.slots.size ≤ (i1).toNatClampNeg) := arf_in S4 hi1 hjl
      have at4 : cl4.slots[(i1).toNatClampNeg]? = some (.int (own_at cs j)) := arf_at H4 hi1 hjl
      refine stp (fun _ => X.caload hx (j := i1) (v := (.int (own_at cs j))) (by rw [eA]; exact Ar4.1) (State.isArrayOf_alike hZ.alike Ar4.2.1) Ar4.2.2 in4 at4 (g := (mkF m 19 #[.val (.ref ca), .val (.int i1), .val (.int n), .val (.ref r1), .val (.int i4)] [(.int i1), (.ref ca), (.int i4), (.ref r1)])) rfl rfl (hb hby d19_19) _) ?_
      show Go p e below T (mkF m 20 #[.val (.ref ca), .val (.int i1), .val (.int n), .val (.ref r1), .val (.int i4)] [(.int (own_at cs j)), (.int i4), (.ref r1)]) _
      obtain ⟨_, _, ⟨T5, L5, k5, n5⟩, -, X5, ⟨Lc5, hQ5, l5, y5, z5⟩, st5⟩ := Jvm.LawKit.callS X hx (y := (⟨"java/lang/StringUTF16", "putChar", "([BII)V"⟩ : MethodName)) hown (mvT hZ (hw _ (List.mem_of_getElem? (i := 90) rfl))) (mvT hZ (hw _ (List.mem_of_getElem? (i := 91) rfl))) (mvT hZ (hw _ (List.mem_of_getElem? (i := 31) rfl))) (mvT hZ (hw _ (List.mem_of_getElem? (i := 92) rfl))) (by decide) (backOf (W := 0) (rm_put l Z a0 hw [] r1 i4 (own_at cs j) (2 * cs.length) (own_ubj cs j) j k_r1 hA n0 OA FA1 S__assertionsDisabled S_HI_BYTE_SHIFT S_LO_BYTE_SHIFT ge_r1 hi4 (by omega) (by omega)) hZ (hw _ (List.mem_of_getElem? (i := 92) rfl)) (hw _ (List.mem_of_getElem? (i := 31) rfl)) (by decide) (by decide)) (g := (mkF m 20 #[.val (.ref ca), .val (.int i1), .val (.int n), .val (.ref r1), .val (.int i4)] [(.int (own_at cs j)), (.int i4), (.ref r1)])) rfl (by rw [hml]; rfl) (argsL := [(.ref r1), (.int i4), (.int (own_at cs j))]) (rest := []) (lenOf pd_2 rfl) rfl (by show 2 * 0 + _ ≤ _; exact Nat.le_of_eq rfl) (hb hby d19_20) (fun _ _ => ⟨rfl, eA, (by decide : 1 + 0 ≤ _), (by decide : 20 + 0 ≤ _)⟩)
      dsimp only [Pt.U, Pt.locs, Pt.cells, Pt.slots] at X5 l5 y5 z5 st5 hQ5
      subst y5 z5
      obtain ⟨rfl, N5q, K5q, r5_0⟩ := hQ5
      have N5 : Fr n0 L5 := by rw [l5]; exact Fr.app NA N5q
      have f6 := FA0.keep K5q (ninS ne2 nin0)
      have f7 := FA2.keep K5q
      have K5 : Keep h0 T5.heap [] := KA.trans K5q (allS (Or.inr sz_r1) all0)
      have O5 := OA.keep K5q (allS ge_r1 all0)
      refine stp st5 ?_
      show Go p e below T5 (mkF m 23 #[.val (.ref ca), .val (.int i1), .val (.int n), .val (.ref r1), .val (.int i4)] []) _
      refine stp (fun _ => XS.iinc X5.here hx rfl (hb hby d19_23) rfl (l' := #[.val (.ref ca), .val (.int (i1 + (1 : Int32))), .val (.int n), .val (.ref r1), .val (.int i4)]) rfl) ?_
      show Go p e below T5 (mkF m 26 #[.val (.ref ca), .val (.int (i1 + (1 : Int32))), .val (.int n), .val (.ref r1), .val (.int i4)] []) _
      refine stp (fun _ => XS.iinc X5.here hx rfl (hb hby d19_26) rfl (l' := #[.val (.ref ca), .val (.int (i1 + (1 : Int32))), .val (.int n), .val (.ref r1), .val (.int (i4 + (1 : Int32)))]) rfl) ?_
      show Go p e below T5 (mkF m 29 #[.val (.ref ca), .val (.int (i1 + (1 : Int32))), .val (.int n), .val (.ref r1), .val (.int (i4 + (1 : Int32)))] []) _
      refine stp (fun _ => XS.goto X5.here hx rfl (pc0 := 29) (pc' := 8) rfl (hb hby d19_29) (by decide) (by decide)) ?_
      show Go p e below T5 (mkF m 8 #[.val (.ref ca), .val (.int (i1 + (1 : Int32))), .val (.int n), .val (.ref r1), .val (.int (i4 + (1 : Int32)))] []) _
      have G1 : Arf Z T5.heap r1 k_r1 .byte (2 * cs.length) (fun x => (.int (own_ubj cs (j + 1) x))) := r5_0.congr (fun x _ => congrArg Value.int (own_ubjS cs j x))
      exact ih (j + 1) (i1 + (1 : Int32)) (i4 + (1 : Int32)) (by omega) T5 _ T5.heap X5 rfl N5 O5 K5 f6 G1 f7 (own_incI hi1 (by omega)) (own_incI hi4 (by omega))
  exact loop8 _ 0 (0 : Int32) (0 : Int32) (Nat.zero_add _) T1 _ T1.heap X1 rfl N1 O1 K1 f3 G0 r1_0 rfl rfl
theorem d9_0 : decode jdk_52_method_21_code 0 = .ok (.iconst 0, 1) := by decide +kernel
theorem d9_1 : decode jdk_52_method_21_code 1 = .ok (.istore 5, 2) := by decide +kernel
theorem d9_3 : decode jdk_52_method_21_code 3 = .ok (.iload 5, 2) := by decide +kernel
theorem d9_5 : decode jdk_52_method_21_code 5 = .ok (.iload 4, 2) := by decide +kernel
theorem d9_7 : decode jdk_52_method_21_code 7 = .ok (.if_icmp .ge 37, 3) := by decide +kernel
theorem d9_10 : decode jdk_52_method_21_code 10 = .ok (.aload_n 0, 1) := by decide +kernel
theorem d9_11 : decode jdk_52_method_21_code 11 = .ok (.iload_n 1, 1) := by decide +kernel
theorem d9_12 : decode jdk_52_method_21_code 12 = .ok (.caload, 1) := by decide +kernel
theorem d9_13 : decode jdk_52_method_21_code 13 = .ok (.istore 6, 2) := by decide +kernel
theorem d9_15 : decode jdk_52_method_21_code 15 = .ok (.iload 6, 2) := by decide +kernel
theorem d9_17 : decode jdk_52_method_21_code 17 = .ok (.sipush 255, 3) := by decide +kernel
theorem d9_20 : decode jdk_52_method_21_code 20 = .ok (.if_icmp .le 6, 3) := by decide +kernel
theorem d9_23 : decode jdk_52_method_21_code 23 = .ok (.iload 5, 2) := by decide +kernel
theorem d9_25 : decode jdk_52_method_21_code 25 = .ok (.ireturn, 1) := by decide +kernel
theorem d9_26 : decode jdk_52_method_21_code 26 = .ok (.aload_n 2, 1) := by decide +kernel
theorem d9_27 : decode jdk_52_method_21_code 27 = .ok (.iload_n 3, 1) := by decide +kernel
theorem d9_28 : decode jdk_52_method_21_code 28 = .ok (.iload 6, 2) := by decide +kernel
theorem d9_30 : decode jdk_52_method_21_code 30 = .ok (.i2b, 1) := by decide +kernel
theorem d9_31 : decode jdk_52_method_21_code 31 = .ok (.bastore, 1) := by decide +kernel
theorem d9_32 : decode jdk_52_method_21_code 32 = .ok (.iinc 1 1, 3) := by decide +kernel
theorem d9_35 : decode jdk_52_method_21_code 35 = .ok (.iinc 3 1, 3) := by decide +kernel
theorem d9_38 : decode jdk_52_method_21_code 38 = .ok (.iinc 5 1, 3) := by decide +kernel
theorem d9_41 : decode jdk_52_method_21_code 41 = .ok (.goto (-38), 3) := by decide +kernel
theorem ef_rm_c5 (m : MethodId) (ca : Addr) (vb : Addr) (n : Int32)  : entryFrame m #[(.ref ca), (.int (0 : Int32)), (.ref vb), (.int (0 : Int32)), (.int n)] 7 = mkF m 0 #[.val (.ref ca), .val (.int (0 : Int32)), .val (.ref vb), .val (.int (0 : Int32)), .val (.int n), .unset, .unset] [] := by first | (simp [entryFrame, mkF, argsToLocals, Value.category]; done) | rfl
def Q_rm_c5 (Z : State) (ca : Addr) (vb : Addr) (n : Int32) (cs : List Int32) (g : Nat → Int32) (J : Nat) (k_ca : ClassId) (k_vb : ClassId) (h0 : Heap) (n0 : Nat) (v : Option Value) (h : Heap) (L : List Loc) : Prop := v = some (.int (Int32.ofNat J)) ∧ Fr n0 L ∧ Keep h0 h [vb]
theorem pn_4_ : plainName "java/lang/StringUTF16" = true := by first | (simp [plainName, overriddenIn]; done) | decide +kernel
theorem pn_4 : plainFor (⟨"java/lang/StringUTF16", "compress", "([CI[BII)I"⟩ : MethodName) = true := plainFor_of_name pn_4_
set_option maxRecDepth 65536 in
set_option maxHeartbeats 40000000 in
theorem rm_c5 (l : Launch) (Z : State) (a0 : Array Value) (hw : ∀ d ∈ tables_1, d.before a0 Z = true) (ws : List Jvm.Cond) (ca : Addr) (vb : Addr) (n : Int32) (cs : List Int32) (g : Nat → Int32) (J : Nat) (k_ca : ClassId) (k_vb : ClassId) (h0 : Heap) (n0 : Nat) (O0 : Old Z n0 h0) (V_ca : Arf Z h0 ca k_ca .char cs.length (fun i => (.int (own_at cs i)))) (V_vb : Arf Z h0 vb k_vb .byte cs.length (fun x => (.int (g x)))) (ge_vb : n0 ≤ vb) (ne_ca_vb : ca ≠ vb) (hN : n.toInt = (cs.length : Int)) (hN1 : cs.length ≤ 10) (hJ : J < cs.length) (hgt : (255 : Int32) < own_at cs J) (hle : ∀ i, i < J → ¬ (255 : Int32) < own_at cs i) :
    MetFree l (⟨"java/lang/StringUTF16", "compress", "([CI[BII)I"⟩ : MethodName) (head1 (Jvm.Cond.code (⟨"java/lang/StringUTF16", "compress", "([CI[BII)I"⟩ : MethodName) jdk_52_method_21_code 7 (some .int) :: ws) ({ frames := 0, cells := 0, slots := 0, locals := 0 } : Room)) (fun args_ U => args_ = #[(.ref ca), (.int (0 : Int32)), (.ref vb), (.int (0 : Int32)), (.int n)] ∧ Z.Warmed39 U.vm ∧ U.heap = h0) (fun _ _ _ _ _ => True) (fun _ U out_ U' => ∃ val_ loc_, out_ = .returned val_ ∧ (Q_rm_c5 Z ca vb n cs g J k_ca k_vb h0 n0) val_ U'.heap loc_ ∧ FrameEnd U out_ U' loc_ ({ frames := 0, cells := 0, slots := 0, locals := 0 } : Room).cells ({ frames := 0, cells := 0, slots := 0, locals := 0 } : Room).slots) := by
  refine start (Q := (Q_rm_c5 Z ca vb n cs g J k_ca k_vb h0 n0)) pn_4 ?_
  intro p e s m below meth c T0 X0 hx hby hml hown hnm hret hlk hZ e0
  replace hown : s.vm.findClass "java/lang/StringUTF16" = some m.cls := hown
  replace hml : c.maxLocals = 7 := hml
  refine goAt (ef_rm_c5 m ca vb n ) ?_
  have N0 := Fr.nil n0
  show Go p e below T0 (mkF m 0 #[.val (.ref ca), .val (.int (0 : Int32)), .val (.ref vb), .val (.int (0 : Int32)), .val (.int n), .unset, .unset] []) _
  refine stp (fun _ => XS.iconst X0.here hx rfl (hb hby d9_0)) ?_
  show Go p e below T0 (mkF m 1 #[.val (.ref ca), .val (.int (0 : Int32)), .val (.ref vb), .val (.int (0 : Int32)), .val (.int n), .unset, .unset] [(.int (0 : Int32))]) _
  refine stp (fun _ => XS.istore X0.here hx rfl (hb hby d9_1) rfl (l' := #[.val (.ref ca), .val (.int (0 : Int32)), .val (.ref vb), .val (.int (0 : Int32)), .val (.int n), .val (.int (0 : Int32)), .unset]) rfl) ?_
  show Go p e below T0 (mkF m 3 #[.val (.ref ca), .val (.int (0 : Int32)), .val (.ref vb), .val (.int (0 : Int32)), .val (.int n), .val (.int (0 : Int32)), .unset] []) _
  have loop3 : ∀ (d : Nat), ∀ (j : Nat) (gg : Nat → Int32) (i1 : Int32) (i3 : Int32) (i5 : Int32) (s6 : Slot), j + d = J → ∀ (T : State) (locs : List Loc) (hA : Heap) (X : Stand p l e ({ frames := 0, cells := 0, slots := 0, locals := 0 } : Room) s m #[(.ref ca), (.int (0 : Int32)), (.ref vb), (.int (0 : Int32)), (.int n)] below meth c T locs 0 0) (eA : T.heap = hA) (NA : Fr n0 locs) (OA : Old Z n0 hA) (KA : Keep h0 hA [vb]) (FA0 : Arf Z hA ca k_ca .char cs.length (fun i => (.int (own_at cs i)))) (FA1 : Arf Z hA vb k_vb .byte cs.length (fun x => (.int (gg x)))), i1.toInt = (j : Int) → i3.toInt = (j : Int) → i5.toInt = (j : Int) → (s6 = .unset ∨ ∃ x, s6 = .val (.int x)) → Go p e below T (mkF m 3 #[.val (.ref ca), .val (.int i1), .val (.ref vb), .val (.int i3), .val (.int n), .val (.int i5), s6] []) (Po s (Q_rm_c5 Z ca vb n cs g J k_ca k_vb h0 n0) ({ frames := 0, cells := 0, slots := 0, locals := 0 } : Room).cells ({ frames := 0, cells := 0, slots := 0, locals := 0 } : Room).slots) := by
    intro d
    induction d with
    | zero =>
      intro j gg i1 i3 i5 s6 hd_ T locs hA X eA NA OA KA FA0 FA1 hi1 hi3 hi5 hs6
      have hjJ : j = J := hd_
      have hjl : j < cs.length := by omega
      show Go p e below T (mkF m 3 #[.val (.ref ca), .val (.int i1), .val (.ref vb), .val (.int i3), .val (.int n), .val (.int i5), s6] []) _
      refine stp (fun _ => XS.iload X.here hx rfl (hb hby d9_3) rfl) ?_
      show Go p e below T (mkF m 5 #[.val (.ref ca), .val (.int i1), .val (.ref vb), .val (.int i3), .val (.int n), .val (.int i5), s6] [(.int i5)]) _
      refine stp (fun _ => XS.iload X.here hx rfl (hb hby d9_5) rfl) ?_
      show Go p e below T (mkF m 7 #[.val (.ref ca), .val (.int i1), .val (.ref vb), .val (.int i3), .val (.int n), .val (.int i5), s6] [(.int n), (.int i5)]) _
      refine stp (fun _ => XS.icmpNo X.here hx rfl (hb hby d9_7) rfl (XT.ii_ge_f (own_ltI hi5 hN hjl))) ?_
      show Go p e below T (mkF m 10 #[.val (.ref ca), .val (.int i1), .val (.ref vb), .val (.int i3), .val (.int n), .val (.int i5), s6] []) _
      refine stp (fun _ => XS.aloadN X.here hx rfl (hb hby d9_10) rfl rfl) ?_
      show Go p e below T (mkF m 11 #[.val (.ref ca), .val (.int i1), .val (.ref vb), .val (.int i3), .val (.int n), .val (.int i5), s6] [(.ref ca)]) _
      refine stp (fun _ => XS.iloadN X.here hx rfl (hb hby d9_11) rfl) ?_
      show Go p e below T (mkF m 12 #[.val (.ref ca), .val (.int i1), .val (.ref vb), .val (.int i3), .val (.int n), .val (.int i5), s6] [(.int i1), (.ref ca)]) _
      obtain ⟨cl1, Ar1, q1, S1, H1, G1⟩ := (id FA0)
      have in1 : ¬ (i1 < 0 ∨ cl1.slots.size ≤ (i1).toNatClampNeg) := arf_in S1 hi1 hjl
      have at1 : cl1.slots[(i1).toNatClampNeg]? = some (.int (own_at cs j)) := arf_at H1 hi1 hjl
      refine stp (fun _ => X.caload hx (j := i1) (v := (.int (own_at cs j))) (by rw [eA]; exact Ar1.1) (State.isArrayOf_alike hZ.alike Ar1.2.1) Ar1.2.2 in1 at1 (g := (mkF m 12 #[.val (.ref ca), .val (.int i1), .val (.ref vb), .val (.int i3), .val (.int n), .val (.int i5), s6] [(.int i1), (.ref ca)])) rfl rfl (hb hby d9_12) _) ?_
      show Go p e below T (mkF m 13 #[.val (.ref ca), .val (.int i1), .val (.ref vb), .val (.int i3), .val (.int n), .val (.int i5), s6] [(.int (own_at cs j))]) _
      refine stp (fun _ => XS.istore X.here hx rfl (hb hby d9_13) rfl (l' := #[.val (.ref ca), .val (.int i1), .val (.ref vb), .val (.int i3), .val (.int n), .val (.int i5), .val (.int (own_at cs j))]) (by rcases hs6 with h | ⟨x, h⟩ <;> subst h <;> rfl)) ?_
      show Go p e below T (mkF m 15 #[.val (.ref ca), .val (.int i1), .val (.ref vb), .val (.int i3), .val (.int n), .val (.int i5), .val (.int (own_at cs j))] []) _
      refine stp (fun _ => XS.iload X.here hx rfl (hb hby d9_15) rfl) ?_
      show Go p e below T (mkF m 17 #[.val (.ref ca), .val (.int i1), .val (.ref vb), .val (.int i3), .val (.int n), .val (.int i5), .val (.int (own_at cs j))] [(.int (own_at cs j))]) _
      refine stp (fun _ => XS.sipush X.here hx rfl (hb hby d9_17)) ?_
      show Go p e below T (mkF m 20 #[.val (.ref ca), .val (.int i1), .val (.ref vb), .val (.int i3), .val (.int n), .val (.int i5), .val (.int (own_at cs j))] [(.int (255 : Int32)), (.int (own_at cs j))]) _
      refine stp (fun _ => XS.icmpNo X.here hx rfl (hb hby d9_20) rfl (XT.ii_le_f (by rw [hjJ]; exact hgt))) ?_
      show Go p e below T (mkF m 23 #[.val (.ref ca), .val (.int i1), .val (.ref vb), .val (.int i3), .val (.int n), .val (.int i5), .val (.int (own_at cs j))] []) _
      refine stp (fun _ => XS.iload X.here hx rfl (hb hby d9_23) rfl) ?_
      show Go p e below T (mkF m 25 #[.val (.ref ca), .val (.int i1), .val (.ref vb), .val (.int i3), .val (.int n), .val (.int i5), .val (.int (own_at cs j))] [(.int i5)]) _
      have e5 : i5 = Int32.ofNat J := own_isN (by rw [← hjJ]; exact hi5) (by omega)
      refine outI X hx hret (hb hby d9_25) hlk (by decide) (by decide) ?_
      rw [eA, e5]
      exact ⟨rfl, NA, KA⟩
    | succ d ih =>
      intro j gg i1 i3 i5 s6 hd_ T locs hA X eA NA OA KA FA0 FA1 hi1 hi3 hi5 hs6
      have hjl : j < cs.length := by omega
      show Go p e below T (mkF m 3 #[.val (.ref ca), .val (.int i1), .val (.ref vb), .val (.int i3), .val (.int n), .val (.int i5), s6] []) _
      refine stp (fun _ => XS.iload X.here hx rfl (hb hby d9_3) rfl) ?_
      show Go p e below T (mkF m 5 #[.val (.ref ca), .val (.int i1), .val (.ref vb), .val (.int i3), .val (.int n), .val (.int i5), s6] [(.int i5)]) _
      refine stp (fun _ => XS.iload X.here hx rfl (hb hby d9_5) rfl) ?_
      show Go p e below T (mkF m 7 #[.val (.ref ca), .val (.int i1), .val (.ref vb), .val (.int i3), .val (.int n), .val (.int i5), s6] [(.int n), (.int i5)]) _
      refine stp (fun _ => XS.icmpNo X.here hx rfl (hb hby d9_7) rfl (XT.ii_ge_f (own_ltI hi5 hN hjl))) ?_
      show Go p e below T (mkF m 10 #[.val (.ref ca), .val (.int i1), .val (.ref vb), .val (.int i3), .val (.int n), .val (.int i5), s6] []) _
      refine stp (fun _ => XS.aloadN X.here hx rfl (hb hby d9_10) rfl rfl) ?_
      show Go p e below T (mkF m 11 #[.val (.ref ca), .val (.int i1), .val (.ref vb), .val (.int i3), .val (.int n), .val (.int i5), s6] [(.ref ca)]) _
      refine stp (fun _ => XS.iloadN X.here hx rfl (hb hby d9_11) rfl) ?_
      show Go p e below T (mkF m 12 #[.val (.ref ca), .val (.int i1), .val (.ref vb), .val (.int i3), .val (.int n), .val (.int i5), s6] [(.int i1), (.ref ca)]) _
      obtain ⟨cl2, Ar2, q2, S2, H2, G2⟩ := (id FA0)
      have in2 : ¬ (i1 < 0 ∨ cl2.slots.size ≤ (i1).toNatClampNeg) := arf_in S2 hi1 hjl
      have at2 : cl2.slots[(i1).toNatClampNeg]? = some (.int (own_at cs j)) := arf_at H2 hi1 hjl
      refine stp (fun _ => X.caload hx (j := i1) (v := (.int (own_at cs j))) (by rw [eA]; exact Ar2.1) (State.isArrayOf_alike hZ.alike Ar2.2.1) Ar2.2.2 in2 at2 (g := (mkF m 12 #[.val (.ref ca), .val (.int i1), .val (.ref vb), .val (.int i3), .val (.int n), .val (.int i5), s6] [(.int i1), (.ref ca)])) rfl rfl (hb hby d9_12) _) ?_
      show Go p e below T (mkF m 13 #[.val (.ref ca), .val (.int i1), .val (.ref vb), .val (.int i3), .val (.int n), .val (.int i5), s6] [(.int (own_at cs j))]) _
      refine stp (fun _ => XS.istore X.here hx rfl (hb hby d9_13) rfl (l' := #[.val (.ref ca), .val (.int i1), .val (.ref vb), .val (.int i3), .val (.int n), .val (.int i5), .val (.int (own_at cs j))]) (by rcases hs6 with h | ⟨x, h⟩ <;> subst h <;> rfl)) ?_
      show Go p e below T (mkF m 15 #[.val (.ref ca), .val (.int i1), .val (.ref vb), .val (.int i3), .val (.int n), .val (.int i5), .val (.int (own_at cs j))] []) _
      refine stp (fun _ => XS.iload X.here hx rfl (hb hby d9_15) rfl) ?_
      show Go p e below T (mkF m 17 #[.val (.ref ca), .val (.int i1), .val (.ref vb), .val (.int i3), .val (.int n), .val (.int i5), .val (.int (own_at cs j))] [(.int (own_at cs j))]) _
      refine stp (fun _ => XS.sipush X.here hx rfl (hb hby d9_17)) ?_
      show Go p e below T (mkF m 20 #[.val (.ref ca), .val (.int i1), .val (.ref vb), .val (.int i3), .val (.int n), .val (.int i5), .val (.int (own_at cs j))] [(.int (255 : Int32)), (.int (own_at cs j))]) _
      refine stp (fun _ => XS.icmpYes X.here hx rfl (pc0 := 20) (pc' := 26) rfl (hb hby d9_20) rfl (XT.ii_le_t (hle j (by omega))) (by decide) (by decide)) ?_
      show Go p e below T (mkF m 26 #[.val (.ref ca), .val (.int i1), .val (.ref vb), .val (.int i3), .val (.int n), .val (.int i5), .val (.int (own_at cs j))] []) _
      refine stp (fun _ => XS.aloadN X.here hx rfl (hb hby d9_26) rfl rfl) ?_
      show Go p e below T (mkF m 27 #[.val (.ref ca), .val (.int i1), .val (.ref vb), .val (.int i3), .val (.int n), .val (.int i5), .val (.int (own_at cs j))] [(.ref vb)]) _
      refine stp (fun _ => XS.iloadN X.here hx rfl (hb hby d9_27) rfl) ?_
      show Go p e below T (mkF m 28 #[.val (.ref ca), .val (.int i1), .val (.ref vb), .val (.int i3), .val (.int n), .val (.int i5), .val (.int (own_at cs j))] [(.int i3), (.ref vb)]) _
      refine stp (fun _ => XS.iload X.here hx rfl (hb hby d9_28) rfl) ?_
      show Go p e below T (mkF m 30 #[.val (.ref ca), .val (.int i1), .val (.ref vb), .val (.int i3), .val (.int n), .val (.int i5), .val (.int (own_at cs j))] [(.int (own_at cs j)), (.int i3), (.ref vb)]) _
      refine stp (fun _ => XS.i2b X.here hx rfl (hb hby d9_30) rfl) ?_
      show Go p e below T (mkF m 31 #[.val (.ref ca), .val (.int i1), .val (.ref vb), .val (.int i3), .val (.int n), .val (.int i5), .val (.int (own_at cs j))] [(.int ((own_at cs j).toInt8.toInt32)), (.int i3), (.ref vb)]) _
      obtain ⟨cl3, Ar3, q3, S3, H3, G3⟩ := (id FA1)
      have in3 : ¬ (i3 < 0 ∨ cl3.slots.size ≤ (i3).toNatClampNeg) := arf_in S3 hi3 hjl
      obtain ⟨T3, h3, X3, e3, W3, st3⟩ := stB X hx hZ eA Ar3 (j := i3) in3 (g := (mkF m 31 #[.val (.ref ca), .val (.int i1), .val (.ref vb), .val (.int i3), .val (.int n), .val (.int i5), .val (.int (own_at cs j))] [(.int ((own_at cs j).toInt8.toInt32)), (.int i3), (.ref vb)])) rfl rfl (hb hby d9_31)
      have V3 := Arf.set Ar3 q3 S3 H3 G3 (ow_fits_byte byte_twice) (arf_ix hi3 ▸ (ow_wr_byte byte_twice W3)) hjl
      replace V3 : Arf Z h3 vb k_vb .byte cs.length (fun x => (.int (if x = j then ((own_at cs j).toInt8.toInt32) else (gg x)))) := V3.congr (fun x _ => by split <;> rfl)
      have f4 := FA0.other W3 ne_ca_vb
      have K3 : Keep h0 h3 [vb] := KA.wr W3 (Or.inl (List.mem_of_getElem? (i := 0) rfl))
      have O3 := OA.wr W3 ge_vb
      have N3 := Fr.snoc X3 NA ge_vb
      refine stp st3 ?_
      show Go p e below T3 (mkF m 32 #[.val (.ref ca), .val (.int i1), .val (.ref vb), .val (.int i3), .val (.int n), .val (.int i5), .val (.int (own_at cs j))] []) _
      refine stp (fun _ => XS.iinc X3.here hx rfl (hb hby d9_32) rfl (l' := #[.val (.ref ca), .val (.int (i1 + (1 : Int32))), .val (.ref vb), .val (.int i3), .val (.int n), .val (.int i5), .val (.int (own_at cs j))]) rfl) ?_
      show Go p e below T3 (mkF m 35 #[.val (.ref ca), .val (.int (i1 + (1 : Int32))), .val (.ref vb), .val (.int i3), .val (.int n), .val (.int i5), .val (.int (own_at cs j))] []) _
      refine stp (fun _ => XS.iinc X3.here hx rfl (hb hby d9_35) rfl (l' := #[.val (.ref ca), .val (.int (i1 + (1 : Int32))), .val (.ref vb), .val (.int (i3 + (1 : Int32))), .val (.int n), .val (.int i5), .val (.int (own_at cs j))]) rfl) ?_
      show Go p e below T3 (mkF m 38 #[.val (.ref ca), .val (.int (i1 + (1 : Int32))), .val (.ref vb), .val (.int (i3 + (1 : Int32))), .val (.int n), .val (.int i5), .val (.int (own_at cs j))] []) _
      refine stp (fun _ => XS.iinc X3.here hx rfl (hb hby d9_38) rfl (l' := #[.val (.ref ca), .val (.int (i1 + (1 : Int32))), .val (.ref vb), .val (.int (i3 + (1 : Int32))), .val (.int n), .val (.int (i5 + (1 : Int32))), .val (.int (own_at cs j))]) rfl) ?_
      show Go p e below T3 (mkF m 41 #[.val (.ref ca), .val (.int (i1 + (1 : Int32))), .val (.ref vb), .val (.int (i3 + (1 : Int32))), .val (.int n), .val (.int (i5 + (1 : Int32))), .val (.int (own_at cs j))] []) _
      refine stp (fun _ => XS.goto X3.here hx rfl (pc0 := 41) (pc' := 3) rfl (hb hby d9_41) (by decide) (by decide)) ?_
      show Go p e below T3 (mkF m 3 #[.val (.ref ca), .val (.int (i1 + (1 : Int32))), .val (.ref vb), .val (.int (i3 + (1 : Int32))), .val (.int n), .val (.int (i5 + (1 : Int32))), .val (.int (own_at cs j))] []) _
      exact ih (j + 1) _ (i1 + (1 : Int32)) (i3 + (1 : Int32)) (i5 + (1 : Int32)) (.val (.int (own_at cs j))) (by omega) T3 _ h3 X3 e3 N3 O3 K3 f4 V3 (own_incI hi1 (by omega)) (own_incI hi3 (by omega)) (own_incI hi5 (by omega)) (Or.inr ⟨_, rfl⟩)
  exact loop3 _ 0 g (0 : Int32) (0 : Int32) (0 : Int32) .unset (Nat.zero_add _) T0 _ h0 X0 e0 N0 O0 (Keep.refl h0 [vb]) V_ca V_vb rfl rfl rfl (Or.inl rfl)
theorem d23_0 : decode jdk_52_method_5_code 0 = .ok (.getstatic 44, 3) := by decide +kernel
theorem d23_3 : decode jdk_52_method_5_code 3 = .ok (.ifCond .ne 25, 3) := by decide +kernel
theorem d23_28 : decode jdk_52_method_5_code 28 = .ok (.iload_n 1, 1) := by decide +kernel
theorem d23_29 : decode jdk_52_method_5_code 29 = .ok (.iconst 1, 1) := by decide +kernel
theorem d23_30 : decode jdk_52_method_5_code 30 = .ok (.ishl, 1) := by decide +kernel
theorem d23_31 : decode jdk_52_method_5_code 31 = .ok (.istore_n 1, 1) := by decide +kernel
theorem d23_32 : decode jdk_52_method_5_code 32 = .ok (.aload_n 0, 1) := by decide +kernel
theorem d23_33 : decode jdk_52_method_5_code 33 = .ok (.iload_n 1, 1) := by decide +kernel
theorem d23_34 : decode jdk_52_method_5_code 34 = .ok (.iinc 1 1, 3) := by decide +kernel
theorem d23_37 : decode jdk_52_method_5_code 37 = .ok (.baload, 1) := by decide +kernel
theorem d23_38 : decode jdk_52_method_5_code 38 = .ok (.sipush 255, 3) := by decide +kernel
theorem d23_41 : decode jdk_52_method_5_code 41 = .ok (.iand, 1) := by decide +kernel
theorem d23_42 : decode jdk_52_method_5_code 42 = .ok (.getstatic 59, 3) := by decide +kernel
theorem d23_45 : decode jdk_52_method_5_code 45 = .ok (.ishl, 1) := by decide +kernel
theorem d23_46 : decode jdk_52_method_5_code 46 = .ok (.aload_n 0, 1) := by decide +kernel
theorem d23_47 : decode jdk_52_method_5_code 47 = .ok (.iload_n 1, 1) := by decide +kernel
theorem d23_48 : decode jdk_52_method_5_code 48 = .ok (.baload, 1) := by decide +kernel
theorem d23_49 : decode jdk_52_method_5_code 49 = .ok (.sipush 255, 3) := by decide +kernel
theorem d23_52 : decode jdk_52_method_5_code 52 = .ok (.iand, 1) := by decide +kernel
theorem d23_53 : decode jdk_52_method_5_code 53 = .ok (.getstatic 63, 3) := by decide +kernel
theorem d23_56 : decode jdk_52_method_5_code 56 = .ok (.ishl, 1) := by decide +kernel
theorem d23_57 : decode jdk_52_method_5_code 57 = .ok (.ior, 1) := by decide +kernel
theorem d23_58 : decode jdk_52_method_5_code 58 = .ok (.i2c, 1) := by decide +kernel
theorem d23_59 : decode jdk_52_method_5_code 59 = .ok (.ireturn, 1) := by decide +kernel
theorem ef_rm_gc (m : MethodId) (vb : Addr) (i : Int32)  : entryFrame m #[(.ref vb), (.int i)] 2 = mkF m 0 #[.val (.ref vb), .val (.int i)] [] := by first | (simp [entryFrame, mkF, argsToLocals, Value.category]; done) | rfl
def Q_rm_gc (Z : State) (vb : Addr) (i : Int32) (cs : List Int32) (j : Nat) (k_vb : ClassId) (h0 : Heap) (n0 : Nat) (v : Option Value) (h : Heap) (L : List Loc) : Prop := v = some (.int (own_at cs j)) ∧ Fr n0 L ∧ h = h0
theorem pn_5_ : plainName "java/lang/StringUTF16" = true := by first | (simp [plainName, overriddenIn]; done) | decide +kernel
theorem pn_5 : plainFor (⟨"java/lang/StringUTF16", "getChar", "([BI)C"⟩ : MethodName) = true := plainFor_of_name pn_5_
set_option maxRecDepth 65536 in
set_option maxHeartbeats 40000000 in
theorem rm_gc (l : Launch) (Z : State) (a0 : Array Value) (hw : ∀ d ∈ tables_1, d.before a0 Z = true) (ws : List Jvm.Cond) (vb : Addr) (i : Int32) (cs : List Int32) (j : Nat) (k_vb : ClassId) (h0 : Heap) (n0 : Nat) (O0 : Old Z n0 h0) (V_vb : Arf Z h0 vb k_vb .byte (2 * cs.length) (fun x => (.int (own_ub cs x)))) (S__assertionsDisabled : Sta Z Z.heap "java/lang/StringUTF16" "$assertionsDisabled" "Z" (.int (1 : Int32))) (S_HI_BYTE_SHIFT : Sta Z Z.heap "java/lang/StringUTF16" "HI_BYTE_SHIFT" "I" (.int (0 : Int32))) (S_LO_BYTE_SHIFT : Sta Z Z.heap "java/lang/StringUTF16" "LO_BYTE_SHIFT" "I" (.int (8 : Int32))) (hi : i.toInt = (j : Int)) (hj : j < cs.length) (hN1 : cs.length ≤ 10) (hsm : ∀ c ∈ cs, ¬ c < 0 ∧ ¬ (65535 : Int32) < c) :
    MetFree l (⟨"java/lang/StringUTF16", "getChar", "([BI)C"⟩ : MethodName) (head1 (Jvm.Cond.code (⟨"java/lang/StringUTF16", "getChar", "([BI)C"⟩ : MethodName) jdk_52_method_5_code 2 (some .char) :: ws) ({ frames := 0, cells := 0, slots := 0, locals := 0 } : Room)) (fun args_ U => args_ = #[(.ref vb), (.int i)] ∧ Z.Warmed39 U.vm ∧ U.heap = h0) (fun _ _ _ _ _ => True) (fun _ U out_ U' => ∃ val_ loc_, out_ = .returned val_ ∧ (Q_rm_gc Z vb i cs j k_vb h0 n0) val_ U'.heap loc_ ∧ FrameEnd U out_ U' loc_ ({ frames := 0, cells := 0, slots := 0, locals := 0 } : Room).cells ({ frames := 0, cells := 0, slots := 0, locals := 0 } : Room).slots) := by
  refine start (Q := (Q_rm_gc Z vb i cs j k_vb h0 n0)) pn_5 ?_
  intro p e s m below meth c T0 X0 hx hby hml hown hnm hret hlk hZ e0
  replace hown : s.vm.findClass "java/lang/StringUTF16" = some m.cls := hown
  replace hml : c.maxLocals = 2 := hml
  refine goAt (ef_rm_gc m vb i ) ?_
  have N0 := Fr.nil n0
  show Go p e below T0 (mkF m 0 #[.val (.ref vb), .val (.int i)] []) _
  obtain ⟨T1, X1, e1, st1⟩ := getS2 X0 hx hZ hown (host := "") (Or.inl (hw _ (List.mem_of_getElem? (i := 93) rfl))) Via.refl e0 (S__assertionsDisabled.ext O0.2) (g := (mkF m 0 #[.val (.ref vb), .val (.int i)] [])) rfl (hb hby d23_0)
  refine stp st1 ?_
  show Go p e below T1 (mkF m 3 #[.val (.ref vb), .val (.int i)] [(.int (1 : Int32))]) _
  refine stp (fun _ => XS.ifYes X1.here hx rfl (pc0 := 3) (pc' := 28) rfl (hb hby d23_3) rfl (by decide) (by decide) (by decide)) ?_
  show Go p e below T1 (mkF m 28 #[.val (.ref vb), .val (.int i)] []) _
  refine stp (fun _ => XS.iloadN X1.here hx rfl (hb hby d23_28) rfl) ?_
  show Go p e below T1 (mkF m 29 #[.val (.ref vb), .val (.int i)] [(.int i)]) _
  refine stp (fun _ => XS.iconst X1.here hx rfl (hb hby d23_29)) ?_
  show Go p e below T1 (mkF m 30 #[.val (.ref vb), .val (.int i)] [(.int (1 : Int32)), (.int i)]) _
  refine stp (fun _ => XS.ishl X1.here hx rfl (hb hby d23_30) rfl) ?_
  show Go p e below T1 (mkF m 31 #[.val (.ref vb), .val (.int i)] [(.int (i <<< ((1 : Int32) &&& 31)))]) _
  refine stp (fun _ => XS.istoreN X1.here hx rfl (hb hby d23_31) rfl (l' := #[.val (.ref vb), .val (.int (i <<< ((1 : Int32) &&& 31)))]) rfl) ?_
  show Go p e below T1 (mkF m 32 #[.val (.ref vb), .val (.int (i <<< ((1 : Int32) &&& 31)))] []) _
  refine stp (fun _ => XS.aloadN X1.here hx rfl (hb hby d23_32) rfl rfl) ?_
  show Go p e below T1 (mkF m 33 #[.val (.ref vb), .val (.int (i <<< ((1 : Int32) &&& 31)))] [(.ref vb)]) _
  refine stp (fun _ => XS.iloadN X1.here hx rfl (hb hby d23_33) rfl) ?_
  show Go p e below T1 (mkF m 34 #[.val (.ref vb), .val (.int (i <<< ((1 : Int32) &&& 31)))] [(.int (i <<< ((1 : Int32) &&& 31))), (.ref vb)]) _
  refine stp (fun _ => XS.iinc X1.here hx rfl (hb hby d23_34) rfl (l' := #[.val (.ref vb), .val (.int ((i <<< ((1 : Int32) &&& 31)) + (1 : Int32)))]) rfl) ?_
  show Go p e below T1 (mkF m 37 #[.val (.ref vb), .val (.int ((i <<< ((1 : Int32) &&& 31)) + (1 : Int32)))] [(.int (i <<< ((1 : Int32) &&& 31))), (.ref vb)]) _
  obtain ⟨cl2, Ar2, q2, S2, H2, G2⟩ := (id V_vb)
  have in2 : ¬ ((i <<< ((1 : Int32) &&& 31)) < 0 ∨ cl2.slots.size ≤ ((i <<< ((1 : Int32) &&& 31))).toNatClampNeg) := arf_in S2 (own_shlI hi (by omega)) (by omega)
  have at2 : cl2.slots[((i <<< ((1 : Int32) &&& 31))).toNatClampNeg]? = some (.int (own_ub cs (2 * j))) := arf_at H2 (own_shlI hi (by omega)) (by omega)
  refine stp (fun _ => X1.baloadBytes hx (j := (i <<< ((1 : Int32) &&& 31))) (v := (.int (own_ub cs (2 * j)))) (by rw [e1]; exact Ar2.1) (State.isArrayOf_alike hZ.alike Ar2.2.1) Ar2.2.2 in2 at2 (g := (mkF m 37 #[.val (.ref vb), .val (.int ((i <<< ((1 : Int32) &&& 31)) + (1 : Int32)))] [(.int (i <<< ((1 : Int32) &&& 31))), (.ref vb)])) rfl rfl (hb hby d23_37) _) ?_
  show Go p e below T1 (mkF m 38 #[.val (.ref vb), .val (.int ((i <<< ((1 : Int32) &&& 31)) + (1 : Int32)))] [(.int (own_ub cs (2 * j)))]) _
  refine stp (fun _ => XS.sipush X1.here hx rfl (hb hby d23_38)) ?_
  show Go p e below T1 (mkF m 41 #[.val (.ref vb), .val (.int ((i <<< ((1 : Int32) &&& 31)) + (1 : Int32)))] [(.int (255 : Int32)), (.int (own_ub cs (2 * j)))]) _
  refine stp (fun _ => XS.iand X1.here hx rfl (hb hby d23_41) rfl) ?_
  show Go p e below T1 (mkF m 42 #[.val (.ref vb), .val (.int ((i <<< ((1 : Int32) &&& 31)) + (1 : Int32)))] [(.int ((own_ub cs (2 * j)) &&& (255 : Int32)))]) _
  obtain ⟨T3, X3, e3, st3⟩ := getS2 X1 hx hZ hown (host := "") (Or.inl (hw _ (List.mem_of_getElem? (i := 94) rfl))) Via.refl e1 (S_HI_BYTE_SHIFT.ext O0.2) (g := (mkF m 42 #[.val (.ref vb), .val (.int ((i <<< ((1 : Int32) &&& 31)) + (1 : Int32)))] [(.int ((own_ub cs (2 * j)) &&& (255 : Int32)))])) rfl (hb hby d23_42)
  refine stp st3 ?_
  show Go p e below T3 (mkF m 45 #[.val (.ref vb), .val (.int ((i <<< ((1 : Int32) &&& 31)) + (1 : Int32)))] [(.int (0 : Int32)), (.int ((own_ub cs (2 * j)) &&& (255 : Int32)))]) _
  refine stp (fun _ => XS.ishl X3.here hx rfl (hb hby d23_45) rfl) ?_
  show Go p e below T3 (mkF m 46 #[.val (.ref vb), .val (.int ((i <<< ((1 : Int32) &&& 31)) + (1 : Int32)))] [(.int (((own_ub cs (2 * j)) &&& (255 : Int32)) <<< ((0 : Int32) &&& 31)))]) _
  refine stp (fun _ => XS.aloadN X3.here hx rfl (hb hby d23_46) rfl rfl) ?_
  show Go p e below T3 (mkF m 47 #[.val (.ref vb), .val (.int ((i <<< ((1 : Int32) &&& 31)) + (1 : Int32)))] [(.ref vb), (.int (((own_ub cs (2 * j)) &&& (255 : Int32)) <<< ((0 : Int32) &&& 31)))]) _
  refine stp (fun _ => XS.iloadN X3.here hx rfl (hb hby d23_47) rfl) ?_
  show Go p e below T3 (mkF m 48 #[.val (.ref vb), .val (.int ((i <<< ((1 : Int32) &&& 31)) + (1 : Int32)))] [(.int ((i <<< ((1 : Int32) &&& 31)) + (1 : Int32))), (.ref vb), (.int (((own_ub cs (2 * j)) &&& (255 : Int32)) <<< ((0 : Int32) &&& 31)))]) _
  obtain ⟨cl4, Ar4, q4, S4, H4, G4⟩ := (id V_vb)
  have in4 : ¬ (((i <<< ((1 : Int32) &&& 31)) + (1 : Int32)) < 0 ∨ cl4.slots.size ≤ (((i <<< ((1 : Int32) &&& 31)) + (1 : Int32))).toNatClampNeg) := arf_in S4 (own_incI (own_shlI hi (by omega)) (by omega)) (by omega)
  have at4 : cl4.slots[(((i <<< ((1 : Int32) &&& 31)) + (1 : Int32))).toNatClampNeg]? = some (.int (own_ub cs (2 * j + 1))) := arf_at H4 (own_incI (own_shlI hi (by omega)) (by omega)) (by omega)
  refine stp (fun _ => X3.baloadBytes hx (j := ((i <<< ((1 : Int32) &&& 31)) + (1 : Int32))) (v := (.int (own_ub cs (2 * j + 1)))) (by rw [e3]; exact Ar4.1) (State.isArrayOf_alike hZ.alike Ar4.2.1) Ar4.2.2 in4 at4 (g := (mkF m 48 #[.val (.ref vb), .val (.int ((i <<< ((1 : Int32) &&& 31)) + (1 : Int32)))] [(.int ((i <<< ((1 : Int32) &&& 31)) + (1 : Int32))), (.ref vb), (.int (((own_ub cs (2 * j)) &&& (255 : Int32)) <<< ((0 : Int32) &&& 31)))])) rfl rfl (hb hby d23_48) _) ?_
  show Go p e below T3 (mkF m 49 #[.val (.ref vb), .val (.int ((i <<< ((1 : Int32) &&& 31)) + (1 : Int32)))] [(.int (own_ub cs (2 * j + 1))), (.int (((own_ub cs (2 * j)) &&& (255 : Int32)) <<< ((0 : Int32) &&& 31)))]) _
  refine stp (fun _ => XS.sipush X3.here hx rfl (hb hby d23_49)) ?_
  show Go p e below T3 (mkF m 52 #[.val (.ref vb), .val (.int ((i <<< ((1 : Int32) &&& 31)) + (1 : Int32)))] [(.int (255 : Int32)), (.int (own_ub cs (2 * j + 1))), (.int (((own_ub cs (2 * j)) &&& (255 : Int32)) <<< ((0 : Int32) &&& 31)))]) _
  refine stp (fun _ => XS.iand X3.here hx rfl (hb hby d23_52) rfl) ?_
  show Go p e below T3 (mkF m 53 #[.val (.ref vb), .val (.int ((i <<< ((1 : Int32) &&& 31)) + (1 : Int32)))] [(.int ((own_ub cs (2 * j + 1)) &&& (255 : Int32))), (.int (((own_ub cs (2 * j)) &&& (255 : Int32)) <<< ((0 : Int32) &&& 31)))]) _
  obtain ⟨T5, X5, e5, st5⟩ := getS2 X3 hx hZ hown (host := "") (Or.inl (hw _ (List.mem_of_getElem? (i := 95) rfl))) Via.refl e3 (S_LO_BYTE_SHIFT.ext O0.2) (g := (mkF m 53 #[.val (.ref vb), .val (.int ((i <<< ((1 : Int32) &&& 31)) + (1 : Int32)))] [(.int ((own_ub cs (2 * j + 1)) &&& (255 : Int32))), (.int (((own_ub cs (2 * j)) &&& (255 : Int32)) <<< ((0 : Int32) &&& 31)))])) rfl (hb hby d23_53)
  refine stp st5 ?_
  show Go p e below T5 (mkF m 56 #[.val (.ref vb), .val (.int ((i <<< ((1 : Int32) &&& 31)) + (1 : Int32)))] [(.int (8 : Int32)), (.int ((own_ub cs (2 * j + 1)) &&& (255 : Int32))), (.int (((own_ub cs (2 * j)) &&& (255 : Int32)) <<< ((0 : Int32) &&& 31)))]) _
  refine stp (fun _ => XS.ishl X5.here hx rfl (hb hby d23_56) rfl) ?_
  show Go p e below T5 (mkF m 57 #[.val (.ref vb), .val (.int ((i <<< ((1 : Int32) &&& 31)) + (1 : Int32)))] [(.int (((own_ub cs (2 * j + 1)) &&& (255 : Int32)) <<< ((8 : Int32) &&& 31))), (.int (((own_ub cs (2 * j)) &&& (255 : Int32)) <<< ((0 : Int32) &&& 31)))]) _
  refine stp (fun _ => XS.ior X5.here hx rfl (hb hby d23_57) rfl) ?_
  show Go p e below T5 (mkF m 58 #[.val (.ref vb), .val (.int ((i <<< ((1 : Int32) &&& 31)) + (1 : Int32)))] [(.int ((((own_ub cs (2 * j)) &&& (255 : Int32)) <<< ((0 : Int32) &&& 31)) ||| (((own_ub cs (2 * j + 1)) &&& (255 : Int32)) <<< ((8 : Int32) &&& 31))))]) _
  refine stp (fun _ => XS.i2c X5.here hx rfl (hb hby d23_58) rfl) ?_
  show Go p e below T5 (mkF m 59 #[.val (.ref vb), .val (.int ((i <<< ((1 : Int32) &&& 31)) + (1 : Int32)))] [(.int (((((own_ub cs (2 * j)) &&& (255 : Int32)) <<< ((0 : Int32) &&& 31)) ||| (((own_ub cs (2 * j + 1)) &&& (255 : Int32)) <<< ((8 : Int32) &&& 31))).toUInt32.toUInt16.toUInt32.toInt32))]) _
  refine outN X5 hx (t := .char) hret (by simp) (hb hby d23_59) hlk (by decide) (by decide) ?_
  exact ⟨own_somei (by rw [own_ub0, own_ub1, own_join (own_u16all hsm hj), char_small (own_u16all hsm hj).1 (own_u16all hsm hj).2]; exact own_narc (own_u16all hsm hj)), N0, e5⟩
theorem d8_0 : decode jdk_52_method_16_code 0 = .ok (.iload_n 2, 1) := by decide +kernel
theorem d8_1 : decode jdk_52_method_16_code 1 = .ok (.newarray .byte, 2) := by decide +kernel
theorem d8_3 : decode jdk_52_method_16_code 3 = .ok (.astore_n 3, 1) := by decide +kernel
theorem d8_4 : decode jdk_52_method_16_code 4 = .ok (.aload_n 0, 1) := by decide +kernel
theorem d8_5 : decode jdk_52_method_16_code 5 = .ok (.iload_n 1, 1) := by decide +kernel
theorem d8_6 : decode jdk_52_method_16_code 6 = .ok (.aload_n 3, 1) := by decide +kernel
theorem d8_7 : decode jdk_52_method_16_code 7 = .ok (.iconst 0, 1) := by decide +kernel
theorem d8_8 : decode jdk_52_method_16_code 8 = .ok (.iload_n 2, 1) := by decide +kernel
theorem d8_9 : decode jdk_52_method_16_code 9 = .ok (.invokestatic 115, 3) := by decide +kernel
theorem pd_3 : parseMethodDescriptor "([CI[BII)I" = some ⟨[(.array .char), .int, (.array .byte), .int, .int], some .int⟩ := by decide +kernel
theorem d8_12 : decode jdk_52_method_16_code 12 = .ok (.istore 4, 2) := by decide +kernel
theorem d8_14 : decode jdk_52_method_16_code 14 = .ok (.iload 4, 2) := by decide +kernel
theorem d8_16 : decode jdk_52_method_16_code 16 = .ok (.iload_n 2, 1) := by decide +kernel
theorem d8_17 : decode jdk_52_method_16_code 17 = .ok (.if_icmp .eq 40, 3) := by decide +kernel
theorem d8_20 : decode jdk_52_method_16_code 20 = .ok (.aload_n 0, 1) := by decide +kernel
theorem d8_21 : decode jdk_52_method_16_code 21 = .ok (.iload_n 1, 1) := by decide +kernel
theorem d8_22 : decode jdk_52_method_16_code 22 = .ok (.iload_n 2, 1) := by decide +kernel
theorem d8_23 : decode jdk_52_method_16_code 23 = .ok (.invokestatic 119, 3) := by decide +kernel
theorem pd_4 : parseMethodDescriptor "([CII)[B" = some ⟨[(.array .char), .int, .int], some (.array .byte)⟩ := by decide +kernel
theorem d8_26 : decode jdk_52_method_16_code 26 = .ok (.astore 5, 2) := by decide +kernel
theorem d8_28 : decode jdk_52_method_16_code 28 = .ok (.aload 5, 2) := by decide +kernel
theorem d8_30 : decode jdk_52_method_16_code 30 = .ok (.iload 4, 2) := by decide +kernel
theorem d8_32 : decode jdk_52_method_16_code 32 = .ok (.invokestatic 71, 3) := by decide +kernel
theorem pd_5 : parseMethodDescriptor "([BI)C" = some ⟨[(.array .byte), .int], some .char⟩ := by decide +kernel
theorem d8_35 : decode jdk_52_method_16_code 35 = .ok (.sipush 255, 3) := by decide +kernel
theorem d8_38 : decode jdk_52_method_16_code 38 = .ok (.if_icmp .gt 16, 3) := by decide +kernel
theorem d8_54 : decode jdk_52_method_16_code 54 = .ok (.aload 5, 2) := by decide +kernel
theorem d8_56 : decode jdk_52_method_16_code 56 = .ok (.areturn, 1) := by decide +kernel
theorem ef_rm_c3 (m : MethodId) (ca : Addr) (n : Int32)  : entryFrame m #[(.ref ca), (.int (0 : Int32)), (.int n)] 6 = mkF m 0 #[.val (.ref ca), .val (.int (0 : Int32)), .val (.int n), .unset, .unset, .unset] [] := by first | (simp [entryFrame, mkF, argsToLocals, Value.category]; done) | rfl
def Q_rm_c3 (Z : State) (ca : Addr) (n : Int32) (cs : List Int32) (J : Nat) (k_ca : ClassId) (h0 : Heap) (n0 : Nat) (v : Option Value) (h : Heap) (L : List Loc) : Prop := ∃ (r : Addr) (k_r : ClassId), v = some (.ref r) ∧ Fr n0 L ∧ Keep h0 h [] ∧ (n0 ≤ r ∧ h0.size ≤ r) ∧ Exa Z h r "[B" ∧ Arf Z h r k_r .byte (2 * cs.length) (fun x => (.int (own_ub cs x)))
theorem pn_6_ : plainName "java/lang/StringUTF16" = true := by first | (simp [plainName, overriddenIn]; done) | decide +kernel
theorem pn_6 : plainFor (⟨"java/lang/StringUTF16", "compress", "([CII)[B"⟩ : MethodName) = true := plainFor_of_name pn_6_
set_option maxRecDepth 65536 in
set_option maxHeartbeats 40000000 in
theorem rm_c3 (l : Launch) (Z : State) (a0 : Array Value) (hw : ∀ d ∈ tables_1, d.before a0 Z = true) (ws : List Jvm.Cond) (ca : Addr) (n : Int32) (cs : List Int32) (J : Nat) (k_ca : ClassId) (h0 : Heap) (n0 : Nat) (O0 : Old Z n0 h0) (V_ca : Arf Z h0 ca k_ca .char cs.length (fun i => (.int (own_at cs i)))) (S__assertionsDisabled : Sta Z Z.heap "java/lang/StringUTF16" "$assertionsDisabled" "Z" (.int (1 : Int32))) (S_HI_BYTE_SHIFT : Sta Z Z.heap "java/lang/StringUTF16" "HI_BYTE_SHIFT" "I" (.int (0 : Int32))) (S_LO_BYTE_SHIFT : Sta Z Z.heap "java/lang/StringUTF16" "LO_BYTE_SHIFT" "I" (.int (8 : Int32))) (hN : n.toInt = (cs.length : Int)) (hN1 : cs.length ≤ 10) (hsm : ∀ c ∈ cs, ¬ c < 0 ∧ ¬ (65535 : Int32) < c) (hJ : J < cs.length) (hgt : (255 : Int32) < own_at cs J) (hle : ∀ i, i < J → ¬ (255 : Int32) < own_at cs i) :
    MetFree l (⟨"java/lang/StringUTF16", "compress", "([CII)[B"⟩ : MethodName) (head1 (Jvm.Cond.code (⟨"java/lang/StringUTF16", "compress", "([CII)[B"⟩ : MethodName) jdk_52_method_16_code 6 (some (.array .byte)) :: ws) ({ frames := 3, cells := 2, slots := 30, locals := 40 } : Room)) (fun args_ U => args_ = #[(.ref ca), (.int (0 : Int32)), (.int n)] ∧ Z.Warmed39 U.vm ∧ U.heap = h0) (fun _ _ _ _ _ => True) (fun _ U out_ U' => ∃ val_ loc_, out_ = .returned val_ ∧ (Q_rm_c3 Z ca n cs J k_ca h0 n0) val_ U'.heap loc_ ∧ FrameEnd U out_ U' loc_ ({ frames := 3, cells := 2, slots := 30, locals := 40 } : Room).cells ({ frames := 3, cells := 2, slots := 30, locals := 40 } : Room).slots) := by
  refine start (Q := (Q_rm_c3 Z ca n cs J k_ca h0 n0)) pn_6 ?_
  intro p e s m below meth c T0 X0 hx hby hml hown hnm hret hlk hZ e0
  replace hown : s.vm.findClass "java/lang/StringUTF16" = some m.cls := hown
  replace hml : c.maxLocals = 6 := hml
  refine goAt (ef_rm_c3 m ca n ) ?_
  have N0 := Fr.nil n0
  show Go p e below T0 (mkF m 0 #[.val (.ref ca), .val (.int (0 : Int32)), .val (.int n), .unset, .unset, .unset] []) _
  refine stp (fun _ => XS.iloadN X0.here hx rfl (hb hby d8_0) rfl) ?_
  show Go p e below T0 (mkF m 1 #[.val (.ref ca), .val (.int (0 : Int32)), .val (.int n), .unset, .unset, .unset] [(.int n)]) _
  obtain ⟨T1, h1, k1, X1, e1, E1, A1, B1, st1⟩ := newPE X0 hx hZ (hw _ (List.mem_of_getElem? (i := 33) rfl)) e0 (g := (mkF m 1 #[.val (.ref ca), .val (.int (0 : Int32)), .val (.int n), .unset, .unset, .unset] [(.int n)])) rfl (hb hby d8_1) rfl (own_u0 hN) (cap := 10) (by rw [arf_ix hN]; exact hN1) (by decide) (by decide) (by decide) (ad := "[B") (by decide)
  obtain ⟨b1, g1⟩ : ∃ z, z = h0.size := ⟨_, rfl⟩
  rw [← g1] at A1 B1 st1
  have ne2 : ca ≠ b1 := Nat.ne_of_lt (Nat.lt_of_lt_of_le V_ca.lt (Nat.le_of_eq g1.symm))
  have sz_b1 : h0.size ≤ b1 := Nat.le_trans (Keep.refl h0 []).1 (Nat.le_of_eq g1.symm)
  have ge_b1 : n0 ≤ b1 := Nat.le_trans (old_le O0) (Nat.le_of_eq g1.symm)
  have f3 := V_ca.ext E1
  have K1 : Keep h0 h1 [] := (Keep.refl h0 []).ext E1
  have O1 := O0.ext E1
  have V1 : Arf Z h1 b1 k1 .byte cs.length (fun _ => (.int (0 : Int32))) := Arf.new A1 (own_u0 hN) (arf_ix hN)
  refine stp st1 ?_
  show Go p e below T1 (mkF m 3 #[.val (.ref ca), .val (.int (0 : Int32)), .val (.int n), .unset, .unset, .unset] [(.ref b1)]) _
  refine stp (fun _ => XS.astoreN X1.here hx rfl (hb hby d8_3) rfl rfl (l' := #[.val (.ref ca), .val (.int (0 : Int32)), .val (.int n), .val (.ref b1), .unset, .unset]) rfl) ?_
  show Go p e below T1 (mkF m 4 #[.val (.ref ca), .val (.int (0 : Int32)), .val (.int n), .val (.ref b1), .unset, .unset] []) _
  refine stp (fun _ => XS.aloadN X1.here hx rfl (hb hby d8_4) rfl rfl) ?_
  show Go p e below T1 (mkF m 5 #[.val (.ref ca), .val (.int (0 : Int32)), .val (.int n), .val (.ref b1), .unset, .unset] [(.ref ca)]) _
  refine stp (fun _ => XS.iloadN X1.here hx rfl (hb hby d8_5) rfl) ?_
  show Go p e below T1 (mkF m 6 #[.val (.ref ca), .val (.int (0 : Int32)), .val (.int n), .val (.ref b1), .unset, .unset] [(.int (0 : Int32)), (.ref ca)]) _
  refine stp (fun _ => XS.aloadN X1.here hx rfl (hb hby d8_6) rfl rfl) ?_
  show Go p e below T1 (mkF m 7 #[.val (.ref ca), .val (.int (0 : Int32)), .val (.int n), .val (.ref b1), .unset, .unset] [(.ref b1), (.int (0 : Int32)), (.ref ca)]) _
  refine stp (fun _ => XS.iconst X1.here hx rfl (hb hby d8_7)) ?_
  show Go p e below T1 (mkF m 8 #[.val (.ref ca), .val (.int (0 : Int32)), .val (.int n), .val (.ref b1), .unset, .unset] [(.int (0 : Int32)), (.ref b1), (.int (0 : Int32)), (.ref ca)]) _
  refine stp (fun _ => XS.iloadN X1.here hx rfl (hb hby d8_8) rfl) ?_
  show Go p e below T1 (mkF m 9 #[.val (.ref ca), .val (.int (0 : Int32)), .val (.int n), .val (.ref b1), .unset, .unset] [(.int n), (.int (0 : Int32)), (.ref b1), (.int (0 : Int32)), (.ref ca)]) _
  obtain ⟨_, _, ⟨T4, L4, k4, n4⟩, -, X4, ⟨Lc4, hQ4, l4, y4, z4⟩, st4⟩ := Jvm.LawKit.callS X1 hx (y := (⟨"java/lang/StringUTF16", "compress", "([CI[BII)I"⟩ : MethodName)) hown (mvT hZ (hw _ (List.mem_of_getElem? (i := 34) rfl))) (mvT hZ (hw _ (List.mem_of_getElem? (i := 35) rfl))) (mvT hZ (hw _ (List.mem_of_getElem? (i := 31) rfl))) (mvT hZ (hw _ (List.mem_of_getElem? (i := 36) rfl))) (by decide) (backOf (W := 0) (rm_c5 l Z a0 hw [] ca b1 n cs (fun _ => (0 : Int32)) J k_ca k1 h1 n0 O1 f3 V1 ge_b1 ne2 hN hN1 hJ hgt hle) hZ (hw _ (List.mem_of_getElem? (i := 36) rfl)) (hw _ (List.mem_of_getElem? (i := 31) rfl)) (by decide) (by decide)) (g := (mkF m 9 #[.val (.ref ca), .val (.int (0 : Int32)), .val (.int n), .val (.ref b1), .unset, .unset] [(.int n), (.int (0 : Int32)), (.ref b1), (.int (0 : Int32)), (.ref ca)])) rfl (by rw [hml]; rfl) (argsL := [(.ref ca), (.int (0 : Int32)), (.ref b1), (.int (0 : Int32)), (.int n)]) (rest := []) (lenOf pd_3 rfl) rfl (by show 2 * 0 + _ ≤ _; exact Nat.le_of_eq rfl) (hb hby d8_9) (fun _ _ => ⟨rfl, e1, (by decide : 1 + 0 ≤ _), (by decide : 10 + 0 ≤ _)⟩)
  dsimp only [Pt.U, Pt.locs, Pt.cells, Pt.slots] at X4 l4 y4 z4 st4 hQ4
  subst y4 z4
  obtain ⟨rfl, N4q, K4q⟩ := hQ4
  have N4 : Fr n0 L4 := by rw [l4]; exact Fr.app N0 N4q
  have f5 := f3.keep K4q (ninS ne2 nin0)
  have f6 := B1.keep K4q
  have K4 : Keep h0 T4.heap [] := K1.trans K4q (allS (Or.inr sz_b1) all0)
  have O4 := O1.keep K4q (allS ge_b1 all0)
  refine stp st4 ?_
  show Go p e below T4 (mkF m 12 #[.val (.ref ca), .val (.int (0 : Int32)), .val (.int n), .val (.ref b1), .unset, .unset] [(.int (Int32.ofNat J))]) _
  refine stp (fun _ => XS.istore X4.here hx rfl (hb hby d8_12) rfl (l' := #[.val (.ref ca), .val (.int (0 : Int32)), .val (.int n), .val (.ref b1), .val (.int (Int32.ofNat J)), .unset]) rfl) ?_
  show Go p e below T4 (mkF m 14 #[.val (.ref ca), .val (.int (0 : Int32)), .val (.int n), .val (.ref b1), .val (.int (Int32.ofNat J)), .unset] []) _
  refine stp (fun _ => XS.iload X4.here hx rfl (hb hby d8_14) rfl) ?_
  show Go p e below T4 (mkF m 16 #[.val (.ref ca), .val (.int (0 : Int32)), .val (.int n), .val (.ref b1), .val (.int (Int32.ofNat J)), .unset] [(.int (Int32.ofNat J))]) _
  refine stp (fun _ => XS.iloadN X4.here hx rfl (hb hby d8_16) rfl) ?_
  show Go p e below T4 (mkF m 17 #[.val (.ref ca), .val (.int (0 : Int32)), .val (.int n), .val (.ref b1), .val (.int (Int32.ofNat J)), .unset] [(.int n), (.int (Int32.ofNat J))]) _
  refine stp (fun _ => XS.icmpNo X4.here hx rfl (hb hby d8_17) rfl (XT.ii_eq_f (own_neI (own_ofNatI (by omega)) hN (by omega)))) ?_
  show Go p e below T4 (mkF m 20 #[.val (.ref ca), .val (.int (0 : Int32)), .val (.int n), .val (.ref b1), .val (.int (Int32.ofNat J)), .unset] []) _
  refine stp (fun _ => XS.aloadN X4.here hx rfl (hb hby d8_20) rfl rfl) ?_
  show Go p e below T4 (mkF m 21 #[.val (.ref ca), .val (.int (0 : Int32)), .val (.int n), .val (.ref b1), .val (.int (Int32.ofNat J)), .unset] [(.ref ca)]) _
  refine stp (fun _ => XS.iloadN X4.here hx rfl (hb hby d8_21) rfl) ?_
  show Go p e below T4 (mkF m 22 #[.val (.ref ca), .val (.int (0 : Int32)), .val (.int n), .val (.ref b1), .val (.int (Int32.ofNat J)), .unset] [(.int (0 : Int32)), (.ref ca)]) _
  refine stp (fun _ => XS.iloadN X4.here hx rfl (hb hby d8_22) rfl) ?_
  show Go p e below T4 (mkF m 23 #[.val (.ref ca), .val (.int (0 : Int32)), .val (.int n), .val (.ref b1), .val (.int (Int32.ofNat J)), .unset] [(.int n), (.int (0 : Int32)), (.ref ca)]) _
  obtain ⟨_, _, ⟨T7, L7, k7, n7⟩, -, X7, ⟨Lc7, hQ7, l7, y7, z7⟩, st7⟩ := Jvm.LawKit.callS X4 hx (y := (⟨"java/lang/StringUTF16", "toBytes", "([CII)[B"⟩ : MethodName)) hown (mvT hZ (hw _ (List.mem_of_getElem? (i := 80) rfl))) (mvT hZ (hw _ (List.mem_of_getElem? (i := 81) rfl))) (mvT hZ (hw _ (List.mem_of_getElem? (i := 31) rfl))) (mvT hZ (hw _ (List.mem_of_getElem? (i := 82) rfl))) (by decide) (backOf (W := 0) (rm_utb l Z a0 hw [] ca n cs k_ca T4.heap n0 O4 f5 S__assertionsDisabled S_HI_BYTE_SHIFT S_LO_BYTE_SHIFT hN hN1) hZ (hw _ (List.mem_of_getElem? (i := 82) rfl)) (hw _ (List.mem_of_getElem? (i := 31) rfl)) (by decide) (by decide)) (g := (mkF m 23 #[.val (.ref ca), .val (.int (0 : Int32)), .val (.int n), .val (.ref b1), .val (.int (Int32.ofNat J)), .unset] [(.int n), (.int (0 : Int32)), (.ref ca)])) rfl (by rw [hml]; rfl) (argsL := [(.ref ca), (.int (0 : Int32)), (.int n)]) (rest := []) (lenOf pd_4 rfl) rfl (by show 2 * 0 + _ ≤ _; exact Nat.le_of_eq rfl) (hb hby d8_23) (fun _ _ => ⟨rfl, rfl, (by decide : 1 + 1 ≤ _), (by decide : 10 + 20 ≤ _)⟩)
  dsimp only [Pt.U, Pt.locs, Pt.cells, Pt.slots] at X7 l7 y7 z7 st7 hQ7
  subst y7 z7
  obtain ⟨r7, k_r7, rfl, N7q, K7q, ⟨ge_r7, sz7_r7⟩, r7_0, r7_1⟩ := hQ7
  have N7 : Fr n0 L7 := by rw [l7]; exact Fr.app N4 N7q
  have ne8 : b1 ≠ r7 := Nat.ne_of_lt (Nat.lt_of_lt_of_le f6.lt sz7_r7)
  have ne9 : ca ≠ r7 := Nat.ne_of_lt (Nat.lt_of_lt_of_le f5.lt sz7_r7)
  have f10 := f5.keep K7q nin0
  have f11 := f6.keep K7q
  have sz_r7 : h0.size ≤ r7 := Nat.le_trans K4.1 sz7_r7
  have K7 : Keep h0 T7.heap [] := K4.trans K7q all0
  have O7 := O4.keep K7q all0
  refine stp st7 ?_
  show Go p e below T7 (mkF m 26 #[.val (.ref ca), .val (.int (0 : Int32)), .val (.int n), .val (.ref b1), .val (.int (Int32.ofNat J)), .unset] [(.ref r7)]) _
  refine stp (fun _ => XS.astore X7.here hx rfl (hb hby d8_26) rfl rfl (l' := #[.val (.ref ca), .val (.int (0 : Int32)), .val (.int n), .val (.ref b1), .val (.int (Int32.ofNat J)), .val (.ref r7)]) rfl) ?_
  show Go p e below T7 (mkF m 28 #[.val (.ref ca), .val (.int (0 : Int32)), .val (.int n), .val (.ref b1), .val (.int (Int32.ofNat J)), .val (.ref r7)] []) _
  refine stp (fun _ => XS.aload X7.here hx rfl (hb hby d8_28) rfl rfl) ?_
  show Go p e below T7 (mkF m 30 #[.val (.ref ca), .val (.int (0 : Int32)), .val (.int n), .val (.ref b1), .val (.int (Int32.ofNat J)), .val (.ref r7)] [(.ref r7)]) _
  refine stp (fun _ => XS.iload X7.here hx rfl (hb hby d8_30) rfl) ?_
  show Go p e below T7 (mkF m 32 #[.val (.ref ca), .val (.int (0 : Int32)), .val (.int n), .val (.ref b1), .val (.int (Int32.ofNat J)), .val (.ref r7)] [(.int (Int32.ofNat J)), (.ref r7)]) _
  obtain ⟨_, _, ⟨T12, L12, k12, n12⟩, -, X12, ⟨Lc12, hQ12, l12, y12, z12⟩, st12⟩ := Jvm.LawKit.callS X7 hx (y := (⟨"java/lang/StringUTF16", "getChar", "([BI)C"⟩ : MethodName)) hown (mvT hZ (hw _ (List.mem_of_getElem? (i := 96) rfl))) (mvT hZ (hw _ (List.mem_of_getElem? (i := 97) rfl))) (mvT hZ (hw _ (List.mem_of_getElem? (i := 31) rfl))) (mvT hZ (hw _ (List.mem_of_getElem? (i := 98) rfl))) (by decide) (backOf (W := 0) (rm_gc l Z a0 hw [] r7 (Int32.ofNat J) cs J k_r7 T7.heap n0 O7 r7_1 S__assertionsDisabled S_HI_BYTE_SHIFT S_LO_BYTE_SHIFT (own_ofNatI (by omega)) hJ hN1 hsm) hZ (hw _ (List.mem_of_getElem? (i := 98) rfl)) (hw _ (List.mem_of_getElem? (i := 31) rfl)) (by decide) (by decide)) (g := (mkF m 32 #[.val (.ref ca), .val (.int (0 : Int32)), .val (.int n), .val (.ref b1), .val (.int (Int32.ofNat J)), .val (.ref r7)] [(.int (Int32.ofNat J)), (.ref r7)])) rfl (by rw [hml]; rfl) (argsL := [(.ref r7), (.int (Int32.ofNat J))]) (rest := []) (lenOf pd_5 rfl) rfl (by show 2 * 0 + _ ≤ _; exact Nat.le_of_eq rfl) (hb hby d8_32) (fun _ _ => ⟨rfl, rfl, (by decide : 2 + 0 ≤ _), (by decide : 30 + 0 ≤ _)⟩)
  dsimp only [Pt.U, Pt.locs, Pt.cells, Pt.slots] at X12 l12 y12 z12 st12 hQ12
  subst y12 z12
  obtain ⟨rfl, N12q, e12⟩ := hQ12
  have N12 : Fr n0 L12 := by rw [l12]; exact Fr.app N7 N12q
  refine stp st12 ?_
  show Go p e below T12 (mkF m 35 #[.val (.ref ca), .val (.int (0 : Int32)), .val (.int n), .val (.ref b1), .val (.int (Int32.ofNat J)), .val (.ref r7)] [(.int (own_at cs J))]) _
  refine stp (fun _ => XS.sipush X12.here hx rfl (hb hby d8_35)) ?_
  show Go p e below T12 (mkF m 38 #[.val (.ref ca), .val (.int (0 : Int32)), .val (.int n), .val (.ref b1), .val (.int (Int32.ofNat J)), .val (.ref r7)] [(.int (255 : Int32)), (.int (own_at cs J))]) _
  refine stp (fun _ => XS.icmpYes X12.here hx rfl (pc0 := 38) (pc' := 54) rfl (hb hby d8_38) rfl (XT.ii_gt_t hgt) (by decide) (by decide)) ?_
  show Go p e below T12 (mkF m 54 #[.val (.ref ca), .val (.int (0 : Int32)), .val (.int n), .val (.ref b1), .val (.int (Int32.ofNat J)), .val (.ref r7)] []) _
  refine stp (fun _ => XS.aload X12.here hx rfl (hb hby d8_54) rfl rfl) ?_
  show Go p e below T12 (mkF m 56 #[.val (.ref ca), .val (.int (0 : Int32)), .val (.int n), .val (.ref b1), .val (.int (Int32.ofNat J)), .val (.ref r7)] [(.ref r7)]) _
  refine outA X12 hx hret rfl rfl (hb hby d8_56) hlk (by decide) (by decide) ?_
  rw [e12]
  exact ⟨r7, k_r7, rfl, N12, K7, ⟨ge_r7, sz_r7⟩, r7_0, r7_1⟩
theorem d10_0 : decode jdk_52_method_15_code 0 = .ok (.iload_n 1, 1) := by decide +kernel
theorem d10_1 : decode jdk_52_method_15_code 1 = .ok (.aload_n 0, 1) := by decide +kernel
theorem d10_2 : decode jdk_52_method_15_code 2 = .ok (.arraylength, 1) := by decide +kernel
theorem d10_3 : decode jdk_52_method_15_code 3 = .ok (.isub, 1) := by decide +kernel
theorem d10_4 : decode jdk_52_method_15_code 4 = .ok (.bipush 31, 2) := by decide +kernel
theorem d10_6 : decode jdk_52_method_15_code 6 = .ok (.iushr, 1) := by decide +kernel
theorem d10_7 : decode jdk_52_method_15_code 7 = .ok (.i2b, 1) := by decide +kernel
theorem d10_8 : decode jdk_52_method_15_code 8 = .ok (.ireturn, 1) := by decide +kernel
theorem ef_rm_cfa (m : MethodId) (vb : Addr) (n : Int32)  : entryFrame m #[(.ref vb), (.int n)] 2 = mkF m 0 #[.val (.ref vb), .val (.int n)] [] := by first | (simp [entryFrame, mkF, argsToLocals, Value.category]; done) | rfl
def Q_rm_cfa (Z : State) (vb : Addr) (n : Int32) (cs : List Int32) (k_vb : ClassId) (h0 : Heap) (n0 : Nat) (v : Option Value) (h : Heap) (L : List Loc) : Prop := v = some (.int (1 : Int32)) ∧ Fr n0 L ∧ h = h0
theorem pn_7_ : plainName "java/lang/StringUTF16" = true := by first | (simp [plainName, overriddenIn]; done) | decide +kernel
theorem pn_7 : plainFor (⟨"java/lang/StringUTF16", "coderFromArrayLen", "([BI)B"⟩ : MethodName) = true := plainFor_of_name pn_7_
set_option maxRecDepth 65536 in
set_option maxHeartbeats 40000000 in
theorem rm_cfa (l : Launch) (Z : State) (a0 : Array Value) (hw : ∀ d ∈ tables_1, d.before a0 Z = true) (ws : List Jvm.Cond) (vb : Addr) (n : Int32) (cs : List Int32) (k_vb : ClassId) (h0 : Heap) (n0 : Nat) (O0 : Old Z n0 h0) (V_vb : Arf Z h0 vb k_vb .byte (2 * cs.length) (fun x => (.int (own_ub cs x)))) (hN : n.toInt = (cs.length : Int)) (hN1 : cs.length ≤ 10) (h0_ : 0 < cs.length) :
    MetFree l (⟨"java/lang/StringUTF16", "coderFromArrayLen", "([BI)B"⟩ : MethodName) (head1 (Jvm.Cond.code (⟨"java/lang/StringUTF16", "coderFromArrayLen", "([BI)B"⟩ : MethodName) jdk_52_method_15_code 2 (some .byte) :: ws) ({ frames := 0, cells := 0, slots := 0, locals := 0 } : Room)) (fun args_ U => args_ = #[(.ref vb), (.int n)] ∧ Z.Warmed39 U.vm ∧ U.heap = h0) (fun _ _ _ _ _ => True) (fun _ U out_ U' => ∃ val_ loc_, out_ = .returned val_ ∧ (Q_rm_cfa Z vb n cs k_vb h0 n0) val_ U'.heap loc_ ∧ FrameEnd U out_ U' loc_ ({ frames := 0, cells := 0, slots := 0, locals := 0 } : Room).cells ({ frames := 0, cells := 0, slots := 0, locals := 0 } : Room).slots) := by
  refine start (Q := (Q_rm_cfa Z vb n cs k_vb h0 n0)) pn_7 ?_
  intro p e s m below meth c T0 X0 hx hby hml hown hnm hret hlk hZ e0
  replace hown : s.vm.findClass "java/lang/StringUTF16" = some m.cls := hown
  replace hml : c.maxLocals = 2 := hml
  refine goAt (ef_rm_cfa m vb n ) ?_
  have N0 := Fr.nil n0
  show Go p e below T0 (mkF m 0 #[.val (.ref vb), .val (.int n)] []) _
  refine stp (fun _ => XS.iloadN X0.here hx rfl (hb hby d10_0) rfl) ?_
  show Go p e below T0 (mkF m 1 #[.val (.ref vb), .val (.int n)] [(.int n)]) _
  refine stp (fun _ => XS.aloadN X0.here hx rfl (hb hby d10_1) rfl rfl) ?_
  show Go p e below T0 (mkF m 2 #[.val (.ref vb), .val (.int n)] [(.ref vb), (.int n)]) _
  obtain ⟨cl1, Ar1, -, S1, -, -⟩ := (id V_vb)
  refine stp (fun _ => X0.arraylength hx (by rw [e0]; exact Ar1.1) (State.isArrayOf_alike hZ.alike Ar1.2.1) (g := (mkF m 2 #[.val (.ref vb), .val (.int n)] [(.ref vb), (.int n)])) rfl rfl (hb hby d10_2) _) ?_
  rw [arf_len S1 (z := (Int32.ofNat (2 * cs.length))) (own_ofNatI (by omega))]
  show Go p e below T0 (mkF m 3 #[.val (.ref vb), .val (.int n)] [(.int (Int32.ofNat (2 * cs.length))), (.int n)]) _
  refine stp (fun _ => XS.isub X0.here hx rfl (hb hby d10_3) rfl) ?_
  show Go p e below T0 (mkF m 4 #[.val (.ref vb), .val (.int n)] [(.int (n - (Int32.ofNat (2 * cs.length))))]) _
  refine stp (fun _ => XS.bipush X0.here hx rfl (hb hby d10_4)) ?_
  show Go p e below T0 (mkF m 6 #[.val (.ref vb), .val (.int n)] [(.int (31 : Int32)), (.int (n - (Int32.ofNat (2 * cs.length))))]) _
  refine stp (fun _ => XS.iushr X0.here hx rfl (hb hby d10_6) rfl) ?_
  show Go p e below T0 (mkF m 7 #[.val (.ref vb), .val (.int n)] [(.int (((n - (Int32.ofNat (2 * cs.length))).toUInt32 >>> ((31 : Int32) &&& 31).toUInt32).toInt32))]) _
  refine stp (fun _ => XS.i2b X0.here hx rfl (hb hby d10_7) rfl) ?_
  show Go p e below T0 (mkF m 8 #[.val (.ref vb), .val (.int n)] [(.int ((((n - (Int32.ofNat (2 * cs.length))).toUInt32 >>> ((31 : Int32) &&& 31).toUInt32).toInt32).toInt8.toInt32))]) _
  refine outN X0 hx (t := .byte) hret (by simp) (hb hby d10_8) hlk (by decide) (by decide) ?_
  exact ⟨own_somei (own_cfa hN hN1 h0_), N0, e0⟩
theorem d6_0 : decode jdk_42_method_149_code 0 = .ok (.aload_n 0, 1) := by decide +kernel
theorem d6_1 : decode jdk_42_method_149_code 1 = .ok (.invokespecial 1, 3) := by decide +kernel
theorem d6_4 : decode jdk_42_method_149_code 4 = .ok (.iload_n 3, 1) := by decide +kernel
theorem d6_5 : decode jdk_42_method_149_code 5 = .ok (.ifCond .ne 22, 3) := by decide +kernel
theorem d6_27 : decode jdk_42_method_149_code 27 = .ok (.getstatic 38, 3) := by decide +kernel
theorem d6_30 : decode jdk_42_method_149_code 30 = .ok (.ifCond .eq 28, 3) := by decide +kernel
theorem d6_33 : decode jdk_42_method_149_code 33 = .ok (.aload_n 1, 1) := by decide +kernel
theorem d6_34 : decode jdk_42_method_149_code 34 = .ok (.iload_n 2, 1) := by decide +kernel
theorem d6_35 : decode jdk_42_method_149_code 35 = .ok (.iload_n 3, 1) := by decide +kernel
theorem d6_36 : decode jdk_42_method_149_code 36 = .ok (.invokestatic 177, 3) := by decide +kernel
theorem d6_39 : decode jdk_42_method_149_code 39 = .ok (.astore 5, 2) := by decide +kernel
theorem d6_41 : decode jdk_42_method_149_code 41 = .ok (.aload_n 0, 1) := by decide +kernel
theorem d6_42 : decode jdk_42_method_149_code 42 = .ok (.aload 5, 2) := by decide +kernel
theorem d6_44 : decode jdk_42_method_149_code 44 = .ok (.iload_n 3, 1) := by decide +kernel
theorem d6_45 : decode jdk_42_method_149_code 45 = .ok (.invokestatic 47, 3) := by decide +kernel
theorem pd_6 : parseMethodDescriptor "([BI)B" = some ⟨[(.array .byte), .int], some .byte⟩ := by decide +kernel
theorem d6_48 : decode jdk_42_method_149_code 48 = .ok (.putfield 15, 3) := by decide +kernel
theorem d6_51 : decode jdk_42_method_149_code 51 = .ok (.aload_n 0, 1) := by decide +kernel
theorem d6_52 : decode jdk_42_method_149_code 52 = .ok (.aload 5, 2) := by decide +kernel
theorem d6_54 : decode jdk_42_method_149_code 54 = .ok (.putfield 9, 3) := by decide +kernel
theorem d6_57 : decode jdk_42_method_149_code 57 = .ok (.return_, 1) := by decide +kernel
theorem ef_rm_u4 (m : MethodId) (t : Addr) (ca : Addr) (n : Int32)  : entryFrame m #[(.ref t), (.ref ca), (.int (0 : Int32)), (.int n), .null] 6 = mkF m 0 #[.val (.ref t), .val (.ref ca), .val (.int (0 : Int32)), .val (.int n), .val .null, .unset] [] := by first | (simp [entryFrame, mkF, argsToLocals, Value.category]; done) | rfl
def Q_rm_u4 (Z : State) (t : Addr) (ca : Addr) (n : Int32) (cs : List Int32) (cz : Int32) (J : Nat) (k_ca : ClassId) (h0 : Heap) (n0 : Nat) (v : Option Value) (h : Heap) (L : List Loc) : Prop := v = none ∧ Fr n0 L ∧ Keep h0 h [t] ∧ UStr Z h t cs
theorem pn_8_ : plainName "java/lang/String" = true := by first | (simp [plainName, overriddenIn]; done) | decide +kernel
theorem pn_8 : plainFor (⟨"java/lang/String", "<init>", "([CIILjava/lang/Void;)V"⟩ : MethodName) = true := plainFor_of_name pn_8_
set_option maxRecDepth 65536 in
set_option maxHeartbeats 40000000 in
theorem rm_u4 (l : Launch) (Z : State) (a0 : Array Value) (hw : ∀ d ∈ tables_1, d.before a0 Z = true) (ws : List Jvm.Cond) (t : Addr) (ca : Addr) (n : Int32) (cs : List Int32) (cz : Int32) (J : Nat) (k_ca : ClassId) (h0 : Heap) (n0 : Nat) (O0 : Old Z n0 h0) (E_t : Exa Z h0 t "java/lang/String") (F_t_value : Fld Z h0 t "java/lang/String" "value" "[B" .null) (F_t_coder : Fld Z h0 t "java/lang/String" "coder" "B" (.int (0 : Int32))) (V_ca : Arf Z h0 ca k_ca .char cs.length (fun i => (.int (own_at cs i)))) (S_COMPACT_STRINGS : Sta Z Z.heap "java/lang/String" "COMPACT_STRINGS" "Z" (.int cz)) (S__assertionsDisabled : Sta Z Z.heap "java/lang/StringUTF16" "$assertionsDisabled" "Z" (.int (1 : Int32))) (S_HI_BYTE_SHIFT : Sta Z Z.heap "java/lang/StringUTF16" "HI_BYTE_SHIFT" "I" (.int (0 : Int32))) (S_LO_BYTE_SHIFT : Sta Z Z.heap "java/lang/StringUTF16" "LO_BYTE_SHIFT" "I" (.int (8 : Int32))) (ge_t : n0 ≤ t) (ne_ca_t : ca ≠ t) (hcz : ¬ cz = (0 : Int32)) (hN : n.toInt = (cs.length : Int)) (hN1 : cs.length ≤ 10) (hsm : ∀ c ∈ cs, ¬ c < 0 ∧ ¬ (65535 : Int32) < c) (hJ : J < cs.length) (hgt : (255 : Int32) < own_at cs J) (hle : ∀ i, i < J → ¬ (255 : Int32) < own_at cs i) :
    MetFree l (⟨"java/lang/String", "<init>", "([CIILjava/lang/Void;)V"⟩ : MethodName) (head1 (Jvm.Cond.code (⟨"java/lang/String", "<init>", "([CIILjava/lang/Void;)V"⟩ : MethodName) jdk_42_method_149_code 6 none :: ws) ({ frames := 4, cells := 2, slots := 30, locals := 57 } : Room)) (fun args_ U => args_ = #[(.ref t), (.ref ca), (.int (0 : Int32)), (.int n), .null] ∧ Z.Warmed39 U.vm ∧ U.heap = h0) (fun _ _ _ _ _ => True) (fun _ U out_ U' => ∃ val_ loc_, out_ = .returned val_ ∧ (Q_rm_u4 Z t ca n cs cz J k_ca h0 n0) val_ U'.heap loc_ ∧ FrameEnd U out_ U' loc_ ({ frames := 4, cells := 2, slots := 30, locals := 57 } : Room).cells ({ frames := 4, cells := 2, slots := 30, locals := 57 } : Room).slots) := by
  refine start (Q := (Q_rm_u4 Z t ca n cs cz J k_ca h0 n0)) pn_8 ?_
  intro p e s m below meth c T0 X0 hx hby hml hown hnm hret hlk hZ e0
  replace hown : s.vm.findClass "java/lang/String" = some m.cls := hown
  replace hml : c.maxLocals = 6 := hml
  refine goAt (ef_rm_u4 m t ca n ) ?_
  have N0 := Fr.nil n0
  show Go p e below T0 (mkF m 0 #[.val (.ref t), .val (.ref ca), .val (.int (0 : Int32)), .val (.int n), .val .null, .unset] []) _
  refine stp (fun _ => XS.aloadN X0.here hx rfl (hb hby d6_0) rfl rfl) ?_
  show Go p e below T0 (mkF m 1 #[.val (.ref t), .val (.ref ca), .val (.int (0 : Int32)), .val (.int n), .val .null, .unset] [(.ref t)]) _
  obtain ⟨T1, X1, e1, st1⟩ := initO X0 hx hZ hown (hw _ (List.mem_of_getElem? (i := 25) rfl)) (hw _ (List.mem_of_getElem? (i := 26) rfl)) (hw _ (List.mem_of_getElem? (i := 27) rfl)) e0 (g := (mkF m 1 #[.val (.ref t), .val (.ref ca), .val (.int (0 : Int32)), .val (.int n), .val .null, .unset] [(.ref t)])) rfl (by rw [hml]; rfl) rfl (hb hby d6_1) (by decide) (W := 0) (by show 2 * 0 + _ ≤ _; exact Nat.le_of_eq rfl) (by decide)
  refine stp st1 ?_
  show Go p e below T1 (mkF m 4 #[.val (.ref t), .val (.ref ca), .val (.int (0 : Int32)), .val (.int n), .val .null, .unset] []) _
  refine stp (fun _ => XS.iloadN X1.here hx rfl (hb hby d6_4) rfl) ?_
  show Go p e below T1 (mkF m 5 #[.val (.ref t), .val (.ref ca), .val (.int (0 : Int32)), .val (.int n), .val .null, .unset] [(.int n)]) _
  refine stp (fun _ => XS.ifYes X1.here hx rfl (pc0 := 5) (pc' := 27) rfl (hb hby d6_5) rfl (XT.i0_ne_t (own_uz hN (by omega))) (by decide) (by decide)) ?_
  show Go p e below T1 (mkF m 27 #[.val (.ref t), .val (.ref ca), .val (.int (0 : Int32)), .val (.int n), .val .null, .unset] []) _
  obtain ⟨T2, X2, e2, st2⟩ := getS2 X1 hx hZ hown (host := "") (Or.inl (hw _ (List.mem_of_getElem? (i := 28) rfl))) Via.refl e1 (S_COMPACT_STRINGS.ext O0.2) (g := (mkF m 27 #[.val (.ref t), .val (.ref ca), .val (.int (0 : Int32)), .val (.int n), .val .null, .unset] [])) rfl (hb hby d6_27)
  refine stp st2 ?_
  show Go p e below T2 (mkF m 30 #[.val (.ref t), .val (.ref ca), .val (.int (0 : Int32)), .val (.int n), .val .null, .unset] [(.int cz)]) _
  refine stp (fun _ => XS.ifNo X2.here hx rfl (hb hby d6_30) rfl (XT.i0_eq_f hcz)) ?_
  show Go p e below T2 (mkF m 33 #[.val (.ref t), .val (.ref ca), .val (.int (0 : Int32)), .val (.int n), .val .null, .unset] []) _
  refine stp (fun _ => XS.aloadN X2.here hx rfl (hb hby d6_33) rfl rfl) ?_
  show Go p e below T2 (mkF m 34 #[.val (.ref t), .val (.ref ca), .val (.int (0 : Int32)), .val (.int n), .val .null, .unset] [(.ref ca)]) _
  refine stp (fun _ => XS.iloadN X2.here hx rfl (hb hby d6_34) rfl) ?_
  show Go p e below T2 (mkF m 35 #[.val (.ref t), .val (.ref ca), .val (.int (0 : Int32)), .val (.int n), .val .null, .unset] [(.int (0 : Int32)), (.ref ca)]) _
  refine stp (fun _ => XS.iloadN X2.here hx rfl (hb hby d6_35) rfl) ?_
  show Go p e below T2 (mkF m 36 #[.val (.ref t), .val (.ref ca), .val (.int (0 : Int32)), .val (.int n), .val .null, .unset] [(.int n), (.int (0 : Int32)), (.ref ca)]) _
  obtain ⟨_, _, ⟨T3, L3, k3, n3⟩, -, X3, ⟨Lc3, hQ3, l3, y3, z3⟩, st3⟩ := Jvm.LawKit.callS X2 hx (y := (⟨"java/lang/StringUTF16", "compress", "([CII)[B"⟩ : MethodName)) hown (mvT hZ (hw _ (List.mem_of_getElem? (i := 29) rfl))) (mvT hZ (hw _ (List.mem_of_getElem? (i := 30) rfl))) (mvT hZ (hw _ (List.mem_of_getElem? (i := 31) rfl))) (mvT hZ (hw _ (List.mem_of_getElem? (i := 32) rfl))) (by decide) (backOf (W := 0) (rm_c3 l Z a0 hw [] ca n cs J k_ca h0 n0 O0 V_ca S__assertionsDisabled S_HI_BYTE_SHIFT S_LO_BYTE_SHIFT hN hN1 hsm hJ hgt hle) hZ (hw _ (List.mem_of_getElem? (i := 32) rfl)) (hw _ (List.mem_of_getElem? (i := 31) rfl)) (by decide) (by decide)) (g := (mkF m 36 #[.val (.ref t), .val (.ref ca), .val (.int (0 : Int32)), .val (.int n), .val .null, .unset] [(.int n), (.int (0 : Int32)), (.ref ca)])) rfl (by rw [hml]; rfl) (argsL := [(.ref ca), (.int (0 : Int32)), (.int n)]) (rest := []) (lenOf pd_4 rfl) rfl (by show 2 * 0 + _ ≤ _; exact Nat.le_of_eq rfl) (hb hby d6_36) (fun _ _ => ⟨rfl, e2, (by decide : 0 + 2 ≤ _), (by decide : 0 + 30 ≤ _)⟩)
  dsimp only [Pt.U, Pt.locs, Pt.cells, Pt.slots] at X3 l3 y3 z3 st3 hQ3
  subst y3 z3
  obtain ⟨r3, k_r3, rfl, N3q, K3q, ⟨ge_r3, sz3_r3⟩, r3_0, r3_1⟩ := hQ3
  have N3 : Fr n0 L3 := by rw [l3]; exact Fr.app N0 N3q
  have ne4 : ca ≠ r3 := Nat.ne_of_lt (Nat.lt_of_lt_of_le V_ca.lt sz3_r3)
  have ne5 : t ≠ r3 := Nat.ne_of_lt (Nat.lt_of_lt_of_le E_t.lt sz3_r3)
  have f6 := E_t.keep K3q
  have f7 := F_t_value.keep K3q nin0
  have f8 := F_t_coder.keep K3q nin0
  have f9 := V_ca.keep K3q nin0
  have sz_r3 : h0.size ≤ r3 := Nat.le_trans (Keep.refl h0 [t]).1 sz3_r3
  have K3 : Keep h0 T3.heap [t] := (Keep.refl h0 [t]).trans K3q all0
  have O3 := O0.keep K3q all0
  refine stp st3 ?_
  show Go p e below T3 (mkF m 39 #[.val (.ref t), .val (.ref ca), .val (.int (0 : Int32)), .val (.int n), .val .null, .unset] [(.ref r3)]) _
  refine stp (fun _ => XS.astore X3.here hx rfl (hb hby d6_39) rfl rfl (l' := #[.val (.ref t), .val (.ref ca), .val (.int (0 : Int32)), .val (.int n), .val .null, .val (.ref r3)]) rfl) ?_
  show Go p e below T3 (mkF m 41 #[.val (.ref t), .val (.ref ca), .val (.int (0 : Int32)), .val (.int n), .val .null, .val (.ref r3)] []) _
  refine stp (fun _ => XS.aloadN X3.here hx rfl (hb hby d6_41) rfl rfl) ?_
  show Go p e below T3 (mkF m 42 #[.val (.ref t), .val (.ref ca), .val (.int (0 : Int32)), .val (.int n), .val .null, .val (.ref r3)] [(.ref t)]) _
  refine stp (fun _ => XS.aload X3.here hx rfl (hb hby d6_42) rfl rfl) ?_
  show Go p e below T3 (mkF m 44 #[.val (.ref t), .val (.ref ca), .val (.int (0 : Int32)), .val (.int n), .val .null, .val (.ref r3)] [(.ref r3), (.ref t)]) _
  refine stp (fun _ => XS.iloadN X3.here hx rfl (hb hby d6_44) rfl) ?_
  show Go p e below T3 (mkF m 45 #[.val (.ref t), .val (.ref ca), .val (.int (0 : Int32)), .val (.int n), .val .null, .val (.ref r3)] [(.int n), (.ref r3), (.ref t)]) _
  obtain ⟨_, _, ⟨T10, L10, k10, n10⟩, -, X10, ⟨Lc10, hQ10, l10, y10, z10⟩, st10⟩ := Jvm.LawKit.callS X3 hx (y := (⟨"java/lang/StringUTF16", "coderFromArrayLen", "([BI)B"⟩ : MethodName)) hown (mvT hZ (hw _ (List.mem_of_getElem? (i := 37) rfl))) (mvT hZ (hw _ (List.mem_of_getElem? (i := 38) rfl))) (mvT hZ (hw _ (List.mem_of_getElem? (i := 31) rfl))) (mvT hZ (hw _ (List.mem_of_getElem? (i := 39) rfl))) (by decide) (backOf (W := 1) (rm_cfa l Z a0 hw [] r3 n cs k_r3 T3.heap n0 O3 r3_1 hN hN1 (by omega)) hZ (hw _ (List.mem_of_getElem? (i := 39) rfl)) (hw _ (List.mem_of_getElem? (i := 31) rfl)) (by decide) (by decide)) (g := (mkF m 45 #[.val (.ref t), .val (.ref ca), .val (.int (0 : Int32)), .val (.int n), .val .null, .val (.ref r3)] [(.int n), (.ref r3), (.ref t)])) rfl (by rw [hml]; rfl) (argsL := [(.ref r3), (.int n)]) (rest := [(.ref t)]) (lenOf pd_6 rfl) rfl (by show 2 * 0 + _ ≤ _; exact Nat.le_of_eq rfl) (hb hby d6_45) (fun _ _ => ⟨rfl, rfl, (by decide : 2 + 0 ≤ _), (by decide : 30 + 0 ≤ _)⟩)
  dsimp only [Pt.U, Pt.locs, Pt.cells, Pt.slots] at X10 l10 y10 z10 st10 hQ10
  subst y10 z10
  obtain ⟨rfl, N10q, e10⟩ := hQ10
  have N10 : Fr n0 L10 := by rw [l10]; exact Fr.app N3 N10q
  refine stp st10 ?_
  show Go p e below T10 (mkF m 48 #[.val (.ref t), .val (.ref ca), .val (.int (0 : Int32)), .val (.int n), .val .null, .val (.ref r3)] [(.int (1 : Int32)), (.ref t)]) _
  obtain ⟨T11, h11, X11, e11, W11, st11⟩ := putFN X10 hx hZ hown (hw _ (List.mem_of_getElem? (i := 40) rfl)) Via.refl e10 f8 f6 (Or.inr ⟨(hw _ (List.mem_of_getElem? (i := 41) rfl)), rfl, hnm⟩) (hw _ (List.mem_of_getElem? (i := 16) rfl)) (ty := .byte) (v' := (.int (1 : Int32))) (by decide) rfl rfl (g := (mkF m 48 #[.val (.ref t), .val (.ref ca), .val (.int (0 : Int32)), .val (.int n), .val .null, .val (.ref r3)] [(.int (1 : Int32)), (.ref t)])) rfl rfl (hb hby d6_48)
  have Fw11 := f8.same W11
  have f12 := f6.wr W11
  have f13 := f7.other W11 (Or.inr (slot_ne (Or.inr (hw _ (List.mem_of_getElem? (i := 43) rfl))) (Or.inr (hw _ (List.mem_of_getElem? (i := 41) rfl))) (by decide) (t := (.array .byte)) (t' := .byte) (by decide) (by decide)))
  have f15 := f9.other W11 ne_ca_t
  have f16 := r3_0.wr W11
  have f17 := r3_1.other W11 (Ne.symm ne5)
  have K11 : Keep h0 h11 [t] := K3.wr W11 (Or.inl (List.mem_of_getElem? (i := 0) rfl))
  have O11 := O3.wr W11 ge_t
  have N11 := Fr.snoc X11 N10 ge_t
  refine stp st11 ?_
  show Go p e below T11 (mkF m 51 #[.val (.ref t), .val (.ref ca), .val (.int (0 : Int32)), .val (.int n), .val .null, .val (.ref r3)] []) _
  refine stp (fun _ => XS.aloadN X11.here hx rfl (hb hby d6_51) rfl rfl) ?_
  show Go p e below T11 (mkF m 52 #[.val (.ref t), .val (.ref ca), .val (.int (0 : Int32)), .val (.int n), .val .null, .val (.ref r3)] [(.ref t)]) _
  refine stp (fun _ => XS.aload X11.here hx rfl (hb hby d6_52) rfl rfl) ?_
  show Go p e below T11 (mkF m 54 #[.val (.ref t), .val (.ref ca), .val (.int (0 : Int32)), .val (.int n), .val .null, .val (.ref r3)] [(.ref r3), (.ref t)]) _
  obtain ⟨T18, h18, X18, e18, W18, st18⟩ := putF X11 hx hZ hown (host := "") (Or.inl (hw _ (List.mem_of_getElem? (i := 42) rfl))) Via.refl e11 f13 f12 (Or.inr ⟨(hw _ (List.mem_of_getElem? (i := 43) rfl)), rfl, hnm⟩) (hw _ (List.mem_of_getElem? (i := 16) rfl)) (ty := (.array .byte)) (by decide) rfl rfl (g := (mkF m 54 #[.val (.ref t), .val (.ref ca), .val (.int (0 : Int32)), .val (.int n), .val .null, .val (.ref r3)] [(.ref r3), (.ref t)])) rfl rfl (hb hby d6_54)
  have Fw18 := f13.same W18
  have f19 := f12.wr W18
  have f21 := Fw11.other W18 (Or.inr (slot_ne (Or.inr (hw _ (List.mem_of_getElem? (i := 41) rfl))) (Or.inr (hw _ (List.mem_of_getElem? (i := 43) rfl))) (by decide) (t := .byte) (t' := (.array .byte)) (by decide) (by decide)))
  have f22 := f15.other W18 ne_ca_t
  have f23 := f16.wr W18
  have f24 := f17.other W18 (Ne.symm ne5)
  have K18 : Keep h0 h18 [t] := K11.wr W18 (Or.inl (List.mem_of_getElem? (i := 0) rfl))
  have O18 := O11.wr W18 ge_t
  have N18 := Fr.snoc X18 N11 ge_t
  refine stp st18 ?_
  show Go p e below T18 (mkF m 57 #[.val (.ref t), .val (.ref ca), .val (.int (0 : Int32)), .val (.int n), .val .null, .val (.ref r3)] []) _
  have Q25 : UStr Z h18 t cs := UStr.of16 f19 Fw18 f21 f24 hsm hN1
  refine outV X18 hx hret (hb hby d6_57) hlk (by decide) (by decide) ?_
  rw [e18]
  exact ⟨rfl, N18, K18, Q25⟩
theorem d9_44 : decode jdk_52_method_21_code 44 = .ok (.iload 4, 2) := by decide +kernel
theorem d9_46 : decode jdk_52_method_21_code 46 = .ok (.ireturn, 1) := by decide +kernel
theorem ef_rm_c5a (m : MethodId) (ca : Addr) (vb : Addr) (n : Int32)  : entryFrame m #[(.ref ca), (.int (0 : Int32)), (.ref vb), (.int (0 : Int32)), (.int n)] 7 = mkF m 0 #[.val (.ref ca), .val (.int (0 : Int32)), .val (.ref vb), .val (.int (0 : Int32)), .val (.int n), .unset, .unset] [] := by first | (simp [entryFrame, mkF, argsToLocals, Value.category]; done) | rfl
def Q_rm_c5a (Z : State) (ca : Addr) (vb : Addr) (n : Int32) (cs : List Int32) (g : Nat → Int32) (k_ca : ClassId) (k_vb : ClassId) (h0 : Heap) (n0 : Nat) (v : Option Value) (h : Heap) (L : List Loc) : Prop := v = some (.int n) ∧ Fr n0 L ∧ Keep h0 h [vb] ∧ Arf Z h vb k_vb .byte cs.length (fun i => (.int (own_by cs i)))
set_option maxRecDepth 65536 in
set_option maxHeartbeats 40000000 in
theorem rm_c5a (l : Launch) (Z : State) (a0 : Array Value) (hw : ∀ d ∈ tables_1, d.before a0 Z = true) (ws : List Jvm.Cond) (ca : Addr) (vb : Addr) (n : Int32) (cs : List Int32) (g : Nat → Int32) (k_ca : ClassId) (k_vb : ClassId) (h0 : Heap) (n0 : Nat) (O0 : Old Z n0 h0) (V_ca : Arf Z h0 ca k_ca .char cs.length (fun i => (.int (own_at cs i)))) (V_vb : Arf Z h0 vb k_vb .byte cs.length (fun x => (.int (g x)))) (ge_vb : n0 ≤ vb) (ne_ca_vb : ca ≠ vb) (hN : n.toInt = (cs.length : Int)) (hN1 : cs.length ≤ 10) (hall : ∀ i, i < cs.length → ¬ (255 : Int32) < own_at cs i) :
    MetFree l (⟨"java/lang/StringUTF16", "compress", "([CI[BII)I"⟩ : MethodName) (head1 (Jvm.Cond.code (⟨"java/lang/StringUTF16", "compress", "([CI[BII)I"⟩ : MethodName) jdk_52_method_21_code 7 (some .int) :: ws) ({ frames := 0, cells := 0, slots := 0, locals := 0 } : Room)) (fun args_ U => args_ = #[(.ref ca), (.int (0 : Int32)), (.ref vb), (.int (0 : Int32)), (.int n)] ∧ Z.Warmed39 U.vm ∧ U.heap = h0) (fun _ _ _ _ _ => True) (fun _ U out_ U' => ∃ val_ loc_, out_ = .returned val_ ∧ (Q_rm_c5a Z ca vb n cs g k_ca k_vb h0 n0) val_ U'.heap loc_ ∧ FrameEnd U out_ U' loc_ ({ frames := 0, cells := 0, slots := 0, locals := 0 } : Room).cells ({ frames := 0, cells := 0, slots := 0, locals := 0 } : Room).slots) := by
  refine start (Q := (Q_rm_c5a Z ca vb n cs g k_ca k_vb h0 n0)) pn_4 ?_
  intro p e s m below meth c T0 X0 hx hby hml hown hnm hret hlk hZ e0
  replace hown : s.vm.findClass "java/lang/StringUTF16" = some m.cls := hown
  replace hml : c.maxLocals = 7 := hml
  refine goAt (ef_rm_c5a m ca vb n ) ?_
  have N0 := Fr.nil n0
  show Go p e below T0 (mkF m 0 #[.val (.ref ca), .val (.int (0 : Int32)), .val (.ref vb), .val (.int (0 : Int32)), .val (.int n), .unset, .unset] []) _
  refine stp (fun _ => XS.iconst X0.here hx rfl (hb hby d9_0)) ?_
  show Go p e below T0 (mkF m 1 #[.val (.ref ca), .val (.int (0 : Int32)), .val (.ref vb), .val (.int (0 : Int32)), .val (.int n), .unset, .unset] [(.int (0 : Int32))]) _
  refine stp (fun _ => XS.istore X0.here hx rfl (hb hby d9_1) rfl (l' := #[.val (.ref ca), .val (.int (0 : Int32)), .val (.ref vb), .val (.int (0 : Int32)), .val (.int n), .val (.int (0 : Int32)), .unset]) rfl) ?_
  show Go p e below T0 (mkF m 3 #[.val (.ref ca), .val (.int (0 : Int32)), .val (.ref vb), .val (.int (0 : Int32)), .val (.int n), .val (.int (0 : Int32)), .unset] []) _
  have G0 : Arf Z h0 vb k_vb .byte cs.length (fun x => (.int (own_byj cs g 0 x))) := V_vb.congr (fun x _ => congrArg Value.int (own_byj0 cs g x))
  have loop3 : ∀ (d : Nat), ∀ (j : Nat) (i1 : Int32) (i3 : Int32) (i5 : Int32) (s6 : Slot), j + d = cs.length → ∀ (T : State) (locs : List Loc) (hA : Heap) (X : Stand p l e ({ frames := 0, cells := 0, slots := 0, locals := 0 } : Room) s m #[(.ref ca), (.int (0 : Int32)), (.ref vb), (.int (0 : Int32)), (.int n)] below meth c T locs 0 0) (eA : T.heap = hA) (NA : Fr n0 locs) (OA : Old Z n0 hA) (KA : Keep h0 hA [vb]) (FA0 : Arf Z hA ca k_ca .char cs.length (fun i => (.int (own_at cs i)))) (FA1 : Arf Z hA vb k_vb .byte cs.length (fun x => (.int (own_byj cs g j x)))), i1.toInt = (j : Int) → i3.toInt = (j : Int) → i5.toInt = (j : Int) → (s6 = .unset ∨ ∃ x, s6 = .val (.int x)) → Go p e below T (mkF m 3 #[.val (.ref ca), .val (.int i1), .val (.ref vb), .val (.int i3), .val (.int n), .val (.int i5), s6] []) (Po s (Q_rm_c5a Z ca vb n cs g k_ca k_vb h0 n0) ({ frames := 0, cells := 0, slots := 0, locals := 0 } : Room).cells ({ frames := 0, cells := 0, slots := 0, locals := 0 } : Room).slots) := by
    intro d
    induction d with
    | zero =>
      intro j i1 i3 i5 s6 hd_ T locs hA X eA NA OA KA FA0 FA1 hi1 hi3 hi5 hs6
      have hjN : j = cs.length := hd_
      show Go p e below T (mkF m 3 #[.val (.ref ca), .val (.int i1), .val (.ref vb), .val (.int i3), .val (.int n), .val (.int i5), s6] []) _
      refine stp (fun _ => XS.iload X.here hx rfl (hb hby d9_3) rfl) ?_
      show Go p e below T (mkF m 5 #[.val (.ref ca), .val (.int i1), .val (.ref vb), .val (.int i3), .val (.int n), .val (.int i5), s6] [(.int i5)]) _
      refine stp (fun _ => XS.iload X.here hx rfl (hb hby d9_5) rfl) ?_
      show Go p e below T (mkF m 7 #[.val (.ref ca), .val (.int i1), .val (.ref vb), .val (.int i3), .val (.int n), .val (.int i5), s6] [(.int n), (.int i5)]) _
      refine stp (fun _ => XS.icmpYes X.here hx rfl (pc0 := 7) (pc' := 44) rfl (hb hby d9_7) rfl (XT.ii_ge_t (own_geI hi5 hN (by omega))) (by decide) (by decide)) ?_
      show Go p e below T (mkF m 44 #[.val (.ref ca), .val (.int i1), .val (.ref vb), .val (.int i3), .val (.int n), .val (.int i5), s6] []) _
      have G2 : Arf Z hA vb k_vb .byte cs.length (fun i => (.int (own_by cs i))) := FA1.congr (fun x hx_ => congrArg Value.int (by rw [hjN]; exact own_byjN hx_))
      refine stp (fun _ => XS.iload X.here hx rfl (hb hby d9_44) rfl) ?_
      show Go p e below T (mkF m 46 #[.val (.ref ca), .val (.int i1), .val (.ref vb), .val (.int i3), .val (.int n), .val (.int i5), s6] [(.int n)]) _
      refine outI X hx hret (hb hby d9_46) hlk (by decide) (by decide) ?_
      rw [eA]
      exact ⟨rfl, NA, KA, G2⟩
    | succ d ih =>
      intro j i1 i3 i5 s6 hd_ T locs hA X eA NA OA KA FA0 FA1 hi1 hi3 hi5 hs6
      have hjl : j < cs.length := by omega
      show Go p e below T (mkF m 3 #[.val (.ref ca), .val (.int i1), .val (.ref vb), .val (.int i3), .val (.int n), .val (.int i5), s6] []) _
      refine stp (fun _ => XS.iload X.here hx rfl (hb hby d9_3) rfl) ?_
      show Go p e below T (mkF m 5 #[.val (.ref ca), .val (.int i1), .val (.ref vb), .val (.int i3), .val (.int n), .val (.int i5), s6] [(.int i5)]) _
      refine stp (fun _ => XS.iload X.here hx rfl (hb hby d9_5) rfl) ?_
      show Go p e below T (mkF m 7 #[.val (.ref ca), .val (.int i1), .val (.ref vb), .val (.int i3), .val (.int n), .val (.int i5), s6] [(.int n), (.int i5)]) _
      refine stp (fun _ => XS.icmpNo X.here hx rfl (hb hby d9_7) rfl (XT.ii_ge_f (own_ltI hi5 hN hjl))) ?_
      show Go p e below T (mkF m 10 #[.val (.ref ca), .val (.int i1), .val (.ref vb), .val (.int i3), .val (.int n), .val (.int i5), s6] []) _
      refine stp (fun _ => XS.aloadN X.here hx rfl (hb hby d9_10) rfl rfl) ?_
      show Go p e below T (mkF m 11 #[.val (.ref ca), .val (.int i1), .val (.ref vb), .val (.int i3), .val (.int n), .val (.int i5), s6] [(.ref ca)]) _
      refine stp (fun _ => XS.iloadN X.here hx rfl (hb hby d9_11) rfl) ?_
      show Go p e below T (mkF m 12 #[.val (.ref ca), .val (.int i1), .val (.ref vb), .val (.int i3), .val (.int n), .val (.int i5), s6] [(.int i1), (.ref ca)]) _
      obtain ⟨cl1, Ar1, q1, S1, H1, G1⟩ := (id FA0)
      have in1 : ¬ (i1 < 0 ∨ cl1.slots.size ≤ (i1).toNatClampNeg) := arf_in S1 hi1 hjl
      have at1 : cl1.slots[(i1).toNatClampNeg]? = some (.int (own_at cs j)) := arf_at H1 hi1 hjl
      refine stp (fun _ => X.caload hx (j := i1) (v := (.int (own_at cs j))) (by rw [eA]; exact Ar1.1) (State.isArrayOf_alike hZ.alike Ar1.2.1) Ar1.2.2 in1 at1 (g := (mkF m 12 #[.val (.ref ca), .val (.int i1), .val (.ref vb), .val (.int i3), .val (.int n), .val (.int i5), s6] [(.int i1), (.ref ca)])) rfl rfl (hb hby d9_12) _) ?_
      show Go p e below T (mkF m 13 #[.val (.ref ca), .val (.int i1), .val (.ref vb), .val (.int i3), .val (.int n), .val (.int i5), s6] [(.int (own_at cs j))]) _
      refine stp (fun _ => XS.istore X.here hx rfl (hb hby d9_13) rfl (l' := #[.val (.ref ca), .val (.int i1), .val (.ref vb), .val (.int i3), .val (.int n), .val (.int i5), .val (.int (own_at cs j))]) (by rcases hs6 with h | ⟨x, h⟩ <;> subst h <;> rfl)) ?_
      show Go p e below T (mkF m 15 #[.val (.ref ca), .val (.int i1), .val (.ref vb), .val (.int i3), .val (.int n), .val (.int i5), .val (.int (own_at cs j))] []) _
      refine stp (fun _ => XS.iload X.here hx rfl (hb hby d9_15) rfl) ?_
      show Go p e below T (mkF m 17 #[.val (.ref ca), .val (.int i1), .val (.ref vb), .val (.int i3), .val (.int n), .val (.int i5), .val (.int (own_at cs j))] [(.int (own_at cs j))]) _
      refine stp (fun _ => XS.sipush X.here hx rfl (hb hby d9_17)) ?_
      show Go p e below T (mkF m 20 #[.val (.ref ca), .val (.int i1), .val (.ref vb), .val (.int i3), .val (.int n), .val (.int i5), .val (.int (own_at cs j))] [(.int (255 : Int32)), (.int (own_at cs j))]) _
      refine stp (fun _ => XS.icmpYes X.here hx rfl (pc0 := 20) (pc' := 26) rfl (hb hby d9_20) rfl (XT.ii_le_t (hall j hjl)) (by decide) (by decide)) ?_
      show Go p e below T (mkF m 26 #[.val (.ref ca), .val (.int i1), .val (.ref vb), .val (.int i3), .val (.int n), .val (.int i5), .val (.int (own_at cs j))] []) _
      refine stp (fun _ => XS.aloadN X.here hx rfl (hb hby d9_26) rfl rfl) ?_
      show Go p e below T (mkF m 27 #[.val (.ref ca), .val (.int i1), .val (.ref vb), .val (.int i3), .val (.int n), .val (.int i5), .val (.int (own_at cs j))] [(.ref vb)]) _
      refine stp (fun _ => XS.iloadN X.here hx rfl (hb hby d9_27) rfl) ?_
      show Go p e below T (mkF m 28 #[.val (.ref ca), .val (.int i1), .val (.ref vb), .val (.int i3), .val (.int n), .val (.int i5), .val (.int (own_at cs j))] [(.int i3), (.ref vb)]) _
      refine stp (fun _ => XS.iload X.here hx rfl (hb hby d9_28) rfl) ?_
      show Go p e below T (mkF m 30 #[.val (.ref ca), .val (.int i1), .val (.ref vb), .val (.int i3), .val (.int n), .val (.int i5), .val (.int (own_at cs j))] [(.int (own_at cs j)), (.int i3), (.ref vb)]) _
      refine stp (fun _ => XS.i2b X.here hx rfl (hb hby d9_30) rfl) ?_
      show Go p e below T (mkF m 31 #[.val (.ref ca), .val (.int i1), .val (.ref vb), .val (.int i3), .val (.int n), .val (.int i5), .val (.int (own_at cs j))] [(.int ((own_at cs j).toInt8.toInt32)), (.int i3), (.ref vb)]) _
      obtain ⟨cl2, Ar2, q2, S2, H2, G2⟩ := (id FA1)
      have in2 : ¬ (i3 < 0 ∨ cl2.slots.size ≤ (i3).toNatClampNeg) := arf_in S2 hi3 hjl
      obtain ⟨T2, h2, X2, e2, W2, st2⟩ := stB X hx hZ eA Ar2 (j := i3) in2 (g := (mkF m 31 #[.val (.ref ca), .val (.int i1), .val (.ref vb), .val (.int i3), .val (.int n), .val (.int i5), .val (.int (own_at cs j))] [(.int ((own_at cs j).toInt8.toInt32)), (.int i3), (.ref vb)])) rfl rfl (hb hby d9_31)
      have V2 := Arf.set Ar2 q2 S2 H2 G2 (ow_fits_byte byte_twice) (arf_ix hi3 ▸ (ow_wr_byte byte_twice W2)) hjl
      replace V2 : Arf Z h2 vb k_vb .byte cs.length (fun x => (.int (own_byj cs g (j + 1) x))) := V2.congr (fun x _ => own_byjS cs g j x)
      have f3 := FA0.other W2 ne_ca_vb
      have K2 : Keep h0 h2 [vb] := KA.wr W2 (Or.inl (List.mem_of_getElem? (i := 0) rfl))
      have O2 := OA.wr W2 ge_vb
      have N2 := Fr.snoc X2 NA ge_vb
      refine stp st2 ?_
      show Go p e below T2 (mkF m 32 #[.val (.ref ca), .val (.int i1), .val (.ref vb), .val (.int i3), .val (.int n), .val (.int i5), .val (.int (own_at cs j))] []) _
      refine stp (fun _ => XS.iinc X2.here hx rfl (hb hby d9_32) rfl (l' := #[.val (.ref ca), .val (.int (i1 + (1 : Int32))), .val (.ref vb), .val (.int i3), .val (.int n), .val (.int i5), .val (.int (own_at cs j))]) rfl) ?_
      show Go p e below T2 (mkF m 35 #[.val (.ref ca), .val (.int (i1 + (1 : Int32))), .val (.ref vb), .val (.int i3), .val (.int n), .val (.int i5), .val (.int (own_at cs j))] []) _
      refine stp (fun _ => XS.iinc X2.here hx rfl (hb hby d9_35) rfl (l' := #[.val (.ref ca), .val (.int (i1 + (1 : Int32))), .val (.ref vb), .val (.int (i3 + (1 : Int32))), .val (.int n), .val (.int i5), .val (.int (own_at cs j))]) rfl) ?_
      show Go p e below T2 (mkF m 38 #[.val (.ref ca), .val (.int (i1 + (1 : Int32))), .val (.ref vb), .val (.int (i3 + (1 : Int32))), .val (.int n), .val (.int i5), .val (.int (own_at cs j))] []) _
      refine stp (fun _ => XS.iinc X2.here hx rfl (hb hby d9_38) rfl (l' := #[.val (.ref ca), .val (.int (i1 + (1 : Int32))), .val (.ref vb), .val (.int (i3 + (1 : Int32))), .val (.int n), .val (.int (i5 + (1 : Int32))), .val (.int (own_at cs j))]) rfl) ?_
      show Go p e below T2 (mkF m 41 #[.val (.ref ca), .val (.int (i1 + (1 : Int32))), .val (.ref vb), .val (.int (i3 + (1 : Int32))), .val (.int n), .val (.int (i5 + (1 : Int32))), .val (.int (own_at cs j))] []) _
      refine stp (fun _ => XS.goto X2.here hx rfl (pc0 := 41) (pc' := 3) rfl (hb hby d9_41) (by decide) (by decide)) ?_
      show Go p e below T2 (mkF m 3 #[.val (.ref ca), .val (.int (i1 + (1 : Int32))), .val (.ref vb), .val (.int (i3 + (1 : Int32))), .val (.int n), .val (.int (i5 + (1 : Int32))), .val (.int (own_at cs j))] []) _
      exact ih (j + 1) (i1 + (1 : Int32)) (i3 + (1 : Int32)) (i5 + (1 : Int32)) (.val (.int (own_at cs j))) (by omega) T2 _ h2 X2 e2 N2 O2 K2 f3 V2 (own_incI hi1 (by omega)) (own_incI hi3 (by omega)) (own_incI hi5 (by omega)) (Or.inr ⟨_, rfl⟩)
  exact loop3 _ 0 (0 : Int32) (0 : Int32) (0 : Int32) .unset (Nat.zero_add _) T0 _ h0 X0 e0 N0 O0 (Keep.refl h0 [vb]) V_ca G0 rfl rfl rfl (Or.inl rfl)
theorem d8_57 : decode jdk_52_method_16_code 57 = .ok (.aload_n 3, 1) := by decide +kernel
theorem d8_58 : decode jdk_52_method_16_code 58 = .ok (.areturn, 1) := by decide +kernel
theorem ef_rm_c3a (m : MethodId) (ca : Addr) (n : Int32)  : entryFrame m #[(.ref ca), (.int (0 : Int32)), (.int n)] 6 = mkF m 0 #[.val (.ref ca), .val (.int (0 : Int32)), .val (.int n), .unset, .unset, .unset] [] := by first | (simp [entryFrame, mkF, argsToLocals, Value.category]; done) | rfl
def Q_rm_c3a (Z : State) (ca : Addr) (n : Int32) (cs : List Int32) (k_ca : ClassId) (h0 : Heap) (n0 : Nat) (v : Option Value) (h : Heap) (L : List Loc) : Prop := ∃ (r : Addr) (k_r : ClassId), v = some (.ref r) ∧ Fr n0 L ∧ Keep h0 h [] ∧ (n0 ≤ r ∧ h0.size ≤ r) ∧ Exa Z h r "[B" ∧ Arf Z h r k_r .byte cs.length (fun i => (.int (own_by cs i)))
set_option maxRecDepth 65536 in
set_option maxHeartbeats 40000000 in
theorem rm_c3a (l : Launch) (Z : State) (a0 : Array Value) (hw : ∀ d ∈ tables_1, d.before a0 Z = true) (ws : List Jvm.Cond) (ca : Addr) (n : Int32) (cs : List Int32) (k_ca : ClassId) (h0 : Heap) (n0 : Nat) (O0 : Old Z n0 h0) (V_ca : Arf Z h0 ca k_ca .char cs.length (fun i => (.int (own_at cs i)))) (hN : n.toInt = (cs.length : Int)) (hN1 : cs.length ≤ 10) (hall : ∀ i, i < cs.length → ¬ (255 : Int32) < own_at cs i) :
    MetFree l (⟨"java/lang/StringUTF16", "compress", "([CII)[B"⟩ : MethodName) (head1 (Jvm.Cond.code (⟨"java/lang/StringUTF16", "compress", "([CII)[B"⟩ : MethodName) jdk_52_method_16_code 6 (some (.array .byte)) :: ws) ({ frames := 1, cells := 1, slots := 10, locals := 18 } : Room)) (fun args_ U => args_ = #[(.ref ca), (.int (0 : Int32)), (.int n)] ∧ Z.Warmed39 U.vm ∧ U.heap = h0) (fun _ _ _ _ _ => True) (fun _ U out_ U' => ∃ val_ loc_, out_ = .returned val_ ∧ (Q_rm_c3a Z ca n cs k_ca h0 n0) val_ U'.heap loc_ ∧ FrameEnd U out_ U' loc_ ({ frames := 1, cells := 1, slots := 10, locals := 18 } : Room).cells ({ frames := 1, cells := 1, slots := 10, locals := 18 } : Room).slots) := by
  refine start (Q := (Q_rm_c3a Z ca n cs k_ca h0 n0)) pn_6 ?_
  intro p e s m below meth c T0 X0 hx hby hml hown hnm hret hlk hZ e0
  replace hown : s.vm.findClass "java/lang/StringUTF16" = some m.cls := hown
  replace hml : c.maxLocals = 6 := hml
  refine goAt (ef_rm_c3a m ca n ) ?_
  have N0 := Fr.nil n0
  show Go p e below T0 (mkF m 0 #[.val (.ref ca), .val (.int (0 : Int32)), .val (.int n), .unset, .unset, .unset] []) _
  refine stp (fun _ => XS.iloadN X0.here hx rfl (hb hby d8_0) rfl) ?_
  show Go p e below T0 (mkF m 1 #[.val (.ref ca), .val (.int (0 : Int32)), .val (.int n), .unset, .unset, .unset] [(.int n)]) _
  obtain ⟨T1, h1, k1, X1, e1, E1, A1, B1, st1⟩ := newPE X0 hx hZ (hw _ (List.mem_of_getElem? (i := 33) rfl)) e0 (g := (mkF m 1 #[.val (.ref ca), .val (.int (0 : Int32)), .val (.int n), .unset, .unset, .unset] [(.int n)])) rfl (hb hby d8_1) rfl (own_u0 hN) (cap := 10) (by rw [arf_ix hN]; exact hN1) (by decide) (by decide) (by decide) (ad := "[B") (by decide)
  obtain ⟨b1, g1⟩ : ∃ z, z = h0.size := ⟨_, rfl⟩
  rw [← g1] at A1 B1 st1
  have ne2 : ca ≠ b1 := Nat.ne_of_lt (Nat.lt_of_lt_of_le V_ca.lt (Nat.le_of_eq g1.symm))
  have sz_b1 : h0.size ≤ b1 := Nat.le_trans (Keep.refl h0 []).1 (Nat.le_of_eq g1.symm)
  have ge_b1 : n0 ≤ b1 := Nat.le_trans (old_le O0) (Nat.le_of_eq g1.symm)
  have f3 := V_ca.ext E1
  have K1 : Keep h0 h1 [] := (Keep.refl h0 []).ext E1
  have O1 := O0.ext E1
  have V1 : Arf Z h1 b1 k1 .byte cs.length (fun _ => (.int (0 : Int32))) := Arf.new A1 (own_u0 hN) (arf_ix hN)
  refine stp st1 ?_
  show Go p e below T1 (mkF m 3 #[.val (.ref ca), .val (.int (0 : Int32)), .val (.int n), .unset, .unset, .unset] [(.ref b1)]) _
  refine stp (fun _ => XS.astoreN X1.here hx rfl (hb hby d8_3) rfl rfl (l' := #[.val (.ref ca), .val (.int (0 : Int32)), .val (.int n), .val (.ref b1), .unset, .unset]) rfl) ?_
  show Go p e below T1 (mkF m 4 #[.val (.ref ca), .val (.int (0 : Int32)), .val (.int n), .val (.ref b1), .unset, .unset] []) _
  refine stp (fun _ => XS.aloadN X1.here hx rfl (hb hby d8_4) rfl rfl) ?_
  show Go p e below T1 (mkF m 5 #[.val (.ref ca), .val (.int (0 : Int32)), .val (.int n), .val (.ref b1), .unset, .unset] [(.ref ca)]) _
  refine stp (fun _ => XS.iloadN X1.here hx rfl (hb hby d8_5) rfl) ?_
  show Go p e below T1 (mkF m 6 #[.val (.ref ca), .val (.int (0 : Int32)), .val (.int n), .val (.ref b1), .unset, .unset] [(.int (0 : Int32)), (.ref ca)]) _
  refine stp (fun _ => XS.aloadN X1.here hx rfl (hb hby d8_6) rfl rfl) ?_
  show Go p e below T1 (mkF m 7 #[.val (.ref ca), .val (.int (0 : Int32)), .val (.int n), .val (.ref b1), .unset, .unset] [(.ref b1), (.int (0 : Int32)), (.ref ca)]) _
  refine stp (fun _ => XS.iconst X1.here hx rfl (hb hby d8_7)) ?_
  show Go p e below T1 (mkF m 8 #[.val (.ref ca), .val (.int (0 : Int32)), .val (.int n), .val (.ref b1), .unset, .unset] [(.int (0 : Int32)), (.ref b1), (.int (0 : Int32)), (.ref ca)]) _
  refine stp (fun _ => XS.iloadN X1.here hx rfl (hb hby d8_8) rfl) ?_
  show Go p e below T1 (mkF m 9 #[.val (.ref ca), .val (.int (0 : Int32)), .val (.int n), .val (.ref b1), .unset, .unset] [(.int n), (.int (0 : Int32)), (.ref b1), (.int (0 : Int32)), (.ref ca)]) _
  obtain ⟨_, _, ⟨T4, L4, k4, n4⟩, -, X4, ⟨Lc4, hQ4, l4, y4, z4⟩, st4⟩ := Jvm.LawKit.callS X1 hx (y := (⟨"java/lang/StringUTF16", "compress", "([CI[BII)I"⟩ : MethodName)) hown (mvT hZ (hw _ (List.mem_of_getElem? (i := 34) rfl))) (mvT hZ (hw _ (List.mem_of_getElem? (i := 35) rfl))) (mvT hZ (hw _ (List.mem_of_getElem? (i := 31) rfl))) (mvT hZ (hw _ (List.mem_of_getElem? (i := 36) rfl))) (by decide) (backOf (W := 0) (rm_c5a l Z a0 hw [] ca b1 n cs (fun _ => (0 : Int32)) k_ca k1 h1 n0 O1 f3 V1 ge_b1 ne2 hN hN1 hall) hZ (hw _ (List.mem_of_getElem? (i := 36) rfl)) (hw _ (List.mem_of_getElem? (i := 31) rfl)) (by decide) (by decide)) (g := (mkF m 9 #[.val (.ref ca), .val (.int (0 : Int32)), .val (.int n), .val (.ref b1), .unset, .unset] [(.int n), (.int (0 : Int32)), (.ref b1), (.int (0 : Int32)), (.ref ca)])) rfl (by rw [hml]; rfl) (argsL := [(.ref ca), (.int (0 : Int32)), (.ref b1), (.int (0 : Int32)), (.int n)]) (rest := []) (lenOf pd_3 rfl) rfl (by show 2 * 0 + _ ≤ _; exact Nat.le_of_eq rfl) (hb hby d8_9) (fun _ _ => ⟨rfl, e1, (by decide : 1 + 0 ≤ _), (by decide : 10 + 0 ≤ _)⟩)
  dsimp only [Pt.U, Pt.locs, Pt.cells, Pt.slots] at X4 l4 y4 z4 st4 hQ4
  subst y4 z4
  obtain ⟨rfl, N4q, K4q, r4_0⟩ := hQ4
  have N4 : Fr n0 L4 := by rw [l4]; exact Fr.app N0 N4q
  have f5 := f3.keep K4q (ninS ne2 nin0)
  have f6 := B1.keep K4q
  have K4 : Keep h0 T4.heap [] := K1.trans K4q (allS (Or.inr sz_b1) all0)
  have O4 := O1.keep K4q (allS ge_b1 all0)
  refine stp st4 ?_
  show Go p e below T4 (mkF m 12 #[.val (.ref ca), .val (.int (0 : Int32)), .val (.int n), .val (.ref b1), .unset, .unset] [(.int n)]) _
  refine stp (fun _ => XS.istore X4.here hx rfl (hb hby d8_12) rfl (l' := #[.val (.ref ca), .val (.int (0 : Int32)), .val (.int n), .val (.ref b1), .val (.int n), .unset]) rfl) ?_
  show Go p e below T4 (mkF m 14 #[.val (.ref ca), .val (.int (0 : Int32)), .val (.int n), .val (.ref b1), .val (.int n), .unset] []) _
  refine stp (fun _ => XS.iload X4.here hx rfl (hb hby d8_14) rfl) ?_
  show Go p e below T4 (mkF m 16 #[.val (.ref ca), .val (.int (0 : Int32)), .val (.int n), .val (.ref b1), .val (.int n), .unset] [(.int n)]) _
  refine stp (fun _ => XS.iloadN X4.here hx rfl (hb hby d8_16) rfl) ?_
  show Go p e below T4 (mkF m 17 #[.val (.ref ca), .val (.int (0 : Int32)), .val (.int n), .val (.ref b1), .val (.int n), .unset] [(.int n), (.int n)]) _
  refine stp (fun _ => XS.icmpYes X4.here hx rfl (pc0 := 17) (pc' := 57) rfl (hb hby d8_17) rfl (XT.ii_eq_t rfl) (by decide) (by decide)) ?_
  show Go p e below T4 (mkF m 57 #[.val (.ref ca), .val (.int (0 : Int32)), .val (.int n), .val (.ref b1), .val (.int n), .unset] []) _
  refine stp (fun _ => XS.aloadN X4.here hx rfl (hb hby d8_57) rfl rfl) ?_
  show Go p e below T4 (mkF m 58 #[.val (.ref ca), .val (.int (0 : Int32)), .val (.int n), .val (.ref b1), .val (.int n), .unset] [(.ref b1)]) _
  refine outA X4 hx hret rfl rfl (hb hby d8_58) hlk (by decide) (by decide) ?_
  exact ⟨b1, k1, rfl, N4, K4, ⟨ge_b1, sz_b1⟩, f6, r4_0⟩
theorem ef_rm_cfaa (m : MethodId) (vb : Addr) (n : Int32)  : entryFrame m #[(.ref vb), (.int n)] 2 = mkF m 0 #[.val (.ref vb), .val (.int n)] [] := by first | (simp [entryFrame, mkF, argsToLocals, Value.category]; done) | rfl
def Q_rm_cfaa (Z : State) (vb : Addr) (n : Int32) (cs : List Int32) (k_vb : ClassId) (h0 : Heap) (n0 : Nat) (v : Option Value) (h : Heap) (L : List Loc) : Prop := v = some (.int (0 : Int32)) ∧ Fr n0 L ∧ h = h0
set_option maxRecDepth 65536 in
set_option maxHeartbeats 40000000 in
theorem rm_cfaa (l : Launch) (Z : State) (a0 : Array Value) (hw : ∀ d ∈ tables_1, d.before a0 Z = true) (ws : List Jvm.Cond) (vb : Addr) (n : Int32) (cs : List Int32) (k_vb : ClassId) (h0 : Heap) (n0 : Nat) (O0 : Old Z n0 h0) (V_vb : Arf Z h0 vb k_vb .byte cs.length (fun i => (.int (own_by cs i)))) (hN : n.toInt = (cs.length : Int)) (hN1 : cs.length ≤ 10) :
    MetFree l (⟨"java/lang/StringUTF16", "coderFromArrayLen", "([BI)B"⟩ : MethodName) (head1 (Jvm.Cond.code (⟨"java/lang/StringUTF16", "coderFromArrayLen", "([BI)B"⟩ : MethodName) jdk_52_method_15_code 2 (some .byte) :: ws) ({ frames := 0, cells := 0, slots := 0, locals := 0 } : Room)) (fun args_ U => args_ = #[(.ref vb), (.int n)] ∧ Z.Warmed39 U.vm ∧ U.heap = h0) (fun _ _ _ _ _ => True) (fun _ U out_ U' => ∃ val_ loc_, out_ = .returned val_ ∧ (Q_rm_cfaa Z vb n cs k_vb h0 n0) val_ U'.heap loc_ ∧ FrameEnd U out_ U' loc_ ({ frames := 0, cells := 0, slots := 0, locals := 0 } : Room).cells ({ frames := 0, cells := 0, slots := 0, locals := 0 } : Room).slots) := by
  refine start (Q := (Q_rm_cfaa Z vb n cs k_vb h0 n0)) pn_7 ?_
  intro p e s m below meth c T0 X0 hx hby hml hown hnm hret hlk hZ e0
  replace hown : s.vm.findClass "java/lang/StringUTF16" = some m.cls := hown
  replace hml : c.maxLocals = 2 := hml
  refine goAt (ef_rm_cfaa m vb n ) ?_
  have N0 := Fr.nil n0
  show Go p e below T0 (mkF m 0 #[.val (.ref vb), .val (.int n)] []) _
  refine stp (fun _ => XS.iloadN X0.here hx rfl (hb hby d10_0) rfl) ?_
  show Go p e below T0 (mkF m 1 #[.val (.ref vb), .val (.int n)] [(.int n)]) _
  refine stp (fun _ => XS.aloadN X0.here hx rfl (hb hby d10_1) rfl rfl) ?_
  show Go p e below T0 (mkF m 2 #[.val (.ref vb), .val (.int n)] [(.ref vb), (.int n)]) _
  obtain ⟨cl1, Ar1, -, S1, -, -⟩ := (id V_vb)
  refine stp (fun _ => X0.arraylength hx (by rw [e0]; exact Ar1.1) (State.isArrayOf_alike hZ.alike Ar1.2.1) (g := (mkF m 2 #[.val (.ref vb), .val (.int n)] [(.ref vb), (.int n)])) rfl rfl (hb hby d10_2) _) ?_
  rw [arf_len S1 (z := (Int32.ofNat cs.length)) (own_ofNatI (by omega))]
  show Go p e below T0 (mkF m 3 #[.val (.ref vb), .val (.int n)] [(.int (Int32.ofNat cs.length)), (.int n)]) _
  refine stp (fun _ => XS.isub X0.here hx rfl (hb hby d10_3) rfl) ?_
  show Go p e below T0 (mkF m 4 #[.val (.ref vb), .val (.int n)] [(.int (n - (Int32.ofNat cs.length)))]) _
  refine stp (fun _ => XS.bipush X0.here hx rfl (hb hby d10_4)) ?_
  show Go p e below T0 (mkF m 6 #[.val (.ref vb), .val (.int n)] [(.int (31 : Int32)), (.int (n - (Int32.ofNat cs.length)))]) _
  refine stp (fun _ => XS.iushr X0.here hx rfl (hb hby d10_6) rfl) ?_
  show Go p e below T0 (mkF m 7 #[.val (.ref vb), .val (.int n)] [(.int (((n - (Int32.ofNat cs.length)).toUInt32 >>> ((31 : Int32) &&& 31).toUInt32).toInt32))]) _
  refine stp (fun _ => XS.i2b X0.here hx rfl (hb hby d10_7) rfl) ?_
  show Go p e below T0 (mkF m 8 #[.val (.ref vb), .val (.int n)] [(.int ((((n - (Int32.ofNat cs.length)).toUInt32 >>> ((31 : Int32) &&& 31).toUInt32).toInt32).toInt8.toInt32))]) _
  refine outN X0 hx (t := .byte) hret (by simp) (hb hby d10_8) hlk (by decide) (by decide) ?_
  exact ⟨own_somei (own_cfa0 hN hN1), N0, e0⟩
theorem ef_rm_u4a (m : MethodId) (t : Addr) (ca : Addr) (n : Int32)  : entryFrame m #[(.ref t), (.ref ca), (.int (0 : Int32)), (.int n), .null] 6 = mkF m 0 #[.val (.ref t), .val (.ref ca), .val (.int (0 : Int32)), .val (.int n), .val .null, .unset] [] := by first | (simp [entryFrame, mkF, argsToLocals, Value.category]; done) | rfl
def Q_rm_u4a (Z : State) (t : Addr) (ca : Addr) (n : Int32) (cs : List Int32) (cz : Int32) (k_ca : ClassId) (h0 : Heap) (n0 : Nat) (v : Option Value) (h : Heap) (L : List Loc) : Prop := v = none ∧ Fr n0 L ∧ Keep h0 h [t] ∧ UStr Z h t cs
set_option maxRecDepth 65536 in
set_option maxHeartbeats 40000000 in
theorem rm_u4a (l : Launch) (Z : State) (a0 : Array Value) (hw : ∀ d ∈ tables_1, d.before a0 Z = true) (ws : List Jvm.Cond) (t : Addr) (ca : Addr) (n : Int32) (cs : List Int32) (cz : Int32) (k_ca : ClassId) (h0 : Heap) (n0 : Nat) (O0 : Old Z n0 h0) (E_t : Exa Z h0 t "java/lang/String") (F_t_value : Fld Z h0 t "java/lang/String" "value" "[B" .null) (F_t_coder : Fld Z h0 t "java/lang/String" "coder" "B" (.int (0 : Int32))) (V_ca : Arf Z h0 ca k_ca .char cs.length (fun i => (.int (own_at cs i)))) (S_COMPACT_STRINGS : Sta Z Z.heap "java/lang/String" "COMPACT_STRINGS" "Z" (.int cz)) (ge_t : n0 ≤ t) (ne_ca_t : ca ≠ t) (hcz : ¬ cz = (0 : Int32)) (hN : n.toInt = (cs.length : Int)) (hN1 : cs.length ≤ 10) (hsm : ∀ c ∈ cs, ¬ c < 0 ∧ ¬ (65535 : Int32) < c) (h0_ : 0 < cs.length) (hall : ∀ i, i < cs.length → ¬ (255 : Int32) < own_at cs i) :
    MetFree l (⟨"java/lang/String", "<init>", "([CIILjava/lang/Void;)V"⟩ : MethodName) (head1 (Jvm.Cond.code (⟨"java/lang/String", "<init>", "([CIILjava/lang/Void;)V"⟩ : MethodName) jdk_42_method_149_code 6 none :: ws) ({ frames := 2, cells := 1, slots := 10, locals := 35 } : Room)) (fun args_ U => args_ = #[(.ref t), (.ref ca), (.int (0 : Int32)), (.int n), .null] ∧ Z.Warmed39 U.vm ∧ U.heap = h0) (fun _ _ _ _ _ => True) (fun _ U out_ U' => ∃ val_ loc_, out_ = .returned val_ ∧ (Q_rm_u4a Z t ca n cs cz k_ca h0 n0) val_ U'.heap loc_ ∧ FrameEnd U out_ U' loc_ ({ frames := 2, cells := 1, slots := 10, locals := 35 } : Room).cells ({ frames := 2, cells := 1, slots := 10, locals := 35 } : Room).slots) := by
  refine start (Q := (Q_rm_u4a Z t ca n cs cz k_ca h0 n0)) pn_8 ?_
  intro p e s m below meth c T0 X0 hx hby hml hown hnm hret hlk hZ e0
  replace hown : s.vm.findClass "java/lang/String" = some m.cls := hown
  replace hml : c.maxLocals = 6 := hml
  refine goAt (ef_rm_u4a m t ca n ) ?_
  have N0 := Fr.nil n0
  show Go p e below T0 (mkF m 0 #[.val (.ref t), .val (.ref ca), .val (.int (0 : Int32)), .val (.int n), .val .null, .unset] []) _
  refine stp (fun _ => XS.aloadN X0.here hx rfl (hb hby d6_0) rfl rfl) ?_
  show Go p e below T0 (mkF m 1 #[.val (.ref t), .val (.ref ca), .val (.int (0 : Int32)), .val (.int n), .val .null, .unset] [(.ref t)]) _
  obtain ⟨T1, X1, e1, st1⟩ := initO X0 hx hZ hown (hw _ (List.mem_of_getElem? (i := 25) rfl)) (hw _ (List.mem_of_getElem? (i := 26) rfl)) (hw _ (List.mem_of_getElem? (i := 27) rfl)) e0 (g := (mkF m 1 #[.val (.ref t), .val (.ref ca), .val (.int (0 : Int32)), .val (.int n), .val .null, .unset] [(.ref t)])) rfl (by rw [hml]; rfl) rfl (hb hby d6_1) (by decide) (W := 0) (by show 2 * 0 + _ ≤ _; exact Nat.le_of_eq rfl) (by decide)
  refine stp st1 ?_
  show Go p e below T1 (mkF m 4 #[.val (.ref t), .val (.ref ca), .val (.int (0 : Int32)), .val (.int n), .val .null, .unset] []) _
  refine stp (fun _ => XS.iloadN X1.here hx rfl (hb hby d6_4) rfl) ?_
  show Go p e below T1 (mkF m 5 #[.val (.ref t), .val (.ref ca), .val (.int (0 : Int32)), .val (.int n), .val .null, .unset] [(.int n)]) _
  refine stp (fun _ => XS.ifYes X1.here hx rfl (pc0 := 5) (pc' := 27) rfl (hb hby d6_5) rfl (XT.i0_ne_t (own_uz hN h0_)) (by decide) (by decide)) ?_
  show Go p e below T1 (mkF m 27 #[.val (.ref t), .val (.ref ca), .val (.int (0 : Int32)), .val (.int n), .val .null, .unset] []) _
  obtain ⟨T2, X2, e2, st2⟩ := getS2 X1 hx hZ hown (host := "") (Or.inl (hw _ (List.mem_of_getElem? (i := 28) rfl))) Via.refl e1 (S_COMPACT_STRINGS.ext O0.2) (g := (mkF m 27 #[.val (.ref t), .val (.ref ca), .val (.int (0 : Int32)), .val (.int n), .val .null, .unset] [])) rfl (hb hby d6_27)
  refine stp st2 ?_
  show Go p e below T2 (mkF m 30 #[.val (.ref t), .val (.ref ca), .val (.int (0 : Int32)), .val (.int n), .val .null, .unset] [(.int cz)]) _
  refine stp (fun _ => XS.ifNo X2.here hx rfl (hb hby d6_30) rfl (XT.i0_eq_f hcz)) ?_
  show Go p e below T2 (mkF m 33 #[.val (.ref t), .val (.ref ca), .val (.int (0 : Int32)), .val (.int n), .val .null, .unset] []) _
  refine stp (fun _ => XS.aloadN X2.here hx rfl (hb hby d6_33) rfl rfl) ?_
  show Go p e below T2 (mkF m 34 #[.val (.ref t), .val (.ref ca), .val (.int (0 : Int32)), .val (.int n), .val .null, .unset] [(.ref ca)]) _
  refine stp (fun _ => XS.iloadN X2.here hx rfl (hb hby d6_34) rfl) ?_
  show Go p e below T2 (mkF m 35 #[.val (.ref t), .val (.ref ca), .val (.int (0 : Int32)), .val (.int n), .val .null, .unset] [(.int (0 : Int32)), (.ref ca)]) _
  refine stp (fun _ => XS.iloadN X2.here hx rfl (hb hby d6_35) rfl) ?_
  show Go p e below T2 (mkF m 36 #[.val (.ref t), .val (.ref ca), .val (.int (0 : Int32)), .val (.int n), .val .null, .unset] [(.int n), (.int (0 : Int32)), (.ref ca)]) _
  obtain ⟨_, _, ⟨T3, L3, k3, n3⟩, -, X3, ⟨Lc3, hQ3, l3, y3, z3⟩, st3⟩ := Jvm.LawKit.callS X2 hx (y := (⟨"java/lang/StringUTF16", "compress", "([CII)[B"⟩ : MethodName)) hown (mvT hZ (hw _ (List.mem_of_getElem? (i := 29) rfl))) (mvT hZ (hw _ (List.mem_of_getElem? (i := 30) rfl))) (mvT hZ (hw _ (List.mem_of_getElem? (i := 31) rfl))) (mvT hZ (hw _ (List.mem_of_getElem? (i := 32) rfl))) (by decide) (backOf (W := 0) (rm_c3a l Z a0 hw [] ca n cs k_ca h0 n0 O0 V_ca hN hN1 hall) hZ (hw _ (List.mem_of_getElem? (i := 32) rfl)) (hw _ (List.mem_of_getElem? (i := 31) rfl)) (by decide) (by decide)) (g := (mkF m 36 #[.val (.ref t), .val (.ref ca), .val (.int (0 : Int32)), .val (.int n), .val .null, .unset] [(.int n), (.int (0 : Int32)), (.ref ca)])) rfl (by rw [hml]; rfl) (argsL := [(.ref ca), (.int (0 : Int32)), (.int n)]) (rest := []) (lenOf pd_4 rfl) rfl (by show 2 * 0 + _ ≤ _; exact Nat.le_of_eq rfl) (hb hby d6_36) (fun _ _ => ⟨rfl, e2, (by decide : 0 + 1 ≤ _), (by decide : 0 + 10 ≤ _)⟩)
  dsimp only [Pt.U, Pt.locs, Pt.cells, Pt.slots] at X3 l3 y3 z3 st3 hQ3
  subst y3 z3
  obtain ⟨r3, k_r3, rfl, N3q, K3q, ⟨ge_r3, sz3_r3⟩, r3_0, r3_1⟩ := hQ3
  have N3 : Fr n0 L3 := by rw [l3]; exact Fr.app N0 N3q
  have ne4 : ca ≠ r3 := Nat.ne_of_lt (Nat.lt_of_lt_of_le V_ca.lt sz3_r3)
  have ne5 : t ≠ r3 := Nat.ne_of_lt (Nat.lt_of_lt_of_le E_t.lt sz3_r3)
  have f6 := E_t.keep K3q
  have f7 := F_t_value.keep K3q nin0
  have f8 := F_t_coder.keep K3q nin0
  have f9 := V_ca.keep K3q nin0
  have sz_r3 : h0.size ≤ r3 := Nat.le_trans (Keep.refl h0 [t]).1 sz3_r3
  have K3 : Keep h0 T3.heap [t] := (Keep.refl h0 [t]).trans K3q all0
  have O3 := O0.keep K3q all0
  refine stp st3 ?_
  show Go p e below T3 (mkF m 39 #[.val (.ref t), .val (.ref ca), .val (.int (0 : Int32)), .val (.int n), .val .null, .unset] [(.ref r3)]) _
  refine stp (fun _ => XS.astore X3.here hx rfl (hb hby d6_39) rfl rfl (l' := #[.val (.ref t), .val (.ref ca), .val (.int (0 : Int32)), .val (.int n), .val .null, .val (.ref r3)]) rfl) ?_
  show Go p e below T3 (mkF m 41 #[.val (.ref t), .val (.ref ca), .val (.int (0 : Int32)), .val (.int n), .val .null, .val (.ref r3)] []) _
  refine stp (fun _ => XS.aloadN X3.here hx rfl (hb hby d6_41) rfl rfl) ?_
  show Go p e below T3 (mkF m 42 #[.val (.ref t), .val (.ref ca), .val (.int (0 : Int32)), .val (.int n), .val .null, .val (.ref r3)] [(.ref t)]) _
  refine stp (fun _ => XS.aload X3.here hx rfl (hb hby d6_42) rfl rfl) ?_
  show Go p e below T3 (mkF m 44 #[.val (.ref t), .val (.ref ca), .val (.int (0 : Int32)), .val (.int n), .val .null, .val (.ref r3)] [(.ref r3), (.ref t)]) _
  refine stp (fun _ => XS.iloadN X3.here hx rfl (hb hby d6_44) rfl) ?_
  show Go p e below T3 (mkF m 45 #[.val (.ref t), .val (.ref ca), .val (.int (0 : Int32)), .val (.int n), .val .null, .val (.ref r3)] [(.int n), (.ref r3), (.ref t)]) _
  obtain ⟨_, _, ⟨T10, L10, k10, n10⟩, -, X10, ⟨Lc10, hQ10, l10, y10, z10⟩, st10⟩ := Jvm.LawKit.callS X3 hx (y := (⟨"java/lang/StringUTF16", "coderFromArrayLen", "([BI)B"⟩ : MethodName)) hown (mvT hZ (hw _ (List.mem_of_getElem? (i := 37) rfl))) (mvT hZ (hw _ (List.mem_of_getElem? (i := 38) rfl))) (mvT hZ (hw _ (List.mem_of_getElem? (i := 31) rfl))) (mvT hZ (hw _ (List.mem_of_getElem? (i := 39) rfl))) (by decide) (backOf (W := 1) (rm_cfaa l Z a0 hw [] r3 n cs k_r3 T3.heap n0 O3 r3_1 hN hN1) hZ (hw _ (List.mem_of_getElem? (i := 39) rfl)) (hw _ (List.mem_of_getElem? (i := 31) rfl)) (by decide) (by decide)) (g := (mkF m 45 #[.val (.ref t), .val (.ref ca), .val (.int (0 : Int32)), .val (.int n), .val .null, .val (.ref r3)] [(.int n), (.ref r3), (.ref t)])) rfl (by rw [hml]; rfl) (argsL := [(.ref r3), (.int n)]) (rest := [(.ref t)]) (lenOf pd_6 rfl) rfl (by show 2 * 0 + _ ≤ _; exact Nat.le_of_eq rfl) (hb hby d6_45) (fun _ _ => ⟨rfl, rfl, (by decide : 1 + 0 ≤ _), (by decide : 10 + 0 ≤ _)⟩)
  dsimp only [Pt.U, Pt.locs, Pt.cells, Pt.slots] at X10 l10 y10 z10 st10 hQ10
  subst y10 z10
  obtain ⟨rfl, N10q, e10⟩ := hQ10
  have N10 : Fr n0 L10 := by rw [l10]; exact Fr.app N3 N10q
  refine stp st10 ?_
  show Go p e below T10 (mkF m 48 #[.val (.ref t), .val (.ref ca), .val (.int (0 : Int32)), .val (.int n), .val .null, .val (.ref r3)] [(.int (0 : Int32)), (.ref t)]) _
  obtain ⟨T11, h11, X11, e11, W11, st11⟩ := putFN X10 hx hZ hown (hw _ (List.mem_of_getElem? (i := 40) rfl)) Via.refl e10 f8 f6 (Or.inr ⟨(hw _ (List.mem_of_getElem? (i := 41) rfl)), rfl, hnm⟩) (hw _ (List.mem_of_getElem? (i := 16) rfl)) (ty := .byte) (v' := (.int (0 : Int32))) (by decide) rfl rfl (g := (mkF m 48 #[.val (.ref t), .val (.ref ca), .val (.int (0 : Int32)), .val (.int n), .val .null, .val (.ref r3)] [(.int (0 : Int32)), (.ref t)])) rfl rfl (hb hby d6_48)
  have Fw11 := f8.same W11
  have f12 := f6.wr W11
  have f13 := f7.other W11 (Or.inr (slot_ne (Or.inr (hw _ (List.mem_of_getElem? (i := 43) rfl))) (Or.inr (hw _ (List.mem_of_getElem? (i := 41) rfl))) (by decide) (t := (.array .byte)) (t' := .byte) (by decide) (by decide)))
  have f15 := f9.other W11 ne_ca_t
  have f16 := r3_0.wr W11
  have f17 := r3_1.other W11 (Ne.symm ne5)
  have K11 : Keep h0 h11 [t] := K3.wr W11 (Or.inl (List.mem_of_getElem? (i := 0) rfl))
  have O11 := O3.wr W11 ge_t
  have N11 := Fr.snoc X11 N10 ge_t
  refine stp st11 ?_
  show Go p e below T11 (mkF m 51 #[.val (.ref t), .val (.ref ca), .val (.int (0 : Int32)), .val (.int n), .val .null, .val (.ref r3)] []) _
  refine stp (fun _ => XS.aloadN X11.here hx rfl (hb hby d6_51) rfl rfl) ?_
  show Go p e below T11 (mkF m 52 #[.val (.ref t), .val (.ref ca), .val (.int (0 : Int32)), .val (.int n), .val .null, .val (.ref r3)] [(.ref t)]) _
  refine stp (fun _ => XS.aload X11.here hx rfl (hb hby d6_52) rfl rfl) ?_
  show Go p e below T11 (mkF m 54 #[.val (.ref t), .val (.ref ca), .val (.int (0 : Int32)), .val (.int n), .val .null, .val (.ref r3)] [(.ref r3), (.ref t)]) _
  obtain ⟨T18, h18, X18, e18, W18, st18⟩ := putF X11 hx hZ hown (host := "") (Or.inl (hw _ (List.mem_of_getElem? (i := 42) rfl))) Via.refl e11 f13 f12 (Or.inr ⟨(hw _ (List.mem_of_getElem? (i := 43) rfl)), rfl, hnm⟩) (hw _ (List.mem_of_getElem? (i := 16) rfl)) (ty := (.array .byte)) (by decide) rfl rfl (g := (mkF m 54 #[.val (.ref t), .val (.ref ca), .val (.int (0 : Int32)), .val (.int n), .val .null, .val (.ref r3)] [(.ref r3), (.ref t)])) rfl rfl (hb hby d6_54)
  have Fw18 := f13.same W18
  have f19 := f12.wr W18
  have f21 := Fw11.other W18 (Or.inr (slot_ne (Or.inr (hw _ (List.mem_of_getElem? (i := 41) rfl))) (Or.inr (hw _ (List.mem_of_getElem? (i := 43) rfl))) (by decide) (t := .byte) (t' := (.array .byte)) (by decide) (by decide)))
  have f22 := f15.other W18 ne_ca_t
  have f23 := f16.wr W18
  have f24 := f17.other W18 (Ne.symm ne5)
  have K18 : Keep h0 h18 [t] := K11.wr W18 (Or.inl (List.mem_of_getElem? (i := 0) rfl))
  have O18 := O11.wr W18 ge_t
  have N18 := Fr.snoc X18 N11 ge_t
  refine stp st18 ?_
  show Go p e below T18 (mkF m 57 #[.val (.ref t), .val (.ref ca), .val (.int (0 : Int32)), .val (.int n), .val .null, .val (.ref r3)] []) _
  have Q25 : UStr Z h18 t cs := UStr.of8 f19 Fw18 f21 f24 hsm hall (by omega)
  refine outV X18 hx hret (hb hby d6_57) hlk (by decide) (by decide) ?_
  rw [e18]
  exact ⟨rfl, N18, K18, Q25⟩
theorem d5_0 : decode jdk_42_method_3_code 0 = .ok (.aload_n 0, 1) := by decide +kernel
theorem d5_1 : decode jdk_42_method_3_code 1 = .ok (.aload_n 1, 1) := by decide +kernel
theorem d5_2 : decode jdk_42_method_3_code 2 = .ok (.iconst 0, 1) := by decide +kernel
theorem d5_3 : decode jdk_42_method_3_code 3 = .ok (.aload_n 1, 1) := by decide +kernel
theorem d5_4 : decode jdk_42_method_3_code 4 = .ok (.arraylength, 1) := by decide +kernel
theorem d5_5 : decode jdk_42_method_3_code 5 = .ok (.aconst_null, 1) := by decide +kernel
theorem d5_6 : decode jdk_42_method_3_code 6 = .ok (.invokespecial 27, 3) := by decide +kernel
theorem pd_7 : parseMethodDescriptor "([CIILjava/lang/Void;)V" = some ⟨[(.array .char), .int, .int, (.object "java/lang/Void")], none⟩ := by decide +kernel
theorem d5_9 : decode jdk_42_method_3_code 9 = .ok (.return_, 1) := by decide +kernel
theorem ef_rm_u1 (m : MethodId) (t : Addr) (ca : Addr)  : entryFrame m #[(.ref t), (.ref ca)] 2 = mkF m 0 #[.val (.ref t), .val (.ref ca)] [] := by first | (simp [entryFrame, mkF, argsToLocals, Value.category]; done) | rfl
def Q_rm_u1 (Z : State) (t : Addr) (ca : Addr) (cs : List Int32) (cz : Int32) (k_ca : ClassId) (h0 : Heap) (n0 : Nat) (v : Option Value) (h : Heap) (L : List Loc) : Prop := v = none ∧ Fr n0 L ∧ Keep h0 h [t] ∧ UStr Z h t cs
theorem pn_9_ : plainName "java/lang/String" = true := by first | (simp [plainName, overriddenIn]; done) | decide +kernel
theorem pn_9 : plainFor (⟨"java/lang/String", "<init>", "([C)V"⟩ : MethodName) = true := plainFor_of_name pn_9_
set_option maxRecDepth 65536 in
set_option maxHeartbeats 40000000 in
theorem rm_u1 (l : Launch) (Z : State) (a0 : Array Value) (hw : ∀ d ∈ tables_1, d.before a0 Z = true) (ws : List Jvm.Cond) (t : Addr) (ca : Addr) (cs : List Int32) (cz : Int32) (k_ca : ClassId) (h0 : Heap) (n0 : Nat) (O0 : Old Z n0 h0) (E_t : Exa Z h0 t "java/lang/String") (F_t_value : Fld Z h0 t "java/lang/String" "value" "[B" .null) (F_t_coder : Fld Z h0 t "java/lang/String" "coder" "B" (.int (0 : Int32))) (V_ca : Arf Z h0 ca k_ca .char cs.length (fun i => (.int (own_at cs i)))) (S_COMPACT_STRINGS : Sta Z Z.heap "java/lang/String" "COMPACT_STRINGS" "Z" (.int cz)) (S__assertionsDisabled : Sta Z Z.heap "java/lang/StringUTF16" "$assertionsDisabled" "Z" (.int (1 : Int32))) (S_HI_BYTE_SHIFT : Sta Z Z.heap "java/lang/StringUTF16" "HI_BYTE_SHIFT" "I" (.int (0 : Int32))) (S_LO_BYTE_SHIFT : Sta Z Z.heap "java/lang/StringUTF16" "LO_BYTE_SHIFT" "I" (.int (8 : Int32))) (ge_t : n0 ≤ t) (ne_ca_t : ca ≠ t) (hcz : ¬ cz = (0 : Int32)) (hN1 : cs.length ≤ 10) (hsm : ∀ c ∈ cs, ¬ c < 0 ∧ ¬ (65535 : Int32) < c) (h0_ : 0 < cs.length) :
    MetFree l (⟨"java/lang/String", "<init>", "([C)V"⟩ : MethodName) (head1 (Jvm.Cond.code (⟨"java/lang/String", "<init>", "([C)V"⟩ : MethodName) jdk_42_method_3_code 2 none :: ws) ({ frames := 5, cells := 2, slots := 30, locals := 74 } : Room)) (fun args_ U => args_ = #[(.ref t), (.ref ca)] ∧ Z.Warmed39 U.vm ∧ U.heap = h0) (fun _ _ _ _ _ => True) (fun _ U out_ U' => ∃ val_ loc_, out_ = .returned val_ ∧ (Q_rm_u1 Z t ca cs cz k_ca h0 n0) val_ U'.heap loc_ ∧ FrameEnd U out_ U' loc_ ({ frames := 5, cells := 2, slots := 30, locals := 74 } : Room).cells ({ frames := 5, cells := 2, slots := 30, locals := 74 } : Room).slots) := by
  refine start (Q := (Q_rm_u1 Z t ca cs cz k_ca h0 n0)) pn_9 ?_
  intro p e s m below meth c T0 X0 hx hby hml hown hnm hret hlk hZ e0
  replace hown : s.vm.findClass "java/lang/String" = some m.cls := hown
  replace hml : c.maxLocals = 2 := hml
  refine goAt (ef_rm_u1 m t ca ) ?_
  have N0 := Fr.nil n0
  show Go p e below T0 (mkF m 0 #[.val (.ref t), .val (.ref ca)] []) _
  by_cases hall : ∀ i, i < cs.length → ¬ (255 : Int32) < own_at cs i
  · show Go p e below T0 (mkF m 0 #[.val (.ref t), .val (.ref ca)] []) _
    refine stp (fun _ => XS.aloadN X0.here hx rfl (hb hby d5_0) rfl rfl) ?_
    show Go p e below T0 (mkF m 1 #[.val (.ref t), .val (.ref ca)] [(.ref t)]) _
    refine stp (fun _ => XS.aloadN X0.here hx rfl (hb hby d5_1) rfl rfl) ?_
    show Go p e below T0 (mkF m 2 #[.val (.ref t), .val (.ref ca)] [(.ref ca), (.ref t)]) _
    refine stp (fun _ => XS.iconst X0.here hx rfl (hb hby d5_2)) ?_
    show Go p e below T0 (mkF m 3 #[.val (.ref t), .val (.ref ca)] [(.int (0 : Int32)), (.ref ca), (.ref t)]) _
    refine stp (fun _ => XS.aloadN X0.here hx rfl (hb hby d5_3) rfl rfl) ?_
    show Go p e below T0 (mkF m 4 #[.val (.ref t), .val (.ref ca)] [(.ref ca), (.int (0 : Int32)), (.ref ca), (.ref t)]) _
    obtain ⟨cl1, Ar1, -, S1, -, -⟩ := (id V_ca)
    refine stp (fun _ => X0.arraylength hx (by rw [e0]; exact Ar1.1) (State.isArrayOf_alike hZ.alike Ar1.2.1) (g := (mkF m 4 #[.val (.ref t), .val (.ref ca)] [(.ref ca), (.int (0 : Int32)), (.ref ca), (.ref t)])) rfl rfl (hb hby d5_4) _) ?_
    rw [arf_len S1 (z := (Int32.ofNat cs.length)) (own_ofNatI (by omega))]
    show Go p e below T0 (mkF m 5 #[.val (.ref t), .val (.ref ca)] [(.int (Int32.ofNat cs.length)), (.int (0 : Int32)), (.ref ca), (.ref t)]) _
    refine stp (fun _ => XS.aconstNull X0.here hx rfl (hb hby d5_5)) ?_
    show Go p e below T0 (mkF m 6 #[.val (.ref t), .val (.ref ca)] [.null, (.int (Int32.ofNat cs.length)), (.int (0 : Int32)), (.ref ca), (.ref t)]) _
    obtain ⟨_, _, ⟨T2, L2, k2, n2⟩, -, X2, ⟨Lc2, hQ2, l2, y2, z2⟩, st2⟩ := X0.specialBack hx (y := (⟨"java/lang/String", "<init>", "([CIILjava/lang/Void;)V"⟩ : MethodName)) rfl hown (mvT hZ (hw _ (List.mem_of_getElem? (i := 21) rfl))) (mvT hZ (hw _ (List.mem_of_getElem? (i := 22) rfl))) (mvT hZ (hw _ (List.mem_of_getElem? (i := 24) rfl))) (by decide) (backOf (W := 0) (rm_u4a l Z a0 hw [] t ca (Int32.ofNat cs.length) cs cz k_ca h0 n0 O0 E_t F_t_value F_t_coder V_ca S_COMPACT_STRINGS ge_t ne_ca_t hcz (own_ofNatI (by omega)) hN1 hsm h0_ hall) hZ (hw _ (List.mem_of_getElem? (i := 24) rfl)) (hw _ (List.mem_of_getElem? (i := 17) rfl)) (by decide) (by decide)) (g := (mkF m 6 #[.val (.ref t), .val (.ref ca)] [.null, (.int (Int32.ofNat cs.length)), (.int (0 : Int32)), (.ref ca), (.ref t)])) rfl (by rw [hml]; rfl) (Steps.refl _) (a := t) (argsL := [(.ref ca), (.int (0 : Int32)), (.int (Int32.ofNat cs.length)), .null]) (rest := []) (lenOf pd_7 rfl) rfl (by show 2 * 0 + _ ≤ _; exact Nat.le_of_eq rfl) (hb hby d5_6) (fun _ _ => ⟨rfl, e0, (by decide : 0 + 1 ≤ _), (by decide : 0 + 10 ≤ _)⟩)
    dsimp only [Pt.U, Pt.locs, Pt.cells, Pt.slots] at X2 l2 y2 z2 st2 hQ2
    subst y2 z2
    obtain ⟨rfl, N2q, K2q, r2_0⟩ := hQ2
    have N2 : Fr n0 L2 := by rw [l2]; exact Fr.app N0 N2q
    have f3 := E_t.keep K2q
    have f4 := V_ca.keep K2q (ninS ne_ca_t nin0)
    have K2 : Keep h0 T2.heap [t] := (Keep.refl h0 [t]).trans K2q (allS (Or.inl (List.mem_of_getElem? (i := 0) rfl)) all0)
    have O2 := O0.keep K2q (allS ge_t all0)
    refine stt st2 ?_
    show Go p e below T2 (mkF m 9 #[.val (.ref t), .val (.ref ca)] []) _
    refine outV X2 hx hret (hb hby d5_9) hlk (by decide) (by decide) ?_
    exact ⟨rfl, N2, K2, r2_0⟩
  · obtain ⟨J, hJ, hgt, hle⟩ := own_first _ hall
    show Go p e below T0 (mkF m 0 #[.val (.ref t), .val (.ref ca)] []) _
    refine stp (fun _ => XS.aloadN X0.here hx rfl (hb hby d5_0) rfl rfl) ?_
    show Go p e below T0 (mkF m 1 #[.val (.ref t), .val (.ref ca)] [(.ref t)]) _
    refine stp (fun _ => XS.aloadN X0.here hx rfl (hb hby d5_1) rfl rfl) ?_
    show Go p e below T0 (mkF m 2 #[.val (.ref t), .val (.ref ca)] [(.ref ca), (.ref t)]) _
    refine stp (fun _ => XS.iconst X0.here hx rfl (hb hby d5_2)) ?_
    show Go p e below T0 (mkF m 3 #[.val (.ref t), .val (.ref ca)] [(.int (0 : Int32)), (.ref ca), (.ref t)]) _
    refine stp (fun _ => XS.aloadN X0.here hx rfl (hb hby d5_3) rfl rfl) ?_
    show Go p e below T0 (mkF m 4 #[.val (.ref t), .val (.ref ca)] [(.ref ca), (.int (0 : Int32)), (.ref ca), (.ref t)]) _
    obtain ⟨cl5, Ar5, -, S5, -, -⟩ := (id V_ca)
    refine stp (fun _ => X0.arraylength hx (by rw [e0]; exact Ar5.1) (State.isArrayOf_alike hZ.alike Ar5.2.1) (g := (mkF m 4 #[.val (.ref t), .val (.ref ca)] [(.ref ca), (.int (0 : Int32)), (.ref ca), (.ref t)])) rfl rfl (hb hby d5_4) _) ?_
    rw [arf_len S5 (z := (Int32.ofNat cs.length)) (own_ofNatI (by omega))]
    show Go p e below T0 (mkF m 5 #[.val (.ref t), .val (.ref ca)] [(.int (Int32.ofNat cs.length)), (.int (0 : Int32)), (.ref ca), (.ref t)]) _
    refine stp (fun _ => XS.aconstNull X0.here hx rfl (hb hby d5_5)) ?_
    show Go p e below T0 (mkF m 6 #[.val (.ref t), .val (.ref ca)] [.null, (.int (Int32.ofNat cs.length)), (.int (0 : Int32)), (.ref ca), (.ref t)]) _
    obtain ⟨_, _, ⟨T6, L6, k6, n6⟩, -, X6, ⟨Lc6, hQ6, l6, y6, z6⟩, st6⟩ := X0.specialBack hx (y := (⟨"java/lang/String", "<init>", "([CIILjava/lang/Void;)V"⟩ : MethodName)) rfl hown (mvT hZ (hw _ (List.mem_of_getElem? (i := 21) rfl))) (mvT hZ (hw _ (List.mem_of_getElem? (i := 22) rfl))) (mvT hZ (hw _ (List.mem_of_getElem? (i := 24) rfl))) (by decide) (backOf (W := 0) (rm_u4 l Z a0 hw [] t ca (Int32.ofNat cs.length) cs cz J k_ca h0 n0 O0 E_t F_t_value F_t_coder V_ca S_COMPACT_STRINGS S__assertionsDisabled S_HI_BYTE_SHIFT S_LO_BYTE_SHIFT ge_t ne_ca_t hcz (own_ofNatI (by omega)) hN1 hsm hJ hgt hle) hZ (hw _ (List.mem_of_getElem? (i := 24) rfl)) (hw _ (List.mem_of_getElem? (i := 17) rfl)) (by decide) (by decide)) (g := (mkF m 6 #[.val (.ref t), .val (.ref ca)] [.null, (.int (Int32.ofNat cs.length)), (.int (0 : Int32)), (.ref ca), (.ref t)])) rfl (by rw [hml]; rfl) (Steps.refl _) (a := t) (argsL := [(.ref ca), (.int (0 : Int32)), (.int (Int32.ofNat cs.length)), .null]) (rest := []) (lenOf pd_7 rfl) rfl (by show 2 * 0 + _ ≤ _; exact Nat.le_of_eq rfl) (hb hby d5_6) (fun _ _ => ⟨rfl, e0, (by decide : 0 + 2 ≤ _), (by decide : 0 + 30 ≤ _)⟩)
    dsimp only [Pt.U, Pt.locs, Pt.cells, Pt.slots] at X6 l6 y6 z6 st6 hQ6
    subst y6 z6
    obtain ⟨rfl, N6q, K6q, r6_0⟩ := hQ6
    have N6 : Fr n0 L6 := by rw [l6]; exact Fr.app N0 N6q
    have f7 := E_t.keep K6q
    have f8 := V_ca.keep K6q (ninS ne_ca_t nin0)
    have K6 : Keep h0 T6.heap [t] := (Keep.refl h0 [t]).trans K6q (allS (Or.inl (List.mem_of_getElem? (i := 0) rfl)) all0)
    have O6 := O0.keep K6q (allS ge_t all0)
    refine stt st6 ?_
    show Go p e below T6 (mkF m 9 #[.val (.ref t), .val (.ref ca)] []) _
    refine outV X6 hx hret (hb hby d5_9) hlk (by decide) (by decide) ?_
    exact ⟨rfl, N6, K6, r6_0⟩
theorem d13_0 : decode jdk_42_method_152_code 0 = .ok (.getstatic 38, 3) := by decide +kernel
theorem d13_3 : decode jdk_42_method_152_code 3 = .ok (.ifCond .eq 10, 3) := by decide +kernel
theorem d13_6 : decode jdk_42_method_152_code 6 = .ok (.aload_n 0, 1) := by decide +kernel
theorem d13_7 : decode jdk_42_method_152_code 7 = .ok (.getfield 15, 3) := by decide +kernel
theorem d13_10 : decode jdk_42_method_152_code 10 = .ok (.goto 4, 3) := by decide +kernel
theorem d13_14 : decode jdk_42_method_152_code 14 = .ok (.ireturn, 1) := by decide +kernel
theorem ef_rm_co0 (m : MethodId) (t : Addr)  : entryFrame m #[(.ref t)] 1 = mkF m 0 #[.val (.ref t)] [] := by first | (simp [entryFrame, mkF, argsToLocals, Value.category]; done) | rfl
def Q_rm_co0 (Z : State) (t : Addr) (cz : Int32) (h0 : Heap) (n0 : Nat) (v : Option Value) (h : Heap) (L : List Loc) : Prop := v = some (.int (0 : Int32)) ∧ Fr n0 L ∧ h = h0
theorem pn_10_ : plainName "java/lang/String" = true := by first | (simp [plainName, overriddenIn]; done) | decide +kernel
theorem pn_10 : plainFor (⟨"java/lang/String", "coder", "()B"⟩ : MethodName) = true := plainFor_of_name pn_10_
set_option maxRecDepth 65536 in
set_option maxHeartbeats 40000000 in
theorem rm_co0 (l : Launch) (Z : State) (a0 : Array Value) (hw : ∀ d ∈ tables_1, d.before a0 Z = true) (ws : List Jvm.Cond) (t : Addr) (cz : Int32) (h0 : Heap) (n0 : Nat) (O0 : Old Z n0 h0) (F_t_coder : Fld Z h0 t "java/lang/String" "coder" "B" (.int (0 : Int32))) (S_COMPACT_STRINGS : Sta Z Z.heap "java/lang/String" "COMPACT_STRINGS" "Z" (.int cz)) (hcz : ¬ cz = (0 : Int32)) :
    MetFree l (⟨"java/lang/String", "coder", "()B"⟩ : MethodName) (head1 (Jvm.Cond.code (⟨"java/lang/String", "coder", "()B"⟩ : MethodName) jdk_42_method_152_code 1 (some .byte) :: ws) ({ frames := 0, cells := 0, slots := 0, locals := 0 } : Room)) (fun args_ U => args_ = #[(.ref t)] ∧ Z.Warmed39 U.vm ∧ U.heap = h0) (fun _ _ _ _ _ => True) (fun _ U out_ U' => ∃ val_ loc_, out_ = .returned val_ ∧ (Q_rm_co0 Z t cz h0 n0) val_ U'.heap loc_ ∧ FrameEnd U out_ U' loc_ ({ frames := 0, cells := 0, slots := 0, locals := 0 } : Room).cells ({ frames := 0, cells := 0, slots := 0, locals := 0 } : Room).slots) := by
  refine start (Q := (Q_rm_co0 Z t cz h0 n0)) pn_10 ?_
  intro p e s m below meth c T0 X0 hx hby hml hown hnm hret hlk hZ e0
  replace hown : s.vm.findClass "java/lang/String" = some m.cls := hown
  replace hml : c.maxLocals = 1 := hml
  refine goAt (ef_rm_co0 m t ) ?_
  have N0 := Fr.nil n0
  show Go p e below T0 (mkF m 0 #[.val (.ref t)] []) _
  obtain ⟨T1, X1, e1, st1⟩ := getS2 X0 hx hZ hown (host := "") (Or.inl (hw _ (List.mem_of_getElem? (i := 28) rfl))) Via.refl e0 (S_COMPACT_STRINGS.ext O0.2) (g := (mkF m 0 #[.val (.ref t)] [])) rfl (hb hby d13_0)
  refine stp st1 ?_
  show Go p e below T1 (mkF m 3 #[.val (.ref t)] [(.int cz)]) _
  refine stp (fun _ => XS.ifNo X1.here hx rfl (hb hby d13_3) rfl (XT.i0_eq_f hcz)) ?_
  show Go p e below T1 (mkF m 6 #[.val (.ref t)] []) _
  refine stp (fun _ => XS.aloadN X1.here hx rfl (hb hby d13_6) rfl rfl) ?_
  show Go p e below T1 (mkF m 7 #[.val (.ref t)] [(.ref t)]) _
  obtain ⟨T2, X2, e2, st2⟩ := getF X1 hx hZ hown (host := "") (Or.inl (hw _ (List.mem_of_getElem? (i := 40) rfl))) Via.refl e1 F_t_coder (g := (mkF m 7 #[.val (.ref t)] [(.ref t)])) rfl rfl (hb hby d13_7)
  refine stp st2 ?_
  show Go p e below T2 (mkF m 10 #[.val (.ref t)] [(.int (0 : Int32))]) _
  refine stp (fun _ => XS.goto X2.here hx rfl (pc0 := 10) (pc' := 14) rfl (hb hby d13_10) (by decide) (by decide)) ?_
  show Go p e below T2 (mkF m 14 #[.val (.ref t)] [(.int (0 : Int32))]) _
  refine outN X2 hx (t := .byte) hret (by simp) (hb hby d13_14) hlk (by decide) (by decide) ?_
  exact ⟨rfl, N0, e2⟩
theorem d15_0 : decode jdk_42_method_154_code 0 = .ok (.getstatic 38, 3) := by decide +kernel
theorem d15_3 : decode jdk_42_method_154_code 3 = .ok (.ifCond .eq 14, 3) := by decide +kernel
theorem d15_6 : decode jdk_42_method_154_code 6 = .ok (.aload_n 0, 1) := by decide +kernel
theorem d15_7 : decode jdk_42_method_154_code 7 = .ok (.getfield 15, 3) := by decide +kernel
theorem d15_10 : decode jdk_42_method_154_code 10 = .ok (.ifCond .ne 7, 3) := by decide +kernel
theorem d15_13 : decode jdk_42_method_154_code 13 = .ok (.iconst 1, 1) := by decide +kernel
theorem d15_14 : decode jdk_42_method_154_code 14 = .ok (.goto 4, 3) := by decide +kernel
theorem d15_18 : decode jdk_42_method_154_code 18 = .ok (.ireturn, 1) := by decide +kernel
theorem ef_rm_il0 (m : MethodId) (t : Addr)  : entryFrame m #[(.ref t)] 1 = mkF m 0 #[.val (.ref t)] [] := by first | (simp [entryFrame, mkF, argsToLocals, Value.category]; done) | rfl
def Q_rm_il0 (Z : State) (t : Addr) (cz : Int32) (h0 : Heap) (n0 : Nat) (v : Option Value) (h : Heap) (L : List Loc) : Prop := v = some (.int (1 : Int32)) ∧ Fr n0 L ∧ h = h0
theorem pn_11_ : plainName "java/lang/String" = true := by first | (simp [plainName, overriddenIn]; done) | decide +kernel
theorem pn_11 : plainFor (⟨"java/lang/String", "isLatin1", "()Z"⟩ : MethodName) = true := plainFor_of_name pn_11_
set_option maxRecDepth 65536 in
set_option maxHeartbeats 40000000 in
theorem rm_il0 (l : Launch) (Z : State) (a0 : Array Value) (hw : ∀ d ∈ tables_1, d.before a0 Z = true) (ws : List Jvm.Cond) (t : Addr) (cz : Int32) (h0 : Heap) (n0 : Nat) (O0 : Old Z n0 h0) (F_t_coder : Fld Z h0 t "java/lang/String" "coder" "B" (.int (0 : Int32))) (S_COMPACT_STRINGS : Sta Z Z.heap "java/lang/String" "COMPACT_STRINGS" "Z" (.int cz)) (hcz : ¬ cz = (0 : Int32)) :
    MetFree l (⟨"java/lang/String", "isLatin1", "()Z"⟩ : MethodName) (head1 (Jvm.Cond.code (⟨"java/lang/String", "isLatin1", "()Z"⟩ : MethodName) jdk_42_method_154_code 1 (some .boolean) :: ws) ({ frames := 0, cells := 0, slots := 0, locals := 0 } : Room)) (fun args_ U => args_ = #[(.ref t)] ∧ Z.Warmed39 U.vm ∧ U.heap = h0) (fun _ _ _ _ _ => True) (fun _ U out_ U' => ∃ val_ loc_, out_ = .returned val_ ∧ (Q_rm_il0 Z t cz h0 n0) val_ U'.heap loc_ ∧ FrameEnd U out_ U' loc_ ({ frames := 0, cells := 0, slots := 0, locals := 0 } : Room).cells ({ frames := 0, cells := 0, slots := 0, locals := 0 } : Room).slots) := by
  refine start (Q := (Q_rm_il0 Z t cz h0 n0)) pn_11 ?_
  intro p e s m below meth c T0 X0 hx hby hml hown hnm hret hlk hZ e0
  replace hown : s.vm.findClass "java/lang/String" = some m.cls := hown
  replace hml : c.maxLocals = 1 := hml
  refine goAt (ef_rm_il0 m t ) ?_
  have N0 := Fr.nil n0
  show Go p e below T0 (mkF m 0 #[.val (.ref t)] []) _
  obtain ⟨T1, X1, e1, st1⟩ := getS2 X0 hx hZ hown (host := "") (Or.inl (hw _ (List.mem_of_getElem? (i := 28) rfl))) Via.refl e0 (S_COMPACT_STRINGS.ext O0.2) (g := (mkF m 0 #[.val (.ref t)] [])) rfl (hb hby d15_0)
  refine stp st1 ?_
  show Go p e below T1 (mkF m 3 #[.val (.ref t)] [(.int cz)]) _
  refine stp (fun _ => XS.ifNo X1.here hx rfl (hb hby d15_3) rfl (XT.i0_eq_f hcz)) ?_
  show Go p e below T1 (mkF m 6 #[.val (.ref t)] []) _
  refine stp (fun _ => XS.aloadN X1.here hx rfl (hb hby d15_6) rfl rfl) ?_
  show Go p e below T1 (mkF m 7 #[.val (.ref t)] [(.ref t)]) _
  obtain ⟨T2, X2, e2, st2⟩ := getF X1 hx hZ hown (host := "") (Or.inl (hw _ (List.mem_of_getElem? (i := 40) rfl))) Via.refl e1 F_t_coder (g := (mkF m 7 #[.val (.ref t)] [(.ref t)])) rfl rfl (hb hby d15_7)
  refine stp st2 ?_
  show Go p e below T2 (mkF m 10 #[.val (.ref t)] [(.int (0 : Int32))]) _
  refine stp (fun _ => XS.ifNo X2.here hx rfl (hb hby d15_10) rfl (by decide)) ?_
  show Go p e below T2 (mkF m 13 #[.val (.ref t)] []) _
  refine stp (fun _ => XS.iconst X2.here hx rfl (hb hby d15_13)) ?_
  show Go p e below T2 (mkF m 14 #[.val (.ref t)] [(.int (1 : Int32))]) _
  refine stp (fun _ => XS.goto X2.here hx rfl (pc0 := 14) (pc' := 18) rfl (hb hby d15_14) (by decide) (by decide)) ?_
  show Go p e below T2 (mkF m 18 #[.val (.ref t)] [(.int (1 : Int32))]) _
  refine outN X2 hx (t := .boolean) hret (by simp) (hb hby d15_18) hlk (by decide) (by decide) ?_
  exact ⟨rfl, N0, e2⟩
theorem ef_rm_co1 (m : MethodId) (t : Addr)  : entryFrame m #[(.ref t)] 1 = mkF m 0 #[.val (.ref t)] [] := by first | (simp [entryFrame, mkF, argsToLocals, Value.category]; done) | rfl
def Q_rm_co1 (Z : State) (t : Addr) (cz : Int32) (h0 : Heap) (n0 : Nat) (v : Option Value) (h : Heap) (L : List Loc) : Prop := v = some (.int (1 : Int32)) ∧ Fr n0 L ∧ h = h0
set_option maxRecDepth 65536 in
set_option maxHeartbeats 40000000 in
theorem rm_co1 (l : Launch) (Z : State) (a0 : Array Value) (hw : ∀ d ∈ tables_1, d.before a0 Z = true) (ws : List Jvm.Cond) (t : Addr) (cz : Int32) (h0 : Heap) (n0 : Nat) (O0 : Old Z n0 h0) (F_t_coder : Fld Z h0 t "java/lang/String" "coder" "B" (.int (1 : Int32))) (S_COMPACT_STRINGS : Sta Z Z.heap "java/lang/String" "COMPACT_STRINGS" "Z" (.int cz)) (hcz : ¬ cz = (0 : Int32)) :
    MetFree l (⟨"java/lang/String", "coder", "()B"⟩ : MethodName) (head1 (Jvm.Cond.code (⟨"java/lang/String", "coder", "()B"⟩ : MethodName) jdk_42_method_152_code 1 (some .byte) :: ws) ({ frames := 0, cells := 0, slots := 0, locals := 0 } : Room)) (fun args_ U => args_ = #[(.ref t)] ∧ Z.Warmed39 U.vm ∧ U.heap = h0) (fun _ _ _ _ _ => True) (fun _ U out_ U' => ∃ val_ loc_, out_ = .returned val_ ∧ (Q_rm_co1 Z t cz h0 n0) val_ U'.heap loc_ ∧ FrameEnd U out_ U' loc_ ({ frames := 0, cells := 0, slots := 0, locals := 0 } : Room).cells ({ frames := 0, cells := 0, slots := 0, locals := 0 } : Room).slots) := by
  refine start (Q := (Q_rm_co1 Z t cz h0 n0)) pn_10 ?_
  intro p e s m below meth c T0 X0 hx hby hml hown hnm hret hlk hZ e0
  replace hown : s.vm.findClass "java/lang/String" = some m.cls := hown
  replace hml : c.maxLocals = 1 := hml
  refine goAt (ef_rm_co1 m t ) ?_
  have N0 := Fr.nil n0
  show Go p e below T0 (mkF m 0 #[.val (.ref t)] []) _
  obtain ⟨T1, X1, e1, st1⟩ := getS2 X0 hx hZ hown (host := "") (Or.inl (hw _ (List.mem_of_getElem? (i := 28) rfl))) Via.refl e0 (S_COMPACT_STRINGS.ext O0.2) (g := (mkF m 0 #[.val (.ref t)] [])) rfl (hb hby d13_0)
  refine stp st1 ?_
  show Go p e below T1 (mkF m 3 #[.val (.ref t)] [(.int cz)]) _
  refine stp (fun _ => XS.ifNo X1.here hx rfl (hb hby d13_3) rfl (XT.i0_eq_f hcz)) ?_
  show Go p e below T1 (mkF m 6 #[.val (.ref t)] []) _
  refine stp (fun _ => XS.aloadN X1.here hx rfl (hb hby d13_6) rfl rfl) ?_
  show Go p e below T1 (mkF m 7 #[.val (.ref t)] [(.ref t)]) _
  obtain ⟨T2, X2, e2, st2⟩ := getF X1 hx hZ hown (host := "") (Or.inl (hw _ (List.mem_of_getElem? (i := 40) rfl))) Via.refl e1 F_t_coder (g := (mkF m 7 #[.val (.ref t)] [(.ref t)])) rfl rfl (hb hby d13_7)
  refine stp st2 ?_
  show Go p e below T2 (mkF m 10 #[.val (.ref t)] [(.int (1 : Int32))]) _
  refine stp (fun _ => XS.goto X2.here hx rfl (pc0 := 10) (pc' := 14) rfl (hb hby d13_10) (by decide) (by decide)) ?_
  show Go p e below T2 (mkF m 14 #[.val (.ref t)] [(.int (1 : Int32))]) _
  refine outN X2 hx (t := .byte) hret (by simp) (hb hby d13_14) hlk (by decide) (by decide) ?_
  exact ⟨rfl, N0, e2⟩
theorem d15_17 : decode jdk_42_method_154_code 17 = .ok (.iconst 0, 1) := by decide +kernel
theorem ef_rm_il1 (m : MethodId) (t : Addr)  : entryFrame m #[(.ref t)] 1 = mkF m 0 #[.val (.ref t)] [] := by first | (simp [entryFrame, mkF, argsToLocals, Value.category]; done) | rfl
def Q_rm_il1 (Z : State) (t : Addr) (cz : Int32) (h0 : Heap) (n0 : Nat) (v : Option Value) (h : Heap) (L : List Loc) : Prop := v = some (.int (0 : Int32)) ∧ Fr n0 L ∧ h = h0
set_option maxRecDepth 65536 in
set_option maxHeartbeats 40000000 in
theorem rm_il1 (l : Launch) (Z : State) (a0 : Array Value) (hw : ∀ d ∈ tables_1, d.before a0 Z = true) (ws : List Jvm.Cond) (t : Addr) (cz : Int32) (h0 : Heap) (n0 : Nat) (O0 : Old Z n0 h0) (F_t_coder : Fld Z h0 t "java/lang/String" "coder" "B" (.int (1 : Int32))) (S_COMPACT_STRINGS : Sta Z Z.heap "java/lang/String" "COMPACT_STRINGS" "Z" (.int cz)) (hcz : ¬ cz = (0 : Int32)) :
    MetFree l (⟨"java/lang/String", "isLatin1", "()Z"⟩ : MethodName) (head1 (Jvm.Cond.code (⟨"java/lang/String", "isLatin1", "()Z"⟩ : MethodName) jdk_42_method_154_code 1 (some .boolean) :: ws) ({ frames := 0, cells := 0, slots := 0, locals := 0 } : Room)) (fun args_ U => args_ = #[(.ref t)] ∧ Z.Warmed39 U.vm ∧ U.heap = h0) (fun _ _ _ _ _ => True) (fun _ U out_ U' => ∃ val_ loc_, out_ = .returned val_ ∧ (Q_rm_il1 Z t cz h0 n0) val_ U'.heap loc_ ∧ FrameEnd U out_ U' loc_ ({ frames := 0, cells := 0, slots := 0, locals := 0 } : Room).cells ({ frames := 0, cells := 0, slots := 0, locals := 0 } : Room).slots) := by
  refine start (Q := (Q_rm_il1 Z t cz h0 n0)) pn_11 ?_
  intro p e s m below meth c T0 X0 hx hby hml hown hnm hret hlk hZ e0
  replace hown : s.vm.findClass "java/lang/String" = some m.cls := hown
  replace hml : c.maxLocals = 1 := hml
  refine goAt (ef_rm_il1 m t ) ?_
  have N0 := Fr.nil n0
  show Go p e below T0 (mkF m 0 #[.val (.ref t)] []) _
  obtain ⟨T1, X1, e1, st1⟩ := getS2 X0 hx hZ hown (host := "") (Or.inl (hw _ (List.mem_of_getElem? (i := 28) rfl))) Via.refl e0 (S_COMPACT_STRINGS.ext O0.2) (g := (mkF m 0 #[.val (.ref t)] [])) rfl (hb hby d15_0)
  refine stp st1 ?_
  show Go p e below T1 (mkF m 3 #[.val (.ref t)] [(.int cz)]) _
  refine stp (fun _ => XS.ifNo X1.here hx rfl (hb hby d15_3) rfl (XT.i0_eq_f hcz)) ?_
  show Go p e below T1 (mkF m 6 #[.val (.ref t)] []) _
  refine stp (fun _ => XS.aloadN X1.here hx rfl (hb hby d15_6) rfl rfl) ?_
  show Go p e below T1 (mkF m 7 #[.val (.ref t)] [(.ref t)]) _
  obtain ⟨T2, X2, e2, st2⟩ := getF X1 hx hZ hown (host := "") (Or.inl (hw _ (List.mem_of_getElem? (i := 40) rfl))) Via.refl e1 F_t_coder (g := (mkF m 7 #[.val (.ref t)] [(.ref t)])) rfl rfl (hb hby d15_7)
  refine stp st2 ?_
  show Go p e below T2 (mkF m 10 #[.val (.ref t)] [(.int (1 : Int32))]) _
  refine stp (fun _ => XS.ifYes X2.here hx rfl (pc0 := 10) (pc' := 17) rfl (hb hby d15_10) rfl (by decide) (by decide) (by decide)) ?_
  show Go p e below T2 (mkF m 17 #[.val (.ref t)] []) _
  refine stp (fun _ => XS.iconst X2.here hx rfl (hb hby d15_17)) ?_
  show Go p e below T2 (mkF m 18 #[.val (.ref t)] [(.int (0 : Int32))]) _
  refine outN X2 hx (t := .boolean) hret (by simp) (hb hby d15_18) hlk (by decide) (by decide) ?_
  exact ⟨rfl, N0, e2⟩
theorem d12_0 : decode jdk_42_method_54_code 0 = .ok (.aload_n 0, 1) := by decide +kernel
theorem d12_1 : decode jdk_42_method_54_code 1 = .ok (.getfield 9, 3) := by decide +kernel
theorem d12_4 : decode jdk_42_method_54_code 4 = .ok (.arraylength, 1) := by decide +kernel
theorem d12_5 : decode jdk_42_method_54_code 5 = .ok (.aload_n 0, 1) := by decide +kernel
theorem d12_6 : decode jdk_42_method_54_code 6 = .ok (.invokevirtual 335, 3) := by decide +kernel
theorem pd_8 : parseMethodDescriptor "()B" = some ⟨[], some .byte⟩ := by decide +kernel
theorem d12_9 : decode jdk_42_method_54_code 9 = .ok (.ishr, 1) := by decide +kernel
theorem d12_10 : decode jdk_42_method_54_code 10 = .ok (.ireturn, 1) := by decide +kernel
theorem ef_rm_ulen (m : MethodId) (t : Addr)  : entryFrame m #[(.ref t)] 1 = mkF m 0 #[.val (.ref t)] [] := by first | (simp [entryFrame, mkF, argsToLocals, Value.category]; done) | rfl
def Q_rm_ulen (Z : State) (t : Addr) (cs : List Int32) (cz : Int32) (h0 : Heap) (n0 : Nat) (v : Option Value) (h : Heap) (L : List Loc) : Prop := v = some (.int (Int32.ofNat cs.length)) ∧ Fr n0 L ∧ h = h0
theorem pn_12_ : plainName "java/lang/String" = true := by first | (simp [plainName, overriddenIn]; done) | decide +kernel
theorem pn_12 : plainFor (⟨"java/lang/String", "length", "()I"⟩ : MethodName) = true := plainFor_of_name pn_12_
set_option maxRecDepth 65536 in
set_option maxHeartbeats 40000000 in
theorem rm_ulen (l : Launch) (Z : State) (a0 : Array Value) (hw : ∀ d ∈ tables_1, d.before a0 Z = true) (ws : List Jvm.Cond) (t : Addr) (cs : List Int32) (cz : Int32) (h0 : Heap) (n0 : Nat) (O0 : Old Z n0 h0) (Q_t : UStr Z h0 t cs) (S_COMPACT_STRINGS : Sta Z Z.heap "java/lang/String" "COMPACT_STRINGS" "Z" (.int cz)) (hcz : ¬ cz = (0 : Int32)) :
    MetFree l (⟨"java/lang/String", "length", "()I"⟩ : MethodName) (head1 (Jvm.Cond.code (⟨"java/lang/String", "length", "()I"⟩ : MethodName) jdk_42_method_54_code 1 (some .int) :: ws) ({ frames := 1, cells := 0, slots := 0, locals := 13 } : Room)) (fun args_ U => args_ = #[(.ref t)] ∧ Z.Warmed39 U.vm ∧ U.heap = h0) (fun _ _ _ _ _ => True) (fun _ U out_ U' => ∃ val_ loc_, out_ = .returned val_ ∧ (Q_rm_ulen Z t cs cz h0 n0) val_ U'.heap loc_ ∧ FrameEnd U out_ U' loc_ ({ frames := 1, cells := 0, slots := 0, locals := 13 } : Room).cells ({ frames := 1, cells := 0, slots := 0, locals := 13 } : Room).slots) := by
  refine start (Q := (Q_rm_ulen Z t cs cz h0 n0)) pn_12 ?_
  intro p e s m below meth c T0 X0 hx hby hml hown hnm hret hlk hZ e0
  replace hown : s.vm.findClass "java/lang/String" = some m.cls := hown
  replace hml : c.maxLocals = 1 := hml
  refine goAt (ef_rm_ulen m t ) ?_
  have N0 := Fr.nil n0
  show Go p e below T0 (mkF m 0 #[.val (.ref t)] []) _
  rcases (id Q_t) with Q_t | Q_t
  · obtain ⟨tv_t, kv_t, Eo_t, Fv_t, Fc_t, Va_t, hp_t, hl_t⟩ := (id Q_t)
    show Go p e below T0 (mkF m 0 #[.val (.ref t)] []) _
    refine stp (fun _ => XS.aloadN X0.here hx rfl (hb hby d12_0) rfl rfl) ?_
    show Go p e below T0 (mkF m 1 #[.val (.ref t)] [(.ref t)]) _
    obtain ⟨T1, X1, e1, st1⟩ := getF X0 hx hZ hown (host := "") (Or.inl (hw _ (List.mem_of_getElem? (i := 42) rfl))) Via.refl e0 Fv_t (g := (mkF m 1 #[.val (.ref t)] [(.ref t)])) rfl rfl (hb hby d12_1)
    refine stp st1 ?_
    show Go p e below T1 (mkF m 4 #[.val (.ref t)] [(.ref tv_t)]) _
    obtain ⟨cl2, Ar2, -, S2, -, -⟩ := (id Va_t)
    refine stp (fun _ => X1.arraylength hx (by rw [e1]; exact Ar2.1) (State.isArrayOf_alike hZ.alike Ar2.2.1) (g := (mkF m 4 #[.val (.ref t)] [(.ref tv_t)])) rfl rfl (hb hby d12_4) _) ?_
    rw [arf_len S2 (z := (Int32.ofNat cs.length)) (own_ofNatI hl_t)]
    show Go p e below T1 (mkF m 5 #[.val (.ref t)] [(.int (Int32.ofNat cs.length))]) _
    refine stp (fun _ => XS.aloadN X1.here hx rfl (hb hby d12_5) rfl rfl) ?_
    show Go p e below T1 (mkF m 6 #[.val (.ref t)] [(.ref t), (.int (Int32.ofNat cs.length))]) _
    obtain ⟨cq3, kq3, q3a, q3b, q3c⟩ := isOf hZ e1 Eo_t
    obtain ⟨_, _, ⟨T3, L3, k3, n3⟩, -, X3, ⟨Lc3, hQ3, l3, y3, z3⟩, st3⟩ := X1.virtualBack hx (y := (⟨"java/lang/String", "coder", "()B"⟩ : MethodName)) (z := (⟨"java/lang/String", "coder", "()B"⟩ : MethodName)) hown (mvT hZ (hw _ (List.mem_of_getElem? (i := 53) rfl))) (mvT hZ (hw _ (List.mem_of_getElem? (i := 54) rfl))) (notFace_of_selects (args := #[]) (mvT hZ (hw _ (List.mem_of_getElem? (i := 56) rfl)))) (mvT hZ (hw _ (List.mem_of_getElem? (i := 56) rfl))) (mvT hZ (hw _ (List.mem_of_getElem? (i := 55) rfl))) (by decide) (backOf (W := 1) (rm_co0 l Z a0 hw [] t cz h0 n0 O0 Fc_t S_COMPACT_STRINGS hcz) hZ (hw _ (List.mem_of_getElem? (i := 57) rfl)) (hw _ (List.mem_of_getElem? (i := 17) rfl)) (by decide) (by decide)) q3a q3c (g := (mkF m 6 #[.val (.ref t)] [(.ref t), (.int (Int32.ofNat cs.length))])) rfl (by rw [hml]; rfl) (Steps.refl _) (argsL := []) (rest := [(.int (Int32.ofNat cs.length))]) (lenOf pd_8 rfl) rfl (by show 2 * 0 + _ ≤ _; exact Nat.le_of_eq rfl) (hb hby d12_6) (fun _ _ => ⟨rfl, e1, (by decide : 0 + 0 ≤ _), (by decide : 0 + 0 ≤ _)⟩)
    dsimp only [Pt.U, Pt.locs, Pt.cells, Pt.slots] at X3 l3 y3 z3 st3 hQ3
    subst y3 z3
    obtain ⟨rfl, N3q, e3⟩ := hQ3
    have N3 : Fr n0 L3 := by rw [l3]; exact Fr.app N0 N3q
    refine stt st3 ?_
    show Go p e below T3 (mkF m 9 #[.val (.ref t)] [(.int (0 : Int32)), (.int (Int32.ofNat cs.length))]) _
    refine stp (fun _ => XS.ishr X3.here hx rfl (hb hby d12_9) rfl) ?_
    show Go p e below T3 (mkF m 10 #[.val (.ref t)] [(.int ((Int32.ofNat cs.length) >>> ((0 : Int32) &&& 31)))]) _
    refine outI X3 hx hret (hb hby d12_10) hlk (by decide) (by decide) ?_
    exact ⟨own_somei own_sh0, N3, e3⟩
  · obtain ⟨tv_t, kv_t, Eo_t, Fv_t, Fc_t, Va_t, hp_t, hl_t⟩ := (id Q_t)
    show Go p e below T0 (mkF m 0 #[.val (.ref t)] []) _
    refine stp (fun _ => XS.aloadN X0.here hx rfl (hb hby d12_0) rfl rfl) ?_
    show Go p e below T0 (mkF m 1 #[.val (.ref t)] [(.ref t)]) _
    obtain ⟨T4, X4, e4, st4⟩ := getF X0 hx hZ hown (host := "") (Or.inl (hw _ (List.mem_of_getElem? (i := 42) rfl))) Via.refl e0 Fv_t (g := (mkF m 1 #[.val (.ref t)] [(.ref t)])) rfl rfl (hb hby d12_1)
    refine stp st4 ?_
    show Go p e below T4 (mkF m 4 #[.val (.ref t)] [(.ref tv_t)]) _
    obtain ⟨cl5, Ar5, -, S5, -, -⟩ := (id Va_t)
    refine stp (fun _ => X4.arraylength hx (by rw [e4]; exact Ar5.1) (State.isArrayOf_alike hZ.alike Ar5.2.1) (g := (mkF m 4 #[.val (.ref t)] [(.ref tv_t)])) rfl rfl (hb hby d12_4) _) ?_
    rw [arf_len S5 (z := (Int32.ofNat (2 * cs.length))) (own_ofNatI (by omega))]
    show Go p e below T4 (mkF m 5 #[.val (.ref t)] [(.int (Int32.ofNat (2 * cs.length)))]) _
    refine stp (fun _ => XS.aloadN X4.here hx rfl (hb hby d12_5) rfl rfl) ?_
    show Go p e below T4 (mkF m 6 #[.val (.ref t)] [(.ref t), (.int (Int32.ofNat (2 * cs.length)))]) _
    obtain ⟨cq6, kq6, q6a, q6b, q6c⟩ := isOf hZ e4 Eo_t
    obtain ⟨_, _, ⟨T6, L6, k6, n6⟩, -, X6, ⟨Lc6, hQ6, l6, y6, z6⟩, st6⟩ := X4.virtualBack hx (y := (⟨"java/lang/String", "coder", "()B"⟩ : MethodName)) (z := (⟨"java/lang/String", "coder", "()B"⟩ : MethodName)) hown (mvT hZ (hw _ (List.mem_of_getElem? (i := 53) rfl))) (mvT hZ (hw _ (List.mem_of_getElem? (i := 54) rfl))) (notFace_of_selects (args := #[]) (mvT hZ (hw _ (List.mem_of_getElem? (i := 56) rfl)))) (mvT hZ (hw _ (List.mem_of_getElem? (i := 56) rfl))) (mvT hZ (hw _ (List.mem_of_getElem? (i := 55) rfl))) (by decide) (backOf (W := 1) (rm_co1 l Z a0 hw [] t cz h0 n0 O0 Fc_t S_COMPACT_STRINGS hcz) hZ (hw _ (List.mem_of_getElem? (i := 57) rfl)) (hw _ (List.mem_of_getElem? (i := 17) rfl)) (by decide) (by decide)) q6a q6c (g := (mkF m 6 #[.val (.ref t)] [(.ref t), (.int (Int32.ofNat (2 * cs.length)))])) rfl (by rw [hml]; rfl) (Steps.refl _) (argsL := []) (rest := [(.int (Int32.ofNat (2 * cs.length)))]) (lenOf pd_8 rfl) rfl (by show 2 * 0 + _ ≤ _; exact Nat.le_of_eq rfl) (hb hby d12_6) (fun _ _ => ⟨rfl, e4, (by decide : 0 + 0 ≤ _), (by decide : 0 + 0 ≤ _)⟩)
    dsimp only [Pt.U, Pt.locs, Pt.cells, Pt.slots] at X6 l6 y6 z6 st6 hQ6
    subst y6 z6
    obtain ⟨rfl, N6q, e6⟩ := hQ6
    have N6 : Fr n0 L6 := by rw [l6]; exact Fr.app N0 N6q
    refine stt st6 ?_
    show Go p e below T6 (mkF m 9 #[.val (.ref t)] [(.int (1 : Int32)), (.int (Int32.ofNat (2 * cs.length)))]) _
    refine stp (fun _ => XS.ishr X6.here hx rfl (hb hby d12_9) rfl) ?_
    show Go p e below T6 (mkF m 10 #[.val (.ref t)] [(.int ((Int32.ofNat (2 * cs.length)) >>> ((1 : Int32) &&& 31)))]) _
    refine outI X6 hx hret (hb hby d12_10) hlk (by decide) (by decide) ?_
    exact ⟨own_somei (own_sh1 hl_t), N6, e6⟩
theorem d18_0 : decode jdk_41_method_11_code 0 = .ok (.iload_n 0, 1) := by decide +kernel
theorem d18_1 : decode jdk_41_method_11_code 1 = .ok (.ifCond .lt 8, 3) := by decide +kernel
theorem d18_4 : decode jdk_41_method_11_code 4 = .ok (.iload_n 0, 1) := by decide +kernel
theorem d18_5 : decode jdk_41_method_11_code 5 = .ok (.iload_n 1, 1) := by decide +kernel
theorem d18_6 : decode jdk_41_method_11_code 6 = .ok (.if_icmp .lt 10, 3) := by decide +kernel
theorem d18_16 : decode jdk_41_method_11_code 16 = .ok (.iload_n 0, 1) := by decide +kernel
theorem d18_17 : decode jdk_41_method_11_code 17 = .ok (.ireturn, 1) := by decide +kernel
theorem ef_rm_pci (m : MethodId) (i : Int32) (n : Int32) (fm : Value) (cat_fm : fm.category = 1) : entryFrame m #[(.int i), (.int n), fm] 3 = mkF m 0 #[.val (.int i), .val (.int n), .val fm] [] := by first | (simp [entryFrame, mkF, argsToLocals, Value.category, cat_fm]; done) | rfl | (cases fm <;> first | rfl | (exact absurd cat_fm (show ¬ (2 : Nat) = 1 by decide)))
def Q_rm_pci (Z : State) (i : Int32) (n : Int32) (fm : Value)  (h0 : Heap) (n0 : Nat) (v : Option Value) (h : Heap) (L : List Loc) : Prop := v = some (.int i) ∧ Fr n0 L ∧ h = h0
theorem pn_13_ : plainName "jdk/internal/util/Preconditions" = true := by first | (simp [plainName, overriddenIn]; done) | decide +kernel
theorem pn_13 : plainFor (⟨"jdk/internal/util/Preconditions", "checkIndex", "(IILjava/util/function/BiFunction;)I"⟩ : MethodName) = true := plainFor_of_name pn_13_
set_option maxRecDepth 65536 in
set_option maxHeartbeats 40000000 in
theorem rm_pci (l : Launch) (Z : State) (a0 : Array Value) (hw : ∀ d ∈ tables_1, d.before a0 Z = true) (ws : List Jvm.Cond) (i : Int32) (n : Int32) (fm : Value)  (h0 : Heap) (n0 : Nat) (O0 : Old Z n0 h0) (hfm : fm.isRef = true) (h0_ : ¬ i < 0) (h1_ : i < n) :
    MetFree l (⟨"jdk/internal/util/Preconditions", "checkIndex", "(IILjava/util/function/BiFunction;)I"⟩ : MethodName) (head1 (Jvm.Cond.code (⟨"jdk/internal/util/Preconditions", "checkIndex", "(IILjava/util/function/BiFunction;)I"⟩ : MethodName) jdk_41_method_11_code 3 (some .int) :: ws) ({ frames := 0, cells := 0, slots := 0, locals := 0 } : Room)) (fun args_ U => args_ = #[(.int i), (.int n), fm] ∧ Z.Warmed39 U.vm ∧ U.heap = h0) (fun _ _ _ _ _ => True) (fun _ U out_ U' => ∃ val_ loc_, out_ = .returned val_ ∧ (Q_rm_pci Z i n fm h0 n0) val_ U'.heap loc_ ∧ FrameEnd U out_ U' loc_ ({ frames := 0, cells := 0, slots := 0, locals := 0 } : Room).cells ({ frames := 0, cells := 0, slots := 0, locals := 0 } : Room).slots) := by
  refine start (Q := (Q_rm_pci Z i n fm h0 n0)) pn_13 ?_
  intro p e s m below meth c T0 X0 hx hby hml hown hnm hret hlk hZ e0
  replace hown : s.vm.findClass "jdk/internal/util/Preconditions" = some m.cls := hown
  replace hml : c.maxLocals = 3 := hml
  refine goAt (ef_rm_pci m i n fm (cat_ref hfm)) ?_
  have N0 := Fr.nil n0
  show Go p e below T0 (mkF m 0 #[.val (.int i), .val (.int n), .val fm] []) _
  refine stp (fun _ => XS.iloadN X0.here hx rfl (hb hby d18_0) rfl) ?_
  show Go p e below T0 (mkF m 1 #[.val (.int i), .val (.int n), .val fm] [(.int i)]) _
  refine stp (fun _ => XS.ifNo X0.here hx rfl (hb hby d18_1) rfl (XT.i0_lt_f h0_)) ?_
  show Go p e below T0 (mkF m 4 #[.val (.int i), .val (.int n), .val fm] []) _
  refine stp (fun _ => XS.iloadN X0.here hx rfl (hb hby d18_4) rfl) ?_
  show Go p e below T0 (mkF m 5 #[.val (.int i), .val (.int n), .val fm] [(.int i)]) _
  refine stp (fun _ => XS.iloadN X0.here hx rfl (hb hby d18_5) rfl) ?_
  show Go p e below T0 (mkF m 6 #[.val (.int i), .val (.int n), .val fm] [(.int n), (.int i)]) _
  refine stp (fun _ => XS.icmpYes X0.here hx rfl (pc0 := 6) (pc' := 16) rfl (hb hby d18_6) rfl (XT.ii_lt_t h1_) (by decide) (by decide)) ?_
  show Go p e below T0 (mkF m 16 #[.val (.int i), .val (.int n), .val fm] []) _
  refine stp (fun _ => XS.iloadN X0.here hx rfl (hb hby d18_16) rfl) ?_
  show Go p e below T0 (mkF m 17 #[.val (.int i), .val (.int n), .val fm] [(.int i)]) _
  refine outI X0 hx hret (hb hby d18_17) hlk (by decide) (by decide) ?_
  exact ⟨rfl, N0, e0⟩
theorem d17_0 : decode jdk_42_method_155_code 0 = .ok (.iload_n 0, 1) := by decide +kernel
theorem d17_1 : decode jdk_42_method_155_code 1 = .ok (.iload_n 1, 1) := by decide +kernel
theorem d17_2 : decode jdk_42_method_155_code 2 = .ok (.getstatic 1053, 3) := by decide +kernel
theorem d17_5 : decode jdk_42_method_155_code 5 = .ok (.invokestatic 1059, 3) := by decide +kernel
theorem pd_9 : parseMethodDescriptor "(IILjava/util/function/BiFunction;)I" = some ⟨[.int, .int, (.object "java/util/function/BiFunction")], some .int⟩ := by decide +kernel
theorem d17_8 : decode jdk_42_method_155_code 8 = .ok (.pop, 1) := by decide +kernel
theorem d17_9 : decode jdk_42_method_155_code 9 = .ok (.return_, 1) := by decide +kernel
theorem ef_rm_sci (m : MethodId) (i : Int32) (n : Int32)  : entryFrame m #[(.int i), (.int n)] 2 = mkF m 0 #[.val (.int i), .val (.int n)] [] := by first | (simp [entryFrame, mkF, argsToLocals, Value.category]; done) | rfl
def Q_rm_sci (Z : State) (i : Int32) (n : Int32) (fm : Value) (h0 : Heap) (n0 : Nat) (v : Option Value) (h : Heap) (L : List Loc) : Prop := v = none ∧ Fr n0 L ∧ h = h0
theorem pn_14_ : plainName "java/lang/String" = true := by first | (simp [plainName, overriddenIn]; done) | decide +kernel
theorem pn_14 : plainFor (⟨"java/lang/String", "checkIndex", "(II)V"⟩ : MethodName) = true := plainFor_of_name pn_14_
set_option maxRecDepth 65536 in
set_option maxHeartbeats 40000000 in
theorem rm_sci (l : Launch) (Z : State) (a0 : Array Value) (hw : ∀ d ∈ tables_1, d.before a0 Z = true) (ws : List Jvm.Cond) (i : Int32) (n : Int32) (fm : Value) (h0 : Heap) (n0 : Nat) (O0 : Old Z n0 h0) (S_SIOOBE_FORMATTER : Sta Z Z.heap "jdk/internal/util/Preconditions" "SIOOBE_FORMATTER" "Ljava/util/function/BiFunction;" fm) (hfm : fm.isRef = true) (h0_ : ¬ i < 0) (h1_ : i < n) :
    MetFree l (⟨"java/lang/String", "checkIndex", "(II)V"⟩ : MethodName) (head1 (Jvm.Cond.code (⟨"java/lang/String", "checkIndex", "(II)V"⟩ : MethodName) jdk_42_method_155_code 2 none :: ws) ({ frames := 1, cells := 0, slots := 0, locals := 14 } : Room)) (fun args_ U => args_ = #[(.int i), (.int n)] ∧ Z.Warmed39 U.vm ∧ U.heap = h0) (fun _ _ _ _ _ => True) (fun _ U out_ U' => ∃ val_ loc_, out_ = .returned val_ ∧ (Q_rm_sci Z i n fm h0 n0) val_ U'.heap loc_ ∧ FrameEnd U out_ U' loc_ ({ frames := 1, cells := 0, slots := 0, locals := 14 } : Room).cells ({ frames := 1, cells := 0, slots := 0, locals := 14 } : Room).slots) := by
  refine start (Q := (Q_rm_sci Z i n fm h0 n0)) pn_14 ?_
  intro p e s m below meth c T0 X0 hx hby hml hown hnm hret hlk hZ e0
  replace hown : s.vm.findClass "java/lang/String" = some m.cls := hown
  replace hml : c.maxLocals = 2 := hml
  refine goAt (ef_rm_sci m i n ) ?_
  have N0 := Fr.nil n0
  show Go p e below T0 (mkF m 0 #[.val (.int i), .val (.int n)] []) _
  refine stp (fun _ => XS.iloadN X0.here hx rfl (hb hby d17_0) rfl) ?_
  show Go p e below T0 (mkF m 1 #[.val (.int i), .val (.int n)] [(.int i)]) _
  refine stp (fun _ => XS.iloadN X0.here hx rfl (hb hby d17_1) rfl) ?_
  show Go p e below T0 (mkF m 2 #[.val (.int i), .val (.int n)] [(.int n), (.int i)]) _
  obtain ⟨T1, X1, e1, st1⟩ := getS2 X0 hx hZ hown (host := "") (Or.inl (hw _ (List.mem_of_getElem? (i := 75) rfl))) Via.refl e0 (S_SIOOBE_FORMATTER.ext O0.2) (g := (mkF m 2 #[.val (.int i), .val (.int n)] [(.int n), (.int i)])) rfl (hb hby d17_2)
  refine stp st1 ?_
  show Go p e below T1 (mkF m 5 #[.val (.int i), .val (.int n)] [fm, (.int n), (.int i)]) _
  obtain ⟨_, _, ⟨T2, L2, k2, n2⟩, -, X2, ⟨Lc2, hQ2, l2, y2, z2⟩, st2⟩ := Jvm.LawKit.callS X1 hx (y := (⟨"jdk/internal/util/Preconditions", "checkIndex", "(IILjava/util/function/BiFunction;)I"⟩ : MethodName)) hown (mvT hZ (hw _ (List.mem_of_getElem? (i := 77) rfl))) (mvT hZ (hw _ (List.mem_of_getElem? (i := 78) rfl))) (mvT hZ (hw _ (List.mem_of_getElem? (i := 76) rfl))) (mvT hZ (hw _ (List.mem_of_getElem? (i := 79) rfl))) (by decide) (backOf (W := 0) (rm_pci l Z a0 hw [] i n fm  h0 n0 O0 hfm h0_ h1_) hZ (hw _ (List.mem_of_getElem? (i := 79) rfl)) (hw _ (List.mem_of_getElem? (i := 76) rfl)) (by decide) (by decide)) (g := (mkF m 5 #[.val (.int i), .val (.int n)] [fm, (.int n), (.int i)])) rfl (by rw [hml]; rfl) (argsL := [(.int i), (.int n), fm]) (rest := []) (lenOf pd_9 rfl) rfl (by show 2 * 0 + _ ≤ _; exact Nat.le_of_eq rfl) (hb hby d17_5) (fun _ _ => ⟨rfl, e1, (by decide : 0 + 0 ≤ _), (by decide : 0 + 0 ≤ _)⟩)
  dsimp only [Pt.U, Pt.locs, Pt.cells, Pt.slots] at X2 l2 y2 z2 st2 hQ2
  subst y2 z2
  obtain ⟨rfl, N2q, e2⟩ := hQ2
  have N2 : Fr n0 L2 := by rw [l2]; exact Fr.app N0 N2q
  refine stp st2 ?_
  show Go p e below T2 (mkF m 8 #[.val (.int i), .val (.int n)] [(.int i)]) _
  refine stp (fun _ => XS.pop X2.here hx rfl (hb hby d17_8) rfl rfl) ?_
  show Go p e below T2 (mkF m 9 #[.val (.int i), .val (.int n)] []) _
  refine outV X2 hx hret (hb hby d17_9) hlk (by decide) (by decide) ?_
  exact ⟨rfl, N2, e2⟩
theorem d16_0 : decode jdk_43_method_2_code 0 = .ok (.iload_n 1, 1) := by decide +kernel
theorem d16_1 : decode jdk_43_method_2_code 1 = .ok (.aload_n 0, 1) := by decide +kernel
theorem d16_2 : decode jdk_43_method_2_code 2 = .ok (.arraylength, 1) := by decide +kernel
theorem d16_3 : decode jdk_43_method_2_code 3 = .ok (.invokestatic 9, 3) := by decide +kernel
theorem pd_10 : parseMethodDescriptor "(II)V" = some ⟨[.int, .int], none⟩ := by decide +kernel
theorem d16_6 : decode jdk_43_method_2_code 6 = .ok (.aload_n 0, 1) := by decide +kernel
theorem d16_7 : decode jdk_43_method_2_code 7 = .ok (.iload_n 1, 1) := by decide +kernel
theorem d16_8 : decode jdk_43_method_2_code 8 = .ok (.baload, 1) := by decide +kernel
theorem d16_9 : decode jdk_43_method_2_code 9 = .ok (.sipush 255, 3) := by decide +kernel
theorem d16_12 : decode jdk_43_method_2_code 12 = .ok (.iand, 1) := by decide +kernel
theorem d16_13 : decode jdk_43_method_2_code 13 = .ok (.i2c, 1) := by decide +kernel
theorem d16_14 : decode jdk_43_method_2_code 14 = .ok (.ireturn, 1) := by decide +kernel
theorem ef_rm_lca (m : MethodId) (vb : Addr) (i : Int32)  : entryFrame m #[(.ref vb), (.int i)] 2 = mkF m 0 #[.val (.ref vb), .val (.int i)] [] := by first | (simp [entryFrame, mkF, argsToLocals, Value.category]; done) | rfl
def Q_rm_lca (Z : State) (vb : Addr) (i : Int32) (cs : List Int32) (j : Nat) (fm : Value) (k_vb : ClassId) (h0 : Heap) (n0 : Nat) (v : Option Value) (h : Heap) (L : List Loc) : Prop := v = some (.int (own_at cs j)) ∧ Fr n0 L ∧ h = h0
theorem pn_15_ : plainName "java/lang/StringLatin1" = true := by first | (simp [plainName, overriddenIn]; done) | decide +kernel
theorem pn_15 : plainFor (⟨"java/lang/StringLatin1", "charAt", "([BI)C"⟩ : MethodName) = true := plainFor_of_name pn_15_
set_option maxRecDepth 65536 in
set_option maxHeartbeats 40000000 in
theorem rm_lca (l : Launch) (Z : State) (a0 : Array Value) (hw : ∀ d ∈ tables_1, d.before a0 Z = true) (ws : List Jvm.Cond) (vb : Addr) (i : Int32) (cs : List Int32) (j : Nat) (fm : Value) (k_vb : ClassId) (h0 : Heap) (n0 : Nat) (O0 : Old Z n0 h0) (V_vb : Arf Z h0 vb k_vb .byte cs.length (fun i => (.int (own_by cs i)))) (S_SIOOBE_FORMATTER : Sta Z Z.heap "jdk/internal/util/Preconditions" "SIOOBE_FORMATTER" "Ljava/util/function/BiFunction;" fm) (hfm : fm.isRef = true) (hi : i.toInt = (j : Int)) (hj : j < cs.length) (hl : cs.length ≤ 4000) (hs8 : ∀ c ∈ cs, ¬ c < 0 ∧ ¬ (255 : Int32) < c) :
    MetFree l (⟨"java/lang/StringLatin1", "charAt", "([BI)C"⟩ : MethodName) (head1 (Jvm.Cond.code (⟨"java/lang/StringLatin1", "charAt", "([BI)C"⟩ : MethodName) jdk_43_method_2_code 2 (some .char) :: ws) ({ frames := 2, cells := 0, slots := 0, locals := 27 } : Room)) (fun args_ U => args_ = #[(.ref vb), (.int i)] ∧ Z.Warmed39 U.vm ∧ U.heap = h0) (fun _ _ _ _ _ => True) (fun _ U out_ U' => ∃ val_ loc_, out_ = .returned val_ ∧ (Q_rm_lca Z vb i cs j fm k_vb h0 n0) val_ U'.heap loc_ ∧ FrameEnd U out_ U' loc_ ({ frames := 2, cells := 0, slots := 0, locals := 27 } : Room).cells ({ frames := 2, cells := 0, slots := 0, locals := 27 } : Room).slots) := by
  refine start (Q := (Q_rm_lca Z vb i cs j fm k_vb h0 n0)) pn_15 ?_
  intro p e s m below meth c T0 X0 hx hby hml hown hnm hret hlk hZ e0
  replace hown : s.vm.findClass "java/lang/StringLatin1" = some m.cls := hown
  replace hml : c.maxLocals = 2 := hml
  refine goAt (ef_rm_lca m vb i ) ?_
  have N0 := Fr.nil n0
  show Go p e below T0 (mkF m 0 #[.val (.ref vb), .val (.int i)] []) _
  refine stp (fun _ => XS.iloadN X0.here hx rfl (hb hby d16_0) rfl) ?_
  show Go p e below T0 (mkF m 1 #[.val (.ref vb), .val (.int i)] [(.int i)]) _
  refine stp (fun _ => XS.aloadN X0.here hx rfl (hb hby d16_1) rfl rfl) ?_
  show Go p e below T0 (mkF m 2 #[.val (.ref vb), .val (.int i)] [(.ref vb), (.int i)]) _
  obtain ⟨cl1, Ar1, -, S1, -, -⟩ := (id V_vb)
  refine stp (fun _ => X0.arraylength hx (by rw [e0]; exact Ar1.1) (State.isArrayOf_alike hZ.alike Ar1.2.1) (g := (mkF m 2 #[.val (.ref vb), .val (.int i)] [(.ref vb), (.int i)])) rfl rfl (hb hby d16_2) _) ?_
  rw [arf_len S1 (z := (Int32.ofNat cs.length)) (own_ofNatI hl)]
  show Go p e below T0 (mkF m 3 #[.val (.ref vb), .val (.int i)] [(.int (Int32.ofNat cs.length)), (.int i)]) _
  obtain ⟨_, _, ⟨T2, L2, k2, n2⟩, -, X2, ⟨Lc2, hQ2, l2, y2, z2⟩, st2⟩ := Jvm.LawKit.callS X0 hx (y := (⟨"java/lang/String", "checkIndex", "(II)V"⟩ : MethodName)) hown (mvT hZ (hw _ (List.mem_of_getElem? (i := 72) rfl))) (mvT hZ (hw _ (List.mem_of_getElem? (i := 73) rfl))) (mvT hZ (hw _ (List.mem_of_getElem? (i := 17) rfl))) (mvT hZ (hw _ (List.mem_of_getElem? (i := 74) rfl))) (by decide) (backOf (W := 0) (rm_sci l Z a0 hw [] i (Int32.ofNat cs.length) fm h0 n0 O0 S_SIOOBE_FORMATTER hfm (own_u0 hi) (own_ltI hi (own_ofNatI hl) hj)) hZ (hw _ (List.mem_of_getElem? (i := 74) rfl)) (hw _ (List.mem_of_getElem? (i := 17) rfl)) (by decide) (by decide)) (g := (mkF m 3 #[.val (.ref vb), .val (.int i)] [(.int (Int32.ofNat cs.length)), (.int i)])) rfl (by rw [hml]; rfl) (argsL := [(.int i), (.int (Int32.ofNat cs.length))]) (rest := []) (lenOf pd_10 rfl) rfl (by show 2 * 0 + _ ≤ _; exact Nat.le_of_eq rfl) (hb hby d16_3) (fun _ _ => ⟨rfl, e0, (by decide : 0 + 0 ≤ _), (by decide : 0 + 0 ≤ _)⟩)
  dsimp only [Pt.U, Pt.locs, Pt.cells, Pt.slots] at X2 l2 y2 z2 st2 hQ2
  subst y2 z2
  obtain ⟨rfl, N2q, e2⟩ := hQ2
  have N2 : Fr n0 L2 := by rw [l2]; exact Fr.app N0 N2q
  refine stp st2 ?_
  show Go p e below T2 (mkF m 6 #[.val (.ref vb), .val (.int i)] []) _
  refine stp (fun _ => XS.aloadN X2.here hx rfl (hb hby d16_6) rfl rfl) ?_
  show Go p e below T2 (mkF m 7 #[.val (.ref vb), .val (.int i)] [(.ref vb)]) _
  refine stp (fun _ => XS.iloadN X2.here hx rfl (hb hby d16_7) rfl) ?_
  show Go p e below T2 (mkF m 8 #[.val (.ref vb), .val (.int i)] [(.int i), (.ref vb)]) _
  obtain ⟨cl3, Ar3, q3, S3, H3, G3⟩ := (id V_vb)
  have in3 : ¬ (i < 0 ∨ cl3.slots.size ≤ (i).toNatClampNeg) := arf_in S3 hi hj
  have at3 : cl3.slots[(i).toNatClampNeg]? = some (.int (own_by cs j)) := arf_at H3 hi hj
  refine stp (fun _ => X2.baloadBytes hx (j := i) (v := (.int (own_by cs j))) (by rw [e2]; exact Ar3.1) (State.isArrayOf_alike hZ.alike Ar3.2.1) Ar3.2.2 in3 at3 (g := (mkF m 8 #[.val (.ref vb), .val (.int i)] [(.int i), (.ref vb)])) rfl rfl (hb hby d16_8) _) ?_
  show Go p e below T2 (mkF m 9 #[.val (.ref vb), .val (.int i)] [(.int (own_by cs j))]) _
  refine stp (fun _ => XS.sipush X2.here hx rfl (hb hby d16_9)) ?_
  show Go p e below T2 (mkF m 12 #[.val (.ref vb), .val (.int i)] [(.int (255 : Int32)), (.int (own_by cs j))]) _
  refine stp (fun _ => XS.iand X2.here hx rfl (hb hby d16_12) rfl) ?_
  show Go p e below T2 (mkF m 13 #[.val (.ref vb), .val (.int i)] [(.int ((own_by cs j) &&& (255 : Int32)))]) _
  refine stp (fun _ => XS.i2c X2.here hx rfl (hb hby d16_13) rfl) ?_
  show Go p e below T2 (mkF m 14 #[.val (.ref vb), .val (.int i)] [(.int (((own_by cs j) &&& (255 : Int32)).toUInt32.toUInt16.toUInt32.toInt32))]) _
  refine outN X2 hx (t := .char) hret (by simp) (hb hby d16_14) hlk (by decide) (by decide) ?_
  exact ⟨own_somei (by rw [own_by_at, own_lat (hs8 _ (own_at_mem hj)), char255 (hs8 _ (own_at_mem hj))]; exact own_narc (own_up16 (hs8 _ (own_at_mem hj)))), N2, e2⟩
theorem d26_0 : decode jdk_52_method_6_code 0 = .ok (.aload_n 0, 1) := by decide +kernel
theorem d26_1 : decode jdk_52_method_6_code 1 = .ok (.arraylength, 1) := by decide +kernel
theorem d26_2 : decode jdk_52_method_6_code 2 = .ok (.iconst 1, 1) := by decide +kernel
theorem d26_3 : decode jdk_52_method_6_code 3 = .ok (.ishr, 1) := by decide +kernel
theorem d26_4 : decode jdk_52_method_6_code 4 = .ok (.ireturn, 1) := by decide +kernel
theorem ef_rm_ul (m : MethodId) (vb : Addr)  : entryFrame m #[(.ref vb)] 1 = mkF m 0 #[.val (.ref vb)] [] := by first | (simp [entryFrame, mkF, argsToLocals, Value.category]; done) | rfl
def Q_rm_ul (Z : State) (vb : Addr) (cs : List Int32) (k_vb : ClassId) (h0 : Heap) (n0 : Nat) (v : Option Value) (h : Heap) (L : List Loc) : Prop := v = some (.int (Int32.ofNat cs.length)) ∧ Fr n0 L ∧ h = h0
theorem pn_16_ : plainName "java/lang/StringUTF16" = true := by first | (simp [plainName, overriddenIn]; done) | decide +kernel
theorem pn_16 : plainFor (⟨"java/lang/StringUTF16", "length", "([B)I"⟩ : MethodName) = true := plainFor_of_name pn_16_
set_option maxRecDepth 65536 in
set_option maxHeartbeats 40000000 in
theorem rm_ul (l : Launch) (Z : State) (a0 : Array Value) (hw : ∀ d ∈ tables_1, d.before a0 Z = true) (ws : List Jvm.Cond) (vb : Addr) (cs : List Int32) (k_vb : ClassId) (h0 : Heap) (n0 : Nat) (O0 : Old Z n0 h0) (V_vb : Arf Z h0 vb k_vb .byte (2 * cs.length) (fun x => (.int (own_ub cs x)))) (hN1 : cs.length ≤ 10) :
    MetFree l (⟨"java/lang/StringUTF16", "length", "([B)I"⟩ : MethodName) (head1 (Jvm.Cond.code (⟨"java/lang/StringUTF16", "length", "([B)I"⟩ : MethodName) jdk_52_method_6_code 1 (some .int) :: ws) ({ frames := 0, cells := 0, slots := 0, locals := 0 } : Room)) (fun args_ U => args_ = #[(.ref vb)] ∧ Z.Warmed39 U.vm ∧ U.heap = h0) (fun _ _ _ _ _ => True) (fun _ U out_ U' => ∃ val_ loc_, out_ = .returned val_ ∧ (Q_rm_ul Z vb cs k_vb h0 n0) val_ U'.heap loc_ ∧ FrameEnd U out_ U' loc_ ({ frames := 0, cells := 0, slots := 0, locals := 0 } : Room).cells ({ frames := 0, cells := 0, slots := 0, locals := 0 } : Room).slots) := by
  refine start (Q := (Q_rm_ul Z vb cs k_vb h0 n0)) pn_16 ?_
  intro p e s m below meth c T0 X0 hx hby hml hown hnm hret hlk hZ e0
  replace hown : s.vm.findClass "java/lang/StringUTF16" = some m.cls := hown
  replace hml : c.maxLocals = 1 := hml
  refine goAt (ef_rm_ul m vb ) ?_
  have N0 := Fr.nil n0
  show Go p e below T0 (mkF m 0 #[.val (.ref vb)] []) _
  refine stp (fun _ => XS.aloadN X0.here hx rfl (hb hby d26_0) rfl rfl) ?_
  show Go p e below T0 (mkF m 1 #[.val (.ref vb)] [(.ref vb)]) _
  obtain ⟨cl1, Ar1, -, S1, -, -⟩ := (id V_vb)
  refine stp (fun _ => X0.arraylength hx (by rw [e0]; exact Ar1.1) (State.isArrayOf_alike hZ.alike Ar1.2.1) (g := (mkF m 1 #[.val (.ref vb)] [(.ref vb)])) rfl rfl (hb hby d26_1) _) ?_
  rw [arf_len S1 (z := (Int32.ofNat (2 * cs.length))) (own_ofNatI (by omega))]
  show Go p e below T0 (mkF m 2 #[.val (.ref vb)] [(.int (Int32.ofNat (2 * cs.length)))]) _
  refine stp (fun _ => XS.iconst X0.here hx rfl (hb hby d26_2)) ?_
  show Go p e below T0 (mkF m 3 #[.val (.ref vb)] [(.int (1 : Int32)), (.int (Int32.ofNat (2 * cs.length)))]) _
  refine stp (fun _ => XS.ishr X0.here hx rfl (hb hby d26_3) rfl) ?_
  show Go p e below T0 (mkF m 4 #[.val (.ref vb)] [(.int ((Int32.ofNat (2 * cs.length)) >>> ((1 : Int32) &&& 31)))]) _
  refine outI X0 hx hret (hb hby d26_4) hlk (by decide) (by decide) ?_
  exact ⟨own_somei (own_sh1 hN1), N0, e0⟩
theorem d25_0 : decode jdk_52_method_91_code 0 = .ok (.iload_n 0, 1) := by decide +kernel
theorem d25_1 : decode jdk_52_method_91_code 1 = .ok (.aload_n 1, 1) := by decide +kernel
theorem d25_2 : decode jdk_52_method_91_code 2 = .ok (.invokestatic 48, 3) := by decide +kernel
theorem pd_11 : parseMethodDescriptor "([B)I" = some ⟨[(.array .byte)], some .int⟩ := by decide +kernel
theorem d25_5 : decode jdk_52_method_91_code 5 = .ok (.invokestatic 414, 3) := by decide +kernel
theorem d25_8 : decode jdk_52_method_91_code 8 = .ok (.return_, 1) := by decide +kernel
theorem ef_rm_uci (m : MethodId) (i : Int32) (vb : Addr)  : entryFrame m #[(.int i), (.ref vb)] 2 = mkF m 0 #[.val (.int i), .val (.ref vb)] [] := by first | (simp [entryFrame, mkF, argsToLocals, Value.category]; done) | rfl
def Q_rm_uci (Z : State) (i : Int32) (vb : Addr) (cs : List Int32) (j : Nat) (fm : Value) (k_vb : ClassId) (h0 : Heap) (n0 : Nat) (v : Option Value) (h : Heap) (L : List Loc) : Prop := v = none ∧ Fr n0 L ∧ h = h0
theorem pn_17_ : plainName "java/lang/StringUTF16" = true := by first | (simp [plainName, overriddenIn]; done) | decide +kernel
theorem pn_17 : plainFor (⟨"java/lang/StringUTF16", "checkIndex", "(I[B)V"⟩ : MethodName) = true := plainFor_of_name pn_17_
set_option maxRecDepth 65536 in
set_option maxHeartbeats 40000000 in
theorem rm_uci (l : Launch) (Z : State) (a0 : Array Value) (hw : ∀ d ∈ tables_1, d.before a0 Z = true) (ws : List Jvm.Cond) (i : Int32) (vb : Addr) (cs : List Int32) (j : Nat) (fm : Value) (k_vb : ClassId) (h0 : Heap) (n0 : Nat) (O0 : Old Z n0 h0) (V_vb : Arf Z h0 vb k_vb .byte (2 * cs.length) (fun x => (.int (own_ub cs x)))) (S_SIOOBE_FORMATTER : Sta Z Z.heap "jdk/internal/util/Preconditions" "SIOOBE_FORMATTER" "Ljava/util/function/BiFunction;" fm) (hfm : fm.isRef = true) (hi : i.toInt = (j : Int)) (hj : j < cs.length) (hN1 : cs.length ≤ 10) :
    MetFree l (⟨"java/lang/StringUTF16", "checkIndex", "(I[B)V"⟩ : MethodName) (head1 (Jvm.Cond.code (⟨"java/lang/StringUTF16", "checkIndex", "(I[B)V"⟩ : MethodName) jdk_52_method_91_code 2 none :: ws) ({ frames := 2, cells := 0, slots := 0, locals := 27 } : Room)) (fun args_ U => args_ = #[(.int i), (.ref vb)] ∧ Z.Warmed39 U.vm ∧ U.heap = h0) (fun _ _ _ _ _ => True) (fun _ U out_ U' => ∃ val_ loc_, out_ = .returned val_ ∧ (Q_rm_uci Z i vb cs j fm k_vb h0 n0) val_ U'.heap loc_ ∧ FrameEnd U out_ U' loc_ ({ frames := 2, cells := 0, slots := 0, locals := 27 } : Room).cells ({ frames := 2, cells := 0, slots := 0, locals := 27 } : Room).slots) := by
  refine start (Q := (Q_rm_uci Z i vb cs j fm k_vb h0 n0)) pn_17 ?_
  intro p e s m below meth c T0 X0 hx hby hml hown hnm hret hlk hZ e0
  replace hown : s.vm.findClass "java/lang/StringUTF16" = some m.cls := hown
  replace hml : c.maxLocals = 2 := hml
  refine goAt (ef_rm_uci m i vb ) ?_
  have N0 := Fr.nil n0
  show Go p e below T0 (mkF m 0 #[.val (.int i), .val (.ref vb)] []) _
  refine stp (fun _ => XS.iloadN X0.here hx rfl (hb hby d25_0) rfl) ?_
  show Go p e below T0 (mkF m 1 #[.val (.int i), .val (.ref vb)] [(.int i)]) _
  refine stp (fun _ => XS.aloadN X0.here hx rfl (hb hby d25_1) rfl rfl) ?_
  show Go p e below T0 (mkF m 2 #[.val (.int i), .val (.ref vb)] [(.ref vb), (.int i)]) _
  obtain ⟨_, _, ⟨T1, L1, k1, n1⟩, -, X1, ⟨Lc1, hQ1, l1, y1, z1⟩, st1⟩ := Jvm.LawKit.callS X0 hx (y := (⟨"java/lang/StringUTF16", "length", "([B)I"⟩ : MethodName)) hown (mvT hZ (hw _ (List.mem_of_getElem? (i := 105) rfl))) (mvT hZ (hw _ (List.mem_of_getElem? (i := 106) rfl))) (mvT hZ (hw _ (List.mem_of_getElem? (i := 31) rfl))) (mvT hZ (hw _ (List.mem_of_getElem? (i := 107) rfl))) (by decide) (backOf (W := 1) (rm_ul l Z a0 hw [] vb cs k_vb h0 n0 O0 V_vb hN1) hZ (hw _ (List.mem_of_getElem? (i := 107) rfl)) (hw _ (List.mem_of_getElem? (i := 31) rfl)) (by decide) (by decide)) (g := (mkF m 2 #[.val (.int i), .val (.ref vb)] [(.ref vb), (.int i)])) rfl (by rw [hml]; rfl) (argsL := [(.ref vb)]) (rest := [(.int i)]) (lenOf pd_11 rfl) rfl (by show 2 * 0 + _ ≤ _; exact Nat.le_of_eq rfl) (hb hby d25_2) (fun _ _ => ⟨rfl, e0, (by decide : 0 + 0 ≤ _), (by decide : 0 + 0 ≤ _)⟩)
  dsimp only [Pt.U, Pt.locs, Pt.cells, Pt.slots] at X1 l1 y1 z1 st1 hQ1
  subst y1 z1
  obtain ⟨rfl, N1q, e1⟩ := hQ1
  have N1 : Fr n0 L1 := by rw [l1]; exact Fr.app N0 N1q
  refine stp st1 ?_
  show Go p e below T1 (mkF m 5 #[.val (.int i), .val (.ref vb)] [(.int (Int32.ofNat cs.length)), (.int i)]) _
  obtain ⟨_, _, ⟨T2, L2, k2, n2⟩, -, X2, ⟨Lc2, hQ2, l2, y2, z2⟩, st2⟩ := Jvm.LawKit.callS X1 hx (y := (⟨"java/lang/String", "checkIndex", "(II)V"⟩ : MethodName)) hown (mvT hZ (hw _ (List.mem_of_getElem? (i := 108) rfl))) (mvT hZ (hw _ (List.mem_of_getElem? (i := 73) rfl))) (mvT hZ (hw _ (List.mem_of_getElem? (i := 17) rfl))) (mvT hZ (hw _ (List.mem_of_getElem? (i := 74) rfl))) (by decide) (backOf (W := 0) (rm_sci l Z a0 hw [] i (Int32.ofNat cs.length) fm h0 n0 O0 S_SIOOBE_FORMATTER hfm (own_u0 hi) (own_ltI hi (own_ofNatI (by omega)) hj)) hZ (hw _ (List.mem_of_getElem? (i := 74) rfl)) (hw _ (List.mem_of_getElem? (i := 17) rfl)) (by decide) (by decide)) (g := (mkF m 5 #[.val (.int i), .val (.ref vb)] [(.int (Int32.ofNat cs.length)), (.int i)])) rfl (by rw [hml]; rfl) (argsL := [(.int i), (.int (Int32.ofNat cs.length))]) (rest := []) (lenOf pd_10 rfl) rfl (by show 2 * 0 + _ ≤ _; exact Nat.le_of_eq rfl) (hb hby d25_5) (fun _ _ => ⟨rfl, e1, (by decide : 0 + 0 ≤ _), (by decide : 0 + 0 ≤ _)⟩)
  dsimp only [Pt.U, Pt.locs, Pt.cells, Pt.slots] at X2 l2 y2 z2 st2 hQ2
  subst y2 z2
  obtain ⟨rfl, N2q, e2⟩ := hQ2
  have N2 : Fr n0 L2 := by rw [l2]; exact Fr.app N1 N2q
  refine stp st2 ?_
  show Go p e below T2 (mkF m 8 #[.val (.int i), .val (.ref vb)] []) _
  refine outV X2 hx hret (hb hby d25_8) hlk (by decide) (by decide) ?_
  exact ⟨rfl, N2, e2⟩
theorem d24_0 : decode jdk_52_method_83_code 0 = .ok (.iload_n 1, 1) := by decide +kernel
theorem d24_1 : decode jdk_52_method_83_code 1 = .ok (.aload_n 0, 1) := by decide +kernel
theorem d24_2 : decode jdk_52_method_83_code 2 = .ok (.invokestatic 67, 3) := by decide +kernel
theorem pd_12 : parseMethodDescriptor "(I[B)V" = some ⟨[.int, (.array .byte)], none⟩ := by decide +kernel
theorem d24_5 : decode jdk_52_method_83_code 5 = .ok (.aload_n 0, 1) := by decide +kernel
theorem d24_6 : decode jdk_52_method_83_code 6 = .ok (.iload_n 1, 1) := by decide +kernel
theorem d24_7 : decode jdk_52_method_83_code 7 = .ok (.invokestatic 71, 3) := by decide +kernel
theorem d24_10 : decode jdk_52_method_83_code 10 = .ok (.ireturn, 1) := by decide +kernel
theorem ef_rm_uca (m : MethodId) (vb : Addr) (i : Int32)  : entryFrame m #[(.ref vb), (.int i)] 2 = mkF m 0 #[.val (.ref vb), .val (.int i)] [] := by first | (simp [entryFrame, mkF, argsToLocals, Value.category]; done) | rfl
def Q_rm_uca (Z : State) (vb : Addr) (i : Int32) (cs : List Int32) (j : Nat) (fm : Value) (k_vb : ClassId) (h0 : Heap) (n0 : Nat) (v : Option Value) (h : Heap) (L : List Loc) : Prop := v = some (.int (own_at cs j)) ∧ Fr n0 L ∧ h = h0
theorem pn_18_ : plainName "java/lang/StringUTF16" = true := by first | (simp [plainName, overriddenIn]; done) | decide +kernel
theorem pn_18 : plainFor (⟨"java/lang/StringUTF16", "charAt", "([BI)C"⟩ : MethodName) = true := plainFor_of_name pn_18_
set_option maxRecDepth 65536 in
set_option maxHeartbeats 40000000 in
theorem rm_uca (l : Launch) (Z : State) (a0 : Array Value) (hw : ∀ d ∈ tables_1, d.before a0 Z = true) (ws : List Jvm.Cond) (vb : Addr) (i : Int32) (cs : List Int32) (j : Nat) (fm : Value) (k_vb : ClassId) (h0 : Heap) (n0 : Nat) (O0 : Old Z n0 h0) (V_vb : Arf Z h0 vb k_vb .byte (2 * cs.length) (fun x => (.int (own_ub cs x)))) (S_SIOOBE_FORMATTER : Sta Z Z.heap "jdk/internal/util/Preconditions" "SIOOBE_FORMATTER" "Ljava/util/function/BiFunction;" fm) (S__assertionsDisabled : Sta Z Z.heap "java/lang/StringUTF16" "$assertionsDisabled" "Z" (.int (1 : Int32))) (S_HI_BYTE_SHIFT : Sta Z Z.heap "java/lang/StringUTF16" "HI_BYTE_SHIFT" "I" (.int (0 : Int32))) (S_LO_BYTE_SHIFT : Sta Z Z.heap "java/lang/StringUTF16" "LO_BYTE_SHIFT" "I" (.int (8 : Int32))) (hfm : fm.isRef = true) (hi : i.toInt = (j : Int)) (hj : j < cs.length) (hN1 : cs.length ≤ 10) (hsm : ∀ c ∈ cs, ¬ c < 0 ∧ ¬ (65535 : Int32) < c) :
    MetFree l (⟨"java/lang/StringUTF16", "charAt", "([BI)C"⟩ : MethodName) (head1 (Jvm.Cond.code (⟨"java/lang/StringUTF16", "charAt", "([BI)C"⟩ : MethodName) jdk_52_method_83_code 2 (some .char) :: ws) ({ frames := 3, cells := 0, slots := 0, locals := 40 } : Room)) (fun args_ U => args_ = #[(.ref vb), (.int i)] ∧ Z.Warmed39 U.vm ∧ U.heap = h0) (fun _ _ _ _ _ => True) (fun _ U out_ U' => ∃ val_ loc_, out_ = .returned val_ ∧ (Q_rm_uca Z vb i cs j fm k_vb h0 n0) val_ U'.heap loc_ ∧ FrameEnd U out_ U' loc_ ({ frames := 3, cells := 0, slots := 0, locals := 40 } : Room).cells ({ frames := 3, cells := 0, slots := 0, locals := 40 } : Room).slots) := by
  refine start (Q := (Q_rm_uca Z vb i cs j fm k_vb h0 n0)) pn_18 ?_
  intro p e s m below meth c T0 X0 hx hby hml hown hnm hret hlk hZ e0
  replace hown : s.vm.findClass "java/lang/StringUTF16" = some m.cls := hown
  replace hml : c.maxLocals = 2 := hml
  refine goAt (ef_rm_uca m vb i ) ?_
  have N0 := Fr.nil n0
  show Go p e below T0 (mkF m 0 #[.val (.ref vb), .val (.int i)] []) _
  refine stp (fun _ => XS.iloadN X0.here hx rfl (hb hby d24_0) rfl) ?_
  show Go p e below T0 (mkF m 1 #[.val (.ref vb), .val (.int i)] [(.int i)]) _
  refine stp (fun _ => XS.aloadN X0.here hx rfl (hb hby d24_1) rfl rfl) ?_
  show Go p e below T0 (mkF m 2 #[.val (.ref vb), .val (.int i)] [(.ref vb), (.int i)]) _
  obtain ⟨_, _, ⟨T1, L1, k1, n1⟩, -, X1, ⟨Lc1, hQ1, l1, y1, z1⟩, st1⟩ := Jvm.LawKit.callS X0 hx (y := (⟨"java/lang/StringUTF16", "checkIndex", "(I[B)V"⟩ : MethodName)) hown (mvT hZ (hw _ (List.mem_of_getElem? (i := 102) rfl))) (mvT hZ (hw _ (List.mem_of_getElem? (i := 103) rfl))) (mvT hZ (hw _ (List.mem_of_getElem? (i := 31) rfl))) (mvT hZ (hw _ (List.mem_of_getElem? (i := 104) rfl))) (by decide) (backOf (W := 0) (rm_uci l Z a0 hw [] i vb cs j fm k_vb h0 n0 O0 V_vb S_SIOOBE_FORMATTER hfm hi hj hN1) hZ (hw _ (List.mem_of_getElem? (i := 104) rfl)) (hw _ (List.mem_of_getElem? (i := 31) rfl)) (by decide) (by decide)) (g := (mkF m 2 #[.val (.ref vb), .val (.int i)] [(.ref vb), (.int i)])) rfl (by rw [hml]; rfl) (argsL := [(.int i), (.ref vb)]) (rest := []) (lenOf pd_12 rfl) rfl (by show 2 * 0 + _ ≤ _; exact Nat.le_of_eq rfl) (hb hby d24_2) (fun _ _ => ⟨rfl, e0, (by decide : 0 + 0 ≤ _), (by decide : 0 + 0 ≤ _)⟩)
  dsimp only [Pt.U, Pt.locs, Pt.cells, Pt.slots] at X1 l1 y1 z1 st1 hQ1
  subst y1 z1
  obtain ⟨rfl, N1q, e1⟩ := hQ1
  have N1 : Fr n0 L1 := by rw [l1]; exact Fr.app N0 N1q
  refine stp st1 ?_
  show Go p e below T1 (mkF m 5 #[.val (.ref vb), .val (.int i)] []) _
  refine stp (fun _ => XS.aloadN X1.here hx rfl (hb hby d24_5) rfl rfl) ?_
  show Go p e below T1 (mkF m 6 #[.val (.ref vb), .val (.int i)] [(.ref vb)]) _
  refine stp (fun _ => XS.iloadN X1.here hx rfl (hb hby d24_6) rfl) ?_
  show Go p e below T1 (mkF m 7 #[.val (.ref vb), .val (.int i)] [(.int i), (.ref vb)]) _
  obtain ⟨_, _, ⟨T2, L2, k2, n2⟩, -, X2, ⟨Lc2, hQ2, l2, y2, z2⟩, st2⟩ := Jvm.LawKit.callS X1 hx (y := (⟨"java/lang/StringUTF16", "getChar", "([BI)C"⟩ : MethodName)) hown (mvT hZ (hw _ (List.mem_of_getElem? (i := 96) rfl))) (mvT hZ (hw _ (List.mem_of_getElem? (i := 97) rfl))) (mvT hZ (hw _ (List.mem_of_getElem? (i := 31) rfl))) (mvT hZ (hw _ (List.mem_of_getElem? (i := 98) rfl))) (by decide) (backOf (W := 0) (rm_gc l Z a0 hw [] vb i cs j k_vb h0 n0 O0 V_vb S__assertionsDisabled S_HI_BYTE_SHIFT S_LO_BYTE_SHIFT hi hj hN1 hsm) hZ (hw _ (List.mem_of_getElem? (i := 98) rfl)) (hw _ (List.mem_of_getElem? (i := 31) rfl)) (by decide) (by decide)) (g := (mkF m 7 #[.val (.ref vb), .val (.int i)] [(.int i), (.ref vb)])) rfl (by rw [hml]; rfl) (argsL := [(.ref vb), (.int i)]) (rest := []) (lenOf pd_5 rfl) rfl (by show 2 * 0 + _ ≤ _; exact Nat.le_of_eq rfl) (hb hby d24_7) (fun _ _ => ⟨rfl, e1, (by decide : 0 + 0 ≤ _), (by decide : 0 + 0 ≤ _)⟩)
  dsimp only [Pt.U, Pt.locs, Pt.cells, Pt.slots] at X2 l2 y2 z2 st2 hQ2
  subst y2 z2
  obtain ⟨rfl, N2q, e2⟩ := hQ2
  have N2 : Fr n0 L2 := by rw [l2]; exact Fr.app N1 N2q
  refine stp st2 ?_
  show Go p e below T2 (mkF m 10 #[.val (.ref vb), .val (.int i)] [(.int (own_at cs j))]) _
  refine outN X2 hx (t := .char) hret (by simp) (hb hby d24_10) hlk (by decide) (by decide) ?_
  exact ⟨own_somei (own_narc (own_u16all hsm hj)), N2, e2⟩
theorem d14_0 : decode jdk_42_method_56_code 0 = .ok (.aload_n 0, 1) := by decide +kernel
theorem d14_1 : decode jdk_42_method_56_code 1 = .ok (.invokevirtual 492, 3) := by decide +kernel
theorem pd_13 : parseMethodDescriptor "()Z" = some ⟨[], some .boolean⟩ := by decide +kernel
theorem d14_4 : decode jdk_42_method_56_code 4 = .ok (.ifCond .eq 12, 3) := by decide +kernel
theorem d14_7 : decode jdk_42_method_56_code 7 = .ok (.aload_n 0, 1) := by decide +kernel
theorem d14_8 : decode jdk_42_method_56_code 8 = .ok (.getfield 9, 3) := by decide +kernel
theorem d14_11 : decode jdk_42_method_56_code 11 = .ok (.iload_n 1, 1) := by decide +kernel
theorem d14_12 : decode jdk_42_method_56_code 12 = .ok (.invokestatic 495, 3) := by decide +kernel
theorem d14_15 : decode jdk_42_method_56_code 15 = .ok (.ireturn, 1) := by decide +kernel
theorem d14_16 : decode jdk_42_method_56_code 16 = .ok (.aload_n 0, 1) := by decide +kernel
theorem d14_17 : decode jdk_42_method_56_code 17 = .ok (.getfield 9, 3) := by decide +kernel
theorem d14_20 : decode jdk_42_method_56_code 20 = .ok (.iload_n 1, 1) := by decide +kernel
theorem d14_21 : decode jdk_42_method_56_code 21 = .ok (.invokestatic 498, 3) := by decide +kernel
theorem d14_24 : decode jdk_42_method_56_code 24 = .ok (.ireturn, 1) := by decide +kernel
theorem ef_rm_uch (m : MethodId) (t : Addr) (i : Int32)  : entryFrame m #[(.ref t), (.int i)] 2 = mkF m 0 #[.val (.ref t), .val (.int i)] [] := by first | (simp [entryFrame, mkF, argsToLocals, Value.category]; done) | rfl
def Q_rm_uch (Z : State) (t : Addr) (i : Int32) (cs : List Int32) (cz : Int32) (fm : Value) (j : Nat) (h0 : Heap) (n0 : Nat) (v : Option Value) (h : Heap) (L : List Loc) : Prop := v = some (.int (own_at cs j)) ∧ Fr n0 L ∧ h = h0
theorem pn_19_ : plainName "java/lang/String" = true := by first | (simp [plainName, overriddenIn]; done) | decide +kernel
theorem pn_19 : plainFor (⟨"java/lang/String", "charAt", "(I)C"⟩ : MethodName) = true := plainFor_of_name pn_19_
set_option maxRecDepth 65536 in
set_option maxHeartbeats 40000000 in
theorem rm_uch (l : Launch) (Z : State) (a0 : Array Value) (hw : ∀ d ∈ tables_1, d.before a0 Z = true) (ws : List Jvm.Cond) (t : Addr) (i : Int32) (cs : List Int32) (cz : Int32) (fm : Value) (j : Nat) (h0 : Heap) (n0 : Nat) (O0 : Old Z n0 h0) (Q_t : UStr Z h0 t cs) (S_COMPACT_STRINGS : Sta Z Z.heap "java/lang/String" "COMPACT_STRINGS" "Z" (.int cz)) (S_SIOOBE_FORMATTER : Sta Z Z.heap "jdk/internal/util/Preconditions" "SIOOBE_FORMATTER" "Ljava/util/function/BiFunction;" fm) (S__assertionsDisabled : Sta Z Z.heap "java/lang/StringUTF16" "$assertionsDisabled" "Z" (.int (1 : Int32))) (S_HI_BYTE_SHIFT : Sta Z Z.heap "java/lang/StringUTF16" "HI_BYTE_SHIFT" "I" (.int (0 : Int32))) (S_LO_BYTE_SHIFT : Sta Z Z.heap "java/lang/StringUTF16" "LO_BYTE_SHIFT" "I" (.int (8 : Int32))) (hcz : ¬ cz = (0 : Int32)) (hfm : fm.isRef = true) (hi : i.toInt = (j : Int)) (hj : j < cs.length) :
    MetFree l (⟨"java/lang/String", "charAt", "(I)C"⟩ : MethodName) (head1 (Jvm.Cond.code (⟨"java/lang/String", "charAt", "(I)C"⟩ : MethodName) jdk_42_method_56_code 2 (some .char) :: ws) ({ frames := 4, cells := 0, slots := 0, locals := 53 } : Room)) (fun args_ U => args_ = #[(.ref t), (.int i)] ∧ Z.Warmed39 U.vm ∧ U.heap = h0) (fun _ _ _ _ _ => True) (fun _ U out_ U' => ∃ val_ loc_, out_ = .returned val_ ∧ (Q_rm_uch Z t i cs cz fm j h0 n0) val_ U'.heap loc_ ∧ FrameEnd U out_ U' loc_ ({ frames := 4, cells := 0, slots := 0, locals := 53 } : Room).cells ({ frames := 4, cells := 0, slots := 0, locals := 53 } : Room).slots) := by
  refine start (Q := (Q_rm_uch Z t i cs cz fm j h0 n0)) pn_19 ?_
  intro p e s m below meth c T0 X0 hx hby hml hown hnm hret hlk hZ e0
  replace hown : s.vm.findClass "java/lang/String" = some m.cls := hown
  replace hml : c.maxLocals = 2 := hml
  refine goAt (ef_rm_uch m t i ) ?_
  have N0 := Fr.nil n0
  show Go p e below T0 (mkF m 0 #[.val (.ref t), .val (.int i)] []) _
  rcases (id Q_t) with Q_t | Q_t
  · obtain ⟨tv_t, kv_t, Eo_t, Fv_t, Fc_t, Va_t, hp_t, hl_t⟩ := (id Q_t)
    show Go p e below T0 (mkF m 0 #[.val (.ref t), .val (.int i)] []) _
    refine stp (fun _ => XS.aloadN X0.here hx rfl (hb hby d14_0) rfl rfl) ?_
    show Go p e below T0 (mkF m 1 #[.val (.ref t), .val (.int i)] [(.ref t)]) _
    obtain ⟨cq1, kq1, q1a, q1b, q1c⟩ := isOf hZ e0 Eo_t
    obtain ⟨_, _, ⟨T1, L1, k1, n1⟩, -, X1, ⟨Lc1, hQ1, l1, y1, z1⟩, st1⟩ := X0.virtualBack hx (y := (⟨"java/lang/String", "isLatin1", "()Z"⟩ : MethodName)) (z := (⟨"java/lang/String", "isLatin1", "()Z"⟩ : MethodName)) hown (mvT hZ (hw _ (List.mem_of_getElem? (i := 63) rfl))) (mvT hZ (hw _ (List.mem_of_getElem? (i := 64) rfl))) (notFace_of_selects (args := #[]) (mvT hZ (hw _ (List.mem_of_getElem? (i := 66) rfl)))) (mvT hZ (hw _ (List.mem_of_getElem? (i := 66) rfl))) (mvT hZ (hw _ (List.mem_of_getElem? (i := 65) rfl))) (by decide) (backOf (W := 0) (rm_il0 l Z a0 hw [] t cz h0 n0 O0 Fc_t S_COMPACT_STRINGS hcz) hZ (hw _ (List.mem_of_getElem? (i := 67) rfl)) (hw _ (List.mem_of_getElem? (i := 17) rfl)) (by decide) (by decide)) q1a q1c (g := (mkF m 1 #[.val (.ref t), .val (.int i)] [(.ref t)])) rfl (by rw [hml]; rfl) (Steps.refl _) (argsL := []) (rest := []) (lenOf pd_13 rfl) rfl (by show 2 * 0 + _ ≤ _; exact Nat.le_of_eq rfl) (hb hby d14_1) (fun _ _ => ⟨rfl, e0, (by decide : 0 + 0 ≤ _), (by decide : 0 + 0 ≤ _)⟩)
    dsimp only [Pt.U, Pt.locs, Pt.cells, Pt.slots] at X1 l1 y1 z1 st1 hQ1
    subst y1 z1
    obtain ⟨rfl, N1q, e1⟩ := hQ1
    have N1 : Fr n0 L1 := by rw [l1]; exact Fr.app N0 N1q
    refine stt st1 ?_
    show Go p e below T1 (mkF m 4 #[.val (.ref t), .val (.int i)] [(.int (1 : Int32))]) _
    refine stp (fun _ => XS.ifNo X1.here hx rfl (hb hby d14_4) rfl (by decide)) ?_
    show Go p e below T1 (mkF m 7 #[.val (.ref t), .val (.int i)] []) _
    refine stp (fun _ => XS.aloadN X1.here hx rfl (hb hby d14_7) rfl rfl) ?_
    show Go p e below T1 (mkF m 8 #[.val (.ref t), .val (.int i)] [(.ref t)]) _
    obtain ⟨T2, X2, e2, st2⟩ := getF X1 hx hZ hown (host := "") (Or.inl (hw _ (List.mem_of_getElem? (i := 42) rfl))) Via.refl e1 Fv_t (g := (mkF m 8 #[.val (.ref t), .val (.int i)] [(.ref t)])) rfl rfl (hb hby d14_8)
    refine stp st2 ?_
    show Go p e below T2 (mkF m 11 #[.val (.ref t), .val (.int i)] [(.ref tv_t)]) _
    refine stp (fun _ => XS.iloadN X2.here hx rfl (hb hby d14_11) rfl) ?_
    show Go p e below T2 (mkF m 12 #[.val (.ref t), .val (.int i)] [(.int i), (.ref tv_t)]) _
    obtain ⟨_, _, ⟨T3, L3, k3, n3⟩, -, X3, ⟨Lc3, hQ3, l3, y3, z3⟩, st3⟩ := Jvm.LawKit.callS X2 hx (y := (⟨"java/lang/StringLatin1", "charAt", "([BI)C"⟩ : MethodName)) hown (mvT hZ (hw _ (List.mem_of_getElem? (i := 68) rfl))) (mvT hZ (hw _ (List.mem_of_getElem? (i := 69) rfl))) (mvT hZ (hw _ (List.mem_of_getElem? (i := 70) rfl))) (mvT hZ (hw _ (List.mem_of_getElem? (i := 71) rfl))) (by decide) (backOf (W := 0) (rm_lca l Z a0 hw [] tv_t i cs j fm kv_t h0 n0 O0 Va_t S_SIOOBE_FORMATTER hfm hi hj hl_t hp_t) hZ (hw _ (List.mem_of_getElem? (i := 71) rfl)) (hw _ (List.mem_of_getElem? (i := 70) rfl)) (by decide) (by decide)) (g := (mkF m 12 #[.val (.ref t), .val (.int i)] [(.int i), (.ref tv_t)])) rfl (by rw [hml]; rfl) (argsL := [(.ref tv_t), (.int i)]) (rest := []) (lenOf pd_5 rfl) rfl (by show 2 * 0 + _ ≤ _; exact Nat.le_of_eq rfl) (hb hby d14_12) (fun _ _ => ⟨rfl, e2, (by decide : 0 + 0 ≤ _), (by decide : 0 + 0 ≤ _)⟩)
    dsimp only [Pt.U, Pt.locs, Pt.cells, Pt.slots] at X3 l3 y3 z3 st3 hQ3
    subst y3 z3
    obtain ⟨rfl, N3q, e3⟩ := hQ3
    have N3 : Fr n0 L3 := by rw [l3]; exact Fr.app N1 N3q
    refine stp st3 ?_
    show Go p e below T3 (mkF m 15 #[.val (.ref t), .val (.int i)] [(.int (own_at cs j))]) _
    refine outN X3 hx (t := .char) hret (by simp) (hb hby d14_15) hlk (by decide) (by decide) ?_
    exact ⟨own_somei (own_narc (own_up16 (hp_t _ (own_at_mem hj)))), N3, e3⟩
  · obtain ⟨tv_t, kv_t, Eo_t, Fv_t, Fc_t, Va_t, hp_t, hl_t⟩ := (id Q_t)
    show Go p e below T0 (mkF m 0 #[.val (.ref t), .val (.int i)] []) _
    refine stp (fun _ => XS.aloadN X0.here hx rfl (hb hby d14_0) rfl rfl) ?_
    show Go p e below T0 (mkF m 1 #[.val (.ref t), .val (.int i)] [(.ref t)]) _
    obtain ⟨cq4, kq4, q4a, q4b, q4c⟩ := isOf hZ e0 Eo_t
    obtain ⟨_, _, ⟨T4, L4, k4, n4⟩, -, X4, ⟨Lc4, hQ4, l4, y4, z4⟩, st4⟩ := X0.virtualBack hx (y := (⟨"java/lang/String", "isLatin1", "()Z"⟩ : MethodName)) (z := (⟨"java/lang/String", "isLatin1", "()Z"⟩ : MethodName)) hown (mvT hZ (hw _ (List.mem_of_getElem? (i := 63) rfl))) (mvT hZ (hw _ (List.mem_of_getElem? (i := 64) rfl))) (notFace_of_selects (args := #[]) (mvT hZ (hw _ (List.mem_of_getElem? (i := 66) rfl)))) (mvT hZ (hw _ (List.mem_of_getElem? (i := 66) rfl))) (mvT hZ (hw _ (List.mem_of_getElem? (i := 65) rfl))) (by decide) (backOf (W := 0) (rm_il1 l Z a0 hw [] t cz h0 n0 O0 Fc_t S_COMPACT_STRINGS hcz) hZ (hw _ (List.mem_of_getElem? (i := 67) rfl)) (hw _ (List.mem_of_getElem? (i := 17) rfl)) (by decide) (by decide)) q4a q4c (g := (mkF m 1 #[.val (.ref t), .val (.int i)] [(.ref t)])) rfl (by rw [hml]; rfl) (Steps.refl _) (argsL := []) (rest := []) (lenOf pd_13 rfl) rfl (by show 2 * 0 + _ ≤ _; exact Nat.le_of_eq rfl) (hb hby d14_1) (fun _ _ => ⟨rfl, e0, (by decide : 0 + 0 ≤ _), (by decide : 0 + 0 ≤ _)⟩)
    dsimp only [Pt.U, Pt.locs, Pt.cells, Pt.slots] at X4 l4 y4 z4 st4 hQ4
    subst y4 z4
    obtain ⟨rfl, N4q, e4⟩ := hQ4
    have N4 : Fr n0 L4 := by rw [l4]; exact Fr.app N0 N4q
    refine stt st4 ?_
    show Go p e below T4 (mkF m 4 #[.val (.ref t), .val (.int i)] [(.int (0 : Int32))]) _
    refine stp (fun _ => XS.ifYes X4.here hx rfl (pc0 := 4) (pc' := 16) rfl (hb hby d14_4) rfl (by decide) (by decide) (by decide)) ?_
    show Go p e below T4 (mkF m 16 #[.val (.ref t), .val (.int i)] []) _
    refine stp (fun _ => XS.aloadN X4.here hx rfl (hb hby d14_16) rfl rfl) ?_
    show Go p e below T4 (mkF m 17 #[.val (.ref t), .val (.int i)] [(.ref t)]) _
    obtain ⟨T5, X5, e5, st5⟩ := getF X4 hx hZ hown (host := "") (Or.inl (hw _ (List.mem_of_getElem? (i := 42) rfl))) Via.refl e4 Fv_t (g := (mkF m 17 #[.val (.ref t), .val (.int i)] [(.ref t)])) rfl rfl (hb hby d14_17)
    refine stp st5 ?_
    show Go p e below T5 (mkF m 20 #[.val (.ref t), .val (.int i)] [(.ref tv_t)]) _
    refine stp (fun _ => XS.iloadN X5.here hx rfl (hb hby d14_20) rfl) ?_
    show Go p e below T5 (mkF m 21 #[.val (.ref t), .val (.int i)] [(.int i), (.ref tv_t)]) _
    obtain ⟨_, _, ⟨T6, L6, k6, n6⟩, -, X6, ⟨Lc6, hQ6, l6, y6, z6⟩, st6⟩ := Jvm.LawKit.callS X5 hx (y := (⟨"java/lang/StringUTF16", "charAt", "([BI)C"⟩ : MethodName)) hown (mvT hZ (hw _ (List.mem_of_getElem? (i := 99) rfl))) (mvT hZ (hw _ (List.mem_of_getElem? (i := 100) rfl))) (mvT hZ (hw _ (List.mem_of_getElem? (i := 31) rfl))) (mvT hZ (hw _ (List.mem_of_getElem? (i := 101) rfl))) (by decide) (backOf (W := 0) (rm_uca l Z a0 hw [] tv_t i cs j fm kv_t h0 n0 O0 Va_t S_SIOOBE_FORMATTER S__assertionsDisabled S_HI_BYTE_SHIFT S_LO_BYTE_SHIFT hfm hi hj hl_t hp_t) hZ (hw _ (List.mem_of_getElem? (i := 101) rfl)) (hw _ (List.mem_of_getElem? (i := 31) rfl)) (by decide) (by decide)) (g := (mkF m 21 #[.val (.ref t), .val (.int i)] [(.int i), (.ref tv_t)])) rfl (by rw [hml]; rfl) (argsL := [(.ref tv_t), (.int i)]) (rest := []) (lenOf pd_5 rfl) rfl (by show 2 * 0 + _ ≤ _; exact Nat.le_of_eq rfl) (hb hby d14_21) (fun _ _ => ⟨rfl, e5, (by decide : 0 + 0 ≤ _), (by decide : 0 + 0 ≤ _)⟩)
    dsimp only [Pt.U, Pt.locs, Pt.cells, Pt.slots] at X6 l6 y6 z6 st6 hQ6
    subst y6 z6
    obtain ⟨rfl, N6q, e6⟩ := hQ6
    have N6 : Fr n0 L6 := by rw [l6]; exact Fr.app N4 N6q
    refine stp st6 ?_
    show Go p e below T6 (mkF m 24 #[.val (.ref t), .val (.int i)] [(.int (own_at cs j))]) _
    refine outN X6 hx (t := .char) hret (by simp) (hb hby d14_24) hlk (by decide) (by decide) ?_
    exact ⟨own_somei (own_narc (own_u16all hp_t hj)), N6, e6⟩
theorem d1_0 : decode method_2_code 0 = .ok (.iload_n 0, 1) := by decide +kernel
theorem d1_1 : decode method_2_code 1 = .ok (.iconst 2, 1) := by decide +kernel
theorem d1_2 : decode method_2_code 2 = .ok (.iload_n 1, 1) := by decide +kernel
theorem d1_3 : decode method_2_code 3 = .ok (.imul, 1) := by decide +kernel
theorem d1_4 : decode method_2_code 4 = .ok (.iushr, 1) := by decide +kernel
theorem d1_5 : decode method_2_code 5 = .ok (.iconst 3, 1) := by decide +kernel
theorem d1_6 : decode method_2_code 6 = .ok (.iand, 1) := by decide +kernel
theorem d1_7 : decode method_2_code 7 = .ok (.istore_n 3, 1) := by decide +kernel
theorem d1_8 : decode method_2_code 8 = .ok (.iload_n 3, 1) := by decide +kernel
theorem d1_9 : decode method_2_code 9 = .ok (.ifCond .ne 6, 3) := by decide +kernel
theorem d1_12 : decode method_2_code 12 = .ok (.bipush 34, 2) := by decide +kernel
theorem d1_14 : decode method_2_code 14 = .ok (.ireturn, 1) := by decide +kernel
theorem d1_15 : decode method_2_code 15 = .ok (.iload_n 3, 1) := by decide +kernel
theorem d1_16 : decode method_2_code 16 = .ok (.iconst 1, 1) := by decide +kernel
theorem d1_17 : decode method_2_code 17 = .ok (.if_icmp .ne 6, 3) := by decide +kernel
theorem d1_20 : decode method_2_code 20 = .ok (.bipush 92, 2) := by decide +kernel
theorem d1_22 : decode method_2_code 22 = .ok (.ireturn, 1) := by decide +kernel
theorem d1_23 : decode method_2_code 23 = .ok (.iload_n 2, 1) := by decide +kernel
theorem d1_24 : decode method_2_code 24 = .ok (.ireturn, 1) := by decide +kernel
theorem ef_rm_pick (m : MethodId) (sh : Int32) (jj : Int32) (ot : Int32)  : entryFrame m #[(.int sh), (.int jj), (.int ot)] 4 = mkF m 0 #[.val (.int sh), .val (.int jj), .val (.int ot), .unset] [] := by first | (simp [entryFrame, mkF, argsToLocals, Value.category]; done) | rfl
def Q_rm_pick (Z : State) (sh : Int32) (jj : Int32) (ot : Int32)  (h0 : Heap) (n0 : Nat) (v : Option Value) (h : Heap) (L : List Loc) : Prop := v = some (.int (own_pick sh jj ot)) ∧ Fr n0 L ∧ h = h0
theorem pn_20_ : plainName "com/example/goldpage/goldpage/record/QuotingEndPinLaw" = true := by first | (simp [plainName, overriddenIn]; done) | decide +kernel
theorem pn_20 : plainFor (⟨"com/example/goldpage/goldpage/record/QuotingEndPinLaw", "pick", "(IIC)C"⟩ : MethodName) = true := plainFor_of_name pn_20_
set_option maxRecDepth 65536 in
set_option maxHeartbeats 40000000 in
theorem rm_pick (l : Launch) (Z : State) (a0 : Array Value) (hw : ∀ d ∈ tables_1, d.before a0 Z = true) (ws : List Jvm.Cond) (sh : Int32) (jj : Int32) (ot : Int32)  (h0 : Heap) (n0 : Nat) (O0 : Old Z n0 h0) (ho : ¬ ot < 0 ∧ ¬ (65535 : Int32) < ot) :
    MetFree l (⟨"com/example/goldpage/goldpage/record/QuotingEndPinLaw", "pick", "(IIC)C"⟩ : MethodName) (head1 (Jvm.Cond.code (⟨"com/example/goldpage/goldpage/record/QuotingEndPinLaw", "pick", "(IIC)C"⟩ : MethodName) method_2_code 4 (some .char) :: ws) ({ frames := 0, cells := 0, slots := 0, locals := 0 } : Room)) (fun args_ U => args_ = #[(.int sh), (.int jj), (.int ot)] ∧ Z.Warmed39 U.vm ∧ U.heap = h0) (fun _ _ _ _ _ => True) (fun _ U out_ U' => ∃ val_ loc_, out_ = .returned val_ ∧ (Q_rm_pick Z sh jj ot h0 n0) val_ U'.heap loc_ ∧ FrameEnd U out_ U' loc_ ({ frames := 0, cells := 0, slots := 0, locals := 0 } : Room).cells ({ frames := 0, cells := 0, slots := 0, locals := 0 } : Room).slots) := by
  refine start (Q := (Q_rm_pick Z sh jj ot h0 n0)) pn_20 ?_
  intro p e s m below meth c T0 X0 hx hby hml hown hnm hret hlk hZ e0
  replace hown : s.vm.findClass "com/example/goldpage/goldpage/record/QuotingEndPinLaw" = some m.cls := hown
  replace hml : c.maxLocals = 4 := hml
  refine goAt (ef_rm_pick m sh jj ot ) ?_
  have N0 := Fr.nil n0
  show Go p e below T0 (mkF m 0 #[.val (.int sh), .val (.int jj), .val (.int ot), .unset] []) _
  refine stp (fun _ => XS.iloadN X0.here hx rfl (hb hby d1_0) rfl) ?_
  show Go p e below T0 (mkF m 1 #[.val (.int sh), .val (.int jj), .val (.int ot), .unset] [(.int sh)]) _
  refine stp (fun _ => XS.iconst X0.here hx rfl (hb hby d1_1)) ?_
  show Go p e below T0 (mkF m 2 #[.val (.int sh), .val (.int jj), .val (.int ot), .unset] [(.int (2 : Int32)), (.int sh)]) _
  refine stp (fun _ => XS.iloadN X0.here hx rfl (hb hby d1_2) rfl) ?_
  show Go p e below T0 (mkF m 3 #[.val (.int sh), .val (.int jj), .val (.int ot), .unset] [(.int jj), (.int (2 : Int32)), (.int sh)]) _
  refine stp (fun _ => XS.imul X0.here hx rfl (hb hby d1_3) rfl) ?_
  show Go p e below T0 (mkF m 4 #[.val (.int sh), .val (.int jj), .val (.int ot), .unset] [(.int ((2 : Int32) * jj)), (.int sh)]) _
  refine stp (fun _ => XS.iushr X0.here hx rfl (hb hby d1_4) rfl) ?_
  show Go p e below T0 (mkF m 5 #[.val (.int sh), .val (.int jj), .val (.int ot), .unset] [(.int ((sh.toUInt32 >>> (((2 : Int32) * jj) &&& 31).toUInt32).toInt32))]) _
  refine stp (fun _ => XS.iconst X0.here hx rfl (hb hby d1_5)) ?_
  show Go p e below T0 (mkF m 6 #[.val (.int sh), .val (.int jj), .val (.int ot), .unset] [(.int (3 : Int32)), (.int ((sh.toUInt32 >>> (((2 : Int32) * jj) &&& 31).toUInt32).toInt32))]) _
  refine stp (fun _ => XS.iand X0.here hx rfl (hb hby d1_6) rfl) ?_
  show Go p e below T0 (mkF m 7 #[.val (.int sh), .val (.int jj), .val (.int ot), .unset] [(.int (((sh.toUInt32 >>> (((2 : Int32) * jj) &&& 31).toUInt32).toInt32) &&& (3 : Int32)))]) _
  refine stp (fun _ => XS.istoreN X0.here hx rfl (hb hby d1_7) rfl (l' := #[.val (.int sh), .val (.int jj), .val (.int ot), .val (.int (((sh.toUInt32 >>> (((2 : Int32) * jj) &&& 31).toUInt32).toInt32) &&& (3 : Int32)))]) rfl) ?_
  show Go p e below T0 (mkF m 8 #[.val (.int sh), .val (.int jj), .val (.int ot), .val (.int (((sh.toUInt32 >>> (((2 : Int32) * jj) &&& 31).toUInt32).toInt32) &&& (3 : Int32)))] []) _
  refine stp (fun _ => XS.iloadN X0.here hx rfl (hb hby d1_8) rfl) ?_
  show Go p e below T0 (mkF m 9 #[.val (.int sh), .val (.int jj), .val (.int ot), .val (.int (((sh.toUInt32 >>> (((2 : Int32) * jj) &&& 31).toUInt32).toInt32) &&& (3 : Int32)))] [(.int (((sh.toUInt32 >>> (((2 : Int32) * jj) &&& 31).toUInt32).toInt32) &&& (3 : Int32)))]) _
  by_cases q9_1 : (((sh.toUInt32 >>> (((2 : Int32) * jj) &&& 31).toUInt32).toInt32) &&& (3 : Int32)) = 0
  · refine stp (fun _ => XS.ifNo X0.here hx rfl (hb hby d1_9) rfl (XT.i0_ne_f q9_1)) ?_
    show Go p e below T0 (mkF m 12 #[.val (.int sh), .val (.int jj), .val (.int ot), .val (.int (((sh.toUInt32 >>> (((2 : Int32) * jj) &&& 31).toUInt32).toInt32) &&& (3 : Int32)))] []) _
    refine stp (fun _ => XS.bipush X0.here hx rfl (hb hby d1_12)) ?_
    show Go p e below T0 (mkF m 14 #[.val (.int sh), .val (.int jj), .val (.int ot), .val (.int (((sh.toUInt32 >>> (((2 : Int32) * jj) &&& 31).toUInt32).toInt32) &&& (3 : Int32)))] [(.int (34 : Int32))]) _
    refine outN X0 hx (t := .char) hret (by simp) (hb hby d1_14) hlk (by decide) (by decide) ?_
    exact ⟨own_somei (by simp only [own_pick, if_pos q9_1]; exact rfl), N0, e0⟩
  · refine stp (fun _ => XS.ifYes X0.here hx rfl (pc0 := 9) (pc' := 15) rfl (hb hby d1_9) rfl (XT.i0_ne_t q9_1) (by decide) (by decide)) ?_
    show Go p e below T0 (mkF m 15 #[.val (.int sh), .val (.int jj), .val (.int ot), .val (.int (((sh.toUInt32 >>> (((2 : Int32) * jj) &&& 31).toUInt32).toInt32) &&& (3 : Int32)))] []) _
    refine stp (fun _ => XS.iloadN X0.here hx rfl (hb hby d1_15) rfl) ?_
    show Go p e below T0 (mkF m 16 #[.val (.int sh), .val (.int jj), .val (.int ot), .val (.int (((sh.toUInt32 >>> (((2 : Int32) * jj) &&& 31).toUInt32).toInt32) &&& (3 : Int32)))] [(.int (((sh.toUInt32 >>> (((2 : Int32) * jj) &&& 31).toUInt32).toInt32) &&& (3 : Int32)))]) _
    refine stp (fun _ => XS.iconst X0.here hx rfl (hb hby d1_16)) ?_
    show Go p e below T0 (mkF m 17 #[.val (.int sh), .val (.int jj), .val (.int ot), .val (.int (((sh.toUInt32 >>> (((2 : Int32) * jj) &&& 31).toUInt32).toInt32) &&& (3 : Int32)))] [(.int (1 : Int32)), (.int (((sh.toUInt32 >>> (((2 : Int32) * jj) &&& 31).toUInt32).toInt32) &&& (3 : Int32)))]) _
    by_cases q17_2 : (((sh.toUInt32 >>> (((2 : Int32) * jj) &&& 31).toUInt32).toInt32) &&& (3 : Int32)) = (1 : Int32)
    · refine stp (fun _ => XS.icmpNo X0.here hx rfl (hb hby d1_17) rfl (XT.ii_ne_f q17_2)) ?_
      show Go p e below T0 (mkF m 20 #[.val (.int sh), .val (.int jj), .val (.int ot), .val (.int (((sh.toUInt32 >>> (((2 : Int32) * jj) &&& 31).toUInt32).toInt32) &&& (3 : Int32)))] []) _
      refine stp (fun _ => XS.bipush X0.here hx rfl (hb hby d1_20)) ?_
      show Go p e below T0 (mkF m 22 #[.val (.int sh), .val (.int jj), .val (.int ot), .val (.int (((sh.toUInt32 >>> (((2 : Int32) * jj) &&& 31).toUInt32).toInt32) &&& (3 : Int32)))] [(.int (92 : Int32))]) _
      refine outN X0 hx (t := .char) hret (by simp) (hb hby d1_22) hlk (by decide) (by decide) ?_
      exact ⟨own_somei (by simp only [own_pick, if_neg q9_1, if_pos q17_2]; exact rfl), N0, e0⟩
    · refine stp (fun _ => XS.icmpYes X0.here hx rfl (pc0 := 17) (pc' := 23) rfl (hb hby d1_17) rfl (XT.ii_ne_t q17_2) (by decide) (by decide)) ?_
      show Go p e below T0 (mkF m 23 #[.val (.int sh), .val (.int jj), .val (.int ot), .val (.int (((sh.toUInt32 >>> (((2 : Int32) * jj) &&& 31).toUInt32).toInt32) &&& (3 : Int32)))] []) _
      refine stp (fun _ => XS.iloadN X0.here hx rfl (hb hby d1_23) rfl) ?_
      show Go p e below T0 (mkF m 24 #[.val (.int sh), .val (.int jj), .val (.int ot), .val (.int (((sh.toUInt32 >>> (((2 : Int32) * jj) &&& 31).toUInt32).toInt32) &&& (3 : Int32)))] [(.int ot)]) _
      refine outN X0 hx (t := .char) hret (by simp) (hb hby d1_24) hlk (by decide) (by decide) ?_
      exact ⟨own_somei (by simp only [own_pick, if_neg q9_1, if_neg q17_2]; exact own_narc ho), N0, e0⟩
theorem d4_0 : decode method_3_code 0 = .ok (.iload_n 1, 1) := by decide +kernel
theorem d4_1 : decode method_3_code 1 = .ok (.iload_n 2, 1) := by decide +kernel
theorem d4_2 : decode method_3_code 2 = .ok (.if_icmp .lt 15, 3) := by decide +kernel
theorem d4_17 : decode method_3_code 17 = .ok (.iconst 0, 1) := by decide +kernel
theorem d4_18 : decode method_3_code 18 = .ok (.ireturn, 1) := by decide +kernel
theorem d4_5 : decode method_3_code 5 = .ok (.aload_n 0, 1) := by decide +kernel
theorem d4_6 : decode method_3_code 6 = .ok (.iload_n 1, 1) := by decide +kernel
theorem d4_7 : decode method_3_code 7 = .ok (.caload, 1) := by decide +kernel
theorem d4_8 : decode method_3_code 8 = .ok (.bipush 92, 2) := by decide +kernel
theorem d4_10 : decode method_3_code 10 = .ok (.if_icmp .ne 7, 3) := by decide +kernel
theorem d4_13 : decode method_3_code 13 = .ok (.iconst 1, 1) := by decide +kernel
theorem d4_14 : decode method_3_code 14 = .ok (.goto 4, 3) := by decide +kernel
theorem ef_rm_bs (m : MethodId) (ta : Addr) (k : Int32) (fr : Int32)  : entryFrame m #[(.ref ta), (.int k), (.int fr)] 3 = mkF m 0 #[.val (.ref ta), .val (.int k), .val (.int fr)] [] := by first | (simp [entryFrame, mkF, argsToLocals, Value.category]; done) | rfl
def Q_rm_bs (Z : State) (ta : Addr) (k : Int32) (fr : Int32) (t0 : Int32) (t1 : Int32) (t2 : Int32) (t3 : Int32) (t4 : Int32) (k_ta : ClassId) (h0 : Heap) (n0 : Nat) (v : Option Value) (h : Heap) (L : List Loc) : Prop := v = some (.int (own_bs t0 t1 t2 t3 t4 k fr)) ∧ Fr n0 L ∧ h = h0
theorem pn_21_ : plainName "com/example/goldpage/goldpage/record/QuotingEndPinLaw" = true := by first | (simp [plainName, overriddenIn]; done) | decide +kernel
theorem pn_21 : plainFor (⟨"com/example/goldpage/goldpage/record/QuotingEndPinLaw", "bs", "([CII)Z"⟩ : MethodName) = true := plainFor_of_name pn_21_
set_option maxRecDepth 65536 in
set_option maxHeartbeats 40000000 in
theorem rm_bs (l : Launch) (Z : State) (a0 : Array Value) (hw : ∀ d ∈ tables_1, d.before a0 Z = true) (ws : List Jvm.Cond) (ta : Addr) (k : Int32) (fr : Int32) (t0 : Int32) (t1 : Int32) (t2 : Int32) (t3 : Int32) (t4 : Int32) (k_ta : ClassId) (h0 : Heap) (n0 : Nat) (O0 : Old Z n0 h0) (V_ta : Arv Z h0 ta k_ta .char (5 : Int32) [(.int t0), (.int t1), (.int t2), (.int t3), (.int t4)] (.int (0 : Int32))) (hin : ¬ k < fr → ¬ k < 0 ∧ k < (5 : Int32)) :
    MetFree l (⟨"com/example/goldpage/goldpage/record/QuotingEndPinLaw", "bs", "([CII)Z"⟩ : MethodName) (head1 (Jvm.Cond.code (⟨"com/example/goldpage/goldpage/record/QuotingEndPinLaw", "bs", "([CII)Z"⟩ : MethodName) method_3_code 3 (some .boolean) :: ws) ({ frames := 0, cells := 0, slots := 0, locals := 0 } : Room)) (fun args_ U => args_ = #[(.ref ta), (.int k), (.int fr)] ∧ Z.Warmed39 U.vm ∧ U.heap = h0) (fun _ _ _ _ _ => True) (fun _ U out_ U' => ∃ val_ loc_, out_ = .returned val_ ∧ (Q_rm_bs Z ta k fr t0 t1 t2 t3 t4 k_ta h0 n0) val_ U'.heap loc_ ∧ FrameEnd U out_ U' loc_ ({ frames := 0, cells := 0, slots := 0, locals := 0 } : Room).cells ({ frames := 0, cells := 0, slots := 0, locals := 0 } : Room).slots) := by
  refine start (Q := (Q_rm_bs Z ta k fr t0 t1 t2 t3 t4 k_ta h0 n0)) pn_21 ?_
  intro p e s m below meth c T0 X0 hx hby hml hown hnm hret hlk hZ e0
  replace hown : s.vm.findClass "com/example/goldpage/goldpage/record/QuotingEndPinLaw" = some m.cls := hown
  replace hml : c.maxLocals = 3 := hml
  refine goAt (ef_rm_bs m ta k fr ) ?_
  have N0 := Fr.nil n0
  show Go p e below T0 (mkF m 0 #[.val (.ref ta), .val (.int k), .val (.int fr)] []) _
  refine stp (fun _ => XS.iloadN X0.here hx rfl (hb hby d4_0) rfl) ?_
  show Go p e below T0 (mkF m 1 #[.val (.ref ta), .val (.int k), .val (.int fr)] [(.int k)]) _
  refine stp (fun _ => XS.iloadN X0.here hx rfl (hb hby d4_1) rfl) ?_
  show Go p e below T0 (mkF m 2 #[.val (.ref ta), .val (.int k), .val (.int fr)] [(.int fr), (.int k)]) _
  by_cases q2_1 : k < fr
  · refine stp (fun _ => XS.icmpYes X0.here hx rfl (pc0 := 2) (pc' := 17) rfl (hb hby d4_2) rfl (XT.ii_lt_t q2_1) (by decide) (by decide)) ?_
    show Go p e below T0 (mkF m 17 #[.val (.ref ta), .val (.int k), .val (.int fr)] []) _
    refine stp (fun _ => XS.iconst X0.here hx rfl (hb hby d4_17)) ?_
    show Go p e below T0 (mkF m 18 #[.val (.ref ta), .val (.int k), .val (.int fr)] [(.int (0 : Int32))]) _
    refine outN X0 hx (t := .boolean) hret (by simp) (hb hby d4_18) hlk (by decide) (by decide) ?_
    exact ⟨own_somei (by simp only [own_bs, if_pos q2_1] <;> rfl), N0, e0⟩
  · refine stp (fun _ => XS.icmpNo X0.here hx rfl (hb hby d4_2) rfl (XT.ii_lt_f q2_1)) ?_
    show Go p e below T0 (mkF m 5 #[.val (.ref ta), .val (.int k), .val (.int fr)] []) _
    refine stp (fun _ => XS.aloadN X0.here hx rfl (hb hby d4_5) rfl rfl) ?_
    show Go p e below T0 (mkF m 6 #[.val (.ref ta), .val (.int k), .val (.int fr)] [(.ref ta)]) _
    refine stp (fun _ => XS.iloadN X0.here hx rfl (hb hby d4_6) rfl) ?_
    show Go p e below T0 (mkF m 7 #[.val (.ref ta), .val (.int k), .val (.int fr)] [(.int k), (.ref ta)]) _
    obtain ⟨cl2, Ar2, q2, S2, M2, H2, G2⟩ := (id V_ta)
    have in2 : ¬ (k < 0 ∨ cl2.slots.size ≤ (k).toNatClampNeg) := inb_of S2 (hin q2_1)
    have at2 : cl2.slots[(k).toNatClampNeg]? = some (.int (own_x5 t0 t1 t2 t3 t4 k)) := H2.at in2 (own_x5at (hin q2_1))
    refine stp (fun _ => X0.caload hx (j := k) (v := (.int (own_x5 t0 t1 t2 t3 t4 k))) (by rw [e0]; exact Ar2.1) (State.isArrayOf_alike hZ.alike Ar2.2.1) Ar2.2.2 in2 at2 (g := (mkF m 7 #[.val (.ref ta), .val (.int k), .val (.int fr)] [(.int k), (.ref ta)])) rfl rfl (hb hby d4_7) _) ?_
    show Go p e below T0 (mkF m 8 #[.val (.ref ta), .val (.int k), .val (.int fr)] [(.int (own_x5 t0 t1 t2 t3 t4 k))]) _
    refine stp (fun _ => XS.bipush X0.here hx rfl (hb hby d4_8)) ?_
    show Go p e below T0 (mkF m 10 #[.val (.ref ta), .val (.int k), .val (.int fr)] [(.int (92 : Int32)), (.int (own_x5 t0 t1 t2 t3 t4 k))]) _
    by_cases q10_3 : (own_x5 t0 t1 t2 t3 t4 k) = (92 : Int32)
    · refine stp (fun _ => XS.icmpNo X0.here hx rfl (hb hby d4_10) rfl (XT.ii_ne_f q10_3)) ?_
      show Go p e below T0 (mkF m 13 #[.val (.ref ta), .val (.int k), .val (.int fr)] []) _
      refine stp (fun _ => XS.iconst X0.here hx rfl (hb hby d4_13)) ?_
      show Go p e below T0 (mkF m 14 #[.val (.ref ta), .val (.int k), .val (.int fr)] [(.int (1 : Int32))]) _
      refine stp (fun _ => XS.goto X0.here hx rfl (pc0 := 14) (pc' := 18) rfl (hb hby d4_14) (by decide) (by decide)) ?_
      show Go p e below T0 (mkF m 18 #[.val (.ref ta), .val (.int k), .val (.int fr)] [(.int (1 : Int32))]) _
      refine outN X0 hx (t := .boolean) hret (by simp) (hb hby d4_18) hlk (by decide) (by decide) ?_
      exact ⟨own_somei (by simp only [own_bs, if_neg q2_1, if_pos q10_3] <;> rfl), N0, e0⟩
    · refine stp (fun _ => XS.icmpYes X0.here hx rfl (pc0 := 10) (pc' := 17) rfl (hb hby d4_10) rfl (XT.ii_ne_t q10_3) (by decide) (by decide)) ?_
      show Go p e below T0 (mkF m 17 #[.val (.ref ta), .val (.int k), .val (.int fr)] []) _
      refine stp (fun _ => XS.iconst X0.here hx rfl (hb hby d4_17)) ?_
      show Go p e below T0 (mkF m 18 #[.val (.ref ta), .val (.int k), .val (.int fr)] [(.int (0 : Int32))]) _
      refine outN X0 hx (t := .boolean) hret (by simp) (hb hby d4_18) hlk (by decide) (by decide) ?_
      exact ⟨own_somei (by simp only [own_bs, if_neg q2_1, if_neg q10_3] <;> rfl), N0, e0⟩
theorem d3_0 : decode method_4_code 0 = .ok (.iconst 0, 1) := by decide +kernel
theorem d3_1 : decode method_4_code 1 = .ok (.istore_n 3, 1) := by decide +kernel
theorem d3_2 : decode method_4_code 2 = .ok (.aload_n 0, 1) := by decide +kernel
theorem d3_3 : decode method_4_code 3 = .ok (.iload_n 2, 1) := by decide +kernel
theorem d3_4 : decode method_4_code 4 = .ok (.iconst 1, 1) := by decide +kernel
theorem d3_5 : decode method_4_code 5 = .ok (.isub, 1) := by decide +kernel
theorem d3_6 : decode method_4_code 6 = .ok (.iload_n 1, 1) := by decide +kernel
theorem d3_7 : decode method_4_code 7 = .ok (.invokestatic 7, 3) := by decide +kernel
theorem pd_14 : parseMethodDescriptor "([CII)Z" = some ⟨[(.array .char), .int, .int], some .boolean⟩ := by decide +kernel
theorem d3_10 : decode method_4_code 10 = .ok (.ifCond .eq 31, 3) := by decide +kernel
theorem d3_41 : decode method_4_code 41 = .ok (.iload_n 3, 1) := by decide +kernel
theorem d3_42 : decode method_4_code 42 = .ok (.iconst 2, 1) := by decide +kernel
theorem d3_43 : decode method_4_code 43 = .ok (.irem, 1) := by decide +kernel
theorem d3_44 : decode method_4_code 44 = .ok (.ifCond .ne 7, 3) := by decide +kernel
theorem d3_47 : decode method_4_code 47 = .ok (.iconst 1, 1) := by decide +kernel
theorem d3_48 : decode method_4_code 48 = .ok (.goto 4, 3) := by decide +kernel
theorem d3_52 : decode method_4_code 52 = .ok (.ireturn, 1) := by decide +kernel
theorem d3_13 : decode method_4_code 13 = .ok (.iconst 1, 1) := by decide +kernel
theorem d3_14 : decode method_4_code 14 = .ok (.istore_n 3, 1) := by decide +kernel
theorem d3_15 : decode method_4_code 15 = .ok (.aload_n 0, 1) := by decide +kernel
theorem d3_16 : decode method_4_code 16 = .ok (.iload_n 2, 1) := by decide +kernel
theorem d3_17 : decode method_4_code 17 = .ok (.iconst 2, 1) := by decide +kernel
theorem d3_18 : decode method_4_code 18 = .ok (.isub, 1) := by decide +kernel
theorem d3_19 : decode method_4_code 19 = .ok (.iload_n 1, 1) := by decide +kernel
theorem d3_20 : decode method_4_code 20 = .ok (.invokestatic 7, 3) := by decide +kernel
theorem d3_23 : decode method_4_code 23 = .ok (.ifCond .eq 18, 3) := by decide +kernel
theorem d3_51 : decode method_4_code 51 = .ok (.iconst 0, 1) := by decide +kernel
theorem d3_26 : decode method_4_code 26 = .ok (.iconst 2, 1) := by decide +kernel
theorem d3_27 : decode method_4_code 27 = .ok (.istore_n 3, 1) := by decide +kernel
theorem d3_28 : decode method_4_code 28 = .ok (.aload_n 0, 1) := by decide +kernel
theorem d3_29 : decode method_4_code 29 = .ok (.iload_n 2, 1) := by decide +kernel
theorem d3_30 : decode method_4_code 30 = .ok (.iconst 3, 1) := by decide +kernel
theorem d3_31 : decode method_4_code 31 = .ok (.isub, 1) := by decide +kernel
theorem d3_32 : decode method_4_code 32 = .ok (.iload_n 1, 1) := by decide +kernel
theorem d3_33 : decode method_4_code 33 = .ok (.invokestatic 7, 3) := by decide +kernel
theorem d3_36 : decode method_4_code 36 = .ok (.ifCond .eq 5, 3) := by decide +kernel
theorem d3_39 : decode method_4_code 39 = .ok (.iconst 3, 1) := by decide +kernel
theorem d3_40 : decode method_4_code 40 = .ok (.istore_n 3, 1) := by decide +kernel
theorem ef_rm_ev (m : MethodId) (ta : Addr) (fr : Int32) (jj : Int32)  : entryFrame m #[(.ref ta), (.int fr), (.int jj)] 4 = mkF m 0 #[.val (.ref ta), .val (.int fr), .val (.int jj), .unset] [] := by first | (simp [entryFrame, mkF, argsToLocals, Value.category]; done) | rfl
def Q_rm_ev (Z : State) (ta : Addr) (fr : Int32) (jj : Int32) (t0 : Int32) (t1 : Int32) (t2 : Int32) (t3 : Int32) (t4 : Int32) (k_ta : ClassId) (h0 : Heap) (n0 : Nat) (v : Option Value) (h : Heap) (L : List Loc) : Prop := v = some (.int (own_ev t0 t1 t2 t3 t4 fr jj)) ∧ Fr n0 L ∧ h = h0
theorem pn_22_ : plainName "com/example/goldpage/goldpage/record/QuotingEndPinLaw" = true := by first | (simp [plainName, overriddenIn]; done) | decide +kernel
theorem pn_22 : plainFor (⟨"com/example/goldpage/goldpage/record/QuotingEndPinLaw", "evenRun", "([CII)Z"⟩ : MethodName) = true := plainFor_of_name pn_22_
set_option maxRecDepth 65536 in
set_option maxHeartbeats 40000000 in
theorem rm_ev (l : Launch) (Z : State) (a0 : Array Value) (hw : ∀ d ∈ tables_1, d.before a0 Z = true) (ws : List Jvm.Cond) (ta : Addr) (fr : Int32) (jj : Int32) (t0 : Int32) (t1 : Int32) (t2 : Int32) (t3 : Int32) (t4 : Int32) (k_ta : ClassId) (h0 : Heap) (n0 : Nat) (O0 : Old Z n0 h0) (V_ta : Arv Z h0 ta k_ta .char (5 : Int32) [(.int t0), (.int t1), (.int t2), (.int t3), (.int t4)] (.int (0 : Int32))) (hj : 0 ≤ jj.toInt ∧ jj.toInt ≤ 4) (hf : 0 ≤ fr.toInt) :
    MetFree l (⟨"com/example/goldpage/goldpage/record/QuotingEndPinLaw", "evenRun", "([CII)Z"⟩ : MethodName) (head1 (Jvm.Cond.code (⟨"com/example/goldpage/goldpage/record/QuotingEndPinLaw", "evenRun", "([CII)Z"⟩ : MethodName) method_4_code 4 (some .boolean) :: ws) ({ frames := 1, cells := 0, slots := 0, locals := 14 } : Room)) (fun args_ U => args_ = #[(.ref ta), (.int fr), (.int jj)] ∧ Z.Warmed39 U.vm ∧ U.heap = h0) (fun _ _ _ _ _ => True) (fun _ U out_ U' => ∃ val_ loc_, out_ = .returned val_ ∧ (Q_rm_ev Z ta fr jj t0 t1 t2 t3 t4 k_ta h0 n0) val_ U'.heap loc_ ∧ FrameEnd U out_ U' loc_ ({ frames := 1, cells := 0, slots := 0, locals := 14 } : Room).cells ({ frames := 1, cells := 0, slots := 0, locals := 14 } : Room).slots) := by
  refine start (Q := (Q_rm_ev Z ta fr jj t0 t1 t2 t3 t4 k_ta h0 n0)) pn_22 ?_
  intro p e s m below meth c T0 X0 hx hby hml hown hnm hret hlk hZ e0
  replace hown : s.vm.findClass "com/example/goldpage/goldpage/record/QuotingEndPinLaw" = some m.cls := hown
  replace hml : c.maxLocals = 4 := hml
  refine goAt (ef_rm_ev m ta fr jj ) ?_
  have N0 := Fr.nil n0
  show Go p e below T0 (mkF m 0 #[.val (.ref ta), .val (.int fr), .val (.int jj), .unset] []) _
  refine stp (fun _ => XS.iconst X0.here hx rfl (hb hby d3_0)) ?_
  show Go p e below T0 (mkF m 1 #[.val (.ref ta), .val (.int fr), .val (.int jj), .unset] [(.int (0 : Int32))]) _
  refine stp (fun _ => XS.istoreN X0.here hx rfl (hb hby d3_1) rfl (l' := #[.val (.ref ta), .val (.int fr), .val (.int jj), .val (.int (0 : Int32))]) rfl) ?_
  show Go p e below T0 (mkF m 2 #[.val (.ref ta), .val (.int fr), .val (.int jj), .val (.int (0 : Int32))] []) _
  refine stp (fun _ => XS.aloadN X0.here hx rfl (hb hby d3_2) rfl rfl) ?_
  show Go p e below T0 (mkF m 3 #[.val (.ref ta), .val (.int fr), .val (.int jj), .val (.int (0 : Int32))] [(.ref ta)]) _
  refine stp (fun _ => XS.iloadN X0.here hx rfl (hb hby d3_3) rfl) ?_
  show Go p e below T0 (mkF m 4 #[.val (.ref ta), .val (.int fr), .val (.int jj), .val (.int (0 : Int32))] [(.int jj), (.ref ta)]) _
  refine stp (fun _ => XS.iconst X0.here hx rfl (hb hby d3_4)) ?_
  show Go p e below T0 (mkF m 5 #[.val (.ref ta), .val (.int fr), .val (.int jj), .val (.int (0 : Int32))] [(.int (1 : Int32)), (.int jj), (.ref ta)]) _
  refine stp (fun _ => XS.isub X0.here hx rfl (hb hby d3_5) rfl) ?_
  show Go p e below T0 (mkF m 6 #[.val (.ref ta), .val (.int fr), .val (.int jj), .val (.int (0 : Int32))] [(.int (jj - (1 : Int32))), (.ref ta)]) _
  refine stp (fun _ => XS.iloadN X0.here hx rfl (hb hby d3_6) rfl) ?_
  show Go p e below T0 (mkF m 7 #[.val (.ref ta), .val (.int fr), .val (.int jj), .val (.int (0 : Int32))] [(.int fr), (.int (jj - (1 : Int32))), (.ref ta)]) _
  obtain ⟨_, _, ⟨T1, L1, k1, n1⟩, -, X1, ⟨Lc1, hQ1, l1, y1, z1⟩, st1⟩ := Jvm.LawKit.callS X0 hx (y := (⟨"com/example/goldpage/goldpage/record/QuotingEndPinLaw", "bs", "([CII)Z"⟩ : MethodName)) hown (mvT hZ (hw _ (List.mem_of_getElem? (i := 12) rfl))) (mvT hZ (hw _ (List.mem_of_getElem? (i := 13) rfl))) (mvT hZ (hw _ (List.mem_of_getElem? (i := 3) rfl))) (mvT hZ (hw _ (List.mem_of_getElem? (i := 14) rfl))) (by decide) (backOf (W := 0) (rm_bs l Z a0 hw [] ta (jj - (1 : Int32)) fr t0 t1 t2 t3 t4 k_ta h0 n0 O0 V_ta (own_inb hj hf (by decide))) hZ (hw _ (List.mem_of_getElem? (i := 14) rfl)) (hw _ (List.mem_of_getElem? (i := 3) rfl)) (by decide) (by decide)) (g := (mkF m 7 #[.val (.ref ta), .val (.int fr), .val (.int jj), .val (.int (0 : Int32))] [(.int fr), (.int (jj - (1 : Int32))), (.ref ta)])) rfl (by rw [hml]; rfl) (argsL := [(.ref ta), (.int (jj - (1 : Int32))), (.int fr)]) (rest := []) (lenOf pd_14 rfl) rfl (by show 2 * 0 + _ ≤ _; exact Nat.le_of_eq rfl) (hb hby d3_7) (fun _ _ => ⟨rfl, e0, (by decide : 0 + 0 ≤ _), (by decide : 0 + 0 ≤ _)⟩)
  dsimp only [Pt.U, Pt.locs, Pt.cells, Pt.slots] at X1 l1 y1 z1 st1 hQ1
  subst y1 z1
  obtain ⟨rfl, N1q, e1⟩ := hQ1
  have N1 : Fr n0 L1 := by rw [l1]; exact Fr.app N0 N1q
  refine stp st1 ?_
  show Go p e below T1 (mkF m 10 #[.val (.ref ta), .val (.int fr), .val (.int jj), .val (.int (0 : Int32))] [(.int (own_bs t0 t1 t2 t3 t4 (jj - (1 : Int32)) fr))]) _
  by_cases q10_2 : (own_bs t0 t1 t2 t3 t4 (jj - (1 : Int32)) fr) = 0
  · refine stp (fun _ => XS.ifYes X1.here hx rfl (pc0 := 10) (pc' := 41) rfl (hb hby d3_10) rfl (XT.i0_eq_t q10_2) (by decide) (by decide)) ?_
    show Go p e below T1 (mkF m 41 #[.val (.ref ta), .val (.int fr), .val (.int jj), .val (.int (0 : Int32))] []) _
    refine stp (fun _ => XS.iloadN X1.here hx rfl (hb hby d3_41) rfl) ?_
    show Go p e below T1 (mkF m 42 #[.val (.ref ta), .val (.int fr), .val (.int jj), .val (.int (0 : Int32))] [(.int (0 : Int32))]) _
    refine stp (fun _ => XS.iconst X1.here hx rfl (hb hby d3_42)) ?_
    show Go p e below T1 (mkF m 43 #[.val (.ref ta), .val (.int fr), .val (.int jj), .val (.int (0 : Int32))] [(.int (2 : Int32)), (.int (0 : Int32))]) _
    refine stp (fun _ => iremM X1 hx rfl (hb hby d3_43) rfl (by decide)) ?_
    show Go p e below T1 (mkF m 44 #[.val (.ref ta), .val (.int fr), .val (.int jj), .val (.int (0 : Int32))] [(.int ((0 : Int32) % (2 : Int32)))]) _
    refine stp (fun _ => XS.ifNo X1.here hx rfl (hb hby d3_44) rfl (XT.i0_ne_f (by decide))) ?_
    show Go p e below T1 (mkF m 47 #[.val (.ref ta), .val (.int fr), .val (.int jj), .val (.int (0 : Int32))] []) _
    refine stp (fun _ => XS.iconst X1.here hx rfl (hb hby d3_47)) ?_
    show Go p e below T1 (mkF m 48 #[.val (.ref ta), .val (.int fr), .val (.int jj), .val (.int (0 : Int32))] [(.int (1 : Int32))]) _
    refine stp (fun _ => XS.goto X1.here hx rfl (pc0 := 48) (pc' := 52) rfl (hb hby d3_48) (by decide) (by decide)) ?_
    show Go p e below T1 (mkF m 52 #[.val (.ref ta), .val (.int fr), .val (.int jj), .val (.int (0 : Int32))] [(.int (1 : Int32))]) _
    refine outN X1 hx (t := .boolean) hret (by simp) (hb hby d3_52) hlk (by decide) (by decide) ?_
    exact ⟨own_somei (by simp only [own_ev, if_pos q10_2] <;> rfl), N1, e1⟩
  · refine stp (fun _ => XS.ifNo X1.here hx rfl (hb hby d3_10) rfl (XT.i0_eq_f q10_2)) ?_
    show Go p e below T1 (mkF m 13 #[.val (.ref ta), .val (.int fr), .val (.int jj), .val (.int (0 : Int32))] []) _
    refine stp (fun _ => XS.iconst X1.here hx rfl (hb hby d3_13)) ?_
    show Go p e below T1 (mkF m 14 #[.val (.ref ta), .val (.int fr), .val (.int jj), .val (.int (0 : Int32))] [(.int (1 : Int32))]) _
    refine stp (fun _ => XS.istoreN X1.here hx rfl (hb hby d3_14) rfl (l' := #[.val (.ref ta), .val (.int fr), .val (.int jj), .val (.int (1 : Int32))]) rfl) ?_
    show Go p e below T1 (mkF m 15 #[.val (.ref ta), .val (.int fr), .val (.int jj), .val (.int (1 : Int32))] []) _
    refine stp (fun _ => XS.aloadN X1.here hx rfl (hb hby d3_15) rfl rfl) ?_
    show Go p e below T1 (mkF m 16 #[.val (.ref ta), .val (.int fr), .val (.int jj), .val (.int (1 : Int32))] [(.ref ta)]) _
    refine stp (fun _ => XS.iloadN X1.here hx rfl (hb hby d3_16) rfl) ?_
    show Go p e below T1 (mkF m 17 #[.val (.ref ta), .val (.int fr), .val (.int jj), .val (.int (1 : Int32))] [(.int jj), (.ref ta)]) _
    refine stp (fun _ => XS.iconst X1.here hx rfl (hb hby d3_17)) ?_
    show Go p e below T1 (mkF m 18 #[.val (.ref ta), .val (.int fr), .val (.int jj), .val (.int (1 : Int32))] [(.int (2 : Int32)), (.int jj), (.ref ta)]) _
    refine stp (fun _ => XS.isub X1.here hx rfl (hb hby d3_18) rfl) ?_
    show Go p e below T1 (mkF m 19 #[.val (.ref ta), .val (.int fr), .val (.int jj), .val (.int (1 : Int32))] [(.int (jj - (2 : Int32))), (.ref ta)]) _
    refine stp (fun _ => XS.iloadN X1.here hx rfl (hb hby d3_19) rfl) ?_
    show Go p e below T1 (mkF m 20 #[.val (.ref ta), .val (.int fr), .val (.int jj), .val (.int (1 : Int32))] [(.int fr), (.int (jj - (2 : Int32))), (.ref ta)]) _
    obtain ⟨_, _, ⟨T3, L3, k3, n3⟩, -, X3, ⟨Lc3, hQ3, l3, y3, z3⟩, st3⟩ := Jvm.LawKit.callS X1 hx (y := (⟨"com/example/goldpage/goldpage/record/QuotingEndPinLaw", "bs", "([CII)Z"⟩ : MethodName)) hown (mvT hZ (hw _ (List.mem_of_getElem? (i := 12) rfl))) (mvT hZ (hw _ (List.mem_of_getElem? (i := 13) rfl))) (mvT hZ (hw _ (List.mem_of_getElem? (i := 3) rfl))) (mvT hZ (hw _ (List.mem_of_getElem? (i := 14) rfl))) (by decide) (backOf (W := 0) (rm_bs l Z a0 hw [] ta (jj - (2 : Int32)) fr t0 t1 t2 t3 t4 k_ta h0 n0 O0 V_ta (own_inb hj hf (by decide))) hZ (hw _ (List.mem_of_getElem? (i := 14) rfl)) (hw _ (List.mem_of_getElem? (i := 3) rfl)) (by decide) (by decide)) (g := (mkF m 20 #[.val (.ref ta), .val (.int fr), .val (.int jj), .val (.int (1 : Int32))] [(.int fr), (.int (jj - (2 : Int32))), (.ref ta)])) rfl (by rw [hml]; rfl) (argsL := [(.ref ta), (.int (jj - (2 : Int32))), (.int fr)]) (rest := []) (lenOf pd_14 rfl) rfl (by show 2 * 0 + _ ≤ _; exact Nat.le_of_eq rfl) (hb hby d3_20) (fun _ _ => ⟨rfl, e1, (by decide : 0 + 0 ≤ _), (by decide : 0 + 0 ≤ _)⟩)
    dsimp only [Pt.U, Pt.locs, Pt.cells, Pt.slots] at X3 l3 y3 z3 st3 hQ3
    subst y3 z3
    obtain ⟨rfl, N3q, e3⟩ := hQ3
    have N3 : Fr n0 L3 := by rw [l3]; exact Fr.app N1 N3q
    refine stp st3 ?_
    show Go p e below T3 (mkF m 23 #[.val (.ref ta), .val (.int fr), .val (.int jj), .val (.int (1 : Int32))] [(.int (own_bs t0 t1 t2 t3 t4 (jj - (2 : Int32)) fr))]) _
    by_cases q23_4 : (own_bs t0 t1 t2 t3 t4 (jj - (2 : Int32)) fr) = 0
    · refine stp (fun _ => XS.ifYes X3.here hx rfl (pc0 := 23) (pc' := 41) rfl (hb hby d3_23) rfl (XT.i0_eq_t q23_4) (by decide) (by decide)) ?_
      show Go p e below T3 (mkF m 41 #[.val (.ref ta), .val (.int fr), .val (.int jj), .val (.int (1 : Int32))] []) _
      refine stp (fun _ => XS.iloadN X3.here hx rfl (hb hby d3_41) rfl) ?_
      show Go p e below T3 (mkF m 42 #[.val (.ref ta), .val (.int fr), .val (.int jj), .val (.int (1 : Int32))] [(.int (1 : Int32))]) _
      refine stp (fun _ => XS.iconst X3.here hx rfl (hb hby d3_42)) ?_
      show Go p e below T3 (mkF m 43 #[.val (.ref ta), .val (.int fr), .val (.int jj), .val (.int (1 : Int32))] [(.int (2 : Int32)), (.int (1 : Int32))]) _
      refine stp (fun _ => iremM X3 hx rfl (hb hby d3_43) rfl (by decide)) ?_
      show Go p e below T3 (mkF m 44 #[.val (.ref ta), .val (.int fr), .val (.int jj), .val (.int (1 : Int32))] [(.int ((1 : Int32) % (2 : Int32)))]) _
      refine stp (fun _ => XS.ifYes X3.here hx rfl (pc0 := 44) (pc' := 51) rfl (hb hby d3_44) rfl (XT.i0_ne_t (by decide)) (by decide) (by decide)) ?_
      show Go p e below T3 (mkF m 51 #[.val (.ref ta), .val (.int fr), .val (.int jj), .val (.int (1 : Int32))] []) _
      refine stp (fun _ => XS.iconst X3.here hx rfl (hb hby d3_51)) ?_
      show Go p e below T3 (mkF m 52 #[.val (.ref ta), .val (.int fr), .val (.int jj), .val (.int (1 : Int32))] [(.int (0 : Int32))]) _
      refine outN X3 hx (t := .boolean) hret (by simp) (hb hby d3_52) hlk (by decide) (by decide) ?_
      exact ⟨own_somei (by simp only [own_ev, if_neg q10_2, if_pos q23_4] <;> rfl), N3, e3⟩
    · refine stp (fun _ => XS.ifNo X3.here hx rfl (hb hby d3_23) rfl (XT.i0_eq_f q23_4)) ?_
      show Go p e below T3 (mkF m 26 #[.val (.ref ta), .val (.int fr), .val (.int jj), .val (.int (1 : Int32))] []) _
      refine stp (fun _ => XS.iconst X3.here hx rfl (hb hby d3_26)) ?_
      show Go p e below T3 (mkF m 27 #[.val (.ref ta), .val (.int fr), .val (.int jj), .val (.int (1 : Int32))] [(.int (2 : Int32))]) _
      refine stp (fun _ => XS.istoreN X3.here hx rfl (hb hby d3_27) rfl (l' := #[.val (.ref ta), .val (.int fr), .val (.int jj), .val (.int (2 : Int32))]) rfl) ?_
      show Go p e below T3 (mkF m 28 #[.val (.ref ta), .val (.int fr), .val (.int jj), .val (.int (2 : Int32))] []) _
      refine stp (fun _ => XS.aloadN X3.here hx rfl (hb hby d3_28) rfl rfl) ?_
      show Go p e below T3 (mkF m 29 #[.val (.ref ta), .val (.int fr), .val (.int jj), .val (.int (2 : Int32))] [(.ref ta)]) _
      refine stp (fun _ => XS.iloadN X3.here hx rfl (hb hby d3_29) rfl) ?_
      show Go p e below T3 (mkF m 30 #[.val (.ref ta), .val (.int fr), .val (.int jj), .val (.int (2 : Int32))] [(.int jj), (.ref ta)]) _
      refine stp (fun _ => XS.iconst X3.here hx rfl (hb hby d3_30)) ?_
      show Go p e below T3 (mkF m 31 #[.val (.ref ta), .val (.int fr), .val (.int jj), .val (.int (2 : Int32))] [(.int (3 : Int32)), (.int jj), (.ref ta)]) _
      refine stp (fun _ => XS.isub X3.here hx rfl (hb hby d3_31) rfl) ?_
      show Go p e below T3 (mkF m 32 #[.val (.ref ta), .val (.int fr), .val (.int jj), .val (.int (2 : Int32))] [(.int (jj - (3 : Int32))), (.ref ta)]) _
      refine stp (fun _ => XS.iloadN X3.here hx rfl (hb hby d3_32) rfl) ?_
      show Go p e below T3 (mkF m 33 #[.val (.ref ta), .val (.int fr), .val (.int jj), .val (.int (2 : Int32))] [(.int fr), (.int (jj - (3 : Int32))), (.ref ta)]) _
      obtain ⟨_, _, ⟨T5, L5, k5, n5⟩, -, X5, ⟨Lc5, hQ5, l5, y5, z5⟩, st5⟩ := Jvm.LawKit.callS X3 hx (y := (⟨"com/example/goldpage/goldpage/record/QuotingEndPinLaw", "bs", "([CII)Z"⟩ : MethodName)) hown (mvT hZ (hw _ (List.mem_of_getElem? (i := 12) rfl))) (mvT hZ (hw _ (List.mem_of_getElem? (i := 13) rfl))) (mvT hZ (hw _ (List.mem_of_getElem? (i := 3) rfl))) (mvT hZ (hw _ (List.mem_of_getElem? (i := 14) rfl))) (by decide) (backOf (W := 0) (rm_bs l Z a0 hw [] ta (jj - (3 : Int32)) fr t0 t1 t2 t3 t4 k_ta h0 n0 O0 V_ta (own_inb hj hf (by decide))) hZ (hw _ (List.mem_of_getElem? (i := 14) rfl)) (hw _ (List.mem_of_getElem? (i := 3) rfl)) (by decide) (by decide)) (g := (mkF m 33 #[.val (.ref ta), .val (.int fr), .val (.int jj), .val (.int (2 : Int32))] [(.int fr), (.int (jj - (3 : Int32))), (.ref ta)])) rfl (by rw [hml]; rfl) (argsL := [(.ref ta), (.int (jj - (3 : Int32))), (.int fr)]) (rest := []) (lenOf pd_14 rfl) rfl (by show 2 * 0 + _ ≤ _; exact Nat.le_of_eq rfl) (hb hby d3_33) (fun _ _ => ⟨rfl, e3, (by decide : 0 + 0 ≤ _), (by decide : 0 + 0 ≤ _)⟩)
      dsimp only [Pt.U, Pt.locs, Pt.cells, Pt.slots] at X5 l5 y5 z5 st5 hQ5
      subst y5 z5
      obtain ⟨rfl, N5q, e5⟩ := hQ5
      have N5 : Fr n0 L5 := by rw [l5]; exact Fr.app N3 N5q
      refine stp st5 ?_
      show Go p e below T5 (mkF m 36 #[.val (.ref ta), .val (.int fr), .val (.int jj), .val (.int (2 : Int32))] [(.int (own_bs t0 t1 t2 t3 t4 (jj - (3 : Int32)) fr))]) _
      by_cases q36_6 : (own_bs t0 t1 t2 t3 t4 (jj - (3 : Int32)) fr) = 0
      · refine stp (fun _ => XS.ifYes X5.here hx rfl (pc0 := 36) (pc' := 41) rfl (hb hby d3_36) rfl (XT.i0_eq_t q36_6) (by decide) (by decide)) ?_
        show Go p e below T5 (mkF m 41 #[.val (.ref ta), .val (.int fr), .val (.int jj), .val (.int (2 : Int32))] []) _
        refine stp (fun _ => XS.iloadN X5.here hx rfl (hb hby d3_41) rfl) ?_
        show Go p e below T5 (mkF m 42 #[.val (.ref ta), .val (.int fr), .val (.int jj), .val (.int (2 : Int32))] [(.int (2 : Int32))]) _
        refine stp (fun _ => XS.iconst X5.here hx rfl (hb hby d3_42)) ?_
        show Go p e below T5 (mkF m 43 #[.val (.ref ta), .val (.int fr), .val (.int jj), .val (.int (2 : Int32))] [(.int (2 : Int32)), (.int (2 : Int32))]) _
        refine stp (fun _ => iremM X5 hx rfl (hb hby d3_43) rfl (by decide)) ?_
        show Go p e below T5 (mkF m 44 #[.val (.ref ta), .val (.int fr), .val (.int jj), .val (.int (2 : Int32))] [(.int ((2 : Int32) % (2 : Int32)))]) _
        refine stp (fun _ => XS.ifNo X5.here hx rfl (hb hby d3_44) rfl (XT.i0_ne_f (by decide))) ?_
        show Go p e below T5 (mkF m 47 #[.val (.ref ta), .val (.int fr), .val (.int jj), .val (.int (2 : Int32))] []) _
        refine stp (fun _ => XS.iconst X5.here hx rfl (hb hby d3_47)) ?_
        show Go p e below T5 (mkF m 48 #[.val (.ref ta), .val (.int fr), .val (.int jj), .val (.int (2 : Int32))] [(.int (1 : Int32))]) _
        refine stp (fun _ => XS.goto X5.here hx rfl (pc0 := 48) (pc' := 52) rfl (hb hby d3_48) (by decide) (by decide)) ?_
        show Go p e below T5 (mkF m 52 #[.val (.ref ta), .val (.int fr), .val (.int jj), .val (.int (2 : Int32))] [(.int (1 : Int32))]) _
        refine outN X5 hx (t := .boolean) hret (by simp) (hb hby d3_52) hlk (by decide) (by decide) ?_
        exact ⟨own_somei (by simp only [own_ev, if_neg q10_2, if_neg q23_4, if_pos q36_6] <;> rfl), N5, e5⟩
      · refine stp (fun _ => XS.ifNo X5.here hx rfl (hb hby d3_36) rfl (XT.i0_eq_f q36_6)) ?_
        show Go p e below T5 (mkF m 39 #[.val (.ref ta), .val (.int fr), .val (.int jj), .val (.int (2 : Int32))] []) _
        refine stp (fun _ => XS.iconst X5.here hx rfl (hb hby d3_39)) ?_
        show Go p e below T5 (mkF m 40 #[.val (.ref ta), .val (.int fr), .val (.int jj), .val (.int (2 : Int32))] [(.int (3 : Int32))]) _
        refine stp (fun _ => XS.istoreN X5.here hx rfl (hb hby d3_40) rfl (l' := #[.val (.ref ta), .val (.int fr), .val (.int jj), .val (.int (3 : Int32))]) rfl) ?_
        show Go p e below T5 (mkF m 41 #[.val (.ref ta), .val (.int fr), .val (.int jj), .val (.int (3 : Int32))] []) _
        refine stp (fun _ => XS.iloadN X5.here hx rfl (hb hby d3_41) rfl) ?_
        show Go p e below T5 (mkF m 42 #[.val (.ref ta), .val (.int fr), .val (.int jj), .val (.int (3 : Int32))] [(.int (3 : Int32))]) _
        refine stp (fun _ => XS.iconst X5.here hx rfl (hb hby d3_42)) ?_
        show Go p e below T5 (mkF m 43 #[.val (.ref ta), .val (.int fr), .val (.int jj), .val (.int (3 : Int32))] [(.int (2 : Int32)), (.int (3 : Int32))]) _
        refine stp (fun _ => iremM X5 hx rfl (hb hby d3_43) rfl (by decide)) ?_
        show Go p e below T5 (mkF m 44 #[.val (.ref ta), .val (.int fr), .val (.int jj), .val (.int (3 : Int32))] [(.int ((3 : Int32) % (2 : Int32)))]) _
        refine stp (fun _ => XS.ifYes X5.here hx rfl (pc0 := 44) (pc' := 51) rfl (hb hby d3_44) rfl (XT.i0_ne_t (by decide)) (by decide) (by decide)) ?_
        show Go p e below T5 (mkF m 51 #[.val (.ref ta), .val (.int fr), .val (.int jj), .val (.int (3 : Int32))] []) _
        refine stp (fun _ => XS.iconst X5.here hx rfl (hb hby d3_51)) ?_
        show Go p e below T5 (mkF m 52 #[.val (.ref ta), .val (.int fr), .val (.int jj), .val (.int (3 : Int32))] [(.int (0 : Int32))]) _
        refine outN X5 hx (t := .boolean) hret (by simp) (hb hby d3_52) hlk (by decide) (by decide) ?_
        exact ⟨own_somei (by simp only [own_ev, if_neg q10_2, if_neg q23_4, if_neg q36_6] <;> rfl), N5, e5⟩
theorem d2_0 : decode method_5_code 0 = .ok (.iload_n 2, 1) := by decide +kernel
theorem d2_1 : decode method_5_code 1 = .ok (.iload_n 1, 1) := by decide +kernel
theorem d2_2 : decode method_5_code 2 = .ok (.if_icmp .le 26, 3) := by decide +kernel
theorem d2_5 : decode method_5_code 5 = .ok (.aload_n 0, 1) := by decide +kernel
theorem d2_6 : decode method_5_code 6 = .ok (.iload_n 2, 1) := by decide +kernel
theorem d2_7 : decode method_5_code 7 = .ok (.caload, 1) := by decide +kernel
theorem d2_8 : decode method_5_code 8 = .ok (.bipush 34, 2) := by decide +kernel
theorem d2_10 : decode method_5_code 10 = .ok (.if_icmp .ne 18, 3) := by decide +kernel
theorem d2_13 : decode method_5_code 13 = .ok (.aload_n 0, 1) := by decide +kernel
theorem d2_14 : decode method_5_code 14 = .ok (.iload_n 1, 1) := by decide +kernel
theorem d2_15 : decode method_5_code 15 = .ok (.iconst 1, 1) := by decide +kernel
theorem d2_16 : decode method_5_code 16 = .ok (.iadd, 1) := by decide +kernel
theorem d2_17 : decode method_5_code 17 = .ok (.iload_n 2, 1) := by decide +kernel
theorem d2_18 : decode method_5_code 18 = .ok (.invokestatic 13, 3) := by decide +kernel
theorem d2_21 : decode method_5_code 21 = .ok (.ifCond .eq 7, 3) := by decide +kernel
theorem d2_28 : decode method_5_code 28 = .ok (.iconst 0, 1) := by decide +kernel
theorem d2_29 : decode method_5_code 29 = .ok (.ireturn, 1) := by decide +kernel
theorem d2_24 : decode method_5_code 24 = .ok (.iconst 1, 1) := by decide +kernel
theorem d2_25 : decode method_5_code 25 = .ok (.goto 4, 3) := by decide +kernel
theorem ef_rm_cl (m : MethodId) (ta : Addr) (sv : Int32) (jj : Int32)  : entryFrame m #[(.ref ta), (.int sv), (.int jj)] 3 = mkF m 0 #[.val (.ref ta), .val (.int sv), .val (.int jj)] [] := by first | (simp [entryFrame, mkF, argsToLocals, Value.category]; done) | rfl
def Q_rm_cl (Z : State) (ta : Addr) (sv : Int32) (jj : Int32) (t0 : Int32) (t1 : Int32) (t2 : Int32) (t3 : Int32) (t4 : Int32) (k_ta : ClassId) (h0 : Heap) (n0 : Nat) (v : Option Value) (h : Heap) (L : List Loc) : Prop := v = some (.int (own_cl t0 t1 t2 t3 t4 sv jj)) ∧ Fr n0 L ∧ h = h0
theorem pn_23_ : plainName "com/example/goldpage/goldpage/record/QuotingEndPinLaw" = true := by first | (simp [plainName, overriddenIn]; done) | decide +kernel
theorem pn_23 : plainFor (⟨"com/example/goldpage/goldpage/record/QuotingEndPinLaw", "closes", "([CII)Z"⟩ : MethodName) = true := plainFor_of_name pn_23_
set_option maxRecDepth 65536 in
set_option maxHeartbeats 40000000 in
theorem rm_cl (l : Launch) (Z : State) (a0 : Array Value) (hw : ∀ d ∈ tables_1, d.before a0 Z = true) (ws : List Jvm.Cond) (ta : Addr) (sv : Int32) (jj : Int32) (t0 : Int32) (t1 : Int32) (t2 : Int32) (t3 : Int32) (t4 : Int32) (k_ta : ClassId) (h0 : Heap) (n0 : Nat) (O0 : Old Z n0 h0) (V_ta : Arv Z h0 ta k_ta .char (5 : Int32) [(.int t0), (.int t1), (.int t2), (.int t3), (.int t4)] (.int (0 : Int32))) (hs : sv = 0 ∨ sv = 1 ∨ sv = 2 ∨ sv = 3 ∨ sv = 4) (hj : 0 ≤ jj.toInt ∧ jj.toInt ≤ 4) :
    MetFree l (⟨"com/example/goldpage/goldpage/record/QuotingEndPinLaw", "closes", "([CII)Z"⟩ : MethodName) (head1 (Jvm.Cond.code (⟨"com/example/goldpage/goldpage/record/QuotingEndPinLaw", "closes", "([CII)Z"⟩ : MethodName) method_5_code 3 (some .boolean) :: ws) ({ frames := 2, cells := 0, slots := 0, locals := 29 } : Room)) (fun args_ U => args_ = #[(.ref ta), (.int sv), (.int jj)] ∧ Z.Warmed39 U.vm ∧ U.heap = h0) (fun _ _ _ _ _ => True) (fun _ U out_ U' => ∃ val_ loc_, out_ = .returned val_ ∧ (Q_rm_cl Z ta sv jj t0 t1 t2 t3 t4 k_ta h0 n0) val_ U'.heap loc_ ∧ FrameEnd U out_ U' loc_ ({ frames := 2, cells := 0, slots := 0, locals := 29 } : Room).cells ({ frames := 2, cells := 0, slots := 0, locals := 29 } : Room).slots) := by
  refine start (Q := (Q_rm_cl Z ta sv jj t0 t1 t2 t3 t4 k_ta h0 n0)) pn_23 ?_
  intro p e s m below meth c T0 X0 hx hby hml hown hnm hret hlk hZ e0
  replace hown : s.vm.findClass "com/example/goldpage/goldpage/record/QuotingEndPinLaw" = some m.cls := hown
  replace hml : c.maxLocals = 3 := hml
  refine goAt (ef_rm_cl m ta sv jj ) ?_
  have N0 := Fr.nil n0
  show Go p e below T0 (mkF m 0 #[.val (.ref ta), .val (.int sv), .val (.int jj)] []) _
  refine stp (fun _ => XS.iloadN X0.here hx rfl (hb hby d2_0) rfl) ?_
  show Go p e below T0 (mkF m 1 #[.val (.ref ta), .val (.int sv), .val (.int jj)] [(.int jj)]) _
  refine stp (fun _ => XS.iloadN X0.here hx rfl (hb hby d2_1) rfl) ?_
  show Go p e below T0 (mkF m 2 #[.val (.ref ta), .val (.int sv), .val (.int jj)] [(.int sv), (.int jj)]) _
  by_cases q2_1 : sv < jj
  · refine stp (fun _ => XS.icmpNo X0.here hx rfl (hb hby d2_2) rfl (XT.ii_le_f q2_1)) ?_
    show Go p e below T0 (mkF m 5 #[.val (.ref ta), .val (.int sv), .val (.int jj)] []) _
    refine stp (fun _ => XS.aloadN X0.here hx rfl (hb hby d2_5) rfl rfl) ?_
    show Go p e below T0 (mkF m 6 #[.val (.ref ta), .val (.int sv), .val (.int jj)] [(.ref ta)]) _
    refine stp (fun _ => XS.iloadN X0.here hx rfl (hb hby d2_6) rfl) ?_
    show Go p e below T0 (mkF m 7 #[.val (.ref ta), .val (.int sv), .val (.int jj)] [(.int jj), (.ref ta)]) _
    obtain ⟨cl2, Ar2, q2, S2, M2, H2, G2⟩ := (id V_ta)
    have in2 : ¬ (jj < 0 ∨ cl2.slots.size ≤ (jj).toNatClampNeg) := inb_of S2 (own_in5 hj)
    have at2 : cl2.slots[(jj).toNatClampNeg]? = some (.int (own_x5 t0 t1 t2 t3 t4 jj)) := H2.at in2 (own_x5at (own_in5 hj))
    refine stp (fun _ => X0.caload hx (j := jj) (v := (.int (own_x5 t0 t1 t2 t3 t4 jj))) (by rw [e0]; exact Ar2.1) (State.isArrayOf_alike hZ.alike Ar2.2.1) Ar2.2.2 in2 at2 (g := (mkF m 7 #[.val (.ref ta), .val (.int sv), .val (.int jj)] [(.int jj), (.ref ta)])) rfl rfl (hb hby d2_7) _) ?_
    show Go p e below T0 (mkF m 8 #[.val (.ref ta), .val (.int sv), .val (.int jj)] [(.int (own_x5 t0 t1 t2 t3 t4 jj))]) _
    refine stp (fun _ => XS.bipush X0.here hx rfl (hb hby d2_8)) ?_
    show Go p e below T0 (mkF m 10 #[.val (.ref ta), .val (.int sv), .val (.int jj)] [(.int (34 : Int32)), (.int (own_x5 t0 t1 t2 t3 t4 jj))]) _
    by_cases q10_3 : (own_x5 t0 t1 t2 t3 t4 jj) = (34 : Int32)
    · refine stp (fun _ => XS.icmpNo X0.here hx rfl (hb hby d2_10) rfl (XT.ii_ne_f q10_3)) ?_
      show Go p e below T0 (mkF m 13 #[.val (.ref ta), .val (.int sv), .val (.int jj)] []) _
      refine stp (fun _ => XS.aloadN X0.here hx rfl (hb hby d2_13) rfl rfl) ?_
      show Go p e below T0 (mkF m 14 #[.val (.ref ta), .val (.int sv), .val (.int jj)] [(.ref ta)]) _
      refine stp (fun _ => XS.iloadN X0.here hx rfl (hb hby d2_14) rfl) ?_
      show Go p e below T0 (mkF m 15 #[.val (.ref ta), .val (.int sv), .val (.int jj)] [(.int sv), (.ref ta)]) _
      refine stp (fun _ => XS.iconst X0.here hx rfl (hb hby d2_15)) ?_
      show Go p e below T0 (mkF m 16 #[.val (.ref ta), .val (.int sv), .val (.int jj)] [(.int (1 : Int32)), (.int sv), (.ref ta)]) _
      refine stp (fun _ => XS.iadd X0.here hx rfl (hb hby d2_16) rfl) ?_
      show Go p e below T0 (mkF m 17 #[.val (.ref ta), .val (.int sv), .val (.int jj)] [(.int (sv + (1 : Int32))), (.ref ta)]) _
      refine stp (fun _ => XS.iloadN X0.here hx rfl (hb hby d2_17) rfl) ?_
      show Go p e below T0 (mkF m 18 #[.val (.ref ta), .val (.int sv), .val (.int jj)] [(.int jj), (.int (sv + (1 : Int32))), (.ref ta)]) _
      obtain ⟨_, _, ⟨T4, L4, k4, n4⟩, -, X4, ⟨Lc4, hQ4, l4, y4, z4⟩, st4⟩ := Jvm.LawKit.callS X0 hx (y := (⟨"com/example/goldpage/goldpage/record/QuotingEndPinLaw", "evenRun", "([CII)Z"⟩ : MethodName)) hown (mvT hZ (hw _ (List.mem_of_getElem? (i := 9) rfl))) (mvT hZ (hw _ (List.mem_of_getElem? (i := 10) rfl))) (mvT hZ (hw _ (List.mem_of_getElem? (i := 3) rfl))) (mvT hZ (hw _ (List.mem_of_getElem? (i := 11) rfl))) (by decide) (backOf (W := 0) (rm_ev l Z a0 hw [] ta (sv + (1 : Int32)) jj t0 t1 t2 t3 t4 k_ta h0 n0 O0 V_ta hj (own_svI hs)) hZ (hw _ (List.mem_of_getElem? (i := 11) rfl)) (hw _ (List.mem_of_getElem? (i := 3) rfl)) (by decide) (by decide)) (g := (mkF m 18 #[.val (.ref ta), .val (.int sv), .val (.int jj)] [(.int jj), (.int (sv + (1 : Int32))), (.ref ta)])) rfl (by rw [hml]; rfl) (argsL := [(.ref ta), (.int (sv + (1 : Int32))), (.int jj)]) (rest := []) (lenOf pd_14 rfl) rfl (by show 2 * 0 + _ ≤ _; exact Nat.le_of_eq rfl) (hb hby d2_18) (fun _ _ => ⟨rfl, e0, (by decide : 0 + 0 ≤ _), (by decide : 0 + 0 ≤ _)⟩)
      dsimp only [Pt.U, Pt.locs, Pt.cells, Pt.slots] at X4 l4 y4 z4 st4 hQ4
      subst y4 z4
      obtain ⟨rfl, N4q, e4⟩ := hQ4
      have N4 : Fr n0 L4 := by rw [l4]; exact Fr.app N0 N4q
      refine stp st4 ?_
      show Go p e below T4 (mkF m 21 #[.val (.ref ta), .val (.int sv), .val (.int jj)] [(.int (own_ev t0 t1 t2 t3 t4 (sv + (1 : Int32)) jj))]) _
      by_cases q21_5 : (own_ev t0 t1 t2 t3 t4 (sv + (1 : Int32)) jj) = 0
      · refine stp (fun _ => XS.ifYes X4.here hx rfl (pc0 := 21) (pc' := 28) rfl (hb hby d2_21) rfl (XT.i0_eq_t q21_5) (by decide) (by decide)) ?_
        show Go p e below T4 (mkF m 28 #[.val (.ref ta), .val (.int sv), .val (.int jj)] []) _
        refine stp (fun _ => XS.iconst X4.here hx rfl (hb hby d2_28)) ?_
        show Go p e below T4 (mkF m 29 #[.val (.ref ta), .val (.int sv), .val (.int jj)] [(.int (0 : Int32))]) _
        refine outN X4 hx (t := .boolean) hret (by simp) (hb hby d2_29) hlk (by decide) (by decide) ?_
        exact ⟨own_somei (by simp only [own_cl, if_pos q2_1, if_pos q10_3, if_pos q21_5] <;> rfl), N4, e4⟩
      · refine stp (fun _ => XS.ifNo X4.here hx rfl (hb hby d2_21) rfl (XT.i0_eq_f q21_5)) ?_
        show Go p e below T4 (mkF m 24 #[.val (.ref ta), .val (.int sv), .val (.int jj)] []) _
        refine stp (fun _ => XS.iconst X4.here hx rfl (hb hby d2_24)) ?_
        show Go p e below T4 (mkF m 25 #[.val (.ref ta), .val (.int sv), .val (.int jj)] [(.int (1 : Int32))]) _
        refine stp (fun _ => XS.goto X4.here hx rfl (pc0 := 25) (pc' := 29) rfl (hb hby d2_25) (by decide) (by decide)) ?_
        show Go p e below T4 (mkF m 29 #[.val (.ref ta), .val (.int sv), .val (.int jj)] [(.int (1 : Int32))]) _
        refine outN X4 hx (t := .boolean) hret (by simp) (hb hby d2_29) hlk (by decide) (by decide) ?_
        exact ⟨own_somei (by simp only [own_cl, if_pos q2_1, if_pos q10_3, if_neg q21_5] <;> rfl), N4, e4⟩
    · refine stp (fun _ => XS.icmpYes X0.here hx rfl (pc0 := 10) (pc' := 28) rfl (hb hby d2_10) rfl (XT.ii_ne_t q10_3) (by decide) (by decide)) ?_
      show Go p e below T0 (mkF m 28 #[.val (.ref ta), .val (.int sv), .val (.int jj)] []) _
      refine stp (fun _ => XS.iconst X0.here hx rfl (hb hby d2_28)) ?_
      show Go p e below T0 (mkF m 29 #[.val (.ref ta), .val (.int sv), .val (.int jj)] [(.int (0 : Int32))]) _
      refine outN X0 hx (t := .boolean) hret (by simp) (hb hby d2_29) hlk (by decide) (by decide) ?_
      exact ⟨own_somei (by simp only [own_cl, if_pos q2_1, if_neg q10_3] <;> rfl), N0, e0⟩
  · refine stp (fun _ => XS.icmpYes X0.here hx rfl (pc0 := 2) (pc' := 28) rfl (hb hby d2_2) rfl (XT.ii_le_t q2_1) (by decide) (by decide)) ?_
    show Go p e below T0 (mkF m 28 #[.val (.ref ta), .val (.int sv), .val (.int jj)] []) _
    refine stp (fun _ => XS.iconst X0.here hx rfl (hb hby d2_28)) ?_
    show Go p e below T0 (mkF m 29 #[.val (.ref ta), .val (.int sv), .val (.int jj)] [(.int (0 : Int32))]) _
    refine outN X0 hx (t := .boolean) hret (by simp) (hb hby d2_29) hlk (by decide) (by decide) ?_
    exact ⟨own_somei (by simp only [own_cl, if_neg q2_1] <;> rfl), N0, e0⟩
theorem d11_0 : decode prog_42_method_7_code 0 = .ok (.iload_n 1, 1) := by decide +kernel
theorem d11_1 : decode prog_42_method_7_code 1 = .ok (.iconst 1, 1) := by decide +kernel
theorem d11_2 : decode prog_42_method_7_code 2 = .ok (.iadd, 1) := by decide +kernel
theorem d11_3 : decode prog_42_method_7_code 3 = .ok (.istore_n 2, 1) := by decide +kernel
theorem d11_4 : decode prog_42_method_7_code 4 = .ok (.iload_n 2, 1) := by decide +kernel
theorem d11_5 : decode prog_42_method_7_code 5 = .ok (.aload_n 0, 1) := by decide +kernel
theorem d11_6 : decode prog_42_method_7_code 6 = .ok (.invokevirtual 9, 3) := by decide +kernel
theorem pd_15 : parseMethodDescriptor "()I" = some ⟨[], some .int⟩ := by decide +kernel
theorem d11_9 : decode prog_42_method_7_code 9 = .ok (.if_icmp .ge 36, 3) := by decide +kernel
theorem d11_12 : decode prog_42_method_7_code 12 = .ok (.aload_n 0, 1) := by decide +kernel
theorem d11_13 : decode prog_42_method_7_code 13 = .ok (.iload_n 2, 1) := by decide +kernel
theorem d11_14 : decode prog_42_method_7_code 14 = .ok (.invokevirtual 22, 3) := by decide +kernel
theorem pd_16 : parseMethodDescriptor "(I)C" = some ⟨[.int], some .char⟩ := by decide +kernel
theorem d11_17 : decode prog_42_method_7_code 17 = .ok (.istore_n 3, 1) := by decide +kernel
theorem d11_18 : decode prog_42_method_7_code 18 = .ok (.iload_n 3, 1) := by decide +kernel
theorem d11_19 : decode prog_42_method_7_code 19 = .ok (.bipush 34, 2) := by decide +kernel
theorem d11_21 : decode prog_42_method_7_code 21 = .ok (.if_icmp .ne 7, 3) := by decide +kernel
theorem d11_24 : decode prog_42_method_7_code 24 = .ok (.iload_n 2, 1) := by decide +kernel
theorem d11_25 : decode prog_42_method_7_code 25 = .ok (.iconst 1, 1) := by decide +kernel
theorem d11_26 : decode prog_42_method_7_code 26 = .ok (.iadd, 1) := by decide +kernel
theorem d11_27 : decode prog_42_method_7_code 27 = .ok (.ireturn, 1) := by decide +kernel
theorem d11_28 : decode prog_42_method_7_code 28 = .ok (.iload_n 2, 1) := by decide +kernel
theorem d11_29 : decode prog_42_method_7_code 29 = .ok (.iload_n 3, 1) := by decide +kernel
theorem d11_30 : decode prog_42_method_7_code 30 = .ok (.bipush 92, 2) := by decide +kernel
theorem d11_32 : decode prog_42_method_7_code 32 = .ok (.if_icmp .ne 7, 3) := by decide +kernel
theorem d11_35 : decode prog_42_method_7_code 35 = .ok (.iconst 2, 1) := by decide +kernel
theorem d11_36 : decode prog_42_method_7_code 36 = .ok (.goto 4, 3) := by decide +kernel
theorem d11_40 : decode prog_42_method_7_code 40 = .ok (.iadd, 1) := by decide +kernel
theorem d11_41 : decode prog_42_method_7_code 41 = .ok (.istore_n 2, 1) := by decide +kernel
theorem d11_42 : decode prog_42_method_7_code 42 = .ok (.goto (-38), 3) := by decide +kernel
theorem d11_45 : decode prog_42_method_7_code 45 = .ok (.iconst (-1), 1) := by decide +kernel
theorem d11_46 : decode prog_42_method_7_code 46 = .ok (.ireturn, 1) := by decide +kernel
theorem d11_39 : decode prog_42_method_7_code 39 = .ok (.iconst 1, 1) := by decide +kernel
theorem ef_rm_end (m : MethodId) (t : Addr) (sv : Int32)  : entryFrame m #[(.ref t), (.int sv)] 4 = mkF m 0 #[.val (.ref t), .val (.int sv), .unset, .unset] [] := by first | (simp [entryFrame, mkF, argsToLocals, Value.category]; done) | rfl
def Q_rm_end (Z : State) (t : Addr) (sv : Int32) (t0 : Int32) (t1 : Int32) (t2 : Int32) (t3 : Int32) (t4 : Int32) (cz : Int32) (fm : Value) (h0 : Heap) (n0 : Nat) (v : Option Value) (h : Heap) (L : List Loc) : Prop := v = some (.int (own_e t0 t1 t2 t3 t4 sv)) ∧ Fr n0 L ∧ h = h0
theorem pn_24_ : plainName "com/example/goldpage/goldpage/record/Quoting" = true := by first | (simp [plainName, overriddenIn]; done) | decide +kernel
theorem pn_24 : plainFor (⟨"com/example/goldpage/goldpage/record/Quoting", "end", "(Ljava/lang/String;I)I"⟩ : MethodName) = true := plainFor_of_name pn_24_
set_option maxRecDepth 65536 in
set_option maxHeartbeats 40000000 in
theorem rm_end (l : Launch) (Z : State) (a0 : Array Value) (hw : ∀ d ∈ tables_1, d.before a0 Z = true) (ws : List Jvm.Cond) (t : Addr) (sv : Int32) (t0 : Int32) (t1 : Int32) (t2 : Int32) (t3 : Int32) (t4 : Int32) (cz : Int32) (fm : Value) (h0 : Heap) (n0 : Nat) (O0 : Old Z n0 h0) (Q_t : UStr Z h0 t ([t0, t1, t2, t3, t4] : List Int32)) (S_COMPACT_STRINGS : Sta Z Z.heap "java/lang/String" "COMPACT_STRINGS" "Z" (.int cz)) (S_SIOOBE_FORMATTER : Sta Z Z.heap "jdk/internal/util/Preconditions" "SIOOBE_FORMATTER" "Ljava/util/function/BiFunction;" fm) (S__assertionsDisabled : Sta Z Z.heap "java/lang/StringUTF16" "$assertionsDisabled" "Z" (.int (1 : Int32))) (S_HI_BYTE_SHIFT : Sta Z Z.heap "java/lang/StringUTF16" "HI_BYTE_SHIFT" "I" (.int (0 : Int32))) (S_LO_BYTE_SHIFT : Sta Z Z.heap "java/lang/StringUTF16" "LO_BYTE_SHIFT" "I" (.int (8 : Int32))) (hcz : ¬ cz = (0 : Int32)) (hfm : fm.isRef = true) (hs : sv = 0 ∨ sv = 1 ∨ sv = 2 ∨ sv = 3 ∨ sv = 4) :
    MetFree l (⟨"com/example/goldpage/goldpage/record/Quoting", "end", "(Ljava/lang/String;I)I"⟩ : MethodName) (head1 (Jvm.Cond.code (⟨"com/example/goldpage/goldpage/record/Quoting", "end", "(Ljava/lang/String;I)I"⟩ : MethodName) prog_42_method_7_code 4 (some .int) :: ws) ({ frames := 5, cells := 0, slots := 0, locals := 66 } : Room)) (fun args_ U => args_ = #[(.ref t), (.int sv)] ∧ Z.Warmed39 U.vm ∧ U.heap = h0) (fun _ _ _ _ _ => True) (fun _ U out_ U' => ∃ val_ loc_, out_ = .returned val_ ∧ (Q_rm_end Z t sv t0 t1 t2 t3 t4 cz fm h0 n0) val_ U'.heap loc_ ∧ FrameEnd U out_ U' loc_ ({ frames := 5, cells := 0, slots := 0, locals := 66 } : Room).cells ({ frames := 5, cells := 0, slots := 0, locals := 66 } : Room).slots) := by
  refine start (Q := (Q_rm_end Z t sv t0 t1 t2 t3 t4 cz fm h0 n0)) pn_24 ?_
  intro p e s m below meth c T0 X0 hx hby hml hown hnm hret hlk hZ e0
  replace hown : s.vm.findClass "com/example/goldpage/goldpage/record/Quoting" = some m.cls := hown
  replace hml : c.maxLocals = 4 := hml
  refine goAt (ef_rm_end m t sv ) ?_
  have N0 := Fr.nil n0
  show Go p e below T0 (mkF m 0 #[.val (.ref t), .val (.int sv), .unset, .unset] []) _
  rcases hs with rfl | rfl | rfl | rfl | rfl
  · show Go p e below T0 (mkF m 0 #[.val (.ref t), .val (.int (0 : Int32)), .unset, .unset] []) _
    refine stp (fun _ => XS.iloadN X0.here hx rfl (hb hby d11_0) rfl) ?_
    show Go p e below T0 (mkF m 1 #[.val (.ref t), .val (.int (0 : Int32)), .unset, .unset] [(.int (0 : Int32))]) _
    refine stp (fun _ => XS.iconst X0.here hx rfl (hb hby d11_1)) ?_
    show Go p e below T0 (mkF m 2 #[.val (.ref t), .val (.int (0 : Int32)), .unset, .unset] [(.int (1 : Int32)), (.int (0 : Int32))]) _
    refine stp (fun _ => XS.iadd X0.here hx rfl (hb hby d11_2) rfl) ?_
    show Go p e below T0 (mkF m 3 #[.val (.ref t), .val (.int (0 : Int32)), .unset, .unset] [(.int (1 : Int32))]) _
    refine stp (fun _ => XS.istoreN X0.here hx rfl (hb hby d11_3) rfl (l' := #[.val (.ref t), .val (.int (0 : Int32)), .val (.int (1 : Int32)), .unset]) rfl) ?_
    show Go p e below T0 (mkF m 4 #[.val (.ref t), .val (.int (0 : Int32)), .val (.int (1 : Int32)), .unset] []) _
    refine stp (fun _ => XS.iloadN X0.here hx rfl (hb hby d11_4) rfl) ?_
    show Go p e below T0 (mkF m 5 #[.val (.ref t), .val (.int (0 : Int32)), .val (.int (1 : Int32)), .unset] [(.int (1 : Int32))]) _
    refine stp (fun _ => XS.aloadN X0.here hx rfl (hb hby d11_5) rfl rfl) ?_
    show Go p e below T0 (mkF m 6 #[.val (.ref t), .val (.int (0 : Int32)), .val (.int (1 : Int32)), .unset] [(.ref t), (.int (1 : Int32))]) _
    obtain ⟨cq1, kq1, q1a, q1b, q1c⟩ := isOf hZ e0 Q_t.exa
    obtain ⟨_, _, ⟨T1, L1, k1, n1⟩, -, X1, ⟨Lc1, hQ1, l1, y1, z1⟩, st1⟩ := X0.virtualBack hx (y := (⟨"java/lang/String", "length", "()I"⟩ : MethodName)) (z := (⟨"java/lang/String", "length", "()I"⟩ : MethodName)) hown (mvT hZ (hw _ (List.mem_of_getElem? (i := 48) rfl))) (mvT hZ (hw _ (List.mem_of_getElem? (i := 49) rfl))) (notFace_of_selects (args := #[]) (mvT hZ (hw _ (List.mem_of_getElem? (i := 51) rfl)))) (mvT hZ (hw _ (List.mem_of_getElem? (i := 51) rfl))) (mvT hZ (hw _ (List.mem_of_getElem? (i := 50) rfl))) (by decide) (backOf (W := 1) (rm_ulen l Z a0 hw [] t ([t0, t1, t2, t3, t4] : List Int32) cz h0 n0 O0 Q_t S_COMPACT_STRINGS hcz) hZ (hw _ (List.mem_of_getElem? (i := 52) rfl)) (hw _ (List.mem_of_getElem? (i := 17) rfl)) (by decide) (by decide)) q1a q1c (g := (mkF m 6 #[.val (.ref t), .val (.int (0 : Int32)), .val (.int (1 : Int32)), .unset] [(.ref t), (.int (1 : Int32))])) rfl (by rw [hml]; rfl) (Steps.refl _) (argsL := []) (rest := [(.int (1 : Int32))]) (lenOf pd_15 rfl) rfl (by show 2 * 0 + _ ≤ _; exact Nat.le_of_eq rfl) (hb hby d11_6) (fun _ _ => ⟨rfl, e0, (by decide : 0 + 0 ≤ _), (by decide : 0 + 0 ≤ _)⟩)
    dsimp only [Pt.U, Pt.locs, Pt.cells, Pt.slots] at X1 l1 y1 z1 st1 hQ1
    subst y1 z1
    obtain ⟨rfl, N1q, e1⟩ := hQ1
    have N1 : Fr n0 L1 := by rw [l1]; exact Fr.app N0 N1q
    refine stt st1 ?_
    show Go p e below T1 (mkF m 9 #[.val (.ref t), .val (.int (0 : Int32)), .val (.int (1 : Int32)), .unset] [(.int (5 : Int32)), (.int (1 : Int32))]) _
    refine stp (fun _ => XS.icmpNo X1.here hx rfl (hb hby d11_9) rfl (by decide)) ?_
    show Go p e below T1 (mkF m 12 #[.val (.ref t), .val (.int (0 : Int32)), .val (.int (1 : Int32)), .unset] []) _
    refine stp (fun _ => XS.aloadN X1.here hx rfl (hb hby d11_12) rfl rfl) ?_
    show Go p e below T1 (mkF m 13 #[.val (.ref t), .val (.int (0 : Int32)), .val (.int (1 : Int32)), .unset] [(.ref t)]) _
    refine stp (fun _ => XS.iloadN X1.here hx rfl (hb hby d11_13) rfl) ?_
    show Go p e below T1 (mkF m 14 #[.val (.ref t), .val (.int (0 : Int32)), .val (.int (1 : Int32)), .unset] [(.int (1 : Int32)), (.ref t)]) _
    obtain ⟨cq2, kq2, q2a, q2b, q2c⟩ := isOf hZ e1 Q_t.exa
    obtain ⟨_, _, ⟨T2, L2, k2, n2⟩, -, X2, ⟨Lc2, hQ2, l2, y2, z2⟩, st2⟩ := X1.virtualBack hx (y := (⟨"java/lang/String", "charAt", "(I)C"⟩ : MethodName)) (z := (⟨"java/lang/String", "charAt", "(I)C"⟩ : MethodName)) hown (mvT hZ (hw _ (List.mem_of_getElem? (i := 58) rfl))) (mvT hZ (hw _ (List.mem_of_getElem? (i := 59) rfl))) (notFace_of_selects (args := #[]) (mvT hZ (hw _ (List.mem_of_getElem? (i := 61) rfl)))) (mvT hZ (hw _ (List.mem_of_getElem? (i := 61) rfl))) (mvT hZ (hw _ (List.mem_of_getElem? (i := 60) rfl))) (by decide) (backOf (W := 0) (rm_uch l Z a0 hw [] t (1 : Int32) ([t0, t1, t2, t3, t4] : List Int32) cz fm 1 h0 n0 O0 Q_t S_COMPACT_STRINGS S_SIOOBE_FORMATTER S__assertionsDisabled S_HI_BYTE_SHIFT S_LO_BYTE_SHIFT hcz hfm (by decide) (Nat.le_of_ble_eq_true rfl)) hZ (hw _ (List.mem_of_getElem? (i := 62) rfl)) (hw _ (List.mem_of_getElem? (i := 17) rfl)) (by decide) (by decide)) q2a q2c (g := (mkF m 14 #[.val (.ref t), .val (.int (0 : Int32)), .val (.int (1 : Int32)), .unset] [(.int (1 : Int32)), (.ref t)])) rfl (by rw [hml]; rfl) (Steps.refl _) (argsL := [(.int (1 : Int32))]) (rest := []) (lenOf pd_16 rfl) rfl (by show 2 * 0 + _ ≤ _; exact Nat.le_of_eq rfl) (hb hby d11_14) (fun _ _ => ⟨rfl, e1, (by decide : 0 + 0 ≤ _), (by decide : 0 + 0 ≤ _)⟩)
    dsimp only [Pt.U, Pt.locs, Pt.cells, Pt.slots] at X2 l2 y2 z2 st2 hQ2
    subst y2 z2
    obtain ⟨rfl, N2q, e2⟩ := hQ2
    have N2 : Fr n0 L2 := by rw [l2]; exact Fr.app N1 N2q
    refine stt st2 ?_
    show Go p e below T2 (mkF m 17 #[.val (.ref t), .val (.int (0 : Int32)), .val (.int (1 : Int32)), .unset] [(.int t1)]) _
    refine stp (fun _ => XS.istoreN X2.here hx rfl (hb hby d11_17) rfl (l' := #[.val (.ref t), .val (.int (0 : Int32)), .val (.int (1 : Int32)), .val (.int t1)]) rfl) ?_
    show Go p e below T2 (mkF m 18 #[.val (.ref t), .val (.int (0 : Int32)), .val (.int (1 : Int32)), .val (.int t1)] []) _
    refine stp (fun _ => XS.iloadN X2.here hx rfl (hb hby d11_18) rfl) ?_
    show Go p e below T2 (mkF m 19 #[.val (.ref t), .val (.int (0 : Int32)), .val (.int (1 : Int32)), .val (.int t1)] [(.int t1)]) _
    refine stp (fun _ => XS.bipush X2.here hx rfl (hb hby d11_19)) ?_
    show Go p e below T2 (mkF m 21 #[.val (.ref t), .val (.int (0 : Int32)), .val (.int (1 : Int32)), .val (.int t1)] [(.int (34 : Int32)), (.int t1)]) _
    by_cases q21_3 : t1 = (34 : Int32)
    · refine stp (fun _ => XS.icmpNo X2.here hx rfl (hb hby d11_21) rfl (XT.ii_ne_f q21_3)) ?_
      show Go p e below T2 (mkF m 24 #[.val (.ref t), .val (.int (0 : Int32)), .val (.int (1 : Int32)), .val (.int t1)] []) _
      refine stp (fun _ => XS.iloadN X2.here hx rfl (hb hby d11_24) rfl) ?_
      show Go p e below T2 (mkF m 25 #[.val (.ref t), .val (.int (0 : Int32)), .val (.int (1 : Int32)), .val (.int t1)] [(.int (1 : Int32))]) _
      refine stp (fun _ => XS.iconst X2.here hx rfl (hb hby d11_25)) ?_
      show Go p e below T2 (mkF m 26 #[.val (.ref t), .val (.int (0 : Int32)), .val (.int (1 : Int32)), .val (.int t1)] [(.int (1 : Int32)), (.int (1 : Int32))]) _
      refine stp (fun _ => XS.iadd X2.here hx rfl (hb hby d11_26) rfl) ?_
      show Go p e below T2 (mkF m 27 #[.val (.ref t), .val (.int (0 : Int32)), .val (.int (1 : Int32)), .val (.int t1)] [(.int (2 : Int32))]) _
      refine outI X2 hx hret (hb hby d11_27) hlk (by decide) (by decide) ?_
      exact ⟨own_somei (by rw [own_e_0]; simp only [own_e1, own_e2, own_e3, own_e4, if_pos q21_3]), N2, e2⟩
    · refine stp (fun _ => XS.icmpYes X2.here hx rfl (pc0 := 21) (pc' := 28) rfl (hb hby d11_21) rfl (XT.ii_ne_t q21_3) (by decide) (by decide)) ?_
      show Go p e below T2 (mkF m 28 #[.val (.ref t), .val (.int (0 : Int32)), .val (.int (1 : Int32)), .val (.int t1)] []) _
      refine stp (fun _ => XS.iloadN X2.here hx rfl (hb hby d11_28) rfl) ?_
      show Go p e below T2 (mkF m 29 #[.val (.ref t), .val (.int (0 : Int32)), .val (.int (1 : Int32)), .val (.int t1)] [(.int (1 : Int32))]) _
      refine stp (fun _ => XS.iloadN X2.here hx rfl (hb hby d11_29) rfl) ?_
      show Go p e below T2 (mkF m 30 #[.val (.ref t), .val (.int (0 : Int32)), .val (.int (1 : Int32)), .val (.int t1)] [(.int t1), (.int (1 : Int32))]) _
      refine stp (fun _ => XS.bipush X2.here hx rfl (hb hby d11_30)) ?_
      show Go p e below T2 (mkF m 32 #[.val (.ref t), .val (.int (0 : Int32)), .val (.int (1 : Int32)), .val (.int t1)] [(.int (92 : Int32)), (.int t1), (.int (1 : Int32))]) _
      by_cases q32_4 : t1 = (92 : Int32)
      · refine stp (fun _ => XS.icmpNo X2.here hx rfl (hb hby d11_32) rfl (XT.ii_ne_f q32_4)) ?_
        show Go p e below T2 (mkF m 35 #[.val (.ref t), .val (.int (0 : Int32)), .val (.int (1 : Int32)), .val (.int t1)] [(.int (1 : Int32))]) _
        refine stp (fun _ => XS.iconst X2.here hx rfl (hb hby d11_35)) ?_
        show Go p e below T2 (mkF m 36 #[.val (.ref t), .val (.int (0 : Int32)), .val (.int (1 : Int32)), .val (.int t1)] [(.int (2 : Int32)), (.int (1 : Int32))]) _
        refine stp (fun _ => XS.goto X2.here hx rfl (pc0 := 36) (pc' := 40) rfl (hb hby d11_36) (by decide) (by decide)) ?_
        show Go p e below T2 (mkF m 40 #[.val (.ref t), .val (.int (0 : Int32)), .val (.int (1 : Int32)), .val (.int t1)] [(.int (2 : Int32)), (.int (1 : Int32))]) _
        refine stp (fun _ => XS.iadd X2.here hx rfl (hb hby d11_40) rfl) ?_
        show Go p e below T2 (mkF m 41 #[.val (.ref t), .val (.int (0 : Int32)), .val (.int (1 : Int32)), .val (.int t1)] [(.int (3 : Int32))]) _
        refine stp (fun _ => XS.istoreN X2.here hx rfl (hb hby d11_41) rfl (l' := #[.val (.ref t), .val (.int (0 : Int32)), .val (.int (3 : Int32)), .val (.int t1)]) rfl) ?_
        show Go p e below T2 (mkF m 42 #[.val (.ref t), .val (.int (0 : Int32)), .val (.int (3 : Int32)), .val (.int t1)] []) _
        refine stp (fun _ => XS.goto X2.here hx rfl (pc0 := 42) (pc' := 4) rfl (hb hby d11_42) (by decide) (by decide)) ?_
        show Go p e below T2 (mkF m 4 #[.val (.ref t), .val (.int (0 : Int32)), .val (.int (3 : Int32)), .val (.int t1)] []) _
        refine stp (fun _ => XS.iloadN X2.here hx rfl (hb hby d11_4) rfl) ?_
        show Go p e below T2 (mkF m 5 #[.val (.ref t), .val (.int (0 : Int32)), .val (.int (3 : Int32)), .val (.int t1)] [(.int (3 : Int32))]) _
        refine stp (fun _ => XS.aloadN X2.here hx rfl (hb hby d11_5) rfl rfl) ?_
        show Go p e below T2 (mkF m 6 #[.val (.ref t), .val (.int (0 : Int32)), .val (.int (3 : Int32)), .val (.int t1)] [(.ref t), (.int (3 : Int32))]) _
        obtain ⟨cq5, kq5, q5a, q5b, q5c⟩ := isOf hZ e2 Q_t.exa
        obtain ⟨_, _, ⟨T5, L5, k5, n5⟩, -, X5, ⟨Lc5, hQ5, l5, y5, z5⟩, st5⟩ := X2.virtualBack hx (y := (⟨"java/lang/String", "length", "()I"⟩ : MethodName)) (z := (⟨"java/lang/String", "length", "()I"⟩ : MethodName)) hown (mvT hZ (hw _ (List.mem_of_getElem? (i := 48) rfl))) (mvT hZ (hw _ (List.mem_of_getElem? (i := 49) rfl))) (notFace_of_selects (args := #[]) (mvT hZ (hw _ (List.mem_of_getElem? (i := 51) rfl)))) (mvT hZ (hw _ (List.mem_of_getElem? (i := 51) rfl))) (mvT hZ (hw _ (List.mem_of_getElem? (i := 50) rfl))) (by decide) (backOf (W := 1) (rm_ulen l Z a0 hw [] t ([t0, t1, t2, t3, t4] : List Int32) cz h0 n0 O0 Q_t S_COMPACT_STRINGS hcz) hZ (hw _ (List.mem_of_getElem? (i := 52) rfl)) (hw _ (List.mem_of_getElem? (i := 17) rfl)) (by decide) (by decide)) q5a q5c (g := (mkF m 6 #[.val (.ref t), .val (.int (0 : Int32)), .val (.int (3 : Int32)), .val (.int t1)] [(.ref t), (.int (3 : Int32))])) rfl (by rw [hml]; rfl) (Steps.refl _) (argsL := []) (rest := [(.int (3 : Int32))]) (lenOf pd_15 rfl) rfl (by show 2 * 0 + _ ≤ _; exact Nat.le_of_eq rfl) (hb hby d11_6) (fun _ _ => ⟨rfl, e2, (by decide : 0 + 0 ≤ _), (by decide : 0 + 0 ≤ _)⟩)
        dsimp only [Pt.U, Pt.locs, Pt.cells, Pt.slots] at X5 l5 y5 z5 st5 hQ5
        subst y5 z5
        obtain ⟨rfl, N5q, e5⟩ := hQ5
        have N5 : Fr n0 L5 := by rw [l5]; exact Fr.app N2 N5q
        refine stt st5 ?_
        show Go p e below T5 (mkF m 9 #[.val (.ref t), .val (.int (0 : Int32)), .val (.int (3 : Int32)), .val (.int t1)] [(.int (5 : Int32)), (.int (3 : Int32))]) _
        refine stp (fun _ => XS.icmpNo X5.here hx rfl (hb hby d11_9) rfl (by decide)) ?_
        show Go p e below T5 (mkF m 12 #[.val (.ref t), .val (.int (0 : Int32)), .val (.int (3 : Int32)), .val (.int t1)] []) _
        refine stp (fun _ => XS.aloadN X5.here hx rfl (hb hby d11_12) rfl rfl) ?_
        show Go p e below T5 (mkF m 13 #[.val (.ref t), .val (.int (0 : Int32)), .val (.int (3 : Int32)), .val (.int t1)] [(.ref t)]) _
        refine stp (fun _ => XS.iloadN X5.here hx rfl (hb hby d11_13) rfl) ?_
        show Go p e below T5 (mkF m 14 #[.val (.ref t), .val (.int (0 : Int32)), .val (.int (3 : Int32)), .val (.int t1)] [(.int (3 : Int32)), (.ref t)]) _
        obtain ⟨cq6, kq6, q6a, q6b, q6c⟩ := isOf hZ e5 Q_t.exa
        obtain ⟨_, _, ⟨T6, L6, k6, n6⟩, -, X6, ⟨Lc6, hQ6, l6, y6, z6⟩, st6⟩ := X5.virtualBack hx (y := (⟨"java/lang/String", "charAt", "(I)C"⟩ : MethodName)) (z := (⟨"java/lang/String", "charAt", "(I)C"⟩ : MethodName)) hown (mvT hZ (hw _ (List.mem_of_getElem? (i := 58) rfl))) (mvT hZ (hw _ (List.mem_of_getElem? (i := 59) rfl))) (notFace_of_selects (args := #[]) (mvT hZ (hw _ (List.mem_of_getElem? (i := 61) rfl)))) (mvT hZ (hw _ (List.mem_of_getElem? (i := 61) rfl))) (mvT hZ (hw _ (List.mem_of_getElem? (i := 60) rfl))) (by decide) (backOf (W := 0) (rm_uch l Z a0 hw [] t (3 : Int32) ([t0, t1, t2, t3, t4] : List Int32) cz fm 3 h0 n0 O0 Q_t S_COMPACT_STRINGS S_SIOOBE_FORMATTER S__assertionsDisabled S_HI_BYTE_SHIFT S_LO_BYTE_SHIFT hcz hfm (by decide) (Nat.le_of_ble_eq_true rfl)) hZ (hw _ (List.mem_of_getElem? (i := 62) rfl)) (hw _ (List.mem_of_getElem? (i := 17) rfl)) (by decide) (by decide)) q6a q6c (g := (mkF m 14 #[.val (.ref t), .val (.int (0 : Int32)), .val (.int (3 : Int32)), .val (.int t1)] [(.int (3 : Int32)), (.ref t)])) rfl (by rw [hml]; rfl) (Steps.refl _) (argsL := [(.int (3 : Int32))]) (rest := []) (lenOf pd_16 rfl) rfl (by show 2 * 0 + _ ≤ _; exact Nat.le_of_eq rfl) (hb hby d11_14) (fun _ _ => ⟨rfl, e5, (by decide : 0 + 0 ≤ _), (by decide : 0 + 0 ≤ _)⟩)
        dsimp only [Pt.U, Pt.locs, Pt.cells, Pt.slots] at X6 l6 y6 z6 st6 hQ6
        subst y6 z6
        obtain ⟨rfl, N6q, e6⟩ := hQ6
        have N6 : Fr n0 L6 := by rw [l6]; exact Fr.app N5 N6q
        refine stt st6 ?_
        show Go p e below T6 (mkF m 17 #[.val (.ref t), .val (.int (0 : Int32)), .val (.int (3 : Int32)), .val (.int t1)] [(.int t3)]) _
        refine stp (fun _ => XS.istoreN X6.here hx rfl (hb hby d11_17) rfl (l' := #[.val (.ref t), .val (.int (0 : Int32)), .val (.int (3 : Int32)), .val (.int t3)]) rfl) ?_
        show Go p e below T6 (mkF m 18 #[.val (.ref t), .val (.int (0 : Int32)), .val (.int (3 : Int32)), .val (.int t3)] []) _
        refine stp (fun _ => XS.iloadN X6.here hx rfl (hb hby d11_18) rfl) ?_
        show Go p e below T6 (mkF m 19 #[.val (.ref t), .val (.int (0 : Int32)), .val (.int (3 : Int32)), .val (.int t3)] [(.int t3)]) _
        refine stp (fun _ => XS.bipush X6.here hx rfl (hb hby d11_19)) ?_
        show Go p e below T6 (mkF m 21 #[.val (.ref t), .val (.int (0 : Int32)), .val (.int (3 : Int32)), .val (.int t3)] [(.int (34 : Int32)), (.int t3)]) _
        by_cases q21_7 : t3 = (34 : Int32)
        · refine stp (fun _ => XS.icmpNo X6.here hx rfl (hb hby d11_21) rfl (XT.ii_ne_f q21_7)) ?_
          show Go p e below T6 (mkF m 24 #[.val (.ref t), .val (.int (0 : Int32)), .val (.int (3 : Int32)), .val (.int t3)] []) _
          refine stp (fun _ => XS.iloadN X6.here hx rfl (hb hby d11_24) rfl) ?_
          show Go p e below T6 (mkF m 25 #[.val (.ref t), .val (.int (0 : Int32)), .val (.int (3 : Int32)), .val (.int t3)] [(.int (3 : Int32))]) _
          refine stp (fun _ => XS.iconst X6.here hx rfl (hb hby d11_25)) ?_
          show Go p e below T6 (mkF m 26 #[.val (.ref t), .val (.int (0 : Int32)), .val (.int (3 : Int32)), .val (.int t3)] [(.int (1 : Int32)), (.int (3 : Int32))]) _
          refine stp (fun _ => XS.iadd X6.here hx rfl (hb hby d11_26) rfl) ?_
          show Go p e below T6 (mkF m 27 #[.val (.ref t), .val (.int (0 : Int32)), .val (.int (3 : Int32)), .val (.int t3)] [(.int (4 : Int32))]) _
          refine outI X6 hx hret (hb hby d11_27) hlk (by decide) (by decide) ?_
          exact ⟨own_somei (by rw [own_e_0]; simp only [own_e1, own_e2, own_e3, own_e4, if_neg q21_3, if_pos q32_4, if_pos q21_7]), N6, e6⟩
        · refine stp (fun _ => XS.icmpYes X6.here hx rfl (pc0 := 21) (pc' := 28) rfl (hb hby d11_21) rfl (XT.ii_ne_t q21_7) (by decide) (by decide)) ?_
          show Go p e below T6 (mkF m 28 #[.val (.ref t), .val (.int (0 : Int32)), .val (.int (3 : Int32)), .val (.int t3)] []) _
          refine stp (fun _ => XS.iloadN X6.here hx rfl (hb hby d11_28) rfl) ?_
          show Go p e below T6 (mkF m 29 #[.val (.ref t), .val (.int (0 : Int32)), .val (.int (3 : Int32)), .val (.int t3)] [(.int (3 : Int32))]) _
          refine stp (fun _ => XS.iloadN X6.here hx rfl (hb hby d11_29) rfl) ?_
          show Go p e below T6 (mkF m 30 #[.val (.ref t), .val (.int (0 : Int32)), .val (.int (3 : Int32)), .val (.int t3)] [(.int t3), (.int (3 : Int32))]) _
          refine stp (fun _ => XS.bipush X6.here hx rfl (hb hby d11_30)) ?_
          show Go p e below T6 (mkF m 32 #[.val (.ref t), .val (.int (0 : Int32)), .val (.int (3 : Int32)), .val (.int t3)] [(.int (92 : Int32)), (.int t3), (.int (3 : Int32))]) _
          by_cases q32_8 : t3 = (92 : Int32)
          · refine stp (fun _ => XS.icmpNo X6.here hx rfl (hb hby d11_32) rfl (XT.ii_ne_f q32_8)) ?_
            show Go p e below T6 (mkF m 35 #[.val (.ref t), .val (.int (0 : Int32)), .val (.int (3 : Int32)), .val (.int t3)] [(.int (3 : Int32))]) _
            refine stp (fun _ => XS.iconst X6.here hx rfl (hb hby d11_35)) ?_
            show Go p e below T6 (mkF m 36 #[.val (.ref t), .val (.int (0 : Int32)), .val (.int (3 : Int32)), .val (.int t3)] [(.int (2 : Int32)), (.int (3 : Int32))]) _
            refine stp (fun _ => XS.goto X6.here hx rfl (pc0 := 36) (pc' := 40) rfl (hb hby d11_36) (by decide) (by decide)) ?_
            show Go p e below T6 (mkF m 40 #[.val (.ref t), .val (.int (0 : Int32)), .val (.int (3 : Int32)), .val (.int t3)] [(.int (2 : Int32)), (.int (3 : Int32))]) _
            refine stp (fun _ => XS.iadd X6.here hx rfl (hb hby d11_40) rfl) ?_
            show Go p e below T6 (mkF m 41 #[.val (.ref t), .val (.int (0 : Int32)), .val (.int (3 : Int32)), .val (.int t3)] [(.int (5 : Int32))]) _
            refine stp (fun _ => XS.istoreN X6.here hx rfl (hb hby d11_41) rfl (l' := #[.val (.ref t), .val (.int (0 : Int32)), .val (.int (5 : Int32)), .val (.int t3)]) rfl) ?_
            show Go p e below T6 (mkF m 42 #[.val (.ref t), .val (.int (0 : Int32)), .val (.int (5 : Int32)), .val (.int t3)] []) _
            refine stp (fun _ => XS.goto X6.here hx rfl (pc0 := 42) (pc' := 4) rfl (hb hby d11_42) (by decide) (by decide)) ?_
            show Go p e below T6 (mkF m 4 #[.val (.ref t), .val (.int (0 : Int32)), .val (.int (5 : Int32)), .val (.int t3)] []) _
            refine stp (fun _ => XS.iloadN X6.here hx rfl (hb hby d11_4) rfl) ?_
            show Go p e below T6 (mkF m 5 #[.val (.ref t), .val (.int (0 : Int32)), .val (.int (5 : Int32)), .val (.int t3)] [(.int (5 : Int32))]) _
            refine stp (fun _ => XS.aloadN X6.here hx rfl (hb hby d11_5) rfl rfl) ?_
            show Go p e below T6 (mkF m 6 #[.val (.ref t), .val (.int (0 : Int32)), .val (.int (5 : Int32)), .val (.int t3)] [(.ref t), (.int (5 : Int32))]) _
            obtain ⟨cq9, kq9, q9a, q9b, q9c⟩ := isOf hZ e6 Q_t.exa
            obtain ⟨_, _, ⟨T9, L9, k9, n9⟩, -, X9, ⟨Lc9, hQ9, l9, y9, z9⟩, st9⟩ := X6.virtualBack hx (y := (⟨"java/lang/String", "length", "()I"⟩ : MethodName)) (z := (⟨"java/lang/String", "length", "()I"⟩ : MethodName)) hown (mvT hZ (hw _ (List.mem_of_getElem? (i := 48) rfl))) (mvT hZ (hw _ (List.mem_of_getElem? (i := 49) rfl))) (notFace_of_selects (args := #[]) (mvT hZ (hw _ (List.mem_of_getElem? (i := 51) rfl)))) (mvT hZ (hw _ (List.mem_of_getElem? (i := 51) rfl))) (mvT hZ (hw _ (List.mem_of_getElem? (i := 50) rfl))) (by decide) (backOf (W := 1) (rm_ulen l Z a0 hw [] t ([t0, t1, t2, t3, t4] : List Int32) cz h0 n0 O0 Q_t S_COMPACT_STRINGS hcz) hZ (hw _ (List.mem_of_getElem? (i := 52) rfl)) (hw _ (List.mem_of_getElem? (i := 17) rfl)) (by decide) (by decide)) q9a q9c (g := (mkF m 6 #[.val (.ref t), .val (.int (0 : Int32)), .val (.int (5 : Int32)), .val (.int t3)] [(.ref t), (.int (5 : Int32))])) rfl (by rw [hml]; rfl) (Steps.refl _) (argsL := []) (rest := [(.int (5 : Int32))]) (lenOf pd_15 rfl) rfl (by show 2 * 0 + _ ≤ _; exact Nat.le_of_eq rfl) (hb hby d11_6) (fun _ _ => ⟨rfl, e6, (by decide : 0 + 0 ≤ _), (by decide : 0 + 0 ≤ _)⟩)
            dsimp only [Pt.U, Pt.locs, Pt.cells, Pt.slots] at X9 l9 y9 z9 st9 hQ9
            subst y9 z9
            obtain ⟨rfl, N9q, e9⟩ := hQ9
            have N9 : Fr n0 L9 := by rw [l9]; exact Fr.app N6 N9q
            refine stt st9 ?_
            show Go p e below T9 (mkF m 9 #[.val (.ref t), .val (.int (0 : Int32)), .val (.int (5 : Int32)), .val (.int t3)] [(.int (5 : Int32)), (.int (5 : Int32))]) _
            refine stp (fun _ => XS.icmpYes X9.here hx rfl (pc0 := 9) (pc' := 45) rfl (hb hby d11_9) rfl (by decide) (by decide) (by decide)) ?_
            show Go p e below T9 (mkF m 45 #[.val (.ref t), .val (.int (0 : Int32)), .val (.int (5 : Int32)), .val (.int t3)] []) _
            refine stp (fun _ => XS.iconst X9.here hx rfl (hb hby d11_45)) ?_
            show Go p e below T9 (mkF m 46 #[.val (.ref t), .val (.int (0 : Int32)), .val (.int (5 : Int32)), .val (.int t3)] [(.int (-1 : Int32))]) _
            refine outI X9 hx hret (hb hby d11_46) hlk (by decide) (by decide) ?_
            exact ⟨own_somei (by rw [own_e_0]; simp only [own_e1, own_e2, own_e3, own_e4, if_neg q21_3, if_pos q32_4, if_neg q21_7, if_pos q32_8]), N9, e9⟩
          · refine stp (fun _ => XS.icmpYes X6.here hx rfl (pc0 := 32) (pc' := 39) rfl (hb hby d11_32) rfl (XT.ii_ne_t q32_8) (by decide) (by decide)) ?_
            show Go p e below T6 (mkF m 39 #[.val (.ref t), .val (.int (0 : Int32)), .val (.int (3 : Int32)), .val (.int t3)] [(.int (3 : Int32))]) _
            refine stp (fun _ => XS.iconst X6.here hx rfl (hb hby d11_39)) ?_
            show Go p e below T6 (mkF m 40 #[.val (.ref t), .val (.int (0 : Int32)), .val (.int (3 : Int32)), .val (.int t3)] [(.int (1 : Int32)), (.int (3 : Int32))]) _
            refine stp (fun _ => XS.iadd X6.here hx rfl (hb hby d11_40) rfl) ?_
            show Go p e below T6 (mkF m 41 #[.val (.ref t), .val (.int (0 : Int32)), .val (.int (3 : Int32)), .val (.int t3)] [(.int (4 : Int32))]) _
            refine stp (fun _ => XS.istoreN X6.here hx rfl (hb hby d11_41) rfl (l' := #[.val (.ref t), .val (.int (0 : Int32)), .val (.int (4 : Int32)), .val (.int t3)]) rfl) ?_
            show Go p e below T6 (mkF m 42 #[.val (.ref t), .val (.int (0 : Int32)), .val (.int (4 : Int32)), .val (.int t3)] []) _
            refine stp (fun _ => XS.goto X6.here hx rfl (pc0 := 42) (pc' := 4) rfl (hb hby d11_42) (by decide) (by decide)) ?_
            show Go p e below T6 (mkF m 4 #[.val (.ref t), .val (.int (0 : Int32)), .val (.int (4 : Int32)), .val (.int t3)] []) _
            refine stp (fun _ => XS.iloadN X6.here hx rfl (hb hby d11_4) rfl) ?_
            show Go p e below T6 (mkF m 5 #[.val (.ref t), .val (.int (0 : Int32)), .val (.int (4 : Int32)), .val (.int t3)] [(.int (4 : Int32))]) _
            refine stp (fun _ => XS.aloadN X6.here hx rfl (hb hby d11_5) rfl rfl) ?_
            show Go p e below T6 (mkF m 6 #[.val (.ref t), .val (.int (0 : Int32)), .val (.int (4 : Int32)), .val (.int t3)] [(.ref t), (.int (4 : Int32))]) _
            obtain ⟨cq10, kq10, q10a, q10b, q10c⟩ := isOf hZ e6 Q_t.exa
            obtain ⟨_, _, ⟨T10, L10, k10, n10⟩, -, X10, ⟨Lc10, hQ10, l10, y10, z10⟩, st10⟩ := X6.virtualBack hx (y := (⟨"java/lang/String", "length", "()I"⟩ : MethodName)) (z := (⟨"java/lang/String", "length", "()I"⟩ : MethodName)) hown (mvT hZ (hw _ (List.mem_of_getElem? (i := 48) rfl))) (mvT hZ (hw _ (List.mem_of_getElem? (i := 49) rfl))) (notFace_of_selects (args := #[]) (mvT hZ (hw _ (List.mem_of_getElem? (i := 51) rfl)))) (mvT hZ (hw _ (List.mem_of_getElem? (i := 51) rfl))) (mvT hZ (hw _ (List.mem_of_getElem? (i := 50) rfl))) (by decide) (backOf (W := 1) (rm_ulen l Z a0 hw [] t ([t0, t1, t2, t3, t4] : List Int32) cz h0 n0 O0 Q_t S_COMPACT_STRINGS hcz) hZ (hw _ (List.mem_of_getElem? (i := 52) rfl)) (hw _ (List.mem_of_getElem? (i := 17) rfl)) (by decide) (by decide)) q10a q10c (g := (mkF m 6 #[.val (.ref t), .val (.int (0 : Int32)), .val (.int (4 : Int32)), .val (.int t3)] [(.ref t), (.int (4 : Int32))])) rfl (by rw [hml]; rfl) (Steps.refl _) (argsL := []) (rest := [(.int (4 : Int32))]) (lenOf pd_15 rfl) rfl (by show 2 * 0 + _ ≤ _; exact Nat.le_of_eq rfl) (hb hby d11_6) (fun _ _ => ⟨rfl, e6, (by decide : 0 + 0 ≤ _), (by decide : 0 + 0 ≤ _)⟩)
            dsimp only [Pt.U, Pt.locs, Pt.cells, Pt.slots] at X10 l10 y10 z10 st10 hQ10
            subst y10 z10
            obtain ⟨rfl, N10q, e10⟩ := hQ10
            have N10 : Fr n0 L10 := by rw [l10]; exact Fr.app N6 N10q
            refine stt st10 ?_
            show Go p e below T10 (mkF m 9 #[.val (.ref t), .val (.int (0 : Int32)), .val (.int (4 : Int32)), .val (.int t3)] [(.int (5 : Int32)), (.int (4 : Int32))]) _
            refine stp (fun _ => XS.icmpNo X10.here hx rfl (hb hby d11_9) rfl (by decide)) ?_
            show Go p e below T10 (mkF m 12 #[.val (.ref t), .val (.int (0 : Int32)), .val (.int (4 : Int32)), .val (.int t3)] []) _
            refine stp (fun _ => XS.aloadN X10.here hx rfl (hb hby d11_12) rfl rfl) ?_
            show Go p e below T10 (mkF m 13 #[.val (.ref t), .val (.int (0 : Int32)), .val (.int (4 : Int32)), .val (.int t3)] [(.ref t)]) _
            refine stp (fun _ => XS.iloadN X10.here hx rfl (hb hby d11_13) rfl) ?_
            show Go p e below T10 (mkF m 14 #[.val (.ref t), .val (.int (0 : Int32)), .val (.int (4 : Int32)), .val (.int t3)] [(.int (4 : Int32)), (.ref t)]) _
            obtain ⟨cq11, kq11, q11a, q11b, q11c⟩ := isOf hZ e10 Q_t.exa
            obtain ⟨_, _, ⟨T11, L11, k11, n11⟩, -, X11, ⟨Lc11, hQ11, l11, y11, z11⟩, st11⟩ := X10.virtualBack hx (y := (⟨"java/lang/String", "charAt", "(I)C"⟩ : MethodName)) (z := (⟨"java/lang/String", "charAt", "(I)C"⟩ : MethodName)) hown (mvT hZ (hw _ (List.mem_of_getElem? (i := 58) rfl))) (mvT hZ (hw _ (List.mem_of_getElem? (i := 59) rfl))) (notFace_of_selects (args := #[]) (mvT hZ (hw _ (List.mem_of_getElem? (i := 61) rfl)))) (mvT hZ (hw _ (List.mem_of_getElem? (i := 61) rfl))) (mvT hZ (hw _ (List.mem_of_getElem? (i := 60) rfl))) (by decide) (backOf (W := 0) (rm_uch l Z a0 hw [] t (4 : Int32) ([t0, t1, t2, t3, t4] : List Int32) cz fm 4 h0 n0 O0 Q_t S_COMPACT_STRINGS S_SIOOBE_FORMATTER S__assertionsDisabled S_HI_BYTE_SHIFT S_LO_BYTE_SHIFT hcz hfm (by decide) (Nat.le_of_ble_eq_true rfl)) hZ (hw _ (List.mem_of_getElem? (i := 62) rfl)) (hw _ (List.mem_of_getElem? (i := 17) rfl)) (by decide) (by decide)) q11a q11c (g := (mkF m 14 #[.val (.ref t), .val (.int (0 : Int32)), .val (.int (4 : Int32)), .val (.int t3)] [(.int (4 : Int32)), (.ref t)])) rfl (by rw [hml]; rfl) (Steps.refl _) (argsL := [(.int (4 : Int32))]) (rest := []) (lenOf pd_16 rfl) rfl (by show 2 * 0 + _ ≤ _; exact Nat.le_of_eq rfl) (hb hby d11_14) (fun _ _ => ⟨rfl, e10, (by decide : 0 + 0 ≤ _), (by decide : 0 + 0 ≤ _)⟩)
            dsimp only [Pt.U, Pt.locs, Pt.cells, Pt.slots] at X11 l11 y11 z11 st11 hQ11
            subst y11 z11
            obtain ⟨rfl, N11q, e11⟩ := hQ11
            have N11 : Fr n0 L11 := by rw [l11]; exact Fr.app N10 N11q
            refine stt st11 ?_
            show Go p e below T11 (mkF m 17 #[.val (.ref t), .val (.int (0 : Int32)), .val (.int (4 : Int32)), .val (.int t3)] [(.int t4)]) _
            refine stp (fun _ => XS.istoreN X11.here hx rfl (hb hby d11_17) rfl (l' := #[.val (.ref t), .val (.int (0 : Int32)), .val (.int (4 : Int32)), .val (.int t4)]) rfl) ?_
            show Go p e below T11 (mkF m 18 #[.val (.ref t), .val (.int (0 : Int32)), .val (.int (4 : Int32)), .val (.int t4)] []) _
            refine stp (fun _ => XS.iloadN X11.here hx rfl (hb hby d11_18) rfl) ?_
            show Go p e below T11 (mkF m 19 #[.val (.ref t), .val (.int (0 : Int32)), .val (.int (4 : Int32)), .val (.int t4)] [(.int t4)]) _
            refine stp (fun _ => XS.bipush X11.here hx rfl (hb hby d11_19)) ?_
            show Go p e below T11 (mkF m 21 #[.val (.ref t), .val (.int (0 : Int32)), .val (.int (4 : Int32)), .val (.int t4)] [(.int (34 : Int32)), (.int t4)]) _
            by_cases q21_12 : t4 = (34 : Int32)
            · refine stp (fun _ => XS.icmpNo X11.here hx rfl (hb hby d11_21) rfl (XT.ii_ne_f q21_12)) ?_
              show Go p e below T11 (mkF m 24 #[.val (.ref t), .val (.int (0 : Int32)), .val (.int (4 : Int32)), .val (.int t4)] []) _
              refine stp (fun _ => XS.iloadN X11.here hx rfl (hb hby d11_24) rfl) ?_
              show Go p e below T11 (mkF m 25 #[.val (.ref t), .val (.int (0 : Int32)), .val (.int (4 : Int32)), .val (.int t4)] [(.int (4 : Int32))]) _
              refine stp (fun _ => XS.iconst X11.here hx rfl (hb hby d11_25)) ?_
              show Go p e below T11 (mkF m 26 #[.val (.ref t), .val (.int (0 : Int32)), .val (.int (4 : Int32)), .val (.int t4)] [(.int (1 : Int32)), (.int (4 : Int32))]) _
              refine stp (fun _ => XS.iadd X11.here hx rfl (hb hby d11_26) rfl) ?_
              show Go p e below T11 (mkF m 27 #[.val (.ref t), .val (.int (0 : Int32)), .val (.int (4 : Int32)), .val (.int t4)] [(.int (5 : Int32))]) _
              refine outI X11 hx hret (hb hby d11_27) hlk (by decide) (by decide) ?_
              exact ⟨own_somei (by rw [own_e_0]; simp only [own_e1, own_e2, own_e3, own_e4, if_neg q21_3, if_pos q32_4, if_neg q21_7, if_neg q32_8, if_pos q21_12]), N11, e11⟩
            · refine stp (fun _ => XS.icmpYes X11.here hx rfl (pc0 := 21) (pc' := 28) rfl (hb hby d11_21) rfl (XT.ii_ne_t q21_12) (by decide) (by decide)) ?_
              show Go p e below T11 (mkF m 28 #[.val (.ref t), .val (.int (0 : Int32)), .val (.int (4 : Int32)), .val (.int t4)] []) _
              refine stp (fun _ => XS.iloadN X11.here hx rfl (hb hby d11_28) rfl) ?_
              show Go p e below T11 (mkF m 29 #[.val (.ref t), .val (.int (0 : Int32)), .val (.int (4 : Int32)), .val (.int t4)] [(.int (4 : Int32))]) _
              refine stp (fun _ => XS.iloadN X11.here hx rfl (hb hby d11_29) rfl) ?_
              show Go p e below T11 (mkF m 30 #[.val (.ref t), .val (.int (0 : Int32)), .val (.int (4 : Int32)), .val (.int t4)] [(.int t4), (.int (4 : Int32))]) _
              refine stp (fun _ => XS.bipush X11.here hx rfl (hb hby d11_30)) ?_
              show Go p e below T11 (mkF m 32 #[.val (.ref t), .val (.int (0 : Int32)), .val (.int (4 : Int32)), .val (.int t4)] [(.int (92 : Int32)), (.int t4), (.int (4 : Int32))]) _
              by_cases q32_13 : t4 = (92 : Int32)
              · refine stp (fun _ => XS.icmpNo X11.here hx rfl (hb hby d11_32) rfl (XT.ii_ne_f q32_13)) ?_
                show Go p e below T11 (mkF m 35 #[.val (.ref t), .val (.int (0 : Int32)), .val (.int (4 : Int32)), .val (.int t4)] [(.int (4 : Int32))]) _
                refine stp (fun _ => XS.iconst X11.here hx rfl (hb hby d11_35)) ?_
                show Go p e below T11 (mkF m 36 #[.val (.ref t), .val (.int (0 : Int32)), .val (.int (4 : Int32)), .val (.int t4)] [(.int (2 : Int32)), (.int (4 : Int32))]) _
                refine stp (fun _ => XS.goto X11.here hx rfl (pc0 := 36) (pc' := 40) rfl (hb hby d11_36) (by decide) (by decide)) ?_
                show Go p e below T11 (mkF m 40 #[.val (.ref t), .val (.int (0 : Int32)), .val (.int (4 : Int32)), .val (.int t4)] [(.int (2 : Int32)), (.int (4 : Int32))]) _
                refine stp (fun _ => XS.iadd X11.here hx rfl (hb hby d11_40) rfl) ?_
                show Go p e below T11 (mkF m 41 #[.val (.ref t), .val (.int (0 : Int32)), .val (.int (4 : Int32)), .val (.int t4)] [(.int (6 : Int32))]) _
                refine stp (fun _ => XS.istoreN X11.here hx rfl (hb hby d11_41) rfl (l' := #[.val (.ref t), .val (.int (0 : Int32)), .val (.int (6 : Int32)), .val (.int t4)]) rfl) ?_
                show Go p e below T11 (mkF m 42 #[.val (.ref t), .val (.int (0 : Int32)), .val (.int (6 : Int32)), .val (.int t4)] []) _
                refine stp (fun _ => XS.goto X11.here hx rfl (pc0 := 42) (pc' := 4) rfl (hb hby d11_42) (by decide) (by decide)) ?_
                show Go p e below T11 (mkF m 4 #[.val (.ref t), .val (.int (0 : Int32)), .val (.int (6 : Int32)), .val (.int t4)] []) _
                refine stp (fun _ => XS.iloadN X11.here hx rfl (hb hby d11_4) rfl) ?_
                show Go p e below T11 (mkF m 5 #[.val (.ref t), .val (.int (0 : Int32)), .val (.int (6 : Int32)), .val (.int t4)] [(.int (6 : Int32))]) _
                refine stp (fun _ => XS.aloadN X11.here hx rfl (hb hby d11_5) rfl rfl) ?_
                show Go p e below T11 (mkF m 6 #[.val (.ref t), .val (.int (0 : Int32)), .val (.int (6 : Int32)), .val (.int t4)] [(.ref t), (.int (6 : Int32))]) _
                obtain ⟨cq14, kq14, q14a, q14b, q14c⟩ := isOf hZ e11 Q_t.exa
                obtain ⟨_, _, ⟨T14, L14, k14, n14⟩, -, X14, ⟨Lc14, hQ14, l14, y14, z14⟩, st14⟩ := X11.virtualBack hx (y := (⟨"java/lang/String", "length", "()I"⟩ : MethodName)) (z := (⟨"java/lang/String", "length", "()I"⟩ : MethodName)) hown (mvT hZ (hw _ (List.mem_of_getElem? (i := 48) rfl))) (mvT hZ (hw _ (List.mem_of_getElem? (i := 49) rfl))) (notFace_of_selects (args := #[]) (mvT hZ (hw _ (List.mem_of_getElem? (i := 51) rfl)))) (mvT hZ (hw _ (List.mem_of_getElem? (i := 51) rfl))) (mvT hZ (hw _ (List.mem_of_getElem? (i := 50) rfl))) (by decide) (backOf (W := 1) (rm_ulen l Z a0 hw [] t ([t0, t1, t2, t3, t4] : List Int32) cz h0 n0 O0 Q_t S_COMPACT_STRINGS hcz) hZ (hw _ (List.mem_of_getElem? (i := 52) rfl)) (hw _ (List.mem_of_getElem? (i := 17) rfl)) (by decide) (by decide)) q14a q14c (g := (mkF m 6 #[.val (.ref t), .val (.int (0 : Int32)), .val (.int (6 : Int32)), .val (.int t4)] [(.ref t), (.int (6 : Int32))])) rfl (by rw [hml]; rfl) (Steps.refl _) (argsL := []) (rest := [(.int (6 : Int32))]) (lenOf pd_15 rfl) rfl (by show 2 * 0 + _ ≤ _; exact Nat.le_of_eq rfl) (hb hby d11_6) (fun _ _ => ⟨rfl, e11, (by decide : 0 + 0 ≤ _), (by decide : 0 + 0 ≤ _)⟩)
                dsimp only [Pt.U, Pt.locs, Pt.cells, Pt.slots] at X14 l14 y14 z14 st14 hQ14
                subst y14 z14
                obtain ⟨rfl, N14q, e14⟩ := hQ14
                have N14 : Fr n0 L14 := by rw [l14]; exact Fr.app N11 N14q
                refine stt st14 ?_
                show Go p e below T14 (mkF m 9 #[.val (.ref t), .val (.int (0 : Int32)), .val (.int (6 : Int32)), .val (.int t4)] [(.int (5 : Int32)), (.int (6 : Int32))]) _
                refine stp (fun _ => XS.icmpYes X14.here hx rfl (pc0 := 9) (pc' := 45) rfl (hb hby d11_9) rfl (by decide) (by decide) (by decide)) ?_
                show Go p e below T14 (mkF m 45 #[.val (.ref t), .val (.int (0 : Int32)), .val (.int (6 : Int32)), .val (.int t4)] []) _
                refine stp (fun _ => XS.iconst X14.here hx rfl (hb hby d11_45)) ?_
                show Go p e below T14 (mkF m 46 #[.val (.ref t), .val (.int (0 : Int32)), .val (.int (6 : Int32)), .val (.int t4)] [(.int (-1 : Int32))]) _
                refine outI X14 hx hret (hb hby d11_46) hlk (by decide) (by decide) ?_
                exact ⟨own_somei (by rw [own_e_0]; simp only [own_e1, own_e2, own_e3, own_e4, if_neg q21_3, if_pos q32_4, if_neg q21_7, if_neg q32_8, if_neg q21_12, if_pos q32_13]), N14, e14⟩
              · refine stp (fun _ => XS.icmpYes X11.here hx rfl (pc0 := 32) (pc' := 39) rfl (hb hby d11_32) rfl (XT.ii_ne_t q32_13) (by decide) (by decide)) ?_
                show Go p e below T11 (mkF m 39 #[.val (.ref t), .val (.int (0 : Int32)), .val (.int (4 : Int32)), .val (.int t4)] [(.int (4 : Int32))]) _
                refine stp (fun _ => XS.iconst X11.here hx rfl (hb hby d11_39)) ?_
                show Go p e below T11 (mkF m 40 #[.val (.ref t), .val (.int (0 : Int32)), .val (.int (4 : Int32)), .val (.int t4)] [(.int (1 : Int32)), (.int (4 : Int32))]) _
                refine stp (fun _ => XS.iadd X11.here hx rfl (hb hby d11_40) rfl) ?_
                show Go p e below T11 (mkF m 41 #[.val (.ref t), .val (.int (0 : Int32)), .val (.int (4 : Int32)), .val (.int t4)] [(.int (5 : Int32))]) _
                refine stp (fun _ => XS.istoreN X11.here hx rfl (hb hby d11_41) rfl (l' := #[.val (.ref t), .val (.int (0 : Int32)), .val (.int (5 : Int32)), .val (.int t4)]) rfl) ?_
                show Go p e below T11 (mkF m 42 #[.val (.ref t), .val (.int (0 : Int32)), .val (.int (5 : Int32)), .val (.int t4)] []) _
                refine stp (fun _ => XS.goto X11.here hx rfl (pc0 := 42) (pc' := 4) rfl (hb hby d11_42) (by decide) (by decide)) ?_
                show Go p e below T11 (mkF m 4 #[.val (.ref t), .val (.int (0 : Int32)), .val (.int (5 : Int32)), .val (.int t4)] []) _
                refine stp (fun _ => XS.iloadN X11.here hx rfl (hb hby d11_4) rfl) ?_
                show Go p e below T11 (mkF m 5 #[.val (.ref t), .val (.int (0 : Int32)), .val (.int (5 : Int32)), .val (.int t4)] [(.int (5 : Int32))]) _
                refine stp (fun _ => XS.aloadN X11.here hx rfl (hb hby d11_5) rfl rfl) ?_
                show Go p e below T11 (mkF m 6 #[.val (.ref t), .val (.int (0 : Int32)), .val (.int (5 : Int32)), .val (.int t4)] [(.ref t), (.int (5 : Int32))]) _
                obtain ⟨cq15, kq15, q15a, q15b, q15c⟩ := isOf hZ e11 Q_t.exa
                obtain ⟨_, _, ⟨T15, L15, k15, n15⟩, -, X15, ⟨Lc15, hQ15, l15, y15, z15⟩, st15⟩ := X11.virtualBack hx (y := (⟨"java/lang/String", "length", "()I"⟩ : MethodName)) (z := (⟨"java/lang/String", "length", "()I"⟩ : MethodName)) hown (mvT hZ (hw _ (List.mem_of_getElem? (i := 48) rfl))) (mvT hZ (hw _ (List.mem_of_getElem? (i := 49) rfl))) (notFace_of_selects (args := #[]) (mvT hZ (hw _ (List.mem_of_getElem? (i := 51) rfl)))) (mvT hZ (hw _ (List.mem_of_getElem? (i := 51) rfl))) (mvT hZ (hw _ (List.mem_of_getElem? (i := 50) rfl))) (by decide) (backOf (W := 1) (rm_ulen l Z a0 hw [] t ([t0, t1, t2, t3, t4] : List Int32) cz h0 n0 O0 Q_t S_COMPACT_STRINGS hcz) hZ (hw _ (List.mem_of_getElem? (i := 52) rfl)) (hw _ (List.mem_of_getElem? (i := 17) rfl)) (by decide) (by decide)) q15a q15c (g := (mkF m 6 #[.val (.ref t), .val (.int (0 : Int32)), .val (.int (5 : Int32)), .val (.int t4)] [(.ref t), (.int (5 : Int32))])) rfl (by rw [hml]; rfl) (Steps.refl _) (argsL := []) (rest := [(.int (5 : Int32))]) (lenOf pd_15 rfl) rfl (by show 2 * 0 + _ ≤ _; exact Nat.le_of_eq rfl) (hb hby d11_6) (fun _ _ => ⟨rfl, e11, (by decide : 0 + 0 ≤ _), (by decide : 0 + 0 ≤ _)⟩)
                dsimp only [Pt.U, Pt.locs, Pt.cells, Pt.slots] at X15 l15 y15 z15 st15 hQ15
                subst y15 z15
                obtain ⟨rfl, N15q, e15⟩ := hQ15
                have N15 : Fr n0 L15 := by rw [l15]; exact Fr.app N11 N15q
                refine stt st15 ?_
                show Go p e below T15 (mkF m 9 #[.val (.ref t), .val (.int (0 : Int32)), .val (.int (5 : Int32)), .val (.int t4)] [(.int (5 : Int32)), (.int (5 : Int32))]) _
                refine stp (fun _ => XS.icmpYes X15.here hx rfl (pc0 := 9) (pc' := 45) rfl (hb hby d11_9) rfl (by decide) (by decide) (by decide)) ?_
                show Go p e below T15 (mkF m 45 #[.val (.ref t), .val (.int (0 : Int32)), .val (.int (5 : Int32)), .val (.int t4)] []) _
                refine stp (fun _ => XS.iconst X15.here hx rfl (hb hby d11_45)) ?_
                show Go p e below T15 (mkF m 46 #[.val (.ref t), .val (.int (0 : Int32)), .val (.int (5 : Int32)), .val (.int t4)] [(.int (-1 : Int32))]) _
                refine outI X15 hx hret (hb hby d11_46) hlk (by decide) (by decide) ?_
                exact ⟨own_somei (by rw [own_e_0]; simp only [own_e1, own_e2, own_e3, own_e4, if_neg q21_3, if_pos q32_4, if_neg q21_7, if_neg q32_8, if_neg q21_12, if_neg q32_13]), N15, e15⟩
      · refine stp (fun _ => XS.icmpYes X2.here hx rfl (pc0 := 32) (pc' := 39) rfl (hb hby d11_32) rfl (XT.ii_ne_t q32_4) (by decide) (by decide)) ?_
        show Go p e below T2 (mkF m 39 #[.val (.ref t), .val (.int (0 : Int32)), .val (.int (1 : Int32)), .val (.int t1)] [(.int (1 : Int32))]) _
        refine stp (fun _ => XS.iconst X2.here hx rfl (hb hby d11_39)) ?_
        show Go p e below T2 (mkF m 40 #[.val (.ref t), .val (.int (0 : Int32)), .val (.int (1 : Int32)), .val (.int t1)] [(.int (1 : Int32)), (.int (1 : Int32))]) _
        refine stp (fun _ => XS.iadd X2.here hx rfl (hb hby d11_40) rfl) ?_
        show Go p e below T2 (mkF m 41 #[.val (.ref t), .val (.int (0 : Int32)), .val (.int (1 : Int32)), .val (.int t1)] [(.int (2 : Int32))]) _
        refine stp (fun _ => XS.istoreN X2.here hx rfl (hb hby d11_41) rfl (l' := #[.val (.ref t), .val (.int (0 : Int32)), .val (.int (2 : Int32)), .val (.int t1)]) rfl) ?_
        show Go p e below T2 (mkF m 42 #[.val (.ref t), .val (.int (0 : Int32)), .val (.int (2 : Int32)), .val (.int t1)] []) _
        refine stp (fun _ => XS.goto X2.here hx rfl (pc0 := 42) (pc' := 4) rfl (hb hby d11_42) (by decide) (by decide)) ?_
        show Go p e below T2 (mkF m 4 #[.val (.ref t), .val (.int (0 : Int32)), .val (.int (2 : Int32)), .val (.int t1)] []) _
        refine stp (fun _ => XS.iloadN X2.here hx rfl (hb hby d11_4) rfl) ?_
        show Go p e below T2 (mkF m 5 #[.val (.ref t), .val (.int (0 : Int32)), .val (.int (2 : Int32)), .val (.int t1)] [(.int (2 : Int32))]) _
        refine stp (fun _ => XS.aloadN X2.here hx rfl (hb hby d11_5) rfl rfl) ?_
        show Go p e below T2 (mkF m 6 #[.val (.ref t), .val (.int (0 : Int32)), .val (.int (2 : Int32)), .val (.int t1)] [(.ref t), (.int (2 : Int32))]) _
        obtain ⟨cq16, kq16, q16a, q16b, q16c⟩ := isOf hZ e2 Q_t.exa
        obtain ⟨_, _, ⟨T16, L16, k16, n16⟩, -, X16, ⟨Lc16, hQ16, l16, y16, z16⟩, st16⟩ := X2.virtualBack hx (y := (⟨"java/lang/String", "length", "()I"⟩ : MethodName)) (z := (⟨"java/lang/String", "length", "()I"⟩ : MethodName)) hown (mvT hZ (hw _ (List.mem_of_getElem? (i := 48) rfl))) (mvT hZ (hw _ (List.mem_of_getElem? (i := 49) rfl))) (notFace_of_selects (args := #[]) (mvT hZ (hw _ (List.mem_of_getElem? (i := 51) rfl)))) (mvT hZ (hw _ (List.mem_of_getElem? (i := 51) rfl))) (mvT hZ (hw _ (List.mem_of_getElem? (i := 50) rfl))) (by decide) (backOf (W := 1) (rm_ulen l Z a0 hw [] t ([t0, t1, t2, t3, t4] : List Int32) cz h0 n0 O0 Q_t S_COMPACT_STRINGS hcz) hZ (hw _ (List.mem_of_getElem? (i := 52) rfl)) (hw _ (List.mem_of_getElem? (i := 17) rfl)) (by decide) (by decide)) q16a q16c (g := (mkF m 6 #[.val (.ref t), .val (.int (0 : Int32)), .val (.int (2 : Int32)), .val (.int t1)] [(.ref t), (.int (2 : Int32))])) rfl (by rw [hml]; rfl) (Steps.refl _) (argsL := []) (rest := [(.int (2 : Int32))]) (lenOf pd_15 rfl) rfl (by show 2 * 0 + _ ≤ _; exact Nat.le_of_eq rfl) (hb hby d11_6) (fun _ _ => ⟨rfl, e2, (by decide : 0 + 0 ≤ _), (by decide : 0 + 0 ≤ _)⟩)
        dsimp only [Pt.U, Pt.locs, Pt.cells, Pt.slots] at X16 l16 y16 z16 st16 hQ16
        subst y16 z16
        obtain ⟨rfl, N16q, e16⟩ := hQ16
        have N16 : Fr n0 L16 := by rw [l16]; exact Fr.app N2 N16q
        refine stt st16 ?_
        show Go p e below T16 (mkF m 9 #[.val (.ref t), .val (.int (0 : Int32)), .val (.int (2 : Int32)), .val (.int t1)] [(.int (5 : Int32)), (.int (2 : Int32))]) _
        refine stp (fun _ => XS.icmpNo X16.here hx rfl (hb hby d11_9) rfl (by decide)) ?_
        show Go p e below T16 (mkF m 12 #[.val (.ref t), .val (.int (0 : Int32)), .val (.int (2 : Int32)), .val (.int t1)] []) _
        refine stp (fun _ => XS.aloadN X16.here hx rfl (hb hby d11_12) rfl rfl) ?_
        show Go p e below T16 (mkF m 13 #[.val (.ref t), .val (.int (0 : Int32)), .val (.int (2 : Int32)), .val (.int t1)] [(.ref t)]) _
        refine stp (fun _ => XS.iloadN X16.here hx rfl (hb hby d11_13) rfl) ?_
        show Go p e below T16 (mkF m 14 #[.val (.ref t), .val (.int (0 : Int32)), .val (.int (2 : Int32)), .val (.int t1)] [(.int (2 : Int32)), (.ref t)]) _
        obtain ⟨cq17, kq17, q17a, q17b, q17c⟩ := isOf hZ e16 Q_t.exa
        obtain ⟨_, _, ⟨T17, L17, k17, n17⟩, -, X17, ⟨Lc17, hQ17, l17, y17, z17⟩, st17⟩ := X16.virtualBack hx (y := (⟨"java/lang/String", "charAt", "(I)C"⟩ : MethodName)) (z := (⟨"java/lang/String", "charAt", "(I)C"⟩ : MethodName)) hown (mvT hZ (hw _ (List.mem_of_getElem? (i := 58) rfl))) (mvT hZ (hw _ (List.mem_of_getElem? (i := 59) rfl))) (notFace_of_selects (args := #[]) (mvT hZ (hw _ (List.mem_of_getElem? (i := 61) rfl)))) (mvT hZ (hw _ (List.mem_of_getElem? (i := 61) rfl))) (mvT hZ (hw _ (List.mem_of_getElem? (i := 60) rfl))) (by decide) (backOf (W := 0) (rm_uch l Z a0 hw [] t (2 : Int32) ([t0, t1, t2, t3, t4] : List Int32) cz fm 2 h0 n0 O0 Q_t S_COMPACT_STRINGS S_SIOOBE_FORMATTER S__assertionsDisabled S_HI_BYTE_SHIFT S_LO_BYTE_SHIFT hcz hfm (by decide) (Nat.le_of_ble_eq_true rfl)) hZ (hw _ (List.mem_of_getElem? (i := 62) rfl)) (hw _ (List.mem_of_getElem? (i := 17) rfl)) (by decide) (by decide)) q17a q17c (g := (mkF m 14 #[.val (.ref t), .val (.int (0 : Int32)), .val (.int (2 : Int32)), .val (.int t1)] [(.int (2 : Int32)), (.ref t)])) rfl (by rw [hml]; rfl) (Steps.refl _) (argsL := [(.int (2 : Int32))]) (rest := []) (lenOf pd_16 rfl) rfl (by show 2 * 0 + _ ≤ _; exact Nat.le_of_eq rfl) (hb hby d11_14) (fun _ _ => ⟨rfl, e16, (by decide : 0 + 0 ≤ _), (by decide : 0 + 0 ≤ _)⟩)
        dsimp only [Pt.U, Pt.locs, Pt.cells, Pt.slots] at X17 l17 y17 z17 st17 hQ17
        subst y17 z17
        obtain ⟨rfl, N17q, e17⟩ := hQ17
        have N17 : Fr n0 L17 := by rw [l17]; exact Fr.app N16 N17q
        refine stt st17 ?_
        show Go p e below T17 (mkF m 17 #[.val (.ref t), .val (.int (0 : Int32)), .val (.int (2 : Int32)), .val (.int t1)] [(.int t2)]) _
        refine stp (fun _ => XS.istoreN X17.here hx rfl (hb hby d11_17) rfl (l' := #[.val (.ref t), .val (.int (0 : Int32)), .val (.int (2 : Int32)), .val (.int t2)]) rfl) ?_
        show Go p e below T17 (mkF m 18 #[.val (.ref t), .val (.int (0 : Int32)), .val (.int (2 : Int32)), .val (.int t2)] []) _
        refine stp (fun _ => XS.iloadN X17.here hx rfl (hb hby d11_18) rfl) ?_
        show Go p e below T17 (mkF m 19 #[.val (.ref t), .val (.int (0 : Int32)), .val (.int (2 : Int32)), .val (.int t2)] [(.int t2)]) _
        refine stp (fun _ => XS.bipush X17.here hx rfl (hb hby d11_19)) ?_
        show Go p e below T17 (mkF m 21 #[.val (.ref t), .val (.int (0 : Int32)), .val (.int (2 : Int32)), .val (.int t2)] [(.int (34 : Int32)), (.int t2)]) _
        by_cases q21_18 : t2 = (34 : Int32)
        · refine stp (fun _ => XS.icmpNo X17.here hx rfl (hb hby d11_21) rfl (XT.ii_ne_f q21_18)) ?_
          show Go p e below T17 (mkF m 24 #[.val (.ref t), .val (.int (0 : Int32)), .val (.int (2 : Int32)), .val (.int t2)] []) _
          refine stp (fun _ => XS.iloadN X17.here hx rfl (hb hby d11_24) rfl) ?_
          show Go p e below T17 (mkF m 25 #[.val (.ref t), .val (.int (0 : Int32)), .val (.int (2 : Int32)), .val (.int t2)] [(.int (2 : Int32))]) _
          refine stp (fun _ => XS.iconst X17.here hx rfl (hb hby d11_25)) ?_
          show Go p e below T17 (mkF m 26 #[.val (.ref t), .val (.int (0 : Int32)), .val (.int (2 : Int32)), .val (.int t2)] [(.int (1 : Int32)), (.int (2 : Int32))]) _
          refine stp (fun _ => XS.iadd X17.here hx rfl (hb hby d11_26) rfl) ?_
          show Go p e below T17 (mkF m 27 #[.val (.ref t), .val (.int (0 : Int32)), .val (.int (2 : Int32)), .val (.int t2)] [(.int (3 : Int32))]) _
          refine outI X17 hx hret (hb hby d11_27) hlk (by decide) (by decide) ?_
          exact ⟨own_somei (by rw [own_e_0]; simp only [own_e1, own_e2, own_e3, own_e4, if_neg q21_3, if_neg q32_4, if_pos q21_18]), N17, e17⟩
        · refine stp (fun _ => XS.icmpYes X17.here hx rfl (pc0 := 21) (pc' := 28) rfl (hb hby d11_21) rfl (XT.ii_ne_t q21_18) (by decide) (by decide)) ?_
          show Go p e below T17 (mkF m 28 #[.val (.ref t), .val (.int (0 : Int32)), .val (.int (2 : Int32)), .val (.int t2)] []) _
          refine stp (fun _ => XS.iloadN X17.here hx rfl (hb hby d11_28) rfl) ?_
          show Go p e below T17 (mkF m 29 #[.val (.ref t), .val (.int (0 : Int32)), .val (.int (2 : Int32)), .val (.int t2)] [(.int (2 : Int32))]) _
          refine stp (fun _ => XS.iloadN X17.here hx rfl (hb hby d11_29) rfl) ?_
          show Go p e below T17 (mkF m 30 #[.val (.ref t), .val (.int (0 : Int32)), .val (.int (2 : Int32)), .val (.int t2)] [(.int t2), (.int (2 : Int32))]) _
          refine stp (fun _ => XS.bipush X17.here hx rfl (hb hby d11_30)) ?_
          show Go p e below T17 (mkF m 32 #[.val (.ref t), .val (.int (0 : Int32)), .val (.int (2 : Int32)), .val (.int t2)] [(.int (92 : Int32)), (.int t2), (.int (2 : Int32))]) _
          by_cases q32_19 : t2 = (92 : Int32)
          · refine stp (fun _ => XS.icmpNo X17.here hx rfl (hb hby d11_32) rfl (XT.ii_ne_f q32_19)) ?_
            show Go p e below T17 (mkF m 35 #[.val (.ref t), .val (.int (0 : Int32)), .val (.int (2 : Int32)), .val (.int t2)] [(.int (2 : Int32))]) _
            refine stp (fun _ => XS.iconst X17.here hx rfl (hb hby d11_35)) ?_
            show Go p e below T17 (mkF m 36 #[.val (.ref t), .val (.int (0 : Int32)), .val (.int (2 : Int32)), .val (.int t2)] [(.int (2 : Int32)), (.int (2 : Int32))]) _
            refine stp (fun _ => XS.goto X17.here hx rfl (pc0 := 36) (pc' := 40) rfl (hb hby d11_36) (by decide) (by decide)) ?_
            show Go p e below T17 (mkF m 40 #[.val (.ref t), .val (.int (0 : Int32)), .val (.int (2 : Int32)), .val (.int t2)] [(.int (2 : Int32)), (.int (2 : Int32))]) _
            refine stp (fun _ => XS.iadd X17.here hx rfl (hb hby d11_40) rfl) ?_
            show Go p e below T17 (mkF m 41 #[.val (.ref t), .val (.int (0 : Int32)), .val (.int (2 : Int32)), .val (.int t2)] [(.int (4 : Int32))]) _
            refine stp (fun _ => XS.istoreN X17.here hx rfl (hb hby d11_41) rfl (l' := #[.val (.ref t), .val (.int (0 : Int32)), .val (.int (4 : Int32)), .val (.int t2)]) rfl) ?_
            show Go p e below T17 (mkF m 42 #[.val (.ref t), .val (.int (0 : Int32)), .val (.int (4 : Int32)), .val (.int t2)] []) _
            refine stp (fun _ => XS.goto X17.here hx rfl (pc0 := 42) (pc' := 4) rfl (hb hby d11_42) (by decide) (by decide)) ?_
            show Go p e below T17 (mkF m 4 #[.val (.ref t), .val (.int (0 : Int32)), .val (.int (4 : Int32)), .val (.int t2)] []) _
            refine stp (fun _ => XS.iloadN X17.here hx rfl (hb hby d11_4) rfl) ?_
            show Go p e below T17 (mkF m 5 #[.val (.ref t), .val (.int (0 : Int32)), .val (.int (4 : Int32)), .val (.int t2)] [(.int (4 : Int32))]) _
            refine stp (fun _ => XS.aloadN X17.here hx rfl (hb hby d11_5) rfl rfl) ?_
            show Go p e below T17 (mkF m 6 #[.val (.ref t), .val (.int (0 : Int32)), .val (.int (4 : Int32)), .val (.int t2)] [(.ref t), (.int (4 : Int32))]) _
            obtain ⟨cq20, kq20, q20a, q20b, q20c⟩ := isOf hZ e17 Q_t.exa
            obtain ⟨_, _, ⟨T20, L20, k20, n20⟩, -, X20, ⟨Lc20, hQ20, l20, y20, z20⟩, st20⟩ := X17.virtualBack hx (y := (⟨"java/lang/String", "length", "()I"⟩ : MethodName)) (z := (⟨"java/lang/String", "length", "()I"⟩ : MethodName)) hown (mvT hZ (hw _ (List.mem_of_getElem? (i := 48) rfl))) (mvT hZ (hw _ (List.mem_of_getElem? (i := 49) rfl))) (notFace_of_selects (args := #[]) (mvT hZ (hw _ (List.mem_of_getElem? (i := 51) rfl)))) (mvT hZ (hw _ (List.mem_of_getElem? (i := 51) rfl))) (mvT hZ (hw _ (List.mem_of_getElem? (i := 50) rfl))) (by decide) (backOf (W := 1) (rm_ulen l Z a0 hw [] t ([t0, t1, t2, t3, t4] : List Int32) cz h0 n0 O0 Q_t S_COMPACT_STRINGS hcz) hZ (hw _ (List.mem_of_getElem? (i := 52) rfl)) (hw _ (List.mem_of_getElem? (i := 17) rfl)) (by decide) (by decide)) q20a q20c (g := (mkF m 6 #[.val (.ref t), .val (.int (0 : Int32)), .val (.int (4 : Int32)), .val (.int t2)] [(.ref t), (.int (4 : Int32))])) rfl (by rw [hml]; rfl) (Steps.refl _) (argsL := []) (rest := [(.int (4 : Int32))]) (lenOf pd_15 rfl) rfl (by show 2 * 0 + _ ≤ _; exact Nat.le_of_eq rfl) (hb hby d11_6) (fun _ _ => ⟨rfl, e17, (by decide : 0 + 0 ≤ _), (by decide : 0 + 0 ≤ _)⟩)
            dsimp only [Pt.U, Pt.locs, Pt.cells, Pt.slots] at X20 l20 y20 z20 st20 hQ20
            subst y20 z20
            obtain ⟨rfl, N20q, e20⟩ := hQ20
            have N20 : Fr n0 L20 := by rw [l20]; exact Fr.app N17 N20q
            refine stt st20 ?_
            show Go p e below T20 (mkF m 9 #[.val (.ref t), .val (.int (0 : Int32)), .val (.int (4 : Int32)), .val (.int t2)] [(.int (5 : Int32)), (.int (4 : Int32))]) _
            refine stp (fun _ => XS.icmpNo X20.here hx rfl (hb hby d11_9) rfl (by decide)) ?_
            show Go p e below T20 (mkF m 12 #[.val (.ref t), .val (.int (0 : Int32)), .val (.int (4 : Int32)), .val (.int t2)] []) _
            refine stp (fun _ => XS.aloadN X20.here hx rfl (hb hby d11_12) rfl rfl) ?_
            show Go p e below T20 (mkF m 13 #[.val (.ref t), .val (.int (0 : Int32)), .val (.int (4 : Int32)), .val (.int t2)] [(.ref t)]) _
            refine stp (fun _ => XS.iloadN X20.here hx rfl (hb hby d11_13) rfl) ?_
            show Go p e below T20 (mkF m 14 #[.val (.ref t), .val (.int (0 : Int32)), .val (.int (4 : Int32)), .val (.int t2)] [(.int (4 : Int32)), (.ref t)]) _
            obtain ⟨cq21, kq21, q21a, q21b, q21c⟩ := isOf hZ e20 Q_t.exa
            obtain ⟨_, _, ⟨T21, L21, k21, n21⟩, -, X21, ⟨Lc21, hQ21, l21, y21, z21⟩, st21⟩ := X20.virtualBack hx (y := (⟨"java/lang/String", "charAt", "(I)C"⟩ : MethodName)) (z := (⟨"java/lang/String", "charAt", "(I)C"⟩ : MethodName)) hown (mvT hZ (hw _ (List.mem_of_getElem? (i := 58) rfl))) (mvT hZ (hw _ (List.mem_of_getElem? (i := 59) rfl))) (notFace_of_selects (args := #[]) (mvT hZ (hw _ (List.mem_of_getElem? (i := 61) rfl)))) (mvT hZ (hw _ (List.mem_of_getElem? (i := 61) rfl))) (mvT hZ (hw _ (List.mem_of_getElem? (i := 60) rfl))) (by decide) (backOf (W := 0) (rm_uch l Z a0 hw [] t (4 : Int32) ([t0, t1, t2, t3, t4] : List Int32) cz fm 4 h0 n0 O0 Q_t S_COMPACT_STRINGS S_SIOOBE_FORMATTER S__assertionsDisabled S_HI_BYTE_SHIFT S_LO_BYTE_SHIFT hcz hfm (by decide) (Nat.le_of_ble_eq_true rfl)) hZ (hw _ (List.mem_of_getElem? (i := 62) rfl)) (hw _ (List.mem_of_getElem? (i := 17) rfl)) (by decide) (by decide)) q21a q21c (g := (mkF m 14 #[.val (.ref t), .val (.int (0 : Int32)), .val (.int (4 : Int32)), .val (.int t2)] [(.int (4 : Int32)), (.ref t)])) rfl (by rw [hml]; rfl) (Steps.refl _) (argsL := [(.int (4 : Int32))]) (rest := []) (lenOf pd_16 rfl) rfl (by show 2 * 0 + _ ≤ _; exact Nat.le_of_eq rfl) (hb hby d11_14) (fun _ _ => ⟨rfl, e20, (by decide : 0 + 0 ≤ _), (by decide : 0 + 0 ≤ _)⟩)
            dsimp only [Pt.U, Pt.locs, Pt.cells, Pt.slots] at X21 l21 y21 z21 st21 hQ21
            subst y21 z21
            obtain ⟨rfl, N21q, e21⟩ := hQ21
            have N21 : Fr n0 L21 := by rw [l21]; exact Fr.app N20 N21q
            refine stt st21 ?_
            show Go p e below T21 (mkF m 17 #[.val (.ref t), .val (.int (0 : Int32)), .val (.int (4 : Int32)), .val (.int t2)] [(.int t4)]) _
            refine stp (fun _ => XS.istoreN X21.here hx rfl (hb hby d11_17) rfl (l' := #[.val (.ref t), .val (.int (0 : Int32)), .val (.int (4 : Int32)), .val (.int t4)]) rfl) ?_
            show Go p e below T21 (mkF m 18 #[.val (.ref t), .val (.int (0 : Int32)), .val (.int (4 : Int32)), .val (.int t4)] []) _
            refine stp (fun _ => XS.iloadN X21.here hx rfl (hb hby d11_18) rfl) ?_
            show Go p e below T21 (mkF m 19 #[.val (.ref t), .val (.int (0 : Int32)), .val (.int (4 : Int32)), .val (.int t4)] [(.int t4)]) _
            refine stp (fun _ => XS.bipush X21.here hx rfl (hb hby d11_19)) ?_
            show Go p e below T21 (mkF m 21 #[.val (.ref t), .val (.int (0 : Int32)), .val (.int (4 : Int32)), .val (.int t4)] [(.int (34 : Int32)), (.int t4)]) _
            by_cases q21_22 : t4 = (34 : Int32)
            · refine stp (fun _ => XS.icmpNo X21.here hx rfl (hb hby d11_21) rfl (XT.ii_ne_f q21_22)) ?_
              show Go p e below T21 (mkF m 24 #[.val (.ref t), .val (.int (0 : Int32)), .val (.int (4 : Int32)), .val (.int t4)] []) _
              refine stp (fun _ => XS.iloadN X21.here hx rfl (hb hby d11_24) rfl) ?_
              show Go p e below T21 (mkF m 25 #[.val (.ref t), .val (.int (0 : Int32)), .val (.int (4 : Int32)), .val (.int t4)] [(.int (4 : Int32))]) _
              refine stp (fun _ => XS.iconst X21.here hx rfl (hb hby d11_25)) ?_
              show Go p e below T21 (mkF m 26 #[.val (.ref t), .val (.int (0 : Int32)), .val (.int (4 : Int32)), .val (.int t4)] [(.int (1 : Int32)), (.int (4 : Int32))]) _
              refine stp (fun _ => XS.iadd X21.here hx rfl (hb hby d11_26) rfl) ?_
              show Go p e below T21 (mkF m 27 #[.val (.ref t), .val (.int (0 : Int32)), .val (.int (4 : Int32)), .val (.int t4)] [(.int (5 : Int32))]) _
              refine outI X21 hx hret (hb hby d11_27) hlk (by decide) (by decide) ?_
              exact ⟨own_somei (by rw [own_e_0]; simp only [own_e1, own_e2, own_e3, own_e4, if_neg q21_3, if_neg q32_4, if_neg q21_18, if_pos q32_19, if_pos q21_22]), N21, e21⟩
            · refine stp (fun _ => XS.icmpYes X21.here hx rfl (pc0 := 21) (pc' := 28) rfl (hb hby d11_21) rfl (XT.ii_ne_t q21_22) (by decide) (by decide)) ?_
              show Go p e below T21 (mkF m 28 #[.val (.ref t), .val (.int (0 : Int32)), .val (.int (4 : Int32)), .val (.int t4)] []) _
              refine stp (fun _ => XS.iloadN X21.here hx rfl (hb hby d11_28) rfl) ?_
              show Go p e below T21 (mkF m 29 #[.val (.ref t), .val (.int (0 : Int32)), .val (.int (4 : Int32)), .val (.int t4)] [(.int (4 : Int32))]) _
              refine stp (fun _ => XS.iloadN X21.here hx rfl (hb hby d11_29) rfl) ?_
              show Go p e below T21 (mkF m 30 #[.val (.ref t), .val (.int (0 : Int32)), .val (.int (4 : Int32)), .val (.int t4)] [(.int t4), (.int (4 : Int32))]) _
              refine stp (fun _ => XS.bipush X21.here hx rfl (hb hby d11_30)) ?_
              show Go p e below T21 (mkF m 32 #[.val (.ref t), .val (.int (0 : Int32)), .val (.int (4 : Int32)), .val (.int t4)] [(.int (92 : Int32)), (.int t4), (.int (4 : Int32))]) _
              by_cases q32_23 : t4 = (92 : Int32)
              · refine stp (fun _ => XS.icmpNo X21.here hx rfl (hb hby d11_32) rfl (XT.ii_ne_f q32_23)) ?_
                show Go p e below T21 (mkF m 35 #[.val (.ref t), .val (.int (0 : Int32)), .val (.int (4 : Int32)), .val (.int t4)] [(.int (4 : Int32))]) _
                refine stp (fun _ => XS.iconst X21.here hx rfl (hb hby d11_35)) ?_
                show Go p e below T21 (mkF m 36 #[.val (.ref t), .val (.int (0 : Int32)), .val (.int (4 : Int32)), .val (.int t4)] [(.int (2 : Int32)), (.int (4 : Int32))]) _
                refine stp (fun _ => XS.goto X21.here hx rfl (pc0 := 36) (pc' := 40) rfl (hb hby d11_36) (by decide) (by decide)) ?_
                show Go p e below T21 (mkF m 40 #[.val (.ref t), .val (.int (0 : Int32)), .val (.int (4 : Int32)), .val (.int t4)] [(.int (2 : Int32)), (.int (4 : Int32))]) _
                refine stp (fun _ => XS.iadd X21.here hx rfl (hb hby d11_40) rfl) ?_
                show Go p e below T21 (mkF m 41 #[.val (.ref t), .val (.int (0 : Int32)), .val (.int (4 : Int32)), .val (.int t4)] [(.int (6 : Int32))]) _
                refine stp (fun _ => XS.istoreN X21.here hx rfl (hb hby d11_41) rfl (l' := #[.val (.ref t), .val (.int (0 : Int32)), .val (.int (6 : Int32)), .val (.int t4)]) rfl) ?_
                show Go p e below T21 (mkF m 42 #[.val (.ref t), .val (.int (0 : Int32)), .val (.int (6 : Int32)), .val (.int t4)] []) _
                refine stp (fun _ => XS.goto X21.here hx rfl (pc0 := 42) (pc' := 4) rfl (hb hby d11_42) (by decide) (by decide)) ?_
                show Go p e below T21 (mkF m 4 #[.val (.ref t), .val (.int (0 : Int32)), .val (.int (6 : Int32)), .val (.int t4)] []) _
                refine stp (fun _ => XS.iloadN X21.here hx rfl (hb hby d11_4) rfl) ?_
                show Go p e below T21 (mkF m 5 #[.val (.ref t), .val (.int (0 : Int32)), .val (.int (6 : Int32)), .val (.int t4)] [(.int (6 : Int32))]) _
                refine stp (fun _ => XS.aloadN X21.here hx rfl (hb hby d11_5) rfl rfl) ?_
                show Go p e below T21 (mkF m 6 #[.val (.ref t), .val (.int (0 : Int32)), .val (.int (6 : Int32)), .val (.int t4)] [(.ref t), (.int (6 : Int32))]) _
                obtain ⟨cq24, kq24, q24a, q24b, q24c⟩ := isOf hZ e21 Q_t.exa
                obtain ⟨_, _, ⟨T24, L24, k24, n24⟩, -, X24, ⟨Lc24, hQ24, l24, y24, z24⟩, st24⟩ := X21.virtualBack hx (y := (⟨"java/lang/String", "length", "()I"⟩ : MethodName)) (z := (⟨"java/lang/String", "length", "()I"⟩ : MethodName)) hown (mvT hZ (hw _ (List.mem_of_getElem? (i := 48) rfl))) (mvT hZ (hw _ (List.mem_of_getElem? (i := 49) rfl))) (notFace_of_selects (args := #[]) (mvT hZ (hw _ (List.mem_of_getElem? (i := 51) rfl)))) (mvT hZ (hw _ (List.mem_of_getElem? (i := 51) rfl))) (mvT hZ (hw _ (List.mem_of_getElem? (i := 50) rfl))) (by decide) (backOf (W := 1) (rm_ulen l Z a0 hw [] t ([t0, t1, t2, t3, t4] : List Int32) cz h0 n0 O0 Q_t S_COMPACT_STRINGS hcz) hZ (hw _ (List.mem_of_getElem? (i := 52) rfl)) (hw _ (List.mem_of_getElem? (i := 17) rfl)) (by decide) (by decide)) q24a q24c (g := (mkF m 6 #[.val (.ref t), .val (.int (0 : Int32)), .val (.int (6 : Int32)), .val (.int t4)] [(.ref t), (.int (6 : Int32))])) rfl (by rw [hml]; rfl) (Steps.refl _) (argsL := []) (rest := [(.int (6 : Int32))]) (lenOf pd_15 rfl) rfl (by show 2 * 0 + _ ≤ _; exact Nat.le_of_eq rfl) (hb hby d11_6) (fun _ _ => ⟨rfl, e21, (by decide : 0 + 0 ≤ _), (by decide : 0 + 0 ≤ _)⟩)
                dsimp only [Pt.U, Pt.locs, Pt.cells, Pt.slots] at X24 l24 y24 z24 st24 hQ24
                subst y24 z24
                obtain ⟨rfl, N24q, e24⟩ := hQ24
                have N24 : Fr n0 L24 := by rw [l24]; exact Fr.app N21 N24q
                refine stt st24 ?_
                show Go p e below T24 (mkF m 9 #[.val (.ref t), .val (.int (0 : Int32)), .val (.int (6 : Int32)), .val (.int t4)] [(.int (5 : Int32)), (.int (6 : Int32))]) _
                refine stp (fun _ => XS.icmpYes X24.here hx rfl (pc0 := 9) (pc' := 45) rfl (hb hby d11_9) rfl (by decide) (by decide) (by decide)) ?_
                show Go p e below T24 (mkF m 45 #[.val (.ref t), .val (.int (0 : Int32)), .val (.int (6 : Int32)), .val (.int t4)] []) _
                refine stp (fun _ => XS.iconst X24.here hx rfl (hb hby d11_45)) ?_
                show Go p e below T24 (mkF m 46 #[.val (.ref t), .val (.int (0 : Int32)), .val (.int (6 : Int32)), .val (.int t4)] [(.int (-1 : Int32))]) _
                refine outI X24 hx hret (hb hby d11_46) hlk (by decide) (by decide) ?_
                exact ⟨own_somei (by rw [own_e_0]; simp only [own_e1, own_e2, own_e3, own_e4, if_neg q21_3, if_neg q32_4, if_neg q21_18, if_pos q32_19, if_neg q21_22, if_pos q32_23]), N24, e24⟩
              · refine stp (fun _ => XS.icmpYes X21.here hx rfl (pc0 := 32) (pc' := 39) rfl (hb hby d11_32) rfl (XT.ii_ne_t q32_23) (by decide) (by decide)) ?_
                show Go p e below T21 (mkF m 39 #[.val (.ref t), .val (.int (0 : Int32)), .val (.int (4 : Int32)), .val (.int t4)] [(.int (4 : Int32))]) _
                refine stp (fun _ => XS.iconst X21.here hx rfl (hb hby d11_39)) ?_
                show Go p e below T21 (mkF m 40 #[.val (.ref t), .val (.int (0 : Int32)), .val (.int (4 : Int32)), .val (.int t4)] [(.int (1 : Int32)), (.int (4 : Int32))]) _
                refine stp (fun _ => XS.iadd X21.here hx rfl (hb hby d11_40) rfl) ?_
                show Go p e below T21 (mkF m 41 #[.val (.ref t), .val (.int (0 : Int32)), .val (.int (4 : Int32)), .val (.int t4)] [(.int (5 : Int32))]) _
                refine stp (fun _ => XS.istoreN X21.here hx rfl (hb hby d11_41) rfl (l' := #[.val (.ref t), .val (.int (0 : Int32)), .val (.int (5 : Int32)), .val (.int t4)]) rfl) ?_
                show Go p e below T21 (mkF m 42 #[.val (.ref t), .val (.int (0 : Int32)), .val (.int (5 : Int32)), .val (.int t4)] []) _
                refine stp (fun _ => XS.goto X21.here hx rfl (pc0 := 42) (pc' := 4) rfl (hb hby d11_42) (by decide) (by decide)) ?_
                show Go p e below T21 (mkF m 4 #[.val (.ref t), .val (.int (0 : Int32)), .val (.int (5 : Int32)), .val (.int t4)] []) _
                refine stp (fun _ => XS.iloadN X21.here hx rfl (hb hby d11_4) rfl) ?_
                show Go p e below T21 (mkF m 5 #[.val (.ref t), .val (.int (0 : Int32)), .val (.int (5 : Int32)), .val (.int t4)] [(.int (5 : Int32))]) _
                refine stp (fun _ => XS.aloadN X21.here hx rfl (hb hby d11_5) rfl rfl) ?_
                show Go p e below T21 (mkF m 6 #[.val (.ref t), .val (.int (0 : Int32)), .val (.int (5 : Int32)), .val (.int t4)] [(.ref t), (.int (5 : Int32))]) _
                obtain ⟨cq25, kq25, q25a, q25b, q25c⟩ := isOf hZ e21 Q_t.exa
                obtain ⟨_, _, ⟨T25, L25, k25, n25⟩, -, X25, ⟨Lc25, hQ25, l25, y25, z25⟩, st25⟩ := X21.virtualBack hx (y := (⟨"java/lang/String", "length", "()I"⟩ : MethodName)) (z := (⟨"java/lang/String", "length", "()I"⟩ : MethodName)) hown (mvT hZ (hw _ (List.mem_of_getElem? (i := 48) rfl))) (mvT hZ (hw _ (List.mem_of_getElem? (i := 49) rfl))) (notFace_of_selects (args := #[]) (mvT hZ (hw _ (List.mem_of_getElem? (i := 51) rfl)))) (mvT hZ (hw _ (List.mem_of_getElem? (i := 51) rfl))) (mvT hZ (hw _ (List.mem_of_getElem? (i := 50) rfl))) (by decide) (backOf (W := 1) (rm_ulen l Z a0 hw [] t ([t0, t1, t2, t3, t4] : List Int32) cz h0 n0 O0 Q_t S_COMPACT_STRINGS hcz) hZ (hw _ (List.mem_of_getElem? (i := 52) rfl)) (hw _ (List.mem_of_getElem? (i := 17) rfl)) (by decide) (by decide)) q25a q25c (g := (mkF m 6 #[.val (.ref t), .val (.int (0 : Int32)), .val (.int (5 : Int32)), .val (.int t4)] [(.ref t), (.int (5 : Int32))])) rfl (by rw [hml]; rfl) (Steps.refl _) (argsL := []) (rest := [(.int (5 : Int32))]) (lenOf pd_15 rfl) rfl (by show 2 * 0 + _ ≤ _; exact Nat.le_of_eq rfl) (hb hby d11_6) (fun _ _ => ⟨rfl, e21, (by decide : 0 + 0 ≤ _), (by decide : 0 + 0 ≤ _)⟩)
                dsimp only [Pt.U, Pt.locs, Pt.cells, Pt.slots] at X25 l25 y25 z25 st25 hQ25
                subst y25 z25
                obtain ⟨rfl, N25q, e25⟩ := hQ25
                have N25 : Fr n0 L25 := by rw [l25]; exact Fr.app N21 N25q
                refine stt st25 ?_
                show Go p e below T25 (mkF m 9 #[.val (.ref t), .val (.int (0 : Int32)), .val (.int (5 : Int32)), .val (.int t4)] [(.int (5 : Int32)), (.int (5 : Int32))]) _
                refine stp (fun _ => XS.icmpYes X25.here hx rfl (pc0 := 9) (pc' := 45) rfl (hb hby d11_9) rfl (by decide) (by decide) (by decide)) ?_
                show Go p e below T25 (mkF m 45 #[.val (.ref t), .val (.int (0 : Int32)), .val (.int (5 : Int32)), .val (.int t4)] []) _
                refine stp (fun _ => XS.iconst X25.here hx rfl (hb hby d11_45)) ?_
                show Go p e below T25 (mkF m 46 #[.val (.ref t), .val (.int (0 : Int32)), .val (.int (5 : Int32)), .val (.int t4)] [(.int (-1 : Int32))]) _
                refine outI X25 hx hret (hb hby d11_46) hlk (by decide) (by decide) ?_
                exact ⟨own_somei (by rw [own_e_0]; simp only [own_e1, own_e2, own_e3, own_e4, if_neg q21_3, if_neg q32_4, if_neg q21_18, if_pos q32_19, if_neg q21_22, if_neg q32_23]), N25, e25⟩
          · refine stp (fun _ => XS.icmpYes X17.here hx rfl (pc0 := 32) (pc' := 39) rfl (hb hby d11_32) rfl (XT.ii_ne_t q32_19) (by decide) (by decide)) ?_
            show Go p e below T17 (mkF m 39 #[.val (.ref t), .val (.int (0 : Int32)), .val (.int (2 : Int32)), .val (.int t2)] [(.int (2 : Int32))]) _
            refine stp (fun _ => XS.iconst X17.here hx rfl (hb hby d11_39)) ?_
            show Go p e below T17 (mkF m 40 #[.val (.ref t), .val (.int (0 : Int32)), .val (.int (2 : Int32)), .val (.int t2)] [(.int (1 : Int32)), (.int (2 : Int32))]) _
            refine stp (fun _ => XS.iadd X17.here hx rfl (hb hby d11_40) rfl) ?_
            show Go p e below T17 (mkF m 41 #[.val (.ref t), .val (.int (0 : Int32)), .val (.int (2 : Int32)), .val (.int t2)] [(.int (3 : Int32))]) _
            refine stp (fun _ => XS.istoreN X17.here hx rfl (hb hby d11_41) rfl (l' := #[.val (.ref t), .val (.int (0 : Int32)), .val (.int (3 : Int32)), .val (.int t2)]) rfl) ?_
            show Go p e below T17 (mkF m 42 #[.val (.ref t), .val (.int (0 : Int32)), .val (.int (3 : Int32)), .val (.int t2)] []) _
            refine stp (fun _ => XS.goto X17.here hx rfl (pc0 := 42) (pc' := 4) rfl (hb hby d11_42) (by decide) (by decide)) ?_
            show Go p e below T17 (mkF m 4 #[.val (.ref t), .val (.int (0 : Int32)), .val (.int (3 : Int32)), .val (.int t2)] []) _
            refine stp (fun _ => XS.iloadN X17.here hx rfl (hb hby d11_4) rfl) ?_
            show Go p e below T17 (mkF m 5 #[.val (.ref t), .val (.int (0 : Int32)), .val (.int (3 : Int32)), .val (.int t2)] [(.int (3 : Int32))]) _
            refine stp (fun _ => XS.aloadN X17.here hx rfl (hb hby d11_5) rfl rfl) ?_
            show Go p e below T17 (mkF m 6 #[.val (.ref t), .val (.int (0 : Int32)), .val (.int (3 : Int32)), .val (.int t2)] [(.ref t), (.int (3 : Int32))]) _
            obtain ⟨cq26, kq26, q26a, q26b, q26c⟩ := isOf hZ e17 Q_t.exa
            obtain ⟨_, _, ⟨T26, L26, k26, n26⟩, -, X26, ⟨Lc26, hQ26, l26, y26, z26⟩, st26⟩ := X17.virtualBack hx (y := (⟨"java/lang/String", "length", "()I"⟩ : MethodName)) (z := (⟨"java/lang/String", "length", "()I"⟩ : MethodName)) hown (mvT hZ (hw _ (List.mem_of_getElem? (i := 48) rfl))) (mvT hZ (hw _ (List.mem_of_getElem? (i := 49) rfl))) (notFace_of_selects (args := #[]) (mvT hZ (hw _ (List.mem_of_getElem? (i := 51) rfl)))) (mvT hZ (hw _ (List.mem_of_getElem? (i := 51) rfl))) (mvT hZ (hw _ (List.mem_of_getElem? (i := 50) rfl))) (by decide) (backOf (W := 1) (rm_ulen l Z a0 hw [] t ([t0, t1, t2, t3, t4] : List Int32) cz h0 n0 O0 Q_t S_COMPACT_STRINGS hcz) hZ (hw _ (List.mem_of_getElem? (i := 52) rfl)) (hw _ (List.mem_of_getElem? (i := 17) rfl)) (by decide) (by decide)) q26a q26c (g := (mkF m 6 #[.val (.ref t), .val (.int (0 : Int32)), .val (.int (3 : Int32)), .val (.int t2)] [(.ref t), (.int (3 : Int32))])) rfl (by rw [hml]; rfl) (Steps.refl _) (argsL := []) (rest := [(.int (3 : Int32))]) (lenOf pd_15 rfl) rfl (by show 2 * 0 + _ ≤ _; exact Nat.le_of_eq rfl) (hb hby d11_6) (fun _ _ => ⟨rfl, e17, (by decide : 0 + 0 ≤ _), (by decide : 0 + 0 ≤ _)⟩)
            dsimp only [Pt.U, Pt.locs, Pt.cells, Pt.slots] at X26 l26 y26 z26 st26 hQ26
            subst y26 z26
            obtain ⟨rfl, N26q, e26⟩ := hQ26
            have N26 : Fr n0 L26 := by rw [l26]; exact Fr.app N17 N26q
            refine stt st26 ?_
            show Go p e below T26 (mkF m 9 #[.val (.ref t), .val (.int (0 : Int32)), .val (.int (3 : Int32)), .val (.int t2)] [(.int (5 : Int32)), (.int (3 : Int32))]) _
            refine stp (fun _ => XS.icmpNo X26.here hx rfl (hb hby d11_9) rfl (by decide)) ?_
            show Go p e below T26 (mkF m 12 #[.val (.ref t), .val (.int (0 : Int32)), .val (.int (3 : Int32)), .val (.int t2)] []) _
            refine stp (fun _ => XS.aloadN X26.here hx rfl (hb hby d11_12) rfl rfl) ?_
            show Go p e below T26 (mkF m 13 #[.val (.ref t), .val (.int (0 : Int32)), .val (.int (3 : Int32)), .val (.int t2)] [(.ref t)]) _
            refine stp (fun _ => XS.iloadN X26.here hx rfl (hb hby d11_13) rfl) ?_
            show Go p e below T26 (mkF m 14 #[.val (.ref t), .val (.int (0 : Int32)), .val (.int (3 : Int32)), .val (.int t2)] [(.int (3 : Int32)), (.ref t)]) _
            obtain ⟨cq27, kq27, q27a, q27b, q27c⟩ := isOf hZ e26 Q_t.exa
            obtain ⟨_, _, ⟨T27, L27, k27, n27⟩, -, X27, ⟨Lc27, hQ27, l27, y27, z27⟩, st27⟩ := X26.virtualBack hx (y := (⟨"java/lang/String", "charAt", "(I)C"⟩ : MethodName)) (z := (⟨"java/lang/String", "charAt", "(I)C"⟩ : MethodName)) hown (mvT hZ (hw _ (List.mem_of_getElem? (i := 58) rfl))) (mvT hZ (hw _ (List.mem_of_getElem? (i := 59) rfl))) (notFace_of_selects (args := #[]) (mvT hZ (hw _ (List.mem_of_getElem? (i := 61) rfl)))) (mvT hZ (hw _ (List.mem_of_getElem? (i := 61) rfl))) (mvT hZ (hw _ (List.mem_of_getElem? (i := 60) rfl))) (by decide) (backOf (W := 0) (rm_uch l Z a0 hw [] t (3 : Int32) ([t0, t1, t2, t3, t4] : List Int32) cz fm 3 h0 n0 O0 Q_t S_COMPACT_STRINGS S_SIOOBE_FORMATTER S__assertionsDisabled S_HI_BYTE_SHIFT S_LO_BYTE_SHIFT hcz hfm (by decide) (Nat.le_of_ble_eq_true rfl)) hZ (hw _ (List.mem_of_getElem? (i := 62) rfl)) (hw _ (List.mem_of_getElem? (i := 17) rfl)) (by decide) (by decide)) q27a q27c (g := (mkF m 14 #[.val (.ref t), .val (.int (0 : Int32)), .val (.int (3 : Int32)), .val (.int t2)] [(.int (3 : Int32)), (.ref t)])) rfl (by rw [hml]; rfl) (Steps.refl _) (argsL := [(.int (3 : Int32))]) (rest := []) (lenOf pd_16 rfl) rfl (by show 2 * 0 + _ ≤ _; exact Nat.le_of_eq rfl) (hb hby d11_14) (fun _ _ => ⟨rfl, e26, (by decide : 0 + 0 ≤ _), (by decide : 0 + 0 ≤ _)⟩)
            dsimp only [Pt.U, Pt.locs, Pt.cells, Pt.slots] at X27 l27 y27 z27 st27 hQ27
            subst y27 z27
            obtain ⟨rfl, N27q, e27⟩ := hQ27
            have N27 : Fr n0 L27 := by rw [l27]; exact Fr.app N26 N27q
            refine stt st27 ?_
            show Go p e below T27 (mkF m 17 #[.val (.ref t), .val (.int (0 : Int32)), .val (.int (3 : Int32)), .val (.int t2)] [(.int t3)]) _
            refine stp (fun _ => XS.istoreN X27.here hx rfl (hb hby d11_17) rfl (l' := #[.val (.ref t), .val (.int (0 : Int32)), .val (.int (3 : Int32)), .val (.int t3)]) rfl) ?_
            show Go p e below T27 (mkF m 18 #[.val (.ref t), .val (.int (0 : Int32)), .val (.int (3 : Int32)), .val (.int t3)] []) _
            refine stp (fun _ => XS.iloadN X27.here hx rfl (hb hby d11_18) rfl) ?_
            show Go p e below T27 (mkF m 19 #[.val (.ref t), .val (.int (0 : Int32)), .val (.int (3 : Int32)), .val (.int t3)] [(.int t3)]) _
            refine stp (fun _ => XS.bipush X27.here hx rfl (hb hby d11_19)) ?_
            show Go p e below T27 (mkF m 21 #[.val (.ref t), .val (.int (0 : Int32)), .val (.int (3 : Int32)), .val (.int t3)] [(.int (34 : Int32)), (.int t3)]) _
            by_cases q21_28 : t3 = (34 : Int32)
            · refine stp (fun _ => XS.icmpNo X27.here hx rfl (hb hby d11_21) rfl (XT.ii_ne_f q21_28)) ?_
              show Go p e below T27 (mkF m 24 #[.val (.ref t), .val (.int (0 : Int32)), .val (.int (3 : Int32)), .val (.int t3)] []) _
              refine stp (fun _ => XS.iloadN X27.here hx rfl (hb hby d11_24) rfl) ?_
              show Go p e below T27 (mkF m 25 #[.val (.ref t), .val (.int (0 : Int32)), .val (.int (3 : Int32)), .val (.int t3)] [(.int (3 : Int32))]) _
              refine stp (fun _ => XS.iconst X27.here hx rfl (hb hby d11_25)) ?_
              show Go p e below T27 (mkF m 26 #[.val (.ref t), .val (.int (0 : Int32)), .val (.int (3 : Int32)), .val (.int t3)] [(.int (1 : Int32)), (.int (3 : Int32))]) _
              refine stp (fun _ => XS.iadd X27.here hx rfl (hb hby d11_26) rfl) ?_
              show Go p e below T27 (mkF m 27 #[.val (.ref t), .val (.int (0 : Int32)), .val (.int (3 : Int32)), .val (.int t3)] [(.int (4 : Int32))]) _
              refine outI X27 hx hret (hb hby d11_27) hlk (by decide) (by decide) ?_
              exact ⟨own_somei (by rw [own_e_0]; simp only [own_e1, own_e2, own_e3, own_e4, if_neg q21_3, if_neg q32_4, if_neg q21_18, if_neg q32_19, if_pos q21_28]), N27, e27⟩
            · refine stp (fun _ => XS.icmpYes X27.here hx rfl (pc0 := 21) (pc' := 28) rfl (hb hby d11_21) rfl (XT.ii_ne_t q21_28) (by decide) (by decide)) ?_
              show Go p e below T27 (mkF m 28 #[.val (.ref t), .val (.int (0 : Int32)), .val (.int (3 : Int32)), .val (.int t3)] []) _
              refine stp (fun _ => XS.iloadN X27.here hx rfl (hb hby d11_28) rfl) ?_
              show Go p e below T27 (mkF m 29 #[.val (.ref t), .val (.int (0 : Int32)), .val (.int (3 : Int32)), .val (.int t3)] [(.int (3 : Int32))]) _
              refine stp (fun _ => XS.iloadN X27.here hx rfl (hb hby d11_29) rfl) ?_
              show Go p e below T27 (mkF m 30 #[.val (.ref t), .val (.int (0 : Int32)), .val (.int (3 : Int32)), .val (.int t3)] [(.int t3), (.int (3 : Int32))]) _
              refine stp (fun _ => XS.bipush X27.here hx rfl (hb hby d11_30)) ?_
              show Go p e below T27 (mkF m 32 #[.val (.ref t), .val (.int (0 : Int32)), .val (.int (3 : Int32)), .val (.int t3)] [(.int (92 : Int32)), (.int t3), (.int (3 : Int32))]) _
              by_cases q32_29 : t3 = (92 : Int32)
              · refine stp (fun _ => XS.icmpNo X27.here hx rfl (hb hby d11_32) rfl (XT.ii_ne_f q32_29)) ?_
                show Go p e below T27 (mkF m 35 #[.val (.ref t), .val (.int (0 : Int32)), .val (.int (3 : Int32)), .val (.int t3)] [(.int (3 : Int32))]) _
                refine stp (fun _ => XS.iconst X27.here hx rfl (hb hby d11_35)) ?_
                show Go p e below T27 (mkF m 36 #[.val (.ref t), .val (.int (0 : Int32)), .val (.int (3 : Int32)), .val (.int t3)] [(.int (2 : Int32)), (.int (3 : Int32))]) _
                refine stp (fun _ => XS.goto X27.here hx rfl (pc0 := 36) (pc' := 40) rfl (hb hby d11_36) (by decide) (by decide)) ?_
                show Go p e below T27 (mkF m 40 #[.val (.ref t), .val (.int (0 : Int32)), .val (.int (3 : Int32)), .val (.int t3)] [(.int (2 : Int32)), (.int (3 : Int32))]) _
                refine stp (fun _ => XS.iadd X27.here hx rfl (hb hby d11_40) rfl) ?_
                show Go p e below T27 (mkF m 41 #[.val (.ref t), .val (.int (0 : Int32)), .val (.int (3 : Int32)), .val (.int t3)] [(.int (5 : Int32))]) _
                refine stp (fun _ => XS.istoreN X27.here hx rfl (hb hby d11_41) rfl (l' := #[.val (.ref t), .val (.int (0 : Int32)), .val (.int (5 : Int32)), .val (.int t3)]) rfl) ?_
                show Go p e below T27 (mkF m 42 #[.val (.ref t), .val (.int (0 : Int32)), .val (.int (5 : Int32)), .val (.int t3)] []) _
                refine stp (fun _ => XS.goto X27.here hx rfl (pc0 := 42) (pc' := 4) rfl (hb hby d11_42) (by decide) (by decide)) ?_
                show Go p e below T27 (mkF m 4 #[.val (.ref t), .val (.int (0 : Int32)), .val (.int (5 : Int32)), .val (.int t3)] []) _
                refine stp (fun _ => XS.iloadN X27.here hx rfl (hb hby d11_4) rfl) ?_
                show Go p e below T27 (mkF m 5 #[.val (.ref t), .val (.int (0 : Int32)), .val (.int (5 : Int32)), .val (.int t3)] [(.int (5 : Int32))]) _
                refine stp (fun _ => XS.aloadN X27.here hx rfl (hb hby d11_5) rfl rfl) ?_
                show Go p e below T27 (mkF m 6 #[.val (.ref t), .val (.int (0 : Int32)), .val (.int (5 : Int32)), .val (.int t3)] [(.ref t), (.int (5 : Int32))]) _
                obtain ⟨cq30, kq30, q30a, q30b, q30c⟩ := isOf hZ e27 Q_t.exa
                obtain ⟨_, _, ⟨T30, L30, k30, n30⟩, -, X30, ⟨Lc30, hQ30, l30, y30, z30⟩, st30⟩ := X27.virtualBack hx (y := (⟨"java/lang/String", "length", "()I"⟩ : MethodName)) (z := (⟨"java/lang/String", "length", "()I"⟩ : MethodName)) hown (mvT hZ (hw _ (List.mem_of_getElem? (i := 48) rfl))) (mvT hZ (hw _ (List.mem_of_getElem? (i := 49) rfl))) (notFace_of_selects (args := #[]) (mvT hZ (hw _ (List.mem_of_getElem? (i := 51) rfl)))) (mvT hZ (hw _ (List.mem_of_getElem? (i := 51) rfl))) (mvT hZ (hw _ (List.mem_of_getElem? (i := 50) rfl))) (by decide) (backOf (W := 1) (rm_ulen l Z a0 hw [] t ([t0, t1, t2, t3, t4] : List Int32) cz h0 n0 O0 Q_t S_COMPACT_STRINGS hcz) hZ (hw _ (List.mem_of_getElem? (i := 52) rfl)) (hw _ (List.mem_of_getElem? (i := 17) rfl)) (by decide) (by decide)) q30a q30c (g := (mkF m 6 #[.val (.ref t), .val (.int (0 : Int32)), .val (.int (5 : Int32)), .val (.int t3)] [(.ref t), (.int (5 : Int32))])) rfl (by rw [hml]; rfl) (Steps.refl _) (argsL := []) (rest := [(.int (5 : Int32))]) (lenOf pd_15 rfl) rfl (by show 2 * 0 + _ ≤ _; exact Nat.le_of_eq rfl) (hb hby d11_6) (fun _ _ => ⟨rfl, e27, (by decide : 0 + 0 ≤ _), (by decide : 0 + 0 ≤ _)⟩)
                dsimp only [Pt.U, Pt.locs, Pt.cells, Pt.slots] at X30 l30 y30 z30 st30 hQ30
                subst y30 z30
                obtain ⟨rfl, N30q, e30⟩ := hQ30
                have N30 : Fr n0 L30 := by rw [l30]; exact Fr.app N27 N30q
                refine stt st30 ?_
                show Go p e below T30 (mkF m 9 #[.val (.ref t), .val (.int (0 : Int32)), .val (.int (5 : Int32)), .val (.int t3)] [(.int (5 : Int32)), (.int (5 : Int32))]) _
                refine stp (fun _ => XS.icmpYes X30.here hx rfl (pc0 := 9) (pc' := 45) rfl (hb hby d11_9) rfl (by decide) (by decide) (by decide)) ?_
                show Go p e below T30 (mkF m 45 #[.val (.ref t), .val (.int (0 : Int32)), .val (.int (5 : Int32)), .val (.int t3)] []) _
                refine stp (fun _ => XS.iconst X30.here hx rfl (hb hby d11_45)) ?_
                show Go p e below T30 (mkF m 46 #[.val (.ref t), .val (.int (0 : Int32)), .val (.int (5 : Int32)), .val (.int t3)] [(.int (-1 : Int32))]) _
                refine outI X30 hx hret (hb hby d11_46) hlk (by decide) (by decide) ?_
                exact ⟨own_somei (by rw [own_e_0]; simp only [own_e1, own_e2, own_e3, own_e4, if_neg q21_3, if_neg q32_4, if_neg q21_18, if_neg q32_19, if_neg q21_28, if_pos q32_29]), N30, e30⟩
              · refine stp (fun _ => XS.icmpYes X27.here hx rfl (pc0 := 32) (pc' := 39) rfl (hb hby d11_32) rfl (XT.ii_ne_t q32_29) (by decide) (by decide)) ?_
                show Go p e below T27 (mkF m 39 #[.val (.ref t), .val (.int (0 : Int32)), .val (.int (3 : Int32)), .val (.int t3)] [(.int (3 : Int32))]) _
                refine stp (fun _ => XS.iconst X27.here hx rfl (hb hby d11_39)) ?_
                show Go p e below T27 (mkF m 40 #[.val (.ref t), .val (.int (0 : Int32)), .val (.int (3 : Int32)), .val (.int t3)] [(.int (1 : Int32)), (.int (3 : Int32))]) _
                refine stp (fun _ => XS.iadd X27.here hx rfl (hb hby d11_40) rfl) ?_
                show Go p e below T27 (mkF m 41 #[.val (.ref t), .val (.int (0 : Int32)), .val (.int (3 : Int32)), .val (.int t3)] [(.int (4 : Int32))]) _
                refine stp (fun _ => XS.istoreN X27.here hx rfl (hb hby d11_41) rfl (l' := #[.val (.ref t), .val (.int (0 : Int32)), .val (.int (4 : Int32)), .val (.int t3)]) rfl) ?_
                show Go p e below T27 (mkF m 42 #[.val (.ref t), .val (.int (0 : Int32)), .val (.int (4 : Int32)), .val (.int t3)] []) _
                refine stp (fun _ => XS.goto X27.here hx rfl (pc0 := 42) (pc' := 4) rfl (hb hby d11_42) (by decide) (by decide)) ?_
                show Go p e below T27 (mkF m 4 #[.val (.ref t), .val (.int (0 : Int32)), .val (.int (4 : Int32)), .val (.int t3)] []) _
                refine stp (fun _ => XS.iloadN X27.here hx rfl (hb hby d11_4) rfl) ?_
                show Go p e below T27 (mkF m 5 #[.val (.ref t), .val (.int (0 : Int32)), .val (.int (4 : Int32)), .val (.int t3)] [(.int (4 : Int32))]) _
                refine stp (fun _ => XS.aloadN X27.here hx rfl (hb hby d11_5) rfl rfl) ?_
                show Go p e below T27 (mkF m 6 #[.val (.ref t), .val (.int (0 : Int32)), .val (.int (4 : Int32)), .val (.int t3)] [(.ref t), (.int (4 : Int32))]) _
                obtain ⟨cq31, kq31, q31a, q31b, q31c⟩ := isOf hZ e27 Q_t.exa
                obtain ⟨_, _, ⟨T31, L31, k31, n31⟩, -, X31, ⟨Lc31, hQ31, l31, y31, z31⟩, st31⟩ := X27.virtualBack hx (y := (⟨"java/lang/String", "length", "()I"⟩ : MethodName)) (z := (⟨"java/lang/String", "length", "()I"⟩ : MethodName)) hown (mvT hZ (hw _ (List.mem_of_getElem? (i := 48) rfl))) (mvT hZ (hw _ (List.mem_of_getElem? (i := 49) rfl))) (notFace_of_selects (args := #[]) (mvT hZ (hw _ (List.mem_of_getElem? (i := 51) rfl)))) (mvT hZ (hw _ (List.mem_of_getElem? (i := 51) rfl))) (mvT hZ (hw _ (List.mem_of_getElem? (i := 50) rfl))) (by decide) (backOf (W := 1) (rm_ulen l Z a0 hw [] t ([t0, t1, t2, t3, t4] : List Int32) cz h0 n0 O0 Q_t S_COMPACT_STRINGS hcz) hZ (hw _ (List.mem_of_getElem? (i := 52) rfl)) (hw _ (List.mem_of_getElem? (i := 17) rfl)) (by decide) (by decide)) q31a q31c (g := (mkF m 6 #[.val (.ref t), .val (.int (0 : Int32)), .val (.int (4 : Int32)), .val (.int t3)] [(.ref t), (.int (4 : Int32))])) rfl (by rw [hml]; rfl) (Steps.refl _) (argsL := []) (rest := [(.int (4 : Int32))]) (lenOf pd_15 rfl) rfl (by show 2 * 0 + _ ≤ _; exact Nat.le_of_eq rfl) (hb hby d11_6) (fun _ _ => ⟨rfl, e27, (by decide : 0 + 0 ≤ _), (by decide : 0 + 0 ≤ _)⟩)
                dsimp only [Pt.U, Pt.locs, Pt.cells, Pt.slots] at X31 l31 y31 z31 st31 hQ31
                subst y31 z31
                obtain ⟨rfl, N31q, e31⟩ := hQ31
                have N31 : Fr n0 L31 := by rw [l31]; exact Fr.app N27 N31q
                refine stt st31 ?_
                show Go p e below T31 (mkF m 9 #[.val (.ref t), .val (.int (0 : Int32)), .val (.int (4 : Int32)), .val (.int t3)] [(.int (5 : Int32)), (.int (4 : Int32))]) _
                refine stp (fun _ => XS.icmpNo X31.here hx rfl (hb hby d11_9) rfl (by decide)) ?_
                show Go p e below T31 (mkF m 12 #[.val (.ref t), .val (.int (0 : Int32)), .val (.int (4 : Int32)), .val (.int t3)] []) _
                refine stp (fun _ => XS.aloadN X31.here hx rfl (hb hby d11_12) rfl rfl) ?_
                show Go p e below T31 (mkF m 13 #[.val (.ref t), .val (.int (0 : Int32)), .val (.int (4 : Int32)), .val (.int t3)] [(.ref t)]) _
                refine stp (fun _ => XS.iloadN X31.here hx rfl (hb hby d11_13) rfl) ?_
                show Go p e below T31 (mkF m 14 #[.val (.ref t), .val (.int (0 : Int32)), .val (.int (4 : Int32)), .val (.int t3)] [(.int (4 : Int32)), (.ref t)]) _
                obtain ⟨cq32, kq32, q32a, q32b, q32c⟩ := isOf hZ e31 Q_t.exa
                obtain ⟨_, _, ⟨T32, L32, k32, n32⟩, -, X32, ⟨Lc32, hQ32, l32, y32, z32⟩, st32⟩ := X31.virtualBack hx (y := (⟨"java/lang/String", "charAt", "(I)C"⟩ : MethodName)) (z := (⟨"java/lang/String", "charAt", "(I)C"⟩ : MethodName)) hown (mvT hZ (hw _ (List.mem_of_getElem? (i := 58) rfl))) (mvT hZ (hw _ (List.mem_of_getElem? (i := 59) rfl))) (notFace_of_selects (args := #[]) (mvT hZ (hw _ (List.mem_of_getElem? (i := 61) rfl)))) (mvT hZ (hw _ (List.mem_of_getElem? (i := 61) rfl))) (mvT hZ (hw _ (List.mem_of_getElem? (i := 60) rfl))) (by decide) (backOf (W := 0) (rm_uch l Z a0 hw [] t (4 : Int32) ([t0, t1, t2, t3, t4] : List Int32) cz fm 4 h0 n0 O0 Q_t S_COMPACT_STRINGS S_SIOOBE_FORMATTER S__assertionsDisabled S_HI_BYTE_SHIFT S_LO_BYTE_SHIFT hcz hfm (by decide) (Nat.le_of_ble_eq_true rfl)) hZ (hw _ (List.mem_of_getElem? (i := 62) rfl)) (hw _ (List.mem_of_getElem? (i := 17) rfl)) (by decide) (by decide)) q32a q32c (g := (mkF m 14 #[.val (.ref t), .val (.int (0 : Int32)), .val (.int (4 : Int32)), .val (.int t3)] [(.int (4 : Int32)), (.ref t)])) rfl (by rw [hml]; rfl) (Steps.refl _) (argsL := [(.int (4 : Int32))]) (rest := []) (lenOf pd_16 rfl) rfl (by show 2 * 0 + _ ≤ _; exact Nat.le_of_eq rfl) (hb hby d11_14) (fun _ _ => ⟨rfl, e31, (by decide : 0 + 0 ≤ _), (by decide : 0 + 0 ≤ _)⟩)
                dsimp only [Pt.U, Pt.locs, Pt.cells, Pt.slots] at X32 l32 y32 z32 st32 hQ32
                subst y32 z32
                obtain ⟨rfl, N32q, e32⟩ := hQ32
                have N32 : Fr n0 L32 := by rw [l32]; exact Fr.app N31 N32q
                refine stt st32 ?_
                show Go p e below T32 (mkF m 17 #[.val (.ref t), .val (.int (0 : Int32)), .val (.int (4 : Int32)), .val (.int t3)] [(.int t4)]) _
                refine stp (fun _ => XS.istoreN X32.here hx rfl (hb hby d11_17) rfl (l' := #[.val (.ref t), .val (.int (0 : Int32)), .val (.int (4 : Int32)), .val (.int t4)]) rfl) ?_
                show Go p e below T32 (mkF m 18 #[.val (.ref t), .val (.int (0 : Int32)), .val (.int (4 : Int32)), .val (.int t4)] []) _
                refine stp (fun _ => XS.iloadN X32.here hx rfl (hb hby d11_18) rfl) ?_
                show Go p e below T32 (mkF m 19 #[.val (.ref t), .val (.int (0 : Int32)), .val (.int (4 : Int32)), .val (.int t4)] [(.int t4)]) _
                refine stp (fun _ => XS.bipush X32.here hx rfl (hb hby d11_19)) ?_
                show Go p e below T32 (mkF m 21 #[.val (.ref t), .val (.int (0 : Int32)), .val (.int (4 : Int32)), .val (.int t4)] [(.int (34 : Int32)), (.int t4)]) _
                by_cases q21_33 : t4 = (34 : Int32)
                · refine stp (fun _ => XS.icmpNo X32.here hx rfl (hb hby d11_21) rfl (XT.ii_ne_f q21_33)) ?_
                  show Go p e below T32 (mkF m 24 #[.val (.ref t), .val (.int (0 : Int32)), .val (.int (4 : Int32)), .val (.int t4)] []) _
                  refine stp (fun _ => XS.iloadN X32.here hx rfl (hb hby d11_24) rfl) ?_
                  show Go p e below T32 (mkF m 25 #[.val (.ref t), .val (.int (0 : Int32)), .val (.int (4 : Int32)), .val (.int t4)] [(.int (4 : Int32))]) _
                  refine stp (fun _ => XS.iconst X32.here hx rfl (hb hby d11_25)) ?_
                  show Go p e below T32 (mkF m 26 #[.val (.ref t), .val (.int (0 : Int32)), .val (.int (4 : Int32)), .val (.int t4)] [(.int (1 : Int32)), (.int (4 : Int32))]) _
                  refine stp (fun _ => XS.iadd X32.here hx rfl (hb hby d11_26) rfl) ?_
                  show Go p e below T32 (mkF m 27 #[.val (.ref t), .val (.int (0 : Int32)), .val (.int (4 : Int32)), .val (.int t4)] [(.int (5 : Int32))]) _
                  refine outI X32 hx hret (hb hby d11_27) hlk (by decide) (by decide) ?_
                  exact ⟨own_somei (by rw [own_e_0]; simp only [own_e1, own_e2, own_e3, own_e4, if_neg q21_3, if_neg q32_4, if_neg q21_18, if_neg q32_19, if_neg q21_28, if_neg q32_29, if_pos q21_33]), N32, e32⟩
                · refine stp (fun _ => XS.icmpYes X32.here hx rfl (pc0 := 21) (pc' := 28) rfl (hb hby d11_21) rfl (XT.ii_ne_t q21_33) (by decide) (by decide)) ?_
                  show Go p e below T32 (mkF m 28 #[.val (.ref t), .val (.int (0 : Int32)), .val (.int (4 : Int32)), .val (.int t4)] []) _
                  refine stp (fun _ => XS.iloadN X32.here hx rfl (hb hby d11_28) rfl) ?_
                  show Go p e below T32 (mkF m 29 #[.val (.ref t), .val (.int (0 : Int32)), .val (.int (4 : Int32)), .val (.int t4)] [(.int (4 : Int32))]) _
                  refine stp (fun _ => XS.iloadN X32.here hx rfl (hb hby d11_29) rfl) ?_
                  show Go p e below T32 (mkF m 30 #[.val (.ref t), .val (.int (0 : Int32)), .val (.int (4 : Int32)), .val (.int t4)] [(.int t4), (.int (4 : Int32))]) _
                  refine stp (fun _ => XS.bipush X32.here hx rfl (hb hby d11_30)) ?_
                  show Go p e below T32 (mkF m 32 #[.val (.ref t), .val (.int (0 : Int32)), .val (.int (4 : Int32)), .val (.int t4)] [(.int (92 : Int32)), (.int t4), (.int (4 : Int32))]) _
                  by_cases q32_34 : t4 = (92 : Int32)
                  · refine stp (fun _ => XS.icmpNo X32.here hx rfl (hb hby d11_32) rfl (XT.ii_ne_f q32_34)) ?_
                    show Go p e below T32 (mkF m 35 #[.val (.ref t), .val (.int (0 : Int32)), .val (.int (4 : Int32)), .val (.int t4)] [(.int (4 : Int32))]) _
                    refine stp (fun _ => XS.iconst X32.here hx rfl (hb hby d11_35)) ?_
                    show Go p e below T32 (mkF m 36 #[.val (.ref t), .val (.int (0 : Int32)), .val (.int (4 : Int32)), .val (.int t4)] [(.int (2 : Int32)), (.int (4 : Int32))]) _
                    refine stp (fun _ => XS.goto X32.here hx rfl (pc0 := 36) (pc' := 40) rfl (hb hby d11_36) (by decide) (by decide)) ?_
                    show Go p e below T32 (mkF m 40 #[.val (.ref t), .val (.int (0 : Int32)), .val (.int (4 : Int32)), .val (.int t4)] [(.int (2 : Int32)), (.int (4 : Int32))]) _
                    refine stp (fun _ => XS.iadd X32.here hx rfl (hb hby d11_40) rfl) ?_
                    show Go p e below T32 (mkF m 41 #[.val (.ref t), .val (.int (0 : Int32)), .val (.int (4 : Int32)), .val (.int t4)] [(.int (6 : Int32))]) _
                    refine stp (fun _ => XS.istoreN X32.here hx rfl (hb hby d11_41) rfl (l' := #[.val (.ref t), .val (.int (0 : Int32)), .val (.int (6 : Int32)), .val (.int t4)]) rfl) ?_
                    show Go p e below T32 (mkF m 42 #[.val (.ref t), .val (.int (0 : Int32)), .val (.int (6 : Int32)), .val (.int t4)] []) _
                    refine stp (fun _ => XS.goto X32.here hx rfl (pc0 := 42) (pc' := 4) rfl (hb hby d11_42) (by decide) (by decide)) ?_
                    show Go p e below T32 (mkF m 4 #[.val (.ref t), .val (.int (0 : Int32)), .val (.int (6 : Int32)), .val (.int t4)] []) _
                    refine stp (fun _ => XS.iloadN X32.here hx rfl (hb hby d11_4) rfl) ?_
                    show Go p e below T32 (mkF m 5 #[.val (.ref t), .val (.int (0 : Int32)), .val (.int (6 : Int32)), .val (.int t4)] [(.int (6 : Int32))]) _
                    refine stp (fun _ => XS.aloadN X32.here hx rfl (hb hby d11_5) rfl rfl) ?_
                    show Go p e below T32 (mkF m 6 #[.val (.ref t), .val (.int (0 : Int32)), .val (.int (6 : Int32)), .val (.int t4)] [(.ref t), (.int (6 : Int32))]) _
                    obtain ⟨cq35, kq35, q35a, q35b, q35c⟩ := isOf hZ e32 Q_t.exa
                    obtain ⟨_, _, ⟨T35, L35, k35, n35⟩, -, X35, ⟨Lc35, hQ35, l35, y35, z35⟩, st35⟩ := X32.virtualBack hx (y := (⟨"java/lang/String", "length", "()I"⟩ : MethodName)) (z := (⟨"java/lang/String", "length", "()I"⟩ : MethodName)) hown (mvT hZ (hw _ (List.mem_of_getElem? (i := 48) rfl))) (mvT hZ (hw _ (List.mem_of_getElem? (i := 49) rfl))) (notFace_of_selects (args := #[]) (mvT hZ (hw _ (List.mem_of_getElem? (i := 51) rfl)))) (mvT hZ (hw _ (List.mem_of_getElem? (i := 51) rfl))) (mvT hZ (hw _ (List.mem_of_getElem? (i := 50) rfl))) (by decide) (backOf (W := 1) (rm_ulen l Z a0 hw [] t ([t0, t1, t2, t3, t4] : List Int32) cz h0 n0 O0 Q_t S_COMPACT_STRINGS hcz) hZ (hw _ (List.mem_of_getElem? (i := 52) rfl)) (hw _ (List.mem_of_getElem? (i := 17) rfl)) (by decide) (by decide)) q35a q35c (g := (mkF m 6 #[.val (.ref t), .val (.int (0 : Int32)), .val (.int (6 : Int32)), .val (.int t4)] [(.ref t), (.int (6 : Int32))])) rfl (by rw [hml]; rfl) (Steps.refl _) (argsL := []) (rest := [(.int (6 : Int32))]) (lenOf pd_15 rfl) rfl (by show 2 * 0 + _ ≤ _; exact Nat.le_of_eq rfl) (hb hby d11_6) (fun _ _ => ⟨rfl, e32, (by decide : 0 + 0 ≤ _), (by decide : 0 + 0 ≤ _)⟩)
                    dsimp only [Pt.U, Pt.locs, Pt.cells, Pt.slots] at X35 l35 y35 z35 st35 hQ35
                    subst y35 z35
                    obtain ⟨rfl, N35q, e35⟩ := hQ35
                    have N35 : Fr n0 L35 := by rw [l35]; exact Fr.app N32 N35q
                    refine stt st35 ?_
                    show Go p e below T35 (mkF m 9 #[.val (.ref t), .val (.int (0 : Int32)), .val (.int (6 : Int32)), .val (.int t4)] [(.int (5 : Int32)), (.int (6 : Int32))]) _
                    refine stp (fun _ => XS.icmpYes X35.here hx rfl (pc0 := 9) (pc' := 45) rfl (hb hby d11_9) rfl (by decide) (by decide) (by decide)) ?_
                    show Go p e below T35 (mkF m 45 #[.val (.ref t), .val (.int (0 : Int32)), .val (.int (6 : Int32)), .val (.int t4)] []) _
                    refine stp (fun _ => XS.iconst X35.here hx rfl (hb hby d11_45)) ?_
                    show Go p e below T35 (mkF m 46 #[.val (.ref t), .val (.int (0 : Int32)), .val (.int (6 : Int32)), .val (.int t4)] [(.int (-1 : Int32))]) _
                    refine outI X35 hx hret (hb hby d11_46) hlk (by decide) (by decide) ?_
                    exact ⟨own_somei (by rw [own_e_0]; simp only [own_e1, own_e2, own_e3, own_e4, if_neg q21_3, if_neg q32_4, if_neg q21_18, if_neg q32_19, if_neg q21_28, if_neg q32_29, if_neg q21_33, if_pos q32_34]), N35, e35⟩
                  · refine stp (fun _ => XS.icmpYes X32.here hx rfl (pc0 := 32) (pc' := 39) rfl (hb hby d11_32) rfl (XT.ii_ne_t q32_34) (by decide) (by decide)) ?_
                    show Go p e below T32 (mkF m 39 #[.val (.ref t), .val (.int (0 : Int32)), .val (.int (4 : Int32)), .val (.int t4)] [(.int (4 : Int32))]) _
                    refine stp (fun _ => XS.iconst X32.here hx rfl (hb hby d11_39)) ?_
                    show Go p e below T32 (mkF m 40 #[.val (.ref t), .val (.int (0 : Int32)), .val (.int (4 : Int32)), .val (.int t4)] [(.int (1 : Int32)), (.int (4 : Int32))]) _
                    refine stp (fun _ => XS.iadd X32.here hx rfl (hb hby d11_40) rfl) ?_
                    show Go p e below T32 (mkF m 41 #[.val (.ref t), .val (.int (0 : Int32)), .val (.int (4 : Int32)), .val (.int t4)] [(.int (5 : Int32))]) _
                    refine stp (fun _ => XS.istoreN X32.here hx rfl (hb hby d11_41) rfl (l' := #[.val (.ref t), .val (.int (0 : Int32)), .val (.int (5 : Int32)), .val (.int t4)]) rfl) ?_
                    show Go p e below T32 (mkF m 42 #[.val (.ref t), .val (.int (0 : Int32)), .val (.int (5 : Int32)), .val (.int t4)] []) _
                    refine stp (fun _ => XS.goto X32.here hx rfl (pc0 := 42) (pc' := 4) rfl (hb hby d11_42) (by decide) (by decide)) ?_
                    show Go p e below T32 (mkF m 4 #[.val (.ref t), .val (.int (0 : Int32)), .val (.int (5 : Int32)), .val (.int t4)] []) _
                    refine stp (fun _ => XS.iloadN X32.here hx rfl (hb hby d11_4) rfl) ?_
                    show Go p e below T32 (mkF m 5 #[.val (.ref t), .val (.int (0 : Int32)), .val (.int (5 : Int32)), .val (.int t4)] [(.int (5 : Int32))]) _
                    refine stp (fun _ => XS.aloadN X32.here hx rfl (hb hby d11_5) rfl rfl) ?_
                    show Go p e below T32 (mkF m 6 #[.val (.ref t), .val (.int (0 : Int32)), .val (.int (5 : Int32)), .val (.int t4)] [(.ref t), (.int (5 : Int32))]) _
                    obtain ⟨cq36, kq36, q36a, q36b, q36c⟩ := isOf hZ e32 Q_t.exa
                    obtain ⟨_, _, ⟨T36, L36, k36, n36⟩, -, X36, ⟨Lc36, hQ36, l36, y36, z36⟩, st36⟩ := X32.virtualBack hx (y := (⟨"java/lang/String", "length", "()I"⟩ : MethodName)) (z := (⟨"java/lang/String", "length", "()I"⟩ : MethodName)) hown (mvT hZ (hw _ (List.mem_of_getElem? (i := 48) rfl))) (mvT hZ (hw _ (List.mem_of_getElem? (i := 49) rfl))) (notFace_of_selects (args := #[]) (mvT hZ (hw _ (List.mem_of_getElem? (i := 51) rfl)))) (mvT hZ (hw _ (List.mem_of_getElem? (i := 51) rfl))) (mvT hZ (hw _ (List.mem_of_getElem? (i := 50) rfl))) (by decide) (backOf (W := 1) (rm_ulen l Z a0 hw [] t ([t0, t1, t2, t3, t4] : List Int32) cz h0 n0 O0 Q_t S_COMPACT_STRINGS hcz) hZ (hw _ (List.mem_of_getElem? (i := 52) rfl)) (hw _ (List.mem_of_getElem? (i := 17) rfl)) (by decide) (by decide)) q36a q36c (g := (mkF m 6 #[.val (.ref t), .val (.int (0 : Int32)), .val (.int (5 : Int32)), .val (.int t4)] [(.ref t), (.int (5 : Int32))])) rfl (by rw [hml]; rfl) (Steps.refl _) (argsL := []) (rest := [(.int (5 : Int32))]) (lenOf pd_15 rfl) rfl (by show 2 * 0 + _ ≤ _; exact Nat.le_of_eq rfl) (hb hby d11_6) (fun _ _ => ⟨rfl, e32, (by decide : 0 + 0 ≤ _), (by decide : 0 + 0 ≤ _)⟩)
                    dsimp only [Pt.U, Pt.locs, Pt.cells, Pt.slots] at X36 l36 y36 z36 st36 hQ36
                    subst y36 z36
                    obtain ⟨rfl, N36q, e36⟩ := hQ36
                    have N36 : Fr n0 L36 := by rw [l36]; exact Fr.app N32 N36q
                    refine stt st36 ?_
                    show Go p e below T36 (mkF m 9 #[.val (.ref t), .val (.int (0 : Int32)), .val (.int (5 : Int32)), .val (.int t4)] [(.int (5 : Int32)), (.int (5 : Int32))]) _
                    refine stp (fun _ => XS.icmpYes X36.here hx rfl (pc0 := 9) (pc' := 45) rfl (hb hby d11_9) rfl (by decide) (by decide) (by decide)) ?_
                    show Go p e below T36 (mkF m 45 #[.val (.ref t), .val (.int (0 : Int32)), .val (.int (5 : Int32)), .val (.int t4)] []) _
                    refine stp (fun _ => XS.iconst X36.here hx rfl (hb hby d11_45)) ?_
                    show Go p e below T36 (mkF m 46 #[.val (.ref t), .val (.int (0 : Int32)), .val (.int (5 : Int32)), .val (.int t4)] [(.int (-1 : Int32))]) _
                    refine outI X36 hx hret (hb hby d11_46) hlk (by decide) (by decide) ?_
                    exact ⟨own_somei (by rw [own_e_0]; simp only [own_e1, own_e2, own_e3, own_e4, if_neg q21_3, if_neg q32_4, if_neg q21_18, if_neg q32_19, if_neg q21_28, if_neg q32_29, if_neg q21_33, if_neg q32_34]), N36, e36⟩
  · show Go p e below T0 (mkF m 0 #[.val (.ref t), .val (.int (1 : Int32)), .unset, .unset] []) _
    refine stp (fun _ => XS.iloadN X0.here hx rfl (hb hby d11_0) rfl) ?_
    show Go p e below T0 (mkF m 1 #[.val (.ref t), .val (.int (1 : Int32)), .unset, .unset] [(.int (1 : Int32))]) _
    refine stp (fun _ => XS.iconst X0.here hx rfl (hb hby d11_1)) ?_
    show Go p e below T0 (mkF m 2 #[.val (.ref t), .val (.int (1 : Int32)), .unset, .unset] [(.int (1 : Int32)), (.int (1 : Int32))]) _
    refine stp (fun _ => XS.iadd X0.here hx rfl (hb hby d11_2) rfl) ?_
    show Go p e below T0 (mkF m 3 #[.val (.ref t), .val (.int (1 : Int32)), .unset, .unset] [(.int (2 : Int32))]) _
    refine stp (fun _ => XS.istoreN X0.here hx rfl (hb hby d11_3) rfl (l' := #[.val (.ref t), .val (.int (1 : Int32)), .val (.int (2 : Int32)), .unset]) rfl) ?_
    show Go p e below T0 (mkF m 4 #[.val (.ref t), .val (.int (1 : Int32)), .val (.int (2 : Int32)), .unset] []) _
    refine stp (fun _ => XS.iloadN X0.here hx rfl (hb hby d11_4) rfl) ?_
    show Go p e below T0 (mkF m 5 #[.val (.ref t), .val (.int (1 : Int32)), .val (.int (2 : Int32)), .unset] [(.int (2 : Int32))]) _
    refine stp (fun _ => XS.aloadN X0.here hx rfl (hb hby d11_5) rfl rfl) ?_
    show Go p e below T0 (mkF m 6 #[.val (.ref t), .val (.int (1 : Int32)), .val (.int (2 : Int32)), .unset] [(.ref t), (.int (2 : Int32))]) _
    obtain ⟨cq37, kq37, q37a, q37b, q37c⟩ := isOf hZ e0 Q_t.exa
    obtain ⟨_, _, ⟨T37, L37, k37, n37⟩, -, X37, ⟨Lc37, hQ37, l37, y37, z37⟩, st37⟩ := X0.virtualBack hx (y := (⟨"java/lang/String", "length", "()I"⟩ : MethodName)) (z := (⟨"java/lang/String", "length", "()I"⟩ : MethodName)) hown (mvT hZ (hw _ (List.mem_of_getElem? (i := 48) rfl))) (mvT hZ (hw _ (List.mem_of_getElem? (i := 49) rfl))) (notFace_of_selects (args := #[]) (mvT hZ (hw _ (List.mem_of_getElem? (i := 51) rfl)))) (mvT hZ (hw _ (List.mem_of_getElem? (i := 51) rfl))) (mvT hZ (hw _ (List.mem_of_getElem? (i := 50) rfl))) (by decide) (backOf (W := 1) (rm_ulen l Z a0 hw [] t ([t0, t1, t2, t3, t4] : List Int32) cz h0 n0 O0 Q_t S_COMPACT_STRINGS hcz) hZ (hw _ (List.mem_of_getElem? (i := 52) rfl)) (hw _ (List.mem_of_getElem? (i := 17) rfl)) (by decide) (by decide)) q37a q37c (g := (mkF m 6 #[.val (.ref t), .val (.int (1 : Int32)), .val (.int (2 : Int32)), .unset] [(.ref t), (.int (2 : Int32))])) rfl (by rw [hml]; rfl) (Steps.refl _) (argsL := []) (rest := [(.int (2 : Int32))]) (lenOf pd_15 rfl) rfl (by show 2 * 0 + _ ≤ _; exact Nat.le_of_eq rfl) (hb hby d11_6) (fun _ _ => ⟨rfl, e0, (by decide : 0 + 0 ≤ _), (by decide : 0 + 0 ≤ _)⟩)
    dsimp only [Pt.U, Pt.locs, Pt.cells, Pt.slots] at X37 l37 y37 z37 st37 hQ37
    subst y37 z37
    obtain ⟨rfl, N37q, e37⟩ := hQ37
    have N37 : Fr n0 L37 := by rw [l37]; exact Fr.app N0 N37q
    refine stt st37 ?_
    show Go p e below T37 (mkF m 9 #[.val (.ref t), .val (.int (1 : Int32)), .val (.int (2 : Int32)), .unset] [(.int (5 : Int32)), (.int (2 : Int32))]) _
    refine stp (fun _ => XS.icmpNo X37.here hx rfl (hb hby d11_9) rfl (by decide)) ?_
    show Go p e below T37 (mkF m 12 #[.val (.ref t), .val (.int (1 : Int32)), .val (.int (2 : Int32)), .unset] []) _
    refine stp (fun _ => XS.aloadN X37.here hx rfl (hb hby d11_12) rfl rfl) ?_
    show Go p e below T37 (mkF m 13 #[.val (.ref t), .val (.int (1 : Int32)), .val (.int (2 : Int32)), .unset] [(.ref t)]) _
    refine stp (fun _ => XS.iloadN X37.here hx rfl (hb hby d11_13) rfl) ?_
    show Go p e below T37 (mkF m 14 #[.val (.ref t), .val (.int (1 : Int32)), .val (.int (2 : Int32)), .unset] [(.int (2 : Int32)), (.ref t)]) _
    obtain ⟨cq38, kq38, q38a, q38b, q38c⟩ := isOf hZ e37 Q_t.exa
    obtain ⟨_, _, ⟨T38, L38, k38, n38⟩, -, X38, ⟨Lc38, hQ38, l38, y38, z38⟩, st38⟩ := X37.virtualBack hx (y := (⟨"java/lang/String", "charAt", "(I)C"⟩ : MethodName)) (z := (⟨"java/lang/String", "charAt", "(I)C"⟩ : MethodName)) hown (mvT hZ (hw _ (List.mem_of_getElem? (i := 58) rfl))) (mvT hZ (hw _ (List.mem_of_getElem? (i := 59) rfl))) (notFace_of_selects (args := #[]) (mvT hZ (hw _ (List.mem_of_getElem? (i := 61) rfl)))) (mvT hZ (hw _ (List.mem_of_getElem? (i := 61) rfl))) (mvT hZ (hw _ (List.mem_of_getElem? (i := 60) rfl))) (by decide) (backOf (W := 0) (rm_uch l Z a0 hw [] t (2 : Int32) ([t0, t1, t2, t3, t4] : List Int32) cz fm 2 h0 n0 O0 Q_t S_COMPACT_STRINGS S_SIOOBE_FORMATTER S__assertionsDisabled S_HI_BYTE_SHIFT S_LO_BYTE_SHIFT hcz hfm (by decide) (Nat.le_of_ble_eq_true rfl)) hZ (hw _ (List.mem_of_getElem? (i := 62) rfl)) (hw _ (List.mem_of_getElem? (i := 17) rfl)) (by decide) (by decide)) q38a q38c (g := (mkF m 14 #[.val (.ref t), .val (.int (1 : Int32)), .val (.int (2 : Int32)), .unset] [(.int (2 : Int32)), (.ref t)])) rfl (by rw [hml]; rfl) (Steps.refl _) (argsL := [(.int (2 : Int32))]) (rest := []) (lenOf pd_16 rfl) rfl (by show 2 * 0 + _ ≤ _; exact Nat.le_of_eq rfl) (hb hby d11_14) (fun _ _ => ⟨rfl, e37, (by decide : 0 + 0 ≤ _), (by decide : 0 + 0 ≤ _)⟩)
    dsimp only [Pt.U, Pt.locs, Pt.cells, Pt.slots] at X38 l38 y38 z38 st38 hQ38
    subst y38 z38
    obtain ⟨rfl, N38q, e38⟩ := hQ38
    have N38 : Fr n0 L38 := by rw [l38]; exact Fr.app N37 N38q
    refine stt st38 ?_
    show Go p e below T38 (mkF m 17 #[.val (.ref t), .val (.int (1 : Int32)), .val (.int (2 : Int32)), .unset] [(.int t2)]) _
    refine stp (fun _ => XS.istoreN X38.here hx rfl (hb hby d11_17) rfl (l' := #[.val (.ref t), .val (.int (1 : Int32)), .val (.int (2 : Int32)), .val (.int t2)]) rfl) ?_
    show Go p e below T38 (mkF m 18 #[.val (.ref t), .val (.int (1 : Int32)), .val (.int (2 : Int32)), .val (.int t2)] []) _
    refine stp (fun _ => XS.iloadN X38.here hx rfl (hb hby d11_18) rfl) ?_
    show Go p e below T38 (mkF m 19 #[.val (.ref t), .val (.int (1 : Int32)), .val (.int (2 : Int32)), .val (.int t2)] [(.int t2)]) _
    refine stp (fun _ => XS.bipush X38.here hx rfl (hb hby d11_19)) ?_
    show Go p e below T38 (mkF m 21 #[.val (.ref t), .val (.int (1 : Int32)), .val (.int (2 : Int32)), .val (.int t2)] [(.int (34 : Int32)), (.int t2)]) _
    by_cases q21_39 : t2 = (34 : Int32)
    · refine stp (fun _ => XS.icmpNo X38.here hx rfl (hb hby d11_21) rfl (XT.ii_ne_f q21_39)) ?_
      show Go p e below T38 (mkF m 24 #[.val (.ref t), .val (.int (1 : Int32)), .val (.int (2 : Int32)), .val (.int t2)] []) _
      refine stp (fun _ => XS.iloadN X38.here hx rfl (hb hby d11_24) rfl) ?_
      show Go p e below T38 (mkF m 25 #[.val (.ref t), .val (.int (1 : Int32)), .val (.int (2 : Int32)), .val (.int t2)] [(.int (2 : Int32))]) _
      refine stp (fun _ => XS.iconst X38.here hx rfl (hb hby d11_25)) ?_
      show Go p e below T38 (mkF m 26 #[.val (.ref t), .val (.int (1 : Int32)), .val (.int (2 : Int32)), .val (.int t2)] [(.int (1 : Int32)), (.int (2 : Int32))]) _
      refine stp (fun _ => XS.iadd X38.here hx rfl (hb hby d11_26) rfl) ?_
      show Go p e below T38 (mkF m 27 #[.val (.ref t), .val (.int (1 : Int32)), .val (.int (2 : Int32)), .val (.int t2)] [(.int (3 : Int32))]) _
      refine outI X38 hx hret (hb hby d11_27) hlk (by decide) (by decide) ?_
      exact ⟨own_somei (by rw [own_e_1]; simp only [own_e1, own_e2, own_e3, own_e4, if_pos q21_39]), N38, e38⟩
    · refine stp (fun _ => XS.icmpYes X38.here hx rfl (pc0 := 21) (pc' := 28) rfl (hb hby d11_21) rfl (XT.ii_ne_t q21_39) (by decide) (by decide)) ?_
      show Go p e below T38 (mkF m 28 #[.val (.ref t), .val (.int (1 : Int32)), .val (.int (2 : Int32)), .val (.int t2)] []) _
      refine stp (fun _ => XS.iloadN X38.here hx rfl (hb hby d11_28) rfl) ?_
      show Go p e below T38 (mkF m 29 #[.val (.ref t), .val (.int (1 : Int32)), .val (.int (2 : Int32)), .val (.int t2)] [(.int (2 : Int32))]) _
      refine stp (fun _ => XS.iloadN X38.here hx rfl (hb hby d11_29) rfl) ?_
      show Go p e below T38 (mkF m 30 #[.val (.ref t), .val (.int (1 : Int32)), .val (.int (2 : Int32)), .val (.int t2)] [(.int t2), (.int (2 : Int32))]) _
      refine stp (fun _ => XS.bipush X38.here hx rfl (hb hby d11_30)) ?_
      show Go p e below T38 (mkF m 32 #[.val (.ref t), .val (.int (1 : Int32)), .val (.int (2 : Int32)), .val (.int t2)] [(.int (92 : Int32)), (.int t2), (.int (2 : Int32))]) _
      by_cases q32_40 : t2 = (92 : Int32)
      · refine stp (fun _ => XS.icmpNo X38.here hx rfl (hb hby d11_32) rfl (XT.ii_ne_f q32_40)) ?_
        show Go p e below T38 (mkF m 35 #[.val (.ref t), .val (.int (1 : Int32)), .val (.int (2 : Int32)), .val (.int t2)] [(.int (2 : Int32))]) _
        refine stp (fun _ => XS.iconst X38.here hx rfl (hb hby d11_35)) ?_
        show Go p e below T38 (mkF m 36 #[.val (.ref t), .val (.int (1 : Int32)), .val (.int (2 : Int32)), .val (.int t2)] [(.int (2 : Int32)), (.int (2 : Int32))]) _
        refine stp (fun _ => XS.goto X38.here hx rfl (pc0 := 36) (pc' := 40) rfl (hb hby d11_36) (by decide) (by decide)) ?_
        show Go p e below T38 (mkF m 40 #[.val (.ref t), .val (.int (1 : Int32)), .val (.int (2 : Int32)), .val (.int t2)] [(.int (2 : Int32)), (.int (2 : Int32))]) _
        refine stp (fun _ => XS.iadd X38.here hx rfl (hb hby d11_40) rfl) ?_
        show Go p e below T38 (mkF m 41 #[.val (.ref t), .val (.int (1 : Int32)), .val (.int (2 : Int32)), .val (.int t2)] [(.int (4 : Int32))]) _
        refine stp (fun _ => XS.istoreN X38.here hx rfl (hb hby d11_41) rfl (l' := #[.val (.ref t), .val (.int (1 : Int32)), .val (.int (4 : Int32)), .val (.int t2)]) rfl) ?_
        show Go p e below T38 (mkF m 42 #[.val (.ref t), .val (.int (1 : Int32)), .val (.int (4 : Int32)), .val (.int t2)] []) _
        refine stp (fun _ => XS.goto X38.here hx rfl (pc0 := 42) (pc' := 4) rfl (hb hby d11_42) (by decide) (by decide)) ?_
        show Go p e below T38 (mkF m 4 #[.val (.ref t), .val (.int (1 : Int32)), .val (.int (4 : Int32)), .val (.int t2)] []) _
        refine stp (fun _ => XS.iloadN X38.here hx rfl (hb hby d11_4) rfl) ?_
        show Go p e below T38 (mkF m 5 #[.val (.ref t), .val (.int (1 : Int32)), .val (.int (4 : Int32)), .val (.int t2)] [(.int (4 : Int32))]) _
        refine stp (fun _ => XS.aloadN X38.here hx rfl (hb hby d11_5) rfl rfl) ?_
        show Go p e below T38 (mkF m 6 #[.val (.ref t), .val (.int (1 : Int32)), .val (.int (4 : Int32)), .val (.int t2)] [(.ref t), (.int (4 : Int32))]) _
        obtain ⟨cq41, kq41, q41a, q41b, q41c⟩ := isOf hZ e38 Q_t.exa
        obtain ⟨_, _, ⟨T41, L41, k41, n41⟩, -, X41, ⟨Lc41, hQ41, l41, y41, z41⟩, st41⟩ := X38.virtualBack hx (y := (⟨"java/lang/String", "length", "()I"⟩ : MethodName)) (z := (⟨"java/lang/String", "length", "()I"⟩ : MethodName)) hown (mvT hZ (hw _ (List.mem_of_getElem? (i := 48) rfl))) (mvT hZ (hw _ (List.mem_of_getElem? (i := 49) rfl))) (notFace_of_selects (args := #[]) (mvT hZ (hw _ (List.mem_of_getElem? (i := 51) rfl)))) (mvT hZ (hw _ (List.mem_of_getElem? (i := 51) rfl))) (mvT hZ (hw _ (List.mem_of_getElem? (i := 50) rfl))) (by decide) (backOf (W := 1) (rm_ulen l Z a0 hw [] t ([t0, t1, t2, t3, t4] : List Int32) cz h0 n0 O0 Q_t S_COMPACT_STRINGS hcz) hZ (hw _ (List.mem_of_getElem? (i := 52) rfl)) (hw _ (List.mem_of_getElem? (i := 17) rfl)) (by decide) (by decide)) q41a q41c (g := (mkF m 6 #[.val (.ref t), .val (.int (1 : Int32)), .val (.int (4 : Int32)), .val (.int t2)] [(.ref t), (.int (4 : Int32))])) rfl (by rw [hml]; rfl) (Steps.refl _) (argsL := []) (rest := [(.int (4 : Int32))]) (lenOf pd_15 rfl) rfl (by show 2 * 0 + _ ≤ _; exact Nat.le_of_eq rfl) (hb hby d11_6) (fun _ _ => ⟨rfl, e38, (by decide : 0 + 0 ≤ _), (by decide : 0 + 0 ≤ _)⟩)
        dsimp only [Pt.U, Pt.locs, Pt.cells, Pt.slots] at X41 l41 y41 z41 st41 hQ41
        subst y41 z41
        obtain ⟨rfl, N41q, e41⟩ := hQ41
        have N41 : Fr n0 L41 := by rw [l41]; exact Fr.app N38 N41q
        refine stt st41 ?_
        show Go p e below T41 (mkF m 9 #[.val (.ref t), .val (.int (1 : Int32)), .val (.int (4 : Int32)), .val (.int t2)] [(.int (5 : Int32)), (.int (4 : Int32))]) _
        refine stp (fun _ => XS.icmpNo X41.here hx rfl (hb hby d11_9) rfl (by decide)) ?_
        show Go p e below T41 (mkF m 12 #[.val (.ref t), .val (.int (1 : Int32)), .val (.int (4 : Int32)), .val (.int t2)] []) _
        refine stp (fun _ => XS.aloadN X41.here hx rfl (hb hby d11_12) rfl rfl) ?_
        show Go p e below T41 (mkF m 13 #[.val (.ref t), .val (.int (1 : Int32)), .val (.int (4 : Int32)), .val (.int t2)] [(.ref t)]) _
        refine stp (fun _ => XS.iloadN X41.here hx rfl (hb hby d11_13) rfl) ?_
        show Go p e below T41 (mkF m 14 #[.val (.ref t), .val (.int (1 : Int32)), .val (.int (4 : Int32)), .val (.int t2)] [(.int (4 : Int32)), (.ref t)]) _
        obtain ⟨cq42, kq42, q42a, q42b, q42c⟩ := isOf hZ e41 Q_t.exa
        obtain ⟨_, _, ⟨T42, L42, k42, n42⟩, -, X42, ⟨Lc42, hQ42, l42, y42, z42⟩, st42⟩ := X41.virtualBack hx (y := (⟨"java/lang/String", "charAt", "(I)C"⟩ : MethodName)) (z := (⟨"java/lang/String", "charAt", "(I)C"⟩ : MethodName)) hown (mvT hZ (hw _ (List.mem_of_getElem? (i := 58) rfl))) (mvT hZ (hw _ (List.mem_of_getElem? (i := 59) rfl))) (notFace_of_selects (args := #[]) (mvT hZ (hw _ (List.mem_of_getElem? (i := 61) rfl)))) (mvT hZ (hw _ (List.mem_of_getElem? (i := 61) rfl))) (mvT hZ (hw _ (List.mem_of_getElem? (i := 60) rfl))) (by decide) (backOf (W := 0) (rm_uch l Z a0 hw [] t (4 : Int32) ([t0, t1, t2, t3, t4] : List Int32) cz fm 4 h0 n0 O0 Q_t S_COMPACT_STRINGS S_SIOOBE_FORMATTER S__assertionsDisabled S_HI_BYTE_SHIFT S_LO_BYTE_SHIFT hcz hfm (by decide) (Nat.le_of_ble_eq_true rfl)) hZ (hw _ (List.mem_of_getElem? (i := 62) rfl)) (hw _ (List.mem_of_getElem? (i := 17) rfl)) (by decide) (by decide)) q42a q42c (g := (mkF m 14 #[.val (.ref t), .val (.int (1 : Int32)), .val (.int (4 : Int32)), .val (.int t2)] [(.int (4 : Int32)), (.ref t)])) rfl (by rw [hml]; rfl) (Steps.refl _) (argsL := [(.int (4 : Int32))]) (rest := []) (lenOf pd_16 rfl) rfl (by show 2 * 0 + _ ≤ _; exact Nat.le_of_eq rfl) (hb hby d11_14) (fun _ _ => ⟨rfl, e41, (by decide : 0 + 0 ≤ _), (by decide : 0 + 0 ≤ _)⟩)
        dsimp only [Pt.U, Pt.locs, Pt.cells, Pt.slots] at X42 l42 y42 z42 st42 hQ42
        subst y42 z42
        obtain ⟨rfl, N42q, e42⟩ := hQ42
        have N42 : Fr n0 L42 := by rw [l42]; exact Fr.app N41 N42q
        refine stt st42 ?_
        show Go p e below T42 (mkF m 17 #[.val (.ref t), .val (.int (1 : Int32)), .val (.int (4 : Int32)), .val (.int t2)] [(.int t4)]) _
        refine stp (fun _ => XS.istoreN X42.here hx rfl (hb hby d11_17) rfl (l' := #[.val (.ref t), .val (.int (1 : Int32)), .val (.int (4 : Int32)), .val (.int t4)]) rfl) ?_
        show Go p e below T42 (mkF m 18 #[.val (.ref t), .val (.int (1 : Int32)), .val (.int (4 : Int32)), .val (.int t4)] []) _
        refine stp (fun _ => XS.iloadN X42.here hx rfl (hb hby d11_18) rfl) ?_
        show Go p e below T42 (mkF m 19 #[.val (.ref t), .val (.int (1 : Int32)), .val (.int (4 : Int32)), .val (.int t4)] [(.int t4)]) _
        refine stp (fun _ => XS.bipush X42.here hx rfl (hb hby d11_19)) ?_
        show Go p e below T42 (mkF m 21 #[.val (.ref t), .val (.int (1 : Int32)), .val (.int (4 : Int32)), .val (.int t4)] [(.int (34 : Int32)), (.int t4)]) _
        by_cases q21_43 : t4 = (34 : Int32)
        · refine stp (fun _ => XS.icmpNo X42.here hx rfl (hb hby d11_21) rfl (XT.ii_ne_f q21_43)) ?_
          show Go p e below T42 (mkF m 24 #[.val (.ref t), .val (.int (1 : Int32)), .val (.int (4 : Int32)), .val (.int t4)] []) _
          refine stp (fun _ => XS.iloadN X42.here hx rfl (hb hby d11_24) rfl) ?_
          show Go p e below T42 (mkF m 25 #[.val (.ref t), .val (.int (1 : Int32)), .val (.int (4 : Int32)), .val (.int t4)] [(.int (4 : Int32))]) _
          refine stp (fun _ => XS.iconst X42.here hx rfl (hb hby d11_25)) ?_
          show Go p e below T42 (mkF m 26 #[.val (.ref t), .val (.int (1 : Int32)), .val (.int (4 : Int32)), .val (.int t4)] [(.int (1 : Int32)), (.int (4 : Int32))]) _
          refine stp (fun _ => XS.iadd X42.here hx rfl (hb hby d11_26) rfl) ?_
          show Go p e below T42 (mkF m 27 #[.val (.ref t), .val (.int (1 : Int32)), .val (.int (4 : Int32)), .val (.int t4)] [(.int (5 : Int32))]) _
          refine outI X42 hx hret (hb hby d11_27) hlk (by decide) (by decide) ?_
          exact ⟨own_somei (by rw [own_e_1]; simp only [own_e1, own_e2, own_e3, own_e4, if_neg q21_39, if_pos q32_40, if_pos q21_43]), N42, e42⟩
        · refine stp (fun _ => XS.icmpYes X42.here hx rfl (pc0 := 21) (pc' := 28) rfl (hb hby d11_21) rfl (XT.ii_ne_t q21_43) (by decide) (by decide)) ?_
          show Go p e below T42 (mkF m 28 #[.val (.ref t), .val (.int (1 : Int32)), .val (.int (4 : Int32)), .val (.int t4)] []) _
          refine stp (fun _ => XS.iloadN X42.here hx rfl (hb hby d11_28) rfl) ?_
          show Go p e below T42 (mkF m 29 #[.val (.ref t), .val (.int (1 : Int32)), .val (.int (4 : Int32)), .val (.int t4)] [(.int (4 : Int32))]) _
          refine stp (fun _ => XS.iloadN X42.here hx rfl (hb hby d11_29) rfl) ?_
          show Go p e below T42 (mkF m 30 #[.val (.ref t), .val (.int (1 : Int32)), .val (.int (4 : Int32)), .val (.int t4)] [(.int t4), (.int (4 : Int32))]) _
          refine stp (fun _ => XS.bipush X42.here hx rfl (hb hby d11_30)) ?_
          show Go p e below T42 (mkF m 32 #[.val (.ref t), .val (.int (1 : Int32)), .val (.int (4 : Int32)), .val (.int t4)] [(.int (92 : Int32)), (.int t4), (.int (4 : Int32))]) _
          by_cases q32_44 : t4 = (92 : Int32)
          · refine stp (fun _ => XS.icmpNo X42.here hx rfl (hb hby d11_32) rfl (XT.ii_ne_f q32_44)) ?_
            show Go p e below T42 (mkF m 35 #[.val (.ref t), .val (.int (1 : Int32)), .val (.int (4 : Int32)), .val (.int t4)] [(.int (4 : Int32))]) _
            refine stp (fun _ => XS.iconst X42.here hx rfl (hb hby d11_35)) ?_
            show Go p e below T42 (mkF m 36 #[.val (.ref t), .val (.int (1 : Int32)), .val (.int (4 : Int32)), .val (.int t4)] [(.int (2 : Int32)), (.int (4 : Int32))]) _
            refine stp (fun _ => XS.goto X42.here hx rfl (pc0 := 36) (pc' := 40) rfl (hb hby d11_36) (by decide) (by decide)) ?_
            show Go p e below T42 (mkF m 40 #[.val (.ref t), .val (.int (1 : Int32)), .val (.int (4 : Int32)), .val (.int t4)] [(.int (2 : Int32)), (.int (4 : Int32))]) _
            refine stp (fun _ => XS.iadd X42.here hx rfl (hb hby d11_40) rfl) ?_
            show Go p e below T42 (mkF m 41 #[.val (.ref t), .val (.int (1 : Int32)), .val (.int (4 : Int32)), .val (.int t4)] [(.int (6 : Int32))]) _
            refine stp (fun _ => XS.istoreN X42.here hx rfl (hb hby d11_41) rfl (l' := #[.val (.ref t), .val (.int (1 : Int32)), .val (.int (6 : Int32)), .val (.int t4)]) rfl) ?_
            show Go p e below T42 (mkF m 42 #[.val (.ref t), .val (.int (1 : Int32)), .val (.int (6 : Int32)), .val (.int t4)] []) _
            refine stp (fun _ => XS.goto X42.here hx rfl (pc0 := 42) (pc' := 4) rfl (hb hby d11_42) (by decide) (by decide)) ?_
            show Go p e below T42 (mkF m 4 #[.val (.ref t), .val (.int (1 : Int32)), .val (.int (6 : Int32)), .val (.int t4)] []) _
            refine stp (fun _ => XS.iloadN X42.here hx rfl (hb hby d11_4) rfl) ?_
            show Go p e below T42 (mkF m 5 #[.val (.ref t), .val (.int (1 : Int32)), .val (.int (6 : Int32)), .val (.int t4)] [(.int (6 : Int32))]) _
            refine stp (fun _ => XS.aloadN X42.here hx rfl (hb hby d11_5) rfl rfl) ?_
            show Go p e below T42 (mkF m 6 #[.val (.ref t), .val (.int (1 : Int32)), .val (.int (6 : Int32)), .val (.int t4)] [(.ref t), (.int (6 : Int32))]) _
            obtain ⟨cq45, kq45, q45a, q45b, q45c⟩ := isOf hZ e42 Q_t.exa
            obtain ⟨_, _, ⟨T45, L45, k45, n45⟩, -, X45, ⟨Lc45, hQ45, l45, y45, z45⟩, st45⟩ := X42.virtualBack hx (y := (⟨"java/lang/String", "length", "()I"⟩ : MethodName)) (z := (⟨"java/lang/String", "length", "()I"⟩ : MethodName)) hown (mvT hZ (hw _ (List.mem_of_getElem? (i := 48) rfl))) (mvT hZ (hw _ (List.mem_of_getElem? (i := 49) rfl))) (notFace_of_selects (args := #[]) (mvT hZ (hw _ (List.mem_of_getElem? (i := 51) rfl)))) (mvT hZ (hw _ (List.mem_of_getElem? (i := 51) rfl))) (mvT hZ (hw _ (List.mem_of_getElem? (i := 50) rfl))) (by decide) (backOf (W := 1) (rm_ulen l Z a0 hw [] t ([t0, t1, t2, t3, t4] : List Int32) cz h0 n0 O0 Q_t S_COMPACT_STRINGS hcz) hZ (hw _ (List.mem_of_getElem? (i := 52) rfl)) (hw _ (List.mem_of_getElem? (i := 17) rfl)) (by decide) (by decide)) q45a q45c (g := (mkF m 6 #[.val (.ref t), .val (.int (1 : Int32)), .val (.int (6 : Int32)), .val (.int t4)] [(.ref t), (.int (6 : Int32))])) rfl (by rw [hml]; rfl) (Steps.refl _) (argsL := []) (rest := [(.int (6 : Int32))]) (lenOf pd_15 rfl) rfl (by show 2 * 0 + _ ≤ _; exact Nat.le_of_eq rfl) (hb hby d11_6) (fun _ _ => ⟨rfl, e42, (by decide : 0 + 0 ≤ _), (by decide : 0 + 0 ≤ _)⟩)
            dsimp only [Pt.U, Pt.locs, Pt.cells, Pt.slots] at X45 l45 y45 z45 st45 hQ45
            subst y45 z45
            obtain ⟨rfl, N45q, e45⟩ := hQ45
            have N45 : Fr n0 L45 := by rw [l45]; exact Fr.app N42 N45q
            refine stt st45 ?_
            show Go p e below T45 (mkF m 9 #[.val (.ref t), .val (.int (1 : Int32)), .val (.int (6 : Int32)), .val (.int t4)] [(.int (5 : Int32)), (.int (6 : Int32))]) _
            refine stp (fun _ => XS.icmpYes X45.here hx rfl (pc0 := 9) (pc' := 45) rfl (hb hby d11_9) rfl (by decide) (by decide) (by decide)) ?_
            show Go p e below T45 (mkF m 45 #[.val (.ref t), .val (.int (1 : Int32)), .val (.int (6 : Int32)), .val (.int t4)] []) _
            refine stp (fun _ => XS.iconst X45.here hx rfl (hb hby d11_45)) ?_
            show Go p e below T45 (mkF m 46 #[.val (.ref t), .val (.int (1 : Int32)), .val (.int (6 : Int32)), .val (.int t4)] [(.int (-1 : Int32))]) _
            refine outI X45 hx hret (hb hby d11_46) hlk (by decide) (by decide) ?_
            exact ⟨own_somei (by rw [own_e_1]; simp only [own_e1, own_e2, own_e3, own_e4, if_neg q21_39, if_pos q32_40, if_neg q21_43, if_pos q32_44]), N45, e45⟩
          · refine stp (fun _ => XS.icmpYes X42.here hx rfl (pc0 := 32) (pc' := 39) rfl (hb hby d11_32) rfl (XT.ii_ne_t q32_44) (by decide) (by decide)) ?_
            show Go p e below T42 (mkF m 39 #[.val (.ref t), .val (.int (1 : Int32)), .val (.int (4 : Int32)), .val (.int t4)] [(.int (4 : Int32))]) _
            refine stp (fun _ => XS.iconst X42.here hx rfl (hb hby d11_39)) ?_
            show Go p e below T42 (mkF m 40 #[.val (.ref t), .val (.int (1 : Int32)), .val (.int (4 : Int32)), .val (.int t4)] [(.int (1 : Int32)), (.int (4 : Int32))]) _
            refine stp (fun _ => XS.iadd X42.here hx rfl (hb hby d11_40) rfl) ?_
            show Go p e below T42 (mkF m 41 #[.val (.ref t), .val (.int (1 : Int32)), .val (.int (4 : Int32)), .val (.int t4)] [(.int (5 : Int32))]) _
            refine stp (fun _ => XS.istoreN X42.here hx rfl (hb hby d11_41) rfl (l' := #[.val (.ref t), .val (.int (1 : Int32)), .val (.int (5 : Int32)), .val (.int t4)]) rfl) ?_
            show Go p e below T42 (mkF m 42 #[.val (.ref t), .val (.int (1 : Int32)), .val (.int (5 : Int32)), .val (.int t4)] []) _
            refine stp (fun _ => XS.goto X42.here hx rfl (pc0 := 42) (pc' := 4) rfl (hb hby d11_42) (by decide) (by decide)) ?_
            show Go p e below T42 (mkF m 4 #[.val (.ref t), .val (.int (1 : Int32)), .val (.int (5 : Int32)), .val (.int t4)] []) _
            refine stp (fun _ => XS.iloadN X42.here hx rfl (hb hby d11_4) rfl) ?_
            show Go p e below T42 (mkF m 5 #[.val (.ref t), .val (.int (1 : Int32)), .val (.int (5 : Int32)), .val (.int t4)] [(.int (5 : Int32))]) _
            refine stp (fun _ => XS.aloadN X42.here hx rfl (hb hby d11_5) rfl rfl) ?_
            show Go p e below T42 (mkF m 6 #[.val (.ref t), .val (.int (1 : Int32)), .val (.int (5 : Int32)), .val (.int t4)] [(.ref t), (.int (5 : Int32))]) _
            obtain ⟨cq46, kq46, q46a, q46b, q46c⟩ := isOf hZ e42 Q_t.exa
            obtain ⟨_, _, ⟨T46, L46, k46, n46⟩, -, X46, ⟨Lc46, hQ46, l46, y46, z46⟩, st46⟩ := X42.virtualBack hx (y := (⟨"java/lang/String", "length", "()I"⟩ : MethodName)) (z := (⟨"java/lang/String", "length", "()I"⟩ : MethodName)) hown (mvT hZ (hw _ (List.mem_of_getElem? (i := 48) rfl))) (mvT hZ (hw _ (List.mem_of_getElem? (i := 49) rfl))) (notFace_of_selects (args := #[]) (mvT hZ (hw _ (List.mem_of_getElem? (i := 51) rfl)))) (mvT hZ (hw _ (List.mem_of_getElem? (i := 51) rfl))) (mvT hZ (hw _ (List.mem_of_getElem? (i := 50) rfl))) (by decide) (backOf (W := 1) (rm_ulen l Z a0 hw [] t ([t0, t1, t2, t3, t4] : List Int32) cz h0 n0 O0 Q_t S_COMPACT_STRINGS hcz) hZ (hw _ (List.mem_of_getElem? (i := 52) rfl)) (hw _ (List.mem_of_getElem? (i := 17) rfl)) (by decide) (by decide)) q46a q46c (g := (mkF m 6 #[.val (.ref t), .val (.int (1 : Int32)), .val (.int (5 : Int32)), .val (.int t4)] [(.ref t), (.int (5 : Int32))])) rfl (by rw [hml]; rfl) (Steps.refl _) (argsL := []) (rest := [(.int (5 : Int32))]) (lenOf pd_15 rfl) rfl (by show 2 * 0 + _ ≤ _; exact Nat.le_of_eq rfl) (hb hby d11_6) (fun _ _ => ⟨rfl, e42, (by decide : 0 + 0 ≤ _), (by decide : 0 + 0 ≤ _)⟩)
            dsimp only [Pt.U, Pt.locs, Pt.cells, Pt.slots] at X46 l46 y46 z46 st46 hQ46
            subst y46 z46
            obtain ⟨rfl, N46q, e46⟩ := hQ46
            have N46 : Fr n0 L46 := by rw [l46]; exact Fr.app N42 N46q
            refine stt st46 ?_
            show Go p e below T46 (mkF m 9 #[.val (.ref t), .val (.int (1 : Int32)), .val (.int (5 : Int32)), .val (.int t4)] [(.int (5 : Int32)), (.int (5 : Int32))]) _
            refine stp (fun _ => XS.icmpYes X46.here hx rfl (pc0 := 9) (pc' := 45) rfl (hb hby d11_9) rfl (by decide) (by decide) (by decide)) ?_
            show Go p e below T46 (mkF m 45 #[.val (.ref t), .val (.int (1 : Int32)), .val (.int (5 : Int32)), .val (.int t4)] []) _
            refine stp (fun _ => XS.iconst X46.here hx rfl (hb hby d11_45)) ?_
            show Go p e below T46 (mkF m 46 #[.val (.ref t), .val (.int (1 : Int32)), .val (.int (5 : Int32)), .val (.int t4)] [(.int (-1 : Int32))]) _
            refine outI X46 hx hret (hb hby d11_46) hlk (by decide) (by decide) ?_
            exact ⟨own_somei (by rw [own_e_1]; simp only [own_e1, own_e2, own_e3, own_e4, if_neg q21_39, if_pos q32_40, if_neg q21_43, if_neg q32_44]), N46, e46⟩
      · refine stp (fun _ => XS.icmpYes X38.here hx rfl (pc0 := 32) (pc' := 39) rfl (hb hby d11_32) rfl (XT.ii_ne_t q32_40) (by decide) (by decide)) ?_
        show Go p e below T38 (mkF m 39 #[.val (.ref t), .val (.int (1 : Int32)), .val (.int (2 : Int32)), .val (.int t2)] [(.int (2 : Int32))]) _
        refine stp (fun _ => XS.iconst X38.here hx rfl (hb hby d11_39)) ?_
        show Go p e below T38 (mkF m 40 #[.val (.ref t), .val (.int (1 : Int32)), .val (.int (2 : Int32)), .val (.int t2)] [(.int (1 : Int32)), (.int (2 : Int32))]) _
        refine stp (fun _ => XS.iadd X38.here hx rfl (hb hby d11_40) rfl) ?_
        show Go p e below T38 (mkF m 41 #[.val (.ref t), .val (.int (1 : Int32)), .val (.int (2 : Int32)), .val (.int t2)] [(.int (3 : Int32))]) _
        refine stp (fun _ => XS.istoreN X38.here hx rfl (hb hby d11_41) rfl (l' := #[.val (.ref t), .val (.int (1 : Int32)), .val (.int (3 : Int32)), .val (.int t2)]) rfl) ?_
        show Go p e below T38 (mkF m 42 #[.val (.ref t), .val (.int (1 : Int32)), .val (.int (3 : Int32)), .val (.int t2)] []) _
        refine stp (fun _ => XS.goto X38.here hx rfl (pc0 := 42) (pc' := 4) rfl (hb hby d11_42) (by decide) (by decide)) ?_
        show Go p e below T38 (mkF m 4 #[.val (.ref t), .val (.int (1 : Int32)), .val (.int (3 : Int32)), .val (.int t2)] []) _
        refine stp (fun _ => XS.iloadN X38.here hx rfl (hb hby d11_4) rfl) ?_
        show Go p e below T38 (mkF m 5 #[.val (.ref t), .val (.int (1 : Int32)), .val (.int (3 : Int32)), .val (.int t2)] [(.int (3 : Int32))]) _
        refine stp (fun _ => XS.aloadN X38.here hx rfl (hb hby d11_5) rfl rfl) ?_
        show Go p e below T38 (mkF m 6 #[.val (.ref t), .val (.int (1 : Int32)), .val (.int (3 : Int32)), .val (.int t2)] [(.ref t), (.int (3 : Int32))]) _
        obtain ⟨cq47, kq47, q47a, q47b, q47c⟩ := isOf hZ e38 Q_t.exa
        obtain ⟨_, _, ⟨T47, L47, k47, n47⟩, -, X47, ⟨Lc47, hQ47, l47, y47, z47⟩, st47⟩ := X38.virtualBack hx (y := (⟨"java/lang/String", "length", "()I"⟩ : MethodName)) (z := (⟨"java/lang/String", "length", "()I"⟩ : MethodName)) hown (mvT hZ (hw _ (List.mem_of_getElem? (i := 48) rfl))) (mvT hZ (hw _ (List.mem_of_getElem? (i := 49) rfl))) (notFace_of_selects (args := #[]) (mvT hZ (hw _ (List.mem_of_getElem? (i := 51) rfl)))) (mvT hZ (hw _ (List.mem_of_getElem? (i := 51) rfl))) (mvT hZ (hw _ (List.mem_of_getElem? (i := 50) rfl))) (by decide) (backOf (W := 1) (rm_ulen l Z a0 hw [] t ([t0, t1, t2, t3, t4] : List Int32) cz h0 n0 O0 Q_t S_COMPACT_STRINGS hcz) hZ (hw _ (List.mem_of_getElem? (i := 52) rfl)) (hw _ (List.mem_of_getElem? (i := 17) rfl)) (by decide) (by decide)) q47a q47c (g := (mkF m 6 #[.val (.ref t), .val (.int (1 : Int32)), .val (.int (3 : Int32)), .val (.int t2)] [(.ref t), (.int (3 : Int32))])) rfl (by rw [hml]; rfl) (Steps.refl _) (argsL := []) (rest := [(.int (3 : Int32))]) (lenOf pd_15 rfl) rfl (by show 2 * 0 + _ ≤ _; exact Nat.le_of_eq rfl) (hb hby d11_6) (fun _ _ => ⟨rfl, e38, (by decide : 0 + 0 ≤ _), (by decide : 0 + 0 ≤ _)⟩)
        dsimp only [Pt.U, Pt.locs, Pt.cells, Pt.slots] at X47 l47 y47 z47 st47 hQ47
        subst y47 z47
        obtain ⟨rfl, N47q, e47⟩ := hQ47
        have N47 : Fr n0 L47 := by rw [l47]; exact Fr.app N38 N47q
        refine stt st47 ?_
        show Go p e below T47 (mkF m 9 #[.val (.ref t), .val (.int (1 : Int32)), .val (.int (3 : Int32)), .val (.int t2)] [(.int (5 : Int32)), (.int (3 : Int32))]) _
        refine stp (fun _ => XS.icmpNo X47.here hx rfl (hb hby d11_9) rfl (by decide)) ?_
        show Go p e below T47 (mkF m 12 #[.val (.ref t), .val (.int (1 : Int32)), .val (.int (3 : Int32)), .val (.int t2)] []) _
        refine stp (fun _ => XS.aloadN X47.here hx rfl (hb hby d11_12) rfl rfl) ?_
        show Go p e below T47 (mkF m 13 #[.val (.ref t), .val (.int (1 : Int32)), .val (.int (3 : Int32)), .val (.int t2)] [(.ref t)]) _
        refine stp (fun _ => XS.iloadN X47.here hx rfl (hb hby d11_13) rfl) ?_
        show Go p e below T47 (mkF m 14 #[.val (.ref t), .val (.int (1 : Int32)), .val (.int (3 : Int32)), .val (.int t2)] [(.int (3 : Int32)), (.ref t)]) _
        obtain ⟨cq48, kq48, q48a, q48b, q48c⟩ := isOf hZ e47 Q_t.exa
        obtain ⟨_, _, ⟨T48, L48, k48, n48⟩, -, X48, ⟨Lc48, hQ48, l48, y48, z48⟩, st48⟩ := X47.virtualBack hx (y := (⟨"java/lang/String", "charAt", "(I)C"⟩ : MethodName)) (z := (⟨"java/lang/String", "charAt", "(I)C"⟩ : MethodName)) hown (mvT hZ (hw _ (List.mem_of_getElem? (i := 58) rfl))) (mvT hZ (hw _ (List.mem_of_getElem? (i := 59) rfl))) (notFace_of_selects (args := #[]) (mvT hZ (hw _ (List.mem_of_getElem? (i := 61) rfl)))) (mvT hZ (hw _ (List.mem_of_getElem? (i := 61) rfl))) (mvT hZ (hw _ (List.mem_of_getElem? (i := 60) rfl))) (by decide) (backOf (W := 0) (rm_uch l Z a0 hw [] t (3 : Int32) ([t0, t1, t2, t3, t4] : List Int32) cz fm 3 h0 n0 O0 Q_t S_COMPACT_STRINGS S_SIOOBE_FORMATTER S__assertionsDisabled S_HI_BYTE_SHIFT S_LO_BYTE_SHIFT hcz hfm (by decide) (Nat.le_of_ble_eq_true rfl)) hZ (hw _ (List.mem_of_getElem? (i := 62) rfl)) (hw _ (List.mem_of_getElem? (i := 17) rfl)) (by decide) (by decide)) q48a q48c (g := (mkF m 14 #[.val (.ref t), .val (.int (1 : Int32)), .val (.int (3 : Int32)), .val (.int t2)] [(.int (3 : Int32)), (.ref t)])) rfl (by rw [hml]; rfl) (Steps.refl _) (argsL := [(.int (3 : Int32))]) (rest := []) (lenOf pd_16 rfl) rfl (by show 2 * 0 + _ ≤ _; exact Nat.le_of_eq rfl) (hb hby d11_14) (fun _ _ => ⟨rfl, e47, (by decide : 0 + 0 ≤ _), (by decide : 0 + 0 ≤ _)⟩)
        dsimp only [Pt.U, Pt.locs, Pt.cells, Pt.slots] at X48 l48 y48 z48 st48 hQ48
        subst y48 z48
        obtain ⟨rfl, N48q, e48⟩ := hQ48
        have N48 : Fr n0 L48 := by rw [l48]; exact Fr.app N47 N48q
        refine stt st48 ?_
        show Go p e below T48 (mkF m 17 #[.val (.ref t), .val (.int (1 : Int32)), .val (.int (3 : Int32)), .val (.int t2)] [(.int t3)]) _
        refine stp (fun _ => XS.istoreN X48.here hx rfl (hb hby d11_17) rfl (l' := #[.val (.ref t), .val (.int (1 : Int32)), .val (.int (3 : Int32)), .val (.int t3)]) rfl) ?_
        show Go p e below T48 (mkF m 18 #[.val (.ref t), .val (.int (1 : Int32)), .val (.int (3 : Int32)), .val (.int t3)] []) _
        refine stp (fun _ => XS.iloadN X48.here hx rfl (hb hby d11_18) rfl) ?_
        show Go p e below T48 (mkF m 19 #[.val (.ref t), .val (.int (1 : Int32)), .val (.int (3 : Int32)), .val (.int t3)] [(.int t3)]) _
        refine stp (fun _ => XS.bipush X48.here hx rfl (hb hby d11_19)) ?_
        show Go p e below T48 (mkF m 21 #[.val (.ref t), .val (.int (1 : Int32)), .val (.int (3 : Int32)), .val (.int t3)] [(.int (34 : Int32)), (.int t3)]) _
        by_cases q21_49 : t3 = (34 : Int32)
        · refine stp (fun _ => XS.icmpNo X48.here hx rfl (hb hby d11_21) rfl (XT.ii_ne_f q21_49)) ?_
          show Go p e below T48 (mkF m 24 #[.val (.ref t), .val (.int (1 : Int32)), .val (.int (3 : Int32)), .val (.int t3)] []) _
          refine stp (fun _ => XS.iloadN X48.here hx rfl (hb hby d11_24) rfl) ?_
          show Go p e below T48 (mkF m 25 #[.val (.ref t), .val (.int (1 : Int32)), .val (.int (3 : Int32)), .val (.int t3)] [(.int (3 : Int32))]) _
          refine stp (fun _ => XS.iconst X48.here hx rfl (hb hby d11_25)) ?_
          show Go p e below T48 (mkF m 26 #[.val (.ref t), .val (.int (1 : Int32)), .val (.int (3 : Int32)), .val (.int t3)] [(.int (1 : Int32)), (.int (3 : Int32))]) _
          refine stp (fun _ => XS.iadd X48.here hx rfl (hb hby d11_26) rfl) ?_
          show Go p e below T48 (mkF m 27 #[.val (.ref t), .val (.int (1 : Int32)), .val (.int (3 : Int32)), .val (.int t3)] [(.int (4 : Int32))]) _
          refine outI X48 hx hret (hb hby d11_27) hlk (by decide) (by decide) ?_
          exact ⟨own_somei (by rw [own_e_1]; simp only [own_e1, own_e2, own_e3, own_e4, if_neg q21_39, if_neg q32_40, if_pos q21_49]), N48, e48⟩
        · refine stp (fun _ => XS.icmpYes X48.here hx rfl (pc0 := 21) (pc' := 28) rfl (hb hby d11_21) rfl (XT.ii_ne_t q21_49) (by decide) (by decide)) ?_
          show Go p e below T48 (mkF m 28 #[.val (.ref t), .val (.int (1 : Int32)), .val (.int (3 : Int32)), .val (.int t3)] []) _
          refine stp (fun _ => XS.iloadN X48.here hx rfl (hb hby d11_28) rfl) ?_
          show Go p e below T48 (mkF m 29 #[.val (.ref t), .val (.int (1 : Int32)), .val (.int (3 : Int32)), .val (.int t3)] [(.int (3 : Int32))]) _
          refine stp (fun _ => XS.iloadN X48.here hx rfl (hb hby d11_29) rfl) ?_
          show Go p e below T48 (mkF m 30 #[.val (.ref t), .val (.int (1 : Int32)), .val (.int (3 : Int32)), .val (.int t3)] [(.int t3), (.int (3 : Int32))]) _
          refine stp (fun _ => XS.bipush X48.here hx rfl (hb hby d11_30)) ?_
          show Go p e below T48 (mkF m 32 #[.val (.ref t), .val (.int (1 : Int32)), .val (.int (3 : Int32)), .val (.int t3)] [(.int (92 : Int32)), (.int t3), (.int (3 : Int32))]) _
          by_cases q32_50 : t3 = (92 : Int32)
          · refine stp (fun _ => XS.icmpNo X48.here hx rfl (hb hby d11_32) rfl (XT.ii_ne_f q32_50)) ?_
            show Go p e below T48 (mkF m 35 #[.val (.ref t), .val (.int (1 : Int32)), .val (.int (3 : Int32)), .val (.int t3)] [(.int (3 : Int32))]) _
            refine stp (fun _ => XS.iconst X48.here hx rfl (hb hby d11_35)) ?_
            show Go p e below T48 (mkF m 36 #[.val (.ref t), .val (.int (1 : Int32)), .val (.int (3 : Int32)), .val (.int t3)] [(.int (2 : Int32)), (.int (3 : Int32))]) _
            refine stp (fun _ => XS.goto X48.here hx rfl (pc0 := 36) (pc' := 40) rfl (hb hby d11_36) (by decide) (by decide)) ?_
            show Go p e below T48 (mkF m 40 #[.val (.ref t), .val (.int (1 : Int32)), .val (.int (3 : Int32)), .val (.int t3)] [(.int (2 : Int32)), (.int (3 : Int32))]) _
            refine stp (fun _ => XS.iadd X48.here hx rfl (hb hby d11_40) rfl) ?_
            show Go p e below T48 (mkF m 41 #[.val (.ref t), .val (.int (1 : Int32)), .val (.int (3 : Int32)), .val (.int t3)] [(.int (5 : Int32))]) _
            refine stp (fun _ => XS.istoreN X48.here hx rfl (hb hby d11_41) rfl (l' := #[.val (.ref t), .val (.int (1 : Int32)), .val (.int (5 : Int32)), .val (.int t3)]) rfl) ?_
            show Go p e below T48 (mkF m 42 #[.val (.ref t), .val (.int (1 : Int32)), .val (.int (5 : Int32)), .val (.int t3)] []) _
            refine stp (fun _ => XS.goto X48.here hx rfl (pc0 := 42) (pc' := 4) rfl (hb hby d11_42) (by decide) (by decide)) ?_
            show Go p e below T48 (mkF m 4 #[.val (.ref t), .val (.int (1 : Int32)), .val (.int (5 : Int32)), .val (.int t3)] []) _
            refine stp (fun _ => XS.iloadN X48.here hx rfl (hb hby d11_4) rfl) ?_
            show Go p e below T48 (mkF m 5 #[.val (.ref t), .val (.int (1 : Int32)), .val (.int (5 : Int32)), .val (.int t3)] [(.int (5 : Int32))]) _
            refine stp (fun _ => XS.aloadN X48.here hx rfl (hb hby d11_5) rfl rfl) ?_
            show Go p e below T48 (mkF m 6 #[.val (.ref t), .val (.int (1 : Int32)), .val (.int (5 : Int32)), .val (.int t3)] [(.ref t), (.int (5 : Int32))]) _
            obtain ⟨cq51, kq51, q51a, q51b, q51c⟩ := isOf hZ e48 Q_t.exa
            obtain ⟨_, _, ⟨T51, L51, k51, n51⟩, -, X51, ⟨Lc51, hQ51, l51, y51, z51⟩, st51⟩ := X48.virtualBack hx (y := (⟨"java/lang/String", "length", "()I"⟩ : MethodName)) (z := (⟨"java/lang/String", "length", "()I"⟩ : MethodName)) hown (mvT hZ (hw _ (List.mem_of_getElem? (i := 48) rfl))) (mvT hZ (hw _ (List.mem_of_getElem? (i := 49) rfl))) (notFace_of_selects (args := #[]) (mvT hZ (hw _ (List.mem_of_getElem? (i := 51) rfl)))) (mvT hZ (hw _ (List.mem_of_getElem? (i := 51) rfl))) (mvT hZ (hw _ (List.mem_of_getElem? (i := 50) rfl))) (by decide) (backOf (W := 1) (rm_ulen l Z a0 hw [] t ([t0, t1, t2, t3, t4] : List Int32) cz h0 n0 O0 Q_t S_COMPACT_STRINGS hcz) hZ (hw _ (List.mem_of_getElem? (i := 52) rfl)) (hw _ (List.mem_of_getElem? (i := 17) rfl)) (by decide) (by decide)) q51a q51c (g := (mkF m 6 #[.val (.ref t), .val (.int (1 : Int32)), .val (.int (5 : Int32)), .val (.int t3)] [(.ref t), (.int (5 : Int32))])) rfl (by rw [hml]; rfl) (Steps.refl _) (argsL := []) (rest := [(.int (5 : Int32))]) (lenOf pd_15 rfl) rfl (by show 2 * 0 + _ ≤ _; exact Nat.le_of_eq rfl) (hb hby d11_6) (fun _ _ => ⟨rfl, e48, (by decide : 0 + 0 ≤ _), (by decide : 0 + 0 ≤ _)⟩)
            dsimp only [Pt.U, Pt.locs, Pt.cells, Pt.slots] at X51 l51 y51 z51 st51 hQ51
            subst y51 z51
            obtain ⟨rfl, N51q, e51⟩ := hQ51
            have N51 : Fr n0 L51 := by rw [l51]; exact Fr.app N48 N51q
            refine stt st51 ?_
            show Go p e below T51 (mkF m 9 #[.val (.ref t), .val (.int (1 : Int32)), .val (.int (5 : Int32)), .val (.int t3)] [(.int (5 : Int32)), (.int (5 : Int32))]) _
            refine stp (fun _ => XS.icmpYes X51.here hx rfl (pc0 := 9) (pc' := 45) rfl (hb hby d11_9) rfl (by decide) (by decide) (by decide)) ?_
            show Go p e below T51 (mkF m 45 #[.val (.ref t), .val (.int (1 : Int32)), .val (.int (5 : Int32)), .val (.int t3)] []) _
            refine stp (fun _ => XS.iconst X51.here hx rfl (hb hby d11_45)) ?_
            show Go p e below T51 (mkF m 46 #[.val (.ref t), .val (.int (1 : Int32)), .val (.int (5 : Int32)), .val (.int t3)] [(.int (-1 : Int32))]) _
            refine outI X51 hx hret (hb hby d11_46) hlk (by decide) (by decide) ?_
            exact ⟨own_somei (by rw [own_e_1]; simp only [own_e1, own_e2, own_e3, own_e4, if_neg q21_39, if_neg q32_40, if_neg q21_49, if_pos q32_50]), N51, e51⟩
          · refine stp (fun _ => XS.icmpYes X48.here hx rfl (pc0 := 32) (pc' := 39) rfl (hb hby d11_32) rfl (XT.ii_ne_t q32_50) (by decide) (by decide)) ?_
            show Go p e below T48 (mkF m 39 #[.val (.ref t), .val (.int (1 : Int32)), .val (.int (3 : Int32)), .val (.int t3)] [(.int (3 : Int32))]) _
            refine stp (fun _ => XS.iconst X48.here hx rfl (hb hby d11_39)) ?_
            show Go p e below T48 (mkF m 40 #[.val (.ref t), .val (.int (1 : Int32)), .val (.int (3 : Int32)), .val (.int t3)] [(.int (1 : Int32)), (.int (3 : Int32))]) _
            refine stp (fun _ => XS.iadd X48.here hx rfl (hb hby d11_40) rfl) ?_
            show Go p e below T48 (mkF m 41 #[.val (.ref t), .val (.int (1 : Int32)), .val (.int (3 : Int32)), .val (.int t3)] [(.int (4 : Int32))]) _
            refine stp (fun _ => XS.istoreN X48.here hx rfl (hb hby d11_41) rfl (l' := #[.val (.ref t), .val (.int (1 : Int32)), .val (.int (4 : Int32)), .val (.int t3)]) rfl) ?_
            show Go p e below T48 (mkF m 42 #[.val (.ref t), .val (.int (1 : Int32)), .val (.int (4 : Int32)), .val (.int t3)] []) _
            refine stp (fun _ => XS.goto X48.here hx rfl (pc0 := 42) (pc' := 4) rfl (hb hby d11_42) (by decide) (by decide)) ?_
            show Go p e below T48 (mkF m 4 #[.val (.ref t), .val (.int (1 : Int32)), .val (.int (4 : Int32)), .val (.int t3)] []) _
            refine stp (fun _ => XS.iloadN X48.here hx rfl (hb hby d11_4) rfl) ?_
            show Go p e below T48 (mkF m 5 #[.val (.ref t), .val (.int (1 : Int32)), .val (.int (4 : Int32)), .val (.int t3)] [(.int (4 : Int32))]) _
            refine stp (fun _ => XS.aloadN X48.here hx rfl (hb hby d11_5) rfl rfl) ?_
            show Go p e below T48 (mkF m 6 #[.val (.ref t), .val (.int (1 : Int32)), .val (.int (4 : Int32)), .val (.int t3)] [(.ref t), (.int (4 : Int32))]) _
            obtain ⟨cq52, kq52, q52a, q52b, q52c⟩ := isOf hZ e48 Q_t.exa
            obtain ⟨_, _, ⟨T52, L52, k52, n52⟩, -, X52, ⟨Lc52, hQ52, l52, y52, z52⟩, st52⟩ := X48.virtualBack hx (y := (⟨"java/lang/String", "length", "()I"⟩ : MethodName)) (z := (⟨"java/lang/String", "length", "()I"⟩ : MethodName)) hown (mvT hZ (hw _ (List.mem_of_getElem? (i := 48) rfl))) (mvT hZ (hw _ (List.mem_of_getElem? (i := 49) rfl))) (notFace_of_selects (args := #[]) (mvT hZ (hw _ (List.mem_of_getElem? (i := 51) rfl)))) (mvT hZ (hw _ (List.mem_of_getElem? (i := 51) rfl))) (mvT hZ (hw _ (List.mem_of_getElem? (i := 50) rfl))) (by decide) (backOf (W := 1) (rm_ulen l Z a0 hw [] t ([t0, t1, t2, t3, t4] : List Int32) cz h0 n0 O0 Q_t S_COMPACT_STRINGS hcz) hZ (hw _ (List.mem_of_getElem? (i := 52) rfl)) (hw _ (List.mem_of_getElem? (i := 17) rfl)) (by decide) (by decide)) q52a q52c (g := (mkF m 6 #[.val (.ref t), .val (.int (1 : Int32)), .val (.int (4 : Int32)), .val (.int t3)] [(.ref t), (.int (4 : Int32))])) rfl (by rw [hml]; rfl) (Steps.refl _) (argsL := []) (rest := [(.int (4 : Int32))]) (lenOf pd_15 rfl) rfl (by show 2 * 0 + _ ≤ _; exact Nat.le_of_eq rfl) (hb hby d11_6) (fun _ _ => ⟨rfl, e48, (by decide : 0 + 0 ≤ _), (by decide : 0 + 0 ≤ _)⟩)
            dsimp only [Pt.U, Pt.locs, Pt.cells, Pt.slots] at X52 l52 y52 z52 st52 hQ52
            subst y52 z52
            obtain ⟨rfl, N52q, e52⟩ := hQ52
            have N52 : Fr n0 L52 := by rw [l52]; exact Fr.app N48 N52q
            refine stt st52 ?_
            show Go p e below T52 (mkF m 9 #[.val (.ref t), .val (.int (1 : Int32)), .val (.int (4 : Int32)), .val (.int t3)] [(.int (5 : Int32)), (.int (4 : Int32))]) _
            refine stp (fun _ => XS.icmpNo X52.here hx rfl (hb hby d11_9) rfl (by decide)) ?_
            show Go p e below T52 (mkF m 12 #[.val (.ref t), .val (.int (1 : Int32)), .val (.int (4 : Int32)), .val (.int t3)] []) _
            refine stp (fun _ => XS.aloadN X52.here hx rfl (hb hby d11_12) rfl rfl) ?_
            show Go p e below T52 (mkF m 13 #[.val (.ref t), .val (.int (1 : Int32)), .val (.int (4 : Int32)), .val (.int t3)] [(.ref t)]) _
            refine stp (fun _ => XS.iloadN X52.here hx rfl (hb hby d11_13) rfl) ?_
            show Go p e below T52 (mkF m 14 #[.val (.ref t), .val (.int (1 : Int32)), .val (.int (4 : Int32)), .val (.int t3)] [(.int (4 : Int32)), (.ref t)]) _
            obtain ⟨cq53, kq53, q53a, q53b, q53c⟩ := isOf hZ e52 Q_t.exa
            obtain ⟨_, _, ⟨T53, L53, k53, n53⟩, -, X53, ⟨Lc53, hQ53, l53, y53, z53⟩, st53⟩ := X52.virtualBack hx (y := (⟨"java/lang/String", "charAt", "(I)C"⟩ : MethodName)) (z := (⟨"java/lang/String", "charAt", "(I)C"⟩ : MethodName)) hown (mvT hZ (hw _ (List.mem_of_getElem? (i := 58) rfl))) (mvT hZ (hw _ (List.mem_of_getElem? (i := 59) rfl))) (notFace_of_selects (args := #[]) (mvT hZ (hw _ (List.mem_of_getElem? (i := 61) rfl)))) (mvT hZ (hw _ (List.mem_of_getElem? (i := 61) rfl))) (mvT hZ (hw _ (List.mem_of_getElem? (i := 60) rfl))) (by decide) (backOf (W := 0) (rm_uch l Z a0 hw [] t (4 : Int32) ([t0, t1, t2, t3, t4] : List Int32) cz fm 4 h0 n0 O0 Q_t S_COMPACT_STRINGS S_SIOOBE_FORMATTER S__assertionsDisabled S_HI_BYTE_SHIFT S_LO_BYTE_SHIFT hcz hfm (by decide) (Nat.le_of_ble_eq_true rfl)) hZ (hw _ (List.mem_of_getElem? (i := 62) rfl)) (hw _ (List.mem_of_getElem? (i := 17) rfl)) (by decide) (by decide)) q53a q53c (g := (mkF m 14 #[.val (.ref t), .val (.int (1 : Int32)), .val (.int (4 : Int32)), .val (.int t3)] [(.int (4 : Int32)), (.ref t)])) rfl (by rw [hml]; rfl) (Steps.refl _) (argsL := [(.int (4 : Int32))]) (rest := []) (lenOf pd_16 rfl) rfl (by show 2 * 0 + _ ≤ _; exact Nat.le_of_eq rfl) (hb hby d11_14) (fun _ _ => ⟨rfl, e52, (by decide : 0 + 0 ≤ _), (by decide : 0 + 0 ≤ _)⟩)
            dsimp only [Pt.U, Pt.locs, Pt.cells, Pt.slots] at X53 l53 y53 z53 st53 hQ53
            subst y53 z53
            obtain ⟨rfl, N53q, e53⟩ := hQ53
            have N53 : Fr n0 L53 := by rw [l53]; exact Fr.app N52 N53q
            refine stt st53 ?_
            show Go p e below T53 (mkF m 17 #[.val (.ref t), .val (.int (1 : Int32)), .val (.int (4 : Int32)), .val (.int t3)] [(.int t4)]) _
            refine stp (fun _ => XS.istoreN X53.here hx rfl (hb hby d11_17) rfl (l' := #[.val (.ref t), .val (.int (1 : Int32)), .val (.int (4 : Int32)), .val (.int t4)]) rfl) ?_
            show Go p e below T53 (mkF m 18 #[.val (.ref t), .val (.int (1 : Int32)), .val (.int (4 : Int32)), .val (.int t4)] []) _
            refine stp (fun _ => XS.iloadN X53.here hx rfl (hb hby d11_18) rfl) ?_
            show Go p e below T53 (mkF m 19 #[.val (.ref t), .val (.int (1 : Int32)), .val (.int (4 : Int32)), .val (.int t4)] [(.int t4)]) _
            refine stp (fun _ => XS.bipush X53.here hx rfl (hb hby d11_19)) ?_
            show Go p e below T53 (mkF m 21 #[.val (.ref t), .val (.int (1 : Int32)), .val (.int (4 : Int32)), .val (.int t4)] [(.int (34 : Int32)), (.int t4)]) _
            by_cases q21_54 : t4 = (34 : Int32)
            · refine stp (fun _ => XS.icmpNo X53.here hx rfl (hb hby d11_21) rfl (XT.ii_ne_f q21_54)) ?_
              show Go p e below T53 (mkF m 24 #[.val (.ref t), .val (.int (1 : Int32)), .val (.int (4 : Int32)), .val (.int t4)] []) _
              refine stp (fun _ => XS.iloadN X53.here hx rfl (hb hby d11_24) rfl) ?_
              show Go p e below T53 (mkF m 25 #[.val (.ref t), .val (.int (1 : Int32)), .val (.int (4 : Int32)), .val (.int t4)] [(.int (4 : Int32))]) _
              refine stp (fun _ => XS.iconst X53.here hx rfl (hb hby d11_25)) ?_
              show Go p e below T53 (mkF m 26 #[.val (.ref t), .val (.int (1 : Int32)), .val (.int (4 : Int32)), .val (.int t4)] [(.int (1 : Int32)), (.int (4 : Int32))]) _
              refine stp (fun _ => XS.iadd X53.here hx rfl (hb hby d11_26) rfl) ?_
              show Go p e below T53 (mkF m 27 #[.val (.ref t), .val (.int (1 : Int32)), .val (.int (4 : Int32)), .val (.int t4)] [(.int (5 : Int32))]) _
              refine outI X53 hx hret (hb hby d11_27) hlk (by decide) (by decide) ?_
              exact ⟨own_somei (by rw [own_e_1]; simp only [own_e1, own_e2, own_e3, own_e4, if_neg q21_39, if_neg q32_40, if_neg q21_49, if_neg q32_50, if_pos q21_54]), N53, e53⟩
            · refine stp (fun _ => XS.icmpYes X53.here hx rfl (pc0 := 21) (pc' := 28) rfl (hb hby d11_21) rfl (XT.ii_ne_t q21_54) (by decide) (by decide)) ?_
              show Go p e below T53 (mkF m 28 #[.val (.ref t), .val (.int (1 : Int32)), .val (.int (4 : Int32)), .val (.int t4)] []) _
              refine stp (fun _ => XS.iloadN X53.here hx rfl (hb hby d11_28) rfl) ?_
              show Go p e below T53 (mkF m 29 #[.val (.ref t), .val (.int (1 : Int32)), .val (.int (4 : Int32)), .val (.int t4)] [(.int (4 : Int32))]) _
              refine stp (fun _ => XS.iloadN X53.here hx rfl (hb hby d11_29) rfl) ?_
              show Go p e below T53 (mkF m 30 #[.val (.ref t), .val (.int (1 : Int32)), .val (.int (4 : Int32)), .val (.int t4)] [(.int t4), (.int (4 : Int32))]) _
              refine stp (fun _ => XS.bipush X53.here hx rfl (hb hby d11_30)) ?_
              show Go p e below T53 (mkF m 32 #[.val (.ref t), .val (.int (1 : Int32)), .val (.int (4 : Int32)), .val (.int t4)] [(.int (92 : Int32)), (.int t4), (.int (4 : Int32))]) _
              by_cases q32_55 : t4 = (92 : Int32)
              · refine stp (fun _ => XS.icmpNo X53.here hx rfl (hb hby d11_32) rfl (XT.ii_ne_f q32_55)) ?_
                show Go p e below T53 (mkF m 35 #[.val (.ref t), .val (.int (1 : Int32)), .val (.int (4 : Int32)), .val (.int t4)] [(.int (4 : Int32))]) _
                refine stp (fun _ => XS.iconst X53.here hx rfl (hb hby d11_35)) ?_
                show Go p e below T53 (mkF m 36 #[.val (.ref t), .val (.int (1 : Int32)), .val (.int (4 : Int32)), .val (.int t4)] [(.int (2 : Int32)), (.int (4 : Int32))]) _
                refine stp (fun _ => XS.goto X53.here hx rfl (pc0 := 36) (pc' := 40) rfl (hb hby d11_36) (by decide) (by decide)) ?_
                show Go p e below T53 (mkF m 40 #[.val (.ref t), .val (.int (1 : Int32)), .val (.int (4 : Int32)), .val (.int t4)] [(.int (2 : Int32)), (.int (4 : Int32))]) _
                refine stp (fun _ => XS.iadd X53.here hx rfl (hb hby d11_40) rfl) ?_
                show Go p e below T53 (mkF m 41 #[.val (.ref t), .val (.int (1 : Int32)), .val (.int (4 : Int32)), .val (.int t4)] [(.int (6 : Int32))]) _
                refine stp (fun _ => XS.istoreN X53.here hx rfl (hb hby d11_41) rfl (l' := #[.val (.ref t), .val (.int (1 : Int32)), .val (.int (6 : Int32)), .val (.int t4)]) rfl) ?_
                show Go p e below T53 (mkF m 42 #[.val (.ref t), .val (.int (1 : Int32)), .val (.int (6 : Int32)), .val (.int t4)] []) _
                refine stp (fun _ => XS.goto X53.here hx rfl (pc0 := 42) (pc' := 4) rfl (hb hby d11_42) (by decide) (by decide)) ?_
                show Go p e below T53 (mkF m 4 #[.val (.ref t), .val (.int (1 : Int32)), .val (.int (6 : Int32)), .val (.int t4)] []) _
                refine stp (fun _ => XS.iloadN X53.here hx rfl (hb hby d11_4) rfl) ?_
                show Go p e below T53 (mkF m 5 #[.val (.ref t), .val (.int (1 : Int32)), .val (.int (6 : Int32)), .val (.int t4)] [(.int (6 : Int32))]) _
                refine stp (fun _ => XS.aloadN X53.here hx rfl (hb hby d11_5) rfl rfl) ?_
                show Go p e below T53 (mkF m 6 #[.val (.ref t), .val (.int (1 : Int32)), .val (.int (6 : Int32)), .val (.int t4)] [(.ref t), (.int (6 : Int32))]) _
                obtain ⟨cq56, kq56, q56a, q56b, q56c⟩ := isOf hZ e53 Q_t.exa
                obtain ⟨_, _, ⟨T56, L56, k56, n56⟩, -, X56, ⟨Lc56, hQ56, l56, y56, z56⟩, st56⟩ := X53.virtualBack hx (y := (⟨"java/lang/String", "length", "()I"⟩ : MethodName)) (z := (⟨"java/lang/String", "length", "()I"⟩ : MethodName)) hown (mvT hZ (hw _ (List.mem_of_getElem? (i := 48) rfl))) (mvT hZ (hw _ (List.mem_of_getElem? (i := 49) rfl))) (notFace_of_selects (args := #[]) (mvT hZ (hw _ (List.mem_of_getElem? (i := 51) rfl)))) (mvT hZ (hw _ (List.mem_of_getElem? (i := 51) rfl))) (mvT hZ (hw _ (List.mem_of_getElem? (i := 50) rfl))) (by decide) (backOf (W := 1) (rm_ulen l Z a0 hw [] t ([t0, t1, t2, t3, t4] : List Int32) cz h0 n0 O0 Q_t S_COMPACT_STRINGS hcz) hZ (hw _ (List.mem_of_getElem? (i := 52) rfl)) (hw _ (List.mem_of_getElem? (i := 17) rfl)) (by decide) (by decide)) q56a q56c (g := (mkF m 6 #[.val (.ref t), .val (.int (1 : Int32)), .val (.int (6 : Int32)), .val (.int t4)] [(.ref t), (.int (6 : Int32))])) rfl (by rw [hml]; rfl) (Steps.refl _) (argsL := []) (rest := [(.int (6 : Int32))]) (lenOf pd_15 rfl) rfl (by show 2 * 0 + _ ≤ _; exact Nat.le_of_eq rfl) (hb hby d11_6) (fun _ _ => ⟨rfl, e53, (by decide : 0 + 0 ≤ _), (by decide : 0 + 0 ≤ _)⟩)
                dsimp only [Pt.U, Pt.locs, Pt.cells, Pt.slots] at X56 l56 y56 z56 st56 hQ56
                subst y56 z56
                obtain ⟨rfl, N56q, e56⟩ := hQ56
                have N56 : Fr n0 L56 := by rw [l56]; exact Fr.app N53 N56q
                refine stt st56 ?_
                show Go p e below T56 (mkF m 9 #[.val (.ref t), .val (.int (1 : Int32)), .val (.int (6 : Int32)), .val (.int t4)] [(.int (5 : Int32)), (.int (6 : Int32))]) _
                refine stp (fun _ => XS.icmpYes X56.here hx rfl (pc0 := 9) (pc' := 45) rfl (hb hby d11_9) rfl (by decide) (by decide) (by decide)) ?_
                show Go p e below T56 (mkF m 45 #[.val (.ref t), .val (.int (1 : Int32)), .val (.int (6 : Int32)), .val (.int t4)] []) _
                refine stp (fun _ => XS.iconst X56.here hx rfl (hb hby d11_45)) ?_
                show Go p e below T56 (mkF m 46 #[.val (.ref t), .val (.int (1 : Int32)), .val (.int (6 : Int32)), .val (.int t4)] [(.int (-1 : Int32))]) _
                refine outI X56 hx hret (hb hby d11_46) hlk (by decide) (by decide) ?_
                exact ⟨own_somei (by rw [own_e_1]; simp only [own_e1, own_e2, own_e3, own_e4, if_neg q21_39, if_neg q32_40, if_neg q21_49, if_neg q32_50, if_neg q21_54, if_pos q32_55]), N56, e56⟩
              · refine stp (fun _ => XS.icmpYes X53.here hx rfl (pc0 := 32) (pc' := 39) rfl (hb hby d11_32) rfl (XT.ii_ne_t q32_55) (by decide) (by decide)) ?_
                show Go p e below T53 (mkF m 39 #[.val (.ref t), .val (.int (1 : Int32)), .val (.int (4 : Int32)), .val (.int t4)] [(.int (4 : Int32))]) _
                refine stp (fun _ => XS.iconst X53.here hx rfl (hb hby d11_39)) ?_
                show Go p e below T53 (mkF m 40 #[.val (.ref t), .val (.int (1 : Int32)), .val (.int (4 : Int32)), .val (.int t4)] [(.int (1 : Int32)), (.int (4 : Int32))]) _
                refine stp (fun _ => XS.iadd X53.here hx rfl (hb hby d11_40) rfl) ?_
                show Go p e below T53 (mkF m 41 #[.val (.ref t), .val (.int (1 : Int32)), .val (.int (4 : Int32)), .val (.int t4)] [(.int (5 : Int32))]) _
                refine stp (fun _ => XS.istoreN X53.here hx rfl (hb hby d11_41) rfl (l' := #[.val (.ref t), .val (.int (1 : Int32)), .val (.int (5 : Int32)), .val (.int t4)]) rfl) ?_
                show Go p e below T53 (mkF m 42 #[.val (.ref t), .val (.int (1 : Int32)), .val (.int (5 : Int32)), .val (.int t4)] []) _
                refine stp (fun _ => XS.goto X53.here hx rfl (pc0 := 42) (pc' := 4) rfl (hb hby d11_42) (by decide) (by decide)) ?_
                show Go p e below T53 (mkF m 4 #[.val (.ref t), .val (.int (1 : Int32)), .val (.int (5 : Int32)), .val (.int t4)] []) _
                refine stp (fun _ => XS.iloadN X53.here hx rfl (hb hby d11_4) rfl) ?_
                show Go p e below T53 (mkF m 5 #[.val (.ref t), .val (.int (1 : Int32)), .val (.int (5 : Int32)), .val (.int t4)] [(.int (5 : Int32))]) _
                refine stp (fun _ => XS.aloadN X53.here hx rfl (hb hby d11_5) rfl rfl) ?_
                show Go p e below T53 (mkF m 6 #[.val (.ref t), .val (.int (1 : Int32)), .val (.int (5 : Int32)), .val (.int t4)] [(.ref t), (.int (5 : Int32))]) _
                obtain ⟨cq57, kq57, q57a, q57b, q57c⟩ := isOf hZ e53 Q_t.exa
                obtain ⟨_, _, ⟨T57, L57, k57, n57⟩, -, X57, ⟨Lc57, hQ57, l57, y57, z57⟩, st57⟩ := X53.virtualBack hx (y := (⟨"java/lang/String", "length", "()I"⟩ : MethodName)) (z := (⟨"java/lang/String", "length", "()I"⟩ : MethodName)) hown (mvT hZ (hw _ (List.mem_of_getElem? (i := 48) rfl))) (mvT hZ (hw _ (List.mem_of_getElem? (i := 49) rfl))) (notFace_of_selects (args := #[]) (mvT hZ (hw _ (List.mem_of_getElem? (i := 51) rfl)))) (mvT hZ (hw _ (List.mem_of_getElem? (i := 51) rfl))) (mvT hZ (hw _ (List.mem_of_getElem? (i := 50) rfl))) (by decide) (backOf (W := 1) (rm_ulen l Z a0 hw [] t ([t0, t1, t2, t3, t4] : List Int32) cz h0 n0 O0 Q_t S_COMPACT_STRINGS hcz) hZ (hw _ (List.mem_of_getElem? (i := 52) rfl)) (hw _ (List.mem_of_getElem? (i := 17) rfl)) (by decide) (by decide)) q57a q57c (g := (mkF m 6 #[.val (.ref t), .val (.int (1 : Int32)), .val (.int (5 : Int32)), .val (.int t4)] [(.ref t), (.int (5 : Int32))])) rfl (by rw [hml]; rfl) (Steps.refl _) (argsL := []) (rest := [(.int (5 : Int32))]) (lenOf pd_15 rfl) rfl (by show 2 * 0 + _ ≤ _; exact Nat.le_of_eq rfl) (hb hby d11_6) (fun _ _ => ⟨rfl, e53, (by decide : 0 + 0 ≤ _), (by decide : 0 + 0 ≤ _)⟩)
                dsimp only [Pt.U, Pt.locs, Pt.cells, Pt.slots] at X57 l57 y57 z57 st57 hQ57
                subst y57 z57
                obtain ⟨rfl, N57q, e57⟩ := hQ57
                have N57 : Fr n0 L57 := by rw [l57]; exact Fr.app N53 N57q
                refine stt st57 ?_
                show Go p e below T57 (mkF m 9 #[.val (.ref t), .val (.int (1 : Int32)), .val (.int (5 : Int32)), .val (.int t4)] [(.int (5 : Int32)), (.int (5 : Int32))]) _
                refine stp (fun _ => XS.icmpYes X57.here hx rfl (pc0 := 9) (pc' := 45) rfl (hb hby d11_9) rfl (by decide) (by decide) (by decide)) ?_
                show Go p e below T57 (mkF m 45 #[.val (.ref t), .val (.int (1 : Int32)), .val (.int (5 : Int32)), .val (.int t4)] []) _
                refine stp (fun _ => XS.iconst X57.here hx rfl (hb hby d11_45)) ?_
                show Go p e below T57 (mkF m 46 #[.val (.ref t), .val (.int (1 : Int32)), .val (.int (5 : Int32)), .val (.int t4)] [(.int (-1 : Int32))]) _
                refine outI X57 hx hret (hb hby d11_46) hlk (by decide) (by decide) ?_
                exact ⟨own_somei (by rw [own_e_1]; simp only [own_e1, own_e2, own_e3, own_e4, if_neg q21_39, if_neg q32_40, if_neg q21_49, if_neg q32_50, if_neg q21_54, if_neg q32_55]), N57, e57⟩
  · show Go p e below T0 (mkF m 0 #[.val (.ref t), .val (.int (2 : Int32)), .unset, .unset] []) _
    refine stp (fun _ => XS.iloadN X0.here hx rfl (hb hby d11_0) rfl) ?_
    show Go p e below T0 (mkF m 1 #[.val (.ref t), .val (.int (2 : Int32)), .unset, .unset] [(.int (2 : Int32))]) _
    refine stp (fun _ => XS.iconst X0.here hx rfl (hb hby d11_1)) ?_
    show Go p e below T0 (mkF m 2 #[.val (.ref t), .val (.int (2 : Int32)), .unset, .unset] [(.int (1 : Int32)), (.int (2 : Int32))]) _
    refine stp (fun _ => XS.iadd X0.here hx rfl (hb hby d11_2) rfl) ?_
    show Go p e below T0 (mkF m 3 #[.val (.ref t), .val (.int (2 : Int32)), .unset, .unset] [(.int (3 : Int32))]) _
    refine stp (fun _ => XS.istoreN X0.here hx rfl (hb hby d11_3) rfl (l' := #[.val (.ref t), .val (.int (2 : Int32)), .val (.int (3 : Int32)), .unset]) rfl) ?_
    show Go p e below T0 (mkF m 4 #[.val (.ref t), .val (.int (2 : Int32)), .val (.int (3 : Int32)), .unset] []) _
    refine stp (fun _ => XS.iloadN X0.here hx rfl (hb hby d11_4) rfl) ?_
    show Go p e below T0 (mkF m 5 #[.val (.ref t), .val (.int (2 : Int32)), .val (.int (3 : Int32)), .unset] [(.int (3 : Int32))]) _
    refine stp (fun _ => XS.aloadN X0.here hx rfl (hb hby d11_5) rfl rfl) ?_
    show Go p e below T0 (mkF m 6 #[.val (.ref t), .val (.int (2 : Int32)), .val (.int (3 : Int32)), .unset] [(.ref t), (.int (3 : Int32))]) _
    obtain ⟨cq58, kq58, q58a, q58b, q58c⟩ := isOf hZ e0 Q_t.exa
    obtain ⟨_, _, ⟨T58, L58, k58, n58⟩, -, X58, ⟨Lc58, hQ58, l58, y58, z58⟩, st58⟩ := X0.virtualBack hx (y := (⟨"java/lang/String", "length", "()I"⟩ : MethodName)) (z := (⟨"java/lang/String", "length", "()I"⟩ : MethodName)) hown (mvT hZ (hw _ (List.mem_of_getElem? (i := 48) rfl))) (mvT hZ (hw _ (List.mem_of_getElem? (i := 49) rfl))) (notFace_of_selects (args := #[]) (mvT hZ (hw _ (List.mem_of_getElem? (i := 51) rfl)))) (mvT hZ (hw _ (List.mem_of_getElem? (i := 51) rfl))) (mvT hZ (hw _ (List.mem_of_getElem? (i := 50) rfl))) (by decide) (backOf (W := 1) (rm_ulen l Z a0 hw [] t ([t0, t1, t2, t3, t4] : List Int32) cz h0 n0 O0 Q_t S_COMPACT_STRINGS hcz) hZ (hw _ (List.mem_of_getElem? (i := 52) rfl)) (hw _ (List.mem_of_getElem? (i := 17) rfl)) (by decide) (by decide)) q58a q58c (g := (mkF m 6 #[.val (.ref t), .val (.int (2 : Int32)), .val (.int (3 : Int32)), .unset] [(.ref t), (.int (3 : Int32))])) rfl (by rw [hml]; rfl) (Steps.refl _) (argsL := []) (rest := [(.int (3 : Int32))]) (lenOf pd_15 rfl) rfl (by show 2 * 0 + _ ≤ _; exact Nat.le_of_eq rfl) (hb hby d11_6) (fun _ _ => ⟨rfl, e0, (by decide : 0 + 0 ≤ _), (by decide : 0 + 0 ≤ _)⟩)
    dsimp only [Pt.U, Pt.locs, Pt.cells, Pt.slots] at X58 l58 y58 z58 st58 hQ58
    subst y58 z58
    obtain ⟨rfl, N58q, e58⟩ := hQ58
    have N58 : Fr n0 L58 := by rw [l58]; exact Fr.app N0 N58q
    refine stt st58 ?_
    show Go p e below T58 (mkF m 9 #[.val (.ref t), .val (.int (2 : Int32)), .val (.int (3 : Int32)), .unset] [(.int (5 : Int32)), (.int (3 : Int32))]) _
    refine stp (fun _ => XS.icmpNo X58.here hx rfl (hb hby d11_9) rfl (by decide)) ?_
    show Go p e below T58 (mkF m 12 #[.val (.ref t), .val (.int (2 : Int32)), .val (.int (3 : Int32)), .unset] []) _
    refine stp (fun _ => XS.aloadN X58.here hx rfl (hb hby d11_12) rfl rfl) ?_
    show Go p e below T58 (mkF m 13 #[.val (.ref t), .val (.int (2 : Int32)), .val (.int (3 : Int32)), .unset] [(.ref t)]) _
    refine stp (fun _ => XS.iloadN X58.here hx rfl (hb hby d11_13) rfl) ?_
    show Go p e below T58 (mkF m 14 #[.val (.ref t), .val (.int (2 : Int32)), .val (.int (3 : Int32)), .unset] [(.int (3 : Int32)), (.ref t)]) _
    obtain ⟨cq59, kq59, q59a, q59b, q59c⟩ := isOf hZ e58 Q_t.exa
    obtain ⟨_, _, ⟨T59, L59, k59, n59⟩, -, X59, ⟨Lc59, hQ59, l59, y59, z59⟩, st59⟩ := X58.virtualBack hx (y := (⟨"java/lang/String", "charAt", "(I)C"⟩ : MethodName)) (z := (⟨"java/lang/String", "charAt", "(I)C"⟩ : MethodName)) hown (mvT hZ (hw _ (List.mem_of_getElem? (i := 58) rfl))) (mvT hZ (hw _ (List.mem_of_getElem? (i := 59) rfl))) (notFace_of_selects (args := #[]) (mvT hZ (hw _ (List.mem_of_getElem? (i := 61) rfl)))) (mvT hZ (hw _ (List.mem_of_getElem? (i := 61) rfl))) (mvT hZ (hw _ (List.mem_of_getElem? (i := 60) rfl))) (by decide) (backOf (W := 0) (rm_uch l Z a0 hw [] t (3 : Int32) ([t0, t1, t2, t3, t4] : List Int32) cz fm 3 h0 n0 O0 Q_t S_COMPACT_STRINGS S_SIOOBE_FORMATTER S__assertionsDisabled S_HI_BYTE_SHIFT S_LO_BYTE_SHIFT hcz hfm (by decide) (Nat.le_of_ble_eq_true rfl)) hZ (hw _ (List.mem_of_getElem? (i := 62) rfl)) (hw _ (List.mem_of_getElem? (i := 17) rfl)) (by decide) (by decide)) q59a q59c (g := (mkF m 14 #[.val (.ref t), .val (.int (2 : Int32)), .val (.int (3 : Int32)), .unset] [(.int (3 : Int32)), (.ref t)])) rfl (by rw [hml]; rfl) (Steps.refl _) (argsL := [(.int (3 : Int32))]) (rest := []) (lenOf pd_16 rfl) rfl (by show 2 * 0 + _ ≤ _; exact Nat.le_of_eq rfl) (hb hby d11_14) (fun _ _ => ⟨rfl, e58, (by decide : 0 + 0 ≤ _), (by decide : 0 + 0 ≤ _)⟩)
    dsimp only [Pt.U, Pt.locs, Pt.cells, Pt.slots] at X59 l59 y59 z59 st59 hQ59
    subst y59 z59
    obtain ⟨rfl, N59q, e59⟩ := hQ59
    have N59 : Fr n0 L59 := by rw [l59]; exact Fr.app N58 N59q
    refine stt st59 ?_
    show Go p e below T59 (mkF m 17 #[.val (.ref t), .val (.int (2 : Int32)), .val (.int (3 : Int32)), .unset] [(.int t3)]) _
    refine stp (fun _ => XS.istoreN X59.here hx rfl (hb hby d11_17) rfl (l' := #[.val (.ref t), .val (.int (2 : Int32)), .val (.int (3 : Int32)), .val (.int t3)]) rfl) ?_
    show Go p e below T59 (mkF m 18 #[.val (.ref t), .val (.int (2 : Int32)), .val (.int (3 : Int32)), .val (.int t3)] []) _
    refine stp (fun _ => XS.iloadN X59.here hx rfl (hb hby d11_18) rfl) ?_
    show Go p e below T59 (mkF m 19 #[.val (.ref t), .val (.int (2 : Int32)), .val (.int (3 : Int32)), .val (.int t3)] [(.int t3)]) _
    refine stp (fun _ => XS.bipush X59.here hx rfl (hb hby d11_19)) ?_
    show Go p e below T59 (mkF m 21 #[.val (.ref t), .val (.int (2 : Int32)), .val (.int (3 : Int32)), .val (.int t3)] [(.int (34 : Int32)), (.int t3)]) _
    by_cases q21_60 : t3 = (34 : Int32)
    · refine stp (fun _ => XS.icmpNo X59.here hx rfl (hb hby d11_21) rfl (XT.ii_ne_f q21_60)) ?_
      show Go p e below T59 (mkF m 24 #[.val (.ref t), .val (.int (2 : Int32)), .val (.int (3 : Int32)), .val (.int t3)] []) _
      refine stp (fun _ => XS.iloadN X59.here hx rfl (hb hby d11_24) rfl) ?_
      show Go p e below T59 (mkF m 25 #[.val (.ref t), .val (.int (2 : Int32)), .val (.int (3 : Int32)), .val (.int t3)] [(.int (3 : Int32))]) _
      refine stp (fun _ => XS.iconst X59.here hx rfl (hb hby d11_25)) ?_
      show Go p e below T59 (mkF m 26 #[.val (.ref t), .val (.int (2 : Int32)), .val (.int (3 : Int32)), .val (.int t3)] [(.int (1 : Int32)), (.int (3 : Int32))]) _
      refine stp (fun _ => XS.iadd X59.here hx rfl (hb hby d11_26) rfl) ?_
      show Go p e below T59 (mkF m 27 #[.val (.ref t), .val (.int (2 : Int32)), .val (.int (3 : Int32)), .val (.int t3)] [(.int (4 : Int32))]) _
      refine outI X59 hx hret (hb hby d11_27) hlk (by decide) (by decide) ?_
      exact ⟨own_somei (by rw [own_e_2]; simp only [own_e1, own_e2, own_e3, own_e4, if_pos q21_60]), N59, e59⟩
    · refine stp (fun _ => XS.icmpYes X59.here hx rfl (pc0 := 21) (pc' := 28) rfl (hb hby d11_21) rfl (XT.ii_ne_t q21_60) (by decide) (by decide)) ?_
      show Go p e below T59 (mkF m 28 #[.val (.ref t), .val (.int (2 : Int32)), .val (.int (3 : Int32)), .val (.int t3)] []) _
      refine stp (fun _ => XS.iloadN X59.here hx rfl (hb hby d11_28) rfl) ?_
      show Go p e below T59 (mkF m 29 #[.val (.ref t), .val (.int (2 : Int32)), .val (.int (3 : Int32)), .val (.int t3)] [(.int (3 : Int32))]) _
      refine stp (fun _ => XS.iloadN X59.here hx rfl (hb hby d11_29) rfl) ?_
      show Go p e below T59 (mkF m 30 #[.val (.ref t), .val (.int (2 : Int32)), .val (.int (3 : Int32)), .val (.int t3)] [(.int t3), (.int (3 : Int32))]) _
      refine stp (fun _ => XS.bipush X59.here hx rfl (hb hby d11_30)) ?_
      show Go p e below T59 (mkF m 32 #[.val (.ref t), .val (.int (2 : Int32)), .val (.int (3 : Int32)), .val (.int t3)] [(.int (92 : Int32)), (.int t3), (.int (3 : Int32))]) _
      by_cases q32_61 : t3 = (92 : Int32)
      · refine stp (fun _ => XS.icmpNo X59.here hx rfl (hb hby d11_32) rfl (XT.ii_ne_f q32_61)) ?_
        show Go p e below T59 (mkF m 35 #[.val (.ref t), .val (.int (2 : Int32)), .val (.int (3 : Int32)), .val (.int t3)] [(.int (3 : Int32))]) _
        refine stp (fun _ => XS.iconst X59.here hx rfl (hb hby d11_35)) ?_
        show Go p e below T59 (mkF m 36 #[.val (.ref t), .val (.int (2 : Int32)), .val (.int (3 : Int32)), .val (.int t3)] [(.int (2 : Int32)), (.int (3 : Int32))]) _
        refine stp (fun _ => XS.goto X59.here hx rfl (pc0 := 36) (pc' := 40) rfl (hb hby d11_36) (by decide) (by decide)) ?_
        show Go p e below T59 (mkF m 40 #[.val (.ref t), .val (.int (2 : Int32)), .val (.int (3 : Int32)), .val (.int t3)] [(.int (2 : Int32)), (.int (3 : Int32))]) _
        refine stp (fun _ => XS.iadd X59.here hx rfl (hb hby d11_40) rfl) ?_
        show Go p e below T59 (mkF m 41 #[.val (.ref t), .val (.int (2 : Int32)), .val (.int (3 : Int32)), .val (.int t3)] [(.int (5 : Int32))]) _
        refine stp (fun _ => XS.istoreN X59.here hx rfl (hb hby d11_41) rfl (l' := #[.val (.ref t), .val (.int (2 : Int32)), .val (.int (5 : Int32)), .val (.int t3)]) rfl) ?_
        show Go p e below T59 (mkF m 42 #[.val (.ref t), .val (.int (2 : Int32)), .val (.int (5 : Int32)), .val (.int t3)] []) _
        refine stp (fun _ => XS.goto X59.here hx rfl (pc0 := 42) (pc' := 4) rfl (hb hby d11_42) (by decide) (by decide)) ?_
        show Go p e below T59 (mkF m 4 #[.val (.ref t), .val (.int (2 : Int32)), .val (.int (5 : Int32)), .val (.int t3)] []) _
        refine stp (fun _ => XS.iloadN X59.here hx rfl (hb hby d11_4) rfl) ?_
        show Go p e below T59 (mkF m 5 #[.val (.ref t), .val (.int (2 : Int32)), .val (.int (5 : Int32)), .val (.int t3)] [(.int (5 : Int32))]) _
        refine stp (fun _ => XS.aloadN X59.here hx rfl (hb hby d11_5) rfl rfl) ?_
        show Go p e below T59 (mkF m 6 #[.val (.ref t), .val (.int (2 : Int32)), .val (.int (5 : Int32)), .val (.int t3)] [(.ref t), (.int (5 : Int32))]) _
        obtain ⟨cq62, kq62, q62a, q62b, q62c⟩ := isOf hZ e59 Q_t.exa
        obtain ⟨_, _, ⟨T62, L62, k62, n62⟩, -, X62, ⟨Lc62, hQ62, l62, y62, z62⟩, st62⟩ := X59.virtualBack hx (y := (⟨"java/lang/String", "length", "()I"⟩ : MethodName)) (z := (⟨"java/lang/String", "length", "()I"⟩ : MethodName)) hown (mvT hZ (hw _ (List.mem_of_getElem? (i := 48) rfl))) (mvT hZ (hw _ (List.mem_of_getElem? (i := 49) rfl))) (notFace_of_selects (args := #[]) (mvT hZ (hw _ (List.mem_of_getElem? (i := 51) rfl)))) (mvT hZ (hw _ (List.mem_of_getElem? (i := 51) rfl))) (mvT hZ (hw _ (List.mem_of_getElem? (i := 50) rfl))) (by decide) (backOf (W := 1) (rm_ulen l Z a0 hw [] t ([t0, t1, t2, t3, t4] : List Int32) cz h0 n0 O0 Q_t S_COMPACT_STRINGS hcz) hZ (hw _ (List.mem_of_getElem? (i := 52) rfl)) (hw _ (List.mem_of_getElem? (i := 17) rfl)) (by decide) (by decide)) q62a q62c (g := (mkF m 6 #[.val (.ref t), .val (.int (2 : Int32)), .val (.int (5 : Int32)), .val (.int t3)] [(.ref t), (.int (5 : Int32))])) rfl (by rw [hml]; rfl) (Steps.refl _) (argsL := []) (rest := [(.int (5 : Int32))]) (lenOf pd_15 rfl) rfl (by show 2 * 0 + _ ≤ _; exact Nat.le_of_eq rfl) (hb hby d11_6) (fun _ _ => ⟨rfl, e59, (by decide : 0 + 0 ≤ _), (by decide : 0 + 0 ≤ _)⟩)
        dsimp only [Pt.U, Pt.locs, Pt.cells, Pt.slots] at X62 l62 y62 z62 st62 hQ62
        subst y62 z62
        obtain ⟨rfl, N62q, e62⟩ := hQ62
        have N62 : Fr n0 L62 := by rw [l62]; exact Fr.app N59 N62q
        refine stt st62 ?_
        show Go p e below T62 (mkF m 9 #[.val (.ref t), .val (.int (2 : Int32)), .val (.int (5 : Int32)), .val (.int t3)] [(.int (5 : Int32)), (.int (5 : Int32))]) _
        refine stp (fun _ => XS.icmpYes X62.here hx rfl (pc0 := 9) (pc' := 45) rfl (hb hby d11_9) rfl (by decide) (by decide) (by decide)) ?_
        show Go p e below T62 (mkF m 45 #[.val (.ref t), .val (.int (2 : Int32)), .val (.int (5 : Int32)), .val (.int t3)] []) _
        refine stp (fun _ => XS.iconst X62.here hx rfl (hb hby d11_45)) ?_
        show Go p e below T62 (mkF m 46 #[.val (.ref t), .val (.int (2 : Int32)), .val (.int (5 : Int32)), .val (.int t3)] [(.int (-1 : Int32))]) _
        refine outI X62 hx hret (hb hby d11_46) hlk (by decide) (by decide) ?_
        exact ⟨own_somei (by rw [own_e_2]; simp only [own_e1, own_e2, own_e3, own_e4, if_neg q21_60, if_pos q32_61]), N62, e62⟩
      · refine stp (fun _ => XS.icmpYes X59.here hx rfl (pc0 := 32) (pc' := 39) rfl (hb hby d11_32) rfl (XT.ii_ne_t q32_61) (by decide) (by decide)) ?_
        show Go p e below T59 (mkF m 39 #[.val (.ref t), .val (.int (2 : Int32)), .val (.int (3 : Int32)), .val (.int t3)] [(.int (3 : Int32))]) _
        refine stp (fun _ => XS.iconst X59.here hx rfl (hb hby d11_39)) ?_
        show Go p e below T59 (mkF m 40 #[.val (.ref t), .val (.int (2 : Int32)), .val (.int (3 : Int32)), .val (.int t3)] [(.int (1 : Int32)), (.int (3 : Int32))]) _
        refine stp (fun _ => XS.iadd X59.here hx rfl (hb hby d11_40) rfl) ?_
        show Go p e below T59 (mkF m 41 #[.val (.ref t), .val (.int (2 : Int32)), .val (.int (3 : Int32)), .val (.int t3)] [(.int (4 : Int32))]) _
        refine stp (fun _ => XS.istoreN X59.here hx rfl (hb hby d11_41) rfl (l' := #[.val (.ref t), .val (.int (2 : Int32)), .val (.int (4 : Int32)), .val (.int t3)]) rfl) ?_
        show Go p e below T59 (mkF m 42 #[.val (.ref t), .val (.int (2 : Int32)), .val (.int (4 : Int32)), .val (.int t3)] []) _
        refine stp (fun _ => XS.goto X59.here hx rfl (pc0 := 42) (pc' := 4) rfl (hb hby d11_42) (by decide) (by decide)) ?_
        show Go p e below T59 (mkF m 4 #[.val (.ref t), .val (.int (2 : Int32)), .val (.int (4 : Int32)), .val (.int t3)] []) _
        refine stp (fun _ => XS.iloadN X59.here hx rfl (hb hby d11_4) rfl) ?_
        show Go p e below T59 (mkF m 5 #[.val (.ref t), .val (.int (2 : Int32)), .val (.int (4 : Int32)), .val (.int t3)] [(.int (4 : Int32))]) _
        refine stp (fun _ => XS.aloadN X59.here hx rfl (hb hby d11_5) rfl rfl) ?_
        show Go p e below T59 (mkF m 6 #[.val (.ref t), .val (.int (2 : Int32)), .val (.int (4 : Int32)), .val (.int t3)] [(.ref t), (.int (4 : Int32))]) _
        obtain ⟨cq63, kq63, q63a, q63b, q63c⟩ := isOf hZ e59 Q_t.exa
        obtain ⟨_, _, ⟨T63, L63, k63, n63⟩, -, X63, ⟨Lc63, hQ63, l63, y63, z63⟩, st63⟩ := X59.virtualBack hx (y := (⟨"java/lang/String", "length", "()I"⟩ : MethodName)) (z := (⟨"java/lang/String", "length", "()I"⟩ : MethodName)) hown (mvT hZ (hw _ (List.mem_of_getElem? (i := 48) rfl))) (mvT hZ (hw _ (List.mem_of_getElem? (i := 49) rfl))) (notFace_of_selects (args := #[]) (mvT hZ (hw _ (List.mem_of_getElem? (i := 51) rfl)))) (mvT hZ (hw _ (List.mem_of_getElem? (i := 51) rfl))) (mvT hZ (hw _ (List.mem_of_getElem? (i := 50) rfl))) (by decide) (backOf (W := 1) (rm_ulen l Z a0 hw [] t ([t0, t1, t2, t3, t4] : List Int32) cz h0 n0 O0 Q_t S_COMPACT_STRINGS hcz) hZ (hw _ (List.mem_of_getElem? (i := 52) rfl)) (hw _ (List.mem_of_getElem? (i := 17) rfl)) (by decide) (by decide)) q63a q63c (g := (mkF m 6 #[.val (.ref t), .val (.int (2 : Int32)), .val (.int (4 : Int32)), .val (.int t3)] [(.ref t), (.int (4 : Int32))])) rfl (by rw [hml]; rfl) (Steps.refl _) (argsL := []) (rest := [(.int (4 : Int32))]) (lenOf pd_15 rfl) rfl (by show 2 * 0 + _ ≤ _; exact Nat.le_of_eq rfl) (hb hby d11_6) (fun _ _ => ⟨rfl, e59, (by decide : 0 + 0 ≤ _), (by decide : 0 + 0 ≤ _)⟩)
        dsimp only [Pt.U, Pt.locs, Pt.cells, Pt.slots] at X63 l63 y63 z63 st63 hQ63
        subst y63 z63
        obtain ⟨rfl, N63q, e63⟩ := hQ63
        have N63 : Fr n0 L63 := by rw [l63]; exact Fr.app N59 N63q
        refine stt st63 ?_
        show Go p e below T63 (mkF m 9 #[.val (.ref t), .val (.int (2 : Int32)), .val (.int (4 : Int32)), .val (.int t3)] [(.int (5 : Int32)), (.int (4 : Int32))]) _
        refine stp (fun _ => XS.icmpNo X63.here hx rfl (hb hby d11_9) rfl (by decide)) ?_
        show Go p e below T63 (mkF m 12 #[.val (.ref t), .val (.int (2 : Int32)), .val (.int (4 : Int32)), .val (.int t3)] []) _
        refine stp (fun _ => XS.aloadN X63.here hx rfl (hb hby d11_12) rfl rfl) ?_
        show Go p e below T63 (mkF m 13 #[.val (.ref t), .val (.int (2 : Int32)), .val (.int (4 : Int32)), .val (.int t3)] [(.ref t)]) _
        refine stp (fun _ => XS.iloadN X63.here hx rfl (hb hby d11_13) rfl) ?_
        show Go p e below T63 (mkF m 14 #[.val (.ref t), .val (.int (2 : Int32)), .val (.int (4 : Int32)), .val (.int t3)] [(.int (4 : Int32)), (.ref t)]) _
        obtain ⟨cq64, kq64, q64a, q64b, q64c⟩ := isOf hZ e63 Q_t.exa
        obtain ⟨_, _, ⟨T64, L64, k64, n64⟩, -, X64, ⟨Lc64, hQ64, l64, y64, z64⟩, st64⟩ := X63.virtualBack hx (y := (⟨"java/lang/String", "charAt", "(I)C"⟩ : MethodName)) (z := (⟨"java/lang/String", "charAt", "(I)C"⟩ : MethodName)) hown (mvT hZ (hw _ (List.mem_of_getElem? (i := 58) rfl))) (mvT hZ (hw _ (List.mem_of_getElem? (i := 59) rfl))) (notFace_of_selects (args := #[]) (mvT hZ (hw _ (List.mem_of_getElem? (i := 61) rfl)))) (mvT hZ (hw _ (List.mem_of_getElem? (i := 61) rfl))) (mvT hZ (hw _ (List.mem_of_getElem? (i := 60) rfl))) (by decide) (backOf (W := 0) (rm_uch l Z a0 hw [] t (4 : Int32) ([t0, t1, t2, t3, t4] : List Int32) cz fm 4 h0 n0 O0 Q_t S_COMPACT_STRINGS S_SIOOBE_FORMATTER S__assertionsDisabled S_HI_BYTE_SHIFT S_LO_BYTE_SHIFT hcz hfm (by decide) (Nat.le_of_ble_eq_true rfl)) hZ (hw _ (List.mem_of_getElem? (i := 62) rfl)) (hw _ (List.mem_of_getElem? (i := 17) rfl)) (by decide) (by decide)) q64a q64c (g := (mkF m 14 #[.val (.ref t), .val (.int (2 : Int32)), .val (.int (4 : Int32)), .val (.int t3)] [(.int (4 : Int32)), (.ref t)])) rfl (by rw [hml]; rfl) (Steps.refl _) (argsL := [(.int (4 : Int32))]) (rest := []) (lenOf pd_16 rfl) rfl (by show 2 * 0 + _ ≤ _; exact Nat.le_of_eq rfl) (hb hby d11_14) (fun _ _ => ⟨rfl, e63, (by decide : 0 + 0 ≤ _), (by decide : 0 + 0 ≤ _)⟩)
        dsimp only [Pt.U, Pt.locs, Pt.cells, Pt.slots] at X64 l64 y64 z64 st64 hQ64
        subst y64 z64
        obtain ⟨rfl, N64q, e64⟩ := hQ64
        have N64 : Fr n0 L64 := by rw [l64]; exact Fr.app N63 N64q
        refine stt st64 ?_
        show Go p e below T64 (mkF m 17 #[.val (.ref t), .val (.int (2 : Int32)), .val (.int (4 : Int32)), .val (.int t3)] [(.int t4)]) _
        refine stp (fun _ => XS.istoreN X64.here hx rfl (hb hby d11_17) rfl (l' := #[.val (.ref t), .val (.int (2 : Int32)), .val (.int (4 : Int32)), .val (.int t4)]) rfl) ?_
        show Go p e below T64 (mkF m 18 #[.val (.ref t), .val (.int (2 : Int32)), .val (.int (4 : Int32)), .val (.int t4)] []) _
        refine stp (fun _ => XS.iloadN X64.here hx rfl (hb hby d11_18) rfl) ?_
        show Go p e below T64 (mkF m 19 #[.val (.ref t), .val (.int (2 : Int32)), .val (.int (4 : Int32)), .val (.int t4)] [(.int t4)]) _
        refine stp (fun _ => XS.bipush X64.here hx rfl (hb hby d11_19)) ?_
        show Go p e below T64 (mkF m 21 #[.val (.ref t), .val (.int (2 : Int32)), .val (.int (4 : Int32)), .val (.int t4)] [(.int (34 : Int32)), (.int t4)]) _
        by_cases q21_65 : t4 = (34 : Int32)
        · refine stp (fun _ => XS.icmpNo X64.here hx rfl (hb hby d11_21) rfl (XT.ii_ne_f q21_65)) ?_
          show Go p e below T64 (mkF m 24 #[.val (.ref t), .val (.int (2 : Int32)), .val (.int (4 : Int32)), .val (.int t4)] []) _
          refine stp (fun _ => XS.iloadN X64.here hx rfl (hb hby d11_24) rfl) ?_
          show Go p e below T64 (mkF m 25 #[.val (.ref t), .val (.int (2 : Int32)), .val (.int (4 : Int32)), .val (.int t4)] [(.int (4 : Int32))]) _
          refine stp (fun _ => XS.iconst X64.here hx rfl (hb hby d11_25)) ?_
          show Go p e below T64 (mkF m 26 #[.val (.ref t), .val (.int (2 : Int32)), .val (.int (4 : Int32)), .val (.int t4)] [(.int (1 : Int32)), (.int (4 : Int32))]) _
          refine stp (fun _ => XS.iadd X64.here hx rfl (hb hby d11_26) rfl) ?_
          show Go p e below T64 (mkF m 27 #[.val (.ref t), .val (.int (2 : Int32)), .val (.int (4 : Int32)), .val (.int t4)] [(.int (5 : Int32))]) _
          refine outI X64 hx hret (hb hby d11_27) hlk (by decide) (by decide) ?_
          exact ⟨own_somei (by rw [own_e_2]; simp only [own_e1, own_e2, own_e3, own_e4, if_neg q21_60, if_neg q32_61, if_pos q21_65]), N64, e64⟩
        · refine stp (fun _ => XS.icmpYes X64.here hx rfl (pc0 := 21) (pc' := 28) rfl (hb hby d11_21) rfl (XT.ii_ne_t q21_65) (by decide) (by decide)) ?_
          show Go p e below T64 (mkF m 28 #[.val (.ref t), .val (.int (2 : Int32)), .val (.int (4 : Int32)), .val (.int t4)] []) _
          refine stp (fun _ => XS.iloadN X64.here hx rfl (hb hby d11_28) rfl) ?_
          show Go p e below T64 (mkF m 29 #[.val (.ref t), .val (.int (2 : Int32)), .val (.int (4 : Int32)), .val (.int t4)] [(.int (4 : Int32))]) _
          refine stp (fun _ => XS.iloadN X64.here hx rfl (hb hby d11_29) rfl) ?_
          show Go p e below T64 (mkF m 30 #[.val (.ref t), .val (.int (2 : Int32)), .val (.int (4 : Int32)), .val (.int t4)] [(.int t4), (.int (4 : Int32))]) _
          refine stp (fun _ => XS.bipush X64.here hx rfl (hb hby d11_30)) ?_
          show Go p e below T64 (mkF m 32 #[.val (.ref t), .val (.int (2 : Int32)), .val (.int (4 : Int32)), .val (.int t4)] [(.int (92 : Int32)), (.int t4), (.int (4 : Int32))]) _
          by_cases q32_66 : t4 = (92 : Int32)
          · refine stp (fun _ => XS.icmpNo X64.here hx rfl (hb hby d11_32) rfl (XT.ii_ne_f q32_66)) ?_
            show Go p e below T64 (mkF m 35 #[.val (.ref t), .val (.int (2 : Int32)), .val (.int (4 : Int32)), .val (.int t4)] [(.int (4 : Int32))]) _
            refine stp (fun _ => XS.iconst X64.here hx rfl (hb hby d11_35)) ?_
            show Go p e below T64 (mkF m 36 #[.val (.ref t), .val (.int (2 : Int32)), .val (.int (4 : Int32)), .val (.int t4)] [(.int (2 : Int32)), (.int (4 : Int32))]) _
            refine stp (fun _ => XS.goto X64.here hx rfl (pc0 := 36) (pc' := 40) rfl (hb hby d11_36) (by decide) (by decide)) ?_
            show Go p e below T64 (mkF m 40 #[.val (.ref t), .val (.int (2 : Int32)), .val (.int (4 : Int32)), .val (.int t4)] [(.int (2 : Int32)), (.int (4 : Int32))]) _
            refine stp (fun _ => XS.iadd X64.here hx rfl (hb hby d11_40) rfl) ?_
            show Go p e below T64 (mkF m 41 #[.val (.ref t), .val (.int (2 : Int32)), .val (.int (4 : Int32)), .val (.int t4)] [(.int (6 : Int32))]) _
            refine stp (fun _ => XS.istoreN X64.here hx rfl (hb hby d11_41) rfl (l' := #[.val (.ref t), .val (.int (2 : Int32)), .val (.int (6 : Int32)), .val (.int t4)]) rfl) ?_
            show Go p e below T64 (mkF m 42 #[.val (.ref t), .val (.int (2 : Int32)), .val (.int (6 : Int32)), .val (.int t4)] []) _
            refine stp (fun _ => XS.goto X64.here hx rfl (pc0 := 42) (pc' := 4) rfl (hb hby d11_42) (by decide) (by decide)) ?_
            show Go p e below T64 (mkF m 4 #[.val (.ref t), .val (.int (2 : Int32)), .val (.int (6 : Int32)), .val (.int t4)] []) _
            refine stp (fun _ => XS.iloadN X64.here hx rfl (hb hby d11_4) rfl) ?_
            show Go p e below T64 (mkF m 5 #[.val (.ref t), .val (.int (2 : Int32)), .val (.int (6 : Int32)), .val (.int t4)] [(.int (6 : Int32))]) _
            refine stp (fun _ => XS.aloadN X64.here hx rfl (hb hby d11_5) rfl rfl) ?_
            show Go p e below T64 (mkF m 6 #[.val (.ref t), .val (.int (2 : Int32)), .val (.int (6 : Int32)), .val (.int t4)] [(.ref t), (.int (6 : Int32))]) _
            obtain ⟨cq67, kq67, q67a, q67b, q67c⟩ := isOf hZ e64 Q_t.exa
            obtain ⟨_, _, ⟨T67, L67, k67, n67⟩, -, X67, ⟨Lc67, hQ67, l67, y67, z67⟩, st67⟩ := X64.virtualBack hx (y := (⟨"java/lang/String", "length", "()I"⟩ : MethodName)) (z := (⟨"java/lang/String", "length", "()I"⟩ : MethodName)) hown (mvT hZ (hw _ (List.mem_of_getElem? (i := 48) rfl))) (mvT hZ (hw _ (List.mem_of_getElem? (i := 49) rfl))) (notFace_of_selects (args := #[]) (mvT hZ (hw _ (List.mem_of_getElem? (i := 51) rfl)))) (mvT hZ (hw _ (List.mem_of_getElem? (i := 51) rfl))) (mvT hZ (hw _ (List.mem_of_getElem? (i := 50) rfl))) (by decide) (backOf (W := 1) (rm_ulen l Z a0 hw [] t ([t0, t1, t2, t3, t4] : List Int32) cz h0 n0 O0 Q_t S_COMPACT_STRINGS hcz) hZ (hw _ (List.mem_of_getElem? (i := 52) rfl)) (hw _ (List.mem_of_getElem? (i := 17) rfl)) (by decide) (by decide)) q67a q67c (g := (mkF m 6 #[.val (.ref t), .val (.int (2 : Int32)), .val (.int (6 : Int32)), .val (.int t4)] [(.ref t), (.int (6 : Int32))])) rfl (by rw [hml]; rfl) (Steps.refl _) (argsL := []) (rest := [(.int (6 : Int32))]) (lenOf pd_15 rfl) rfl (by show 2 * 0 + _ ≤ _; exact Nat.le_of_eq rfl) (hb hby d11_6) (fun _ _ => ⟨rfl, e64, (by decide : 0 + 0 ≤ _), (by decide : 0 + 0 ≤ _)⟩)
            dsimp only [Pt.U, Pt.locs, Pt.cells, Pt.slots] at X67 l67 y67 z67 st67 hQ67
            subst y67 z67
            obtain ⟨rfl, N67q, e67⟩ := hQ67
            have N67 : Fr n0 L67 := by rw [l67]; exact Fr.app N64 N67q
            refine stt st67 ?_
            show Go p e below T67 (mkF m 9 #[.val (.ref t), .val (.int (2 : Int32)), .val (.int (6 : Int32)), .val (.int t4)] [(.int (5 : Int32)), (.int (6 : Int32))]) _
            refine stp (fun _ => XS.icmpYes X67.here hx rfl (pc0 := 9) (pc' := 45) rfl (hb hby d11_9) rfl (by decide) (by decide) (by decide)) ?_
            show Go p e below T67 (mkF m 45 #[.val (.ref t), .val (.int (2 : Int32)), .val (.int (6 : Int32)), .val (.int t4)] []) _
            refine stp (fun _ => XS.iconst X67.here hx rfl (hb hby d11_45)) ?_
            show Go p e below T67 (mkF m 46 #[.val (.ref t), .val (.int (2 : Int32)), .val (.int (6 : Int32)), .val (.int t4)] [(.int (-1 : Int32))]) _
            refine outI X67 hx hret (hb hby d11_46) hlk (by decide) (by decide) ?_
            exact ⟨own_somei (by rw [own_e_2]; simp only [own_e1, own_e2, own_e3, own_e4, if_neg q21_60, if_neg q32_61, if_neg q21_65, if_pos q32_66]), N67, e67⟩
          · refine stp (fun _ => XS.icmpYes X64.here hx rfl (pc0 := 32) (pc' := 39) rfl (hb hby d11_32) rfl (XT.ii_ne_t q32_66) (by decide) (by decide)) ?_
            show Go p e below T64 (mkF m 39 #[.val (.ref t), .val (.int (2 : Int32)), .val (.int (4 : Int32)), .val (.int t4)] [(.int (4 : Int32))]) _
            refine stp (fun _ => XS.iconst X64.here hx rfl (hb hby d11_39)) ?_
            show Go p e below T64 (mkF m 40 #[.val (.ref t), .val (.int (2 : Int32)), .val (.int (4 : Int32)), .val (.int t4)] [(.int (1 : Int32)), (.int (4 : Int32))]) _
            refine stp (fun _ => XS.iadd X64.here hx rfl (hb hby d11_40) rfl) ?_
            show Go p e below T64 (mkF m 41 #[.val (.ref t), .val (.int (2 : Int32)), .val (.int (4 : Int32)), .val (.int t4)] [(.int (5 : Int32))]) _
            refine stp (fun _ => XS.istoreN X64.here hx rfl (hb hby d11_41) rfl (l' := #[.val (.ref t), .val (.int (2 : Int32)), .val (.int (5 : Int32)), .val (.int t4)]) rfl) ?_
            show Go p e below T64 (mkF m 42 #[.val (.ref t), .val (.int (2 : Int32)), .val (.int (5 : Int32)), .val (.int t4)] []) _
            refine stp (fun _ => XS.goto X64.here hx rfl (pc0 := 42) (pc' := 4) rfl (hb hby d11_42) (by decide) (by decide)) ?_
            show Go p e below T64 (mkF m 4 #[.val (.ref t), .val (.int (2 : Int32)), .val (.int (5 : Int32)), .val (.int t4)] []) _
            refine stp (fun _ => XS.iloadN X64.here hx rfl (hb hby d11_4) rfl) ?_
            show Go p e below T64 (mkF m 5 #[.val (.ref t), .val (.int (2 : Int32)), .val (.int (5 : Int32)), .val (.int t4)] [(.int (5 : Int32))]) _
            refine stp (fun _ => XS.aloadN X64.here hx rfl (hb hby d11_5) rfl rfl) ?_
            show Go p e below T64 (mkF m 6 #[.val (.ref t), .val (.int (2 : Int32)), .val (.int (5 : Int32)), .val (.int t4)] [(.ref t), (.int (5 : Int32))]) _
            obtain ⟨cq68, kq68, q68a, q68b, q68c⟩ := isOf hZ e64 Q_t.exa
            obtain ⟨_, _, ⟨T68, L68, k68, n68⟩, -, X68, ⟨Lc68, hQ68, l68, y68, z68⟩, st68⟩ := X64.virtualBack hx (y := (⟨"java/lang/String", "length", "()I"⟩ : MethodName)) (z := (⟨"java/lang/String", "length", "()I"⟩ : MethodName)) hown (mvT hZ (hw _ (List.mem_of_getElem? (i := 48) rfl))) (mvT hZ (hw _ (List.mem_of_getElem? (i := 49) rfl))) (notFace_of_selects (args := #[]) (mvT hZ (hw _ (List.mem_of_getElem? (i := 51) rfl)))) (mvT hZ (hw _ (List.mem_of_getElem? (i := 51) rfl))) (mvT hZ (hw _ (List.mem_of_getElem? (i := 50) rfl))) (by decide) (backOf (W := 1) (rm_ulen l Z a0 hw [] t ([t0, t1, t2, t3, t4] : List Int32) cz h0 n0 O0 Q_t S_COMPACT_STRINGS hcz) hZ (hw _ (List.mem_of_getElem? (i := 52) rfl)) (hw _ (List.mem_of_getElem? (i := 17) rfl)) (by decide) (by decide)) q68a q68c (g := (mkF m 6 #[.val (.ref t), .val (.int (2 : Int32)), .val (.int (5 : Int32)), .val (.int t4)] [(.ref t), (.int (5 : Int32))])) rfl (by rw [hml]; rfl) (Steps.refl _) (argsL := []) (rest := [(.int (5 : Int32))]) (lenOf pd_15 rfl) rfl (by show 2 * 0 + _ ≤ _; exact Nat.le_of_eq rfl) (hb hby d11_6) (fun _ _ => ⟨rfl, e64, (by decide : 0 + 0 ≤ _), (by decide : 0 + 0 ≤ _)⟩)
            dsimp only [Pt.U, Pt.locs, Pt.cells, Pt.slots] at X68 l68 y68 z68 st68 hQ68
            subst y68 z68
            obtain ⟨rfl, N68q, e68⟩ := hQ68
            have N68 : Fr n0 L68 := by rw [l68]; exact Fr.app N64 N68q
            refine stt st68 ?_
            show Go p e below T68 (mkF m 9 #[.val (.ref t), .val (.int (2 : Int32)), .val (.int (5 : Int32)), .val (.int t4)] [(.int (5 : Int32)), (.int (5 : Int32))]) _
            refine stp (fun _ => XS.icmpYes X68.here hx rfl (pc0 := 9) (pc' := 45) rfl (hb hby d11_9) rfl (by decide) (by decide) (by decide)) ?_
            show Go p e below T68 (mkF m 45 #[.val (.ref t), .val (.int (2 : Int32)), .val (.int (5 : Int32)), .val (.int t4)] []) _
            refine stp (fun _ => XS.iconst X68.here hx rfl (hb hby d11_45)) ?_
            show Go p e below T68 (mkF m 46 #[.val (.ref t), .val (.int (2 : Int32)), .val (.int (5 : Int32)), .val (.int t4)] [(.int (-1 : Int32))]) _
            refine outI X68 hx hret (hb hby d11_46) hlk (by decide) (by decide) ?_
            exact ⟨own_somei (by rw [own_e_2]; simp only [own_e1, own_e2, own_e3, own_e4, if_neg q21_60, if_neg q32_61, if_neg q21_65, if_neg q32_66]), N68, e68⟩
  · show Go p e below T0 (mkF m 0 #[.val (.ref t), .val (.int (3 : Int32)), .unset, .unset] []) _
    refine stp (fun _ => XS.iloadN X0.here hx rfl (hb hby d11_0) rfl) ?_
    show Go p e below T0 (mkF m 1 #[.val (.ref t), .val (.int (3 : Int32)), .unset, .unset] [(.int (3 : Int32))]) _
    refine stp (fun _ => XS.iconst X0.here hx rfl (hb hby d11_1)) ?_
    show Go p e below T0 (mkF m 2 #[.val (.ref t), .val (.int (3 : Int32)), .unset, .unset] [(.int (1 : Int32)), (.int (3 : Int32))]) _
    refine stp (fun _ => XS.iadd X0.here hx rfl (hb hby d11_2) rfl) ?_
    show Go p e below T0 (mkF m 3 #[.val (.ref t), .val (.int (3 : Int32)), .unset, .unset] [(.int (4 : Int32))]) _
    refine stp (fun _ => XS.istoreN X0.here hx rfl (hb hby d11_3) rfl (l' := #[.val (.ref t), .val (.int (3 : Int32)), .val (.int (4 : Int32)), .unset]) rfl) ?_
    show Go p e below T0 (mkF m 4 #[.val (.ref t), .val (.int (3 : Int32)), .val (.int (4 : Int32)), .unset] []) _
    refine stp (fun _ => XS.iloadN X0.here hx rfl (hb hby d11_4) rfl) ?_
    show Go p e below T0 (mkF m 5 #[.val (.ref t), .val (.int (3 : Int32)), .val (.int (4 : Int32)), .unset] [(.int (4 : Int32))]) _
    refine stp (fun _ => XS.aloadN X0.here hx rfl (hb hby d11_5) rfl rfl) ?_
    show Go p e below T0 (mkF m 6 #[.val (.ref t), .val (.int (3 : Int32)), .val (.int (4 : Int32)), .unset] [(.ref t), (.int (4 : Int32))]) _
    obtain ⟨cq69, kq69, q69a, q69b, q69c⟩ := isOf hZ e0 Q_t.exa
    obtain ⟨_, _, ⟨T69, L69, k69, n69⟩, -, X69, ⟨Lc69, hQ69, l69, y69, z69⟩, st69⟩ := X0.virtualBack hx (y := (⟨"java/lang/String", "length", "()I"⟩ : MethodName)) (z := (⟨"java/lang/String", "length", "()I"⟩ : MethodName)) hown (mvT hZ (hw _ (List.mem_of_getElem? (i := 48) rfl))) (mvT hZ (hw _ (List.mem_of_getElem? (i := 49) rfl))) (notFace_of_selects (args := #[]) (mvT hZ (hw _ (List.mem_of_getElem? (i := 51) rfl)))) (mvT hZ (hw _ (List.mem_of_getElem? (i := 51) rfl))) (mvT hZ (hw _ (List.mem_of_getElem? (i := 50) rfl))) (by decide) (backOf (W := 1) (rm_ulen l Z a0 hw [] t ([t0, t1, t2, t3, t4] : List Int32) cz h0 n0 O0 Q_t S_COMPACT_STRINGS hcz) hZ (hw _ (List.mem_of_getElem? (i := 52) rfl)) (hw _ (List.mem_of_getElem? (i := 17) rfl)) (by decide) (by decide)) q69a q69c (g := (mkF m 6 #[.val (.ref t), .val (.int (3 : Int32)), .val (.int (4 : Int32)), .unset] [(.ref t), (.int (4 : Int32))])) rfl (by rw [hml]; rfl) (Steps.refl _) (argsL := []) (rest := [(.int (4 : Int32))]) (lenOf pd_15 rfl) rfl (by show 2 * 0 + _ ≤ _; exact Nat.le_of_eq rfl) (hb hby d11_6) (fun _ _ => ⟨rfl, e0, (by decide : 0 + 0 ≤ _), (by decide : 0 + 0 ≤ _)⟩)
    dsimp only [Pt.U, Pt.locs, Pt.cells, Pt.slots] at X69 l69 y69 z69 st69 hQ69
    subst y69 z69
    obtain ⟨rfl, N69q, e69⟩ := hQ69
    have N69 : Fr n0 L69 := by rw [l69]; exact Fr.app N0 N69q
    refine stt st69 ?_
    show Go p e below T69 (mkF m 9 #[.val (.ref t), .val (.int (3 : Int32)), .val (.int (4 : Int32)), .unset] [(.int (5 : Int32)), (.int (4 : Int32))]) _
    refine stp (fun _ => XS.icmpNo X69.here hx rfl (hb hby d11_9) rfl (by decide)) ?_
    show Go p e below T69 (mkF m 12 #[.val (.ref t), .val (.int (3 : Int32)), .val (.int (4 : Int32)), .unset] []) _
    refine stp (fun _ => XS.aloadN X69.here hx rfl (hb hby d11_12) rfl rfl) ?_
    show Go p e below T69 (mkF m 13 #[.val (.ref t), .val (.int (3 : Int32)), .val (.int (4 : Int32)), .unset] [(.ref t)]) _
    refine stp (fun _ => XS.iloadN X69.here hx rfl (hb hby d11_13) rfl) ?_
    show Go p e below T69 (mkF m 14 #[.val (.ref t), .val (.int (3 : Int32)), .val (.int (4 : Int32)), .unset] [(.int (4 : Int32)), (.ref t)]) _
    obtain ⟨cq70, kq70, q70a, q70b, q70c⟩ := isOf hZ e69 Q_t.exa
    obtain ⟨_, _, ⟨T70, L70, k70, n70⟩, -, X70, ⟨Lc70, hQ70, l70, y70, z70⟩, st70⟩ := X69.virtualBack hx (y := (⟨"java/lang/String", "charAt", "(I)C"⟩ : MethodName)) (z := (⟨"java/lang/String", "charAt", "(I)C"⟩ : MethodName)) hown (mvT hZ (hw _ (List.mem_of_getElem? (i := 58) rfl))) (mvT hZ (hw _ (List.mem_of_getElem? (i := 59) rfl))) (notFace_of_selects (args := #[]) (mvT hZ (hw _ (List.mem_of_getElem? (i := 61) rfl)))) (mvT hZ (hw _ (List.mem_of_getElem? (i := 61) rfl))) (mvT hZ (hw _ (List.mem_of_getElem? (i := 60) rfl))) (by decide) (backOf (W := 0) (rm_uch l Z a0 hw [] t (4 : Int32) ([t0, t1, t2, t3, t4] : List Int32) cz fm 4 h0 n0 O0 Q_t S_COMPACT_STRINGS S_SIOOBE_FORMATTER S__assertionsDisabled S_HI_BYTE_SHIFT S_LO_BYTE_SHIFT hcz hfm (by decide) (Nat.le_of_ble_eq_true rfl)) hZ (hw _ (List.mem_of_getElem? (i := 62) rfl)) (hw _ (List.mem_of_getElem? (i := 17) rfl)) (by decide) (by decide)) q70a q70c (g := (mkF m 14 #[.val (.ref t), .val (.int (3 : Int32)), .val (.int (4 : Int32)), .unset] [(.int (4 : Int32)), (.ref t)])) rfl (by rw [hml]; rfl) (Steps.refl _) (argsL := [(.int (4 : Int32))]) (rest := []) (lenOf pd_16 rfl) rfl (by show 2 * 0 + _ ≤ _; exact Nat.le_of_eq rfl) (hb hby d11_14) (fun _ _ => ⟨rfl, e69, (by decide : 0 + 0 ≤ _), (by decide : 0 + 0 ≤ _)⟩)
    dsimp only [Pt.U, Pt.locs, Pt.cells, Pt.slots] at X70 l70 y70 z70 st70 hQ70
    subst y70 z70
    obtain ⟨rfl, N70q, e70⟩ := hQ70
    have N70 : Fr n0 L70 := by rw [l70]; exact Fr.app N69 N70q
    refine stt st70 ?_
    show Go p e below T70 (mkF m 17 #[.val (.ref t), .val (.int (3 : Int32)), .val (.int (4 : Int32)), .unset] [(.int t4)]) _
    refine stp (fun _ => XS.istoreN X70.here hx rfl (hb hby d11_17) rfl (l' := #[.val (.ref t), .val (.int (3 : Int32)), .val (.int (4 : Int32)), .val (.int t4)]) rfl) ?_
    show Go p e below T70 (mkF m 18 #[.val (.ref t), .val (.int (3 : Int32)), .val (.int (4 : Int32)), .val (.int t4)] []) _
    refine stp (fun _ => XS.iloadN X70.here hx rfl (hb hby d11_18) rfl) ?_
    show Go p e below T70 (mkF m 19 #[.val (.ref t), .val (.int (3 : Int32)), .val (.int (4 : Int32)), .val (.int t4)] [(.int t4)]) _
    refine stp (fun _ => XS.bipush X70.here hx rfl (hb hby d11_19)) ?_
    show Go p e below T70 (mkF m 21 #[.val (.ref t), .val (.int (3 : Int32)), .val (.int (4 : Int32)), .val (.int t4)] [(.int (34 : Int32)), (.int t4)]) _
    by_cases q21_71 : t4 = (34 : Int32)
    · refine stp (fun _ => XS.icmpNo X70.here hx rfl (hb hby d11_21) rfl (XT.ii_ne_f q21_71)) ?_
      show Go p e below T70 (mkF m 24 #[.val (.ref t), .val (.int (3 : Int32)), .val (.int (4 : Int32)), .val (.int t4)] []) _
      refine stp (fun _ => XS.iloadN X70.here hx rfl (hb hby d11_24) rfl) ?_
      show Go p e below T70 (mkF m 25 #[.val (.ref t), .val (.int (3 : Int32)), .val (.int (4 : Int32)), .val (.int t4)] [(.int (4 : Int32))]) _
      refine stp (fun _ => XS.iconst X70.here hx rfl (hb hby d11_25)) ?_
      show Go p e below T70 (mkF m 26 #[.val (.ref t), .val (.int (3 : Int32)), .val (.int (4 : Int32)), .val (.int t4)] [(.int (1 : Int32)), (.int (4 : Int32))]) _
      refine stp (fun _ => XS.iadd X70.here hx rfl (hb hby d11_26) rfl) ?_
      show Go p e below T70 (mkF m 27 #[.val (.ref t), .val (.int (3 : Int32)), .val (.int (4 : Int32)), .val (.int t4)] [(.int (5 : Int32))]) _
      refine outI X70 hx hret (hb hby d11_27) hlk (by decide) (by decide) ?_
      exact ⟨own_somei (by rw [own_e_3]; simp only [own_e1, own_e2, own_e3, own_e4, if_pos q21_71]), N70, e70⟩
    · refine stp (fun _ => XS.icmpYes X70.here hx rfl (pc0 := 21) (pc' := 28) rfl (hb hby d11_21) rfl (XT.ii_ne_t q21_71) (by decide) (by decide)) ?_
      show Go p e below T70 (mkF m 28 #[.val (.ref t), .val (.int (3 : Int32)), .val (.int (4 : Int32)), .val (.int t4)] []) _
      refine stp (fun _ => XS.iloadN X70.here hx rfl (hb hby d11_28) rfl) ?_
      show Go p e below T70 (mkF m 29 #[.val (.ref t), .val (.int (3 : Int32)), .val (.int (4 : Int32)), .val (.int t4)] [(.int (4 : Int32))]) _
      refine stp (fun _ => XS.iloadN X70.here hx rfl (hb hby d11_29) rfl) ?_
      show Go p e below T70 (mkF m 30 #[.val (.ref t), .val (.int (3 : Int32)), .val (.int (4 : Int32)), .val (.int t4)] [(.int t4), (.int (4 : Int32))]) _
      refine stp (fun _ => XS.bipush X70.here hx rfl (hb hby d11_30)) ?_
      show Go p e below T70 (mkF m 32 #[.val (.ref t), .val (.int (3 : Int32)), .val (.int (4 : Int32)), .val (.int t4)] [(.int (92 : Int32)), (.int t4), (.int (4 : Int32))]) _
      by_cases q32_72 : t4 = (92 : Int32)
      · refine stp (fun _ => XS.icmpNo X70.here hx rfl (hb hby d11_32) rfl (XT.ii_ne_f q32_72)) ?_
        show Go p e below T70 (mkF m 35 #[.val (.ref t), .val (.int (3 : Int32)), .val (.int (4 : Int32)), .val (.int t4)] [(.int (4 : Int32))]) _
        refine stp (fun _ => XS.iconst X70.here hx rfl (hb hby d11_35)) ?_
        show Go p e below T70 (mkF m 36 #[.val (.ref t), .val (.int (3 : Int32)), .val (.int (4 : Int32)), .val (.int t4)] [(.int (2 : Int32)), (.int (4 : Int32))]) _
        refine stp (fun _ => XS.goto X70.here hx rfl (pc0 := 36) (pc' := 40) rfl (hb hby d11_36) (by decide) (by decide)) ?_
        show Go p e below T70 (mkF m 40 #[.val (.ref t), .val (.int (3 : Int32)), .val (.int (4 : Int32)), .val (.int t4)] [(.int (2 : Int32)), (.int (4 : Int32))]) _
        refine stp (fun _ => XS.iadd X70.here hx rfl (hb hby d11_40) rfl) ?_
        show Go p e below T70 (mkF m 41 #[.val (.ref t), .val (.int (3 : Int32)), .val (.int (4 : Int32)), .val (.int t4)] [(.int (6 : Int32))]) _
        refine stp (fun _ => XS.istoreN X70.here hx rfl (hb hby d11_41) rfl (l' := #[.val (.ref t), .val (.int (3 : Int32)), .val (.int (6 : Int32)), .val (.int t4)]) rfl) ?_
        show Go p e below T70 (mkF m 42 #[.val (.ref t), .val (.int (3 : Int32)), .val (.int (6 : Int32)), .val (.int t4)] []) _
        refine stp (fun _ => XS.goto X70.here hx rfl (pc0 := 42) (pc' := 4) rfl (hb hby d11_42) (by decide) (by decide)) ?_
        show Go p e below T70 (mkF m 4 #[.val (.ref t), .val (.int (3 : Int32)), .val (.int (6 : Int32)), .val (.int t4)] []) _
        refine stp (fun _ => XS.iloadN X70.here hx rfl (hb hby d11_4) rfl) ?_
        show Go p e below T70 (mkF m 5 #[.val (.ref t), .val (.int (3 : Int32)), .val (.int (6 : Int32)), .val (.int t4)] [(.int (6 : Int32))]) _
        refine stp (fun _ => XS.aloadN X70.here hx rfl (hb hby d11_5) rfl rfl) ?_
        show Go p e below T70 (mkF m 6 #[.val (.ref t), .val (.int (3 : Int32)), .val (.int (6 : Int32)), .val (.int t4)] [(.ref t), (.int (6 : Int32))]) _
        obtain ⟨cq73, kq73, q73a, q73b, q73c⟩ := isOf hZ e70 Q_t.exa
        obtain ⟨_, _, ⟨T73, L73, k73, n73⟩, -, X73, ⟨Lc73, hQ73, l73, y73, z73⟩, st73⟩ := X70.virtualBack hx (y := (⟨"java/lang/String", "length", "()I"⟩ : MethodName)) (z := (⟨"java/lang/String", "length", "()I"⟩ : MethodName)) hown (mvT hZ (hw _ (List.mem_of_getElem? (i := 48) rfl))) (mvT hZ (hw _ (List.mem_of_getElem? (i := 49) rfl))) (notFace_of_selects (args := #[]) (mvT hZ (hw _ (List.mem_of_getElem? (i := 51) rfl)))) (mvT hZ (hw _ (List.mem_of_getElem? (i := 51) rfl))) (mvT hZ (hw _ (List.mem_of_getElem? (i := 50) rfl))) (by decide) (backOf (W := 1) (rm_ulen l Z a0 hw [] t ([t0, t1, t2, t3, t4] : List Int32) cz h0 n0 O0 Q_t S_COMPACT_STRINGS hcz) hZ (hw _ (List.mem_of_getElem? (i := 52) rfl)) (hw _ (List.mem_of_getElem? (i := 17) rfl)) (by decide) (by decide)) q73a q73c (g := (mkF m 6 #[.val (.ref t), .val (.int (3 : Int32)), .val (.int (6 : Int32)), .val (.int t4)] [(.ref t), (.int (6 : Int32))])) rfl (by rw [hml]; rfl) (Steps.refl _) (argsL := []) (rest := [(.int (6 : Int32))]) (lenOf pd_15 rfl) rfl (by show 2 * 0 + _ ≤ _; exact Nat.le_of_eq rfl) (hb hby d11_6) (fun _ _ => ⟨rfl, e70, (by decide : 0 + 0 ≤ _), (by decide : 0 + 0 ≤ _)⟩)
        dsimp only [Pt.U, Pt.locs, Pt.cells, Pt.slots] at X73 l73 y73 z73 st73 hQ73
        subst y73 z73
        obtain ⟨rfl, N73q, e73⟩ := hQ73
        have N73 : Fr n0 L73 := by rw [l73]; exact Fr.app N70 N73q
        refine stt st73 ?_
        show Go p e below T73 (mkF m 9 #[.val (.ref t), .val (.int (3 : Int32)), .val (.int (6 : Int32)), .val (.int t4)] [(.int (5 : Int32)), (.int (6 : Int32))]) _
        refine stp (fun _ => XS.icmpYes X73.here hx rfl (pc0 := 9) (pc' := 45) rfl (hb hby d11_9) rfl (by decide) (by decide) (by decide)) ?_
        show Go p e below T73 (mkF m 45 #[.val (.ref t), .val (.int (3 : Int32)), .val (.int (6 : Int32)), .val (.int t4)] []) _
        refine stp (fun _ => XS.iconst X73.here hx rfl (hb hby d11_45)) ?_
        show Go p e below T73 (mkF m 46 #[.val (.ref t), .val (.int (3 : Int32)), .val (.int (6 : Int32)), .val (.int t4)] [(.int (-1 : Int32))]) _
        refine outI X73 hx hret (hb hby d11_46) hlk (by decide) (by decide) ?_
        exact ⟨own_somei (by rw [own_e_3]; simp only [own_e1, own_e2, own_e3, own_e4, if_neg q21_71, if_pos q32_72]), N73, e73⟩
      · refine stp (fun _ => XS.icmpYes X70.here hx rfl (pc0 := 32) (pc' := 39) rfl (hb hby d11_32) rfl (XT.ii_ne_t q32_72) (by decide) (by decide)) ?_
        show Go p e below T70 (mkF m 39 #[.val (.ref t), .val (.int (3 : Int32)), .val (.int (4 : Int32)), .val (.int t4)] [(.int (4 : Int32))]) _
        refine stp (fun _ => XS.iconst X70.here hx rfl (hb hby d11_39)) ?_
        show Go p e below T70 (mkF m 40 #[.val (.ref t), .val (.int (3 : Int32)), .val (.int (4 : Int32)), .val (.int t4)] [(.int (1 : Int32)), (.int (4 : Int32))]) _
        refine stp (fun _ => XS.iadd X70.here hx rfl (hb hby d11_40) rfl) ?_
        show Go p e below T70 (mkF m 41 #[.val (.ref t), .val (.int (3 : Int32)), .val (.int (4 : Int32)), .val (.int t4)] [(.int (5 : Int32))]) _
        refine stp (fun _ => XS.istoreN X70.here hx rfl (hb hby d11_41) rfl (l' := #[.val (.ref t), .val (.int (3 : Int32)), .val (.int (5 : Int32)), .val (.int t4)]) rfl) ?_
        show Go p e below T70 (mkF m 42 #[.val (.ref t), .val (.int (3 : Int32)), .val (.int (5 : Int32)), .val (.int t4)] []) _
        refine stp (fun _ => XS.goto X70.here hx rfl (pc0 := 42) (pc' := 4) rfl (hb hby d11_42) (by decide) (by decide)) ?_
        show Go p e below T70 (mkF m 4 #[.val (.ref t), .val (.int (3 : Int32)), .val (.int (5 : Int32)), .val (.int t4)] []) _
        refine stp (fun _ => XS.iloadN X70.here hx rfl (hb hby d11_4) rfl) ?_
        show Go p e below T70 (mkF m 5 #[.val (.ref t), .val (.int (3 : Int32)), .val (.int (5 : Int32)), .val (.int t4)] [(.int (5 : Int32))]) _
        refine stp (fun _ => XS.aloadN X70.here hx rfl (hb hby d11_5) rfl rfl) ?_
        show Go p e below T70 (mkF m 6 #[.val (.ref t), .val (.int (3 : Int32)), .val (.int (5 : Int32)), .val (.int t4)] [(.ref t), (.int (5 : Int32))]) _
        obtain ⟨cq74, kq74, q74a, q74b, q74c⟩ := isOf hZ e70 Q_t.exa
        obtain ⟨_, _, ⟨T74, L74, k74, n74⟩, -, X74, ⟨Lc74, hQ74, l74, y74, z74⟩, st74⟩ := X70.virtualBack hx (y := (⟨"java/lang/String", "length", "()I"⟩ : MethodName)) (z := (⟨"java/lang/String", "length", "()I"⟩ : MethodName)) hown (mvT hZ (hw _ (List.mem_of_getElem? (i := 48) rfl))) (mvT hZ (hw _ (List.mem_of_getElem? (i := 49) rfl))) (notFace_of_selects (args := #[]) (mvT hZ (hw _ (List.mem_of_getElem? (i := 51) rfl)))) (mvT hZ (hw _ (List.mem_of_getElem? (i := 51) rfl))) (mvT hZ (hw _ (List.mem_of_getElem? (i := 50) rfl))) (by decide) (backOf (W := 1) (rm_ulen l Z a0 hw [] t ([t0, t1, t2, t3, t4] : List Int32) cz h0 n0 O0 Q_t S_COMPACT_STRINGS hcz) hZ (hw _ (List.mem_of_getElem? (i := 52) rfl)) (hw _ (List.mem_of_getElem? (i := 17) rfl)) (by decide) (by decide)) q74a q74c (g := (mkF m 6 #[.val (.ref t), .val (.int (3 : Int32)), .val (.int (5 : Int32)), .val (.int t4)] [(.ref t), (.int (5 : Int32))])) rfl (by rw [hml]; rfl) (Steps.refl _) (argsL := []) (rest := [(.int (5 : Int32))]) (lenOf pd_15 rfl) rfl (by show 2 * 0 + _ ≤ _; exact Nat.le_of_eq rfl) (hb hby d11_6) (fun _ _ => ⟨rfl, e70, (by decide : 0 + 0 ≤ _), (by decide : 0 + 0 ≤ _)⟩)
        dsimp only [Pt.U, Pt.locs, Pt.cells, Pt.slots] at X74 l74 y74 z74 st74 hQ74
        subst y74 z74
        obtain ⟨rfl, N74q, e74⟩ := hQ74
        have N74 : Fr n0 L74 := by rw [l74]; exact Fr.app N70 N74q
        refine stt st74 ?_
        show Go p e below T74 (mkF m 9 #[.val (.ref t), .val (.int (3 : Int32)), .val (.int (5 : Int32)), .val (.int t4)] [(.int (5 : Int32)), (.int (5 : Int32))]) _
        refine stp (fun _ => XS.icmpYes X74.here hx rfl (pc0 := 9) (pc' := 45) rfl (hb hby d11_9) rfl (by decide) (by decide) (by decide)) ?_
        show Go p e below T74 (mkF m 45 #[.val (.ref t), .val (.int (3 : Int32)), .val (.int (5 : Int32)), .val (.int t4)] []) _
        refine stp (fun _ => XS.iconst X74.here hx rfl (hb hby d11_45)) ?_
        show Go p e below T74 (mkF m 46 #[.val (.ref t), .val (.int (3 : Int32)), .val (.int (5 : Int32)), .val (.int t4)] [(.int (-1 : Int32))]) _
        refine outI X74 hx hret (hb hby d11_46) hlk (by decide) (by decide) ?_
        exact ⟨own_somei (by rw [own_e_3]; simp only [own_e1, own_e2, own_e3, own_e4, if_neg q21_71, if_neg q32_72]), N74, e74⟩
  · show Go p e below T0 (mkF m 0 #[.val (.ref t), .val (.int (4 : Int32)), .unset, .unset] []) _
    refine stp (fun _ => XS.iloadN X0.here hx rfl (hb hby d11_0) rfl) ?_
    show Go p e below T0 (mkF m 1 #[.val (.ref t), .val (.int (4 : Int32)), .unset, .unset] [(.int (4 : Int32))]) _
    refine stp (fun _ => XS.iconst X0.here hx rfl (hb hby d11_1)) ?_
    show Go p e below T0 (mkF m 2 #[.val (.ref t), .val (.int (4 : Int32)), .unset, .unset] [(.int (1 : Int32)), (.int (4 : Int32))]) _
    refine stp (fun _ => XS.iadd X0.here hx rfl (hb hby d11_2) rfl) ?_
    show Go p e below T0 (mkF m 3 #[.val (.ref t), .val (.int (4 : Int32)), .unset, .unset] [(.int (5 : Int32))]) _
    refine stp (fun _ => XS.istoreN X0.here hx rfl (hb hby d11_3) rfl (l' := #[.val (.ref t), .val (.int (4 : Int32)), .val (.int (5 : Int32)), .unset]) rfl) ?_
    show Go p e below T0 (mkF m 4 #[.val (.ref t), .val (.int (4 : Int32)), .val (.int (5 : Int32)), .unset] []) _
    refine stp (fun _ => XS.iloadN X0.here hx rfl (hb hby d11_4) rfl) ?_
    show Go p e below T0 (mkF m 5 #[.val (.ref t), .val (.int (4 : Int32)), .val (.int (5 : Int32)), .unset] [(.int (5 : Int32))]) _
    refine stp (fun _ => XS.aloadN X0.here hx rfl (hb hby d11_5) rfl rfl) ?_
    show Go p e below T0 (mkF m 6 #[.val (.ref t), .val (.int (4 : Int32)), .val (.int (5 : Int32)), .unset] [(.ref t), (.int (5 : Int32))]) _
    obtain ⟨cq75, kq75, q75a, q75b, q75c⟩ := isOf hZ e0 Q_t.exa
    obtain ⟨_, _, ⟨T75, L75, k75, n75⟩, -, X75, ⟨Lc75, hQ75, l75, y75, z75⟩, st75⟩ := X0.virtualBack hx (y := (⟨"java/lang/String", "length", "()I"⟩ : MethodName)) (z := (⟨"java/lang/String", "length", "()I"⟩ : MethodName)) hown (mvT hZ (hw _ (List.mem_of_getElem? (i := 48) rfl))) (mvT hZ (hw _ (List.mem_of_getElem? (i := 49) rfl))) (notFace_of_selects (args := #[]) (mvT hZ (hw _ (List.mem_of_getElem? (i := 51) rfl)))) (mvT hZ (hw _ (List.mem_of_getElem? (i := 51) rfl))) (mvT hZ (hw _ (List.mem_of_getElem? (i := 50) rfl))) (by decide) (backOf (W := 1) (rm_ulen l Z a0 hw [] t ([t0, t1, t2, t3, t4] : List Int32) cz h0 n0 O0 Q_t S_COMPACT_STRINGS hcz) hZ (hw _ (List.mem_of_getElem? (i := 52) rfl)) (hw _ (List.mem_of_getElem? (i := 17) rfl)) (by decide) (by decide)) q75a q75c (g := (mkF m 6 #[.val (.ref t), .val (.int (4 : Int32)), .val (.int (5 : Int32)), .unset] [(.ref t), (.int (5 : Int32))])) rfl (by rw [hml]; rfl) (Steps.refl _) (argsL := []) (rest := [(.int (5 : Int32))]) (lenOf pd_15 rfl) rfl (by show 2 * 0 + _ ≤ _; exact Nat.le_of_eq rfl) (hb hby d11_6) (fun _ _ => ⟨rfl, e0, (by decide : 0 + 0 ≤ _), (by decide : 0 + 0 ≤ _)⟩)
    dsimp only [Pt.U, Pt.locs, Pt.cells, Pt.slots] at X75 l75 y75 z75 st75 hQ75
    subst y75 z75
    obtain ⟨rfl, N75q, e75⟩ := hQ75
    have N75 : Fr n0 L75 := by rw [l75]; exact Fr.app N0 N75q
    refine stt st75 ?_
    show Go p e below T75 (mkF m 9 #[.val (.ref t), .val (.int (4 : Int32)), .val (.int (5 : Int32)), .unset] [(.int (5 : Int32)), (.int (5 : Int32))]) _
    refine stp (fun _ => XS.icmpYes X75.here hx rfl (pc0 := 9) (pc' := 45) rfl (hb hby d11_9) rfl (by decide) (by decide) (by decide)) ?_
    show Go p e below T75 (mkF m 45 #[.val (.ref t), .val (.int (4 : Int32)), .val (.int (5 : Int32)), .unset] []) _
    refine stp (fun _ => XS.iconst X75.here hx rfl (hb hby d11_45)) ?_
    show Go p e below T75 (mkF m 46 #[.val (.ref t), .val (.int (4 : Int32)), .val (.int (5 : Int32)), .unset] [(.int (-1 : Int32))]) _
    refine outI X75 hx hret (hb hby d11_46) hlk (by decide) (by decide) ?_
    exact ⟨own_somei (by rw [own_e_4]), N75, e75⟩
theorem pd_17 : parseMethodDescriptor "(IIC)C" = some ⟨[.int, .int, .char], some .char⟩ := by decide +kernel
theorem pd_18 : parseMethodDescriptor "([C)V" = some ⟨[(.array .char)], none⟩ := by decide +kernel
theorem pd_19 : parseMethodDescriptor "(Ljava/lang/String;I)I" = some ⟨[(.object "java/lang/String"), .int], some .int⟩ := by decide +kernel
theorem ef_rm0 (m : MethodId) (p0 : Int32) (p1 : Int32) (q2 : Int64) (p3 : Int32)  : entryFrame m #[(.int p0), (.int p1), (.long q2), (.int p3)] maxLocals = mkF m 0 #[.val (.int p0), .val (.int p1), .val (.long q2), .second, .val (.int p3), .unset, .unset, .unset] [] := by first | (simp [entryFrame, mkF, argsToLocals, Value.category, maxLocals]; done) | rfl
def Q_rm0 (Z : State) (p0 : Int32) (p1 : Int32) (q2 : Int64) (p3 : Int32) (cz : Int32) (fm : Value) (h0 : Heap) (n0 : Nat) (v : Option Value) (h : Heap) (L : List Loc) : Prop := v = some (.int 1) ∧ Fr n0 L
theorem pn_25_ : plainName "com/example/goldpage/goldpage/record/QuotingEndPinLaw" = true := by first | (simp [plainName, overriddenIn]; done) | decide +kernel
theorem pn_25 : plainFor (⟨"com/example/goldpage/goldpage/record/QuotingEndPinLaw", "law", "(IIJI)Z"⟩ : MethodName) = true := plainFor_of_name pn_25_
set_option maxRecDepth 65536 in
set_option maxHeartbeats 40000000 in
theorem rm0 (l : Launch) (Z : State) (a0 : Array Value) (hw : ∀ d ∈ tables_1, d.before a0 Z = true) (ws : List Jvm.Cond) (p0 : Int32) (p1 : Int32) (q2 : Int64) (p3 : Int32) (cz : Int32) (fm : Value) (h0 : Heap) (n0 : Nat) (O0 : Old Z n0 h0) (S_CS : Sta Z Z.heap "java/lang/String" "COMPACT_STRINGS" "Z" (.int cz)) (hcz : ¬ cz = (0 : Int32)) (S_FM : Sta Z Z.heap "jdk/internal/util/Preconditions" "SIOOBE_FORMATTER" "Ljava/util/function/BiFunction;" fm) (hfm : fm.isRef = true) (S_AS : Sta Z Z.heap "java/lang/StringUTF16" "$assertionsDisabled" "Z" (.int (1 : Int32))) (S_HI : Sta Z Z.heap "java/lang/StringUTF16" "HI_BYTE_SHIFT" "I" (.int (0 : Int32))) (S_LO : Sta Z Z.heap "java/lang/StringUTF16" "LO_BYTE_SHIFT" "I" (.int (8 : Int32))) :
    MetFree l x (head1 (Jvm.Cond.code x code maxLocals ret :: ws) room_1) (fun args_ U => args_ = #[(.int p0), (.int p1), (.long q2), (.int p3)] ∧ Z.Warmed39 U.vm ∧ U.heap = h0) (fun _ _ _ _ _ => True) (fun _ U out_ U' => ∃ val_ loc_, out_ = .returned val_ ∧ (Q_rm0 Z p0 p1 q2 p3 cz fm h0 n0) val_ U'.heap loc_ ∧ FrameEnd U out_ U' loc_ 4 39) := by
  refine start (Q := (Q_rm0 Z p0 p1 q2 p3 cz fm h0 n0)) (show plainFor x = true from pn_25) ?_
  intro p e s m below meth c T0 X0 hx hby hml hown hnm hret hlk hZ e0
  replace hown : s.vm.findClass "com/example/goldpage/goldpage/record/QuotingEndPinLaw" = some m.cls := hown
  replace hml : c.maxLocals = 8 := hml
  refine goAt (ef_rm0 m p0 p1 q2 p3 ) ?_
  have N0 := Fr.nil n0
  show Go p e below T0 (mkF m 0 #[.val (.int p0), .val (.int p1), .val (.long q2), .second, .val (.int p3), .unset, .unset, .unset] []) _
  refine stp (fun _ => XS.iconst X0.here hx rfl (hb hby at_0)) ?_
  show Go p e below T0 (mkF m 1 #[.val (.int p0), .val (.int p1), .val (.long q2), .second, .val (.int p3), .unset, .unset, .unset] [(.int (5 : Int32))]) _
  obtain ⟨T1, h1, k1, X1, e1, E1, A1, B1, st1⟩ := newPE X0 hx hZ (hw _ (List.mem_of_getElem? (i := 0) rfl)) e0 (g := (mkF m 1 #[.val (.int p0), .val (.int p1), .val (.long q2), .second, .val (.int p3), .unset, .unset, .unset] [(.int (5 : Int32))])) rfl (hb hby at_1) rfl (by decide) (cap := 5) (by decide) (by decide) (by decide) (by decide) (ad := "[C") (by decide)
  obtain ⟨b1, g1⟩ : ∃ z, z = h0.size := ⟨_, rfl⟩
  rw [← g1] at A1 B1 st1
  have sz_b1 : h0.size ≤ b1 := Nat.le_trans (Keep.refl h0 []).1 (Nat.le_of_eq g1.symm)
  have ge_b1 : n0 ≤ b1 := Nat.le_trans (old_le O0) (Nat.le_of_eq g1.symm)
  have K1 : Keep h0 h1 [] := (Keep.refl h0 []).ext E1
  have O1 := O0.ext E1
  have V1 : Arv Z h1 b1 k1 .char (5 : Int32) [(.int (0 : Int32)), (.int (0 : Int32)), (.int (0 : Int32)), (.int (0 : Int32)), (.int (0 : Int32))] (.int (0 : Int32)) := (Arv.new A1 (by decide)).pad (pad_rep [] (.int (0 : Int32)) 5)
  refine stp st1 ?_
  show Go p e below T1 (mkF m 3 #[.val (.int p0), .val (.int p1), .val (.long q2), .second, .val (.int p3), .unset, .unset, .unset] [(.ref b1)]) _
  refine stp (fun _ => XS.astore X1.here hx rfl (hb hby at_3) rfl rfl (l' := #[.val (.int p0), .val (.int p1), .val (.long q2), .second, .val (.int p3), .val (.ref b1), .unset, .unset]) rfl) ?_
  show Go p e below T1 (mkF m 5 #[.val (.int p0), .val (.int p1), .val (.long q2), .second, .val (.int p3), .val (.ref b1), .unset, .unset] []) _
  refine stp (fun _ => XS.aload X1.here hx rfl (hb hby at_5) rfl rfl) ?_
  show Go p e below T1 (mkF m 7 #[.val (.int p0), .val (.int p1), .val (.long q2), .second, .val (.int p3), .val (.ref b1), .unset, .unset] [(.ref b1)]) _
  refine stp (fun _ => XS.iconst X1.here hx rfl (hb hby at_7)) ?_
  show Go p e below T1 (mkF m 8 #[.val (.int p0), .val (.int p1), .val (.long q2), .second, .val (.int p3), .val (.ref b1), .unset, .unset] [(.int (0 : Int32)), (.ref b1)]) _
  refine stp (fun _ => XS.iloadN X1.here hx rfl (hb hby at_8) rfl) ?_
  show Go p e below T1 (mkF m 9 #[.val (.int p0), .val (.int p1), .val (.long q2), .second, .val (.int p3), .val (.ref b1), .unset, .unset] [(.int p0), (.int (0 : Int32)), (.ref b1)]) _
  refine stp (fun _ => XS.iconst X1.here hx rfl (hb hby at_9)) ?_
  show Go p e below T1 (mkF m 10 #[.val (.int p0), .val (.int p1), .val (.long q2), .second, .val (.int p3), .val (.ref b1), .unset, .unset] [(.int (0 : Int32)), (.int p0), (.int (0 : Int32)), (.ref b1)]) _
  refine stp (fun _ => XS.lloadN X1.here hx rfl (hb hby at_10) rfl) ?_
  show Go p e below T1 (mkF m 11 #[.val (.int p0), .val (.int p1), .val (.long q2), .second, .val (.int p3), .val (.ref b1), .unset, .unset] [(.long q2), (.int (0 : Int32)), (.int p0), (.int (0 : Int32)), (.ref b1)]) _
  refine stp (fun _ => XS.l2i X1.here hx rfl (hb hby at_11) rfl) ?_
  show Go p e below T1 (mkF m 12 #[.val (.int p0), .val (.int p1), .val (.long q2), .second, .val (.int p3), .val (.ref b1), .unset, .unset] [(.int (q2.toInt32)), (.int (0 : Int32)), (.int p0), (.int (0 : Int32)), (.ref b1)]) _
  refine stp (fun _ => XS.i2c X1.here hx rfl (hb hby at_12) rfl) ?_
  show Go p e below T1 (mkF m 13 #[.val (.int p0), .val (.int p1), .val (.long q2), .second, .val (.int p3), .val (.ref b1), .unset, .unset] [(.int ((q2.toInt32).toUInt32.toUInt16.toUInt32.toInt32)), (.int (0 : Int32)), (.int p0), (.int (0 : Int32)), (.ref b1)]) _
  obtain ⟨_, _, ⟨T2, L2, k2, n2⟩, -, X2, ⟨Lc2, hQ2, l2, y2, z2⟩, st2⟩ := Jvm.LawKit.callS X1 hx (y := (⟨"com/example/goldpage/goldpage/record/QuotingEndPinLaw", "pick", "(IIC)C"⟩ : MethodName)) hown (mvT hZ (hw _ (List.mem_of_getElem? (i := 1) rfl))) (mvT hZ (hw _ (List.mem_of_getElem? (i := 2) rfl))) (mvT hZ (hw _ (List.mem_of_getElem? (i := 3) rfl))) (mvT hZ (hw _ (List.mem_of_getElem? (i := 4) rfl))) (by decide) (backOf (W := 2) (rm_pick l Z a0 hw [] p0 (0 : Int32) ((q2.toInt32).toUInt32.toUInt16.toUInt32.toInt32)  h1 n0 O1 (own_i2c_sm _)) hZ (hw _ (List.mem_of_getElem? (i := 4) rfl)) (hw _ (List.mem_of_getElem? (i := 3) rfl)) (by decide) (by decide)) (g := (mkF m 13 #[.val (.int p0), .val (.int p1), .val (.long q2), .second, .val (.int p3), .val (.ref b1), .unset, .unset] [(.int ((q2.toInt32).toUInt32.toUInt16.toUInt32.toInt32)), (.int (0 : Int32)), (.int p0), (.int (0 : Int32)), (.ref b1)])) rfl (by rw [hml]; rfl) (argsL := [(.int p0), (.int (0 : Int32)), (.int ((q2.toInt32).toUInt32.toUInt16.toUInt32.toInt32))]) (rest := [(.int (0 : Int32)), (.ref b1)]) (lenOf pd_17 rfl) rfl (by show 2 * 0 + _ ≤ _; exact Nat.le_of_eq rfl) (hb hby at_13) (fun _ _ => ⟨rfl, e1, (by decide : 1 + 0 ≤ _), (by decide : 5 + 0 ≤ _)⟩)
  dsimp only [Pt.U, Pt.locs, Pt.cells, Pt.slots] at X2 l2 y2 z2 st2 hQ2
  subst y2 z2
  obtain ⟨rfl, N2q, e2⟩ := hQ2
  have N2 : Fr n0 L2 := by rw [l2]; exact Fr.app N0 N2q
  refine stp st2 ?_
  show Go p e below T2 (mkF m 16 #[.val (.int p0), .val (.int p1), .val (.long q2), .second, .val (.int p3), .val (.ref b1), .unset, .unset] [(.int (own_pick p0 (0 : Int32) ((q2.toInt32).toUInt32.toUInt16.toUInt32.toInt32))), (.int (0 : Int32)), (.ref b1)]) _
  obtain ⟨cl3, Ar3, q3, S3, M3, H3, G3⟩ := (id V1)
  have in3 : ¬ ((0 : Int32) < 0 ∨ cl3.slots.size ≤ ((0 : Int32)).toNatClampNeg) := inb_of S3 ⟨by decide, by decide⟩
  obtain ⟨T3, h3, X3, e3, W3, st3⟩ := stC X2 hx hZ e2 Ar3 (j := (0 : Int32)) in3 (g := (mkF m 16 #[.val (.int p0), .val (.int p1), .val (.long q2), .second, .val (.int p3), .val (.ref b1), .unset, .unset] [(.int (own_pick p0 (0 : Int32) ((q2.toInt32).toUInt32.toUInt16.toUInt32.toInt32))), (.int (0 : Int32)), (.ref b1)])) rfl rfl (hb hby at_16)
  have V3 : Arv Z h3 b1 k1 .char (5 : Int32) [(.int (own_pick p0 (0 : Int32) ((q2.toInt32).toUInt32.toUInt16.toUInt32.toInt32))), (.int (0 : Int32)), (.int (0 : Int32)), (.int (0 : Int32)), (.int (0 : Int32))] (.int (0 : Int32)) := Arv.set Ar3 q3 S3 M3 H3 G3 (ow_fits_char (own_cs16 (own_pick_sm (own_i2c_sm _)))) (ow_wr_char (own_cs16 (own_pick_sm (own_i2c_sm _))) W3) 0 rfl (Nat.le_of_ble_eq_true rfl)
  have f4 := B1.wr W3
  have K3 : Keep h0 h3 [] := K1.wr W3 (Or.inr sz_b1)
  have O3 := O1.wr W3 ge_b1
  have N3 := Fr.snoc X3 N2 ge_b1
  refine stp st3 ?_
  show Go p e below T3 (mkF m 17 #[.val (.int p0), .val (.int p1), .val (.long q2), .second, .val (.int p3), .val (.ref b1), .unset, .unset] []) _
  refine stp (fun _ => XS.aload X3.here hx rfl (hb hby at_17) rfl rfl) ?_
  show Go p e below T3 (mkF m 19 #[.val (.int p0), .val (.int p1), .val (.long q2), .second, .val (.int p3), .val (.ref b1), .unset, .unset] [(.ref b1)]) _
  refine stp (fun _ => XS.iconst X3.here hx rfl (hb hby at_19)) ?_
  show Go p e below T3 (mkF m 20 #[.val (.int p0), .val (.int p1), .val (.long q2), .second, .val (.int p3), .val (.ref b1), .unset, .unset] [(.int (1 : Int32)), (.ref b1)]) _
  refine stp (fun _ => XS.iloadN X3.here hx rfl (hb hby at_20) rfl) ?_
  show Go p e below T3 (mkF m 21 #[.val (.int p0), .val (.int p1), .val (.long q2), .second, .val (.int p3), .val (.ref b1), .unset, .unset] [(.int p0), (.int (1 : Int32)), (.ref b1)]) _
  refine stp (fun _ => XS.iconst X3.here hx rfl (hb hby at_21)) ?_
  show Go p e below T3 (mkF m 22 #[.val (.int p0), .val (.int p1), .val (.long q2), .second, .val (.int p3), .val (.ref b1), .unset, .unset] [(.int (1 : Int32)), (.int p0), (.int (1 : Int32)), (.ref b1)]) _
  refine stp (fun _ => XS.lloadN X3.here hx rfl (hb hby at_22) rfl) ?_
  show Go p e below T3 (mkF m 23 #[.val (.int p0), .val (.int p1), .val (.long q2), .second, .val (.int p3), .val (.ref b1), .unset, .unset] [(.long q2), (.int (1 : Int32)), (.int p0), (.int (1 : Int32)), (.ref b1)]) _
  refine stp (fun _ => XS.bipush X3.here hx rfl (hb hby at_23)) ?_
  show Go p e below T3 (mkF m 25 #[.val (.int p0), .val (.int p1), .val (.long q2), .second, .val (.int p3), .val (.ref b1), .unset, .unset] [(.int (16 : Int32)), (.long q2), (.int (1 : Int32)), (.int p0), (.int (1 : Int32)), (.ref b1)]) _
  refine stp (fun _ => XS.lushr X3.here hx rfl (hb hby at_25) rfl) ?_
  show Go p e below T3 (mkF m 26 #[.val (.int p0), .val (.int p1), .val (.long q2), .second, .val (.int p3), .val (.ref b1), .unset, .unset] [(.long ((q2.toUInt64 >>> ((16 : Int32) &&& 0x3f).toInt64.toUInt64).toInt64)), (.int (1 : Int32)), (.int p0), (.int (1 : Int32)), (.ref b1)]) _
  refine stp (fun _ => XS.l2i X3.here hx rfl (hb hby at_26) rfl) ?_
  show Go p e below T3 (mkF m 27 #[.val (.int p0), .val (.int p1), .val (.long q2), .second, .val (.int p3), .val (.ref b1), .unset, .unset] [(.int (((q2.toUInt64 >>> ((16 : Int32) &&& 0x3f).toInt64.toUInt64).toInt64).toInt32)), (.int (1 : Int32)), (.int p0), (.int (1 : Int32)), (.ref b1)]) _
  refine stp (fun _ => XS.i2c X3.here hx rfl (hb hby at_27) rfl) ?_
  show Go p e below T3 (mkF m 28 #[.val (.int p0), .val (.int p1), .val (.long q2), .second, .val (.int p3), .val (.ref b1), .unset, .unset] [(.int ((((q2.toUInt64 >>> ((16 : Int32) &&& 0x3f).toInt64.toUInt64).toInt64).toInt32).toUInt32.toUInt16.toUInt32.toInt32)), (.int (1 : Int32)), (.int p0), (.int (1 : Int32)), (.ref b1)]) _
  obtain ⟨_, _, ⟨T6, L6, k6, n6⟩, -, X6, ⟨Lc6, hQ6, l6, y6, z6⟩, st6⟩ := Jvm.LawKit.callS X3 hx (y := (⟨"com/example/goldpage/goldpage/record/QuotingEndPinLaw", "pick", "(IIC)C"⟩ : MethodName)) hown (mvT hZ (hw _ (List.mem_of_getElem? (i := 1) rfl))) (mvT hZ (hw _ (List.mem_of_getElem? (i := 2) rfl))) (mvT hZ (hw _ (List.mem_of_getElem? (i := 3) rfl))) (mvT hZ (hw _ (List.mem_of_getElem? (i := 4) rfl))) (by decide) (backOf (W := 2) (rm_pick l Z a0 hw [] p0 (1 : Int32) ((((q2.toUInt64 >>> ((16 : Int32) &&& 0x3f).toInt64.toUInt64).toInt64).toInt32).toUInt32.toUInt16.toUInt32.toInt32)  h3 n0 O3 (own_i2c_sm _)) hZ (hw _ (List.mem_of_getElem? (i := 4) rfl)) (hw _ (List.mem_of_getElem? (i := 3) rfl)) (by decide) (by decide)) (g := (mkF m 28 #[.val (.int p0), .val (.int p1), .val (.long q2), .second, .val (.int p3), .val (.ref b1), .unset, .unset] [(.int ((((q2.toUInt64 >>> ((16 : Int32) &&& 0x3f).toInt64.toUInt64).toInt64).toInt32).toUInt32.toUInt16.toUInt32.toInt32)), (.int (1 : Int32)), (.int p0), (.int (1 : Int32)), (.ref b1)])) rfl (by rw [hml]; rfl) (argsL := [(.int p0), (.int (1 : Int32)), (.int ((((q2.toUInt64 >>> ((16 : Int32) &&& 0x3f).toInt64.toUInt64).toInt64).toInt32).toUInt32.toUInt16.toUInt32.toInt32))]) (rest := [(.int (1 : Int32)), (.ref b1)]) (lenOf pd_17 rfl) rfl (by show 2 * 0 + _ ≤ _; exact Nat.le_of_eq rfl) (hb hby at_28) (fun _ _ => ⟨rfl, e3, (by decide : 1 + 0 ≤ _), (by decide : 5 + 0 ≤ _)⟩)
  dsimp only [Pt.U, Pt.locs, Pt.cells, Pt.slots] at X6 l6 y6 z6 st6 hQ6
  subst y6 z6
  obtain ⟨rfl, N6q, e6⟩ := hQ6
  have N6 : Fr n0 L6 := by rw [l6]; exact Fr.app N3 N6q
  refine stp st6 ?_
  show Go p e below T6 (mkF m 31 #[.val (.int p0), .val (.int p1), .val (.long q2), .second, .val (.int p3), .val (.ref b1), .unset, .unset] [(.int (own_pick p0 (1 : Int32) ((((q2.toUInt64 >>> ((16 : Int32) &&& 0x3f).toInt64.toUInt64).toInt64).toInt32).toUInt32.toUInt16.toUInt32.toInt32))), (.int (1 : Int32)), (.ref b1)]) _
  obtain ⟨cl7, Ar7, q7, S7, M7, H7, G7⟩ := (id V3)
  have in7 : ¬ ((1 : Int32) < 0 ∨ cl7.slots.size ≤ ((1 : Int32)).toNatClampNeg) := inb_of S7 ⟨by decide, by decide⟩
  obtain ⟨T7, h7, X7, e7, W7, st7⟩ := stC X6 hx hZ e6 Ar7 (j := (1 : Int32)) in7 (g := (mkF m 31 #[.val (.int p0), .val (.int p1), .val (.long q2), .second, .val (.int p3), .val (.ref b1), .unset, .unset] [(.int (own_pick p0 (1 : Int32) ((((q2.toUInt64 >>> ((16 : Int32) &&& 0x3f).toInt64.toUInt64).toInt64).toInt32).toUInt32.toUInt16.toUInt32.toInt32))), (.int (1 : Int32)), (.ref b1)])) rfl rfl (hb hby at_31)
  have V7 : Arv Z h7 b1 k1 .char (5 : Int32) [(.int (own_pick p0 (0 : Int32) ((q2.toInt32).toUInt32.toUInt16.toUInt32.toInt32))), (.int (own_pick p0 (1 : Int32) ((((q2.toUInt64 >>> ((16 : Int32) &&& 0x3f).toInt64.toUInt64).toInt64).toInt32).toUInt32.toUInt16.toUInt32.toInt32))), (.int (0 : Int32)), (.int (0 : Int32)), (.int (0 : Int32))] (.int (0 : Int32)) := Arv.set Ar7 q7 S7 M7 H7 G7 (ow_fits_char (own_cs16 (own_pick_sm (own_i2c_sm _)))) (ow_wr_char (own_cs16 (own_pick_sm (own_i2c_sm _))) W7) 1 rfl (Nat.le_of_ble_eq_true rfl)
  have f8 := f4.wr W7
  have K7 : Keep h0 h7 [] := K3.wr W7 (Or.inr sz_b1)
  have O7 := O3.wr W7 ge_b1
  have N7 := Fr.snoc X7 N6 ge_b1
  refine stp st7 ?_
  show Go p e below T7 (mkF m 32 #[.val (.int p0), .val (.int p1), .val (.long q2), .second, .val (.int p3), .val (.ref b1), .unset, .unset] []) _
  refine stp (fun _ => XS.aload X7.here hx rfl (hb hby at_32) rfl rfl) ?_
  show Go p e below T7 (mkF m 34 #[.val (.int p0), .val (.int p1), .val (.long q2), .second, .val (.int p3), .val (.ref b1), .unset, .unset] [(.ref b1)]) _
  refine stp (fun _ => XS.iconst X7.here hx rfl (hb hby at_34)) ?_
  show Go p e below T7 (mkF m 35 #[.val (.int p0), .val (.int p1), .val (.long q2), .second, .val (.int p3), .val (.ref b1), .unset, .unset] [(.int (2 : Int32)), (.ref b1)]) _
  refine stp (fun _ => XS.iloadN X7.here hx rfl (hb hby at_35) rfl) ?_
  show Go p e below T7 (mkF m 36 #[.val (.int p0), .val (.int p1), .val (.long q2), .second, .val (.int p3), .val (.ref b1), .unset, .unset] [(.int p0), (.int (2 : Int32)), (.ref b1)]) _
  refine stp (fun _ => XS.iconst X7.here hx rfl (hb hby at_36)) ?_
  show Go p e below T7 (mkF m 37 #[.val (.int p0), .val (.int p1), .val (.long q2), .second, .val (.int p3), .val (.ref b1), .unset, .unset] [(.int (2 : Int32)), (.int p0), (.int (2 : Int32)), (.ref b1)]) _
  refine stp (fun _ => XS.lloadN X7.here hx rfl (hb hby at_37) rfl) ?_
  show Go p e below T7 (mkF m 38 #[.val (.int p0), .val (.int p1), .val (.long q2), .second, .val (.int p3), .val (.ref b1), .unset, .unset] [(.long q2), (.int (2 : Int32)), (.int p0), (.int (2 : Int32)), (.ref b1)]) _
  refine stp (fun _ => XS.bipush X7.here hx rfl (hb hby at_38)) ?_
  show Go p e below T7 (mkF m 40 #[.val (.int p0), .val (.int p1), .val (.long q2), .second, .val (.int p3), .val (.ref b1), .unset, .unset] [(.int (32 : Int32)), (.long q2), (.int (2 : Int32)), (.int p0), (.int (2 : Int32)), (.ref b1)]) _
  refine stp (fun _ => XS.lushr X7.here hx rfl (hb hby at_40) rfl) ?_
  show Go p e below T7 (mkF m 41 #[.val (.int p0), .val (.int p1), .val (.long q2), .second, .val (.int p3), .val (.ref b1), .unset, .unset] [(.long ((q2.toUInt64 >>> ((32 : Int32) &&& 0x3f).toInt64.toUInt64).toInt64)), (.int (2 : Int32)), (.int p0), (.int (2 : Int32)), (.ref b1)]) _
  refine stp (fun _ => XS.l2i X7.here hx rfl (hb hby at_41) rfl) ?_
  show Go p e below T7 (mkF m 42 #[.val (.int p0), .val (.int p1), .val (.long q2), .second, .val (.int p3), .val (.ref b1), .unset, .unset] [(.int (((q2.toUInt64 >>> ((32 : Int32) &&& 0x3f).toInt64.toUInt64).toInt64).toInt32)), (.int (2 : Int32)), (.int p0), (.int (2 : Int32)), (.ref b1)]) _
  refine stp (fun _ => XS.i2c X7.here hx rfl (hb hby at_42) rfl) ?_
  show Go p e below T7 (mkF m 43 #[.val (.int p0), .val (.int p1), .val (.long q2), .second, .val (.int p3), .val (.ref b1), .unset, .unset] [(.int ((((q2.toUInt64 >>> ((32 : Int32) &&& 0x3f).toInt64.toUInt64).toInt64).toInt32).toUInt32.toUInt16.toUInt32.toInt32)), (.int (2 : Int32)), (.int p0), (.int (2 : Int32)), (.ref b1)]) _
  obtain ⟨_, _, ⟨T10, L10, k10, n10⟩, -, X10, ⟨Lc10, hQ10, l10, y10, z10⟩, st10⟩ := Jvm.LawKit.callS X7 hx (y := (⟨"com/example/goldpage/goldpage/record/QuotingEndPinLaw", "pick", "(IIC)C"⟩ : MethodName)) hown (mvT hZ (hw _ (List.mem_of_getElem? (i := 1) rfl))) (mvT hZ (hw _ (List.mem_of_getElem? (i := 2) rfl))) (mvT hZ (hw _ (List.mem_of_getElem? (i := 3) rfl))) (mvT hZ (hw _ (List.mem_of_getElem? (i := 4) rfl))) (by decide) (backOf (W := 2) (rm_pick l Z a0 hw [] p0 (2 : Int32) ((((q2.toUInt64 >>> ((32 : Int32) &&& 0x3f).toInt64.toUInt64).toInt64).toInt32).toUInt32.toUInt16.toUInt32.toInt32)  h7 n0 O7 (own_i2c_sm _)) hZ (hw _ (List.mem_of_getElem? (i := 4) rfl)) (hw _ (List.mem_of_getElem? (i := 3) rfl)) (by decide) (by decide)) (g := (mkF m 43 #[.val (.int p0), .val (.int p1), .val (.long q2), .second, .val (.int p3), .val (.ref b1), .unset, .unset] [(.int ((((q2.toUInt64 >>> ((32 : Int32) &&& 0x3f).toInt64.toUInt64).toInt64).toInt32).toUInt32.toUInt16.toUInt32.toInt32)), (.int (2 : Int32)), (.int p0), (.int (2 : Int32)), (.ref b1)])) rfl (by rw [hml]; rfl) (argsL := [(.int p0), (.int (2 : Int32)), (.int ((((q2.toUInt64 >>> ((32 : Int32) &&& 0x3f).toInt64.toUInt64).toInt64).toInt32).toUInt32.toUInt16.toUInt32.toInt32))]) (rest := [(.int (2 : Int32)), (.ref b1)]) (lenOf pd_17 rfl) rfl (by show 2 * 0 + _ ≤ _; exact Nat.le_of_eq rfl) (hb hby at_43) (fun _ _ => ⟨rfl, e7, (by decide : 1 + 0 ≤ _), (by decide : 5 + 0 ≤ _)⟩)
  dsimp only [Pt.U, Pt.locs, Pt.cells, Pt.slots] at X10 l10 y10 z10 st10 hQ10
  subst y10 z10
  obtain ⟨rfl, N10q, e10⟩ := hQ10
  have N10 : Fr n0 L10 := by rw [l10]; exact Fr.app N7 N10q
  refine stp st10 ?_
  show Go p e below T10 (mkF m 46 #[.val (.int p0), .val (.int p1), .val (.long q2), .second, .val (.int p3), .val (.ref b1), .unset, .unset] [(.int (own_pick p0 (2 : Int32) ((((q2.toUInt64 >>> ((32 : Int32) &&& 0x3f).toInt64.toUInt64).toInt64).toInt32).toUInt32.toUInt16.toUInt32.toInt32))), (.int (2 : Int32)), (.ref b1)]) _
  obtain ⟨cl11, Ar11, q11, S11, M11, H11, G11⟩ := (id V7)
  have in11 : ¬ ((2 : Int32) < 0 ∨ cl11.slots.size ≤ ((2 : Int32)).toNatClampNeg) := inb_of S11 ⟨by decide, by decide⟩
  obtain ⟨T11, h11, X11, e11, W11, st11⟩ := stC X10 hx hZ e10 Ar11 (j := (2 : Int32)) in11 (g := (mkF m 46 #[.val (.int p0), .val (.int p1), .val (.long q2), .second, .val (.int p3), .val (.ref b1), .unset, .unset] [(.int (own_pick p0 (2 : Int32) ((((q2.toUInt64 >>> ((32 : Int32) &&& 0x3f).toInt64.toUInt64).toInt64).toInt32).toUInt32.toUInt16.toUInt32.toInt32))), (.int (2 : Int32)), (.ref b1)])) rfl rfl (hb hby at_46)
  have V11 : Arv Z h11 b1 k1 .char (5 : Int32) [(.int (own_pick p0 (0 : Int32) ((q2.toInt32).toUInt32.toUInt16.toUInt32.toInt32))), (.int (own_pick p0 (1 : Int32) ((((q2.toUInt64 >>> ((16 : Int32) &&& 0x3f).toInt64.toUInt64).toInt64).toInt32).toUInt32.toUInt16.toUInt32.toInt32))), (.int (own_pick p0 (2 : Int32) ((((q2.toUInt64 >>> ((32 : Int32) &&& 0x3f).toInt64.toUInt64).toInt64).toInt32).toUInt32.toUInt16.toUInt32.toInt32))), (.int (0 : Int32)), (.int (0 : Int32))] (.int (0 : Int32)) := Arv.set Ar11 q11 S11 M11 H11 G11 (ow_fits_char (own_cs16 (own_pick_sm (own_i2c_sm _)))) (ow_wr_char (own_cs16 (own_pick_sm (own_i2c_sm _))) W11) 2 rfl (Nat.le_of_ble_eq_true rfl)
  have f12 := f8.wr W11
  have K11 : Keep h0 h11 [] := K7.wr W11 (Or.inr sz_b1)
  have O11 := O7.wr W11 ge_b1
  have N11 := Fr.snoc X11 N10 ge_b1
  refine stp st11 ?_
  show Go p e below T11 (mkF m 47 #[.val (.int p0), .val (.int p1), .val (.long q2), .second, .val (.int p3), .val (.ref b1), .unset, .unset] []) _
  refine stp (fun _ => XS.aload X11.here hx rfl (hb hby at_47) rfl rfl) ?_
  show Go p e below T11 (mkF m 49 #[.val (.int p0), .val (.int p1), .val (.long q2), .second, .val (.int p3), .val (.ref b1), .unset, .unset] [(.ref b1)]) _
  refine stp (fun _ => XS.iconst X11.here hx rfl (hb hby at_49)) ?_
  show Go p e below T11 (mkF m 50 #[.val (.int p0), .val (.int p1), .val (.long q2), .second, .val (.int p3), .val (.ref b1), .unset, .unset] [(.int (3 : Int32)), (.ref b1)]) _
  refine stp (fun _ => XS.iloadN X11.here hx rfl (hb hby at_50) rfl) ?_
  show Go p e below T11 (mkF m 51 #[.val (.int p0), .val (.int p1), .val (.long q2), .second, .val (.int p3), .val (.ref b1), .unset, .unset] [(.int p0), (.int (3 : Int32)), (.ref b1)]) _
  refine stp (fun _ => XS.iconst X11.here hx rfl (hb hby at_51)) ?_
  show Go p e below T11 (mkF m 52 #[.val (.int p0), .val (.int p1), .val (.long q2), .second, .val (.int p3), .val (.ref b1), .unset, .unset] [(.int (3 : Int32)), (.int p0), (.int (3 : Int32)), (.ref b1)]) _
  refine stp (fun _ => XS.lloadN X11.here hx rfl (hb hby at_52) rfl) ?_
  show Go p e below T11 (mkF m 53 #[.val (.int p0), .val (.int p1), .val (.long q2), .second, .val (.int p3), .val (.ref b1), .unset, .unset] [(.long q2), (.int (3 : Int32)), (.int p0), (.int (3 : Int32)), (.ref b1)]) _
  refine stp (fun _ => XS.bipush X11.here hx rfl (hb hby at_53)) ?_
  show Go p e below T11 (mkF m 55 #[.val (.int p0), .val (.int p1), .val (.long q2), .second, .val (.int p3), .val (.ref b1), .unset, .unset] [(.int (48 : Int32)), (.long q2), (.int (3 : Int32)), (.int p0), (.int (3 : Int32)), (.ref b1)]) _
  refine stp (fun _ => XS.lushr X11.here hx rfl (hb hby at_55) rfl) ?_
  show Go p e below T11 (mkF m 56 #[.val (.int p0), .val (.int p1), .val (.long q2), .second, .val (.int p3), .val (.ref b1), .unset, .unset] [(.long ((q2.toUInt64 >>> ((48 : Int32) &&& 0x3f).toInt64.toUInt64).toInt64)), (.int (3 : Int32)), (.int p0), (.int (3 : Int32)), (.ref b1)]) _
  refine stp (fun _ => XS.l2i X11.here hx rfl (hb hby at_56) rfl) ?_
  show Go p e below T11 (mkF m 57 #[.val (.int p0), .val (.int p1), .val (.long q2), .second, .val (.int p3), .val (.ref b1), .unset, .unset] [(.int (((q2.toUInt64 >>> ((48 : Int32) &&& 0x3f).toInt64.toUInt64).toInt64).toInt32)), (.int (3 : Int32)), (.int p0), (.int (3 : Int32)), (.ref b1)]) _
  refine stp (fun _ => XS.i2c X11.here hx rfl (hb hby at_57) rfl) ?_
  show Go p e below T11 (mkF m 58 #[.val (.int p0), .val (.int p1), .val (.long q2), .second, .val (.int p3), .val (.ref b1), .unset, .unset] [(.int ((((q2.toUInt64 >>> ((48 : Int32) &&& 0x3f).toInt64.toUInt64).toInt64).toInt32).toUInt32.toUInt16.toUInt32.toInt32)), (.int (3 : Int32)), (.int p0), (.int (3 : Int32)), (.ref b1)]) _
  obtain ⟨_, _, ⟨T14, L14, k14, n14⟩, -, X14, ⟨Lc14, hQ14, l14, y14, z14⟩, st14⟩ := Jvm.LawKit.callS X11 hx (y := (⟨"com/example/goldpage/goldpage/record/QuotingEndPinLaw", "pick", "(IIC)C"⟩ : MethodName)) hown (mvT hZ (hw _ (List.mem_of_getElem? (i := 1) rfl))) (mvT hZ (hw _ (List.mem_of_getElem? (i := 2) rfl))) (mvT hZ (hw _ (List.mem_of_getElem? (i := 3) rfl))) (mvT hZ (hw _ (List.mem_of_getElem? (i := 4) rfl))) (by decide) (backOf (W := 2) (rm_pick l Z a0 hw [] p0 (3 : Int32) ((((q2.toUInt64 >>> ((48 : Int32) &&& 0x3f).toInt64.toUInt64).toInt64).toInt32).toUInt32.toUInt16.toUInt32.toInt32)  h11 n0 O11 (own_i2c_sm _)) hZ (hw _ (List.mem_of_getElem? (i := 4) rfl)) (hw _ (List.mem_of_getElem? (i := 3) rfl)) (by decide) (by decide)) (g := (mkF m 58 #[.val (.int p0), .val (.int p1), .val (.long q2), .second, .val (.int p3), .val (.ref b1), .unset, .unset] [(.int ((((q2.toUInt64 >>> ((48 : Int32) &&& 0x3f).toInt64.toUInt64).toInt64).toInt32).toUInt32.toUInt16.toUInt32.toInt32)), (.int (3 : Int32)), (.int p0), (.int (3 : Int32)), (.ref b1)])) rfl (by rw [hml]; rfl) (argsL := [(.int p0), (.int (3 : Int32)), (.int ((((q2.toUInt64 >>> ((48 : Int32) &&& 0x3f).toInt64.toUInt64).toInt64).toInt32).toUInt32.toUInt16.toUInt32.toInt32))]) (rest := [(.int (3 : Int32)), (.ref b1)]) (lenOf pd_17 rfl) rfl (by show 2 * 0 + _ ≤ _; exact Nat.le_of_eq rfl) (hb hby at_58) (fun _ _ => ⟨rfl, e11, (by decide : 1 + 0 ≤ _), (by decide : 5 + 0 ≤ _)⟩)
  dsimp only [Pt.U, Pt.locs, Pt.cells, Pt.slots] at X14 l14 y14 z14 st14 hQ14
  subst y14 z14
  obtain ⟨rfl, N14q, e14⟩ := hQ14
  have N14 : Fr n0 L14 := by rw [l14]; exact Fr.app N11 N14q
  refine stp st14 ?_
  show Go p e below T14 (mkF m 61 #[.val (.int p0), .val (.int p1), .val (.long q2), .second, .val (.int p3), .val (.ref b1), .unset, .unset] [(.int (own_pick p0 (3 : Int32) ((((q2.toUInt64 >>> ((48 : Int32) &&& 0x3f).toInt64.toUInt64).toInt64).toInt32).toUInt32.toUInt16.toUInt32.toInt32))), (.int (3 : Int32)), (.ref b1)]) _
  obtain ⟨cl15, Ar15, q15, S15, M15, H15, G15⟩ := (id V11)
  have in15 : ¬ ((3 : Int32) < 0 ∨ cl15.slots.size ≤ ((3 : Int32)).toNatClampNeg) := inb_of S15 ⟨by decide, by decide⟩
  obtain ⟨T15, h15, X15, e15, W15, st15⟩ := stC X14 hx hZ e14 Ar15 (j := (3 : Int32)) in15 (g := (mkF m 61 #[.val (.int p0), .val (.int p1), .val (.long q2), .second, .val (.int p3), .val (.ref b1), .unset, .unset] [(.int (own_pick p0 (3 : Int32) ((((q2.toUInt64 >>> ((48 : Int32) &&& 0x3f).toInt64.toUInt64).toInt64).toInt32).toUInt32.toUInt16.toUInt32.toInt32))), (.int (3 : Int32)), (.ref b1)])) rfl rfl (hb hby at_61)
  have V15 : Arv Z h15 b1 k1 .char (5 : Int32) [(.int (own_pick p0 (0 : Int32) ((q2.toInt32).toUInt32.toUInt16.toUInt32.toInt32))), (.int (own_pick p0 (1 : Int32) ((((q2.toUInt64 >>> ((16 : Int32) &&& 0x3f).toInt64.toUInt64).toInt64).toInt32).toUInt32.toUInt16.toUInt32.toInt32))), (.int (own_pick p0 (2 : Int32) ((((q2.toUInt64 >>> ((32 : Int32) &&& 0x3f).toInt64.toUInt64).toInt64).toInt32).toUInt32.toUInt16.toUInt32.toInt32))), (.int (own_pick p0 (3 : Int32) ((((q2.toUInt64 >>> ((48 : Int32) &&& 0x3f).toInt64.toUInt64).toInt64).toInt32).toUInt32.toUInt16.toUInt32.toInt32))), (.int (0 : Int32))] (.int (0 : Int32)) := Arv.set Ar15 q15 S15 M15 H15 G15 (ow_fits_char (own_cs16 (own_pick_sm (own_i2c_sm _)))) (ow_wr_char (own_cs16 (own_pick_sm (own_i2c_sm _))) W15) 3 rfl (Nat.le_of_ble_eq_true rfl)
  have f16 := f12.wr W15
  have K15 : Keep h0 h15 [] := K11.wr W15 (Or.inr sz_b1)
  have O15 := O11.wr W15 ge_b1
  have N15 := Fr.snoc X15 N14 ge_b1
  refine stp st15 ?_
  show Go p e below T15 (mkF m 62 #[.val (.int p0), .val (.int p1), .val (.long q2), .second, .val (.int p3), .val (.ref b1), .unset, .unset] []) _
  refine stp (fun _ => XS.aload X15.here hx rfl (hb hby at_62) rfl rfl) ?_
  show Go p e below T15 (mkF m 64 #[.val (.int p0), .val (.int p1), .val (.long q2), .second, .val (.int p3), .val (.ref b1), .unset, .unset] [(.ref b1)]) _
  refine stp (fun _ => XS.iconst X15.here hx rfl (hb hby at_64)) ?_
  show Go p e below T15 (mkF m 65 #[.val (.int p0), .val (.int p1), .val (.long q2), .second, .val (.int p3), .val (.ref b1), .unset, .unset] [(.int (4 : Int32)), (.ref b1)]) _
  refine stp (fun _ => XS.iloadN X15.here hx rfl (hb hby at_65) rfl) ?_
  show Go p e below T15 (mkF m 66 #[.val (.int p0), .val (.int p1), .val (.long q2), .second, .val (.int p3), .val (.ref b1), .unset, .unset] [(.int p0), (.int (4 : Int32)), (.ref b1)]) _
  refine stp (fun _ => XS.iconst X15.here hx rfl (hb hby at_66)) ?_
  show Go p e below T15 (mkF m 67 #[.val (.int p0), .val (.int p1), .val (.long q2), .second, .val (.int p3), .val (.ref b1), .unset, .unset] [(.int (4 : Int32)), (.int p0), (.int (4 : Int32)), (.ref b1)]) _
  refine stp (fun _ => XS.iload X15.here hx rfl (hb hby at_67) rfl) ?_
  show Go p e below T15 (mkF m 69 #[.val (.int p0), .val (.int p1), .val (.long q2), .second, .val (.int p3), .val (.ref b1), .unset, .unset] [(.int p3), (.int (4 : Int32)), (.int p0), (.int (4 : Int32)), (.ref b1)]) _
  refine stp (fun _ => XS.i2c X15.here hx rfl (hb hby at_69) rfl) ?_
  show Go p e below T15 (mkF m 70 #[.val (.int p0), .val (.int p1), .val (.long q2), .second, .val (.int p3), .val (.ref b1), .unset, .unset] [(.int (p3.toUInt32.toUInt16.toUInt32.toInt32)), (.int (4 : Int32)), (.int p0), (.int (4 : Int32)), (.ref b1)]) _
  obtain ⟨_, _, ⟨T18, L18, k18, n18⟩, -, X18, ⟨Lc18, hQ18, l18, y18, z18⟩, st18⟩ := Jvm.LawKit.callS X15 hx (y := (⟨"com/example/goldpage/goldpage/record/QuotingEndPinLaw", "pick", "(IIC)C"⟩ : MethodName)) hown (mvT hZ (hw _ (List.mem_of_getElem? (i := 1) rfl))) (mvT hZ (hw _ (List.mem_of_getElem? (i := 2) rfl))) (mvT hZ (hw _ (List.mem_of_getElem? (i := 3) rfl))) (mvT hZ (hw _ (List.mem_of_getElem? (i := 4) rfl))) (by decide) (backOf (W := 2) (rm_pick l Z a0 hw [] p0 (4 : Int32) (p3.toUInt32.toUInt16.toUInt32.toInt32)  h15 n0 O15 (own_i2c_sm _)) hZ (hw _ (List.mem_of_getElem? (i := 4) rfl)) (hw _ (List.mem_of_getElem? (i := 3) rfl)) (by decide) (by decide)) (g := (mkF m 70 #[.val (.int p0), .val (.int p1), .val (.long q2), .second, .val (.int p3), .val (.ref b1), .unset, .unset] [(.int (p3.toUInt32.toUInt16.toUInt32.toInt32)), (.int (4 : Int32)), (.int p0), (.int (4 : Int32)), (.ref b1)])) rfl (by rw [hml]; rfl) (argsL := [(.int p0), (.int (4 : Int32)), (.int (p3.toUInt32.toUInt16.toUInt32.toInt32))]) (rest := [(.int (4 : Int32)), (.ref b1)]) (lenOf pd_17 rfl) rfl (by show 2 * 0 + _ ≤ _; exact Nat.le_of_eq rfl) (hb hby at_70) (fun _ _ => ⟨rfl, e15, (by decide : 1 + 0 ≤ _), (by decide : 5 + 0 ≤ _)⟩)
  dsimp only [Pt.U, Pt.locs, Pt.cells, Pt.slots] at X18 l18 y18 z18 st18 hQ18
  subst y18 z18
  obtain ⟨rfl, N18q, e18⟩ := hQ18
  have N18 : Fr n0 L18 := by rw [l18]; exact Fr.app N15 N18q
  refine stp st18 ?_
  show Go p e below T18 (mkF m 73 #[.val (.int p0), .val (.int p1), .val (.long q2), .second, .val (.int p3), .val (.ref b1), .unset, .unset] [(.int (own_pick p0 (4 : Int32) (p3.toUInt32.toUInt16.toUInt32.toInt32))), (.int (4 : Int32)), (.ref b1)]) _
  obtain ⟨cl19, Ar19, q19, S19, M19, H19, G19⟩ := (id V15)
  have in19 : ¬ ((4 : Int32) < 0 ∨ cl19.slots.size ≤ ((4 : Int32)).toNatClampNeg) := inb_of S19 ⟨by decide, by decide⟩
  obtain ⟨T19, h19, X19, e19, W19, st19⟩ := stC X18 hx hZ e18 Ar19 (j := (4 : Int32)) in19 (g := (mkF m 73 #[.val (.int p0), .val (.int p1), .val (.long q2), .second, .val (.int p3), .val (.ref b1), .unset, .unset] [(.int (own_pick p0 (4 : Int32) (p3.toUInt32.toUInt16.toUInt32.toInt32))), (.int (4 : Int32)), (.ref b1)])) rfl rfl (hb hby at_73)
  have V19 : Arv Z h19 b1 k1 .char (5 : Int32) [(.int (own_pick p0 (0 : Int32) ((q2.toInt32).toUInt32.toUInt16.toUInt32.toInt32))), (.int (own_pick p0 (1 : Int32) ((((q2.toUInt64 >>> ((16 : Int32) &&& 0x3f).toInt64.toUInt64).toInt64).toInt32).toUInt32.toUInt16.toUInt32.toInt32))), (.int (own_pick p0 (2 : Int32) ((((q2.toUInt64 >>> ((32 : Int32) &&& 0x3f).toInt64.toUInt64).toInt64).toInt32).toUInt32.toUInt16.toUInt32.toInt32))), (.int (own_pick p0 (3 : Int32) ((((q2.toUInt64 >>> ((48 : Int32) &&& 0x3f).toInt64.toUInt64).toInt64).toInt32).toUInt32.toUInt16.toUInt32.toInt32))), (.int (own_pick p0 (4 : Int32) (p3.toUInt32.toUInt16.toUInt32.toInt32)))] (.int (0 : Int32)) := Arv.set Ar19 q19 S19 M19 H19 G19 (ow_fits_char (own_cs16 (own_pick_sm (own_i2c_sm _)))) (ow_wr_char (own_cs16 (own_pick_sm (own_i2c_sm _))) W19) 4 rfl (Nat.le_of_ble_eq_true rfl)
  have f20 := f16.wr W19
  have K19 : Keep h0 h19 [] := K15.wr W19 (Or.inr sz_b1)
  have O19 := O15.wr W19 ge_b1
  have N19 := Fr.snoc X19 N18 ge_b1
  refine stp st19 ?_
  show Go p e below T19 (mkF m 74 #[.val (.int p0), .val (.int p1), .val (.long q2), .second, .val (.int p3), .val (.ref b1), .unset, .unset] []) _
  obtain ⟨t0, ht0⟩ : ∃ z : Int32, z = (own_pick p0 (0 : Int32) ((q2.toInt32).toUInt32.toUInt16.toUInt32.toInt32)) := ⟨_, rfl⟩
  obtain ⟨t1, ht1⟩ : ∃ z : Int32, z = (own_pick p0 (1 : Int32) ((((q2.toUInt64 >>> ((16 : Int32) &&& 0x3f).toInt64.toUInt64).toInt64).toInt32).toUInt32.toUInt16.toUInt32.toInt32)) := ⟨_, rfl⟩
  obtain ⟨t2, ht2⟩ : ∃ z : Int32, z = (own_pick p0 (2 : Int32) ((((q2.toUInt64 >>> ((32 : Int32) &&& 0x3f).toInt64.toUInt64).toInt64).toInt32).toUInt32.toUInt16.toUInt32.toInt32)) := ⟨_, rfl⟩
  obtain ⟨t3, ht3⟩ : ∃ z : Int32, z = (own_pick p0 (3 : Int32) ((((q2.toUInt64 >>> ((48 : Int32) &&& 0x3f).toInt64.toUInt64).toInt64).toInt32).toUInt32.toUInt16.toUInt32.toInt32)) := ⟨_, rfl⟩
  obtain ⟨t4, ht4⟩ : ∃ z : Int32, z = (own_pick p0 (4 : Int32) (p3.toUInt32.toUInt16.toUInt32.toInt32)) := ⟨_, rfl⟩
  have V22 : Arv Z h19 b1 k1 .char (5 : Int32) [(.int t0), (.int t1), (.int t2), (.int t3), (.int t4)] (.int (0 : Int32)) := by rw [ht0, ht1, ht2, ht3, ht4]; exact V19
  replace ht0 := own_t16 ht0
  replace ht1 := own_t16 ht1
  replace ht2 := own_t16 ht2
  replace ht3 := own_t16 ht3
  replace ht4 := own_t16 ht4
  refine stp (fun _ => XS.iloadN X19.here hx rfl (hb hby at_74) rfl) ?_
  show Go p e below T19 (mkF m 75 #[.val (.int p0), .val (.int p1), .val (.long q2), .second, .val (.int p3), .val (.ref b1), .unset, .unset] [(.int p1)]) _
  refine stp (fun _ => X19.ldcInt hx hown (mvT hZ (hw _ (List.mem_of_getElem? (i := 5) rfl))) (g := (mkF m 75 #[.val (.int p0), .val (.int p1), .val (.long q2), .second, .val (.int p3), .val (.ref b1), .unset, .unset] [(.int p1)])) rfl (hb hby at_75) _) ?_
  show Go p e below T19 (mkF m 77 #[.val (.int p0), .val (.int p1), .val (.long q2), .second, .val (.int p3), .val (.ref b1), .unset, .unset] [(.int (2147483647 : Int32)), (.int p1)]) _
  refine stp (fun _ => XS.iand X19.here hx rfl (hb hby at_77) rfl) ?_
  show Go p e below T19 (mkF m 78 #[.val (.int p0), .val (.int p1), .val (.long q2), .second, .val (.int p3), .val (.ref b1), .unset, .unset] [(.int (p1 &&& (2147483647 : Int32)))]) _
  refine stp (fun _ => XS.iconst X19.here hx rfl (hb hby at_78)) ?_
  show Go p e below T19 (mkF m 79 #[.val (.int p0), .val (.int p1), .val (.long q2), .second, .val (.int p3), .val (.ref b1), .unset, .unset] [(.int (5 : Int32)), (.int (p1 &&& (2147483647 : Int32)))]) _
  refine stp (fun _ => iremM X19 hx rfl (hb hby at_79) rfl (by decide)) ?_
  show Go p e below T19 (mkF m 80 #[.val (.int p0), .val (.int p1), .val (.long q2), .second, .val (.int p3), .val (.ref b1), .unset, .unset] [(.int ((p1 &&& (2147483647 : Int32)) % (5 : Int32)))]) _
  refine stp (fun _ => XS.istore X19.here hx rfl (hb hby at_80) rfl (l' := #[.val (.int p0), .val (.int p1), .val (.long q2), .second, .val (.int p3), .val (.ref b1), .val (.int ((p1 &&& (2147483647 : Int32)) % (5 : Int32))), .unset]) rfl) ?_
  show Go p e below T19 (mkF m 82 #[.val (.int p0), .val (.int p1), .val (.long q2), .second, .val (.int p3), .val (.ref b1), .val (.int ((p1 &&& (2147483647 : Int32)) % (5 : Int32))), .unset] []) _
  obtain ⟨sv, hsv⟩ : ∃ z : Int32, z = ((p1 &&& (2147483647 : Int32)) % (5 : Int32)) := ⟨_, rfl⟩
  rw [← hsv]
  show Go p e below T19 (mkF m 82 #[.val (.int p0), .val (.int p1), .val (.long q2), .second, .val (.int p3), .val (.ref b1), .val (.int sv), .unset] []) _
  replace hsv := own_sv hsv
  refine stp (fun _ => XS.iconst X19.here hx rfl (hb hby at_82)) ?_
  show Go p e below T19 (mkF m 83 #[.val (.int p0), .val (.int p1), .val (.long q2), .second, .val (.int p3), .val (.ref b1), .val (.int sv), .unset] [(.int (-1 : Int32))]) _
  refine stp (fun _ => XS.istore X19.here hx rfl (hb hby at_83) rfl (l' := #[.val (.int p0), .val (.int p1), .val (.long q2), .second, .val (.int p3), .val (.ref b1), .val (.int sv), .val (.int (-1 : Int32))]) rfl) ?_
  show Go p e below T19 (mkF m 85 #[.val (.int p0), .val (.int p1), .val (.long q2), .second, .val (.int p3), .val (.ref b1), .val (.int sv), .val (.int (-1 : Int32))] []) _
  refine stp (fun _ => XS.aload X19.here hx rfl (hb hby at_85) rfl rfl) ?_
  show Go p e below T19 (mkF m 87 #[.val (.int p0), .val (.int p1), .val (.long q2), .second, .val (.int p3), .val (.ref b1), .val (.int sv), .val (.int (-1 : Int32))] [(.ref b1)]) _
  refine stp (fun _ => XS.iload X19.here hx rfl (hb hby at_87) rfl) ?_
  show Go p e below T19 (mkF m 89 #[.val (.int p0), .val (.int p1), .val (.long q2), .second, .val (.int p3), .val (.ref b1), .val (.int sv), .val (.int (-1 : Int32))] [(.int sv), (.ref b1)]) _
  refine stp (fun _ => XS.iconst X19.here hx rfl (hb hby at_89)) ?_
  show Go p e below T19 (mkF m 90 #[.val (.int p0), .val (.int p1), .val (.long q2), .second, .val (.int p3), .val (.ref b1), .val (.int sv), .val (.int (-1 : Int32))] [(.int (1 : Int32)), (.int sv), (.ref b1)]) _
  obtain ⟨_, _, ⟨T23, L23, k23, n23⟩, -, X23, ⟨Lc23, hQ23, l23, y23, z23⟩, st23⟩ := Jvm.LawKit.callS X19 hx (y := (⟨"com/example/goldpage/goldpage/record/QuotingEndPinLaw", "closes", "([CII)Z"⟩ : MethodName)) hown (mvT hZ (hw _ (List.mem_of_getElem? (i := 6) rfl))) (mvT hZ (hw _ (List.mem_of_getElem? (i := 7) rfl))) (mvT hZ (hw _ (List.mem_of_getElem? (i := 3) rfl))) (mvT hZ (hw _ (List.mem_of_getElem? (i := 8) rfl))) (by decide) (backOf (W := 0) (rm_cl l Z a0 hw [] b1 sv (1 : Int32) t0 t1 t2 t3 t4 k1 h19 n0 O19 V22 hsv (by decide)) hZ (hw _ (List.mem_of_getElem? (i := 8) rfl)) (hw _ (List.mem_of_getElem? (i := 3) rfl)) (by decide) (by decide)) (g := (mkF m 90 #[.val (.int p0), .val (.int p1), .val (.long q2), .second, .val (.int p3), .val (.ref b1), .val (.int sv), .val (.int (-1 : Int32))] [(.int (1 : Int32)), (.int sv), (.ref b1)])) rfl (by rw [hml]; rfl) (argsL := [(.ref b1), (.int sv), (.int (1 : Int32))]) (rest := []) (lenOf pd_14 rfl) rfl (by show 2 * 0 + _ ≤ _; exact Nat.le_of_eq rfl) (hb hby at_90) (fun _ _ => ⟨rfl, e19, (by decide : 1 + 0 ≤ _), (by decide : 5 + 0 ≤ _)⟩)
  dsimp only [Pt.U, Pt.locs, Pt.cells, Pt.slots] at X23 l23 y23 z23 st23 hQ23
  subst y23 z23
  obtain ⟨rfl, N23q, e23⟩ := hQ23
  have N23 : Fr n0 L23 := by rw [l23]; exact Fr.app N19 N23q
  refine stp st23 ?_
  show Go p e below T23 (mkF m 93 #[.val (.int p0), .val (.int p1), .val (.long q2), .second, .val (.int p3), .val (.ref b1), .val (.int sv), .val (.int (-1 : Int32))] [(.int (own_cl t0 t1 t2 t3 t4 sv (1 : Int32)))]) _
  by_cases q93_24 : (own_cl t0 t1 t2 t3 t4 sv (1 : Int32)) = 0
  · refine stp (fun _ => XS.ifYes X23.here hx rfl (pc0 := 93) (pc' := 102) rfl (hb hby at_93) rfl (XT.i0_eq_t q93_24) (by decide) (by decide)) ?_
    show Go p e below T23 (mkF m 102 #[.val (.int p0), .val (.int p1), .val (.long q2), .second, .val (.int p3), .val (.ref b1), .val (.int sv), .val (.int (-1 : Int32))] []) _
    refine stp (fun _ => XS.aload X23.here hx rfl (hb hby at_102) rfl rfl) ?_
    show Go p e below T23 (mkF m 104 #[.val (.int p0), .val (.int p1), .val (.long q2), .second, .val (.int p3), .val (.ref b1), .val (.int sv), .val (.int (-1 : Int32))] [(.ref b1)]) _
    refine stp (fun _ => XS.iload X23.here hx rfl (hb hby at_104) rfl) ?_
    show Go p e below T23 (mkF m 106 #[.val (.int p0), .val (.int p1), .val (.long q2), .second, .val (.int p3), .val (.ref b1), .val (.int sv), .val (.int (-1 : Int32))] [(.int sv), (.ref b1)]) _
    refine stp (fun _ => XS.iconst X23.here hx rfl (hb hby at_106)) ?_
    show Go p e below T23 (mkF m 107 #[.val (.int p0), .val (.int p1), .val (.long q2), .second, .val (.int p3), .val (.ref b1), .val (.int sv), .val (.int (-1 : Int32))] [(.int (2 : Int32)), (.int sv), (.ref b1)]) _
    obtain ⟨_, _, ⟨T25, L25, k25, n25⟩, -, X25, ⟨Lc25, hQ25, l25, y25, z25⟩, st25⟩ := Jvm.LawKit.callS X23 hx (y := (⟨"com/example/goldpage/goldpage/record/QuotingEndPinLaw", "closes", "([CII)Z"⟩ : MethodName)) hown (mvT hZ (hw _ (List.mem_of_getElem? (i := 6) rfl))) (mvT hZ (hw _ (List.mem_of_getElem? (i := 7) rfl))) (mvT hZ (hw _ (List.mem_of_getElem? (i := 3) rfl))) (mvT hZ (hw _ (List.mem_of_getElem? (i := 8) rfl))) (by decide) (backOf (W := 0) (rm_cl l Z a0 hw [] b1 sv (2 : Int32) t0 t1 t2 t3 t4 k1 h19 n0 O19 V22 hsv (by decide)) hZ (hw _ (List.mem_of_getElem? (i := 8) rfl)) (hw _ (List.mem_of_getElem? (i := 3) rfl)) (by decide) (by decide)) (g := (mkF m 107 #[.val (.int p0), .val (.int p1), .val (.long q2), .second, .val (.int p3), .val (.ref b1), .val (.int sv), .val (.int (-1 : Int32))] [(.int (2 : Int32)), (.int sv), (.ref b1)])) rfl (by rw [hml]; rfl) (argsL := [(.ref b1), (.int sv), (.int (2 : Int32))]) (rest := []) (lenOf pd_14 rfl) rfl (by show 2 * 0 + _ ≤ _; exact Nat.le_of_eq rfl) (hb hby at_107) (fun _ _ => ⟨rfl, e23, (by decide : 1 + 0 ≤ _), (by decide : 5 + 0 ≤ _)⟩)
    dsimp only [Pt.U, Pt.locs, Pt.cells, Pt.slots] at X25 l25 y25 z25 st25 hQ25
    subst y25 z25
    obtain ⟨rfl, N25q, e25⟩ := hQ25
    have N25 : Fr n0 L25 := by rw [l25]; exact Fr.app N23 N25q
    refine stp st25 ?_
    show Go p e below T25 (mkF m 110 #[.val (.int p0), .val (.int p1), .val (.long q2), .second, .val (.int p3), .val (.ref b1), .val (.int sv), .val (.int (-1 : Int32))] [(.int (own_cl t0 t1 t2 t3 t4 sv (2 : Int32)))]) _
    by_cases q110_26 : (own_cl t0 t1 t2 t3 t4 sv (2 : Int32)) = 0
    · refine stp (fun _ => XS.ifYes X25.here hx rfl (pc0 := 110) (pc' := 119) rfl (hb hby at_110) rfl (XT.i0_eq_t q110_26) (by decide) (by decide)) ?_
      show Go p e below T25 (mkF m 119 #[.val (.int p0), .val (.int p1), .val (.long q2), .second, .val (.int p3), .val (.ref b1), .val (.int sv), .val (.int (-1 : Int32))] []) _
      refine stp (fun _ => XS.aload X25.here hx rfl (hb hby at_119) rfl rfl) ?_
      show Go p e below T25 (mkF m 121 #[.val (.int p0), .val (.int p1), .val (.long q2), .second, .val (.int p3), .val (.ref b1), .val (.int sv), .val (.int (-1 : Int32))] [(.ref b1)]) _
      refine stp (fun _ => XS.iload X25.here hx rfl (hb hby at_121) rfl) ?_
      show Go p e below T25 (mkF m 123 #[.val (.int p0), .val (.int p1), .val (.long q2), .second, .val (.int p3), .val (.ref b1), .val (.int sv), .val (.int (-1 : Int32))] [(.int sv), (.ref b1)]) _
      refine stp (fun _ => XS.iconst X25.here hx rfl (hb hby at_123)) ?_
      show Go p e below T25 (mkF m 124 #[.val (.int p0), .val (.int p1), .val (.long q2), .second, .val (.int p3), .val (.ref b1), .val (.int sv), .val (.int (-1 : Int32))] [(.int (3 : Int32)), (.int sv), (.ref b1)]) _
      obtain ⟨_, _, ⟨T27, L27, k27, n27⟩, -, X27, ⟨Lc27, hQ27, l27, y27, z27⟩, st27⟩ := Jvm.LawKit.callS X25 hx (y := (⟨"com/example/goldpage/goldpage/record/QuotingEndPinLaw", "closes", "([CII)Z"⟩ : MethodName)) hown (mvT hZ (hw _ (List.mem_of_getElem? (i := 6) rfl))) (mvT hZ (hw _ (List.mem_of_getElem? (i := 7) rfl))) (mvT hZ (hw _ (List.mem_of_getElem? (i := 3) rfl))) (mvT hZ (hw _ (List.mem_of_getElem? (i := 8) rfl))) (by decide) (backOf (W := 0) (rm_cl l Z a0 hw [] b1 sv (3 : Int32) t0 t1 t2 t3 t4 k1 h19 n0 O19 V22 hsv (by decide)) hZ (hw _ (List.mem_of_getElem? (i := 8) rfl)) (hw _ (List.mem_of_getElem? (i := 3) rfl)) (by decide) (by decide)) (g := (mkF m 124 #[.val (.int p0), .val (.int p1), .val (.long q2), .second, .val (.int p3), .val (.ref b1), .val (.int sv), .val (.int (-1 : Int32))] [(.int (3 : Int32)), (.int sv), (.ref b1)])) rfl (by rw [hml]; rfl) (argsL := [(.ref b1), (.int sv), (.int (3 : Int32))]) (rest := []) (lenOf pd_14 rfl) rfl (by show 2 * 0 + _ ≤ _; exact Nat.le_of_eq rfl) (hb hby at_124) (fun _ _ => ⟨rfl, e25, (by decide : 1 + 0 ≤ _), (by decide : 5 + 0 ≤ _)⟩)
      dsimp only [Pt.U, Pt.locs, Pt.cells, Pt.slots] at X27 l27 y27 z27 st27 hQ27
      subst y27 z27
      obtain ⟨rfl, N27q, e27⟩ := hQ27
      have N27 : Fr n0 L27 := by rw [l27]; exact Fr.app N25 N27q
      refine stp st27 ?_
      show Go p e below T27 (mkF m 127 #[.val (.int p0), .val (.int p1), .val (.long q2), .second, .val (.int p3), .val (.ref b1), .val (.int sv), .val (.int (-1 : Int32))] [(.int (own_cl t0 t1 t2 t3 t4 sv (3 : Int32)))]) _
      by_cases q127_28 : (own_cl t0 t1 t2 t3 t4 sv (3 : Int32)) = 0
      · refine stp (fun _ => XS.ifYes X27.here hx rfl (pc0 := 127) (pc' := 136) rfl (hb hby at_127) rfl (XT.i0_eq_t q127_28) (by decide) (by decide)) ?_
        show Go p e below T27 (mkF m 136 #[.val (.int p0), .val (.int p1), .val (.long q2), .second, .val (.int p3), .val (.ref b1), .val (.int sv), .val (.int (-1 : Int32))] []) _
        refine stp (fun _ => XS.aload X27.here hx rfl (hb hby at_136) rfl rfl) ?_
        show Go p e below T27 (mkF m 138 #[.val (.int p0), .val (.int p1), .val (.long q2), .second, .val (.int p3), .val (.ref b1), .val (.int sv), .val (.int (-1 : Int32))] [(.ref b1)]) _
        refine stp (fun _ => XS.iload X27.here hx rfl (hb hby at_138) rfl) ?_
        show Go p e below T27 (mkF m 140 #[.val (.int p0), .val (.int p1), .val (.long q2), .second, .val (.int p3), .val (.ref b1), .val (.int sv), .val (.int (-1 : Int32))] [(.int sv), (.ref b1)]) _
        refine stp (fun _ => XS.iconst X27.here hx rfl (hb hby at_140)) ?_
        show Go p e below T27 (mkF m 141 #[.val (.int p0), .val (.int p1), .val (.long q2), .second, .val (.int p3), .val (.ref b1), .val (.int sv), .val (.int (-1 : Int32))] [(.int (4 : Int32)), (.int sv), (.ref b1)]) _
        obtain ⟨_, _, ⟨T29, L29, k29, n29⟩, -, X29, ⟨Lc29, hQ29, l29, y29, z29⟩, st29⟩ := Jvm.LawKit.callS X27 hx (y := (⟨"com/example/goldpage/goldpage/record/QuotingEndPinLaw", "closes", "([CII)Z"⟩ : MethodName)) hown (mvT hZ (hw _ (List.mem_of_getElem? (i := 6) rfl))) (mvT hZ (hw _ (List.mem_of_getElem? (i := 7) rfl))) (mvT hZ (hw _ (List.mem_of_getElem? (i := 3) rfl))) (mvT hZ (hw _ (List.mem_of_getElem? (i := 8) rfl))) (by decide) (backOf (W := 0) (rm_cl l Z a0 hw [] b1 sv (4 : Int32) t0 t1 t2 t3 t4 k1 h19 n0 O19 V22 hsv (by decide)) hZ (hw _ (List.mem_of_getElem? (i := 8) rfl)) (hw _ (List.mem_of_getElem? (i := 3) rfl)) (by decide) (by decide)) (g := (mkF m 141 #[.val (.int p0), .val (.int p1), .val (.long q2), .second, .val (.int p3), .val (.ref b1), .val (.int sv), .val (.int (-1 : Int32))] [(.int (4 : Int32)), (.int sv), (.ref b1)])) rfl (by rw [hml]; rfl) (argsL := [(.ref b1), (.int sv), (.int (4 : Int32))]) (rest := []) (lenOf pd_14 rfl) rfl (by show 2 * 0 + _ ≤ _; exact Nat.le_of_eq rfl) (hb hby at_141) (fun _ _ => ⟨rfl, e27, (by decide : 1 + 0 ≤ _), (by decide : 5 + 0 ≤ _)⟩)
        dsimp only [Pt.U, Pt.locs, Pt.cells, Pt.slots] at X29 l29 y29 z29 st29 hQ29
        subst y29 z29
        obtain ⟨rfl, N29q, e29⟩ := hQ29
        have N29 : Fr n0 L29 := by rw [l29]; exact Fr.app N27 N29q
        refine stp st29 ?_
        show Go p e below T29 (mkF m 144 #[.val (.int p0), .val (.int p1), .val (.long q2), .second, .val (.int p3), .val (.ref b1), .val (.int sv), .val (.int (-1 : Int32))] [(.int (own_cl t0 t1 t2 t3 t4 sv (4 : Int32)))]) _
        by_cases q144_30 : (own_cl t0 t1 t2 t3 t4 sv (4 : Int32)) = 0
        · refine stp (fun _ => XS.ifYes X29.here hx rfl (pc0 := 144) (pc' := 150) rfl (hb hby at_144) rfl (XT.i0_eq_t q144_30) (by decide) (by decide)) ?_
          show Go p e below T29 (mkF m 150 #[.val (.int p0), .val (.int p1), .val (.long q2), .second, .val (.int p3), .val (.ref b1), .val (.int sv), .val (.int (-1 : Int32))] []) _
          obtain ⟨T31, h31, X31, e31, E31, A31, D31, -, st31⟩ := newO X29 hx hZ hown (hw _ (List.mem_of_getElem? (i := 15) rfl)) (hw _ (List.mem_of_getElem? (i := 16) rfl)) (hw _ (List.mem_of_getElem? (i := 17) rfl)) e29 (g := (mkF m 150 #[.val (.int p0), .val (.int p1), .val (.long q2), .second, .val (.int p3), .val (.ref b1), .val (.int sv), .val (.int (-1 : Int32))] [])) rfl (hb hby at_150) (by decide) (by decide)
          obtain ⟨b31, g31⟩ : ∃ z, z = h19.size := ⟨_, rfl⟩
          rw [← g31] at A31 D31 st31
          have ne32 : b1 ≠ b31 := Nat.ne_of_lt (Nat.lt_of_lt_of_le f20.lt (Nat.le_of_eq g31.symm))
          have sz_b31 : h0.size ≤ b31 := Nat.le_trans K19.1 (Nat.le_of_eq g31.symm)
          have ge_b31 : n0 ≤ b31 := Nat.le_trans (old_le O19) (Nat.le_of_eq g31.symm)
          have f33 := f20.ext E31
          have f34 := V22.ext E31
          have K31 : Keep h0 h31 [] := K19.ext E31
          have O31 := O19.ext E31
          have F35 : Fld Z h31 b31 "java/lang/String" "coder" "B" (.int (0 : Int32)) := D31 (Or.inr (hw _ (List.mem_of_getElem? (i := 41) rfl))) (ty := .byte) (by decide)
          have F36 : Fld Z h31 b31 "java/lang/String" "value" "[B" .null := D31 (Or.inr (hw _ (List.mem_of_getElem? (i := 43) rfl))) (ty := (.array .byte)) (by decide)
          refine stp st31 ?_
          show Go p e below T31 (mkF m 153 #[.val (.int p0), .val (.int p1), .val (.long q2), .second, .val (.int p3), .val (.ref b1), .val (.int sv), .val (.int (-1 : Int32))] [(.ref b31)]) _
          refine stp (fun _ => XS.dup X31.here hx rfl (hb hby at_153) rfl rfl) ?_
          show Go p e below T31 (mkF m 154 #[.val (.int p0), .val (.int p1), .val (.long q2), .second, .val (.int p3), .val (.ref b1), .val (.int sv), .val (.int (-1 : Int32))] [(.ref b31), (.ref b31)]) _
          refine stp (fun _ => XS.aload X31.here hx rfl (hb hby at_154) rfl rfl) ?_
          show Go p e below T31 (mkF m 156 #[.val (.int p0), .val (.int p1), .val (.long q2), .second, .val (.int p3), .val (.ref b1), .val (.int sv), .val (.int (-1 : Int32))] [(.ref b1), (.ref b31), (.ref b31)]) _
          have V37 : Arf Z h31 b1 k1 .char ([t0, t1, t2, t3, t4] : List Int32).length (fun i => (.int (own_at ([t0, t1, t2, t3, t4] : List Int32) i))) := (Arv.arf f34 rfl).congr (fun i _ => own_atv ([t0, t1, t2, t3, t4] : List Int32) i)
          obtain ⟨_, _, ⟨T38, L38, k38, n38⟩, -, X38, ⟨Lc38, hQ38, l38, y38, z38⟩, st38⟩ := X31.specialBack hx (y := (⟨"java/lang/String", "<init>", "([C)V"⟩ : MethodName)) rfl hown (mvT hZ (hw _ (List.mem_of_getElem? (i := 18) rfl))) (mvT hZ (hw _ (List.mem_of_getElem? (i := 19) rfl))) (mvT hZ (hw _ (List.mem_of_getElem? (i := 20) rfl))) (by decide) (backOf (W := 1) (rm_u1 l Z a0 hw [] b31 b1 ([t0, t1, t2, t3, t4] : List Int32) cz k1 h31 n0 O31 A31 F36 F35 V37 S_CS S_AS S_HI S_LO ge_b31 ne32 hcz (Nat.le_of_ble_eq_true rfl) (own_sm5 (P := fun c => ¬ c < 0 ∧ ¬ (65535 : Int32) < c) ht0 ht1 ht2 ht3 ht4) (Nat.succ_pos _)) hZ (hw _ (List.mem_of_getElem? (i := 20) rfl)) (hw _ (List.mem_of_getElem? (i := 17) rfl)) (by decide) (by decide)) (g := (mkF m 156 #[.val (.int p0), .val (.int p1), .val (.long q2), .second, .val (.int p3), .val (.ref b1), .val (.int sv), .val (.int (-1 : Int32))] [(.ref b1), (.ref b31), (.ref b31)])) rfl (by rw [hml]; rfl) (Steps.refl _) (a := b31) (argsL := [(.ref b1)]) (rest := [(.ref b31)]) (lenOf pd_18 rfl) rfl (by show 2 * 0 + _ ≤ _; exact Nat.le_of_eq rfl) (hb hby at_156) (fun _ _ => ⟨rfl, e31, (by decide : 2 + 2 ≤ _), (by decide : 9 + 30 ≤ _)⟩)
          dsimp only [Pt.U, Pt.locs, Pt.cells, Pt.slots] at X38 l38 y38 z38 st38 hQ38
          subst y38 z38
          obtain ⟨rfl, N38q, K38q, r38_0⟩ := hQ38
          have N38 : Fr n0 L38 := by rw [l38]; exact Fr.app N29 N38q
          have f39 := f33.keep K38q
          have f40 := A31.keep K38q
          have f41 := V37.keep K38q (ninS ne32 nin0)
          have K38 : Keep h0 T38.heap [] := K31.trans K38q (allS (Or.inr sz_b31) all0)
          have O38 := O31.keep K38q (allS ge_b31 all0)
          refine stt st38 ?_
          show Go p e below T38 (mkF m 159 #[.val (.int p0), .val (.int p1), .val (.long q2), .second, .val (.int p3), .val (.ref b1), .val (.int sv), .val (.int (-1 : Int32))] [(.ref b31)]) _
          refine stp (fun _ => XS.iload X38.here hx rfl (hb hby at_159) rfl) ?_
          show Go p e below T38 (mkF m 161 #[.val (.int p0), .val (.int p1), .val (.long q2), .second, .val (.int p3), .val (.ref b1), .val (.int sv), .val (.int (-1 : Int32))] [(.int sv), (.ref b31)]) _
          obtain ⟨_, _, ⟨T42, L42, k42, n42⟩, -, X42, ⟨Lc42, hQ42, l42, y42, z42⟩, st42⟩ := Jvm.LawKit.callS X38 hx (y := (⟨"com/example/goldpage/goldpage/record/Quoting", "end", "(Ljava/lang/String;I)I"⟩ : MethodName)) hown (mvT hZ (hw _ (List.mem_of_getElem? (i := 44) rfl))) (mvT hZ (hw _ (List.mem_of_getElem? (i := 45) rfl))) (mvT hZ (hw _ (List.mem_of_getElem? (i := 46) rfl))) (mvT hZ (hw _ (List.mem_of_getElem? (i := 47) rfl))) (by decide) (backOf (W := 0) (rm_end l Z a0 hw [] b31 sv t0 t1 t2 t3 t4 cz fm T38.heap n0 O38 r38_0 S_CS S_FM S_AS S_HI S_LO hcz hfm hsv) hZ (hw _ (List.mem_of_getElem? (i := 47) rfl)) (hw _ (List.mem_of_getElem? (i := 46) rfl)) (by decide) (by decide)) (g := (mkF m 161 #[.val (.int p0), .val (.int p1), .val (.long q2), .second, .val (.int p3), .val (.ref b1), .val (.int sv), .val (.int (-1 : Int32))] [(.int sv), (.ref b31)])) rfl (by rw [hml]; rfl) (argsL := [(.ref b31), (.int sv)]) (rest := []) (lenOf pd_19 rfl) rfl (by show 2 * 0 + _ ≤ _; exact Nat.le_of_eq rfl) (hb hby at_161) (fun _ _ => ⟨rfl, rfl, (by decide : 4 + 0 ≤ _), (by decide : 39 + 0 ≤ _)⟩)
          dsimp only [Pt.U, Pt.locs, Pt.cells, Pt.slots] at X42 l42 y42 z42 st42 hQ42
          subst y42 z42
          obtain ⟨rfl, N42q, e42⟩ := hQ42
          have N42 : Fr n0 L42 := by rw [l42]; exact Fr.app N38 N42q
          refine stp st42 ?_
          show Go p e below T42 (mkF m 164 #[.val (.int p0), .val (.int p1), .val (.long q2), .second, .val (.int p3), .val (.ref b1), .val (.int sv), .val (.int (-1 : Int32))] [(.int (own_e t0 t1 t2 t3 t4 sv))]) _
          refine stp (fun _ => XS.iload X42.here hx rfl (hb hby at_164) rfl) ?_
          show Go p e below T42 (mkF m 166 #[.val (.int p0), .val (.int p1), .val (.long q2), .second, .val (.int p3), .val (.ref b1), .val (.int sv), .val (.int (-1 : Int32))] [(.int (-1 : Int32)), (.int (own_e t0 t1 t2 t3 t4 sv))]) _
          refine stp (fun _ => XS.icmpNo X42.here hx rfl (hb hby at_166) rfl (XT.ii_ne_f (by rw [own_main hsv]; simp only [if_pos q93_24, if_pos q110_26, if_pos q127_28, if_pos q144_30]))) ?_
          show Go p e below T42 (mkF m 169 #[.val (.int p0), .val (.int p1), .val (.long q2), .second, .val (.int p3), .val (.ref b1), .val (.int sv), .val (.int (-1 : Int32))] []) _
          refine stp (fun _ => XS.iconst X42.here hx rfl (hb hby at_169)) ?_
          show Go p e below T42 (mkF m 170 #[.val (.int p0), .val (.int p1), .val (.long q2), .second, .val (.int p3), .val (.ref b1), .val (.int sv), .val (.int (-1 : Int32))] [(.int (1 : Int32))]) _
          refine stp (fun _ => XS.goto X42.here hx rfl (pc0 := 170) (pc' := 174) rfl (hb hby at_170) (by decide) (by decide)) ?_
          show Go p e below T42 (mkF m 174 #[.val (.int p0), .val (.int p1), .val (.long q2), .second, .val (.int p3), .val (.ref b1), .val (.int sv), .val (.int (-1 : Int32))] [(.int (1 : Int32))]) _
          refine outN X42 hx (t := .boolean) hret (by simp) (hb hby at_174) hlk (by decide) (by decide) ?_
          exact ⟨rfl, N42⟩
        · refine stp (fun _ => XS.ifNo X29.here hx rfl (hb hby at_144) rfl (XT.i0_eq_f q144_30)) ?_
          show Go p e below T29 (mkF m 147 #[.val (.int p0), .val (.int p1), .val (.long q2), .second, .val (.int p3), .val (.ref b1), .val (.int sv), .val (.int (-1 : Int32))] []) _
          refine stp (fun _ => XS.iconst X29.here hx rfl (hb hby at_147)) ?_
          show Go p e below T29 (mkF m 148 #[.val (.int p0), .val (.int p1), .val (.long q2), .second, .val (.int p3), .val (.ref b1), .val (.int sv), .val (.int (-1 : Int32))] [(.int (5 : Int32))]) _
          refine stp (fun _ => XS.istore X29.here hx rfl (hb hby at_148) rfl (l' := #[.val (.int p0), .val (.int p1), .val (.long q2), .second, .val (.int p3), .val (.ref b1), .val (.int sv), .val (.int (5 : Int32))]) rfl) ?_
          show Go p e below T29 (mkF m 150 #[.val (.int p0), .val (.int p1), .val (.long q2), .second, .val (.int p3), .val (.ref b1), .val (.int sv), .val (.int (5 : Int32))] []) _
          obtain ⟨T43, h43, X43, e43, E43, A43, D43, -, st43⟩ := newO X29 hx hZ hown (hw _ (List.mem_of_getElem? (i := 15) rfl)) (hw _ (List.mem_of_getElem? (i := 16) rfl)) (hw _ (List.mem_of_getElem? (i := 17) rfl)) e29 (g := (mkF m 150 #[.val (.int p0), .val (.int p1), .val (.long q2), .second, .val (.int p3), .val (.ref b1), .val (.int sv), .val (.int (5 : Int32))] [])) rfl (hb hby at_150) (by decide) (by decide)
          obtain ⟨b43, g43⟩ : ∃ z, z = h19.size := ⟨_, rfl⟩
          rw [← g43] at A43 D43 st43
          have ne44 : b1 ≠ b43 := Nat.ne_of_lt (Nat.lt_of_lt_of_le f20.lt (Nat.le_of_eq g43.symm))
          have sz_b43 : h0.size ≤ b43 := Nat.le_trans K19.1 (Nat.le_of_eq g43.symm)
          have ge_b43 : n0 ≤ b43 := Nat.le_trans (old_le O19) (Nat.le_of_eq g43.symm)
          have f45 := f20.ext E43
          have f46 := V22.ext E43
          have K43 : Keep h0 h43 [] := K19.ext E43
          have O43 := O19.ext E43
          have F47 : Fld Z h43 b43 "java/lang/String" "coder" "B" (.int (0 : Int32)) := D43 (Or.inr (hw _ (List.mem_of_getElem? (i := 41) rfl))) (ty := .byte) (by decide)
          have F48 : Fld Z h43 b43 "java/lang/String" "value" "[B" .null := D43 (Or.inr (hw _ (List.mem_of_getElem? (i := 43) rfl))) (ty := (.array .byte)) (by decide)
          refine stp st43 ?_
          show Go p e below T43 (mkF m 153 #[.val (.int p0), .val (.int p1), .val (.long q2), .second, .val (.int p3), .val (.ref b1), .val (.int sv), .val (.int (5 : Int32))] [(.ref b43)]) _
          refine stp (fun _ => XS.dup X43.here hx rfl (hb hby at_153) rfl rfl) ?_
          show Go p e below T43 (mkF m 154 #[.val (.int p0), .val (.int p1), .val (.long q2), .second, .val (.int p3), .val (.ref b1), .val (.int sv), .val (.int (5 : Int32))] [(.ref b43), (.ref b43)]) _
          refine stp (fun _ => XS.aload X43.here hx rfl (hb hby at_154) rfl rfl) ?_
          show Go p e below T43 (mkF m 156 #[.val (.int p0), .val (.int p1), .val (.long q2), .second, .val (.int p3), .val (.ref b1), .val (.int sv), .val (.int (5 : Int32))] [(.ref b1), (.ref b43), (.ref b43)]) _
          have V49 : Arf Z h43 b1 k1 .char ([t0, t1, t2, t3, t4] : List Int32).length (fun i => (.int (own_at ([t0, t1, t2, t3, t4] : List Int32) i))) := (Arv.arf f46 rfl).congr (fun i _ => own_atv ([t0, t1, t2, t3, t4] : List Int32) i)
          obtain ⟨_, _, ⟨T50, L50, k50, n50⟩, -, X50, ⟨Lc50, hQ50, l50, y50, z50⟩, st50⟩ := X43.specialBack hx (y := (⟨"java/lang/String", "<init>", "([C)V"⟩ : MethodName)) rfl hown (mvT hZ (hw _ (List.mem_of_getElem? (i := 18) rfl))) (mvT hZ (hw _ (List.mem_of_getElem? (i := 19) rfl))) (mvT hZ (hw _ (List.mem_of_getElem? (i := 20) rfl))) (by decide) (backOf (W := 1) (rm_u1 l Z a0 hw [] b43 b1 ([t0, t1, t2, t3, t4] : List Int32) cz k1 h43 n0 O43 A43 F48 F47 V49 S_CS S_AS S_HI S_LO ge_b43 ne44 hcz (Nat.le_of_ble_eq_true rfl) (own_sm5 (P := fun c => ¬ c < 0 ∧ ¬ (65535 : Int32) < c) ht0 ht1 ht2 ht3 ht4) (Nat.succ_pos _)) hZ (hw _ (List.mem_of_getElem? (i := 20) rfl)) (hw _ (List.mem_of_getElem? (i := 17) rfl)) (by decide) (by decide)) (g := (mkF m 156 #[.val (.int p0), .val (.int p1), .val (.long q2), .second, .val (.int p3), .val (.ref b1), .val (.int sv), .val (.int (5 : Int32))] [(.ref b1), (.ref b43), (.ref b43)])) rfl (by rw [hml]; rfl) (Steps.refl _) (a := b43) (argsL := [(.ref b1)]) (rest := [(.ref b43)]) (lenOf pd_18 rfl) rfl (by show 2 * 0 + _ ≤ _; exact Nat.le_of_eq rfl) (hb hby at_156) (fun _ _ => ⟨rfl, e43, (by decide : 2 + 2 ≤ _), (by decide : 9 + 30 ≤ _)⟩)
          dsimp only [Pt.U, Pt.locs, Pt.cells, Pt.slots] at X50 l50 y50 z50 st50 hQ50
          subst y50 z50
          obtain ⟨rfl, N50q, K50q, r50_0⟩ := hQ50
          have N50 : Fr n0 L50 := by rw [l50]; exact Fr.app N29 N50q
          have f51 := f45.keep K50q
          have f52 := A43.keep K50q
          have f53 := V49.keep K50q (ninS ne44 nin0)
          have K50 : Keep h0 T50.heap [] := K43.trans K50q (allS (Or.inr sz_b43) all0)
          have O50 := O43.keep K50q (allS ge_b43 all0)
          refine stt st50 ?_
          show Go p e below T50 (mkF m 159 #[.val (.int p0), .val (.int p1), .val (.long q2), .second, .val (.int p3), .val (.ref b1), .val (.int sv), .val (.int (5 : Int32))] [(.ref b43)]) _
          refine stp (fun _ => XS.iload X50.here hx rfl (hb hby at_159) rfl) ?_
          show Go p e below T50 (mkF m 161 #[.val (.int p0), .val (.int p1), .val (.long q2), .second, .val (.int p3), .val (.ref b1), .val (.int sv), .val (.int (5 : Int32))] [(.int sv), (.ref b43)]) _
          obtain ⟨_, _, ⟨T54, L54, k54, n54⟩, -, X54, ⟨Lc54, hQ54, l54, y54, z54⟩, st54⟩ := Jvm.LawKit.callS X50 hx (y := (⟨"com/example/goldpage/goldpage/record/Quoting", "end", "(Ljava/lang/String;I)I"⟩ : MethodName)) hown (mvT hZ (hw _ (List.mem_of_getElem? (i := 44) rfl))) (mvT hZ (hw _ (List.mem_of_getElem? (i := 45) rfl))) (mvT hZ (hw _ (List.mem_of_getElem? (i := 46) rfl))) (mvT hZ (hw _ (List.mem_of_getElem? (i := 47) rfl))) (by decide) (backOf (W := 0) (rm_end l Z a0 hw [] b43 sv t0 t1 t2 t3 t4 cz fm T50.heap n0 O50 r50_0 S_CS S_FM S_AS S_HI S_LO hcz hfm hsv) hZ (hw _ (List.mem_of_getElem? (i := 47) rfl)) (hw _ (List.mem_of_getElem? (i := 46) rfl)) (by decide) (by decide)) (g := (mkF m 161 #[.val (.int p0), .val (.int p1), .val (.long q2), .second, .val (.int p3), .val (.ref b1), .val (.int sv), .val (.int (5 : Int32))] [(.int sv), (.ref b43)])) rfl (by rw [hml]; rfl) (argsL := [(.ref b43), (.int sv)]) (rest := []) (lenOf pd_19 rfl) rfl (by show 2 * 0 + _ ≤ _; exact Nat.le_of_eq rfl) (hb hby at_161) (fun _ _ => ⟨rfl, rfl, (by decide : 4 + 0 ≤ _), (by decide : 39 + 0 ≤ _)⟩)
          dsimp only [Pt.U, Pt.locs, Pt.cells, Pt.slots] at X54 l54 y54 z54 st54 hQ54
          subst y54 z54
          obtain ⟨rfl, N54q, e54⟩ := hQ54
          have N54 : Fr n0 L54 := by rw [l54]; exact Fr.app N50 N54q
          refine stp st54 ?_
          show Go p e below T54 (mkF m 164 #[.val (.int p0), .val (.int p1), .val (.long q2), .second, .val (.int p3), .val (.ref b1), .val (.int sv), .val (.int (5 : Int32))] [(.int (own_e t0 t1 t2 t3 t4 sv))]) _
          refine stp (fun _ => XS.iload X54.here hx rfl (hb hby at_164) rfl) ?_
          show Go p e below T54 (mkF m 166 #[.val (.int p0), .val (.int p1), .val (.long q2), .second, .val (.int p3), .val (.ref b1), .val (.int sv), .val (.int (5 : Int32))] [(.int (5 : Int32)), (.int (own_e t0 t1 t2 t3 t4 sv))]) _
          refine stp (fun _ => XS.icmpNo X54.here hx rfl (hb hby at_166) rfl (XT.ii_ne_f (by rw [own_main hsv]; simp only [if_pos q93_24, if_pos q110_26, if_pos q127_28, if_neg q144_30]))) ?_
          show Go p e below T54 (mkF m 169 #[.val (.int p0), .val (.int p1), .val (.long q2), .second, .val (.int p3), .val (.ref b1), .val (.int sv), .val (.int (5 : Int32))] []) _
          refine stp (fun _ => XS.iconst X54.here hx rfl (hb hby at_169)) ?_
          show Go p e below T54 (mkF m 170 #[.val (.int p0), .val (.int p1), .val (.long q2), .second, .val (.int p3), .val (.ref b1), .val (.int sv), .val (.int (5 : Int32))] [(.int (1 : Int32))]) _
          refine stp (fun _ => XS.goto X54.here hx rfl (pc0 := 170) (pc' := 174) rfl (hb hby at_170) (by decide) (by decide)) ?_
          show Go p e below T54 (mkF m 174 #[.val (.int p0), .val (.int p1), .val (.long q2), .second, .val (.int p3), .val (.ref b1), .val (.int sv), .val (.int (5 : Int32))] [(.int (1 : Int32))]) _
          refine outN X54 hx (t := .boolean) hret (by simp) (hb hby at_174) hlk (by decide) (by decide) ?_
          exact ⟨rfl, N54⟩
      · refine stp (fun _ => XS.ifNo X27.here hx rfl (hb hby at_127) rfl (XT.i0_eq_f q127_28)) ?_
        show Go p e below T27 (mkF m 130 #[.val (.int p0), .val (.int p1), .val (.long q2), .second, .val (.int p3), .val (.ref b1), .val (.int sv), .val (.int (-1 : Int32))] []) _
        refine stp (fun _ => XS.iconst X27.here hx rfl (hb hby at_130)) ?_
        show Go p e below T27 (mkF m 131 #[.val (.int p0), .val (.int p1), .val (.long q2), .second, .val (.int p3), .val (.ref b1), .val (.int sv), .val (.int (-1 : Int32))] [(.int (4 : Int32))]) _
        refine stp (fun _ => XS.istore X27.here hx rfl (hb hby at_131) rfl (l' := #[.val (.int p0), .val (.int p1), .val (.long q2), .second, .val (.int p3), .val (.ref b1), .val (.int sv), .val (.int (4 : Int32))]) rfl) ?_
        show Go p e below T27 (mkF m 133 #[.val (.int p0), .val (.int p1), .val (.long q2), .second, .val (.int p3), .val (.ref b1), .val (.int sv), .val (.int (4 : Int32))] []) _
        refine stp (fun _ => XS.goto X27.here hx rfl (pc0 := 133) (pc' := 150) rfl (hb hby at_133) (by decide) (by decide)) ?_
        show Go p e below T27 (mkF m 150 #[.val (.int p0), .val (.int p1), .val (.long q2), .second, .val (.int p3), .val (.ref b1), .val (.int sv), .val (.int (4 : Int32))] []) _
        obtain ⟨T55, h55, X55, e55, E55, A55, D55, -, st55⟩ := newO X27 hx hZ hown (hw _ (List.mem_of_getElem? (i := 15) rfl)) (hw _ (List.mem_of_getElem? (i := 16) rfl)) (hw _ (List.mem_of_getElem? (i := 17) rfl)) e27 (g := (mkF m 150 #[.val (.int p0), .val (.int p1), .val (.long q2), .second, .val (.int p3), .val (.ref b1), .val (.int sv), .val (.int (4 : Int32))] [])) rfl (hb hby at_150) (by decide) (by decide)
        obtain ⟨b55, g55⟩ : ∃ z, z = h19.size := ⟨_, rfl⟩
        rw [← g55] at A55 D55 st55
        have ne56 : b1 ≠ b55 := Nat.ne_of_lt (Nat.lt_of_lt_of_le f20.lt (Nat.le_of_eq g55.symm))
        have sz_b55 : h0.size ≤ b55 := Nat.le_trans K19.1 (Nat.le_of_eq g55.symm)
        have ge_b55 : n0 ≤ b55 := Nat.le_trans (old_le O19) (Nat.le_of_eq g55.symm)
        have f57 := f20.ext E55
        have f58 := V22.ext E55
        have K55 : Keep h0 h55 [] := K19.ext E55
        have O55 := O19.ext E55
        have F59 : Fld Z h55 b55 "java/lang/String" "coder" "B" (.int (0 : Int32)) := D55 (Or.inr (hw _ (List.mem_of_getElem? (i := 41) rfl))) (ty := .byte) (by decide)
        have F60 : Fld Z h55 b55 "java/lang/String" "value" "[B" .null := D55 (Or.inr (hw _ (List.mem_of_getElem? (i := 43) rfl))) (ty := (.array .byte)) (by decide)
        refine stp st55 ?_
        show Go p e below T55 (mkF m 153 #[.val (.int p0), .val (.int p1), .val (.long q2), .second, .val (.int p3), .val (.ref b1), .val (.int sv), .val (.int (4 : Int32))] [(.ref b55)]) _
        refine stp (fun _ => XS.dup X55.here hx rfl (hb hby at_153) rfl rfl) ?_
        show Go p e below T55 (mkF m 154 #[.val (.int p0), .val (.int p1), .val (.long q2), .second, .val (.int p3), .val (.ref b1), .val (.int sv), .val (.int (4 : Int32))] [(.ref b55), (.ref b55)]) _
        refine stp (fun _ => XS.aload X55.here hx rfl (hb hby at_154) rfl rfl) ?_
        show Go p e below T55 (mkF m 156 #[.val (.int p0), .val (.int p1), .val (.long q2), .second, .val (.int p3), .val (.ref b1), .val (.int sv), .val (.int (4 : Int32))] [(.ref b1), (.ref b55), (.ref b55)]) _
        have V61 : Arf Z h55 b1 k1 .char ([t0, t1, t2, t3, t4] : List Int32).length (fun i => (.int (own_at ([t0, t1, t2, t3, t4] : List Int32) i))) := (Arv.arf f58 rfl).congr (fun i _ => own_atv ([t0, t1, t2, t3, t4] : List Int32) i)
        obtain ⟨_, _, ⟨T62, L62, k62, n62⟩, -, X62, ⟨Lc62, hQ62, l62, y62, z62⟩, st62⟩ := X55.specialBack hx (y := (⟨"java/lang/String", "<init>", "([C)V"⟩ : MethodName)) rfl hown (mvT hZ (hw _ (List.mem_of_getElem? (i := 18) rfl))) (mvT hZ (hw _ (List.mem_of_getElem? (i := 19) rfl))) (mvT hZ (hw _ (List.mem_of_getElem? (i := 20) rfl))) (by decide) (backOf (W := 1) (rm_u1 l Z a0 hw [] b55 b1 ([t0, t1, t2, t3, t4] : List Int32) cz k1 h55 n0 O55 A55 F60 F59 V61 S_CS S_AS S_HI S_LO ge_b55 ne56 hcz (Nat.le_of_ble_eq_true rfl) (own_sm5 (P := fun c => ¬ c < 0 ∧ ¬ (65535 : Int32) < c) ht0 ht1 ht2 ht3 ht4) (Nat.succ_pos _)) hZ (hw _ (List.mem_of_getElem? (i := 20) rfl)) (hw _ (List.mem_of_getElem? (i := 17) rfl)) (by decide) (by decide)) (g := (mkF m 156 #[.val (.int p0), .val (.int p1), .val (.long q2), .second, .val (.int p3), .val (.ref b1), .val (.int sv), .val (.int (4 : Int32))] [(.ref b1), (.ref b55), (.ref b55)])) rfl (by rw [hml]; rfl) (Steps.refl _) (a := b55) (argsL := [(.ref b1)]) (rest := [(.ref b55)]) (lenOf pd_18 rfl) rfl (by show 2 * 0 + _ ≤ _; exact Nat.le_of_eq rfl) (hb hby at_156) (fun _ _ => ⟨rfl, e55, (by decide : 2 + 2 ≤ _), (by decide : 9 + 30 ≤ _)⟩)
        dsimp only [Pt.U, Pt.locs, Pt.cells, Pt.slots] at X62 l62 y62 z62 st62 hQ62
        subst y62 z62
        obtain ⟨rfl, N62q, K62q, r62_0⟩ := hQ62
        have N62 : Fr n0 L62 := by rw [l62]; exact Fr.app N27 N62q
        have f63 := f57.keep K62q
        have f64 := A55.keep K62q
        have f65 := V61.keep K62q (ninS ne56 nin0)
        have K62 : Keep h0 T62.heap [] := K55.trans K62q (allS (Or.inr sz_b55) all0)
        have O62 := O55.keep K62q (allS ge_b55 all0)
        refine stt st62 ?_
        show Go p e below T62 (mkF m 159 #[.val (.int p0), .val (.int p1), .val (.long q2), .second, .val (.int p3), .val (.ref b1), .val (.int sv), .val (.int (4 : Int32))] [(.ref b55)]) _
        refine stp (fun _ => XS.iload X62.here hx rfl (hb hby at_159) rfl) ?_
        show Go p e below T62 (mkF m 161 #[.val (.int p0), .val (.int p1), .val (.long q2), .second, .val (.int p3), .val (.ref b1), .val (.int sv), .val (.int (4 : Int32))] [(.int sv), (.ref b55)]) _
        obtain ⟨_, _, ⟨T66, L66, k66, n66⟩, -, X66, ⟨Lc66, hQ66, l66, y66, z66⟩, st66⟩ := Jvm.LawKit.callS X62 hx (y := (⟨"com/example/goldpage/goldpage/record/Quoting", "end", "(Ljava/lang/String;I)I"⟩ : MethodName)) hown (mvT hZ (hw _ (List.mem_of_getElem? (i := 44) rfl))) (mvT hZ (hw _ (List.mem_of_getElem? (i := 45) rfl))) (mvT hZ (hw _ (List.mem_of_getElem? (i := 46) rfl))) (mvT hZ (hw _ (List.mem_of_getElem? (i := 47) rfl))) (by decide) (backOf (W := 0) (rm_end l Z a0 hw [] b55 sv t0 t1 t2 t3 t4 cz fm T62.heap n0 O62 r62_0 S_CS S_FM S_AS S_HI S_LO hcz hfm hsv) hZ (hw _ (List.mem_of_getElem? (i := 47) rfl)) (hw _ (List.mem_of_getElem? (i := 46) rfl)) (by decide) (by decide)) (g := (mkF m 161 #[.val (.int p0), .val (.int p1), .val (.long q2), .second, .val (.int p3), .val (.ref b1), .val (.int sv), .val (.int (4 : Int32))] [(.int sv), (.ref b55)])) rfl (by rw [hml]; rfl) (argsL := [(.ref b55), (.int sv)]) (rest := []) (lenOf pd_19 rfl) rfl (by show 2 * 0 + _ ≤ _; exact Nat.le_of_eq rfl) (hb hby at_161) (fun _ _ => ⟨rfl, rfl, (by decide : 4 + 0 ≤ _), (by decide : 39 + 0 ≤ _)⟩)
        dsimp only [Pt.U, Pt.locs, Pt.cells, Pt.slots] at X66 l66 y66 z66 st66 hQ66
        subst y66 z66
        obtain ⟨rfl, N66q, e66⟩ := hQ66
        have N66 : Fr n0 L66 := by rw [l66]; exact Fr.app N62 N66q
        refine stp st66 ?_
        show Go p e below T66 (mkF m 164 #[.val (.int p0), .val (.int p1), .val (.long q2), .second, .val (.int p3), .val (.ref b1), .val (.int sv), .val (.int (4 : Int32))] [(.int (own_e t0 t1 t2 t3 t4 sv))]) _
        refine stp (fun _ => XS.iload X66.here hx rfl (hb hby at_164) rfl) ?_
        show Go p e below T66 (mkF m 166 #[.val (.int p0), .val (.int p1), .val (.long q2), .second, .val (.int p3), .val (.ref b1), .val (.int sv), .val (.int (4 : Int32))] [(.int (4 : Int32)), (.int (own_e t0 t1 t2 t3 t4 sv))]) _
        refine stp (fun _ => XS.icmpNo X66.here hx rfl (hb hby at_166) rfl (XT.ii_ne_f (by rw [own_main hsv]; simp only [if_pos q93_24, if_pos q110_26, if_neg q127_28]))) ?_
        show Go p e below T66 (mkF m 169 #[.val (.int p0), .val (.int p1), .val (.long q2), .second, .val (.int p3), .val (.ref b1), .val (.int sv), .val (.int (4 : Int32))] []) _
        refine stp (fun _ => XS.iconst X66.here hx rfl (hb hby at_169)) ?_
        show Go p e below T66 (mkF m 170 #[.val (.int p0), .val (.int p1), .val (.long q2), .second, .val (.int p3), .val (.ref b1), .val (.int sv), .val (.int (4 : Int32))] [(.int (1 : Int32))]) _
        refine stp (fun _ => XS.goto X66.here hx rfl (pc0 := 170) (pc' := 174) rfl (hb hby at_170) (by decide) (by decide)) ?_
        show Go p e below T66 (mkF m 174 #[.val (.int p0), .val (.int p1), .val (.long q2), .second, .val (.int p3), .val (.ref b1), .val (.int sv), .val (.int (4 : Int32))] [(.int (1 : Int32))]) _
        refine outN X66 hx (t := .boolean) hret (by simp) (hb hby at_174) hlk (by decide) (by decide) ?_
        exact ⟨rfl, N66⟩
    · refine stp (fun _ => XS.ifNo X25.here hx rfl (hb hby at_110) rfl (XT.i0_eq_f q110_26)) ?_
      show Go p e below T25 (mkF m 113 #[.val (.int p0), .val (.int p1), .val (.long q2), .second, .val (.int p3), .val (.ref b1), .val (.int sv), .val (.int (-1 : Int32))] []) _
      refine stp (fun _ => XS.iconst X25.here hx rfl (hb hby at_113)) ?_
      show Go p e below T25 (mkF m 114 #[.val (.int p0), .val (.int p1), .val (.long q2), .second, .val (.int p3), .val (.ref b1), .val (.int sv), .val (.int (-1 : Int32))] [(.int (3 : Int32))]) _
      refine stp (fun _ => XS.istore X25.here hx rfl (hb hby at_114) rfl (l' := #[.val (.int p0), .val (.int p1), .val (.long q2), .second, .val (.int p3), .val (.ref b1), .val (.int sv), .val (.int (3 : Int32))]) rfl) ?_
      show Go p e below T25 (mkF m 116 #[.val (.int p0), .val (.int p1), .val (.long q2), .second, .val (.int p3), .val (.ref b1), .val (.int sv), .val (.int (3 : Int32))] []) _
      refine stp (fun _ => XS.goto X25.here hx rfl (pc0 := 116) (pc' := 150) rfl (hb hby at_116) (by decide) (by decide)) ?_
      show Go p e below T25 (mkF m 150 #[.val (.int p0), .val (.int p1), .val (.long q2), .second, .val (.int p3), .val (.ref b1), .val (.int sv), .val (.int (3 : Int32))] []) _
      obtain ⟨T67, h67, X67, e67, E67, A67, D67, -, st67⟩ := newO X25 hx hZ hown (hw _ (List.mem_of_getElem? (i := 15) rfl)) (hw _ (List.mem_of_getElem? (i := 16) rfl)) (hw _ (List.mem_of_getElem? (i := 17) rfl)) e25 (g := (mkF m 150 #[.val (.int p0), .val (.int p1), .val (.long q2), .second, .val (.int p3), .val (.ref b1), .val (.int sv), .val (.int (3 : Int32))] [])) rfl (hb hby at_150) (by decide) (by decide)
      obtain ⟨b67, g67⟩ : ∃ z, z = h19.size := ⟨_, rfl⟩
      rw [← g67] at A67 D67 st67
      have ne68 : b1 ≠ b67 := Nat.ne_of_lt (Nat.lt_of_lt_of_le f20.lt (Nat.le_of_eq g67.symm))
      have sz_b67 : h0.size ≤ b67 := Nat.le_trans K19.1 (Nat.le_of_eq g67.symm)
      have ge_b67 : n0 ≤ b67 := Nat.le_trans (old_le O19) (Nat.le_of_eq g67.symm)
      have f69 := f20.ext E67
      have f70 := V22.ext E67
      have K67 : Keep h0 h67 [] := K19.ext E67
      have O67 := O19.ext E67
      have F71 : Fld Z h67 b67 "java/lang/String" "coder" "B" (.int (0 : Int32)) := D67 (Or.inr (hw _ (List.mem_of_getElem? (i := 41) rfl))) (ty := .byte) (by decide)
      have F72 : Fld Z h67 b67 "java/lang/String" "value" "[B" .null := D67 (Or.inr (hw _ (List.mem_of_getElem? (i := 43) rfl))) (ty := (.array .byte)) (by decide)
      refine stp st67 ?_
      show Go p e below T67 (mkF m 153 #[.val (.int p0), .val (.int p1), .val (.long q2), .second, .val (.int p3), .val (.ref b1), .val (.int sv), .val (.int (3 : Int32))] [(.ref b67)]) _
      refine stp (fun _ => XS.dup X67.here hx rfl (hb hby at_153) rfl rfl) ?_
      show Go p e below T67 (mkF m 154 #[.val (.int p0), .val (.int p1), .val (.long q2), .second, .val (.int p3), .val (.ref b1), .val (.int sv), .val (.int (3 : Int32))] [(.ref b67), (.ref b67)]) _
      refine stp (fun _ => XS.aload X67.here hx rfl (hb hby at_154) rfl rfl) ?_
      show Go p e below T67 (mkF m 156 #[.val (.int p0), .val (.int p1), .val (.long q2), .second, .val (.int p3), .val (.ref b1), .val (.int sv), .val (.int (3 : Int32))] [(.ref b1), (.ref b67), (.ref b67)]) _
      have V73 : Arf Z h67 b1 k1 .char ([t0, t1, t2, t3, t4] : List Int32).length (fun i => (.int (own_at ([t0, t1, t2, t3, t4] : List Int32) i))) := (Arv.arf f70 rfl).congr (fun i _ => own_atv ([t0, t1, t2, t3, t4] : List Int32) i)
      obtain ⟨_, _, ⟨T74, L74, k74, n74⟩, -, X74, ⟨Lc74, hQ74, l74, y74, z74⟩, st74⟩ := X67.specialBack hx (y := (⟨"java/lang/String", "<init>", "([C)V"⟩ : MethodName)) rfl hown (mvT hZ (hw _ (List.mem_of_getElem? (i := 18) rfl))) (mvT hZ (hw _ (List.mem_of_getElem? (i := 19) rfl))) (mvT hZ (hw _ (List.mem_of_getElem? (i := 20) rfl))) (by decide) (backOf (W := 1) (rm_u1 l Z a0 hw [] b67 b1 ([t0, t1, t2, t3, t4] : List Int32) cz k1 h67 n0 O67 A67 F72 F71 V73 S_CS S_AS S_HI S_LO ge_b67 ne68 hcz (Nat.le_of_ble_eq_true rfl) (own_sm5 (P := fun c => ¬ c < 0 ∧ ¬ (65535 : Int32) < c) ht0 ht1 ht2 ht3 ht4) (Nat.succ_pos _)) hZ (hw _ (List.mem_of_getElem? (i := 20) rfl)) (hw _ (List.mem_of_getElem? (i := 17) rfl)) (by decide) (by decide)) (g := (mkF m 156 #[.val (.int p0), .val (.int p1), .val (.long q2), .second, .val (.int p3), .val (.ref b1), .val (.int sv), .val (.int (3 : Int32))] [(.ref b1), (.ref b67), (.ref b67)])) rfl (by rw [hml]; rfl) (Steps.refl _) (a := b67) (argsL := [(.ref b1)]) (rest := [(.ref b67)]) (lenOf pd_18 rfl) rfl (by show 2 * 0 + _ ≤ _; exact Nat.le_of_eq rfl) (hb hby at_156) (fun _ _ => ⟨rfl, e67, (by decide : 2 + 2 ≤ _), (by decide : 9 + 30 ≤ _)⟩)
      dsimp only [Pt.U, Pt.locs, Pt.cells, Pt.slots] at X74 l74 y74 z74 st74 hQ74
      subst y74 z74
      obtain ⟨rfl, N74q, K74q, r74_0⟩ := hQ74
      have N74 : Fr n0 L74 := by rw [l74]; exact Fr.app N25 N74q
      have f75 := f69.keep K74q
      have f76 := A67.keep K74q
      have f77 := V73.keep K74q (ninS ne68 nin0)
      have K74 : Keep h0 T74.heap [] := K67.trans K74q (allS (Or.inr sz_b67) all0)
      have O74 := O67.keep K74q (allS ge_b67 all0)
      refine stt st74 ?_
      show Go p e below T74 (mkF m 159 #[.val (.int p0), .val (.int p1), .val (.long q2), .second, .val (.int p3), .val (.ref b1), .val (.int sv), .val (.int (3 : Int32))] [(.ref b67)]) _
      refine stp (fun _ => XS.iload X74.here hx rfl (hb hby at_159) rfl) ?_
      show Go p e below T74 (mkF m 161 #[.val (.int p0), .val (.int p1), .val (.long q2), .second, .val (.int p3), .val (.ref b1), .val (.int sv), .val (.int (3 : Int32))] [(.int sv), (.ref b67)]) _
      obtain ⟨_, _, ⟨T78, L78, k78, n78⟩, -, X78, ⟨Lc78, hQ78, l78, y78, z78⟩, st78⟩ := Jvm.LawKit.callS X74 hx (y := (⟨"com/example/goldpage/goldpage/record/Quoting", "end", "(Ljava/lang/String;I)I"⟩ : MethodName)) hown (mvT hZ (hw _ (List.mem_of_getElem? (i := 44) rfl))) (mvT hZ (hw _ (List.mem_of_getElem? (i := 45) rfl))) (mvT hZ (hw _ (List.mem_of_getElem? (i := 46) rfl))) (mvT hZ (hw _ (List.mem_of_getElem? (i := 47) rfl))) (by decide) (backOf (W := 0) (rm_end l Z a0 hw [] b67 sv t0 t1 t2 t3 t4 cz fm T74.heap n0 O74 r74_0 S_CS S_FM S_AS S_HI S_LO hcz hfm hsv) hZ (hw _ (List.mem_of_getElem? (i := 47) rfl)) (hw _ (List.mem_of_getElem? (i := 46) rfl)) (by decide) (by decide)) (g := (mkF m 161 #[.val (.int p0), .val (.int p1), .val (.long q2), .second, .val (.int p3), .val (.ref b1), .val (.int sv), .val (.int (3 : Int32))] [(.int sv), (.ref b67)])) rfl (by rw [hml]; rfl) (argsL := [(.ref b67), (.int sv)]) (rest := []) (lenOf pd_19 rfl) rfl (by show 2 * 0 + _ ≤ _; exact Nat.le_of_eq rfl) (hb hby at_161) (fun _ _ => ⟨rfl, rfl, (by decide : 4 + 0 ≤ _), (by decide : 39 + 0 ≤ _)⟩)
      dsimp only [Pt.U, Pt.locs, Pt.cells, Pt.slots] at X78 l78 y78 z78 st78 hQ78
      subst y78 z78
      obtain ⟨rfl, N78q, e78⟩ := hQ78
      have N78 : Fr n0 L78 := by rw [l78]; exact Fr.app N74 N78q
      refine stp st78 ?_
      show Go p e below T78 (mkF m 164 #[.val (.int p0), .val (.int p1), .val (.long q2), .second, .val (.int p3), .val (.ref b1), .val (.int sv), .val (.int (3 : Int32))] [(.int (own_e t0 t1 t2 t3 t4 sv))]) _
      refine stp (fun _ => XS.iload X78.here hx rfl (hb hby at_164) rfl) ?_
      show Go p e below T78 (mkF m 166 #[.val (.int p0), .val (.int p1), .val (.long q2), .second, .val (.int p3), .val (.ref b1), .val (.int sv), .val (.int (3 : Int32))] [(.int (3 : Int32)), (.int (own_e t0 t1 t2 t3 t4 sv))]) _
      refine stp (fun _ => XS.icmpNo X78.here hx rfl (hb hby at_166) rfl (XT.ii_ne_f (by rw [own_main hsv]; simp only [if_pos q93_24, if_neg q110_26]))) ?_
      show Go p e below T78 (mkF m 169 #[.val (.int p0), .val (.int p1), .val (.long q2), .second, .val (.int p3), .val (.ref b1), .val (.int sv), .val (.int (3 : Int32))] []) _
      refine stp (fun _ => XS.iconst X78.here hx rfl (hb hby at_169)) ?_
      show Go p e below T78 (mkF m 170 #[.val (.int p0), .val (.int p1), .val (.long q2), .second, .val (.int p3), .val (.ref b1), .val (.int sv), .val (.int (3 : Int32))] [(.int (1 : Int32))]) _
      refine stp (fun _ => XS.goto X78.here hx rfl (pc0 := 170) (pc' := 174) rfl (hb hby at_170) (by decide) (by decide)) ?_
      show Go p e below T78 (mkF m 174 #[.val (.int p0), .val (.int p1), .val (.long q2), .second, .val (.int p3), .val (.ref b1), .val (.int sv), .val (.int (3 : Int32))] [(.int (1 : Int32))]) _
      refine outN X78 hx (t := .boolean) hret (by simp) (hb hby at_174) hlk (by decide) (by decide) ?_
      exact ⟨rfl, N78⟩
  · refine stp (fun _ => XS.ifNo X23.here hx rfl (hb hby at_93) rfl (XT.i0_eq_f q93_24)) ?_
    show Go p e below T23 (mkF m 96 #[.val (.int p0), .val (.int p1), .val (.long q2), .second, .val (.int p3), .val (.ref b1), .val (.int sv), .val (.int (-1 : Int32))] []) _
    refine stp (fun _ => XS.iconst X23.here hx rfl (hb hby at_96)) ?_
    show Go p e below T23 (mkF m 97 #[.val (.int p0), .val (.int p1), .val (.long q2), .second, .val (.int p3), .val (.ref b1), .val (.int sv), .val (.int (-1 : Int32))] [(.int (2 : Int32))]) _
    refine stp (fun _ => XS.istore X23.here hx rfl (hb hby at_97) rfl (l' := #[.val (.int p0), .val (.int p1), .val (.long q2), .second, .val (.int p3), .val (.ref b1), .val (.int sv), .val (.int (2 : Int32))]) rfl) ?_
    show Go p e below T23 (mkF m 99 #[.val (.int p0), .val (.int p1), .val (.long q2), .second, .val (.int p3), .val (.ref b1), .val (.int sv), .val (.int (2 : Int32))] []) _
    refine stp (fun _ => XS.goto X23.here hx rfl (pc0 := 99) (pc' := 150) rfl (hb hby at_99) (by decide) (by decide)) ?_
    show Go p e below T23 (mkF m 150 #[.val (.int p0), .val (.int p1), .val (.long q2), .second, .val (.int p3), .val (.ref b1), .val (.int sv), .val (.int (2 : Int32))] []) _
    obtain ⟨T79, h79, X79, e79, E79, A79, D79, -, st79⟩ := newO X23 hx hZ hown (hw _ (List.mem_of_getElem? (i := 15) rfl)) (hw _ (List.mem_of_getElem? (i := 16) rfl)) (hw _ (List.mem_of_getElem? (i := 17) rfl)) e23 (g := (mkF m 150 #[.val (.int p0), .val (.int p1), .val (.long q2), .second, .val (.int p3), .val (.ref b1), .val (.int sv), .val (.int (2 : Int32))] [])) rfl (hb hby at_150) (by decide) (by decide)
    obtain ⟨b79, g79⟩ : ∃ z, z = h19.size := ⟨_, rfl⟩
    rw [← g79] at A79 D79 st79
    have ne80 : b1 ≠ b79 := Nat.ne_of_lt (Nat.lt_of_lt_of_le f20.lt (Nat.le_of_eq g79.symm))
    have sz_b79 : h0.size ≤ b79 := Nat.le_trans K19.1 (Nat.le_of_eq g79.symm)
    have ge_b79 : n0 ≤ b79 := Nat.le_trans (old_le O19) (Nat.le_of_eq g79.symm)
    have f81 := f20.ext E79
    have f82 := V22.ext E79
    have K79 : Keep h0 h79 [] := K19.ext E79
    have O79 := O19.ext E79
    have F83 : Fld Z h79 b79 "java/lang/String" "coder" "B" (.int (0 : Int32)) := D79 (Or.inr (hw _ (List.mem_of_getElem? (i := 41) rfl))) (ty := .byte) (by decide)
    have F84 : Fld Z h79 b79 "java/lang/String" "value" "[B" .null := D79 (Or.inr (hw _ (List.mem_of_getElem? (i := 43) rfl))) (ty := (.array .byte)) (by decide)
    refine stp st79 ?_
    show Go p e below T79 (mkF m 153 #[.val (.int p0), .val (.int p1), .val (.long q2), .second, .val (.int p3), .val (.ref b1), .val (.int sv), .val (.int (2 : Int32))] [(.ref b79)]) _
    refine stp (fun _ => XS.dup X79.here hx rfl (hb hby at_153) rfl rfl) ?_
    show Go p e below T79 (mkF m 154 #[.val (.int p0), .val (.int p1), .val (.long q2), .second, .val (.int p3), .val (.ref b1), .val (.int sv), .val (.int (2 : Int32))] [(.ref b79), (.ref b79)]) _
    refine stp (fun _ => XS.aload X79.here hx rfl (hb hby at_154) rfl rfl) ?_
    show Go p e below T79 (mkF m 156 #[.val (.int p0), .val (.int p1), .val (.long q2), .second, .val (.int p3), .val (.ref b1), .val (.int sv), .val (.int (2 : Int32))] [(.ref b1), (.ref b79), (.ref b79)]) _
    have V85 : Arf Z h79 b1 k1 .char ([t0, t1, t2, t3, t4] : List Int32).length (fun i => (.int (own_at ([t0, t1, t2, t3, t4] : List Int32) i))) := (Arv.arf f82 rfl).congr (fun i _ => own_atv ([t0, t1, t2, t3, t4] : List Int32) i)
    obtain ⟨_, _, ⟨T86, L86, k86, n86⟩, -, X86, ⟨Lc86, hQ86, l86, y86, z86⟩, st86⟩ := X79.specialBack hx (y := (⟨"java/lang/String", "<init>", "([C)V"⟩ : MethodName)) rfl hown (mvT hZ (hw _ (List.mem_of_getElem? (i := 18) rfl))) (mvT hZ (hw _ (List.mem_of_getElem? (i := 19) rfl))) (mvT hZ (hw _ (List.mem_of_getElem? (i := 20) rfl))) (by decide) (backOf (W := 1) (rm_u1 l Z a0 hw [] b79 b1 ([t0, t1, t2, t3, t4] : List Int32) cz k1 h79 n0 O79 A79 F84 F83 V85 S_CS S_AS S_HI S_LO ge_b79 ne80 hcz (Nat.le_of_ble_eq_true rfl) (own_sm5 (P := fun c => ¬ c < 0 ∧ ¬ (65535 : Int32) < c) ht0 ht1 ht2 ht3 ht4) (Nat.succ_pos _)) hZ (hw _ (List.mem_of_getElem? (i := 20) rfl)) (hw _ (List.mem_of_getElem? (i := 17) rfl)) (by decide) (by decide)) (g := (mkF m 156 #[.val (.int p0), .val (.int p1), .val (.long q2), .second, .val (.int p3), .val (.ref b1), .val (.int sv), .val (.int (2 : Int32))] [(.ref b1), (.ref b79), (.ref b79)])) rfl (by rw [hml]; rfl) (Steps.refl _) (a := b79) (argsL := [(.ref b1)]) (rest := [(.ref b79)]) (lenOf pd_18 rfl) rfl (by show 2 * 0 + _ ≤ _; exact Nat.le_of_eq rfl) (hb hby at_156) (fun _ _ => ⟨rfl, e79, (by decide : 2 + 2 ≤ _), (by decide : 9 + 30 ≤ _)⟩)
    dsimp only [Pt.U, Pt.locs, Pt.cells, Pt.slots] at X86 l86 y86 z86 st86 hQ86
    subst y86 z86
    obtain ⟨rfl, N86q, K86q, r86_0⟩ := hQ86
    have N86 : Fr n0 L86 := by rw [l86]; exact Fr.app N23 N86q
    have f87 := f81.keep K86q
    have f88 := A79.keep K86q
    have f89 := V85.keep K86q (ninS ne80 nin0)
    have K86 : Keep h0 T86.heap [] := K79.trans K86q (allS (Or.inr sz_b79) all0)
    have O86 := O79.keep K86q (allS ge_b79 all0)
    refine stt st86 ?_
    show Go p e below T86 (mkF m 159 #[.val (.int p0), .val (.int p1), .val (.long q2), .second, .val (.int p3), .val (.ref b1), .val (.int sv), .val (.int (2 : Int32))] [(.ref b79)]) _
    refine stp (fun _ => XS.iload X86.here hx rfl (hb hby at_159) rfl) ?_
    show Go p e below T86 (mkF m 161 #[.val (.int p0), .val (.int p1), .val (.long q2), .second, .val (.int p3), .val (.ref b1), .val (.int sv), .val (.int (2 : Int32))] [(.int sv), (.ref b79)]) _
    obtain ⟨_, _, ⟨T90, L90, k90, n90⟩, -, X90, ⟨Lc90, hQ90, l90, y90, z90⟩, st90⟩ := Jvm.LawKit.callS X86 hx (y := (⟨"com/example/goldpage/goldpage/record/Quoting", "end", "(Ljava/lang/String;I)I"⟩ : MethodName)) hown (mvT hZ (hw _ (List.mem_of_getElem? (i := 44) rfl))) (mvT hZ (hw _ (List.mem_of_getElem? (i := 45) rfl))) (mvT hZ (hw _ (List.mem_of_getElem? (i := 46) rfl))) (mvT hZ (hw _ (List.mem_of_getElem? (i := 47) rfl))) (by decide) (backOf (W := 0) (rm_end l Z a0 hw [] b79 sv t0 t1 t2 t3 t4 cz fm T86.heap n0 O86 r86_0 S_CS S_FM S_AS S_HI S_LO hcz hfm hsv) hZ (hw _ (List.mem_of_getElem? (i := 47) rfl)) (hw _ (List.mem_of_getElem? (i := 46) rfl)) (by decide) (by decide)) (g := (mkF m 161 #[.val (.int p0), .val (.int p1), .val (.long q2), .second, .val (.int p3), .val (.ref b1), .val (.int sv), .val (.int (2 : Int32))] [(.int sv), (.ref b79)])) rfl (by rw [hml]; rfl) (argsL := [(.ref b79), (.int sv)]) (rest := []) (lenOf pd_19 rfl) rfl (by show 2 * 0 + _ ≤ _; exact Nat.le_of_eq rfl) (hb hby at_161) (fun _ _ => ⟨rfl, rfl, (by decide : 4 + 0 ≤ _), (by decide : 39 + 0 ≤ _)⟩)
    dsimp only [Pt.U, Pt.locs, Pt.cells, Pt.slots] at X90 l90 y90 z90 st90 hQ90
    subst y90 z90
    obtain ⟨rfl, N90q, e90⟩ := hQ90
    have N90 : Fr n0 L90 := by rw [l90]; exact Fr.app N86 N90q
    refine stp st90 ?_
    show Go p e below T90 (mkF m 164 #[.val (.int p0), .val (.int p1), .val (.long q2), .second, .val (.int p3), .val (.ref b1), .val (.int sv), .val (.int (2 : Int32))] [(.int (own_e t0 t1 t2 t3 t4 sv))]) _
    refine stp (fun _ => XS.iload X90.here hx rfl (hb hby at_164) rfl) ?_
    show Go p e below T90 (mkF m 166 #[.val (.int p0), .val (.int p1), .val (.long q2), .second, .val (.int p3), .val (.ref b1), .val (.int sv), .val (.int (2 : Int32))] [(.int (2 : Int32)), (.int (own_e t0 t1 t2 t3 t4 sv))]) _
    refine stp (fun _ => XS.icmpNo X90.here hx rfl (hb hby at_166) rfl (XT.ii_ne_f (by rw [own_main hsv]; simp only [if_neg q93_24]))) ?_
    show Go p e below T90 (mkF m 169 #[.val (.int p0), .val (.int p1), .val (.long q2), .second, .val (.int p3), .val (.ref b1), .val (.int sv), .val (.int (2 : Int32))] []) _
    refine stp (fun _ => XS.iconst X90.here hx rfl (hb hby at_169)) ?_
    show Go p e below T90 (mkF m 170 #[.val (.int p0), .val (.int p1), .val (.long q2), .second, .val (.int p3), .val (.ref b1), .val (.int sv), .val (.int (2 : Int32))] [(.int (1 : Int32))]) _
    refine stp (fun _ => XS.goto X90.here hx rfl (pc0 := 170) (pc' := 174) rfl (hb hby at_170) (by decide) (by decide)) ?_
    show Go p e below T90 (mkF m 174 #[.val (.int p0), .val (.int p1), .val (.long q2), .second, .val (.int p3), .val (.ref b1), .val (.int sv), .val (.int (2 : Int32))] [(.int (1 : Int32))]) _
    refine outN X90 hx (t := .boolean) hret (by simp) (hb hby at_174) hlk (by decide) (by decide) ?_
    exact ⟨rfl, N90⟩
set_option maxRecDepth 65536 in
set_option maxHeartbeats 40000000 in
theorem comes_1 {Post : Tables → Env → Array Value → State → Outcome → State → Prop} (hpost : ∀ tb e args s v u, (limb_1_1.after args s (.returned v) u = true ∧ limb_1_2.after args s (.returned v) u = true ∧ True) → FrameEnd s (.returned v) u (Jvm.fieldLocs frame_1_writes args s ++ Jvm.arrayLocs frame_1_arrays args s ++ Jvm.staticLocs frame_1_statics s) 16 128 → Post tb e args s (.returned v) u) :
    ArmFor flags0 classFile x code maxLocals ret World_1 tables_1 room_1 Calls_1 rest_1 Pre_1 Post := by
  intro l hfl _ _ p e ha hc hk s m args below hf hA hF happ hP
  obtain ⟨hcalls, hrest, hpre⟩ := hP
  obtain ⟨-, -, -, hnamed, -, -, -, hat⟩ := (Spec.applies_iff hf).mp happ
  obtain ⟨hg, hn⟩ := and_e (Cond.before_iff.mp (show (Jvm.Cond.and given_1 narrow_1).before args s = true from hpre))
  obtain ⟨g1, g2⟩ := and_e hg
  obtain ⟨g3, g4⟩ := and_e g2
  obtain ⟨g5, g6⟩ := and_e g4
  obtain ⟨g7, g8⟩ := and_e g6
  obtain ⟨w0, w1, w2, w3, rfl⟩ : ∃ w0 w1 w2 w3 : Value, args = #[w0, w1, w2, w3] := by
    have hs : args.size = 4 := by simpa [Cond.value, given_1] using g1
    obtain ⟨L⟩ := args
    match L, hs with
    | [w0, w1, w2, w3], _ => exact ⟨w0, w1, w2, w3, rfl⟩
  have hw := fun d (hd : d ∈ tables_1) => atoms_spec (ws := Jvm.Cond.code x code maxLocals ret :: tables_1) hat d (List.mem_cons_of_mem _ hd)
  have hfit : Fit s := fun {y c} hc i hi => by
    obtain ⟨ha, rfl⟩ := Array.getElem?_eq_some_iff.mp hc
    have q := List.all_eq_true.mp ((Array.all_eq_true_iff_forall_mem.mp hF) _ (Array.getElem_mem ha)) i (List.mem_range.mpr hi)
    simpa [Array.getElem?_eq_getElem hi] using q
  obtain ⟨i0, ei0⟩ := is_v g3
  obtain rfl : w0 = (.int i0) := Option.some.inj ei0
  obtain ⟨i1, ei1⟩ := is_v g5
  obtain rfl : w1 = (.int i1) := Option.some.inj ei1
  obtain ⟨i2, ei2⟩ := isL_v g7
  obtain rfl : w2 = (.long i2) := Option.some.inj ei2
  obtain ⟨i3, ei3⟩ := is_v g8
  obtain rfl : w3 = (.int i3) := Option.some.inj ei3
  obtain ⟨hsets, hown0⟩ := atoms_of _ (rest_1_c_eq ▸ (show rest_1_c.before _ s = true from hrest))
  have hr0 := Cond.before_iff.mp hown0
  obtain ⟨z_COMPACT_STRINGS, ez_COMPACT_STRINGS⟩ := is_v (Cond.before_iff.mp (hsets _ (List.mem_of_getElem? (i := 1) rfl)))
  have S_z_COMPACT_STRINGS := Sta.start ez_COMPACT_STRINGS (Or.inl (hsets _ (List.mem_of_getElem? (i := 0) rfl)))
  have c_COMPACT_STRINGS : ¬ (z_COMPACT_STRINGS = (0 : Int32)) := gotF (Cond.eq_ints ez_COMPACT_STRINGS (Term.int_eval (0))) (not_v (Cond.before_iff.mp (hsets _ (List.mem_of_getElem? (i := 2) rfl))))
  obtain ⟨v_SIOOBE_FORMATTER, ez_SIOOBE_FORMATTER, r_SIOOBE_FORMATTER⟩ := isR_v (Cond.before_iff.mp (hsets _ (List.mem_of_getElem? (i := 8) rfl)))
  have S_v_SIOOBE_FORMATTER := Sta.start ez_SIOOBE_FORMATTER (Or.inl (hsets _ (List.mem_of_getElem? (i := 7) rfl)))
  have S_j__assertionsDisabled := Sta.start (eqint_v (Cond.before_iff.mp (hsets _ (List.mem_of_getElem? (i := 12) rfl)))) (Or.inl (hsets _ (List.mem_of_getElem? (i := 11) rfl)))
  have S_j_HI_BYTE_SHIFT := Sta.start (eqint_v (Cond.before_iff.mp (hsets _ (List.mem_of_getElem? (i := 15) rfl)))) (Or.inl (hsets _ (List.mem_of_getElem? (i := 14) rfl)))
  have S_j_LO_BYTE_SHIFT := Sta.start (eqint_v (Cond.before_iff.mp (hsets _ (List.mem_of_getElem? (i := 18) rfl)))) (Or.inl (hsets _ (List.mem_of_getElem? (i := 17) rfl)))
  obtain ⟨n, o, h1, h2, h3, _, L, rfl, ⟨rfl, N⟩, hq⟩ := rm0 l s _ hw tables_1 i0 i1 i2 i3 z_COMPACT_STRINGS v_SIOOBE_FORMATTER s.heap s.heap.size (Old.start s) S_z_COMPACT_STRINGS c_COMPACT_STRINGS S_v_SIOOBE_FORMATTER r_SIOOBE_FORMATTER S_j__assertionsDisabled S_j_HI_BYTE_SHIFT S_j_LO_BYTE_SHIFT p e ha hc hk s m _ below hf ((Spec.applies_iff_loose hf).mp happ).1 ⟨rfl, State.Warmed39.refl s, rfl⟩ trivial
  refine ⟨n, _, h1, h2, h3, hpost _ _ _ _ _ _ ⟨Cond.after_iff.mpr rfl, Cond.after_iff.mpr (eq_i res_at (Term.int_eval (1)) rfl), trivial⟩ ⟨hq.1, hq.2.1, (hq.2.2.sift fun y hy => Or.inr (N y hy)).mono (by decide) (by decide)⟩⟩
theorem main_1_1 : Claimed_1_1 := comes_1 fun _ _ _ _ _ _ h hF => ⟨h.1, hF⟩
theorem main_1_2 : Claimed_1_2 := comes_1 fun _ _ _ _ _ _ h hF => ⟨h.2.1, hF⟩
end Jvm.Pilot.@@N@@
namespace Jvm.Pilot.@@N@@
open Jvm Jvm.ClassFile Sem Op Lib Jvm.Free Jvm.Stand Jvm.Pilot.@@N@@.Jvm.D
/-! MADE BY PROGRAM (witnessworld.py) out of the Statement's table words and the real class files: 20 classes; the members and pool entries that the words name. The judged class is class 1, her method 5. -/
namespace start1
open Jvm.ClassFile
def u (s : String) : CpInfo := .utf8 (stringToUtf16 s)
/-- a pool by its gaps: so many unusable entries, then the entry; so many at the end -/
def gap : Nat → List CpInfo → List CpInfo
  | 0, r => r
  | n + 1, r => .unusable :: gap n r
def poolList (es : List (Nat × CpInfo)) (last : Nat) : List CpInfo := es.foldr (fun e r => gap e.1 (e.2 :: r)) (gap last [])
def pool (es : List (Nat × CpInfo)) (last : Nat) : Array CpInfo := ⟨poolList es last⟩
def fileOf (pool : Array CpInfo) (this : Nat) (attrs : Array Attribute := #[]) (ms : Array MethodInfo := #[]) (fl : Nat := 33) (sup : Nat := 0) (ifs : Array Nat := #[]) (fds : Array FieldInfo := #[]) : ClassFile where
  minorVersion := 0
  majorVersion := 65
  constantPool := pool
  accessFlags := fl
  thisClass := this
  superClass := sup
  interfaces := ifs
  fields := fds
  methods := ms
  attributes := attrs
def plain (name : String) (sup : Option ClassId) : Class where
  name := name
  kind := .ordinary
  loader := none
  accessFlags := 33
  super := sup
  interfaces := #[]
  cf := none
  fields := #[]
  methods := #[]
  instanceTypes := #[]
  staticTypes := #[]
  resolved := #[]
  callSites := []
  init := .initialized
  statics := none
  mirror := none

def pool0 : Array CpInfo := pool [(5, u "<init>"), (0, u "()V"), (1, .class_ 10), (1, u "java/lang/Object")] 113

def k0c0 : Code := { maxStack := 0, maxLocals := 1, code := object_method_1_code, exceptionTable := #[], attributes := #[] }
def k0m0 : Method := { name := "<init>", desc := "()V", sig := { parameters := [], returnType := none }, accessFlags := 1, code := some k0c0 }
/-- java/lang/Object -/
def k0 : Class := { plain "java/lang/Object" none with
  accessFlags := 33
  interfaces := #[]
  cf := some (fileOf pool0 8 #[] #[{ accessFlags := 1, nameIndex := 5, descriptorIndex := 6, attributes := #[] }] 33 0 #[] #[])
  fields := #[]
  methods := #[k0m0]
  instanceTypes := #[]
  staticTypes := #[]
  resolved := Array.replicate 124 none
  statics := none }

def pool1 : Array CpInfo := pool [(2, .class_ 4), (1, u "java/lang/Object"), (0, u "<init>"), (0, u "()V"), (0, .methodref 8 9), (0, .class_ 10), (0, .nameAndType 11 12), (0, u "com/example/goldpage/goldpage/record/QuotingEndPinLaw"), (0, u "bs"), (0, u "([CII)Z"), (0, .methodref 8 14), (0, .nameAndType 15 12), (0, u "evenRun"), (0, .methodref 8 17), (0, .nameAndType 18 19), (0, u "pick"), (0, u "(IIC)C"), (0, .integer 2147483647), (0, .methodref 8 22), (0, .nameAndType 23 12), (0, u "closes"), (0, .class_ 25), (0, u "java/lang/String"), (0, .methodref 24 27), (0, .nameAndType 5 28), (0, u "([C)V"), (0, .methodref 30 31), (0, .class_ 32), (0, .nameAndType 33 34), (0, u "com/example/goldpage/goldpage/record/Quoting"), (0, u "end"), (0, u "(Ljava/lang/String;I)I"), (3, u "law"), (0, u "(IIJI)Z")] 4

def k1m0 : Method := { name := "<init>", desc := "()V", sig := { parameters := [], returnType := none }, accessFlags := 1, code := none }
def k1c1 : Code := { maxStack := 3, maxLocals := 4, code := method_2_code, exceptionTable := #[], attributes := #[] }
def k1m1 : Method := { name := "pick", desc := "(IIC)C", sig := { parameters := [.int, .int, .char], returnType := some .char }, accessFlags := 10, code := some k1c1 }
def k1c2 : Code := { maxStack := 2, maxLocals := 3, code := method_3_code, exceptionTable := #[], attributes := #[] }
def k1m2 : Method := { name := "bs", desc := "([CII)Z", sig := { parameters := [(.array .char), .int, .int], returnType := some .boolean }, accessFlags := 10, code := some k1c2 }
def k1c3 : Code := { maxStack := 3, maxLocals := 4, code := method_4_code, exceptionTable := #[], attributes := #[] }
def k1m3 : Method := { name := "evenRun", desc := "([CII)Z", sig := { parameters := [(.array .char), .int, .int], returnType := some .boolean }, accessFlags := 10, code := some k1c3 }
def k1c4 : Code := { maxStack := 3, maxLocals := 3, code := method_5_code, exceptionTable := #[], attributes := #[] }
def k1m4 : Method := { name := "closes", desc := "([CII)Z", sig := { parameters := [(.array .char), .int, .int], returnType := some .boolean }, accessFlags := 10, code := some k1c4 }
def k1c5 : Code := { maxStack := 7, maxLocals := 8, code := code, exceptionTable := #[], attributes := #[] }
def k1m5 : Method := { name := "law", desc := "(IIJI)Z", sig := { parameters := [.int, .int, .long, .int], returnType := some .boolean }, accessFlags := 9, code := some k1c5 }
/-- com/example/goldpage/goldpage/record/QuotingEndPinLaw -/
def k1 : Class := { plain "com/example/goldpage/goldpage/record/QuotingEndPinLaw" (some 0) with
  accessFlags := 49
  interfaces := #[]
  cf := some (fileOf pool1 8 #[] #[{ accessFlags := 1, nameIndex := 5, descriptorIndex := 6, attributes := #[] }, { accessFlags := 10, nameIndex := 18, descriptorIndex := 19, attributes := #[] }, { accessFlags := 10, nameIndex := 11, descriptorIndex := 12, attributes := #[] }, { accessFlags := 10, nameIndex := 15, descriptorIndex := 12, attributes := #[] }, { accessFlags := 10, nameIndex := 23, descriptorIndex := 12, attributes := #[] }, { accessFlags := 9, nameIndex := 38, descriptorIndex := 39, attributes := #[] }] 49 2 #[] #[])
  fields := #[]
  methods := #[k1m0, k1m1, k1m2, k1m3, k1m4, k1m5]
  instanceTypes := #[]
  staticTypes := #[]
  resolved := Array.replicate 44 none
  statics := none }

def pool2 : Array CpInfo := pool [(1, .class_ 2), (0, u "java/io/Serializable"), (0, .class_ 4), (0, u "java/lang/Object")] 2

/-- java/io/Serializable -/
def k2 : Class := { plain "java/io/Serializable" (some 0) with
  accessFlags := 1537
  interfaces := #[]
  cf := some (fileOf pool2 1 #[] #[] 1537 3 #[] #[])
  fields := #[]
  methods := #[]
  instanceTypes := #[]
  staticTypes := #[]
  resolved := Array.replicate 7 none
  statics := none }

def pool3 : Array CpInfo := pool [(1, .class_ 2), (0, u "java/lang/Comparable"), (0, .class_ 4), (0, u "java/lang/Object")] 7

/-- java/lang/Comparable -/
def k3 : Class := { plain "java/lang/Comparable" (some 0) with
  accessFlags := 1537
  interfaces := #[]
  cf := some (fileOf pool3 1 #[] #[] 1537 3 #[] #[])
  fields := #[]
  methods := #[]
  instanceTypes := #[]
  staticTypes := #[]
  resolved := Array.replicate 12 none
  statics := none }

def pool4 : Array CpInfo := pool [(2, .class_ 4), (1, u "java/lang/CharSequence"), (42, .class_ 48), (0, u "java/lang/CharSequence$1CodePointIterator"), (10, .class_ 60), (0, u "java/lang/CharSequence$1CharIterator"), (5, .class_ 67), (0, u "java/lang/Object")] 63

/-- java/lang/CharSequence -/
def k4 : Class := { plain "java/lang/CharSequence" (some 0) with
  accessFlags := 1537
  interfaces := #[]
  cf := some (fileOf pool4 2 #[.nestMembers #[47, 59]] #[] 1537 66 #[] #[])
  fields := #[]
  methods := #[]
  instanceTypes := #[]
  staticTypes := #[]
  resolved := Array.replicate 131 none
  statics := none }

def pool5 : Array CpInfo := pool [(1, .class_ 2), (0, u "java/lang/constant/Constable"), (0, .class_ 4), (0, u "java/lang/Object")] 6

/-- java/lang/constant/Constable -/
def k5 : Class := { plain "java/lang/constant/Constable" (some 0) with
  accessFlags := 1537
  interfaces := #[]
  cf := some (fileOf pool5 1 #[] #[] 1537 3 #[] #[])
  fields := #[]
  methods := #[]
  instanceTypes := #[]
  staticTypes := #[]
  resolved := Array.replicate 11 none
  statics := none }

def pool6 : Array CpInfo := pool [(1, .class_ 2), (0, u "java/lang/constant/ConstantDesc"), (0, .class_ 4), (0, u "java/lang/Object")] 32

/-- java/lang/constant/ConstantDesc -/
def k6 : Class := { plain "java/lang/constant/ConstantDesc" (some 0) with
  accessFlags := 1537
  interfaces := #[]
  cf := some (fileOf pool6 1 #[] #[] 1537 3 #[] #[])
  fields := #[]
  methods := #[]
  instanceTypes := #[]
  staticTypes := #[]
  resolved := Array.replicate 37 none
  statics := none }

def pool7 : Array CpInfo := pool [(1, .methodref 2 3), (0, .class_ 4), (0, .nameAndType 5 6), (0, u "java/lang/Object"), (0, u "<init>"), (0, u "()V"), (2, .fieldref 10 11), (0, .class_ 12), (0, .nameAndType 13 14), (0, u "java/lang/String"), (0, u "value"), (0, u "[B"), (0, .fieldref 10 16), (0, .nameAndType 17 18), (0, u "coder"), (0, u "B"), (2, u "hash"), (0, u "I"), (2, u "hashIsZero"), (0, u "Z"), (0, .methodref 10 28), (0, .nameAndType 5 29), (0, u "([CIILjava/lang/Void;)V"), (8, .fieldref 10 39), (0, .nameAndType 40 26), (0, u "COMPACT_STRINGS"), (1, .class_ 44), (1, u "java/lang/StringUTF16"), (0, u "compress"), (1, .methodref 42 48), (0, .nameAndType 49 50), (0, u "coderFromArrayLen"), (0, u "([BI)B"), (56, .class_ 109), (1, u "java/lang/StringLatin1"), (32, u "()Z"), (34, .methodref 42 178), (0, .nameAndType 45 179), (0, u "([CII)[B"), (154, u "()I"), (0, .methodref 10 336), (0, .nameAndType 17 337), (0, u "()B"), (25, u "([BI)C"), (27, u "(II)V"), (35, u "(I)C"), (64, .methodref 10 493), (0, .nameAndType 494 142), (0, u "isLatin1"), (0, .methodref 107 496), (0, .nameAndType 497 363), (0, u "charAt"), (0, .methodref 42 496), (2, u "checkIndex"), (5, u "length"), (67, .class_ 576), (0, u "java/lang/CharSequence"), (22, u "CASE_INSENSITIVE_ORDER"), (0, u "Ljava/util/Comparator;"), (409, u "([C)V"), (42, .fieldref 1054 1055), (0, .class_ 1056), (0, .nameAndType 1057 1058), (0, u "jdk/internal/util/Preconditions"), (0, u "SIOOBE_FORMATTER"), (0, u "Ljava/util/function/BiFunction;"), (0, .methodref 1054 1060), (0, .nameAndType 501 1061), (0, u "(IILjava/util/function/BiFunction;)I"), (39, u "serialPersistentFields"), (0, u "[Ljava/io/ObjectStreamField;"), (0, .class_ 1104), (0, u "java/lang/String$CaseInsensitiveComparator"), (1, .class_ 1107), (0, u "java/io/Serializable"), (0, .class_ 1109), (0, u "java/lang/Comparable"), (0, .class_ 1111), (0, u "java/lang/constant/Constable"), (0, .class_ 1113), (0, u "java/lang/constant/ConstantDesc"), (2, u "serialVersionUID"), (0, u "J"), (3, u "REPL"), (0, u "C"), (2, u "LATIN1"), (1, u "UTF16")] 323

def k7m0 : Method := { name := "<init>", desc := "()V", sig := { parameters := [], returnType := none }, accessFlags := 1, code := none }
def k7c1 : Code := { maxStack := 5, maxLocals := 2, code := jdk_42_method_3_code, exceptionTable := #[], attributes := #[] }
def k7m1 : Method := { name := "<init>", desc := "([C)V", sig := { parameters := [(.array .char)], returnType := none }, accessFlags := 1, code := some k7c1 }
def k7c2 : Code := { maxStack := 2, maxLocals := 1, code := jdk_42_method_54_code, exceptionTable := #[], attributes := #[] }
def k7m2 : Method := { name := "length", desc := "()I", sig := { parameters := [], returnType := some .int }, accessFlags := 1, code := some k7c2 }
def k7c3 : Code := { maxStack := 2, maxLocals := 2, code := jdk_42_method_56_code, exceptionTable := #[], attributes := #[] }
def k7m3 : Method := { name := "charAt", desc := "(I)C", sig := { parameters := [.int], returnType := some .char }, accessFlags := 1, code := some k7c3 }
def k7c4 : Code := { maxStack := 4, maxLocals := 6, code := jdk_42_method_149_code, exceptionTable := #[], attributes := #[] }
def k7m4 : Method := { name := "<init>", desc := "([CIILjava/lang/Void;)V", sig := { parameters := [(.array .char), .int, .int, (.object "java/lang/Void")], returnType := none }, accessFlags := 2, code := some k7c4 }
def k7c5 : Code := { maxStack := 1, maxLocals := 1, code := jdk_42_method_152_code, exceptionTable := #[], attributes := #[] }
def k7m5 : Method := { name := "coder", desc := "()B", sig := { parameters := [], returnType := some .byte }, accessFlags := 0, code := some k7c5 }
def k7c6 : Code := { maxStack := 1, maxLocals := 1, code := jdk_42_method_154_code, exceptionTable := #[], attributes := #[] }
def k7m6 : Method := { name := "isLatin1", desc := "()Z", sig := { parameters := [], returnType := some .boolean }, accessFlags := 0, code := some k7c6 }
def k7c7 : Code := { maxStack := 3, maxLocals := 2, code := jdk_42_method_155_code, exceptionTable := #[], attributes := #[] }
def k7m7 : Method := { name := "checkIndex", desc := "(II)V", sig := { parameters := [.int, .int], returnType := none }, accessFlags := 8, code := some k7c7 }
/-- java/lang/String -/
def k7 : Class := { plain "java/lang/String" (some 0) with
  accessFlags := 49
  interfaces := #[2, 3, 4, 5, 6]
  cf := some (fileOf pool7 10 #[.nestMembers #[1103]] #[{ accessFlags := 1, nameIndex := 5, descriptorIndex := 6, attributes := #[] }, { accessFlags := 1, nameIndex := 5, descriptorIndex := 1010, attributes := #[] }, { accessFlags := 1, nameIndex := 507, descriptorIndex := 334, attributes := #[] }, { accessFlags := 1, nameIndex := 497, descriptorIndex := 427, attributes := #[] }, { accessFlags := 2, nameIndex := 5, descriptorIndex := 29, attributes := #[] }, { accessFlags := 0, nameIndex := 17, descriptorIndex := 337, attributes := #[] }, { accessFlags := 0, nameIndex := 494, descriptorIndex := 142, attributes := #[] }, { accessFlags := 8, nameIndex := 501, descriptorIndex := 391, attributes := #[] }] 49 2 #[1106, 1108, 575, 1110, 1112] #[{ accessFlags := 18, nameIndex := 13, descriptorIndex := 14, attributes := #[] }, { accessFlags := 18, nameIndex := 17, descriptorIndex := 18, attributes := #[] }, { accessFlags := 2, nameIndex := 21, descriptorIndex := 22, attributes := #[] }, { accessFlags := 2, nameIndex := 25, descriptorIndex := 26, attributes := #[] }, { accessFlags := 26, nameIndex := 1116, descriptorIndex := 1117, attributes := #[] }, { accessFlags := 24, nameIndex := 40, descriptorIndex := 26, attributes := #[] }, { accessFlags := 26, nameIndex := 1101, descriptorIndex := 1102, attributes := #[] }, { accessFlags := 26, nameIndex := 1121, descriptorIndex := 1122, attributes := #[] }, { accessFlags := 25, nameIndex := 599, descriptorIndex := 600, attributes := #[] }, { accessFlags := 24, nameIndex := 1125, descriptorIndex := 18, attributes := #[] }, { accessFlags := 24, nameIndex := 1127, descriptorIndex := 18, attributes := #[] }])
  fields := #[{ name := "value", type := (.array .byte), accessFlags := 18, slot := 0, constantValue := 0 }, { name := "coder", type := .byte, accessFlags := 18, slot := 1, constantValue := 0 }, { name := "hash", type := .int, accessFlags := 2, slot := 2, constantValue := 0 }, { name := "hashIsZero", type := .boolean, accessFlags := 2, slot := 3, constantValue := 0 }, { name := "serialVersionUID", type := .long, accessFlags := 26, slot := 0, constantValue := 0 }, { name := "COMPACT_STRINGS", type := .boolean, accessFlags := 24, slot := 1, constantValue := 0 }, { name := "serialPersistentFields", type := (.array (.object "java/io/ObjectStreamField")), accessFlags := 26, slot := 2, constantValue := 0 }, { name := "REPL", type := .char, accessFlags := 26, slot := 3, constantValue := 0 }, { name := "CASE_INSENSITIVE_ORDER", type := (.object "java/util/Comparator"), accessFlags := 25, slot := 4, constantValue := 0 }, { name := "LATIN1", type := .byte, accessFlags := 24, slot := 5, constantValue := 0 }, { name := "UTF16", type := .byte, accessFlags := 24, slot := 6, constantValue := 0 }]
  methods := #[k7m0, k7m1, k7m2, k7m3, k7m4, k7m5, k7m6, k7m7]
  instanceTypes := #[(.array .byte), .byte, .int, .boolean]
  staticTypes := #[.long, .boolean, (.array (.object "java/io/ObjectStreamField")), .char, (.object "java/util/Comparator"), .byte, .byte]
  resolved := Array.replicate 1451 none
  statics := some 0 }

def pool8 : Array CpInfo := pool [(3, .class_ 4), (0, u "java/lang/String"), (1, .class_ 8), (1, u "java/lang/Object"), (0, u "<init>"), (0, u "()V"), (0, .methodref 12 13), (0, .class_ 14), (0, .nameAndType 15 16), (0, u "java/lang/StringUTF16"), (0, u "newBytesLength"), (0, u "(I)I"), (3, .integer 1073741823), (23, .fieldref 12 45), (0, .nameAndType 46 47), (0, u "$assertionsDisabled"), (0, u "Z"), (0, .methodref 12 49), (0, .nameAndType 50 51), (0, u "length"), (0, u "([B)I"), (7, .fieldref 12 60), (0, .nameAndType 61 62), (0, u "HI_BYTE_SHIFT"), (0, u "I"), (0, .fieldref 12 64), (0, .nameAndType 65 62), (0, u "LO_BYTE_SHIFT"), (1, .methodref 12 68), (0, .nameAndType 69 70), (0, u "checkIndex"), (0, u "(I[B)V"), (0, .methodref 12 72), (0, .nameAndType 73 74), (0, u "getChar"), (0, u "([BI)C"), (32, .methodref 12 108), (0, .nameAndType 109 110), (0, u "newBytesFor"), (0, u "(I)[B"), (0, .methodref 12 112), (0, .nameAndType 113 114), (0, u "putChar"), (0, u "([BII)V"), (0, .methodref 12 116), (0, .nameAndType 117 118), (0, u "compress"), (0, u "([CI[BII)I"), (0, .methodref 12 120), (0, .nameAndType 121 122), (0, u "toBytes"), (0, u "([CII)[B"), (138, u "coderFromArrayLen"), (0, u "([BI)B"), (106, .class_ 371), (1, u "java/lang/StringUTF16$LinesSpliterator"), (20, u "charAt"), (21, .methodref 3 415), (0, .nameAndType 69 416), (0, u "(II)V"), (13, u "MAX_LENGTH"), (196, .class_ 628), (0, u "java/lang/StringUTF16$CodePointsSpliterator"), (0, .class_ 630), (0, u "java/lang/StringUTF16$CharsSpliterator")] 4

def k8m0 : Method := { name := "<init>", desc := "()V", sig := { parameters := [], returnType := none }, accessFlags := 0, code := none }
def k8c1 : Code := { maxStack := 1, maxLocals := 1, code := jdk_52_method_2_code, exceptionTable := #[], attributes := #[] }
def k8m1 : Method := { name := "newBytesFor", desc := "(I)[B", sig := { parameters := [.int], returnType := some (.array .byte) }, accessFlags := 9, code := some k8c1 }
def k8c2 : Code := { maxStack := 4, maxLocals := 1, code := jdk_52_method_3_code, exceptionTable := #[], attributes := #[] }
def k8m2 : Method := { name := "newBytesLength", desc := "(I)I", sig := { parameters := [.int], returnType := some .int }, accessFlags := 9, code := some k8c2 }
def k8c3 : Code := { maxStack := 4, maxLocals := 3, code := jdk_52_method_4_code, exceptionTable := #[], attributes := #[] }
def k8m3 : Method := { name := "putChar", desc := "([BII)V", sig := { parameters := [(.array .byte), .int, .int], returnType := none }, accessFlags := 8, code := some k8c3 }
def k8c4 : Code := { maxStack := 3, maxLocals := 2, code := jdk_52_method_5_code, exceptionTable := #[], attributes := #[] }
def k8m4 : Method := { name := "getChar", desc := "([BI)C", sig := { parameters := [(.array .byte), .int], returnType := some .char }, accessFlags := 8, code := some k8c4 }
def k8c5 : Code := { maxStack := 2, maxLocals := 1, code := jdk_52_method_6_code, exceptionTable := #[], attributes := #[] }
def k8m5 : Method := { name := "length", desc := "([B)I", sig := { parameters := [(.array .byte)], returnType := some .int }, accessFlags := 9, code := some k8c5 }
def k8c6 : Code := { maxStack := 4, maxLocals := 5, code := jdk_52_method_14_code, exceptionTable := #[], attributes := #[] }
def k8m6 : Method := { name := "toBytes", desc := "([CII)[B", sig := { parameters := [(.array .char), .int, .int], returnType := some (.array .byte) }, accessFlags := 9, code := some k8c6 }
def k8c7 : Code := { maxStack := 2, maxLocals := 2, code := jdk_52_method_15_code, exceptionTable := #[], attributes := #[] }
def k8m7 : Method := { name := "coderFromArrayLen", desc := "([BI)B", sig := { parameters := [(.array .byte), .int], returnType := some .byte }, accessFlags := 8, code := some k8c7 }
def k8c8 : Code := { maxStack := 5, maxLocals := 6, code := jdk_52_method_16_code, exceptionTable := #[], attributes := #[] }
def k8m8 : Method := { name := "compress", desc := "([CII)[B", sig := { parameters := [(.array .char), .int, .int], returnType := some (.array .byte) }, accessFlags := 9, code := some k8c8 }
def k8c9 : Code := { maxStack := 3, maxLocals := 7, code := jdk_52_method_21_code, exceptionTable := #[], attributes := #[] }
def k8m9 : Method := { name := "compress", desc := "([CI[BII)I", sig := { parameters := [(.array .char), .int, (.array .byte), .int, .int], returnType := some .int }, accessFlags := 9, code := some k8c9 }
def k8c10 : Code := { maxStack := 2, maxLocals := 2, code := jdk_52_method_83_code, exceptionTable := #[], attributes := #[] }
def k8m10 : Method := { name := "charAt", desc := "([BI)C", sig := { parameters := [(.array .byte), .int], returnType := some .char }, accessFlags := 9, code := some k8c10 }
def k8c11 : Code := { maxStack := 2, maxLocals := 2, code := jdk_52_method_91_code, exceptionTable := #[], attributes := #[] }
def k8m11 : Method := { name := "checkIndex", desc := "(I[B)V", sig := { parameters := [.int, (.array .byte)], returnType := none }, accessFlags := 9, code := some k8c11 }
/-- java/lang/StringUTF16 -/
def k8 : Class := { plain "java/lang/StringUTF16" (some 0) with
  accessFlags := 48
  interfaces := #[]
  cf := some (fileOf pool8 12 #[.nestMembers #[627, 629, 369]] #[{ accessFlags := 0, nameIndex := 9, descriptorIndex := 10, attributes := #[] }, { accessFlags := 9, nameIndex := 109, descriptorIndex := 110, attributes := #[] }, { accessFlags := 9, nameIndex := 15, descriptorIndex := 16, attributes := #[] }, { accessFlags := 8, nameIndex := 113, descriptorIndex := 114, attributes := #[] }, { accessFlags := 8, nameIndex := 73, descriptorIndex := 74, attributes := #[] }, { accessFlags := 9, nameIndex := 50, descriptorIndex := 51, attributes := #[] }, { accessFlags := 9, nameIndex := 121, descriptorIndex := 122, attributes := #[] }, { accessFlags := 8, nameIndex := 261, descriptorIndex := 262, attributes := #[] }, { accessFlags := 9, nameIndex := 117, descriptorIndex := 122, attributes := #[] }, { accessFlags := 9, nameIndex := 117, descriptorIndex := 118, attributes := #[] }, { accessFlags := 9, nameIndex := 392, descriptorIndex := 74, attributes := #[] }, { accessFlags := 9, nameIndex := 69, descriptorIndex := 70, attributes := #[] }] 48 6 #[] #[{ accessFlags := 26, nameIndex := 61, descriptorIndex := 62, attributes := #[] }, { accessFlags := 26, nameIndex := 65, descriptorIndex := 62, attributes := #[] }, { accessFlags := 24, nameIndex := 430, descriptorIndex := 62, attributes := #[] }, { accessFlags := 4120, nameIndex := 46, descriptorIndex := 47, attributes := #[] }])
  fields := #[{ name := "HI_BYTE_SHIFT", type := .int, accessFlags := 26, slot := 0, constantValue := 0 }, { name := "LO_BYTE_SHIFT", type := .int, accessFlags := 26, slot := 1, constantValue := 0 }, { name := "MAX_LENGTH", type := .int, accessFlags := 24, slot := 2, constantValue := 0 }, { name := "$assertionsDisabled", type := .boolean, accessFlags := 4120, slot := 3, constantValue := 0 }]
  methods := #[k8m0, k8m1, k8m2, k8m3, k8m4, k8m5, k8m6, k8m7, k8m8, k8m9, k8m10, k8m11]
  instanceTypes := #[]
  staticTypes := #[.int, .int, .int, .boolean]
  resolved := Array.replicate 635 none
  statics := some 1 }

def pool9 : Array CpInfo := pool [(2, .class_ 4), (1, u "java/lang/Object"), (0, u "<init>"), (0, u "()V"), (2, .methodref 10 11), (0, .class_ 12), (0, .nameAndType 13 14), (0, u "java/lang/String"), (0, u "length"), (0, u "()I"), (7, .methodref 10 23), (0, .nameAndType 24 25), (0, u "charAt"), (0, u "(I)C"), (0, .class_ 27), (0, u "com/example/goldpage/goldpage/record/Quoting"), (71, u "ESCAPED"), (0, u "Ljava/lang/String;"), (1, u "ESCAPE_LETTERS"), (0, u "CODE_LETTER"), (0, u "C"), (1, u "HEX_DIGITS"), (0, u "CODE_DIGITS"), (0, u "I"), (6, u "end"), (0, u "(Ljava/lang/String;I)I")] 18

def k9m0 : Method := { name := "<init>", desc := "()V", sig := { parameters := [], returnType := none }, accessFlags := 2, code := none }
def k9c1 : Code := { maxStack := 3, maxLocals := 4, code := prog_42_method_7_code, exceptionTable := #[], attributes := #[] }
def k9m1 : Method := { name := "end", desc := "(Ljava/lang/String;I)I", sig := { parameters := [(.object "java/lang/String"), .int], returnType := some .int }, accessFlags := 9, code := some k9c1 }
/-- com/example/goldpage/goldpage/record/Quoting -/
def k9 : Class := { plain "com/example/goldpage/goldpage/record/Quoting" (some 0) with
  accessFlags := 49
  interfaces := #[]
  cf := some (fileOf pool9 26 #[] #[{ accessFlags := 2, nameIndex := 5, descriptorIndex := 6, attributes := #[] }, { accessFlags := 9, nameIndex := 115, descriptorIndex := 116, attributes := #[] }] 49 2 #[] #[{ accessFlags := 26, nameIndex := 99, descriptorIndex := 100, attributes := #[] }, { accessFlags := 26, nameIndex := 102, descriptorIndex := 100, attributes := #[] }, { accessFlags := 26, nameIndex := 103, descriptorIndex := 104, attributes := #[] }, { accessFlags := 26, nameIndex := 106, descriptorIndex := 100, attributes := #[] }, { accessFlags := 26, nameIndex := 107, descriptorIndex := 108, attributes := #[] }])
  fields := #[{ name := "ESCAPED", type := (.object "java/lang/String"), accessFlags := 26, slot := 0, constantValue := 0 }, { name := "ESCAPE_LETTERS", type := (.object "java/lang/String"), accessFlags := 26, slot := 1, constantValue := 0 }, { name := "CODE_LETTER", type := .char, accessFlags := 26, slot := 2, constantValue := 0 }, { name := "HEX_DIGITS", type := (.object "java/lang/String"), accessFlags := 26, slot := 3, constantValue := 0 }, { name := "CODE_DIGITS", type := .int, accessFlags := 26, slot := 4, constantValue := 0 }]
  methods := #[k9m0, k9m1]
  instanceTypes := #[]
  staticTypes := #[(.object "java/lang/String"), (.object "java/lang/String"), .char, (.object "java/lang/String"), .int]
  resolved := Array.replicate 135 none
  statics := none }

def pool10 : Array CpInfo := pool [(1, .class_ 2), (0, u "java/lang/String"), (1, .class_ 6), (1, u "java/lang/Object"), (0, u "<init>"), (0, u "()V"), (0, .methodref 1 10), (0, .nameAndType 11 12), (0, u "checkIndex"), (0, u "(II)V"), (1, .class_ 16), (1, u "java/lang/StringLatin1"), (36, u "([BI)C"), (67, u "$assertionsDisabled"), (0, u "Z"), (98, .class_ 223), (1, u "java/lang/StringLatin1$LinesSpliterator"), (28, u "charAt"), (137, .class_ 391), (0, u "java/lang/StringLatin1$CharsSpliterator")] 3

def k10m0 : Method := { name := "<init>", desc := "()V", sig := { parameters := [], returnType := none }, accessFlags := 0, code := none }
def k10c1 : Code := { maxStack := 2, maxLocals := 2, code := jdk_43_method_2_code, exceptionTable := #[], attributes := #[] }
def k10m1 : Method := { name := "charAt", desc := "([BI)C", sig := { parameters := [(.array .byte), .int], returnType := some .char }, accessFlags := 9, code := some k10c1 }
/-- java/lang/StringLatin1 -/
def k10 : Class := { plain "java/lang/StringLatin1" (some 0) with
  accessFlags := 48
  interfaces := #[]
  cf := some (fileOf pool10 14 #[.nestMembers #[390, 221]] #[{ accessFlags := 0, nameIndex := 7, descriptorIndex := 8, attributes := #[] }, { accessFlags := 9, nameIndex := 252, descriptorIndex := 53, attributes := #[] }] 48 4 #[] #[{ accessFlags := 4120, nameIndex := 121, descriptorIndex := 122, attributes := #[] }])
  fields := #[{ name := "$assertionsDisabled", type := .boolean, accessFlags := 4120, slot := 0, constantValue := 0 }]
  methods := #[k10m0, k10m1]
  instanceTypes := #[]
  staticTypes := #[.boolean]
  resolved := Array.replicate 395 none
  statics := none }

def pool11 : Array CpInfo := pool [(2, .class_ 4), (1, u "java/lang/Object"), (0, u "<init>"), (0, u "()V"), (17, .class_ 26), (1, u "jdk/internal/util/Preconditions"), (6, u "checkIndex"), (21, .class_ 56), (0, u "jdk/internal/util/Preconditions$4"), (57, .class_ 115), (0, u "jdk/internal/util/Preconditions$1"), (7, u "SIOOBE_FORMATTER"), (0, u "Ljava/util/function/BiFunction;"), (0, .class_ 126), (0, u "jdk/internal/util/Preconditions$2"), (3, u "AIOOBE_FORMATTER"), (0, .class_ 132), (0, u "jdk/internal/util/Preconditions$3"), (3, u "IOOBE_FORMATTER"), (41, u "(IILjava/util/function/BiFunction;)I")] 15

def k11m0 : Method := { name := "<init>", desc := "()V", sig := { parameters := [], returnType := none }, accessFlags := 1, code := none }
def k11c1 : Code := { maxStack := 3, maxLocals := 3, code := jdk_41_method_11_code, exceptionTable := #[], attributes := #[] }
def k11m1 : Method := { name := "checkIndex", desc := "(IILjava/util/function/BiFunction;)I", sig := { parameters := [.int, .int, (.object "java/util/function/BiFunction")], returnType := some .int }, accessFlags := 9, code := some k11c1 }
/-- jdk/internal/util/Preconditions -/
def k11 : Class := { plain "jdk/internal/util/Preconditions" (some 0) with
  accessFlags := 33
  interfaces := #[]
  cf := some (fileOf pool11 24 #[.nestMembers #[55, 131, 125, 114]] #[{ accessFlags := 1, nameIndex := 5, descriptorIndex := 6, attributes := #[] }, { accessFlags := 9, nameIndex := 33, descriptorIndex := 178, attributes := #[] }] 33 2 #[] #[{ accessFlags := 25, nameIndex := 123, descriptorIndex := 124, attributes := #[] }, { accessFlags := 25, nameIndex := 130, descriptorIndex := 124, attributes := #[] }, { accessFlags := 25, nameIndex := 136, descriptorIndex := 124, attributes := #[] }])
  fields := #[{ name := "SIOOBE_FORMATTER", type := (.object "java/util/function/BiFunction"), accessFlags := 25, slot := 0, constantValue := 0 }, { name := "AIOOBE_FORMATTER", type := (.object "java/util/function/BiFunction"), accessFlags := 25, slot := 1, constantValue := 0 }, { name := "IOOBE_FORMATTER", type := (.object "java/util/function/BiFunction"), accessFlags := 25, slot := 2, constantValue := 0 }]
  methods := #[k11m0, k11m1]
  instanceTypes := #[]
  staticTypes := #[(.object "java/util/function/BiFunction"), (.object "java/util/function/BiFunction"), (.object "java/util/function/BiFunction")]
  resolved := Array.replicate 194 none
  statics := some 2 }

def pool12 : Array CpInfo := pool [(9, u "<init>"), (6, .class_ 18), (1, u "java/lang/Object"), (0, u "()V"), (1, .class_ 23), (1, u "jdk/internal/util/ArraysSupport"), (0, u "LOG2_ARRAY_LONG_INDEX_SCALE"), (0, u "I"), (2, u "U"), (0, u "Ljdk/internal/misc/Unsafe;"), (8, u "BIG_ENDIAN"), (0, u "Z"), (8, u "LOG2_BYTE_BIT_SIZE"), (4, u "LOG2_ARRAY_INT_INDEX_SCALE"), (54, u "JLA"), (0, u "Ljdk/internal/access/JavaLangAccess;"), (11, u "LOG2_ARRAY_BOOLEAN_INDEX_SCALE"), (9, u "LOG2_ARRAY_BYTE_INDEX_SCALE"), (5, u "LOG2_ARRAY_CHAR_INDEX_SCALE"), (5, u "LOG2_ARRAY_SHORT_INDEX_SCALE"), (18, u "LOG2_ARRAY_FLOAT_INDEX_SCALE"), (24, u "LOG2_ARRAY_DOUBLE_INDEX_SCALE"), (89, u "T_BOOLEAN"), (2, u "T_CHAR"), (1, u "T_FLOAT"), (1, u "T_DOUBLE"), (1, u "T_BYTE"), (1, u "T_SHORT"), (1, u "T_INT"), (1, u "T_LONG"), (1, u "SOFT_MAX_ARRAY_LENGTH")] 83

def k12m0 : Method := { name := "<init>", desc := "()V", sig := { parameters := [], returnType := none }, accessFlags := 2, code := none }
/-- jdk/internal/util/ArraysSupport -/
def k12 : Class := { plain "jdk/internal/util/ArraysSupport" (some 0) with
  accessFlags := 33
  interfaces := #[]
  cf := some (fileOf pool12 21 #[] #[{ accessFlags := 2, nameIndex := 9, descriptorIndex := 19, attributes := #[] }] 33 16 #[] #[{ accessFlags := 24, nameIndex := 28, descriptorIndex := 29, attributes := #[] }, { accessFlags := 26, nameIndex := 38, descriptorIndex := 39, attributes := #[] }, { accessFlags := 25, nameIndex := 121, descriptorIndex := 25, attributes := #[] }, { accessFlags := 25, nameIndex := 131, descriptorIndex := 25, attributes := #[] }, { accessFlags := 25, nameIndex := 137, descriptorIndex := 25, attributes := #[] }, { accessFlags := 25, nameIndex := 143, descriptorIndex := 25, attributes := #[] }, { accessFlags := 25, nameIndex := 53, descriptorIndex := 25, attributes := #[] }, { accessFlags := 25, nameIndex := 24, descriptorIndex := 25, attributes := #[] }, { accessFlags := 25, nameIndex := 162, descriptorIndex := 25, attributes := #[] }, { accessFlags := 25, nameIndex := 187, descriptorIndex := 25, attributes := #[] }, { accessFlags := 26, nameIndex := 48, descriptorIndex := 25, attributes := #[] }, { accessFlags := 25, nameIndex := 277, descriptorIndex := 25, attributes := #[] }, { accessFlags := 25, nameIndex := 280, descriptorIndex := 25, attributes := #[] }, { accessFlags := 25, nameIndex := 282, descriptorIndex := 25, attributes := #[] }, { accessFlags := 25, nameIndex := 284, descriptorIndex := 25, attributes := #[] }, { accessFlags := 25, nameIndex := 286, descriptorIndex := 25, attributes := #[] }, { accessFlags := 25, nameIndex := 288, descriptorIndex := 25, attributes := #[] }, { accessFlags := 25, nameIndex := 290, descriptorIndex := 25, attributes := #[] }, { accessFlags := 25, nameIndex := 292, descriptorIndex := 25, attributes := #[] }, { accessFlags := 26, nameIndex := 108, descriptorIndex := 109, attributes := #[] }, { accessFlags := 25, nameIndex := 294, descriptorIndex := 25, attributes := #[] }])
  fields := #[{ name := "U", type := (.object "jdk/internal/misc/Unsafe"), accessFlags := 24, slot := 0, constantValue := 0 }, { name := "BIG_ENDIAN", type := .boolean, accessFlags := 26, slot := 1, constantValue := 0 }, { name := "LOG2_ARRAY_BOOLEAN_INDEX_SCALE", type := .int, accessFlags := 25, slot := 2, constantValue := 0 }, { name := "LOG2_ARRAY_BYTE_INDEX_SCALE", type := .int, accessFlags := 25, slot := 3, constantValue := 0 }, { name := "LOG2_ARRAY_CHAR_INDEX_SCALE", type := .int, accessFlags := 25, slot := 4, constantValue := 0 }, { name := "LOG2_ARRAY_SHORT_INDEX_SCALE", type := .int, accessFlags := 25, slot := 5, constantValue := 0 }, { name := "LOG2_ARRAY_INT_INDEX_SCALE", type := .int, accessFlags := 25, slot := 6, constantValue := 0 }, { name := "LOG2_ARRAY_LONG_INDEX_SCALE", type := .int, accessFlags := 25, slot := 7, constantValue := 0 }, { name := "LOG2_ARRAY_FLOAT_INDEX_SCALE", type := .int, accessFlags := 25, slot := 8, constantValue := 0 }, { name := "LOG2_ARRAY_DOUBLE_INDEX_SCALE", type := .int, accessFlags := 25, slot := 9, constantValue := 0 }, { name := "LOG2_BYTE_BIT_SIZE", type := .int, accessFlags := 26, slot := 10, constantValue := 0 }, { name := "T_BOOLEAN", type := .int, accessFlags := 25, slot := 11, constantValue := 0 }, { name := "T_CHAR", type := .int, accessFlags := 25, slot := 12, constantValue := 0 }, { name := "T_FLOAT", type := .int, accessFlags := 25, slot := 13, constantValue := 0 }, { name := "T_DOUBLE", type := .int, accessFlags := 25, slot := 14, constantValue := 0 }, { name := "T_BYTE", type := .int, accessFlags := 25, slot := 15, constantValue := 0 }, { name := "T_SHORT", type := .int, accessFlags := 25, slot := 16, constantValue := 0 }, { name := "T_INT", type := .int, accessFlags := 25, slot := 17, constantValue := 0 }, { name := "T_LONG", type := .int, accessFlags := 25, slot := 18, constantValue := 0 }, { name := "JLA", type := (.object "jdk/internal/access/JavaLangAccess"), accessFlags := 26, slot := 19, constantValue := 0 }, { name := "SOFT_MAX_ARRAY_LENGTH", type := .int, accessFlags := 25, slot := 20, constantValue := 0 }]
  methods := #[k12m0]
  instanceTypes := #[]
  staticTypes := #[(.object "jdk/internal/misc/Unsafe"), .boolean, .int, .int, .int, .int, .int, .int, .int, .int, .int, .int, .int, .int, .int, .int, .int, .int, .int, (.object "jdk/internal/access/JavaLangAccess"), .int]
  resolved := Array.replicate 378 none
  statics := none }

def pool13 : Array CpInfo := pool [(1, u "java/lang/Cloneable"), (0, .class_ 1), (0, u "java/lang/Object"), (0, .class_ 3)] 3

/-- java/lang/Cloneable -/
def k13 : Class := { plain "java/lang/Cloneable" (some 0) with
  accessFlags := 1537
  interfaces := #[]
  cf := some (fileOf pool13 2 #[] #[] 1537 4 #[] #[])
  fields := #[]
  methods := #[]
  instanceTypes := #[]
  staticTypes := #[]
  resolved := Array.replicate 8 none
  statics := none }

/-- the primitive byte -/
def k14 : Class := { plain "byte" none with kind := .primitive 'B', accessFlags := 0x411 }
/-- [B -/
def k15 : Class := { plain "[B" (some 0) with kind := .array 14 .byte, interfaces := #[13, 2], accessFlags := 1041 }

/-- the primitive char -/
def k16 : Class := { plain "char" none with kind := .primitive 'C', accessFlags := 0x411 }
/-- [C -/
def k17 : Class := { plain "[C" (some 0) with kind := .array 16 .char, interfaces := #[13, 2], accessFlags := 1041 }

/-- the primitive int -/
def k18 : Class := { plain "int" none with kind := .primitive 'I', accessFlags := 0x411 }
/-- [I -/
def k19 : Class := { plain "[I" (some 0) with kind := .array 18 .int, interfaces := #[13, 2], accessFlags := 1041 }

def heap : Heap := #[{ cls := 7, slots := #[.long 0, .int 1, .null, .int 0, .null, .int 0, .int 0], vm := .statics 7 },
  { cls := 8, slots := #[.int 0, .int 8, .int 0, .int 1], vm := .statics 8 },
  { cls := 11, slots := #[.null, .null, .null], vm := .statics 11 }]
def classes : Array Class := #[k0, k1, k2, k3, k4, k5, k6, k7, k8, k9, k10, k11, k12, k13, k14, k15, k16, k17, k18, k19]
def interned : List (Array UInt16 × Addr) := []
def slotsUsed : Nat := 14
def theMethod : MethodId := ⟨1, 5⟩
def args0 : Array Value := #[.int 3, .int 2, .long 5, .int 7]
def aboutOver (below : List Frame) : State where
  vm := { classes := classes, interned := interned.toArray }
  heap := heap
  slotsUsed := slotsUsed
  threads := #[{ frames := .invoking theMethod args0 :: below }]
def below0 : List Frame := [.native { method := ⟨0, 0⟩, args := #[] }]
def about1 : State := aboutOver below0
def p0 : Program := .bare "" "" ""
def e0 : Env := launch0.env 0 0 0
theorem w_frames : about1.frames = Frame.invoking theMethod args0 :: below0 := rfl
set_option maxRecDepth 65536 in
theorem w_args : argsFit about1.vm theMethod args0 = true := by decide +kernel
set_option maxRecDepth 65536 in
theorem w_heap : heapFits about1 = true := by decide +kernel
set_option maxRecDepth 65536 in
theorem w_runnable : about1.curStatus? = some .runnable := by decide +kernel
set_option maxRecDepth 65536 in
theorem w_alone : about1.alone = true := by decide +kernel
set_option maxRecDepth 65536 in
theorem w_named : about1.methodNamed? x = some theMethod := by decide +kernel
set_option maxRecDepth 65536 in
theorem w_hears : about1.hears theMethod below0 = true := by decide +kernel
set_option maxRecDepth 65536 in
theorem w_ripe : about1.ripe theMethod args0 below0 = true := by decide +kernel
theorem w_running : about1.status = .running := rfl
set_option maxRecDepth 65536 in
theorem w_room : about1.hasRoom e0.platform room_1 = true :=
  launch0.hasRoom_least _ room_1 (by decide +kernel) (by decide +kernel) (by decide +kernel) (by decide +kernel) (by decide +kernel) (by decide +kernel)
theorem allAtoms_all (ts : List Jvm.Cond) (a : Array Jvm.Value) (st : Jvm.State) : (allAtoms ts).before a st = ts.all (fun c => c.before a st) := by
  induction ts with
  | nil => rfl
  | cons c t ih =>
    show (Jvm.Cond.and c (allAtoms t)).before a st = _
    rw [Jvm.Cond.before_and, ih, List.all_cons]
def words1 : List Jvm.Cond := Jvm.Cond.code x code maxLocals ret :: tables_1
/-- a 'code' word, met by the world's own term for the bytes: nothing is compared byte by byte -/
theorem code_word {y : MethodName} {bytes : ByteArray} {mx : Nat} {rt : Option FieldType} {a : Array Value} {s : State} {m : MethodId} {meth : Method} {c : Code} (h1 : s.methodNamed? y = some m) (h2 : s.vm.method? m = some meth) (h3 : meth.code = some c) (h4 : c.code = bytes)
    (h5 : (c.maxLocals == mx && c.exceptionTable.isEmpty && decide (c.maxStack ≤ mostOperands) && decide (meth.sig.returnType = rt) && !meth.locks && decide (parseMethodDescriptor y.desc = some meth.sig)) = true) : (Jvm.Cond.code y bytes mx rt).before a s = true := by
  simp only [Bool.and_eq_true, beq_iff_eq, Bool.not_eq_true', decide_eq_true_eq] at h5
  obtain ⟨⟨⟨⟨⟨g1, g2⟩, g3⟩, g4⟩, g5⟩, g6⟩ := h5
  simp [Cond.before, Cond.holds, Cond.value, h1, h2, h3, h4, g1, g2, g3, g4, g5, g6]
def isCode : Jvm.Cond → Bool
  | .code _ _ _ _ => true
  | _ => false
theorem all_split {L : List Jvm.Cond} {P : Jvm.Cond → Bool} (h1 : L.all (fun c => isCode c || P c) = true) (h2 : ∀ c ∈ L.filter isCode, P c = true) : L.all P = true := by
  refine List.all_eq_true.mpr fun c hc => ?_
  have h := List.all_eq_true.mp h1 c hc
  rcases Bool.eq_false_or_eq_true (isCode c) with hi | hi
  · exact h2 c (List.mem_filter.mpr ⟨hc, hi⟩)
  · simpa [hi] using h
set_option maxRecDepth 65536 in
theorem w_c0 : (Jvm.Cond.code x code maxLocals ret).before args0 about1 = true := code_word (m := ⟨1, 5⟩) (meth := k1m5) (c := k1c5) (by decide +kernel) rfl rfl rfl (by decide +kernel)
set_option maxRecDepth 65536 in
theorem w_c1 : (Jvm.Cond.code ({ cls := "com/example/goldpage/goldpage/record/QuotingEndPinLaw", name := "pick", desc := "(IIC)C" } : Jvm.MethodName) method_2_code (4 : Nat) (Option.some Jvm.ClassFile.FieldType.char)).before args0 about1 = true := code_word (m := ⟨1, 1⟩) (meth := k1m1) (c := k1c1) (by decide +kernel) rfl rfl rfl (by decide +kernel)
set_option maxRecDepth 65536 in
theorem w_c2 : (Jvm.Cond.code ({ cls := "com/example/goldpage/goldpage/record/QuotingEndPinLaw", name := "closes", desc := "([CII)Z" } : Jvm.MethodName) method_5_code (3 : Nat) (Option.some Jvm.ClassFile.FieldType.boolean)).before args0 about1 = true := code_word (m := ⟨1, 4⟩) (meth := k1m4) (c := k1c4) (by decide +kernel) rfl rfl rfl (by decide +kernel)
set_option maxRecDepth 65536 in
theorem w_c3 : (Jvm.Cond.code ({ cls := "com/example/goldpage/goldpage/record/QuotingEndPinLaw", name := "evenRun", desc := "([CII)Z" } : Jvm.MethodName) method_4_code (4 : Nat) (Option.some Jvm.ClassFile.FieldType.boolean)).before args0 about1 = true := code_word (m := ⟨1, 3⟩) (meth := k1m3) (c := k1c3) (by decide +kernel) rfl rfl rfl (by decide +kernel)
set_option maxRecDepth 65536 in
theorem w_c4 : (Jvm.Cond.code ({ cls := "com/example/goldpage/goldpage/record/QuotingEndPinLaw", name := "bs", desc := "([CII)Z" } : Jvm.MethodName) method_3_code (3 : Nat) (Option.some Jvm.ClassFile.FieldType.boolean)).before args0 about1 = true := code_word (m := ⟨1, 2⟩) (meth := k1m2) (c := k1c2) (by decide +kernel) rfl rfl rfl (by decide +kernel)
set_option maxRecDepth 65536 in
theorem w_c5 : (Jvm.Cond.code ({ cls := "java/lang/String", name := "<init>", desc := "([C)V" } : Jvm.MethodName) jdk_42_method_3_code (2 : Nat) (Option.none : Option Jvm.ClassFile.FieldType)).before args0 about1 = true := code_word (m := ⟨7, 1⟩) (meth := k7m1) (c := k7c1) (by decide +kernel) rfl rfl rfl (by decide +kernel)
set_option maxRecDepth 65536 in
theorem w_c6 : (Jvm.Cond.code ({ cls := "java/lang/String", name := "<init>", desc := "([CIILjava/lang/Void;)V" } : Jvm.MethodName) jdk_42_method_149_code (6 : Nat) (Option.none : Option Jvm.ClassFile.FieldType)).before args0 about1 = true := code_word (m := ⟨7, 4⟩) (meth := k7m4) (c := k7c4) (by decide +kernel) rfl rfl rfl (by decide +kernel)
set_option maxRecDepth 65536 in
theorem w_c7 : (Jvm.Cond.code ({ cls := "java/lang/Object", name := "<init>", desc := "()V" } : Jvm.MethodName) object_method_1_code (1 : Nat) (Option.none : Option Jvm.ClassFile.FieldType)).before args0 about1 = true := code_word (m := ⟨0, 0⟩) (meth := k0m0) (c := k0c0) (by decide +kernel) rfl rfl rfl (by decide +kernel)
set_option maxRecDepth 65536 in
theorem w_c8 : (Jvm.Cond.code ({ cls := "java/lang/StringUTF16", name := "compress", desc := "([CII)[B" } : Jvm.MethodName) jdk_52_method_16_code (6 : Nat) (Option.some (Jvm.ClassFile.FieldType.array Jvm.ClassFile.FieldType.byte))).before args0 about1 = true := code_word (m := ⟨8, 8⟩) (meth := k8m8) (c := k8c8) (by decide +kernel) rfl rfl rfl (by decide +kernel)
set_option maxRecDepth 65536 in
theorem w_c9 : (Jvm.Cond.code ({ cls := "java/lang/StringUTF16", name := "compress", desc := "([CI[BII)I" } : Jvm.MethodName) jdk_52_method_21_code (7 : Nat) (Option.some Jvm.ClassFile.FieldType.int)).before args0 about1 = true := code_word (m := ⟨8, 9⟩) (meth := k8m9) (c := k8c9) (by decide +kernel) rfl rfl rfl (by decide +kernel)
set_option maxRecDepth 65536 in
theorem w_c10 : (Jvm.Cond.code ({ cls := "java/lang/StringUTF16", name := "coderFromArrayLen", desc := "([BI)B" } : Jvm.MethodName) jdk_52_method_15_code (2 : Nat) (Option.some Jvm.ClassFile.FieldType.byte)).before args0 about1 = true := code_word (m := ⟨8, 7⟩) (meth := k8m7) (c := k8c7) (by decide +kernel) rfl rfl rfl (by decide +kernel)
set_option maxRecDepth 65536 in
theorem w_c11 : (Jvm.Cond.code ({ cls := "com/example/goldpage/goldpage/record/Quoting", name := "end", desc := "(Ljava/lang/String;I)I" } : Jvm.MethodName) prog_42_method_7_code (4 : Nat) (Option.some Jvm.ClassFile.FieldType.int)).before args0 about1 = true := code_word (m := ⟨9, 1⟩) (meth := k9m1) (c := k9c1) (by decide +kernel) rfl rfl rfl (by decide +kernel)
set_option maxRecDepth 65536 in
theorem w_c12 : (Jvm.Cond.code ({ cls := "java/lang/String", name := "length", desc := "()I" } : Jvm.MethodName) jdk_42_method_54_code (1 : Nat) (Option.some Jvm.ClassFile.FieldType.int)).before args0 about1 = true := code_word (m := ⟨7, 2⟩) (meth := k7m2) (c := k7c2) (by decide +kernel) rfl rfl rfl (by decide +kernel)
set_option maxRecDepth 65536 in
theorem w_c13 : (Jvm.Cond.code ({ cls := "java/lang/String", name := "coder", desc := "()B" } : Jvm.MethodName) jdk_42_method_152_code (1 : Nat) (Option.some Jvm.ClassFile.FieldType.byte)).before args0 about1 = true := code_word (m := ⟨7, 5⟩) (meth := k7m5) (c := k7c5) (by decide +kernel) rfl rfl rfl (by decide +kernel)
set_option maxRecDepth 65536 in
theorem w_c14 : (Jvm.Cond.code ({ cls := "java/lang/String", name := "charAt", desc := "(I)C" } : Jvm.MethodName) jdk_42_method_56_code (2 : Nat) (Option.some Jvm.ClassFile.FieldType.char)).before args0 about1 = true := code_word (m := ⟨7, 3⟩) (meth := k7m3) (c := k7c3) (by decide +kernel) rfl rfl rfl (by decide +kernel)
set_option maxRecDepth 65536 in
theorem w_c15 : (Jvm.Cond.code ({ cls := "java/lang/String", name := "isLatin1", desc := "()Z" } : Jvm.MethodName) jdk_42_method_154_code (1 : Nat) (Option.some Jvm.ClassFile.FieldType.boolean)).before args0 about1 = true := code_word (m := ⟨7, 6⟩) (meth := k7m6) (c := k7c6) (by decide +kernel) rfl rfl rfl (by decide +kernel)
set_option maxRecDepth 65536 in
theorem w_c16 : (Jvm.Cond.code ({ cls := "java/lang/StringLatin1", name := "charAt", desc := "([BI)C" } : Jvm.MethodName) jdk_43_method_2_code (2 : Nat) (Option.some Jvm.ClassFile.FieldType.char)).before args0 about1 = true := code_word (m := ⟨10, 1⟩) (meth := k10m1) (c := k10c1) (by decide +kernel) rfl rfl rfl (by decide +kernel)
set_option maxRecDepth 65536 in
theorem w_c17 : (Jvm.Cond.code ({ cls := "java/lang/String", name := "checkIndex", desc := "(II)V" } : Jvm.MethodName) jdk_42_method_155_code (2 : Nat) (Option.none : Option Jvm.ClassFile.FieldType)).before args0 about1 = true := code_word (m := ⟨7, 7⟩) (meth := k7m7) (c := k7c7) (by decide +kernel) rfl rfl rfl (by decide +kernel)
set_option maxRecDepth 65536 in
theorem w_c18 : (Jvm.Cond.code ({ cls := "jdk/internal/util/Preconditions", name := "checkIndex", desc := "(IILjava/util/function/BiFunction;)I" } : Jvm.MethodName) jdk_41_method_11_code (3 : Nat) (Option.some Jvm.ClassFile.FieldType.int)).before args0 about1 = true := code_word (m := ⟨11, 1⟩) (meth := k11m1) (c := k11c1) (by decide +kernel) rfl rfl rfl (by decide +kernel)
set_option maxRecDepth 65536 in
theorem w_c19 : (Jvm.Cond.code ({ cls := "java/lang/StringUTF16", name := "toBytes", desc := "([CII)[B" } : Jvm.MethodName) jdk_52_method_14_code (5 : Nat) (Option.some (Jvm.ClassFile.FieldType.array Jvm.ClassFile.FieldType.byte))).before args0 about1 = true := code_word (m := ⟨8, 6⟩) (meth := k8m6) (c := k8c6) (by decide +kernel) rfl rfl rfl (by decide +kernel)
set_option maxRecDepth 65536 in
theorem w_c20 : (Jvm.Cond.code ({ cls := "java/lang/StringUTF16", name := "newBytesFor", desc := "(I)[B" } : Jvm.MethodName) jdk_52_method_2_code (1 : Nat) (Option.some (Jvm.ClassFile.FieldType.array Jvm.ClassFile.FieldType.byte))).before args0 about1 = true := code_word (m := ⟨8, 1⟩) (meth := k8m1) (c := k8c1) (by decide +kernel) rfl rfl rfl (by decide +kernel)
set_option maxRecDepth 65536 in
theorem w_c21 : (Jvm.Cond.code ({ cls := "java/lang/StringUTF16", name := "newBytesLength", desc := "(I)I" } : Jvm.MethodName) jdk_52_method_3_code (1 : Nat) (Option.some Jvm.ClassFile.FieldType.int)).before args0 about1 = true := code_word (m := ⟨8, 2⟩) (meth := k8m2) (c := k8c2) (by decide +kernel) rfl rfl rfl (by decide +kernel)
set_option maxRecDepth 65536 in
theorem w_c22 : (Jvm.Cond.code ({ cls := "java/lang/StringUTF16", name := "putChar", desc := "([BII)V" } : Jvm.MethodName) jdk_52_method_4_code (3 : Nat) (Option.none : Option Jvm.ClassFile.FieldType)).before args0 about1 = true := code_word (m := ⟨8, 3⟩) (meth := k8m3) (c := k8c3) (by decide +kernel) rfl rfl rfl (by decide +kernel)
set_option maxRecDepth 65536 in
theorem w_c23 : (Jvm.Cond.code ({ cls := "java/lang/StringUTF16", name := "getChar", desc := "([BI)C" } : Jvm.MethodName) jdk_52_method_5_code (2 : Nat) (Option.some Jvm.ClassFile.FieldType.char)).before args0 about1 = true := code_word (m := ⟨8, 4⟩) (meth := k8m4) (c := k8c4) (by decide +kernel) rfl rfl rfl (by decide +kernel)
set_option maxRecDepth 65536 in
theorem w_c24 : (Jvm.Cond.code ({ cls := "java/lang/StringUTF16", name := "charAt", desc := "([BI)C" } : Jvm.MethodName) jdk_52_method_83_code (2 : Nat) (Option.some Jvm.ClassFile.FieldType.char)).before args0 about1 = true := code_word (m := ⟨8, 10⟩) (meth := k8m10) (c := k8c10) (by decide +kernel) rfl rfl rfl (by decide +kernel)
set_option maxRecDepth 65536 in
theorem w_c25 : (Jvm.Cond.code ({ cls := "java/lang/StringUTF16", name := "checkIndex", desc := "(I[B)V" } : Jvm.MethodName) jdk_52_method_91_code (2 : Nat) (Option.none : Option Jvm.ClassFile.FieldType)).before args0 about1 = true := code_word (m := ⟨8, 11⟩) (meth := k8m11) (c := k8c11) (by decide +kernel) rfl rfl rfl (by decide +kernel)
set_option maxRecDepth 65536 in
theorem w_c26 : (Jvm.Cond.code ({ cls := "java/lang/StringUTF16", name := "length", desc := "([B)I" } : Jvm.MethodName) jdk_52_method_6_code (1 : Nat) (Option.some Jvm.ClassFile.FieldType.int)).before args0 about1 = true := code_word (m := ⟨8, 5⟩) (meth := k8m5) (c := k8c5) (by decide +kernel) rfl rfl rfl (by decide +kernel)
def codes1 : List Jvm.Cond := [Jvm.Cond.code x code maxLocals ret, Jvm.Cond.code ({ cls := "com/example/goldpage/goldpage/record/QuotingEndPinLaw", name := "pick", desc := "(IIC)C" } : Jvm.MethodName) method_2_code (4 : Nat) (Option.some Jvm.ClassFile.FieldType.char), Jvm.Cond.code ({ cls := "com/example/goldpage/goldpage/record/QuotingEndPinLaw", name := "closes", desc := "([CII)Z" } : Jvm.MethodName) method_5_code (3 : Nat) (Option.some Jvm.ClassFile.FieldType.boolean), Jvm.Cond.code ({ cls := "com/example/goldpage/goldpage/record/QuotingEndPinLaw", name := "evenRun", desc := "([CII)Z" } : Jvm.MethodName) method_4_code (4 : Nat) (Option.some Jvm.ClassFile.FieldType.boolean), Jvm.Cond.code ({ cls := "com/example/goldpage/goldpage/record/QuotingEndPinLaw", name := "bs", desc := "([CII)Z" } : Jvm.MethodName) method_3_code (3 : Nat) (Option.some Jvm.ClassFile.FieldType.boolean), Jvm.Cond.code ({ cls := "java/lang/String", name := "<init>", desc := "([C)V" } : Jvm.MethodName) jdk_42_method_3_code (2 : Nat) (Option.none : Option Jvm.ClassFile.FieldType), Jvm.Cond.code ({ cls := "java/lang/String", name := "<init>", desc := "([CIILjava/lang/Void;)V" } : Jvm.MethodName) jdk_42_method_149_code (6 : Nat) (Option.none : Option Jvm.ClassFile.FieldType), Jvm.Cond.code ({ cls := "java/lang/Object", name := "<init>", desc := "()V" } : Jvm.MethodName) object_method_1_code (1 : Nat) (Option.none : Option Jvm.ClassFile.FieldType), Jvm.Cond.code ({ cls := "java/lang/StringUTF16", name := "compress", desc := "([CII)[B" } : Jvm.MethodName) jdk_52_method_16_code (6 : Nat) (Option.some (Jvm.ClassFile.FieldType.array Jvm.ClassFile.FieldType.byte)), Jvm.Cond.code ({ cls := "java/lang/StringUTF16", name := "compress", desc := "([CI[BII)I" } : Jvm.MethodName) jdk_52_method_21_code (7 : Nat) (Option.some Jvm.ClassFile.FieldType.int), Jvm.Cond.code ({ cls := "java/lang/StringUTF16", name := "coderFromArrayLen", desc := "([BI)B" } : Jvm.MethodName) jdk_52_method_15_code (2 : Nat) (Option.some Jvm.ClassFile.FieldType.byte), Jvm.Cond.code ({ cls := "com/example/goldpage/goldpage/record/Quoting", name := "end", desc := "(Ljava/lang/String;I)I" } : Jvm.MethodName) prog_42_method_7_code (4 : Nat) (Option.some Jvm.ClassFile.FieldType.int), Jvm.Cond.code ({ cls := "java/lang/String", name := "length", desc := "()I" } : Jvm.MethodName) jdk_42_method_54_code (1 : Nat) (Option.some Jvm.ClassFile.FieldType.int), Jvm.Cond.code ({ cls := "java/lang/String", name := "coder", desc := "()B" } : Jvm.MethodName) jdk_42_method_152_code (1 : Nat) (Option.some Jvm.ClassFile.FieldType.byte), Jvm.Cond.code ({ cls := "java/lang/String", name := "charAt", desc := "(I)C" } : Jvm.MethodName) jdk_42_method_56_code (2 : Nat) (Option.some Jvm.ClassFile.FieldType.char), Jvm.Cond.code ({ cls := "java/lang/String", name := "isLatin1", desc := "()Z" } : Jvm.MethodName) jdk_42_method_154_code (1 : Nat) (Option.some Jvm.ClassFile.FieldType.boolean), Jvm.Cond.code ({ cls := "java/lang/StringLatin1", name := "charAt", desc := "([BI)C" } : Jvm.MethodName) jdk_43_method_2_code (2 : Nat) (Option.some Jvm.ClassFile.FieldType.char), Jvm.Cond.code ({ cls := "java/lang/String", name := "checkIndex", desc := "(II)V" } : Jvm.MethodName) jdk_42_method_155_code (2 : Nat) (Option.none : Option Jvm.ClassFile.FieldType), Jvm.Cond.code ({ cls := "jdk/internal/util/Preconditions", name := "checkIndex", desc := "(IILjava/util/function/BiFunction;)I" } : Jvm.MethodName) jdk_41_method_11_code (3 : Nat) (Option.some Jvm.ClassFile.FieldType.int), Jvm.Cond.code ({ cls := "java/lang/StringUTF16", name := "toBytes", desc := "([CII)[B" } : Jvm.MethodName) jdk_52_method_14_code (5 : Nat) (Option.some (Jvm.ClassFile.FieldType.array Jvm.ClassFile.FieldType.byte)), Jvm.Cond.code ({ cls := "java/lang/StringUTF16", name := "newBytesFor", desc := "(I)[B" } : Jvm.MethodName) jdk_52_method_2_code (1 : Nat) (Option.some (Jvm.ClassFile.FieldType.array Jvm.ClassFile.FieldType.byte)), Jvm.Cond.code ({ cls := "java/lang/StringUTF16", name := "newBytesLength", desc := "(I)I" } : Jvm.MethodName) jdk_52_method_3_code (1 : Nat) (Option.some Jvm.ClassFile.FieldType.int), Jvm.Cond.code ({ cls := "java/lang/StringUTF16", name := "putChar", desc := "([BII)V" } : Jvm.MethodName) jdk_52_method_4_code (3 : Nat) (Option.none : Option Jvm.ClassFile.FieldType), Jvm.Cond.code ({ cls := "java/lang/StringUTF16", name := "getChar", desc := "([BI)C" } : Jvm.MethodName) jdk_52_method_5_code (2 : Nat) (Option.some Jvm.ClassFile.FieldType.char), Jvm.Cond.code ({ cls := "java/lang/StringUTF16", name := "charAt", desc := "([BI)C" } : Jvm.MethodName) jdk_52_method_83_code (2 : Nat) (Option.some Jvm.ClassFile.FieldType.char), Jvm.Cond.code ({ cls := "java/lang/StringUTF16", name := "checkIndex", desc := "(I[B)V" } : Jvm.MethodName) jdk_52_method_91_code (2 : Nat) (Option.none : Option Jvm.ClassFile.FieldType), Jvm.Cond.code ({ cls := "java/lang/StringUTF16", name := "length", desc := "([B)I" } : Jvm.MethodName) jdk_52_method_6_code (1 : Nat) (Option.some Jvm.ClassFile.FieldType.int)]
set_option maxRecDepth 65536 in
theorem codes_eq : words1.filter isCode = codes1 := rfl
theorem w_codes : ∀ c ∈ words1.filter isCode, c.before args0 about1 = true := by
  rw [codes_eq]
  intro c hc
  simp only [codes1, List.mem_cons, List.not_mem_nil, or_false] at hc
  rcases hc with rfl | rfl | rfl | rfl | rfl | rfl | rfl | rfl | rfl | rfl | rfl | rfl | rfl | rfl | rfl | rfl | rfl | rfl | rfl | rfl | rfl | rfl | rfl | rfl | rfl | rfl | rfl
  · exact w_c0
  · exact w_c1
  · exact w_c2
  · exact w_c3
  · exact w_c4
  · exact w_c5
  · exact w_c6
  · exact w_c7
  · exact w_c8
  · exact w_c9
  · exact w_c10
  · exact w_c11
  · exact w_c12
  · exact w_c13
  · exact w_c14
  · exact w_c15
  · exact w_c16
  · exact w_c17
  · exact w_c18
  · exact w_c19
  · exact w_c20
  · exact w_c21
  · exact w_c22
  · exact w_c23
  · exact w_c24
  · exact w_c25
  · exact w_c26
set_option maxRecDepth 65536 in
theorem w_t1 : (words1.take 24).all (fun c => isCode c || c.before args0 about1) = true := by decide +kernel
set_option maxRecDepth 65536 in
theorem w_t2 : ((words1.drop 24).take 24).all (fun c => isCode c || c.before args0 about1) = true := by decide +kernel
set_option maxRecDepth 65536 in
theorem w_t3 : (((words1.drop 24).drop 24).take 24).all (fun c => isCode c || c.before args0 about1) = true := by decide +kernel
set_option maxRecDepth 65536 in
theorem w_t4 : ((((words1.drop 24).drop 24).drop 24).take 24).all (fun c => isCode c || c.before args0 about1) = true := by decide +kernel
set_option maxRecDepth 65536 in
theorem w_t5 : ((((words1.drop 24).drop 24).drop 24).drop 24).all (fun c => isCode c || c.before args0 about1) = true := by decide +kernel
theorem w_tables : (allAtoms (Jvm.Cond.code x code maxLocals ret :: tables_1)).before args0 about1 = true := by
  rw [allAtoms_all]
  show words1.all (fun c => c.before args0 about1) = true
  refine all_split ?_ w_codes
  rw [← List.take_append_drop 24 words1, List.all_append, w_t1, ← List.take_append_drop 24 (words1.drop 24), List.all_append, w_t2, ← List.take_append_drop 24 ((words1.drop 24).drop 24), List.all_append, w_t3, ← List.take_append_drop 24 (((words1.drop 24).drop 24).drop 24), List.all_append, w_t4, w_t5]
  rfl
set_option maxRecDepth 65536 in
theorem w_rest : rest_1_c.before args0 about1 = true := by decide +kernel
set_option maxRecDepth 65536 in
theorem w_case : (Jvm.Cond.and given_1 narrow_1).before args0 about1 = true := by decide +kernel
theorem w_applies : (headSpec (Jvm.Cond.code x code maxLocals ret :: tables_1) room_1).applies x e0.platform about1 = true :=
  (Spec.applies_iff w_frames).mpr ⟨w_running, w_runnable, w_alone, w_named, w_hears, w_ripe, w_room, w_tables⟩
theorem atStart : AtStart classFile x code maxLocals ret World_1 tables_1 room_1 Calls_1 rest_1 Pre_1 launch0 p0 e0 about1 theMethod args0 below0 :=
  ⟨lists_1, trivial, launch0.admits_env _ _ _, launch0.least_env, fairChoices_fair.cas, fairChoices_fair.clock, w_frames, w_args, w_heap, w_applies, trivial, w_rest, w_case⟩
end start1
theorem witness_1 : WitnessClaimed_1 := ⟨start1.p0, start1.e0, start1.about1, start1.theMethod, start1.args0, start1.below0, start1.atStart⟩
end Jvm.Pilot.@@N@@
