import JvmDerived
import JvmDerived.Pilot.@@N@@Statement
import JvmDerived.Pilot.@@N@@Code
set_option linter.unusedVariables false
set_option linter.unusedSimpArgs false
namespace Jvm.OwnKit
open Sem ClassFile Op Lib Jvm.Stand Jvm.Free Jvm.LawKit Jvm.RoadKit
section Go
variable {p : Program} {l : Launch} {e : Env} {R : Room} {s : State} {m : MethodId} {args : Array Value} {below : List Frame} {meth : Method} {c : Code} {T T' : State} {locs : List Loc} {cells slots : Nat} {g g' : JFrame} {P : Outcome → State → Prop} {Q : Option Value → Heap → List Loc → Prop} {k n pc : Nat} {Ls : Array Slot} {rest : List Value}
/-- from this state and frame the invocation comes to its end, and the end is as P says -/
def Go (p : Program) (e : Env) (below : List Frame) (T : State) (g : JFrame) (P : Outcome → State → Prop) : Prop :=
  ∃ s₂ o, Steps p.tables e below (T.setTop g) s₂ ∧ s₂.status = .running ∧ Ended s₂ below o ∧ P o s₂
abbrev Po (s : State) (Q : Option Value → Heap → List Loc → Prop) (k n : Nat) : Outcome → State → Prop := fun o U' => ∃ v L, o = .returned v ∧ Q v U'.heap L ∧ FrameEnd s o U' L k n
theorem stp (h : ∀ t, Steps p.tables e below (T'.setTop g') t → Steps p.tables e below (T.setTop g) t) (K : Go p e below T' g' P) : Go p e below T g P := by
  obtain ⟨s2, o, h1, h2⟩ := K
  exact ⟨s2, o, h _ h1, h2⟩
theorem stt (h : Steps p.tables e below (T.setTop g) (T'.setTop g')) (K : Go p e below T' g' P) : Go p e below T g P := by
  obtain ⟨s2, o, h1, h2⟩ := K
  exact ⟨s2, o, h.trans h1, h2⟩
theorem out (X : Stand p l e R s m args below meth c T locs cells slots) {v : Option Value} (hl : meth.locks = false) (hv : meth.sig.returnType = none → v = none)
    (hst : ∀ fs : List Frame, (∀ (f : JFrame) (acts : List Action), f.method = m → f.locked = none → f.entered = [] → (doReturn e (T.setTop f) acts v).1 = T.setFrames fs) → Steps p.tables e below (T.setTop g) (T.setFrames fs))
    (hc : cells ≤ k) (hn : slots ≤ n) (hQ : Q v T.heap locs) : Go p e below T g (Po s Q k n) := by
  obtain ⟨fs, hr, hrun, hended, hW, hsame⟩ := X.leave (v := v) hv hl
  exact ⟨_, _, hst fs hr, hrun, hended, v, locs, rfl, hQ, ⟨_, rfl⟩, hW, hsame.mono hc hn⟩
theorem outN (X : Stand p l e R s m args below meth c T locs cells slots) (hx : p.tables.exec = Jvm.exec) {t : FieldType} {z : Int32} (hret : meth.sig.returnType = some t) (ht : t = .boolean ∨ t = .byte ∨ t = .char ∨ t = .short) (hd : decode c.code pc = .ok (.ireturn, 1)) (hl : meth.locks = false)
    (hc : cells ≤ k) (hn : slots ≤ n) (hQ : Q (some (.int (nar t z))) T.heap locs) : Go p e below T (mkF m pc Ls (.int z :: rest)) (Po s Q k n) :=
  out X hl (fun h => by rw [hret] at h; cases h) (fun fs hr => retN X hx hret ht hd hr) hc hn hQ
theorem outI (X : Stand p l e R s m args below meth c T locs cells slots) (hx : p.tables.exec = Jvm.exec) {z : Int32} (hret : meth.sig.returnType = some .int) (hd : decode c.code pc = .ok (.ireturn, 1)) (hl : meth.locks = false)
    (hc : cells ≤ k) (hn : slots ≤ n) (hQ : Q (some (.int z)) T.heap locs) : Go p e below T (mkF m pc Ls (.int z :: rest)) (Po s Q k n) :=
  out X hl (fun h => by rw [hret] at h; cases h) (fun fs hr => retOut X hx hret rfl (Or.inl ⟨rfl, Or.inl rfl, _, rfl⟩) hd hr) hc hn hQ
theorem outJ (X : Stand p l e R s m args below meth c T locs cells slots) (hx : p.tables.exec = Jvm.exec) {z : Int64} (hret : meth.sig.returnType = some .long) (hd : decode c.code pc = .ok (.lreturn, 1)) (hl : meth.locks = false)
    (hc : cells ≤ k) (hn : slots ≤ n) (hQ : Q (some (.long z)) T.heap locs) : Go p e below T (mkF m pc Ls (.long z :: rest)) (Po s Q k n) :=
  out X hl (fun h => by rw [hret] at h; cases h) (fun fs hr => retOut X hx hret rfl (Or.inr (Or.inl ⟨rfl, rfl, _, rfl⟩)) hd hr) hc hn hQ
theorem outD (X : Stand p l e R s m args below meth c T locs cells slots) (hx : p.tables.exec = Jvm.exec) {w : Value} (hret : meth.sig.returnType = some .double) (hw : ∃ z, w = .double z) (hd : decode c.code pc = .ok (.dreturn, 1)) (hl : meth.locks = false)
    (hc : cells ≤ k) (hn : slots ≤ n) (hQ : Q (some w) T.heap locs) : Go p e below T (mkF m pc Ls (w :: rest)) (Po s Q k n) := by
  obtain ⟨z, rfl⟩ := hw
  exact out X hl (fun h => by rw [hret] at h; cases h) (fun fs hr => retOut X hx hret rfl (Or.inr (Or.inr (Or.inl ⟨rfl, rfl, _, rfl⟩))) hd hr) hc hn hQ
theorem outA (X : Stand p l e R s m args below meth c T locs cells slots) (hx : p.tables.exec = Jvm.exec) {w : Value} {t : FieldType} (hret : meth.sig.returnType = some t) (ht : t.isReference = true) (hw : w.isRef = true) (hd : decode c.code pc = .ok (.areturn, 1)) (hl : meth.locks = false)
    (hc : cells ≤ k) (hn : slots ≤ n) (hQ : Q (some w) T.heap locs) : Go p e below T (mkF m pc Ls (w :: rest)) (Po s Q k n) := by
  refine out X hl (fun h => by rw [hret] at h; cases h) (fun fs hr => retOut X hx hret ?_ (Or.inr (Or.inr (Or.inr (Or.inr ⟨rfl, ht, hw⟩)))) hd hr) hc hn hQ
  rcases ref_cases hw with rfl | ⟨a, rfl⟩ <;> cases t <;> first | rfl | cases ht
theorem outV (X : Stand p l e R s m args below meth c T locs cells slots) (hx : p.tables.exec = Jvm.exec) (hret : meth.sig.returnType = none) (hd : decode c.code pc = .ok (.return_, 1)) (hl : meth.locks = false)
    (hc : cells ≤ k) (hn : slots ≤ n) (hQ : Q none T.heap locs) : Go p e below T (mkF m pc Ls []) (Po s Q k n) :=
  out X hl (fun _ => rfl) (fun fs hr => X.returnOut hx hret hd hr) hc hn hQ
theorem start {y : MethodName} {bytes : ByteArray} {maxL : Nat} {ret : Option FieldType} {ws : List Cond} {rm : Room} {Z : State} {as' : Array Value} {h0 : Heap} (hpl : plainFor y = true)
    (body : ∀ p e s m below meth c T, Stand p l e rm s m as' below meth c T [] 0 0 → p.tables.exec = Jvm.exec → c.code = bytes → c.maxLocals = maxL → s.vm.findClass y.cls = some m.cls → meth.name = y.name → meth.sig.returnType = ret → meth.locks = false → Z.Warmed39 s.vm → T.heap = h0 →
      Go p e below T (entryFrame m as' maxL) (Po s Q k n)) :
    MetFree l y (head1 (Cond.code y bytes maxL ret :: ws) rm) (fun a U => a = as' ∧ Z.Warmed39 U.vm ∧ U.heap = h0) (fun _ _ _ _ _ => True) (fun _ U o U' => ∃ v L, o = .returned v ∧ Q v U'.heap L ∧ FrameEnd U o U' L k n) := by
  refine MetFree.of_bodySF hpl hisR ?_
  intro p e s m args below meth c s₁ Bd hml0 hP hK
  obtain ⟨rfl, hZ, hh⟩ := hP
  exact body p e s m below meth c s₁ (Stand.of_body Bd) Bd.exec Bd.bytes hml0 (findClass_of_methodNamed Bd.named) (name_of_methodNamed Bd.named Bd.method).1 Bd.returns Bd.notSynchronized hZ (by rw [← hh, Bd.state]; rfl)
theorem goAt (q : g = g') (K : Go p e below T g' P) : Go p e below T g P := q ▸ K
end Go
theorem cat_ref {v : Value} (h : v.isRef = true) : v.category = 1 := by cases v <;> simp_all [Value.isRef, Value.category]
section Facts
variable {Z : State} {args : Array Value}
theorem old_le {n0 : Nat} {h : Heap} (O : Old Z n0 h) : n0 ≤ h.size := by
  obtain ⟨rfl, h2⟩ := O
  exact h2.1
theorem fld_of {C n d : String} {t : Term} {a : Addr} {k : Int32} (ev : t.eval args Z none [] Z = some (.ref a)) (h : (Cond.eq (.field t C n d) (.int k)).value args Z none Z [] = some true) : Fld Z Z.heap a C n d (.int k) := by
  obtain ⟨x, y, h1, h2, -, hk⟩ := cmp_v (Or.inl h)
  have h3 : y = .int k := (Option.some.inj h2).symm
  subst h3
  obtain ⟨z, rfl⟩ := hk
  have h4 : z = k := gotT (Cond.eq_ints h1 h2) h
  subst h4
  rw [fld_at ev] at h1
  exact Fld.start h1
theorem fldnull_of {C n d : String} {t : Term} {a : Addr} (ev : t.eval args Z none [] Z = some (.ref a)) (h : (Cond.eq (.field t C n d) .null).value args Z none Z [] = some true) : Fld Z Z.heap a C n d .null := by
  have h1 := null_v h
  rw [fld_at ev] at h1
  exact Fld.start h1
theorem eqint_v {t : Term} {k : Int32} (h : (Cond.eq t (.int k)).value args Z none Z [] = some true) : t.eval args Z none [] Z = some (.int k) := by
  obtain ⟨x, y, h1, h2, -, hk⟩ := cmp_v (Or.inl h)
  have h3 : y = .int k := (Option.some.inj h2).symm
  subst h3
  obtain ⟨z, rfl⟩ := hk
  have h4 : z = k := gotT (Cond.eq_ints h1 h2) h
  subst h4
  exact h1
end Facts
section Small
variable {h h' : Heap} {a : Addr} {sl : Nat} {x : Int32}
theorem ow_wr_char (e : x.toUInt32.toUInt16.toUInt32.toInt32 = x) (W : Wr h h' a sl (.int (nar .char x))) : Wr h h' a sl (.int x) := by rwa [show nar .char x = x from e] at W
theorem ow_fits_char (e : x.toUInt32.toUInt16.toUInt32.toInt32 = x) : fits .char (.int x) = true := by
  have q := fits_nar_char x
  rwa [show nar .char x = x from e] at q
theorem ow_wr_byte (e : x.toInt8.toInt32 = x) (W : Wr h h' a sl (.int (nar .byte x))) : Wr h h' a sl (.int x) := by rwa [show nar .byte x = x from e] at W
theorem ow_fits_byte (e : x.toInt8.toInt32 = x) : fits .byte (.int x) = true := by
  have q := fits_nar_byte x
  rwa [e] at q
theorem char_small (h0 : ¬ x < 0) (h1 : ¬ (65535 : Int32) < x) : x.toUInt32.toUInt16.toUInt32.toInt32 = x := by
  obtain ⟨q1, q2, q3⟩ := c_i2c x
  simp only [Int32.lt_iff_toInt_lt, Int32.reduceToInt] at h0 h1
  exact Int32.toInt_inj.mp (by omega)
theorem char255 (q : ¬ x < 0 ∧ ¬ (255 : Int32) < x) : x.toUInt32.toUInt16.toUInt32.toInt32 = x := char_small q.1 (by
  obtain ⟨q1, q2⟩ := q
  simp only [Int32.lt_iff_toInt_lt, Int32.reduceToInt] at q1 q2 ⊢
  omega)
theorem byte_small (h0 : ¬ x < (-128 : Int32)) (h1 : ¬ (127 : Int32) < x) : x.toInt8.toInt32 = x := by
  obtain ⟨q1, q2, q3⟩ := c_i2b x
  simp only [Int32.lt_iff_toInt_lt, Int32.reduceToInt] at h0 h1
  exact Int32.toInt_inj.mp (by omega)
theorem byte_twice : x.toInt8.toInt32.toInt8.toInt32 = x.toInt8.toInt32 := by simp
theorem and255 (x : Int32) : ¬ (x &&& (255 : Int32)) < 0 ∧ ¬ (255 : Int32) < (x &&& (255 : Int32)) := by
  have h := c_mask x 255 8 (by decide) (by decide)
  simp only [Int32.lt_iff_toInt_lt, Int32.reduceToInt]
  omega
end Small
section Sub
variable {Z : State} {a0 : Array Value}
theorem NSroot {O K : String} {n : Nat} (w : (Cond.noSuperclass O).before a0 Z = true) (wk : (Cond.instantiable K n).before a0 Z = true) (hn : O ≠ K) : NS Z O K := by
  obtain ⟨c, k, h1, h2, h3, -, -⟩ := Cond.noSuperclass_spec w
  obtain ⟨t, kt, g1, -⟩ := Cond.instantiable_spec wk
  have ne := ids_ne h1 g1 hn
  refine ⟨c, t, h1, g1, fun fuel => ?_⟩
  cases fuel with
  | zero => rfl
  | succ f => simp [Vm.isSubclassAux, ne, h2, h3]
theorem NSno {C S K : String} {n : Nat} (w : (Cond.superclass C S).before a0 Z = true) (wk : (Cond.instantiable K n).before a0 Z = true) (N : NS Z C K) (hn : C ≠ K) : ∃ c t, Z.vm.findClass C = some c ∧ Z.vm.findClass K = some t ∧ Z.vm.assignable c t = false := by
  obtain ⟨c, t, h0, g0, n3⟩ := N
  obtain ⟨p, k, kp, h1, h2, h3, h4, h5, -, h7⟩ := Cond.superclass_spec h0 w
  obtain ⟨t', kt, g1, g2, g5, g7, -⟩ := Cond.instantiable_spec wk
  cases g0.symm.trans g1
  rw [Bool.or_eq_false_iff] at g7
  have ne := ids_ne h0 g0 hn
  refine ⟨c, t, h0, g0, ?_⟩
  show Z.vm.assignableAux (255 + 1) c t = false
  simp [Vm.assignableAux, ne, h2, g2, h5, g5, g7.1, Vm.isSubclass, n3]
end Sub
/-- an array of n elements, told by a function -/
def Arf (Z : State) (h : Heap) (a : Addr) (k : ClassId) (ty : FieldType) (n : Nat) (f : Nat → Value) : Prop := ∃ c : Cell, Arr Z h a c ty ∧ c.cls = k ∧ c.slots.size = n ∧ (∀ i, i < n → c.slots[i]? = some (f i)) ∧ ∀ i, i < n → fits ty (f i) = true
section Arf
variable {Z : State} {h h' : Heap} {a b : Addr} {k : ClassId} {ty : FieldType} {n sl : Nat} {f g : Nat → Value} {v : Value} {ws : List Addr} {c : Cell} {j : Int32} {i : Nat}
theorem Arf.lt (F : Arf Z h a k ty n f) : a < h.size := by
  obtain ⟨c, A, -⟩ := F
  exact A.lt
theorem Arf.ext (F : Arf Z h a k ty n f) (E : Ext h h') : Arf Z h' a k ty n f := by
  obtain ⟨c, A, r⟩ := F
  exact ⟨c, A.ext E, r⟩
theorem Arf.other (F : Arf Z h b k ty n f) (W : Wr h h' a sl v) (q : b ≠ a) : Arf Z h' b k ty n f := by
  obtain ⟨c, A, r⟩ := F
  exact ⟨c, A.other W q, r⟩
theorem Arf.keep (F : Arf Z h a k ty n f) (K : Keep h h' ws) (q : a ∉ ws) : Arf Z h' a k ty n f := by
  obtain ⟨c, A, r⟩ := F
  exact ⟨c, ⟨K.2.1 a c A.1 q, A.2⟩, r⟩
theorem Arf.congr (F : Arf Z h a k ty n f) (q : ∀ i, i < n → g i = f i) : Arf Z h a k ty n g := by
  obtain ⟨c, A, r1, r2, H, G⟩ := F
  exact ⟨c, A, r1, r2, fun i hi => by rw [q i hi]; exact H i hi, fun i hi => by rw [q i hi]; exact G i hi⟩
theorem Arf.set (A : Arr Z h a c ty) (q1 : c.cls = k) (S : c.slots.size = n) (H : ∀ i, i < n → c.slots[i]? = some (f i)) (G : ∀ i, i < n → fits ty (f i) = true) (hv : fits ty v = true) (W : Wr h h' a i v) (hi : i < n) : Arf Z h' a k ty n (fun x => if x = i then v else f x) := by
  refine ⟨c.setSlot i v, A.same W, q1, by rw [sz_set]; exact S, fun x hx => ?_, fun x hx => ?_⟩
  · show (c.setSlot i v).slots[x]? = some (if x = i then v else f x)
    by_cases e : x = i
    · subst e
      simp [Cell.setSlot, S, hx]
    · rw [if_neg e, ← H x hx]
      exact Cell.slots_setSlot_ne v (Ne.symm e)
  · by_cases e : x = i
    · simp [e, hv]
    · simp [e, G x hx]
theorem Arv.arf {z : Int32} {vs : List Value} {d : Value} (F : Arv Z h a k ty z vs d) (hz : z.toNatClampNeg = n) : Arf Z h a k ty n (fun i => vs.getD i d) := by
  obtain ⟨c, A, r1, r2, r3, H, G⟩ := F
  exact ⟨c, A, r1, by rw [r2, hz], fun i hi => H i (by rw [r2, hz]; exact hi), fun i hi => G i (by rw [r2, hz]; exact hi)⟩
theorem arf_in (S : c.slots.size = n) (hk : j.toInt = i) (hn : i < n) : ¬ (j < 0 ∨ c.slots.size ≤ j.toNatClampNeg) := by
  simp only [Int32.lt_iff_toInt_lt, Int32.toNatClampNeg, Int32.reduceToInt, S, hk]
  omega
theorem arf_at (H : ∀ i, i < n → c.slots[i]? = some (f i)) (hk : j.toInt = i) (hn : i < n) : c.slots[j.toNatClampNeg]? = some (f i) := by
  have e : j.toNatClampNeg = i := by simp only [Int32.toNatClampNeg, hk]; omega
  rw [e]
  exact H i hn
theorem arf_ix (hk : j.toInt = i) : j.toNatClampNeg = i := by simp only [Int32.toNatClampNeg, hk]; omega
theorem arf_len {z : Int32} (S : c.slots.size = n) (hz : z.toInt = n) : c.slots.size.toInt32 = z := by
  rw [S]
  have h1 := Int32.toInt_lt z
  exact Int32.toInt_inj.mp (by rw [len_toInt (by omega)]; exact hz.symm)
theorem Arf.one (F : Arf Z h a k ty n f) (hi : i < n) : fits ty (f i) = true := by
  obtain ⟨c, A, r1, r2, H, G⟩ := F
  exact G i hi
theorem Arf.new {z : Int32} (A : Arr Z h a (newA k ty z) ty) (q : ¬ z < 0) (hz : z.toNatClampNeg = n) : Arf Z h a k ty n (fun _ => defaultValue ty) := (Arv.arf (Arv.new A q) hz).congr fun i _ => by simp
theorem cloneF {p : Program} {l : Launch} {e : Env} {R : Room} {s : State} {m : MethodId} {args : Array Value} {below : List Frame} {meth : Method} {c : Code} {T : State} {locs : List Loc} {cells slots : Nat} (X : Stand p l e R s m args below meth c T locs cells slots) (hx : p.tables.exec = Jvm.exec) (hZ : Z.Warmed39 s.vm) {a0 : Array Value} {own ad : String} {index : Nat} (hown : s.vm.findClass own = some m.cls)
    (w1 : (Cond.methodLink own index ⟨ad, "clone", "()Ljava/lang/Object;"⟩).before a0 Z = true) (w2 : (Cond.sameMethod ad "java/lang/Object" "clone" "()Ljava/lang/Object;").before a0 Z = true) (w3 : (Cond.native ⟨"java/lang/Object", "clone", "()Ljava/lang/Object;"⟩).before a0 Z = true)
    (w4 : (Cond.instanceMethod ⟨"java/lang/Object", "clone", "()Ljava/lang/Object;"⟩).before a0 Z = true) (w5 : (Cond.selects ad ⟨ad, "clone", "()Ljava/lang/Object;"⟩ ⟨"java/lang/Object", "clone", "()Ljava/lang/Object;"⟩).before a0 Z = true) (w6 : (Cond.castable ad "java/lang/Cloneable").before a0 Z = true)
    (eT : T.heap = h) (F : Arf Z h a k ty n f) (E : Exa Z h a ad) {g : JFrame} (hg : g.method = m) (hsize : g.locals.size = c.maxLocals) {rest : List Value} (hst : g.stack = .ref a :: rest) (hd : decode c.code g.pc = .ok (.invokevirtual index, 3))
    (hf : 1 ≤ R.frames) {W cap : Nat} (hW : 2 * g.monitorRoom + (rest.map fun v => v.category).sum ≤ W) (hl : W + 14 ≤ R.locals) (hcap : n ≤ cap) (hc : cells + 1 ≤ R.cells) (hsl : slots + cap ≤ R.slots) :
    ∃ T' h', Stand p l e R s m args below meth c T' locs (cells + 1) (slots + cap) ∧ T'.heap = h' ∧ Ext h h' ∧ Arf Z h' h.size k ty n f ∧ Exa Z h' h.size ad ∧
      ∀ target, Steps p.tables e below (T'.setTop { g with pc := g.pc + 3, stack := .ref h.size :: rest }) target → Steps p.tables e below (T.setTop g) target := by
  obtain ⟨cl, A, q1, S, H, G⟩ := F
  have FC : FitC Z cl := fitC_of A fun i hi v hv => by rw [H i (S ▸ hi)] at hv; cases hv; exact G i (S ▸ hi)
  obtain ⟨T', h', X', e', ex, A', E', st⟩ := cloneA X hx hZ hown w1 w2 w3 w4 w5 w6 eT A E FC hg hsize hst hd hf hW hl (by rw [S]; exact hcap) hc hsl
  exact ⟨T', h', X', e', ex, ⟨cloneOf cl, A', q1, S, H, G⟩, E', st⟩
end Arf
theorem and1_cases (x : Int32) : x &&& (1 : Int32) = (0 : Int32) ∨ x &&& (1 : Int32) = (1 : Int32) := and_one x
theorem and3_cases (x : Int32) : x &&& (3 : Int32) = (0 : Int32) ∨ x &&& (3 : Int32) = (1 : Int32) ∨ x &&& (3 : Int32) = (2 : Int32) ∨ x &&& (3 : Int32) = (3 : Int32) := by
  have h := c_mask x 3 2 (by decide) (by decide)
  simp only [← Int32.toInt_inj]
  have : (0 : Int32).toInt = 0 := by decide
  have : (1 : Int32).toInt = 1 := by decide
  have : (2 : Int32).toInt = 2 := by decide
  have : (3 : Int32).toInt = 3 := by decide
  omega
end Jvm.OwnKit
namespace Jvm.OwnKit
open Sem ClassFile Op Lib Jvm.Stand Jvm.Free Jvm.LawKit Jvm.RoadKit
section Pin
variable {Z : State} {args : Array Value} {t u : Term} {a x : Addr} {c : Cell} {ty : FieldType} {z : Int32} {vs : List Value} {v d : Value} {n i : Nat}
/-- facts on arrays and fields out of the words that pin them -/
theorem eqref_v (hb : u.eval args Z none [] Z = some (.ref x)) (h : (Cond.eq t u).value args Z none Z [] = some true) : t.eval args Z none [] Z = some (.ref x) := by
  cases ht : t.eval args Z none [] Z with
  | none => simp [Cond.value, ht] at h
  | some w => cases w <;> simp [Cond.value, ht, hb] at h ⊢ <;> exact h
theorem fldref_of {C f dd : String} (ev : t.eval args Z none [] Z = some (.ref a)) (h : (Term.field t C f dd).eval args Z none [] Z = some (.ref x)) : Fld Z Z.heap a C f dd (.ref x) := by
  rw [fld_at ev] at h
  exact Fld.start h
theorem fldint_of {C f dd : String} {k : Int32} (ev : t.eval args Z none [] Z = some (.ref a)) (h : (Cond.eq (.field t C f dd) (.int k)).value args Z none Z [] = some true) : Fld Z Z.heap a C f dd (.int k) := by
  have h1 := eqint_v h
  rw [fld_at ev] at h1
  exact Fld.start h1
theorem pin_len {k : Int32} (ev : t.eval args Z none [] Z = some (.ref a)) (A : Arr Z Z.heap a c ty) (h : (Cond.eq (.length t) (.int k)).value args Z none Z [] = some true) : c.slots.size = k.toNatClampNeg ∧ ¬ k < 0 := by
  have h1 := eqint_v h
  have hA : Z.arrayAt? a = some c := IntBox.arrayAt_of A.1 A.2.1 A.2.2
  simp only [Term.eval, ev, hA, Option.bind_eq_bind, Option.bind_some, Option.pure_def] at h1
  split at h1
  · rename_i q
    have h2 : c.slots.size.toInt32 = k := Value.int.inj (Option.some.inj h1)
    have h3 := len_toInt q
    rw [h2] at h3
    simp only [Int32.lt_iff_toInt_lt, Int32.toNatClampNeg, h3, Int32.reduceToInt]
    omega
  · cases h1
theorem pin_at {j : Int32} (ev : t.eval args Z none [] Z = some (.ref a)) (A : Arr Z Z.heap a c ty) (h : (Term.elem t (.int j)).eval args Z none [] Z = some v) (hj : j.toNatClampNeg = i) : c.slots[i]? = some v := by
  rw [← hj]
  exact (elem_in h ev rfl A.1).2
theorem pin_nil : ∀ j, j < 0 → c.slots[i + j]? = some (([] : List Value).getD j d) := fun j q => absurd q (Nat.not_lt_zero j)
theorem pin_cons (h : c.slots[i]? = some v) (r : ∀ j, j < n → c.slots[i + 1 + j]? = some (vs.getD j d)) : ∀ j, j < n + 1 → c.slots[i + j]? = some ((v :: vs).getD j d) := by
  intro j q
  cases j with
  | zero => simpa using h
  | succ j =>
    have := r j (by omega)
    rw [show i + (j + 1) = i + 1 + j by omega]
    simpa using this
theorem pin_arv (A : Arr Z Z.heap a c ty) (hl : c.slots.size = z.toNatClampNeg ∧ ¬ z < 0) (hz : z.toNatClampNeg = n) (H : ∀ j, j < n → c.slots[0 + j]? = some (vs.getD j d)) (G : vs.all (fits ty) = true) (hd : fits ty d = true) : Arv Z Z.heap a c.cls ty z vs d := by
  refine ⟨c, A, rfl, hl.1, hl.2, fun j q => ?_, fun j _ => ?_⟩
  · have := H j (by rw [← hz, ← hl.1]; exact q)
    rwa [Nat.zero_add] at this
  · by_cases q : j < vs.length
    · have e : vs.getD j d = vs[j] := by simp [List.getD, q]
      rw [e]
      exact List.all_eq_true.mp G _ (List.getElem_mem q)
    · have e : vs.getD j d = d := by simp [List.getD, List.getElem?_eq_none (Nat.le_of_not_lt q)]
      rw [e]
      exact hd
end Pin
end Jvm.OwnKit
namespace Jvm.OwnKit
open Sem ClassFile Op Lib Jvm.Stand Jvm.Free Jvm.LawKit Jvm.RoadKit
section GoW
variable {p : Program} {l : Launch} {e : Env} {R : Room} {s : State} {m : MethodId} {args : Array Value} {below : List Frame} {meth : Method} {c : Code} {T T' : State} {locs : List Loc} {cells slots : Nat} {g g' : JFrame} {Q : Option Value → Heap → List Loc → Prop} {k n pc : Nat} {Ls : Array Slot} {rest : List Value} {Z : State} {EL : List (String × Nat)} {vm0 : Vm} {a0 : Array Value} {h h0 : Heap} {k0 : Nat}
abbrev PoW (s Z : State) (EL : List (String × Nat)) (Q : Option Value → Heap → List Loc → Prop) (k n : Nat) : Outcome → State → Prop := fun o U' => ∃ v L, o = .returned v ∧ Q v U'.heap L ∧ CHr Z EL s.vm s.heap U'.vm U'.heap ∧ ReturnedEndW s o U' L k n
theorem outW (X : Stand p l e R (s.setVm vm0) m args below meth c T locs cells slots) (hZ : Z.Warmed39 vm0) (hEL : EW Z a0 EL) (eT : T.heap = h) (hS : s.Since vm0 k0) (hk : k0 ≤ h.size) (CR : CHr Z EL s.vm s.heap vm0 h) {v : Option Value} (hl : meth.locks = false) (hv : meth.sig.returnType = none → v = none)
    (hst : ∀ fs : List Frame, (∀ (f : JFrame) (acts : List Action), f.method = m → f.locked = none → f.entered = [] → (doReturn e (T.setTop f) acts v).1 = T.setFrames fs) → Steps p.tables e below (T.setTop g) (T.setFrames fs))
    (hc : cells ≤ k) (hn : slots ≤ n) (hQ : Q v T.heap locs) : Go p e below T g (PoW s Z EL Q k n) := by
  obtain ⟨fs, hr, hrun, hended, hW, h1, h2, hsame⟩ := X.leaveW hS (by rw [eT]; exact hk) (v := v) hv hl
  have hC : CHr Z EL s.vm s.heap T.vm T.heap := by rw [eT]; exact CR.trans (CHv.at X hZ hEL CR.1)
  exact ⟨_, _, hst fs hr, hrun, hended, v, locs, rfl, hQ, hC, hW, h1, h2, hsame.mono hc hn⟩
theorem outNW (X : Stand p l e R (s.setVm vm0) m args below meth c T locs cells slots) (hx : p.tables.exec = Jvm.exec) (hZ : Z.Warmed39 vm0) (hEL : EW Z a0 EL) (eT : T.heap = h) (hS : s.Since vm0 k0) (hk : k0 ≤ h.size) (CR : CHr Z EL s.vm s.heap vm0 h) {t : FieldType} {z : Int32} (hret : meth.sig.returnType = some t) (ht : t = .boolean ∨ t = .byte ∨ t = .char ∨ t = .short) (hd : decode c.code pc = .ok (.ireturn, 1)) (hl : meth.locks = false)
    (hc : cells ≤ k) (hn : slots ≤ n) (hQ : Q (some (.int (nar t z))) T.heap locs) : Go p e below T (mkF m pc Ls (.int z :: rest)) (PoW s Z EL Q k n) :=
  outW X hZ hEL eT hS hk CR hl (fun h => by rw [hret] at h; cases h) (fun fs hr => retN X hx hret ht hd hr) hc hn hQ
theorem outIW (X : Stand p l e R (s.setVm vm0) m args below meth c T locs cells slots) (hx : p.tables.exec = Jvm.exec) (hZ : Z.Warmed39 vm0) (hEL : EW Z a0 EL) (eT : T.heap = h) (hS : s.Since vm0 k0) (hk : k0 ≤ h.size) (CR : CHr Z EL s.vm s.heap vm0 h) {z : Int32} (hret : meth.sig.returnType = some .int) (hd : decode c.code pc = .ok (.ireturn, 1)) (hl : meth.locks = false)
    (hc : cells ≤ k) (hn : slots ≤ n) (hQ : Q (some (.int z)) T.heap locs) : Go p e below T (mkF m pc Ls (.int z :: rest)) (PoW s Z EL Q k n) :=
  outW X hZ hEL eT hS hk CR hl (fun h => by rw [hret] at h; cases h) (fun fs hr => retOut X hx hret rfl (Or.inl ⟨rfl, Or.inl rfl, _, rfl⟩) hd hr) hc hn hQ
theorem outAW (X : Stand p l e R (s.setVm vm0) m args below meth c T locs cells slots) (hx : p.tables.exec = Jvm.exec) (hZ : Z.Warmed39 vm0) (hEL : EW Z a0 EL) (eT : T.heap = h) (hS : s.Since vm0 k0) (hk : k0 ≤ h.size) (CR : CHr Z EL s.vm s.heap vm0 h) {w : Value} {t : FieldType} (hret : meth.sig.returnType = some t) (ht : t.isReference = true) (hw : w.isRef = true) (hd : decode c.code pc = .ok (.areturn, 1)) (hl : meth.locks = false)
    (hc : cells ≤ k) (hn : slots ≤ n) (hQ : Q (some w) T.heap locs) : Go p e below T (mkF m pc Ls (w :: rest)) (PoW s Z EL Q k n) := by
  refine outW X hZ hEL eT hS hk CR hl (fun h => by rw [hret] at h; cases h) (fun fs hr => retOut X hx hret ?_ (Or.inr (Or.inr (Or.inr (Or.inr ⟨rfl, ht, hw⟩)))) hd hr) hc hn hQ
  rcases ref_cases hw with rfl | ⟨a, rfl⟩ <;> cases t <;> first | rfl | cases ht
theorem outVW (X : Stand p l e R (s.setVm vm0) m args below meth c T locs cells slots) (hx : p.tables.exec = Jvm.exec) (hZ : Z.Warmed39 vm0) (hEL : EW Z a0 EL) (eT : T.heap = h) (hS : s.Since vm0 k0) (hk : k0 ≤ h.size) (CR : CHr Z EL s.vm s.heap vm0 h) (hret : meth.sig.returnType = none) (hd : decode c.code pc = .ok (.return_, 1)) (hl : meth.locks = false)
    (hc : cells ≤ k) (hn : slots ≤ n) (hQ : Q none T.heap locs) : Go p e below T (mkF m pc Ls []) (PoW s Z EL Q k n) :=
  outW X hZ hEL eT hS hk CR hl (fun _ => rfl) (fun fs hr => X.returnOut hx hret hd hr) hc hn hQ
theorem startW {y : MethodName} {bytes : ByteArray} {maxL : Nat} {ret : Option FieldType} {ws : List Cond} {rm : Room} {as' : Array Value} (hpl : plainFor y = true)
    (body : ∀ p e s m below meth c T, Stand p l e rm (s.setVm s.vm) m as' below meth c T [] 0 0 → p.tables.exec = Jvm.exec → c.code = bytes → c.maxLocals = maxL → s.vm.findClass y.cls = some m.cls → meth.name = y.name → meth.sig.returnType = ret → meth.locks = false → Z.Warmed39 s.vm → T.heap = h0 → s.Since s.vm 0 → CHr Z EL s.vm s.heap s.vm h0 →
      Go p e below T (entryFrame m as' maxL) (PoW s Z EL Q k n)) :
    MetFree l y (head1 (Cond.code y bytes maxL ret :: ws) rm) (fun a U => a = as' ∧ Z.Warmed39 U.vm ∧ U.heap = h0 ∧ CHv Z EL U.vm h0) (fun _ _ _ _ _ => True) (fun _ U o U' => ∃ v L, o = .returned v ∧ Q v U'.heap L ∧ CHr Z EL U.vm U.heap U'.vm U'.heap ∧ ReturnedEndW U o U' L k n) := by
  refine MetFree.of_bodySF hpl hisR ?_
  intro p e s m args below meth c s₁ Bd hml0 hP hK
  obtain ⟨rfl, hZ, hh, hC⟩ := hP
  have X : Stand p l e rm s m args below meth c s₁ [] 0 0 := Stand.of_body Bd
  exact body p e s m below meth c s₁ X Bd.exec Bd.bytes hml0 (findClass_of_methodNamed Bd.named) (name_of_methodNamed Bd.named Bd.method).1 Bd.returns Bd.notSynchronized hZ (by rw [← hh, Bd.state]; rfl) ((State.WarmedH.refl s).since 0) (by rw [hh]; exact CHr.refl hC)
/-- a String whose value is still null is no constant's -/
theorem safeNull {x : Addr} {vm : Vm} (hal : Z.vm.Alike vm) (E : Exa Z h x "java/lang/String") (F : Fld Z h x "java/lang/String" "value" "[B" .null) : Safe Z EL vm h x := fun B => by
  obtain ⟨cell, k, e1, e2, e3, -, -⟩ := E
  obtain ⟨c', cf, kf, i, f, f1, f2, f3, f4, f5, f6, f7⟩ := F
  cases e1.symm.trans f1
  obtain ⟨p, -, u, a, -, q, -, G, rfl | rfl⟩ := B
  · cases (show h[q.sa]? = some q.sC from G.ha).symm.trans e1
    obtain ⟨cS, ⟨hs, -, -⟩, -⟩ := G
    obtain ⟨-, -, -, ⟨c4, k4, i4, r1, r2⟩, -, -, -, r7, -⟩ := hs
    obtain ⟨k', r3, -⟩ := State.fieldFound?_setVm (s := Z) hal f2
    have r1' : (Z.setVm vm).fieldFound? "java/lang/String" "value" "[B" = some (c4, k4, i4, q.fSV) := r1
    cases r3.symm.trans r1'
    cases f7.symm.trans r7
  · cases (show h[q.sd]? = some q.SA from G.hd).symm.trans e1
    obtain ⟨cS, -, -, g, -⟩ := G
    have g' : Z.vm.findClass "[B" = some q.SA.cls := by rw [← hal.findClass]; exact g
    obtain ⟨k1, q1, q2⟩ := Vm.findClass_spec g'
    obtain ⟨k2, q3, q4⟩ := Vm.findClass_spec e2
    cases q1.symm.trans q3
    exact absurd (q2.symm.trans q4) (by decide)
end GoW
end Jvm.OwnKit
namespace Jvm.OwnKit
open Sem ClassFile Op Lib Jvm.Stand Jvm.Free Jvm.LawKit Jvm.RoadKit
section Str
variable {Z : State} {h h' : Heap} {x w o : Addr} {cs : List Int32} {sl n : Nat} {v : Value} {ws : List Addr} {C : String} {a0 : Array Value} {k : ClassId} {ty : FieldType} {z : Int32} {vs : List Value} {d : Value}
/-- x is a Latin-1 String of these chars -/
def StrIs (Z : State) (h : Heap) (x : Addr) (cs : List Int32) : Prop := ∃ (t : Addr) (k : ClassId), Exa Z h x "java/lang/String" ∧ Fld Z h x "java/lang/String" "value" "[B" (.ref t) ∧ Fld Z h x "java/lang/String" "coder" "B" (.int 0) ∧ Arv Z h t k .byte (Int32.ofNat cs.length) ((cs.map fun c => c.toInt8.toInt32).map Value.int) (.int 0) ∧ (∀ c ∈ cs, ¬ c < 0 ∧ ¬ (255 : Int32) < c) ∧ cs.length ≤ 4000
/-- w is no byte[] -/
def Apart (Z : State) (h : Heap) (w : Addr) : Prop := ∀ (t : Addr) (k : ClassId) (z : Int32) (vs : List Value) (d : Value), Arv Z h t k .byte z vs d → t ≠ w
theorem Apart.exa (E : Exa Z h w C) (wi : (Cond.instantiable C n).before a0 Z = true) : Apart Z h w := fun _ _ _ _ _ F => Ne.symm (E.neArv F wi)
theorem Apart.arv (F : Arv Z h w k ty z vs d) (ht : ty ≠ .byte) : Apart Z h w := fun t k' z' vs' d' G e => by
  subst e
  obtain ⟨c1, ⟨e1, ⟨-, k1, f1, p1, g1⟩, -⟩, -⟩ := F
  obtain ⟨c2, ⟨e2, ⟨-, k2, f2, p2, g2⟩, -⟩, -⟩ := G
  cases e1.symm.trans e2
  cases f1.symm.trans f2
  rw [g1] at g2
  cases g2
  exact ht rfl
theorem apart0 : ∀ x ∈ ([] : List Addr), Apart Z h x := fun _ q => nomatch q
theorem apartS (A : Apart Z h w) (r : ∀ x ∈ ws, Apart Z h x) : ∀ x ∈ w :: ws, Apart Z h x := fun x q => (List.mem_cons.mp q).elim (fun u => u ▸ A) (r x)
theorem StrIs.exa (F : StrIs Z h x cs) : Exa Z h x "java/lang/String" := by
  obtain ⟨t, k, E, -⟩ := F
  exact E
theorem StrIs.lt (F : StrIs Z h x cs) : x < h.size := F.exa.lt
theorem StrIs.small (F : StrIs Z h x cs) : ∀ c ∈ cs, ¬ c < 0 ∧ ¬ (255 : Int32) < c := by
  obtain ⟨t, k, -, -, -, -, hp, -⟩ := F
  exact hp
theorem StrIs.ext (F : StrIs Z h x cs) (E : Ext h h') : StrIs Z h' x cs := by
  obtain ⟨t, k, E1, V1, C1, K1, r⟩ := F
  exact ⟨t, k, E1.ext E, V1.ext E, C1.ext E, K1.ext E, r⟩
theorem StrIs.wr (F : StrIs Z h x cs) (W : Wr h h' o sl v) (ne : x ≠ o) (A : Apart Z h o) : StrIs Z h' x cs := by
  obtain ⟨t, k, E1, V1, C1, K1, r⟩ := F
  exact ⟨t, k, E1.wr W, V1.other W (Or.inl ne), C1.other W (Or.inl ne), K1.other W (A _ _ _ _ _ K1), r⟩
theorem StrIs.keep (F : StrIs Z h x cs) (K : Keep h h' ws) (q : x ∉ ws) (A : ∀ y ∈ ws, Apart Z h y) : StrIs Z h' x cs := by
  obtain ⟨t, k, E1, V1, C1, K1, r⟩ := F
  exact ⟨t, k, E1.keep K, V1.keep K q, C1.keep K q, K1.keep K (fun m => A t m _ _ _ _ _ K1 rfl), r⟩
theorem StrIs.of {t : Addr} (E : Exa Z h x "java/lang/String") (V : Fld Z h x "java/lang/String" "value" "[B" (.ref t)) (C : Fld Z h x "java/lang/String" "coder" "B" (.int 0)) (K : Arv Z h t k .byte z vs (.int 0)) (hz : z = Int32.ofNat cs.length) (hv : vs = (cs.map fun c => c.toInt8.toInt32).map Value.int) (hp : ∀ c ∈ cs, ¬ c < 0 ∧ ¬ (255 : Int32) < c) (hl : cs.length ≤ 4000) : StrIs Z h x cs := by
  subst hz hv
  exact ⟨t, k, E, V, C, K, hp, hl⟩
theorem own_one255 {k : Int32} (h : ¬ k < 0 ∧ ¬ (255 : Int32) < k) : ∀ c ∈ ([k] : List Int32), ¬ c < 0 ∧ ¬ (255 : Int32) < c := by
  intro c hc
  cases List.mem_singleton.mp hc
  exact h
end Str
end Jvm.OwnKit
namespace Jvm.OwnKit
theorem own_sm0 : ∀ c ∈ ([] : List Int32), ¬ c < 0 ∧ ¬ (255 : Int32) < c := fun _ q => nomatch q
theorem own_sm1 {k : Int32} {cs : List Int32} (h : ¬ k < 0 ∧ ¬ (255 : Int32) < k) (t : ∀ c ∈ cs, ¬ c < 0 ∧ ¬ (255 : Int32) < c) : ∀ c ∈ k :: cs, ¬ c < 0 ∧ ¬ (255 : Int32) < c := fun c q => (List.mem_cons.mp q).elim (fun u => u ▸ h) (t c)
theorem own_char255 {k x : Int32} (h : k = (x &&& (255 : Int32)).toUInt32.toUInt16.toUInt32.toInt32) : ¬ k < 0 ∧ ¬ (255 : Int32) < k := by
  rw [char255 (and255 x)] at h
  rw [h]
  exact and255 x
end Jvm.OwnKit
/- laws to paste: Road.backV, Road.eqW, Road.codOf (cut by pick.py; bodies as the Statement names them) -/
namespace Jvm.Pilot.@@N@@
namespace StrChars
open Jvm Sem ClassFile Op Lib Jvm.Stand Jvm.Free.XT Jvm.Free.ALB Jvm.Free.JM Jvm.Free
open Jvm.Lib.Cold (StaticIs)
/-- a char array whose places are chars -/
def Ch (a : Addr) (A : Cell) (U : State) : Prop := Arr .char a A U ∧ Typed .char A
theorem Ch.mv {a : Addr} {A : Cell} {U U' : State} (h : Ch a A U) (hal : U.vm.Alike U'.vm) (hh : U'.heap = U.heap) : Ch a A U' := ⟨h.1.mv hal hh, h.2⟩
theorem Ch.keep {a : Addr} {A : Cell} {U U' : State} (h : Ch a A U) (hal : U.vm.Alike U'.vm) (hk : U'.heap[a]? = some A) : Ch a A U' := ⟨h.1.keep hal hk, h.2⟩
/-- what place i of a char[]'s cell holds -/
def cv (A : Cell) (i : Nat) : Int32 := match A.slots[i]? with | some (.int x) => x | _ => 0
theorem Ch.get {a : Addr} {A : Cell} {U : State} (h : Ch a A U) {i : Nat} (hi : i < A.slots.size) : A.slots[i]? = some (.int (cv A i)) := by
  have e := Array.getElem?_eq_getElem hi
  have f := h.2 i _ e
  unfold cv; rw [e]
  generalize A.slots[i] = v at f
  cases v <;> simp [fits] at f ⊢
/-- the byte that i2b leaves of a char -/
def lo8 (x : Int32) : Int32 := x.toInt8.toInt32
theorem fits_lo8 (y : Int32) : fits .byte (.int (lo8 y)) = true := by
  have h1 := y.toInt8.le_toInt
  have h2 := y.toInt8.toInt_lt
  simp only [lo8, fits, Bool.and_eq_true, decide_eq_true_eq, Int32.le_iff_toInt_le, Int8.toInt_toInt32, show (-128 : Int32).toInt = -128 from by decide, show (127 : Int32).toInt = 127 from by decide]
  omega
/-- A' is A but that each place j of lo .. hi - 1 holds f j -/
def Laid (A A' : Cell) (lo hi : Nat) (f : Nat → Value) : Prop := A'.cls = A.cls ∧ A'.vm = A.vm ∧ A'.slots.size = A.slots.size ∧ ∀ i, A'.slots[i]? = if lo ≤ i ∧ i < hi then some (f i) else A.slots[i]?
theorem Laid.zero (A : Cell) (lo : Nat) (f : Nat → Value) : Laid A A lo (lo + 0) f := ⟨rfl, rfl, rfl, fun i => by rw [if_neg (by omega)]⟩
theorem Laid.step {A Ak : Cell} {lo k : Nat} {f : Nat → Value} {v : Value} (h : Laid A Ak lo k f) (hlo : lo ≤ k) (hk : k < Ak.slots.size) (hv : v = f k) : Laid A (Ak.setSlot k v) lo (k + 1) f := by
  refine ⟨h.1, h.2.1, by simpa [Cell.setSlot] using h.2.2.1, fun i => ?_⟩
  by_cases e : k = i
  · subst e; rw [Cell.slots_setSlot_self v hk, if_pos (by omega), hv]
  · rw [Cell.slots_setSlot_ne v e, h.2.2.2 i]
    by_cases q : lo ≤ i ∧ i < k
    · rw [if_pos q, if_pos (by omega)]
    · rw [if_neg q, if_neg (by omega)]
def U16 : String := "java/lang/StringUTF16"
namespace Cmp5
def yN : MethodName := ⟨"java/lang/StringUTF16", "compress", "([CI[BII)I"⟩
abbrev yB : ByteArray := jdk_52_method_21_code
theorem d0 : decode yB 0 = .ok (.iconst 0, 1) := by decide +kernel
theorem d1 : decode yB 1 = .ok (.istore 5, 2) := by decide +kernel
theorem d3 : decode yB 3 = .ok (.iload 5, 2) := by decide +kernel
theorem d5 : decode yB 5 = .ok (.iload 4, 2) := by decide +kernel
theorem d7 : decode yB 7 = .ok (.if_icmp (.ge) 37, 3) := by decide +kernel
theorem d10 : decode yB 10 = .ok (.aload_n 0, 1) := by decide +kernel
theorem d11 : decode yB 11 = .ok (.iload_n 1, 1) := by decide +kernel
theorem d12 : decode yB 12 = .ok (.caload, 1) := by decide +kernel
theorem d13 : decode yB 13 = .ok (.istore 6, 2) := by decide +kernel
theorem d15 : decode yB 15 = .ok (.iload 6, 2) := by decide +kernel
theorem d17 : decode yB 17 = .ok (.sipush 255, 3) := by decide +kernel
theorem d20 : decode yB 20 = .ok (.if_icmp (.le) 6, 3) := by decide +kernel
theorem d26 : decode yB 26 = .ok (.aload_n 2, 1) := by decide +kernel
theorem d27 : decode yB 27 = .ok (.iload_n 3, 1) := by decide +kernel
theorem d28 : decode yB 28 = .ok (.iload 6, 2) := by decide +kernel
theorem d30 : decode yB 30 = .ok (.i2b, 1) := by decide +kernel
theorem d31 : decode yB 31 = .ok (.bastore, 1) := by decide +kernel
theorem d32 : decode yB 32 = .ok (.iinc 1 1, 3) := by decide +kernel
theorem d35 : decode yB 35 = .ok (.iinc 3 1, 3) := by decide +kernel
theorem d38 : decode yB 38 = .ok (.iinc 5 1, 3) := by decide +kernel
theorem d41 : decode yB 41 = .ok (.goto (-38), 3) := by decide +kernel
theorem d44 : decode yB 44 = .ok (.iload 4, 2) := by decide +kernel
theorem d46 : decode yB 46 = .ok (.ireturn, 1) := by decide +kernel
def site : List Cond := []
def tab : Cond := tabOf yN yB 7 (some .int) site
def P (b : Addr) (A : Cell) (d : Addr) (B : Cell) (o q len : Nat) (args : Array Value) (s : State) : Prop := args = #[.ref b, .int (Int32.ofNat o), .ref d, .int (Int32.ofNat q), .int (Int32.ofNat len)] ∧ Ch b A s ∧ Arr .byte d B s ∧ b ≠ d ∧ o + len ≤ A.slots.size ∧ q + len ≤ B.slots.size ∧ ∀ i, i < len → ¬ 255 < cv A (o + i)
def E (b : Addr) (A : Cell) (d : Addr) (B : Cell) (o q len : Nat) (r : Option Value) (s u : State) : Prop := r = some (.int (Int32.ofNat len)) ∧ ∃ B', Put d B' s u ∧ Laid B B' q (q + len) (fun j => Value.int (lo8 (cv A (o + (j - q)))))
/-- no char of the range above 255: len; the places written hold each char's low byte -/
theorem law (l : Launch) (b : Addr) (A : Cell) (d : Addr) (B : Cell) (o q len : Nat) : Law l yN 5 5 0 0 yB 7 (some .int) site (P b A d B o q len) (E b A d B o q len) (copyLocs d q len) 0 0 := by
  refine Law.of_walk (plainFor_of_name (by decide +kernel)) (by decide +kernel) (by decide +kernel) (by decide) (fun _ _ h => by rw [h.1]; rfl) (fun _ U U' hal hh h => ⟨h.1, h.2.1.mv hal hh, h.2.2.1.mv hal hh, h.2.2.2⟩) (fun r U U' V V' h1 hal h2 h => ⟨h.1, h.2.elim fun B' q => ⟨B', q.1.mv h1 h2, q.2⟩⟩) ?_
  intro p e s m args below meth c s₁ X0 hexec hbytes hml hret hlk hnm hown hh0 W hP
  obtain ⟨rfl, hA, hB, hne, l1, l2, hp⟩ := hP
  have c1 : Steps p.tables e below (s₁.setTop (entryFrame m #[.ref b, .int (Int32.ofNat o), .ref d, .int (Int32.ofNat q), .int (Int32.ofNat len)] 7)) (s₁.setTop (mkF m 0 #[.val (.ref b), .val (.int (Int32.ofNat o)), .val (.ref d), .val (.int (Int32.ofNat q)), .val (.int (Int32.ofNat len)), .unset, .unset] [])) := entry rfl
  have hA0 := hA.1.mv X0.warmed.alike hh0
  have hB0 := hB.mv X0.warmed.alike hh0
  have a31 := hA.1.2.2.2
  have c2 : Steps p.tables e below (s₁.setTop (entryFrame m #[.ref b, .int (Int32.ofNat o), .ref d, .int (Int32.ofNat q), .int (Int32.ofNat len)] 7)) (s₁.setTop (mkF m 3 #[.val (.ref b), .val (.int (Int32.ofNat o)), .val (.ref d), .val (.int (Int32.ofNat q)), .val (.int (Int32.ofNat len)), .val (.int 0), .unset] [])) := c1.trans (by
    refine iconstV X0.here hexec rfl 0 (hb hbytes d0) (by decide) ?_
    refine XS.istore X0.here hexec rfl (hb hbytes d1) rfl rfl ?_
    exact Steps.refl _)
  have loop : ∀ (r i : Nat), i + r = len → ∀ (z : Slot), (z = .unset ∨ ∃ w, z = .val w ∧ w.category = 1) → ∀ (Tl : State) (Bk : Cell), Stand p l e { frames := 0, locals := 0, cells := 0, slots := 0 } s m #[.ref b, .int (Int32.ofNat o), .ref d, .int (Int32.ofNat q), .int (Int32.ofNat len)] below meth c Tl ([] ++ copyLocs d q i) 0 0 → Put d Bk s₁ Tl → Laid B Bk q (q + i) (fun j => Value.int (lo8 (cv A (o + (j - q))))) →
      Steps p.tables e below (s₁.setTop (entryFrame m #[.ref b, .int (Int32.ofNat o), .ref d, .int (Int32.ofNat q), .int (Int32.ofNat len)] 7)) (Tl.setTop (mkF m 3 #[.val (.ref b), .val (.int (Int32.ofNat (o + i))), .val (.ref d), .val (.int (Int32.ofNat (q + i))), .val (.int (Int32.ofNat len)), .val (.int (Int32.ofNat i)), z] [])) → ∃ (T' : State) (B' : Cell) (z' : Slot), Stand p l e { frames := 0, locals := 0, cells := 0, slots := 0 } s m #[.ref b, .int (Int32.ofNat o), .ref d, .int (Int32.ofNat q), .int (Int32.ofNat len)] below meth c T' ([] ++ copyLocs d q len) 0 0 ∧ Put d B' s₁ T' ∧ Laid B B' q (q + len) (fun j => Value.int (lo8 (cv A (o + (j - q))))) ∧
      Steps p.tables e below (s₁.setTop (entryFrame m #[.ref b, .int (Int32.ofNat o), .ref d, .int (Int32.ofNat q), .int (Int32.ofNat len)] 7)) (T'.setTop (mkF m 3 #[.val (.ref b), .val (.int (Int32.ofNat (o + len))), .val (.ref d), .val (.int (Int32.ofNat (q + len))), .val (.int (Int32.ofNat len)), .val (.int (Int32.ofNat len)), z'] [])) := by
    intro r
    induction r with
    | zero =>
      intro i hi z hz Tl Bk Xl pl fl cl
      have hil : i = len := by omega
      rw [hil] at Xl fl cl
      exact ⟨Tl, Bk, z, Xl, pl, fl, cl⟩
    | succ r ih =>
      intro i hi z hz Tl Bk Xl pl fl cl
      have all := X0.warmed.alike.symm.trans Xl.warmed.alike
      have hAl := hA0.keep all (pl.other hne hA0.1)
      have hBk := hB0.like all pl.1 fl.1 fl.2.1 fl.2.2.1
      have hlt : q + i < Bk.slots.size := by rw [fl.2.2.1]; omega
      have c3 : Steps p.tables e below (s₁.setTop (entryFrame m #[.ref b, .int (Int32.ofNat o), .ref d, .int (Int32.ofNat q), .int (Int32.ofNat len)] 7)) (Tl.setTop (mkF m 12 #[.val (.ref b), .val (.int (Int32.ofNat (o + i))), .val (.ref d), .val (.int (Int32.ofNat (q + i))), .val (.int (Int32.ofNat len)), .val (.int (Int32.ofNat i)), z] [.int (Int32.ofNat (o + i)), .ref b])) := cl.trans (by
        refine XS.iload Xl.here hexec rfl (hb hbytes d3) rfl ?_
        refine XS.iload Xl.here hexec rfl (hb hbytes d5) rfl ?_
        refine XS.icmpNo Xl.here hexec rfl (hb hbytes d7) rfl (ii_ge_f (lt32 (by omega) (by omega))) ?_
        refine XS.aloadN Xl.here hexec rfl (hb hbytes d10) rfl rfl ?_
        refine XS.iloadN Xl.here hexec rfl (hb hbytes d11) rfl ?_
        exact Steps.refl _)
      have c4 : Steps p.tables e below (s₁.setTop (entryFrame m #[.ref b, .int (Int32.ofNat o), .ref d, .int (Int32.ofNat q), .int (Int32.ofNat len)] 7)) (Tl.setTop (mkF m 13 #[.val (.ref b), .val (.int (Int32.ofNat (o + i))), .val (.ref d), .val (.int (Int32.ofNat (q + i))), .val (.int (Int32.ofNat len)), .val (.int (Int32.ofNat i)), z] [.int (cv A (o + i))])) := c3.trans (by
        refine Xl.aget hexec hAl rfl (hA.get (i := o + i) (by omega)) rfl rfl (hb hbytes d12) ?_
        exact Steps.refl _)
      have c5 : Steps p.tables e below (s₁.setTop (entryFrame m #[.ref b, .int (Int32.ofNat o), .ref d, .int (Int32.ofNat q), .int (Int32.ofNat len)] 7)) (Tl.setTop (mkF m 15 #[.val (.ref b), .val (.int (Int32.ofNat (o + i))), .val (.ref d), .val (.int (Int32.ofNat (q + i))), .val (.int (Int32.ofNat len)), .val (.int (Int32.ofNat i)), .val (.int (cv A (o + i)))] [])) := c4.trans (by
        refine XS.istoreS Xl.here hexec rfl (hb hbytes d13) rfl rfl hz ?_
        exact Steps.refl _)
      have c6 : Steps p.tables e below (s₁.setTop (entryFrame m #[.ref b, .int (Int32.ofNat o), .ref d, .int (Int32.ofNat q), .int (Int32.ofNat len)] 7)) (Tl.setTop (mkF m 31 #[.val (.ref b), .val (.int (Int32.ofNat (o + i))), .val (.ref d), .val (.int (Int32.ofNat (q + i))), .val (.int (Int32.ofNat len)), .val (.int (Int32.ofNat i)), .val (.int (cv A (o + i)))] [.int (lo8 (cv A (o + i))), .int (Int32.ofNat (q + i)), .ref d])) := c5.trans (by
        refine XS.iload Xl.here hexec rfl (hb hbytes d15) rfl ?_
        refine sipushV Xl.here hexec rfl 255 (hb hbytes d17) (by decide) ?_
        refine XS.icmpYes Xl.here hexec rfl (pc0 := 20) rfl (hb hbytes d20) rfl (ii_le_t (hp i (by omega))) (by decide) rfl ?_
        refine XS.aloadN Xl.here hexec rfl (hb hbytes d26) rfl rfl ?_
        refine XS.iloadN Xl.here hexec rfl (hb hbytes d27) rfl ?_
        refine XS.iload Xl.here hexec rfl (hb hbytes d28) rfl ?_
        refine i2b Xl.here hexec rfl (hb hbytes d30) rfl ?_
        exact Steps.refl _)
      obtain ⟨T7, X7, p7, st7⟩ := Xl.aput hexec hBk rfl hlt rfl (fits_lo8 (cv A (o + i))) (g := (mkF m 31 #[.val (.ref b), .val (.int (Int32.ofNat (o + i))), .val (.ref d), .val (.int (Int32.ofNat (q + i))), .val (.int (Int32.ofNat len)), .val (.int (Int32.ofNat i)), .val (.int (cv A (o + i)))] [.int (lo8 (cv A (o + i))), .int (Int32.ofNat (q + i)), .ref d])) rfl (rest := []) rfl (hb hbytes d31)
      have c8 : Steps p.tables e below (s₁.setTop (entryFrame m #[.ref b, .int (Int32.ofNat o), .ref d, .int (Int32.ofNat q), .int (Int32.ofNat len)] 7)) (T7.setTop (mkF m 32 #[.val (.ref b), .val (.int (Int32.ofNat (o + i))), .val (.ref d), .val (.int (Int32.ofNat (q + i))), .val (.int (Int32.ofNat len)), .val (.int (Int32.ofNat i)), .val (.int (cv A (o + i)))] [])) := c6.trans (st7 _ (Steps.refl _))
      have c9 : Steps p.tables e below (s₁.setTop (entryFrame m #[.ref b, .int (Int32.ofNat o), .ref d, .int (Int32.ofNat q), .int (Int32.ofNat len)] 7)) (T7.setTop (mkF m 3 #[.val (.ref b), .val (.int (Int32.ofNat (o + i) + 1)), .val (.ref d), .val (.int (Int32.ofNat (q + i) + 1)), .val (.int (Int32.ofNat len)), .val (.int (Int32.ofNat i + 1)), .val (.int (cv A (o + i)))] [])) := c8.trans (by
        refine iincV X7.here hexec rfl 1 (hb hbytes d32) (by decide) rfl rfl ?_
        refine iincV X7.here hexec rfl 1 (hb hbytes d35) (by decide) rfl rfl ?_
        refine iincV X7.here hexec rfl 1 (hb hbytes d38) (by decide) rfl rfl ?_
        refine XS.goto X7.here hexec rfl (pc0 := 41) rfl (hb hbytes d41) (by decide) rfl ?_
        exact Steps.refl _)
      have c10 : Steps p.tables e below (s₁.setTop (entryFrame m #[.ref b, .int (Int32.ofNat o), .ref d, .int (Int32.ofNat q), .int (Int32.ofNat len)] 7)) (T7.setTop (mkF m 3 #[.val (.ref b), .val (.int (Int32.ofNat (o + (i + 1)))), .val (.ref d), .val (.int (Int32.ofNat (q + (i + 1)))), .val (.int (Int32.ofNat len)), .val (.int (Int32.ofNat (i + 1))), .val (.int (cv A (o + i)))] [])) := by
        have := c9
        rw [succ32, succ32, succ32] at this
        exact this
      exact ih (i + 1) (by omega) _ (Or.inr ⟨_, rfl, rfl⟩) T7 _ (by rw [copyLocs_step, ← List.append_assoc]; exact X7) (pl.trans p7) (fl.step (by omega) hlt (by simp)) c10
  obtain ⟨T9, B9, z9, X9, p9, f9, g9⟩ := loop len 0 (by omega) .unset (Or.inl rfl) s₁ B (by simpa [copyLocs] using X0) ⟨hB0.1, fun _ _ => rfl, rfl⟩ (Laid.zero _ _ _) c2
  have c11 : Steps p.tables e below (s₁.setTop (entryFrame m #[.ref b, .int (Int32.ofNat o), .ref d, .int (Int32.ofNat q), .int (Int32.ofNat len)] 7)) (T9.setTop (mkF m 46 #[.val (.ref b), .val (.int (Int32.ofNat (o + len))), .val (.ref d), .val (.int (Int32.ofNat (q + len))), .val (.int (Int32.ofNat len)), .val (.int (Int32.ofNat len)), z9] [.int (Int32.ofNat len)])) := g9.trans (by
    refine XS.iload X9.here hexec rfl (hb hbytes d3) rfl ?_
    refine XS.iload X9.here hexec rfl (hb hbytes d5) rfl ?_
    refine XS.icmpYes X9.here hexec rfl (pc0 := 7) rfl (hb hbytes d7) rfl (ii_ge_t (nlt32 (by omega) (Nat.le_refl _))) (by decide) rfl ?_
    refine XS.iload X9.here hexec rfl (hb hbytes d44) rfl ?_
    exact Steps.refl _)
  exact ⟨T9, some (.int (Int32.ofNat len)), _, _, _, X9, by simp, rfl, rfl, (fun h => by cases h), ⟨rfl, B9, p9.from hh0, f9⟩, fun fs hl => c11.trans (X9.ireturnOut hexec hret rfl (Or.inl rfl) (hb hbytes d46) hl)⟩
end Cmp5
namespace Cmp3
def yN : MethodName := ⟨"java/lang/StringUTF16", "compress", "([CII)[B"⟩
abbrev yB : ByteArray := jdk_52_method_16_code
theorem d0 : decode yB 0 = .ok (.iload_n 2, 1) := by decide +kernel
theorem d1 : decode yB 1 = .ok (.newarray .byte, 2) := by decide +kernel
theorem d3 : decode yB 3 = .ok (.astore_n 3, 1) := by decide +kernel
theorem d4 : decode yB 4 = .ok (.aload_n 0, 1) := by decide +kernel
theorem d5 : decode yB 5 = .ok (.iload_n 1, 1) := by decide +kernel
theorem d6 : decode yB 6 = .ok (.aload_n 3, 1) := by decide +kernel
theorem d7 : decode yB 7 = .ok (.iconst 0, 1) := by decide +kernel
theorem d8 : decode yB 8 = .ok (.iload_n 2, 1) := by decide +kernel
theorem d9 : decode yB 9 = .ok (.invokestatic 115, 3) := by decide +kernel
theorem d12 : decode yB 12 = .ok (.istore 4, 2) := by decide +kernel
theorem d14 : decode yB 14 = .ok (.iload 4, 2) := by decide +kernel
theorem d16 : decode yB 16 = .ok (.iload_n 2, 1) := by decide +kernel
theorem d17 : decode yB 17 = .ok (.if_icmp (.eq) 40, 3) := by decide +kernel
theorem d57 : decode yB 57 = .ok (.aload_n 3, 1) := by decide +kernel
theorem d58 : decode yB 58 = .ok (.areturn, 1) := by decide +kernel
def site : List Cond := [.arrayClass .byte, Cmp5.tab] ++ staticW U16 115 Cmp5.yN
def tab : Cond := tabOf yN yB 6 (some (.array .byte)) site
def P (b : Addr) (A : Cell) (o len : Nat) (args : Array Value) (s : State) : Prop := args = #[.ref b, .int (Int32.ofNat o), .int (Int32.ofNat len)] ∧ Ch b A s ∧ o + len ≤ A.slots.size ∧ len ≤ 536870912 ∧ ∀ i, i < len → ¬ 255 < cv A (o + i)
def E (b : Addr) (A : Cell) (o len : Nat) (r : Option Value) (s u : State) : Prop := NewArr .byte "[B" len (fun j => .int (lo8 (cv A (o + j)))) r s u ∧ u.heap.size = s.heap.size + 1
/-- no char of the range above 255: a new byte[] of their low bytes -/
theorem law (l : Launch) (b : Addr) (A : Cell) (o len : Nat) : Law l yN 3 3 1 18 yB 6 (some (.array .byte)) site (P b A o len) (E b A o len) [] 1 len := by
  refine Law.of_walk (plainFor_of_name (by decide +kernel)) (by decide +kernel) (by decide +kernel) (by decide) (fun _ _ h => by rw [h.1]; rfl) (fun _ U U' hal hh h => ⟨h.1, h.2.1.mv hal hh, h.2.2⟩) (fun r U U' V V' h1 hal h2 h => ⟨NewArr.mv r U U' V V' h1 hal h2 h.1, by rw [h1, h2]; exact h.2⟩) ?_
  intro p e s m args below meth c s₁ X0 hexec hbytes hml hret hlk hnm hown hh0 W hP
  obtain ⟨rfl, hA, l1, l2, hp⟩ := hP
  have a31 := hA.1.2.2.2
  have c1 : Steps p.tables e below (s₁.setTop (entryFrame m #[.ref b, .int (Int32.ofNat o), .int (Int32.ofNat len)] 6)) (s₁.setTop (mkF m 0 #[.val (.ref b), .val (.int (Int32.ofNat o)), .val (.int (Int32.ofNat len)), .unset, .unset, .unset] [])) := entry rfl
  have c2 : Steps p.tables e below (s₁.setTop (entryFrame m #[.ref b, .int (Int32.ofNat o), .int (Int32.ofNat len)] 6)) (s₁.setTop (mkF m 1 #[.val (.ref b), .val (.int (Int32.ofNat o)), .val (.int (Int32.ofNat len)), .unset, .unset, .unset] [.int (Int32.ofNat len)])) := c1.trans (by
    refine XS.iloadN X0.here hexec rfl (hb hbytes d0) rfl ?_
    exact Steps.refl _)
  obtain ⟨T3, B3, X3, ba3, bs3, bv3, bh3, bf3, st3⟩ := X0.anew hexec (atype := .byte) (wk W (.arrayClass .byte)) rfl (by show len * 1 ≤ _; omega) (by omega) (g := (mkF m 1 #[.val (.ref b), .val (.int (Int32.ofNat o)), .val (.int (Int32.ofNat len)), .unset, .unset, .unset] [.int (Int32.ofNat len)])) rfl (hb hbytes d1) (rest := []) rfl (Nat.le_refl _) (by show 0 + len ≤ len; omega)
  rw [hh0] at ba3 st3
  have kp3 : XT.Kept s T3 := (XT.Kept.of_eq hh0).push bh3
  have hA3 := hA.keep X3.warmed.alike (kp3 _ _ hA.1.1)
  have hne : b ≠ s.heap.size := hA.1.ne
  have c4 : Steps p.tables e below (s₁.setTop (entryFrame m #[.ref b, .int (Int32.ofNat o), .int (Int32.ofNat len)] 6)) (T3.setTop (mkF m 3 #[.val (.ref b), .val (.int (Int32.ofNat o)), .val (.int (Int32.ofNat len)), .unset, .unset, .unset] [.ref s.heap.size])) := c2.trans (st3 _ (Steps.refl _))
  have c5 : Steps p.tables e below (s₁.setTop (entryFrame m #[.ref b, .int (Int32.ofNat o), .int (Int32.ofNat len)] 6)) (T3.setTop (mkF m 9 #[.val (.ref b), .val (.int (Int32.ofNat o)), .val (.int (Int32.ofNat len)), .val (.ref s.heap.size), .unset, .unset] [.int (Int32.ofNat len), .int 0, .ref s.heap.size, .int (Int32.ofNat o), .ref b])) := c4.trans (by
    refine XS.astoreN X3.here hexec rfl (hb hbytes d3) rfl rfl rfl ?_
    refine XS.aloadN X3.here hexec rfl (hb hbytes d4) rfl rfl ?_
    refine XS.iloadN X3.here hexec rfl (hb hbytes d5) rfl ?_
    refine XS.aloadN X3.here hexec rfl (hb hbytes d6) rfl rfl ?_
    refine iconstV X3.here hexec rfl 0 (hb hbytes d7) (by decide) ?_
    refine XS.iloadN X3.here hexec rfl (hb hbytes d8) rfl ?_
    exact Steps.refl _)
  obtain ⟨v6, T6, X6, E6, g6⟩ := X3.callS hexec (Cmp5.law l b A s.heap.size B3 o 0 len) hown (wks W (staticW U16 115 Cmp5.yN)) (wk W Cmp5.tab) (W := 0) (Nat.le_of_ble_eq_true rfl) (Nat.le_of_ble_eq_true rfl) (Nat.le_refl _) (by show 0 + len + 0 ≤ len; omega) (g := (mkF m 9 #[.val (.ref b), .val (.int (Int32.ofNat o)), .val (.int (Int32.ofNat len)), .val (.ref s.heap.size), .unset, .unset] [.int (Int32.ofNat len), .int (Int32.ofNat 0), .ref s.heap.size, .int (Int32.ofNat o), .ref b])) rfl (by rw [hml]; rfl) c5 (argsL := [.ref b, .int (Int32.ofNat o), .ref s.heap.size, .int (Int32.ofNat 0), .int (Int32.ofNat len)]) (rest := []) rfl rfl (by show 2 * 0 + 0 ≤ _; decide) (hb hbytes d9) (⟨rfl, hA3, ba3, hne, l1, by rw [bs3]; simp, hp⟩)
  obtain ⟨rfl, B6, p6, f6⟩ := E6
  have c7 : Steps p.tables e below (s₁.setTop (entryFrame m #[.ref b, .int (Int32.ofNat o), .int (Int32.ofNat len)] 6)) (T6.setTop (mkF m 12 #[.val (.ref b), .val (.int (Int32.ofNat o)), .val (.int (Int32.ofNat len)), .val (.ref s.heap.size), .unset, .unset] [.int (Int32.ofNat len)])) := g6
  have c8 : Steps p.tables e below (s₁.setTop (entryFrame m #[.ref b, .int (Int32.ofNat o), .int (Int32.ofNat len)] 6)) (T6.setTop (mkF m 58 #[.val (.ref b), .val (.int (Int32.ofNat o)), .val (.int (Int32.ofNat len)), .val (.ref s.heap.size), .val (.int (Int32.ofNat len)), .unset] [.ref s.heap.size])) := c7.trans (by
    refine XS.istore X6.here hexec rfl (hb hbytes d12) rfl rfl ?_
    refine XS.iload X6.here hexec rfl (hb hbytes d14) rfl ?_
    refine XS.iloadN X6.here hexec rfl (hb hbytes d16) rfl ?_
    refine XS.icmpYes X6.here hexec rfl (pc0 := 17) rfl (hb hbytes d17) rfl (ii_eq_t rfl) (by decide) rfl ?_
    refine XS.aloadN X6.here hexec rfl (hb hbytes d57) rfl rfl ?_
    exact Steps.refl _)
  have X8 := X6.wide (L' := []) (cells' := 1) (slots' := len) (fun x hx hlt => by
    simp only [List.nil_append, copyLocs, List.mem_map, List.mem_range] at hx
    obtain ⟨i, -, rfl⟩ := hx
    exact absurd hlt (Nat.lt_irrefl _)) (Nat.le_refl _) (by omega)
  exact ⟨T6, some (.ref s.heap.size), _, _, _, X8, rfl, rfl, rfl, (fun h => by cases h), ⟨⟨rfl, B6, ba3.like (X3.warmed.alike.symm.trans X6.warmed.alike) p6.1 f6.1 f6.2.1 f6.2.2.1, f6.2.1.trans bv3, by rw [X6.warmed.alike.findClass, f6.1]; exact bf3, by rw [f6.2.2.1, bs3]; simp, fun j hj => by rw [f6.2.2.2 j, if_pos (by omega)]; rfl, kp3.put p6 (Nat.le_refl _)⟩, by rw [p6.2.2, bh3, hh0]; simp⟩, fun fs hl => c8.trans (X8.areturnOut hexec rfl hret rfl (hb hbytes d58) hl)⟩
end Cmp3
namespace CodL
def yN : MethodName := ⟨"java/lang/StringUTF16", "coderFromArrayLen", "([BI)B"⟩
abbrev yB : ByteArray := jdk_52_method_15_code
theorem d0 : decode yB 0 = .ok (.iload_n 1, 1) := by decide +kernel
theorem d1 : decode yB 1 = .ok (.aload_n 0, 1) := by decide +kernel
theorem d2 : decode yB 2 = .ok (.arraylength, 1) := by decide +kernel
theorem d3 : decode yB 3 = .ok (.isub, 1) := by decide +kernel
theorem d4 : decode yB 4 = .ok (.bipush 31, 2) := by decide +kernel
theorem d6 : decode yB 6 = .ok (.iushr, 1) := by decide +kernel
theorem d7 : decode yB 7 = .ok (.i2b, 1) := by decide +kernel
theorem d8 : decode yB 8 = .ok (.ireturn, 1) := by decide +kernel
def site : List Cond := []
def tab : Cond := tabOf yN yB 2 (some .byte) site
def P (d : Addr) (B : Cell) (args : Array Value) (s : State) : Prop := args = #[.ref d, .int (Int32.ofNat B.slots.size)] ∧ Arr .byte d B s
def E (r : Option Value) (s u : State) : Prop := XT.PureE (some (.int 0)) r s u
/-- an array as long as the number of chars: LATIN1 -/
theorem law (l : Launch) (d : Addr) (B : Cell) : Law l yN 2 2 0 0 yB 2 (some .byte) site (P d B) E [] 0 0 := by
  refine Law.of_walk (plainFor_of_name (by decide +kernel)) (by decide +kernel) (by decide +kernel) (by decide) (fun _ _ h => by rw [h.1]; rfl) (fun _ U U' hal hh h => ⟨h.1, h.2.mv hal hh⟩) (fun r U U' V V' h1 hal h2 h => XT.PureE.mv r U U' V V' h1 hal h2 h) ?_
  intro p e s m args below meth c s₁ X0 hexec hbytes hml hret hlk hnm hown hh0 W hP
  obtain ⟨rfl, hB⟩ := hP
  have hB0 := hB.mv X0.warmed.alike hh0
  have c1 : Steps p.tables e below (s₁.setTop (entryFrame m #[.ref d, .int (Int32.ofNat B.slots.size)] 2)) (s₁.setTop (mkF m 0 #[.val (.ref d), .val (.int (Int32.ofNat B.slots.size))] [])) := entry rfl
  have c2 : Steps p.tables e below (s₁.setTop (entryFrame m #[.ref d, .int (Int32.ofNat B.slots.size)] 2)) (s₁.setTop (mkF m 2 #[.val (.ref d), .val (.int (Int32.ofNat B.slots.size))] [.ref d, .int (Int32.ofNat B.slots.size)])) := c1.trans (by
    refine XS.iloadN X0.here hexec rfl (hb hbytes d0) rfl ?_
    refine XS.aloadN X0.here hexec rfl (hb hbytes d1) rfl rfl ?_
    exact Steps.refl _)
  have c3 : Steps p.tables e below (s₁.setTop (entryFrame m #[.ref d, .int (Int32.ofNat B.slots.size)] 2)) (s₁.setTop (mkF m 8 #[.val (.ref d), .val (.int (Int32.ofNat B.slots.size))] [.int (lo8 (ushr (Int32.ofNat B.slots.size - Int32.ofNat B.slots.size) 31))])) := c2.trans (by
    refine X0.alen hexec hB0 rfl rfl (hb hbytes d2) ?_
    refine XS.isub X0.here hexec rfl (hb hbytes d3) rfl ?_
    refine bipushV X0.here hexec rfl 31 (hb hbytes d4) (by decide) ?_
    refine iushr X0.here hexec rfl (hb hbytes d6) rfl ?_
    refine i2b X0.here hexec rfl (hb hbytes d7) rfl ?_
    exact Steps.refl _)
  have e0 : lo8 (ushr (Int32.ofNat B.slots.size - Int32.ofNat B.slots.size) 31) = 0 := by rw [Int32.sub_self]; decide
  rw [e0] at c3
  exact ⟨s₁, some (.int 0), _, _, _, X0, rfl, rfl, rfl, (fun h => by cases h), ⟨rfl, hh0⟩, fun fs hl => c3.trans (X0.ireturnOut hexec hret rfl (Or.inr (Or.inr (Or.inl rfl))) (hb hbytes d8) hl)⟩
end CodL
/-- the String at a is Latin-1 over a new byte[] (the heap's one new cell): the low bytes of the len chars of A from o on; every cell but a is kept -/
def Got (a : Addr) (D : Cell) (fV fC : Field) (A : Cell) (o len : Nat) (r : Option Value) (s u : State) : Prop := r = none ∧ ∃ D' V : Cell, Blank "java/lang/String" a D' u ∧ Same D D' [fV.slot, fC.slot] ∧ D'.slots[fV.slot]? = some (.ref s.heap.size) ∧ D'.slots[fC.slot]? = some (.int 0) ∧ Arr .byte s.heap.size V u ∧ V.vm = .none ∧ u.vm.findClass "[B" = some V.cls ∧ V.slots.size = len ∧ (∀ j, j < len → V.slots[j]? = some (.int (lo8 (cv A (o + j))))) ∧ (∀ (y : Addr) (c : Cell), y ≠ a → s.heap[y]? = some c → u.heap[y]? = some c) ∧ u.heap.size = s.heap.size + 1
theorem Got.mv {a : Addr} {D A : Cell} {fV fC : Field} {o len : Nat} : ∀ r (U U' V V' : State), U'.heap = U.heap → V.vm.Alike V'.vm → V'.heap = V.heap → Got a D fV fC A o len r U V → Got a D fV fC A o len r U' V' :=
  fun r U U' V V' h1 hal h2 ⟨e0, D', X, a1, a2, a3, a4, a5, a6, a7, a8, a9, a10, a11⟩ => ⟨e0, D', X, a1.mv hal h2, a2, by rw [h1]; exact a3, a4, by rw [h1]; exact a5.mv hal h2, a6, by rw [hal.findClass]; exact a7, a8, a9, by rw [h1, h2]; exact a10, by rw [h1, h2]; exact a11⟩
namespace New4
def yN : MethodName := ⟨"java/lang/String", "<init>", "([CIILjava/lang/Void;)V"⟩
abbrev yB : ByteArray := jdk_42_method_149_code
theorem d0 : decode yB 0 = .ok (.aload_n 0, 1) := by decide +kernel
theorem d1 : decode yB 1 = .ok (.invokespecial 1, 3) := by decide +kernel
theorem d4 : decode yB 4 = .ok (.iload_n 3, 1) := by decide +kernel
theorem d5 : decode yB 5 = .ok (.ifCond (.ne) 22, 3) := by decide +kernel
theorem d27 : decode yB 27 = .ok (.getstatic 38, 3) := by decide +kernel
theorem d30 : decode yB 30 = .ok (.ifCond (.eq) 28, 3) := by decide +kernel
theorem d33 : decode yB 33 = .ok (.aload_n 1, 1) := by decide +kernel
theorem d34 : decode yB 34 = .ok (.iload_n 2, 1) := by decide +kernel
theorem d35 : decode yB 35 = .ok (.iload_n 3, 1) := by decide +kernel
theorem d36 : decode yB 36 = .ok (.invokestatic 177, 3) := by decide +kernel
theorem d39 : decode yB 39 = .ok (.astore 5, 2) := by decide +kernel
theorem d41 : decode yB 41 = .ok (.aload_n 0, 1) := by decide +kernel
theorem d42 : decode yB 42 = .ok (.aload 5, 2) := by decide +kernel
theorem d44 : decode yB 44 = .ok (.iload_n 3, 1) := by decide +kernel
theorem d45 : decode yB 45 = .ok (.invokestatic 47, 3) := by decide +kernel
theorem d48 : decode yB 48 = .ok (.putfield 15, 3) := by decide +kernel
theorem d51 : decode yB 51 = .ok (.aload_n 0, 1) := by decide +kernel
theorem d52 : decode yB 52 = .ok (.aload 5, 2) := by decide +kernel
theorem d54 : decode yB 54 = .ok (.putfield 9, 3) := by decide +kernel
theorem d57 : decode yB 57 = .ok (.return_, 1) := by decide +kernel
def site : List Cond := [.fieldLink "java/lang/String" 38 "java/lang/String" "COMPACT_STRINGS" "Z", Cmp3.tab, CodL.tab, .laysFinal "java/lang/String" "java/lang/String" "value" "[B", .fieldLink "java/lang/String" 9 "java/lang/String" "value" "[B", .laysFinal "java/lang/String" "java/lang/String" "coder" "B", .fieldLink "java/lang/String" 15 "java/lang/String" "coder" "B"] ++ objW "java/lang/String" 1 ++ staticW "java/lang/String" 177 Cmp3.yN ++ staticW "java/lang/String" 47 CodL.yN
def tab : Cond := tabOf yN yB 6 none site
def P (a : Addr) (D : Cell) (fV fC : Field) (b : Addr) (A : Cell) (z : Int32) (o len : Nat) (args : Array Value) (s : State) : Prop := args = #[.ref a, .ref b, .int (Int32.ofNat o), .int (Int32.ofNat len), .null] ∧ Blank "java/lang/String" a D s ∧ Found "java/lang/String" "value" "[B" fV s ∧ Found "java/lang/String" "coder" "B" fC s ∧ Ch b A s ∧ StaticIs s "java/lang/String" "COMPACT_STRINGS" "Z" (.int z) ∧ ¬ z = 0 ∧ 0 < len ∧ o + len ≤ A.slots.size ∧ len ≤ 536870912 ∧ ∀ i, i < len → ¬ 255 < cv A (o + i)
def E (a : Addr) (D : Cell) (fV fC : Field) (A : Cell) (o len : Nat) (r : Option Value) (s u : State) : Prop := Got a D fV fC A o len r s u
/-- len > 0, no char of the range above 255: a Latin-1 String of their low bytes -/
theorem law (l : Launch) (a : Addr) (D : Cell) (fV fC : Field) (b : Addr) (A : Cell) (z : Int32) (o len : Nat) : Law l yN 5 4 2 35 yB 6 none site (P a D fV fC b A z o len) (E a D fV fC A o len) [⟨a, fC.slot⟩, ⟨a, fV.slot⟩] 1 len := by
  refine Law.of_walk (plainFor_of_name (by decide +kernel)) (by decide +kernel) (by decide +kernel) (by decide) (fun _ _ h => by rw [h.1]; rfl) (fun _ U U' hal hh h => ⟨h.1, h.2.1.mv hal hh, h.2.2.1.al hal, h.2.2.2.1.al hal, h.2.2.2.2.1.mv hal hh, h.2.2.2.2.2.1.there hal hh, h.2.2.2.2.2.2⟩) (fun r U U' V V' h1 hal h2 h => Got.mv r U U' V V' h1 hal h2 h) ?_
  intro p e s m args below meth c s₁ X0 hexec hbytes hml hret hlk hnm hown hh0 W hP
  obtain ⟨rfl, hB, f1, f2, hA, s1, hz, l0, l1, l2, hp⟩ := hP
  have a31 := hA.1.2.2.2
  have c1 : Steps p.tables e below (s₁.setTop (entryFrame m #[.ref a, .ref b, .int (Int32.ofNat o), .int (Int32.ofNat len), .null] 6)) (s₁.setTop (mkF m 0 #[.val (.ref a), .val (.ref b), .val (.int (Int32.ofNat o)), .val (.int (Int32.ofNat len)), .val .null, .unset] [])) := entry rfl
  have c2 : Steps p.tables e below (s₁.setTop (entryFrame m #[.ref a, .ref b, .int (Int32.ofNat o), .int (Int32.ofNat len), .null] 6)) (s₁.setTop (mkF m 1 #[.val (.ref a), .val (.ref b), .val (.int (Int32.ofNat o)), .val (.int (Int32.ofNat len)), .val .null, .unset] [.ref a])) := c1.trans (by
    refine XS.aloadN X0.here hexec rfl (hb hbytes d0) rfl rfl ?_
    exact Steps.refl _)
  obtain ⟨T3, X3, q3, st3⟩ := X0.oinit hexec hown (wks W (objW "java/lang/String" 1)) (g := (mkF m 1 #[.val (.ref a), .val (.ref b), .val (.int (Int32.ofNat o)), .val (.int (Int32.ofNat len)), .val .null, .unset] [.ref a])) rfl (by rw [hml]; rfl) (rest := []) rfl (hb hbytes d1) (W := 0) (by show 2 * 0 + 0 ≤ _; decide) (Nat.le_of_ble_eq_true rfl) (Nat.le_of_ble_eq_true rfl)
  have hh3 := q3.trans hh0
  have c4 : Steps p.tables e below (s₁.setTop (entryFrame m #[.ref a, .ref b, .int (Int32.ofNat o), .int (Int32.ofNat len), .null] 6)) (T3.setTop (mkF m 27 #[.val (.ref a), .val (.ref b), .val (.int (Int32.ofNat o)), .val (.int (Int32.ofNat len)), .val .null, .unset] [])) := (c2.trans (st3 _ (Steps.refl _))).trans (by
    refine XS.iloadN X3.here hexec rfl (hb hbytes d4) rfl ?_
    refine XS.ifYes X3.here hexec rfl (pc0 := 5) rfl (hb hbytes d5) rfl (i0_ne_t (nz32 (by omega) l0)) (by decide) rfl ?_
    exact Steps.refl _)
  obtain ⟨T5, X5, q5, st5⟩ := X3.sget hexec hown (wk W (.fieldLink "java/lang/String" 38 "java/lang/String" "COMPACT_STRINGS" "Z")) s1 (fun _ _ h => by rw [hh3]; exact h) (g := (mkF m 27 #[.val (.ref a), .val (.ref b), .val (.int (Int32.ofNat o)), .val (.int (Int32.ofNat len)), .val .null, .unset] [])) rfl (hb hbytes d27)
  have hh5 := q5.trans hh3
  have c6 : Steps p.tables e below (s₁.setTop (entryFrame m #[.ref a, .ref b, .int (Int32.ofNat o), .int (Int32.ofNat len), .null] 6)) (T5.setTop (mkF m 30 #[.val (.ref a), .val (.ref b), .val (.int (Int32.ofNat o)), .val (.int (Int32.ofNat len)), .val .null, .unset] [.int z])) := c4.trans (st5 _ (Steps.refl _))
  have c7 : Steps p.tables e below (s₁.setTop (entryFrame m #[.ref a, .ref b, .int (Int32.ofNat o), .int (Int32.ofNat len), .null] 6)) (T5.setTop (mkF m 36 #[.val (.ref a), .val (.ref b), .val (.int (Int32.ofNat o)), .val (.int (Int32.ofNat len)), .val .null, .unset] [.int (Int32.ofNat len), .int (Int32.ofNat o), .ref b])) := c6.trans (by
    refine XS.ifNo X5.here hexec rfl (hb hbytes d30) rfl (i0_eq_f hz) ?_
    refine XS.aloadN X5.here hexec rfl (hb hbytes d33) rfl rfl ?_
    refine XS.iloadN X5.here hexec rfl (hb hbytes d34) rfl ?_
    refine XS.iloadN X5.here hexec rfl (hb hbytes d35) rfl ?_
    exact Steps.refl _)
  obtain ⟨v8, T8, X8, E8, g8⟩ := X5.callS hexec (Cmp3.law l b A o len) hown (wks W (staticW "java/lang/String" 177 Cmp3.yN)) (wk W Cmp3.tab) (W := 0) (Nat.le_of_ble_eq_true rfl) (Nat.le_of_ble_eq_true rfl) (Nat.le_refl _) (by show 0 + len ≤ len; omega) (g := (mkF m 36 #[.val (.ref a), .val (.ref b), .val (.int (Int32.ofNat o)), .val (.int (Int32.ofNat len)), .val .null, .unset] [.int (Int32.ofNat len), .int (Int32.ofNat o), .ref b])) rfl (by rw [hml]; rfl) c7 (argsL := [.ref b, .int (Int32.ofNat o), .int (Int32.ofNat len)]) (rest := []) rfl rfl (by show 2 * 0 + 0 ≤ _; decide) (hb hbytes d36) (⟨rfl, hA.mv X5.warmed.alike hh5, l1, l2, hp⟩)
  obtain ⟨e8, z8⟩ := E8
  obtain ⟨rfl, N, n1, n2, n3, n4, n5, n6⟩ := NewArr.mv _ T5 s _ _ hh5.symm (Vm.Alike.refl _) rfl e8
  rw [hh5] at z8
  have hB1 := hB.keep X8.warmed.alike (n6 _ _ hB.1)
  have hne : s.heap.size ≠ a := (Nat.ne_of_lt (Array.getElem?_eq_some_iff.mp hB.1).1).symm
  have c9 : Steps p.tables e below (s₁.setTop (entryFrame m #[.ref a, .ref b, .int (Int32.ofNat o), .int (Int32.ofNat len), .null] 6)) (T8.setTop (mkF m 39 #[.val (.ref a), .val (.ref b), .val (.int (Int32.ofNat o)), .val (.int (Int32.ofNat len)), .val .null, .unset] [.ref s.heap.size])) := g8
  have c10 : Steps p.tables e below (s₁.setTop (entryFrame m #[.ref a, .ref b, .int (Int32.ofNat o), .int (Int32.ofNat len), .null] 6)) (T8.setTop (mkF m 45 #[.val (.ref a), .val (.ref b), .val (.int (Int32.ofNat o)), .val (.int (Int32.ofNat len)), .val .null, .val (.ref s.heap.size)] [.int (Int32.ofNat N.slots.size), .ref s.heap.size, .ref a])) := by
    have hc : Steps p.tables e below (s₁.setTop (entryFrame m #[.ref a, .ref b, .int (Int32.ofNat o), .int (Int32.ofNat len), .null] 6)) (T8.setTop (mkF m 45 #[.val (.ref a), .val (.ref b), .val (.int (Int32.ofNat o)), .val (.int (Int32.ofNat len)), .val .null, .val (.ref s.heap.size)] [.int (Int32.ofNat len), .ref s.heap.size, .ref a])) := c9.trans (by
      refine XS.astore X8.here hexec rfl (hb hbytes d39) rfl rfl rfl ?_
      refine XS.aloadN X8.here hexec rfl (hb hbytes d41) rfl rfl ?_
      refine XS.aload X8.here hexec rfl (hb hbytes d42) rfl rfl ?_
      refine XS.iloadN X8.here hexec rfl (hb hbytes d44) rfl ?_
      exact Steps.refl _)
    rw [n4]; exact hc
  obtain ⟨v11, T11, X11, E11, g11⟩ := X8.callS hexec (CodL.law l s.heap.size N) hown (wks W (staticW "java/lang/String" 47 CodL.yN)) (wk W CodL.tab) (W := 1) (Nat.le_of_ble_eq_true rfl) (Nat.le_of_ble_eq_true rfl) (Nat.le_refl _) (by show 0 + len + 0 ≤ len; omega) (g := (mkF m 45 #[.val (.ref a), .val (.ref b), .val (.int (Int32.ofNat o)), .val (.int (Int32.ofNat len)), .val .null, .val (.ref s.heap.size)] [.int (Int32.ofNat N.slots.size), .ref s.heap.size, .ref a])) rfl (by rw [hml]; rfl) c10 (argsL := [.ref s.heap.size, .int (Int32.ofNat N.slots.size)]) (rest := [.ref a]) rfl rfl (by show 2 * 0 + (1 + 0) ≤ _; decide) (hb hbytes d45) (⟨rfl, n1⟩)
  obtain ⟨rfl, q11⟩ := E11
  have hB11 := hB1.mv (X8.warmed.alike.symm.trans X11.warmed.alike) q11
  have c12 : Steps p.tables e below (s₁.setTop (entryFrame m #[.ref a, .ref b, .int (Int32.ofNat o), .int (Int32.ofNat len), .null] 6)) (T11.setTop (mkF m 48 #[.val (.ref a), .val (.ref b), .val (.int (Int32.ofNat o)), .val (.int (Int32.ofNat len)), .val .null, .val (.ref s.heap.size)] [.int 0, .ref a])) := g11
  obtain ⟨T13, X13, p13, bl13, sl13, st13⟩ := X11.finit hexec hown (wk W (.fieldLink "java/lang/String" 15 "java/lang/String" "coder" "B")) (Or.inr ⟨_, (wk W (.laysFinal "java/lang/String" "java/lang/String" "coder" "B"))⟩) (Or.inl ⟨rfl, hnm⟩) f2 (Or.inl rfl) hB11 (t := .byte) (by decide +kernel) rfl (g := (mkF m 48 #[.val (.ref a), .val (.ref b), .val (.int (Int32.ofNat o)), .val (.int (Int32.ofNat len)), .val .null, .val (.ref s.heap.size)] [.int 0, .ref a])) rfl (rest := []) rfl (hb hbytes d48)
  have c14 : Steps p.tables e below (s₁.setTop (entryFrame m #[.ref a, .ref b, .int (Int32.ofNat o), .int (Int32.ofNat len), .null] 6)) (T13.setTop (mkF m 54 #[.val (.ref a), .val (.ref b), .val (.int (Int32.ofNat o)), .val (.int (Int32.ofNat len)), .val .null, .val (.ref s.heap.size)] [.ref s.heap.size, .ref a])) := (c12.trans (st13 _ (Steps.refl _))).trans (by
    refine XS.aloadN X13.here hexec rfl (hb hbytes d51) rfl rfl ?_
    refine XS.aload X13.here hexec rfl (hb hbytes d52) rfl rfl ?_
    exact Steps.refl _)
  obtain ⟨T15, X15, p15, bl15, sl15, st15⟩ := X13.finit hexec hown (wk W (.fieldLink "java/lang/String" 9 "java/lang/String" "value" "[B")) (Or.inr ⟨_, (wk W (.laysFinal "java/lang/String" "java/lang/String" "value" "[B"))⟩) (Or.inl ⟨rfl, hnm⟩) f1 (Or.inl rfl) bl13 (t := (.array .byte)) (by decide +kernel) rfl (g := (mkF m 54 #[.val (.ref a), .val (.ref b), .val (.int (Int32.ofNat o)), .val (.int (Int32.ofNat len)), .val .null, .val (.ref s.heap.size)] [.ref s.heap.size, .ref a])) rfl (rest := []) rfl (hb hbytes d54)
  have c16 : Steps p.tables e below (s₁.setTop (entryFrame m #[.ref a, .ref b, .int (Int32.ofNat o), .int (Int32.ofNat len), .null] 6)) (T15.setTop (mkF m 57 #[.val (.ref a), .val (.ref b), .val (.int (Int32.ofNat o)), .val (.int (Int32.ofNat len)), .val .null, .val (.ref s.heap.size)] [])) := c14.trans (st15 _ (Steps.refl _))
  have ap := apart (Or.inr ⟨_, (wk W (.laysFinal "java/lang/String" "java/lang/String" "value" "[B"))⟩) (Or.inr ⟨_, (wk W (.laysFinal "java/lang/String" "java/lang/String" "coder" "B"))⟩) f1 f2 (t₁ := .array .byte) (t₂ := .byte) (by decide +kernel) (by decide +kernel) (by decide)
  have al := X8.warmed.alike.symm.trans X15.warmed.alike
  have n7 : T11.heap[s.heap.size]? = some N := by rw [q11]; exact n1.1
  exact ⟨T15, none, _, _, _, X15, by simp, rfl, by omega, (fun _ => rfl), ⟨rfl, _, N, bl15, ((Same.refl D _).set _ (by simp)).set _ (by simp), sl15, (Cell.slots_setSlot_ne _ ap).trans sl13, n1.keep al (p15.other hne (p13.other hne n7)), n2, by rw [al.findClass]; exact n3, n4, n5, fun y c h1 h2 => p15.other h1 (p13.other h1 (by rw [q11]; exact n6 y c h2)), by rw [p15.2.2, p13.2.2, q11]; exact z8⟩, fun fs hl => c16.trans (X15.returnOut hexec hret (hb hbytes d57) hl)⟩
end New4
namespace New1
def yN : MethodName := ⟨"java/lang/String", "<init>", "([C)V"⟩
abbrev yB : ByteArray := jdk_42_method_3_code
theorem d0 : decode yB 0 = .ok (.aload_n 0, 1) := by decide +kernel
theorem d1 : decode yB 1 = .ok (.aload_n 1, 1) := by decide +kernel
theorem d2 : decode yB 2 = .ok (.iconst 0, 1) := by decide +kernel
theorem d3 : decode yB 3 = .ok (.aload_n 1, 1) := by decide +kernel
theorem d4 : decode yB 4 = .ok (.arraylength, 1) := by decide +kernel
theorem d5 : decode yB 5 = .ok (.aconst_null, 1) := by decide +kernel
theorem d6 : decode yB 6 = .ok (.invokespecial 27, 3) := by decide +kernel
theorem d9 : decode yB 9 = .ok (.return_, 1) := by decide +kernel
def site : List Cond := [New4.tab] ++ initW "java/lang/String" 27 New4.yN
def tab : Cond := tabOf yN yB 2 none site
def P (a : Addr) (D : Cell) (fV fC : Field) (b : Addr) (A : Cell) (z : Int32) (args : Array Value) (s : State) : Prop := args = #[.ref a, .ref b] ∧ Blank "java/lang/String" a D s ∧ Found "java/lang/String" "value" "[B" fV s ∧ Found "java/lang/String" "coder" "B" fC s ∧ Ch b A s ∧ StaticIs s "java/lang/String" "COMPACT_STRINGS" "Z" (.int z) ∧ ¬ z = 0 ∧ 0 < A.slots.size ∧ A.slots.size ≤ 536870912 ∧ ∀ i, i < A.slots.size → ¬ 255 < cv A i
def E (a : Addr) (D : Cell) (fV fC : Field) (A : Cell) (r : Option Value) (s u : State) : Prop := Got a D fV fC A 0 A.slots.size r s u
/-- new String(chars), not empty, no char above 255: a Latin-1 String of their low bytes -/
theorem law (l : Launch) (a : Addr) (D : Cell) (fV fC : Field) (b : Addr) (A : Cell) (z : Int32) : Law l yN 2 1 3 52 yB 2 none site (P a D fV fC b A z) (E a D fV fC A) [⟨a, fC.slot⟩, ⟨a, fV.slot⟩] 1 A.slots.size := by
  refine Law.of_walk (plainFor_of_name (by decide +kernel)) (by decide +kernel) (by decide +kernel) (by decide) (fun _ _ h => by rw [h.1]; rfl) (fun _ U U' hal hh h => ⟨h.1, h.2.1.mv hal hh, h.2.2.1.al hal, h.2.2.2.1.al hal, h.2.2.2.2.1.mv hal hh, h.2.2.2.2.2.1.there hal hh, h.2.2.2.2.2.2⟩) (fun r U U' V V' h1 hal h2 h => Got.mv r U U' V V' h1 hal h2 h) ?_
  intro p e s m args below meth c s₁ X0 hexec hbytes hml hret hlk hnm hown hh0 W hP
  obtain ⟨rfl, hB, f1, f2, hA, s1, hz, l0, l2, hp⟩ := hP
  have c1 : Steps p.tables e below (s₁.setTop (entryFrame m #[.ref a, .ref b] 2)) (s₁.setTop (mkF m 0 #[.val (.ref a), .val (.ref b)] [])) := entry rfl
  have c2 : Steps p.tables e below (s₁.setTop (entryFrame m #[.ref a, .ref b] 2)) (s₁.setTop (mkF m 6 #[.val (.ref a), .val (.ref b)] [.null, .int (Int32.ofNat A.slots.size), .int 0, .ref b, .ref a])) := c1.trans (by
    refine XS.aloadN X0.here hexec rfl (hb hbytes d0) rfl rfl ?_
    refine XS.aloadN X0.here hexec rfl (hb hbytes d1) rfl rfl ?_
    refine iconstV X0.here hexec rfl 0 (hb hbytes d2) (by decide) ?_
    refine XS.aloadN X0.here hexec rfl (hb hbytes d3) rfl rfl ?_
    refine X0.alen hexec (hA.1.mv X0.warmed.alike hh0) rfl rfl (hb hbytes d4) ?_
    refine XS.aconstNull X0.here hexec rfl (hb hbytes d5) ?_
    exact Steps.refl _)
  obtain ⟨v3, T3, X3, E3, g3⟩ := X0.callN hexec (New4.law l a D fV fC b A z 0 A.slots.size) rfl hown (wks W (initW "java/lang/String" 27 New4.yN)) (W New4.tab (by simp only [site, List.mem_cons, List.mem_append, true_or, or_true])) (W := 0) (Nat.le_of_ble_eq_true rfl) (Nat.le_of_ble_eq_true rfl) (Nat.le_refl _) (by show 0 + A.slots.size ≤ A.slots.size; omega) (g := (mkF m 6 #[.val (.ref a), .val (.ref b)] [.null, .int (Int32.ofNat A.slots.size), .int (Int32.ofNat 0), .ref b, .ref a])) rfl (by rw [hml]; rfl) c2 (argsL := [.ref b, .int (Int32.ofNat 0), .int (Int32.ofNat A.slots.size), .null]) (rest := []) rfl rfl (by show 2 * 0 + 0 ≤ _; decide) (hb hbytes d6) (⟨rfl, hB.mv X0.warmed.alike hh0, f1.al X0.warmed.alike, f2.al X0.warmed.alike, hA.mv X0.warmed.alike hh0, s1.there X0.warmed.alike hh0, hz, l0, by omega, l2, fun i hi => by rw [Nat.zero_add]; exact hp i hi⟩)
  have e0 := Got.mv _ s₁ s _ _ hh0.symm (Vm.Alike.refl _) rfl E3
  obtain rfl := e0.1
  have c4 : Steps p.tables e below (s₁.setTop (entryFrame m #[.ref a, .ref b] 2)) (T3.setTop (mkF m 9 #[.val (.ref a), .val (.ref b)] [])) := g3
  exact ⟨T3, none, _, _, _, X3, by simp, rfl, by omega, (fun _ => rfl), e0, fun fs hl => c4.trans (X3.returnOut hexec hret (hb hbytes d9) hl)⟩
theorem pays {l : Launch} {R : Room} {p : Program} {e : Env} {below : List Frame} {s : State} {sargs : Array Value} {len W : Nat} (a : Addr) (D : Cell) (fV fC : Field) (b : Addr) (A : Cell) (z : Int32) (htab : tab.before sargs s = true) (hfr : 4 ≤ R.frames) (hlo : W + 65 ≤ R.locals) :
    Back l R p e below s sargs yN len W (fun A₁ a₁ => A₁.cells + 1 ≤ R.cells ∧ A₁.slots + A.slots.size ≤ R.slots ∧ P a D fV fC b A z a₁ A₁.U) (fun A₁ _ v₁ B₁ => E a D fV fC A v₁ A₁.U B₁.U ∧ B₁.locs = A₁.locs ++ [⟨a, fC.slot⟩, ⟨a, fV.slot⟩] ∧ B₁.cells = A₁.cells + 1 ∧ B₁.slots = A₁.slots + A.slots.size) :=
  (law l a D fV fC b A z).pays htab hfr (by omega)
end New1
/-- the byte, read back as charAt reads it, is the char -/
theorem lo8_mask {x : Int32} (h0 : ¬ x < 0) (h1 : ¬ 255 < x) : lo8 x &&& 255 = x := by
  have t : ∀ k : Fin 256, lo8 (Int32.ofNat k.val) &&& 255 = Int32.ofNat k.val := by decide +kernel
  rw [Int32.lt_iff_toInt_lt] at h0 h1
  have e0 : (0 : Int32).toInt = 0 := rfl
  have e1 : (255 : Int32).toInt = 255 := rfl
  obtain ⟨k, hk⟩ : ∃ k : Nat, x.toInt = k := ⟨x.toInt.toNat, by omega⟩
  have hx : x = Int32.ofNat k := Int32.toInt_inj.mp (by rw [hk, Int32.toInt_ofNat_small (by omega)])
  rw [hx]
  exact t ⟨k, by omega⟩
end StrChars
namespace StrChars.Road
open Jvm Sem ClassFile Op Lib Jvm.Stand Jvm.Free Jvm.Free.XT
open Jvm.Lib.Cold (StaticIs)
abbrev ST : String := "java/lang/String"
/-- every table word that New1's law asks, flat -/
abbrev words : List Jvm.Cond := [.code New1.yN New1.yB 2 none, .initialized ST, .methodLink ST 27 New4.yN, .instanceMethod New4.yN,
  .code New4.yN New4.yB 6 none, .fieldLink ST 38 ST "COMPACT_STRINGS" "Z", .laysFinal ST ST "value" "[B", .fieldLink ST 9 ST "value" "[B", .laysFinal ST ST "coder" "B", .fieldLink ST 15 ST "coder" "B",
  .methodLink ST 1 Lib.objectInit, .instanceMethod Lib.objectInit, .code Lib.objectInit ⟨#[0xb1]⟩ 1 none, .methodLink ST 177 Cmp3.yN, .static Cmp3.yN, .methodLink ST 47 CodL.yN, .static CodL.yN,
  .code Cmp3.yN Cmp3.yB 6 (some (.array .byte)), .initialized U16, .arrayClass .byte, .methodLink U16 115 Cmp5.yN, .static Cmp5.yN, .code Cmp5.yN Cmp5.yB 7 (some .int), .code CodL.yN CodL.yB 2 (some .byte)]
theorem tab_of {a : Array Value} {s : State} (h : ∀ w ∈ words, w.before a s = true) : New1.tab.before a s = true := by
  have h5 : Cmp5.tab.before a s = true := unparts (wk h (.code Cmp5.yN Cmp5.yB 7 (some .int))) (wks h (.initialized Cmp5.yN.cls :: Cmp5.site))
  have hc : CodL.tab.before a s = true := unparts (wk h (.code CodL.yN CodL.yB 2 (some .byte))) (wks h (.initialized CodL.yN.cls :: CodL.site))
  have q5 : ∀ w ∈ Cmp5.tab :: words, w.before a s = true := fun w hw => (List.mem_cons.mp hw).elim (fun e => e ▸ h5) (h w)
  have h3 : Cmp3.tab.before a s = true := unparts (wk q5 (.code Cmp3.yN Cmp3.yB 6 (some (.array .byte)))) (wks q5 (.initialized Cmp3.yN.cls :: Cmp3.site))
  have q3 : ∀ w ∈ Cmp3.tab :: CodL.tab :: words, w.before a s = true := fun w hw => (List.mem_cons.mp hw).elim (fun e => e ▸ h3) fun hw => (List.mem_cons.mp hw).elim (fun e => e ▸ hc) (h w)
  have h4 : New4.tab.before a s = true := unparts (wk q3 (.code New4.yN New4.yB 6 none)) (wks q3 (.initialized New4.yN.cls :: New4.site))
  have q4 : ∀ w ∈ New4.tab :: words, w.before a s = true := fun w hw => (List.mem_cons.mp hw).elim (fun e => e ▸ h4) (h w)
  exact unparts (wk q4 (.code New1.yN New1.yB 2 none)) (wks q4 (.initialized New1.yN.cls :: New1.site))
/-- the words ride from the start Z to the walk's own state -/
theorem moved {Z s : State} {a0 args : Array Value} (hZ : Z.Warmed39 s.vm) (hw : ∀ d ∈ words, d.before a0 Z = true) : ∀ d ∈ words, d.before args s = true := fun d hd => by
  have q := hw d hd
  have t : ∀ d ∈ words, d = .arrayClass .byte ∨ (d.onTables && d.keepsFace) = true := by decide +kernel
  rcases t d hd with rfl | t
  · exact RoadKit.mvA hZ q
  · exact RoadKit.mv hZ q t
/-- WHAT COMES BACK, over the tables of the start Z: h the heap at the call, h' behind it -/
def Q (Z : State) (x : Addr) (A : Cell) (h : Heap) (v : Option Value) (h' : Heap) (L : List Loc) : Prop := v = none ∧ (∀ y ∈ L, y.base = x) ∧ RoadKit.Keep h h' [x] ∧ h'.size = h.size + 1 ∧ RoadKit.Exa Z h' x ST ∧ RoadKit.Fld Z h' x ST "value" "[B" (.ref h.size) ∧ RoadKit.Fld Z h' x ST "coder" "B" (.int 0) ∧
  (∃ V : Cell, RoadKit.Arr Z h' h.size V .byte ∧ V.vm = .none ∧ Z.vm.findClass "[B" = some V.cls ∧ V.slots.size = A.slots.size ∧ ∀ j, j < A.slots.size → V.slots[j]? = some (.int (lo8 (cv A j)))) ∧
  ∀ (O n d : String) (w : Value), RoadKit.Fld Z h x O n d w → RoadKit.slotOf Z O n d ≠ RoadKit.slotOf Z ST "value" "[B" → RoadKit.slotOf Z O n d ≠ RoadKit.slotOf Z ST "coder" "B" → RoadKit.Fld Z h' x O n d w
/-- **new String(chars) AT A CALL, IN THE ROAD'S FORM**: for specialBack behind newO: x the fresh String, b the char[] with the cell A -/
theorem back {p : Program} {l : Launch} {e : Env} {R : Room} {s : State} {args : Array Value} {below : List Frame} {len W : Nat} {Z : State} {a0 : Array Value} {h : Heap} (hZ : Z.Warmed39 s.vm) (hw : ∀ d ∈ words, d.before a0 Z = true) {kI : Nat} (wi : (Jvm.Cond.instantiable ST kI).before a0 Z = true)
    {x b : Addr} {A : Cell} {z : Int32} {v0 c0 : Value} (E : RoadKit.Exa Z h x ST) (V : RoadKit.Fld Z h x ST "value" "[B" v0) (C : RoadKit.Fld Z h x ST "coder" "B" c0) (K : RoadKit.Arr Z h b A .char) (hty : Typed .char A) (S : RoadKit.Sta Z h ST "COMPACT_STRINGS" "Z" (.int z)) (hz : ¬ z = 0)
    (l0 : 0 < A.slots.size) (l2 : A.slots.size ≤ 536870912) (hp : ∀ i, i < A.slots.size → ¬ 255 < cv A i) (hfr : 4 ≤ R.frames) (hlo : W + 65 ≤ R.locals) :
    Back l R p e below s args New1.yN len W (fun P a => a = #[.ref x, .ref b] ∧ P.U.heap = h ∧ P.cells + 1 ≤ R.cells ∧ P.slots + A.slots.size ≤ R.slots)
      (fun P _ v B => ∃ L, Q Z x A h v B.U.heap L ∧ B.locs = P.locs ++ L ∧ B.cells = P.cells + 1 ∧ B.slots = P.slots + A.slots.size) := by
  intro m meth c P g ig mk a X hg hsize hdg hW hn hp'
  obtain ⟨rfl, rfl, r1, r2⟩ := hp'
  have al : Z.vm.Alike P.U.vm := hZ.alike.trans X.warmed.alike
  obtain ⟨D, cfV, kV, iV, fV, hD, gV, stV, knV, obV, asV, slV⟩ := id V
  obtain ⟨D', cfC, kC, iC, fC, hD', gC, stC, -, -, asC, slC⟩ := id C
  cases hD.symm.trans hD'
  obtain ⟨D2, kD, e1, e2, e3, e4, e5⟩ := id E
  cases hD.symm.trans e1
  obtain ⟨c2, k2, i1, i2, i3, -⟩ := Cond.instantiable_spec wi
  cases e2.symm.trans i1
  cases e3.symm.trans i2
  obtain ⟨kU, u1, u2⟩ := al.2.2 _ _ e3
  have hB : Blank ST x D P.U := ⟨hD, ⟨knV, fun q hq => by rw [hq] at obV; cases obV⟩, by rw [al.findClass]; exact e2, kU, u1, by rw [u2]; exact i3, by rw [u2]; exact e5 i3⟩
  have F1 : Found ST "value" "[B" fV P.U := ⟨SBG.found_only al ⟨cfV, kV, iV, gV⟩, stV⟩
  have F2 : Found ST "coder" "B" fC P.U := ⟨SBG.found_only al ⟨cfC, kC, iC, gC⟩, stC⟩
  have hA : Ch b A P.U := ⟨⟨K.1, State.isArrayOf_alike al K.2.1, K.2.2, by omega⟩, hty⟩
  have hS : StaticIs P.U ST "COMPACT_STRINGS" "Z" (.int z) := by
    obtain ⟨cfS, iS, kS, fS, st, cS, t1, t2, t3, t4, t5, t6, t7⟩ := S
    exact StaticIs.there (s := { Z with heap := P.U.heap }) ⟨cfS, iS, kS, fS, st, cS, t1, t2, t3, t4, t5, (fun q => by rw [q] at t6; cases t6), t7⟩ al rfl
  obtain ⟨v, B, X', ⟨⟨hv, E', V', q1, q2, q3, q4, q5, q6, q7, q8, q9, q10, q11⟩, hl, hc, hs⟩, st⟩ := New1.pays x D fV fC b A z (tab_of (moved hZ hw)) hfr hlo m meth c P g ig mk _ X hg hsize hdg hW hn ⟨r1, r2, rfl, hB, F1, F2, hA, hS, hz, l0, l2, hp⟩
  have al' : Z.vm.Alike B.U.vm := hZ.alike.trans X'.warmed.alike
  have hsz : E'.slots.size = D.slots.size := by
    obtain ⟨-, -, -, kB, w1, w2, w3⟩ := q1
    obtain ⟨kB', y1, y2⟩ := al'.2.2 _ _ e3
    rw [q2.2.1] at w1
    cases w1.symm.trans y1
    rw [w3, e5 i3, y2]
  refine ⟨v, B, X', ⟨_, ⟨hv, ?_, ⟨by omega, fun y cy hy hn' => q10 y cy (by simpa using hn') hy, fun y cy hy => ?_⟩, q11, ⟨E', _, q1.1, by rw [q2.2.1]; exact e2, by rw [q2.2.1]; exact e3, by rw [q2.1]; exact obV, fun _ => by rw [hsz]; exact e5 i3⟩,
    ⟨E', cfV, kV, iV, fV, q1.1, gV, stV, by rw [q2.1]; exact knV, by rw [q2.1]; exact obV, by rw [q2.2.1]; exact asV, q3⟩, ⟨E', cfC, kC, iC, fC, q1.1, gC, stC, by rw [q2.1]; exact knV, by rw [q2.1]; exact obV, by rw [q2.2.1]; exact asC, q4⟩,
    ⟨V', ⟨q5.1, State.isArrayOf_alike al'.symm q5.2.1, q5.2.2.1⟩, q6, by rw [← al'.findClass]; exact q7, q8, fun j hj => by have := q9 j hj; rwa [Nat.zero_add] at this⟩, fun O n d w F n1 n2 => ?_⟩, hl, hc, hs⟩, st⟩
  · intro y hy
    simp only [List.mem_cons, List.not_mem_nil, or_false] at hy
    rcases hy with rfl | rfl <;> rfl
  · by_cases q : y = x
    · subst q
      cases hD.symm.trans hy
      exact ⟨E', q1.1, q2.2.1, q2.1, hsz⟩
    · exact ⟨cy, q10 y cy q hy, rfl, rfl, rfl⟩
  · obtain ⟨D3, cf, k, i, f, g1, g2, g3, g4, g5, g6, g7⟩ := F
    cases hD.symm.trans g1
    simp only [RoadKit.slotOf, g2, gV, gC, Option.map_some, Option.getD_some] at n1 n2
    exact ⟨E', cf, k, i, f, q1.1, g2, g3, by rw [q2.1]; exact g4, by rw [q2.1]; exact g5, by rw [q2.2.1]; exact g6, by rw [q2.2.2 f.slot (by simp [n1, n2])]; exact g7⟩
end StrChars.Road
namespace StrChars.Road
open Jvm Sem ClassFile Op Lib Jvm.Stand Jvm.Free Jvm.Free.XT
/-- WHAT COMES BACK, the byte[] as a list of values -/
def QA (Z : State) (x : Addr) (zn : Int32) (cs : List Int32) (h : Heap) (v : Option Value) (h' : Heap) (L : List Loc) : Prop := v = none ∧ (∀ y ∈ L, y.base = x) ∧ RoadKit.Keep h h' [x] ∧ h'.size = h.size + 1 ∧ RoadKit.Exa Z h' x ST ∧ RoadKit.Fld Z h' x ST "value" "[B" (.ref h.size) ∧ RoadKit.Fld Z h' x ST "coder" "B" (.int 0) ∧
  (∃ kb, Z.vm.findClass "[B" = some kb ∧ RoadKit.Arv Z h' h.size kb .byte zn (cs.map fun c => .int (lo8 c)) (.int 0)) ∧
  ∀ (O n d : String) (w : Value), RoadKit.Fld Z h x O n d w → RoadKit.slotOf Z O n d ≠ RoadKit.slotOf Z ST "value" "[B" → RoadKit.slotOf Z O n d ≠ RoadKit.slotOf Z ST "coder" "B" → RoadKit.Fld Z h' x O n d w
/-- **new String(chars) AT A CALL, THE ARRAYS AS LISTS**: the char[] at b holds cs, not empty, no char above 255 -/
theorem backArv {p : Program} {l : Launch} {e : Env} {R : Room} {s : State} {args : Array Value} {below : List Frame} {len W : Nat} {Z : State} {a0 : Array Value} {h : Heap} (hZ : Z.Warmed39 s.vm) (hw : ∀ d ∈ words, d.before a0 Z = true) {kI : Nat} (wi : (Jvm.Cond.instantiable ST kI).before a0 Z = true)
    {x b : Addr} {k : ClassId} {zn z : Int32} {cs : List Int32} {dv v0 c0 : Value} (E : RoadKit.Exa Z h x ST) (V : RoadKit.Fld Z h x ST "value" "[B" v0) (C : RoadKit.Fld Z h x ST "coder" "B" c0) (K : RoadKit.Arv Z h b k .char zn (cs.map Value.int) dv) (S : RoadKit.Sta Z h ST "COMPACT_STRINGS" "Z" (.int z)) (hz : ¬ z = 0)
    (hlen : zn.toNatClampNeg = cs.length) (h0 : 0 < cs.length) (hbig : cs.length ≤ 536870912) (hall : ∀ c ∈ cs, ¬ 255 < c) (hfr : 4 ≤ R.frames) (hlo : W + 65 ≤ R.locals) :
    Back l R p e below s args New1.yN len W (fun P a => a = #[.ref x, .ref b] ∧ P.U.heap = h ∧ P.cells + 1 ≤ R.cells ∧ P.slots + cs.length ≤ R.slots)
      (fun P _ v B => ∃ L, QA Z x zn cs h v B.U.heap L ∧ B.locs = P.locs ++ L ∧ B.cells = P.cells + 1 ∧ B.slots = P.slots + cs.length) := by
  obtain ⟨A, K1, K2, K3, K4, K5, K6⟩ := K
  have e : A.slots.size = cs.length := K3.trans hlen
  have hat : ∀ (i : Nat) (hi : i < cs.length), A.slots[i]? = some (.int cs[i]) := fun i hi => by rw [K5 i (by omega)]; simp [List.getD_eq_getElem?_getD, hi]
  have hcv : ∀ (i : Nat) (hi : i < cs.length), cv A i = cs[i] := fun i hi => by unfold cv; rw [hat i hi]
  have hty : Typed .char A := fun i v hv => by
    have hi : i < A.slots.size := (Array.getElem?_eq_some_iff.mp hv).1
    have q := K5 i hi
    rw [hv] at q
    rw [Option.some.inj q]
    exact K6 i hi
  refine Back.mono (back hZ hw wi E V C K1 hty S hz (by omega) (by omega) (fun i hi => by rw [hcv i (by omega)]; exact hall _ (List.getElem_mem _)) hfr hlo) (fun P a hp => ⟨hp.1, hp.2.1, hp.2.2.1, by rw [e]; exact hp.2.2.2⟩) (fun P a v B hp hq => ?_)
  obtain ⟨L, ⟨q1, q2, q3, q4, q5, q6, q7, ⟨V', v1, v2, v3, v4, v5⟩, q9⟩, hl, hc, hs⟩ := hq
  refine ⟨L, ⟨q1, q2, q3, q4, q5, q6, q7, ⟨V'.cls, v3, V', v1, rfl, by rw [v4, e, hlen], K4, fun i hi => ?_, fun i hi => ?_⟩, q9⟩, hl, hc, by rw [hs, e]⟩
  · have hi' : i < cs.length := by omega
    rw [v5 i (by omega), hcv i hi']; simp [List.getD_eq_getElem?_getD, hi']
  · have hi' : i < cs.length := by omega
    simp only [List.getD_eq_getElem?_getD, List.getElem?_map, List.getElem?_eq_getElem hi', Option.map_some, Option.getD_some]
    exact fits_lo8 _
end StrChars.Road
namespace StrChars.Road
open Jvm Sem ClassFile Op Lib Jvm.Stand Jvm.Free Jvm.Free.XT
/-- WHAT COMES BACK, in the writer's own shape -/
def QV (Z : State) (x : Addr) (N : Int32) (bs : List Int32) (h : Heap) (n0 : Nat) (v : Option Value) (h' : Heap) (L : List Loc) : Prop := v = none ∧ RoadKit.Fr n0 L ∧ RoadKit.Keep h h' [x] ∧ RoadKit.Exa Z h' x ST ∧ RoadKit.Fld Z h' x ST "coder" "B" (.int 0) ∧
  ∃ (t : Addr) (kb : ClassId), n0 ≤ t ∧ h.size ≤ t ∧ ¬ t = x ∧ RoadKit.Fld Z h' x ST "value" "[B" (.ref t) ∧ RoadKit.Arv Z h' t kb .byte N (bs.map Value.int) (.int 0)
/-- **new String(chars) AT A CALL, FOR THE WRITER**: a char[] of n known ints, each 0 to 255 -/
theorem backV {p : Program} {l : Launch} {e : Env} {R : Room} {s : State} {args : Array Value} {below : List Frame} {len W : Nat} {Z : State} {a0 : Array Value} {h : Heap} (hZ : Z.Warmed39 s.vm) (hw : ∀ d ∈ words, d.before a0 Z = true) {kI : Nat} (wi : (Jvm.Cond.instantiable ST kI).before a0 Z = true)
    {x b : Addr} {kC : ClassId} {cs bs : List Int32} {d v0 c0 : Value} {z N : Int32} {n n0 : Nat} (hx0 : n0 ≤ x) (hh0 : n0 ≤ h.size) (E : RoadKit.Exa Z h x ST) (V : RoadKit.Fld Z h x ST "value" "[B" v0) (C : RoadKit.Fld Z h x ST "coder" "B" c0) (K : RoadKit.Arv Z h b kC .char N (cs.map Value.int) d) (S : RoadKit.Sta Z h ST "COMPACT_STRINGS" "Z" (.int z)) (hz : ¬ z = 0)
    (hn : cs.length = n) (hN : N = Int32.ofNat n) (l0 : 0 < n) (l2 : n ≤ 4000) (hp : ∀ c ∈ cs, ¬ c < 0 ∧ ¬ (255 : Int32) < c) (hb : bs = cs.map (fun c => c.toInt8.toInt32)) (hfr : 4 ≤ R.frames) (hlo : W + 65 ≤ R.locals) :
    Back l R p e below s args (⟨"java/lang/String", "<init>", "([C)V"⟩ : MethodName) len W (fun P a => a = #[.ref x, .ref b] ∧ P.U.heap = h ∧ P.cells + 1 ≤ R.cells ∧ P.slots + n ≤ R.slots)
      (fun P _ v B => ∃ L, QV Z x N bs h n0 v B.U.heap L ∧ B.locs = P.locs ++ L ∧ B.cells = P.cells + 1 ∧ B.slots = P.slots + n) := by
  subst hn hN hb
  refine Back.mono (backArv hZ hw wi E V C K S hz (n32 (by omega)) l0 (by omega) (fun c hc => (hp c hc).2) hfr hlo) (fun P a hp => hp) (fun P a v B hp hq => ?_)
  obtain ⟨L, ⟨q1, q2, q3, q4, q5, q6, q7, ⟨kb, v1, v2⟩, q9⟩, hl, hc, hs⟩ := hq
  exact ⟨L, ⟨q1, fun y hy => by rw [q2 y hy]; exact hx0, q3, q5, q7, h.size, kb, hh0, Nat.le_refl _, Nat.ne_of_gt E.lt, q6, by rw [List.map_map]; exact v2⟩, hl, hc, hs⟩
end StrChars.Road
namespace StrChars
open Jvm Sem ClassFile Op Lib Jvm.Stand Jvm.Free.XT Jvm.Free.ALB Jvm.Free.JM Jvm.Free
open Jvm.Lib.Cold (StaticIs)
def hi8 (x : Int32) : Int32 := lo8 (x >>> ((8 : Int32) &&& 31))
/-- what StringUTF16.getChar makes of two bytes -/
def pairCh (u v : Int32) : Int32 := (((u &&& 255) <<< ((0 : Int32) &&& 31)) ||| ((v &&& 255) <<< ((8 : Int32) &&& 31))).toUInt32.toUInt16.toUInt32.toInt32
theorem lo8_and (x : Int32) : (lo8 x &&& 255).toBitVec.toNat = x.toBitVec.toNat % 256 := by
  have h : (lo8 x).toBitVec = (x.toBitVec.signExtend 8).signExtend 32 := by rw [lo8, Int8.toBitVec_toInt32, Int32.toBitVec_toInt8]
  rw [Int32.toBitVec_and, BitVec.toNat_and, h]
  have e : ((x.toBitVec.signExtend 8).signExtend 32).toNat % 256 = x.toBitVec.toNat % 256 := by
    rw [BitVec.toNat_signExtend]
    have hlt := x.toBitVec.isLt
    simp only [BitVec.toNat_setWidth, BitVec.toNat_signExtend]
    split <;> split <;> omega
  rw [← e]
  exact Nat.and_two_pow_sub_one_eq_mod _ 8
theorem pair_says {c : Int32} (h0 : ¬ c < 0) (h1 : ¬ 65535 < c) : pairCh (lo8 c) (hi8 c) = c := by
  rw [Int32.lt_iff_toInt_lt] at h0 h1
  have e0 : (0 : Int32).toInt = 0 := rfl
  have e1 : (65535 : Int32).toInt = 65535 := rfl
  have hc : c.toInt = c.toBitVec.toNat := by
    have := c.toBitVec.isLt
    have e : c.toInt = c.toBitVec.toInt := rfl
    rw [e] at h0 h1
    rw [e]
    rw [BitVec.toInt_eq_toNat_cond] at h0 h1 ⊢
    split at h0 <;> split <;> omega
  have hn : c.toBitVec.toNat < 65536 := by omega
  have a1 := lo8_and c
  have a2 : (hi8 c &&& 255).toBitVec.toNat = c.toBitVec.toNat / 256 := by
    rw [hi8, lo8_and]
    have e : ((8 : Int32) &&& 31) = 8 := by decide
    rw [e, Int32.toBitVec_shiftRight]
    have e2 : ((8 : Int32).toBitVec.smod 32) = 8#32 := by decide
    rw [e2, BitVec.sshiftRight_eq', BitVec.toNat_sshiftRight_of_msb_false (by rw [BitVec.msb_eq_false_iff_two_mul_lt]; omega)]
    show c.toBitVec.toNat >>> 8 % 256 = _
    rw [Nat.shiftRight_eq_div_pow]
    omega
  unfold pairCh
  apply Int32.toBitVec_inj.mp
  apply BitVec.eq_of_toNat_eq
  have f0 : ((0 : Int32) &&& 31) = 0 := by decide
  have f8 : ((8 : Int32) &&& 31) = 8 := by decide
  rw [f0, f8]
  have g : (((lo8 c &&& 255) <<< (0 : Int32)) ||| ((hi8 c &&& 255) <<< (8 : Int32))).toBitVec.toNat = c.toBitVec.toNat := by
    rw [Int32.toBitVec_or, Int32.toBitVec_shiftLeft, Int32.toBitVec_shiftLeft]
    have s0 : ((0 : Int32).toBitVec.smod 32) = 0#32 := by decide
    have s8 : ((8 : Int32).toBitVec.smod 32) = 8#32 := by decide
    rw [s0, s8, BitVec.toNat_or]
    simp only [BitVec.shiftLeft_eq', BitVec.toNat_shiftLeft, a1, a2]
    show (c.toBitVec.toNat % 256) <<< 0 % 2 ^ 32 ||| (c.toBitVec.toNat / 256) <<< 8 % 2 ^ 32 = _
    rw [Nat.shiftLeft_zero, Nat.mod_eq_of_lt (show c.toBitVec.toNat % 256 < 2 ^ 32 by omega), Nat.mod_eq_of_lt (show (c.toBitVec.toNat / 256) <<< 8 < 2 ^ 32 by rw [Nat.shiftLeft_eq]; omega), Nat.or_comm, ← Nat.shiftLeft_add_eq_or_of_lt (by omega), Nat.shiftLeft_eq]
    omega
  show BitVec.toNat (((((lo8 c &&& 255) <<< (0 : Int32)) ||| ((hi8 c &&& 255) <<< (8 : Int32))).toBitVec.setWidth 16).setWidth 32) = _
  rw [BitVec.toNat_setWidth, BitVec.toNat_setWidth, g]
  omega
end StrChars
namespace StrChars
open Jvm Sem ClassFile Op Lib Jvm.Stand Jvm.Free.XT Jvm.Free.ALB Jvm.Free.JM Jvm.Free
open Jvm.Lib.Cold (StaticIs)
/-- the array's cell V codes the n chars f 0 .. f (n - 1) by the coder cd, as the JDK does: coder 1 just where some char is above 255 -/
def Cod (cd : Int32) (n : Nat) (f : Nat → Int32) (V : Cell) : Prop := (cd = 0 ∧ V.slots.size = n ∧ ∀ j, j < n → V.slots[j]? = some (.int (lo8 (f j))) ∧ ¬ 255 < f j) ∨ (cd = 1 ∧ V.slots.size = 2 * n ∧ (∀ j, j < n → V.slots[2 * j]? = some (.int (lo8 (f j))) ∧ V.slots[2 * j + 1]? = some (.int (hi8 (f j)))) ∧ ∃ j, j < n ∧ 255 < f j)
/-- **x is a String of the n chars f 0 .. f (n - 1)**, Latin-1 or UTF-16; its array at t has the cell V -/
def Txt (x t : Addr) (V : Cell) (cd : Int32) (n : Nat) (f : Nat → Int32) (U : State) : Prop := Exact "java/lang/String" x U ∧ Has x "java/lang/String" "value" "[B" (.ref t) U ∧ Has x "java/lang/String" "coder" "B" (.int cd) U ∧ XT.Arr .byte t V U ∧ Cod cd n f V ∧ ∀ j, j < n → ¬ f j < 0 ∧ ¬ 65535 < f j
theorem Txt.mv {x t : Addr} {V : Cell} {cd : Int32} {n : Nat} {f : Nat → Int32} {U U' : State} (h : Txt x t V cd n f U) (hal : U.vm.Alike U'.vm) (hh : U'.heap = U.heap) : Txt x t V cd n f U' := ⟨h.1.mv hal hh, h.2.1.mv hal hh, h.2.2.1.mv hal hh, h.2.2.2.1.mv hal hh, h.2.2.2.2⟩
end StrChars
namespace StrChars.Road
open Jvm Sem ClassFile Op Lib Jvm.Stand Jvm.Free Jvm.Free.XT
open Jvm.Lib.Cold (StaticIs)
theorem consq {a : Array Value} {s : State} {c : Jvm.Cond} {L : List Jvm.Cond} (h0 : c.before a s = true) (h : ∀ w ∈ L, w.before a s = true) : ∀ w ∈ c :: L, w.before a s = true := fun w hw => (List.mem_cons.mp hw).elim (fun e => e ▸ h0) (h w)
/-- the bytes of the chars cs, low before high -/
def wideBytes : List Int32 → List Value
  | [] => []
  | c :: cs => .int (lo8 c) :: .int (hi8 c) :: wideBytes cs
theorem wide_lo (d : Value) : ∀ (cs : List Int32) (j : Nat), j < cs.length → (wideBytes cs).getD (2 * j) d = .int (lo8 (cs.getD j 0))
  | [], j, h => absurd h (Nat.not_lt_zero j)
  | c :: cs, 0, _ => rfl
  | c :: cs, j + 1, h => by
    have q := wide_lo d cs j (by simpa using h)
    rw [show 2 * (j + 1) = 2 * j + 1 + 1 from by omega]
    simpa [wideBytes] using q
theorem wide_hi (d : Value) : ∀ (cs : List Int32) (j : Nat), j < cs.length → (wideBytes cs).getD (2 * j + 1) d = .int (hi8 (cs.getD j 0))
  | [], j, h => absurd h (Nat.not_lt_zero j)
  | c :: cs, 0, _ => rfl
  | c :: cs, j + 1, h => by
    have q := wide_hi d cs j (by simpa using h)
    rw [show 2 * (j + 1) + 1 = 2 * j + 1 + 1 + 1 from by omega]
    simpa [wideBytes] using q
theorem low_at (d : Value) (cs : List Int32) (j : Nat) (h : j < cs.length) : (cs.map fun c => Value.int (lo8 c)).getD j d = .int (lo8 (cs.getD j 0)) := by
  simp [List.getD_eq_getElem?_getD, h]
/-- an array of N2 bytes vs codes the chars cs by the coder cd -/
def CodA (cs : List Int32) (cd N2 : Int32) (vs : List Value) : Prop := (cd = 0 ∧ N2 = Int32.ofNat cs.length ∧ vs = (cs.map fun c => Value.int (lo8 c)) ∧ ∀ c ∈ cs, ¬ 255 < c) ∨ (cd = 1 ∧ N2 = Int32.ofNat (2 * cs.length) ∧ vs = wideBytes cs ∧ ∃ c ∈ cs, 255 < c)
theorem CodA.cod {cs : List Int32} {cd N2 : Int32} {vs : List Value} {V : Cell} (h : CodA cs cd N2 vs) (hn : 2 * cs.length < 2 ^ 31) (hs : V.slots.size = N2.toNatClampNeg) (hv : RoadKit.Has V vs (.int 0)) : Cod cd cs.length (fun j => cs.getD j 0) V := by
  rcases h with ⟨rfl, rfl, rfl, h⟩ | ⟨rfl, rfl, rfl, c, hc, hw⟩
  · rw [n32 (by omega)] at hs
    exact Or.inl ⟨rfl, hs, fun j hj => ⟨by rw [hv j (by omega), low_at _ _ _ hj], by
      have e : cs.getD j 0 = cs[j] := by simp [List.getD_eq_getElem?_getD, hj]
      show ¬ 255 < cs.getD j 0
      rw [e]; exact h _ (List.getElem_mem _)⟩⟩
  · rw [n32 (by omega)] at hs
    obtain ⟨j, hj, rfl⟩ := List.getElem_of_mem hc
    exact Or.inr ⟨rfl, hs, fun j hj => ⟨by rw [hv _ (by omega), wide_lo _ _ _ hj], by rw [hv _ (by omega), wide_hi _ _ _ hj]⟩, j, hj, by
      have e : cs.getD j 0 = cs[j] := by simp [List.getD_eq_getElem?_getD, hj]
      show 255 < cs.getD j 0
      rw [e]; exact hw⟩
/-- an object of exactly java/lang/String, its two fields found: as the laws ask it -/
theorem strObj {Z U : State} {a0 : Array Value} {kI : Nat} (wi : (Jvm.Cond.instantiable ST kI).before a0 Z = true) (al : Z.vm.Alike U.vm) {x : Addr} {v0 c0 : Value} (E : RoadKit.Exa Z U.heap x ST) (V : RoadKit.Fld Z U.heap x ST "value" "[B" v0) (C : RoadKit.Fld Z U.heap x ST "coder" "B" c0) :
    ∃ (D : Cell) (fV fC : Field), Blank ST x D U ∧ Found ST "value" "[B" fV U ∧ Found ST "coder" "B" fC U ∧ D.slots[fV.slot]? = some v0 ∧ D.slots[fC.slot]? = some c0 ∧ RoadKit.slotOf Z ST "value" "[B" = fV.slot ∧ RoadKit.slotOf Z ST "coder" "B" = fC.slot := by
  obtain ⟨D, cfV, kV, iV, fV, hD, gV, stV, knV, obV, asV, slV⟩ := V
  obtain ⟨D', cfC, kC, iC, fC, hD', gC, stC, -, -, asC, slC⟩ := C
  cases hD.symm.trans hD'
  obtain ⟨D2, kD, e1, e2, e3, e4, e5⟩ := E
  cases hD.symm.trans e1
  obtain ⟨c2, k2, i1, i2, i3, -⟩ := Cond.instantiable_spec wi
  cases e2.symm.trans i1
  cases e3.symm.trans i2
  obtain ⟨kU, u1, u2⟩ := al.2.2 _ _ e3
  exact ⟨D, fV, fC, ⟨hD, ⟨knV, fun q hq => by rw [hq] at obV; cases obV⟩, by rw [al.findClass]; exact e2, kU, u1, by rw [u2]; exact i3, by rw [u2]; exact e5 i3⟩, ⟨SBG.found_only al ⟨cfV, kV, iV, gV⟩, stV⟩, ⟨SBG.found_only al ⟨cfC, kC, iC, gC⟩, stC⟩, slV, slC, by simp [RoadKit.slotOf, gV], by simp [RoadKit.slotOf, gC]⟩
theorem sta_is {Z U : State} (al : Z.vm.Alike U.vm) {C n d : String} {v : Value} (S : RoadKit.Sta Z U.heap C n d v) : StaticIs U C n d v := by
  obtain ⟨cfS, iS, kS, fS, st, cS, t1, t2, t3, t4, t5, t6, t7⟩ := S
  exact StaticIs.there (s := { Z with heap := U.heap }) ⟨cfS, iS, kS, fS, st, cS, t1, t2, t3, t4, t5, (fun q => by rw [q] at t6; cases t6), t7⟩ al rfl
end StrChars.Road
namespace StrChars
open Jvm Sem ClassFile Op Lib Jvm.Stand Jvm.Free.XT Jvm.Free.ALB Jvm.Free.JM Jvm.Free
open Jvm.Lib.Cold (StaticIs)
/-- what place i of a byte[]'s cell holds -/
def yv (A : Cell) (i : Nat) : Int32 := match A.slots[i]? with | some (.int x) => x | _ => 0
theorem yv_get {a : Addr} {A : Cell} {U : State} (h : XT.Arr .byte a A U) (ht : Typed .byte A) {i : Nat} (hi : i < A.slots.size) : A.slots[i]? = some (.int (yv A i)) := by
  have e := Array.getElem?_eq_getElem hi
  have f := ht i _ e
  unfold yv; rw [e]
  generalize A.slots[i] = v at f
  cases v <;> simp [fits] at f ⊢
/-- the two arrays are equal, place for place -/
def EqC (A B : Cell) : Prop := A.slots.size = B.slots.size ∧ ∀ i, i < A.slots.size → yv A i = yv B i
/-- a boolean that says whether p -/
def Says01 (q : Prop) (r : Option Value) (s u : State) : Prop := ∃ v : Int32, r = some (.int v) ∧ u.heap = s.heap ∧ ((v = 1 ∧ q) ∨ (v = 0 ∧ ¬ q))
theorem Says01.mv {q : Prop} : ∀ r (U U' V V' : State), U'.heap = U.heap → V.vm.Alike V'.vm → V'.heap = V.heap → Says01 q r U V → Says01 q r U' V' :=
  fun r U U' V V' h1 _ h2 ⟨v, a, b, c⟩ => ⟨v, a, by rw [h1, h2]; exact b, c⟩
namespace LEq
def yN : MethodName := ⟨"java/lang/StringLatin1", "equals", "([B[B)Z"⟩
abbrev yB : ByteArray := jdk_43_method_13_code
theorem d0 : decode yB 0 = .ok (.aload_n 0, 1) := by decide +kernel
theorem d1 : decode yB 1 = .ok (.arraylength, 1) := by decide +kernel
theorem d2 : decode yB 2 = .ok (.aload_n 1, 1) := by decide +kernel
theorem d3 : decode yB 3 = .ok (.arraylength, 1) := by decide +kernel
theorem d4 : decode yB 4 = .ok (.if_icmp (.ne) 30, 3) := by decide +kernel
theorem d7 : decode yB 7 = .ok (.iconst 0, 1) := by decide +kernel
theorem d8 : decode yB 8 = .ok (.istore_n 2, 1) := by decide +kernel
theorem d9 : decode yB 9 = .ok (.iload_n 2, 1) := by decide +kernel
theorem d10 : decode yB 10 = .ok (.aload_n 0, 1) := by decide +kernel
theorem d11 : decode yB 11 = .ok (.arraylength, 1) := by decide +kernel
theorem d12 : decode yB 12 = .ok (.if_icmp (.ge) 20, 3) := by decide +kernel
theorem d15 : decode yB 15 = .ok (.aload_n 0, 1) := by decide +kernel
theorem d16 : decode yB 16 = .ok (.iload_n 2, 1) := by decide +kernel
theorem d17 : decode yB 17 = .ok (.baload, 1) := by decide +kernel
theorem d18 : decode yB 18 = .ok (.aload_n 1, 1) := by decide +kernel
theorem d19 : decode yB 19 = .ok (.iload_n 2, 1) := by decide +kernel
theorem d20 : decode yB 20 = .ok (.baload, 1) := by decide +kernel
theorem d21 : decode yB 21 = .ok (.if_icmp (.eq) 5, 3) := by decide +kernel
theorem d24 : decode yB 24 = .ok (.iconst 0, 1) := by decide +kernel
theorem d25 : decode yB 25 = .ok (.ireturn, 1) := by decide +kernel
theorem d26 : decode yB 26 = .ok (.iinc 2 1, 3) := by decide +kernel
theorem d29 : decode yB 29 = .ok (.goto (-20), 3) := by decide +kernel
theorem d32 : decode yB 32 = .ok (.iconst 1, 1) := by decide +kernel
theorem d33 : decode yB 33 = .ok (.ireturn, 1) := by decide +kernel
theorem d34 : decode yB 34 = .ok (.iconst 0, 1) := by decide +kernel
theorem d35 : decode yB 35 = .ok (.ireturn, 1) := by decide +kernel
def site : List Cond := []
def tab : Cond := tabOf yN yB 3 (some .boolean) site
def P (a : Addr) (A : Cell) (b : Addr) (B : Cell) (args : Array Value) (s : State) : Prop := args = #[.ref a, .ref b] ∧ XT.Arr .byte a A s ∧ Typed .byte A ∧ XT.Arr .byte b B s ∧ Typed .byte B
/-- whether two byte[] are equal, place for place -/
theorem law (l : Launch) (a : Addr) (A : Cell) (b : Addr) (B : Cell) : Law l yN 2 2 0 0 yB 3 (some .boolean) site (P a A b B) (Says01 (EqC A B)) [] 0 0 := by
  refine Law.of_walk (plainFor_of_name (by decide +kernel)) (by decide +kernel) (by decide +kernel) (by decide) (fun _ _ h => by rw [h.1]; rfl) (fun _ U U' hal hh h => ⟨h.1, h.2.1.mv hal hh, h.2.2.1, h.2.2.2.1.mv hal hh, h.2.2.2.2⟩) (fun r U U' V V' h1 hal h2 h => Says01.mv r U U' V V' h1 hal h2 h) ?_
  intro p e s m args below meth c s₁ X0 hexec hbytes hml hret hlk hnm hown hh0 W hP
  obtain ⟨rfl, hA, tA, hB, tB⟩ := hP
  have a31 := hA.2.2.2
  have b31 := hB.2.2.2
  have hA0 := hA.mv X0.warmed.alike hh0
  have hB0 := hB.mv X0.warmed.alike hh0
  have c1 : Steps p.tables e below (s₁.setTop (entryFrame m #[.ref a, .ref b] 3)) (s₁.setTop (mkF m 0 #[.val (.ref a), .val (.ref b), .unset] [])) := entry rfl
  have c2 : Steps p.tables e below (s₁.setTop (entryFrame m #[.ref a, .ref b] 3)) (s₁.setTop (mkF m 4 #[.val (.ref a), .val (.ref b), .unset] [.int (Int32.ofNat B.slots.size), .int (Int32.ofNat A.slots.size)])) := c1.trans (by
    refine XS.aloadN X0.here hexec rfl (hb hbytes d0) rfl rfl ?_
    refine X0.alen hexec hA0 rfl rfl (hb hbytes d1) ?_
    refine XS.aloadN X0.here hexec rfl (hb hbytes d2) rfl rfl ?_
    refine X0.alen hexec hB0 rfl rfl (hb hbytes d3) ?_
    exact Steps.refl _)
  by_cases hs : A.slots.size = B.slots.size
  · have c3 : Steps p.tables e below (s₁.setTop (entryFrame m #[.ref a, .ref b] 3)) (s₁.setTop (mkF m 9 #[.val (.ref a), .val (.ref b), .val (.int 0)] [])) := c2.trans (by
      refine XS.icmpNo X0.here hexec rfl (hb hbytes d4) rfl (ii_ne_f (by rw [hs])) ?_
      refine iconstV X0.here hexec rfl 0 (hb hbytes d7) (by decide) ?_
      refine XS.istoreN X0.here hexec rfl (hb hbytes d8) rfl rfl ?_
      exact Steps.refl _)
    have loop : ∀ (r i : Nat), i + r = A.slots.size → (∀ j, j < i → yv A j = yv B j) → Steps p.tables e below (s₁.setTop (entryFrame m #[.ref a, .ref b] 3)) (s₁.setTop (mkF m 9 #[.val (.ref a), .val (.ref b), .val (.int (Int32.ofNat i))] [])) → ∃ (pc : Nat) (Ls : Array Slot) (v : Int32), (pc = 25 ∨ pc = 33) ∧ ((v = 1 ∧ EqC A B) ∨ (v = 0 ∧ ¬ EqC A B)) ∧ Steps p.tables e below (s₁.setTop (entryFrame m #[.ref a, .ref b] 3)) (s₁.setTop (mkF m pc Ls [.int v])) := by
      intro r
      induction r with
      | zero =>
        intro i hi he cl
        exact ⟨33, _, 1, Or.inr rfl, Or.inl ⟨rfl, hs, fun j hj => he j (by omega)⟩, cl.trans (by
          refine XS.iloadN X0.here hexec rfl (hb hbytes d9) rfl ?_
          refine XS.aloadN X0.here hexec rfl (hb hbytes d10) rfl rfl ?_
          refine X0.alen hexec hA0 rfl rfl (hb hbytes d11) ?_
          refine XS.icmpYes X0.here hexec rfl (pc0 := 12) rfl (hb hbytes d12) rfl (ii_ge_t (nlt32 (by omega) (by omega))) (by decide) rfl ?_
          refine iconstV X0.here hexec rfl 1 (hb hbytes d32) (by decide) ?_
          exact Steps.refl _)⟩
      | succ r ih =>
        intro i hi he cl
        have c4 : Steps p.tables e below (s₁.setTop (entryFrame m #[.ref a, .ref b] 3)) (s₁.setTop (mkF m 21 #[.val (.ref a), .val (.ref b), .val (.int (Int32.ofNat i))] [.int (yv B i), .int (yv A i)])) := cl.trans (by
          refine XS.iloadN X0.here hexec rfl (hb hbytes d9) rfl ?_
          refine XS.aloadN X0.here hexec rfl (hb hbytes d10) rfl rfl ?_
          refine X0.alen hexec hA0 rfl rfl (hb hbytes d11) ?_
          refine XS.icmpNo X0.here hexec rfl (hb hbytes d12) rfl (ii_ge_f (lt32 (by omega) (by omega))) ?_
          refine XS.aloadN X0.here hexec rfl (hb hbytes d15) rfl rfl ?_
          refine XS.iloadN X0.here hexec rfl (hb hbytes d16) rfl ?_
          refine X0.aget hexec hA0 rfl (yv_get hA tA (i := i) (by omega)) rfl rfl (hb hbytes d17) ?_
          refine XS.aloadN X0.here hexec rfl (hb hbytes d18) rfl rfl ?_
          refine XS.iloadN X0.here hexec rfl (hb hbytes d19) rfl ?_
          refine X0.aget hexec hB0 rfl (yv_get hB tB (i := i) (by omega)) rfl rfl (hb hbytes d20) ?_
          exact Steps.refl _)
        by_cases hv : yv A i = yv B i
        · have c5 : Steps p.tables e below (s₁.setTop (entryFrame m #[.ref a, .ref b] 3)) (s₁.setTop (mkF m 9 #[.val (.ref a), .val (.ref b), .val (.int (Int32.ofNat i + 1))] [])) := c4.trans (by
            refine XS.icmpYes X0.here hexec rfl (pc0 := 21) rfl (hb hbytes d21) rfl (ii_eq_t hv) (by decide) rfl ?_
            refine iincV X0.here hexec rfl 1 (hb hbytes d26) (by decide) rfl rfl ?_
            refine XS.goto X0.here hexec rfl (pc0 := 29) rfl (hb hbytes d29) (by decide) rfl ?_
            exact Steps.refl _)
          rw [succ32] at c5
          exact ih (i + 1) (by omega) (fun j hj => by
            by_cases e : j = i
            · rw [e]; exact hv
            · exact he j (by omega)) c5
        · exact ⟨25, _, 0, Or.inl rfl, Or.inr ⟨rfl, fun q => hv (q.2 i (by omega))⟩, c4.trans (by
            refine XS.icmpNo X0.here hexec rfl (hb hbytes d21) rfl (ii_eq_f hv) ?_
            refine iconstV X0.here hexec rfl 0 (hb hbytes d24) (by decide) ?_
            exact Steps.refl _)⟩
    obtain ⟨pc, Ls, v, hpc, hv, cz⟩ := loop A.slots.size 0 (by omega) (fun j hj => absurd hj (Nat.not_lt_zero j)) c3
    have nv : narrow .boolean (.int v) = .int v := by rcases hv with ⟨rfl, -⟩ | ⟨rfl, -⟩ <;> rfl
    rcases hpc with rfl | rfl
    · exact ⟨s₁, some (.int v), _, _, _, X0, rfl, rfl, rfl, (fun h => by cases h), ⟨v, rfl, hh0, hv⟩, fun fs hl => cz.trans (X0.ireturnOut hexec hret nv (Or.inr (Or.inl rfl)) (hb hbytes d25) hl)⟩
    · exact ⟨s₁, some (.int v), _, _, _, X0, rfl, rfl, rfl, (fun h => by cases h), ⟨v, rfl, hh0, hv⟩, fun fs hl => cz.trans (X0.ireturnOut hexec hret nv (Or.inr (Or.inl rfl)) (hb hbytes d33) hl)⟩
  · have c3 : Steps p.tables e below (s₁.setTop (entryFrame m #[.ref a, .ref b] 3)) (s₁.setTop (mkF m 35 #[.val (.ref a), .val (.ref b), .unset] [.int 0])) := c2.trans (by
      refine XS.icmpYes X0.here hexec rfl (pc0 := 4) rfl (hb hbytes d4) rfl (ii_ne_t (ne32 a31 b31 hs)) (by decide) rfl ?_
      refine iconstV X0.here hexec rfl 0 (hb hbytes d34) (by decide) ?_
      exact Steps.refl _)
    exact ⟨s₁, some (.int 0), _, _, _, X0, rfl, rfl, rfl, (fun h => by cases h), ⟨0, rfl, hh0, Or.inr ⟨rfl, fun q => hs q.1⟩⟩, fun fs hl => c3.trans (X0.ireturnOut hexec hret rfl (Or.inr (Or.inl rfl)) (hb hbytes d35) hl)⟩
end LEq
theorem Cod.ty {cd : Int32} {n : Nat} {f : Nat → Int32} {V : Cell} (h : Cod cd n f V) : Typed .byte V := fun i v hv => by
  have hi : i < V.slots.size := (Array.getElem?_eq_some_iff.mp hv).1
  rcases h with ⟨-, k1, k2⟩ | ⟨-, k1, k2, -⟩
  · rw [(k2 i (by omega)).1] at hv; cases hv; exact fits_lo8 _
  · rcases Nat.mod_two_eq_zero_or_one i with e | e
    · obtain ⟨j, rfl⟩ : ∃ j, i = 2 * j := ⟨i / 2, by omega⟩
      rw [(k2 j (by omega)).1] at hv; cases hv; exact fits_lo8 _
    · obtain ⟨j, rfl⟩ : ∃ j, i = 2 * j + 1 := ⟨i / 2, by omega⟩
      rw [(k2 j (by omega)).2] at hv; cases hv; exact fits_lo8 _
/-- the same text -/
def SameT (n : Nat) (f : Nat → Int32) (k : Nat) (g : Nat → Int32) : Prop := n = k ∧ ∀ j, j < n → f j = g j
theorem lo8_inj {x y : Int32} (h0 : ¬ x < 0) (h1 : ¬ 255 < x) (k0 : ¬ y < 0) (k1 : ¬ 255 < y) (h : lo8 x = lo8 y) : x = y := by
  rw [← lo8_mask h0 h1, ← lo8_mask k0 k1, h]
/-- arrays coded by one coder are equal just where the texts are -/
theorem Cod.eqv {cd : Int32} {n k : Nat} {f g : Nat → Int32} {V V' : Cell} (h : Cod cd n f V) (h' : Cod cd k g V') (hf : ∀ j, j < n → ¬ f j < 0 ∧ ¬ 65535 < f j) (hg : ∀ j, j < k → ¬ g j < 0 ∧ ¬ 65535 < g j) : EqC V V' ↔ SameT n f k g := by
  have yvv : ∀ {W : Cell} {i : Nat} {x : Int32}, W.slots[i]? = some (.int x) → yv W i = x := fun q => by unfold yv; rw [q]
  rcases h with ⟨rfl, k1, k2⟩ | ⟨rfl, k1, k2, -⟩
  · rcases h' with ⟨-, m1, m2⟩ | ⟨e, -⟩
    · constructor
      · rintro ⟨e1, e2⟩
        refine ⟨by omega, fun j hj => ?_⟩
        have q := e2 j (by omega)
        rw [yvv (k2 j hj).1, yvv (m2 j (by omega)).1] at q
        exact lo8_inj (hf j hj).1 (k2 j hj).2 (hg j (by omega)).1 (m2 j (by omega)).2 q
      · rintro ⟨rfl, e2⟩
        refine ⟨by omega, fun j hj => ?_⟩
        rw [yvv (k2 j (by omega)).1, yvv (m2 j (by omega)).1, e2 j (by omega)]
    · exact absurd e (by decide)
  · rcases h' with ⟨e, -⟩ | ⟨-, m1, m2, -⟩
    · exact absurd e (by decide)
    · constructor
      · rintro ⟨e1, e2⟩
        refine ⟨by omega, fun j hj => ?_⟩
        have q1 := e2 (2 * j) (by omega)
        have q2 := e2 (2 * j + 1) (by omega)
        rw [yvv (k2 j hj).1, yvv (m2 j (by omega)).1] at q1
        rw [yvv (k2 j hj).2, yvv (m2 j (by omega)).2] at q2
        rw [← pair_says (hf j hj).1 (hf j hj).2, ← pair_says (hg j (by omega)).1 (hg j (by omega)).2, q1, q2]
      · rintro ⟨rfl, e2⟩
        refine ⟨by omega, fun i hi => ?_⟩
        rcases Nat.mod_two_eq_zero_or_one i with e | e
        · obtain ⟨j, rfl⟩ : ∃ j, i = 2 * j := ⟨i / 2, by omega⟩
          rw [yvv (k2 j (by omega)).1, yvv (m2 j (by omega)).1, e2 j (by omega)]
        · obtain ⟨j, rfl⟩ : ∃ j, i = 2 * j + 1 := ⟨i / 2, by omega⟩
          rw [yvv (k2 j (by omega)).2, yvv (m2 j (by omega)).2, e2 j (by omega)]
/-- two codings differ: so do the texts -/
theorem Cod.dif {cd cd' : Int32} {n k : Nat} {f g : Nat → Int32} {V V' : Cell} (h : Cod cd n f V) (h' : Cod cd' k g V') (hne : ¬ cd = cd') : ¬ SameT n f k g := by
  rintro ⟨rfl, e⟩
  rcases h with ⟨rfl, -, k2⟩ | ⟨rfl, -, -, j, hj, hw⟩
  · rcases h' with ⟨rfl, -⟩ | ⟨-, -, -, j, hj, hw⟩
    · exact hne rfl
    · exact (k2 j hj).2 (by rw [e j hj]; exact hw)
  · rcases h' with ⟨-, -, m2⟩ | ⟨rfl, -⟩
    · exact (m2 j hj).2 (by rw [← e j hj]; exact hw)
    · exact hne rfl
/-- an object of exactly C is an instance of C -/
theorem cinst {p : Program} {l : Launch} {e : Env} {R : Room} {s : State} {m : MethodId} {args : Array Value} {below : List Frame} {meth : Method} {c : Code} {T : State} {locs : List Loc} {cells slots : Nat} (X : Stand p l e R s m args below meth c T locs cells slots) (hexec : p.tables.exec = Jvm.exec) {own C : String} {index : Nat} (hown : s.vm.findClass own = some m.cls) (hlink : (Cond.classLink own index C).before args s = true) {a : Addr} (hE : Exact C a T)
    {g : JFrame} (hg : g.method = m) {rest : List Value} (hstack : g.stack = .ref a :: rest) (hdg : decode c.code g.pc = .ok (.instanceof index, 3)) :
    ∃ T', Stand p l e R s m args below meth c T' locs cells slots ∧ T'.heap = T.heap ∧ ∀ target, Steps p.tables e below (T'.setTop { g with pc := g.pc + 3, stack := .int 1 :: rest }) target → Steps p.tables e below (T.setTop g) target := by
  obtain ⟨cB, h1, D, h2, h3, h4⟩ := hE
  have h1' : s.vm.findClass C = some cB := by rw [← X.warmed.alike.findClass]; exact h1
  obtain ⟨vm', X', st⟩ := X.instanceofYes hexec hown hlink h2 h4 h1' (by rw [h3]; exact Jvm.Free.SB.assignable_self _ _) hg hstack hdg
  exact ⟨_, X', rfl, st⟩
theorem cself {p : Program} {l : Launch} {e : Env} {R : Room} {s : State} {m : MethodId} {args : Array Value} {below : List Frame} {meth : Method} {c : Code} {T : State} {locs : List Loc} {cells slots : Nat} (X : Stand p l e R s m args below meth c T locs cells slots) (hexec : p.tables.exec = Jvm.exec) {own C : String} {index : Nat} (hown : s.vm.findClass own = some m.cls) (hlink : (Cond.classLink own index C).before args s = true) {a : Addr} (hE : Exact C a T)
    {g : JFrame} (hg : g.method = m) {rest : List Value} (hstack : g.stack = .ref a :: rest) (hdg : decode c.code g.pc = .ok (.checkcast index, 3)) :
    ∃ T', Stand p l e R s m args below meth c T' locs cells slots ∧ T'.heap = T.heap ∧ ∀ target, Steps p.tables e below (T'.setTop { g with pc := g.pc + 3, stack := .ref a :: rest }) target → Steps p.tables e below (T.setTop g) target := by
  obtain ⟨cB, h1, D, h2, h3, h4⟩ := hE
  have h1' : s.vm.findClass C = some cB := by rw [← X.warmed.alike.findClass]; exact h1
  obtain ⟨vm', X', st⟩ := X.checkcastYes hexec hown hlink h2 h4 h1' (by rw [h3]; exact Jvm.Free.SB.assignable_self _ _) hg hstack hdg
  exact ⟨_, X', rfl, fun t h => st t (by rw [← hstack] at h; exact h)⟩
namespace SEq
def yN : MethodName := ⟨"java/lang/String", "equals", "(Ljava/lang/Object;)Z"⟩
abbrev yB : ByteArray := jdk_42_method_66_code
theorem d0 : decode yB 0 = .ok (.aload_n 0, 1) := by decide +kernel
theorem d1 : decode yB 1 = .ok (.aload_n 1, 1) := by decide +kernel
theorem d2 : decode yB 2 = .ok (.if_acmp (.ne) 5, 3) := by decide +kernel
theorem d5 : decode yB 5 = .ok (.iconst 1, 1) := by decide +kernel
theorem d6 : decode yB 6 = .ok (.ireturn, 1) := by decide +kernel
theorem d7 : decode yB 7 = .ok (.aload_n 1, 1) := by decide +kernel
theorem d8 : decode yB 8 = .ok (.instanceof 10, 3) := by decide +kernel
theorem d11 : decode yB 11 = .ok (.ifCond (.eq) 43, 3) := by decide +kernel
theorem d14 : decode yB 14 = .ok (.aload_n 1, 1) := by decide +kernel
theorem d15 : decode yB 15 = .ok (.checkcast 10, 3) := by decide +kernel
theorem d18 : decode yB 18 = .ok (.astore_n 2, 1) := by decide +kernel
theorem d19 : decode yB 19 = .ok (.getstatic 38, 3) := by decide +kernel
theorem d22 : decode yB 22 = .ok (.ifCond (.eq) 14, 3) := by decide +kernel
theorem d25 : decode yB 25 = .ok (.aload_n 0, 1) := by decide +kernel
theorem d26 : decode yB 26 = .ok (.getfield 15, 3) := by decide +kernel
theorem d29 : decode yB 29 = .ok (.aload_n 2, 1) := by decide +kernel
theorem d30 : decode yB 30 = .ok (.getfield 15, 3) := by decide +kernel
theorem d33 : decode yB 33 = .ok (.if_icmp (.ne) 21, 3) := by decide +kernel
theorem d36 : decode yB 36 = .ok (.aload_n 0, 1) := by decide +kernel
theorem d37 : decode yB 37 = .ok (.getfield 9, 3) := by decide +kernel
theorem d40 : decode yB 40 = .ok (.aload_n 2, 1) := by decide +kernel
theorem d41 : decode yB 41 = .ok (.getfield 9, 3) := by decide +kernel
theorem d44 : decode yB 44 = .ok (.invokestatic 541, 3) := by decide +kernel
theorem d47 : decode yB 47 = .ok (.ifCond (.eq) 7, 3) := by decide +kernel
theorem d50 : decode yB 50 = .ok (.iconst 1, 1) := by decide +kernel
theorem d51 : decode yB 51 = .ok (.goto 4, 3) := by decide +kernel
theorem d54 : decode yB 54 = .ok (.iconst 0, 1) := by decide +kernel
theorem d55 : decode yB 55 = .ok (.ireturn, 1) := by decide +kernel
def site : List Cond := [.classLink "java/lang/String" 10 "java/lang/String", .fieldLink "java/lang/String" 38 "java/lang/String" "COMPACT_STRINGS" "Z", .fieldLink "java/lang/String" 15 "java/lang/String" "coder" "B", .fieldLink "java/lang/String" 9 "java/lang/String" "value" "[B", LEq.tab] ++ staticW "java/lang/String" 541 LEq.yN
def tab : Cond := tabOf yN yB 3 (some .boolean) site
def P (x t : Addr) (V : Cell) (cd : Int32) (n : Nat) (f : Nat → Int32) (y t' : Addr) (V' : Cell) (cd' : Int32) (k : Nat) (g : Nat → Int32) (z : Int32) (args : Array Value) (s : State) : Prop := args = #[.ref x, .ref y] ∧ Txt x t V cd n f s ∧ Txt y t' V' cd' k g s ∧ StaticIs s "java/lang/String" "COMPACT_STRINGS" "Z" (.int z) ∧ ¬ z = 0
/-- equals(Object) of two Strings: whether the texts are the same -/
theorem law (l : Launch) (x t : Addr) (V : Cell) (cd : Int32) (n : Nat) (f : Nat → Int32) (y t' : Addr) (V' : Cell) (cd' : Int32) (k : Nat) (g : Nat → Int32) (z : Int32) : Law l yN 2 1 1 14 yB 3 (some .boolean) site (P x t V cd n f y t' V' cd' k g z) (Says01 (SameT n f k g)) [] 0 0 := by
  refine Law.of_walk (plainFor_of_name (by decide +kernel)) (by decide +kernel) (by decide +kernel) (by decide) (fun _ _ h => by rw [h.1]; rfl) (fun _ U U' hal hh h => ⟨h.1, h.2.1.mv hal hh, h.2.2.1.mv hal hh, h.2.2.2.1.there hal hh, h.2.2.2.2⟩) (fun r U U' V V' h1 hal h2 h => Says01.mv r U U' V V' h1 hal h2 h) ?_
  intro p e s m args below meth c s₁ X0 hexec hbytes hml hret hlk hnm hown hh0 W hP
  obtain ⟨rfl, hx, hy, s1, hz⟩ := hP
  have c1 : Steps p.tables e below (s₁.setTop (entryFrame m #[.ref x, .ref y] 3)) (s₁.setTop (mkF m 2 #[.val (.ref x), .val (.ref y), .unset] [.ref y, .ref x])) := Steps.trans (entry rfl) (by
    show Steps p.tables e below (s₁.setTop (mkF m 0 #[.val (.ref x), .val (.ref y), .unset] [])) _
    refine XS.aloadN X0.here hexec rfl (hb hbytes d0) rfl rfl ?_
    refine XS.aloadN X0.here hexec rfl (hb hbytes d1) rfl rfl ?_
    exact Steps.refl _)
  by_cases hxy : x = y
  · have c2 : Steps p.tables e below (s₁.setTop (entryFrame m #[.ref x, .ref y] 3)) (s₁.setTop (mkF m 6 #[.val (.ref x), .val (.ref y), .unset] [.int 1])) := c1.trans (by
      refine acmpNo X0.here hexec rfl (hb hbytes d2) rfl rfl rfl (by simp [acmp, hxy]) ?_
      refine iconstV X0.here hexec rfl 1 (hb hbytes d5) (by decide) ?_
      exact Steps.refl _)
    subst hxy
    have ec : cd = cd' := by
      obtain ⟨D, fd, a1, a2, a3⟩ := hx.2.2.1
      obtain ⟨D', fd', b1, b2, b3⟩ := hy.2.2.1
      cases a1.symm.trans b1
      obtain ⟨q1, q2, q3, q4⟩ := a2.1
      obtain ⟨r1, r2, r3, r4⟩ := b2.1
      cases q4.symm.trans r4
      cases a3.symm.trans b3; rfl
    have et : t = t' := by
      obtain ⟨D, fd, a1, a2, a3⟩ := hx.2.1
      obtain ⟨D', fd', b1, b2, b3⟩ := hy.2.1
      cases a1.symm.trans b1
      obtain ⟨q1, q2, q3, q4⟩ := a2.1
      obtain ⟨r1, r2, r3, r4⟩ := b2.1
      cases q4.symm.trans r4
      cases a3.symm.trans b3; rfl
    subst ec et
    have ev : V = V' := by cases hx.2.2.2.1.1.symm.trans hy.2.2.2.1.1; rfl
    subst ev
    have hs : SameT n f k g := (Cod.eqv hx.2.2.2.2.1 hy.2.2.2.2.1 hx.2.2.2.2.2 hy.2.2.2.2.2).mp ⟨rfl, fun _ _ => rfl⟩
    exact ⟨s₁, some (.int 1), _, _, _, X0, rfl, rfl, rfl, (fun h => by cases h), ⟨1, rfl, hh0, Or.inl ⟨rfl, hs⟩⟩, fun fs hl => c2.trans (X0.ireturnOut hexec hret rfl (Or.inr (Or.inl rfl)) (hb hbytes d6) hl)⟩
  · have c2 : Steps p.tables e below (s₁.setTop (entryFrame m #[.ref x, .ref y] 3)) (s₁.setTop (mkF m 8 #[.val (.ref x), .val (.ref y), .unset] [.ref y])) := c1.trans (by
      refine acmpYes X0.here hexec rfl (pc0 := 2) rfl (hb hbytes d2) rfl rfl rfl (by simp [acmp, hxy]) (by decide) rfl ?_
      refine XS.aloadN X0.here hexec rfl (hb hbytes d7) rfl rfl ?_
      exact Steps.refl _)
    obtain ⟨T3, X3, q3, st3⟩ := cinst X0 hexec hown (wk W (.classLink "java/lang/String" 10 "java/lang/String")) (hy.mv X0.warmed.alike hh0).1 (g := (mkF m 8 #[.val (.ref x), .val (.ref y), .unset] [.ref y])) rfl (rest := []) rfl (hb hbytes d8)
    have hh3 := q3.trans hh0
    have c4 : Steps p.tables e below (s₁.setTop (entryFrame m #[.ref x, .ref y] 3)) (T3.setTop (mkF m 15 #[.val (.ref x), .val (.ref y), .unset] [.ref y])) := (c2.trans (st3 _ (Steps.refl _))).trans (by
      refine XS.ifNo X3.here hexec rfl (hb hbytes d11) rfl (i0_eq_f (by decide)) ?_
      refine XS.aloadN X3.here hexec rfl (hb hbytes d14) rfl rfl ?_
      exact Steps.refl _)
    obtain ⟨T5, X5, q5, st5⟩ := cself X3 hexec hown (wk W (.classLink "java/lang/String" 10 "java/lang/String")) (hy.mv X3.warmed.alike hh3).1 (g := (mkF m 15 #[.val (.ref x), .val (.ref y), .unset] [.ref y])) rfl (rest := []) rfl (hb hbytes d15)
    have hh5 := q5.trans hh3
    have c6 : Steps p.tables e below (s₁.setTop (entryFrame m #[.ref x, .ref y] 3)) (T5.setTop (mkF m 19 #[.val (.ref x), .val (.ref y), .val (.ref y)] [])) := (c4.trans (st5 _ (Steps.refl _))).trans (by
      refine XS.astoreN X5.here hexec rfl (hb hbytes d18) rfl rfl rfl ?_
      exact Steps.refl _)
    obtain ⟨T7, X7, q7, st7⟩ := X5.sget hexec hown (wk W (.fieldLink "java/lang/String" 38 "java/lang/String" "COMPACT_STRINGS" "Z")) s1 (fun _ _ h => by rw [hh5]; exact h) (g := (mkF m 19 #[.val (.ref x), .val (.ref y), .val (.ref y)] [])) rfl (hb hbytes d19)
    have hh7 := q7.trans hh5
    have c8 : Steps p.tables e below (s₁.setTop (entryFrame m #[.ref x, .ref y] 3)) (T7.setTop (mkF m 26 #[.val (.ref x), .val (.ref y), .val (.ref y)] [.ref x])) := (c6.trans (st7 _ (Steps.refl _))).trans (by
      refine XS.ifNo X7.here hexec rfl (hb hbytes d22) rfl (i0_eq_f hz) ?_
      refine XS.aloadN X7.here hexec rfl (hb hbytes d25) rfl rfl ?_
      exact Steps.refl _)
    obtain ⟨T9, X9, q9, st9⟩ := X7.hget hexec hown (wk W (.fieldLink "java/lang/String" 15 "java/lang/String" "coder" "B")) (hx.mv X7.warmed.alike hh7).2.2.1 (g := (mkF m 26 #[.val (.ref x), .val (.ref y), .val (.ref y)] [.ref x])) rfl (rest := []) rfl (hb hbytes d26)
    have hh9 := q9.trans hh7
    have c10 : Steps p.tables e below (s₁.setTop (entryFrame m #[.ref x, .ref y] 3)) (T9.setTop (mkF m 30 #[.val (.ref x), .val (.ref y), .val (.ref y)] [.ref y, .int cd])) := (c8.trans (st9 _ (Steps.refl _))).trans (by
      refine XS.aloadN X9.here hexec rfl (hb hbytes d29) rfl rfl ?_
      exact Steps.refl _)
    obtain ⟨T11, X11, q11, st11⟩ := X9.hget hexec hown (wk W (.fieldLink "java/lang/String" 15 "java/lang/String" "coder" "B")) (hy.mv X9.warmed.alike hh9).2.2.1 (g := (mkF m 30 #[.val (.ref x), .val (.ref y), .val (.ref y)] [.ref y, .int cd])) rfl (rest := [.int cd]) rfl (hb hbytes d30)
    have hh11 := q11.trans hh9
    have c12 : Steps p.tables e below (s₁.setTop (entryFrame m #[.ref x, .ref y] 3)) (T11.setTop (mkF m 33 #[.val (.ref x), .val (.ref y), .val (.ref y)] [.int cd', .int cd])) := c10.trans (st11 _ (Steps.refl _))
    by_cases hcd : cd = cd'
    · subst hcd
      have c13 : Steps p.tables e below (s₁.setTop (entryFrame m #[.ref x, .ref y] 3)) (T11.setTop (mkF m 37 #[.val (.ref x), .val (.ref y), .val (.ref y)] [.ref x])) := c12.trans (by
        refine XS.icmpNo X11.here hexec rfl (hb hbytes d33) rfl (ii_ne_f rfl) ?_
        refine XS.aloadN X11.here hexec rfl (hb hbytes d36) rfl rfl ?_
        exact Steps.refl _)
      obtain ⟨T14, X14, q14, st14⟩ := X11.hget hexec hown (wk W (.fieldLink "java/lang/String" 9 "java/lang/String" "value" "[B")) (hx.mv X11.warmed.alike hh11).2.1 (g := (mkF m 37 #[.val (.ref x), .val (.ref y), .val (.ref y)] [.ref x])) rfl (rest := []) rfl (hb hbytes d37)
      have hh14 := q14.trans hh11
      have c15 : Steps p.tables e below (s₁.setTop (entryFrame m #[.ref x, .ref y] 3)) (T14.setTop (mkF m 41 #[.val (.ref x), .val (.ref y), .val (.ref y)] [.ref y, .ref t])) := (c13.trans (st14 _ (Steps.refl _))).trans (by
        refine XS.aloadN X14.here hexec rfl (hb hbytes d40) rfl rfl ?_
        exact Steps.refl _)
      obtain ⟨T16, X16, q16, st16⟩ := X14.hget hexec hown (wk W (.fieldLink "java/lang/String" 9 "java/lang/String" "value" "[B")) (hy.mv X14.warmed.alike hh14).2.1 (g := (mkF m 41 #[.val (.ref x), .val (.ref y), .val (.ref y)] [.ref y, .ref t])) rfl (rest := [.ref t]) rfl (hb hbytes d41)
      have hh16 := q16.trans hh14
      have c17 : Steps p.tables e below (s₁.setTop (entryFrame m #[.ref x, .ref y] 3)) (T16.setTop (mkF m 44 #[.val (.ref x), .val (.ref y), .val (.ref y)] [.ref t', .ref t])) := c15.trans (st16 _ (Steps.refl _))
      obtain ⟨v18, T18, X18, E18, g18⟩ := X16.callS hexec (LEq.law l t V t' V') hown (wks W (staticW "java/lang/String" 541 LEq.yN)) (wk W LEq.tab) (W := 0) (Nat.le_of_ble_eq_true rfl) (Nat.le_of_ble_eq_true rfl) (Nat.le_refl _) (Nat.le_refl _) (g := (mkF m 44 #[.val (.ref x), .val (.ref y), .val (.ref y)] [.ref t', .ref t])) rfl (by rw [hml]; rfl) c17 (argsL := [.ref t, .ref t']) (rest := []) rfl rfl (by show 2 * 0 + 0 ≤ _; decide) (hb hbytes d44) (⟨rfl, hx.2.2.2.1.mv X16.warmed.alike hh16, hx.2.2.2.2.1.ty, hy.2.2.2.1.mv X16.warmed.alike hh16, hy.2.2.2.2.1.ty⟩)
      obtain ⟨v, rfl, q18, hv⟩ := E18
      have iff := Cod.eqv hx.2.2.2.2.1 hy.2.2.2.2.1 hx.2.2.2.2.2 hy.2.2.2.2.2
      rcases hv with ⟨rfl, he⟩ | ⟨rfl, he⟩
      · have c19 : Steps p.tables e below (s₁.setTop (entryFrame m #[.ref x, .ref y] 3)) (T18.setTop (mkF m 55 #[.val (.ref x), .val (.ref y), .val (.ref y)] [.int 1])) := Steps.trans g18 (by
          refine XS.ifNo X18.here hexec rfl (hb hbytes d47) rfl (i0_eq_f (by decide)) ?_
          refine iconstV X18.here hexec rfl 1 (hb hbytes d50) (by decide) ?_
          refine XS.goto X18.here hexec rfl (pc0 := 51) rfl (hb hbytes d51) (by decide) rfl ?_
          exact Steps.refl _)
        exact ⟨T18, some (.int 1), _, _, _, X18, rfl, rfl, rfl, (fun h => by cases h), ⟨1, rfl, q18.trans hh16, Or.inl ⟨rfl, iff.mp he⟩⟩, fun fs hl => c19.trans (X18.ireturnOut hexec hret rfl (Or.inr (Or.inl rfl)) (hb hbytes d55) hl)⟩
      · have c19 : Steps p.tables e below (s₁.setTop (entryFrame m #[.ref x, .ref y] 3)) (T18.setTop (mkF m 55 #[.val (.ref x), .val (.ref y), .val (.ref y)] [.int 0])) := Steps.trans g18 (by
          refine XS.ifYes X18.here hexec rfl (pc0 := 47) rfl (hb hbytes d47) rfl (i0_eq_t rfl) (by decide) rfl ?_
          refine iconstV X18.here hexec rfl 0 (hb hbytes d54) (by decide) ?_
          exact Steps.refl _)
        exact ⟨T18, some (.int 0), _, _, _, X18, rfl, rfl, rfl, (fun h => by cases h), ⟨0, rfl, q18.trans hh16, Or.inr ⟨rfl, fun q => he (iff.mpr q)⟩⟩, fun fs hl => c19.trans (X18.ireturnOut hexec hret rfl (Or.inr (Or.inl rfl)) (hb hbytes d55) hl)⟩
    · have c13 : Steps p.tables e below (s₁.setTop (entryFrame m #[.ref x, .ref y] 3)) (T11.setTop (mkF m 55 #[.val (.ref x), .val (.ref y), .val (.ref y)] [.int 0])) := c12.trans (by
        refine XS.icmpYes X11.here hexec rfl (pc0 := 33) rfl (hb hbytes d33) rfl (ii_ne_t hcd) (by decide) rfl ?_
        refine iconstV X11.here hexec rfl 0 (hb hbytes d54) (by decide) ?_
        exact Steps.refl _)
      exact ⟨T11, some (.int 0), _, _, _, X11, rfl, rfl, rfl, (fun h => by cases h), ⟨0, rfl, hh11, Or.inr ⟨rfl, Cod.dif hx.2.2.2.2.1 hy.2.2.2.2.1 hcd⟩⟩, fun fs hl => c13.trans (X11.ireturnOut hexec hret rfl (Or.inr (Or.inl rfl)) (hb hbytes d55) hl)⟩
theorem pays {l : Launch} {R : Room} {p : Program} {e : Env} {below : List Frame} {s : State} {sargs : Array Value} {len W : Nat} (x t : Addr) (V : Cell) (cd : Int32) (n : Nat) (f : Nat → Int32) (y t' : Addr) (V' : Cell) (cd' : Int32) (k : Nat) (g : Nat → Int32) (z : Int32) (htab : tab.before sargs s = true) (hfr : 2 ≤ R.frames) (hlo : W + 28 ≤ R.locals) :
    Back l R p e below s sargs yN len W (fun A₁ a₁ => A₁.cells + 0 ≤ R.cells ∧ A₁.slots + 0 ≤ R.slots ∧ P x t V cd n f y t' V' cd' k g z a₁ A₁.U) (fun A₁ _ v₁ B₁ => Says01 (SameT n f k g) v₁ A₁.U B₁.U ∧ B₁.locs = A₁.locs ++ [] ∧ B₁.cells = A₁.cells + 0 ∧ B₁.slots = A₁.slots + 0) :=
  (law l x t V cd n f y t' V' cd' k g z).pays htab hfr (by omega)
end SEq
end StrChars
namespace StrChars.Road
open Jvm Sem ClassFile Op Lib Jvm.Stand Jvm.Free Jvm.Free.XT
open Jvm.Lib.Cold (StaticIs)
/-- the words of String.equals(Object) -/
abbrev wordsEq : List Jvm.Cond := [.code SEq.yN SEq.yB 3 (some .boolean), .initialized ST, .classLink ST 10 ST, .fieldLink ST 38 ST "COMPACT_STRINGS" "Z", .fieldLink ST 15 ST "coder" "B", .fieldLink ST 9 ST "value" "[B", .methodLink ST 541 LEq.yN, .static LEq.yN, .code LEq.yN LEq.yB 3 (some .boolean), .initialized "java/lang/StringLatin1"]
theorem tabEq_of {a : Array Value} {s : State} (h : ∀ w ∈ wordsEq, w.before a s = true) : SEq.tab.before a s = true := by
  have hl : LEq.tab.before a s = true := unparts (wk h (.code LEq.yN LEq.yB 3 (some .boolean))) (wks h (.initialized LEq.yN.cls :: LEq.site))
  have q := consq hl h
  exact unparts (wk q (.code SEq.yN SEq.yB 3 (some .boolean))) (wks q (.initialized SEq.yN.cls :: SEq.site))
theorem movedEq {Z s : State} {a0 args : Array Value} (hZ : Z.Warmed39 s.vm) (hw : ∀ d ∈ wordsEq, d.before a0 Z = true) : ∀ d ∈ wordsEq, d.before args s = true := fun d hd => by
  have t : ∀ d ∈ wordsEq, (d.onTables && d.keepsFace) = true := by decide +kernel
  exact RoadKit.mv hZ (hw d hd) (t d hd)
/-- the road's facts of a String, as the laws ask it -/
theorem txt_of {Z U : State} {a0 : Array Value} {kI : Nat} (wi : (Jvm.Cond.instantiable ST kI).before a0 Z = true) (al : Z.vm.Alike U.vm) {x t : Addr} {kb : ClassId} {cs : List Int32} {cd N2 : Int32} {vs : List Value} (E : RoadKit.Exa Z U.heap x ST) (V : RoadKit.Fld Z U.heap x ST "value" "[B" (.ref t)) (C : RoadKit.Fld Z U.heap x ST "coder" "B" (.int cd)) (K : RoadKit.Arv Z U.heap t kb .byte N2 vs (.int 0)) (hc : CodA cs cd N2 vs) (hb : ∀ c ∈ cs, ¬ c < 0 ∧ ¬ (65535 : Int32) < c) (l2 : cs.length ≤ 4000) :
    ∃ A, Txt x t A cd cs.length (fun j => cs.getD j 0) U := by
  obtain ⟨A, K1, K2, K3, K4, K5, K6⟩ := K
  have hcod := hc.cod (by omega) K3 K5
  obtain ⟨D, fV, fC, hB, F1, F2, g1, g2, -, -⟩ := strObj wi al E V C
  exact ⟨A, ⟨_, hB.2.2.1, D, hB.1, rfl, by cases q : D.vm <;> first | rfl | exact absurd q (hB.2.1.2 _)⟩, Has.of hB F1 g1, Has.of hB F2 g2, ⟨K1.1, State.isArrayOf_alike al K1.2.1, K1.2.2, by rcases hcod with ⟨-, q, -⟩ | ⟨-, q, -⟩ <;> omega⟩, hcod, fun j hj => by
    have e : cs.getD j 0 = cs[j] := by simp [List.getD_eq_getElem?_getD, hj]
    show ¬ cs.getD j 0 < 0 ∧ ¬ 65535 < cs.getD j 0
    rw [e]; exact hb _ (List.getElem_mem _)⟩
theorem same_list (cs ds : List Int32) : SameT cs.length (fun j => cs.getD j 0) ds.length (fun j => ds.getD j 0) ↔ cs = ds := by
  constructor
  · rintro ⟨e, q⟩
    refine List.ext_getElem e fun j h1 h2 => ?_
    have := q j h1
    simpa [List.getD_eq_getElem?_getD, h1, h2] using this
  · rintro rfl
    exact ⟨rfl, fun _ _ => rfl⟩
/-- **equals(Object) OF TWO SUCH STRINGS**: 1 just where the chars are the same -/
theorem eqW {p : Program} {l : Launch} {e : Env} {R : Room} {s : State} {args : Array Value} {below : List Frame} {len W : Nat} {Z : State} {a0 : Array Value} {h : Heap} (hZ : Z.Warmed39 s.vm) (hw : ∀ d ∈ wordsEq, d.before a0 Z = true) {kI : Nat} (wi : (Jvm.Cond.instantiable ST kI).before a0 Z = true)
    {x t : Addr} {kb : ClassId} {cs : List Int32} {cd N2 : Int32} {vs : List Value} (E : RoadKit.Exa Z h x ST) (V : RoadKit.Fld Z h x ST "value" "[B" (.ref t)) (C : RoadKit.Fld Z h x ST "coder" "B" (.int cd)) (K : RoadKit.Arv Z h t kb .byte N2 vs (.int 0)) (hc : CodA cs cd N2 vs) (hb : ∀ c ∈ cs, ¬ c < 0 ∧ ¬ (65535 : Int32) < c) (l2 : cs.length ≤ 4000)
    {y t' : Addr} {kb' : ClassId} {ds : List Int32} {cd' N2' : Int32} {vs' : List Value} (E' : RoadKit.Exa Z h y ST) (V' : RoadKit.Fld Z h y ST "value" "[B" (.ref t')) (C' : RoadKit.Fld Z h y ST "coder" "B" (.int cd')) (K' : RoadKit.Arv Z h t' kb' .byte N2' vs' (.int 0)) (hc' : CodA ds cd' N2' vs') (hb' : ∀ c ∈ ds, ¬ c < 0 ∧ ¬ (65535 : Int32) < c) (l2' : ds.length ≤ 4000)
    {z : Int32} (S : RoadKit.Sta Z h ST "COMPACT_STRINGS" "Z" (.int z)) (hz : ¬ z = 0) (hfr : 2 ≤ R.frames) (hlo : W + 28 ≤ R.locals) :
    Back l R p e below s args (⟨"java/lang/String", "equals", "(Ljava/lang/Object;)Z"⟩ : MethodName) len W (fun P a => a = #[.ref x, .ref y] ∧ P.U.heap = h ∧ P.cells + 0 ≤ R.cells ∧ P.slots + 0 ≤ R.slots)
      (fun P _ v B => ∃ L, (((v = some (.int 1) ∧ cs = ds) ∨ (v = some (.int 0) ∧ ¬ cs = ds)) ∧ L = [] ∧ B.U.heap = h) ∧ B.locs = P.locs ++ L ∧ B.cells = P.cells + 0 ∧ B.slots = P.slots + 0) := by
  intro m meth c P g ig mk a X hg hsize hdg hW hn hp'
  obtain ⟨rfl, rfl, r1, r2⟩ := hp'
  have al : Z.vm.Alike P.U.vm := hZ.alike.trans X.warmed.alike
  obtain ⟨A, hx⟩ := txt_of wi al E V C K hc hb l2
  obtain ⟨A', hy⟩ := txt_of wi al E' V' C' K' hc' hb' l2'
  obtain ⟨v, B, X', ⟨⟨w, hv, hh, hq⟩, hl, hk, hs⟩, st⟩ := SEq.pays x t A cd cs.length (fun j => cs.getD j 0) y t' A' cd' ds.length (fun j => ds.getD j 0) z (tabEq_of (movedEq hZ hw)) hfr hlo m meth c P g ig mk _ X hg hsize hdg hW hn ⟨r1, r2, rfl, hx, hy, sta_is al S, hz⟩
  refine ⟨v, B, X', ⟨[], ⟨?_, rfl, hh⟩, hl, hk, hs⟩, st⟩
  rcases hq with ⟨rfl, q⟩ | ⟨rfl, q⟩
  · exact Or.inl ⟨hv, (same_list cs ds).mp q⟩
  · exact Or.inr ⟨hv, fun e => q ((same_list cs ds).mpr e)⟩
end StrChars.Road
namespace StrChars.Road
open Jvm Sem ClassFile Op Lib Jvm.Stand Jvm.Free Jvm.Free.XT
open Jvm.Lib.Cold (StaticIs)
/-- what backV says of its String, as the contracts of this text ask it: cs's low bytes, coder 0 -/
theorem codOf {cs : List Int32} {n : Nat} (hn : cs.length = n) (hb : ∀ c ∈ cs, ¬ 255 < c) : CodA cs 0 (Int32.ofNat n) ((cs.map lo8).map Value.int) := Or.inl ⟨rfl, by rw [hn], by simp [List.map_map, Function.comp_def], hb⟩
end StrChars.Road
end Jvm.Pilot.@@N@@
namespace Jvm.Pilot.@@N@@
open Jvm Jvm.ClassFile Sem Op Lib Jvm.Free Jvm.Stand Jvm.LawKit Jvm.RoadKit Jvm.OwnKit Bundle Jvm.Pilot.@@N@@.Jvm.D
theorem own_wS {Z : State} {a0 : Array Value} (hw : ∀ d ∈ tables_1, d.before a0 Z = true) : ∀ a ∈ Bundle.stringAtoms, a.before a0 Z = true := fun d hd => hw d ((by decide +kernel : ∀ d ∈ Bundle.stringAtoms, d ∈ tables_1) d hd)
theorem own_EW {Z : State} {a0 : Array Value} (hw : ∀ d ∈ tables_1, d.before a0 Z = true) : EW Z a0 consts_1 := EW.cons (hw _ (List.mem_of_getElem? (i := 86) rfl)) (by decide +kernel) (EW.nil)
theorem own_ite {c : Prop} {d : Decidable c} {a b : Int32} (ha : ¬ a < 0 ∧ ¬ (255 : Int32) < a) (hb : ¬ b < 0 ∧ ¬ (255 : Int32) < b) : ¬ (if c then a else b) < 0 ∧ ¬ (255 : Int32) < (if c then a else b) := by
  split
  · exact ha
  · exact hb
def own_ac_list : List Int32 := [97, 117, 116, 104, 111, 114, 105, 122, 97, 116, 105, 111, 110, 95, 99, 111, 100, 101]
def own_ac (i : Int32) : Int32 := if i = 0 then 97 else if i = 1 then 117 else if i = 2 then 116 else if i = 3 then 104 else if i = 4 then 111 else if i = 5 then 114 else if i = 6 then 105 else if i = 7 then 122 else if i = 8 then 97 else if i = 9 then 116 else if i = 10 then 105 else if i = 11 then 111 else if i = 12 then 110 else if i = 13 then 95 else if i = 14 then 99 else if i = 15 then 111 else if i = 16 then 100 else 101
def own_acp (p c i : Int32) : Int32 := if i = p then c else own_ac i
theorem own_ac_in {i : Int32} (h : ¬ i < 0 ∧ i < 18) : i = 0 ∨ i = 1 ∨ i = 2 ∨ i = 3 ∨ i = 4 ∨ i = 5 ∨ i = 6 ∨ i = 7 ∨ i = 8 ∨ i = 9 ∨ i = 10 ∨ i = 11 ∨ i = 12 ∨ i = 13 ∨ i = 14 ∨ i = 15 ∨ i = 16 ∨ i = 17 := by
  simp only [Int32.lt_iff_toInt_lt, ← Int32.toInt_inj, Int32.reduceToInt] at h ⊢
  omega
theorem own_ac_at {i : Int32} (h : ¬ i < 0 ∧ i < 18) : ([(.int (97 : Int32)), (.int (117 : Int32)), (.int (116 : Int32)), (.int (104 : Int32)), (.int (111 : Int32)), (.int (114 : Int32)), (.int (105 : Int32)), (.int (122 : Int32)), (.int (97 : Int32)), (.int (116 : Int32)), (.int (105 : Int32)), (.int (111 : Int32)), (.int (110 : Int32)), (.int (95 : Int32)), (.int (99 : Int32)), (.int (111 : Int32)), (.int (100 : Int32)), (.int (101 : Int32))] : List Value).getD i.toNatClampNeg (.int (0 : Int32)) = .int (own_ac i) := by
  rcases own_ac_in h with rfl | rfl | rfl | rfl | rfl | rfl | rfl | rfl | rfl | rfl | rfl | rfl | rfl | rfl | rfl | rfl | rfl | rfl <;> rfl
theorem own_ac_lt {i : Int32} (h : ¬ i < 0 ∧ i < 18) : i.toNatClampNeg < 18 := by
  rcases own_ac_in h with rfl | rfl | rfl | rfl | rfl | rfl | rfl | rfl | rfl | rfl | rfl | rfl | rfl | rfl | rfl | rfl | rfl | rfl <;> decide
theorem own_ac_set {i c : Int32} (h : ¬ i < 0 ∧ i < 18) : ([(.int (97 : Int32)), (.int (117 : Int32)), (.int (116 : Int32)), (.int (104 : Int32)), (.int (111 : Int32)), (.int (114 : Int32)), (.int (105 : Int32)), (.int (122 : Int32)), (.int (97 : Int32)), (.int (116 : Int32)), (.int (105 : Int32)), (.int (111 : Int32)), (.int (110 : Int32)), (.int (95 : Int32)), (.int (99 : Int32)), (.int (111 : Int32)), (.int (100 : Int32)), (.int (101 : Int32))] : List Value).set i.toNatClampNeg (.int c) = [(.int (own_acp i c (0 : Int32))), (.int (own_acp i c (1 : Int32))), (.int (own_acp i c (2 : Int32))), (.int (own_acp i c (3 : Int32))), (.int (own_acp i c (4 : Int32))), (.int (own_acp i c (5 : Int32))), (.int (own_acp i c (6 : Int32))), (.int (own_acp i c (7 : Int32))), (.int (own_acp i c (8 : Int32))), (.int (own_acp i c (9 : Int32))), (.int (own_acp i c (10 : Int32))), (.int (own_acp i c (11 : Int32))), (.int (own_acp i c (12 : Int32))), (.int (own_acp i c (13 : Int32))), (.int (own_acp i c (14 : Int32))), (.int (own_acp i c (15 : Int32))), (.int (own_acp i c (16 : Int32))), (.int (own_acp i c (17 : Int32)))] := by
  rcases own_ac_in h with rfl | rfl | rfl | rfl | rfl | rfl | rfl | rfl | rfl | rfl | rfl | rfl | rfl | rfl | rfl | rfl | rfl | rfl <;> rfl
theorem own_ac_eq {i c : Int32} (h : ¬ i < 0 ∧ i < 18) : own_ac_list = [own_acp i c (0 : Int32), own_acp i c (1 : Int32), own_acp i c (2 : Int32), own_acp i c (3 : Int32), own_acp i c (4 : Int32), own_acp i c (5 : Int32), own_acp i c (6 : Int32), own_acp i c (7 : Int32), own_acp i c (8 : Int32), own_acp i c (9 : Int32), own_acp i c (10 : Int32), own_acp i c (11 : Int32), own_acp i c (12 : Int32), own_acp i c (13 : Int32), own_acp i c (14 : Int32), own_acp i c (15 : Int32), own_acp i c (16 : Int32), own_acp i c (17 : Int32)] ↔ own_ac i = c := by
  rcases own_ac_in h with rfl | rfl | rfl | rfl | rfl | rfl | rfl | rfl | rfl | rfl | rfl | rfl | rfl | rfl | rfl | rfl | rfl | rfl <;> simp [own_ac_list, own_acp, own_ac]
theorem own_ac_ne {cs : List Int32} (h : (18 : Nat) ≠ cs.length) : ¬ own_ac_list = cs := fun q => h (by rw [← q]; rfl)
theorem own_ac_sm (i : Int32) : ¬ own_ac i < 0 ∧ ¬ (255 : Int32) < own_ac i := by
  unfold own_ac
  exact (own_ite ⟨by decide, by decide⟩ (own_ite ⟨by decide, by decide⟩ (own_ite ⟨by decide, by decide⟩ (own_ite ⟨by decide, by decide⟩ (own_ite ⟨by decide, by decide⟩ (own_ite ⟨by decide, by decide⟩ (own_ite ⟨by decide, by decide⟩ (own_ite ⟨by decide, by decide⟩ (own_ite ⟨by decide, by decide⟩ (own_ite ⟨by decide, by decide⟩ (own_ite ⟨by decide, by decide⟩ (own_ite ⟨by decide, by decide⟩ (own_ite ⟨by decide, by decide⟩ (own_ite ⟨by decide, by decide⟩ (own_ite ⟨by decide, by decide⟩ (own_ite ⟨by decide, by decide⟩ (own_ite ⟨by decide, by decide⟩ ⟨by decide, by decide⟩)))))))))))))))))
theorem own_acp_sm {c : Int32} (h : ¬ c < 0 ∧ ¬ (255 : Int32) < c) (p i : Int32) : ¬ own_acp p c i < 0 ∧ ¬ (255 : Int32) < own_acp p c i := by
  unfold own_acp
  split
  · exact h
  · exact own_ac_sm i
theorem own_rem18 {k q : Int32} (hk : k = (q &&& (2147483647 : Int32)) % (18 : Int32)) : ¬ k < 0 ∧ k < 18 := by
  have e1 := c_mask q 2147483647 31 (by decide) (by decide)
  have e2 := (c_irem (q &&& 2147483647) 18 18 (by decide)).1 (by omega)
  rw [← hk] at e2
  simp only [Int32.lt_iff_toInt_lt, Int32.reduceToInt]
  omega
def own_im_list : List Int32 := [105, 109, 112, 108, 105, 99, 105, 116]
def own_im (i : Int32) : Int32 := if i = 0 then 105 else if i = 1 then 109 else if i = 2 then 112 else if i = 3 then 108 else if i = 4 then 105 else if i = 5 then 99 else if i = 6 then 105 else 116
def own_imp (p c i : Int32) : Int32 := if i = p then c else own_im i
theorem own_im_in {i : Int32} (h : ¬ i < 0 ∧ i < 8) : i = 0 ∨ i = 1 ∨ i = 2 ∨ i = 3 ∨ i = 4 ∨ i = 5 ∨ i = 6 ∨ i = 7 := by
  simp only [Int32.lt_iff_toInt_lt, ← Int32.toInt_inj, Int32.reduceToInt] at h ⊢
  omega
theorem own_im_at {i : Int32} (h : ¬ i < 0 ∧ i < 8) : ([(.int (105 : Int32)), (.int (109 : Int32)), (.int (112 : Int32)), (.int (108 : Int32)), (.int (105 : Int32)), (.int (99 : Int32)), (.int (105 : Int32)), (.int (116 : Int32))] : List Value).getD i.toNatClampNeg (.int (0 : Int32)) = .int (own_im i) := by
  rcases own_im_in h with rfl | rfl | rfl | rfl | rfl | rfl | rfl | rfl <;> rfl
theorem own_im_lt {i : Int32} (h : ¬ i < 0 ∧ i < 8) : i.toNatClampNeg < 8 := by
  rcases own_im_in h with rfl | rfl | rfl | rfl | rfl | rfl | rfl | rfl <;> decide
theorem own_im_set {i c : Int32} (h : ¬ i < 0 ∧ i < 8) : ([(.int (105 : Int32)), (.int (109 : Int32)), (.int (112 : Int32)), (.int (108 : Int32)), (.int (105 : Int32)), (.int (99 : Int32)), (.int (105 : Int32)), (.int (116 : Int32))] : List Value).set i.toNatClampNeg (.int c) = [(.int (own_imp i c (0 : Int32))), (.int (own_imp i c (1 : Int32))), (.int (own_imp i c (2 : Int32))), (.int (own_imp i c (3 : Int32))), (.int (own_imp i c (4 : Int32))), (.int (own_imp i c (5 : Int32))), (.int (own_imp i c (6 : Int32))), (.int (own_imp i c (7 : Int32)))] := by
  rcases own_im_in h with rfl | rfl | rfl | rfl | rfl | rfl | rfl | rfl <;> rfl
theorem own_im_eq {i c : Int32} (h : ¬ i < 0 ∧ i < 8) : own_im_list = [own_imp i c (0 : Int32), own_imp i c (1 : Int32), own_imp i c (2 : Int32), own_imp i c (3 : Int32), own_imp i c (4 : Int32), own_imp i c (5 : Int32), own_imp i c (6 : Int32), own_imp i c (7 : Int32)] ↔ own_im i = c := by
  rcases own_im_in h with rfl | rfl | rfl | rfl | rfl | rfl | rfl | rfl <;> simp [own_im_list, own_imp, own_im]
theorem own_im_ne {cs : List Int32} (h : (8 : Nat) ≠ cs.length) : ¬ own_im_list = cs := fun q => h (by rw [← q]; rfl)
theorem own_im_sm (i : Int32) : ¬ own_im i < 0 ∧ ¬ (255 : Int32) < own_im i := by
  unfold own_im
  exact (own_ite ⟨by decide, by decide⟩ (own_ite ⟨by decide, by decide⟩ (own_ite ⟨by decide, by decide⟩ (own_ite ⟨by decide, by decide⟩ (own_ite ⟨by decide, by decide⟩ (own_ite ⟨by decide, by decide⟩ (own_ite ⟨by decide, by decide⟩ ⟨by decide, by decide⟩)))))))
theorem own_imp_sm {c : Int32} (h : ¬ c < 0 ∧ ¬ (255 : Int32) < c) (p i : Int32) : ¬ own_imp p c i < 0 ∧ ¬ (255 : Int32) < own_imp p c i := by
  unfold own_imp
  split
  · exact h
  · exact own_im_sm i
theorem own_rem8 {k q : Int32} (hk : k = (q &&& (2147483647 : Int32)) % (8 : Int32)) : ¬ k < 0 ∧ k < 8 := by
  have e1 := c_mask q 2147483647 31 (by decide) (by decide)
  have e2 := (c_irem (q &&& 2147483647) 8 8 (by decide)).1 (by omega)
  rw [← hk] at e2
  simp only [Int32.lt_iff_toInt_lt, Int32.reduceToInt]
  omega
theorem own_eqB {p : Program} {l : Launch} {e : Env} {R : Room} {s : State} {args : Array Value} {below : List Frame} {len W : Nat} {Z : State} {a0 : Array Value} {h : Heap} {n0 : Nat} (hw : ∀ d ∈ tables_1, d.before a0 Z = true) (hZ : Z.Warmed39 s.vm) {x y : Addr} {cs ds : List Int32} (F : StrIs Z h x cs) (G : StrIs Z h y ds) {z : Int32} (S : Sta Z h "java/lang/String" "COMPACT_STRINGS" "Z" (.int z)) (hz : ¬ z = 0) (hfr : 2 ≤ R.frames) (hlo : W + 28 ≤ R.locals) :
    Back l R p e below s args (⟨"java/lang/String", "equals", "(Ljava/lang/Object;)Z"⟩ : MethodName) len W (fun P a => a = #[.ref x, .ref y] ∧ P.U.heap = h ∧ P.cells + 0 ≤ R.cells ∧ P.slots + 0 ≤ R.slots)
      (fun P _ v B => ∃ L, (v = some (.int (if cs = ds then (1 : Int32) else (0 : Int32))) ∧ Fr n0 L ∧ B.U.heap = h) ∧ B.locs = P.locs ++ L ∧ B.cells = P.cells + 0 ∧ B.slots = P.slots + 0) := by
  obtain ⟨t, k, E, V, C, K, hp, hl⟩ := F
  obtain ⟨t', k', E', V', C', K', hp', hl'⟩ := G
  have up : ∀ {c : Int32}, ¬ c < 0 ∧ ¬ (255 : Int32) < c → ¬ c < 0 ∧ ¬ (65535 : Int32) < c := fun {c} q => by
    simp only [Int32.lt_iff_toInt_lt, Int32.reduceToInt] at q ⊢
    omega
  refine Back.mono (StrChars.Road.eqW hZ (fun d hd => hw d ((by decide +kernel : ∀ d ∈ StrChars.Road.wordsEq, d ∈ tables_1) d hd)) (kI := 4) (hw _ (List.mem_of_getElem? (i := 44) rfl)) E V C K (StrChars.Road.codOf rfl fun c hc => (hp c hc).2) (fun c hc => up (hp c hc)) hl E' V' C' K' (StrChars.Road.codOf rfl fun c hc => (hp' c hc).2) (fun c hc => up (hp' c hc)) hl' S hz hfr hlo) (fun _ _ q => q) ?_
  rintro P a v B - ⟨L, ⟨hv, hL, hh⟩, r⟩
  refine ⟨L, ⟨?_, by rw [hL]; exact Fr.nil _, hh⟩, r⟩
  rcases hv with ⟨rfl, q⟩ | ⟨rfl, q⟩
  · rw [if_pos q]
  · rw [if_neg q]
theorem d7_0 : decode jdk_42_method_149_code 0 = .ok (.aload_n 0, 1) := by decide +kernel
theorem d7_1 : decode jdk_42_method_149_code 1 = .ok (.invokespecial 1, 3) := by decide +kernel
theorem d7_4 : decode jdk_42_method_149_code 4 = .ok (.iload_n 3, 1) := by decide +kernel
theorem d7_5 : decode jdk_42_method_149_code 5 = .ok (.ifCond .ne 22, 3) := by decide +kernel
theorem d7_8 : decode jdk_42_method_149_code 8 = .ok (.aload_n 0, 1) := by decide +kernel
theorem d7_9 : decode jdk_42_method_149_code 9 = .ok (.ldc 7, 2) := by decide +kernel
theorem d7_11 : decode jdk_42_method_149_code 11 = .ok (.getfield 9, 3) := by decide +kernel
theorem d7_14 : decode jdk_42_method_149_code 14 = .ok (.putfield 9, 3) := by decide +kernel
theorem d7_17 : decode jdk_42_method_149_code 17 = .ok (.aload_n 0, 1) := by decide +kernel
theorem d7_18 : decode jdk_42_method_149_code 18 = .ok (.ldc 7, 2) := by decide +kernel
theorem d7_20 : decode jdk_42_method_149_code 20 = .ok (.getfield 15, 3) := by decide +kernel
theorem d7_23 : decode jdk_42_method_149_code 23 = .ok (.putfield 15, 3) := by decide +kernel
theorem d7_26 : decode jdk_42_method_149_code 26 = .ok (.return_, 1) := by decide +kernel
theorem ef_rm_s0v (m : MethodId) (t : Addr) (ca : Addr)  : entryFrame m #[(.ref t), (.ref ca), (.int (0 : Int32)), (.int (0 : Int32)), .null] 6 = mkF m 0 #[.val (.ref t), .val (.ref ca), .val (.int (0 : Int32)), .val (.int (0 : Int32)), .val .null, .unset] [] := by first | (simp [entryFrame, mkF, argsToLocals, Value.category]; done) | rfl
def Q_rm_s0v (Z : State) (t : Addr) (ca : Addr)  (h0 : Heap) (n0 : Nat) (v : Option Value) (h : Heap) (L : List Loc) : Prop := v = none ∧ Fr n0 L ∧ Keep h0 h [t] ∧ StrIs Z h t []
theorem pn_0_ : plainName "java/lang/String" = true := by first | (simp [plainName, overriddenIn]; done) | decide +kernel
theorem pn_0 : plainFor (⟨"java/lang/String", "<init>", "([CIILjava/lang/Void;)V"⟩ : MethodName) = true := plainFor_of_name pn_0_
set_option maxRecDepth 65536 in
set_option maxHeartbeats 40000000 in
theorem rm_s0v (l : Launch) (Z : State) (a0 : Array Value) (hw : ∀ d ∈ tables_1, d.before a0 Z = true) (ws : List Jvm.Cond) (t : Addr) (ca : Addr)  (h0 : Heap) (n0 : Nat) (O0 : Old Z n0 h0) (hEL : EW Z a0 consts_1) (E_t : Exa Z h0 t "java/lang/String") (F_t_value : Fld Z h0 t "java/lang/String" "value" "[B" .null) (F_t_coder : Fld Z h0 t "java/lang/String" "coder" "B" (.int (0 : Int32))) (ge_t : n0 ≤ t) :
    MetFree l (⟨"java/lang/String", "<init>", "([CIILjava/lang/Void;)V"⟩ : MethodName) (head1 (Jvm.Cond.code (⟨"java/lang/String", "<init>", "([CIILjava/lang/Void;)V"⟩ : MethodName) jdk_42_method_149_code 6 none :: ws) ({ frames := 1, cells := 2, slots := 4, locals := 12 } : Room)) (fun args_ U => args_ = #[(.ref t), (.ref ca), (.int (0 : Int32)), (.int (0 : Int32)), .null] ∧ Z.Warmed39 U.vm ∧ U.heap = h0 ∧ CHv Z consts_1 U.vm h0) (fun _ _ _ _ _ => True) (fun _ U out_ U' => ∃ val_ loc_, out_ = .returned val_ ∧ (Q_rm_s0v Z t ca h0 n0) val_ U'.heap loc_ ∧ CHr Z consts_1 U.vm U.heap U'.vm U'.heap ∧ ReturnedEndW U out_ U' loc_ ({ frames := 1, cells := 2, slots := 4, locals := 12 } : Room).cells ({ frames := 1, cells := 2, slots := 4, locals := 12 } : Room).slots) := by
  refine startW (Q := (Q_rm_s0v Z t ca h0 n0)) pn_0 ?_
  intro p e s m below meth c T0 X0 hx hby hml hown hnm hret hlk hZ e0 hS CR
  have hk : 0 ≤ h0.size := Nat.zero_le _
  have wS : ∀ a ∈ Bundle.stringAtoms, a.before a0 Z = true := own_wS hw
  replace hown : s.vm.findClass "java/lang/String" = some m.cls := hown
  replace hml : c.maxLocals = 6 := hml
  refine goAt (ef_rm_s0v m t ca ) ?_
  have N0 := Fr.nil n0
  have Sf_t := safeNull (EL := consts_1) hZ.alike E_t F_t_value
  show Go p e below T0 (mkF m 0 #[.val (.ref t), .val (.ref ca), .val (.int (0 : Int32)), .val (.int (0 : Int32)), .val .null, .unset] []) _
  refine stp (fun _ => XS.aloadN X0.here hx rfl (hb hby d7_0) rfl rfl) ?_
  show Go p e below T0 (mkF m 1 #[.val (.ref t), .val (.ref ca), .val (.int (0 : Int32)), .val (.int (0 : Int32)), .val .null, .unset] [(.ref t)]) _
  obtain ⟨T1, X1, e1, st1⟩ := initO X0 hx hZ hown (hw _ (List.mem_of_getElem? (i := 52) rfl)) (hw _ (List.mem_of_getElem? (i := 53) rfl)) (hw _ (List.mem_of_getElem? (i := 54) rfl)) e0 (g := (mkF m 1 #[.val (.ref t), .val (.ref ca), .val (.int (0 : Int32)), .val (.int (0 : Int32)), .val .null, .unset] [(.ref t)])) rfl (by rw [hml]; rfl) rfl (hb hby d7_1) (by decide) (W := 0) (by show 2 * 0 + _ ≤ _; exact Nat.le_of_eq rfl) (by decide)
  refine stp st1 ?_
  show Go p e below T1 (mkF m 4 #[.val (.ref t), .val (.ref ca), .val (.int (0 : Int32)), .val (.int (0 : Int32)), .val .null, .unset] []) _
  refine stp (fun _ => XS.iloadN X1.here hx rfl (hb hby d7_4) rfl) ?_
  show Go p e below T1 (mkF m 5 #[.val (.ref t), .val (.ref ca), .val (.int (0 : Int32)), .val (.int (0 : Int32)), .val .null, .unset] [(.int (0 : Int32))]) _
  refine stp (fun _ => XS.ifNo X1.here hx rfl (hb hby d7_5) rfl (by decide)) ?_
  show Go p e below T1 (mkF m 8 #[.val (.ref t), .val (.ref ca), .val (.int (0 : Int32)), .val (.int (0 : Int32)), .val .null, .unset] []) _
  refine stp (fun _ => XS.aloadN X1.here hx rfl (hb hby d7_8) rfl rfl) ?_
  show Go p e below T1 (mkF m 9 #[.val (.ref t), .val (.ref ca), .val (.int (0 : Int32)), .val (.int (0 : Int32)), .val .null, .unset] [(.ref t)]) _
  obtain ⟨la2, T2, h2, k1_2, lb2, kl2, X2, e2, E2, hS, hk', hZ, hown, Ea2, Ca2, Va2, Ba2, lta2, ltb2, CRn2, Li2, hne2, st2⟩ := ldcCH X1 hx hZ hown (hw _ (List.mem_of_getElem? (i := 86) rfl)) wS e1 hS hk hEL (by decide) CR.1 (vs := []) (z := (0 : Int32)) ⟨by decide +kernel, by decide +kernel⟩ (by decide) (by decide) (g := (mkF m 9 #[.val (.ref t), .val (.ref ca), .val (.int (0 : Int32)), .val (.int (0 : Int32)), .val .null, .unset] [(.ref t)])) rfl (hb hby d7_9) (n := 0) (by decide +kernel) (by decide) (by decide) (by decide)
  have f3 := E_t.ext E2
  have f4 := F_t_value.ext E2
  have f5 := F_t_coder.ext E2
  have f6 := (CRn2.safe F_t_coder.lt Sf_t)
  have hk := hk'
  have CR := CR.trans CRn2
  have K2 : Keep h0 h2 [t] := (Keep.refl h0 [t]).ext E2
  have O2 := O0.ext E2
  have ne7 := hne2 t f6
  refine stp st2 ?_
  show Go p e below T2 (mkF m 11 #[.val (.ref t), .val (.ref ca), .val (.int (0 : Int32)), .val (.int (0 : Int32)), .val .null, .unset] [(.ref la2), (.ref t)]) _
  obtain ⟨T8, X8, e8, st8⟩ := getF X2 hx hZ hown (host := "") (Or.inl (hw _ (List.mem_of_getElem? (i := 69) rfl))) Via.refl e2 Va2 (g := (mkF m 11 #[.val (.ref t), .val (.ref ca), .val (.int (0 : Int32)), .val (.int (0 : Int32)), .val .null, .unset] [(.ref la2), (.ref t)])) rfl rfl (hb hby d7_11)
  refine stp st8 ?_
  show Go p e below T8 (mkF m 14 #[.val (.ref t), .val (.ref ca), .val (.int (0 : Int32)), .val (.int (0 : Int32)), .val .null, .unset] [(.ref lb2), (.ref t)]) _
  obtain ⟨T9, h9, X9, e9, W9, st9⟩ := putF X8 hx hZ hown (host := "") (Or.inl (hw _ (List.mem_of_getElem? (i := 69) rfl))) Via.refl e8 f4 f3 (Or.inr ⟨(hw _ (List.mem_of_getElem? (i := 70) rfl)), rfl, hnm⟩) (hw _ (List.mem_of_getElem? (i := 44) rfl)) (ty := (.array .byte)) (by decide) rfl rfl (g := (mkF m 14 #[.val (.ref t), .val (.ref ca), .val (.int (0 : Int32)), .val (.int (0 : Int32)), .val .null, .unset] [(.ref lb2), (.ref t)])) rfl rfl (hb hby d7_14)
  have Fw9 := f4.same W9
  have f10 := f3.wr W9
  have f12 := f5.other W9 (Or.inr (slot_ne (Or.inr (hw _ (List.mem_of_getElem? (i := 68) rfl))) (Or.inr (hw _ (List.mem_of_getElem? (i := 70) rfl))) (by decide) (t := .byte) (t' := (.array .byte)) (by decide) (by decide)))
  have f13 := Safe.wr W9 f6 CR.1 f6
  have f14 := Ea2.wr W9
  have f15 := Ca2.other W9 (Or.inl (Ne.symm ne7.1))
  have f16 := Va2.other W9 (Or.inl (Ne.symm ne7.1))
  have f17 := Ba2.other W9 (Ne.symm ne7.2)
  have hk := Nat.le_trans hk (Keep.of_wr W9).1
  have CR := CR.trans (CHr.wr W9 f6 CR.1)
  have K9 : Keep h0 h9 [t] := K2.wr W9 (Or.inl (List.mem_of_getElem? (i := 0) rfl))
  have O9 := O2.wr W9 ge_t
  have N9 := Fr.snoc X9 N0 ge_t
  refine stp st9 ?_
  show Go p e below T9 (mkF m 17 #[.val (.ref t), .val (.ref ca), .val (.int (0 : Int32)), .val (.int (0 : Int32)), .val .null, .unset] []) _
  refine stp (fun _ => XS.aloadN X9.here hx rfl (hb hby d7_17) rfl rfl) ?_
  show Go p e below T9 (mkF m 18 #[.val (.ref t), .val (.ref ca), .val (.int (0 : Int32)), .val (.int (0 : Int32)), .val .null, .unset] [(.ref t)]) _
  refine stp (fun _ => ldcAgain X9 hx hZ hown (hw _ (List.mem_of_getElem? (i := 86) rfl)) Li2 (g := (mkF m 18 #[.val (.ref t), .val (.ref ca), .val (.int (0 : Int32)), .val (.int (0 : Int32)), .val .null, .unset] [(.ref t)])) rfl (hb hby d7_18) _) ?_
  show Go p e below T9 (mkF m 20 #[.val (.ref t), .val (.ref ca), .val (.int (0 : Int32)), .val (.int (0 : Int32)), .val .null, .unset] [(.ref la2), (.ref t)]) _
  obtain ⟨T18, X18, e18, st18⟩ := getF X9 hx hZ hown (host := "") (Or.inl (hw _ (List.mem_of_getElem? (i := 67) rfl))) Via.refl e9 f15 (g := (mkF m 20 #[.val (.ref t), .val (.ref ca), .val (.int (0 : Int32)), .val (.int (0 : Int32)), .val .null, .unset] [(.ref la2), (.ref t)])) rfl rfl (hb hby d7_20)
  refine stp st18 ?_
  show Go p e below T18 (mkF m 23 #[.val (.ref t), .val (.ref ca), .val (.int (0 : Int32)), .val (.int (0 : Int32)), .val .null, .unset] [(.int (0 : Int32)), (.ref t)]) _
  obtain ⟨T19, h19, X19, e19, W19, st19⟩ := putFN X18 hx hZ hown (hw _ (List.mem_of_getElem? (i := 67) rfl)) Via.refl e18 f12 f10 (Or.inr ⟨(hw _ (List.mem_of_getElem? (i := 68) rfl)), rfl, hnm⟩) (hw _ (List.mem_of_getElem? (i := 44) rfl)) (ty := .byte) (v' := (.int (0 : Int32))) (by decide) rfl rfl (g := (mkF m 23 #[.val (.ref t), .val (.ref ca), .val (.int (0 : Int32)), .val (.int (0 : Int32)), .val .null, .unset] [(.int (0 : Int32)), (.ref t)])) rfl rfl (hb hby d7_23)
  have Fw19 := f12.same W19
  have f20 := f10.wr W19
  have f21 := Fw9.other W19 (Or.inr (slot_ne (Or.inr (hw _ (List.mem_of_getElem? (i := 70) rfl))) (Or.inr (hw _ (List.mem_of_getElem? (i := 68) rfl))) (by decide) (t := (.array .byte)) (t' := .byte) (by decide) (by decide)))
  have f23 := Safe.wr W19 f13 CR.1 f13
  have f24 := f14.wr W19
  have f25 := f15.other W19 (Or.inl (Ne.symm ne7.1))
  have f26 := f16.other W19 (Or.inl (Ne.symm ne7.1))
  have f27 := f17.other W19 (Ne.symm ne7.2)
  have hk := Nat.le_trans hk (Keep.of_wr W19).1
  have CR := CR.trans (CHr.wr W19 f13 CR.1)
  have K19 : Keep h0 h19 [t] := K9.wr W19 (Or.inl (List.mem_of_getElem? (i := 0) rfl))
  have O19 := O9.wr W19 ge_t
  have N19 := Fr.snoc X19 N9 ge_t
  refine stp st19 ?_
  show Go p e below T19 (mkF m 26 #[.val (.ref t), .val (.ref ca), .val (.int (0 : Int32)), .val (.int (0 : Int32)), .val .null, .unset] []) _
  have Q28 : StrIs Z h19 t [] := StrIs.of f20 f21 Fw19 f27 rfl rfl (fun _ q => nomatch q) (Nat.le_of_ble_eq_true rfl)
  refine outVW X19 hx hZ hEL e19 hS hk CR hret (hb hby d7_26) hlk (by decide) (by decide) ?_
  rw [e19]
  exact ⟨rfl, N19, K19, Q28⟩
theorem d6_0 : decode jdk_42_method_3_code 0 = .ok (.aload_n 0, 1) := by decide +kernel
theorem d6_1 : decode jdk_42_method_3_code 1 = .ok (.aload_n 1, 1) := by decide +kernel
theorem d6_2 : decode jdk_42_method_3_code 2 = .ok (.iconst 0, 1) := by decide +kernel
theorem d6_3 : decode jdk_42_method_3_code 3 = .ok (.aload_n 1, 1) := by decide +kernel
theorem d6_4 : decode jdk_42_method_3_code 4 = .ok (.arraylength, 1) := by decide +kernel
theorem d6_5 : decode jdk_42_method_3_code 5 = .ok (.aconst_null, 1) := by decide +kernel
theorem d6_6 : decode jdk_42_method_3_code 6 = .ok (.invokespecial 27, 3) := by decide +kernel
theorem pd_0 : parseMethodDescriptor "([CIILjava/lang/Void;)V" = some ⟨[(.array .char), .int, .int, (.object "java/lang/Void")], none⟩ := by decide +kernel
theorem d6_9 : decode jdk_42_method_3_code 9 = .ok (.return_, 1) := by decide +kernel
theorem ef_rm_s0 (m : MethodId) (t : Addr) (ca : Addr)  : entryFrame m #[(.ref t), (.ref ca)] 2 = mkF m 0 #[.val (.ref t), .val (.ref ca)] [] := by first | (simp [entryFrame, mkF, argsToLocals, Value.category]; done) | rfl
def Q_rm_s0 (Z : State) (t : Addr) (ca : Addr) (k_ca : ClassId) (h0 : Heap) (n0 : Nat) (v : Option Value) (h : Heap) (L : List Loc) : Prop := v = none ∧ Fr n0 L ∧ Keep h0 h [t] ∧ StrIs Z h t []
theorem pn_1_ : plainName "java/lang/String" = true := by first | (simp [plainName, overriddenIn]; done) | decide +kernel
theorem pn_1 : plainFor (⟨"java/lang/String", "<init>", "([C)V"⟩ : MethodName) = true := plainFor_of_name pn_1_
set_option maxRecDepth 65536 in
set_option maxHeartbeats 40000000 in
theorem rm_s0 (l : Launch) (Z : State) (a0 : Array Value) (hw : ∀ d ∈ tables_1, d.before a0 Z = true) (ws : List Jvm.Cond) (t : Addr) (ca : Addr) (k_ca : ClassId) (h0 : Heap) (n0 : Nat) (O0 : Old Z n0 h0) (hEL : EW Z a0 consts_1) (E_t : Exa Z h0 t "java/lang/String") (F_t_value : Fld Z h0 t "java/lang/String" "value" "[B" .null) (F_t_coder : Fld Z h0 t "java/lang/String" "coder" "B" (.int (0 : Int32))) (V_ca : Arv Z h0 ca k_ca .char (0 : Int32) [] (.int (0 : Int32))) (ge_t : n0 ≤ t) (ne_ca_t : ca ≠ t) :
    MetFree l (⟨"java/lang/String", "<init>", "([C)V"⟩ : MethodName) (head1 (Jvm.Cond.code (⟨"java/lang/String", "<init>", "([C)V"⟩ : MethodName) jdk_42_method_3_code 2 none :: ws) ({ frames := 2, cells := 2, slots := 4, locals := 29 } : Room)) (fun args_ U => args_ = #[(.ref t), (.ref ca)] ∧ Z.Warmed39 U.vm ∧ U.heap = h0 ∧ CHv Z consts_1 U.vm h0) (fun _ _ _ _ _ => True) (fun _ U out_ U' => ∃ val_ loc_, out_ = .returned val_ ∧ (Q_rm_s0 Z t ca k_ca h0 n0) val_ U'.heap loc_ ∧ CHr Z consts_1 U.vm U.heap U'.vm U'.heap ∧ ReturnedEndW U out_ U' loc_ ({ frames := 2, cells := 2, slots := 4, locals := 29 } : Room).cells ({ frames := 2, cells := 2, slots := 4, locals := 29 } : Room).slots) := by
  refine startW (Q := (Q_rm_s0 Z t ca k_ca h0 n0)) pn_1 ?_
  intro p e s m below meth c T0 X0 hx hby hml hown hnm hret hlk hZ e0 hS CR
  have hk : 0 ≤ h0.size := Nat.zero_le _
  have wS : ∀ a ∈ Bundle.stringAtoms, a.before a0 Z = true := own_wS hw
  replace hown : s.vm.findClass "java/lang/String" = some m.cls := hown
  replace hml : c.maxLocals = 2 := hml
  refine goAt (ef_rm_s0 m t ca ) ?_
  have N0 := Fr.nil n0
  have Sf_t := safeNull (EL := consts_1) hZ.alike E_t F_t_value
  show Go p e below T0 (mkF m 0 #[.val (.ref t), .val (.ref ca)] []) _
  refine stp (fun _ => XS.aloadN X0.here hx rfl (hb hby d6_0) rfl rfl) ?_
  show Go p e below T0 (mkF m 1 #[.val (.ref t), .val (.ref ca)] [(.ref t)]) _
  refine stp (fun _ => XS.aloadN X0.here hx rfl (hb hby d6_1) rfl rfl) ?_
  show Go p e below T0 (mkF m 2 #[.val (.ref t), .val (.ref ca)] [(.ref ca), (.ref t)]) _
  refine stp (fun _ => XS.iconst X0.here hx rfl (hb hby d6_2)) ?_
  show Go p e below T0 (mkF m 3 #[.val (.ref t), .val (.ref ca)] [(.int (0 : Int32)), (.ref ca), (.ref t)]) _
  refine stp (fun _ => XS.aloadN X0.here hx rfl (hb hby d6_3) rfl rfl) ?_
  show Go p e below T0 (mkF m 4 #[.val (.ref t), .val (.ref ca)] [(.ref ca), (.int (0 : Int32)), (.ref ca), (.ref t)]) _
  obtain ⟨cl1, Ar1, -, S1, M1, -, -⟩ := (id V_ca)
  refine stp (fun _ => X0.arraylength hx (by rw [e0]; exact Ar1.1) (State.isArrayOf_alike hZ.alike Ar1.2.1) (g := (mkF m 4 #[.val (.ref t), .val (.ref ca)] [(.ref ca), (.int (0 : Int32)), (.ref ca), (.ref t)])) rfl rfl (hb hby d6_4) _) ?_
  rw [len_of S1 M1]
  show Go p e below T0 (mkF m 5 #[.val (.ref t), .val (.ref ca)] [(.int (0 : Int32)), (.int (0 : Int32)), (.ref ca), (.ref t)]) _
  refine stp (fun _ => XS.aconstNull X0.here hx rfl (hb hby d6_5)) ?_
  show Go p e below T0 (mkF m 6 #[.val (.ref t), .val (.ref ca)] [.null, (.int (0 : Int32)), (.int (0 : Int32)), (.ref ca), (.ref t)]) _
  obtain ⟨_, _, ⟨T2, L2, k2, n2⟩, -, X2, hS2, gg2, ⟨Lc2, hQ2, l2, y2, z2, CRn2⟩, st2⟩ := X0.specialBackS hx (y := (⟨"java/lang/String", "<init>", "([CIILjava/lang/Void;)V"⟩ : MethodName)) rfl hown (mvT hZ (hw _ (List.mem_of_getElem? (i := 48) rfl))) (mvT hZ (hw _ (List.mem_of_getElem? (i := 49) rfl))) (mvT hZ (hw _ (List.mem_of_getElem? (i := 51) rfl))) (by decide) (backOfSH (W := 0) (rm_s0v l Z a0 hw [] t ca  h0 n0 O0 hEL E_t F_t_value F_t_coder ge_t) hZ (hw _ (List.mem_of_getElem? (i := 51) rfl)) (hw _ (List.mem_of_getElem? (i := 28) rfl)) (by decide) (by decide) hEL CR.1) (g := (mkF m 6 #[.val (.ref t), .val (.ref ca)] [.null, (.int (0 : Int32)), (.int (0 : Int32)), (.ref ca), (.ref t)])) rfl (by rw [hml]; rfl) (Steps.refl _) (a := t) (argsL := [(.ref ca), (.int (0 : Int32)), (.int (0 : Int32)), .null]) (rest := []) (lenOf pd_0 rfl) rfl (by show 2 * 0 + _ ≤ _; exact Nat.le_of_eq rfl) (hb hby d6_6) (fun _ _ => ⟨rfl, e0, (by decide : 0 + 2 ≤ _), (by decide : 0 + 4 ≤ _)⟩)
  dsimp only [Pt.U, Pt.locs, Pt.cells, Pt.slots] at X2 hS2 gg2 l2 y2 z2 st2 hQ2 CRn2
  subst y2 z2
  obtain ⟨X2, hS, hZ, hown⟩ := rebS hS (by rw [e0]; exact hk) X2 hS2 gg2 hZ hown
  obtain ⟨rfl, N2q, K2q, r2_0⟩ := hQ2
  have N2 : Fr n0 L2 := by rw [l2]; exact Fr.app N0 N2q
  have f3 := E_t.keep K2q
  have f4 := V_ca.keep K2q (ninS ne_ca_t nin0)
  have f5 := CRn2.safe F_t_coder.lt Sf_t
  have K2 : Keep h0 T2.heap [t] := (Keep.refl h0 [t]).trans K2q (allS (Or.inl (List.mem_of_getElem? (i := 0) rfl)) all0)
  have O2 := O0.keep K2q (allS ge_t all0)
  have hk : T2.heap.size ≤ T2.heap.size := Nat.le_refl _
  have CR := CR.trans CRn2
  refine stt st2 ?_
  show Go p e below T2 (mkF m 9 #[.val (.ref t), .val (.ref ca)] []) _
  refine outVW X2 hx hZ hEL rfl hS hk CR hret (hb hby d6_9) hlk (by decide) (by decide) ?_
  exact ⟨rfl, N2, K2, r2_0⟩
theorem d2_0 : decode prog_7_method_1_code 0 = .ok (.getstatic 10, 3) := by decide +kernel
theorem d2_3 : decode prog_7_method_1_code 3 = .ok (.invokevirtual 14, 3) := by decide +kernel
theorem d2_6 : decode prog_7_method_1_code 6 = .ok (.checkcast 15, 3) := by decide +kernel
theorem d2_9 : decode prog_7_method_1_code 9 = .ok (.areturn, 1) := by decide +kernel
theorem ef_rm_values (m : MethodId)   : entryFrame m #[] 0 = mkF m 0 #[] [] := by first | (simp [entryFrame, mkF, argsToLocals, Value.category]; done) | rfl
def Q_rm_values (Z : State)  (auth : Addr) (impl : Addr) (va : Addr) (k_va : ClassId) (h0 : Heap) (n0 : Nat) (v : Option Value) (h : Heap) (L : List Loc) : Prop := ∃ (r : Addr) (k_r : ClassId), v = some (.ref r) ∧ Fr n0 L ∧ Keep h0 h [] ∧ (n0 ≤ r ∧ h0.size ≤ r) ∧ Exa Z h r "[Lcom/example/uriel/uriel/grant/GrantType;" ∧ Arv Z h r k_r (.object "com/example/uriel/uriel/grant/GrantType") (2 : Int32) [(.ref auth), (.ref impl)] .null
theorem pn_2_ : plainName "com/example/uriel/uriel/grant/GrantType" = true := by first | (simp [plainName, overriddenIn]; done) | decide +kernel
theorem pn_2 : plainFor (⟨"com/example/uriel/uriel/grant/GrantType", "values", "()[Lcom/example/uriel/uriel/grant/GrantType;"⟩ : MethodName) = true := plainFor_of_name pn_2_
set_option maxRecDepth 65536 in
set_option maxHeartbeats 40000000 in
theorem rm_values (l : Launch) (Z : State) (a0 : Array Value) (hw : ∀ d ∈ tables_1, d.before a0 Z = true) (ws : List Jvm.Cond)  (auth : Addr) (impl : Addr) (va : Addr) (k_va : ClassId) (h0 : Heap) (n0 : Nat) (O0 : Old Z n0 h0) (S__VALUES : Sta Z Z.heap "com/example/uriel/uriel/grant/GrantType" "$VALUES" "[Lcom/example/uriel/uriel/grant/GrantType;" (.ref va)) (E_va : Exa Z Z.heap va "[Lcom/example/uriel/uriel/grant/GrantType;") (V_va : Arv Z Z.heap va k_va (.object "com/example/uriel/uriel/grant/GrantType") (2 : Int32) [(.ref auth), (.ref impl)] .null) :
    MetFree l (⟨"com/example/uriel/uriel/grant/GrantType", "values", "()[Lcom/example/uriel/uriel/grant/GrantType;"⟩ : MethodName) (head1 (Jvm.Cond.code (⟨"com/example/uriel/uriel/grant/GrantType", "values", "()[Lcom/example/uriel/uriel/grant/GrantType;"⟩ : MethodName) prog_7_method_1_code 0 (some (.array (.object "com/example/uriel/uriel/grant/GrantType"))) :: ws) ({ frames := 1, cells := 1, slots := 2, locals := 14 } : Room)) (fun args_ U => args_ = #[] ∧ Z.Warmed39 U.vm ∧ U.heap = h0) (fun _ _ _ _ _ => True) (fun _ U out_ U' => ∃ val_ loc_, out_ = .returned val_ ∧ (Q_rm_values Z auth impl va k_va h0 n0) val_ U'.heap loc_ ∧ FrameEnd U out_ U' loc_ ({ frames := 1, cells := 1, slots := 2, locals := 14 } : Room).cells ({ frames := 1, cells := 1, slots := 2, locals := 14 } : Room).slots) := by
  refine start (Q := (Q_rm_values Z auth impl va k_va h0 n0)) pn_2 ?_
  intro p e s m below meth c T0 X0 hx hby hml hown hnm hret hlk hZ e0
  replace hown : s.vm.findClass "com/example/uriel/uriel/grant/GrantType" = some m.cls := hown
  replace hml : c.maxLocals = 0 := hml
  refine goAt (ef_rm_values m  ) ?_
  have N0 := Fr.nil n0
  show Go p e below T0 (mkF m 0 #[] []) _
  obtain ⟨T1, X1, e1, st1⟩ := getS2 X0 hx hZ hown (host := "") (Or.inl (hw _ (List.mem_of_getElem? (i := 8) rfl))) Via.refl e0 (S__VALUES.ext O0.2) (g := (mkF m 0 #[] [])) rfl (hb hby d2_0)
  refine stp st1 ?_
  show Go p e below T1 (mkF m 3 #[] [(.ref va)]) _
  obtain ⟨T2, h2, X2, e2, E2, V2, B2, st2⟩ := cloneH X1 hx hZ (ad := "[Lcom/example/uriel/uriel/grant/GrantType;") hown (hw _ (List.mem_of_getElem? (i := 10) rfl)) (hw _ (List.mem_of_getElem? (i := 11) rfl)) (hw _ (List.mem_of_getElem? (i := 15) rfl)) (hw _ (List.mem_of_getElem? (i := 13) rfl)) (hw _ (List.mem_of_getElem? (i := 14) rfl)) (hw _ (List.mem_of_getElem? (i := 16) rfl)) e1 (V_va.ext O0.2).arh (E_va.ext O0.2) (g := (mkF m 3 #[] [(.ref va)])) rfl (by rw [hml]; rfl) rfl (hb hby d2_3) (by decide) (W := 0) (cap := 2) (by show 2 * 0 + _ ≤ _; exact Nat.le_of_eq rfl) (by decide) (by decide) (by decide) (by decide)
  obtain ⟨b2, g2⟩ : ∃ z, z = h0.size := ⟨_, rfl⟩
  rw [← g2] at V2 B2 st2
  have ne3 : va ≠ b2 := O0.ne E_va.lt (Nat.le_trans (old_le O0) (Nat.le_of_eq g2.symm))
  have sz_b2 : h0.size ≤ b2 := Nat.le_trans (Keep.refl h0 []).1 (Nat.le_of_eq g2.symm)
  have ge_b2 : n0 ≤ b2 := Nat.le_trans (old_le O0) (Nat.le_of_eq g2.symm)
  have K2 : Keep h0 h2 [] := (Keep.refl h0 []).ext E2
  have O2 := O0.ext E2
  replace V2 : Arv Z h2 b2 k_va (.object "com/example/uriel/uriel/grant/GrantType") (2 : Int32) [(.ref auth), (.ref impl)] .null := V2
  refine stp st2 ?_
  show Go p e below T2 (mkF m 6 #[] [(.ref b2)]) _
  obtain ⟨T4, X4, e4, st4⟩ := castY X2 hx hZ hown (hw _ (List.mem_of_getElem? (i := 20) rfl)) e2 (Ins.self B2) (g := (mkF m 6 #[] [(.ref b2)])) rfl rfl (hb hby d2_6)
  refine stp st4 ?_
  show Go p e below T4 (mkF m 9 #[] [(.ref b2)]) _
  refine outA X4 hx hret rfl rfl (hb hby d2_9) hlk (by decide) (by decide) ?_
  rw [e4]
  exact ⟨b2, k_va, rfl, N0, K2, ⟨ge_b2, sz_b2⟩, B2, V2⟩
theorem d13_0 : decode jdk_32_method_2_code 0 = .ok (.aload_n 0, 1) := by decide +kernel
theorem d13_1 : decode jdk_32_method_2_code 1 = .ok (.invokespecial 7, 3) := by decide +kernel
theorem d13_4 : decode jdk_32_method_2_code 4 = .ok (.aload_n 0, 1) := by decide +kernel
theorem d13_5 : decode jdk_32_method_2_code 5 = .ok (.aload_n 1, 1) := by decide +kernel
theorem d13_6 : decode jdk_32_method_2_code 6 = .ok (.putfield 13, 3) := by decide +kernel
theorem d13_9 : decode jdk_32_method_2_code 9 = .ok (.return_, 1) := by decide +kernel
theorem ef_rm_oinit (m : MethodId) (t : Addr) (gx : Addr)  : entryFrame m #[(.ref t), (.ref gx)] 2 = mkF m 0 #[.val (.ref t), .val (.ref gx)] [] := by first | (simp [entryFrame, mkF, argsToLocals, Value.category]; done) | rfl
def Q_rm_oinit (Z : State) (t : Addr) (gx : Addr)  (h0 : Heap) (n0 : Nat) (v : Option Value) (h : Heap) (L : List Loc) : Prop := v = none ∧ Fr n0 L ∧ Keep h0 h [t] ∧ Exa Z h t "java/util/Optional" ∧ Fld Z h t "java/util/Optional" "value" "Ljava/lang/Object;" (.ref gx)
theorem pn_3_ : plainName "java/util/Optional" = true := by first | (simp [plainName, overriddenIn]; done) | decide +kernel
theorem pn_3 : plainFor (⟨"java/util/Optional", "<init>", "(Ljava/lang/Object;)V"⟩ : MethodName) = true := plainFor_of_name pn_3_
set_option maxRecDepth 65536 in
set_option maxHeartbeats 40000000 in
theorem rm_oinit (l : Launch) (Z : State) (a0 : Array Value) (hw : ∀ d ∈ tables_1, d.before a0 Z = true) (ws : List Jvm.Cond) (t : Addr) (gx : Addr)  (h0 : Heap) (n0 : Nat) (O0 : Old Z n0 h0) (E_t : Exa Z h0 t "java/util/Optional") (F_t_value : Fld Z h0 t "java/util/Optional" "value" "Ljava/lang/Object;" .null) (ge_t : n0 ≤ t) :
    MetFree l (⟨"java/util/Optional", "<init>", "(Ljava/lang/Object;)V"⟩ : MethodName) (head1 (Jvm.Cond.code (⟨"java/util/Optional", "<init>", "(Ljava/lang/Object;)V"⟩ : MethodName) jdk_32_method_2_code 2 none :: ws) ({ frames := 1, cells := 0, slots := 0, locals := 12 } : Room)) (fun args_ U => args_ = #[(.ref t), (.ref gx)] ∧ Z.Warmed39 U.vm ∧ U.heap = h0) (fun _ _ _ _ _ => True) (fun _ U out_ U' => ∃ val_ loc_, out_ = .returned val_ ∧ (Q_rm_oinit Z t gx h0 n0) val_ U'.heap loc_ ∧ FrameEnd U out_ U' loc_ ({ frames := 1, cells := 0, slots := 0, locals := 12 } : Room).cells ({ frames := 1, cells := 0, slots := 0, locals := 12 } : Room).slots) := by
  refine start (Q := (Q_rm_oinit Z t gx h0 n0)) pn_3 ?_
  intro p e s m below meth c T0 X0 hx hby hml hown hnm hret hlk hZ e0
  replace hown : s.vm.findClass "java/util/Optional" = some m.cls := hown
  replace hml : c.maxLocals = 2 := hml
  refine goAt (ef_rm_oinit m t gx ) ?_
  have N0 := Fr.nil n0
  show Go p e below T0 (mkF m 0 #[.val (.ref t), .val (.ref gx)] []) _
  refine stp (fun _ => XS.aloadN X0.here hx rfl (hb hby d13_0) rfl rfl) ?_
  show Go p e below T0 (mkF m 1 #[.val (.ref t), .val (.ref gx)] [(.ref t)]) _
  obtain ⟨T1, X1, e1, st1⟩ := initO X0 hx hZ hown (hw _ (List.mem_of_getElem? (i := 82) rfl)) (hw _ (List.mem_of_getElem? (i := 53) rfl)) (hw _ (List.mem_of_getElem? (i := 54) rfl)) e0 (g := (mkF m 1 #[.val (.ref t), .val (.ref gx)] [(.ref t)])) rfl (by rw [hml]; rfl) rfl (hb hby d13_1) (by decide) (W := 0) (by show 2 * 0 + _ ≤ _; exact Nat.le_of_eq rfl) (by decide)
  refine stp st1 ?_
  show Go p e below T1 (mkF m 4 #[.val (.ref t), .val (.ref gx)] []) _
  refine stp (fun _ => XS.aloadN X1.here hx rfl (hb hby d13_4) rfl rfl) ?_
  show Go p e below T1 (mkF m 5 #[.val (.ref t), .val (.ref gx)] [(.ref t)]) _
  refine stp (fun _ => XS.aloadN X1.here hx rfl (hb hby d13_5) rfl rfl) ?_
  show Go p e below T1 (mkF m 6 #[.val (.ref t), .val (.ref gx)] [(.ref gx), (.ref t)]) _
  obtain ⟨T2, h2, X2, e2, W2, st2⟩ := putF X1 hx hZ hown (host := "") (Or.inl (hw _ (List.mem_of_getElem? (i := 40) rfl))) Via.refl e1 F_t_value E_t (Or.inr ⟨(hw _ (List.mem_of_getElem? (i := 41) rfl)), rfl, hnm⟩) (hw _ (List.mem_of_getElem? (i := 77) rfl)) (ty := (.object "java/lang/Object")) (by decide) rfl rfl (g := (mkF m 6 #[.val (.ref t), .val (.ref gx)] [(.ref gx), (.ref t)])) rfl rfl (hb hby d13_6)
  have Fw2 := F_t_value.same W2
  have f3 := E_t.wr W2
  have K2 : Keep h0 h2 [t] := (Keep.refl h0 [t]).wr W2 (Or.inl (List.mem_of_getElem? (i := 0) rfl))
  have O2 := O0.wr W2 ge_t
  have N2 := Fr.snoc X2 N0 ge_t
  refine stp st2 ?_
  show Go p e below T2 (mkF m 9 #[.val (.ref t), .val (.ref gx)] []) _
  refine outV X2 hx hret (hb hby d13_9) hlk (by decide) (by decide) ?_
  rw [e2]
  exact ⟨rfl, N2, K2, f3, Fw2⟩
theorem d4_0 : decode jdk_32_method_4_code 0 = .ok (.aload_n 0, 1) := by decide +kernel
theorem d4_1 : decode jdk_32_method_4_code 1 = .ok (.ifnonnull 9, 3) := by decide +kernel
theorem d4_4 : decode jdk_32_method_4_code 4 = .ok (.getstatic 1, 3) := by decide +kernel
theorem d4_7 : decode jdk_32_method_4_code 7 = .ok (.goto 11, 3) := by decide +kernel
theorem d4_18 : decode jdk_32_method_4_code 18 = .ok (.areturn, 1) := by decide +kernel
theorem ef_rm_on0 (m : MethodId)   : entryFrame m #[.null] 1 = mkF m 0 #[.val .null] [] := by first | (simp [entryFrame, mkF, argsToLocals, Value.category]; done) | rfl
def Q_rm_on0 (Z : State)  (empty_ : Addr) (h0 : Heap) (n0 : Nat) (v : Option Value) (h : Heap) (L : List Loc) : Prop := v = some (.ref empty_) ∧ Fr n0 L ∧ h = h0
theorem pn_4_ : plainName "java/util/Optional" = true := by first | (simp [plainName, overriddenIn]; done) | decide +kernel
theorem pn_4 : plainFor (⟨"java/util/Optional", "ofNullable", "(Ljava/lang/Object;)Ljava/util/Optional;"⟩ : MethodName) = true := plainFor_of_name pn_4_
set_option maxRecDepth 65536 in
set_option maxHeartbeats 40000000 in
theorem rm_on0 (l : Launch) (Z : State) (a0 : Array Value) (hw : ∀ d ∈ tables_1, d.before a0 Z = true) (ws : List Jvm.Cond)  (empty_ : Addr) (h0 : Heap) (n0 : Nat) (O0 : Old Z n0 h0) (S_EMPTY : Sta Z Z.heap "java/util/Optional" "EMPTY" "Ljava/util/Optional;" (.ref empty_)) :
    MetFree l (⟨"java/util/Optional", "ofNullable", "(Ljava/lang/Object;)Ljava/util/Optional;"⟩ : MethodName) (head1 (Jvm.Cond.code (⟨"java/util/Optional", "ofNullable", "(Ljava/lang/Object;)Ljava/util/Optional;"⟩ : MethodName) jdk_32_method_4_code 1 (some (.object "java/util/Optional")) :: ws) ({ frames := 0, cells := 0, slots := 0, locals := 0 } : Room)) (fun args_ U => args_ = #[.null] ∧ Z.Warmed39 U.vm ∧ U.heap = h0) (fun _ _ _ _ _ => True) (fun _ U out_ U' => ∃ val_ loc_, out_ = .returned val_ ∧ (Q_rm_on0 Z empty_ h0 n0) val_ U'.heap loc_ ∧ FrameEnd U out_ U' loc_ ({ frames := 0, cells := 0, slots := 0, locals := 0 } : Room).cells ({ frames := 0, cells := 0, slots := 0, locals := 0 } : Room).slots) := by
  refine start (Q := (Q_rm_on0 Z empty_ h0 n0)) pn_4 ?_
  intro p e s m below meth c T0 X0 hx hby hml hown hnm hret hlk hZ e0
  replace hown : s.vm.findClass "java/util/Optional" = some m.cls := hown
  replace hml : c.maxLocals = 1 := hml
  refine goAt (ef_rm_on0 m  ) ?_
  have N0 := Fr.nil n0
  show Go p e below T0 (mkF m 0 #[.val .null] []) _
  refine stp (fun _ => XS.aloadN X0.here hx rfl (hb hby d4_0) rfl rfl) ?_
  show Go p e below T0 (mkF m 1 #[.val .null] [.null]) _
  refine stp (fun _ => XS.ifnonnullNo X0.here hx rfl (hb hby d4_1) rfl) ?_
  show Go p e below T0 (mkF m 4 #[.val .null] []) _
  obtain ⟨T1, X1, e1, st1⟩ := getS2 X0 hx hZ hown (host := "") (Or.inl (hw _ (List.mem_of_getElem? (i := 34) rfl))) Via.refl e0 (S_EMPTY.ext O0.2) (g := (mkF m 4 #[.val .null] [])) rfl (hb hby d4_4)
  refine stp st1 ?_
  show Go p e below T1 (mkF m 7 #[.val .null] [(.ref empty_)]) _
  refine stp (fun _ => XS.goto X1.here hx rfl (pc0 := 7) (pc' := 18) rfl (hb hby d4_7) (by decide) (by decide)) ?_
  show Go p e below T1 (mkF m 18 #[.val .null] [(.ref empty_)]) _
  refine outA X1 hx hret rfl rfl (hb hby d4_18) hlk (by decide) (by decide) ?_
  exact ⟨rfl, N0, e1⟩
theorem d4_10 : decode jdk_32_method_4_code 10 = .ok (.new 2, 3) := by decide +kernel
theorem d4_13 : decode jdk_32_method_4_code 13 = .ok (.dup, 1) := by decide +kernel
theorem d4_14 : decode jdk_32_method_4_code 14 = .ok (.aload_n 0, 1) := by decide +kernel
theorem d4_15 : decode jdk_32_method_4_code 15 = .ok (.invokespecial 23, 3) := by decide +kernel
theorem pd_1 : parseMethodDescriptor "(Ljava/lang/Object;)V" = some ⟨[(.object "java/lang/Object")], none⟩ := by decide +kernel
theorem ef_rm_on1 (m : MethodId) (gx : Addr)  : entryFrame m #[(.ref gx)] 1 = mkF m 0 #[.val (.ref gx)] [] := by first | (simp [entryFrame, mkF, argsToLocals, Value.category]; done) | rfl
def Q_rm_on1 (Z : State) (gx : Addr)  (h0 : Heap) (n0 : Nat) (v : Option Value) (h : Heap) (L : List Loc) : Prop := ∃ (r : Addr), v = some (.ref r) ∧ Fr n0 L ∧ Keep h0 h [] ∧ (n0 ≤ r ∧ h0.size ≤ r) ∧ Exa Z h r "java/util/Optional" ∧ Fld Z h r "java/util/Optional" "value" "Ljava/lang/Object;" (.ref gx)
set_option maxRecDepth 65536 in
set_option maxHeartbeats 40000000 in
theorem rm_on1 (l : Launch) (Z : State) (a0 : Array Value) (hw : ∀ d ∈ tables_1, d.before a0 Z = true) (ws : List Jvm.Cond) (gx : Addr)  (h0 : Heap) (n0 : Nat) (O0 : Old Z n0 h0)  :
    MetFree l (⟨"java/util/Optional", "ofNullable", "(Ljava/lang/Object;)Ljava/util/Optional;"⟩ : MethodName) (head1 (Jvm.Cond.code (⟨"java/util/Optional", "ofNullable", "(Ljava/lang/Object;)Ljava/util/Optional;"⟩ : MethodName) jdk_32_method_4_code 1 (some (.object "java/util/Optional")) :: ws) ({ frames := 2, cells := 1, slots := 1, locals := 26 } : Room)) (fun args_ U => args_ = #[(.ref gx)] ∧ Z.Warmed39 U.vm ∧ U.heap = h0) (fun _ _ _ _ _ => True) (fun _ U out_ U' => ∃ val_ loc_, out_ = .returned val_ ∧ (Q_rm_on1 Z gx h0 n0) val_ U'.heap loc_ ∧ FrameEnd U out_ U' loc_ ({ frames := 2, cells := 1, slots := 1, locals := 26 } : Room).cells ({ frames := 2, cells := 1, slots := 1, locals := 26 } : Room).slots) := by
  refine start (Q := (Q_rm_on1 Z gx h0 n0)) pn_4 ?_
  intro p e s m below meth c T0 X0 hx hby hml hown hnm hret hlk hZ e0
  replace hown : s.vm.findClass "java/util/Optional" = some m.cls := hown
  replace hml : c.maxLocals = 1 := hml
  refine goAt (ef_rm_on1 m gx ) ?_
  have N0 := Fr.nil n0
  show Go p e below T0 (mkF m 0 #[.val (.ref gx)] []) _
  refine stp (fun _ => XS.aloadN X0.here hx rfl (hb hby d4_0) rfl rfl) ?_
  show Go p e below T0 (mkF m 1 #[.val (.ref gx)] [(.ref gx)]) _
  refine stp (fun _ => XS.ifnonnullYes X0.here hx rfl (pc0 := 1) (pc' := 10) rfl (hb hby d4_1) rfl (by decide) (by decide)) ?_
  show Go p e below T0 (mkF m 10 #[.val (.ref gx)] []) _
  obtain ⟨T1, h1, X1, e1, E1, A1, D1, -, st1⟩ := newO X0 hx hZ hown (hw _ (List.mem_of_getElem? (i := 76) rfl)) (hw _ (List.mem_of_getElem? (i := 77) rfl)) (hw _ (List.mem_of_getElem? (i := 32) rfl)) e0 (g := (mkF m 10 #[.val (.ref gx)] [])) rfl (hb hby d4_10) (by decide) (by decide)
  obtain ⟨b1, g1⟩ : ∃ z, z = h0.size := ⟨_, rfl⟩
  rw [← g1] at A1 D1 st1
  have sz_b1 : h0.size ≤ b1 := Nat.le_trans (Keep.refl h0 []).1 (Nat.le_of_eq g1.symm)
  have ge_b1 : n0 ≤ b1 := Nat.le_trans (old_le O0) (Nat.le_of_eq g1.symm)
  have K1 : Keep h0 h1 [] := (Keep.refl h0 []).ext E1
  have O1 := O0.ext E1
  have F2 : Fld Z h1 b1 "java/util/Optional" "value" "Ljava/lang/Object;" .null := D1 (Or.inr (hw _ (List.mem_of_getElem? (i := 41) rfl))) (ty := (.object "java/lang/Object")) (by decide)
  refine stp st1 ?_
  show Go p e below T1 (mkF m 13 #[.val (.ref gx)] [(.ref b1)]) _
  refine stp (fun _ => XS.dup X1.here hx rfl (hb hby d4_13) rfl rfl) ?_
  show Go p e below T1 (mkF m 14 #[.val (.ref gx)] [(.ref b1), (.ref b1)]) _
  refine stp (fun _ => XS.aloadN X1.here hx rfl (hb hby d4_14) rfl rfl) ?_
  show Go p e below T1 (mkF m 15 #[.val (.ref gx)] [(.ref gx), (.ref b1), (.ref b1)]) _
  obtain ⟨_, _, ⟨T3, L3, k3, n3⟩, -, X3, ⟨Lc3, hQ3, l3, y3, z3⟩, st3⟩ := X1.specialBack hx (y := (⟨"java/util/Optional", "<init>", "(Ljava/lang/Object;)V"⟩ : MethodName)) rfl hown (mvT hZ (hw _ (List.mem_of_getElem? (i := 78) rfl))) (mvT hZ (hw _ (List.mem_of_getElem? (i := 79) rfl))) (mvT hZ (hw _ (List.mem_of_getElem? (i := 81) rfl))) (by decide) (backOf (W := 1) (rm_oinit l Z a0 hw [] b1 gx  h1 n0 O1 A1 F2 ge_b1) hZ (hw _ (List.mem_of_getElem? (i := 81) rfl)) (hw _ (List.mem_of_getElem? (i := 32) rfl)) (by decide) (by decide)) (g := (mkF m 15 #[.val (.ref gx)] [(.ref gx), (.ref b1), (.ref b1)])) rfl (by rw [hml]; rfl) (Steps.refl _) (a := b1) (argsL := [(.ref gx)]) (rest := [(.ref b1)]) (lenOf pd_1 rfl) rfl (by show 2 * 0 + _ ≤ _; exact Nat.le_of_eq rfl) (hb hby d4_15) (fun _ _ => ⟨rfl, e1, (by decide : 1 + 0 ≤ _), (by decide : 1 + 0 ≤ _)⟩)
  dsimp only [Pt.U, Pt.locs, Pt.cells, Pt.slots] at X3 l3 y3 z3 st3 hQ3
  subst y3 z3
  obtain ⟨rfl, N3q, K3q, r3_0, r3_1⟩ := hQ3
  have N3 : Fr n0 L3 := by rw [l3]; exact Fr.app N0 N3q
  have f4 := A1.keep K3q
  have K3 : Keep h0 T3.heap [] := K1.trans K3q (allS (Or.inr sz_b1) all0)
  have O3 := O1.keep K3q (allS ge_b1 all0)
  refine stt st3 ?_
  show Go p e below T3 (mkF m 18 #[.val (.ref gx)] [(.ref b1)]) _
  refine outA X3 hx hret rfl rfl (hb hby d4_18) hlk (by decide) (by decide) ?_
  exact ⟨b1, rfl, N3, K3, ⟨ge_b1, sz_b1⟩, r3_0, r3_1⟩
theorem d5_0 : decode jdk_32_method_15_code 0 = .ok (.aload_n 0, 1) := by decide +kernel
theorem d5_1 : decode jdk_32_method_15_code 1 = .ok (.getfield 13, 3) := by decide +kernel
theorem d5_4 : decode jdk_32_method_15_code 4 = .ok (.ifnull 10, 3) := by decide +kernel
theorem d5_14 : decode jdk_32_method_15_code 14 = .ok (.aload_n 1, 1) := by decide +kernel
theorem d5_15 : decode jdk_32_method_15_code 15 = .ok (.areturn, 1) := by decide +kernel
theorem ef_rm_oe0 (m : MethodId) (t : Addr)  : entryFrame m #[(.ref t), .null] 2 = mkF m 0 #[.val (.ref t), .val .null] [] := by first | (simp [entryFrame, mkF, argsToLocals, Value.category]; done) | rfl
def Q_rm_oe0 (Z : State) (t : Addr)  (h0 : Heap) (n0 : Nat) (v : Option Value) (h : Heap) (L : List Loc) : Prop := v = some .null ∧ Fr n0 L ∧ h = h0
theorem pn_5_ : plainName "java/util/Optional" = true := by first | (simp [plainName, overriddenIn]; done) | decide +kernel
theorem pn_5 : plainFor (⟨"java/util/Optional", "orElse", "(Ljava/lang/Object;)Ljava/lang/Object;"⟩ : MethodName) = true := plainFor_of_name pn_5_
set_option maxRecDepth 65536 in
set_option maxHeartbeats 40000000 in
theorem rm_oe0 (l : Launch) (Z : State) (a0 : Array Value) (hw : ∀ d ∈ tables_1, d.before a0 Z = true) (ws : List Jvm.Cond) (t : Addr)  (h0 : Heap) (n0 : Nat) (O0 : Old Z n0 h0) (F_t_value : Fld Z Z.heap t "java/util/Optional" "value" "Ljava/lang/Object;" .null) :
    MetFree l (⟨"java/util/Optional", "orElse", "(Ljava/lang/Object;)Ljava/lang/Object;"⟩ : MethodName) (head1 (Jvm.Cond.code (⟨"java/util/Optional", "orElse", "(Ljava/lang/Object;)Ljava/lang/Object;"⟩ : MethodName) jdk_32_method_15_code 2 (some (.object "java/lang/Object")) :: ws) ({ frames := 0, cells := 0, slots := 0, locals := 0 } : Room)) (fun args_ U => args_ = #[(.ref t), .null] ∧ Z.Warmed39 U.vm ∧ U.heap = h0) (fun _ _ _ _ _ => True) (fun _ U out_ U' => ∃ val_ loc_, out_ = .returned val_ ∧ (Q_rm_oe0 Z t h0 n0) val_ U'.heap loc_ ∧ FrameEnd U out_ U' loc_ ({ frames := 0, cells := 0, slots := 0, locals := 0 } : Room).cells ({ frames := 0, cells := 0, slots := 0, locals := 0 } : Room).slots) := by
  refine start (Q := (Q_rm_oe0 Z t h0 n0)) pn_5 ?_
  intro p e s m below meth c T0 X0 hx hby hml hown hnm hret hlk hZ e0
  replace hown : s.vm.findClass "java/util/Optional" = some m.cls := hown
  replace hml : c.maxLocals = 2 := hml
  refine goAt (ef_rm_oe0 m t ) ?_
  have N0 := Fr.nil n0
  show Go p e below T0 (mkF m 0 #[.val (.ref t), .val .null] []) _
  refine stp (fun _ => XS.aloadN X0.here hx rfl (hb hby d5_0) rfl rfl) ?_
  show Go p e below T0 (mkF m 1 #[.val (.ref t), .val .null] [(.ref t)]) _
  obtain ⟨T1, X1, e1, st1⟩ := getF X0 hx hZ hown (host := "") (Or.inl (hw _ (List.mem_of_getElem? (i := 40) rfl))) Via.refl e0 (F_t_value.ext O0.2) (g := (mkF m 1 #[.val (.ref t), .val .null] [(.ref t)])) rfl rfl (hb hby d5_1)
  refine stp st1 ?_
  show Go p e below T1 (mkF m 4 #[.val (.ref t), .val .null] [.null]) _
  refine stp (fun _ => XS.ifnullYes X1.here hx rfl (pc0 := 4) (pc' := 14) rfl (hb hby d5_4) rfl (by decide) (by decide)) ?_
  show Go p e below T1 (mkF m 14 #[.val (.ref t), .val .null] []) _
  refine stp (fun _ => XS.aloadN X1.here hx rfl (hb hby d5_14) rfl rfl) ?_
  show Go p e below T1 (mkF m 15 #[.val (.ref t), .val .null] [.null]) _
  refine outA X1 hx hret rfl rfl (hb hby d5_15) hlk (by decide) (by decide) ?_
  exact ⟨rfl, N0, e1⟩
theorem d5_7 : decode jdk_32_method_15_code 7 = .ok (.aload_n 0, 1) := by decide +kernel
theorem d5_8 : decode jdk_32_method_15_code 8 = .ok (.getfield 13, 3) := by decide +kernel
theorem d5_11 : decode jdk_32_method_15_code 11 = .ok (.goto 4, 3) := by decide +kernel
theorem ef_rm_oe1 (m : MethodId) (t : Addr)  : entryFrame m #[(.ref t), .null] 2 = mkF m 0 #[.val (.ref t), .val .null] [] := by first | (simp [entryFrame, mkF, argsToLocals, Value.category]; done) | rfl
def Q_rm_oe1 (Z : State) (t : Addr) (gx : Addr) (h0 : Heap) (n0 : Nat) (v : Option Value) (h : Heap) (L : List Loc) : Prop := v = some (.ref gx) ∧ Fr n0 L ∧ h = h0
set_option maxRecDepth 65536 in
set_option maxHeartbeats 40000000 in
theorem rm_oe1 (l : Launch) (Z : State) (a0 : Array Value) (hw : ∀ d ∈ tables_1, d.before a0 Z = true) (ws : List Jvm.Cond) (t : Addr) (gx : Addr) (h0 : Heap) (n0 : Nat) (O0 : Old Z n0 h0) (F_t_value : Fld Z h0 t "java/util/Optional" "value" "Ljava/lang/Object;" (.ref gx)) :
    MetFree l (⟨"java/util/Optional", "orElse", "(Ljava/lang/Object;)Ljava/lang/Object;"⟩ : MethodName) (head1 (Jvm.Cond.code (⟨"java/util/Optional", "orElse", "(Ljava/lang/Object;)Ljava/lang/Object;"⟩ : MethodName) jdk_32_method_15_code 2 (some (.object "java/lang/Object")) :: ws) ({ frames := 0, cells := 0, slots := 0, locals := 0 } : Room)) (fun args_ U => args_ = #[(.ref t), .null] ∧ Z.Warmed39 U.vm ∧ U.heap = h0) (fun _ _ _ _ _ => True) (fun _ U out_ U' => ∃ val_ loc_, out_ = .returned val_ ∧ (Q_rm_oe1 Z t gx h0 n0) val_ U'.heap loc_ ∧ FrameEnd U out_ U' loc_ ({ frames := 0, cells := 0, slots := 0, locals := 0 } : Room).cells ({ frames := 0, cells := 0, slots := 0, locals := 0 } : Room).slots) := by
  refine start (Q := (Q_rm_oe1 Z t gx h0 n0)) pn_5 ?_
  intro p e s m below meth c T0 X0 hx hby hml hown hnm hret hlk hZ e0
  replace hown : s.vm.findClass "java/util/Optional" = some m.cls := hown
  replace hml : c.maxLocals = 2 := hml
  refine goAt (ef_rm_oe1 m t ) ?_
  have N0 := Fr.nil n0
  show Go p e below T0 (mkF m 0 #[.val (.ref t), .val .null] []) _
  refine stp (fun _ => XS.aloadN X0.here hx rfl (hb hby d5_0) rfl rfl) ?_
  show Go p e below T0 (mkF m 1 #[.val (.ref t), .val .null] [(.ref t)]) _
  obtain ⟨T1, X1, e1, st1⟩ := getF X0 hx hZ hown (host := "") (Or.inl (hw _ (List.mem_of_getElem? (i := 40) rfl))) Via.refl e0 F_t_value (g := (mkF m 1 #[.val (.ref t), .val .null] [(.ref t)])) rfl rfl (hb hby d5_1)
  refine stp st1 ?_
  show Go p e below T1 (mkF m 4 #[.val (.ref t), .val .null] [(.ref gx)]) _
  refine stp (fun _ => XS.ifnullNo X1.here hx rfl (hb hby d5_4) rfl) ?_
  show Go p e below T1 (mkF m 7 #[.val (.ref t), .val .null] []) _
  refine stp (fun _ => XS.aloadN X1.here hx rfl (hb hby d5_7) rfl rfl) ?_
  show Go p e below T1 (mkF m 8 #[.val (.ref t), .val .null] [(.ref t)]) _
  obtain ⟨T2, X2, e2, st2⟩ := getF X1 hx hZ hown (host := "") (Or.inl (hw _ (List.mem_of_getElem? (i := 40) rfl))) Via.refl e1 F_t_value (g := (mkF m 8 #[.val (.ref t), .val .null] [(.ref t)])) rfl rfl (hb hby d5_8)
  refine stp st2 ?_
  show Go p e below T2 (mkF m 11 #[.val (.ref t), .val .null] [(.ref gx)]) _
  refine stp (fun _ => XS.goto X2.here hx rfl (pc0 := 11) (pc' := 15) rfl (hb hby d5_11) (by decide) (by decide)) ?_
  show Go p e below T2 (mkF m 15 #[.val (.ref t), .val .null] [(.ref gx)]) _
  refine outA X2 hx hret rfl rfl (hb hby d5_15) hlk (by decide) (by decide) ?_
  exact ⟨rfl, N0, e2⟩
theorem d3_0 : decode jdk_42_method_66_code 0 = .ok (.aload_n 0, 1) := by decide +kernel
theorem d3_1 : decode jdk_42_method_66_code 1 = .ok (.aload_n 1, 1) := by decide +kernel
theorem d3_2 : decode jdk_42_method_66_code 2 = .ok (.if_acmp .ne 5, 3) := by decide +kernel
theorem d3_7 : decode jdk_42_method_66_code 7 = .ok (.aload_n 1, 1) := by decide +kernel
theorem d3_8 : decode jdk_42_method_66_code 8 = .ok (.instanceof 10, 3) := by decide +kernel
theorem d3_11 : decode jdk_42_method_66_code 11 = .ok (.ifCond .eq 43, 3) := by decide +kernel
theorem d3_54 : decode jdk_42_method_66_code 54 = .ok (.iconst 0, 1) := by decide +kernel
theorem d3_55 : decode jdk_42_method_66_code 55 = .ok (.ireturn, 1) := by decide +kernel
theorem ef_rm_eqz (m : MethodId) (t : Addr)  : entryFrame m #[(.ref t), .null] 3 = mkF m 0 #[.val (.ref t), .val .null, .unset] [] := by first | (simp [entryFrame, mkF, argsToLocals, Value.category]; done) | rfl
def Q_rm_eqz (Z : State) (t : Addr)  (h0 : Heap) (n0 : Nat) (v : Option Value) (h : Heap) (L : List Loc) : Prop := v = some (.int (0 : Int32)) ∧ Fr n0 L ∧ h = h0
theorem pn_6_ : plainName "java/lang/String" = true := by first | (simp [plainName, overriddenIn]; done) | decide +kernel
theorem pn_6 : plainFor (⟨"java/lang/String", "equals", "(Ljava/lang/Object;)Z"⟩ : MethodName) = true := plainFor_of_name pn_6_
set_option maxRecDepth 65536 in
set_option maxHeartbeats 40000000 in
theorem rm_eqz (l : Launch) (Z : State) (a0 : Array Value) (hw : ∀ d ∈ tables_1, d.before a0 Z = true) (ws : List Jvm.Cond) (t : Addr)  (h0 : Heap) (n0 : Nat) (O0 : Old Z n0 h0)  :
    MetFree l (⟨"java/lang/String", "equals", "(Ljava/lang/Object;)Z"⟩ : MethodName) (head1 (Jvm.Cond.code (⟨"java/lang/String", "equals", "(Ljava/lang/Object;)Z"⟩ : MethodName) jdk_42_method_66_code 3 (some .boolean) :: ws) ({ frames := 0, cells := 0, slots := 0, locals := 0 } : Room)) (fun args_ U => args_ = #[(.ref t), .null] ∧ Z.Warmed39 U.vm ∧ U.heap = h0) (fun _ _ _ _ _ => True) (fun _ U out_ U' => ∃ val_ loc_, out_ = .returned val_ ∧ (Q_rm_eqz Z t h0 n0) val_ U'.heap loc_ ∧ FrameEnd U out_ U' loc_ ({ frames := 0, cells := 0, slots := 0, locals := 0 } : Room).cells ({ frames := 0, cells := 0, slots := 0, locals := 0 } : Room).slots) := by
  refine start (Q := (Q_rm_eqz Z t h0 n0)) pn_6 ?_
  intro p e s m below meth c T0 X0 hx hby hml hown hnm hret hlk hZ e0
  replace hown : s.vm.findClass "java/lang/String" = some m.cls := hown
  replace hml : c.maxLocals = 3 := hml
  refine goAt (ef_rm_eqz m t ) ?_
  have N0 := Fr.nil n0
  show Go p e below T0 (mkF m 0 #[.val (.ref t), .val .null, .unset] []) _
  refine stp (fun _ => XS.aloadN X0.here hx rfl (hb hby d3_0) rfl rfl) ?_
  show Go p e below T0 (mkF m 1 #[.val (.ref t), .val .null, .unset] [(.ref t)]) _
  refine stp (fun _ => XS.aloadN X0.here hx rfl (hb hby d3_1) rfl rfl) ?_
  show Go p e below T0 (mkF m 2 #[.val (.ref t), .val .null, .unset] [.null, (.ref t)]) _
  refine stp (fun _ => Jvm.RoadKit.acmp (g := (mkF m 2 #[.val (.ref t), .val .null, .unset] [.null, (.ref t)])) X0 hx rfl rfl rfl (pc0 := 2) (pc' := 7) (same := false) rfl (hb hby d3_2) rfl (decide_eq_false (fun q => by cases q)) (by decide) (by decide)) ?_
  show Go p e below T0 (mkF m 7 #[.val (.ref t), .val .null, .unset] []) _
  refine stp (fun _ => XS.aloadN X0.here hx rfl (hb hby d3_7) rfl rfl) ?_
  show Go p e below T0 (mkF m 8 #[.val (.ref t), .val .null, .unset] [.null]) _
  refine stp (fun _ => X0.instanceofNull hx (g := (mkF m 8 #[.val (.ref t), .val .null, .unset] [.null])) rfl rfl (hb hby d3_8) _) ?_
  show Go p e below T0 (mkF m 11 #[.val (.ref t), .val .null, .unset] [(.int (0 : Int32))]) _
  refine stp (fun _ => XS.ifYes X0.here hx rfl (pc0 := 11) (pc' := 54) rfl (hb hby d3_11) rfl (by decide) (by decide) (by decide)) ?_
  show Go p e below T0 (mkF m 54 #[.val (.ref t), .val .null, .unset] []) _
  refine stp (fun _ => XS.iconst X0.here hx rfl (hb hby d3_54)) ?_
  show Go p e below T0 (mkF m 55 #[.val (.ref t), .val .null, .unset] [(.int (0 : Int32))]) _
  refine outN X0 hx (t := .boolean) hret (by simp) (hb hby d3_55) hlk (by decide) (by decide) ?_
  exact ⟨rfl, N0, e0⟩
theorem d1_0 : decode prog_7_method_5_code 0 = .ok (.aconst_null, 1) := by decide +kernel
theorem d1_1 : decode prog_7_method_5_code 1 = .ok (.astore_n 1, 1) := by decide +kernel
theorem d1_2 : decode prog_7_method_5_code 2 = .ok (.invokestatic 33, 3) := by decide +kernel
theorem pd_2 : parseMethodDescriptor "()[Lcom/example/uriel/uriel/grant/GrantType;" = some ⟨[], some (.array (.object "com/example/uriel/uriel/grant/GrantType"))⟩ := by decide +kernel
theorem d1_5 : decode prog_7_method_5_code 5 = .ok (.astore_n 2, 1) := by decide +kernel
theorem d1_6 : decode prog_7_method_5_code 6 = .ok (.aload_n 2, 1) := by decide +kernel
theorem d1_7 : decode prog_7_method_5_code 7 = .ok (.arraylength, 1) := by decide +kernel
theorem d1_8 : decode prog_7_method_5_code 8 = .ok (.istore_n 3, 1) := by decide +kernel
theorem d1_9 : decode prog_7_method_5_code 9 = .ok (.iconst 0, 1) := by decide +kernel
theorem d1_10 : decode prog_7_method_5_code 10 = .ok (.istore 4, 2) := by decide +kernel
theorem d1_12 : decode prog_7_method_5_code 12 = .ok (.iload 4, 2) := by decide +kernel
theorem d1_14 : decode prog_7_method_5_code 14 = .ok (.iload_n 3, 1) := by decide +kernel
theorem d1_15 : decode prog_7_method_5_code 15 = .ok (.if_icmp .ge 30, 3) := by decide +kernel
theorem d1_18 : decode prog_7_method_5_code 18 = .ok (.aload_n 2, 1) := by decide +kernel
theorem d1_19 : decode prog_7_method_5_code 19 = .ok (.iload 4, 2) := by decide +kernel
theorem d1_21 : decode prog_7_method_5_code 21 = .ok (.aaload, 1) := by decide +kernel
theorem d1_22 : decode prog_7_method_5_code 22 = .ok (.astore 5, 2) := by decide +kernel
theorem d1_24 : decode prog_7_method_5_code 24 = .ok (.aload 5, 2) := by decide +kernel
theorem d1_26 : decode prog_7_method_5_code 26 = .ok (.getfield 29, 3) := by decide +kernel
theorem d1_29 : decode prog_7_method_5_code 29 = .ok (.aload_n 0, 1) := by decide +kernel
theorem d1_30 : decode prog_7_method_5_code 30 = .ok (.invokevirtual 37, 3) := by decide +kernel
theorem pd_3 : parseMethodDescriptor "(Ljava/lang/Object;)Z" = some ⟨[(.object "java/lang/Object")], some .boolean⟩ := by decide +kernel
theorem d1_33 : decode prog_7_method_5_code 33 = .ok (.ifCond .eq 6, 3) := by decide +kernel
theorem d1_39 : decode prog_7_method_5_code 39 = .ok (.iinc 4 1, 3) := by decide +kernel
theorem d1_42 : decode prog_7_method_5_code 42 = .ok (.goto (-30), 3) := by decide +kernel
theorem d1_45 : decode prog_7_method_5_code 45 = .ok (.aload_n 1, 1) := by decide +kernel
theorem d1_46 : decode prog_7_method_5_code 46 = .ok (.invokestatic 43, 3) := by decide +kernel
theorem pd_4 : parseMethodDescriptor "(Ljava/lang/Object;)Ljava/util/Optional;" = some ⟨[(.object "java/lang/Object")], some (.object "java/util/Optional")⟩ := by decide +kernel
theorem d1_49 : decode prog_7_method_5_code 49 = .ok (.areturn, 1) := by decide +kernel
theorem ef_rm_fwn (m : MethodId) (sx : Addr)  : entryFrame m #[(.ref sx)] 6 = mkF m 0 #[.val (.ref sx), .unset, .unset, .unset, .unset, .unset] [] := by first | (simp [entryFrame, mkF, argsToLocals, Value.category]; done) | rfl
def Q_rm_fwn (Z : State) (sx : Addr) (auth : Addr) (impl : Addr) (va : Addr) (w1 : Addr) (w2 : Addr) (empty_ : Addr) (cs : List Int32) (cz : Int32) (k_va : ClassId) (h0 : Heap) (n0 : Nat) (v : Option Value) (h : Heap) (L : List Loc) : Prop := v = some (.ref empty_) ∧ Fr n0 L ∧ Keep h0 h []
theorem pn_7_ : plainName "com/example/uriel/uriel/grant/GrantType" = true := by first | (simp [plainName, overriddenIn]; done) | decide +kernel
theorem pn_7 : plainFor (⟨"com/example/uriel/uriel/grant/GrantType", "fromWireName", "(Ljava/lang/String;)Ljava/util/Optional;"⟩ : MethodName) = true := plainFor_of_name pn_7_
set_option maxRecDepth 65536 in
set_option maxHeartbeats 40000000 in
theorem rm_fwn (l : Launch) (Z : State) (a0 : Array Value) (hw : ∀ d ∈ tables_1, d.before a0 Z = true) (ws : List Jvm.Cond) (sx : Addr) (auth : Addr) (impl : Addr) (va : Addr) (w1 : Addr) (w2 : Addr) (empty_ : Addr) (cs : List Int32) (cz : Int32) (k_va : ClassId) (h0 : Heap) (n0 : Nat) (O0 : Old Z n0 h0) (S__VALUES : Sta Z Z.heap "com/example/uriel/uriel/grant/GrantType" "$VALUES" "[Lcom/example/uriel/uriel/grant/GrantType;" (.ref va)) (E_va : Exa Z Z.heap va "[Lcom/example/uriel/uriel/grant/GrantType;") (V_va : Arv Z Z.heap va k_va (.object "com/example/uriel/uriel/grant/GrantType") (2 : Int32) [(.ref auth), (.ref impl)] .null) (F_auth_wireName : Fld Z Z.heap auth "com/example/uriel/uriel/grant/GrantType" "wireName" "Ljava/lang/String;" (.ref w1)) (F_impl_wireName : Fld Z Z.heap impl "com/example/uriel/uriel/grant/GrantType" "wireName" "Ljava/lang/String;" (.ref w2)) (Q_w1 : StrIs Z Z.heap w1 own_ac_list) (Q_w2 : StrIs Z Z.heap w2 own_im_list) (S_EMPTY : Sta Z Z.heap "java/util/Optional" "EMPTY" "Ljava/util/Optional;" (.ref empty_)) (Q_sx : StrIs Z h0 sx cs) (S_COMPACT_STRINGS : Sta Z Z.heap "java/lang/String" "COMPACT_STRINGS" "Z" (.int cz)) (hcz : ¬ cz = (0 : Int32)) (h1 : ¬ own_ac_list = cs) (h2 : ¬ own_im_list = cs) :
    MetFree l (⟨"com/example/uriel/uriel/grant/GrantType", "fromWireName", "(Ljava/lang/String;)Ljava/util/Optional;"⟩ : MethodName) (head1 (Jvm.Cond.code (⟨"com/example/uriel/uriel/grant/GrantType", "fromWireName", "(Ljava/lang/String;)Ljava/util/Optional;"⟩ : MethodName) prog_7_method_5_code 6 (some (.object "java/util/Optional")) :: ws) ({ frames := 2, cells := 1, slots := 2, locals := 28 } : Room)) (fun args_ U => args_ = #[(.ref sx)] ∧ Z.Warmed39 U.vm ∧ U.heap = h0) (fun _ _ _ _ _ => True) (fun _ U out_ U' => ∃ val_ loc_, out_ = .returned val_ ∧ (Q_rm_fwn Z sx auth impl va w1 w2 empty_ cs cz k_va h0 n0) val_ U'.heap loc_ ∧ FrameEnd U out_ U' loc_ ({ frames := 2, cells := 1, slots := 2, locals := 28 } : Room).cells ({ frames := 2, cells := 1, slots := 2, locals := 28 } : Room).slots) := by
  refine start (Q := (Q_rm_fwn Z sx auth impl va w1 w2 empty_ cs cz k_va h0 n0)) pn_7 ?_
  intro p e s m below meth c T0 X0 hx hby hml hown hnm hret hlk hZ e0
  replace hown : s.vm.findClass "com/example/uriel/uriel/grant/GrantType" = some m.cls := hown
  replace hml : c.maxLocals = 6 := hml
  refine goAt (ef_rm_fwn m sx ) ?_
  have N0 := Fr.nil n0
  show Go p e below T0 (mkF m 0 #[.val (.ref sx), .unset, .unset, .unset, .unset, .unset] []) _
  refine stp (fun _ => XS.aconstNull X0.here hx rfl (hb hby d1_0)) ?_
  show Go p e below T0 (mkF m 1 #[.val (.ref sx), .unset, .unset, .unset, .unset, .unset] [.null]) _
  refine stp (fun _ => XS.astoreN X0.here hx rfl (hb hby d1_1) rfl rfl (l' := #[.val (.ref sx), .val .null, .unset, .unset, .unset, .unset]) rfl) ?_
  show Go p e below T0 (mkF m 2 #[.val (.ref sx), .val .null, .unset, .unset, .unset, .unset] []) _
  obtain ⟨_, _, ⟨T1, L1, k1, n1⟩, -, X1, ⟨Lc1, hQ1, l1, y1, z1⟩, st1⟩ := Jvm.LawKit.callS X0 hx (y := (⟨"com/example/uriel/uriel/grant/GrantType", "values", "()[Lcom/example/uriel/uriel/grant/GrantType;"⟩ : MethodName)) hown (mvT hZ (hw _ (List.mem_of_getElem? (i := 5) rfl))) (mvT hZ (hw _ (List.mem_of_getElem? (i := 6) rfl))) (mvT hZ (hw _ (List.mem_of_getElem? (i := 3) rfl))) (mvT hZ (hw _ (List.mem_of_getElem? (i := 7) rfl))) (by decide) (backOf (W := 0) (rm_values l Z a0 hw []  auth impl va k_va h0 n0 O0 S__VALUES E_va V_va) hZ (hw _ (List.mem_of_getElem? (i := 7) rfl)) (hw _ (List.mem_of_getElem? (i := 3) rfl)) (by decide) (by decide)) (g := (mkF m 2 #[.val (.ref sx), .val .null, .unset, .unset, .unset, .unset] [])) rfl (by rw [hml]; rfl) (argsL := []) (rest := []) (lenOf pd_2 rfl) rfl (by show 2 * 0 + _ ≤ _; exact Nat.le_of_eq rfl) (hb hby d1_2) (fun _ _ => ⟨rfl, e0, (by decide : 0 + 1 ≤ _), (by decide : 0 + 2 ≤ _)⟩)
  dsimp only [Pt.U, Pt.locs, Pt.cells, Pt.slots] at X1 l1 y1 z1 st1 hQ1
  subst y1 z1
  obtain ⟨r1, k_r1, rfl, N1q, K1q, ⟨ge_r1, sz1_r1⟩, r1_0, r1_1⟩ := hQ1
  have N1 : Fr n0 L1 := by rw [l1]; exact Fr.app N0 N1q
  have ne2 : sx ≠ r1 := Nat.ne_of_lt (Nat.lt_of_lt_of_le Q_sx.lt sz1_r1)
  have ne3 : auth ≠ r1 := O0.ne F_auth_wireName.lt ge_r1
  have ne4 : impl ≠ r1 := O0.ne F_impl_wireName.lt ge_r1
  have ne5 : va ≠ r1 := O0.ne E_va.lt ge_r1
  have ne6 : w1 ≠ r1 := O0.ne Q_w1.lt ge_r1
  have ne7 : w2 ≠ r1 := O0.ne Q_w2.lt ge_r1
  have f8 := Q_sx.keep K1q nin0 apart0
  have sz_r1 : h0.size ≤ r1 := Nat.le_trans (Keep.refl h0 []).1 sz1_r1
  have K1 : Keep h0 T1.heap [] := (Keep.refl h0 []).trans K1q all0
  have O1 := O0.keep K1q all0
  refine stp st1 ?_
  show Go p e below T1 (mkF m 5 #[.val (.ref sx), .val .null, .unset, .unset, .unset, .unset] [(.ref r1)]) _
  refine stp (fun _ => XS.astoreN X1.here hx rfl (hb hby d1_5) rfl rfl (l' := #[.val (.ref sx), .val .null, .val (.ref r1), .unset, .unset, .unset]) rfl) ?_
  show Go p e below T1 (mkF m 6 #[.val (.ref sx), .val .null, .val (.ref r1), .unset, .unset, .unset] []) _
  refine stp (fun _ => XS.aloadN X1.here hx rfl (hb hby d1_6) rfl rfl) ?_
  show Go p e below T1 (mkF m 7 #[.val (.ref sx), .val .null, .val (.ref r1), .unset, .unset, .unset] [(.ref r1)]) _
  obtain ⟨cl9, Ar9, -, S9, M9, -, -⟩ := (id r1_1)
  refine stp (fun _ => X1.arraylength hx Ar9.1 (State.isArrayOf_alike hZ.alike Ar9.2.1) (g := (mkF m 7 #[.val (.ref sx), .val .null, .val (.ref r1), .unset, .unset, .unset] [(.ref r1)])) rfl rfl (hb hby d1_7) _) ?_
  rw [len_of S9 M9]
  show Go p e below T1 (mkF m 8 #[.val (.ref sx), .val .null, .val (.ref r1), .unset, .unset, .unset] [(.int (2 : Int32))]) _
  refine stp (fun _ => XS.istoreN X1.here hx rfl (hb hby d1_8) rfl (l' := #[.val (.ref sx), .val .null, .val (.ref r1), .val (.int (2 : Int32)), .unset, .unset]) rfl) ?_
  show Go p e below T1 (mkF m 9 #[.val (.ref sx), .val .null, .val (.ref r1), .val (.int (2 : Int32)), .unset, .unset] []) _
  refine stp (fun _ => XS.iconst X1.here hx rfl (hb hby d1_9)) ?_
  show Go p e below T1 (mkF m 10 #[.val (.ref sx), .val .null, .val (.ref r1), .val (.int (2 : Int32)), .unset, .unset] [(.int (0 : Int32))]) _
  refine stp (fun _ => XS.istore X1.here hx rfl (hb hby d1_10) rfl (l' := #[.val (.ref sx), .val .null, .val (.ref r1), .val (.int (2 : Int32)), .val (.int (0 : Int32)), .unset]) rfl) ?_
  show Go p e below T1 (mkF m 12 #[.val (.ref sx), .val .null, .val (.ref r1), .val (.int (2 : Int32)), .val (.int (0 : Int32)), .unset] []) _
  refine stp (fun _ => XS.iload X1.here hx rfl (hb hby d1_12) rfl) ?_
  show Go p e below T1 (mkF m 14 #[.val (.ref sx), .val .null, .val (.ref r1), .val (.int (2 : Int32)), .val (.int (0 : Int32)), .unset] [(.int (0 : Int32))]) _
  refine stp (fun _ => XS.iloadN X1.here hx rfl (hb hby d1_14) rfl) ?_
  show Go p e below T1 (mkF m 15 #[.val (.ref sx), .val .null, .val (.ref r1), .val (.int (2 : Int32)), .val (.int (0 : Int32)), .unset] [(.int (2 : Int32)), (.int (0 : Int32))]) _
  refine stp (fun _ => XS.icmpNo X1.here hx rfl (hb hby d1_15) rfl (by decide)) ?_
  show Go p e below T1 (mkF m 18 #[.val (.ref sx), .val .null, .val (.ref r1), .val (.int (2 : Int32)), .val (.int (0 : Int32)), .unset] []) _
  refine stp (fun _ => XS.aloadN X1.here hx rfl (hb hby d1_18) rfl rfl) ?_
  show Go p e below T1 (mkF m 19 #[.val (.ref sx), .val .null, .val (.ref r1), .val (.int (2 : Int32)), .val (.int (0 : Int32)), .unset] [(.ref r1)]) _
  refine stp (fun _ => XS.iload X1.here hx rfl (hb hby d1_19) rfl) ?_
  show Go p e below T1 (mkF m 21 #[.val (.ref sx), .val .null, .val (.ref r1), .val (.int (2 : Int32)), .val (.int (0 : Int32)), .unset] [(.int (0 : Int32)), (.ref r1)]) _
  obtain ⟨cl10, Ar10, q10, S10, M10, H10, G10⟩ := (id r1_1)
  have in10 : ¬ ((0 : Int32) < 0 ∨ cl10.slots.size ≤ ((0 : Int32)).toNatClampNeg) := inb_of S10 ⟨by decide, by decide⟩
  have at10 : cl10.slots[((0 : Int32)).toNatClampNeg]? = some (.ref auth) := H10.at in10 rfl
  refine stp (fun _ => X1.aaload hx (j := (0 : Int32)) (v := (.ref auth)) Ar10.1 (State.isArrayOf_alike hZ.alike Ar10.2.1) rfl Ar10.2.2 in10 at10 (g := (mkF m 21 #[.val (.ref sx), .val .null, .val (.ref r1), .val (.int (2 : Int32)), .val (.int (0 : Int32)), .unset] [(.int (0 : Int32)), (.ref r1)])) rfl rfl (hb hby d1_21) _) ?_
  show Go p e below T1 (mkF m 22 #[.val (.ref sx), .val .null, .val (.ref r1), .val (.int (2 : Int32)), .val (.int (0 : Int32)), .unset] [(.ref auth)]) _
  refine stp (fun _ => XS.astore X1.here hx rfl (hb hby d1_22) rfl rfl (l' := #[.val (.ref sx), .val .null, .val (.ref r1), .val (.int (2 : Int32)), .val (.int (0 : Int32)), .val (.ref auth)]) rfl) ?_
  show Go p e below T1 (mkF m 24 #[.val (.ref sx), .val .null, .val (.ref r1), .val (.int (2 : Int32)), .val (.int (0 : Int32)), .val (.ref auth)] []) _
  refine stp (fun _ => XS.aload X1.here hx rfl (hb hby d1_24) rfl rfl) ?_
  show Go p e below T1 (mkF m 26 #[.val (.ref sx), .val .null, .val (.ref r1), .val (.int (2 : Int32)), .val (.int (0 : Int32)), .val (.ref auth)] [(.ref auth)]) _
  obtain ⟨T11, X11, e11, st11⟩ := getF X1 hx hZ hown (host := "") (Or.inl (hw _ (List.mem_of_getElem? (i := 22) rfl))) Via.refl rfl (F_auth_wireName.ext O1.2) (g := (mkF m 26 #[.val (.ref sx), .val .null, .val (.ref r1), .val (.int (2 : Int32)), .val (.int (0 : Int32)), .val (.ref auth)] [(.ref auth)])) rfl rfl (hb hby d1_26)
  refine stp st11 ?_
  show Go p e below T11 (mkF m 29 #[.val (.ref sx), .val .null, .val (.ref r1), .val (.int (2 : Int32)), .val (.int (0 : Int32)), .val (.ref auth)] [(.ref w1)]) _
  refine stp (fun _ => XS.aloadN X11.here hx rfl (hb hby d1_29) rfl rfl) ?_
  show Go p e below T11 (mkF m 30 #[.val (.ref sx), .val .null, .val (.ref r1), .val (.int (2 : Int32)), .val (.int (0 : Int32)), .val (.ref auth)] [(.ref sx), (.ref w1)]) _
  obtain ⟨cq12, kq12, q12a, q12b, q12c⟩ := isOf hZ e11 (Q_w1.exa.ext O1.2)
  obtain ⟨_, _, ⟨T12, L12, k12, n12⟩, -, X12, ⟨Lc12, hQ12, l12, y12, z12⟩, st12⟩ := X11.virtualBack hx (y := (⟨"java/lang/String", "equals", "(Ljava/lang/Object;)Z"⟩ : MethodName)) (z := (⟨"java/lang/String", "equals", "(Ljava/lang/Object;)Z"⟩ : MethodName)) hown (mvT hZ (hw _ (List.mem_of_getElem? (i := 24) rfl))) (mvT hZ (hw _ (List.mem_of_getElem? (i := 25) rfl))) (notFace_of_selects (args := #[]) (mvT hZ (hw _ (List.mem_of_getElem? (i := 27) rfl)))) (mvT hZ (hw _ (List.mem_of_getElem? (i := 27) rfl))) (mvT hZ (hw _ (List.mem_of_getElem? (i := 26) rfl))) (by decide) (own_eqB (W := 0) hw hZ (Q_w1.ext O1.2) f8 (S_COMPACT_STRINGS.ext O1.2) hcz (n0 := n0) (by decide) (by decide)) q12a q12c (g := (mkF m 30 #[.val (.ref sx), .val .null, .val (.ref r1), .val (.int (2 : Int32)), .val (.int (0 : Int32)), .val (.ref auth)] [(.ref sx), (.ref w1)])) rfl (by rw [hml]; rfl) (Steps.refl _) (argsL := [(.ref sx)]) (rest := []) (lenOf pd_3 rfl) rfl (by show 2 * 0 + _ ≤ _; exact Nat.le_of_eq rfl) (hb hby d1_30) (fun _ _ => ⟨rfl, e11, (by decide : 1 + 0 ≤ _), (by decide : 2 + 0 ≤ _)⟩)
  dsimp only [Pt.U, Pt.locs, Pt.cells, Pt.slots] at X12 l12 y12 z12 st12 hQ12
  subst y12 z12
  obtain ⟨rfl, N12q, e12⟩ := hQ12
  have N12 : Fr n0 L12 := by rw [l12]; exact Fr.app N1 N12q
  refine stt st12 ?_
  show Go p e below T12 (mkF m 33 #[.val (.ref sx), .val .null, .val (.ref r1), .val (.int (2 : Int32)), .val (.int (0 : Int32)), .val (.ref auth)] [(.int (if own_ac_list = cs then (1 : Int32) else (0 : Int32)))]) _
  refine stp (fun _ => XS.ifYes X12.here hx rfl (pc0 := 33) (pc' := 39) rfl (hb hby d1_33) rfl (XT.i0_eq_t (if_neg h1)) (by decide) (by decide)) ?_
  show Go p e below T12 (mkF m 39 #[.val (.ref sx), .val .null, .val (.ref r1), .val (.int (2 : Int32)), .val (.int (0 : Int32)), .val (.ref auth)] []) _
  refine stp (fun _ => XS.iinc X12.here hx rfl (hb hby d1_39) rfl (l' := #[.val (.ref sx), .val .null, .val (.ref r1), .val (.int (2 : Int32)), .val (.int (1 : Int32)), .val (.ref auth)]) rfl) ?_
  show Go p e below T12 (mkF m 42 #[.val (.ref sx), .val .null, .val (.ref r1), .val (.int (2 : Int32)), .val (.int (1 : Int32)), .val (.ref auth)] []) _
  refine stp (fun _ => XS.goto X12.here hx rfl (pc0 := 42) (pc' := 12) rfl (hb hby d1_42) (by decide) (by decide)) ?_
  show Go p e below T12 (mkF m 12 #[.val (.ref sx), .val .null, .val (.ref r1), .val (.int (2 : Int32)), .val (.int (1 : Int32)), .val (.ref auth)] []) _
  refine stp (fun _ => XS.iload X12.here hx rfl (hb hby d1_12) rfl) ?_
  show Go p e below T12 (mkF m 14 #[.val (.ref sx), .val .null, .val (.ref r1), .val (.int (2 : Int32)), .val (.int (1 : Int32)), .val (.ref auth)] [(.int (1 : Int32))]) _
  refine stp (fun _ => XS.iloadN X12.here hx rfl (hb hby d1_14) rfl) ?_
  show Go p e below T12 (mkF m 15 #[.val (.ref sx), .val .null, .val (.ref r1), .val (.int (2 : Int32)), .val (.int (1 : Int32)), .val (.ref auth)] [(.int (2 : Int32)), (.int (1 : Int32))]) _
  refine stp (fun _ => XS.icmpNo X12.here hx rfl (hb hby d1_15) rfl (by decide)) ?_
  show Go p e below T12 (mkF m 18 #[.val (.ref sx), .val .null, .val (.ref r1), .val (.int (2 : Int32)), .val (.int (1 : Int32)), .val (.ref auth)] []) _
  refine stp (fun _ => XS.aloadN X12.here hx rfl (hb hby d1_18) rfl rfl) ?_
  show Go p e below T12 (mkF m 19 #[.val (.ref sx), .val .null, .val (.ref r1), .val (.int (2 : Int32)), .val (.int (1 : Int32)), .val (.ref auth)] [(.ref r1)]) _
  refine stp (fun _ => XS.iload X12.here hx rfl (hb hby d1_19) rfl) ?_
  show Go p e below T12 (mkF m 21 #[.val (.ref sx), .val .null, .val (.ref r1), .val (.int (2 : Int32)), .val (.int (1 : Int32)), .val (.ref auth)] [(.int (1 : Int32)), (.ref r1)]) _
  obtain ⟨cl13, Ar13, q13, S13, M13, H13, G13⟩ := (id r1_1)
  have in13 : ¬ ((1 : Int32) < 0 ∨ cl13.slots.size ≤ ((1 : Int32)).toNatClampNeg) := inb_of S13 ⟨by decide, by decide⟩
  have at13 : cl13.slots[((1 : Int32)).toNatClampNeg]? = some (.ref impl) := H13.at in13 rfl
  refine stp (fun _ => X12.aaload hx (j := (1 : Int32)) (v := (.ref impl)) (by rw [e12]; exact Ar13.1) (State.isArrayOf_alike hZ.alike Ar13.2.1) rfl Ar13.2.2 in13 at13 (g := (mkF m 21 #[.val (.ref sx), .val .null, .val (.ref r1), .val (.int (2 : Int32)), .val (.int (1 : Int32)), .val (.ref auth)] [(.int (1 : Int32)), (.ref r1)])) rfl rfl (hb hby d1_21) _) ?_
  show Go p e below T12 (mkF m 22 #[.val (.ref sx), .val .null, .val (.ref r1), .val (.int (2 : Int32)), .val (.int (1 : Int32)), .val (.ref auth)] [(.ref impl)]) _
  refine stp (fun _ => XS.astore X12.here hx rfl (hb hby d1_22) rfl rfl (l' := #[.val (.ref sx), .val .null, .val (.ref r1), .val (.int (2 : Int32)), .val (.int (1 : Int32)), .val (.ref impl)]) rfl) ?_
  show Go p e below T12 (mkF m 24 #[.val (.ref sx), .val .null, .val (.ref r1), .val (.int (2 : Int32)), .val (.int (1 : Int32)), .val (.ref impl)] []) _
  refine stp (fun _ => XS.aload X12.here hx rfl (hb hby d1_24) rfl rfl) ?_
  show Go p e below T12 (mkF m 26 #[.val (.ref sx), .val .null, .val (.ref r1), .val (.int (2 : Int32)), .val (.int (1 : Int32)), .val (.ref impl)] [(.ref impl)]) _
  obtain ⟨T14, X14, e14, st14⟩ := getF X12 hx hZ hown (host := "") (Or.inl (hw _ (List.mem_of_getElem? (i := 22) rfl))) Via.refl e12 (F_impl_wireName.ext O1.2) (g := (mkF m 26 #[.val (.ref sx), .val .null, .val (.ref r1), .val (.int (2 : Int32)), .val (.int (1 : Int32)), .val (.ref impl)] [(.ref impl)])) rfl rfl (hb hby d1_26)
  refine stp st14 ?_
  show Go p e below T14 (mkF m 29 #[.val (.ref sx), .val .null, .val (.ref r1), .val (.int (2 : Int32)), .val (.int (1 : Int32)), .val (.ref impl)] [(.ref w2)]) _
  refine stp (fun _ => XS.aloadN X14.here hx rfl (hb hby d1_29) rfl rfl) ?_
  show Go p e below T14 (mkF m 30 #[.val (.ref sx), .val .null, .val (.ref r1), .val (.int (2 : Int32)), .val (.int (1 : Int32)), .val (.ref impl)] [(.ref sx), (.ref w2)]) _
  obtain ⟨cq15, kq15, q15a, q15b, q15c⟩ := isOf hZ e14 (Q_w2.exa.ext O1.2)
  obtain ⟨_, _, ⟨T15, L15, k15, n15⟩, -, X15, ⟨Lc15, hQ15, l15, y15, z15⟩, st15⟩ := X14.virtualBack hx (y := (⟨"java/lang/String", "equals", "(Ljava/lang/Object;)Z"⟩ : MethodName)) (z := (⟨"java/lang/String", "equals", "(Ljava/lang/Object;)Z"⟩ : MethodName)) hown (mvT hZ (hw _ (List.mem_of_getElem? (i := 24) rfl))) (mvT hZ (hw _ (List.mem_of_getElem? (i := 25) rfl))) (notFace_of_selects (args := #[]) (mvT hZ (hw _ (List.mem_of_getElem? (i := 27) rfl)))) (mvT hZ (hw _ (List.mem_of_getElem? (i := 27) rfl))) (mvT hZ (hw _ (List.mem_of_getElem? (i := 26) rfl))) (by decide) (own_eqB (W := 0) hw hZ (Q_w2.ext O1.2) f8 (S_COMPACT_STRINGS.ext O1.2) hcz (n0 := n0) (by decide) (by decide)) q15a q15c (g := (mkF m 30 #[.val (.ref sx), .val .null, .val (.ref r1), .val (.int (2 : Int32)), .val (.int (1 : Int32)), .val (.ref impl)] [(.ref sx), (.ref w2)])) rfl (by rw [hml]; rfl) (Steps.refl _) (argsL := [(.ref sx)]) (rest := []) (lenOf pd_3 rfl) rfl (by show 2 * 0 + _ ≤ _; exact Nat.le_of_eq rfl) (hb hby d1_30) (fun _ _ => ⟨rfl, e14, (by decide : 1 + 0 ≤ _), (by decide : 2 + 0 ≤ _)⟩)
  dsimp only [Pt.U, Pt.locs, Pt.cells, Pt.slots] at X15 l15 y15 z15 st15 hQ15
  subst y15 z15
  obtain ⟨rfl, N15q, e15⟩ := hQ15
  have N15 : Fr n0 L15 := by rw [l15]; exact Fr.app N12 N15q
  refine stt st15 ?_
  show Go p e below T15 (mkF m 33 #[.val (.ref sx), .val .null, .val (.ref r1), .val (.int (2 : Int32)), .val (.int (1 : Int32)), .val (.ref impl)] [(.int (if own_im_list = cs then (1 : Int32) else (0 : Int32)))]) _
  refine stp (fun _ => XS.ifYes X15.here hx rfl (pc0 := 33) (pc' := 39) rfl (hb hby d1_33) rfl (XT.i0_eq_t (if_neg h2)) (by decide) (by decide)) ?_
  show Go p e below T15 (mkF m 39 #[.val (.ref sx), .val .null, .val (.ref r1), .val (.int (2 : Int32)), .val (.int (1 : Int32)), .val (.ref impl)] []) _
  refine stp (fun _ => XS.iinc X15.here hx rfl (hb hby d1_39) rfl (l' := #[.val (.ref sx), .val .null, .val (.ref r1), .val (.int (2 : Int32)), .val (.int (2 : Int32)), .val (.ref impl)]) rfl) ?_
  show Go p e below T15 (mkF m 42 #[.val (.ref sx), .val .null, .val (.ref r1), .val (.int (2 : Int32)), .val (.int (2 : Int32)), .val (.ref impl)] []) _
  refine stp (fun _ => XS.goto X15.here hx rfl (pc0 := 42) (pc' := 12) rfl (hb hby d1_42) (by decide) (by decide)) ?_
  show Go p e below T15 (mkF m 12 #[.val (.ref sx), .val .null, .val (.ref r1), .val (.int (2 : Int32)), .val (.int (2 : Int32)), .val (.ref impl)] []) _
  refine stp (fun _ => XS.iload X15.here hx rfl (hb hby d1_12) rfl) ?_
  show Go p e below T15 (mkF m 14 #[.val (.ref sx), .val .null, .val (.ref r1), .val (.int (2 : Int32)), .val (.int (2 : Int32)), .val (.ref impl)] [(.int (2 : Int32))]) _
  refine stp (fun _ => XS.iloadN X15.here hx rfl (hb hby d1_14) rfl) ?_
  show Go p e below T15 (mkF m 15 #[.val (.ref sx), .val .null, .val (.ref r1), .val (.int (2 : Int32)), .val (.int (2 : Int32)), .val (.ref impl)] [(.int (2 : Int32)), (.int (2 : Int32))]) _
  refine stp (fun _ => XS.icmpYes X15.here hx rfl (pc0 := 15) (pc' := 45) rfl (hb hby d1_15) rfl (by decide) (by decide) (by decide)) ?_
  show Go p e below T15 (mkF m 45 #[.val (.ref sx), .val .null, .val (.ref r1), .val (.int (2 : Int32)), .val (.int (2 : Int32)), .val (.ref impl)] []) _
  refine stp (fun _ => XS.aloadN X15.here hx rfl (hb hby d1_45) rfl rfl) ?_
  show Go p e below T15 (mkF m 46 #[.val (.ref sx), .val .null, .val (.ref r1), .val (.int (2 : Int32)), .val (.int (2 : Int32)), .val (.ref impl)] [.null]) _
  obtain ⟨_, _, ⟨T16, L16, k16, n16⟩, -, X16, ⟨Lc16, hQ16, l16, y16, z16⟩, st16⟩ := Jvm.LawKit.callS X15 hx (y := (⟨"java/util/Optional", "ofNullable", "(Ljava/lang/Object;)Ljava/util/Optional;"⟩ : MethodName)) hown (mvT hZ (hw _ (List.mem_of_getElem? (i := 30) rfl))) (mvT hZ (hw _ (List.mem_of_getElem? (i := 31) rfl))) (mvT hZ (hw _ (List.mem_of_getElem? (i := 32) rfl))) (mvT hZ (hw _ (List.mem_of_getElem? (i := 33) rfl))) (by decide) (backOf (W := 0) (rm_on0 l Z a0 hw []  empty_ T1.heap n0 O1 S_EMPTY) hZ (hw _ (List.mem_of_getElem? (i := 33) rfl)) (hw _ (List.mem_of_getElem? (i := 32) rfl)) (by decide) (by decide)) (g := (mkF m 46 #[.val (.ref sx), .val .null, .val (.ref r1), .val (.int (2 : Int32)), .val (.int (2 : Int32)), .val (.ref impl)] [.null])) rfl (by rw [hml]; rfl) (argsL := [.null]) (rest := []) (lenOf pd_4 rfl) rfl (by show 2 * 0 + _ ≤ _; exact Nat.le_of_eq rfl) (hb hby d1_46) (fun _ _ => ⟨rfl, e15, (by decide : 1 + 0 ≤ _), (by decide : 2 + 0 ≤ _)⟩)
  dsimp only [Pt.U, Pt.locs, Pt.cells, Pt.slots] at X16 l16 y16 z16 st16 hQ16
  subst y16 z16
  obtain ⟨rfl, N16q, e16⟩ := hQ16
  have N16 : Fr n0 L16 := by rw [l16]; exact Fr.app N15 N16q
  refine stp st16 ?_
  show Go p e below T16 (mkF m 49 #[.val (.ref sx), .val .null, .val (.ref r1), .val (.int (2 : Int32)), .val (.int (2 : Int32)), .val (.ref impl)] [(.ref empty_)]) _
  refine outA X16 hx hret rfl rfl (hb hby d1_49) hlk (by decide) (by decide) ?_
  rw [e16]
  exact ⟨rfl, N16, K1⟩
theorem d1_36 : decode prog_7_method_5_code 36 = .ok (.aload 5, 2) := by decide +kernel
theorem d1_38 : decode prog_7_method_5_code 38 = .ok (.astore_n 1, 1) := by decide +kernel
theorem ef_rm_fwa (m : MethodId) (sx : Addr)  : entryFrame m #[(.ref sx)] 6 = mkF m 0 #[.val (.ref sx), .unset, .unset, .unset, .unset, .unset] [] := by first | (simp [entryFrame, mkF, argsToLocals, Value.category]; done) | rfl
def Q_rm_fwa (Z : State) (sx : Addr) (auth : Addr) (impl : Addr) (va : Addr) (w1 : Addr) (w2 : Addr) (cs : List Int32) (cz : Int32) (k_va : ClassId) (h0 : Heap) (n0 : Nat) (v : Option Value) (h : Heap) (L : List Loc) : Prop := ∃ (r : Addr), v = some (.ref r) ∧ Fr n0 L ∧ Keep h0 h [] ∧ (n0 ≤ r ∧ h0.size ≤ r) ∧ Exa Z h r "java/util/Optional" ∧ Fld Z h r "java/util/Optional" "value" "Ljava/lang/Object;" (.ref auth)
set_option maxRecDepth 65536 in
set_option maxHeartbeats 40000000 in
theorem rm_fwa (l : Launch) (Z : State) (a0 : Array Value) (hw : ∀ d ∈ tables_1, d.before a0 Z = true) (ws : List Jvm.Cond) (sx : Addr) (auth : Addr) (impl : Addr) (va : Addr) (w1 : Addr) (w2 : Addr) (cs : List Int32) (cz : Int32) (k_va : ClassId) (h0 : Heap) (n0 : Nat) (O0 : Old Z n0 h0) (S__VALUES : Sta Z Z.heap "com/example/uriel/uriel/grant/GrantType" "$VALUES" "[Lcom/example/uriel/uriel/grant/GrantType;" (.ref va)) (E_va : Exa Z Z.heap va "[Lcom/example/uriel/uriel/grant/GrantType;") (V_va : Arv Z Z.heap va k_va (.object "com/example/uriel/uriel/grant/GrantType") (2 : Int32) [(.ref auth), (.ref impl)] .null) (F_auth_wireName : Fld Z Z.heap auth "com/example/uriel/uriel/grant/GrantType" "wireName" "Ljava/lang/String;" (.ref w1)) (F_impl_wireName : Fld Z Z.heap impl "com/example/uriel/uriel/grant/GrantType" "wireName" "Ljava/lang/String;" (.ref w2)) (Q_w1 : StrIs Z Z.heap w1 own_ac_list) (Q_w2 : StrIs Z Z.heap w2 own_im_list) (Q_sx : StrIs Z h0 sx cs) (S_COMPACT_STRINGS : Sta Z Z.heap "java/lang/String" "COMPACT_STRINGS" "Z" (.int cz)) (hcz : ¬ cz = (0 : Int32)) (h1 : own_ac_list = cs) (h2 : ¬ own_im_list = cs) :
    MetFree l (⟨"com/example/uriel/uriel/grant/GrantType", "fromWireName", "(Ljava/lang/String;)Ljava/util/Optional;"⟩ : MethodName) (head1 (Jvm.Cond.code (⟨"com/example/uriel/uriel/grant/GrantType", "fromWireName", "(Ljava/lang/String;)Ljava/util/Optional;"⟩ : MethodName) prog_7_method_5_code 6 (some (.object "java/util/Optional")) :: ws) ({ frames := 3, cells := 2, slots := 3, locals := 38 } : Room)) (fun args_ U => args_ = #[(.ref sx)] ∧ Z.Warmed39 U.vm ∧ U.heap = h0) (fun _ _ _ _ _ => True) (fun _ U out_ U' => ∃ val_ loc_, out_ = .returned val_ ∧ (Q_rm_fwa Z sx auth impl va w1 w2 cs cz k_va h0 n0) val_ U'.heap loc_ ∧ FrameEnd U out_ U' loc_ ({ frames := 3, cells := 2, slots := 3, locals := 38 } : Room).cells ({ frames := 3, cells := 2, slots := 3, locals := 38 } : Room).slots) := by
  refine start (Q := (Q_rm_fwa Z sx auth impl va w1 w2 cs cz k_va h0 n0)) pn_7 ?_
  intro p e s m below meth c T0 X0 hx hby hml hown hnm hret hlk hZ e0
  replace hown : s.vm.findClass "com/example/uriel/uriel/grant/GrantType" = some m.cls := hown
  replace hml : c.maxLocals = 6 := hml
  refine goAt (ef_rm_fwa m sx ) ?_
  have N0 := Fr.nil n0
  show Go p e below T0 (mkF m 0 #[.val (.ref sx), .unset, .unset, .unset, .unset, .unset] []) _
  refine stp (fun _ => XS.aconstNull X0.here hx rfl (hb hby d1_0)) ?_
  show Go p e below T0 (mkF m 1 #[.val (.ref sx), .unset, .unset, .unset, .unset, .unset] [.null]) _
  refine stp (fun _ => XS.astoreN X0.here hx rfl (hb hby d1_1) rfl rfl (l' := #[.val (.ref sx), .val .null, .unset, .unset, .unset, .unset]) rfl) ?_
  show Go p e below T0 (mkF m 2 #[.val (.ref sx), .val .null, .unset, .unset, .unset, .unset] []) _
  obtain ⟨_, _, ⟨T1, L1, k1, n1⟩, -, X1, ⟨Lc1, hQ1, l1, y1, z1⟩, st1⟩ := Jvm.LawKit.callS X0 hx (y := (⟨"com/example/uriel/uriel/grant/GrantType", "values", "()[Lcom/example/uriel/uriel/grant/GrantType;"⟩ : MethodName)) hown (mvT hZ (hw _ (List.mem_of_getElem? (i := 5) rfl))) (mvT hZ (hw _ (List.mem_of_getElem? (i := 6) rfl))) (mvT hZ (hw _ (List.mem_of_getElem? (i := 3) rfl))) (mvT hZ (hw _ (List.mem_of_getElem? (i := 7) rfl))) (by decide) (backOf (W := 0) (rm_values l Z a0 hw []  auth impl va k_va h0 n0 O0 S__VALUES E_va V_va) hZ (hw _ (List.mem_of_getElem? (i := 7) rfl)) (hw _ (List.mem_of_getElem? (i := 3) rfl)) (by decide) (by decide)) (g := (mkF m 2 #[.val (.ref sx), .val .null, .unset, .unset, .unset, .unset] [])) rfl (by rw [hml]; rfl) (argsL := []) (rest := []) (lenOf pd_2 rfl) rfl (by show 2 * 0 + _ ≤ _; exact Nat.le_of_eq rfl) (hb hby d1_2) (fun _ _ => ⟨rfl, e0, (by decide : 0 + 1 ≤ _), (by decide : 0 + 2 ≤ _)⟩)
  dsimp only [Pt.U, Pt.locs, Pt.cells, Pt.slots] at X1 l1 y1 z1 st1 hQ1
  subst y1 z1
  obtain ⟨r1, k_r1, rfl, N1q, K1q, ⟨ge_r1, sz1_r1⟩, r1_0, r1_1⟩ := hQ1
  have N1 : Fr n0 L1 := by rw [l1]; exact Fr.app N0 N1q
  have ne2 : sx ≠ r1 := Nat.ne_of_lt (Nat.lt_of_lt_of_le Q_sx.lt sz1_r1)
  have ne3 : auth ≠ r1 := O0.ne F_auth_wireName.lt ge_r1
  have ne4 : impl ≠ r1 := O0.ne F_impl_wireName.lt ge_r1
  have ne5 : va ≠ r1 := O0.ne E_va.lt ge_r1
  have ne6 : w1 ≠ r1 := O0.ne Q_w1.lt ge_r1
  have ne7 : w2 ≠ r1 := O0.ne Q_w2.lt ge_r1
  have f8 := Q_sx.keep K1q nin0 apart0
  have sz_r1 : h0.size ≤ r1 := Nat.le_trans (Keep.refl h0 []).1 sz1_r1
  have K1 : Keep h0 T1.heap [] := (Keep.refl h0 []).trans K1q all0
  have O1 := O0.keep K1q all0
  refine stp st1 ?_
  show Go p e below T1 (mkF m 5 #[.val (.ref sx), .val .null, .unset, .unset, .unset, .unset] [(.ref r1)]) _
  refine stp (fun _ => XS.astoreN X1.here hx rfl (hb hby d1_5) rfl rfl (l' := #[.val (.ref sx), .val .null, .val (.ref r1), .unset, .unset, .unset]) rfl) ?_
  show Go p e below T1 (mkF m 6 #[.val (.ref sx), .val .null, .val (.ref r1), .unset, .unset, .unset] []) _
  refine stp (fun _ => XS.aloadN X1.here hx rfl (hb hby d1_6) rfl rfl) ?_
  show Go p e below T1 (mkF m 7 #[.val (.ref sx), .val .null, .val (.ref r1), .unset, .unset, .unset] [(.ref r1)]) _
  obtain ⟨cl9, Ar9, -, S9, M9, -, -⟩ := (id r1_1)
  refine stp (fun _ => X1.arraylength hx Ar9.1 (State.isArrayOf_alike hZ.alike Ar9.2.1) (g := (mkF m 7 #[.val (.ref sx), .val .null, .val (.ref r1), .unset, .unset, .unset] [(.ref r1)])) rfl rfl (hb hby d1_7) _) ?_
  rw [len_of S9 M9]
  show Go p e below T1 (mkF m 8 #[.val (.ref sx), .val .null, .val (.ref r1), .unset, .unset, .unset] [(.int (2 : Int32))]) _
  refine stp (fun _ => XS.istoreN X1.here hx rfl (hb hby d1_8) rfl (l' := #[.val (.ref sx), .val .null, .val (.ref r1), .val (.int (2 : Int32)), .unset, .unset]) rfl) ?_
  show Go p e below T1 (mkF m 9 #[.val (.ref sx), .val .null, .val (.ref r1), .val (.int (2 : Int32)), .unset, .unset] []) _
  refine stp (fun _ => XS.iconst X1.here hx rfl (hb hby d1_9)) ?_
  show Go p e below T1 (mkF m 10 #[.val (.ref sx), .val .null, .val (.ref r1), .val (.int (2 : Int32)), .unset, .unset] [(.int (0 : Int32))]) _
  refine stp (fun _ => XS.istore X1.here hx rfl (hb hby d1_10) rfl (l' := #[.val (.ref sx), .val .null, .val (.ref r1), .val (.int (2 : Int32)), .val (.int (0 : Int32)), .unset]) rfl) ?_
  show Go p e below T1 (mkF m 12 #[.val (.ref sx), .val .null, .val (.ref r1), .val (.int (2 : Int32)), .val (.int (0 : Int32)), .unset] []) _
  refine stp (fun _ => XS.iload X1.here hx rfl (hb hby d1_12) rfl) ?_
  show Go p e below T1 (mkF m 14 #[.val (.ref sx), .val .null, .val (.ref r1), .val (.int (2 : Int32)), .val (.int (0 : Int32)), .unset] [(.int (0 : Int32))]) _
  refine stp (fun _ => XS.iloadN X1.here hx rfl (hb hby d1_14) rfl) ?_
  show Go p e below T1 (mkF m 15 #[.val (.ref sx), .val .null, .val (.ref r1), .val (.int (2 : Int32)), .val (.int (0 : Int32)), .unset] [(.int (2 : Int32)), (.int (0 : Int32))]) _
  refine stp (fun _ => XS.icmpNo X1.here hx rfl (hb hby d1_15) rfl (by decide)) ?_
  show Go p e below T1 (mkF m 18 #[.val (.ref sx), .val .null, .val (.ref r1), .val (.int (2 : Int32)), .val (.int (0 : Int32)), .unset] []) _
  refine stp (fun _ => XS.aloadN X1.here hx rfl (hb hby d1_18) rfl rfl) ?_
  show Go p e below T1 (mkF m 19 #[.val (.ref sx), .val .null, .val (.ref r1), .val (.int (2 : Int32)), .val (.int (0 : Int32)), .unset] [(.ref r1)]) _
  refine stp (fun _ => XS.iload X1.here hx rfl (hb hby d1_19) rfl) ?_
  show Go p e below T1 (mkF m 21 #[.val (.ref sx), .val .null, .val (.ref r1), .val (.int (2 : Int32)), .val (.int (0 : Int32)), .unset] [(.int (0 : Int32)), (.ref r1)]) _
  obtain ⟨cl10, Ar10, q10, S10, M10, H10, G10⟩ := (id r1_1)
  have in10 : ¬ ((0 : Int32) < 0 ∨ cl10.slots.size ≤ ((0 : Int32)).toNatClampNeg) := inb_of S10 ⟨by decide, by decide⟩
  have at10 : cl10.slots[((0 : Int32)).toNatClampNeg]? = some (.ref auth) := H10.at in10 rfl
  refine stp (fun _ => X1.aaload hx (j := (0 : Int32)) (v := (.ref auth)) Ar10.1 (State.isArrayOf_alike hZ.alike Ar10.2.1) rfl Ar10.2.2 in10 at10 (g := (mkF m 21 #[.val (.ref sx), .val .null, .val (.ref r1), .val (.int (2 : Int32)), .val (.int (0 : Int32)), .unset] [(.int (0 : Int32)), (.ref r1)])) rfl rfl (hb hby d1_21) _) ?_
  show Go p e below T1 (mkF m 22 #[.val (.ref sx), .val .null, .val (.ref r1), .val (.int (2 : Int32)), .val (.int (0 : Int32)), .unset] [(.ref auth)]) _
  refine stp (fun _ => XS.astore X1.here hx rfl (hb hby d1_22) rfl rfl (l' := #[.val (.ref sx), .val .null, .val (.ref r1), .val (.int (2 : Int32)), .val (.int (0 : Int32)), .val (.ref auth)]) rfl) ?_
  show Go p e below T1 (mkF m 24 #[.val (.ref sx), .val .null, .val (.ref r1), .val (.int (2 : Int32)), .val (.int (0 : Int32)), .val (.ref auth)] []) _
  refine stp (fun _ => XS.aload X1.here hx rfl (hb hby d1_24) rfl rfl) ?_
  show Go p e below T1 (mkF m 26 #[.val (.ref sx), .val .null, .val (.ref r1), .val (.int (2 : Int32)), .val (.int (0 : Int32)), .val (.ref auth)] [(.ref auth)]) _
  obtain ⟨T11, X11, e11, st11⟩ := getF X1 hx hZ hown (host := "") (Or.inl (hw _ (List.mem_of_getElem? (i := 22) rfl))) Via.refl rfl (F_auth_wireName.ext O1.2) (g := (mkF m 26 #[.val (.ref sx), .val .null, .val (.ref r1), .val (.int (2 : Int32)), .val (.int (0 : Int32)), .val (.ref auth)] [(.ref auth)])) rfl rfl (hb hby d1_26)
  refine stp st11 ?_
  show Go p e below T11 (mkF m 29 #[.val (.ref sx), .val .null, .val (.ref r1), .val (.int (2 : Int32)), .val (.int (0 : Int32)), .val (.ref auth)] [(.ref w1)]) _
  refine stp (fun _ => XS.aloadN X11.here hx rfl (hb hby d1_29) rfl rfl) ?_
  show Go p e below T11 (mkF m 30 #[.val (.ref sx), .val .null, .val (.ref r1), .val (.int (2 : Int32)), .val (.int (0 : Int32)), .val (.ref auth)] [(.ref sx), (.ref w1)]) _
  obtain ⟨cq12, kq12, q12a, q12b, q12c⟩ := isOf hZ e11 (Q_w1.exa.ext O1.2)
  obtain ⟨_, _, ⟨T12, L12, k12, n12⟩, -, X12, ⟨Lc12, hQ12, l12, y12, z12⟩, st12⟩ := X11.virtualBack hx (y := (⟨"java/lang/String", "equals", "(Ljava/lang/Object;)Z"⟩ : MethodName)) (z := (⟨"java/lang/String", "equals", "(Ljava/lang/Object;)Z"⟩ : MethodName)) hown (mvT hZ (hw _ (List.mem_of_getElem? (i := 24) rfl))) (mvT hZ (hw _ (List.mem_of_getElem? (i := 25) rfl))) (notFace_of_selects (args := #[]) (mvT hZ (hw _ (List.mem_of_getElem? (i := 27) rfl)))) (mvT hZ (hw _ (List.mem_of_getElem? (i := 27) rfl))) (mvT hZ (hw _ (List.mem_of_getElem? (i := 26) rfl))) (by decide) (own_eqB (W := 0) hw hZ (Q_w1.ext O1.2) f8 (S_COMPACT_STRINGS.ext O1.2) hcz (n0 := n0) (by decide) (by decide)) q12a q12c (g := (mkF m 30 #[.val (.ref sx), .val .null, .val (.ref r1), .val (.int (2 : Int32)), .val (.int (0 : Int32)), .val (.ref auth)] [(.ref sx), (.ref w1)])) rfl (by rw [hml]; rfl) (Steps.refl _) (argsL := [(.ref sx)]) (rest := []) (lenOf pd_3 rfl) rfl (by show 2 * 0 + _ ≤ _; exact Nat.le_of_eq rfl) (hb hby d1_30) (fun _ _ => ⟨rfl, e11, (by decide : 1 + 0 ≤ _), (by decide : 2 + 0 ≤ _)⟩)
  dsimp only [Pt.U, Pt.locs, Pt.cells, Pt.slots] at X12 l12 y12 z12 st12 hQ12
  subst y12 z12
  obtain ⟨rfl, N12q, e12⟩ := hQ12
  have N12 : Fr n0 L12 := by rw [l12]; exact Fr.app N1 N12q
  refine stt st12 ?_
  show Go p e below T12 (mkF m 33 #[.val (.ref sx), .val .null, .val (.ref r1), .val (.int (2 : Int32)), .val (.int (0 : Int32)), .val (.ref auth)] [(.int (if own_ac_list = cs then (1 : Int32) else (0 : Int32)))]) _
  refine stp (fun _ => XS.ifNo X12.here hx rfl (hb hby d1_33) rfl (XT.i0_eq_f (by rw [if_pos h1]; decide))) ?_
  show Go p e below T12 (mkF m 36 #[.val (.ref sx), .val .null, .val (.ref r1), .val (.int (2 : Int32)), .val (.int (0 : Int32)), .val (.ref auth)] []) _
  refine stp (fun _ => XS.aload X12.here hx rfl (hb hby d1_36) rfl rfl) ?_
  show Go p e below T12 (mkF m 38 #[.val (.ref sx), .val .null, .val (.ref r1), .val (.int (2 : Int32)), .val (.int (0 : Int32)), .val (.ref auth)] [(.ref auth)]) _
  refine stp (fun _ => XS.astoreN X12.here hx rfl (hb hby d1_38) rfl rfl (l' := #[.val (.ref sx), .val (.ref auth), .val (.ref r1), .val (.int (2 : Int32)), .val (.int (0 : Int32)), .val (.ref auth)]) rfl) ?_
  show Go p e below T12 (mkF m 39 #[.val (.ref sx), .val (.ref auth), .val (.ref r1), .val (.int (2 : Int32)), .val (.int (0 : Int32)), .val (.ref auth)] []) _
  refine stp (fun _ => XS.iinc X12.here hx rfl (hb hby d1_39) rfl (l' := #[.val (.ref sx), .val (.ref auth), .val (.ref r1), .val (.int (2 : Int32)), .val (.int (1 : Int32)), .val (.ref auth)]) rfl) ?_
  show Go p e below T12 (mkF m 42 #[.val (.ref sx), .val (.ref auth), .val (.ref r1), .val (.int (2 : Int32)), .val (.int (1 : Int32)), .val (.ref auth)] []) _
  refine stp (fun _ => XS.goto X12.here hx rfl (pc0 := 42) (pc' := 12) rfl (hb hby d1_42) (by decide) (by decide)) ?_
  show Go p e below T12 (mkF m 12 #[.val (.ref sx), .val (.ref auth), .val (.ref r1), .val (.int (2 : Int32)), .val (.int (1 : Int32)), .val (.ref auth)] []) _
  refine stp (fun _ => XS.iload X12.here hx rfl (hb hby d1_12) rfl) ?_
  show Go p e below T12 (mkF m 14 #[.val (.ref sx), .val (.ref auth), .val (.ref r1), .val (.int (2 : Int32)), .val (.int (1 : Int32)), .val (.ref auth)] [(.int (1 : Int32))]) _
  refine stp (fun _ => XS.iloadN X12.here hx rfl (hb hby d1_14) rfl) ?_
  show Go p e below T12 (mkF m 15 #[.val (.ref sx), .val (.ref auth), .val (.ref r1), .val (.int (2 : Int32)), .val (.int (1 : Int32)), .val (.ref auth)] [(.int (2 : Int32)), (.int (1 : Int32))]) _
  refine stp (fun _ => XS.icmpNo X12.here hx rfl (hb hby d1_15) rfl (by decide)) ?_
  show Go p e below T12 (mkF m 18 #[.val (.ref sx), .val (.ref auth), .val (.ref r1), .val (.int (2 : Int32)), .val (.int (1 : Int32)), .val (.ref auth)] []) _
  refine stp (fun _ => XS.aloadN X12.here hx rfl (hb hby d1_18) rfl rfl) ?_
  show Go p e below T12 (mkF m 19 #[.val (.ref sx), .val (.ref auth), .val (.ref r1), .val (.int (2 : Int32)), .val (.int (1 : Int32)), .val (.ref auth)] [(.ref r1)]) _
  refine stp (fun _ => XS.iload X12.here hx rfl (hb hby d1_19) rfl) ?_
  show Go p e below T12 (mkF m 21 #[.val (.ref sx), .val (.ref auth), .val (.ref r1), .val (.int (2 : Int32)), .val (.int (1 : Int32)), .val (.ref auth)] [(.int (1 : Int32)), (.ref r1)]) _
  obtain ⟨cl13, Ar13, q13, S13, M13, H13, G13⟩ := (id r1_1)
  have in13 : ¬ ((1 : Int32) < 0 ∨ cl13.slots.size ≤ ((1 : Int32)).toNatClampNeg) := inb_of S13 ⟨by decide, by decide⟩
  have at13 : cl13.slots[((1 : Int32)).toNatClampNeg]? = some (.ref impl) := H13.at in13 rfl
  refine stp (fun _ => X12.aaload hx (j := (1 : Int32)) (v := (.ref impl)) (by rw [e12]; exact Ar13.1) (State.isArrayOf_alike hZ.alike Ar13.2.1) rfl Ar13.2.2 in13 at13 (g := (mkF m 21 #[.val (.ref sx), .val (.ref auth), .val (.ref r1), .val (.int (2 : Int32)), .val (.int (1 : Int32)), .val (.ref auth)] [(.int (1 : Int32)), (.ref r1)])) rfl rfl (hb hby d1_21) _) ?_
  show Go p e below T12 (mkF m 22 #[.val (.ref sx), .val (.ref auth), .val (.ref r1), .val (.int (2 : Int32)), .val (.int (1 : Int32)), .val (.ref auth)] [(.ref impl)]) _
  refine stp (fun _ => XS.astore X12.here hx rfl (hb hby d1_22) rfl rfl (l' := #[.val (.ref sx), .val (.ref auth), .val (.ref r1), .val (.int (2 : Int32)), .val (.int (1 : Int32)), .val (.ref impl)]) rfl) ?_
  show Go p e below T12 (mkF m 24 #[.val (.ref sx), .val (.ref auth), .val (.ref r1), .val (.int (2 : Int32)), .val (.int (1 : Int32)), .val (.ref impl)] []) _
  refine stp (fun _ => XS.aload X12.here hx rfl (hb hby d1_24) rfl rfl) ?_
  show Go p e below T12 (mkF m 26 #[.val (.ref sx), .val (.ref auth), .val (.ref r1), .val (.int (2 : Int32)), .val (.int (1 : Int32)), .val (.ref impl)] [(.ref impl)]) _
  obtain ⟨T14, X14, e14, st14⟩ := getF X12 hx hZ hown (host := "") (Or.inl (hw _ (List.mem_of_getElem? (i := 22) rfl))) Via.refl e12 (F_impl_wireName.ext O1.2) (g := (mkF m 26 #[.val (.ref sx), .val (.ref auth), .val (.ref r1), .val (.int (2 : Int32)), .val (.int (1 : Int32)), .val (.ref impl)] [(.ref impl)])) rfl rfl (hb hby d1_26)
  refine stp st14 ?_
  show Go p e below T14 (mkF m 29 #[.val (.ref sx), .val (.ref auth), .val (.ref r1), .val (.int (2 : Int32)), .val (.int (1 : Int32)), .val (.ref impl)] [(.ref w2)]) _
  refine stp (fun _ => XS.aloadN X14.here hx rfl (hb hby d1_29) rfl rfl) ?_
  show Go p e below T14 (mkF m 30 #[.val (.ref sx), .val (.ref auth), .val (.ref r1), .val (.int (2 : Int32)), .val (.int (1 : Int32)), .val (.ref impl)] [(.ref sx), (.ref w2)]) _
  obtain ⟨cq15, kq15, q15a, q15b, q15c⟩ := isOf hZ e14 (Q_w2.exa.ext O1.2)
  obtain ⟨_, _, ⟨T15, L15, k15, n15⟩, -, X15, ⟨Lc15, hQ15, l15, y15, z15⟩, st15⟩ := X14.virtualBack hx (y := (⟨"java/lang/String", "equals", "(Ljava/lang/Object;)Z"⟩ : MethodName)) (z := (⟨"java/lang/String", "equals", "(Ljava/lang/Object;)Z"⟩ : MethodName)) hown (mvT hZ (hw _ (List.mem_of_getElem? (i := 24) rfl))) (mvT hZ (hw _ (List.mem_of_getElem? (i := 25) rfl))) (notFace_of_selects (args := #[]) (mvT hZ (hw _ (List.mem_of_getElem? (i := 27) rfl)))) (mvT hZ (hw _ (List.mem_of_getElem? (i := 27) rfl))) (mvT hZ (hw _ (List.mem_of_getElem? (i := 26) rfl))) (by decide) (own_eqB (W := 0) hw hZ (Q_w2.ext O1.2) f8 (S_COMPACT_STRINGS.ext O1.2) hcz (n0 := n0) (by decide) (by decide)) q15a q15c (g := (mkF m 30 #[.val (.ref sx), .val (.ref auth), .val (.ref r1), .val (.int (2 : Int32)), .val (.int (1 : Int32)), .val (.ref impl)] [(.ref sx), (.ref w2)])) rfl (by rw [hml]; rfl) (Steps.refl _) (argsL := [(.ref sx)]) (rest := []) (lenOf pd_3 rfl) rfl (by show 2 * 0 + _ ≤ _; exact Nat.le_of_eq rfl) (hb hby d1_30) (fun _ _ => ⟨rfl, e14, (by decide : 1 + 0 ≤ _), (by decide : 2 + 0 ≤ _)⟩)
  dsimp only [Pt.U, Pt.locs, Pt.cells, Pt.slots] at X15 l15 y15 z15 st15 hQ15
  subst y15 z15
  obtain ⟨rfl, N15q, e15⟩ := hQ15
  have N15 : Fr n0 L15 := by rw [l15]; exact Fr.app N12 N15q
  refine stt st15 ?_
  show Go p e below T15 (mkF m 33 #[.val (.ref sx), .val (.ref auth), .val (.ref r1), .val (.int (2 : Int32)), .val (.int (1 : Int32)), .val (.ref impl)] [(.int (if own_im_list = cs then (1 : Int32) else (0 : Int32)))]) _
  refine stp (fun _ => XS.ifYes X15.here hx rfl (pc0 := 33) (pc' := 39) rfl (hb hby d1_33) rfl (XT.i0_eq_t (if_neg h2)) (by decide) (by decide)) ?_
  show Go p e below T15 (mkF m 39 #[.val (.ref sx), .val (.ref auth), .val (.ref r1), .val (.int (2 : Int32)), .val (.int (1 : Int32)), .val (.ref impl)] []) _
  refine stp (fun _ => XS.iinc X15.here hx rfl (hb hby d1_39) rfl (l' := #[.val (.ref sx), .val (.ref auth), .val (.ref r1), .val (.int (2 : Int32)), .val (.int (2 : Int32)), .val (.ref impl)]) rfl) ?_
  show Go p e below T15 (mkF m 42 #[.val (.ref sx), .val (.ref auth), .val (.ref r1), .val (.int (2 : Int32)), .val (.int (2 : Int32)), .val (.ref impl)] []) _
  refine stp (fun _ => XS.goto X15.here hx rfl (pc0 := 42) (pc' := 12) rfl (hb hby d1_42) (by decide) (by decide)) ?_
  show Go p e below T15 (mkF m 12 #[.val (.ref sx), .val (.ref auth), .val (.ref r1), .val (.int (2 : Int32)), .val (.int (2 : Int32)), .val (.ref impl)] []) _
  refine stp (fun _ => XS.iload X15.here hx rfl (hb hby d1_12) rfl) ?_
  show Go p e below T15 (mkF m 14 #[.val (.ref sx), .val (.ref auth), .val (.ref r1), .val (.int (2 : Int32)), .val (.int (2 : Int32)), .val (.ref impl)] [(.int (2 : Int32))]) _
  refine stp (fun _ => XS.iloadN X15.here hx rfl (hb hby d1_14) rfl) ?_
  show Go p e below T15 (mkF m 15 #[.val (.ref sx), .val (.ref auth), .val (.ref r1), .val (.int (2 : Int32)), .val (.int (2 : Int32)), .val (.ref impl)] [(.int (2 : Int32)), (.int (2 : Int32))]) _
  refine stp (fun _ => XS.icmpYes X15.here hx rfl (pc0 := 15) (pc' := 45) rfl (hb hby d1_15) rfl (by decide) (by decide) (by decide)) ?_
  show Go p e below T15 (mkF m 45 #[.val (.ref sx), .val (.ref auth), .val (.ref r1), .val (.int (2 : Int32)), .val (.int (2 : Int32)), .val (.ref impl)] []) _
  refine stp (fun _ => XS.aloadN X15.here hx rfl (hb hby d1_45) rfl rfl) ?_
  show Go p e below T15 (mkF m 46 #[.val (.ref sx), .val (.ref auth), .val (.ref r1), .val (.int (2 : Int32)), .val (.int (2 : Int32)), .val (.ref impl)] [(.ref auth)]) _
  obtain ⟨_, _, ⟨T16, L16, k16, n16⟩, -, X16, ⟨Lc16, hQ16, l16, y16, z16⟩, st16⟩ := Jvm.LawKit.callS X15 hx (y := (⟨"java/util/Optional", "ofNullable", "(Ljava/lang/Object;)Ljava/util/Optional;"⟩ : MethodName)) hown (mvT hZ (hw _ (List.mem_of_getElem? (i := 30) rfl))) (mvT hZ (hw _ (List.mem_of_getElem? (i := 31) rfl))) (mvT hZ (hw _ (List.mem_of_getElem? (i := 32) rfl))) (mvT hZ (hw _ (List.mem_of_getElem? (i := 33) rfl))) (by decide) (backOf (W := 0) (rm_on1 l Z a0 hw [] auth  T1.heap n0 O1 ) hZ (hw _ (List.mem_of_getElem? (i := 33) rfl)) (hw _ (List.mem_of_getElem? (i := 32) rfl)) (by decide) (by decide)) (g := (mkF m 46 #[.val (.ref sx), .val (.ref auth), .val (.ref r1), .val (.int (2 : Int32)), .val (.int (2 : Int32)), .val (.ref impl)] [(.ref auth)])) rfl (by rw [hml]; rfl) (argsL := [(.ref auth)]) (rest := []) (lenOf pd_4 rfl) rfl (by show 2 * 0 + _ ≤ _; exact Nat.le_of_eq rfl) (hb hby d1_46) (fun _ _ => ⟨rfl, e15, (by decide : 1 + 1 ≤ _), (by decide : 2 + 1 ≤ _)⟩)
  dsimp only [Pt.U, Pt.locs, Pt.cells, Pt.slots] at X16 l16 y16 z16 st16 hQ16
  subst y16 z16
  obtain ⟨r16, rfl, N16q, K16q, ⟨ge_r16, sz16_r16⟩, r16_0, r16_1⟩ := hQ16
  have N16 : Fr n0 L16 := by rw [l16]; exact Fr.app N15 N16q
  have ne17 : r1 ≠ r16 := Nat.ne_of_lt (Nat.lt_of_lt_of_le r1_0.lt sz16_r16)
  have ne18 : sx ≠ r16 := Nat.ne_of_lt (Nat.lt_of_lt_of_le f8.lt sz16_r16)
  have ne19 : auth ≠ r16 := O1.ne F_auth_wireName.lt ge_r16
  have ne20 : impl ≠ r16 := O1.ne F_impl_wireName.lt ge_r16
  have ne21 : va ≠ r16 := O1.ne E_va.lt ge_r16
  have ne22 : w1 ≠ r16 := O1.ne Q_w1.lt ge_r16
  have ne23 : w2 ≠ r16 := O1.ne Q_w2.lt ge_r16
  have f24 := f8.keep K16q nin0 apart0
  have f25 := r1_0.keep K16q
  have f26 := r1_1.keep K16q nin0
  have sz_r16 : h0.size ≤ r16 := Nat.le_trans K1.1 sz16_r16
  have K16 : Keep h0 T16.heap [] := K1.trans K16q all0
  have O16 := O1.keep K16q all0
  refine stp st16 ?_
  show Go p e below T16 (mkF m 49 #[.val (.ref sx), .val (.ref auth), .val (.ref r1), .val (.int (2 : Int32)), .val (.int (2 : Int32)), .val (.ref impl)] [(.ref r16)]) _
  refine outA X16 hx hret rfl rfl (hb hby d1_49) hlk (by decide) (by decide) ?_
  exact ⟨r16, rfl, N16, K16, ⟨ge_r16, sz_r16⟩, r16_0, r16_1⟩
theorem ef_rm_fwi (m : MethodId) (sx : Addr)  : entryFrame m #[(.ref sx)] 6 = mkF m 0 #[.val (.ref sx), .unset, .unset, .unset, .unset, .unset] [] := by first | (simp [entryFrame, mkF, argsToLocals, Value.category]; done) | rfl
def Q_rm_fwi (Z : State) (sx : Addr) (auth : Addr) (impl : Addr) (va : Addr) (w1 : Addr) (w2 : Addr) (cs : List Int32) (cz : Int32) (k_va : ClassId) (h0 : Heap) (n0 : Nat) (v : Option Value) (h : Heap) (L : List Loc) : Prop := ∃ (r : Addr), v = some (.ref r) ∧ Fr n0 L ∧ Keep h0 h [] ∧ (n0 ≤ r ∧ h0.size ≤ r) ∧ Exa Z h r "java/util/Optional" ∧ Fld Z h r "java/util/Optional" "value" "Ljava/lang/Object;" (.ref impl)
set_option maxRecDepth 65536 in
set_option maxHeartbeats 40000000 in
theorem rm_fwi (l : Launch) (Z : State) (a0 : Array Value) (hw : ∀ d ∈ tables_1, d.before a0 Z = true) (ws : List Jvm.Cond) (sx : Addr) (auth : Addr) (impl : Addr) (va : Addr) (w1 : Addr) (w2 : Addr) (cs : List Int32) (cz : Int32) (k_va : ClassId) (h0 : Heap) (n0 : Nat) (O0 : Old Z n0 h0) (S__VALUES : Sta Z Z.heap "com/example/uriel/uriel/grant/GrantType" "$VALUES" "[Lcom/example/uriel/uriel/grant/GrantType;" (.ref va)) (E_va : Exa Z Z.heap va "[Lcom/example/uriel/uriel/grant/GrantType;") (V_va : Arv Z Z.heap va k_va (.object "com/example/uriel/uriel/grant/GrantType") (2 : Int32) [(.ref auth), (.ref impl)] .null) (F_auth_wireName : Fld Z Z.heap auth "com/example/uriel/uriel/grant/GrantType" "wireName" "Ljava/lang/String;" (.ref w1)) (F_impl_wireName : Fld Z Z.heap impl "com/example/uriel/uriel/grant/GrantType" "wireName" "Ljava/lang/String;" (.ref w2)) (Q_w1 : StrIs Z Z.heap w1 own_ac_list) (Q_w2 : StrIs Z Z.heap w2 own_im_list) (Q_sx : StrIs Z h0 sx cs) (S_COMPACT_STRINGS : Sta Z Z.heap "java/lang/String" "COMPACT_STRINGS" "Z" (.int cz)) (hcz : ¬ cz = (0 : Int32)) (h1 : ¬ own_ac_list = cs) (h2 : own_im_list = cs) :
    MetFree l (⟨"com/example/uriel/uriel/grant/GrantType", "fromWireName", "(Ljava/lang/String;)Ljava/util/Optional;"⟩ : MethodName) (head1 (Jvm.Cond.code (⟨"com/example/uriel/uriel/grant/GrantType", "fromWireName", "(Ljava/lang/String;)Ljava/util/Optional;"⟩ : MethodName) prog_7_method_5_code 6 (some (.object "java/util/Optional")) :: ws) ({ frames := 3, cells := 2, slots := 3, locals := 38 } : Room)) (fun args_ U => args_ = #[(.ref sx)] ∧ Z.Warmed39 U.vm ∧ U.heap = h0) (fun _ _ _ _ _ => True) (fun _ U out_ U' => ∃ val_ loc_, out_ = .returned val_ ∧ (Q_rm_fwi Z sx auth impl va w1 w2 cs cz k_va h0 n0) val_ U'.heap loc_ ∧ FrameEnd U out_ U' loc_ ({ frames := 3, cells := 2, slots := 3, locals := 38 } : Room).cells ({ frames := 3, cells := 2, slots := 3, locals := 38 } : Room).slots) := by
  refine start (Q := (Q_rm_fwi Z sx auth impl va w1 w2 cs cz k_va h0 n0)) pn_7 ?_
  intro p e s m below meth c T0 X0 hx hby hml hown hnm hret hlk hZ e0
  replace hown : s.vm.findClass "com/example/uriel/uriel/grant/GrantType" = some m.cls := hown
  replace hml : c.maxLocals = 6 := hml
  refine goAt (ef_rm_fwi m sx ) ?_
  have N0 := Fr.nil n0
  show Go p e below T0 (mkF m 0 #[.val (.ref sx), .unset, .unset, .unset, .unset, .unset] []) _
  refine stp (fun _ => XS.aconstNull X0.here hx rfl (hb hby d1_0)) ?_
  show Go p e below T0 (mkF m 1 #[.val (.ref sx), .unset, .unset, .unset, .unset, .unset] [.null]) _
  refine stp (fun _ => XS.astoreN X0.here hx rfl (hb hby d1_1) rfl rfl (l' := #[.val (.ref sx), .val .null, .unset, .unset, .unset, .unset]) rfl) ?_
  show Go p e below T0 (mkF m 2 #[.val (.ref sx), .val .null, .unset, .unset, .unset, .unset] []) _
  obtain ⟨_, _, ⟨T1, L1, k1, n1⟩, -, X1, ⟨Lc1, hQ1, l1, y1, z1⟩, st1⟩ := Jvm.LawKit.callS X0 hx (y := (⟨"com/example/uriel/uriel/grant/GrantType", "values", "()[Lcom/example/uriel/uriel/grant/GrantType;"⟩ : MethodName)) hown (mvT hZ (hw _ (List.mem_of_getElem? (i := 5) rfl))) (mvT hZ (hw _ (List.mem_of_getElem? (i := 6) rfl))) (mvT hZ (hw _ (List.mem_of_getElem? (i := 3) rfl))) (mvT hZ (hw _ (List.mem_of_getElem? (i := 7) rfl))) (by decide) (backOf (W := 0) (rm_values l Z a0 hw []  auth impl va k_va h0 n0 O0 S__VALUES E_va V_va) hZ (hw _ (List.mem_of_getElem? (i := 7) rfl)) (hw _ (List.mem_of_getElem? (i := 3) rfl)) (by decide) (by decide)) (g := (mkF m 2 #[.val (.ref sx), .val .null, .unset, .unset, .unset, .unset] [])) rfl (by rw [hml]; rfl) (argsL := []) (rest := []) (lenOf pd_2 rfl) rfl (by show 2 * 0 + _ ≤ _; exact Nat.le_of_eq rfl) (hb hby d1_2) (fun _ _ => ⟨rfl, e0, (by decide : 0 + 1 ≤ _), (by decide : 0 + 2 ≤ _)⟩)
  dsimp only [Pt.U, Pt.locs, Pt.cells, Pt.slots] at X1 l1 y1 z1 st1 hQ1
  subst y1 z1
  obtain ⟨r1, k_r1, rfl, N1q, K1q, ⟨ge_r1, sz1_r1⟩, r1_0, r1_1⟩ := hQ1
  have N1 : Fr n0 L1 := by rw [l1]; exact Fr.app N0 N1q
  have ne2 : sx ≠ r1 := Nat.ne_of_lt (Nat.lt_of_lt_of_le Q_sx.lt sz1_r1)
  have ne3 : auth ≠ r1 := O0.ne F_auth_wireName.lt ge_r1
  have ne4 : impl ≠ r1 := O0.ne F_impl_wireName.lt ge_r1
  have ne5 : va ≠ r1 := O0.ne E_va.lt ge_r1
  have ne6 : w1 ≠ r1 := O0.ne Q_w1.lt ge_r1
  have ne7 : w2 ≠ r1 := O0.ne Q_w2.lt ge_r1
  have f8 := Q_sx.keep K1q nin0 apart0
  have sz_r1 : h0.size ≤ r1 := Nat.le_trans (Keep.refl h0 []).1 sz1_r1
  have K1 : Keep h0 T1.heap [] := (Keep.refl h0 []).trans K1q all0
  have O1 := O0.keep K1q all0
  refine stp st1 ?_
  show Go p e below T1 (mkF m 5 #[.val (.ref sx), .val .null, .unset, .unset, .unset, .unset] [(.ref r1)]) _
  refine stp (fun _ => XS.astoreN X1.here hx rfl (hb hby d1_5) rfl rfl (l' := #[.val (.ref sx), .val .null, .val (.ref r1), .unset, .unset, .unset]) rfl) ?_
  show Go p e below T1 (mkF m 6 #[.val (.ref sx), .val .null, .val (.ref r1), .unset, .unset, .unset] []) _
  refine stp (fun _ => XS.aloadN X1.here hx rfl (hb hby d1_6) rfl rfl) ?_
  show Go p e below T1 (mkF m 7 #[.val (.ref sx), .val .null, .val (.ref r1), .unset, .unset, .unset] [(.ref r1)]) _
  obtain ⟨cl9, Ar9, -, S9, M9, -, -⟩ := (id r1_1)
  refine stp (fun _ => X1.arraylength hx Ar9.1 (State.isArrayOf_alike hZ.alike Ar9.2.1) (g := (mkF m 7 #[.val (.ref sx), .val .null, .val (.ref r1), .unset, .unset, .unset] [(.ref r1)])) rfl rfl (hb hby d1_7) _) ?_
  rw [len_of S9 M9]
  show Go p e below T1 (mkF m 8 #[.val (.ref sx), .val .null, .val (.ref r1), .unset, .unset, .unset] [(.int (2 : Int32))]) _
  refine stp (fun _ => XS.istoreN X1.here hx rfl (hb hby d1_8) rfl (l' := #[.val (.ref sx), .val .null, .val (.ref r1), .val (.int (2 : Int32)), .unset, .unset]) rfl) ?_
  show Go p e below T1 (mkF m 9 #[.val (.ref sx), .val .null, .val (.ref r1), .val (.int (2 : Int32)), .unset, .unset] []) _
  refine stp (fun _ => XS.iconst X1.here hx rfl (hb hby d1_9)) ?_
  show Go p e below T1 (mkF m 10 #[.val (.ref sx), .val .null, .val (.ref r1), .val (.int (2 : Int32)), .unset, .unset] [(.int (0 : Int32))]) _
  refine stp (fun _ => XS.istore X1.here hx rfl (hb hby d1_10) rfl (l' := #[.val (.ref sx), .val .null, .val (.ref r1), .val (.int (2 : Int32)), .val (.int (0 : Int32)), .unset]) rfl) ?_
  show Go p e below T1 (mkF m 12 #[.val (.ref sx), .val .null, .val (.ref r1), .val (.int (2 : Int32)), .val (.int (0 : Int32)), .unset] []) _
  refine stp (fun _ => XS.iload X1.here hx rfl (hb hby d1_12) rfl) ?_
  show Go p e below T1 (mkF m 14 #[.val (.ref sx), .val .null, .val (.ref r1), .val (.int (2 : Int32)), .val (.int (0 : Int32)), .unset] [(.int (0 : Int32))]) _
  refine stp (fun _ => XS.iloadN X1.here hx rfl (hb hby d1_14) rfl) ?_
  show Go p e below T1 (mkF m 15 #[.val (.ref sx), .val .null, .val (.ref r1), .val (.int (2 : Int32)), .val (.int (0 : Int32)), .unset] [(.int (2 : Int32)), (.int (0 : Int32))]) _
  refine stp (fun _ => XS.icmpNo X1.here hx rfl (hb hby d1_15) rfl (by decide)) ?_
  show Go p e below T1 (mkF m 18 #[.val (.ref sx), .val .null, .val (.ref r1), .val (.int (2 : Int32)), .val (.int (0 : Int32)), .unset] []) _
  refine stp (fun _ => XS.aloadN X1.here hx rfl (hb hby d1_18) rfl rfl) ?_
  show Go p e below T1 (mkF m 19 #[.val (.ref sx), .val .null, .val (.ref r1), .val (.int (2 : Int32)), .val (.int (0 : Int32)), .unset] [(.ref r1)]) _
  refine stp (fun _ => XS.iload X1.here hx rfl (hb hby d1_19) rfl) ?_
  show Go p e below T1 (mkF m 21 #[.val (.ref sx), .val .null, .val (.ref r1), .val (.int (2 : Int32)), .val (.int (0 : Int32)), .unset] [(.int (0 : Int32)), (.ref r1)]) _
  obtain ⟨cl10, Ar10, q10, S10, M10, H10, G10⟩ := (id r1_1)
  have in10 : ¬ ((0 : Int32) < 0 ∨ cl10.slots.size ≤ ((0 : Int32)).toNatClampNeg) := inb_of S10 ⟨by decide, by decide⟩
  have at10 : cl10.slots[((0 : Int32)).toNatClampNeg]? = some (.ref auth) := H10.at in10 rfl
  refine stp (fun _ => X1.aaload hx (j := (0 : Int32)) (v := (.ref auth)) Ar10.1 (State.isArrayOf_alike hZ.alike Ar10.2.1) rfl Ar10.2.2 in10 at10 (g := (mkF m 21 #[.val (.ref sx), .val .null, .val (.ref r1), .val (.int (2 : Int32)), .val (.int (0 : Int32)), .unset] [(.int (0 : Int32)), (.ref r1)])) rfl rfl (hb hby d1_21) _) ?_
  show Go p e below T1 (mkF m 22 #[.val (.ref sx), .val .null, .val (.ref r1), .val (.int (2 : Int32)), .val (.int (0 : Int32)), .unset] [(.ref auth)]) _
  refine stp (fun _ => XS.astore X1.here hx rfl (hb hby d1_22) rfl rfl (l' := #[.val (.ref sx), .val .null, .val (.ref r1), .val (.int (2 : Int32)), .val (.int (0 : Int32)), .val (.ref auth)]) rfl) ?_
  show Go p e below T1 (mkF m 24 #[.val (.ref sx), .val .null, .val (.ref r1), .val (.int (2 : Int32)), .val (.int (0 : Int32)), .val (.ref auth)] []) _
  refine stp (fun _ => XS.aload X1.here hx rfl (hb hby d1_24) rfl rfl) ?_
  show Go p e below T1 (mkF m 26 #[.val (.ref sx), .val .null, .val (.ref r1), .val (.int (2 : Int32)), .val (.int (0 : Int32)), .val (.ref auth)] [(.ref auth)]) _
  obtain ⟨T11, X11, e11, st11⟩ := getF X1 hx hZ hown (host := "") (Or.inl (hw _ (List.mem_of_getElem? (i := 22) rfl))) Via.refl rfl (F_auth_wireName.ext O1.2) (g := (mkF m 26 #[.val (.ref sx), .val .null, .val (.ref r1), .val (.int (2 : Int32)), .val (.int (0 : Int32)), .val (.ref auth)] [(.ref auth)])) rfl rfl (hb hby d1_26)
  refine stp st11 ?_
  show Go p e below T11 (mkF m 29 #[.val (.ref sx), .val .null, .val (.ref r1), .val (.int (2 : Int32)), .val (.int (0 : Int32)), .val (.ref auth)] [(.ref w1)]) _
  refine stp (fun _ => XS.aloadN X11.here hx rfl (hb hby d1_29) rfl rfl) ?_
  show Go p e below T11 (mkF m 30 #[.val (.ref sx), .val .null, .val (.ref r1), .val (.int (2 : Int32)), .val (.int (0 : Int32)), .val (.ref auth)] [(.ref sx), (.ref w1)]) _
  obtain ⟨cq12, kq12, q12a, q12b, q12c⟩ := isOf hZ e11 (Q_w1.exa.ext O1.2)
  obtain ⟨_, _, ⟨T12, L12, k12, n12⟩, -, X12, ⟨Lc12, hQ12, l12, y12, z12⟩, st12⟩ := X11.virtualBack hx (y := (⟨"java/lang/String", "equals", "(Ljava/lang/Object;)Z"⟩ : MethodName)) (z := (⟨"java/lang/String", "equals", "(Ljava/lang/Object;)Z"⟩ : MethodName)) hown (mvT hZ (hw _ (List.mem_of_getElem? (i := 24) rfl))) (mvT hZ (hw _ (List.mem_of_getElem? (i := 25) rfl))) (notFace_of_selects (args := #[]) (mvT hZ (hw _ (List.mem_of_getElem? (i := 27) rfl)))) (mvT hZ (hw _ (List.mem_of_getElem? (i := 27) rfl))) (mvT hZ (hw _ (List.mem_of_getElem? (i := 26) rfl))) (by decide) (own_eqB (W := 0) hw hZ (Q_w1.ext O1.2) f8 (S_COMPACT_STRINGS.ext O1.2) hcz (n0 := n0) (by decide) (by decide)) q12a q12c (g := (mkF m 30 #[.val (.ref sx), .val .null, .val (.ref r1), .val (.int (2 : Int32)), .val (.int (0 : Int32)), .val (.ref auth)] [(.ref sx), (.ref w1)])) rfl (by rw [hml]; rfl) (Steps.refl _) (argsL := [(.ref sx)]) (rest := []) (lenOf pd_3 rfl) rfl (by show 2 * 0 + _ ≤ _; exact Nat.le_of_eq rfl) (hb hby d1_30) (fun _ _ => ⟨rfl, e11, (by decide : 1 + 0 ≤ _), (by decide : 2 + 0 ≤ _)⟩)
  dsimp only [Pt.U, Pt.locs, Pt.cells, Pt.slots] at X12 l12 y12 z12 st12 hQ12
  subst y12 z12
  obtain ⟨rfl, N12q, e12⟩ := hQ12
  have N12 : Fr n0 L12 := by rw [l12]; exact Fr.app N1 N12q
  refine stt st12 ?_
  show Go p e below T12 (mkF m 33 #[.val (.ref sx), .val .null, .val (.ref r1), .val (.int (2 : Int32)), .val (.int (0 : Int32)), .val (.ref auth)] [(.int (if own_ac_list = cs then (1 : Int32) else (0 : Int32)))]) _
  refine stp (fun _ => XS.ifYes X12.here hx rfl (pc0 := 33) (pc' := 39) rfl (hb hby d1_33) rfl (XT.i0_eq_t (if_neg h1)) (by decide) (by decide)) ?_
  show Go p e below T12 (mkF m 39 #[.val (.ref sx), .val .null, .val (.ref r1), .val (.int (2 : Int32)), .val (.int (0 : Int32)), .val (.ref auth)] []) _
  refine stp (fun _ => XS.iinc X12.here hx rfl (hb hby d1_39) rfl (l' := #[.val (.ref sx), .val .null, .val (.ref r1), .val (.int (2 : Int32)), .val (.int (1 : Int32)), .val (.ref auth)]) rfl) ?_
  show Go p e below T12 (mkF m 42 #[.val (.ref sx), .val .null, .val (.ref r1), .val (.int (2 : Int32)), .val (.int (1 : Int32)), .val (.ref auth)] []) _
  refine stp (fun _ => XS.goto X12.here hx rfl (pc0 := 42) (pc' := 12) rfl (hb hby d1_42) (by decide) (by decide)) ?_
  show Go p e below T12 (mkF m 12 #[.val (.ref sx), .val .null, .val (.ref r1), .val (.int (2 : Int32)), .val (.int (1 : Int32)), .val (.ref auth)] []) _
  refine stp (fun _ => XS.iload X12.here hx rfl (hb hby d1_12) rfl) ?_
  show Go p e below T12 (mkF m 14 #[.val (.ref sx), .val .null, .val (.ref r1), .val (.int (2 : Int32)), .val (.int (1 : Int32)), .val (.ref auth)] [(.int (1 : Int32))]) _
  refine stp (fun _ => XS.iloadN X12.here hx rfl (hb hby d1_14) rfl) ?_
  show Go p e below T12 (mkF m 15 #[.val (.ref sx), .val .null, .val (.ref r1), .val (.int (2 : Int32)), .val (.int (1 : Int32)), .val (.ref auth)] [(.int (2 : Int32)), (.int (1 : Int32))]) _
  refine stp (fun _ => XS.icmpNo X12.here hx rfl (hb hby d1_15) rfl (by decide)) ?_
  show Go p e below T12 (mkF m 18 #[.val (.ref sx), .val .null, .val (.ref r1), .val (.int (2 : Int32)), .val (.int (1 : Int32)), .val (.ref auth)] []) _
  refine stp (fun _ => XS.aloadN X12.here hx rfl (hb hby d1_18) rfl rfl) ?_
  show Go p e below T12 (mkF m 19 #[.val (.ref sx), .val .null, .val (.ref r1), .val (.int (2 : Int32)), .val (.int (1 : Int32)), .val (.ref auth)] [(.ref r1)]) _
  refine stp (fun _ => XS.iload X12.here hx rfl (hb hby d1_19) rfl) ?_
  show Go p e below T12 (mkF m 21 #[.val (.ref sx), .val .null, .val (.ref r1), .val (.int (2 : Int32)), .val (.int (1 : Int32)), .val (.ref auth)] [(.int (1 : Int32)), (.ref r1)]) _
  obtain ⟨cl13, Ar13, q13, S13, M13, H13, G13⟩ := (id r1_1)
  have in13 : ¬ ((1 : Int32) < 0 ∨ cl13.slots.size ≤ ((1 : Int32)).toNatClampNeg) := inb_of S13 ⟨by decide, by decide⟩
  have at13 : cl13.slots[((1 : Int32)).toNatClampNeg]? = some (.ref impl) := H13.at in13 rfl
  refine stp (fun _ => X12.aaload hx (j := (1 : Int32)) (v := (.ref impl)) (by rw [e12]; exact Ar13.1) (State.isArrayOf_alike hZ.alike Ar13.2.1) rfl Ar13.2.2 in13 at13 (g := (mkF m 21 #[.val (.ref sx), .val .null, .val (.ref r1), .val (.int (2 : Int32)), .val (.int (1 : Int32)), .val (.ref auth)] [(.int (1 : Int32)), (.ref r1)])) rfl rfl (hb hby d1_21) _) ?_
  show Go p e below T12 (mkF m 22 #[.val (.ref sx), .val .null, .val (.ref r1), .val (.int (2 : Int32)), .val (.int (1 : Int32)), .val (.ref auth)] [(.ref impl)]) _
  refine stp (fun _ => XS.astore X12.here hx rfl (hb hby d1_22) rfl rfl (l' := #[.val (.ref sx), .val .null, .val (.ref r1), .val (.int (2 : Int32)), .val (.int (1 : Int32)), .val (.ref impl)]) rfl) ?_
  show Go p e below T12 (mkF m 24 #[.val (.ref sx), .val .null, .val (.ref r1), .val (.int (2 : Int32)), .val (.int (1 : Int32)), .val (.ref impl)] []) _
  refine stp (fun _ => XS.aload X12.here hx rfl (hb hby d1_24) rfl rfl) ?_
  show Go p e below T12 (mkF m 26 #[.val (.ref sx), .val .null, .val (.ref r1), .val (.int (2 : Int32)), .val (.int (1 : Int32)), .val (.ref impl)] [(.ref impl)]) _
  obtain ⟨T14, X14, e14, st14⟩ := getF X12 hx hZ hown (host := "") (Or.inl (hw _ (List.mem_of_getElem? (i := 22) rfl))) Via.refl e12 (F_impl_wireName.ext O1.2) (g := (mkF m 26 #[.val (.ref sx), .val .null, .val (.ref r1), .val (.int (2 : Int32)), .val (.int (1 : Int32)), .val (.ref impl)] [(.ref impl)])) rfl rfl (hb hby d1_26)
  refine stp st14 ?_
  show Go p e below T14 (mkF m 29 #[.val (.ref sx), .val .null, .val (.ref r1), .val (.int (2 : Int32)), .val (.int (1 : Int32)), .val (.ref impl)] [(.ref w2)]) _
  refine stp (fun _ => XS.aloadN X14.here hx rfl (hb hby d1_29) rfl rfl) ?_
  show Go p e below T14 (mkF m 30 #[.val (.ref sx), .val .null, .val (.ref r1), .val (.int (2 : Int32)), .val (.int (1 : Int32)), .val (.ref impl)] [(.ref sx), (.ref w2)]) _
  obtain ⟨cq15, kq15, q15a, q15b, q15c⟩ := isOf hZ e14 (Q_w2.exa.ext O1.2)
  obtain ⟨_, _, ⟨T15, L15, k15, n15⟩, -, X15, ⟨Lc15, hQ15, l15, y15, z15⟩, st15⟩ := X14.virtualBack hx (y := (⟨"java/lang/String", "equals", "(Ljava/lang/Object;)Z"⟩ : MethodName)) (z := (⟨"java/lang/String", "equals", "(Ljava/lang/Object;)Z"⟩ : MethodName)) hown (mvT hZ (hw _ (List.mem_of_getElem? (i := 24) rfl))) (mvT hZ (hw _ (List.mem_of_getElem? (i := 25) rfl))) (notFace_of_selects (args := #[]) (mvT hZ (hw _ (List.mem_of_getElem? (i := 27) rfl)))) (mvT hZ (hw _ (List.mem_of_getElem? (i := 27) rfl))) (mvT hZ (hw _ (List.mem_of_getElem? (i := 26) rfl))) (by decide) (own_eqB (W := 0) hw hZ (Q_w2.ext O1.2) f8 (S_COMPACT_STRINGS.ext O1.2) hcz (n0 := n0) (by decide) (by decide)) q15a q15c (g := (mkF m 30 #[.val (.ref sx), .val .null, .val (.ref r1), .val (.int (2 : Int32)), .val (.int (1 : Int32)), .val (.ref impl)] [(.ref sx), (.ref w2)])) rfl (by rw [hml]; rfl) (Steps.refl _) (argsL := [(.ref sx)]) (rest := []) (lenOf pd_3 rfl) rfl (by show 2 * 0 + _ ≤ _; exact Nat.le_of_eq rfl) (hb hby d1_30) (fun _ _ => ⟨rfl, e14, (by decide : 1 + 0 ≤ _), (by decide : 2 + 0 ≤ _)⟩)
  dsimp only [Pt.U, Pt.locs, Pt.cells, Pt.slots] at X15 l15 y15 z15 st15 hQ15
  subst y15 z15
  obtain ⟨rfl, N15q, e15⟩ := hQ15
  have N15 : Fr n0 L15 := by rw [l15]; exact Fr.app N12 N15q
  refine stt st15 ?_
  show Go p e below T15 (mkF m 33 #[.val (.ref sx), .val .null, .val (.ref r1), .val (.int (2 : Int32)), .val (.int (1 : Int32)), .val (.ref impl)] [(.int (if own_im_list = cs then (1 : Int32) else (0 : Int32)))]) _
  refine stp (fun _ => XS.ifNo X15.here hx rfl (hb hby d1_33) rfl (XT.i0_eq_f (by rw [if_pos h2]; decide))) ?_
  show Go p e below T15 (mkF m 36 #[.val (.ref sx), .val .null, .val (.ref r1), .val (.int (2 : Int32)), .val (.int (1 : Int32)), .val (.ref impl)] []) _
  refine stp (fun _ => XS.aload X15.here hx rfl (hb hby d1_36) rfl rfl) ?_
  show Go p e below T15 (mkF m 38 #[.val (.ref sx), .val .null, .val (.ref r1), .val (.int (2 : Int32)), .val (.int (1 : Int32)), .val (.ref impl)] [(.ref impl)]) _
  refine stp (fun _ => XS.astoreN X15.here hx rfl (hb hby d1_38) rfl rfl (l' := #[.val (.ref sx), .val (.ref impl), .val (.ref r1), .val (.int (2 : Int32)), .val (.int (1 : Int32)), .val (.ref impl)]) rfl) ?_
  show Go p e below T15 (mkF m 39 #[.val (.ref sx), .val (.ref impl), .val (.ref r1), .val (.int (2 : Int32)), .val (.int (1 : Int32)), .val (.ref impl)] []) _
  refine stp (fun _ => XS.iinc X15.here hx rfl (hb hby d1_39) rfl (l' := #[.val (.ref sx), .val (.ref impl), .val (.ref r1), .val (.int (2 : Int32)), .val (.int (2 : Int32)), .val (.ref impl)]) rfl) ?_
  show Go p e below T15 (mkF m 42 #[.val (.ref sx), .val (.ref impl), .val (.ref r1), .val (.int (2 : Int32)), .val (.int (2 : Int32)), .val (.ref impl)] []) _
  refine stp (fun _ => XS.goto X15.here hx rfl (pc0 := 42) (pc' := 12) rfl (hb hby d1_42) (by decide) (by decide)) ?_
  show Go p e below T15 (mkF m 12 #[.val (.ref sx), .val (.ref impl), .val (.ref r1), .val (.int (2 : Int32)), .val (.int (2 : Int32)), .val (.ref impl)] []) _
  refine stp (fun _ => XS.iload X15.here hx rfl (hb hby d1_12) rfl) ?_
  show Go p e below T15 (mkF m 14 #[.val (.ref sx), .val (.ref impl), .val (.ref r1), .val (.int (2 : Int32)), .val (.int (2 : Int32)), .val (.ref impl)] [(.int (2 : Int32))]) _
  refine stp (fun _ => XS.iloadN X15.here hx rfl (hb hby d1_14) rfl) ?_
  show Go p e below T15 (mkF m 15 #[.val (.ref sx), .val (.ref impl), .val (.ref r1), .val (.int (2 : Int32)), .val (.int (2 : Int32)), .val (.ref impl)] [(.int (2 : Int32)), (.int (2 : Int32))]) _
  refine stp (fun _ => XS.icmpYes X15.here hx rfl (pc0 := 15) (pc' := 45) rfl (hb hby d1_15) rfl (by decide) (by decide) (by decide)) ?_
  show Go p e below T15 (mkF m 45 #[.val (.ref sx), .val (.ref impl), .val (.ref r1), .val (.int (2 : Int32)), .val (.int (2 : Int32)), .val (.ref impl)] []) _
  refine stp (fun _ => XS.aloadN X15.here hx rfl (hb hby d1_45) rfl rfl) ?_
  show Go p e below T15 (mkF m 46 #[.val (.ref sx), .val (.ref impl), .val (.ref r1), .val (.int (2 : Int32)), .val (.int (2 : Int32)), .val (.ref impl)] [(.ref impl)]) _
  obtain ⟨_, _, ⟨T16, L16, k16, n16⟩, -, X16, ⟨Lc16, hQ16, l16, y16, z16⟩, st16⟩ := Jvm.LawKit.callS X15 hx (y := (⟨"java/util/Optional", "ofNullable", "(Ljava/lang/Object;)Ljava/util/Optional;"⟩ : MethodName)) hown (mvT hZ (hw _ (List.mem_of_getElem? (i := 30) rfl))) (mvT hZ (hw _ (List.mem_of_getElem? (i := 31) rfl))) (mvT hZ (hw _ (List.mem_of_getElem? (i := 32) rfl))) (mvT hZ (hw _ (List.mem_of_getElem? (i := 33) rfl))) (by decide) (backOf (W := 0) (rm_on1 l Z a0 hw [] impl  T1.heap n0 O1 ) hZ (hw _ (List.mem_of_getElem? (i := 33) rfl)) (hw _ (List.mem_of_getElem? (i := 32) rfl)) (by decide) (by decide)) (g := (mkF m 46 #[.val (.ref sx), .val (.ref impl), .val (.ref r1), .val (.int (2 : Int32)), .val (.int (2 : Int32)), .val (.ref impl)] [(.ref impl)])) rfl (by rw [hml]; rfl) (argsL := [(.ref impl)]) (rest := []) (lenOf pd_4 rfl) rfl (by show 2 * 0 + _ ≤ _; exact Nat.le_of_eq rfl) (hb hby d1_46) (fun _ _ => ⟨rfl, e15, (by decide : 1 + 1 ≤ _), (by decide : 2 + 1 ≤ _)⟩)
  dsimp only [Pt.U, Pt.locs, Pt.cells, Pt.slots] at X16 l16 y16 z16 st16 hQ16
  subst y16 z16
  obtain ⟨r16, rfl, N16q, K16q, ⟨ge_r16, sz16_r16⟩, r16_0, r16_1⟩ := hQ16
  have N16 : Fr n0 L16 := by rw [l16]; exact Fr.app N15 N16q
  have ne17 : r1 ≠ r16 := Nat.ne_of_lt (Nat.lt_of_lt_of_le r1_0.lt sz16_r16)
  have ne18 : sx ≠ r16 := Nat.ne_of_lt (Nat.lt_of_lt_of_le f8.lt sz16_r16)
  have ne19 : auth ≠ r16 := O1.ne F_auth_wireName.lt ge_r16
  have ne20 : impl ≠ r16 := O1.ne F_impl_wireName.lt ge_r16
  have ne21 : va ≠ r16 := O1.ne E_va.lt ge_r16
  have ne22 : w1 ≠ r16 := O1.ne Q_w1.lt ge_r16
  have ne23 : w2 ≠ r16 := O1.ne Q_w2.lt ge_r16
  have f24 := f8.keep K16q nin0 apart0
  have f25 := r1_0.keep K16q
  have f26 := r1_1.keep K16q nin0
  have sz_r16 : h0.size ≤ r16 := Nat.le_trans K1.1 sz16_r16
  have K16 : Keep h0 T16.heap [] := K1.trans K16q all0
  have O16 := O1.keep K16q all0
  refine stp st16 ?_
  show Go p e below T16 (mkF m 49 #[.val (.ref sx), .val (.ref impl), .val (.ref r1), .val (.int (2 : Int32)), .val (.int (2 : Int32)), .val (.ref impl)] [(.ref r16)]) _
  refine outA X16 hx hret rfl rfl (hb hby d1_49) hlk (by decide) (by decide) ?_
  exact ⟨r16, rfl, N16, K16, ⟨ge_r16, sz_r16⟩, r16_0, r16_1⟩
theorem ef_rm_fw0 (m : MethodId)   : entryFrame m #[.null] 6 = mkF m 0 #[.val .null, .unset, .unset, .unset, .unset, .unset] [] := by first | (simp [entryFrame, mkF, argsToLocals, Value.category]; done) | rfl
def Q_rm_fw0 (Z : State)  (auth : Addr) (impl : Addr) (va : Addr) (w1 : Addr) (w2 : Addr) (empty_ : Addr) (k_va : ClassId) (h0 : Heap) (n0 : Nat) (v : Option Value) (h : Heap) (L : List Loc) : Prop := v = some (.ref empty_) ∧ Fr n0 L ∧ Keep h0 h []
set_option maxRecDepth 65536 in
set_option maxHeartbeats 40000000 in
theorem rm_fw0 (l : Launch) (Z : State) (a0 : Array Value) (hw : ∀ d ∈ tables_1, d.before a0 Z = true) (ws : List Jvm.Cond)  (auth : Addr) (impl : Addr) (va : Addr) (w1 : Addr) (w2 : Addr) (empty_ : Addr) (k_va : ClassId) (h0 : Heap) (n0 : Nat) (O0 : Old Z n0 h0) (S__VALUES : Sta Z Z.heap "com/example/uriel/uriel/grant/GrantType" "$VALUES" "[Lcom/example/uriel/uriel/grant/GrantType;" (.ref va)) (E_va : Exa Z Z.heap va "[Lcom/example/uriel/uriel/grant/GrantType;") (V_va : Arv Z Z.heap va k_va (.object "com/example/uriel/uriel/grant/GrantType") (2 : Int32) [(.ref auth), (.ref impl)] .null) (F_auth_wireName : Fld Z Z.heap auth "com/example/uriel/uriel/grant/GrantType" "wireName" "Ljava/lang/String;" (.ref w1)) (F_impl_wireName : Fld Z Z.heap impl "com/example/uriel/uriel/grant/GrantType" "wireName" "Ljava/lang/String;" (.ref w2)) (Q_w1 : StrIs Z Z.heap w1 own_ac_list) (Q_w2 : StrIs Z Z.heap w2 own_im_list) (S_EMPTY : Sta Z Z.heap "java/util/Optional" "EMPTY" "Ljava/util/Optional;" (.ref empty_)) :
    MetFree l (⟨"com/example/uriel/uriel/grant/GrantType", "fromWireName", "(Ljava/lang/String;)Ljava/util/Optional;"⟩ : MethodName) (head1 (Jvm.Cond.code (⟨"com/example/uriel/uriel/grant/GrantType", "fromWireName", "(Ljava/lang/String;)Ljava/util/Optional;"⟩ : MethodName) prog_7_method_5_code 6 (some (.object "java/util/Optional")) :: ws) ({ frames := 2, cells := 1, slots := 2, locals := 25 } : Room)) (fun args_ U => args_ = #[.null] ∧ Z.Warmed39 U.vm ∧ U.heap = h0) (fun _ _ _ _ _ => True) (fun _ U out_ U' => ∃ val_ loc_, out_ = .returned val_ ∧ (Q_rm_fw0 Z auth impl va w1 w2 empty_ k_va h0 n0) val_ U'.heap loc_ ∧ FrameEnd U out_ U' loc_ ({ frames := 2, cells := 1, slots := 2, locals := 25 } : Room).cells ({ frames := 2, cells := 1, slots := 2, locals := 25 } : Room).slots) := by
  refine start (Q := (Q_rm_fw0 Z auth impl va w1 w2 empty_ k_va h0 n0)) pn_7 ?_
  intro p e s m below meth c T0 X0 hx hby hml hown hnm hret hlk hZ e0
  replace hown : s.vm.findClass "com/example/uriel/uriel/grant/GrantType" = some m.cls := hown
  replace hml : c.maxLocals = 6 := hml
  refine goAt (ef_rm_fw0 m  ) ?_
  have N0 := Fr.nil n0
  show Go p e below T0 (mkF m 0 #[.val .null, .unset, .unset, .unset, .unset, .unset] []) _
  refine stp (fun _ => XS.aconstNull X0.here hx rfl (hb hby d1_0)) ?_
  show Go p e below T0 (mkF m 1 #[.val .null, .unset, .unset, .unset, .unset, .unset] [.null]) _
  refine stp (fun _ => XS.astoreN X0.here hx rfl (hb hby d1_1) rfl rfl (l' := #[.val .null, .val .null, .unset, .unset, .unset, .unset]) rfl) ?_
  show Go p e below T0 (mkF m 2 #[.val .null, .val .null, .unset, .unset, .unset, .unset] []) _
  obtain ⟨_, _, ⟨T1, L1, k1, n1⟩, -, X1, ⟨Lc1, hQ1, l1, y1, z1⟩, st1⟩ := Jvm.LawKit.callS X0 hx (y := (⟨"com/example/uriel/uriel/grant/GrantType", "values", "()[Lcom/example/uriel/uriel/grant/GrantType;"⟩ : MethodName)) hown (mvT hZ (hw _ (List.mem_of_getElem? (i := 5) rfl))) (mvT hZ (hw _ (List.mem_of_getElem? (i := 6) rfl))) (mvT hZ (hw _ (List.mem_of_getElem? (i := 3) rfl))) (mvT hZ (hw _ (List.mem_of_getElem? (i := 7) rfl))) (by decide) (backOf (W := 0) (rm_values l Z a0 hw []  auth impl va k_va h0 n0 O0 S__VALUES E_va V_va) hZ (hw _ (List.mem_of_getElem? (i := 7) rfl)) (hw _ (List.mem_of_getElem? (i := 3) rfl)) (by decide) (by decide)) (g := (mkF m 2 #[.val .null, .val .null, .unset, .unset, .unset, .unset] [])) rfl (by rw [hml]; rfl) (argsL := []) (rest := []) (lenOf pd_2 rfl) rfl (by show 2 * 0 + _ ≤ _; exact Nat.le_of_eq rfl) (hb hby d1_2) (fun _ _ => ⟨rfl, e0, (by decide : 0 + 1 ≤ _), (by decide : 0 + 2 ≤ _)⟩)
  dsimp only [Pt.U, Pt.locs, Pt.cells, Pt.slots] at X1 l1 y1 z1 st1 hQ1
  subst y1 z1
  obtain ⟨r1, k_r1, rfl, N1q, K1q, ⟨ge_r1, sz1_r1⟩, r1_0, r1_1⟩ := hQ1
  have N1 : Fr n0 L1 := by rw [l1]; exact Fr.app N0 N1q
  have ne2 : auth ≠ r1 := O0.ne F_auth_wireName.lt ge_r1
  have ne3 : impl ≠ r1 := O0.ne F_impl_wireName.lt ge_r1
  have ne4 : va ≠ r1 := O0.ne E_va.lt ge_r1
  have ne5 : w1 ≠ r1 := O0.ne Q_w1.lt ge_r1
  have ne6 : w2 ≠ r1 := O0.ne Q_w2.lt ge_r1
  have sz_r1 : h0.size ≤ r1 := Nat.le_trans (Keep.refl h0 []).1 sz1_r1
  have K1 : Keep h0 T1.heap [] := (Keep.refl h0 []).trans K1q all0
  have O1 := O0.keep K1q all0
  refine stp st1 ?_
  show Go p e below T1 (mkF m 5 #[.val .null, .val .null, .unset, .unset, .unset, .unset] [(.ref r1)]) _
  refine stp (fun _ => XS.astoreN X1.here hx rfl (hb hby d1_5) rfl rfl (l' := #[.val .null, .val .null, .val (.ref r1), .unset, .unset, .unset]) rfl) ?_
  show Go p e below T1 (mkF m 6 #[.val .null, .val .null, .val (.ref r1), .unset, .unset, .unset] []) _
  refine stp (fun _ => XS.aloadN X1.here hx rfl (hb hby d1_6) rfl rfl) ?_
  show Go p e below T1 (mkF m 7 #[.val .null, .val .null, .val (.ref r1), .unset, .unset, .unset] [(.ref r1)]) _
  obtain ⟨cl7, Ar7, -, S7, M7, -, -⟩ := (id r1_1)
  refine stp (fun _ => X1.arraylength hx Ar7.1 (State.isArrayOf_alike hZ.alike Ar7.2.1) (g := (mkF m 7 #[.val .null, .val .null, .val (.ref r1), .unset, .unset, .unset] [(.ref r1)])) rfl rfl (hb hby d1_7) _) ?_
  rw [len_of S7 M7]
  show Go p e below T1 (mkF m 8 #[.val .null, .val .null, .val (.ref r1), .unset, .unset, .unset] [(.int (2 : Int32))]) _
  refine stp (fun _ => XS.istoreN X1.here hx rfl (hb hby d1_8) rfl (l' := #[.val .null, .val .null, .val (.ref r1), .val (.int (2 : Int32)), .unset, .unset]) rfl) ?_
  show Go p e below T1 (mkF m 9 #[.val .null, .val .null, .val (.ref r1), .val (.int (2 : Int32)), .unset, .unset] []) _
  refine stp (fun _ => XS.iconst X1.here hx rfl (hb hby d1_9)) ?_
  show Go p e below T1 (mkF m 10 #[.val .null, .val .null, .val (.ref r1), .val (.int (2 : Int32)), .unset, .unset] [(.int (0 : Int32))]) _
  refine stp (fun _ => XS.istore X1.here hx rfl (hb hby d1_10) rfl (l' := #[.val .null, .val .null, .val (.ref r1), .val (.int (2 : Int32)), .val (.int (0 : Int32)), .unset]) rfl) ?_
  show Go p e below T1 (mkF m 12 #[.val .null, .val .null, .val (.ref r1), .val (.int (2 : Int32)), .val (.int (0 : Int32)), .unset] []) _
  refine stp (fun _ => XS.iload X1.here hx rfl (hb hby d1_12) rfl) ?_
  show Go p e below T1 (mkF m 14 #[.val .null, .val .null, .val (.ref r1), .val (.int (2 : Int32)), .val (.int (0 : Int32)), .unset] [(.int (0 : Int32))]) _
  refine stp (fun _ => XS.iloadN X1.here hx rfl (hb hby d1_14) rfl) ?_
  show Go p e below T1 (mkF m 15 #[.val .null, .val .null, .val (.ref r1), .val (.int (2 : Int32)), .val (.int (0 : Int32)), .unset] [(.int (2 : Int32)), (.int (0 : Int32))]) _
  refine stp (fun _ => XS.icmpNo X1.here hx rfl (hb hby d1_15) rfl (by decide)) ?_
  show Go p e below T1 (mkF m 18 #[.val .null, .val .null, .val (.ref r1), .val (.int (2 : Int32)), .val (.int (0 : Int32)), .unset] []) _
  refine stp (fun _ => XS.aloadN X1.here hx rfl (hb hby d1_18) rfl rfl) ?_
  show Go p e below T1 (mkF m 19 #[.val .null, .val .null, .val (.ref r1), .val (.int (2 : Int32)), .val (.int (0 : Int32)), .unset] [(.ref r1)]) _
  refine stp (fun _ => XS.iload X1.here hx rfl (hb hby d1_19) rfl) ?_
  show Go p e below T1 (mkF m 21 #[.val .null, .val .null, .val (.ref r1), .val (.int (2 : Int32)), .val (.int (0 : Int32)), .unset] [(.int (0 : Int32)), (.ref r1)]) _
  obtain ⟨cl8, Ar8, q8, S8, M8, H8, G8⟩ := (id r1_1)
  have in8 : ¬ ((0 : Int32) < 0 ∨ cl8.slots.size ≤ ((0 : Int32)).toNatClampNeg) := inb_of S8 ⟨by decide, by decide⟩
  have at8 : cl8.slots[((0 : Int32)).toNatClampNeg]? = some (.ref auth) := H8.at in8 rfl
  refine stp (fun _ => X1.aaload hx (j := (0 : Int32)) (v := (.ref auth)) Ar8.1 (State.isArrayOf_alike hZ.alike Ar8.2.1) rfl Ar8.2.2 in8 at8 (g := (mkF m 21 #[.val .null, .val .null, .val (.ref r1), .val (.int (2 : Int32)), .val (.int (0 : Int32)), .unset] [(.int (0 : Int32)), (.ref r1)])) rfl rfl (hb hby d1_21) _) ?_
  show Go p e below T1 (mkF m 22 #[.val .null, .val .null, .val (.ref r1), .val (.int (2 : Int32)), .val (.int (0 : Int32)), .unset] [(.ref auth)]) _
  refine stp (fun _ => XS.astore X1.here hx rfl (hb hby d1_22) rfl rfl (l' := #[.val .null, .val .null, .val (.ref r1), .val (.int (2 : Int32)), .val (.int (0 : Int32)), .val (.ref auth)]) rfl) ?_
  show Go p e below T1 (mkF m 24 #[.val .null, .val .null, .val (.ref r1), .val (.int (2 : Int32)), .val (.int (0 : Int32)), .val (.ref auth)] []) _
  refine stp (fun _ => XS.aload X1.here hx rfl (hb hby d1_24) rfl rfl) ?_
  show Go p e below T1 (mkF m 26 #[.val .null, .val .null, .val (.ref r1), .val (.int (2 : Int32)), .val (.int (0 : Int32)), .val (.ref auth)] [(.ref auth)]) _
  obtain ⟨T9, X9, e9, st9⟩ := getF X1 hx hZ hown (host := "") (Or.inl (hw _ (List.mem_of_getElem? (i := 22) rfl))) Via.refl rfl (F_auth_wireName.ext O1.2) (g := (mkF m 26 #[.val .null, .val .null, .val (.ref r1), .val (.int (2 : Int32)), .val (.int (0 : Int32)), .val (.ref auth)] [(.ref auth)])) rfl rfl (hb hby d1_26)
  refine stp st9 ?_
  show Go p e below T9 (mkF m 29 #[.val .null, .val .null, .val (.ref r1), .val (.int (2 : Int32)), .val (.int (0 : Int32)), .val (.ref auth)] [(.ref w1)]) _
  refine stp (fun _ => XS.aloadN X9.here hx rfl (hb hby d1_29) rfl rfl) ?_
  show Go p e below T9 (mkF m 30 #[.val .null, .val .null, .val (.ref r1), .val (.int (2 : Int32)), .val (.int (0 : Int32)), .val (.ref auth)] [.null, (.ref w1)]) _
  obtain ⟨cq10, kq10, q10a, q10b, q10c⟩ := isOf hZ e9 (Q_w1.exa.ext O1.2)
  obtain ⟨_, _, ⟨T10, L10, k10, n10⟩, -, X10, ⟨Lc10, hQ10, l10, y10, z10⟩, st10⟩ := X9.virtualBack hx (y := (⟨"java/lang/String", "equals", "(Ljava/lang/Object;)Z"⟩ : MethodName)) (z := (⟨"java/lang/String", "equals", "(Ljava/lang/Object;)Z"⟩ : MethodName)) hown (mvT hZ (hw _ (List.mem_of_getElem? (i := 24) rfl))) (mvT hZ (hw _ (List.mem_of_getElem? (i := 25) rfl))) (notFace_of_selects (args := #[]) (mvT hZ (hw _ (List.mem_of_getElem? (i := 27) rfl)))) (mvT hZ (hw _ (List.mem_of_getElem? (i := 27) rfl))) (mvT hZ (hw _ (List.mem_of_getElem? (i := 26) rfl))) (by decide) (backOf (W := 0) (rm_eqz l Z a0 hw [] w1  T1.heap n0 O1 ) hZ (hw _ (List.mem_of_getElem? (i := 29) rfl)) (hw _ (List.mem_of_getElem? (i := 28) rfl)) (by decide) (by decide)) q10a q10c (g := (mkF m 30 #[.val .null, .val .null, .val (.ref r1), .val (.int (2 : Int32)), .val (.int (0 : Int32)), .val (.ref auth)] [.null, (.ref w1)])) rfl (by rw [hml]; rfl) (Steps.refl _) (argsL := [.null]) (rest := []) (lenOf pd_3 rfl) rfl (by show 2 * 0 + _ ≤ _; exact Nat.le_of_eq rfl) (hb hby d1_30) (fun _ _ => ⟨rfl, e9, (by decide : 1 + 0 ≤ _), (by decide : 2 + 0 ≤ _)⟩)
  dsimp only [Pt.U, Pt.locs, Pt.cells, Pt.slots] at X10 l10 y10 z10 st10 hQ10
  subst y10 z10
  obtain ⟨rfl, N10q, e10⟩ := hQ10
  have N10 : Fr n0 L10 := by rw [l10]; exact Fr.app N1 N10q
  refine stt st10 ?_
  show Go p e below T10 (mkF m 33 #[.val .null, .val .null, .val (.ref r1), .val (.int (2 : Int32)), .val (.int (0 : Int32)), .val (.ref auth)] [(.int (0 : Int32))]) _
  refine stp (fun _ => XS.ifYes X10.here hx rfl (pc0 := 33) (pc' := 39) rfl (hb hby d1_33) rfl (by decide) (by decide) (by decide)) ?_
  show Go p e below T10 (mkF m 39 #[.val .null, .val .null, .val (.ref r1), .val (.int (2 : Int32)), .val (.int (0 : Int32)), .val (.ref auth)] []) _
  refine stp (fun _ => XS.iinc X10.here hx rfl (hb hby d1_39) rfl (l' := #[.val .null, .val .null, .val (.ref r1), .val (.int (2 : Int32)), .val (.int (1 : Int32)), .val (.ref auth)]) rfl) ?_
  show Go p e below T10 (mkF m 42 #[.val .null, .val .null, .val (.ref r1), .val (.int (2 : Int32)), .val (.int (1 : Int32)), .val (.ref auth)] []) _
  refine stp (fun _ => XS.goto X10.here hx rfl (pc0 := 42) (pc' := 12) rfl (hb hby d1_42) (by decide) (by decide)) ?_
  show Go p e below T10 (mkF m 12 #[.val .null, .val .null, .val (.ref r1), .val (.int (2 : Int32)), .val (.int (1 : Int32)), .val (.ref auth)] []) _
  refine stp (fun _ => XS.iload X10.here hx rfl (hb hby d1_12) rfl) ?_
  show Go p e below T10 (mkF m 14 #[.val .null, .val .null, .val (.ref r1), .val (.int (2 : Int32)), .val (.int (1 : Int32)), .val (.ref auth)] [(.int (1 : Int32))]) _
  refine stp (fun _ => XS.iloadN X10.here hx rfl (hb hby d1_14) rfl) ?_
  show Go p e below T10 (mkF m 15 #[.val .null, .val .null, .val (.ref r1), .val (.int (2 : Int32)), .val (.int (1 : Int32)), .val (.ref auth)] [(.int (2 : Int32)), (.int (1 : Int32))]) _
  refine stp (fun _ => XS.icmpNo X10.here hx rfl (hb hby d1_15) rfl (by decide)) ?_
  show Go p e below T10 (mkF m 18 #[.val .null, .val .null, .val (.ref r1), .val (.int (2 : Int32)), .val (.int (1 : Int32)), .val (.ref auth)] []) _
  refine stp (fun _ => XS.aloadN X10.here hx rfl (hb hby d1_18) rfl rfl) ?_
  show Go p e below T10 (mkF m 19 #[.val .null, .val .null, .val (.ref r1), .val (.int (2 : Int32)), .val (.int (1 : Int32)), .val (.ref auth)] [(.ref r1)]) _
  refine stp (fun _ => XS.iload X10.here hx rfl (hb hby d1_19) rfl) ?_
  show Go p e below T10 (mkF m 21 #[.val .null, .val .null, .val (.ref r1), .val (.int (2 : Int32)), .val (.int (1 : Int32)), .val (.ref auth)] [(.int (1 : Int32)), (.ref r1)]) _
  obtain ⟨cl11, Ar11, q11, S11, M11, H11, G11⟩ := (id r1_1)
  have in11 : ¬ ((1 : Int32) < 0 ∨ cl11.slots.size ≤ ((1 : Int32)).toNatClampNeg) := inb_of S11 ⟨by decide, by decide⟩
  have at11 : cl11.slots[((1 : Int32)).toNatClampNeg]? = some (.ref impl) := H11.at in11 rfl
  refine stp (fun _ => X10.aaload hx (j := (1 : Int32)) (v := (.ref impl)) (by rw [e10]; exact Ar11.1) (State.isArrayOf_alike hZ.alike Ar11.2.1) rfl Ar11.2.2 in11 at11 (g := (mkF m 21 #[.val .null, .val .null, .val (.ref r1), .val (.int (2 : Int32)), .val (.int (1 : Int32)), .val (.ref auth)] [(.int (1 : Int32)), (.ref r1)])) rfl rfl (hb hby d1_21) _) ?_
  show Go p e below T10 (mkF m 22 #[.val .null, .val .null, .val (.ref r1), .val (.int (2 : Int32)), .val (.int (1 : Int32)), .val (.ref auth)] [(.ref impl)]) _
  refine stp (fun _ => XS.astore X10.here hx rfl (hb hby d1_22) rfl rfl (l' := #[.val .null, .val .null, .val (.ref r1), .val (.int (2 : Int32)), .val (.int (1 : Int32)), .val (.ref impl)]) rfl) ?_
  show Go p e below T10 (mkF m 24 #[.val .null, .val .null, .val (.ref r1), .val (.int (2 : Int32)), .val (.int (1 : Int32)), .val (.ref impl)] []) _
  refine stp (fun _ => XS.aload X10.here hx rfl (hb hby d1_24) rfl rfl) ?_
  show Go p e below T10 (mkF m 26 #[.val .null, .val .null, .val (.ref r1), .val (.int (2 : Int32)), .val (.int (1 : Int32)), .val (.ref impl)] [(.ref impl)]) _
  obtain ⟨T12, X12, e12, st12⟩ := getF X10 hx hZ hown (host := "") (Or.inl (hw _ (List.mem_of_getElem? (i := 22) rfl))) Via.refl e10 (F_impl_wireName.ext O1.2) (g := (mkF m 26 #[.val .null, .val .null, .val (.ref r1), .val (.int (2 : Int32)), .val (.int (1 : Int32)), .val (.ref impl)] [(.ref impl)])) rfl rfl (hb hby d1_26)
  refine stp st12 ?_
  show Go p e below T12 (mkF m 29 #[.val .null, .val .null, .val (.ref r1), .val (.int (2 : Int32)), .val (.int (1 : Int32)), .val (.ref impl)] [(.ref w2)]) _
  refine stp (fun _ => XS.aloadN X12.here hx rfl (hb hby d1_29) rfl rfl) ?_
  show Go p e below T12 (mkF m 30 #[.val .null, .val .null, .val (.ref r1), .val (.int (2 : Int32)), .val (.int (1 : Int32)), .val (.ref impl)] [.null, (.ref w2)]) _
  obtain ⟨cq13, kq13, q13a, q13b, q13c⟩ := isOf hZ e12 (Q_w2.exa.ext O1.2)
  obtain ⟨_, _, ⟨T13, L13, k13, n13⟩, -, X13, ⟨Lc13, hQ13, l13, y13, z13⟩, st13⟩ := X12.virtualBack hx (y := (⟨"java/lang/String", "equals", "(Ljava/lang/Object;)Z"⟩ : MethodName)) (z := (⟨"java/lang/String", "equals", "(Ljava/lang/Object;)Z"⟩ : MethodName)) hown (mvT hZ (hw _ (List.mem_of_getElem? (i := 24) rfl))) (mvT hZ (hw _ (List.mem_of_getElem? (i := 25) rfl))) (notFace_of_selects (args := #[]) (mvT hZ (hw _ (List.mem_of_getElem? (i := 27) rfl)))) (mvT hZ (hw _ (List.mem_of_getElem? (i := 27) rfl))) (mvT hZ (hw _ (List.mem_of_getElem? (i := 26) rfl))) (by decide) (backOf (W := 0) (rm_eqz l Z a0 hw [] w2  T1.heap n0 O1 ) hZ (hw _ (List.mem_of_getElem? (i := 29) rfl)) (hw _ (List.mem_of_getElem? (i := 28) rfl)) (by decide) (by decide)) q13a q13c (g := (mkF m 30 #[.val .null, .val .null, .val (.ref r1), .val (.int (2 : Int32)), .val (.int (1 : Int32)), .val (.ref impl)] [.null, (.ref w2)])) rfl (by rw [hml]; rfl) (Steps.refl _) (argsL := [.null]) (rest := []) (lenOf pd_3 rfl) rfl (by show 2 * 0 + _ ≤ _; exact Nat.le_of_eq rfl) (hb hby d1_30) (fun _ _ => ⟨rfl, e12, (by decide : 1 + 0 ≤ _), (by decide : 2 + 0 ≤ _)⟩)
  dsimp only [Pt.U, Pt.locs, Pt.cells, Pt.slots] at X13 l13 y13 z13 st13 hQ13
  subst y13 z13
  obtain ⟨rfl, N13q, e13⟩ := hQ13
  have N13 : Fr n0 L13 := by rw [l13]; exact Fr.app N10 N13q
  refine stt st13 ?_
  show Go p e below T13 (mkF m 33 #[.val .null, .val .null, .val (.ref r1), .val (.int (2 : Int32)), .val (.int (1 : Int32)), .val (.ref impl)] [(.int (0 : Int32))]) _
  refine stp (fun _ => XS.ifYes X13.here hx rfl (pc0 := 33) (pc' := 39) rfl (hb hby d1_33) rfl (by decide) (by decide) (by decide)) ?_
  show Go p e below T13 (mkF m 39 #[.val .null, .val .null, .val (.ref r1), .val (.int (2 : Int32)), .val (.int (1 : Int32)), .val (.ref impl)] []) _
  refine stp (fun _ => XS.iinc X13.here hx rfl (hb hby d1_39) rfl (l' := #[.val .null, .val .null, .val (.ref r1), .val (.int (2 : Int32)), .val (.int (2 : Int32)), .val (.ref impl)]) rfl) ?_
  show Go p e below T13 (mkF m 42 #[.val .null, .val .null, .val (.ref r1), .val (.int (2 : Int32)), .val (.int (2 : Int32)), .val (.ref impl)] []) _
  refine stp (fun _ => XS.goto X13.here hx rfl (pc0 := 42) (pc' := 12) rfl (hb hby d1_42) (by decide) (by decide)) ?_
  show Go p e below T13 (mkF m 12 #[.val .null, .val .null, .val (.ref r1), .val (.int (2 : Int32)), .val (.int (2 : Int32)), .val (.ref impl)] []) _
  refine stp (fun _ => XS.iload X13.here hx rfl (hb hby d1_12) rfl) ?_
  show Go p e below T13 (mkF m 14 #[.val .null, .val .null, .val (.ref r1), .val (.int (2 : Int32)), .val (.int (2 : Int32)), .val (.ref impl)] [(.int (2 : Int32))]) _
  refine stp (fun _ => XS.iloadN X13.here hx rfl (hb hby d1_14) rfl) ?_
  show Go p e below T13 (mkF m 15 #[.val .null, .val .null, .val (.ref r1), .val (.int (2 : Int32)), .val (.int (2 : Int32)), .val (.ref impl)] [(.int (2 : Int32)), (.int (2 : Int32))]) _
  refine stp (fun _ => XS.icmpYes X13.here hx rfl (pc0 := 15) (pc' := 45) rfl (hb hby d1_15) rfl (by decide) (by decide) (by decide)) ?_
  show Go p e below T13 (mkF m 45 #[.val .null, .val .null, .val (.ref r1), .val (.int (2 : Int32)), .val (.int (2 : Int32)), .val (.ref impl)] []) _
  refine stp (fun _ => XS.aloadN X13.here hx rfl (hb hby d1_45) rfl rfl) ?_
  show Go p e below T13 (mkF m 46 #[.val .null, .val .null, .val (.ref r1), .val (.int (2 : Int32)), .val (.int (2 : Int32)), .val (.ref impl)] [.null]) _
  obtain ⟨_, _, ⟨T14, L14, k14, n14⟩, -, X14, ⟨Lc14, hQ14, l14, y14, z14⟩, st14⟩ := Jvm.LawKit.callS X13 hx (y := (⟨"java/util/Optional", "ofNullable", "(Ljava/lang/Object;)Ljava/util/Optional;"⟩ : MethodName)) hown (mvT hZ (hw _ (List.mem_of_getElem? (i := 30) rfl))) (mvT hZ (hw _ (List.mem_of_getElem? (i := 31) rfl))) (mvT hZ (hw _ (List.mem_of_getElem? (i := 32) rfl))) (mvT hZ (hw _ (List.mem_of_getElem? (i := 33) rfl))) (by decide) (backOf (W := 0) (rm_on0 l Z a0 hw []  empty_ T1.heap n0 O1 S_EMPTY) hZ (hw _ (List.mem_of_getElem? (i := 33) rfl)) (hw _ (List.mem_of_getElem? (i := 32) rfl)) (by decide) (by decide)) (g := (mkF m 46 #[.val .null, .val .null, .val (.ref r1), .val (.int (2 : Int32)), .val (.int (2 : Int32)), .val (.ref impl)] [.null])) rfl (by rw [hml]; rfl) (argsL := [.null]) (rest := []) (lenOf pd_4 rfl) rfl (by show 2 * 0 + _ ≤ _; exact Nat.le_of_eq rfl) (hb hby d1_46) (fun _ _ => ⟨rfl, e13, (by decide : 1 + 0 ≤ _), (by decide : 2 + 0 ≤ _)⟩)
  dsimp only [Pt.U, Pt.locs, Pt.cells, Pt.slots] at X14 l14 y14 z14 st14 hQ14
  subst y14 z14
  obtain ⟨rfl, N14q, e14⟩ := hQ14
  have N14 : Fr n0 L14 := by rw [l14]; exact Fr.app N13 N14q
  refine stp st14 ?_
  show Go p e below T14 (mkF m 49 #[.val .null, .val .null, .val (.ref r1), .val (.int (2 : Int32)), .val (.int (2 : Int32)), .val (.ref impl)] [(.ref empty_)]) _
  refine outA X14 hx hret rfl rfl (hb hby d1_49) hlk (by decide) (by decide) ?_
  rw [e14]
  exact ⟨rfl, N14, K1⟩
theorem pd_5 : parseMethodDescriptor "(Ljava/lang/String;)Ljava/util/Optional;" = some ⟨[(.object "java/lang/String")], some (.object "java/util/Optional")⟩ := by decide +kernel
theorem pd_6 : parseMethodDescriptor "(Ljava/lang/Object;)Ljava/lang/Object;" = some ⟨[(.object "java/lang/Object")], some (.object "java/lang/Object")⟩ := by decide +kernel
theorem pd_7 : parseMethodDescriptor "([C)V" = some ⟨[(.array .char)], none⟩ := by decide +kernel
theorem ef_rm0 (m : MethodId) (p0 : Int32) (p1 : Int32) (p2 : Int32) (p3 : Int32) (p4 : Int32)  : entryFrame m #[(.int p0), (.int p1), (.int p2), (.int p3), (.int p4)] maxLocals = mkF m 0 #[.val (.int p0), .val (.int p1), .val (.int p2), .val (.int p3), .val (.int p4), .unset, .unset, .unset, .unset, .unset, .unset, .unset] [] := by first | (simp [entryFrame, mkF, argsToLocals, Value.category, maxLocals]; done) | rfl
def Q_rm0 (Z : State) (p0 : Int32) (p1 : Int32) (p2 : Int32) (p3 : Int32) (p4 : Int32) (auth impl va empty_ w1 w2 : Addr) (k_va : ClassId) (cz : Int32) (h0 : Heap) (n0 : Nat) (v : Option Value) (h : Heap) (L : List Loc) : Prop := v = some (.int 1) ∧ Fr n0 L
theorem pn_8_ : plainName "com/example/uriel/uriel/grant/GrantTypeFromWireNamePinLaw" = true := by first | (simp [plainName, overriddenIn]; done) | decide +kernel
theorem pn_8 : plainFor (⟨"com/example/uriel/uriel/grant/GrantTypeFromWireNamePinLaw", "law", "(IIIII)Z"⟩ : MethodName) = true := plainFor_of_name pn_8_
set_option maxRecDepth 65536 in
set_option maxHeartbeats 40000000 in
theorem rm0 (l : Launch) (Z : State) (a0 : Array Value) (hw : ∀ d ∈ tables_1, d.before a0 Z = true) (ws : List Jvm.Cond) (p0 : Int32) (p1 : Int32) (p2 : Int32) (p3 : Int32) (p4 : Int32) (auth impl va empty_ w1 w2 : Addr) (k_va : ClassId) (cz : Int32) (h0 : Heap) (n0 : Nat) (O0 : Old Z n0 h0) (hEL : EW Z a0 consts_1) (S_VALUES : Sta Z Z.heap "com/example/uriel/uriel/grant/GrantType" "$VALUES" "[Lcom/example/uriel/uriel/grant/GrantType;" (.ref va)) (S_AC : Sta Z Z.heap "com/example/uriel/uriel/grant/GrantType" "AUTHORIZATION_CODE" "Lcom/example/uriel/uriel/grant/GrantType;" (.ref auth)) (S_IM : Sta Z Z.heap "com/example/uriel/uriel/grant/GrantType" "IMPLICIT" "Lcom/example/uriel/uriel/grant/GrantType;" (.ref impl)) (S_EM : Sta Z Z.heap "java/util/Optional" "EMPTY" "Ljava/util/Optional;" (.ref empty_)) (E_va : Exa Z Z.heap va "[Lcom/example/uriel/uriel/grant/GrantType;") (V_va : Arv Z Z.heap va k_va (.object "com/example/uriel/uriel/grant/GrantType") (2 : Int32) [(.ref auth), (.ref impl)] .null) (E_auth : Exa Z Z.heap auth "com/example/uriel/uriel/grant/GrantType") (E_impl : Exa Z Z.heap impl "com/example/uriel/uriel/grant/GrantType") (E_em : Exa Z Z.heap empty_ "java/util/Optional") (F_em : Fld Z Z.heap empty_ "java/util/Optional" "value" "Ljava/lang/Object;" .null) (F_w1 : Fld Z Z.heap auth "com/example/uriel/uriel/grant/GrantType" "wireName" "Ljava/lang/String;" (.ref w1)) (F_w2 : Fld Z Z.heap impl "com/example/uriel/uriel/grant/GrantType" "wireName" "Ljava/lang/String;" (.ref w2)) (Q_w1 : StrIs Z Z.heap w1 own_ac_list) (Q_w2 : StrIs Z Z.heap w2 own_im_list) (S_CS : Sta Z Z.heap "java/lang/String" "COMPACT_STRINGS" "Z" (.int cz)) (hcz : ¬ cz = (0 : Int32)) :
    MetFree l x (head1 (Jvm.Cond.code x code maxLocals ret :: ws) room_1) (fun args_ U => args_ = #[(.int p0), (.int p1), (.int p2), (.int p3), (.int p4)] ∧ Z.Warmed39 U.vm ∧ U.heap = h0 ∧ CHv Z consts_1 U.vm h0) (fun _ _ _ _ _ => True) (fun _ U out_ U' => ∃ val_ loc_, out_ = .returned val_ ∧ (Q_rm0 Z p0 p1 p2 p3 p4 auth impl va empty_ w1 w2 k_va cz h0 n0) val_ U'.heap loc_ ∧ CHr Z consts_1 U.vm U.heap U'.vm U'.heap ∧ ReturnedEndW U out_ U' loc_ 5 44) := by
  refine startW (Q := (Q_rm0 Z p0 p1 p2 p3 p4 auth impl va empty_ w1 w2 k_va cz h0 n0)) (show plainFor x = true from pn_8) ?_
  intro p e s m below meth c T0 X0 hx hby hml hown hnm hret hlk hZ e0 hS CR
  have hk : 0 ≤ h0.size := Nat.zero_le _
  have wS : ∀ a ∈ Bundle.stringAtoms, a.before a0 Z = true := own_wS hw
  replace hown : s.vm.findClass "com/example/uriel/uriel/grant/GrantTypeFromWireNamePinLaw" = some m.cls := hown
  replace hml : c.maxLocals = 12 := hml
  refine goAt (ef_rm0 m p0 p1 p2 p3 p4 ) ?_
  have N0 := Fr.nil n0
  have hws : ∀ d ∈ StrChars.Road.words, d.before a0 Z = true := fun d hd => hw d ((by decide +kernel : ∀ d ∈ StrChars.Road.words, d ∈ tables_1) d hd)
  show Go p e below T0 (mkF m 0 #[.val (.int p0), .val (.int p1), .val (.int p2), .val (.int p3), .val (.int p4), .unset, .unset, .unset, .unset, .unset, .unset, .unset] []) _
  refine stp (fun _ => XS.iloadN X0.here hx rfl (hb hby at_0) rfl) ?_
  show Go p e below T0 (mkF m 1 #[.val (.int p0), .val (.int p1), .val (.int p2), .val (.int p3), .val (.int p4), .unset, .unset, .unset, .unset, .unset, .unset, .unset] [(.int p0)]) _
  refine stp (fun _ => X0.ldcInt hx hown (mvT hZ (hw _ (List.mem_of_getElem? (i := 0) rfl))) (g := (mkF m 1 #[.val (.int p0), .val (.int p1), .val (.int p2), .val (.int p3), .val (.int p4), .unset, .unset, .unset, .unset, .unset, .unset, .unset] [(.int p0)])) rfl (hb hby at_1) _) ?_
  show Go p e below T0 (mkF m 3 #[.val (.int p0), .val (.int p1), .val (.int p2), .val (.int p3), .val (.int p4), .unset, .unset, .unset, .unset, .unset, .unset, .unset] [(.int (2147483647 : Int32)), (.int p0)]) _
  refine stp (fun _ => XS.iand X0.here hx rfl (hb hby at_3) rfl) ?_
  show Go p e below T0 (mkF m 4 #[.val (.int p0), .val (.int p1), .val (.int p2), .val (.int p3), .val (.int p4), .unset, .unset, .unset, .unset, .unset, .unset, .unset] [(.int (p0 &&& (2147483647 : Int32)))]) _
  refine stp (fun _ => XS.iconst X0.here hx rfl (hb hby at_4)) ?_
  show Go p e below T0 (mkF m 5 #[.val (.int p0), .val (.int p1), .val (.int p2), .val (.int p3), .val (.int p4), .unset, .unset, .unset, .unset, .unset, .unset, .unset] [(.int (5 : Int32)), (.int (p0 &&& (2147483647 : Int32)))]) _
  refine stp (fun _ => iremM X0 hx rfl (hb hby at_5) rfl (by decide)) ?_
  show Go p e below T0 (mkF m 6 #[.val (.int p0), .val (.int p1), .val (.int p2), .val (.int p3), .val (.int p4), .unset, .unset, .unset, .unset, .unset, .unset, .unset] [(.int ((p0 &&& (2147483647 : Int32)) % (5 : Int32)))]) _
  refine stp (fun _ => XS.istore X0.here hx rfl (hb hby at_6) rfl (l' := #[.val (.int p0), .val (.int p1), .val (.int p2), .val (.int p3), .val (.int p4), .val (.int ((p0 &&& (2147483647 : Int32)) % (5 : Int32))), .unset, .unset, .unset, .unset, .unset, .unset]) rfl) ?_
  show Go p e below T0 (mkF m 8 #[.val (.int p0), .val (.int p1), .val (.int p2), .val (.int p3), .val (.int p4), .val (.int ((p0 &&& (2147483647 : Int32)) % (5 : Int32))), .unset, .unset, .unset, .unset, .unset, .unset] []) _
  refine stp (fun _ => XS.iloadN X0.here hx rfl (hb hby at_8) rfl) ?_
  show Go p e below T0 (mkF m 9 #[.val (.int p0), .val (.int p1), .val (.int p2), .val (.int p3), .val (.int p4), .val (.int ((p0 &&& (2147483647 : Int32)) % (5 : Int32))), .unset, .unset, .unset, .unset, .unset, .unset] [(.int p2)]) _
  refine stp (fun _ => XS.sipush X0.here hx rfl (hb hby at_9)) ?_
  show Go p e below T0 (mkF m 12 #[.val (.int p0), .val (.int p1), .val (.int p2), .val (.int p3), .val (.int p4), .val (.int ((p0 &&& (2147483647 : Int32)) % (5 : Int32))), .unset, .unset, .unset, .unset, .unset, .unset] [(.int (255 : Int32)), (.int p2)]) _
  refine stp (fun _ => XS.iand X0.here hx rfl (hb hby at_12) rfl) ?_
  show Go p e below T0 (mkF m 13 #[.val (.int p0), .val (.int p1), .val (.int p2), .val (.int p3), .val (.int p4), .val (.int ((p0 &&& (2147483647 : Int32)) % (5 : Int32))), .unset, .unset, .unset, .unset, .unset, .unset] [(.int (p2 &&& (255 : Int32)))]) _
  refine stp (fun _ => XS.i2c X0.here hx rfl (hb hby at_13) rfl) ?_
  show Go p e below T0 (mkF m 14 #[.val (.int p0), .val (.int p1), .val (.int p2), .val (.int p3), .val (.int p4), .val (.int ((p0 &&& (2147483647 : Int32)) % (5 : Int32))), .unset, .unset, .unset, .unset, .unset, .unset] [(.int ((p2 &&& (255 : Int32)).toUInt32.toUInt16.toUInt32.toInt32))]) _
  refine stp (fun _ => XS.istore X0.here hx rfl (hb hby at_14) rfl (l' := #[.val (.int p0), .val (.int p1), .val (.int p2), .val (.int p3), .val (.int p4), .val (.int ((p0 &&& (2147483647 : Int32)) % (5 : Int32))), .val (.int ((p2 &&& (255 : Int32)).toUInt32.toUInt16.toUInt32.toInt32)), .unset, .unset, .unset, .unset, .unset]) rfl) ?_
  show Go p e below T0 (mkF m 16 #[.val (.int p0), .val (.int p1), .val (.int p2), .val (.int p3), .val (.int p4), .val (.int ((p0 &&& (2147483647 : Int32)) % (5 : Int32))), .val (.int ((p2 &&& (255 : Int32)).toUInt32.toUInt16.toUInt32.toInt32)), .unset, .unset, .unset, .unset, .unset] []) _
  obtain ⟨cc, hcc⟩ : ∃ z : Int32, z = ((p2 &&& (255 : Int32)).toUInt32.toUInt16.toUInt32.toInt32) := ⟨_, rfl⟩
  rw [← hcc]
  show Go p e below T0 (mkF m 16 #[.val (.int p0), .val (.int p1), .val (.int p2), .val (.int p3), .val (.int p4), .val (.int ((p0 &&& (2147483647 : Int32)) % (5 : Int32))), .val (.int cc), .unset, .unset, .unset, .unset, .unset] []) _
  replace hcc := own_char255 hcc
  refine stp (fun _ => XS.iloadN X0.here hx rfl (hb hby at_16) rfl) ?_
  show Go p e below T0 (mkF m 17 #[.val (.int p0), .val (.int p1), .val (.int p2), .val (.int p3), .val (.int p4), .val (.int ((p0 &&& (2147483647 : Int32)) % (5 : Int32))), .val (.int cc), .unset, .unset, .unset, .unset, .unset] [(.int p2)]) _
  refine stp (fun _ => XS.bipush X0.here hx rfl (hb hby at_17)) ?_
  show Go p e below T0 (mkF m 19 #[.val (.int p0), .val (.int p1), .val (.int p2), .val (.int p3), .val (.int p4), .val (.int ((p0 &&& (2147483647 : Int32)) % (5 : Int32))), .val (.int cc), .unset, .unset, .unset, .unset, .unset] [(.int (8 : Int32)), (.int p2)]) _
  refine stp (fun _ => XS.ishr X0.here hx rfl (hb hby at_19) rfl) ?_
  show Go p e below T0 (mkF m 20 #[.val (.int p0), .val (.int p1), .val (.int p2), .val (.int p3), .val (.int p4), .val (.int ((p0 &&& (2147483647 : Int32)) % (5 : Int32))), .val (.int cc), .unset, .unset, .unset, .unset, .unset] [(.int (p2 >>> ((8 : Int32) &&& 31)))]) _
  refine stp (fun _ => XS.iconst X0.here hx rfl (hb hby at_20)) ?_
  show Go p e below T0 (mkF m 21 #[.val (.int p0), .val (.int p1), .val (.int p2), .val (.int p3), .val (.int p4), .val (.int ((p0 &&& (2147483647 : Int32)) % (5 : Int32))), .val (.int cc), .unset, .unset, .unset, .unset, .unset] [(.int (1 : Int32)), (.int (p2 >>> ((8 : Int32) &&& 31)))]) _
  refine stp (fun _ => XS.iand X0.here hx rfl (hb hby at_21) rfl) ?_
  show Go p e below T0 (mkF m 22 #[.val (.int p0), .val (.int p1), .val (.int p2), .val (.int p3), .val (.int p4), .val (.int ((p0 &&& (2147483647 : Int32)) % (5 : Int32))), .val (.int cc), .unset, .unset, .unset, .unset, .unset] [(.int ((p2 >>> ((8 : Int32) &&& 31)) &&& (1 : Int32)))]) _
  have J : ∀ kp : Int32, (kp = 0 ∨ kp = 1) → Go p e below T0 (mkF m 30 #[.val (.int p0), .val (.int p1), .val (.int p2), .val (.int p3), .val (.int p4), .val (.int ((p0 &&& (2147483647 : Int32)) % (5 : Int32))), .val (.int cc), .unset, .unset, .unset, .unset, .unset] [(.int kp)]) (PoW s Z consts_1 (Q_rm0 Z p0 p1 p2 p3 p4 auth impl va empty_ w1 w2 k_va cz h0 n0) 5 44) := by
    intro kp hkp
    show Go p e below T0 (mkF m 30 #[.val (.int p0), .val (.int p1), .val (.int p2), .val (.int p3), .val (.int p4), .val (.int ((p0 &&& (2147483647 : Int32)) % (5 : Int32))), .val (.int cc), .unset, .unset, .unset, .unset, .unset] [(.int kp)]) _
    refine stp (fun _ => XS.istore X0.here hx rfl (hb hby at_30) rfl (l' := #[.val (.int p0), .val (.int p1), .val (.int p2), .val (.int p3), .val (.int p4), .val (.int ((p0 &&& (2147483647 : Int32)) % (5 : Int32))), .val (.int cc), .val (.int kp), .unset, .unset, .unset, .unset]) rfl) ?_
    show Go p e below T0 (mkF m 32 #[.val (.int p0), .val (.int p1), .val (.int p2), .val (.int p3), .val (.int p4), .val (.int ((p0 &&& (2147483647 : Int32)) % (5 : Int32))), .val (.int cc), .val (.int kp), .unset, .unset, .unset, .unset] []) _
    refine stp (fun _ => XS.iload X0.here hx rfl (hb hby at_32) rfl) ?_
    show Go p e below T0 (mkF m 34 #[.val (.int p0), .val (.int p1), .val (.int p2), .val (.int p3), .val (.int p4), .val (.int ((p0 &&& (2147483647 : Int32)) % (5 : Int32))), .val (.int cc), .val (.int kp), .unset, .unset, .unset, .unset] [(.int ((p0 &&& (2147483647 : Int32)) % (5 : Int32)))]) _
    by_cases q34_1 : ((p0 &&& (2147483647 : Int32)) % (5 : Int32)) = 0
    · refine stp (fun _ => XS.ifNo X0.here hx rfl (hb hby at_34) rfl (XT.i0_ne_f q34_1)) ?_
      show Go p e below T0 (mkF m 37 #[.val (.int p0), .val (.int p1), .val (.int p2), .val (.int p3), .val (.int p4), .val (.int ((p0 &&& (2147483647 : Int32)) % (5 : Int32))), .val (.int cc), .val (.int kp), .unset, .unset, .unset, .unset] []) _
      refine stp (fun _ => XS.aconstNull X0.here hx rfl (hb hby at_37)) ?_
      show Go p e below T0 (mkF m 38 #[.val (.int p0), .val (.int p1), .val (.int p2), .val (.int p3), .val (.int p4), .val (.int ((p0 &&& (2147483647 : Int32)) % (5 : Int32))), .val (.int cc), .val (.int kp), .unset, .unset, .unset, .unset] [.null]) _
      obtain ⟨_, _, ⟨T2, L2, k2, n2⟩, -, X2, ⟨Lc2, hQ2, l2, y2, z2⟩, st2⟩ := Jvm.LawKit.callS X0 hx (y := (⟨"com/example/uriel/uriel/grant/GrantType", "fromWireName", "(Ljava/lang/String;)Ljava/util/Optional;"⟩ : MethodName)) hown (mvT hZ (hw _ (List.mem_of_getElem? (i := 1) rfl))) (mvT hZ (hw _ (List.mem_of_getElem? (i := 2) rfl))) (mvT hZ (hw _ (List.mem_of_getElem? (i := 3) rfl))) (mvT hZ (hw _ (List.mem_of_getElem? (i := 4) rfl))) (by decide) (backOf (W := 0) (rm_fw0 l Z a0 hw []  auth impl va w1 w2 empty_ k_va h0 n0 O0 S_VALUES E_va V_va F_w1 F_w2 Q_w1 Q_w2 S_EM) hZ (hw _ (List.mem_of_getElem? (i := 4) rfl)) (hw _ (List.mem_of_getElem? (i := 3) rfl)) (by decide) (by decide)) (g := (mkF m 38 #[.val (.int p0), .val (.int p1), .val (.int p2), .val (.int p3), .val (.int p4), .val (.int ((p0 &&& (2147483647 : Int32)) % (5 : Int32))), .val (.int cc), .val (.int kp), .unset, .unset, .unset, .unset] [.null])) rfl (by rw [hml]; rfl) (argsL := [.null]) (rest := []) (lenOf pd_5 rfl) rfl (by show 2 * 0 + _ ≤ _; exact Nat.le_of_eq rfl) (hb hby at_38) (fun _ _ => ⟨rfl, e0, (by decide : 0 + 1 ≤ _), (by decide : 0 + 2 ≤ _)⟩)
      dsimp only [Pt.U, Pt.locs, Pt.cells, Pt.slots] at X2 l2 y2 z2 st2 hQ2
      subst y2 z2
      obtain ⟨rfl, N2q, K2q⟩ := hQ2
      have N2 : Fr n0 L2 := by rw [l2]; exact Fr.app N0 N2q
      have hk := Nat.le_trans hk K2q.1
      have CR := CR.trans (CHr.keep K2q sf0 CR.1)
      have K2 : Keep h0 T2.heap [] := (Keep.refl h0 []).trans K2q all0
      have O2 := O0.keep K2q all0
      refine stp st2 ?_
      show Go p e below T2 (mkF m 41 #[.val (.int p0), .val (.int p1), .val (.int p2), .val (.int p3), .val (.int p4), .val (.int ((p0 &&& (2147483647 : Int32)) % (5 : Int32))), .val (.int cc), .val (.int kp), .unset, .unset, .unset, .unset] [(.ref empty_)]) _
      refine stp (fun _ => XS.aconstNull X2.here hx rfl (hb hby at_41)) ?_
      show Go p e below T2 (mkF m 42 #[.val (.int p0), .val (.int p1), .val (.int p2), .val (.int p3), .val (.int p4), .val (.int ((p0 &&& (2147483647 : Int32)) % (5 : Int32))), .val (.int cc), .val (.int kp), .unset, .unset, .unset, .unset] [.null, (.ref empty_)]) _
      obtain ⟨cq3, kq3, q3a, q3b, q3c⟩ := isOf hZ rfl (E_em.ext O2.2)
      obtain ⟨_, _, ⟨T3, L3, k3, n3⟩, -, X3, ⟨Lc3, hQ3, l3, y3, z3⟩, st3⟩ := X2.virtualBack hx (y := (⟨"java/util/Optional", "orElse", "(Ljava/lang/Object;)Ljava/lang/Object;"⟩ : MethodName)) (z := (⟨"java/util/Optional", "orElse", "(Ljava/lang/Object;)Ljava/lang/Object;"⟩ : MethodName)) hown (mvT hZ (hw _ (List.mem_of_getElem? (i := 35) rfl))) (mvT hZ (hw _ (List.mem_of_getElem? (i := 36) rfl))) (notFace_of_selects (args := #[]) (mvT hZ (hw _ (List.mem_of_getElem? (i := 38) rfl)))) (mvT hZ (hw _ (List.mem_of_getElem? (i := 38) rfl))) (mvT hZ (hw _ (List.mem_of_getElem? (i := 37) rfl))) (by decide) (backOf (W := 0) (rm_oe0 l Z a0 hw [] empty_  T2.heap n0 O2 F_em) hZ (hw _ (List.mem_of_getElem? (i := 39) rfl)) (hw _ (List.mem_of_getElem? (i := 32) rfl)) (by decide) (by decide)) q3a q3c (g := (mkF m 42 #[.val (.int p0), .val (.int p1), .val (.int p2), .val (.int p3), .val (.int p4), .val (.int ((p0 &&& (2147483647 : Int32)) % (5 : Int32))), .val (.int cc), .val (.int kp), .unset, .unset, .unset, .unset] [.null, (.ref empty_)])) rfl (by rw [hml]; rfl) (Steps.refl _) (argsL := [.null]) (rest := []) (lenOf pd_6 rfl) rfl (by show 2 * 0 + _ ≤ _; exact Nat.le_of_eq rfl) (hb hby at_42) (fun _ _ => ⟨rfl, rfl, (by decide : 1 + 0 ≤ _), (by decide : 2 + 0 ≤ _)⟩)
      dsimp only [Pt.U, Pt.locs, Pt.cells, Pt.slots] at X3 l3 y3 z3 st3 hQ3
      subst y3 z3
      obtain ⟨rfl, N3q, e3⟩ := hQ3
      have N3 : Fr n0 L3 := by rw [l3]; exact Fr.app N2 N3q
      refine stt st3 ?_
      show Go p e below T3 (mkF m 45 #[.val (.int p0), .val (.int p1), .val (.int p2), .val (.int p3), .val (.int p4), .val (.int ((p0 &&& (2147483647 : Int32)) % (5 : Int32))), .val (.int cc), .val (.int kp), .unset, .unset, .unset, .unset] [.null]) _
      refine stp (fun _ => XS.ifnonnullNo X3.here hx rfl (hb hby at_45) rfl) ?_
      show Go p e below T3 (mkF m 48 #[.val (.int p0), .val (.int p1), .val (.int p2), .val (.int p3), .val (.int p4), .val (.int ((p0 &&& (2147483647 : Int32)) % (5 : Int32))), .val (.int cc), .val (.int kp), .unset, .unset, .unset, .unset] []) _
      refine stp (fun _ => XS.iconst X3.here hx rfl (hb hby at_48)) ?_
      show Go p e below T3 (mkF m 49 #[.val (.int p0), .val (.int p1), .val (.int p2), .val (.int p3), .val (.int p4), .val (.int ((p0 &&& (2147483647 : Int32)) % (5 : Int32))), .val (.int cc), .val (.int kp), .unset, .unset, .unset, .unset] [(.int (1 : Int32))]) _
      refine stp (fun _ => XS.goto X3.here hx rfl (pc0 := 49) (pc' := 53) rfl (hb hby at_49) (by decide) (by decide)) ?_
      show Go p e below T3 (mkF m 53 #[.val (.int p0), .val (.int p1), .val (.int p2), .val (.int p3), .val (.int p4), .val (.int ((p0 &&& (2147483647 : Int32)) % (5 : Int32))), .val (.int cc), .val (.int kp), .unset, .unset, .unset, .unset] [(.int (1 : Int32))]) _
      refine outNW X3 hx hZ hEL e3 hS hk CR (t := .boolean) hret (by simp) (hb hby at_53) hlk (by decide) (by decide) ?_
      exact ⟨rfl, N3⟩
    · refine stp (fun _ => XS.ifYes X0.here hx rfl (pc0 := 34) (pc' := 54) rfl (hb hby at_34) rfl (XT.i0_ne_t q34_1) (by decide) (by decide)) ?_
      show Go p e below T0 (mkF m 54 #[.val (.int p0), .val (.int p1), .val (.int p2), .val (.int p3), .val (.int p4), .val (.int ((p0 &&& (2147483647 : Int32)) % (5 : Int32))), .val (.int cc), .val (.int kp), .unset, .unset, .unset, .unset] []) _
      refine stp (fun _ => XS.iload X0.here hx rfl (hb hby at_54) rfl) ?_
      show Go p e below T0 (mkF m 56 #[.val (.int p0), .val (.int p1), .val (.int p2), .val (.int p3), .val (.int p4), .val (.int ((p0 &&& (2147483647 : Int32)) % (5 : Int32))), .val (.int cc), .val (.int kp), .unset, .unset, .unset, .unset] [(.int ((p0 &&& (2147483647 : Int32)) % (5 : Int32)))]) _
      refine stp (fun _ => XS.iconst X0.here hx rfl (hb hby at_56)) ?_
      show Go p e below T0 (mkF m 57 #[.val (.int p0), .val (.int p1), .val (.int p2), .val (.int p3), .val (.int p4), .val (.int ((p0 &&& (2147483647 : Int32)) % (5 : Int32))), .val (.int cc), .val (.int kp), .unset, .unset, .unset, .unset] [(.int (1 : Int32)), (.int ((p0 &&& (2147483647 : Int32)) % (5 : Int32)))]) _
      by_cases q57_4 : ((p0 &&& (2147483647 : Int32)) % (5 : Int32)) = (1 : Int32)
      · refine stp (fun _ => XS.icmpNo X0.here hx rfl (hb hby at_57) rfl (XT.ii_ne_f q57_4)) ?_
        show Go p e below T0 (mkF m 60 #[.val (.int p0), .val (.int p1), .val (.int p2), .val (.int p3), .val (.int p4), .val (.int ((p0 &&& (2147483647 : Int32)) % (5 : Int32))), .val (.int cc), .val (.int kp), .unset, .unset, .unset, .unset] []) _
        refine stp (fun _ => XS.iloadN X0.here hx rfl (hb hby at_60) rfl) ?_
        show Go p e below T0 (mkF m 61 #[.val (.int p0), .val (.int p1), .val (.int p2), .val (.int p3), .val (.int p4), .val (.int ((p0 &&& (2147483647 : Int32)) % (5 : Int32))), .val (.int cc), .val (.int kp), .unset, .unset, .unset, .unset] [(.int p1)]) _
        refine stp (fun _ => XS.iconst X0.here hx rfl (hb hby at_61)) ?_
        show Go p e below T0 (mkF m 62 #[.val (.int p0), .val (.int p1), .val (.int p2), .val (.int p3), .val (.int p4), .val (.int ((p0 &&& (2147483647 : Int32)) % (5 : Int32))), .val (.int cc), .val (.int kp), .unset, .unset, .unset, .unset] [(.int (3 : Int32)), (.int p1)]) _
        refine stp (fun _ => XS.iand X0.here hx rfl (hb hby at_62) rfl) ?_
        show Go p e below T0 (mkF m 63 #[.val (.int p0), .val (.int p1), .val (.int p2), .val (.int p3), .val (.int p4), .val (.int ((p0 &&& (2147483647 : Int32)) % (5 : Int32))), .val (.int cc), .val (.int kp), .unset, .unset, .unset, .unset] [(.int (p1 &&& (3 : Int32)))]) _
        refine stp (fun _ => XS.istore X0.here hx rfl (hb hby at_63) rfl (l' := #[.val (.int p0), .val (.int p1), .val (.int p2), .val (.int p3), .val (.int p4), .val (.int ((p0 &&& (2147483647 : Int32)) % (5 : Int32))), .val (.int cc), .val (.int kp), .val (.int (p1 &&& (3 : Int32))), .unset, .unset, .unset]) rfl) ?_
        show Go p e below T0 (mkF m 65 #[.val (.int p0), .val (.int p1), .val (.int p2), .val (.int p3), .val (.int p4), .val (.int ((p0 &&& (2147483647 : Int32)) % (5 : Int32))), .val (.int cc), .val (.int kp), .val (.int (p1 &&& (3 : Int32))), .unset, .unset, .unset] []) _
        obtain ⟨nn, hnn⟩ : ∃ z : Int32, z = (p1 &&& (3 : Int32)) := ⟨_, rfl⟩
        rw [← hnn]
        show Go p e below T0 (mkF m 65 #[.val (.int p0), .val (.int p1), .val (.int p2), .val (.int p3), .val (.int p4), .val (.int ((p0 &&& (2147483647 : Int32)) % (5 : Int32))), .val (.int cc), .val (.int kp), .val (.int nn), .unset, .unset, .unset] []) _
        rcases hnn ▸ and3_cases p1 with rfl | rfl | rfl | rfl
        · show Go p e below T0 (mkF m 65 #[.val (.int p0), .val (.int p1), .val (.int p2), .val (.int p3), .val (.int p4), .val (.int ((p0 &&& (2147483647 : Int32)) % (5 : Int32))), .val (.int cc), .val (.int kp), .val (.int (0 : Int32)), .unset, .unset, .unset] []) _
          refine stp (fun _ => XS.iload X0.here hx rfl (hb hby at_65) rfl) ?_
          show Go p e below T0 (mkF m 67 #[.val (.int p0), .val (.int p1), .val (.int p2), .val (.int p3), .val (.int p4), .val (.int ((p0 &&& (2147483647 : Int32)) % (5 : Int32))), .val (.int cc), .val (.int kp), .val (.int (0 : Int32)), .unset, .unset, .unset] [(.int (0 : Int32))]) _
          obtain ⟨T5, h5, k5, X5, e5, E5, A5, B5, st5⟩ := newPE X0 hx hZ (hw _ (List.mem_of_getElem? (i := 42) rfl)) e0 (g := (mkF m 67 #[.val (.int p0), .val (.int p1), .val (.int p2), .val (.int p3), .val (.int p4), .val (.int ((p0 &&& (2147483647 : Int32)) % (5 : Int32))), .val (.int cc), .val (.int kp), .val (.int (0 : Int32)), .unset, .unset, .unset] [(.int (0 : Int32))])) rfl (hb hby at_67) rfl (by decide) (cap := 0) (by decide) (by decide) (by decide) (by decide) (ad := "[C") (by decide)
          obtain ⟨b5, g5⟩ : ∃ z, z = h0.size := ⟨_, rfl⟩
          rw [← g5] at A5 B5 st5
          have ne6 : auth ≠ b5 := O0.ne E_auth.lt (Nat.le_trans (old_le O0) (Nat.le_of_eq g5.symm))
          have ne7 : empty_ ≠ b5 := O0.ne E_em.lt (Nat.le_trans (old_le O0) (Nat.le_of_eq g5.symm))
          have ne8 : impl ≠ b5 := O0.ne E_impl.lt (Nat.le_trans (old_le O0) (Nat.le_of_eq g5.symm))
          have ne9 : va ≠ b5 := O0.ne E_va.lt (Nat.le_trans (old_le O0) (Nat.le_of_eq g5.symm))
          have ne10 : w1 ≠ b5 := O0.ne Q_w1.lt (Nat.le_trans (old_le O0) (Nat.le_of_eq g5.symm))
          have ne11 : w2 ≠ b5 := O0.ne Q_w2.lt (Nat.le_trans (old_le O0) (Nat.le_of_eq g5.symm))
          have sz_b5 : h0.size ≤ b5 := Nat.le_trans (Keep.refl h0 []).1 (Nat.le_of_eq g5.symm)
          have ge_b5 : n0 ≤ b5 := Nat.le_trans (old_le O0) (Nat.le_of_eq g5.symm)
          have hk := Nat.le_trans hk E5.1
          have CR := CR.trans (CHr.ext E5 CR.1)
          have K5 : Keep h0 h5 [] := (Keep.refl h0 []).ext E5
          have O5 := O0.ext E5
          have V5 : Arv Z h5 b5 k5 .char (0 : Int32) [] (.int (0 : Int32)) := (Arv.new A5 (by decide)).pad (pad_rep [] (.int (0 : Int32)) 0)
          refine stp st5 ?_
          show Go p e below T5 (mkF m 69 #[.val (.int p0), .val (.int p1), .val (.int p2), .val (.int p3), .val (.int p4), .val (.int ((p0 &&& (2147483647 : Int32)) % (5 : Int32))), .val (.int cc), .val (.int kp), .val (.int (0 : Int32)), .unset, .unset, .unset] [(.ref b5)]) _
          refine stp (fun _ => XS.astore X5.here hx rfl (hb hby at_69) rfl rfl (l' := #[.val (.int p0), .val (.int p1), .val (.int p2), .val (.int p3), .val (.int p4), .val (.int ((p0 &&& (2147483647 : Int32)) % (5 : Int32))), .val (.int cc), .val (.int kp), .val (.int (0 : Int32)), .val (.ref b5), .unset, .unset]) rfl) ?_
          show Go p e below T5 (mkF m 71 #[.val (.int p0), .val (.int p1), .val (.int p2), .val (.int p3), .val (.int p4), .val (.int ((p0 &&& (2147483647 : Int32)) % (5 : Int32))), .val (.int cc), .val (.int kp), .val (.int (0 : Int32)), .val (.ref b5), .unset, .unset] []) _
          refine stp (fun _ => XS.iload X5.here hx rfl (hb hby at_71) rfl) ?_
          show Go p e below T5 (mkF m 73 #[.val (.int p0), .val (.int p1), .val (.int p2), .val (.int p3), .val (.int p4), .val (.int ((p0 &&& (2147483647 : Int32)) % (5 : Int32))), .val (.int cc), .val (.int kp), .val (.int (0 : Int32)), .val (.ref b5), .unset, .unset] [(.int (0 : Int32))]) _
          refine stp (fun _ => XS.ifYes X5.here hx rfl (pc0 := 73) (pc' := 82) rfl (hb hby at_73) rfl (by decide) (by decide) (by decide)) ?_
          show Go p e below T5 (mkF m 82 #[.val (.int p0), .val (.int p1), .val (.int p2), .val (.int p3), .val (.int p4), .val (.int ((p0 &&& (2147483647 : Int32)) % (5 : Int32))), .val (.int cc), .val (.int kp), .val (.int (0 : Int32)), .val (.ref b5), .unset, .unset] []) _
          refine stp (fun _ => XS.iload X5.here hx rfl (hb hby at_82) rfl) ?_
          show Go p e below T5 (mkF m 84 #[.val (.int p0), .val (.int p1), .val (.int p2), .val (.int p3), .val (.int p4), .val (.int ((p0 &&& (2147483647 : Int32)) % (5 : Int32))), .val (.int cc), .val (.int kp), .val (.int (0 : Int32)), .val (.ref b5), .unset, .unset] [(.int (0 : Int32))]) _
          refine stp (fun _ => XS.iconst X5.here hx rfl (hb hby at_84)) ?_
          show Go p e below T5 (mkF m 85 #[.val (.int p0), .val (.int p1), .val (.int p2), .val (.int p3), .val (.int p4), .val (.int ((p0 &&& (2147483647 : Int32)) % (5 : Int32))), .val (.int cc), .val (.int kp), .val (.int (0 : Int32)), .val (.ref b5), .unset, .unset] [(.int (1 : Int32)), (.int (0 : Int32))]) _
          refine stp (fun _ => XS.icmpYes X5.here hx rfl (pc0 := 85) (pc' := 98) rfl (hb hby at_85) rfl (by decide) (by decide) (by decide)) ?_
          show Go p e below T5 (mkF m 98 #[.val (.int p0), .val (.int p1), .val (.int p2), .val (.int p3), .val (.int p4), .val (.int ((p0 &&& (2147483647 : Int32)) % (5 : Int32))), .val (.int cc), .val (.int kp), .val (.int (0 : Int32)), .val (.ref b5), .unset, .unset] []) _
          refine stp (fun _ => XS.iload X5.here hx rfl (hb hby at_98) rfl) ?_
          show Go p e below T5 (mkF m 100 #[.val (.int p0), .val (.int p1), .val (.int p2), .val (.int p3), .val (.int p4), .val (.int ((p0 &&& (2147483647 : Int32)) % (5 : Int32))), .val (.int cc), .val (.int kp), .val (.int (0 : Int32)), .val (.ref b5), .unset, .unset] [(.int (0 : Int32))]) _
          refine stp (fun _ => XS.iconst X5.here hx rfl (hb hby at_100)) ?_
          show Go p e below T5 (mkF m 101 #[.val (.int p0), .val (.int p1), .val (.int p2), .val (.int p3), .val (.int p4), .val (.int ((p0 &&& (2147483647 : Int32)) % (5 : Int32))), .val (.int cc), .val (.int kp), .val (.int (0 : Int32)), .val (.ref b5), .unset, .unset] [(.int (2 : Int32)), (.int (0 : Int32))]) _
          refine stp (fun _ => XS.icmpYes X5.here hx rfl (pc0 := 101) (pc' := 115) rfl (hb hby at_101) rfl (by decide) (by decide) (by decide)) ?_
          show Go p e below T5 (mkF m 115 #[.val (.int p0), .val (.int p1), .val (.int p2), .val (.int p3), .val (.int p4), .val (.int ((p0 &&& (2147483647 : Int32)) % (5 : Int32))), .val (.int cc), .val (.int kp), .val (.int (0 : Int32)), .val (.ref b5), .unset, .unset] []) _
          obtain ⟨T12, h12, X12, e12, E12, A12, D12, -, st12⟩ := newO X5 hx hZ hown (hw _ (List.mem_of_getElem? (i := 43) rfl)) (hw _ (List.mem_of_getElem? (i := 44) rfl)) (hw _ (List.mem_of_getElem? (i := 28) rfl)) e5 (g := (mkF m 115 #[.val (.int p0), .val (.int p1), .val (.int p2), .val (.int p3), .val (.int p4), .val (.int ((p0 &&& (2147483647 : Int32)) % (5 : Int32))), .val (.int cc), .val (.int kp), .val (.int (0 : Int32)), .val (.ref b5), .unset, .unset] [])) rfl (hb hby at_115) (by decide) (by decide)
          obtain ⟨b12, g12⟩ : ∃ z, z = h5.size := ⟨_, rfl⟩
          rw [← g12] at A12 D12 st12
          have ne13 : auth ≠ b12 := O5.ne E_auth.lt (Nat.le_trans (old_le O5) (Nat.le_of_eq g12.symm))
          have ne14 : b5 ≠ b12 := Nat.ne_of_lt (Nat.lt_of_lt_of_le B5.lt (Nat.le_of_eq g12.symm))
          have ne15 : empty_ ≠ b12 := O5.ne E_em.lt (Nat.le_trans (old_le O5) (Nat.le_of_eq g12.symm))
          have ne16 : impl ≠ b12 := O5.ne E_impl.lt (Nat.le_trans (old_le O5) (Nat.le_of_eq g12.symm))
          have ne17 : va ≠ b12 := O5.ne E_va.lt (Nat.le_trans (old_le O5) (Nat.le_of_eq g12.symm))
          have ne18 : w1 ≠ b12 := O5.ne Q_w1.lt (Nat.le_trans (old_le O5) (Nat.le_of_eq g12.symm))
          have ne19 : w2 ≠ b12 := O5.ne Q_w2.lt (Nat.le_trans (old_le O5) (Nat.le_of_eq g12.symm))
          have sz_b12 : h0.size ≤ b12 := Nat.le_trans K5.1 (Nat.le_of_eq g12.symm)
          have ge_b12 : n0 ≤ b12 := Nat.le_trans (old_le O5) (Nat.le_of_eq g12.symm)
          have f20 := B5.ext E12
          have f21 := V5.ext E12
          have Sf12 := (Safe.new (Z := Z) (EL := consts_1) (Nat.le_of_eq g12.symm)).ext E12 CR.1
          have hk := Nat.le_trans hk E12.1
          have CR := CR.trans (CHr.ext E12 CR.1)
          have K12 : Keep h0 h12 [] := K5.ext E12
          have O12 := O5.ext E12
          have F22 : Fld Z h12 b12 "java/lang/String" "coder" "B" (.int (0 : Int32)) := D12 (Or.inr (hw _ (List.mem_of_getElem? (i := 68) rfl))) (ty := .byte) (by decide)
          have F23 : Fld Z h12 b12 "java/lang/String" "value" "[B" .null := D12 (Or.inr (hw _ (List.mem_of_getElem? (i := 70) rfl))) (ty := (.array .byte)) (by decide)
          refine stp st12 ?_
          show Go p e below T12 (mkF m 118 #[.val (.int p0), .val (.int p1), .val (.int p2), .val (.int p3), .val (.int p4), .val (.int ((p0 &&& (2147483647 : Int32)) % (5 : Int32))), .val (.int cc), .val (.int kp), .val (.int (0 : Int32)), .val (.ref b5), .unset, .unset] [(.ref b12)]) _
          refine stp (fun _ => XS.dup X12.here hx rfl (hb hby at_118) rfl rfl) ?_
          show Go p e below T12 (mkF m 119 #[.val (.int p0), .val (.int p1), .val (.int p2), .val (.int p3), .val (.int p4), .val (.int ((p0 &&& (2147483647 : Int32)) % (5 : Int32))), .val (.int cc), .val (.int kp), .val (.int (0 : Int32)), .val (.ref b5), .unset, .unset] [(.ref b12), (.ref b12)]) _
          refine stp (fun _ => XS.aload X12.here hx rfl (hb hby at_119) rfl rfl) ?_
          show Go p e below T12 (mkF m 121 #[.val (.int p0), .val (.int p1), .val (.int p2), .val (.int p3), .val (.int p4), .val (.int ((p0 &&& (2147483647 : Int32)) % (5 : Int32))), .val (.int cc), .val (.int kp), .val (.int (0 : Int32)), .val (.ref b5), .unset, .unset] [(.ref b5), (.ref b12), (.ref b12)]) _
          obtain ⟨_, _, ⟨T24, L24, k24, n24⟩, -, X24, hS24, gg24, ⟨Lc24, hQ24, l24, y24, z24, CRn24⟩, st24⟩ := X12.specialBackS hx (y := (⟨"java/lang/String", "<init>", "([C)V"⟩ : MethodName)) rfl hown (mvT hZ (hw _ (List.mem_of_getElem? (i := 45) rfl))) (mvT hZ (hw _ (List.mem_of_getElem? (i := 46) rfl))) (mvT hZ (hw _ (List.mem_of_getElem? (i := 47) rfl))) (by decide) (backOfSH (W := 1) (rm_s0 l Z a0 hw [] b12 b5 k5 h12 n0 O12 hEL A12 F23 F22 f21 ge_b12 ne14) hZ (hw _ (List.mem_of_getElem? (i := 47) rfl)) (hw _ (List.mem_of_getElem? (i := 28) rfl)) (by decide) (by decide) hEL CR.1) (g := (mkF m 121 #[.val (.int p0), .val (.int p1), .val (.int p2), .val (.int p3), .val (.int p4), .val (.int ((p0 &&& (2147483647 : Int32)) % (5 : Int32))), .val (.int cc), .val (.int kp), .val (.int (0 : Int32)), .val (.ref b5), .unset, .unset] [(.ref b5), (.ref b12), (.ref b12)])) rfl (by rw [hml]; rfl) (Steps.refl _) (a := b12) (argsL := [(.ref b5)]) (rest := [(.ref b12)]) (lenOf pd_7 rfl) rfl (by show 2 * 0 + _ ≤ _; exact Nat.le_of_eq rfl) (hb hby at_121) (fun _ _ => ⟨rfl, e12, (by decide : 2 + 2 ≤ _), (by decide : 4 + 4 ≤ _)⟩)
          dsimp only [Pt.U, Pt.locs, Pt.cells, Pt.slots] at X24 hS24 gg24 l24 y24 z24 st24 hQ24 CRn24
          subst y24 z24
          obtain ⟨X24, hS, hZ, hown⟩ := rebS hS (by rw [e12]; exact hk) X24 hS24 gg24 hZ hown
          obtain ⟨rfl, N24q, K24q, r24_0⟩ := hQ24
          have N24 : Fr n0 L24 := by rw [l24]; exact Fr.app N0 N24q
          have f25 := f20.keep K24q
          have f26 := f21.keep K24q (ninS ne14 nin0)
          have f27 := CRn24.safe F23.lt Sf12
          have f28 := A12.keep K24q
          have K24 : Keep h0 T24.heap [] := K12.trans K24q (allS (Or.inr sz_b12) all0)
          have O24 := O12.keep K24q (allS ge_b12 all0)
          have hk : T24.heap.size ≤ T24.heap.size := Nat.le_refl _
          have CR := CR.trans CRn24
          refine stt st24 ?_
          show Go p e below T24 (mkF m 124 #[.val (.int p0), .val (.int p1), .val (.int p2), .val (.int p3), .val (.int p4), .val (.int ((p0 &&& (2147483647 : Int32)) % (5 : Int32))), .val (.int cc), .val (.int kp), .val (.int (0 : Int32)), .val (.ref b5), .unset, .unset] [(.ref b12)]) _
          obtain ⟨_, _, ⟨T29, L29, k29, n29⟩, -, X29, ⟨Lc29, hQ29, l29, y29, z29⟩, st29⟩ := Jvm.LawKit.callS X24 hx (y := (⟨"com/example/uriel/uriel/grant/GrantType", "fromWireName", "(Ljava/lang/String;)Ljava/util/Optional;"⟩ : MethodName)) hown (mvT hZ (hw _ (List.mem_of_getElem? (i := 1) rfl))) (mvT hZ (hw _ (List.mem_of_getElem? (i := 2) rfl))) (mvT hZ (hw _ (List.mem_of_getElem? (i := 3) rfl))) (mvT hZ (hw _ (List.mem_of_getElem? (i := 4) rfl))) (by decide) (backOf (W := 0) (rm_fwn l Z a0 hw [] b12 auth impl va w1 w2 empty_ [] cz k_va T24.heap n0 O24 S_VALUES E_va V_va F_w1 F_w2 Q_w1 Q_w2 S_EM r24_0 S_CS hcz (own_ac_ne (show (18 : Nat) ≠ 0 by decide)) (own_im_ne (show (8 : Nat) ≠ 0 by decide))) hZ (hw _ (List.mem_of_getElem? (i := 4) rfl)) (hw _ (List.mem_of_getElem? (i := 3) rfl)) (by decide) (by decide)) (g := (mkF m 124 #[.val (.int p0), .val (.int p1), .val (.int p2), .val (.int p3), .val (.int p4), .val (.int ((p0 &&& (2147483647 : Int32)) % (5 : Int32))), .val (.int cc), .val (.int kp), .val (.int (0 : Int32)), .val (.ref b5), .unset, .unset] [(.ref b12)])) rfl (by rw [hml]; rfl) (argsL := [(.ref b12)]) (rest := []) (lenOf pd_5 rfl) rfl (by show 2 * 0 + _ ≤ _; exact Nat.le_of_eq rfl) (hb hby at_124) (fun _ _ => ⟨rfl, rfl, (by decide : 4 + 1 ≤ _), (by decide : 8 + 2 ≤ _)⟩)
          dsimp only [Pt.U, Pt.locs, Pt.cells, Pt.slots] at X29 l29 y29 z29 st29 hQ29
          subst y29 z29
          obtain ⟨rfl, N29q, K29q⟩ := hQ29
          have N29 : Fr n0 L29 := by rw [l29]; exact Fr.app N24 N29q
          have f30 := f25.keep K29q
          have f31 := f26.keep K29q nin0
          have f32 := f27.keep K29q sf0 CR.1
          have f33 := r24_0.exa.keep K29q
          have f34 := r24_0.keep K29q nin0 apart0
          have hk := Nat.le_trans hk K29q.1
          have CR := CR.trans (CHr.keep K29q sf0 CR.1)
          have K29 : Keep h0 T29.heap [] := K24.trans K29q all0
          have O29 := O24.keep K29q all0
          refine stp st29 ?_
          show Go p e below T29 (mkF m 127 #[.val (.int p0), .val (.int p1), .val (.int p2), .val (.int p3), .val (.int p4), .val (.int ((p0 &&& (2147483647 : Int32)) % (5 : Int32))), .val (.int cc), .val (.int kp), .val (.int (0 : Int32)), .val (.ref b5), .unset, .unset] [(.ref empty_)]) _
          refine stp (fun _ => XS.aconstNull X29.here hx rfl (hb hby at_127)) ?_
          show Go p e below T29 (mkF m 128 #[.val (.int p0), .val (.int p1), .val (.int p2), .val (.int p3), .val (.int p4), .val (.int ((p0 &&& (2147483647 : Int32)) % (5 : Int32))), .val (.int cc), .val (.int kp), .val (.int (0 : Int32)), .val (.ref b5), .unset, .unset] [.null, (.ref empty_)]) _
          obtain ⟨cq35, kq35, q35a, q35b, q35c⟩ := isOf hZ rfl (E_em.ext O29.2)
          obtain ⟨_, _, ⟨T35, L35, k35, n35⟩, -, X35, ⟨Lc35, hQ35, l35, y35, z35⟩, st35⟩ := X29.virtualBack hx (y := (⟨"java/util/Optional", "orElse", "(Ljava/lang/Object;)Ljava/lang/Object;"⟩ : MethodName)) (z := (⟨"java/util/Optional", "orElse", "(Ljava/lang/Object;)Ljava/lang/Object;"⟩ : MethodName)) hown (mvT hZ (hw _ (List.mem_of_getElem? (i := 35) rfl))) (mvT hZ (hw _ (List.mem_of_getElem? (i := 36) rfl))) (notFace_of_selects (args := #[]) (mvT hZ (hw _ (List.mem_of_getElem? (i := 38) rfl)))) (mvT hZ (hw _ (List.mem_of_getElem? (i := 38) rfl))) (mvT hZ (hw _ (List.mem_of_getElem? (i := 37) rfl))) (by decide) (backOf (W := 0) (rm_oe0 l Z a0 hw [] empty_  T29.heap n0 O29 F_em) hZ (hw _ (List.mem_of_getElem? (i := 39) rfl)) (hw _ (List.mem_of_getElem? (i := 32) rfl)) (by decide) (by decide)) q35a q35c (g := (mkF m 128 #[.val (.int p0), .val (.int p1), .val (.int p2), .val (.int p3), .val (.int p4), .val (.int ((p0 &&& (2147483647 : Int32)) % (5 : Int32))), .val (.int cc), .val (.int kp), .val (.int (0 : Int32)), .val (.ref b5), .unset, .unset] [.null, (.ref empty_)])) rfl (by rw [hml]; rfl) (Steps.refl _) (argsL := [.null]) (rest := []) (lenOf pd_6 rfl) rfl (by show 2 * 0 + _ ≤ _; exact Nat.le_of_eq rfl) (hb hby at_128) (fun _ _ => ⟨rfl, rfl, (by decide : 5 + 0 ≤ _), (by decide : 10 + 0 ≤ _)⟩)
          dsimp only [Pt.U, Pt.locs, Pt.cells, Pt.slots] at X35 l35 y35 z35 st35 hQ35
          subst y35 z35
          obtain ⟨rfl, N35q, e35⟩ := hQ35
          have N35 : Fr n0 L35 := by rw [l35]; exact Fr.app N29 N35q
          refine stt st35 ?_
          show Go p e below T35 (mkF m 131 #[.val (.int p0), .val (.int p1), .val (.int p2), .val (.int p3), .val (.int p4), .val (.int ((p0 &&& (2147483647 : Int32)) % (5 : Int32))), .val (.int cc), .val (.int kp), .val (.int (0 : Int32)), .val (.ref b5), .unset, .unset] [.null]) _
          refine stp (fun _ => XS.ifnonnullNo X35.here hx rfl (hb hby at_131) rfl) ?_
          show Go p e below T35 (mkF m 134 #[.val (.int p0), .val (.int p1), .val (.int p2), .val (.int p3), .val (.int p4), .val (.int ((p0 &&& (2147483647 : Int32)) % (5 : Int32))), .val (.int cc), .val (.int kp), .val (.int (0 : Int32)), .val (.ref b5), .unset, .unset] []) _
          refine stp (fun _ => XS.iconst X35.here hx rfl (hb hby at_134)) ?_
          show Go p e below T35 (mkF m 135 #[.val (.int p0), .val (.int p1), .val (.int p2), .val (.int p3), .val (.int p4), .val (.int ((p0 &&& (2147483647 : Int32)) % (5 : Int32))), .val (.int cc), .val (.int kp), .val (.int (0 : Int32)), .val (.ref b5), .unset, .unset] [(.int (1 : Int32))]) _
          refine stp (fun _ => XS.goto X35.here hx rfl (pc0 := 135) (pc' := 139) rfl (hb hby at_135) (by decide) (by decide)) ?_
          show Go p e below T35 (mkF m 139 #[.val (.int p0), .val (.int p1), .val (.int p2), .val (.int p3), .val (.int p4), .val (.int ((p0 &&& (2147483647 : Int32)) % (5 : Int32))), .val (.int cc), .val (.int kp), .val (.int (0 : Int32)), .val (.ref b5), .unset, .unset] [(.int (1 : Int32))]) _
          refine outNW X35 hx hZ hEL e35 hS hk CR (t := .boolean) hret (by simp) (hb hby at_139) hlk (by decide) (by decide) ?_
          exact ⟨rfl, N35⟩
        · show Go p e below T0 (mkF m 65 #[.val (.int p0), .val (.int p1), .val (.int p2), .val (.int p3), .val (.int p4), .val (.int ((p0 &&& (2147483647 : Int32)) % (5 : Int32))), .val (.int cc), .val (.int kp), .val (.int (1 : Int32)), .unset, .unset, .unset] []) _
          refine stp (fun _ => XS.iload X0.here hx rfl (hb hby at_65) rfl) ?_
          show Go p e below T0 (mkF m 67 #[.val (.int p0), .val (.int p1), .val (.int p2), .val (.int p3), .val (.int p4), .val (.int ((p0 &&& (2147483647 : Int32)) % (5 : Int32))), .val (.int cc), .val (.int kp), .val (.int (1 : Int32)), .unset, .unset, .unset] [(.int (1 : Int32))]) _
          obtain ⟨T36, h36, k36, X36, e36, E36, A36, B36, st36⟩ := newPE X0 hx hZ (hw _ (List.mem_of_getElem? (i := 42) rfl)) e0 (g := (mkF m 67 #[.val (.int p0), .val (.int p1), .val (.int p2), .val (.int p3), .val (.int p4), .val (.int ((p0 &&& (2147483647 : Int32)) % (5 : Int32))), .val (.int cc), .val (.int kp), .val (.int (1 : Int32)), .unset, .unset, .unset] [(.int (1 : Int32))])) rfl (hb hby at_67) rfl (by decide) (cap := 1) (by decide) (by decide) (by decide) (by decide) (ad := "[C") (by decide)
          obtain ⟨b36, g36⟩ : ∃ z, z = h0.size := ⟨_, rfl⟩
          rw [← g36] at A36 B36 st36
          have ne37 : auth ≠ b36 := O0.ne E_auth.lt (Nat.le_trans (old_le O0) (Nat.le_of_eq g36.symm))
          have ne38 : empty_ ≠ b36 := O0.ne E_em.lt (Nat.le_trans (old_le O0) (Nat.le_of_eq g36.symm))
          have ne39 : impl ≠ b36 := O0.ne E_impl.lt (Nat.le_trans (old_le O0) (Nat.le_of_eq g36.symm))
          have ne40 : va ≠ b36 := O0.ne E_va.lt (Nat.le_trans (old_le O0) (Nat.le_of_eq g36.symm))
          have ne41 : w1 ≠ b36 := O0.ne Q_w1.lt (Nat.le_trans (old_le O0) (Nat.le_of_eq g36.symm))
          have ne42 : w2 ≠ b36 := O0.ne Q_w2.lt (Nat.le_trans (old_le O0) (Nat.le_of_eq g36.symm))
          have sz_b36 : h0.size ≤ b36 := Nat.le_trans (Keep.refl h0 []).1 (Nat.le_of_eq g36.symm)
          have ge_b36 : n0 ≤ b36 := Nat.le_trans (old_le O0) (Nat.le_of_eq g36.symm)
          have hk := Nat.le_trans hk E36.1
          have CR := CR.trans (CHr.ext E36 CR.1)
          have K36 : Keep h0 h36 [] := (Keep.refl h0 []).ext E36
          have O36 := O0.ext E36
          have V36 : Arv Z h36 b36 k36 .char (1 : Int32) [(.int (0 : Int32))] (.int (0 : Int32)) := (Arv.new A36 (by decide)).pad (pad_rep [] (.int (0 : Int32)) 1)
          refine stp st36 ?_
          show Go p e below T36 (mkF m 69 #[.val (.int p0), .val (.int p1), .val (.int p2), .val (.int p3), .val (.int p4), .val (.int ((p0 &&& (2147483647 : Int32)) % (5 : Int32))), .val (.int cc), .val (.int kp), .val (.int (1 : Int32)), .unset, .unset, .unset] [(.ref b36)]) _
          refine stp (fun _ => XS.astore X36.here hx rfl (hb hby at_69) rfl rfl (l' := #[.val (.int p0), .val (.int p1), .val (.int p2), .val (.int p3), .val (.int p4), .val (.int ((p0 &&& (2147483647 : Int32)) % (5 : Int32))), .val (.int cc), .val (.int kp), .val (.int (1 : Int32)), .val (.ref b36), .unset, .unset]) rfl) ?_
          show Go p e below T36 (mkF m 71 #[.val (.int p0), .val (.int p1), .val (.int p2), .val (.int p3), .val (.int p4), .val (.int ((p0 &&& (2147483647 : Int32)) % (5 : Int32))), .val (.int cc), .val (.int kp), .val (.int (1 : Int32)), .val (.ref b36), .unset, .unset] []) _
          refine stp (fun _ => XS.iload X36.here hx rfl (hb hby at_71) rfl) ?_
          show Go p e below T36 (mkF m 73 #[.val (.int p0), .val (.int p1), .val (.int p2), .val (.int p3), .val (.int p4), .val (.int ((p0 &&& (2147483647 : Int32)) % (5 : Int32))), .val (.int cc), .val (.int kp), .val (.int (1 : Int32)), .val (.ref b36), .unset, .unset] [(.int (1 : Int32))]) _
          refine stp (fun _ => XS.ifNo X36.here hx rfl (hb hby at_73) rfl (by decide)) ?_
          show Go p e below T36 (mkF m 76 #[.val (.int p0), .val (.int p1), .val (.int p2), .val (.int p3), .val (.int p4), .val (.int ((p0 &&& (2147483647 : Int32)) % (5 : Int32))), .val (.int cc), .val (.int kp), .val (.int (1 : Int32)), .val (.ref b36), .unset, .unset] []) _
          refine stp (fun _ => XS.aload X36.here hx rfl (hb hby at_76) rfl rfl) ?_
          show Go p e below T36 (mkF m 78 #[.val (.int p0), .val (.int p1), .val (.int p2), .val (.int p3), .val (.int p4), .val (.int ((p0 &&& (2147483647 : Int32)) % (5 : Int32))), .val (.int cc), .val (.int kp), .val (.int (1 : Int32)), .val (.ref b36), .unset, .unset] [(.ref b36)]) _
          refine stp (fun _ => XS.iconst X36.here hx rfl (hb hby at_78)) ?_
          show Go p e below T36 (mkF m 79 #[.val (.int p0), .val (.int p1), .val (.int p2), .val (.int p3), .val (.int p4), .val (.int ((p0 &&& (2147483647 : Int32)) % (5 : Int32))), .val (.int cc), .val (.int kp), .val (.int (1 : Int32)), .val (.ref b36), .unset, .unset] [(.int (0 : Int32)), (.ref b36)]) _
          refine stp (fun _ => XS.iload X36.here hx rfl (hb hby at_79) rfl) ?_
          show Go p e below T36 (mkF m 81 #[.val (.int p0), .val (.int p1), .val (.int p2), .val (.int p3), .val (.int p4), .val (.int ((p0 &&& (2147483647 : Int32)) % (5 : Int32))), .val (.int cc), .val (.int kp), .val (.int (1 : Int32)), .val (.ref b36), .unset, .unset] [(.int cc), (.int (0 : Int32)), (.ref b36)]) _
          obtain ⟨cl43, Ar43, q43, S43, M43, H43, G43⟩ := (id V36)
          have in43 : ¬ ((0 : Int32) < 0 ∨ cl43.slots.size ≤ ((0 : Int32)).toNatClampNeg) := inb_of S43 ⟨by decide, by decide⟩
          obtain ⟨T43, h43, X43, e43, W43, st43⟩ := stC X36 hx hZ e36 Ar43 (j := (0 : Int32)) in43 (g := (mkF m 81 #[.val (.int p0), .val (.int p1), .val (.int p2), .val (.int p3), .val (.int p4), .val (.int ((p0 &&& (2147483647 : Int32)) % (5 : Int32))), .val (.int cc), .val (.int kp), .val (.int (1 : Int32)), .val (.ref b36), .unset, .unset] [(.int cc), (.int (0 : Int32)), (.ref b36)])) rfl rfl (hb hby at_81)
          have V43 : Arv Z h43 b36 k36 .char (1 : Int32) [(.int cc)] (.int (0 : Int32)) := Arv.set Ar43 q43 S43 M43 H43 G43 (ow_fits_char (char255 hcc)) (ow_wr_char (char255 hcc) W43) 0 rfl (Nat.le_of_ble_eq_true rfl)
          have f44 := B36.wr W43
          have hk := Nat.le_trans hk (Keep.of_wr W43).1
          have CR := CR.trans (CHr.wr W43 (Safe.exa hZ.alike B36 (by decide) (by decide)) CR.1)
          have K43 : Keep h0 h43 [] := K36.wr W43 (Or.inr sz_b36)
          have O43 := O36.wr W43 ge_b36
          have N43 := Fr.snoc X43 N0 ge_b36
          refine stp st43 ?_
          show Go p e below T43 (mkF m 82 #[.val (.int p0), .val (.int p1), .val (.int p2), .val (.int p3), .val (.int p4), .val (.int ((p0 &&& (2147483647 : Int32)) % (5 : Int32))), .val (.int cc), .val (.int kp), .val (.int (1 : Int32)), .val (.ref b36), .unset, .unset] []) _
          refine stp (fun _ => XS.iload X43.here hx rfl (hb hby at_82) rfl) ?_
          show Go p e below T43 (mkF m 84 #[.val (.int p0), .val (.int p1), .val (.int p2), .val (.int p3), .val (.int p4), .val (.int ((p0 &&& (2147483647 : Int32)) % (5 : Int32))), .val (.int cc), .val (.int kp), .val (.int (1 : Int32)), .val (.ref b36), .unset, .unset] [(.int (1 : Int32))]) _
          refine stp (fun _ => XS.iconst X43.here hx rfl (hb hby at_84)) ?_
          show Go p e below T43 (mkF m 85 #[.val (.int p0), .val (.int p1), .val (.int p2), .val (.int p3), .val (.int p4), .val (.int ((p0 &&& (2147483647 : Int32)) % (5 : Int32))), .val (.int cc), .val (.int kp), .val (.int (1 : Int32)), .val (.ref b36), .unset, .unset] [(.int (1 : Int32)), (.int (1 : Int32))]) _
          refine stp (fun _ => XS.icmpYes X43.here hx rfl (pc0 := 85) (pc' := 98) rfl (hb hby at_85) rfl (by decide) (by decide) (by decide)) ?_
          show Go p e below T43 (mkF m 98 #[.val (.int p0), .val (.int p1), .val (.int p2), .val (.int p3), .val (.int p4), .val (.int ((p0 &&& (2147483647 : Int32)) % (5 : Int32))), .val (.int cc), .val (.int kp), .val (.int (1 : Int32)), .val (.ref b36), .unset, .unset] []) _
          refine stp (fun _ => XS.iload X43.here hx rfl (hb hby at_98) rfl) ?_
          show Go p e below T43 (mkF m 100 #[.val (.int p0), .val (.int p1), .val (.int p2), .val (.int p3), .val (.int p4), .val (.int ((p0 &&& (2147483647 : Int32)) % (5 : Int32))), .val (.int cc), .val (.int kp), .val (.int (1 : Int32)), .val (.ref b36), .unset, .unset] [(.int (1 : Int32))]) _
          refine stp (fun _ => XS.iconst X43.here hx rfl (hb hby at_100)) ?_
          show Go p e below T43 (mkF m 101 #[.val (.int p0), .val (.int p1), .val (.int p2), .val (.int p3), .val (.int p4), .val (.int ((p0 &&& (2147483647 : Int32)) % (5 : Int32))), .val (.int cc), .val (.int kp), .val (.int (1 : Int32)), .val (.ref b36), .unset, .unset] [(.int (2 : Int32)), (.int (1 : Int32))]) _
          refine stp (fun _ => XS.icmpYes X43.here hx rfl (pc0 := 101) (pc' := 115) rfl (hb hby at_101) rfl (by decide) (by decide) (by decide)) ?_
          show Go p e below T43 (mkF m 115 #[.val (.int p0), .val (.int p1), .val (.int p2), .val (.int p3), .val (.int p4), .val (.int ((p0 &&& (2147483647 : Int32)) % (5 : Int32))), .val (.int cc), .val (.int kp), .val (.int (1 : Int32)), .val (.ref b36), .unset, .unset] []) _
          obtain ⟨T46, h46, X46, e46, E46, A46, D46, -, st46⟩ := newO X43 hx hZ hown (hw _ (List.mem_of_getElem? (i := 43) rfl)) (hw _ (List.mem_of_getElem? (i := 44) rfl)) (hw _ (List.mem_of_getElem? (i := 28) rfl)) e43 (g := (mkF m 115 #[.val (.int p0), .val (.int p1), .val (.int p2), .val (.int p3), .val (.int p4), .val (.int ((p0 &&& (2147483647 : Int32)) % (5 : Int32))), .val (.int cc), .val (.int kp), .val (.int (1 : Int32)), .val (.ref b36), .unset, .unset] [])) rfl (hb hby at_115) (by decide) (by decide)
          obtain ⟨b46, g46⟩ : ∃ z, z = h43.size := ⟨_, rfl⟩
          rw [← g46] at A46 D46 st46
          have ne47 : auth ≠ b46 := O43.ne E_auth.lt (Nat.le_trans (old_le O43) (Nat.le_of_eq g46.symm))
          have ne48 : b36 ≠ b46 := Nat.ne_of_lt (Nat.lt_of_lt_of_le f44.lt (Nat.le_of_eq g46.symm))
          have ne49 : empty_ ≠ b46 := O43.ne E_em.lt (Nat.le_trans (old_le O43) (Nat.le_of_eq g46.symm))
          have ne50 : impl ≠ b46 := O43.ne E_impl.lt (Nat.le_trans (old_le O43) (Nat.le_of_eq g46.symm))
          have ne51 : va ≠ b46 := O43.ne E_va.lt (Nat.le_trans (old_le O43) (Nat.le_of_eq g46.symm))
          have ne52 : w1 ≠ b46 := O43.ne Q_w1.lt (Nat.le_trans (old_le O43) (Nat.le_of_eq g46.symm))
          have ne53 : w2 ≠ b46 := O43.ne Q_w2.lt (Nat.le_trans (old_le O43) (Nat.le_of_eq g46.symm))
          have sz_b46 : h0.size ≤ b46 := Nat.le_trans K43.1 (Nat.le_of_eq g46.symm)
          have ge_b46 : n0 ≤ b46 := Nat.le_trans (old_le O43) (Nat.le_of_eq g46.symm)
          have f54 := f44.ext E46
          have f55 := V43.ext E46
          have Sf46 := (Safe.new (Z := Z) (EL := consts_1) (Nat.le_of_eq g46.symm)).ext E46 CR.1
          have hk := Nat.le_trans hk E46.1
          have CR := CR.trans (CHr.ext E46 CR.1)
          have K46 : Keep h0 h46 [] := K43.ext E46
          have O46 := O43.ext E46
          have F56 : Fld Z h46 b46 "java/lang/String" "coder" "B" (.int (0 : Int32)) := D46 (Or.inr (hw _ (List.mem_of_getElem? (i := 68) rfl))) (ty := .byte) (by decide)
          have F57 : Fld Z h46 b46 "java/lang/String" "value" "[B" .null := D46 (Or.inr (hw _ (List.mem_of_getElem? (i := 70) rfl))) (ty := (.array .byte)) (by decide)
          refine stp st46 ?_
          show Go p e below T46 (mkF m 118 #[.val (.int p0), .val (.int p1), .val (.int p2), .val (.int p3), .val (.int p4), .val (.int ((p0 &&& (2147483647 : Int32)) % (5 : Int32))), .val (.int cc), .val (.int kp), .val (.int (1 : Int32)), .val (.ref b36), .unset, .unset] [(.ref b46)]) _
          refine stp (fun _ => XS.dup X46.here hx rfl (hb hby at_118) rfl rfl) ?_
          show Go p e below T46 (mkF m 119 #[.val (.int p0), .val (.int p1), .val (.int p2), .val (.int p3), .val (.int p4), .val (.int ((p0 &&& (2147483647 : Int32)) % (5 : Int32))), .val (.int cc), .val (.int kp), .val (.int (1 : Int32)), .val (.ref b36), .unset, .unset] [(.ref b46), (.ref b46)]) _
          refine stp (fun _ => XS.aload X46.here hx rfl (hb hby at_119) rfl rfl) ?_
          show Go p e below T46 (mkF m 121 #[.val (.int p0), .val (.int p1), .val (.int p2), .val (.int p3), .val (.int p4), .val (.int ((p0 &&& (2147483647 : Int32)) % (5 : Int32))), .val (.int cc), .val (.int kp), .val (.int (1 : Int32)), .val (.ref b36), .unset, .unset] [(.ref b36), (.ref b46), (.ref b46)]) _
          obtain ⟨_, _, ⟨T58, L58, k58, n58⟩, -, X58, ⟨Lc58, hQ58, l58, y58, z58⟩, st58⟩ := X46.specialBack hx (y := (⟨"java/lang/String", "<init>", "([C)V"⟩ : MethodName)) rfl hown (mvT hZ (hw _ (List.mem_of_getElem? (i := 45) rfl))) (mvT hZ (hw _ (List.mem_of_getElem? (i := 46) rfl))) (mvT hZ (hw _ (List.mem_of_getElem? (i := 47) rfl))) (by decide) (StrChars.Road.backV (W := 1) hZ hws (kI := 4) (hw _ (List.mem_of_getElem? (i := 44) rfl)) (cs := ([cc] : List Int32)) (bs := ([cc] : List Int32).map (fun c => c.toInt8.toInt32)) (n := 1) ge_b46 (old_le O46) A46 F57 F56 f55 (S_CS.ext O46.2) hcz rfl rfl (by decide) (by decide) (own_sm1 hcc own_sm0) rfl (by decide) (by decide)) (g := (mkF m 121 #[.val (.int p0), .val (.int p1), .val (.int p2), .val (.int p3), .val (.int p4), .val (.int ((p0 &&& (2147483647 : Int32)) % (5 : Int32))), .val (.int cc), .val (.int kp), .val (.int (1 : Int32)), .val (.ref b36), .unset, .unset] [(.ref b36), (.ref b46), (.ref b46)])) rfl (by rw [hml]; rfl) (Steps.refl _) (a := b46) (argsL := [(.ref b36)]) (rest := [(.ref b46)]) (lenOf pd_7 rfl) rfl (by show 2 * 0 + _ ≤ _; exact Nat.le_of_eq rfl) (hb hby at_121) (fun _ _ => ⟨rfl, e46, (by decide : 2 + 1 ≤ _), (by decide : 5 + 1 ≤ _)⟩)
          dsimp only [Pt.U, Pt.locs, Pt.cells, Pt.slots] at X58 l58 y58 z58 st58 hQ58
          subst y58 z58
          obtain ⟨rfl, N58q, K58q, E58q, C58q, t58, kb58, ge_t58, sz58q, ne58q, F58q, V58q⟩ := hQ58
          have N58 : Fr n0 L58 := by rw [l58]; exact Fr.app N43 N58q
          have ne59 : b36 ≠ t58 := Nat.ne_of_lt (Nat.lt_of_lt_of_le f54.lt sz58q)
          have f60 := f54.keep K58q
          have f61 := f55.keep K58q (ninS ne48 nin0)
          have f62 := Sf46.keep K58q (sfS Sf46 sf0) CR.1
          have hk := Nat.le_trans hk K58q.1
          have CR := CR.trans (CHr.keep K58q (sfS Sf46 sf0) CR.1)
          have K58 : Keep h0 T58.heap [] := K46.trans K58q (allS (Or.inr sz_b46) all0)
          have sz_t58 : h0.size ≤ t58 := Nat.le_trans K46.1 sz58q
          have O58 := O46.keep K58q (allS ge_b46 all0)
          have Q58 : StrIs Z T58.heap b46 ([cc] : List Int32) := StrIs.of E58q F58q C58q V58q rfl rfl (own_sm1 hcc own_sm0) (Nat.le_of_ble_eq_true rfl)
          refine stt st58 ?_
          show Go p e below T58 (mkF m 124 #[.val (.int p0), .val (.int p1), .val (.int p2), .val (.int p3), .val (.int p4), .val (.int ((p0 &&& (2147483647 : Int32)) % (5 : Int32))), .val (.int cc), .val (.int kp), .val (.int (1 : Int32)), .val (.ref b36), .unset, .unset] [(.ref b46)]) _
          obtain ⟨_, _, ⟨T63, L63, k63, n63⟩, -, X63, ⟨Lc63, hQ63, l63, y63, z63⟩, st63⟩ := Jvm.LawKit.callS X58 hx (y := (⟨"com/example/uriel/uriel/grant/GrantType", "fromWireName", "(Ljava/lang/String;)Ljava/util/Optional;"⟩ : MethodName)) hown (mvT hZ (hw _ (List.mem_of_getElem? (i := 1) rfl))) (mvT hZ (hw _ (List.mem_of_getElem? (i := 2) rfl))) (mvT hZ (hw _ (List.mem_of_getElem? (i := 3) rfl))) (mvT hZ (hw _ (List.mem_of_getElem? (i := 4) rfl))) (by decide) (backOf (W := 0) (rm_fwn l Z a0 hw [] b46 auth impl va w1 w2 empty_ ([cc] : List Int32) cz k_va T58.heap n0 O58 S_VALUES E_va V_va F_w1 F_w2 Q_w1 Q_w2 S_EM Q58 S_CS hcz (own_ac_ne (show (18 : Nat) ≠ 1 by decide)) (own_im_ne (show (8 : Nat) ≠ 1 by decide))) hZ (hw _ (List.mem_of_getElem? (i := 4) rfl)) (hw _ (List.mem_of_getElem? (i := 3) rfl)) (by decide) (by decide)) (g := (mkF m 124 #[.val (.int p0), .val (.int p1), .val (.int p2), .val (.int p3), .val (.int p4), .val (.int ((p0 &&& (2147483647 : Int32)) % (5 : Int32))), .val (.int cc), .val (.int kp), .val (.int (1 : Int32)), .val (.ref b36), .unset, .unset] [(.ref b46)])) rfl (by rw [hml]; rfl) (argsL := [(.ref b46)]) (rest := []) (lenOf pd_5 rfl) rfl (by show 2 * 0 + _ ≤ _; exact Nat.le_of_eq rfl) (hb hby at_124) (fun _ _ => ⟨rfl, rfl, (by decide : 3 + 1 ≤ _), (by decide : 6 + 2 ≤ _)⟩)
          dsimp only [Pt.U, Pt.locs, Pt.cells, Pt.slots] at X63 l63 y63 z63 st63 hQ63
          subst y63 z63
          obtain ⟨rfl, N63q, K63q⟩ := hQ63
          have N63 : Fr n0 L63 := by rw [l63]; exact Fr.app N58 N63q
          have f64 := f60.keep K63q
          have f65 := f61.keep K63q nin0
          have f66 := f62.keep K63q sf0 CR.1
          have f67 := E58q.keep K63q
          have f68 := Q58.keep K63q nin0 apart0
          have hk := Nat.le_trans hk K63q.1
          have CR := CR.trans (CHr.keep K63q sf0 CR.1)
          have K63 : Keep h0 T63.heap [] := K58.trans K63q all0
          have O63 := O58.keep K63q all0
          refine stp st63 ?_
          show Go p e below T63 (mkF m 127 #[.val (.int p0), .val (.int p1), .val (.int p2), .val (.int p3), .val (.int p4), .val (.int ((p0 &&& (2147483647 : Int32)) % (5 : Int32))), .val (.int cc), .val (.int kp), .val (.int (1 : Int32)), .val (.ref b36), .unset, .unset] [(.ref empty_)]) _
          refine stp (fun _ => XS.aconstNull X63.here hx rfl (hb hby at_127)) ?_
          show Go p e below T63 (mkF m 128 #[.val (.int p0), .val (.int p1), .val (.int p2), .val (.int p3), .val (.int p4), .val (.int ((p0 &&& (2147483647 : Int32)) % (5 : Int32))), .val (.int cc), .val (.int kp), .val (.int (1 : Int32)), .val (.ref b36), .unset, .unset] [.null, (.ref empty_)]) _
          obtain ⟨cq69, kq69, q69a, q69b, q69c⟩ := isOf hZ rfl (E_em.ext O63.2)
          obtain ⟨_, _, ⟨T69, L69, k69, n69⟩, -, X69, ⟨Lc69, hQ69, l69, y69, z69⟩, st69⟩ := X63.virtualBack hx (y := (⟨"java/util/Optional", "orElse", "(Ljava/lang/Object;)Ljava/lang/Object;"⟩ : MethodName)) (z := (⟨"java/util/Optional", "orElse", "(Ljava/lang/Object;)Ljava/lang/Object;"⟩ : MethodName)) hown (mvT hZ (hw _ (List.mem_of_getElem? (i := 35) rfl))) (mvT hZ (hw _ (List.mem_of_getElem? (i := 36) rfl))) (notFace_of_selects (args := #[]) (mvT hZ (hw _ (List.mem_of_getElem? (i := 38) rfl)))) (mvT hZ (hw _ (List.mem_of_getElem? (i := 38) rfl))) (mvT hZ (hw _ (List.mem_of_getElem? (i := 37) rfl))) (by decide) (backOf (W := 0) (rm_oe0 l Z a0 hw [] empty_  T63.heap n0 O63 F_em) hZ (hw _ (List.mem_of_getElem? (i := 39) rfl)) (hw _ (List.mem_of_getElem? (i := 32) rfl)) (by decide) (by decide)) q69a q69c (g := (mkF m 128 #[.val (.int p0), .val (.int p1), .val (.int p2), .val (.int p3), .val (.int p4), .val (.int ((p0 &&& (2147483647 : Int32)) % (5 : Int32))), .val (.int cc), .val (.int kp), .val (.int (1 : Int32)), .val (.ref b36), .unset, .unset] [.null, (.ref empty_)])) rfl (by rw [hml]; rfl) (Steps.refl _) (argsL := [.null]) (rest := []) (lenOf pd_6 rfl) rfl (by show 2 * 0 + _ ≤ _; exact Nat.le_of_eq rfl) (hb hby at_128) (fun _ _ => ⟨rfl, rfl, (by decide : 4 + 0 ≤ _), (by decide : 8 + 0 ≤ _)⟩)
          dsimp only [Pt.U, Pt.locs, Pt.cells, Pt.slots] at X69 l69 y69 z69 st69 hQ69
          subst y69 z69
          obtain ⟨rfl, N69q, e69⟩ := hQ69
          have N69 : Fr n0 L69 := by rw [l69]; exact Fr.app N63 N69q
          refine stt st69 ?_
          show Go p e below T69 (mkF m 131 #[.val (.int p0), .val (.int p1), .val (.int p2), .val (.int p3), .val (.int p4), .val (.int ((p0 &&& (2147483647 : Int32)) % (5 : Int32))), .val (.int cc), .val (.int kp), .val (.int (1 : Int32)), .val (.ref b36), .unset, .unset] [.null]) _
          refine stp (fun _ => XS.ifnonnullNo X69.here hx rfl (hb hby at_131) rfl) ?_
          show Go p e below T69 (mkF m 134 #[.val (.int p0), .val (.int p1), .val (.int p2), .val (.int p3), .val (.int p4), .val (.int ((p0 &&& (2147483647 : Int32)) % (5 : Int32))), .val (.int cc), .val (.int kp), .val (.int (1 : Int32)), .val (.ref b36), .unset, .unset] []) _
          refine stp (fun _ => XS.iconst X69.here hx rfl (hb hby at_134)) ?_
          show Go p e below T69 (mkF m 135 #[.val (.int p0), .val (.int p1), .val (.int p2), .val (.int p3), .val (.int p4), .val (.int ((p0 &&& (2147483647 : Int32)) % (5 : Int32))), .val (.int cc), .val (.int kp), .val (.int (1 : Int32)), .val (.ref b36), .unset, .unset] [(.int (1 : Int32))]) _
          refine stp (fun _ => XS.goto X69.here hx rfl (pc0 := 135) (pc' := 139) rfl (hb hby at_135) (by decide) (by decide)) ?_
          show Go p e below T69 (mkF m 139 #[.val (.int p0), .val (.int p1), .val (.int p2), .val (.int p3), .val (.int p4), .val (.int ((p0 &&& (2147483647 : Int32)) % (5 : Int32))), .val (.int cc), .val (.int kp), .val (.int (1 : Int32)), .val (.ref b36), .unset, .unset] [(.int (1 : Int32))]) _
          refine outNW X69 hx hZ hEL e69 hS hk CR (t := .boolean) hret (by simp) (hb hby at_139) hlk (by decide) (by decide) ?_
          exact ⟨rfl, N69⟩
        · show Go p e below T0 (mkF m 65 #[.val (.int p0), .val (.int p1), .val (.int p2), .val (.int p3), .val (.int p4), .val (.int ((p0 &&& (2147483647 : Int32)) % (5 : Int32))), .val (.int cc), .val (.int kp), .val (.int (2 : Int32)), .unset, .unset, .unset] []) _
          refine stp (fun _ => XS.iload X0.here hx rfl (hb hby at_65) rfl) ?_
          show Go p e below T0 (mkF m 67 #[.val (.int p0), .val (.int p1), .val (.int p2), .val (.int p3), .val (.int p4), .val (.int ((p0 &&& (2147483647 : Int32)) % (5 : Int32))), .val (.int cc), .val (.int kp), .val (.int (2 : Int32)), .unset, .unset, .unset] [(.int (2 : Int32))]) _
          obtain ⟨T70, h70, k70, X70, e70, E70, A70, B70, st70⟩ := newPE X0 hx hZ (hw _ (List.mem_of_getElem? (i := 42) rfl)) e0 (g := (mkF m 67 #[.val (.int p0), .val (.int p1), .val (.int p2), .val (.int p3), .val (.int p4), .val (.int ((p0 &&& (2147483647 : Int32)) % (5 : Int32))), .val (.int cc), .val (.int kp), .val (.int (2 : Int32)), .unset, .unset, .unset] [(.int (2 : Int32))])) rfl (hb hby at_67) rfl (by decide) (cap := 2) (by decide) (by decide) (by decide) (by decide) (ad := "[C") (by decide)
          obtain ⟨b70, g70⟩ : ∃ z, z = h0.size := ⟨_, rfl⟩
          rw [← g70] at A70 B70 st70
          have ne71 : auth ≠ b70 := O0.ne E_auth.lt (Nat.le_trans (old_le O0) (Nat.le_of_eq g70.symm))
          have ne72 : empty_ ≠ b70 := O0.ne E_em.lt (Nat.le_trans (old_le O0) (Nat.le_of_eq g70.symm))
          have ne73 : impl ≠ b70 := O0.ne E_impl.lt (Nat.le_trans (old_le O0) (Nat.le_of_eq g70.symm))
          have ne74 : va ≠ b70 := O0.ne E_va.lt (Nat.le_trans (old_le O0) (Nat.le_of_eq g70.symm))
          have ne75 : w1 ≠ b70 := O0.ne Q_w1.lt (Nat.le_trans (old_le O0) (Nat.le_of_eq g70.symm))
          have ne76 : w2 ≠ b70 := O0.ne Q_w2.lt (Nat.le_trans (old_le O0) (Nat.le_of_eq g70.symm))
          have sz_b70 : h0.size ≤ b70 := Nat.le_trans (Keep.refl h0 []).1 (Nat.le_of_eq g70.symm)
          have ge_b70 : n0 ≤ b70 := Nat.le_trans (old_le O0) (Nat.le_of_eq g70.symm)
          have hk := Nat.le_trans hk E70.1
          have CR := CR.trans (CHr.ext E70 CR.1)
          have K70 : Keep h0 h70 [] := (Keep.refl h0 []).ext E70
          have O70 := O0.ext E70
          have V70 : Arv Z h70 b70 k70 .char (2 : Int32) [(.int (0 : Int32)), (.int (0 : Int32))] (.int (0 : Int32)) := (Arv.new A70 (by decide)).pad (pad_rep [] (.int (0 : Int32)) 2)
          refine stp st70 ?_
          show Go p e below T70 (mkF m 69 #[.val (.int p0), .val (.int p1), .val (.int p2), .val (.int p3), .val (.int p4), .val (.int ((p0 &&& (2147483647 : Int32)) % (5 : Int32))), .val (.int cc), .val (.int kp), .val (.int (2 : Int32)), .unset, .unset, .unset] [(.ref b70)]) _
          refine stp (fun _ => XS.astore X70.here hx rfl (hb hby at_69) rfl rfl (l' := #[.val (.int p0), .val (.int p1), .val (.int p2), .val (.int p3), .val (.int p4), .val (.int ((p0 &&& (2147483647 : Int32)) % (5 : Int32))), .val (.int cc), .val (.int kp), .val (.int (2 : Int32)), .val (.ref b70), .unset, .unset]) rfl) ?_
          show Go p e below T70 (mkF m 71 #[.val (.int p0), .val (.int p1), .val (.int p2), .val (.int p3), .val (.int p4), .val (.int ((p0 &&& (2147483647 : Int32)) % (5 : Int32))), .val (.int cc), .val (.int kp), .val (.int (2 : Int32)), .val (.ref b70), .unset, .unset] []) _
          refine stp (fun _ => XS.iload X70.here hx rfl (hb hby at_71) rfl) ?_
          show Go p e below T70 (mkF m 73 #[.val (.int p0), .val (.int p1), .val (.int p2), .val (.int p3), .val (.int p4), .val (.int ((p0 &&& (2147483647 : Int32)) % (5 : Int32))), .val (.int cc), .val (.int kp), .val (.int (2 : Int32)), .val (.ref b70), .unset, .unset] [(.int (2 : Int32))]) _
          refine stp (fun _ => XS.ifNo X70.here hx rfl (hb hby at_73) rfl (by decide)) ?_
          show Go p e below T70 (mkF m 76 #[.val (.int p0), .val (.int p1), .val (.int p2), .val (.int p3), .val (.int p4), .val (.int ((p0 &&& (2147483647 : Int32)) % (5 : Int32))), .val (.int cc), .val (.int kp), .val (.int (2 : Int32)), .val (.ref b70), .unset, .unset] []) _
          refine stp (fun _ => XS.aload X70.here hx rfl (hb hby at_76) rfl rfl) ?_
          show Go p e below T70 (mkF m 78 #[.val (.int p0), .val (.int p1), .val (.int p2), .val (.int p3), .val (.int p4), .val (.int ((p0 &&& (2147483647 : Int32)) % (5 : Int32))), .val (.int cc), .val (.int kp), .val (.int (2 : Int32)), .val (.ref b70), .unset, .unset] [(.ref b70)]) _
          refine stp (fun _ => XS.iconst X70.here hx rfl (hb hby at_78)) ?_
          show Go p e below T70 (mkF m 79 #[.val (.int p0), .val (.int p1), .val (.int p2), .val (.int p3), .val (.int p4), .val (.int ((p0 &&& (2147483647 : Int32)) % (5 : Int32))), .val (.int cc), .val (.int kp), .val (.int (2 : Int32)), .val (.ref b70), .unset, .unset] [(.int (0 : Int32)), (.ref b70)]) _
          refine stp (fun _ => XS.iload X70.here hx rfl (hb hby at_79) rfl) ?_
          show Go p e below T70 (mkF m 81 #[.val (.int p0), .val (.int p1), .val (.int p2), .val (.int p3), .val (.int p4), .val (.int ((p0 &&& (2147483647 : Int32)) % (5 : Int32))), .val (.int cc), .val (.int kp), .val (.int (2 : Int32)), .val (.ref b70), .unset, .unset] [(.int cc), (.int (0 : Int32)), (.ref b70)]) _
          obtain ⟨cl77, Ar77, q77, S77, M77, H77, G77⟩ := (id V70)
          have in77 : ¬ ((0 : Int32) < 0 ∨ cl77.slots.size ≤ ((0 : Int32)).toNatClampNeg) := inb_of S77 ⟨by decide, by decide⟩
          obtain ⟨T77, h77, X77, e77, W77, st77⟩ := stC X70 hx hZ e70 Ar77 (j := (0 : Int32)) in77 (g := (mkF m 81 #[.val (.int p0), .val (.int p1), .val (.int p2), .val (.int p3), .val (.int p4), .val (.int ((p0 &&& (2147483647 : Int32)) % (5 : Int32))), .val (.int cc), .val (.int kp), .val (.int (2 : Int32)), .val (.ref b70), .unset, .unset] [(.int cc), (.int (0 : Int32)), (.ref b70)])) rfl rfl (hb hby at_81)
          have V77 : Arv Z h77 b70 k70 .char (2 : Int32) [(.int cc), (.int (0 : Int32))] (.int (0 : Int32)) := Arv.set Ar77 q77 S77 M77 H77 G77 (ow_fits_char (char255 hcc)) (ow_wr_char (char255 hcc) W77) 0 rfl (Nat.le_of_ble_eq_true rfl)
          have f78 := B70.wr W77
          have hk := Nat.le_trans hk (Keep.of_wr W77).1
          have CR := CR.trans (CHr.wr W77 (Safe.exa hZ.alike B70 (by decide) (by decide)) CR.1)
          have K77 : Keep h0 h77 [] := K70.wr W77 (Or.inr sz_b70)
          have O77 := O70.wr W77 ge_b70
          have N77 := Fr.snoc X77 N0 ge_b70
          refine stp st77 ?_
          show Go p e below T77 (mkF m 82 #[.val (.int p0), .val (.int p1), .val (.int p2), .val (.int p3), .val (.int p4), .val (.int ((p0 &&& (2147483647 : Int32)) % (5 : Int32))), .val (.int cc), .val (.int kp), .val (.int (2 : Int32)), .val (.ref b70), .unset, .unset] []) _
          refine stp (fun _ => XS.iload X77.here hx rfl (hb hby at_82) rfl) ?_
          show Go p e below T77 (mkF m 84 #[.val (.int p0), .val (.int p1), .val (.int p2), .val (.int p3), .val (.int p4), .val (.int ((p0 &&& (2147483647 : Int32)) % (5 : Int32))), .val (.int cc), .val (.int kp), .val (.int (2 : Int32)), .val (.ref b70), .unset, .unset] [(.int (2 : Int32))]) _
          refine stp (fun _ => XS.iconst X77.here hx rfl (hb hby at_84)) ?_
          show Go p e below T77 (mkF m 85 #[.val (.int p0), .val (.int p1), .val (.int p2), .val (.int p3), .val (.int p4), .val (.int ((p0 &&& (2147483647 : Int32)) % (5 : Int32))), .val (.int cc), .val (.int kp), .val (.int (2 : Int32)), .val (.ref b70), .unset, .unset] [(.int (1 : Int32)), (.int (2 : Int32))]) _
          refine stp (fun _ => XS.icmpNo X77.here hx rfl (hb hby at_85) rfl (by decide)) ?_
          show Go p e below T77 (mkF m 88 #[.val (.int p0), .val (.int p1), .val (.int p2), .val (.int p3), .val (.int p4), .val (.int ((p0 &&& (2147483647 : Int32)) % (5 : Int32))), .val (.int cc), .val (.int kp), .val (.int (2 : Int32)), .val (.ref b70), .unset, .unset] []) _
          refine stp (fun _ => XS.aload X77.here hx rfl (hb hby at_88) rfl rfl) ?_
          show Go p e below T77 (mkF m 90 #[.val (.int p0), .val (.int p1), .val (.int p2), .val (.int p3), .val (.int p4), .val (.int ((p0 &&& (2147483647 : Int32)) % (5 : Int32))), .val (.int cc), .val (.int kp), .val (.int (2 : Int32)), .val (.ref b70), .unset, .unset] [(.ref b70)]) _
          refine stp (fun _ => XS.iconst X77.here hx rfl (hb hby at_90)) ?_
          show Go p e below T77 (mkF m 91 #[.val (.int p0), .val (.int p1), .val (.int p2), .val (.int p3), .val (.int p4), .val (.int ((p0 &&& (2147483647 : Int32)) % (5 : Int32))), .val (.int cc), .val (.int kp), .val (.int (2 : Int32)), .val (.ref b70), .unset, .unset] [(.int (1 : Int32)), (.ref b70)]) _
          refine stp (fun _ => XS.iloadN X77.here hx rfl (hb hby at_91) rfl) ?_
          show Go p e below T77 (mkF m 92 #[.val (.int p0), .val (.int p1), .val (.int p2), .val (.int p3), .val (.int p4), .val (.int ((p0 &&& (2147483647 : Int32)) % (5 : Int32))), .val (.int cc), .val (.int kp), .val (.int (2 : Int32)), .val (.ref b70), .unset, .unset] [(.int p3), (.int (1 : Int32)), (.ref b70)]) _
          refine stp (fun _ => XS.sipush X77.here hx rfl (hb hby at_92)) ?_
          show Go p e below T77 (mkF m 95 #[.val (.int p0), .val (.int p1), .val (.int p2), .val (.int p3), .val (.int p4), .val (.int ((p0 &&& (2147483647 : Int32)) % (5 : Int32))), .val (.int cc), .val (.int kp), .val (.int (2 : Int32)), .val (.ref b70), .unset, .unset] [(.int (255 : Int32)), (.int p3), (.int (1 : Int32)), (.ref b70)]) _
          refine stp (fun _ => XS.iand X77.here hx rfl (hb hby at_95) rfl) ?_
          show Go p e below T77 (mkF m 96 #[.val (.int p0), .val (.int p1), .val (.int p2), .val (.int p3), .val (.int p4), .val (.int ((p0 &&& (2147483647 : Int32)) % (5 : Int32))), .val (.int cc), .val (.int kp), .val (.int (2 : Int32)), .val (.ref b70), .unset, .unset] [(.int (p3 &&& (255 : Int32))), (.int (1 : Int32)), (.ref b70)]) _
          refine stp (fun _ => XS.i2c X77.here hx rfl (hb hby at_96) rfl) ?_
          show Go p e below T77 (mkF m 97 #[.val (.int p0), .val (.int p1), .val (.int p2), .val (.int p3), .val (.int p4), .val (.int ((p0 &&& (2147483647 : Int32)) % (5 : Int32))), .val (.int cc), .val (.int kp), .val (.int (2 : Int32)), .val (.ref b70), .unset, .unset] [(.int ((p3 &&& (255 : Int32)).toUInt32.toUInt16.toUInt32.toInt32)), (.int (1 : Int32)), (.ref b70)]) _
          obtain ⟨cl80, Ar80, q80, S80, M80, H80, G80⟩ := (id V77)
          have in80 : ¬ ((1 : Int32) < 0 ∨ cl80.slots.size ≤ ((1 : Int32)).toNatClampNeg) := inb_of S80 ⟨by decide, by decide⟩
          obtain ⟨T80, h80, X80, e80, W80, st80⟩ := stC X77 hx hZ e77 Ar80 (j := (1 : Int32)) in80 (g := (mkF m 97 #[.val (.int p0), .val (.int p1), .val (.int p2), .val (.int p3), .val (.int p4), .val (.int ((p0 &&& (2147483647 : Int32)) % (5 : Int32))), .val (.int cc), .val (.int kp), .val (.int (2 : Int32)), .val (.ref b70), .unset, .unset] [(.int ((p3 &&& (255 : Int32)).toUInt32.toUInt16.toUInt32.toInt32)), (.int (1 : Int32)), (.ref b70)])) rfl rfl (hb hby at_97)
          have V80 : Arv Z h80 b70 k70 .char (2 : Int32) [(.int cc), (.int ((p3 &&& (255 : Int32)).toUInt32.toUInt16.toUInt32.toInt32))] (.int (0 : Int32)) := Arv.set Ar80 q80 S80 M80 H80 G80 (ow_fits_char (char255 (own_char255 rfl))) (ow_wr_char (char255 (own_char255 rfl)) W80) 1 rfl (Nat.le_of_ble_eq_true rfl)
          have f81 := f78.wr W80
          have hk := Nat.le_trans hk (Keep.of_wr W80).1
          have CR := CR.trans (CHr.wr W80 (Safe.exa hZ.alike f78 (by decide) (by decide)) CR.1)
          have K80 : Keep h0 h80 [] := K77.wr W80 (Or.inr sz_b70)
          have O80 := O77.wr W80 ge_b70
          have N80 := Fr.snoc X80 N77 ge_b70
          refine stp st80 ?_
          show Go p e below T80 (mkF m 98 #[.val (.int p0), .val (.int p1), .val (.int p2), .val (.int p3), .val (.int p4), .val (.int ((p0 &&& (2147483647 : Int32)) % (5 : Int32))), .val (.int cc), .val (.int kp), .val (.int (2 : Int32)), .val (.ref b70), .unset, .unset] []) _
          refine stp (fun _ => XS.iload X80.here hx rfl (hb hby at_98) rfl) ?_
          show Go p e below T80 (mkF m 100 #[.val (.int p0), .val (.int p1), .val (.int p2), .val (.int p3), .val (.int p4), .val (.int ((p0 &&& (2147483647 : Int32)) % (5 : Int32))), .val (.int cc), .val (.int kp), .val (.int (2 : Int32)), .val (.ref b70), .unset, .unset] [(.int (2 : Int32))]) _
          refine stp (fun _ => XS.iconst X80.here hx rfl (hb hby at_100)) ?_
          show Go p e below T80 (mkF m 101 #[.val (.int p0), .val (.int p1), .val (.int p2), .val (.int p3), .val (.int p4), .val (.int ((p0 &&& (2147483647 : Int32)) % (5 : Int32))), .val (.int cc), .val (.int kp), .val (.int (2 : Int32)), .val (.ref b70), .unset, .unset] [(.int (2 : Int32)), (.int (2 : Int32))]) _
          refine stp (fun _ => XS.icmpYes X80.here hx rfl (pc0 := 101) (pc' := 115) rfl (hb hby at_101) rfl (by decide) (by decide) (by decide)) ?_
          show Go p e below T80 (mkF m 115 #[.val (.int p0), .val (.int p1), .val (.int p2), .val (.int p3), .val (.int p4), .val (.int ((p0 &&& (2147483647 : Int32)) % (5 : Int32))), .val (.int cc), .val (.int kp), .val (.int (2 : Int32)), .val (.ref b70), .unset, .unset] []) _
          obtain ⟨T83, h83, X83, e83, E83, A83, D83, -, st83⟩ := newO X80 hx hZ hown (hw _ (List.mem_of_getElem? (i := 43) rfl)) (hw _ (List.mem_of_getElem? (i := 44) rfl)) (hw _ (List.mem_of_getElem? (i := 28) rfl)) e80 (g := (mkF m 115 #[.val (.int p0), .val (.int p1), .val (.int p2), .val (.int p3), .val (.int p4), .val (.int ((p0 &&& (2147483647 : Int32)) % (5 : Int32))), .val (.int cc), .val (.int kp), .val (.int (2 : Int32)), .val (.ref b70), .unset, .unset] [])) rfl (hb hby at_115) (by decide) (by decide)
          obtain ⟨b83, g83⟩ : ∃ z, z = h80.size := ⟨_, rfl⟩
          rw [← g83] at A83 D83 st83
          have ne84 : auth ≠ b83 := O80.ne E_auth.lt (Nat.le_trans (old_le O80) (Nat.le_of_eq g83.symm))
          have ne85 : b70 ≠ b83 := Nat.ne_of_lt (Nat.lt_of_lt_of_le f81.lt (Nat.le_of_eq g83.symm))
          have ne86 : empty_ ≠ b83 := O80.ne E_em.lt (Nat.le_trans (old_le O80) (Nat.le_of_eq g83.symm))
          have ne87 : impl ≠ b83 := O80.ne E_impl.lt (Nat.le_trans (old_le O80) (Nat.le_of_eq g83.symm))
          have ne88 : va ≠ b83 := O80.ne E_va.lt (Nat.le_trans (old_le O80) (Nat.le_of_eq g83.symm))
          have ne89 : w1 ≠ b83 := O80.ne Q_w1.lt (Nat.le_trans (old_le O80) (Nat.le_of_eq g83.symm))
          have ne90 : w2 ≠ b83 := O80.ne Q_w2.lt (Nat.le_trans (old_le O80) (Nat.le_of_eq g83.symm))
          have sz_b83 : h0.size ≤ b83 := Nat.le_trans K80.1 (Nat.le_of_eq g83.symm)
          have ge_b83 : n0 ≤ b83 := Nat.le_trans (old_le O80) (Nat.le_of_eq g83.symm)
          have f91 := f81.ext E83
          have f92 := V80.ext E83
          have Sf83 := (Safe.new (Z := Z) (EL := consts_1) (Nat.le_of_eq g83.symm)).ext E83 CR.1
          have hk := Nat.le_trans hk E83.1
          have CR := CR.trans (CHr.ext E83 CR.1)
          have K83 : Keep h0 h83 [] := K80.ext E83
          have O83 := O80.ext E83
          have F93 : Fld Z h83 b83 "java/lang/String" "coder" "B" (.int (0 : Int32)) := D83 (Or.inr (hw _ (List.mem_of_getElem? (i := 68) rfl))) (ty := .byte) (by decide)
          have F94 : Fld Z h83 b83 "java/lang/String" "value" "[B" .null := D83 (Or.inr (hw _ (List.mem_of_getElem? (i := 70) rfl))) (ty := (.array .byte)) (by decide)
          refine stp st83 ?_
          show Go p e below T83 (mkF m 118 #[.val (.int p0), .val (.int p1), .val (.int p2), .val (.int p3), .val (.int p4), .val (.int ((p0 &&& (2147483647 : Int32)) % (5 : Int32))), .val (.int cc), .val (.int kp), .val (.int (2 : Int32)), .val (.ref b70), .unset, .unset] [(.ref b83)]) _
          refine stp (fun _ => XS.dup X83.here hx rfl (hb hby at_118) rfl rfl) ?_
          show Go p e below T83 (mkF m 119 #[.val (.int p0), .val (.int p1), .val (.int p2), .val (.int p3), .val (.int p4), .val (.int ((p0 &&& (2147483647 : Int32)) % (5 : Int32))), .val (.int cc), .val (.int kp), .val (.int (2 : Int32)), .val (.ref b70), .unset, .unset] [(.ref b83), (.ref b83)]) _
          refine stp (fun _ => XS.aload X83.here hx rfl (hb hby at_119) rfl rfl) ?_
          show Go p e below T83 (mkF m 121 #[.val (.int p0), .val (.int p1), .val (.int p2), .val (.int p3), .val (.int p4), .val (.int ((p0 &&& (2147483647 : Int32)) % (5 : Int32))), .val (.int cc), .val (.int kp), .val (.int (2 : Int32)), .val (.ref b70), .unset, .unset] [(.ref b70), (.ref b83), (.ref b83)]) _
          obtain ⟨_, _, ⟨T95, L95, k95, n95⟩, -, X95, ⟨Lc95, hQ95, l95, y95, z95⟩, st95⟩ := X83.specialBack hx (y := (⟨"java/lang/String", "<init>", "([C)V"⟩ : MethodName)) rfl hown (mvT hZ (hw _ (List.mem_of_getElem? (i := 45) rfl))) (mvT hZ (hw _ (List.mem_of_getElem? (i := 46) rfl))) (mvT hZ (hw _ (List.mem_of_getElem? (i := 47) rfl))) (by decide) (StrChars.Road.backV (W := 1) hZ hws (kI := 4) (hw _ (List.mem_of_getElem? (i := 44) rfl)) (cs := ([cc, ((p3 &&& (255 : Int32)).toUInt32.toUInt16.toUInt32.toInt32)] : List Int32)) (bs := ([cc, ((p3 &&& (255 : Int32)).toUInt32.toUInt16.toUInt32.toInt32)] : List Int32).map (fun c => c.toInt8.toInt32)) (n := 2) ge_b83 (old_le O83) A83 F94 F93 f92 (S_CS.ext O83.2) hcz rfl rfl (by decide) (by decide) (own_sm1 hcc (own_sm1 (own_char255 rfl) own_sm0)) rfl (by decide) (by decide)) (g := (mkF m 121 #[.val (.int p0), .val (.int p1), .val (.int p2), .val (.int p3), .val (.int p4), .val (.int ((p0 &&& (2147483647 : Int32)) % (5 : Int32))), .val (.int cc), .val (.int kp), .val (.int (2 : Int32)), .val (.ref b70), .unset, .unset] [(.ref b70), (.ref b83), (.ref b83)])) rfl (by rw [hml]; rfl) (Steps.refl _) (a := b83) (argsL := [(.ref b70)]) (rest := [(.ref b83)]) (lenOf pd_7 rfl) rfl (by show 2 * 0 + _ ≤ _; exact Nat.le_of_eq rfl) (hb hby at_121) (fun _ _ => ⟨rfl, e83, (by decide : 2 + 1 ≤ _), (by decide : 6 + 2 ≤ _)⟩)
          dsimp only [Pt.U, Pt.locs, Pt.cells, Pt.slots] at X95 l95 y95 z95 st95 hQ95
          subst y95 z95
          obtain ⟨rfl, N95q, K95q, E95q, C95q, t95, kb95, ge_t95, sz95q, ne95q, F95q, V95q⟩ := hQ95
          have N95 : Fr n0 L95 := by rw [l95]; exact Fr.app N80 N95q
          have ne96 : b70 ≠ t95 := Nat.ne_of_lt (Nat.lt_of_lt_of_le f91.lt sz95q)
          have f97 := f91.keep K95q
          have f98 := f92.keep K95q (ninS ne85 nin0)
          have f99 := Sf83.keep K95q (sfS Sf83 sf0) CR.1
          have hk := Nat.le_trans hk K95q.1
          have CR := CR.trans (CHr.keep K95q (sfS Sf83 sf0) CR.1)
          have K95 : Keep h0 T95.heap [] := K83.trans K95q (allS (Or.inr sz_b83) all0)
          have sz_t95 : h0.size ≤ t95 := Nat.le_trans K83.1 sz95q
          have O95 := O83.keep K95q (allS ge_b83 all0)
          have Q95 : StrIs Z T95.heap b83 ([cc, ((p3 &&& (255 : Int32)).toUInt32.toUInt16.toUInt32.toInt32)] : List Int32) := StrIs.of E95q F95q C95q V95q rfl rfl (own_sm1 hcc (own_sm1 (own_char255 rfl) own_sm0)) (Nat.le_of_ble_eq_true rfl)
          refine stt st95 ?_
          show Go p e below T95 (mkF m 124 #[.val (.int p0), .val (.int p1), .val (.int p2), .val (.int p3), .val (.int p4), .val (.int ((p0 &&& (2147483647 : Int32)) % (5 : Int32))), .val (.int cc), .val (.int kp), .val (.int (2 : Int32)), .val (.ref b70), .unset, .unset] [(.ref b83)]) _
          obtain ⟨_, _, ⟨T100, L100, k100, n100⟩, -, X100, ⟨Lc100, hQ100, l100, y100, z100⟩, st100⟩ := Jvm.LawKit.callS X95 hx (y := (⟨"com/example/uriel/uriel/grant/GrantType", "fromWireName", "(Ljava/lang/String;)Ljava/util/Optional;"⟩ : MethodName)) hown (mvT hZ (hw _ (List.mem_of_getElem? (i := 1) rfl))) (mvT hZ (hw _ (List.mem_of_getElem? (i := 2) rfl))) (mvT hZ (hw _ (List.mem_of_getElem? (i := 3) rfl))) (mvT hZ (hw _ (List.mem_of_getElem? (i := 4) rfl))) (by decide) (backOf (W := 0) (rm_fwn l Z a0 hw [] b83 auth impl va w1 w2 empty_ ([cc, ((p3 &&& (255 : Int32)).toUInt32.toUInt16.toUInt32.toInt32)] : List Int32) cz k_va T95.heap n0 O95 S_VALUES E_va V_va F_w1 F_w2 Q_w1 Q_w2 S_EM Q95 S_CS hcz (own_ac_ne (show (18 : Nat) ≠ 2 by decide)) (own_im_ne (show (8 : Nat) ≠ 2 by decide))) hZ (hw _ (List.mem_of_getElem? (i := 4) rfl)) (hw _ (List.mem_of_getElem? (i := 3) rfl)) (by decide) (by decide)) (g := (mkF m 124 #[.val (.int p0), .val (.int p1), .val (.int p2), .val (.int p3), .val (.int p4), .val (.int ((p0 &&& (2147483647 : Int32)) % (5 : Int32))), .val (.int cc), .val (.int kp), .val (.int (2 : Int32)), .val (.ref b70), .unset, .unset] [(.ref b83)])) rfl (by rw [hml]; rfl) (argsL := [(.ref b83)]) (rest := []) (lenOf pd_5 rfl) rfl (by show 2 * 0 + _ ≤ _; exact Nat.le_of_eq rfl) (hb hby at_124) (fun _ _ => ⟨rfl, rfl, (by decide : 3 + 1 ≤ _), (by decide : 8 + 2 ≤ _)⟩)
          dsimp only [Pt.U, Pt.locs, Pt.cells, Pt.slots] at X100 l100 y100 z100 st100 hQ100
          subst y100 z100
          obtain ⟨rfl, N100q, K100q⟩ := hQ100
          have N100 : Fr n0 L100 := by rw [l100]; exact Fr.app N95 N100q
          have f101 := f97.keep K100q
          have f102 := f98.keep K100q nin0
          have f103 := f99.keep K100q sf0 CR.1
          have f104 := E95q.keep K100q
          have f105 := Q95.keep K100q nin0 apart0
          have hk := Nat.le_trans hk K100q.1
          have CR := CR.trans (CHr.keep K100q sf0 CR.1)
          have K100 : Keep h0 T100.heap [] := K95.trans K100q all0
          have O100 := O95.keep K100q all0
          refine stp st100 ?_
          show Go p e below T100 (mkF m 127 #[.val (.int p0), .val (.int p1), .val (.int p2), .val (.int p3), .val (.int p4), .val (.int ((p0 &&& (2147483647 : Int32)) % (5 : Int32))), .val (.int cc), .val (.int kp), .val (.int (2 : Int32)), .val (.ref b70), .unset, .unset] [(.ref empty_)]) _
          refine stp (fun _ => XS.aconstNull X100.here hx rfl (hb hby at_127)) ?_
          show Go p e below T100 (mkF m 128 #[.val (.int p0), .val (.int p1), .val (.int p2), .val (.int p3), .val (.int p4), .val (.int ((p0 &&& (2147483647 : Int32)) % (5 : Int32))), .val (.int cc), .val (.int kp), .val (.int (2 : Int32)), .val (.ref b70), .unset, .unset] [.null, (.ref empty_)]) _
          obtain ⟨cq106, kq106, q106a, q106b, q106c⟩ := isOf hZ rfl (E_em.ext O100.2)
          obtain ⟨_, _, ⟨T106, L106, k106, n106⟩, -, X106, ⟨Lc106, hQ106, l106, y106, z106⟩, st106⟩ := X100.virtualBack hx (y := (⟨"java/util/Optional", "orElse", "(Ljava/lang/Object;)Ljava/lang/Object;"⟩ : MethodName)) (z := (⟨"java/util/Optional", "orElse", "(Ljava/lang/Object;)Ljava/lang/Object;"⟩ : MethodName)) hown (mvT hZ (hw _ (List.mem_of_getElem? (i := 35) rfl))) (mvT hZ (hw _ (List.mem_of_getElem? (i := 36) rfl))) (notFace_of_selects (args := #[]) (mvT hZ (hw _ (List.mem_of_getElem? (i := 38) rfl)))) (mvT hZ (hw _ (List.mem_of_getElem? (i := 38) rfl))) (mvT hZ (hw _ (List.mem_of_getElem? (i := 37) rfl))) (by decide) (backOf (W := 0) (rm_oe0 l Z a0 hw [] empty_  T100.heap n0 O100 F_em) hZ (hw _ (List.mem_of_getElem? (i := 39) rfl)) (hw _ (List.mem_of_getElem? (i := 32) rfl)) (by decide) (by decide)) q106a q106c (g := (mkF m 128 #[.val (.int p0), .val (.int p1), .val (.int p2), .val (.int p3), .val (.int p4), .val (.int ((p0 &&& (2147483647 : Int32)) % (5 : Int32))), .val (.int cc), .val (.int kp), .val (.int (2 : Int32)), .val (.ref b70), .unset, .unset] [.null, (.ref empty_)])) rfl (by rw [hml]; rfl) (Steps.refl _) (argsL := [.null]) (rest := []) (lenOf pd_6 rfl) rfl (by show 2 * 0 + _ ≤ _; exact Nat.le_of_eq rfl) (hb hby at_128) (fun _ _ => ⟨rfl, rfl, (by decide : 4 + 0 ≤ _), (by decide : 10 + 0 ≤ _)⟩)
          dsimp only [Pt.U, Pt.locs, Pt.cells, Pt.slots] at X106 l106 y106 z106 st106 hQ106
          subst y106 z106
          obtain ⟨rfl, N106q, e106⟩ := hQ106
          have N106 : Fr n0 L106 := by rw [l106]; exact Fr.app N100 N106q
          refine stt st106 ?_
          show Go p e below T106 (mkF m 131 #[.val (.int p0), .val (.int p1), .val (.int p2), .val (.int p3), .val (.int p4), .val (.int ((p0 &&& (2147483647 : Int32)) % (5 : Int32))), .val (.int cc), .val (.int kp), .val (.int (2 : Int32)), .val (.ref b70), .unset, .unset] [.null]) _
          refine stp (fun _ => XS.ifnonnullNo X106.here hx rfl (hb hby at_131) rfl) ?_
          show Go p e below T106 (mkF m 134 #[.val (.int p0), .val (.int p1), .val (.int p2), .val (.int p3), .val (.int p4), .val (.int ((p0 &&& (2147483647 : Int32)) % (5 : Int32))), .val (.int cc), .val (.int kp), .val (.int (2 : Int32)), .val (.ref b70), .unset, .unset] []) _
          refine stp (fun _ => XS.iconst X106.here hx rfl (hb hby at_134)) ?_
          show Go p e below T106 (mkF m 135 #[.val (.int p0), .val (.int p1), .val (.int p2), .val (.int p3), .val (.int p4), .val (.int ((p0 &&& (2147483647 : Int32)) % (5 : Int32))), .val (.int cc), .val (.int kp), .val (.int (2 : Int32)), .val (.ref b70), .unset, .unset] [(.int (1 : Int32))]) _
          refine stp (fun _ => XS.goto X106.here hx rfl (pc0 := 135) (pc' := 139) rfl (hb hby at_135) (by decide) (by decide)) ?_
          show Go p e below T106 (mkF m 139 #[.val (.int p0), .val (.int p1), .val (.int p2), .val (.int p3), .val (.int p4), .val (.int ((p0 &&& (2147483647 : Int32)) % (5 : Int32))), .val (.int cc), .val (.int kp), .val (.int (2 : Int32)), .val (.ref b70), .unset, .unset] [(.int (1 : Int32))]) _
          refine outNW X106 hx hZ hEL e106 hS hk CR (t := .boolean) hret (by simp) (hb hby at_139) hlk (by decide) (by decide) ?_
          exact ⟨rfl, N106⟩
        · show Go p e below T0 (mkF m 65 #[.val (.int p0), .val (.int p1), .val (.int p2), .val (.int p3), .val (.int p4), .val (.int ((p0 &&& (2147483647 : Int32)) % (5 : Int32))), .val (.int cc), .val (.int kp), .val (.int (3 : Int32)), .unset, .unset, .unset] []) _
          refine stp (fun _ => XS.iload X0.here hx rfl (hb hby at_65) rfl) ?_
          show Go p e below T0 (mkF m 67 #[.val (.int p0), .val (.int p1), .val (.int p2), .val (.int p3), .val (.int p4), .val (.int ((p0 &&& (2147483647 : Int32)) % (5 : Int32))), .val (.int cc), .val (.int kp), .val (.int (3 : Int32)), .unset, .unset, .unset] [(.int (3 : Int32))]) _
          obtain ⟨T107, h107, k107, X107, e107, E107, A107, B107, st107⟩ := newPE X0 hx hZ (hw _ (List.mem_of_getElem? (i := 42) rfl)) e0 (g := (mkF m 67 #[.val (.int p0), .val (.int p1), .val (.int p2), .val (.int p3), .val (.int p4), .val (.int ((p0 &&& (2147483647 : Int32)) % (5 : Int32))), .val (.int cc), .val (.int kp), .val (.int (3 : Int32)), .unset, .unset, .unset] [(.int (3 : Int32))])) rfl (hb hby at_67) rfl (by decide) (cap := 3) (by decide) (by decide) (by decide) (by decide) (ad := "[C") (by decide)
          obtain ⟨b107, g107⟩ : ∃ z, z = h0.size := ⟨_, rfl⟩
          rw [← g107] at A107 B107 st107
          have ne108 : auth ≠ b107 := O0.ne E_auth.lt (Nat.le_trans (old_le O0) (Nat.le_of_eq g107.symm))
          have ne109 : empty_ ≠ b107 := O0.ne E_em.lt (Nat.le_trans (old_le O0) (Nat.le_of_eq g107.symm))
          have ne110 : impl ≠ b107 := O0.ne E_impl.lt (Nat.le_trans (old_le O0) (Nat.le_of_eq g107.symm))
          have ne111 : va ≠ b107 := O0.ne E_va.lt (Nat.le_trans (old_le O0) (Nat.le_of_eq g107.symm))
          have ne112 : w1 ≠ b107 := O0.ne Q_w1.lt (Nat.le_trans (old_le O0) (Nat.le_of_eq g107.symm))
          have ne113 : w2 ≠ b107 := O0.ne Q_w2.lt (Nat.le_trans (old_le O0) (Nat.le_of_eq g107.symm))
          have sz_b107 : h0.size ≤ b107 := Nat.le_trans (Keep.refl h0 []).1 (Nat.le_of_eq g107.symm)
          have ge_b107 : n0 ≤ b107 := Nat.le_trans (old_le O0) (Nat.le_of_eq g107.symm)
          have hk := Nat.le_trans hk E107.1
          have CR := CR.trans (CHr.ext E107 CR.1)
          have K107 : Keep h0 h107 [] := (Keep.refl h0 []).ext E107
          have O107 := O0.ext E107
          have V107 : Arv Z h107 b107 k107 .char (3 : Int32) [(.int (0 : Int32)), (.int (0 : Int32)), (.int (0 : Int32))] (.int (0 : Int32)) := (Arv.new A107 (by decide)).pad (pad_rep [] (.int (0 : Int32)) 3)
          refine stp st107 ?_
          show Go p e below T107 (mkF m 69 #[.val (.int p0), .val (.int p1), .val (.int p2), .val (.int p3), .val (.int p4), .val (.int ((p0 &&& (2147483647 : Int32)) % (5 : Int32))), .val (.int cc), .val (.int kp), .val (.int (3 : Int32)), .unset, .unset, .unset] [(.ref b107)]) _
          refine stp (fun _ => XS.astore X107.here hx rfl (hb hby at_69) rfl rfl (l' := #[.val (.int p0), .val (.int p1), .val (.int p2), .val (.int p3), .val (.int p4), .val (.int ((p0 &&& (2147483647 : Int32)) % (5 : Int32))), .val (.int cc), .val (.int kp), .val (.int (3 : Int32)), .val (.ref b107), .unset, .unset]) rfl) ?_
          show Go p e below T107 (mkF m 71 #[.val (.int p0), .val (.int p1), .val (.int p2), .val (.int p3), .val (.int p4), .val (.int ((p0 &&& (2147483647 : Int32)) % (5 : Int32))), .val (.int cc), .val (.int kp), .val (.int (3 : Int32)), .val (.ref b107), .unset, .unset] []) _
          refine stp (fun _ => XS.iload X107.here hx rfl (hb hby at_71) rfl) ?_
          show Go p e below T107 (mkF m 73 #[.val (.int p0), .val (.int p1), .val (.int p2), .val (.int p3), .val (.int p4), .val (.int ((p0 &&& (2147483647 : Int32)) % (5 : Int32))), .val (.int cc), .val (.int kp), .val (.int (3 : Int32)), .val (.ref b107), .unset, .unset] [(.int (3 : Int32))]) _
          refine stp (fun _ => XS.ifNo X107.here hx rfl (hb hby at_73) rfl (by decide)) ?_
          show Go p e below T107 (mkF m 76 #[.val (.int p0), .val (.int p1), .val (.int p2), .val (.int p3), .val (.int p4), .val (.int ((p0 &&& (2147483647 : Int32)) % (5 : Int32))), .val (.int cc), .val (.int kp), .val (.int (3 : Int32)), .val (.ref b107), .unset, .unset] []) _
          refine stp (fun _ => XS.aload X107.here hx rfl (hb hby at_76) rfl rfl) ?_
          show Go p e below T107 (mkF m 78 #[.val (.int p0), .val (.int p1), .val (.int p2), .val (.int p3), .val (.int p4), .val (.int ((p0 &&& (2147483647 : Int32)) % (5 : Int32))), .val (.int cc), .val (.int kp), .val (.int (3 : Int32)), .val (.ref b107), .unset, .unset] [(.ref b107)]) _
          refine stp (fun _ => XS.iconst X107.here hx rfl (hb hby at_78)) ?_
          show Go p e below T107 (mkF m 79 #[.val (.int p0), .val (.int p1), .val (.int p2), .val (.int p3), .val (.int p4), .val (.int ((p0 &&& (2147483647 : Int32)) % (5 : Int32))), .val (.int cc), .val (.int kp), .val (.int (3 : Int32)), .val (.ref b107), .unset, .unset] [(.int (0 : Int32)), (.ref b107)]) _
          refine stp (fun _ => XS.iload X107.here hx rfl (hb hby at_79) rfl) ?_
          show Go p e below T107 (mkF m 81 #[.val (.int p0), .val (.int p1), .val (.int p2), .val (.int p3), .val (.int p4), .val (.int ((p0 &&& (2147483647 : Int32)) % (5 : Int32))), .val (.int cc), .val (.int kp), .val (.int (3 : Int32)), .val (.ref b107), .unset, .unset] [(.int cc), (.int (0 : Int32)), (.ref b107)]) _
          obtain ⟨cl114, Ar114, q114, S114, M114, H114, G114⟩ := (id V107)
          have in114 : ¬ ((0 : Int32) < 0 ∨ cl114.slots.size ≤ ((0 : Int32)).toNatClampNeg) := inb_of S114 ⟨by decide, by decide⟩
          obtain ⟨T114, h114, X114, e114, W114, st114⟩ := stC X107 hx hZ e107 Ar114 (j := (0 : Int32)) in114 (g := (mkF m 81 #[.val (.int p0), .val (.int p1), .val (.int p2), .val (.int p3), .val (.int p4), .val (.int ((p0 &&& (2147483647 : Int32)) % (5 : Int32))), .val (.int cc), .val (.int kp), .val (.int (3 : Int32)), .val (.ref b107), .unset, .unset] [(.int cc), (.int (0 : Int32)), (.ref b107)])) rfl rfl (hb hby at_81)
          have V114 : Arv Z h114 b107 k107 .char (3 : Int32) [(.int cc), (.int (0 : Int32)), (.int (0 : Int32))] (.int (0 : Int32)) := Arv.set Ar114 q114 S114 M114 H114 G114 (ow_fits_char (char255 hcc)) (ow_wr_char (char255 hcc) W114) 0 rfl (Nat.le_of_ble_eq_true rfl)
          have f115 := B107.wr W114
          have hk := Nat.le_trans hk (Keep.of_wr W114).1
          have CR := CR.trans (CHr.wr W114 (Safe.exa hZ.alike B107 (by decide) (by decide)) CR.1)
          have K114 : Keep h0 h114 [] := K107.wr W114 (Or.inr sz_b107)
          have O114 := O107.wr W114 ge_b107
          have N114 := Fr.snoc X114 N0 ge_b107
          refine stp st114 ?_
          show Go p e below T114 (mkF m 82 #[.val (.int p0), .val (.int p1), .val (.int p2), .val (.int p3), .val (.int p4), .val (.int ((p0 &&& (2147483647 : Int32)) % (5 : Int32))), .val (.int cc), .val (.int kp), .val (.int (3 : Int32)), .val (.ref b107), .unset, .unset] []) _
          refine stp (fun _ => XS.iload X114.here hx rfl (hb hby at_82) rfl) ?_
          show Go p e below T114 (mkF m 84 #[.val (.int p0), .val (.int p1), .val (.int p2), .val (.int p3), .val (.int p4), .val (.int ((p0 &&& (2147483647 : Int32)) % (5 : Int32))), .val (.int cc), .val (.int kp), .val (.int (3 : Int32)), .val (.ref b107), .unset, .unset] [(.int (3 : Int32))]) _
          refine stp (fun _ => XS.iconst X114.here hx rfl (hb hby at_84)) ?_
          show Go p e below T114 (mkF m 85 #[.val (.int p0), .val (.int p1), .val (.int p2), .val (.int p3), .val (.int p4), .val (.int ((p0 &&& (2147483647 : Int32)) % (5 : Int32))), .val (.int cc), .val (.int kp), .val (.int (3 : Int32)), .val (.ref b107), .unset, .unset] [(.int (1 : Int32)), (.int (3 : Int32))]) _
          refine stp (fun _ => XS.icmpNo X114.here hx rfl (hb hby at_85) rfl (by decide)) ?_
          show Go p e below T114 (mkF m 88 #[.val (.int p0), .val (.int p1), .val (.int p2), .val (.int p3), .val (.int p4), .val (.int ((p0 &&& (2147483647 : Int32)) % (5 : Int32))), .val (.int cc), .val (.int kp), .val (.int (3 : Int32)), .val (.ref b107), .unset, .unset] []) _
          refine stp (fun _ => XS.aload X114.here hx rfl (hb hby at_88) rfl rfl) ?_
          show Go p e below T114 (mkF m 90 #[.val (.int p0), .val (.int p1), .val (.int p2), .val (.int p3), .val (.int p4), .val (.int ((p0 &&& (2147483647 : Int32)) % (5 : Int32))), .val (.int cc), .val (.int kp), .val (.int (3 : Int32)), .val (.ref b107), .unset, .unset] [(.ref b107)]) _
          refine stp (fun _ => XS.iconst X114.here hx rfl (hb hby at_90)) ?_
          show Go p e below T114 (mkF m 91 #[.val (.int p0), .val (.int p1), .val (.int p2), .val (.int p3), .val (.int p4), .val (.int ((p0 &&& (2147483647 : Int32)) % (5 : Int32))), .val (.int cc), .val (.int kp), .val (.int (3 : Int32)), .val (.ref b107), .unset, .unset] [(.int (1 : Int32)), (.ref b107)]) _
          refine stp (fun _ => XS.iloadN X114.here hx rfl (hb hby at_91) rfl) ?_
          show Go p e below T114 (mkF m 92 #[.val (.int p0), .val (.int p1), .val (.int p2), .val (.int p3), .val (.int p4), .val (.int ((p0 &&& (2147483647 : Int32)) % (5 : Int32))), .val (.int cc), .val (.int kp), .val (.int (3 : Int32)), .val (.ref b107), .unset, .unset] [(.int p3), (.int (1 : Int32)), (.ref b107)]) _
          refine stp (fun _ => XS.sipush X114.here hx rfl (hb hby at_92)) ?_
          show Go p e below T114 (mkF m 95 #[.val (.int p0), .val (.int p1), .val (.int p2), .val (.int p3), .val (.int p4), .val (.int ((p0 &&& (2147483647 : Int32)) % (5 : Int32))), .val (.int cc), .val (.int kp), .val (.int (3 : Int32)), .val (.ref b107), .unset, .unset] [(.int (255 : Int32)), (.int p3), (.int (1 : Int32)), (.ref b107)]) _
          refine stp (fun _ => XS.iand X114.here hx rfl (hb hby at_95) rfl) ?_
          show Go p e below T114 (mkF m 96 #[.val (.int p0), .val (.int p1), .val (.int p2), .val (.int p3), .val (.int p4), .val (.int ((p0 &&& (2147483647 : Int32)) % (5 : Int32))), .val (.int cc), .val (.int kp), .val (.int (3 : Int32)), .val (.ref b107), .unset, .unset] [(.int (p3 &&& (255 : Int32))), (.int (1 : Int32)), (.ref b107)]) _
          refine stp (fun _ => XS.i2c X114.here hx rfl (hb hby at_96) rfl) ?_
          show Go p e below T114 (mkF m 97 #[.val (.int p0), .val (.int p1), .val (.int p2), .val (.int p3), .val (.int p4), .val (.int ((p0 &&& (2147483647 : Int32)) % (5 : Int32))), .val (.int cc), .val (.int kp), .val (.int (3 : Int32)), .val (.ref b107), .unset, .unset] [(.int ((p3 &&& (255 : Int32)).toUInt32.toUInt16.toUInt32.toInt32)), (.int (1 : Int32)), (.ref b107)]) _
          obtain ⟨cl117, Ar117, q117, S117, M117, H117, G117⟩ := (id V114)
          have in117 : ¬ ((1 : Int32) < 0 ∨ cl117.slots.size ≤ ((1 : Int32)).toNatClampNeg) := inb_of S117 ⟨by decide, by decide⟩
          obtain ⟨T117, h117, X117, e117, W117, st117⟩ := stC X114 hx hZ e114 Ar117 (j := (1 : Int32)) in117 (g := (mkF m 97 #[.val (.int p0), .val (.int p1), .val (.int p2), .val (.int p3), .val (.int p4), .val (.int ((p0 &&& (2147483647 : Int32)) % (5 : Int32))), .val (.int cc), .val (.int kp), .val (.int (3 : Int32)), .val (.ref b107), .unset, .unset] [(.int ((p3 &&& (255 : Int32)).toUInt32.toUInt16.toUInt32.toInt32)), (.int (1 : Int32)), (.ref b107)])) rfl rfl (hb hby at_97)
          have V117 : Arv Z h117 b107 k107 .char (3 : Int32) [(.int cc), (.int ((p3 &&& (255 : Int32)).toUInt32.toUInt16.toUInt32.toInt32)), (.int (0 : Int32))] (.int (0 : Int32)) := Arv.set Ar117 q117 S117 M117 H117 G117 (ow_fits_char (char255 (own_char255 rfl))) (ow_wr_char (char255 (own_char255 rfl)) W117) 1 rfl (Nat.le_of_ble_eq_true rfl)
          have f118 := f115.wr W117
          have hk := Nat.le_trans hk (Keep.of_wr W117).1
          have CR := CR.trans (CHr.wr W117 (Safe.exa hZ.alike f115 (by decide) (by decide)) CR.1)
          have K117 : Keep h0 h117 [] := K114.wr W117 (Or.inr sz_b107)
          have O117 := O114.wr W117 ge_b107
          have N117 := Fr.snoc X117 N114 ge_b107
          refine stp st117 ?_
          show Go p e below T117 (mkF m 98 #[.val (.int p0), .val (.int p1), .val (.int p2), .val (.int p3), .val (.int p4), .val (.int ((p0 &&& (2147483647 : Int32)) % (5 : Int32))), .val (.int cc), .val (.int kp), .val (.int (3 : Int32)), .val (.ref b107), .unset, .unset] []) _
          refine stp (fun _ => XS.iload X117.here hx rfl (hb hby at_98) rfl) ?_
          show Go p e below T117 (mkF m 100 #[.val (.int p0), .val (.int p1), .val (.int p2), .val (.int p3), .val (.int p4), .val (.int ((p0 &&& (2147483647 : Int32)) % (5 : Int32))), .val (.int cc), .val (.int kp), .val (.int (3 : Int32)), .val (.ref b107), .unset, .unset] [(.int (3 : Int32))]) _
          refine stp (fun _ => XS.iconst X117.here hx rfl (hb hby at_100)) ?_
          show Go p e below T117 (mkF m 101 #[.val (.int p0), .val (.int p1), .val (.int p2), .val (.int p3), .val (.int p4), .val (.int ((p0 &&& (2147483647 : Int32)) % (5 : Int32))), .val (.int cc), .val (.int kp), .val (.int (3 : Int32)), .val (.ref b107), .unset, .unset] [(.int (2 : Int32)), (.int (3 : Int32))]) _
          refine stp (fun _ => XS.icmpNo X117.here hx rfl (hb hby at_101) rfl (by decide)) ?_
          show Go p e below T117 (mkF m 104 #[.val (.int p0), .val (.int p1), .val (.int p2), .val (.int p3), .val (.int p4), .val (.int ((p0 &&& (2147483647 : Int32)) % (5 : Int32))), .val (.int cc), .val (.int kp), .val (.int (3 : Int32)), .val (.ref b107), .unset, .unset] []) _
          refine stp (fun _ => XS.aload X117.here hx rfl (hb hby at_104) rfl rfl) ?_
          show Go p e below T117 (mkF m 106 #[.val (.int p0), .val (.int p1), .val (.int p2), .val (.int p3), .val (.int p4), .val (.int ((p0 &&& (2147483647 : Int32)) % (5 : Int32))), .val (.int cc), .val (.int kp), .val (.int (3 : Int32)), .val (.ref b107), .unset, .unset] [(.ref b107)]) _
          refine stp (fun _ => XS.iconst X117.here hx rfl (hb hby at_106)) ?_
          show Go p e below T117 (mkF m 107 #[.val (.int p0), .val (.int p1), .val (.int p2), .val (.int p3), .val (.int p4), .val (.int ((p0 &&& (2147483647 : Int32)) % (5 : Int32))), .val (.int cc), .val (.int kp), .val (.int (3 : Int32)), .val (.ref b107), .unset, .unset] [(.int (2 : Int32)), (.ref b107)]) _
          refine stp (fun _ => XS.iload X117.here hx rfl (hb hby at_107) rfl) ?_
          show Go p e below T117 (mkF m 109 #[.val (.int p0), .val (.int p1), .val (.int p2), .val (.int p3), .val (.int p4), .val (.int ((p0 &&& (2147483647 : Int32)) % (5 : Int32))), .val (.int cc), .val (.int kp), .val (.int (3 : Int32)), .val (.ref b107), .unset, .unset] [(.int p4), (.int (2 : Int32)), (.ref b107)]) _
          refine stp (fun _ => XS.sipush X117.here hx rfl (hb hby at_109)) ?_
          show Go p e below T117 (mkF m 112 #[.val (.int p0), .val (.int p1), .val (.int p2), .val (.int p3), .val (.int p4), .val (.int ((p0 &&& (2147483647 : Int32)) % (5 : Int32))), .val (.int cc), .val (.int kp), .val (.int (3 : Int32)), .val (.ref b107), .unset, .unset] [(.int (255 : Int32)), (.int p4), (.int (2 : Int32)), (.ref b107)]) _
          refine stp (fun _ => XS.iand X117.here hx rfl (hb hby at_112) rfl) ?_
          show Go p e below T117 (mkF m 113 #[.val (.int p0), .val (.int p1), .val (.int p2), .val (.int p3), .val (.int p4), .val (.int ((p0 &&& (2147483647 : Int32)) % (5 : Int32))), .val (.int cc), .val (.int kp), .val (.int (3 : Int32)), .val (.ref b107), .unset, .unset] [(.int (p4 &&& (255 : Int32))), (.int (2 : Int32)), (.ref b107)]) _
          refine stp (fun _ => XS.i2c X117.here hx rfl (hb hby at_113) rfl) ?_
          show Go p e below T117 (mkF m 114 #[.val (.int p0), .val (.int p1), .val (.int p2), .val (.int p3), .val (.int p4), .val (.int ((p0 &&& (2147483647 : Int32)) % (5 : Int32))), .val (.int cc), .val (.int kp), .val (.int (3 : Int32)), .val (.ref b107), .unset, .unset] [(.int ((p4 &&& (255 : Int32)).toUInt32.toUInt16.toUInt32.toInt32)), (.int (2 : Int32)), (.ref b107)]) _
          obtain ⟨cl120, Ar120, q120, S120, M120, H120, G120⟩ := (id V117)
          have in120 : ¬ ((2 : Int32) < 0 ∨ cl120.slots.size ≤ ((2 : Int32)).toNatClampNeg) := inb_of S120 ⟨by decide, by decide⟩
          obtain ⟨T120, h120, X120, e120, W120, st120⟩ := stC X117 hx hZ e117 Ar120 (j := (2 : Int32)) in120 (g := (mkF m 114 #[.val (.int p0), .val (.int p1), .val (.int p2), .val (.int p3), .val (.int p4), .val (.int ((p0 &&& (2147483647 : Int32)) % (5 : Int32))), .val (.int cc), .val (.int kp), .val (.int (3 : Int32)), .val (.ref b107), .unset, .unset] [(.int ((p4 &&& (255 : Int32)).toUInt32.toUInt16.toUInt32.toInt32)), (.int (2 : Int32)), (.ref b107)])) rfl rfl (hb hby at_114)
          have V120 : Arv Z h120 b107 k107 .char (3 : Int32) [(.int cc), (.int ((p3 &&& (255 : Int32)).toUInt32.toUInt16.toUInt32.toInt32)), (.int ((p4 &&& (255 : Int32)).toUInt32.toUInt16.toUInt32.toInt32))] (.int (0 : Int32)) := Arv.set Ar120 q120 S120 M120 H120 G120 (ow_fits_char (char255 (own_char255 rfl))) (ow_wr_char (char255 (own_char255 rfl)) W120) 2 rfl (Nat.le_of_ble_eq_true rfl)
          have f121 := f118.wr W120
          have hk := Nat.le_trans hk (Keep.of_wr W120).1
          have CR := CR.trans (CHr.wr W120 (Safe.exa hZ.alike f118 (by decide) (by decide)) CR.1)
          have K120 : Keep h0 h120 [] := K117.wr W120 (Or.inr sz_b107)
          have O120 := O117.wr W120 ge_b107
          have N120 := Fr.snoc X120 N117 ge_b107
          refine stp st120 ?_
          show Go p e below T120 (mkF m 115 #[.val (.int p0), .val (.int p1), .val (.int p2), .val (.int p3), .val (.int p4), .val (.int ((p0 &&& (2147483647 : Int32)) % (5 : Int32))), .val (.int cc), .val (.int kp), .val (.int (3 : Int32)), .val (.ref b107), .unset, .unset] []) _
          obtain ⟨T123, h123, X123, e123, E123, A123, D123, -, st123⟩ := newO X120 hx hZ hown (hw _ (List.mem_of_getElem? (i := 43) rfl)) (hw _ (List.mem_of_getElem? (i := 44) rfl)) (hw _ (List.mem_of_getElem? (i := 28) rfl)) e120 (g := (mkF m 115 #[.val (.int p0), .val (.int p1), .val (.int p2), .val (.int p3), .val (.int p4), .val (.int ((p0 &&& (2147483647 : Int32)) % (5 : Int32))), .val (.int cc), .val (.int kp), .val (.int (3 : Int32)), .val (.ref b107), .unset, .unset] [])) rfl (hb hby at_115) (by decide) (by decide)
          obtain ⟨b123, g123⟩ : ∃ z, z = h120.size := ⟨_, rfl⟩
          rw [← g123] at A123 D123 st123
          have ne124 : auth ≠ b123 := O120.ne E_auth.lt (Nat.le_trans (old_le O120) (Nat.le_of_eq g123.symm))
          have ne125 : b107 ≠ b123 := Nat.ne_of_lt (Nat.lt_of_lt_of_le f121.lt (Nat.le_of_eq g123.symm))
          have ne126 : empty_ ≠ b123 := O120.ne E_em.lt (Nat.le_trans (old_le O120) (Nat.le_of_eq g123.symm))
          have ne127 : impl ≠ b123 := O120.ne E_impl.lt (Nat.le_trans (old_le O120) (Nat.le_of_eq g123.symm))
          have ne128 : va ≠ b123 := O120.ne E_va.lt (Nat.le_trans (old_le O120) (Nat.le_of_eq g123.symm))
          have ne129 : w1 ≠ b123 := O120.ne Q_w1.lt (Nat.le_trans (old_le O120) (Nat.le_of_eq g123.symm))
          have ne130 : w2 ≠ b123 := O120.ne Q_w2.lt (Nat.le_trans (old_le O120) (Nat.le_of_eq g123.symm))
          have sz_b123 : h0.size ≤ b123 := Nat.le_trans K120.1 (Nat.le_of_eq g123.symm)
          have ge_b123 : n0 ≤ b123 := Nat.le_trans (old_le O120) (Nat.le_of_eq g123.symm)
          have f131 := f121.ext E123
          have f132 := V120.ext E123
          have Sf123 := (Safe.new (Z := Z) (EL := consts_1) (Nat.le_of_eq g123.symm)).ext E123 CR.1
          have hk := Nat.le_trans hk E123.1
          have CR := CR.trans (CHr.ext E123 CR.1)
          have K123 : Keep h0 h123 [] := K120.ext E123
          have O123 := O120.ext E123
          have F133 : Fld Z h123 b123 "java/lang/String" "coder" "B" (.int (0 : Int32)) := D123 (Or.inr (hw _ (List.mem_of_getElem? (i := 68) rfl))) (ty := .byte) (by decide)
          have F134 : Fld Z h123 b123 "java/lang/String" "value" "[B" .null := D123 (Or.inr (hw _ (List.mem_of_getElem? (i := 70) rfl))) (ty := (.array .byte)) (by decide)
          refine stp st123 ?_
          show Go p e below T123 (mkF m 118 #[.val (.int p0), .val (.int p1), .val (.int p2), .val (.int p3), .val (.int p4), .val (.int ((p0 &&& (2147483647 : Int32)) % (5 : Int32))), .val (.int cc), .val (.int kp), .val (.int (3 : Int32)), .val (.ref b107), .unset, .unset] [(.ref b123)]) _
          refine stp (fun _ => XS.dup X123.here hx rfl (hb hby at_118) rfl rfl) ?_
          show Go p e below T123 (mkF m 119 #[.val (.int p0), .val (.int p1), .val (.int p2), .val (.int p3), .val (.int p4), .val (.int ((p0 &&& (2147483647 : Int32)) % (5 : Int32))), .val (.int cc), .val (.int kp), .val (.int (3 : Int32)), .val (.ref b107), .unset, .unset] [(.ref b123), (.ref b123)]) _
          refine stp (fun _ => XS.aload X123.here hx rfl (hb hby at_119) rfl rfl) ?_
          show Go p e below T123 (mkF m 121 #[.val (.int p0), .val (.int p1), .val (.int p2), .val (.int p3), .val (.int p4), .val (.int ((p0 &&& (2147483647 : Int32)) % (5 : Int32))), .val (.int cc), .val (.int kp), .val (.int (3 : Int32)), .val (.ref b107), .unset, .unset] [(.ref b107), (.ref b123), (.ref b123)]) _
          obtain ⟨_, _, ⟨T135, L135, k135, n135⟩, -, X135, ⟨Lc135, hQ135, l135, y135, z135⟩, st135⟩ := X123.specialBack hx (y := (⟨"java/lang/String", "<init>", "([C)V"⟩ : MethodName)) rfl hown (mvT hZ (hw _ (List.mem_of_getElem? (i := 45) rfl))) (mvT hZ (hw _ (List.mem_of_getElem? (i := 46) rfl))) (mvT hZ (hw _ (List.mem_of_getElem? (i := 47) rfl))) (by decide) (StrChars.Road.backV (W := 1) hZ hws (kI := 4) (hw _ (List.mem_of_getElem? (i := 44) rfl)) (cs := ([cc, ((p3 &&& (255 : Int32)).toUInt32.toUInt16.toUInt32.toInt32), ((p4 &&& (255 : Int32)).toUInt32.toUInt16.toUInt32.toInt32)] : List Int32)) (bs := ([cc, ((p3 &&& (255 : Int32)).toUInt32.toUInt16.toUInt32.toInt32), ((p4 &&& (255 : Int32)).toUInt32.toUInt16.toUInt32.toInt32)] : List Int32).map (fun c => c.toInt8.toInt32)) (n := 3) ge_b123 (old_le O123) A123 F134 F133 f132 (S_CS.ext O123.2) hcz rfl rfl (by decide) (by decide) (own_sm1 hcc (own_sm1 (own_char255 rfl) (own_sm1 (own_char255 rfl) own_sm0))) rfl (by decide) (by decide)) (g := (mkF m 121 #[.val (.int p0), .val (.int p1), .val (.int p2), .val (.int p3), .val (.int p4), .val (.int ((p0 &&& (2147483647 : Int32)) % (5 : Int32))), .val (.int cc), .val (.int kp), .val (.int (3 : Int32)), .val (.ref b107), .unset, .unset] [(.ref b107), (.ref b123), (.ref b123)])) rfl (by rw [hml]; rfl) (Steps.refl _) (a := b123) (argsL := [(.ref b107)]) (rest := [(.ref b123)]) (lenOf pd_7 rfl) rfl (by show 2 * 0 + _ ≤ _; exact Nat.le_of_eq rfl) (hb hby at_121) (fun _ _ => ⟨rfl, e123, (by decide : 2 + 1 ≤ _), (by decide : 7 + 3 ≤ _)⟩)
          dsimp only [Pt.U, Pt.locs, Pt.cells, Pt.slots] at X135 l135 y135 z135 st135 hQ135
          subst y135 z135
          obtain ⟨rfl, N135q, K135q, E135q, C135q, t135, kb135, ge_t135, sz135q, ne135q, F135q, V135q⟩ := hQ135
          have N135 : Fr n0 L135 := by rw [l135]; exact Fr.app N120 N135q
          have ne136 : b107 ≠ t135 := Nat.ne_of_lt (Nat.lt_of_lt_of_le f131.lt sz135q)
          have f137 := f131.keep K135q
          have f138 := f132.keep K135q (ninS ne125 nin0)
          have f139 := Sf123.keep K135q (sfS Sf123 sf0) CR.1
          have hk := Nat.le_trans hk K135q.1
          have CR := CR.trans (CHr.keep K135q (sfS Sf123 sf0) CR.1)
          have K135 : Keep h0 T135.heap [] := K123.trans K135q (allS (Or.inr sz_b123) all0)
          have sz_t135 : h0.size ≤ t135 := Nat.le_trans K123.1 sz135q
          have O135 := O123.keep K135q (allS ge_b123 all0)
          have Q135 : StrIs Z T135.heap b123 ([cc, ((p3 &&& (255 : Int32)).toUInt32.toUInt16.toUInt32.toInt32), ((p4 &&& (255 : Int32)).toUInt32.toUInt16.toUInt32.toInt32)] : List Int32) := StrIs.of E135q F135q C135q V135q rfl rfl (own_sm1 hcc (own_sm1 (own_char255 rfl) (own_sm1 (own_char255 rfl) own_sm0))) (Nat.le_of_ble_eq_true rfl)
          refine stt st135 ?_
          show Go p e below T135 (mkF m 124 #[.val (.int p0), .val (.int p1), .val (.int p2), .val (.int p3), .val (.int p4), .val (.int ((p0 &&& (2147483647 : Int32)) % (5 : Int32))), .val (.int cc), .val (.int kp), .val (.int (3 : Int32)), .val (.ref b107), .unset, .unset] [(.ref b123)]) _
          obtain ⟨_, _, ⟨T140, L140, k140, n140⟩, -, X140, ⟨Lc140, hQ140, l140, y140, z140⟩, st140⟩ := Jvm.LawKit.callS X135 hx (y := (⟨"com/example/uriel/uriel/grant/GrantType", "fromWireName", "(Ljava/lang/String;)Ljava/util/Optional;"⟩ : MethodName)) hown (mvT hZ (hw _ (List.mem_of_getElem? (i := 1) rfl))) (mvT hZ (hw _ (List.mem_of_getElem? (i := 2) rfl))) (mvT hZ (hw _ (List.mem_of_getElem? (i := 3) rfl))) (mvT hZ (hw _ (List.mem_of_getElem? (i := 4) rfl))) (by decide) (backOf (W := 0) (rm_fwn l Z a0 hw [] b123 auth impl va w1 w2 empty_ ([cc, ((p3 &&& (255 : Int32)).toUInt32.toUInt16.toUInt32.toInt32), ((p4 &&& (255 : Int32)).toUInt32.toUInt16.toUInt32.toInt32)] : List Int32) cz k_va T135.heap n0 O135 S_VALUES E_va V_va F_w1 F_w2 Q_w1 Q_w2 S_EM Q135 S_CS hcz (own_ac_ne (show (18 : Nat) ≠ 3 by decide)) (own_im_ne (show (8 : Nat) ≠ 3 by decide))) hZ (hw _ (List.mem_of_getElem? (i := 4) rfl)) (hw _ (List.mem_of_getElem? (i := 3) rfl)) (by decide) (by decide)) (g := (mkF m 124 #[.val (.int p0), .val (.int p1), .val (.int p2), .val (.int p3), .val (.int p4), .val (.int ((p0 &&& (2147483647 : Int32)) % (5 : Int32))), .val (.int cc), .val (.int kp), .val (.int (3 : Int32)), .val (.ref b107), .unset, .unset] [(.ref b123)])) rfl (by rw [hml]; rfl) (argsL := [(.ref b123)]) (rest := []) (lenOf pd_5 rfl) rfl (by show 2 * 0 + _ ≤ _; exact Nat.le_of_eq rfl) (hb hby at_124) (fun _ _ => ⟨rfl, rfl, (by decide : 3 + 1 ≤ _), (by decide : 10 + 2 ≤ _)⟩)
          dsimp only [Pt.U, Pt.locs, Pt.cells, Pt.slots] at X140 l140 y140 z140 st140 hQ140
          subst y140 z140
          obtain ⟨rfl, N140q, K140q⟩ := hQ140
          have N140 : Fr n0 L140 := by rw [l140]; exact Fr.app N135 N140q
          have f141 := f137.keep K140q
          have f142 := f138.keep K140q nin0
          have f143 := f139.keep K140q sf0 CR.1
          have f144 := E135q.keep K140q
          have f145 := Q135.keep K140q nin0 apart0
          have hk := Nat.le_trans hk K140q.1
          have CR := CR.trans (CHr.keep K140q sf0 CR.1)
          have K140 : Keep h0 T140.heap [] := K135.trans K140q all0
          have O140 := O135.keep K140q all0
          refine stp st140 ?_
          show Go p e below T140 (mkF m 127 #[.val (.int p0), .val (.int p1), .val (.int p2), .val (.int p3), .val (.int p4), .val (.int ((p0 &&& (2147483647 : Int32)) % (5 : Int32))), .val (.int cc), .val (.int kp), .val (.int (3 : Int32)), .val (.ref b107), .unset, .unset] [(.ref empty_)]) _
          refine stp (fun _ => XS.aconstNull X140.here hx rfl (hb hby at_127)) ?_
          show Go p e below T140 (mkF m 128 #[.val (.int p0), .val (.int p1), .val (.int p2), .val (.int p3), .val (.int p4), .val (.int ((p0 &&& (2147483647 : Int32)) % (5 : Int32))), .val (.int cc), .val (.int kp), .val (.int (3 : Int32)), .val (.ref b107), .unset, .unset] [.null, (.ref empty_)]) _
          obtain ⟨cq146, kq146, q146a, q146b, q146c⟩ := isOf hZ rfl (E_em.ext O140.2)
          obtain ⟨_, _, ⟨T146, L146, k146, n146⟩, -, X146, ⟨Lc146, hQ146, l146, y146, z146⟩, st146⟩ := X140.virtualBack hx (y := (⟨"java/util/Optional", "orElse", "(Ljava/lang/Object;)Ljava/lang/Object;"⟩ : MethodName)) (z := (⟨"java/util/Optional", "orElse", "(Ljava/lang/Object;)Ljava/lang/Object;"⟩ : MethodName)) hown (mvT hZ (hw _ (List.mem_of_getElem? (i := 35) rfl))) (mvT hZ (hw _ (List.mem_of_getElem? (i := 36) rfl))) (notFace_of_selects (args := #[]) (mvT hZ (hw _ (List.mem_of_getElem? (i := 38) rfl)))) (mvT hZ (hw _ (List.mem_of_getElem? (i := 38) rfl))) (mvT hZ (hw _ (List.mem_of_getElem? (i := 37) rfl))) (by decide) (backOf (W := 0) (rm_oe0 l Z a0 hw [] empty_  T140.heap n0 O140 F_em) hZ (hw _ (List.mem_of_getElem? (i := 39) rfl)) (hw _ (List.mem_of_getElem? (i := 32) rfl)) (by decide) (by decide)) q146a q146c (g := (mkF m 128 #[.val (.int p0), .val (.int p1), .val (.int p2), .val (.int p3), .val (.int p4), .val (.int ((p0 &&& (2147483647 : Int32)) % (5 : Int32))), .val (.int cc), .val (.int kp), .val (.int (3 : Int32)), .val (.ref b107), .unset, .unset] [.null, (.ref empty_)])) rfl (by rw [hml]; rfl) (Steps.refl _) (argsL := [.null]) (rest := []) (lenOf pd_6 rfl) rfl (by show 2 * 0 + _ ≤ _; exact Nat.le_of_eq rfl) (hb hby at_128) (fun _ _ => ⟨rfl, rfl, (by decide : 4 + 0 ≤ _), (by decide : 12 + 0 ≤ _)⟩)
          dsimp only [Pt.U, Pt.locs, Pt.cells, Pt.slots] at X146 l146 y146 z146 st146 hQ146
          subst y146 z146
          obtain ⟨rfl, N146q, e146⟩ := hQ146
          have N146 : Fr n0 L146 := by rw [l146]; exact Fr.app N140 N146q
          refine stt st146 ?_
          show Go p e below T146 (mkF m 131 #[.val (.int p0), .val (.int p1), .val (.int p2), .val (.int p3), .val (.int p4), .val (.int ((p0 &&& (2147483647 : Int32)) % (5 : Int32))), .val (.int cc), .val (.int kp), .val (.int (3 : Int32)), .val (.ref b107), .unset, .unset] [.null]) _
          refine stp (fun _ => XS.ifnonnullNo X146.here hx rfl (hb hby at_131) rfl) ?_
          show Go p e below T146 (mkF m 134 #[.val (.int p0), .val (.int p1), .val (.int p2), .val (.int p3), .val (.int p4), .val (.int ((p0 &&& (2147483647 : Int32)) % (5 : Int32))), .val (.int cc), .val (.int kp), .val (.int (3 : Int32)), .val (.ref b107), .unset, .unset] []) _
          refine stp (fun _ => XS.iconst X146.here hx rfl (hb hby at_134)) ?_
          show Go p e below T146 (mkF m 135 #[.val (.int p0), .val (.int p1), .val (.int p2), .val (.int p3), .val (.int p4), .val (.int ((p0 &&& (2147483647 : Int32)) % (5 : Int32))), .val (.int cc), .val (.int kp), .val (.int (3 : Int32)), .val (.ref b107), .unset, .unset] [(.int (1 : Int32))]) _
          refine stp (fun _ => XS.goto X146.here hx rfl (pc0 := 135) (pc' := 139) rfl (hb hby at_135) (by decide) (by decide)) ?_
          show Go p e below T146 (mkF m 139 #[.val (.int p0), .val (.int p1), .val (.int p2), .val (.int p3), .val (.int p4), .val (.int ((p0 &&& (2147483647 : Int32)) % (5 : Int32))), .val (.int cc), .val (.int kp), .val (.int (3 : Int32)), .val (.ref b107), .unset, .unset] [(.int (1 : Int32))]) _
          refine outNW X146 hx hZ hEL e146 hS hk CR (t := .boolean) hret (by simp) (hb hby at_139) hlk (by decide) (by decide) ?_
          exact ⟨rfl, N146⟩
      · refine stp (fun _ => XS.icmpYes X0.here hx rfl (pc0 := 57) (pc' := 140) rfl (hb hby at_57) rfl (XT.ii_ne_t q57_4) (by decide) (by decide)) ?_
        show Go p e below T0 (mkF m 140 #[.val (.int p0), .val (.int p1), .val (.int p2), .val (.int p3), .val (.int p4), .val (.int ((p0 &&& (2147483647 : Int32)) % (5 : Int32))), .val (.int cc), .val (.int kp), .unset, .unset, .unset, .unset] []) _
        refine stp (fun _ => XS.iload X0.here hx rfl (hb hby at_140) rfl) ?_
        show Go p e below T0 (mkF m 142 #[.val (.int p0), .val (.int p1), .val (.int p2), .val (.int p3), .val (.int p4), .val (.int ((p0 &&& (2147483647 : Int32)) % (5 : Int32))), .val (.int cc), .val (.int kp), .unset, .unset, .unset, .unset] [(.int ((p0 &&& (2147483647 : Int32)) % (5 : Int32)))]) _
        refine stp (fun _ => XS.iconst X0.here hx rfl (hb hby at_142)) ?_
        show Go p e below T0 (mkF m 143 #[.val (.int p0), .val (.int p1), .val (.int p2), .val (.int p3), .val (.int p4), .val (.int ((p0 &&& (2147483647 : Int32)) % (5 : Int32))), .val (.int cc), .val (.int kp), .unset, .unset, .unset, .unset] [(.int (2 : Int32)), (.int ((p0 &&& (2147483647 : Int32)) % (5 : Int32)))]) _
        by_cases q143_147 : ((p0 &&& (2147483647 : Int32)) % (5 : Int32)) = (2 : Int32)
        · refine stp (fun _ => XS.icmpNo X0.here hx rfl (hb hby at_143) rfl (XT.ii_ne_f q143_147)) ?_
          show Go p e below T0 (mkF m 146 #[.val (.int p0), .val (.int p1), .val (.int p2), .val (.int p3), .val (.int p4), .val (.int ((p0 &&& (2147483647 : Int32)) % (5 : Int32))), .val (.int cc), .val (.int kp), .unset, .unset, .unset, .unset] []) _
          refine stp (fun _ => XS.bipush X0.here hx rfl (hb hby at_146)) ?_
          show Go p e below T0 (mkF m 148 #[.val (.int p0), .val (.int p1), .val (.int p2), .val (.int p3), .val (.int p4), .val (.int ((p0 &&& (2147483647 : Int32)) % (5 : Int32))), .val (.int cc), .val (.int kp), .unset, .unset, .unset, .unset] [(.int (8 : Int32))]) _
          obtain ⟨T148, h148, k148, X148, e148, E148, A148, B148, st148⟩ := newPE X0 hx hZ (hw _ (List.mem_of_getElem? (i := 42) rfl)) e0 (g := (mkF m 148 #[.val (.int p0), .val (.int p1), .val (.int p2), .val (.int p3), .val (.int p4), .val (.int ((p0 &&& (2147483647 : Int32)) % (5 : Int32))), .val (.int cc), .val (.int kp), .unset, .unset, .unset, .unset] [(.int (8 : Int32))])) rfl (hb hby at_148) rfl (by decide) (cap := 8) (by decide) (by decide) (by decide) (by decide) (ad := "[C") (by decide)
          obtain ⟨b148, g148⟩ : ∃ z, z = h0.size := ⟨_, rfl⟩
          rw [← g148] at A148 B148 st148
          have ne149 : auth ≠ b148 := O0.ne E_auth.lt (Nat.le_trans (old_le O0) (Nat.le_of_eq g148.symm))
          have ne150 : empty_ ≠ b148 := O0.ne E_em.lt (Nat.le_trans (old_le O0) (Nat.le_of_eq g148.symm))
          have ne151 : impl ≠ b148 := O0.ne E_impl.lt (Nat.le_trans (old_le O0) (Nat.le_of_eq g148.symm))
          have ne152 : va ≠ b148 := O0.ne E_va.lt (Nat.le_trans (old_le O0) (Nat.le_of_eq g148.symm))
          have ne153 : w1 ≠ b148 := O0.ne Q_w1.lt (Nat.le_trans (old_le O0) (Nat.le_of_eq g148.symm))
          have ne154 : w2 ≠ b148 := O0.ne Q_w2.lt (Nat.le_trans (old_le O0) (Nat.le_of_eq g148.symm))
          have sz_b148 : h0.size ≤ b148 := Nat.le_trans (Keep.refl h0 []).1 (Nat.le_of_eq g148.symm)
          have ge_b148 : n0 ≤ b148 := Nat.le_trans (old_le O0) (Nat.le_of_eq g148.symm)
          have hk := Nat.le_trans hk E148.1
          have CR := CR.trans (CHr.ext E148 CR.1)
          have K148 : Keep h0 h148 [] := (Keep.refl h0 []).ext E148
          have O148 := O0.ext E148
          have V148 : Arv Z h148 b148 k148 .char (8 : Int32) [(.int (0 : Int32)), (.int (0 : Int32)), (.int (0 : Int32)), (.int (0 : Int32)), (.int (0 : Int32)), (.int (0 : Int32)), (.int (0 : Int32)), (.int (0 : Int32))] (.int (0 : Int32)) := (Arv.new A148 (by decide)).pad (pad_rep [] (.int (0 : Int32)) 8)
          refine stp st148 ?_
          show Go p e below T148 (mkF m 150 #[.val (.int p0), .val (.int p1), .val (.int p2), .val (.int p3), .val (.int p4), .val (.int ((p0 &&& (2147483647 : Int32)) % (5 : Int32))), .val (.int cc), .val (.int kp), .unset, .unset, .unset, .unset] [(.ref b148)]) _
          refine stp (fun _ => XS.dup X148.here hx rfl (hb hby at_150) rfl rfl) ?_
          show Go p e below T148 (mkF m 151 #[.val (.int p0), .val (.int p1), .val (.int p2), .val (.int p3), .val (.int p4), .val (.int ((p0 &&& (2147483647 : Int32)) % (5 : Int32))), .val (.int cc), .val (.int kp), .unset, .unset, .unset, .unset] [(.ref b148), (.ref b148)]) _
          refine stp (fun _ => XS.iconst X148.here hx rfl (hb hby at_151)) ?_
          show Go p e below T148 (mkF m 152 #[.val (.int p0), .val (.int p1), .val (.int p2), .val (.int p3), .val (.int p4), .val (.int ((p0 &&& (2147483647 : Int32)) % (5 : Int32))), .val (.int cc), .val (.int kp), .unset, .unset, .unset, .unset] [(.int (0 : Int32)), (.ref b148), (.ref b148)]) _
          refine stp (fun _ => XS.bipush X148.here hx rfl (hb hby at_152)) ?_
          show Go p e below T148 (mkF m 154 #[.val (.int p0), .val (.int p1), .val (.int p2), .val (.int p3), .val (.int p4), .val (.int ((p0 &&& (2147483647 : Int32)) % (5 : Int32))), .val (.int cc), .val (.int kp), .unset, .unset, .unset, .unset] [(.int (105 : Int32)), (.int (0 : Int32)), (.ref b148), (.ref b148)]) _
          obtain ⟨cl155, Ar155, q155, S155, M155, H155, G155⟩ := (id V148)
          have in155 : ¬ ((0 : Int32) < 0 ∨ cl155.slots.size ≤ ((0 : Int32)).toNatClampNeg) := inb_of S155 ⟨by decide, by decide⟩
          obtain ⟨T155, h155, X155, e155, W155, st155⟩ := stC X148 hx hZ e148 Ar155 (j := (0 : Int32)) in155 (g := (mkF m 154 #[.val (.int p0), .val (.int p1), .val (.int p2), .val (.int p3), .val (.int p4), .val (.int ((p0 &&& (2147483647 : Int32)) % (5 : Int32))), .val (.int cc), .val (.int kp), .unset, .unset, .unset, .unset] [(.int (105 : Int32)), (.int (0 : Int32)), (.ref b148), (.ref b148)])) rfl rfl (hb hby at_154)
          have V155 : Arv Z h155 b148 k148 .char (8 : Int32) [(.int (105 : Int32)), (.int (0 : Int32)), (.int (0 : Int32)), (.int (0 : Int32)), (.int (0 : Int32)), (.int (0 : Int32)), (.int (0 : Int32)), (.int (0 : Int32))] (.int (0 : Int32)) := Arv.set Ar155 q155 S155 M155 H155 G155 (ow_fits_char (by decide)) (ow_wr_char (by decide) W155) 0 rfl (Nat.le_of_ble_eq_true rfl)
          have f156 := B148.wr W155
          have hk := Nat.le_trans hk (Keep.of_wr W155).1
          have CR := CR.trans (CHr.wr W155 (Safe.exa hZ.alike B148 (by decide) (by decide)) CR.1)
          have K155 : Keep h0 h155 [] := K148.wr W155 (Or.inr sz_b148)
          have O155 := O148.wr W155 ge_b148
          have N155 := Fr.snoc X155 N0 ge_b148
          refine stp st155 ?_
          show Go p e below T155 (mkF m 155 #[.val (.int p0), .val (.int p1), .val (.int p2), .val (.int p3), .val (.int p4), .val (.int ((p0 &&& (2147483647 : Int32)) % (5 : Int32))), .val (.int cc), .val (.int kp), .unset, .unset, .unset, .unset] [(.ref b148)]) _
          refine stp (fun _ => XS.dup X155.here hx rfl (hb hby at_155) rfl rfl) ?_
          show Go p e below T155 (mkF m 156 #[.val (.int p0), .val (.int p1), .val (.int p2), .val (.int p3), .val (.int p4), .val (.int ((p0 &&& (2147483647 : Int32)) % (5 : Int32))), .val (.int cc), .val (.int kp), .unset, .unset, .unset, .unset] [(.ref b148), (.ref b148)]) _
          refine stp (fun _ => XS.iconst X155.here hx rfl (hb hby at_156)) ?_
          show Go p e below T155 (mkF m 157 #[.val (.int p0), .val (.int p1), .val (.int p2), .val (.int p3), .val (.int p4), .val (.int ((p0 &&& (2147483647 : Int32)) % (5 : Int32))), .val (.int cc), .val (.int kp), .unset, .unset, .unset, .unset] [(.int (1 : Int32)), (.ref b148), (.ref b148)]) _
          refine stp (fun _ => XS.bipush X155.here hx rfl (hb hby at_157)) ?_
          show Go p e below T155 (mkF m 159 #[.val (.int p0), .val (.int p1), .val (.int p2), .val (.int p3), .val (.int p4), .val (.int ((p0 &&& (2147483647 : Int32)) % (5 : Int32))), .val (.int cc), .val (.int kp), .unset, .unset, .unset, .unset] [(.int (109 : Int32)), (.int (1 : Int32)), (.ref b148), (.ref b148)]) _
          obtain ⟨cl158, Ar158, q158, S158, M158, H158, G158⟩ := (id V155)
          have in158 : ¬ ((1 : Int32) < 0 ∨ cl158.slots.size ≤ ((1 : Int32)).toNatClampNeg) := inb_of S158 ⟨by decide, by decide⟩
          obtain ⟨T158, h158, X158, e158, W158, st158⟩ := stC X155 hx hZ e155 Ar158 (j := (1 : Int32)) in158 (g := (mkF m 159 #[.val (.int p0), .val (.int p1), .val (.int p2), .val (.int p3), .val (.int p4), .val (.int ((p0 &&& (2147483647 : Int32)) % (5 : Int32))), .val (.int cc), .val (.int kp), .unset, .unset, .unset, .unset] [(.int (109 : Int32)), (.int (1 : Int32)), (.ref b148), (.ref b148)])) rfl rfl (hb hby at_159)
          have V158 : Arv Z h158 b148 k148 .char (8 : Int32) [(.int (105 : Int32)), (.int (109 : Int32)), (.int (0 : Int32)), (.int (0 : Int32)), (.int (0 : Int32)), (.int (0 : Int32)), (.int (0 : Int32)), (.int (0 : Int32))] (.int (0 : Int32)) := Arv.set Ar158 q158 S158 M158 H158 G158 (ow_fits_char (by decide)) (ow_wr_char (by decide) W158) 1 rfl (Nat.le_of_ble_eq_true rfl)
          have f159 := f156.wr W158
          have hk := Nat.le_trans hk (Keep.of_wr W158).1
          have CR := CR.trans (CHr.wr W158 (Safe.exa hZ.alike f156 (by decide) (by decide)) CR.1)
          have K158 : Keep h0 h158 [] := K155.wr W158 (Or.inr sz_b148)
          have O158 := O155.wr W158 ge_b148
          have N158 := Fr.snoc X158 N155 ge_b148
          refine stp st158 ?_
          show Go p e below T158 (mkF m 160 #[.val (.int p0), .val (.int p1), .val (.int p2), .val (.int p3), .val (.int p4), .val (.int ((p0 &&& (2147483647 : Int32)) % (5 : Int32))), .val (.int cc), .val (.int kp), .unset, .unset, .unset, .unset] [(.ref b148)]) _
          refine stp (fun _ => XS.dup X158.here hx rfl (hb hby at_160) rfl rfl) ?_
          show Go p e below T158 (mkF m 161 #[.val (.int p0), .val (.int p1), .val (.int p2), .val (.int p3), .val (.int p4), .val (.int ((p0 &&& (2147483647 : Int32)) % (5 : Int32))), .val (.int cc), .val (.int kp), .unset, .unset, .unset, .unset] [(.ref b148), (.ref b148)]) _
          refine stp (fun _ => XS.iconst X158.here hx rfl (hb hby at_161)) ?_
          show Go p e below T158 (mkF m 162 #[.val (.int p0), .val (.int p1), .val (.int p2), .val (.int p3), .val (.int p4), .val (.int ((p0 &&& (2147483647 : Int32)) % (5 : Int32))), .val (.int cc), .val (.int kp), .unset, .unset, .unset, .unset] [(.int (2 : Int32)), (.ref b148), (.ref b148)]) _
          refine stp (fun _ => XS.bipush X158.here hx rfl (hb hby at_162)) ?_
          show Go p e below T158 (mkF m 164 #[.val (.int p0), .val (.int p1), .val (.int p2), .val (.int p3), .val (.int p4), .val (.int ((p0 &&& (2147483647 : Int32)) % (5 : Int32))), .val (.int cc), .val (.int kp), .unset, .unset, .unset, .unset] [(.int (112 : Int32)), (.int (2 : Int32)), (.ref b148), (.ref b148)]) _
          obtain ⟨cl161, Ar161, q161, S161, M161, H161, G161⟩ := (id V158)
          have in161 : ¬ ((2 : Int32) < 0 ∨ cl161.slots.size ≤ ((2 : Int32)).toNatClampNeg) := inb_of S161 ⟨by decide, by decide⟩
          obtain ⟨T161, h161, X161, e161, W161, st161⟩ := stC X158 hx hZ e158 Ar161 (j := (2 : Int32)) in161 (g := (mkF m 164 #[.val (.int p0), .val (.int p1), .val (.int p2), .val (.int p3), .val (.int p4), .val (.int ((p0 &&& (2147483647 : Int32)) % (5 : Int32))), .val (.int cc), .val (.int kp), .unset, .unset, .unset, .unset] [(.int (112 : Int32)), (.int (2 : Int32)), (.ref b148), (.ref b148)])) rfl rfl (hb hby at_164)
          have V161 : Arv Z h161 b148 k148 .char (8 : Int32) [(.int (105 : Int32)), (.int (109 : Int32)), (.int (112 : Int32)), (.int (0 : Int32)), (.int (0 : Int32)), (.int (0 : Int32)), (.int (0 : Int32)), (.int (0 : Int32))] (.int (0 : Int32)) := Arv.set Ar161 q161 S161 M161 H161 G161 (ow_fits_char (by decide)) (ow_wr_char (by decide) W161) 2 rfl (Nat.le_of_ble_eq_true rfl)
          have f162 := f159.wr W161
          have hk := Nat.le_trans hk (Keep.of_wr W161).1
          have CR := CR.trans (CHr.wr W161 (Safe.exa hZ.alike f159 (by decide) (by decide)) CR.1)
          have K161 : Keep h0 h161 [] := K158.wr W161 (Or.inr sz_b148)
          have O161 := O158.wr W161 ge_b148
          have N161 := Fr.snoc X161 N158 ge_b148
          refine stp st161 ?_
          show Go p e below T161 (mkF m 165 #[.val (.int p0), .val (.int p1), .val (.int p2), .val (.int p3), .val (.int p4), .val (.int ((p0 &&& (2147483647 : Int32)) % (5 : Int32))), .val (.int cc), .val (.int kp), .unset, .unset, .unset, .unset] [(.ref b148)]) _
          refine stp (fun _ => XS.dup X161.here hx rfl (hb hby at_165) rfl rfl) ?_
          show Go p e below T161 (mkF m 166 #[.val (.int p0), .val (.int p1), .val (.int p2), .val (.int p3), .val (.int p4), .val (.int ((p0 &&& (2147483647 : Int32)) % (5 : Int32))), .val (.int cc), .val (.int kp), .unset, .unset, .unset, .unset] [(.ref b148), (.ref b148)]) _
          refine stp (fun _ => XS.iconst X161.here hx rfl (hb hby at_166)) ?_
          show Go p e below T161 (mkF m 167 #[.val (.int p0), .val (.int p1), .val (.int p2), .val (.int p3), .val (.int p4), .val (.int ((p0 &&& (2147483647 : Int32)) % (5 : Int32))), .val (.int cc), .val (.int kp), .unset, .unset, .unset, .unset] [(.int (3 : Int32)), (.ref b148), (.ref b148)]) _
          refine stp (fun _ => XS.bipush X161.here hx rfl (hb hby at_167)) ?_
          show Go p e below T161 (mkF m 169 #[.val (.int p0), .val (.int p1), .val (.int p2), .val (.int p3), .val (.int p4), .val (.int ((p0 &&& (2147483647 : Int32)) % (5 : Int32))), .val (.int cc), .val (.int kp), .unset, .unset, .unset, .unset] [(.int (108 : Int32)), (.int (3 : Int32)), (.ref b148), (.ref b148)]) _
          obtain ⟨cl164, Ar164, q164, S164, M164, H164, G164⟩ := (id V161)
          have in164 : ¬ ((3 : Int32) < 0 ∨ cl164.slots.size ≤ ((3 : Int32)).toNatClampNeg) := inb_of S164 ⟨by decide, by decide⟩
          obtain ⟨T164, h164, X164, e164, W164, st164⟩ := stC X161 hx hZ e161 Ar164 (j := (3 : Int32)) in164 (g := (mkF m 169 #[.val (.int p0), .val (.int p1), .val (.int p2), .val (.int p3), .val (.int p4), .val (.int ((p0 &&& (2147483647 : Int32)) % (5 : Int32))), .val (.int cc), .val (.int kp), .unset, .unset, .unset, .unset] [(.int (108 : Int32)), (.int (3 : Int32)), (.ref b148), (.ref b148)])) rfl rfl (hb hby at_169)
          have V164 : Arv Z h164 b148 k148 .char (8 : Int32) [(.int (105 : Int32)), (.int (109 : Int32)), (.int (112 : Int32)), (.int (108 : Int32)), (.int (0 : Int32)), (.int (0 : Int32)), (.int (0 : Int32)), (.int (0 : Int32))] (.int (0 : Int32)) := Arv.set Ar164 q164 S164 M164 H164 G164 (ow_fits_char (by decide)) (ow_wr_char (by decide) W164) 3 rfl (Nat.le_of_ble_eq_true rfl)
          have f165 := f162.wr W164
          have hk := Nat.le_trans hk (Keep.of_wr W164).1
          have CR := CR.trans (CHr.wr W164 (Safe.exa hZ.alike f162 (by decide) (by decide)) CR.1)
          have K164 : Keep h0 h164 [] := K161.wr W164 (Or.inr sz_b148)
          have O164 := O161.wr W164 ge_b148
          have N164 := Fr.snoc X164 N161 ge_b148
          refine stp st164 ?_
          show Go p e below T164 (mkF m 170 #[.val (.int p0), .val (.int p1), .val (.int p2), .val (.int p3), .val (.int p4), .val (.int ((p0 &&& (2147483647 : Int32)) % (5 : Int32))), .val (.int cc), .val (.int kp), .unset, .unset, .unset, .unset] [(.ref b148)]) _
          refine stp (fun _ => XS.dup X164.here hx rfl (hb hby at_170) rfl rfl) ?_
          show Go p e below T164 (mkF m 171 #[.val (.int p0), .val (.int p1), .val (.int p2), .val (.int p3), .val (.int p4), .val (.int ((p0 &&& (2147483647 : Int32)) % (5 : Int32))), .val (.int cc), .val (.int kp), .unset, .unset, .unset, .unset] [(.ref b148), (.ref b148)]) _
          refine stp (fun _ => XS.iconst X164.here hx rfl (hb hby at_171)) ?_
          show Go p e below T164 (mkF m 172 #[.val (.int p0), .val (.int p1), .val (.int p2), .val (.int p3), .val (.int p4), .val (.int ((p0 &&& (2147483647 : Int32)) % (5 : Int32))), .val (.int cc), .val (.int kp), .unset, .unset, .unset, .unset] [(.int (4 : Int32)), (.ref b148), (.ref b148)]) _
          refine stp (fun _ => XS.bipush X164.here hx rfl (hb hby at_172)) ?_
          show Go p e below T164 (mkF m 174 #[.val (.int p0), .val (.int p1), .val (.int p2), .val (.int p3), .val (.int p4), .val (.int ((p0 &&& (2147483647 : Int32)) % (5 : Int32))), .val (.int cc), .val (.int kp), .unset, .unset, .unset, .unset] [(.int (105 : Int32)), (.int (4 : Int32)), (.ref b148), (.ref b148)]) _
          obtain ⟨cl167, Ar167, q167, S167, M167, H167, G167⟩ := (id V164)
          have in167 : ¬ ((4 : Int32) < 0 ∨ cl167.slots.size ≤ ((4 : Int32)).toNatClampNeg) := inb_of S167 ⟨by decide, by decide⟩
          obtain ⟨T167, h167, X167, e167, W167, st167⟩ := stC X164 hx hZ e164 Ar167 (j := (4 : Int32)) in167 (g := (mkF m 174 #[.val (.int p0), .val (.int p1), .val (.int p2), .val (.int p3), .val (.int p4), .val (.int ((p0 &&& (2147483647 : Int32)) % (5 : Int32))), .val (.int cc), .val (.int kp), .unset, .unset, .unset, .unset] [(.int (105 : Int32)), (.int (4 : Int32)), (.ref b148), (.ref b148)])) rfl rfl (hb hby at_174)
          have V167 : Arv Z h167 b148 k148 .char (8 : Int32) [(.int (105 : Int32)), (.int (109 : Int32)), (.int (112 : Int32)), (.int (108 : Int32)), (.int (105 : Int32)), (.int (0 : Int32)), (.int (0 : Int32)), (.int (0 : Int32))] (.int (0 : Int32)) := Arv.set Ar167 q167 S167 M167 H167 G167 (ow_fits_char (by decide)) (ow_wr_char (by decide) W167) 4 rfl (Nat.le_of_ble_eq_true rfl)
          have f168 := f165.wr W167
          have hk := Nat.le_trans hk (Keep.of_wr W167).1
          have CR := CR.trans (CHr.wr W167 (Safe.exa hZ.alike f165 (by decide) (by decide)) CR.1)
          have K167 : Keep h0 h167 [] := K164.wr W167 (Or.inr sz_b148)
          have O167 := O164.wr W167 ge_b148
          have N167 := Fr.snoc X167 N164 ge_b148
          refine stp st167 ?_
          show Go p e below T167 (mkF m 175 #[.val (.int p0), .val (.int p1), .val (.int p2), .val (.int p3), .val (.int p4), .val (.int ((p0 &&& (2147483647 : Int32)) % (5 : Int32))), .val (.int cc), .val (.int kp), .unset, .unset, .unset, .unset] [(.ref b148)]) _
          refine stp (fun _ => XS.dup X167.here hx rfl (hb hby at_175) rfl rfl) ?_
          show Go p e below T167 (mkF m 176 #[.val (.int p0), .val (.int p1), .val (.int p2), .val (.int p3), .val (.int p4), .val (.int ((p0 &&& (2147483647 : Int32)) % (5 : Int32))), .val (.int cc), .val (.int kp), .unset, .unset, .unset, .unset] [(.ref b148), (.ref b148)]) _
          refine stp (fun _ => XS.iconst X167.here hx rfl (hb hby at_176)) ?_
          show Go p e below T167 (mkF m 177 #[.val (.int p0), .val (.int p1), .val (.int p2), .val (.int p3), .val (.int p4), .val (.int ((p0 &&& (2147483647 : Int32)) % (5 : Int32))), .val (.int cc), .val (.int kp), .unset, .unset, .unset, .unset] [(.int (5 : Int32)), (.ref b148), (.ref b148)]) _
          refine stp (fun _ => XS.bipush X167.here hx rfl (hb hby at_177)) ?_
          show Go p e below T167 (mkF m 179 #[.val (.int p0), .val (.int p1), .val (.int p2), .val (.int p3), .val (.int p4), .val (.int ((p0 &&& (2147483647 : Int32)) % (5 : Int32))), .val (.int cc), .val (.int kp), .unset, .unset, .unset, .unset] [(.int (99 : Int32)), (.int (5 : Int32)), (.ref b148), (.ref b148)]) _
          obtain ⟨cl170, Ar170, q170, S170, M170, H170, G170⟩ := (id V167)
          have in170 : ¬ ((5 : Int32) < 0 ∨ cl170.slots.size ≤ ((5 : Int32)).toNatClampNeg) := inb_of S170 ⟨by decide, by decide⟩
          obtain ⟨T170, h170, X170, e170, W170, st170⟩ := stC X167 hx hZ e167 Ar170 (j := (5 : Int32)) in170 (g := (mkF m 179 #[.val (.int p0), .val (.int p1), .val (.int p2), .val (.int p3), .val (.int p4), .val (.int ((p0 &&& (2147483647 : Int32)) % (5 : Int32))), .val (.int cc), .val (.int kp), .unset, .unset, .unset, .unset] [(.int (99 : Int32)), (.int (5 : Int32)), (.ref b148), (.ref b148)])) rfl rfl (hb hby at_179)
          have V170 : Arv Z h170 b148 k148 .char (8 : Int32) [(.int (105 : Int32)), (.int (109 : Int32)), (.int (112 : Int32)), (.int (108 : Int32)), (.int (105 : Int32)), (.int (99 : Int32)), (.int (0 : Int32)), (.int (0 : Int32))] (.int (0 : Int32)) := Arv.set Ar170 q170 S170 M170 H170 G170 (ow_fits_char (by decide)) (ow_wr_char (by decide) W170) 5 rfl (Nat.le_of_ble_eq_true rfl)
          have f171 := f168.wr W170
          have hk := Nat.le_trans hk (Keep.of_wr W170).1
          have CR := CR.trans (CHr.wr W170 (Safe.exa hZ.alike f168 (by decide) (by decide)) CR.1)
          have K170 : Keep h0 h170 [] := K167.wr W170 (Or.inr sz_b148)
          have O170 := O167.wr W170 ge_b148
          have N170 := Fr.snoc X170 N167 ge_b148
          refine stp st170 ?_
          show Go p e below T170 (mkF m 180 #[.val (.int p0), .val (.int p1), .val (.int p2), .val (.int p3), .val (.int p4), .val (.int ((p0 &&& (2147483647 : Int32)) % (5 : Int32))), .val (.int cc), .val (.int kp), .unset, .unset, .unset, .unset] [(.ref b148)]) _
          refine stp (fun _ => XS.dup X170.here hx rfl (hb hby at_180) rfl rfl) ?_
          show Go p e below T170 (mkF m 181 #[.val (.int p0), .val (.int p1), .val (.int p2), .val (.int p3), .val (.int p4), .val (.int ((p0 &&& (2147483647 : Int32)) % (5 : Int32))), .val (.int cc), .val (.int kp), .unset, .unset, .unset, .unset] [(.ref b148), (.ref b148)]) _
          refine stp (fun _ => XS.bipush X170.here hx rfl (hb hby at_181)) ?_
          show Go p e below T170 (mkF m 183 #[.val (.int p0), .val (.int p1), .val (.int p2), .val (.int p3), .val (.int p4), .val (.int ((p0 &&& (2147483647 : Int32)) % (5 : Int32))), .val (.int cc), .val (.int kp), .unset, .unset, .unset, .unset] [(.int (6 : Int32)), (.ref b148), (.ref b148)]) _
          refine stp (fun _ => XS.bipush X170.here hx rfl (hb hby at_183)) ?_
          show Go p e below T170 (mkF m 185 #[.val (.int p0), .val (.int p1), .val (.int p2), .val (.int p3), .val (.int p4), .val (.int ((p0 &&& (2147483647 : Int32)) % (5 : Int32))), .val (.int cc), .val (.int kp), .unset, .unset, .unset, .unset] [(.int (105 : Int32)), (.int (6 : Int32)), (.ref b148), (.ref b148)]) _
          obtain ⟨cl173, Ar173, q173, S173, M173, H173, G173⟩ := (id V170)
          have in173 : ¬ ((6 : Int32) < 0 ∨ cl173.slots.size ≤ ((6 : Int32)).toNatClampNeg) := inb_of S173 ⟨by decide, by decide⟩
          obtain ⟨T173, h173, X173, e173, W173, st173⟩ := stC X170 hx hZ e170 Ar173 (j := (6 : Int32)) in173 (g := (mkF m 185 #[.val (.int p0), .val (.int p1), .val (.int p2), .val (.int p3), .val (.int p4), .val (.int ((p0 &&& (2147483647 : Int32)) % (5 : Int32))), .val (.int cc), .val (.int kp), .unset, .unset, .unset, .unset] [(.int (105 : Int32)), (.int (6 : Int32)), (.ref b148), (.ref b148)])) rfl rfl (hb hby at_185)
          have V173 : Arv Z h173 b148 k148 .char (8 : Int32) [(.int (105 : Int32)), (.int (109 : Int32)), (.int (112 : Int32)), (.int (108 : Int32)), (.int (105 : Int32)), (.int (99 : Int32)), (.int (105 : Int32)), (.int (0 : Int32))] (.int (0 : Int32)) := Arv.set Ar173 q173 S173 M173 H173 G173 (ow_fits_char (by decide)) (ow_wr_char (by decide) W173) 6 rfl (Nat.le_of_ble_eq_true rfl)
          have f174 := f171.wr W173
          have hk := Nat.le_trans hk (Keep.of_wr W173).1
          have CR := CR.trans (CHr.wr W173 (Safe.exa hZ.alike f171 (by decide) (by decide)) CR.1)
          have K173 : Keep h0 h173 [] := K170.wr W173 (Or.inr sz_b148)
          have O173 := O170.wr W173 ge_b148
          have N173 := Fr.snoc X173 N170 ge_b148
          refine stp st173 ?_
          show Go p e below T173 (mkF m 186 #[.val (.int p0), .val (.int p1), .val (.int p2), .val (.int p3), .val (.int p4), .val (.int ((p0 &&& (2147483647 : Int32)) % (5 : Int32))), .val (.int cc), .val (.int kp), .unset, .unset, .unset, .unset] [(.ref b148)]) _
          refine stp (fun _ => XS.dup X173.here hx rfl (hb hby at_186) rfl rfl) ?_
          show Go p e below T173 (mkF m 187 #[.val (.int p0), .val (.int p1), .val (.int p2), .val (.int p3), .val (.int p4), .val (.int ((p0 &&& (2147483647 : Int32)) % (5 : Int32))), .val (.int cc), .val (.int kp), .unset, .unset, .unset, .unset] [(.ref b148), (.ref b148)]) _
          refine stp (fun _ => XS.bipush X173.here hx rfl (hb hby at_187)) ?_
          show Go p e below T173 (mkF m 189 #[.val (.int p0), .val (.int p1), .val (.int p2), .val (.int p3), .val (.int p4), .val (.int ((p0 &&& (2147483647 : Int32)) % (5 : Int32))), .val (.int cc), .val (.int kp), .unset, .unset, .unset, .unset] [(.int (7 : Int32)), (.ref b148), (.ref b148)]) _
          refine stp (fun _ => XS.bipush X173.here hx rfl (hb hby at_189)) ?_
          show Go p e below T173 (mkF m 191 #[.val (.int p0), .val (.int p1), .val (.int p2), .val (.int p3), .val (.int p4), .val (.int ((p0 &&& (2147483647 : Int32)) % (5 : Int32))), .val (.int cc), .val (.int kp), .unset, .unset, .unset, .unset] [(.int (116 : Int32)), (.int (7 : Int32)), (.ref b148), (.ref b148)]) _
          obtain ⟨cl176, Ar176, q176, S176, M176, H176, G176⟩ := (id V173)
          have in176 : ¬ ((7 : Int32) < 0 ∨ cl176.slots.size ≤ ((7 : Int32)).toNatClampNeg) := inb_of S176 ⟨by decide, by decide⟩
          obtain ⟨T176, h176, X176, e176, W176, st176⟩ := stC X173 hx hZ e173 Ar176 (j := (7 : Int32)) in176 (g := (mkF m 191 #[.val (.int p0), .val (.int p1), .val (.int p2), .val (.int p3), .val (.int p4), .val (.int ((p0 &&& (2147483647 : Int32)) % (5 : Int32))), .val (.int cc), .val (.int kp), .unset, .unset, .unset, .unset] [(.int (116 : Int32)), (.int (7 : Int32)), (.ref b148), (.ref b148)])) rfl rfl (hb hby at_191)
          have V176 : Arv Z h176 b148 k148 .char (8 : Int32) [(.int (105 : Int32)), (.int (109 : Int32)), (.int (112 : Int32)), (.int (108 : Int32)), (.int (105 : Int32)), (.int (99 : Int32)), (.int (105 : Int32)), (.int (116 : Int32))] (.int (0 : Int32)) := Arv.set Ar176 q176 S176 M176 H176 G176 (ow_fits_char (by decide)) (ow_wr_char (by decide) W176) 7 rfl (Nat.le_of_ble_eq_true rfl)
          have f177 := f174.wr W176
          have hk := Nat.le_trans hk (Keep.of_wr W176).1
          have CR := CR.trans (CHr.wr W176 (Safe.exa hZ.alike f174 (by decide) (by decide)) CR.1)
          have K176 : Keep h0 h176 [] := K173.wr W176 (Or.inr sz_b148)
          have O176 := O173.wr W176 ge_b148
          have N176 := Fr.snoc X176 N173 ge_b148
          refine stp st176 ?_
          show Go p e below T176 (mkF m 192 #[.val (.int p0), .val (.int p1), .val (.int p2), .val (.int p3), .val (.int p4), .val (.int ((p0 &&& (2147483647 : Int32)) % (5 : Int32))), .val (.int cc), .val (.int kp), .unset, .unset, .unset, .unset] [(.ref b148)]) _
          refine stp (fun _ => XS.astore X176.here hx rfl (hb hby at_192) rfl rfl (l' := #[.val (.int p0), .val (.int p1), .val (.int p2), .val (.int p3), .val (.int p4), .val (.int ((p0 &&& (2147483647 : Int32)) % (5 : Int32))), .val (.int cc), .val (.int kp), .val (.ref b148), .unset, .unset, .unset]) rfl) ?_
          show Go p e below T176 (mkF m 194 #[.val (.int p0), .val (.int p1), .val (.int p2), .val (.int p3), .val (.int p4), .val (.int ((p0 &&& (2147483647 : Int32)) % (5 : Int32))), .val (.int cc), .val (.int kp), .val (.ref b148), .unset, .unset, .unset] []) _
          refine stp (fun _ => XS.iloadN X176.here hx rfl (hb hby at_194) rfl) ?_
          show Go p e below T176 (mkF m 195 #[.val (.int p0), .val (.int p1), .val (.int p2), .val (.int p3), .val (.int p4), .val (.int ((p0 &&& (2147483647 : Int32)) % (5 : Int32))), .val (.int cc), .val (.int kp), .val (.ref b148), .unset, .unset, .unset] [(.int p1)]) _
          refine stp (fun _ => X176.ldcInt hx hown (mvT hZ (hw _ (List.mem_of_getElem? (i := 0) rfl))) (g := (mkF m 195 #[.val (.int p0), .val (.int p1), .val (.int p2), .val (.int p3), .val (.int p4), .val (.int ((p0 &&& (2147483647 : Int32)) % (5 : Int32))), .val (.int cc), .val (.int kp), .val (.ref b148), .unset, .unset, .unset] [(.int p1)])) rfl (hb hby at_195) _) ?_
          show Go p e below T176 (mkF m 197 #[.val (.int p0), .val (.int p1), .val (.int p2), .val (.int p3), .val (.int p4), .val (.int ((p0 &&& (2147483647 : Int32)) % (5 : Int32))), .val (.int cc), .val (.int kp), .val (.ref b148), .unset, .unset, .unset] [(.int (2147483647 : Int32)), (.int p1)]) _
          refine stp (fun _ => XS.iand X176.here hx rfl (hb hby at_197) rfl) ?_
          show Go p e below T176 (mkF m 198 #[.val (.int p0), .val (.int p1), .val (.int p2), .val (.int p3), .val (.int p4), .val (.int ((p0 &&& (2147483647 : Int32)) % (5 : Int32))), .val (.int cc), .val (.int kp), .val (.ref b148), .unset, .unset, .unset] [(.int (p1 &&& (2147483647 : Int32)))]) _
          refine stp (fun _ => XS.bipush X176.here hx rfl (hb hby at_198)) ?_
          show Go p e below T176 (mkF m 200 #[.val (.int p0), .val (.int p1), .val (.int p2), .val (.int p3), .val (.int p4), .val (.int ((p0 &&& (2147483647 : Int32)) % (5 : Int32))), .val (.int cc), .val (.int kp), .val (.ref b148), .unset, .unset, .unset] [(.int (8 : Int32)), (.int (p1 &&& (2147483647 : Int32)))]) _
          refine stp (fun _ => iremM X176 hx rfl (hb hby at_200) rfl (by decide)) ?_
          show Go p e below T176 (mkF m 201 #[.val (.int p0), .val (.int p1), .val (.int p2), .val (.int p3), .val (.int p4), .val (.int ((p0 &&& (2147483647 : Int32)) % (5 : Int32))), .val (.int cc), .val (.int kp), .val (.ref b148), .unset, .unset, .unset] [(.int ((p1 &&& (2147483647 : Int32)) % (8 : Int32)))]) _
          refine stp (fun _ => XS.istore X176.here hx rfl (hb hby at_201) rfl (l' := #[.val (.int p0), .val (.int p1), .val (.int p2), .val (.int p3), .val (.int p4), .val (.int ((p0 &&& (2147483647 : Int32)) % (5 : Int32))), .val (.int cc), .val (.int kp), .val (.ref b148), .val (.int ((p1 &&& (2147483647 : Int32)) % (8 : Int32))), .unset, .unset]) rfl) ?_
          show Go p e below T176 (mkF m 203 #[.val (.int p0), .val (.int p1), .val (.int p2), .val (.int p3), .val (.int p4), .val (.int ((p0 &&& (2147483647 : Int32)) % (5 : Int32))), .val (.int cc), .val (.int kp), .val (.ref b148), .val (.int ((p1 &&& (2147483647 : Int32)) % (8 : Int32))), .unset, .unset] []) _
          obtain ⟨pp, hpp⟩ : ∃ z : Int32, z = ((p1 &&& (2147483647 : Int32)) % (8 : Int32)) := ⟨_, rfl⟩
          rw [← hpp]
          show Go p e below T176 (mkF m 203 #[.val (.int p0), .val (.int p1), .val (.int p2), .val (.int p3), .val (.int p4), .val (.int ((p0 &&& (2147483647 : Int32)) % (5 : Int32))), .val (.int cc), .val (.int kp), .val (.ref b148), .val (.int pp), .unset, .unset] []) _
          replace hpp := own_rem8 hpp
          refine stp (fun _ => XS.iload X176.here hx rfl (hb hby at_203) rfl) ?_
          show Go p e below T176 (mkF m 205 #[.val (.int p0), .val (.int p1), .val (.int p2), .val (.int p3), .val (.int p4), .val (.int ((p0 &&& (2147483647 : Int32)) % (5 : Int32))), .val (.int cc), .val (.int kp), .val (.ref b148), .val (.int pp), .unset, .unset] [(.int kp)]) _
          by_cases q205_179 : kp = 0
          · refine stp (fun _ => XS.ifNo X176.here hx rfl (hb hby at_205) rfl (XT.i0_ne_f q205_179)) ?_
            show Go p e below T176 (mkF m 208 #[.val (.int p0), .val (.int p1), .val (.int p2), .val (.int p3), .val (.int p4), .val (.int ((p0 &&& (2147483647 : Int32)) % (5 : Int32))), .val (.int cc), .val (.int kp), .val (.ref b148), .val (.int pp), .unset, .unset] []) _
            refine stp (fun _ => XS.aload X176.here hx rfl (hb hby at_208) rfl rfl) ?_
            show Go p e below T176 (mkF m 210 #[.val (.int p0), .val (.int p1), .val (.int p2), .val (.int p3), .val (.int p4), .val (.int ((p0 &&& (2147483647 : Int32)) % (5 : Int32))), .val (.int cc), .val (.int kp), .val (.ref b148), .val (.int pp), .unset, .unset] [(.ref b148)]) _
            refine stp (fun _ => XS.iload X176.here hx rfl (hb hby at_210) rfl) ?_
            show Go p e below T176 (mkF m 212 #[.val (.int p0), .val (.int p1), .val (.int p2), .val (.int p3), .val (.int p4), .val (.int ((p0 &&& (2147483647 : Int32)) % (5 : Int32))), .val (.int cc), .val (.int kp), .val (.ref b148), .val (.int pp), .unset, .unset] [(.int pp), (.ref b148)]) _
            obtain ⟨cl180, Ar180, q180, S180, M180, H180, G180⟩ := (id V176)
            have in180 : ¬ (pp < 0 ∨ cl180.slots.size ≤ (pp).toNatClampNeg) := inb_of S180 hpp
            have at180 : cl180.slots[(pp).toNatClampNeg]? = some (.int (own_im pp)) := H180.at in180 (own_im_at hpp)
            refine stp (fun _ => X176.caload hx (j := pp) (v := (.int (own_im pp))) (by rw [e176]; exact Ar180.1) (State.isArrayOf_alike hZ.alike Ar180.2.1) Ar180.2.2 in180 at180 (g := (mkF m 212 #[.val (.int p0), .val (.int p1), .val (.int p2), .val (.int p3), .val (.int p4), .val (.int ((p0 &&& (2147483647 : Int32)) % (5 : Int32))), .val (.int cc), .val (.int kp), .val (.ref b148), .val (.int pp), .unset, .unset] [(.int pp), (.ref b148)])) rfl rfl (hb hby at_212) _) ?_
            show Go p e below T176 (mkF m 213 #[.val (.int p0), .val (.int p1), .val (.int p2), .val (.int p3), .val (.int p4), .val (.int ((p0 &&& (2147483647 : Int32)) % (5 : Int32))), .val (.int cc), .val (.int kp), .val (.ref b148), .val (.int pp), .unset, .unset] [(.int (own_im pp))]) _
            refine stp (fun _ => XS.iload X176.here hx rfl (hb hby at_213) rfl) ?_
            show Go p e below T176 (mkF m 215 #[.val (.int p0), .val (.int p1), .val (.int p2), .val (.int p3), .val (.int p4), .val (.int ((p0 &&& (2147483647 : Int32)) % (5 : Int32))), .val (.int cc), .val (.int kp), .val (.ref b148), .val (.int pp), .unset, .unset] [(.int cc), (.int (own_im pp))]) _
            by_cases q215_181 : (own_im pp) = cc
            · refine stp (fun _ => XS.icmpNo X176.here hx rfl (hb hby at_215) rfl (XT.ii_ne_f q215_181)) ?_
              show Go p e below T176 (mkF m 218 #[.val (.int p0), .val (.int p1), .val (.int p2), .val (.int p3), .val (.int p4), .val (.int ((p0 &&& (2147483647 : Int32)) % (5 : Int32))), .val (.int cc), .val (.int kp), .val (.ref b148), .val (.int pp), .unset, .unset] []) _
              refine stp (fun _ => XS.iconst X176.here hx rfl (hb hby at_218)) ?_
              show Go p e below T176 (mkF m 219 #[.val (.int p0), .val (.int p1), .val (.int p2), .val (.int p3), .val (.int p4), .val (.int ((p0 &&& (2147483647 : Int32)) % (5 : Int32))), .val (.int cc), .val (.int kp), .val (.ref b148), .val (.int pp), .unset, .unset] [(.int (1 : Int32))]) _
              refine stp (fun _ => XS.goto X176.here hx rfl (pc0 := 219) (pc' := 223) rfl (hb hby at_219) (by decide) (by decide)) ?_
              show Go p e below T176 (mkF m 223 #[.val (.int p0), .val (.int p1), .val (.int p2), .val (.int p3), .val (.int p4), .val (.int ((p0 &&& (2147483647 : Int32)) % (5 : Int32))), .val (.int cc), .val (.int kp), .val (.ref b148), .val (.int pp), .unset, .unset] [(.int (1 : Int32))]) _
              refine stp (fun _ => XS.istore X176.here hx rfl (hb hby at_223) rfl (l' := #[.val (.int p0), .val (.int p1), .val (.int p2), .val (.int p3), .val (.int p4), .val (.int ((p0 &&& (2147483647 : Int32)) % (5 : Int32))), .val (.int cc), .val (.int kp), .val (.ref b148), .val (.int pp), .val (.int (1 : Int32)), .unset]) rfl) ?_
              show Go p e below T176 (mkF m 225 #[.val (.int p0), .val (.int p1), .val (.int p2), .val (.int p3), .val (.int p4), .val (.int ((p0 &&& (2147483647 : Int32)) % (5 : Int32))), .val (.int cc), .val (.int kp), .val (.ref b148), .val (.int pp), .val (.int (1 : Int32)), .unset] []) _
              refine stp (fun _ => XS.iload X176.here hx rfl (hb hby at_225) rfl) ?_
              show Go p e below T176 (mkF m 227 #[.val (.int p0), .val (.int p1), .val (.int p2), .val (.int p3), .val (.int p4), .val (.int ((p0 &&& (2147483647 : Int32)) % (5 : Int32))), .val (.int cc), .val (.int kp), .val (.ref b148), .val (.int pp), .val (.int (1 : Int32)), .unset] [(.int kp)]) _
              refine stp (fun _ => XS.ifNo X176.here hx rfl (hb hby at_227) rfl (XT.i0_ne_f q205_179)) ?_
              show Go p e below T176 (mkF m 230 #[.val (.int p0), .val (.int p1), .val (.int p2), .val (.int p3), .val (.int p4), .val (.int ((p0 &&& (2147483647 : Int32)) % (5 : Int32))), .val (.int cc), .val (.int kp), .val (.ref b148), .val (.int pp), .val (.int (1 : Int32)), .unset] []) _
              refine stp (fun _ => XS.aload X176.here hx rfl (hb hby at_230) rfl rfl) ?_
              show Go p e below T176 (mkF m 232 #[.val (.int p0), .val (.int p1), .val (.int p2), .val (.int p3), .val (.int p4), .val (.int ((p0 &&& (2147483647 : Int32)) % (5 : Int32))), .val (.int cc), .val (.int kp), .val (.ref b148), .val (.int pp), .val (.int (1 : Int32)), .unset] [(.ref b148)]) _
              refine stp (fun _ => XS.iload X176.here hx rfl (hb hby at_232) rfl) ?_
              show Go p e below T176 (mkF m 234 #[.val (.int p0), .val (.int p1), .val (.int p2), .val (.int p3), .val (.int p4), .val (.int ((p0 &&& (2147483647 : Int32)) % (5 : Int32))), .val (.int cc), .val (.int kp), .val (.ref b148), .val (.int pp), .val (.int (1 : Int32)), .unset] [(.int pp), (.ref b148)]) _
              refine stp (fun _ => XS.iload X176.here hx rfl (hb hby at_234) rfl) ?_
              show Go p e below T176 (mkF m 236 #[.val (.int p0), .val (.int p1), .val (.int p2), .val (.int p3), .val (.int p4), .val (.int ((p0 &&& (2147483647 : Int32)) % (5 : Int32))), .val (.int cc), .val (.int kp), .val (.ref b148), .val (.int pp), .val (.int (1 : Int32)), .unset] [(.int cc), (.int pp), (.ref b148)]) _
              obtain ⟨cl182, Ar182, q182, S182, M182, H182, G182⟩ := (id V176)
              have in182 : ¬ (pp < 0 ∨ cl182.slots.size ≤ (pp).toNatClampNeg) := inb_of S182 hpp
              obtain ⟨T182, h182, X182, e182, W182, st182⟩ := stC X176 hx hZ e176 Ar182 (j := pp) in182 (g := (mkF m 236 #[.val (.int p0), .val (.int p1), .val (.int p2), .val (.int p3), .val (.int p4), .val (.int ((p0 &&& (2147483647 : Int32)) % (5 : Int32))), .val (.int cc), .val (.int kp), .val (.ref b148), .val (.int pp), .val (.int (1 : Int32)), .unset] [(.int cc), (.int pp), (.ref b148)])) rfl rfl (hb hby at_236)
              have V182 : Arv Z h182 b148 k148 .char (8 : Int32) [(.int (own_imp pp cc (0 : Int32))), (.int (own_imp pp cc (1 : Int32))), (.int (own_imp pp cc (2 : Int32))), (.int (own_imp pp cc (3 : Int32))), (.int (own_imp pp cc (4 : Int32))), (.int (own_imp pp cc (5 : Int32))), (.int (own_imp pp cc (6 : Int32))), (.int (own_imp pp cc (7 : Int32)))] (.int (0 : Int32)) := (own_im_set hpp) ▸ Arv.set Ar182 q182 S182 M182 H182 G182 (ow_fits_char (char255 hcc)) (ow_wr_char (char255 hcc) W182) _ rfl (own_im_lt hpp)
              have f183 := f177.wr W182
              have hk := Nat.le_trans hk (Keep.of_wr W182).1
              have CR := CR.trans (CHr.wr W182 (Safe.exa hZ.alike f177 (by decide) (by decide)) CR.1)
              have K182 : Keep h0 h182 [] := K176.wr W182 (Or.inr sz_b148)
              have O182 := O176.wr W182 ge_b148
              have N182 := Fr.snoc X182 N176 ge_b148
              refine stp st182 ?_
              show Go p e below T182 (mkF m 237 #[.val (.int p0), .val (.int p1), .val (.int p2), .val (.int p3), .val (.int p4), .val (.int ((p0 &&& (2147483647 : Int32)) % (5 : Int32))), .val (.int cc), .val (.int kp), .val (.ref b148), .val (.int pp), .val (.int (1 : Int32)), .unset] []) _
              obtain ⟨T185, h185, X185, e185, E185, A185, D185, -, st185⟩ := newO X182 hx hZ hown (hw _ (List.mem_of_getElem? (i := 43) rfl)) (hw _ (List.mem_of_getElem? (i := 44) rfl)) (hw _ (List.mem_of_getElem? (i := 28) rfl)) e182 (g := (mkF m 237 #[.val (.int p0), .val (.int p1), .val (.int p2), .val (.int p3), .val (.int p4), .val (.int ((p0 &&& (2147483647 : Int32)) % (5 : Int32))), .val (.int cc), .val (.int kp), .val (.ref b148), .val (.int pp), .val (.int (1 : Int32)), .unset] [])) rfl (hb hby at_237) (by decide) (by decide)
              obtain ⟨b185, g185⟩ : ∃ z, z = h182.size := ⟨_, rfl⟩
              rw [← g185] at A185 D185 st185
              have ne186 : auth ≠ b185 := O182.ne E_auth.lt (Nat.le_trans (old_le O182) (Nat.le_of_eq g185.symm))
              have ne187 : b148 ≠ b185 := Nat.ne_of_lt (Nat.lt_of_lt_of_le f183.lt (Nat.le_of_eq g185.symm))
              have ne188 : empty_ ≠ b185 := O182.ne E_em.lt (Nat.le_trans (old_le O182) (Nat.le_of_eq g185.symm))
              have ne189 : impl ≠ b185 := O182.ne E_impl.lt (Nat.le_trans (old_le O182) (Nat.le_of_eq g185.symm))
              have ne190 : va ≠ b185 := O182.ne E_va.lt (Nat.le_trans (old_le O182) (Nat.le_of_eq g185.symm))
              have ne191 : w1 ≠ b185 := O182.ne Q_w1.lt (Nat.le_trans (old_le O182) (Nat.le_of_eq g185.symm))
              have ne192 : w2 ≠ b185 := O182.ne Q_w2.lt (Nat.le_trans (old_le O182) (Nat.le_of_eq g185.symm))
              have sz_b185 : h0.size ≤ b185 := Nat.le_trans K182.1 (Nat.le_of_eq g185.symm)
              have ge_b185 : n0 ≤ b185 := Nat.le_trans (old_le O182) (Nat.le_of_eq g185.symm)
              have f193 := f183.ext E185
              have f194 := V182.ext E185
              have Sf185 := (Safe.new (Z := Z) (EL := consts_1) (Nat.le_of_eq g185.symm)).ext E185 CR.1
              have hk := Nat.le_trans hk E185.1
              have CR := CR.trans (CHr.ext E185 CR.1)
              have K185 : Keep h0 h185 [] := K182.ext E185
              have O185 := O182.ext E185
              have F195 : Fld Z h185 b185 "java/lang/String" "coder" "B" (.int (0 : Int32)) := D185 (Or.inr (hw _ (List.mem_of_getElem? (i := 68) rfl))) (ty := .byte) (by decide)
              have F196 : Fld Z h185 b185 "java/lang/String" "value" "[B" .null := D185 (Or.inr (hw _ (List.mem_of_getElem? (i := 70) rfl))) (ty := (.array .byte)) (by decide)
              refine stp st185 ?_
              show Go p e below T185 (mkF m 240 #[.val (.int p0), .val (.int p1), .val (.int p2), .val (.int p3), .val (.int p4), .val (.int ((p0 &&& (2147483647 : Int32)) % (5 : Int32))), .val (.int cc), .val (.int kp), .val (.ref b148), .val (.int pp), .val (.int (1 : Int32)), .unset] [(.ref b185)]) _
              refine stp (fun _ => XS.dup X185.here hx rfl (hb hby at_240) rfl rfl) ?_
              show Go p e below T185 (mkF m 241 #[.val (.int p0), .val (.int p1), .val (.int p2), .val (.int p3), .val (.int p4), .val (.int ((p0 &&& (2147483647 : Int32)) % (5 : Int32))), .val (.int cc), .val (.int kp), .val (.ref b148), .val (.int pp), .val (.int (1 : Int32)), .unset] [(.ref b185), (.ref b185)]) _
              refine stp (fun _ => XS.aload X185.here hx rfl (hb hby at_241) rfl rfl) ?_
              show Go p e below T185 (mkF m 243 #[.val (.int p0), .val (.int p1), .val (.int p2), .val (.int p3), .val (.int p4), .val (.int ((p0 &&& (2147483647 : Int32)) % (5 : Int32))), .val (.int cc), .val (.int kp), .val (.ref b148), .val (.int pp), .val (.int (1 : Int32)), .unset] [(.ref b148), (.ref b185), (.ref b185)]) _
              obtain ⟨_, _, ⟨T197, L197, k197, n197⟩, -, X197, ⟨Lc197, hQ197, l197, y197, z197⟩, st197⟩ := X185.specialBack hx (y := (⟨"java/lang/String", "<init>", "([C)V"⟩ : MethodName)) rfl hown (mvT hZ (hw _ (List.mem_of_getElem? (i := 45) rfl))) (mvT hZ (hw _ (List.mem_of_getElem? (i := 46) rfl))) (mvT hZ (hw _ (List.mem_of_getElem? (i := 47) rfl))) (by decide) (StrChars.Road.backV (W := 1) hZ hws (kI := 4) (hw _ (List.mem_of_getElem? (i := 44) rfl)) (cs := ([(own_imp pp cc (0 : Int32)), (own_imp pp cc (1 : Int32)), (own_imp pp cc (2 : Int32)), (own_imp pp cc (3 : Int32)), (own_imp pp cc (4 : Int32)), (own_imp pp cc (5 : Int32)), (own_imp pp cc (6 : Int32)), (own_imp pp cc (7 : Int32))] : List Int32)) (bs := ([(own_imp pp cc (0 : Int32)), (own_imp pp cc (1 : Int32)), (own_imp pp cc (2 : Int32)), (own_imp pp cc (3 : Int32)), (own_imp pp cc (4 : Int32)), (own_imp pp cc (5 : Int32)), (own_imp pp cc (6 : Int32)), (own_imp pp cc (7 : Int32))] : List Int32).map (fun c => c.toInt8.toInt32)) (n := 8) ge_b185 (old_le O185) A185 F196 F195 f194 (S_CS.ext O185.2) hcz rfl rfl (by decide) (by decide) (own_sm1 (own_imp_sm hcc _ _) (own_sm1 (own_imp_sm hcc _ _) (own_sm1 (own_imp_sm hcc _ _) (own_sm1 (own_imp_sm hcc _ _) (own_sm1 (own_imp_sm hcc _ _) (own_sm1 (own_imp_sm hcc _ _) (own_sm1 (own_imp_sm hcc _ _) (own_sm1 (own_imp_sm hcc _ _) own_sm0)))))))) rfl (by decide) (by decide)) (g := (mkF m 243 #[.val (.int p0), .val (.int p1), .val (.int p2), .val (.int p3), .val (.int p4), .val (.int ((p0 &&& (2147483647 : Int32)) % (5 : Int32))), .val (.int cc), .val (.int kp), .val (.ref b148), .val (.int pp), .val (.int (1 : Int32)), .unset] [(.ref b148), (.ref b185), (.ref b185)])) rfl (by rw [hml]; rfl) (Steps.refl _) (a := b185) (argsL := [(.ref b148)]) (rest := [(.ref b185)]) (lenOf pd_7 rfl) rfl (by show 2 * 0 + _ ≤ _; exact Nat.le_of_eq rfl) (hb hby at_243) (fun _ _ => ⟨rfl, e185, (by decide : 2 + 1 ≤ _), (by decide : 12 + 8 ≤ _)⟩)
              dsimp only [Pt.U, Pt.locs, Pt.cells, Pt.slots] at X197 l197 y197 z197 st197 hQ197
              subst y197 z197
              obtain ⟨rfl, N197q, K197q, E197q, C197q, t197, kb197, ge_t197, sz197q, ne197q, F197q, V197q⟩ := hQ197
              have N197 : Fr n0 L197 := by rw [l197]; exact Fr.app N182 N197q
              have ne198 : b148 ≠ t197 := Nat.ne_of_lt (Nat.lt_of_lt_of_le f193.lt sz197q)
              have f199 := f193.keep K197q
              have f200 := f194.keep K197q (ninS ne187 nin0)
              have f201 := Sf185.keep K197q (sfS Sf185 sf0) CR.1
              have hk := Nat.le_trans hk K197q.1
              have CR := CR.trans (CHr.keep K197q (sfS Sf185 sf0) CR.1)
              have K197 : Keep h0 T197.heap [] := K185.trans K197q (allS (Or.inr sz_b185) all0)
              have sz_t197 : h0.size ≤ t197 := Nat.le_trans K185.1 sz197q
              have O197 := O185.keep K197q (allS ge_b185 all0)
              have Q197 : StrIs Z T197.heap b185 ([(own_imp pp cc (0 : Int32)), (own_imp pp cc (1 : Int32)), (own_imp pp cc (2 : Int32)), (own_imp pp cc (3 : Int32)), (own_imp pp cc (4 : Int32)), (own_imp pp cc (5 : Int32)), (own_imp pp cc (6 : Int32)), (own_imp pp cc (7 : Int32))] : List Int32) := StrIs.of E197q F197q C197q V197q rfl rfl (own_sm1 (own_imp_sm hcc _ _) (own_sm1 (own_imp_sm hcc _ _) (own_sm1 (own_imp_sm hcc _ _) (own_sm1 (own_imp_sm hcc _ _) (own_sm1 (own_imp_sm hcc _ _) (own_sm1 (own_imp_sm hcc _ _) (own_sm1 (own_imp_sm hcc _ _) (own_sm1 (own_imp_sm hcc _ _) own_sm0)))))))) (Nat.le_of_ble_eq_true rfl)
              refine stt st197 ?_
              show Go p e below T197 (mkF m 246 #[.val (.int p0), .val (.int p1), .val (.int p2), .val (.int p3), .val (.int p4), .val (.int ((p0 &&& (2147483647 : Int32)) % (5 : Int32))), .val (.int cc), .val (.int kp), .val (.ref b148), .val (.int pp), .val (.int (1 : Int32)), .unset] [(.ref b185)]) _
              obtain ⟨_, _, ⟨T202, L202, k202, n202⟩, -, X202, ⟨Lc202, hQ202, l202, y202, z202⟩, st202⟩ := Jvm.LawKit.callS X197 hx (y := (⟨"com/example/uriel/uriel/grant/GrantType", "fromWireName", "(Ljava/lang/String;)Ljava/util/Optional;"⟩ : MethodName)) hown (mvT hZ (hw _ (List.mem_of_getElem? (i := 1) rfl))) (mvT hZ (hw _ (List.mem_of_getElem? (i := 2) rfl))) (mvT hZ (hw _ (List.mem_of_getElem? (i := 3) rfl))) (mvT hZ (hw _ (List.mem_of_getElem? (i := 4) rfl))) (by decide) (backOf (W := 0) (rm_fwi l Z a0 hw [] b185 auth impl va w1 w2 ([(own_imp pp cc (0 : Int32)), (own_imp pp cc (1 : Int32)), (own_imp pp cc (2 : Int32)), (own_imp pp cc (3 : Int32)), (own_imp pp cc (4 : Int32)), (own_imp pp cc (5 : Int32)), (own_imp pp cc (6 : Int32)), (own_imp pp cc (7 : Int32))] : List Int32) cz k_va T197.heap n0 O197 S_VALUES E_va V_va F_w1 F_w2 Q_w1 Q_w2 Q197 S_CS hcz (own_ac_ne (show (18 : Nat) ≠ 8 by decide)) ((own_im_eq hpp).mpr q215_181)) hZ (hw _ (List.mem_of_getElem? (i := 4) rfl)) (hw _ (List.mem_of_getElem? (i := 3) rfl)) (by decide) (by decide)) (g := (mkF m 246 #[.val (.int p0), .val (.int p1), .val (.int p2), .val (.int p3), .val (.int p4), .val (.int ((p0 &&& (2147483647 : Int32)) % (5 : Int32))), .val (.int cc), .val (.int kp), .val (.ref b148), .val (.int pp), .val (.int (1 : Int32)), .unset] [(.ref b185)])) rfl (by rw [hml]; rfl) (argsL := [(.ref b185)]) (rest := []) (lenOf pd_5 rfl) rfl (by show 2 * 0 + _ ≤ _; exact Nat.le_of_eq rfl) (hb hby at_246) (fun _ _ => ⟨rfl, rfl, (by decide : 3 + 2 ≤ _), (by decide : 20 + 3 ≤ _)⟩)
              dsimp only [Pt.U, Pt.locs, Pt.cells, Pt.slots] at X202 l202 y202 z202 st202 hQ202
              subst y202 z202
              obtain ⟨r202, rfl, N202q, K202q, ⟨ge_r202, sz202_r202⟩, r202_0, r202_1⟩ := hQ202
              have N202 : Fr n0 L202 := by rw [l202]; exact Fr.app N197 N202q
              have ne203 : b148 ≠ r202 := Nat.ne_of_lt (Nat.lt_of_lt_of_le f199.lt sz202_r202)
              have ne204 : b185 ≠ r202 := Nat.ne_of_lt (Nat.lt_of_lt_of_le E197q.lt sz202_r202)
              have ne205 : auth ≠ r202 := O197.ne E_auth.lt ge_r202
              have ne206 : empty_ ≠ r202 := O197.ne E_em.lt ge_r202
              have ne207 : impl ≠ r202 := O197.ne E_impl.lt ge_r202
              have ne208 : va ≠ r202 := O197.ne E_va.lt ge_r202
              have ne209 : w1 ≠ r202 := O197.ne Q_w1.lt ge_r202
              have ne210 : w2 ≠ r202 := O197.ne Q_w2.lt ge_r202
              have f211 := f199.keep K202q
              have f212 := f200.keep K202q nin0
              have f213 := f201.keep K202q sf0 CR.1
              have f214 := E197q.keep K202q
              have f215 := Q197.keep K202q nin0 apart0
              have hk := Nat.le_trans hk K202q.1
              have CR := CR.trans (CHr.keep K202q sf0 CR.1)
              have sz_r202 : h0.size ≤ r202 := Nat.le_trans K197.1 sz202_r202
              have K202 : Keep h0 T202.heap [] := K197.trans K202q all0
              have O202 := O197.keep K202q all0
              refine stp st202 ?_
              show Go p e below T202 (mkF m 249 #[.val (.int p0), .val (.int p1), .val (.int p2), .val (.int p3), .val (.int p4), .val (.int ((p0 &&& (2147483647 : Int32)) % (5 : Int32))), .val (.int cc), .val (.int kp), .val (.ref b148), .val (.int pp), .val (.int (1 : Int32)), .unset] [(.ref r202)]) _
              refine stp (fun _ => XS.aconstNull X202.here hx rfl (hb hby at_249)) ?_
              show Go p e below T202 (mkF m 250 #[.val (.int p0), .val (.int p1), .val (.int p2), .val (.int p3), .val (.int p4), .val (.int ((p0 &&& (2147483647 : Int32)) % (5 : Int32))), .val (.int cc), .val (.int kp), .val (.ref b148), .val (.int pp), .val (.int (1 : Int32)), .unset] [.null, (.ref r202)]) _
              obtain ⟨cq216, kq216, q216a, q216b, q216c⟩ := isOf hZ rfl r202_0
              obtain ⟨_, _, ⟨T216, L216, k216, n216⟩, -, X216, ⟨Lc216, hQ216, l216, y216, z216⟩, st216⟩ := X202.virtualBack hx (y := (⟨"java/util/Optional", "orElse", "(Ljava/lang/Object;)Ljava/lang/Object;"⟩ : MethodName)) (z := (⟨"java/util/Optional", "orElse", "(Ljava/lang/Object;)Ljava/lang/Object;"⟩ : MethodName)) hown (mvT hZ (hw _ (List.mem_of_getElem? (i := 35) rfl))) (mvT hZ (hw _ (List.mem_of_getElem? (i := 36) rfl))) (notFace_of_selects (args := #[]) (mvT hZ (hw _ (List.mem_of_getElem? (i := 38) rfl)))) (mvT hZ (hw _ (List.mem_of_getElem? (i := 38) rfl))) (mvT hZ (hw _ (List.mem_of_getElem? (i := 37) rfl))) (by decide) (backOf (W := 0) (rm_oe1 l Z a0 hw [] r202 impl T202.heap n0 O202 r202_1) hZ (hw _ (List.mem_of_getElem? (i := 39) rfl)) (hw _ (List.mem_of_getElem? (i := 32) rfl)) (by decide) (by decide)) q216a q216c (g := (mkF m 250 #[.val (.int p0), .val (.int p1), .val (.int p2), .val (.int p3), .val (.int p4), .val (.int ((p0 &&& (2147483647 : Int32)) % (5 : Int32))), .val (.int cc), .val (.int kp), .val (.ref b148), .val (.int pp), .val (.int (1 : Int32)), .unset] [.null, (.ref r202)])) rfl (by rw [hml]; rfl) (Steps.refl _) (argsL := [.null]) (rest := []) (lenOf pd_6 rfl) rfl (by show 2 * 0 + _ ≤ _; exact Nat.le_of_eq rfl) (hb hby at_250) (fun _ _ => ⟨rfl, rfl, (by decide : 5 + 0 ≤ _), (by decide : 23 + 0 ≤ _)⟩)
              dsimp only [Pt.U, Pt.locs, Pt.cells, Pt.slots] at X216 l216 y216 z216 st216 hQ216
              subst y216 z216
              obtain ⟨rfl, N216q, e216⟩ := hQ216
              have N216 : Fr n0 L216 := by rw [l216]; exact Fr.app N202 N216q
              refine stt st216 ?_
              show Go p e below T216 (mkF m 253 #[.val (.int p0), .val (.int p1), .val (.int p2), .val (.int p3), .val (.int p4), .val (.int ((p0 &&& (2147483647 : Int32)) % (5 : Int32))), .val (.int cc), .val (.int kp), .val (.ref b148), .val (.int pp), .val (.int (1 : Int32)), .unset] [(.ref impl)]) _
              obtain ⟨T217, X217, e217, st217⟩ := castY X216 hx hZ hown (hw _ (List.mem_of_getElem? (i := 83) rfl)) e216 (Ins.self (E_impl.ext O202.2)) (g := (mkF m 253 #[.val (.int p0), .val (.int p1), .val (.int p2), .val (.int p3), .val (.int p4), .val (.int ((p0 &&& (2147483647 : Int32)) % (5 : Int32))), .val (.int cc), .val (.int kp), .val (.ref b148), .val (.int pp), .val (.int (1 : Int32)), .unset] [(.ref impl)])) rfl rfl (hb hby at_253)
              refine stp st217 ?_
              show Go p e below T217 (mkF m 256 #[.val (.int p0), .val (.int p1), .val (.int p2), .val (.int p3), .val (.int p4), .val (.int ((p0 &&& (2147483647 : Int32)) % (5 : Int32))), .val (.int cc), .val (.int kp), .val (.ref b148), .val (.int pp), .val (.int (1 : Int32)), .unset] [(.ref impl)]) _
              refine stp (fun _ => XS.astore X217.here hx rfl (hb hby at_256) rfl rfl (l' := #[.val (.int p0), .val (.int p1), .val (.int p2), .val (.int p3), .val (.int p4), .val (.int ((p0 &&& (2147483647 : Int32)) % (5 : Int32))), .val (.int cc), .val (.int kp), .val (.ref b148), .val (.int pp), .val (.int (1 : Int32)), .val (.ref impl)]) rfl) ?_
              show Go p e below T217 (mkF m 258 #[.val (.int p0), .val (.int p1), .val (.int p2), .val (.int p3), .val (.int p4), .val (.int ((p0 &&& (2147483647 : Int32)) % (5 : Int32))), .val (.int cc), .val (.int kp), .val (.ref b148), .val (.int pp), .val (.int (1 : Int32)), .val (.ref impl)] []) _
              refine stp (fun _ => XS.iload X217.here hx rfl (hb hby at_258) rfl) ?_
              show Go p e below T217 (mkF m 260 #[.val (.int p0), .val (.int p1), .val (.int p2), .val (.int p3), .val (.int p4), .val (.int ((p0 &&& (2147483647 : Int32)) % (5 : Int32))), .val (.int cc), .val (.int kp), .val (.ref b148), .val (.int pp), .val (.int (1 : Int32)), .val (.ref impl)] [(.int (1 : Int32))]) _
              refine stp (fun _ => XS.ifNo X217.here hx rfl (hb hby at_260) rfl (by decide)) ?_
              show Go p e below T217 (mkF m 263 #[.val (.int p0), .val (.int p1), .val (.int p2), .val (.int p3), .val (.int p4), .val (.int ((p0 &&& (2147483647 : Int32)) % (5 : Int32))), .val (.int cc), .val (.int kp), .val (.ref b148), .val (.int pp), .val (.int (1 : Int32)), .val (.ref impl)] []) _
              refine stp (fun _ => XS.aload X217.here hx rfl (hb hby at_263) rfl rfl) ?_
              show Go p e below T217 (mkF m 265 #[.val (.int p0), .val (.int p1), .val (.int p2), .val (.int p3), .val (.int p4), .val (.int ((p0 &&& (2147483647 : Int32)) % (5 : Int32))), .val (.int cc), .val (.int kp), .val (.ref b148), .val (.int pp), .val (.int (1 : Int32)), .val (.ref impl)] [(.ref impl)]) _
              obtain ⟨T218, X218, e218, st218⟩ := getS2 X217 hx hZ hown (host := "") (Or.inl (hw _ (List.mem_of_getElem? (i := 85) rfl))) Via.refl e217 (S_IM.ext O202.2) (g := (mkF m 265 #[.val (.int p0), .val (.int p1), .val (.int p2), .val (.int p3), .val (.int p4), .val (.int ((p0 &&& (2147483647 : Int32)) % (5 : Int32))), .val (.int cc), .val (.int kp), .val (.ref b148), .val (.int pp), .val (.int (1 : Int32)), .val (.ref impl)] [(.ref impl)])) rfl (hb hby at_265)
              refine stp st218 ?_
              show Go p e below T218 (mkF m 268 #[.val (.int p0), .val (.int p1), .val (.int p2), .val (.int p3), .val (.int p4), .val (.int ((p0 &&& (2147483647 : Int32)) % (5 : Int32))), .val (.int cc), .val (.int kp), .val (.ref b148), .val (.int pp), .val (.int (1 : Int32)), .val (.ref impl)] [(.ref impl), (.ref impl)]) _
              refine stp (fun _ => Jvm.RoadKit.acmp (g := (mkF m 268 #[.val (.int p0), .val (.int p1), .val (.int p2), .val (.int p3), .val (.int p4), .val (.int ((p0 &&& (2147483647 : Int32)) % (5 : Int32))), .val (.int cc), .val (.int kp), .val (.ref b148), .val (.int pp), .val (.int (1 : Int32)), .val (.ref impl)] [(.ref impl), (.ref impl)])) X218 hx rfl rfl rfl (pc0 := 268) (pc' := 271) (same := true) rfl (hb hby at_268) rfl (decide_eq_true rfl) (by decide) (by decide)) ?_
              show Go p e below T218 (mkF m 271 #[.val (.int p0), .val (.int p1), .val (.int p2), .val (.int p3), .val (.int p4), .val (.int ((p0 &&& (2147483647 : Int32)) % (5 : Int32))), .val (.int cc), .val (.int kp), .val (.ref b148), .val (.int pp), .val (.int (1 : Int32)), .val (.ref impl)] []) _
              refine stp (fun _ => XS.iconst X218.here hx rfl (hb hby at_271)) ?_
              show Go p e below T218 (mkF m 272 #[.val (.int p0), .val (.int p1), .val (.int p2), .val (.int p3), .val (.int p4), .val (.int ((p0 &&& (2147483647 : Int32)) % (5 : Int32))), .val (.int cc), .val (.int kp), .val (.ref b148), .val (.int pp), .val (.int (1 : Int32)), .val (.ref impl)] [(.int (1 : Int32))]) _
              refine stp (fun _ => XS.goto X218.here hx rfl (pc0 := 272) (pc' := 289) rfl (hb hby at_272) (by decide) (by decide)) ?_
              show Go p e below T218 (mkF m 289 #[.val (.int p0), .val (.int p1), .val (.int p2), .val (.int p3), .val (.int p4), .val (.int ((p0 &&& (2147483647 : Int32)) % (5 : Int32))), .val (.int cc), .val (.int kp), .val (.ref b148), .val (.int pp), .val (.int (1 : Int32)), .val (.ref impl)] [(.int (1 : Int32))]) _
              refine outNW X218 hx hZ hEL e218 hS hk CR (t := .boolean) hret (by simp) (hb hby at_289) hlk (by decide) (by decide) ?_
              exact ⟨rfl, N216⟩
            · refine stp (fun _ => XS.icmpYes X176.here hx rfl (pc0 := 215) (pc' := 222) rfl (hb hby at_215) rfl (XT.ii_ne_t q215_181) (by decide) (by decide)) ?_
              show Go p e below T176 (mkF m 222 #[.val (.int p0), .val (.int p1), .val (.int p2), .val (.int p3), .val (.int p4), .val (.int ((p0 &&& (2147483647 : Int32)) % (5 : Int32))), .val (.int cc), .val (.int kp), .val (.ref b148), .val (.int pp), .unset, .unset] []) _
              refine stp (fun _ => XS.iconst X176.here hx rfl (hb hby at_222)) ?_
              show Go p e below T176 (mkF m 223 #[.val (.int p0), .val (.int p1), .val (.int p2), .val (.int p3), .val (.int p4), .val (.int ((p0 &&& (2147483647 : Int32)) % (5 : Int32))), .val (.int cc), .val (.int kp), .val (.ref b148), .val (.int pp), .unset, .unset] [(.int (0 : Int32))]) _
              refine stp (fun _ => XS.istore X176.here hx rfl (hb hby at_223) rfl (l' := #[.val (.int p0), .val (.int p1), .val (.int p2), .val (.int p3), .val (.int p4), .val (.int ((p0 &&& (2147483647 : Int32)) % (5 : Int32))), .val (.int cc), .val (.int kp), .val (.ref b148), .val (.int pp), .val (.int (0 : Int32)), .unset]) rfl) ?_
              show Go p e below T176 (mkF m 225 #[.val (.int p0), .val (.int p1), .val (.int p2), .val (.int p3), .val (.int p4), .val (.int ((p0 &&& (2147483647 : Int32)) % (5 : Int32))), .val (.int cc), .val (.int kp), .val (.ref b148), .val (.int pp), .val (.int (0 : Int32)), .unset] []) _
              refine stp (fun _ => XS.iload X176.here hx rfl (hb hby at_225) rfl) ?_
              show Go p e below T176 (mkF m 227 #[.val (.int p0), .val (.int p1), .val (.int p2), .val (.int p3), .val (.int p4), .val (.int ((p0 &&& (2147483647 : Int32)) % (5 : Int32))), .val (.int cc), .val (.int kp), .val (.ref b148), .val (.int pp), .val (.int (0 : Int32)), .unset] [(.int kp)]) _
              refine stp (fun _ => XS.ifNo X176.here hx rfl (hb hby at_227) rfl (XT.i0_ne_f q205_179)) ?_
              show Go p e below T176 (mkF m 230 #[.val (.int p0), .val (.int p1), .val (.int p2), .val (.int p3), .val (.int p4), .val (.int ((p0 &&& (2147483647 : Int32)) % (5 : Int32))), .val (.int cc), .val (.int kp), .val (.ref b148), .val (.int pp), .val (.int (0 : Int32)), .unset] []) _
              refine stp (fun _ => XS.aload X176.here hx rfl (hb hby at_230) rfl rfl) ?_
              show Go p e below T176 (mkF m 232 #[.val (.int p0), .val (.int p1), .val (.int p2), .val (.int p3), .val (.int p4), .val (.int ((p0 &&& (2147483647 : Int32)) % (5 : Int32))), .val (.int cc), .val (.int kp), .val (.ref b148), .val (.int pp), .val (.int (0 : Int32)), .unset] [(.ref b148)]) _
              refine stp (fun _ => XS.iload X176.here hx rfl (hb hby at_232) rfl) ?_
              show Go p e below T176 (mkF m 234 #[.val (.int p0), .val (.int p1), .val (.int p2), .val (.int p3), .val (.int p4), .val (.int ((p0 &&& (2147483647 : Int32)) % (5 : Int32))), .val (.int cc), .val (.int kp), .val (.ref b148), .val (.int pp), .val (.int (0 : Int32)), .unset] [(.int pp), (.ref b148)]) _
              refine stp (fun _ => XS.iload X176.here hx rfl (hb hby at_234) rfl) ?_
              show Go p e below T176 (mkF m 236 #[.val (.int p0), .val (.int p1), .val (.int p2), .val (.int p3), .val (.int p4), .val (.int ((p0 &&& (2147483647 : Int32)) % (5 : Int32))), .val (.int cc), .val (.int kp), .val (.ref b148), .val (.int pp), .val (.int (0 : Int32)), .unset] [(.int cc), (.int pp), (.ref b148)]) _
              obtain ⟨cl219, Ar219, q219, S219, M219, H219, G219⟩ := (id V176)
              have in219 : ¬ (pp < 0 ∨ cl219.slots.size ≤ (pp).toNatClampNeg) := inb_of S219 hpp
              obtain ⟨T219, h219, X219, e219, W219, st219⟩ := stC X176 hx hZ e176 Ar219 (j := pp) in219 (g := (mkF m 236 #[.val (.int p0), .val (.int p1), .val (.int p2), .val (.int p3), .val (.int p4), .val (.int ((p0 &&& (2147483647 : Int32)) % (5 : Int32))), .val (.int cc), .val (.int kp), .val (.ref b148), .val (.int pp), .val (.int (0 : Int32)), .unset] [(.int cc), (.int pp), (.ref b148)])) rfl rfl (hb hby at_236)
              have V219 : Arv Z h219 b148 k148 .char (8 : Int32) [(.int (own_imp pp cc (0 : Int32))), (.int (own_imp pp cc (1 : Int32))), (.int (own_imp pp cc (2 : Int32))), (.int (own_imp pp cc (3 : Int32))), (.int (own_imp pp cc (4 : Int32))), (.int (own_imp pp cc (5 : Int32))), (.int (own_imp pp cc (6 : Int32))), (.int (own_imp pp cc (7 : Int32)))] (.int (0 : Int32)) := (own_im_set hpp) ▸ Arv.set Ar219 q219 S219 M219 H219 G219 (ow_fits_char (char255 hcc)) (ow_wr_char (char255 hcc) W219) _ rfl (own_im_lt hpp)
              have f220 := f177.wr W219
              have hk := Nat.le_trans hk (Keep.of_wr W219).1
              have CR := CR.trans (CHr.wr W219 (Safe.exa hZ.alike f177 (by decide) (by decide)) CR.1)
              have K219 : Keep h0 h219 [] := K176.wr W219 (Or.inr sz_b148)
              have O219 := O176.wr W219 ge_b148
              have N219 := Fr.snoc X219 N176 ge_b148
              refine stp st219 ?_
              show Go p e below T219 (mkF m 237 #[.val (.int p0), .val (.int p1), .val (.int p2), .val (.int p3), .val (.int p4), .val (.int ((p0 &&& (2147483647 : Int32)) % (5 : Int32))), .val (.int cc), .val (.int kp), .val (.ref b148), .val (.int pp), .val (.int (0 : Int32)), .unset] []) _
              obtain ⟨T222, h222, X222, e222, E222, A222, D222, -, st222⟩ := newO X219 hx hZ hown (hw _ (List.mem_of_getElem? (i := 43) rfl)) (hw _ (List.mem_of_getElem? (i := 44) rfl)) (hw _ (List.mem_of_getElem? (i := 28) rfl)) e219 (g := (mkF m 237 #[.val (.int p0), .val (.int p1), .val (.int p2), .val (.int p3), .val (.int p4), .val (.int ((p0 &&& (2147483647 : Int32)) % (5 : Int32))), .val (.int cc), .val (.int kp), .val (.ref b148), .val (.int pp), .val (.int (0 : Int32)), .unset] [])) rfl (hb hby at_237) (by decide) (by decide)
              obtain ⟨b222, g222⟩ : ∃ z, z = h219.size := ⟨_, rfl⟩
              rw [← g222] at A222 D222 st222
              have ne223 : auth ≠ b222 := O219.ne E_auth.lt (Nat.le_trans (old_le O219) (Nat.le_of_eq g222.symm))
              have ne224 : b148 ≠ b222 := Nat.ne_of_lt (Nat.lt_of_lt_of_le f220.lt (Nat.le_of_eq g222.symm))
              have ne225 : empty_ ≠ b222 := O219.ne E_em.lt (Nat.le_trans (old_le O219) (Nat.le_of_eq g222.symm))
              have ne226 : impl ≠ b222 := O219.ne E_impl.lt (Nat.le_trans (old_le O219) (Nat.le_of_eq g222.symm))
              have ne227 : va ≠ b222 := O219.ne E_va.lt (Nat.le_trans (old_le O219) (Nat.le_of_eq g222.symm))
              have ne228 : w1 ≠ b222 := O219.ne Q_w1.lt (Nat.le_trans (old_le O219) (Nat.le_of_eq g222.symm))
              have ne229 : w2 ≠ b222 := O219.ne Q_w2.lt (Nat.le_trans (old_le O219) (Nat.le_of_eq g222.symm))
              have sz_b222 : h0.size ≤ b222 := Nat.le_trans K219.1 (Nat.le_of_eq g222.symm)
              have ge_b222 : n0 ≤ b222 := Nat.le_trans (old_le O219) (Nat.le_of_eq g222.symm)
              have f230 := f220.ext E222
              have f231 := V219.ext E222
              have Sf222 := (Safe.new (Z := Z) (EL := consts_1) (Nat.le_of_eq g222.symm)).ext E222 CR.1
              have hk := Nat.le_trans hk E222.1
              have CR := CR.trans (CHr.ext E222 CR.1)
              have K222 : Keep h0 h222 [] := K219.ext E222
              have O222 := O219.ext E222
              have F232 : Fld Z h222 b222 "java/lang/String" "coder" "B" (.int (0 : Int32)) := D222 (Or.inr (hw _ (List.mem_of_getElem? (i := 68) rfl))) (ty := .byte) (by decide)
              have F233 : Fld Z h222 b222 "java/lang/String" "value" "[B" .null := D222 (Or.inr (hw _ (List.mem_of_getElem? (i := 70) rfl))) (ty := (.array .byte)) (by decide)
              refine stp st222 ?_
              show Go p e below T222 (mkF m 240 #[.val (.int p0), .val (.int p1), .val (.int p2), .val (.int p3), .val (.int p4), .val (.int ((p0 &&& (2147483647 : Int32)) % (5 : Int32))), .val (.int cc), .val (.int kp), .val (.ref b148), .val (.int pp), .val (.int (0 : Int32)), .unset] [(.ref b222)]) _
              refine stp (fun _ => XS.dup X222.here hx rfl (hb hby at_240) rfl rfl) ?_
              show Go p e below T222 (mkF m 241 #[.val (.int p0), .val (.int p1), .val (.int p2), .val (.int p3), .val (.int p4), .val (.int ((p0 &&& (2147483647 : Int32)) % (5 : Int32))), .val (.int cc), .val (.int kp), .val (.ref b148), .val (.int pp), .val (.int (0 : Int32)), .unset] [(.ref b222), (.ref b222)]) _
              refine stp (fun _ => XS.aload X222.here hx rfl (hb hby at_241) rfl rfl) ?_
              show Go p e below T222 (mkF m 243 #[.val (.int p0), .val (.int p1), .val (.int p2), .val (.int p3), .val (.int p4), .val (.int ((p0 &&& (2147483647 : Int32)) % (5 : Int32))), .val (.int cc), .val (.int kp), .val (.ref b148), .val (.int pp), .val (.int (0 : Int32)), .unset] [(.ref b148), (.ref b222), (.ref b222)]) _
              obtain ⟨_, _, ⟨T234, L234, k234, n234⟩, -, X234, ⟨Lc234, hQ234, l234, y234, z234⟩, st234⟩ := X222.specialBack hx (y := (⟨"java/lang/String", "<init>", "([C)V"⟩ : MethodName)) rfl hown (mvT hZ (hw _ (List.mem_of_getElem? (i := 45) rfl))) (mvT hZ (hw _ (List.mem_of_getElem? (i := 46) rfl))) (mvT hZ (hw _ (List.mem_of_getElem? (i := 47) rfl))) (by decide) (StrChars.Road.backV (W := 1) hZ hws (kI := 4) (hw _ (List.mem_of_getElem? (i := 44) rfl)) (cs := ([(own_imp pp cc (0 : Int32)), (own_imp pp cc (1 : Int32)), (own_imp pp cc (2 : Int32)), (own_imp pp cc (3 : Int32)), (own_imp pp cc (4 : Int32)), (own_imp pp cc (5 : Int32)), (own_imp pp cc (6 : Int32)), (own_imp pp cc (7 : Int32))] : List Int32)) (bs := ([(own_imp pp cc (0 : Int32)), (own_imp pp cc (1 : Int32)), (own_imp pp cc (2 : Int32)), (own_imp pp cc (3 : Int32)), (own_imp pp cc (4 : Int32)), (own_imp pp cc (5 : Int32)), (own_imp pp cc (6 : Int32)), (own_imp pp cc (7 : Int32))] : List Int32).map (fun c => c.toInt8.toInt32)) (n := 8) ge_b222 (old_le O222) A222 F233 F232 f231 (S_CS.ext O222.2) hcz rfl rfl (by decide) (by decide) (own_sm1 (own_imp_sm hcc _ _) (own_sm1 (own_imp_sm hcc _ _) (own_sm1 (own_imp_sm hcc _ _) (own_sm1 (own_imp_sm hcc _ _) (own_sm1 (own_imp_sm hcc _ _) (own_sm1 (own_imp_sm hcc _ _) (own_sm1 (own_imp_sm hcc _ _) (own_sm1 (own_imp_sm hcc _ _) own_sm0)))))))) rfl (by decide) (by decide)) (g := (mkF m 243 #[.val (.int p0), .val (.int p1), .val (.int p2), .val (.int p3), .val (.int p4), .val (.int ((p0 &&& (2147483647 : Int32)) % (5 : Int32))), .val (.int cc), .val (.int kp), .val (.ref b148), .val (.int pp), .val (.int (0 : Int32)), .unset] [(.ref b148), (.ref b222), (.ref b222)])) rfl (by rw [hml]; rfl) (Steps.refl _) (a := b222) (argsL := [(.ref b148)]) (rest := [(.ref b222)]) (lenOf pd_7 rfl) rfl (by show 2 * 0 + _ ≤ _; exact Nat.le_of_eq rfl) (hb hby at_243) (fun _ _ => ⟨rfl, e222, (by decide : 2 + 1 ≤ _), (by decide : 12 + 8 ≤ _)⟩)
              dsimp only [Pt.U, Pt.locs, Pt.cells, Pt.slots] at X234 l234 y234 z234 st234 hQ234
              subst y234 z234
              obtain ⟨rfl, N234q, K234q, E234q, C234q, t234, kb234, ge_t234, sz234q, ne234q, F234q, V234q⟩ := hQ234
              have N234 : Fr n0 L234 := by rw [l234]; exact Fr.app N219 N234q
              have ne235 : b148 ≠ t234 := Nat.ne_of_lt (Nat.lt_of_lt_of_le f230.lt sz234q)
              have f236 := f230.keep K234q
              have f237 := f231.keep K234q (ninS ne224 nin0)
              have f238 := Sf222.keep K234q (sfS Sf222 sf0) CR.1
              have hk := Nat.le_trans hk K234q.1
              have CR := CR.trans (CHr.keep K234q (sfS Sf222 sf0) CR.1)
              have K234 : Keep h0 T234.heap [] := K222.trans K234q (allS (Or.inr sz_b222) all0)
              have sz_t234 : h0.size ≤ t234 := Nat.le_trans K222.1 sz234q
              have O234 := O222.keep K234q (allS ge_b222 all0)
              have Q234 : StrIs Z T234.heap b222 ([(own_imp pp cc (0 : Int32)), (own_imp pp cc (1 : Int32)), (own_imp pp cc (2 : Int32)), (own_imp pp cc (3 : Int32)), (own_imp pp cc (4 : Int32)), (own_imp pp cc (5 : Int32)), (own_imp pp cc (6 : Int32)), (own_imp pp cc (7 : Int32))] : List Int32) := StrIs.of E234q F234q C234q V234q rfl rfl (own_sm1 (own_imp_sm hcc _ _) (own_sm1 (own_imp_sm hcc _ _) (own_sm1 (own_imp_sm hcc _ _) (own_sm1 (own_imp_sm hcc _ _) (own_sm1 (own_imp_sm hcc _ _) (own_sm1 (own_imp_sm hcc _ _) (own_sm1 (own_imp_sm hcc _ _) (own_sm1 (own_imp_sm hcc _ _) own_sm0)))))))) (Nat.le_of_ble_eq_true rfl)
              refine stt st234 ?_
              show Go p e below T234 (mkF m 246 #[.val (.int p0), .val (.int p1), .val (.int p2), .val (.int p3), .val (.int p4), .val (.int ((p0 &&& (2147483647 : Int32)) % (5 : Int32))), .val (.int cc), .val (.int kp), .val (.ref b148), .val (.int pp), .val (.int (0 : Int32)), .unset] [(.ref b222)]) _
              obtain ⟨_, _, ⟨T239, L239, k239, n239⟩, -, X239, ⟨Lc239, hQ239, l239, y239, z239⟩, st239⟩ := Jvm.LawKit.callS X234 hx (y := (⟨"com/example/uriel/uriel/grant/GrantType", "fromWireName", "(Ljava/lang/String;)Ljava/util/Optional;"⟩ : MethodName)) hown (mvT hZ (hw _ (List.mem_of_getElem? (i := 1) rfl))) (mvT hZ (hw _ (List.mem_of_getElem? (i := 2) rfl))) (mvT hZ (hw _ (List.mem_of_getElem? (i := 3) rfl))) (mvT hZ (hw _ (List.mem_of_getElem? (i := 4) rfl))) (by decide) (backOf (W := 0) (rm_fwn l Z a0 hw [] b222 auth impl va w1 w2 empty_ ([(own_imp pp cc (0 : Int32)), (own_imp pp cc (1 : Int32)), (own_imp pp cc (2 : Int32)), (own_imp pp cc (3 : Int32)), (own_imp pp cc (4 : Int32)), (own_imp pp cc (5 : Int32)), (own_imp pp cc (6 : Int32)), (own_imp pp cc (7 : Int32))] : List Int32) cz k_va T234.heap n0 O234 S_VALUES E_va V_va F_w1 F_w2 Q_w1 Q_w2 S_EM Q234 S_CS hcz (own_ac_ne (show (18 : Nat) ≠ 8 by decide)) (fun q => q215_181 ((own_im_eq hpp).mp q))) hZ (hw _ (List.mem_of_getElem? (i := 4) rfl)) (hw _ (List.mem_of_getElem? (i := 3) rfl)) (by decide) (by decide)) (g := (mkF m 246 #[.val (.int p0), .val (.int p1), .val (.int p2), .val (.int p3), .val (.int p4), .val (.int ((p0 &&& (2147483647 : Int32)) % (5 : Int32))), .val (.int cc), .val (.int kp), .val (.ref b148), .val (.int pp), .val (.int (0 : Int32)), .unset] [(.ref b222)])) rfl (by rw [hml]; rfl) (argsL := [(.ref b222)]) (rest := []) (lenOf pd_5 rfl) rfl (by show 2 * 0 + _ ≤ _; exact Nat.le_of_eq rfl) (hb hby at_246) (fun _ _ => ⟨rfl, rfl, (by decide : 3 + 1 ≤ _), (by decide : 20 + 2 ≤ _)⟩)
              dsimp only [Pt.U, Pt.locs, Pt.cells, Pt.slots] at X239 l239 y239 z239 st239 hQ239
              subst y239 z239
              obtain ⟨rfl, N239q, K239q⟩ := hQ239
              have N239 : Fr n0 L239 := by rw [l239]; exact Fr.app N234 N239q
              have f240 := f236.keep K239q
              have f241 := f237.keep K239q nin0
              have f242 := f238.keep K239q sf0 CR.1
              have f243 := E234q.keep K239q
              have f244 := Q234.keep K239q nin0 apart0
              have hk := Nat.le_trans hk K239q.1
              have CR := CR.trans (CHr.keep K239q sf0 CR.1)
              have K239 : Keep h0 T239.heap [] := K234.trans K239q all0
              have O239 := O234.keep K239q all0
              refine stp st239 ?_
              show Go p e below T239 (mkF m 249 #[.val (.int p0), .val (.int p1), .val (.int p2), .val (.int p3), .val (.int p4), .val (.int ((p0 &&& (2147483647 : Int32)) % (5 : Int32))), .val (.int cc), .val (.int kp), .val (.ref b148), .val (.int pp), .val (.int (0 : Int32)), .unset] [(.ref empty_)]) _
              refine stp (fun _ => XS.aconstNull X239.here hx rfl (hb hby at_249)) ?_
              show Go p e below T239 (mkF m 250 #[.val (.int p0), .val (.int p1), .val (.int p2), .val (.int p3), .val (.int p4), .val (.int ((p0 &&& (2147483647 : Int32)) % (5 : Int32))), .val (.int cc), .val (.int kp), .val (.ref b148), .val (.int pp), .val (.int (0 : Int32)), .unset] [.null, (.ref empty_)]) _
              obtain ⟨cq245, kq245, q245a, q245b, q245c⟩ := isOf hZ rfl (E_em.ext O239.2)
              obtain ⟨_, _, ⟨T245, L245, k245, n245⟩, -, X245, ⟨Lc245, hQ245, l245, y245, z245⟩, st245⟩ := X239.virtualBack hx (y := (⟨"java/util/Optional", "orElse", "(Ljava/lang/Object;)Ljava/lang/Object;"⟩ : MethodName)) (z := (⟨"java/util/Optional", "orElse", "(Ljava/lang/Object;)Ljava/lang/Object;"⟩ : MethodName)) hown (mvT hZ (hw _ (List.mem_of_getElem? (i := 35) rfl))) (mvT hZ (hw _ (List.mem_of_getElem? (i := 36) rfl))) (notFace_of_selects (args := #[]) (mvT hZ (hw _ (List.mem_of_getElem? (i := 38) rfl)))) (mvT hZ (hw _ (List.mem_of_getElem? (i := 38) rfl))) (mvT hZ (hw _ (List.mem_of_getElem? (i := 37) rfl))) (by decide) (backOf (W := 0) (rm_oe0 l Z a0 hw [] empty_  T239.heap n0 O239 F_em) hZ (hw _ (List.mem_of_getElem? (i := 39) rfl)) (hw _ (List.mem_of_getElem? (i := 32) rfl)) (by decide) (by decide)) q245a q245c (g := (mkF m 250 #[.val (.int p0), .val (.int p1), .val (.int p2), .val (.int p3), .val (.int p4), .val (.int ((p0 &&& (2147483647 : Int32)) % (5 : Int32))), .val (.int cc), .val (.int kp), .val (.ref b148), .val (.int pp), .val (.int (0 : Int32)), .unset] [.null, (.ref empty_)])) rfl (by rw [hml]; rfl) (Steps.refl _) (argsL := [.null]) (rest := []) (lenOf pd_6 rfl) rfl (by show 2 * 0 + _ ≤ _; exact Nat.le_of_eq rfl) (hb hby at_250) (fun _ _ => ⟨rfl, rfl, (by decide : 4 + 0 ≤ _), (by decide : 22 + 0 ≤ _)⟩)
              dsimp only [Pt.U, Pt.locs, Pt.cells, Pt.slots] at X245 l245 y245 z245 st245 hQ245
              subst y245 z245
              obtain ⟨rfl, N245q, e245⟩ := hQ245
              have N245 : Fr n0 L245 := by rw [l245]; exact Fr.app N239 N245q
              refine stt st245 ?_
              show Go p e below T245 (mkF m 253 #[.val (.int p0), .val (.int p1), .val (.int p2), .val (.int p3), .val (.int p4), .val (.int ((p0 &&& (2147483647 : Int32)) % (5 : Int32))), .val (.int cc), .val (.int kp), .val (.ref b148), .val (.int pp), .val (.int (0 : Int32)), .unset] [.null]) _
              refine stp (fun _ => X245.checkcastNull hx (g := (mkF m 253 #[.val (.int p0), .val (.int p1), .val (.int p2), .val (.int p3), .val (.int p4), .val (.int ((p0 &&& (2147483647 : Int32)) % (5 : Int32))), .val (.int cc), .val (.int kp), .val (.ref b148), .val (.int pp), .val (.int (0 : Int32)), .unset] [.null])) rfl rfl (hb hby at_253) _) ?_
              show Go p e below T245 (mkF m 256 #[.val (.int p0), .val (.int p1), .val (.int p2), .val (.int p3), .val (.int p4), .val (.int ((p0 &&& (2147483647 : Int32)) % (5 : Int32))), .val (.int cc), .val (.int kp), .val (.ref b148), .val (.int pp), .val (.int (0 : Int32)), .unset] [.null]) _
              refine stp (fun _ => XS.astore X245.here hx rfl (hb hby at_256) rfl rfl (l' := #[.val (.int p0), .val (.int p1), .val (.int p2), .val (.int p3), .val (.int p4), .val (.int ((p0 &&& (2147483647 : Int32)) % (5 : Int32))), .val (.int cc), .val (.int kp), .val (.ref b148), .val (.int pp), .val (.int (0 : Int32)), .val .null]) rfl) ?_
              show Go p e below T245 (mkF m 258 #[.val (.int p0), .val (.int p1), .val (.int p2), .val (.int p3), .val (.int p4), .val (.int ((p0 &&& (2147483647 : Int32)) % (5 : Int32))), .val (.int cc), .val (.int kp), .val (.ref b148), .val (.int pp), .val (.int (0 : Int32)), .val .null] []) _
              refine stp (fun _ => XS.iload X245.here hx rfl (hb hby at_258) rfl) ?_
              show Go p e below T245 (mkF m 260 #[.val (.int p0), .val (.int p1), .val (.int p2), .val (.int p3), .val (.int p4), .val (.int ((p0 &&& (2147483647 : Int32)) % (5 : Int32))), .val (.int cc), .val (.int kp), .val (.ref b148), .val (.int pp), .val (.int (0 : Int32)), .val .null] [(.int (0 : Int32))]) _
              refine stp (fun _ => XS.ifYes X245.here hx rfl (pc0 := 260) (pc' := 279) rfl (hb hby at_260) rfl (by decide) (by decide) (by decide)) ?_
              show Go p e below T245 (mkF m 279 #[.val (.int p0), .val (.int p1), .val (.int p2), .val (.int p3), .val (.int p4), .val (.int ((p0 &&& (2147483647 : Int32)) % (5 : Int32))), .val (.int cc), .val (.int kp), .val (.ref b148), .val (.int pp), .val (.int (0 : Int32)), .val .null] []) _
              refine stp (fun _ => XS.aload X245.here hx rfl (hb hby at_279) rfl rfl) ?_
              show Go p e below T245 (mkF m 281 #[.val (.int p0), .val (.int p1), .val (.int p2), .val (.int p3), .val (.int p4), .val (.int ((p0 &&& (2147483647 : Int32)) % (5 : Int32))), .val (.int cc), .val (.int kp), .val (.ref b148), .val (.int pp), .val (.int (0 : Int32)), .val .null] [.null]) _
              refine stp (fun _ => XS.ifnonnullNo X245.here hx rfl (hb hby at_281) rfl) ?_
              show Go p e below T245 (mkF m 284 #[.val (.int p0), .val (.int p1), .val (.int p2), .val (.int p3), .val (.int p4), .val (.int ((p0 &&& (2147483647 : Int32)) % (5 : Int32))), .val (.int cc), .val (.int kp), .val (.ref b148), .val (.int pp), .val (.int (0 : Int32)), .val .null] []) _
              refine stp (fun _ => XS.iconst X245.here hx rfl (hb hby at_284)) ?_
              show Go p e below T245 (mkF m 285 #[.val (.int p0), .val (.int p1), .val (.int p2), .val (.int p3), .val (.int p4), .val (.int ((p0 &&& (2147483647 : Int32)) % (5 : Int32))), .val (.int cc), .val (.int kp), .val (.ref b148), .val (.int pp), .val (.int (0 : Int32)), .val .null] [(.int (1 : Int32))]) _
              refine stp (fun _ => XS.goto X245.here hx rfl (pc0 := 285) (pc' := 289) rfl (hb hby at_285) (by decide) (by decide)) ?_
              show Go p e below T245 (mkF m 289 #[.val (.int p0), .val (.int p1), .val (.int p2), .val (.int p3), .val (.int p4), .val (.int ((p0 &&& (2147483647 : Int32)) % (5 : Int32))), .val (.int cc), .val (.int kp), .val (.ref b148), .val (.int pp), .val (.int (0 : Int32)), .val .null] [(.int (1 : Int32))]) _
              refine outNW X245 hx hZ hEL e245 hS hk CR (t := .boolean) hret (by simp) (hb hby at_289) hlk (by decide) (by decide) ?_
              exact ⟨rfl, N245⟩
          · refine stp (fun _ => XS.ifYes X176.here hx rfl (pc0 := 205) (pc' := 218) rfl (hb hby at_205) rfl (XT.i0_ne_t q205_179) (by decide) (by decide)) ?_
            show Go p e below T176 (mkF m 218 #[.val (.int p0), .val (.int p1), .val (.int p2), .val (.int p3), .val (.int p4), .val (.int ((p0 &&& (2147483647 : Int32)) % (5 : Int32))), .val (.int cc), .val (.int kp), .val (.ref b148), .val (.int pp), .unset, .unset] []) _
            refine stp (fun _ => XS.iconst X176.here hx rfl (hb hby at_218)) ?_
            show Go p e below T176 (mkF m 219 #[.val (.int p0), .val (.int p1), .val (.int p2), .val (.int p3), .val (.int p4), .val (.int ((p0 &&& (2147483647 : Int32)) % (5 : Int32))), .val (.int cc), .val (.int kp), .val (.ref b148), .val (.int pp), .unset, .unset] [(.int (1 : Int32))]) _
            refine stp (fun _ => XS.goto X176.here hx rfl (pc0 := 219) (pc' := 223) rfl (hb hby at_219) (by decide) (by decide)) ?_
            show Go p e below T176 (mkF m 223 #[.val (.int p0), .val (.int p1), .val (.int p2), .val (.int p3), .val (.int p4), .val (.int ((p0 &&& (2147483647 : Int32)) % (5 : Int32))), .val (.int cc), .val (.int kp), .val (.ref b148), .val (.int pp), .unset, .unset] [(.int (1 : Int32))]) _
            refine stp (fun _ => XS.istore X176.here hx rfl (hb hby at_223) rfl (l' := #[.val (.int p0), .val (.int p1), .val (.int p2), .val (.int p3), .val (.int p4), .val (.int ((p0 &&& (2147483647 : Int32)) % (5 : Int32))), .val (.int cc), .val (.int kp), .val (.ref b148), .val (.int pp), .val (.int (1 : Int32)), .unset]) rfl) ?_
            show Go p e below T176 (mkF m 225 #[.val (.int p0), .val (.int p1), .val (.int p2), .val (.int p3), .val (.int p4), .val (.int ((p0 &&& (2147483647 : Int32)) % (5 : Int32))), .val (.int cc), .val (.int kp), .val (.ref b148), .val (.int pp), .val (.int (1 : Int32)), .unset] []) _
            refine stp (fun _ => XS.iload X176.here hx rfl (hb hby at_225) rfl) ?_
            show Go p e below T176 (mkF m 227 #[.val (.int p0), .val (.int p1), .val (.int p2), .val (.int p3), .val (.int p4), .val (.int ((p0 &&& (2147483647 : Int32)) % (5 : Int32))), .val (.int cc), .val (.int kp), .val (.ref b148), .val (.int pp), .val (.int (1 : Int32)), .unset] [(.int kp)]) _
            refine stp (fun _ => XS.ifYes X176.here hx rfl (pc0 := 227) (pc' := 237) rfl (hb hby at_227) rfl (XT.i0_ne_t q205_179) (by decide) (by decide)) ?_
            show Go p e below T176 (mkF m 237 #[.val (.int p0), .val (.int p1), .val (.int p2), .val (.int p3), .val (.int p4), .val (.int ((p0 &&& (2147483647 : Int32)) % (5 : Int32))), .val (.int cc), .val (.int kp), .val (.ref b148), .val (.int pp), .val (.int (1 : Int32)), .unset] []) _
            obtain ⟨T246, h246, X246, e246, E246, A246, D246, -, st246⟩ := newO X176 hx hZ hown (hw _ (List.mem_of_getElem? (i := 43) rfl)) (hw _ (List.mem_of_getElem? (i := 44) rfl)) (hw _ (List.mem_of_getElem? (i := 28) rfl)) e176 (g := (mkF m 237 #[.val (.int p0), .val (.int p1), .val (.int p2), .val (.int p3), .val (.int p4), .val (.int ((p0 &&& (2147483647 : Int32)) % (5 : Int32))), .val (.int cc), .val (.int kp), .val (.ref b148), .val (.int pp), .val (.int (1 : Int32)), .unset] [])) rfl (hb hby at_237) (by decide) (by decide)
            obtain ⟨b246, g246⟩ : ∃ z, z = h176.size := ⟨_, rfl⟩
            rw [← g246] at A246 D246 st246
            have ne247 : auth ≠ b246 := O176.ne E_auth.lt (Nat.le_trans (old_le O176) (Nat.le_of_eq g246.symm))
            have ne248 : b148 ≠ b246 := Nat.ne_of_lt (Nat.lt_of_lt_of_le f177.lt (Nat.le_of_eq g246.symm))
            have ne249 : empty_ ≠ b246 := O176.ne E_em.lt (Nat.le_trans (old_le O176) (Nat.le_of_eq g246.symm))
            have ne250 : impl ≠ b246 := O176.ne E_impl.lt (Nat.le_trans (old_le O176) (Nat.le_of_eq g246.symm))
            have ne251 : va ≠ b246 := O176.ne E_va.lt (Nat.le_trans (old_le O176) (Nat.le_of_eq g246.symm))
            have ne252 : w1 ≠ b246 := O176.ne Q_w1.lt (Nat.le_trans (old_le O176) (Nat.le_of_eq g246.symm))
            have ne253 : w2 ≠ b246 := O176.ne Q_w2.lt (Nat.le_trans (old_le O176) (Nat.le_of_eq g246.symm))
            have sz_b246 : h0.size ≤ b246 := Nat.le_trans K176.1 (Nat.le_of_eq g246.symm)
            have ge_b246 : n0 ≤ b246 := Nat.le_trans (old_le O176) (Nat.le_of_eq g246.symm)
            have f254 := f177.ext E246
            have f255 := V176.ext E246
            have Sf246 := (Safe.new (Z := Z) (EL := consts_1) (Nat.le_of_eq g246.symm)).ext E246 CR.1
            have hk := Nat.le_trans hk E246.1
            have CR := CR.trans (CHr.ext E246 CR.1)
            have K246 : Keep h0 h246 [] := K176.ext E246
            have O246 := O176.ext E246
            have F256 : Fld Z h246 b246 "java/lang/String" "coder" "B" (.int (0 : Int32)) := D246 (Or.inr (hw _ (List.mem_of_getElem? (i := 68) rfl))) (ty := .byte) (by decide)
            have F257 : Fld Z h246 b246 "java/lang/String" "value" "[B" .null := D246 (Or.inr (hw _ (List.mem_of_getElem? (i := 70) rfl))) (ty := (.array .byte)) (by decide)
            refine stp st246 ?_
            show Go p e below T246 (mkF m 240 #[.val (.int p0), .val (.int p1), .val (.int p2), .val (.int p3), .val (.int p4), .val (.int ((p0 &&& (2147483647 : Int32)) % (5 : Int32))), .val (.int cc), .val (.int kp), .val (.ref b148), .val (.int pp), .val (.int (1 : Int32)), .unset] [(.ref b246)]) _
            refine stp (fun _ => XS.dup X246.here hx rfl (hb hby at_240) rfl rfl) ?_
            show Go p e below T246 (mkF m 241 #[.val (.int p0), .val (.int p1), .val (.int p2), .val (.int p3), .val (.int p4), .val (.int ((p0 &&& (2147483647 : Int32)) % (5 : Int32))), .val (.int cc), .val (.int kp), .val (.ref b148), .val (.int pp), .val (.int (1 : Int32)), .unset] [(.ref b246), (.ref b246)]) _
            refine stp (fun _ => XS.aload X246.here hx rfl (hb hby at_241) rfl rfl) ?_
            show Go p e below T246 (mkF m 243 #[.val (.int p0), .val (.int p1), .val (.int p2), .val (.int p3), .val (.int p4), .val (.int ((p0 &&& (2147483647 : Int32)) % (5 : Int32))), .val (.int cc), .val (.int kp), .val (.ref b148), .val (.int pp), .val (.int (1 : Int32)), .unset] [(.ref b148), (.ref b246), (.ref b246)]) _
            obtain ⟨_, _, ⟨T258, L258, k258, n258⟩, -, X258, ⟨Lc258, hQ258, l258, y258, z258⟩, st258⟩ := X246.specialBack hx (y := (⟨"java/lang/String", "<init>", "([C)V"⟩ : MethodName)) rfl hown (mvT hZ (hw _ (List.mem_of_getElem? (i := 45) rfl))) (mvT hZ (hw _ (List.mem_of_getElem? (i := 46) rfl))) (mvT hZ (hw _ (List.mem_of_getElem? (i := 47) rfl))) (by decide) (StrChars.Road.backV (W := 1) hZ hws (kI := 4) (hw _ (List.mem_of_getElem? (i := 44) rfl)) (cs := ([(105 : Int32), (109 : Int32), (112 : Int32), (108 : Int32), (105 : Int32), (99 : Int32), (105 : Int32), (116 : Int32)] : List Int32)) (bs := ([(105 : Int32), (109 : Int32), (112 : Int32), (108 : Int32), (105 : Int32), (99 : Int32), (105 : Int32), (116 : Int32)] : List Int32).map (fun c => c.toInt8.toInt32)) (n := 8) ge_b246 (old_le O246) A246 F257 F256 f255 (S_CS.ext O246.2) hcz rfl rfl (by decide) (by decide) (own_sm1 ⟨by decide, by decide⟩ (own_sm1 ⟨by decide, by decide⟩ (own_sm1 ⟨by decide, by decide⟩ (own_sm1 ⟨by decide, by decide⟩ (own_sm1 ⟨by decide, by decide⟩ (own_sm1 ⟨by decide, by decide⟩ (own_sm1 ⟨by decide, by decide⟩ (own_sm1 ⟨by decide, by decide⟩ own_sm0)))))))) rfl (by decide) (by decide)) (g := (mkF m 243 #[.val (.int p0), .val (.int p1), .val (.int p2), .val (.int p3), .val (.int p4), .val (.int ((p0 &&& (2147483647 : Int32)) % (5 : Int32))), .val (.int cc), .val (.int kp), .val (.ref b148), .val (.int pp), .val (.int (1 : Int32)), .unset] [(.ref b148), (.ref b246), (.ref b246)])) rfl (by rw [hml]; rfl) (Steps.refl _) (a := b246) (argsL := [(.ref b148)]) (rest := [(.ref b246)]) (lenOf pd_7 rfl) rfl (by show 2 * 0 + _ ≤ _; exact Nat.le_of_eq rfl) (hb hby at_243) (fun _ _ => ⟨rfl, e246, (by decide : 2 + 1 ≤ _), (by decide : 12 + 8 ≤ _)⟩)
            dsimp only [Pt.U, Pt.locs, Pt.cells, Pt.slots] at X258 l258 y258 z258 st258 hQ258
            subst y258 z258
            obtain ⟨rfl, N258q, K258q, E258q, C258q, t258, kb258, ge_t258, sz258q, ne258q, F258q, V258q⟩ := hQ258
            have N258 : Fr n0 L258 := by rw [l258]; exact Fr.app N176 N258q
            have ne259 : b148 ≠ t258 := Nat.ne_of_lt (Nat.lt_of_lt_of_le f254.lt sz258q)
            have f260 := f254.keep K258q
            have f261 := f255.keep K258q (ninS ne248 nin0)
            have f262 := Sf246.keep K258q (sfS Sf246 sf0) CR.1
            have hk := Nat.le_trans hk K258q.1
            have CR := CR.trans (CHr.keep K258q (sfS Sf246 sf0) CR.1)
            have K258 : Keep h0 T258.heap [] := K246.trans K258q (allS (Or.inr sz_b246) all0)
            have sz_t258 : h0.size ≤ t258 := Nat.le_trans K246.1 sz258q
            have O258 := O246.keep K258q (allS ge_b246 all0)
            have Q258 : StrIs Z T258.heap b246 ([(105 : Int32), (109 : Int32), (112 : Int32), (108 : Int32), (105 : Int32), (99 : Int32), (105 : Int32), (116 : Int32)] : List Int32) := StrIs.of E258q F258q C258q V258q rfl rfl (own_sm1 ⟨by decide, by decide⟩ (own_sm1 ⟨by decide, by decide⟩ (own_sm1 ⟨by decide, by decide⟩ (own_sm1 ⟨by decide, by decide⟩ (own_sm1 ⟨by decide, by decide⟩ (own_sm1 ⟨by decide, by decide⟩ (own_sm1 ⟨by decide, by decide⟩ (own_sm1 ⟨by decide, by decide⟩ own_sm0)))))))) (Nat.le_of_ble_eq_true rfl)
            refine stt st258 ?_
            show Go p e below T258 (mkF m 246 #[.val (.int p0), .val (.int p1), .val (.int p2), .val (.int p3), .val (.int p4), .val (.int ((p0 &&& (2147483647 : Int32)) % (5 : Int32))), .val (.int cc), .val (.int kp), .val (.ref b148), .val (.int pp), .val (.int (1 : Int32)), .unset] [(.ref b246)]) _
            obtain ⟨_, _, ⟨T263, L263, k263, n263⟩, -, X263, ⟨Lc263, hQ263, l263, y263, z263⟩, st263⟩ := Jvm.LawKit.callS X258 hx (y := (⟨"com/example/uriel/uriel/grant/GrantType", "fromWireName", "(Ljava/lang/String;)Ljava/util/Optional;"⟩ : MethodName)) hown (mvT hZ (hw _ (List.mem_of_getElem? (i := 1) rfl))) (mvT hZ (hw _ (List.mem_of_getElem? (i := 2) rfl))) (mvT hZ (hw _ (List.mem_of_getElem? (i := 3) rfl))) (mvT hZ (hw _ (List.mem_of_getElem? (i := 4) rfl))) (by decide) (backOf (W := 0) (rm_fwi l Z a0 hw [] b246 auth impl va w1 w2 ([(105 : Int32), (109 : Int32), (112 : Int32), (108 : Int32), (105 : Int32), (99 : Int32), (105 : Int32), (116 : Int32)] : List Int32) cz k_va T258.heap n0 O258 S_VALUES E_va V_va F_w1 F_w2 Q_w1 Q_w2 Q258 S_CS hcz (own_ac_ne (show (18 : Nat) ≠ 8 by decide)) rfl) hZ (hw _ (List.mem_of_getElem? (i := 4) rfl)) (hw _ (List.mem_of_getElem? (i := 3) rfl)) (by decide) (by decide)) (g := (mkF m 246 #[.val (.int p0), .val (.int p1), .val (.int p2), .val (.int p3), .val (.int p4), .val (.int ((p0 &&& (2147483647 : Int32)) % (5 : Int32))), .val (.int cc), .val (.int kp), .val (.ref b148), .val (.int pp), .val (.int (1 : Int32)), .unset] [(.ref b246)])) rfl (by rw [hml]; rfl) (argsL := [(.ref b246)]) (rest := []) (lenOf pd_5 rfl) rfl (by show 2 * 0 + _ ≤ _; exact Nat.le_of_eq rfl) (hb hby at_246) (fun _ _ => ⟨rfl, rfl, (by decide : 3 + 2 ≤ _), (by decide : 20 + 3 ≤ _)⟩)
            dsimp only [Pt.U, Pt.locs, Pt.cells, Pt.slots] at X263 l263 y263 z263 st263 hQ263
            subst y263 z263
            obtain ⟨r263, rfl, N263q, K263q, ⟨ge_r263, sz263_r263⟩, r263_0, r263_1⟩ := hQ263
            have N263 : Fr n0 L263 := by rw [l263]; exact Fr.app N258 N263q
            have ne264 : b148 ≠ r263 := Nat.ne_of_lt (Nat.lt_of_lt_of_le f260.lt sz263_r263)
            have ne265 : b246 ≠ r263 := Nat.ne_of_lt (Nat.lt_of_lt_of_le E258q.lt sz263_r263)
            have ne266 : auth ≠ r263 := O258.ne E_auth.lt ge_r263
            have ne267 : empty_ ≠ r263 := O258.ne E_em.lt ge_r263
            have ne268 : impl ≠ r263 := O258.ne E_impl.lt ge_r263
            have ne269 : va ≠ r263 := O258.ne E_va.lt ge_r263
            have ne270 : w1 ≠ r263 := O258.ne Q_w1.lt ge_r263
            have ne271 : w2 ≠ r263 := O258.ne Q_w2.lt ge_r263
            have f272 := f260.keep K263q
            have f273 := f261.keep K263q nin0
            have f274 := f262.keep K263q sf0 CR.1
            have f275 := E258q.keep K263q
            have f276 := Q258.keep K263q nin0 apart0
            have hk := Nat.le_trans hk K263q.1
            have CR := CR.trans (CHr.keep K263q sf0 CR.1)
            have sz_r263 : h0.size ≤ r263 := Nat.le_trans K258.1 sz263_r263
            have K263 : Keep h0 T263.heap [] := K258.trans K263q all0
            have O263 := O258.keep K263q all0
            refine stp st263 ?_
            show Go p e below T263 (mkF m 249 #[.val (.int p0), .val (.int p1), .val (.int p2), .val (.int p3), .val (.int p4), .val (.int ((p0 &&& (2147483647 : Int32)) % (5 : Int32))), .val (.int cc), .val (.int kp), .val (.ref b148), .val (.int pp), .val (.int (1 : Int32)), .unset] [(.ref r263)]) _
            refine stp (fun _ => XS.aconstNull X263.here hx rfl (hb hby at_249)) ?_
            show Go p e below T263 (mkF m 250 #[.val (.int p0), .val (.int p1), .val (.int p2), .val (.int p3), .val (.int p4), .val (.int ((p0 &&& (2147483647 : Int32)) % (5 : Int32))), .val (.int cc), .val (.int kp), .val (.ref b148), .val (.int pp), .val (.int (1 : Int32)), .unset] [.null, (.ref r263)]) _
            obtain ⟨cq277, kq277, q277a, q277b, q277c⟩ := isOf hZ rfl r263_0
            obtain ⟨_, _, ⟨T277, L277, k277, n277⟩, -, X277, ⟨Lc277, hQ277, l277, y277, z277⟩, st277⟩ := X263.virtualBack hx (y := (⟨"java/util/Optional", "orElse", "(Ljava/lang/Object;)Ljava/lang/Object;"⟩ : MethodName)) (z := (⟨"java/util/Optional", "orElse", "(Ljava/lang/Object;)Ljava/lang/Object;"⟩ : MethodName)) hown (mvT hZ (hw _ (List.mem_of_getElem? (i := 35) rfl))) (mvT hZ (hw _ (List.mem_of_getElem? (i := 36) rfl))) (notFace_of_selects (args := #[]) (mvT hZ (hw _ (List.mem_of_getElem? (i := 38) rfl)))) (mvT hZ (hw _ (List.mem_of_getElem? (i := 38) rfl))) (mvT hZ (hw _ (List.mem_of_getElem? (i := 37) rfl))) (by decide) (backOf (W := 0) (rm_oe1 l Z a0 hw [] r263 impl T263.heap n0 O263 r263_1) hZ (hw _ (List.mem_of_getElem? (i := 39) rfl)) (hw _ (List.mem_of_getElem? (i := 32) rfl)) (by decide) (by decide)) q277a q277c (g := (mkF m 250 #[.val (.int p0), .val (.int p1), .val (.int p2), .val (.int p3), .val (.int p4), .val (.int ((p0 &&& (2147483647 : Int32)) % (5 : Int32))), .val (.int cc), .val (.int kp), .val (.ref b148), .val (.int pp), .val (.int (1 : Int32)), .unset] [.null, (.ref r263)])) rfl (by rw [hml]; rfl) (Steps.refl _) (argsL := [.null]) (rest := []) (lenOf pd_6 rfl) rfl (by show 2 * 0 + _ ≤ _; exact Nat.le_of_eq rfl) (hb hby at_250) (fun _ _ => ⟨rfl, rfl, (by decide : 5 + 0 ≤ _), (by decide : 23 + 0 ≤ _)⟩)
            dsimp only [Pt.U, Pt.locs, Pt.cells, Pt.slots] at X277 l277 y277 z277 st277 hQ277
            subst y277 z277
            obtain ⟨rfl, N277q, e277⟩ := hQ277
            have N277 : Fr n0 L277 := by rw [l277]; exact Fr.app N263 N277q
            refine stt st277 ?_
            show Go p e below T277 (mkF m 253 #[.val (.int p0), .val (.int p1), .val (.int p2), .val (.int p3), .val (.int p4), .val (.int ((p0 &&& (2147483647 : Int32)) % (5 : Int32))), .val (.int cc), .val (.int kp), .val (.ref b148), .val (.int pp), .val (.int (1 : Int32)), .unset] [(.ref impl)]) _
            obtain ⟨T278, X278, e278, st278⟩ := castY X277 hx hZ hown (hw _ (List.mem_of_getElem? (i := 83) rfl)) e277 (Ins.self (E_impl.ext O263.2)) (g := (mkF m 253 #[.val (.int p0), .val (.int p1), .val (.int p2), .val (.int p3), .val (.int p4), .val (.int ((p0 &&& (2147483647 : Int32)) % (5 : Int32))), .val (.int cc), .val (.int kp), .val (.ref b148), .val (.int pp), .val (.int (1 : Int32)), .unset] [(.ref impl)])) rfl rfl (hb hby at_253)
            refine stp st278 ?_
            show Go p e below T278 (mkF m 256 #[.val (.int p0), .val (.int p1), .val (.int p2), .val (.int p3), .val (.int p4), .val (.int ((p0 &&& (2147483647 : Int32)) % (5 : Int32))), .val (.int cc), .val (.int kp), .val (.ref b148), .val (.int pp), .val (.int (1 : Int32)), .unset] [(.ref impl)]) _
            refine stp (fun _ => XS.astore X278.here hx rfl (hb hby at_256) rfl rfl (l' := #[.val (.int p0), .val (.int p1), .val (.int p2), .val (.int p3), .val (.int p4), .val (.int ((p0 &&& (2147483647 : Int32)) % (5 : Int32))), .val (.int cc), .val (.int kp), .val (.ref b148), .val (.int pp), .val (.int (1 : Int32)), .val (.ref impl)]) rfl) ?_
            show Go p e below T278 (mkF m 258 #[.val (.int p0), .val (.int p1), .val (.int p2), .val (.int p3), .val (.int p4), .val (.int ((p0 &&& (2147483647 : Int32)) % (5 : Int32))), .val (.int cc), .val (.int kp), .val (.ref b148), .val (.int pp), .val (.int (1 : Int32)), .val (.ref impl)] []) _
            refine stp (fun _ => XS.iload X278.here hx rfl (hb hby at_258) rfl) ?_
            show Go p e below T278 (mkF m 260 #[.val (.int p0), .val (.int p1), .val (.int p2), .val (.int p3), .val (.int p4), .val (.int ((p0 &&& (2147483647 : Int32)) % (5 : Int32))), .val (.int cc), .val (.int kp), .val (.ref b148), .val (.int pp), .val (.int (1 : Int32)), .val (.ref impl)] [(.int (1 : Int32))]) _
            refine stp (fun _ => XS.ifNo X278.here hx rfl (hb hby at_260) rfl (by decide)) ?_
            show Go p e below T278 (mkF m 263 #[.val (.int p0), .val (.int p1), .val (.int p2), .val (.int p3), .val (.int p4), .val (.int ((p0 &&& (2147483647 : Int32)) % (5 : Int32))), .val (.int cc), .val (.int kp), .val (.ref b148), .val (.int pp), .val (.int (1 : Int32)), .val (.ref impl)] []) _
            refine stp (fun _ => XS.aload X278.here hx rfl (hb hby at_263) rfl rfl) ?_
            show Go p e below T278 (mkF m 265 #[.val (.int p0), .val (.int p1), .val (.int p2), .val (.int p3), .val (.int p4), .val (.int ((p0 &&& (2147483647 : Int32)) % (5 : Int32))), .val (.int cc), .val (.int kp), .val (.ref b148), .val (.int pp), .val (.int (1 : Int32)), .val (.ref impl)] [(.ref impl)]) _
            obtain ⟨T279, X279, e279, st279⟩ := getS2 X278 hx hZ hown (host := "") (Or.inl (hw _ (List.mem_of_getElem? (i := 85) rfl))) Via.refl e278 (S_IM.ext O263.2) (g := (mkF m 265 #[.val (.int p0), .val (.int p1), .val (.int p2), .val (.int p3), .val (.int p4), .val (.int ((p0 &&& (2147483647 : Int32)) % (5 : Int32))), .val (.int cc), .val (.int kp), .val (.ref b148), .val (.int pp), .val (.int (1 : Int32)), .val (.ref impl)] [(.ref impl)])) rfl (hb hby at_265)
            refine stp st279 ?_
            show Go p e below T279 (mkF m 268 #[.val (.int p0), .val (.int p1), .val (.int p2), .val (.int p3), .val (.int p4), .val (.int ((p0 &&& (2147483647 : Int32)) % (5 : Int32))), .val (.int cc), .val (.int kp), .val (.ref b148), .val (.int pp), .val (.int (1 : Int32)), .val (.ref impl)] [(.ref impl), (.ref impl)]) _
            refine stp (fun _ => Jvm.RoadKit.acmp (g := (mkF m 268 #[.val (.int p0), .val (.int p1), .val (.int p2), .val (.int p3), .val (.int p4), .val (.int ((p0 &&& (2147483647 : Int32)) % (5 : Int32))), .val (.int cc), .val (.int kp), .val (.ref b148), .val (.int pp), .val (.int (1 : Int32)), .val (.ref impl)] [(.ref impl), (.ref impl)])) X279 hx rfl rfl rfl (pc0 := 268) (pc' := 271) (same := true) rfl (hb hby at_268) rfl (decide_eq_true rfl) (by decide) (by decide)) ?_
            show Go p e below T279 (mkF m 271 #[.val (.int p0), .val (.int p1), .val (.int p2), .val (.int p3), .val (.int p4), .val (.int ((p0 &&& (2147483647 : Int32)) % (5 : Int32))), .val (.int cc), .val (.int kp), .val (.ref b148), .val (.int pp), .val (.int (1 : Int32)), .val (.ref impl)] []) _
            refine stp (fun _ => XS.iconst X279.here hx rfl (hb hby at_271)) ?_
            show Go p e below T279 (mkF m 272 #[.val (.int p0), .val (.int p1), .val (.int p2), .val (.int p3), .val (.int p4), .val (.int ((p0 &&& (2147483647 : Int32)) % (5 : Int32))), .val (.int cc), .val (.int kp), .val (.ref b148), .val (.int pp), .val (.int (1 : Int32)), .val (.ref impl)] [(.int (1 : Int32))]) _
            refine stp (fun _ => XS.goto X279.here hx rfl (pc0 := 272) (pc' := 289) rfl (hb hby at_272) (by decide) (by decide)) ?_
            show Go p e below T279 (mkF m 289 #[.val (.int p0), .val (.int p1), .val (.int p2), .val (.int p3), .val (.int p4), .val (.int ((p0 &&& (2147483647 : Int32)) % (5 : Int32))), .val (.int cc), .val (.int kp), .val (.ref b148), .val (.int pp), .val (.int (1 : Int32)), .val (.ref impl)] [(.int (1 : Int32))]) _
            refine outNW X279 hx hZ hEL e279 hS hk CR (t := .boolean) hret (by simp) (hb hby at_289) hlk (by decide) (by decide) ?_
            exact ⟨rfl, N277⟩
        · refine stp (fun _ => XS.icmpYes X0.here hx rfl (pc0 := 143) (pc' := 290) rfl (hb hby at_143) rfl (XT.ii_ne_t q143_147) (by decide) (by decide)) ?_
          show Go p e below T0 (mkF m 290 #[.val (.int p0), .val (.int p1), .val (.int p2), .val (.int p3), .val (.int p4), .val (.int ((p0 &&& (2147483647 : Int32)) % (5 : Int32))), .val (.int cc), .val (.int kp), .unset, .unset, .unset, .unset] []) _
          refine stp (fun _ => XS.iload X0.here hx rfl (hb hby at_290) rfl) ?_
          show Go p e below T0 (mkF m 292 #[.val (.int p0), .val (.int p1), .val (.int p2), .val (.int p3), .val (.int p4), .val (.int ((p0 &&& (2147483647 : Int32)) % (5 : Int32))), .val (.int cc), .val (.int kp), .unset, .unset, .unset, .unset] [(.int ((p0 &&& (2147483647 : Int32)) % (5 : Int32)))]) _
          refine stp (fun _ => XS.iconst X0.here hx rfl (hb hby at_292)) ?_
          show Go p e below T0 (mkF m 293 #[.val (.int p0), .val (.int p1), .val (.int p2), .val (.int p3), .val (.int p4), .val (.int ((p0 &&& (2147483647 : Int32)) % (5 : Int32))), .val (.int cc), .val (.int kp), .unset, .unset, .unset, .unset] [(.int (3 : Int32)), (.int ((p0 &&& (2147483647 : Int32)) % (5 : Int32)))]) _
          by_cases q293_280 : ((p0 &&& (2147483647 : Int32)) % (5 : Int32)) = (3 : Int32)
          · refine stp (fun _ => XS.icmpNo X0.here hx rfl (hb hby at_293) rfl (XT.ii_ne_f q293_280)) ?_
            show Go p e below T0 (mkF m 296 #[.val (.int p0), .val (.int p1), .val (.int p2), .val (.int p3), .val (.int p4), .val (.int ((p0 &&& (2147483647 : Int32)) % (5 : Int32))), .val (.int cc), .val (.int kp), .unset, .unset, .unset, .unset] []) _
            refine stp (fun _ => XS.bipush X0.here hx rfl (hb hby at_296)) ?_
            show Go p e below T0 (mkF m 298 #[.val (.int p0), .val (.int p1), .val (.int p2), .val (.int p3), .val (.int p4), .val (.int ((p0 &&& (2147483647 : Int32)) % (5 : Int32))), .val (.int cc), .val (.int kp), .unset, .unset, .unset, .unset] [(.int (18 : Int32))]) _
            obtain ⟨T281, h281, k281, X281, e281, E281, A281, B281, st281⟩ := newPE X0 hx hZ (hw _ (List.mem_of_getElem? (i := 42) rfl)) e0 (g := (mkF m 298 #[.val (.int p0), .val (.int p1), .val (.int p2), .val (.int p3), .val (.int p4), .val (.int ((p0 &&& (2147483647 : Int32)) % (5 : Int32))), .val (.int cc), .val (.int kp), .unset, .unset, .unset, .unset] [(.int (18 : Int32))])) rfl (hb hby at_298) rfl (by decide) (cap := 18) (by decide) (by decide) (by decide) (by decide) (ad := "[C") (by decide)
            obtain ⟨b281, g281⟩ : ∃ z, z = h0.size := ⟨_, rfl⟩
            rw [← g281] at A281 B281 st281
            have ne282 : auth ≠ b281 := O0.ne E_auth.lt (Nat.le_trans (old_le O0) (Nat.le_of_eq g281.symm))
            have ne283 : empty_ ≠ b281 := O0.ne E_em.lt (Nat.le_trans (old_le O0) (Nat.le_of_eq g281.symm))
            have ne284 : impl ≠ b281 := O0.ne E_impl.lt (Nat.le_trans (old_le O0) (Nat.le_of_eq g281.symm))
            have ne285 : va ≠ b281 := O0.ne E_va.lt (Nat.le_trans (old_le O0) (Nat.le_of_eq g281.symm))
            have ne286 : w1 ≠ b281 := O0.ne Q_w1.lt (Nat.le_trans (old_le O0) (Nat.le_of_eq g281.symm))
            have ne287 : w2 ≠ b281 := O0.ne Q_w2.lt (Nat.le_trans (old_le O0) (Nat.le_of_eq g281.symm))
            have sz_b281 : h0.size ≤ b281 := Nat.le_trans (Keep.refl h0 []).1 (Nat.le_of_eq g281.symm)
            have ge_b281 : n0 ≤ b281 := Nat.le_trans (old_le O0) (Nat.le_of_eq g281.symm)
            have hk := Nat.le_trans hk E281.1
            have CR := CR.trans (CHr.ext E281 CR.1)
            have K281 : Keep h0 h281 [] := (Keep.refl h0 []).ext E281
            have O281 := O0.ext E281
            have V281 : Arv Z h281 b281 k281 .char (18 : Int32) [(.int (0 : Int32)), (.int (0 : Int32)), (.int (0 : Int32)), (.int (0 : Int32)), (.int (0 : Int32)), (.int (0 : Int32)), (.int (0 : Int32)), (.int (0 : Int32)), (.int (0 : Int32)), (.int (0 : Int32)), (.int (0 : Int32)), (.int (0 : Int32)), (.int (0 : Int32)), (.int (0 : Int32)), (.int (0 : Int32)), (.int (0 : Int32)), (.int (0 : Int32)), (.int (0 : Int32))] (.int (0 : Int32)) := (Arv.new A281 (by decide)).pad (pad_rep [] (.int (0 : Int32)) 18)
            refine stp st281 ?_
            show Go p e below T281 (mkF m 300 #[.val (.int p0), .val (.int p1), .val (.int p2), .val (.int p3), .val (.int p4), .val (.int ((p0 &&& (2147483647 : Int32)) % (5 : Int32))), .val (.int cc), .val (.int kp), .unset, .unset, .unset, .unset] [(.ref b281)]) _
            refine stp (fun _ => XS.dup X281.here hx rfl (hb hby at_300) rfl rfl) ?_
            show Go p e below T281 (mkF m 301 #[.val (.int p0), .val (.int p1), .val (.int p2), .val (.int p3), .val (.int p4), .val (.int ((p0 &&& (2147483647 : Int32)) % (5 : Int32))), .val (.int cc), .val (.int kp), .unset, .unset, .unset, .unset] [(.ref b281), (.ref b281)]) _
            refine stp (fun _ => XS.iconst X281.here hx rfl (hb hby at_301)) ?_
            show Go p e below T281 (mkF m 302 #[.val (.int p0), .val (.int p1), .val (.int p2), .val (.int p3), .val (.int p4), .val (.int ((p0 &&& (2147483647 : Int32)) % (5 : Int32))), .val (.int cc), .val (.int kp), .unset, .unset, .unset, .unset] [(.int (0 : Int32)), (.ref b281), (.ref b281)]) _
            refine stp (fun _ => XS.bipush X281.here hx rfl (hb hby at_302)) ?_
            show Go p e below T281 (mkF m 304 #[.val (.int p0), .val (.int p1), .val (.int p2), .val (.int p3), .val (.int p4), .val (.int ((p0 &&& (2147483647 : Int32)) % (5 : Int32))), .val (.int cc), .val (.int kp), .unset, .unset, .unset, .unset] [(.int (97 : Int32)), (.int (0 : Int32)), (.ref b281), (.ref b281)]) _
            obtain ⟨cl288, Ar288, q288, S288, M288, H288, G288⟩ := (id V281)
            have in288 : ¬ ((0 : Int32) < 0 ∨ cl288.slots.size ≤ ((0 : Int32)).toNatClampNeg) := inb_of S288 ⟨by decide, by decide⟩
            obtain ⟨T288, h288, X288, e288, W288, st288⟩ := stC X281 hx hZ e281 Ar288 (j := (0 : Int32)) in288 (g := (mkF m 304 #[.val (.int p0), .val (.int p1), .val (.int p2), .val (.int p3), .val (.int p4), .val (.int ((p0 &&& (2147483647 : Int32)) % (5 : Int32))), .val (.int cc), .val (.int kp), .unset, .unset, .unset, .unset] [(.int (97 : Int32)), (.int (0 : Int32)), (.ref b281), (.ref b281)])) rfl rfl (hb hby at_304)
            have V288 : Arv Z h288 b281 k281 .char (18 : Int32) [(.int (97 : Int32)), (.int (0 : Int32)), (.int (0 : Int32)), (.int (0 : Int32)), (.int (0 : Int32)), (.int (0 : Int32)), (.int (0 : Int32)), (.int (0 : Int32)), (.int (0 : Int32)), (.int (0 : Int32)), (.int (0 : Int32)), (.int (0 : Int32)), (.int (0 : Int32)), (.int (0 : Int32)), (.int (0 : Int32)), (.int (0 : Int32)), (.int (0 : Int32)), (.int (0 : Int32))] (.int (0 : Int32)) := Arv.set Ar288 q288 S288 M288 H288 G288 (ow_fits_char (by decide)) (ow_wr_char (by decide) W288) 0 rfl (Nat.le_of_ble_eq_true rfl)
            have f289 := B281.wr W288
            have hk := Nat.le_trans hk (Keep.of_wr W288).1
            have CR := CR.trans (CHr.wr W288 (Safe.exa hZ.alike B281 (by decide) (by decide)) CR.1)
            have K288 : Keep h0 h288 [] := K281.wr W288 (Or.inr sz_b281)
            have O288 := O281.wr W288 ge_b281
            have N288 := Fr.snoc X288 N0 ge_b281
            refine stp st288 ?_
            show Go p e below T288 (mkF m 305 #[.val (.int p0), .val (.int p1), .val (.int p2), .val (.int p3), .val (.int p4), .val (.int ((p0 &&& (2147483647 : Int32)) % (5 : Int32))), .val (.int cc), .val (.int kp), .unset, .unset, .unset, .unset] [(.ref b281)]) _
            refine stp (fun _ => XS.dup X288.here hx rfl (hb hby at_305) rfl rfl) ?_
            show Go p e below T288 (mkF m 306 #[.val (.int p0), .val (.int p1), .val (.int p2), .val (.int p3), .val (.int p4), .val (.int ((p0 &&& (2147483647 : Int32)) % (5 : Int32))), .val (.int cc), .val (.int kp), .unset, .unset, .unset, .unset] [(.ref b281), (.ref b281)]) _
            refine stp (fun _ => XS.iconst X288.here hx rfl (hb hby at_306)) ?_
            show Go p e below T288 (mkF m 307 #[.val (.int p0), .val (.int p1), .val (.int p2), .val (.int p3), .val (.int p4), .val (.int ((p0 &&& (2147483647 : Int32)) % (5 : Int32))), .val (.int cc), .val (.int kp), .unset, .unset, .unset, .unset] [(.int (1 : Int32)), (.ref b281), (.ref b281)]) _
            refine stp (fun _ => XS.bipush X288.here hx rfl (hb hby at_307)) ?_
            show Go p e below T288 (mkF m 309 #[.val (.int p0), .val (.int p1), .val (.int p2), .val (.int p3), .val (.int p4), .val (.int ((p0 &&& (2147483647 : Int32)) % (5 : Int32))), .val (.int cc), .val (.int kp), .unset, .unset, .unset, .unset] [(.int (117 : Int32)), (.int (1 : Int32)), (.ref b281), (.ref b281)]) _
            obtain ⟨cl291, Ar291, q291, S291, M291, H291, G291⟩ := (id V288)
            have in291 : ¬ ((1 : Int32) < 0 ∨ cl291.slots.size ≤ ((1 : Int32)).toNatClampNeg) := inb_of S291 ⟨by decide, by decide⟩
            obtain ⟨T291, h291, X291, e291, W291, st291⟩ := stC X288 hx hZ e288 Ar291 (j := (1 : Int32)) in291 (g := (mkF m 309 #[.val (.int p0), .val (.int p1), .val (.int p2), .val (.int p3), .val (.int p4), .val (.int ((p0 &&& (2147483647 : Int32)) % (5 : Int32))), .val (.int cc), .val (.int kp), .unset, .unset, .unset, .unset] [(.int (117 : Int32)), (.int (1 : Int32)), (.ref b281), (.ref b281)])) rfl rfl (hb hby at_309)
            have V291 : Arv Z h291 b281 k281 .char (18 : Int32) [(.int (97 : Int32)), (.int (117 : Int32)), (.int (0 : Int32)), (.int (0 : Int32)), (.int (0 : Int32)), (.int (0 : Int32)), (.int (0 : Int32)), (.int (0 : Int32)), (.int (0 : Int32)), (.int (0 : Int32)), (.int (0 : Int32)), (.int (0 : Int32)), (.int (0 : Int32)), (.int (0 : Int32)), (.int (0 : Int32)), (.int (0 : Int32)), (.int (0 : Int32)), (.int (0 : Int32))] (.int (0 : Int32)) := Arv.set Ar291 q291 S291 M291 H291 G291 (ow_fits_char (by decide)) (ow_wr_char (by decide) W291) 1 rfl (Nat.le_of_ble_eq_true rfl)
            have f292 := f289.wr W291
            have hk := Nat.le_trans hk (Keep.of_wr W291).1
            have CR := CR.trans (CHr.wr W291 (Safe.exa hZ.alike f289 (by decide) (by decide)) CR.1)
            have K291 : Keep h0 h291 [] := K288.wr W291 (Or.inr sz_b281)
            have O291 := O288.wr W291 ge_b281
            have N291 := Fr.snoc X291 N288 ge_b281
            refine stp st291 ?_
            show Go p e below T291 (mkF m 310 #[.val (.int p0), .val (.int p1), .val (.int p2), .val (.int p3), .val (.int p4), .val (.int ((p0 &&& (2147483647 : Int32)) % (5 : Int32))), .val (.int cc), .val (.int kp), .unset, .unset, .unset, .unset] [(.ref b281)]) _
            refine stp (fun _ => XS.dup X291.here hx rfl (hb hby at_310) rfl rfl) ?_
            show Go p e below T291 (mkF m 311 #[.val (.int p0), .val (.int p1), .val (.int p2), .val (.int p3), .val (.int p4), .val (.int ((p0 &&& (2147483647 : Int32)) % (5 : Int32))), .val (.int cc), .val (.int kp), .unset, .unset, .unset, .unset] [(.ref b281), (.ref b281)]) _
            refine stp (fun _ => XS.iconst X291.here hx rfl (hb hby at_311)) ?_
            show Go p e below T291 (mkF m 312 #[.val (.int p0), .val (.int p1), .val (.int p2), .val (.int p3), .val (.int p4), .val (.int ((p0 &&& (2147483647 : Int32)) % (5 : Int32))), .val (.int cc), .val (.int kp), .unset, .unset, .unset, .unset] [(.int (2 : Int32)), (.ref b281), (.ref b281)]) _
            refine stp (fun _ => XS.bipush X291.here hx rfl (hb hby at_312)) ?_
            show Go p e below T291 (mkF m 314 #[.val (.int p0), .val (.int p1), .val (.int p2), .val (.int p3), .val (.int p4), .val (.int ((p0 &&& (2147483647 : Int32)) % (5 : Int32))), .val (.int cc), .val (.int kp), .unset, .unset, .unset, .unset] [(.int (116 : Int32)), (.int (2 : Int32)), (.ref b281), (.ref b281)]) _
            obtain ⟨cl294, Ar294, q294, S294, M294, H294, G294⟩ := (id V291)
            have in294 : ¬ ((2 : Int32) < 0 ∨ cl294.slots.size ≤ ((2 : Int32)).toNatClampNeg) := inb_of S294 ⟨by decide, by decide⟩
            obtain ⟨T294, h294, X294, e294, W294, st294⟩ := stC X291 hx hZ e291 Ar294 (j := (2 : Int32)) in294 (g := (mkF m 314 #[.val (.int p0), .val (.int p1), .val (.int p2), .val (.int p3), .val (.int p4), .val (.int ((p0 &&& (2147483647 : Int32)) % (5 : Int32))), .val (.int cc), .val (.int kp), .unset, .unset, .unset, .unset] [(.int (116 : Int32)), (.int (2 : Int32)), (.ref b281), (.ref b281)])) rfl rfl (hb hby at_314)
            have V294 : Arv Z h294 b281 k281 .char (18 : Int32) [(.int (97 : Int32)), (.int (117 : Int32)), (.int (116 : Int32)), (.int (0 : Int32)), (.int (0 : Int32)), (.int (0 : Int32)), (.int (0 : Int32)), (.int (0 : Int32)), (.int (0 : Int32)), (.int (0 : Int32)), (.int (0 : Int32)), (.int (0 : Int32)), (.int (0 : Int32)), (.int (0 : Int32)), (.int (0 : Int32)), (.int (0 : Int32)), (.int (0 : Int32)), (.int (0 : Int32))] (.int (0 : Int32)) := Arv.set Ar294 q294 S294 M294 H294 G294 (ow_fits_char (by decide)) (ow_wr_char (by decide) W294) 2 rfl (Nat.le_of_ble_eq_true rfl)
            have f295 := f292.wr W294
            have hk := Nat.le_trans hk (Keep.of_wr W294).1
            have CR := CR.trans (CHr.wr W294 (Safe.exa hZ.alike f292 (by decide) (by decide)) CR.1)
            have K294 : Keep h0 h294 [] := K291.wr W294 (Or.inr sz_b281)
            have O294 := O291.wr W294 ge_b281
            have N294 := Fr.snoc X294 N291 ge_b281
            refine stp st294 ?_
            show Go p e below T294 (mkF m 315 #[.val (.int p0), .val (.int p1), .val (.int p2), .val (.int p3), .val (.int p4), .val (.int ((p0 &&& (2147483647 : Int32)) % (5 : Int32))), .val (.int cc), .val (.int kp), .unset, .unset, .unset, .unset] [(.ref b281)]) _
            refine stp (fun _ => XS.dup X294.here hx rfl (hb hby at_315) rfl rfl) ?_
            show Go p e below T294 (mkF m 316 #[.val (.int p0), .val (.int p1), .val (.int p2), .val (.int p3), .val (.int p4), .val (.int ((p0 &&& (2147483647 : Int32)) % (5 : Int32))), .val (.int cc), .val (.int kp), .unset, .unset, .unset, .unset] [(.ref b281), (.ref b281)]) _
            refine stp (fun _ => XS.iconst X294.here hx rfl (hb hby at_316)) ?_
            show Go p e below T294 (mkF m 317 #[.val (.int p0), .val (.int p1), .val (.int p2), .val (.int p3), .val (.int p4), .val (.int ((p0 &&& (2147483647 : Int32)) % (5 : Int32))), .val (.int cc), .val (.int kp), .unset, .unset, .unset, .unset] [(.int (3 : Int32)), (.ref b281), (.ref b281)]) _
            refine stp (fun _ => XS.bipush X294.here hx rfl (hb hby at_317)) ?_
            show Go p e below T294 (mkF m 319 #[.val (.int p0), .val (.int p1), .val (.int p2), .val (.int p3), .val (.int p4), .val (.int ((p0 &&& (2147483647 : Int32)) % (5 : Int32))), .val (.int cc), .val (.int kp), .unset, .unset, .unset, .unset] [(.int (104 : Int32)), (.int (3 : Int32)), (.ref b281), (.ref b281)]) _
            obtain ⟨cl297, Ar297, q297, S297, M297, H297, G297⟩ := (id V294)
            have in297 : ¬ ((3 : Int32) < 0 ∨ cl297.slots.size ≤ ((3 : Int32)).toNatClampNeg) := inb_of S297 ⟨by decide, by decide⟩
            obtain ⟨T297, h297, X297, e297, W297, st297⟩ := stC X294 hx hZ e294 Ar297 (j := (3 : Int32)) in297 (g := (mkF m 319 #[.val (.int p0), .val (.int p1), .val (.int p2), .val (.int p3), .val (.int p4), .val (.int ((p0 &&& (2147483647 : Int32)) % (5 : Int32))), .val (.int cc), .val (.int kp), .unset, .unset, .unset, .unset] [(.int (104 : Int32)), (.int (3 : Int32)), (.ref b281), (.ref b281)])) rfl rfl (hb hby at_319)
            have V297 : Arv Z h297 b281 k281 .char (18 : Int32) [(.int (97 : Int32)), (.int (117 : Int32)), (.int (116 : Int32)), (.int (104 : Int32)), (.int (0 : Int32)), (.int (0 : Int32)), (.int (0 : Int32)), (.int (0 : Int32)), (.int (0 : Int32)), (.int (0 : Int32)), (.int (0 : Int32)), (.int (0 : Int32)), (.int (0 : Int32)), (.int (0 : Int32)), (.int (0 : Int32)), (.int (0 : Int32)), (.int (0 : Int32)), (.int (0 : Int32))] (.int (0 : Int32)) := Arv.set Ar297 q297 S297 M297 H297 G297 (ow_fits_char (by decide)) (ow_wr_char (by decide) W297) 3 rfl (Nat.le_of_ble_eq_true rfl)
            have f298 := f295.wr W297
            have hk := Nat.le_trans hk (Keep.of_wr W297).1
            have CR := CR.trans (CHr.wr W297 (Safe.exa hZ.alike f295 (by decide) (by decide)) CR.1)
            have K297 : Keep h0 h297 [] := K294.wr W297 (Or.inr sz_b281)
            have O297 := O294.wr W297 ge_b281
            have N297 := Fr.snoc X297 N294 ge_b281
            refine stp st297 ?_
            show Go p e below T297 (mkF m 320 #[.val (.int p0), .val (.int p1), .val (.int p2), .val (.int p3), .val (.int p4), .val (.int ((p0 &&& (2147483647 : Int32)) % (5 : Int32))), .val (.int cc), .val (.int kp), .unset, .unset, .unset, .unset] [(.ref b281)]) _
            refine stp (fun _ => XS.dup X297.here hx rfl (hb hby at_320) rfl rfl) ?_
            show Go p e below T297 (mkF m 321 #[.val (.int p0), .val (.int p1), .val (.int p2), .val (.int p3), .val (.int p4), .val (.int ((p0 &&& (2147483647 : Int32)) % (5 : Int32))), .val (.int cc), .val (.int kp), .unset, .unset, .unset, .unset] [(.ref b281), (.ref b281)]) _
            refine stp (fun _ => XS.iconst X297.here hx rfl (hb hby at_321)) ?_
            show Go p e below T297 (mkF m 322 #[.val (.int p0), .val (.int p1), .val (.int p2), .val (.int p3), .val (.int p4), .val (.int ((p0 &&& (2147483647 : Int32)) % (5 : Int32))), .val (.int cc), .val (.int kp), .unset, .unset, .unset, .unset] [(.int (4 : Int32)), (.ref b281), (.ref b281)]) _
            refine stp (fun _ => XS.bipush X297.here hx rfl (hb hby at_322)) ?_
            show Go p e below T297 (mkF m 324 #[.val (.int p0), .val (.int p1), .val (.int p2), .val (.int p3), .val (.int p4), .val (.int ((p0 &&& (2147483647 : Int32)) % (5 : Int32))), .val (.int cc), .val (.int kp), .unset, .unset, .unset, .unset] [(.int (111 : Int32)), (.int (4 : Int32)), (.ref b281), (.ref b281)]) _
            obtain ⟨cl300, Ar300, q300, S300, M300, H300, G300⟩ := (id V297)
            have in300 : ¬ ((4 : Int32) < 0 ∨ cl300.slots.size ≤ ((4 : Int32)).toNatClampNeg) := inb_of S300 ⟨by decide, by decide⟩
            obtain ⟨T300, h300, X300, e300, W300, st300⟩ := stC X297 hx hZ e297 Ar300 (j := (4 : Int32)) in300 (g := (mkF m 324 #[.val (.int p0), .val (.int p1), .val (.int p2), .val (.int p3), .val (.int p4), .val (.int ((p0 &&& (2147483647 : Int32)) % (5 : Int32))), .val (.int cc), .val (.int kp), .unset, .unset, .unset, .unset] [(.int (111 : Int32)), (.int (4 : Int32)), (.ref b281), (.ref b281)])) rfl rfl (hb hby at_324)
            have V300 : Arv Z h300 b281 k281 .char (18 : Int32) [(.int (97 : Int32)), (.int (117 : Int32)), (.int (116 : Int32)), (.int (104 : Int32)), (.int (111 : Int32)), (.int (0 : Int32)), (.int (0 : Int32)), (.int (0 : Int32)), (.int (0 : Int32)), (.int (0 : Int32)), (.int (0 : Int32)), (.int (0 : Int32)), (.int (0 : Int32)), (.int (0 : Int32)), (.int (0 : Int32)), (.int (0 : Int32)), (.int (0 : Int32)), (.int (0 : Int32))] (.int (0 : Int32)) := Arv.set Ar300 q300 S300 M300 H300 G300 (ow_fits_char (by decide)) (ow_wr_char (by decide) W300) 4 rfl (Nat.le_of_ble_eq_true rfl)
            have f301 := f298.wr W300
            have hk := Nat.le_trans hk (Keep.of_wr W300).1
            have CR := CR.trans (CHr.wr W300 (Safe.exa hZ.alike f298 (by decide) (by decide)) CR.1)
            have K300 : Keep h0 h300 [] := K297.wr W300 (Or.inr sz_b281)
            have O300 := O297.wr W300 ge_b281
            have N300 := Fr.snoc X300 N297 ge_b281
            refine stp st300 ?_
            show Go p e below T300 (mkF m 325 #[.val (.int p0), .val (.int p1), .val (.int p2), .val (.int p3), .val (.int p4), .val (.int ((p0 &&& (2147483647 : Int32)) % (5 : Int32))), .val (.int cc), .val (.int kp), .unset, .unset, .unset, .unset] [(.ref b281)]) _
            refine stp (fun _ => XS.dup X300.here hx rfl (hb hby at_325) rfl rfl) ?_
            show Go p e below T300 (mkF m 326 #[.val (.int p0), .val (.int p1), .val (.int p2), .val (.int p3), .val (.int p4), .val (.int ((p0 &&& (2147483647 : Int32)) % (5 : Int32))), .val (.int cc), .val (.int kp), .unset, .unset, .unset, .unset] [(.ref b281), (.ref b281)]) _
            refine stp (fun _ => XS.iconst X300.here hx rfl (hb hby at_326)) ?_
            show Go p e below T300 (mkF m 327 #[.val (.int p0), .val (.int p1), .val (.int p2), .val (.int p3), .val (.int p4), .val (.int ((p0 &&& (2147483647 : Int32)) % (5 : Int32))), .val (.int cc), .val (.int kp), .unset, .unset, .unset, .unset] [(.int (5 : Int32)), (.ref b281), (.ref b281)]) _
            refine stp (fun _ => XS.bipush X300.here hx rfl (hb hby at_327)) ?_
            show Go p e below T300 (mkF m 329 #[.val (.int p0), .val (.int p1), .val (.int p2), .val (.int p3), .val (.int p4), .val (.int ((p0 &&& (2147483647 : Int32)) % (5 : Int32))), .val (.int cc), .val (.int kp), .unset, .unset, .unset, .unset] [(.int (114 : Int32)), (.int (5 : Int32)), (.ref b281), (.ref b281)]) _
            obtain ⟨cl303, Ar303, q303, S303, M303, H303, G303⟩ := (id V300)
            have in303 : ¬ ((5 : Int32) < 0 ∨ cl303.slots.size ≤ ((5 : Int32)).toNatClampNeg) := inb_of S303 ⟨by decide, by decide⟩
            obtain ⟨T303, h303, X303, e303, W303, st303⟩ := stC X300 hx hZ e300 Ar303 (j := (5 : Int32)) in303 (g := (mkF m 329 #[.val (.int p0), .val (.int p1), .val (.int p2), .val (.int p3), .val (.int p4), .val (.int ((p0 &&& (2147483647 : Int32)) % (5 : Int32))), .val (.int cc), .val (.int kp), .unset, .unset, .unset, .unset] [(.int (114 : Int32)), (.int (5 : Int32)), (.ref b281), (.ref b281)])) rfl rfl (hb hby at_329)
            have V303 : Arv Z h303 b281 k281 .char (18 : Int32) [(.int (97 : Int32)), (.int (117 : Int32)), (.int (116 : Int32)), (.int (104 : Int32)), (.int (111 : Int32)), (.int (114 : Int32)), (.int (0 : Int32)), (.int (0 : Int32)), (.int (0 : Int32)), (.int (0 : Int32)), (.int (0 : Int32)), (.int (0 : Int32)), (.int (0 : Int32)), (.int (0 : Int32)), (.int (0 : Int32)), (.int (0 : Int32)), (.int (0 : Int32)), (.int (0 : Int32))] (.int (0 : Int32)) := Arv.set Ar303 q303 S303 M303 H303 G303 (ow_fits_char (by decide)) (ow_wr_char (by decide) W303) 5 rfl (Nat.le_of_ble_eq_true rfl)
            have f304 := f301.wr W303
            have hk := Nat.le_trans hk (Keep.of_wr W303).1
            have CR := CR.trans (CHr.wr W303 (Safe.exa hZ.alike f301 (by decide) (by decide)) CR.1)
            have K303 : Keep h0 h303 [] := K300.wr W303 (Or.inr sz_b281)
            have O303 := O300.wr W303 ge_b281
            have N303 := Fr.snoc X303 N300 ge_b281
            refine stp st303 ?_
            show Go p e below T303 (mkF m 330 #[.val (.int p0), .val (.int p1), .val (.int p2), .val (.int p3), .val (.int p4), .val (.int ((p0 &&& (2147483647 : Int32)) % (5 : Int32))), .val (.int cc), .val (.int kp), .unset, .unset, .unset, .unset] [(.ref b281)]) _
            refine stp (fun _ => XS.dup X303.here hx rfl (hb hby at_330) rfl rfl) ?_
            show Go p e below T303 (mkF m 331 #[.val (.int p0), .val (.int p1), .val (.int p2), .val (.int p3), .val (.int p4), .val (.int ((p0 &&& (2147483647 : Int32)) % (5 : Int32))), .val (.int cc), .val (.int kp), .unset, .unset, .unset, .unset] [(.ref b281), (.ref b281)]) _
            refine stp (fun _ => XS.bipush X303.here hx rfl (hb hby at_331)) ?_
            show Go p e below T303 (mkF m 333 #[.val (.int p0), .val (.int p1), .val (.int p2), .val (.int p3), .val (.int p4), .val (.int ((p0 &&& (2147483647 : Int32)) % (5 : Int32))), .val (.int cc), .val (.int kp), .unset, .unset, .unset, .unset] [(.int (6 : Int32)), (.ref b281), (.ref b281)]) _
            refine stp (fun _ => XS.bipush X303.here hx rfl (hb hby at_333)) ?_
            show Go p e below T303 (mkF m 335 #[.val (.int p0), .val (.int p1), .val (.int p2), .val (.int p3), .val (.int p4), .val (.int ((p0 &&& (2147483647 : Int32)) % (5 : Int32))), .val (.int cc), .val (.int kp), .unset, .unset, .unset, .unset] [(.int (105 : Int32)), (.int (6 : Int32)), (.ref b281), (.ref b281)]) _
            obtain ⟨cl306, Ar306, q306, S306, M306, H306, G306⟩ := (id V303)
            have in306 : ¬ ((6 : Int32) < 0 ∨ cl306.slots.size ≤ ((6 : Int32)).toNatClampNeg) := inb_of S306 ⟨by decide, by decide⟩
            obtain ⟨T306, h306, X306, e306, W306, st306⟩ := stC X303 hx hZ e303 Ar306 (j := (6 : Int32)) in306 (g := (mkF m 335 #[.val (.int p0), .val (.int p1), .val (.int p2), .val (.int p3), .val (.int p4), .val (.int ((p0 &&& (2147483647 : Int32)) % (5 : Int32))), .val (.int cc), .val (.int kp), .unset, .unset, .unset, .unset] [(.int (105 : Int32)), (.int (6 : Int32)), (.ref b281), (.ref b281)])) rfl rfl (hb hby at_335)
            have V306 : Arv Z h306 b281 k281 .char (18 : Int32) [(.int (97 : Int32)), (.int (117 : Int32)), (.int (116 : Int32)), (.int (104 : Int32)), (.int (111 : Int32)), (.int (114 : Int32)), (.int (105 : Int32)), (.int (0 : Int32)), (.int (0 : Int32)), (.int (0 : Int32)), (.int (0 : Int32)), (.int (0 : Int32)), (.int (0 : Int32)), (.int (0 : Int32)), (.int (0 : Int32)), (.int (0 : Int32)), (.int (0 : Int32)), (.int (0 : Int32))] (.int (0 : Int32)) := Arv.set Ar306 q306 S306 M306 H306 G306 (ow_fits_char (by decide)) (ow_wr_char (by decide) W306) 6 rfl (Nat.le_of_ble_eq_true rfl)
            have f307 := f304.wr W306
            have hk := Nat.le_trans hk (Keep.of_wr W306).1
            have CR := CR.trans (CHr.wr W306 (Safe.exa hZ.alike f304 (by decide) (by decide)) CR.1)
            have K306 : Keep h0 h306 [] := K303.wr W306 (Or.inr sz_b281)
            have O306 := O303.wr W306 ge_b281
            have N306 := Fr.snoc X306 N303 ge_b281
            refine stp st306 ?_
            show Go p e below T306 (mkF m 336 #[.val (.int p0), .val (.int p1), .val (.int p2), .val (.int p3), .val (.int p4), .val (.int ((p0 &&& (2147483647 : Int32)) % (5 : Int32))), .val (.int cc), .val (.int kp), .unset, .unset, .unset, .unset] [(.ref b281)]) _
            refine stp (fun _ => XS.dup X306.here hx rfl (hb hby at_336) rfl rfl) ?_
            show Go p e below T306 (mkF m 337 #[.val (.int p0), .val (.int p1), .val (.int p2), .val (.int p3), .val (.int p4), .val (.int ((p0 &&& (2147483647 : Int32)) % (5 : Int32))), .val (.int cc), .val (.int kp), .unset, .unset, .unset, .unset] [(.ref b281), (.ref b281)]) _
            refine stp (fun _ => XS.bipush X306.here hx rfl (hb hby at_337)) ?_
            show Go p e below T306 (mkF m 339 #[.val (.int p0), .val (.int p1), .val (.int p2), .val (.int p3), .val (.int p4), .val (.int ((p0 &&& (2147483647 : Int32)) % (5 : Int32))), .val (.int cc), .val (.int kp), .unset, .unset, .unset, .unset] [(.int (7 : Int32)), (.ref b281), (.ref b281)]) _
            refine stp (fun _ => XS.bipush X306.here hx rfl (hb hby at_339)) ?_
            show Go p e below T306 (mkF m 341 #[.val (.int p0), .val (.int p1), .val (.int p2), .val (.int p3), .val (.int p4), .val (.int ((p0 &&& (2147483647 : Int32)) % (5 : Int32))), .val (.int cc), .val (.int kp), .unset, .unset, .unset, .unset] [(.int (122 : Int32)), (.int (7 : Int32)), (.ref b281), (.ref b281)]) _
            obtain ⟨cl309, Ar309, q309, S309, M309, H309, G309⟩ := (id V306)
            have in309 : ¬ ((7 : Int32) < 0 ∨ cl309.slots.size ≤ ((7 : Int32)).toNatClampNeg) := inb_of S309 ⟨by decide, by decide⟩
            obtain ⟨T309, h309, X309, e309, W309, st309⟩ := stC X306 hx hZ e306 Ar309 (j := (7 : Int32)) in309 (g := (mkF m 341 #[.val (.int p0), .val (.int p1), .val (.int p2), .val (.int p3), .val (.int p4), .val (.int ((p0 &&& (2147483647 : Int32)) % (5 : Int32))), .val (.int cc), .val (.int kp), .unset, .unset, .unset, .unset] [(.int (122 : Int32)), (.int (7 : Int32)), (.ref b281), (.ref b281)])) rfl rfl (hb hby at_341)
            have V309 : Arv Z h309 b281 k281 .char (18 : Int32) [(.int (97 : Int32)), (.int (117 : Int32)), (.int (116 : Int32)), (.int (104 : Int32)), (.int (111 : Int32)), (.int (114 : Int32)), (.int (105 : Int32)), (.int (122 : Int32)), (.int (0 : Int32)), (.int (0 : Int32)), (.int (0 : Int32)), (.int (0 : Int32)), (.int (0 : Int32)), (.int (0 : Int32)), (.int (0 : Int32)), (.int (0 : Int32)), (.int (0 : Int32)), (.int (0 : Int32))] (.int (0 : Int32)) := Arv.set Ar309 q309 S309 M309 H309 G309 (ow_fits_char (by decide)) (ow_wr_char (by decide) W309) 7 rfl (Nat.le_of_ble_eq_true rfl)
            have f310 := f307.wr W309
            have hk := Nat.le_trans hk (Keep.of_wr W309).1
            have CR := CR.trans (CHr.wr W309 (Safe.exa hZ.alike f307 (by decide) (by decide)) CR.1)
            have K309 : Keep h0 h309 [] := K306.wr W309 (Or.inr sz_b281)
            have O309 := O306.wr W309 ge_b281
            have N309 := Fr.snoc X309 N306 ge_b281
            refine stp st309 ?_
            show Go p e below T309 (mkF m 342 #[.val (.int p0), .val (.int p1), .val (.int p2), .val (.int p3), .val (.int p4), .val (.int ((p0 &&& (2147483647 : Int32)) % (5 : Int32))), .val (.int cc), .val (.int kp), .unset, .unset, .unset, .unset] [(.ref b281)]) _
            refine stp (fun _ => XS.dup X309.here hx rfl (hb hby at_342) rfl rfl) ?_
            show Go p e below T309 (mkF m 343 #[.val (.int p0), .val (.int p1), .val (.int p2), .val (.int p3), .val (.int p4), .val (.int ((p0 &&& (2147483647 : Int32)) % (5 : Int32))), .val (.int cc), .val (.int kp), .unset, .unset, .unset, .unset] [(.ref b281), (.ref b281)]) _
            refine stp (fun _ => XS.bipush X309.here hx rfl (hb hby at_343)) ?_
            show Go p e below T309 (mkF m 345 #[.val (.int p0), .val (.int p1), .val (.int p2), .val (.int p3), .val (.int p4), .val (.int ((p0 &&& (2147483647 : Int32)) % (5 : Int32))), .val (.int cc), .val (.int kp), .unset, .unset, .unset, .unset] [(.int (8 : Int32)), (.ref b281), (.ref b281)]) _
            refine stp (fun _ => XS.bipush X309.here hx rfl (hb hby at_345)) ?_
            show Go p e below T309 (mkF m 347 #[.val (.int p0), .val (.int p1), .val (.int p2), .val (.int p3), .val (.int p4), .val (.int ((p0 &&& (2147483647 : Int32)) % (5 : Int32))), .val (.int cc), .val (.int kp), .unset, .unset, .unset, .unset] [(.int (97 : Int32)), (.int (8 : Int32)), (.ref b281), (.ref b281)]) _
            obtain ⟨cl312, Ar312, q312, S312, M312, H312, G312⟩ := (id V309)
            have in312 : ¬ ((8 : Int32) < 0 ∨ cl312.slots.size ≤ ((8 : Int32)).toNatClampNeg) := inb_of S312 ⟨by decide, by decide⟩
            obtain ⟨T312, h312, X312, e312, W312, st312⟩ := stC X309 hx hZ e309 Ar312 (j := (8 : Int32)) in312 (g := (mkF m 347 #[.val (.int p0), .val (.int p1), .val (.int p2), .val (.int p3), .val (.int p4), .val (.int ((p0 &&& (2147483647 : Int32)) % (5 : Int32))), .val (.int cc), .val (.int kp), .unset, .unset, .unset, .unset] [(.int (97 : Int32)), (.int (8 : Int32)), (.ref b281), (.ref b281)])) rfl rfl (hb hby at_347)
            have V312 : Arv Z h312 b281 k281 .char (18 : Int32) [(.int (97 : Int32)), (.int (117 : Int32)), (.int (116 : Int32)), (.int (104 : Int32)), (.int (111 : Int32)), (.int (114 : Int32)), (.int (105 : Int32)), (.int (122 : Int32)), (.int (97 : Int32)), (.int (0 : Int32)), (.int (0 : Int32)), (.int (0 : Int32)), (.int (0 : Int32)), (.int (0 : Int32)), (.int (0 : Int32)), (.int (0 : Int32)), (.int (0 : Int32)), (.int (0 : Int32))] (.int (0 : Int32)) := Arv.set Ar312 q312 S312 M312 H312 G312 (ow_fits_char (by decide)) (ow_wr_char (by decide) W312) 8 rfl (Nat.le_of_ble_eq_true rfl)
            have f313 := f310.wr W312
            have hk := Nat.le_trans hk (Keep.of_wr W312).1
            have CR := CR.trans (CHr.wr W312 (Safe.exa hZ.alike f310 (by decide) (by decide)) CR.1)
            have K312 : Keep h0 h312 [] := K309.wr W312 (Or.inr sz_b281)
            have O312 := O309.wr W312 ge_b281
            have N312 := Fr.snoc X312 N309 ge_b281
            refine stp st312 ?_
            show Go p e below T312 (mkF m 348 #[.val (.int p0), .val (.int p1), .val (.int p2), .val (.int p3), .val (.int p4), .val (.int ((p0 &&& (2147483647 : Int32)) % (5 : Int32))), .val (.int cc), .val (.int kp), .unset, .unset, .unset, .unset] [(.ref b281)]) _
            refine stp (fun _ => XS.dup X312.here hx rfl (hb hby at_348) rfl rfl) ?_
            show Go p e below T312 (mkF m 349 #[.val (.int p0), .val (.int p1), .val (.int p2), .val (.int p3), .val (.int p4), .val (.int ((p0 &&& (2147483647 : Int32)) % (5 : Int32))), .val (.int cc), .val (.int kp), .unset, .unset, .unset, .unset] [(.ref b281), (.ref b281)]) _
            refine stp (fun _ => XS.bipush X312.here hx rfl (hb hby at_349)) ?_
            show Go p e below T312 (mkF m 351 #[.val (.int p0), .val (.int p1), .val (.int p2), .val (.int p3), .val (.int p4), .val (.int ((p0 &&& (2147483647 : Int32)) % (5 : Int32))), .val (.int cc), .val (.int kp), .unset, .unset, .unset, .unset] [(.int (9 : Int32)), (.ref b281), (.ref b281)]) _
            refine stp (fun _ => XS.bipush X312.here hx rfl (hb hby at_351)) ?_
            show Go p e below T312 (mkF m 353 #[.val (.int p0), .val (.int p1), .val (.int p2), .val (.int p3), .val (.int p4), .val (.int ((p0 &&& (2147483647 : Int32)) % (5 : Int32))), .val (.int cc), .val (.int kp), .unset, .unset, .unset, .unset] [(.int (116 : Int32)), (.int (9 : Int32)), (.ref b281), (.ref b281)]) _
            obtain ⟨cl315, Ar315, q315, S315, M315, H315, G315⟩ := (id V312)
            have in315 : ¬ ((9 : Int32) < 0 ∨ cl315.slots.size ≤ ((9 : Int32)).toNatClampNeg) := inb_of S315 ⟨by decide, by decide⟩
            obtain ⟨T315, h315, X315, e315, W315, st315⟩ := stC X312 hx hZ e312 Ar315 (j := (9 : Int32)) in315 (g := (mkF m 353 #[.val (.int p0), .val (.int p1), .val (.int p2), .val (.int p3), .val (.int p4), .val (.int ((p0 &&& (2147483647 : Int32)) % (5 : Int32))), .val (.int cc), .val (.int kp), .unset, .unset, .unset, .unset] [(.int (116 : Int32)), (.int (9 : Int32)), (.ref b281), (.ref b281)])) rfl rfl (hb hby at_353)
            have V315 : Arv Z h315 b281 k281 .char (18 : Int32) [(.int (97 : Int32)), (.int (117 : Int32)), (.int (116 : Int32)), (.int (104 : Int32)), (.int (111 : Int32)), (.int (114 : Int32)), (.int (105 : Int32)), (.int (122 : Int32)), (.int (97 : Int32)), (.int (116 : Int32)), (.int (0 : Int32)), (.int (0 : Int32)), (.int (0 : Int32)), (.int (0 : Int32)), (.int (0 : Int32)), (.int (0 : Int32)), (.int (0 : Int32)), (.int (0 : Int32))] (.int (0 : Int32)) := Arv.set Ar315 q315 S315 M315 H315 G315 (ow_fits_char (by decide)) (ow_wr_char (by decide) W315) 9 rfl (Nat.le_of_ble_eq_true rfl)
            have f316 := f313.wr W315
            have hk := Nat.le_trans hk (Keep.of_wr W315).1
            have CR := CR.trans (CHr.wr W315 (Safe.exa hZ.alike f313 (by decide) (by decide)) CR.1)
            have K315 : Keep h0 h315 [] := K312.wr W315 (Or.inr sz_b281)
            have O315 := O312.wr W315 ge_b281
            have N315 := Fr.snoc X315 N312 ge_b281
            refine stp st315 ?_
            show Go p e below T315 (mkF m 354 #[.val (.int p0), .val (.int p1), .val (.int p2), .val (.int p3), .val (.int p4), .val (.int ((p0 &&& (2147483647 : Int32)) % (5 : Int32))), .val (.int cc), .val (.int kp), .unset, .unset, .unset, .unset] [(.ref b281)]) _
            refine stp (fun _ => XS.dup X315.here hx rfl (hb hby at_354) rfl rfl) ?_
            show Go p e below T315 (mkF m 355 #[.val (.int p0), .val (.int p1), .val (.int p2), .val (.int p3), .val (.int p4), .val (.int ((p0 &&& (2147483647 : Int32)) % (5 : Int32))), .val (.int cc), .val (.int kp), .unset, .unset, .unset, .unset] [(.ref b281), (.ref b281)]) _
            refine stp (fun _ => XS.bipush X315.here hx rfl (hb hby at_355)) ?_
            show Go p e below T315 (mkF m 357 #[.val (.int p0), .val (.int p1), .val (.int p2), .val (.int p3), .val (.int p4), .val (.int ((p0 &&& (2147483647 : Int32)) % (5 : Int32))), .val (.int cc), .val (.int kp), .unset, .unset, .unset, .unset] [(.int (10 : Int32)), (.ref b281), (.ref b281)]) _
            refine stp (fun _ => XS.bipush X315.here hx rfl (hb hby at_357)) ?_
            show Go p e below T315 (mkF m 359 #[.val (.int p0), .val (.int p1), .val (.int p2), .val (.int p3), .val (.int p4), .val (.int ((p0 &&& (2147483647 : Int32)) % (5 : Int32))), .val (.int cc), .val (.int kp), .unset, .unset, .unset, .unset] [(.int (105 : Int32)), (.int (10 : Int32)), (.ref b281), (.ref b281)]) _
            obtain ⟨cl318, Ar318, q318, S318, M318, H318, G318⟩ := (id V315)
            have in318 : ¬ ((10 : Int32) < 0 ∨ cl318.slots.size ≤ ((10 : Int32)).toNatClampNeg) := inb_of S318 ⟨by decide, by decide⟩
            obtain ⟨T318, h318, X318, e318, W318, st318⟩ := stC X315 hx hZ e315 Ar318 (j := (10 : Int32)) in318 (g := (mkF m 359 #[.val (.int p0), .val (.int p1), .val (.int p2), .val (.int p3), .val (.int p4), .val (.int ((p0 &&& (2147483647 : Int32)) % (5 : Int32))), .val (.int cc), .val (.int kp), .unset, .unset, .unset, .unset] [(.int (105 : Int32)), (.int (10 : Int32)), (.ref b281), (.ref b281)])) rfl rfl (hb hby at_359)
            have V318 : Arv Z h318 b281 k281 .char (18 : Int32) [(.int (97 : Int32)), (.int (117 : Int32)), (.int (116 : Int32)), (.int (104 : Int32)), (.int (111 : Int32)), (.int (114 : Int32)), (.int (105 : Int32)), (.int (122 : Int32)), (.int (97 : Int32)), (.int (116 : Int32)), (.int (105 : Int32)), (.int (0 : Int32)), (.int (0 : Int32)), (.int (0 : Int32)), (.int (0 : Int32)), (.int (0 : Int32)), (.int (0 : Int32)), (.int (0 : Int32))] (.int (0 : Int32)) := Arv.set Ar318 q318 S318 M318 H318 G318 (ow_fits_char (by decide)) (ow_wr_char (by decide) W318) 10 rfl (Nat.le_of_ble_eq_true rfl)
            have f319 := f316.wr W318
            have hk := Nat.le_trans hk (Keep.of_wr W318).1
            have CR := CR.trans (CHr.wr W318 (Safe.exa hZ.alike f316 (by decide) (by decide)) CR.1)
            have K318 : Keep h0 h318 [] := K315.wr W318 (Or.inr sz_b281)
            have O318 := O315.wr W318 ge_b281
            have N318 := Fr.snoc X318 N315 ge_b281
            refine stp st318 ?_
            show Go p e below T318 (mkF m 360 #[.val (.int p0), .val (.int p1), .val (.int p2), .val (.int p3), .val (.int p4), .val (.int ((p0 &&& (2147483647 : Int32)) % (5 : Int32))), .val (.int cc), .val (.int kp), .unset, .unset, .unset, .unset] [(.ref b281)]) _
            refine stp (fun _ => XS.dup X318.here hx rfl (hb hby at_360) rfl rfl) ?_
            show Go p e below T318 (mkF m 361 #[.val (.int p0), .val (.int p1), .val (.int p2), .val (.int p3), .val (.int p4), .val (.int ((p0 &&& (2147483647 : Int32)) % (5 : Int32))), .val (.int cc), .val (.int kp), .unset, .unset, .unset, .unset] [(.ref b281), (.ref b281)]) _
            refine stp (fun _ => XS.bipush X318.here hx rfl (hb hby at_361)) ?_
            show Go p e below T318 (mkF m 363 #[.val (.int p0), .val (.int p1), .val (.int p2), .val (.int p3), .val (.int p4), .val (.int ((p0 &&& (2147483647 : Int32)) % (5 : Int32))), .val (.int cc), .val (.int kp), .unset, .unset, .unset, .unset] [(.int (11 : Int32)), (.ref b281), (.ref b281)]) _
            refine stp (fun _ => XS.bipush X318.here hx rfl (hb hby at_363)) ?_
            show Go p e below T318 (mkF m 365 #[.val (.int p0), .val (.int p1), .val (.int p2), .val (.int p3), .val (.int p4), .val (.int ((p0 &&& (2147483647 : Int32)) % (5 : Int32))), .val (.int cc), .val (.int kp), .unset, .unset, .unset, .unset] [(.int (111 : Int32)), (.int (11 : Int32)), (.ref b281), (.ref b281)]) _
            obtain ⟨cl321, Ar321, q321, S321, M321, H321, G321⟩ := (id V318)
            have in321 : ¬ ((11 : Int32) < 0 ∨ cl321.slots.size ≤ ((11 : Int32)).toNatClampNeg) := inb_of S321 ⟨by decide, by decide⟩
            obtain ⟨T321, h321, X321, e321, W321, st321⟩ := stC X318 hx hZ e318 Ar321 (j := (11 : Int32)) in321 (g := (mkF m 365 #[.val (.int p0), .val (.int p1), .val (.int p2), .val (.int p3), .val (.int p4), .val (.int ((p0 &&& (2147483647 : Int32)) % (5 : Int32))), .val (.int cc), .val (.int kp), .unset, .unset, .unset, .unset] [(.int (111 : Int32)), (.int (11 : Int32)), (.ref b281), (.ref b281)])) rfl rfl (hb hby at_365)
            have V321 : Arv Z h321 b281 k281 .char (18 : Int32) [(.int (97 : Int32)), (.int (117 : Int32)), (.int (116 : Int32)), (.int (104 : Int32)), (.int (111 : Int32)), (.int (114 : Int32)), (.int (105 : Int32)), (.int (122 : Int32)), (.int (97 : Int32)), (.int (116 : Int32)), (.int (105 : Int32)), (.int (111 : Int32)), (.int (0 : Int32)), (.int (0 : Int32)), (.int (0 : Int32)), (.int (0 : Int32)), (.int (0 : Int32)), (.int (0 : Int32))] (.int (0 : Int32)) := Arv.set Ar321 q321 S321 M321 H321 G321 (ow_fits_char (by decide)) (ow_wr_char (by decide) W321) 11 rfl (Nat.le_of_ble_eq_true rfl)
            have f322 := f319.wr W321
            have hk := Nat.le_trans hk (Keep.of_wr W321).1
            have CR := CR.trans (CHr.wr W321 (Safe.exa hZ.alike f319 (by decide) (by decide)) CR.1)
            have K321 : Keep h0 h321 [] := K318.wr W321 (Or.inr sz_b281)
            have O321 := O318.wr W321 ge_b281
            have N321 := Fr.snoc X321 N318 ge_b281
            refine stp st321 ?_
            show Go p e below T321 (mkF m 366 #[.val (.int p0), .val (.int p1), .val (.int p2), .val (.int p3), .val (.int p4), .val (.int ((p0 &&& (2147483647 : Int32)) % (5 : Int32))), .val (.int cc), .val (.int kp), .unset, .unset, .unset, .unset] [(.ref b281)]) _
            refine stp (fun _ => XS.dup X321.here hx rfl (hb hby at_366) rfl rfl) ?_
            show Go p e below T321 (mkF m 367 #[.val (.int p0), .val (.int p1), .val (.int p2), .val (.int p3), .val (.int p4), .val (.int ((p0 &&& (2147483647 : Int32)) % (5 : Int32))), .val (.int cc), .val (.int kp), .unset, .unset, .unset, .unset] [(.ref b281), (.ref b281)]) _
            refine stp (fun _ => XS.bipush X321.here hx rfl (hb hby at_367)) ?_
            show Go p e below T321 (mkF m 369 #[.val (.int p0), .val (.int p1), .val (.int p2), .val (.int p3), .val (.int p4), .val (.int ((p0 &&& (2147483647 : Int32)) % (5 : Int32))), .val (.int cc), .val (.int kp), .unset, .unset, .unset, .unset] [(.int (12 : Int32)), (.ref b281), (.ref b281)]) _
            refine stp (fun _ => XS.bipush X321.here hx rfl (hb hby at_369)) ?_
            show Go p e below T321 (mkF m 371 #[.val (.int p0), .val (.int p1), .val (.int p2), .val (.int p3), .val (.int p4), .val (.int ((p0 &&& (2147483647 : Int32)) % (5 : Int32))), .val (.int cc), .val (.int kp), .unset, .unset, .unset, .unset] [(.int (110 : Int32)), (.int (12 : Int32)), (.ref b281), (.ref b281)]) _
            obtain ⟨cl324, Ar324, q324, S324, M324, H324, G324⟩ := (id V321)
            have in324 : ¬ ((12 : Int32) < 0 ∨ cl324.slots.size ≤ ((12 : Int32)).toNatClampNeg) := inb_of S324 ⟨by decide, by decide⟩
            obtain ⟨T324, h324, X324, e324, W324, st324⟩ := stC X321 hx hZ e321 Ar324 (j := (12 : Int32)) in324 (g := (mkF m 371 #[.val (.int p0), .val (.int p1), .val (.int p2), .val (.int p3), .val (.int p4), .val (.int ((p0 &&& (2147483647 : Int32)) % (5 : Int32))), .val (.int cc), .val (.int kp), .unset, .unset, .unset, .unset] [(.int (110 : Int32)), (.int (12 : Int32)), (.ref b281), (.ref b281)])) rfl rfl (hb hby at_371)
            have V324 : Arv Z h324 b281 k281 .char (18 : Int32) [(.int (97 : Int32)), (.int (117 : Int32)), (.int (116 : Int32)), (.int (104 : Int32)), (.int (111 : Int32)), (.int (114 : Int32)), (.int (105 : Int32)), (.int (122 : Int32)), (.int (97 : Int32)), (.int (116 : Int32)), (.int (105 : Int32)), (.int (111 : Int32)), (.int (110 : Int32)), (.int (0 : Int32)), (.int (0 : Int32)), (.int (0 : Int32)), (.int (0 : Int32)), (.int (0 : Int32))] (.int (0 : Int32)) := Arv.set Ar324 q324 S324 M324 H324 G324 (ow_fits_char (by decide)) (ow_wr_char (by decide) W324) 12 rfl (Nat.le_of_ble_eq_true rfl)
            have f325 := f322.wr W324
            have hk := Nat.le_trans hk (Keep.of_wr W324).1
            have CR := CR.trans (CHr.wr W324 (Safe.exa hZ.alike f322 (by decide) (by decide)) CR.1)
            have K324 : Keep h0 h324 [] := K321.wr W324 (Or.inr sz_b281)
            have O324 := O321.wr W324 ge_b281
            have N324 := Fr.snoc X324 N321 ge_b281
            refine stp st324 ?_
            show Go p e below T324 (mkF m 372 #[.val (.int p0), .val (.int p1), .val (.int p2), .val (.int p3), .val (.int p4), .val (.int ((p0 &&& (2147483647 : Int32)) % (5 : Int32))), .val (.int cc), .val (.int kp), .unset, .unset, .unset, .unset] [(.ref b281)]) _
            refine stp (fun _ => XS.dup X324.here hx rfl (hb hby at_372) rfl rfl) ?_
            show Go p e below T324 (mkF m 373 #[.val (.int p0), .val (.int p1), .val (.int p2), .val (.int p3), .val (.int p4), .val (.int ((p0 &&& (2147483647 : Int32)) % (5 : Int32))), .val (.int cc), .val (.int kp), .unset, .unset, .unset, .unset] [(.ref b281), (.ref b281)]) _
            refine stp (fun _ => XS.bipush X324.here hx rfl (hb hby at_373)) ?_
            show Go p e below T324 (mkF m 375 #[.val (.int p0), .val (.int p1), .val (.int p2), .val (.int p3), .val (.int p4), .val (.int ((p0 &&& (2147483647 : Int32)) % (5 : Int32))), .val (.int cc), .val (.int kp), .unset, .unset, .unset, .unset] [(.int (13 : Int32)), (.ref b281), (.ref b281)]) _
            refine stp (fun _ => XS.bipush X324.here hx rfl (hb hby at_375)) ?_
            show Go p e below T324 (mkF m 377 #[.val (.int p0), .val (.int p1), .val (.int p2), .val (.int p3), .val (.int p4), .val (.int ((p0 &&& (2147483647 : Int32)) % (5 : Int32))), .val (.int cc), .val (.int kp), .unset, .unset, .unset, .unset] [(.int (95 : Int32)), (.int (13 : Int32)), (.ref b281), (.ref b281)]) _
            obtain ⟨cl327, Ar327, q327, S327, M327, H327, G327⟩ := (id V324)
            have in327 : ¬ ((13 : Int32) < 0 ∨ cl327.slots.size ≤ ((13 : Int32)).toNatClampNeg) := inb_of S327 ⟨by decide, by decide⟩
            obtain ⟨T327, h327, X327, e327, W327, st327⟩ := stC X324 hx hZ e324 Ar327 (j := (13 : Int32)) in327 (g := (mkF m 377 #[.val (.int p0), .val (.int p1), .val (.int p2), .val (.int p3), .val (.int p4), .val (.int ((p0 &&& (2147483647 : Int32)) % (5 : Int32))), .val (.int cc), .val (.int kp), .unset, .unset, .unset, .unset] [(.int (95 : Int32)), (.int (13 : Int32)), (.ref b281), (.ref b281)])) rfl rfl (hb hby at_377)
            have V327 : Arv Z h327 b281 k281 .char (18 : Int32) [(.int (97 : Int32)), (.int (117 : Int32)), (.int (116 : Int32)), (.int (104 : Int32)), (.int (111 : Int32)), (.int (114 : Int32)), (.int (105 : Int32)), (.int (122 : Int32)), (.int (97 : Int32)), (.int (116 : Int32)), (.int (105 : Int32)), (.int (111 : Int32)), (.int (110 : Int32)), (.int (95 : Int32)), (.int (0 : Int32)), (.int (0 : Int32)), (.int (0 : Int32)), (.int (0 : Int32))] (.int (0 : Int32)) := Arv.set Ar327 q327 S327 M327 H327 G327 (ow_fits_char (by decide)) (ow_wr_char (by decide) W327) 13 rfl (Nat.le_of_ble_eq_true rfl)
            have f328 := f325.wr W327
            have hk := Nat.le_trans hk (Keep.of_wr W327).1
            have CR := CR.trans (CHr.wr W327 (Safe.exa hZ.alike f325 (by decide) (by decide)) CR.1)
            have K327 : Keep h0 h327 [] := K324.wr W327 (Or.inr sz_b281)
            have O327 := O324.wr W327 ge_b281
            have N327 := Fr.snoc X327 N324 ge_b281
            refine stp st327 ?_
            show Go p e below T327 (mkF m 378 #[.val (.int p0), .val (.int p1), .val (.int p2), .val (.int p3), .val (.int p4), .val (.int ((p0 &&& (2147483647 : Int32)) % (5 : Int32))), .val (.int cc), .val (.int kp), .unset, .unset, .unset, .unset] [(.ref b281)]) _
            refine stp (fun _ => XS.dup X327.here hx rfl (hb hby at_378) rfl rfl) ?_
            show Go p e below T327 (mkF m 379 #[.val (.int p0), .val (.int p1), .val (.int p2), .val (.int p3), .val (.int p4), .val (.int ((p0 &&& (2147483647 : Int32)) % (5 : Int32))), .val (.int cc), .val (.int kp), .unset, .unset, .unset, .unset] [(.ref b281), (.ref b281)]) _
            refine stp (fun _ => XS.bipush X327.here hx rfl (hb hby at_379)) ?_
            show Go p e below T327 (mkF m 381 #[.val (.int p0), .val (.int p1), .val (.int p2), .val (.int p3), .val (.int p4), .val (.int ((p0 &&& (2147483647 : Int32)) % (5 : Int32))), .val (.int cc), .val (.int kp), .unset, .unset, .unset, .unset] [(.int (14 : Int32)), (.ref b281), (.ref b281)]) _
            refine stp (fun _ => XS.bipush X327.here hx rfl (hb hby at_381)) ?_
            show Go p e below T327 (mkF m 383 #[.val (.int p0), .val (.int p1), .val (.int p2), .val (.int p3), .val (.int p4), .val (.int ((p0 &&& (2147483647 : Int32)) % (5 : Int32))), .val (.int cc), .val (.int kp), .unset, .unset, .unset, .unset] [(.int (99 : Int32)), (.int (14 : Int32)), (.ref b281), (.ref b281)]) _
            obtain ⟨cl330, Ar330, q330, S330, M330, H330, G330⟩ := (id V327)
            have in330 : ¬ ((14 : Int32) < 0 ∨ cl330.slots.size ≤ ((14 : Int32)).toNatClampNeg) := inb_of S330 ⟨by decide, by decide⟩
            obtain ⟨T330, h330, X330, e330, W330, st330⟩ := stC X327 hx hZ e327 Ar330 (j := (14 : Int32)) in330 (g := (mkF m 383 #[.val (.int p0), .val (.int p1), .val (.int p2), .val (.int p3), .val (.int p4), .val (.int ((p0 &&& (2147483647 : Int32)) % (5 : Int32))), .val (.int cc), .val (.int kp), .unset, .unset, .unset, .unset] [(.int (99 : Int32)), (.int (14 : Int32)), (.ref b281), (.ref b281)])) rfl rfl (hb hby at_383)
            have V330 : Arv Z h330 b281 k281 .char (18 : Int32) [(.int (97 : Int32)), (.int (117 : Int32)), (.int (116 : Int32)), (.int (104 : Int32)), (.int (111 : Int32)), (.int (114 : Int32)), (.int (105 : Int32)), (.int (122 : Int32)), (.int (97 : Int32)), (.int (116 : Int32)), (.int (105 : Int32)), (.int (111 : Int32)), (.int (110 : Int32)), (.int (95 : Int32)), (.int (99 : Int32)), (.int (0 : Int32)), (.int (0 : Int32)), (.int (0 : Int32))] (.int (0 : Int32)) := Arv.set Ar330 q330 S330 M330 H330 G330 (ow_fits_char (by decide)) (ow_wr_char (by decide) W330) 14 rfl (Nat.le_of_ble_eq_true rfl)
            have f331 := f328.wr W330
            have hk := Nat.le_trans hk (Keep.of_wr W330).1
            have CR := CR.trans (CHr.wr W330 (Safe.exa hZ.alike f328 (by decide) (by decide)) CR.1)
            have K330 : Keep h0 h330 [] := K327.wr W330 (Or.inr sz_b281)
            have O330 := O327.wr W330 ge_b281
            have N330 := Fr.snoc X330 N327 ge_b281
            refine stp st330 ?_
            show Go p e below T330 (mkF m 384 #[.val (.int p0), .val (.int p1), .val (.int p2), .val (.int p3), .val (.int p4), .val (.int ((p0 &&& (2147483647 : Int32)) % (5 : Int32))), .val (.int cc), .val (.int kp), .unset, .unset, .unset, .unset] [(.ref b281)]) _
            refine stp (fun _ => XS.dup X330.here hx rfl (hb hby at_384) rfl rfl) ?_
            show Go p e below T330 (mkF m 385 #[.val (.int p0), .val (.int p1), .val (.int p2), .val (.int p3), .val (.int p4), .val (.int ((p0 &&& (2147483647 : Int32)) % (5 : Int32))), .val (.int cc), .val (.int kp), .unset, .unset, .unset, .unset] [(.ref b281), (.ref b281)]) _
            refine stp (fun _ => XS.bipush X330.here hx rfl (hb hby at_385)) ?_
            show Go p e below T330 (mkF m 387 #[.val (.int p0), .val (.int p1), .val (.int p2), .val (.int p3), .val (.int p4), .val (.int ((p0 &&& (2147483647 : Int32)) % (5 : Int32))), .val (.int cc), .val (.int kp), .unset, .unset, .unset, .unset] [(.int (15 : Int32)), (.ref b281), (.ref b281)]) _
            refine stp (fun _ => XS.bipush X330.here hx rfl (hb hby at_387)) ?_
            show Go p e below T330 (mkF m 389 #[.val (.int p0), .val (.int p1), .val (.int p2), .val (.int p3), .val (.int p4), .val (.int ((p0 &&& (2147483647 : Int32)) % (5 : Int32))), .val (.int cc), .val (.int kp), .unset, .unset, .unset, .unset] [(.int (111 : Int32)), (.int (15 : Int32)), (.ref b281), (.ref b281)]) _
            obtain ⟨cl333, Ar333, q333, S333, M333, H333, G333⟩ := (id V330)
            have in333 : ¬ ((15 : Int32) < 0 ∨ cl333.slots.size ≤ ((15 : Int32)).toNatClampNeg) := inb_of S333 ⟨by decide, by decide⟩
            obtain ⟨T333, h333, X333, e333, W333, st333⟩ := stC X330 hx hZ e330 Ar333 (j := (15 : Int32)) in333 (g := (mkF m 389 #[.val (.int p0), .val (.int p1), .val (.int p2), .val (.int p3), .val (.int p4), .val (.int ((p0 &&& (2147483647 : Int32)) % (5 : Int32))), .val (.int cc), .val (.int kp), .unset, .unset, .unset, .unset] [(.int (111 : Int32)), (.int (15 : Int32)), (.ref b281), (.ref b281)])) rfl rfl (hb hby at_389)
            have V333 : Arv Z h333 b281 k281 .char (18 : Int32) [(.int (97 : Int32)), (.int (117 : Int32)), (.int (116 : Int32)), (.int (104 : Int32)), (.int (111 : Int32)), (.int (114 : Int32)), (.int (105 : Int32)), (.int (122 : Int32)), (.int (97 : Int32)), (.int (116 : Int32)), (.int (105 : Int32)), (.int (111 : Int32)), (.int (110 : Int32)), (.int (95 : Int32)), (.int (99 : Int32)), (.int (111 : Int32)), (.int (0 : Int32)), (.int (0 : Int32))] (.int (0 : Int32)) := Arv.set Ar333 q333 S333 M333 H333 G333 (ow_fits_char (by decide)) (ow_wr_char (by decide) W333) 15 rfl (Nat.le_of_ble_eq_true rfl)
            have f334 := f331.wr W333
            have hk := Nat.le_trans hk (Keep.of_wr W333).1
            have CR := CR.trans (CHr.wr W333 (Safe.exa hZ.alike f331 (by decide) (by decide)) CR.1)
            have K333 : Keep h0 h333 [] := K330.wr W333 (Or.inr sz_b281)
            have O333 := O330.wr W333 ge_b281
            have N333 := Fr.snoc X333 N330 ge_b281
            refine stp st333 ?_
            show Go p e below T333 (mkF m 390 #[.val (.int p0), .val (.int p1), .val (.int p2), .val (.int p3), .val (.int p4), .val (.int ((p0 &&& (2147483647 : Int32)) % (5 : Int32))), .val (.int cc), .val (.int kp), .unset, .unset, .unset, .unset] [(.ref b281)]) _
            refine stp (fun _ => XS.dup X333.here hx rfl (hb hby at_390) rfl rfl) ?_
            show Go p e below T333 (mkF m 391 #[.val (.int p0), .val (.int p1), .val (.int p2), .val (.int p3), .val (.int p4), .val (.int ((p0 &&& (2147483647 : Int32)) % (5 : Int32))), .val (.int cc), .val (.int kp), .unset, .unset, .unset, .unset] [(.ref b281), (.ref b281)]) _
            refine stp (fun _ => XS.bipush X333.here hx rfl (hb hby at_391)) ?_
            show Go p e below T333 (mkF m 393 #[.val (.int p0), .val (.int p1), .val (.int p2), .val (.int p3), .val (.int p4), .val (.int ((p0 &&& (2147483647 : Int32)) % (5 : Int32))), .val (.int cc), .val (.int kp), .unset, .unset, .unset, .unset] [(.int (16 : Int32)), (.ref b281), (.ref b281)]) _
            refine stp (fun _ => XS.bipush X333.here hx rfl (hb hby at_393)) ?_
            show Go p e below T333 (mkF m 395 #[.val (.int p0), .val (.int p1), .val (.int p2), .val (.int p3), .val (.int p4), .val (.int ((p0 &&& (2147483647 : Int32)) % (5 : Int32))), .val (.int cc), .val (.int kp), .unset, .unset, .unset, .unset] [(.int (100 : Int32)), (.int (16 : Int32)), (.ref b281), (.ref b281)]) _
            obtain ⟨cl336, Ar336, q336, S336, M336, H336, G336⟩ := (id V333)
            have in336 : ¬ ((16 : Int32) < 0 ∨ cl336.slots.size ≤ ((16 : Int32)).toNatClampNeg) := inb_of S336 ⟨by decide, by decide⟩
            obtain ⟨T336, h336, X336, e336, W336, st336⟩ := stC X333 hx hZ e333 Ar336 (j := (16 : Int32)) in336 (g := (mkF m 395 #[.val (.int p0), .val (.int p1), .val (.int p2), .val (.int p3), .val (.int p4), .val (.int ((p0 &&& (2147483647 : Int32)) % (5 : Int32))), .val (.int cc), .val (.int kp), .unset, .unset, .unset, .unset] [(.int (100 : Int32)), (.int (16 : Int32)), (.ref b281), (.ref b281)])) rfl rfl (hb hby at_395)
            have V336 : Arv Z h336 b281 k281 .char (18 : Int32) [(.int (97 : Int32)), (.int (117 : Int32)), (.int (116 : Int32)), (.int (104 : Int32)), (.int (111 : Int32)), (.int (114 : Int32)), (.int (105 : Int32)), (.int (122 : Int32)), (.int (97 : Int32)), (.int (116 : Int32)), (.int (105 : Int32)), (.int (111 : Int32)), (.int (110 : Int32)), (.int (95 : Int32)), (.int (99 : Int32)), (.int (111 : Int32)), (.int (100 : Int32)), (.int (0 : Int32))] (.int (0 : Int32)) := Arv.set Ar336 q336 S336 M336 H336 G336 (ow_fits_char (by decide)) (ow_wr_char (by decide) W336) 16 rfl (Nat.le_of_ble_eq_true rfl)
            have f337 := f334.wr W336
            have hk := Nat.le_trans hk (Keep.of_wr W336).1
            have CR := CR.trans (CHr.wr W336 (Safe.exa hZ.alike f334 (by decide) (by decide)) CR.1)
            have K336 : Keep h0 h336 [] := K333.wr W336 (Or.inr sz_b281)
            have O336 := O333.wr W336 ge_b281
            have N336 := Fr.snoc X336 N333 ge_b281
            refine stp st336 ?_
            show Go p e below T336 (mkF m 396 #[.val (.int p0), .val (.int p1), .val (.int p2), .val (.int p3), .val (.int p4), .val (.int ((p0 &&& (2147483647 : Int32)) % (5 : Int32))), .val (.int cc), .val (.int kp), .unset, .unset, .unset, .unset] [(.ref b281)]) _
            refine stp (fun _ => XS.dup X336.here hx rfl (hb hby at_396) rfl rfl) ?_
            show Go p e below T336 (mkF m 397 #[.val (.int p0), .val (.int p1), .val (.int p2), .val (.int p3), .val (.int p4), .val (.int ((p0 &&& (2147483647 : Int32)) % (5 : Int32))), .val (.int cc), .val (.int kp), .unset, .unset, .unset, .unset] [(.ref b281), (.ref b281)]) _
            refine stp (fun _ => XS.bipush X336.here hx rfl (hb hby at_397)) ?_
            show Go p e below T336 (mkF m 399 #[.val (.int p0), .val (.int p1), .val (.int p2), .val (.int p3), .val (.int p4), .val (.int ((p0 &&& (2147483647 : Int32)) % (5 : Int32))), .val (.int cc), .val (.int kp), .unset, .unset, .unset, .unset] [(.int (17 : Int32)), (.ref b281), (.ref b281)]) _
            refine stp (fun _ => XS.bipush X336.here hx rfl (hb hby at_399)) ?_
            show Go p e below T336 (mkF m 401 #[.val (.int p0), .val (.int p1), .val (.int p2), .val (.int p3), .val (.int p4), .val (.int ((p0 &&& (2147483647 : Int32)) % (5 : Int32))), .val (.int cc), .val (.int kp), .unset, .unset, .unset, .unset] [(.int (101 : Int32)), (.int (17 : Int32)), (.ref b281), (.ref b281)]) _
            obtain ⟨cl339, Ar339, q339, S339, M339, H339, G339⟩ := (id V336)
            have in339 : ¬ ((17 : Int32) < 0 ∨ cl339.slots.size ≤ ((17 : Int32)).toNatClampNeg) := inb_of S339 ⟨by decide, by decide⟩
            obtain ⟨T339, h339, X339, e339, W339, st339⟩ := stC X336 hx hZ e336 Ar339 (j := (17 : Int32)) in339 (g := (mkF m 401 #[.val (.int p0), .val (.int p1), .val (.int p2), .val (.int p3), .val (.int p4), .val (.int ((p0 &&& (2147483647 : Int32)) % (5 : Int32))), .val (.int cc), .val (.int kp), .unset, .unset, .unset, .unset] [(.int (101 : Int32)), (.int (17 : Int32)), (.ref b281), (.ref b281)])) rfl rfl (hb hby at_401)
            have V339 : Arv Z h339 b281 k281 .char (18 : Int32) [(.int (97 : Int32)), (.int (117 : Int32)), (.int (116 : Int32)), (.int (104 : Int32)), (.int (111 : Int32)), (.int (114 : Int32)), (.int (105 : Int32)), (.int (122 : Int32)), (.int (97 : Int32)), (.int (116 : Int32)), (.int (105 : Int32)), (.int (111 : Int32)), (.int (110 : Int32)), (.int (95 : Int32)), (.int (99 : Int32)), (.int (111 : Int32)), (.int (100 : Int32)), (.int (101 : Int32))] (.int (0 : Int32)) := Arv.set Ar339 q339 S339 M339 H339 G339 (ow_fits_char (by decide)) (ow_wr_char (by decide) W339) 17 rfl (Nat.le_of_ble_eq_true rfl)
            have f340 := f337.wr W339
            have hk := Nat.le_trans hk (Keep.of_wr W339).1
            have CR := CR.trans (CHr.wr W339 (Safe.exa hZ.alike f337 (by decide) (by decide)) CR.1)
            have K339 : Keep h0 h339 [] := K336.wr W339 (Or.inr sz_b281)
            have O339 := O336.wr W339 ge_b281
            have N339 := Fr.snoc X339 N336 ge_b281
            refine stp st339 ?_
            show Go p e below T339 (mkF m 402 #[.val (.int p0), .val (.int p1), .val (.int p2), .val (.int p3), .val (.int p4), .val (.int ((p0 &&& (2147483647 : Int32)) % (5 : Int32))), .val (.int cc), .val (.int kp), .unset, .unset, .unset, .unset] [(.ref b281)]) _
            refine stp (fun _ => XS.astore X339.here hx rfl (hb hby at_402) rfl rfl (l' := #[.val (.int p0), .val (.int p1), .val (.int p2), .val (.int p3), .val (.int p4), .val (.int ((p0 &&& (2147483647 : Int32)) % (5 : Int32))), .val (.int cc), .val (.int kp), .val (.ref b281), .unset, .unset, .unset]) rfl) ?_
            show Go p e below T339 (mkF m 404 #[.val (.int p0), .val (.int p1), .val (.int p2), .val (.int p3), .val (.int p4), .val (.int ((p0 &&& (2147483647 : Int32)) % (5 : Int32))), .val (.int cc), .val (.int kp), .val (.ref b281), .unset, .unset, .unset] []) _
            refine stp (fun _ => XS.iloadN X339.here hx rfl (hb hby at_404) rfl) ?_
            show Go p e below T339 (mkF m 405 #[.val (.int p0), .val (.int p1), .val (.int p2), .val (.int p3), .val (.int p4), .val (.int ((p0 &&& (2147483647 : Int32)) % (5 : Int32))), .val (.int cc), .val (.int kp), .val (.ref b281), .unset, .unset, .unset] [(.int p1)]) _
            refine stp (fun _ => X339.ldcInt hx hown (mvT hZ (hw _ (List.mem_of_getElem? (i := 0) rfl))) (g := (mkF m 405 #[.val (.int p0), .val (.int p1), .val (.int p2), .val (.int p3), .val (.int p4), .val (.int ((p0 &&& (2147483647 : Int32)) % (5 : Int32))), .val (.int cc), .val (.int kp), .val (.ref b281), .unset, .unset, .unset] [(.int p1)])) rfl (hb hby at_405) _) ?_
            show Go p e below T339 (mkF m 407 #[.val (.int p0), .val (.int p1), .val (.int p2), .val (.int p3), .val (.int p4), .val (.int ((p0 &&& (2147483647 : Int32)) % (5 : Int32))), .val (.int cc), .val (.int kp), .val (.ref b281), .unset, .unset, .unset] [(.int (2147483647 : Int32)), (.int p1)]) _
            refine stp (fun _ => XS.iand X339.here hx rfl (hb hby at_407) rfl) ?_
            show Go p e below T339 (mkF m 408 #[.val (.int p0), .val (.int p1), .val (.int p2), .val (.int p3), .val (.int p4), .val (.int ((p0 &&& (2147483647 : Int32)) % (5 : Int32))), .val (.int cc), .val (.int kp), .val (.ref b281), .unset, .unset, .unset] [(.int (p1 &&& (2147483647 : Int32)))]) _
            refine stp (fun _ => XS.bipush X339.here hx rfl (hb hby at_408)) ?_
            show Go p e below T339 (mkF m 410 #[.val (.int p0), .val (.int p1), .val (.int p2), .val (.int p3), .val (.int p4), .val (.int ((p0 &&& (2147483647 : Int32)) % (5 : Int32))), .val (.int cc), .val (.int kp), .val (.ref b281), .unset, .unset, .unset] [(.int (18 : Int32)), (.int (p1 &&& (2147483647 : Int32)))]) _
            refine stp (fun _ => iremM X339 hx rfl (hb hby at_410) rfl (by decide)) ?_
            show Go p e below T339 (mkF m 411 #[.val (.int p0), .val (.int p1), .val (.int p2), .val (.int p3), .val (.int p4), .val (.int ((p0 &&& (2147483647 : Int32)) % (5 : Int32))), .val (.int cc), .val (.int kp), .val (.ref b281), .unset, .unset, .unset] [(.int ((p1 &&& (2147483647 : Int32)) % (18 : Int32)))]) _
            refine stp (fun _ => XS.istore X339.here hx rfl (hb hby at_411) rfl (l' := #[.val (.int p0), .val (.int p1), .val (.int p2), .val (.int p3), .val (.int p4), .val (.int ((p0 &&& (2147483647 : Int32)) % (5 : Int32))), .val (.int cc), .val (.int kp), .val (.ref b281), .val (.int ((p1 &&& (2147483647 : Int32)) % (18 : Int32))), .unset, .unset]) rfl) ?_
            show Go p e below T339 (mkF m 413 #[.val (.int p0), .val (.int p1), .val (.int p2), .val (.int p3), .val (.int p4), .val (.int ((p0 &&& (2147483647 : Int32)) % (5 : Int32))), .val (.int cc), .val (.int kp), .val (.ref b281), .val (.int ((p1 &&& (2147483647 : Int32)) % (18 : Int32))), .unset, .unset] []) _
            obtain ⟨pq, hpq⟩ : ∃ z : Int32, z = ((p1 &&& (2147483647 : Int32)) % (18 : Int32)) := ⟨_, rfl⟩
            rw [← hpq]
            show Go p e below T339 (mkF m 413 #[.val (.int p0), .val (.int p1), .val (.int p2), .val (.int p3), .val (.int p4), .val (.int ((p0 &&& (2147483647 : Int32)) % (5 : Int32))), .val (.int cc), .val (.int kp), .val (.ref b281), .val (.int pq), .unset, .unset] []) _
            replace hpq := own_rem18 hpq
            refine stp (fun _ => XS.iload X339.here hx rfl (hb hby at_413) rfl) ?_
            show Go p e below T339 (mkF m 415 #[.val (.int p0), .val (.int p1), .val (.int p2), .val (.int p3), .val (.int p4), .val (.int ((p0 &&& (2147483647 : Int32)) % (5 : Int32))), .val (.int cc), .val (.int kp), .val (.ref b281), .val (.int pq), .unset, .unset] [(.int kp)]) _
            by_cases q415_342 : kp = 0
            · refine stp (fun _ => XS.ifNo X339.here hx rfl (hb hby at_415) rfl (XT.i0_ne_f q415_342)) ?_
              show Go p e below T339 (mkF m 418 #[.val (.int p0), .val (.int p1), .val (.int p2), .val (.int p3), .val (.int p4), .val (.int ((p0 &&& (2147483647 : Int32)) % (5 : Int32))), .val (.int cc), .val (.int kp), .val (.ref b281), .val (.int pq), .unset, .unset] []) _
              refine stp (fun _ => XS.aload X339.here hx rfl (hb hby at_418) rfl rfl) ?_
              show Go p e below T339 (mkF m 420 #[.val (.int p0), .val (.int p1), .val (.int p2), .val (.int p3), .val (.int p4), .val (.int ((p0 &&& (2147483647 : Int32)) % (5 : Int32))), .val (.int cc), .val (.int kp), .val (.ref b281), .val (.int pq), .unset, .unset] [(.ref b281)]) _
              refine stp (fun _ => XS.iload X339.here hx rfl (hb hby at_420) rfl) ?_
              show Go p e below T339 (mkF m 422 #[.val (.int p0), .val (.int p1), .val (.int p2), .val (.int p3), .val (.int p4), .val (.int ((p0 &&& (2147483647 : Int32)) % (5 : Int32))), .val (.int cc), .val (.int kp), .val (.ref b281), .val (.int pq), .unset, .unset] [(.int pq), (.ref b281)]) _
              obtain ⟨cl343, Ar343, q343, S343, M343, H343, G343⟩ := (id V339)
              have in343 : ¬ (pq < 0 ∨ cl343.slots.size ≤ (pq).toNatClampNeg) := inb_of S343 hpq
              have at343 : cl343.slots[(pq).toNatClampNeg]? = some (.int (own_ac pq)) := H343.at in343 (own_ac_at hpq)
              refine stp (fun _ => X339.caload hx (j := pq) (v := (.int (own_ac pq))) (by rw [e339]; exact Ar343.1) (State.isArrayOf_alike hZ.alike Ar343.2.1) Ar343.2.2 in343 at343 (g := (mkF m 422 #[.val (.int p0), .val (.int p1), .val (.int p2), .val (.int p3), .val (.int p4), .val (.int ((p0 &&& (2147483647 : Int32)) % (5 : Int32))), .val (.int cc), .val (.int kp), .val (.ref b281), .val (.int pq), .unset, .unset] [(.int pq), (.ref b281)])) rfl rfl (hb hby at_422) _) ?_
              show Go p e below T339 (mkF m 423 #[.val (.int p0), .val (.int p1), .val (.int p2), .val (.int p3), .val (.int p4), .val (.int ((p0 &&& (2147483647 : Int32)) % (5 : Int32))), .val (.int cc), .val (.int kp), .val (.ref b281), .val (.int pq), .unset, .unset] [(.int (own_ac pq))]) _
              refine stp (fun _ => XS.iload X339.here hx rfl (hb hby at_423) rfl) ?_
              show Go p e below T339 (mkF m 425 #[.val (.int p0), .val (.int p1), .val (.int p2), .val (.int p3), .val (.int p4), .val (.int ((p0 &&& (2147483647 : Int32)) % (5 : Int32))), .val (.int cc), .val (.int kp), .val (.ref b281), .val (.int pq), .unset, .unset] [(.int cc), (.int (own_ac pq))]) _
              by_cases q425_344 : (own_ac pq) = cc
              · refine stp (fun _ => XS.icmpNo X339.here hx rfl (hb hby at_425) rfl (XT.ii_ne_f q425_344)) ?_
                show Go p e below T339 (mkF m 428 #[.val (.int p0), .val (.int p1), .val (.int p2), .val (.int p3), .val (.int p4), .val (.int ((p0 &&& (2147483647 : Int32)) % (5 : Int32))), .val (.int cc), .val (.int kp), .val (.ref b281), .val (.int pq), .unset, .unset] []) _
                refine stp (fun _ => XS.iconst X339.here hx rfl (hb hby at_428)) ?_
                show Go p e below T339 (mkF m 429 #[.val (.int p0), .val (.int p1), .val (.int p2), .val (.int p3), .val (.int p4), .val (.int ((p0 &&& (2147483647 : Int32)) % (5 : Int32))), .val (.int cc), .val (.int kp), .val (.ref b281), .val (.int pq), .unset, .unset] [(.int (1 : Int32))]) _
                refine stp (fun _ => XS.goto X339.here hx rfl (pc0 := 429) (pc' := 433) rfl (hb hby at_429) (by decide) (by decide)) ?_
                show Go p e below T339 (mkF m 433 #[.val (.int p0), .val (.int p1), .val (.int p2), .val (.int p3), .val (.int p4), .val (.int ((p0 &&& (2147483647 : Int32)) % (5 : Int32))), .val (.int cc), .val (.int kp), .val (.ref b281), .val (.int pq), .unset, .unset] [(.int (1 : Int32))]) _
                refine stp (fun _ => XS.istore X339.here hx rfl (hb hby at_433) rfl (l' := #[.val (.int p0), .val (.int p1), .val (.int p2), .val (.int p3), .val (.int p4), .val (.int ((p0 &&& (2147483647 : Int32)) % (5 : Int32))), .val (.int cc), .val (.int kp), .val (.ref b281), .val (.int pq), .val (.int (1 : Int32)), .unset]) rfl) ?_
                show Go p e below T339 (mkF m 435 #[.val (.int p0), .val (.int p1), .val (.int p2), .val (.int p3), .val (.int p4), .val (.int ((p0 &&& (2147483647 : Int32)) % (5 : Int32))), .val (.int cc), .val (.int kp), .val (.ref b281), .val (.int pq), .val (.int (1 : Int32)), .unset] []) _
                refine stp (fun _ => XS.iload X339.here hx rfl (hb hby at_435) rfl) ?_
                show Go p e below T339 (mkF m 437 #[.val (.int p0), .val (.int p1), .val (.int p2), .val (.int p3), .val (.int p4), .val (.int ((p0 &&& (2147483647 : Int32)) % (5 : Int32))), .val (.int cc), .val (.int kp), .val (.ref b281), .val (.int pq), .val (.int (1 : Int32)), .unset] [(.int kp)]) _
                refine stp (fun _ => XS.ifNo X339.here hx rfl (hb hby at_437) rfl (XT.i0_ne_f q415_342)) ?_
                show Go p e below T339 (mkF m 440 #[.val (.int p0), .val (.int p1), .val (.int p2), .val (.int p3), .val (.int p4), .val (.int ((p0 &&& (2147483647 : Int32)) % (5 : Int32))), .val (.int cc), .val (.int kp), .val (.ref b281), .val (.int pq), .val (.int (1 : Int32)), .unset] []) _
                refine stp (fun _ => XS.aload X339.here hx rfl (hb hby at_440) rfl rfl) ?_
                show Go p e below T339 (mkF m 442 #[.val (.int p0), .val (.int p1), .val (.int p2), .val (.int p3), .val (.int p4), .val (.int ((p0 &&& (2147483647 : Int32)) % (5 : Int32))), .val (.int cc), .val (.int kp), .val (.ref b281), .val (.int pq), .val (.int (1 : Int32)), .unset] [(.ref b281)]) _
                refine stp (fun _ => XS.iload X339.here hx rfl (hb hby at_442) rfl) ?_
                show Go p e below T339 (mkF m 444 #[.val (.int p0), .val (.int p1), .val (.int p2), .val (.int p3), .val (.int p4), .val (.int ((p0 &&& (2147483647 : Int32)) % (5 : Int32))), .val (.int cc), .val (.int kp), .val (.ref b281), .val (.int pq), .val (.int (1 : Int32)), .unset] [(.int pq), (.ref b281)]) _
                refine stp (fun _ => XS.iload X339.here hx rfl (hb hby at_444) rfl) ?_
                show Go p e below T339 (mkF m 446 #[.val (.int p0), .val (.int p1), .val (.int p2), .val (.int p3), .val (.int p4), .val (.int ((p0 &&& (2147483647 : Int32)) % (5 : Int32))), .val (.int cc), .val (.int kp), .val (.ref b281), .val (.int pq), .val (.int (1 : Int32)), .unset] [(.int cc), (.int pq), (.ref b281)]) _
                obtain ⟨cl345, Ar345, q345, S345, M345, H345, G345⟩ := (id V339)
                have in345 : ¬ (pq < 0 ∨ cl345.slots.size ≤ (pq).toNatClampNeg) := inb_of S345 hpq
                obtain ⟨T345, h345, X345, e345, W345, st345⟩ := stC X339 hx hZ e339 Ar345 (j := pq) in345 (g := (mkF m 446 #[.val (.int p0), .val (.int p1), .val (.int p2), .val (.int p3), .val (.int p4), .val (.int ((p0 &&& (2147483647 : Int32)) % (5 : Int32))), .val (.int cc), .val (.int kp), .val (.ref b281), .val (.int pq), .val (.int (1 : Int32)), .unset] [(.int cc), (.int pq), (.ref b281)])) rfl rfl (hb hby at_446)
                have V345 : Arv Z h345 b281 k281 .char (18 : Int32) [(.int (own_acp pq cc (0 : Int32))), (.int (own_acp pq cc (1 : Int32))), (.int (own_acp pq cc (2 : Int32))), (.int (own_acp pq cc (3 : Int32))), (.int (own_acp pq cc (4 : Int32))), (.int (own_acp pq cc (5 : Int32))), (.int (own_acp pq cc (6 : Int32))), (.int (own_acp pq cc (7 : Int32))), (.int (own_acp pq cc (8 : Int32))), (.int (own_acp pq cc (9 : Int32))), (.int (own_acp pq cc (10 : Int32))), (.int (own_acp pq cc (11 : Int32))), (.int (own_acp pq cc (12 : Int32))), (.int (own_acp pq cc (13 : Int32))), (.int (own_acp pq cc (14 : Int32))), (.int (own_acp pq cc (15 : Int32))), (.int (own_acp pq cc (16 : Int32))), (.int (own_acp pq cc (17 : Int32)))] (.int (0 : Int32)) := (own_ac_set hpq) ▸ Arv.set Ar345 q345 S345 M345 H345 G345 (ow_fits_char (char255 hcc)) (ow_wr_char (char255 hcc) W345) _ rfl (own_ac_lt hpq)
                have f346 := f340.wr W345
                have hk := Nat.le_trans hk (Keep.of_wr W345).1
                have CR := CR.trans (CHr.wr W345 (Safe.exa hZ.alike f340 (by decide) (by decide)) CR.1)
                have K345 : Keep h0 h345 [] := K339.wr W345 (Or.inr sz_b281)
                have O345 := O339.wr W345 ge_b281
                have N345 := Fr.snoc X345 N339 ge_b281
                refine stp st345 ?_
                show Go p e below T345 (mkF m 447 #[.val (.int p0), .val (.int p1), .val (.int p2), .val (.int p3), .val (.int p4), .val (.int ((p0 &&& (2147483647 : Int32)) % (5 : Int32))), .val (.int cc), .val (.int kp), .val (.ref b281), .val (.int pq), .val (.int (1 : Int32)), .unset] []) _
                obtain ⟨T348, h348, X348, e348, E348, A348, D348, -, st348⟩ := newO X345 hx hZ hown (hw _ (List.mem_of_getElem? (i := 43) rfl)) (hw _ (List.mem_of_getElem? (i := 44) rfl)) (hw _ (List.mem_of_getElem? (i := 28) rfl)) e345 (g := (mkF m 447 #[.val (.int p0), .val (.int p1), .val (.int p2), .val (.int p3), .val (.int p4), .val (.int ((p0 &&& (2147483647 : Int32)) % (5 : Int32))), .val (.int cc), .val (.int kp), .val (.ref b281), .val (.int pq), .val (.int (1 : Int32)), .unset] [])) rfl (hb hby at_447) (by decide) (by decide)
                obtain ⟨b348, g348⟩ : ∃ z, z = h345.size := ⟨_, rfl⟩
                rw [← g348] at A348 D348 st348
                have ne349 : auth ≠ b348 := O345.ne E_auth.lt (Nat.le_trans (old_le O345) (Nat.le_of_eq g348.symm))
                have ne350 : b281 ≠ b348 := Nat.ne_of_lt (Nat.lt_of_lt_of_le f346.lt (Nat.le_of_eq g348.symm))
                have ne351 : empty_ ≠ b348 := O345.ne E_em.lt (Nat.le_trans (old_le O345) (Nat.le_of_eq g348.symm))
                have ne352 : impl ≠ b348 := O345.ne E_impl.lt (Nat.le_trans (old_le O345) (Nat.le_of_eq g348.symm))
                have ne353 : va ≠ b348 := O345.ne E_va.lt (Nat.le_trans (old_le O345) (Nat.le_of_eq g348.symm))
                have ne354 : w1 ≠ b348 := O345.ne Q_w1.lt (Nat.le_trans (old_le O345) (Nat.le_of_eq g348.symm))
                have ne355 : w2 ≠ b348 := O345.ne Q_w2.lt (Nat.le_trans (old_le O345) (Nat.le_of_eq g348.symm))
                have sz_b348 : h0.size ≤ b348 := Nat.le_trans K345.1 (Nat.le_of_eq g348.symm)
                have ge_b348 : n0 ≤ b348 := Nat.le_trans (old_le O345) (Nat.le_of_eq g348.symm)
                have f356 := f346.ext E348
                have f357 := V345.ext E348
                have Sf348 := (Safe.new (Z := Z) (EL := consts_1) (Nat.le_of_eq g348.symm)).ext E348 CR.1
                have hk := Nat.le_trans hk E348.1
                have CR := CR.trans (CHr.ext E348 CR.1)
                have K348 : Keep h0 h348 [] := K345.ext E348
                have O348 := O345.ext E348
                have F358 : Fld Z h348 b348 "java/lang/String" "coder" "B" (.int (0 : Int32)) := D348 (Or.inr (hw _ (List.mem_of_getElem? (i := 68) rfl))) (ty := .byte) (by decide)
                have F359 : Fld Z h348 b348 "java/lang/String" "value" "[B" .null := D348 (Or.inr (hw _ (List.mem_of_getElem? (i := 70) rfl))) (ty := (.array .byte)) (by decide)
                refine stp st348 ?_
                show Go p e below T348 (mkF m 450 #[.val (.int p0), .val (.int p1), .val (.int p2), .val (.int p3), .val (.int p4), .val (.int ((p0 &&& (2147483647 : Int32)) % (5 : Int32))), .val (.int cc), .val (.int kp), .val (.ref b281), .val (.int pq), .val (.int (1 : Int32)), .unset] [(.ref b348)]) _
                refine stp (fun _ => XS.dup X348.here hx rfl (hb hby at_450) rfl rfl) ?_
                show Go p e below T348 (mkF m 451 #[.val (.int p0), .val (.int p1), .val (.int p2), .val (.int p3), .val (.int p4), .val (.int ((p0 &&& (2147483647 : Int32)) % (5 : Int32))), .val (.int cc), .val (.int kp), .val (.ref b281), .val (.int pq), .val (.int (1 : Int32)), .unset] [(.ref b348), (.ref b348)]) _
                refine stp (fun _ => XS.aload X348.here hx rfl (hb hby at_451) rfl rfl) ?_
                show Go p e below T348 (mkF m 453 #[.val (.int p0), .val (.int p1), .val (.int p2), .val (.int p3), .val (.int p4), .val (.int ((p0 &&& (2147483647 : Int32)) % (5 : Int32))), .val (.int cc), .val (.int kp), .val (.ref b281), .val (.int pq), .val (.int (1 : Int32)), .unset] [(.ref b281), (.ref b348), (.ref b348)]) _
                obtain ⟨_, _, ⟨T360, L360, k360, n360⟩, -, X360, ⟨Lc360, hQ360, l360, y360, z360⟩, st360⟩ := X348.specialBack hx (y := (⟨"java/lang/String", "<init>", "([C)V"⟩ : MethodName)) rfl hown (mvT hZ (hw _ (List.mem_of_getElem? (i := 45) rfl))) (mvT hZ (hw _ (List.mem_of_getElem? (i := 46) rfl))) (mvT hZ (hw _ (List.mem_of_getElem? (i := 47) rfl))) (by decide) (StrChars.Road.backV (W := 1) hZ hws (kI := 4) (hw _ (List.mem_of_getElem? (i := 44) rfl)) (cs := ([(own_acp pq cc (0 : Int32)), (own_acp pq cc (1 : Int32)), (own_acp pq cc (2 : Int32)), (own_acp pq cc (3 : Int32)), (own_acp pq cc (4 : Int32)), (own_acp pq cc (5 : Int32)), (own_acp pq cc (6 : Int32)), (own_acp pq cc (7 : Int32)), (own_acp pq cc (8 : Int32)), (own_acp pq cc (9 : Int32)), (own_acp pq cc (10 : Int32)), (own_acp pq cc (11 : Int32)), (own_acp pq cc (12 : Int32)), (own_acp pq cc (13 : Int32)), (own_acp pq cc (14 : Int32)), (own_acp pq cc (15 : Int32)), (own_acp pq cc (16 : Int32)), (own_acp pq cc (17 : Int32))] : List Int32)) (bs := ([(own_acp pq cc (0 : Int32)), (own_acp pq cc (1 : Int32)), (own_acp pq cc (2 : Int32)), (own_acp pq cc (3 : Int32)), (own_acp pq cc (4 : Int32)), (own_acp pq cc (5 : Int32)), (own_acp pq cc (6 : Int32)), (own_acp pq cc (7 : Int32)), (own_acp pq cc (8 : Int32)), (own_acp pq cc (9 : Int32)), (own_acp pq cc (10 : Int32)), (own_acp pq cc (11 : Int32)), (own_acp pq cc (12 : Int32)), (own_acp pq cc (13 : Int32)), (own_acp pq cc (14 : Int32)), (own_acp pq cc (15 : Int32)), (own_acp pq cc (16 : Int32)), (own_acp pq cc (17 : Int32))] : List Int32).map (fun c => c.toInt8.toInt32)) (n := 18) ge_b348 (old_le O348) A348 F359 F358 f357 (S_CS.ext O348.2) hcz rfl rfl (by decide) (by decide) (own_sm1 (own_acp_sm hcc _ _) (own_sm1 (own_acp_sm hcc _ _) (own_sm1 (own_acp_sm hcc _ _) (own_sm1 (own_acp_sm hcc _ _) (own_sm1 (own_acp_sm hcc _ _) (own_sm1 (own_acp_sm hcc _ _) (own_sm1 (own_acp_sm hcc _ _) (own_sm1 (own_acp_sm hcc _ _) (own_sm1 (own_acp_sm hcc _ _) (own_sm1 (own_acp_sm hcc _ _) (own_sm1 (own_acp_sm hcc _ _) (own_sm1 (own_acp_sm hcc _ _) (own_sm1 (own_acp_sm hcc _ _) (own_sm1 (own_acp_sm hcc _ _) (own_sm1 (own_acp_sm hcc _ _) (own_sm1 (own_acp_sm hcc _ _) (own_sm1 (own_acp_sm hcc _ _) (own_sm1 (own_acp_sm hcc _ _) own_sm0)))))))))))))))))) rfl (by decide) (by decide)) (g := (mkF m 453 #[.val (.int p0), .val (.int p1), .val (.int p2), .val (.int p3), .val (.int p4), .val (.int ((p0 &&& (2147483647 : Int32)) % (5 : Int32))), .val (.int cc), .val (.int kp), .val (.ref b281), .val (.int pq), .val (.int (1 : Int32)), .unset] [(.ref b281), (.ref b348), (.ref b348)])) rfl (by rw [hml]; rfl) (Steps.refl _) (a := b348) (argsL := [(.ref b281)]) (rest := [(.ref b348)]) (lenOf pd_7 rfl) rfl (by show 2 * 0 + _ ≤ _; exact Nat.le_of_eq rfl) (hb hby at_453) (fun _ _ => ⟨rfl, e348, (by decide : 2 + 1 ≤ _), (by decide : 22 + 18 ≤ _)⟩)
                dsimp only [Pt.U, Pt.locs, Pt.cells, Pt.slots] at X360 l360 y360 z360 st360 hQ360
                subst y360 z360
                obtain ⟨rfl, N360q, K360q, E360q, C360q, t360, kb360, ge_t360, sz360q, ne360q, F360q, V360q⟩ := hQ360
                have N360 : Fr n0 L360 := by rw [l360]; exact Fr.app N345 N360q
                have ne361 : b281 ≠ t360 := Nat.ne_of_lt (Nat.lt_of_lt_of_le f356.lt sz360q)
                have f362 := f356.keep K360q
                have f363 := f357.keep K360q (ninS ne350 nin0)
                have f364 := Sf348.keep K360q (sfS Sf348 sf0) CR.1
                have hk := Nat.le_trans hk K360q.1
                have CR := CR.trans (CHr.keep K360q (sfS Sf348 sf0) CR.1)
                have K360 : Keep h0 T360.heap [] := K348.trans K360q (allS (Or.inr sz_b348) all0)
                have sz_t360 : h0.size ≤ t360 := Nat.le_trans K348.1 sz360q
                have O360 := O348.keep K360q (allS ge_b348 all0)
                have Q360 : StrIs Z T360.heap b348 ([(own_acp pq cc (0 : Int32)), (own_acp pq cc (1 : Int32)), (own_acp pq cc (2 : Int32)), (own_acp pq cc (3 : Int32)), (own_acp pq cc (4 : Int32)), (own_acp pq cc (5 : Int32)), (own_acp pq cc (6 : Int32)), (own_acp pq cc (7 : Int32)), (own_acp pq cc (8 : Int32)), (own_acp pq cc (9 : Int32)), (own_acp pq cc (10 : Int32)), (own_acp pq cc (11 : Int32)), (own_acp pq cc (12 : Int32)), (own_acp pq cc (13 : Int32)), (own_acp pq cc (14 : Int32)), (own_acp pq cc (15 : Int32)), (own_acp pq cc (16 : Int32)), (own_acp pq cc (17 : Int32))] : List Int32) := StrIs.of E360q F360q C360q V360q rfl rfl (own_sm1 (own_acp_sm hcc _ _) (own_sm1 (own_acp_sm hcc _ _) (own_sm1 (own_acp_sm hcc _ _) (own_sm1 (own_acp_sm hcc _ _) (own_sm1 (own_acp_sm hcc _ _) (own_sm1 (own_acp_sm hcc _ _) (own_sm1 (own_acp_sm hcc _ _) (own_sm1 (own_acp_sm hcc _ _) (own_sm1 (own_acp_sm hcc _ _) (own_sm1 (own_acp_sm hcc _ _) (own_sm1 (own_acp_sm hcc _ _) (own_sm1 (own_acp_sm hcc _ _) (own_sm1 (own_acp_sm hcc _ _) (own_sm1 (own_acp_sm hcc _ _) (own_sm1 (own_acp_sm hcc _ _) (own_sm1 (own_acp_sm hcc _ _) (own_sm1 (own_acp_sm hcc _ _) (own_sm1 (own_acp_sm hcc _ _) own_sm0)))))))))))))))))) (Nat.le_of_ble_eq_true rfl)
                refine stt st360 ?_
                show Go p e below T360 (mkF m 456 #[.val (.int p0), .val (.int p1), .val (.int p2), .val (.int p3), .val (.int p4), .val (.int ((p0 &&& (2147483647 : Int32)) % (5 : Int32))), .val (.int cc), .val (.int kp), .val (.ref b281), .val (.int pq), .val (.int (1 : Int32)), .unset] [(.ref b348)]) _
                obtain ⟨_, _, ⟨T365, L365, k365, n365⟩, -, X365, ⟨Lc365, hQ365, l365, y365, z365⟩, st365⟩ := Jvm.LawKit.callS X360 hx (y := (⟨"com/example/uriel/uriel/grant/GrantType", "fromWireName", "(Ljava/lang/String;)Ljava/util/Optional;"⟩ : MethodName)) hown (mvT hZ (hw _ (List.mem_of_getElem? (i := 1) rfl))) (mvT hZ (hw _ (List.mem_of_getElem? (i := 2) rfl))) (mvT hZ (hw _ (List.mem_of_getElem? (i := 3) rfl))) (mvT hZ (hw _ (List.mem_of_getElem? (i := 4) rfl))) (by decide) (backOf (W := 0) (rm_fwa l Z a0 hw [] b348 auth impl va w1 w2 ([(own_acp pq cc (0 : Int32)), (own_acp pq cc (1 : Int32)), (own_acp pq cc (2 : Int32)), (own_acp pq cc (3 : Int32)), (own_acp pq cc (4 : Int32)), (own_acp pq cc (5 : Int32)), (own_acp pq cc (6 : Int32)), (own_acp pq cc (7 : Int32)), (own_acp pq cc (8 : Int32)), (own_acp pq cc (9 : Int32)), (own_acp pq cc (10 : Int32)), (own_acp pq cc (11 : Int32)), (own_acp pq cc (12 : Int32)), (own_acp pq cc (13 : Int32)), (own_acp pq cc (14 : Int32)), (own_acp pq cc (15 : Int32)), (own_acp pq cc (16 : Int32)), (own_acp pq cc (17 : Int32))] : List Int32) cz k_va T360.heap n0 O360 S_VALUES E_va V_va F_w1 F_w2 Q_w1 Q_w2 Q360 S_CS hcz ((own_ac_eq hpq).mpr q425_344) (own_im_ne (show (8 : Nat) ≠ 18 by decide))) hZ (hw _ (List.mem_of_getElem? (i := 4) rfl)) (hw _ (List.mem_of_getElem? (i := 3) rfl)) (by decide) (by decide)) (g := (mkF m 456 #[.val (.int p0), .val (.int p1), .val (.int p2), .val (.int p3), .val (.int p4), .val (.int ((p0 &&& (2147483647 : Int32)) % (5 : Int32))), .val (.int cc), .val (.int kp), .val (.ref b281), .val (.int pq), .val (.int (1 : Int32)), .unset] [(.ref b348)])) rfl (by rw [hml]; rfl) (argsL := [(.ref b348)]) (rest := []) (lenOf pd_5 rfl) rfl (by show 2 * 0 + _ ≤ _; exact Nat.le_of_eq rfl) (hb hby at_456) (fun _ _ => ⟨rfl, rfl, (by decide : 3 + 2 ≤ _), (by decide : 40 + 3 ≤ _)⟩)
                dsimp only [Pt.U, Pt.locs, Pt.cells, Pt.slots] at X365 l365 y365 z365 st365 hQ365
                subst y365 z365
                obtain ⟨r365, rfl, N365q, K365q, ⟨ge_r365, sz365_r365⟩, r365_0, r365_1⟩ := hQ365
                have N365 : Fr n0 L365 := by rw [l365]; exact Fr.app N360 N365q
                have ne366 : b281 ≠ r365 := Nat.ne_of_lt (Nat.lt_of_lt_of_le f362.lt sz365_r365)
                have ne367 : b348 ≠ r365 := Nat.ne_of_lt (Nat.lt_of_lt_of_le E360q.lt sz365_r365)
                have ne368 : auth ≠ r365 := O360.ne E_auth.lt ge_r365
                have ne369 : empty_ ≠ r365 := O360.ne E_em.lt ge_r365
                have ne370 : impl ≠ r365 := O360.ne E_impl.lt ge_r365
                have ne371 : va ≠ r365 := O360.ne E_va.lt ge_r365
                have ne372 : w1 ≠ r365 := O360.ne Q_w1.lt ge_r365
                have ne373 : w2 ≠ r365 := O360.ne Q_w2.lt ge_r365
                have f374 := f362.keep K365q
                have f375 := f363.keep K365q nin0
                have f376 := f364.keep K365q sf0 CR.1
                have f377 := E360q.keep K365q
                have f378 := Q360.keep K365q nin0 apart0
                have hk := Nat.le_trans hk K365q.1
                have CR := CR.trans (CHr.keep K365q sf0 CR.1)
                have sz_r365 : h0.size ≤ r365 := Nat.le_trans K360.1 sz365_r365
                have K365 : Keep h0 T365.heap [] := K360.trans K365q all0
                have O365 := O360.keep K365q all0
                refine stp st365 ?_
                show Go p e below T365 (mkF m 459 #[.val (.int p0), .val (.int p1), .val (.int p2), .val (.int p3), .val (.int p4), .val (.int ((p0 &&& (2147483647 : Int32)) % (5 : Int32))), .val (.int cc), .val (.int kp), .val (.ref b281), .val (.int pq), .val (.int (1 : Int32)), .unset] [(.ref r365)]) _
                refine stp (fun _ => XS.aconstNull X365.here hx rfl (hb hby at_459)) ?_
                show Go p e below T365 (mkF m 460 #[.val (.int p0), .val (.int p1), .val (.int p2), .val (.int p3), .val (.int p4), .val (.int ((p0 &&& (2147483647 : Int32)) % (5 : Int32))), .val (.int cc), .val (.int kp), .val (.ref b281), .val (.int pq), .val (.int (1 : Int32)), .unset] [.null, (.ref r365)]) _
                obtain ⟨cq379, kq379, q379a, q379b, q379c⟩ := isOf hZ rfl r365_0
                obtain ⟨_, _, ⟨T379, L379, k379, n379⟩, -, X379, ⟨Lc379, hQ379, l379, y379, z379⟩, st379⟩ := X365.virtualBack hx (y := (⟨"java/util/Optional", "orElse", "(Ljava/lang/Object;)Ljava/lang/Object;"⟩ : MethodName)) (z := (⟨"java/util/Optional", "orElse", "(Ljava/lang/Object;)Ljava/lang/Object;"⟩ : MethodName)) hown (mvT hZ (hw _ (List.mem_of_getElem? (i := 35) rfl))) (mvT hZ (hw _ (List.mem_of_getElem? (i := 36) rfl))) (notFace_of_selects (args := #[]) (mvT hZ (hw _ (List.mem_of_getElem? (i := 38) rfl)))) (mvT hZ (hw _ (List.mem_of_getElem? (i := 38) rfl))) (mvT hZ (hw _ (List.mem_of_getElem? (i := 37) rfl))) (by decide) (backOf (W := 0) (rm_oe1 l Z a0 hw [] r365 auth T365.heap n0 O365 r365_1) hZ (hw _ (List.mem_of_getElem? (i := 39) rfl)) (hw _ (List.mem_of_getElem? (i := 32) rfl)) (by decide) (by decide)) q379a q379c (g := (mkF m 460 #[.val (.int p0), .val (.int p1), .val (.int p2), .val (.int p3), .val (.int p4), .val (.int ((p0 &&& (2147483647 : Int32)) % (5 : Int32))), .val (.int cc), .val (.int kp), .val (.ref b281), .val (.int pq), .val (.int (1 : Int32)), .unset] [.null, (.ref r365)])) rfl (by rw [hml]; rfl) (Steps.refl _) (argsL := [.null]) (rest := []) (lenOf pd_6 rfl) rfl (by show 2 * 0 + _ ≤ _; exact Nat.le_of_eq rfl) (hb hby at_460) (fun _ _ => ⟨rfl, rfl, (by decide : 5 + 0 ≤ _), (by decide : 43 + 0 ≤ _)⟩)
                dsimp only [Pt.U, Pt.locs, Pt.cells, Pt.slots] at X379 l379 y379 z379 st379 hQ379
                subst y379 z379
                obtain ⟨rfl, N379q, e379⟩ := hQ379
                have N379 : Fr n0 L379 := by rw [l379]; exact Fr.app N365 N379q
                refine stt st379 ?_
                show Go p e below T379 (mkF m 463 #[.val (.int p0), .val (.int p1), .val (.int p2), .val (.int p3), .val (.int p4), .val (.int ((p0 &&& (2147483647 : Int32)) % (5 : Int32))), .val (.int cc), .val (.int kp), .val (.ref b281), .val (.int pq), .val (.int (1 : Int32)), .unset] [(.ref auth)]) _
                obtain ⟨T380, X380, e380, st380⟩ := castY X379 hx hZ hown (hw _ (List.mem_of_getElem? (i := 83) rfl)) e379 (Ins.self (E_auth.ext O365.2)) (g := (mkF m 463 #[.val (.int p0), .val (.int p1), .val (.int p2), .val (.int p3), .val (.int p4), .val (.int ((p0 &&& (2147483647 : Int32)) % (5 : Int32))), .val (.int cc), .val (.int kp), .val (.ref b281), .val (.int pq), .val (.int (1 : Int32)), .unset] [(.ref auth)])) rfl rfl (hb hby at_463)
                refine stp st380 ?_
                show Go p e below T380 (mkF m 466 #[.val (.int p0), .val (.int p1), .val (.int p2), .val (.int p3), .val (.int p4), .val (.int ((p0 &&& (2147483647 : Int32)) % (5 : Int32))), .val (.int cc), .val (.int kp), .val (.ref b281), .val (.int pq), .val (.int (1 : Int32)), .unset] [(.ref auth)]) _
                refine stp (fun _ => XS.astore X380.here hx rfl (hb hby at_466) rfl rfl (l' := #[.val (.int p0), .val (.int p1), .val (.int p2), .val (.int p3), .val (.int p4), .val (.int ((p0 &&& (2147483647 : Int32)) % (5 : Int32))), .val (.int cc), .val (.int kp), .val (.ref b281), .val (.int pq), .val (.int (1 : Int32)), .val (.ref auth)]) rfl) ?_
                show Go p e below T380 (mkF m 468 #[.val (.int p0), .val (.int p1), .val (.int p2), .val (.int p3), .val (.int p4), .val (.int ((p0 &&& (2147483647 : Int32)) % (5 : Int32))), .val (.int cc), .val (.int kp), .val (.ref b281), .val (.int pq), .val (.int (1 : Int32)), .val (.ref auth)] []) _
                refine stp (fun _ => XS.iload X380.here hx rfl (hb hby at_468) rfl) ?_
                show Go p e below T380 (mkF m 470 #[.val (.int p0), .val (.int p1), .val (.int p2), .val (.int p3), .val (.int p4), .val (.int ((p0 &&& (2147483647 : Int32)) % (5 : Int32))), .val (.int cc), .val (.int kp), .val (.ref b281), .val (.int pq), .val (.int (1 : Int32)), .val (.ref auth)] [(.int (1 : Int32))]) _
                refine stp (fun _ => XS.ifNo X380.here hx rfl (hb hby at_470) rfl (by decide)) ?_
                show Go p e below T380 (mkF m 473 #[.val (.int p0), .val (.int p1), .val (.int p2), .val (.int p3), .val (.int p4), .val (.int ((p0 &&& (2147483647 : Int32)) % (5 : Int32))), .val (.int cc), .val (.int kp), .val (.ref b281), .val (.int pq), .val (.int (1 : Int32)), .val (.ref auth)] []) _
                refine stp (fun _ => XS.aload X380.here hx rfl (hb hby at_473) rfl rfl) ?_
                show Go p e below T380 (mkF m 475 #[.val (.int p0), .val (.int p1), .val (.int p2), .val (.int p3), .val (.int p4), .val (.int ((p0 &&& (2147483647 : Int32)) % (5 : Int32))), .val (.int cc), .val (.int kp), .val (.ref b281), .val (.int pq), .val (.int (1 : Int32)), .val (.ref auth)] [(.ref auth)]) _
                obtain ⟨T381, X381, e381, st381⟩ := getS2 X380 hx hZ hown (host := "") (Or.inl (hw _ (List.mem_of_getElem? (i := 89) rfl))) Via.refl e380 (S_AC.ext O365.2) (g := (mkF m 475 #[.val (.int p0), .val (.int p1), .val (.int p2), .val (.int p3), .val (.int p4), .val (.int ((p0 &&& (2147483647 : Int32)) % (5 : Int32))), .val (.int cc), .val (.int kp), .val (.ref b281), .val (.int pq), .val (.int (1 : Int32)), .val (.ref auth)] [(.ref auth)])) rfl (hb hby at_475)
                refine stp st381 ?_
                show Go p e below T381 (mkF m 478 #[.val (.int p0), .val (.int p1), .val (.int p2), .val (.int p3), .val (.int p4), .val (.int ((p0 &&& (2147483647 : Int32)) % (5 : Int32))), .val (.int cc), .val (.int kp), .val (.ref b281), .val (.int pq), .val (.int (1 : Int32)), .val (.ref auth)] [(.ref auth), (.ref auth)]) _
                refine stp (fun _ => Jvm.RoadKit.acmp (g := (mkF m 478 #[.val (.int p0), .val (.int p1), .val (.int p2), .val (.int p3), .val (.int p4), .val (.int ((p0 &&& (2147483647 : Int32)) % (5 : Int32))), .val (.int cc), .val (.int kp), .val (.ref b281), .val (.int pq), .val (.int (1 : Int32)), .val (.ref auth)] [(.ref auth), (.ref auth)])) X381 hx rfl rfl rfl (pc0 := 478) (pc' := 481) (same := true) rfl (hb hby at_478) rfl (decide_eq_true rfl) (by decide) (by decide)) ?_
                show Go p e below T381 (mkF m 481 #[.val (.int p0), .val (.int p1), .val (.int p2), .val (.int p3), .val (.int p4), .val (.int ((p0 &&& (2147483647 : Int32)) % (5 : Int32))), .val (.int cc), .val (.int kp), .val (.ref b281), .val (.int pq), .val (.int (1 : Int32)), .val (.ref auth)] []) _
                refine stp (fun _ => XS.iconst X381.here hx rfl (hb hby at_481)) ?_
                show Go p e below T381 (mkF m 482 #[.val (.int p0), .val (.int p1), .val (.int p2), .val (.int p3), .val (.int p4), .val (.int ((p0 &&& (2147483647 : Int32)) % (5 : Int32))), .val (.int cc), .val (.int kp), .val (.ref b281), .val (.int pq), .val (.int (1 : Int32)), .val (.ref auth)] [(.int (1 : Int32))]) _
                refine stp (fun _ => XS.goto X381.here hx rfl (pc0 := 482) (pc' := 499) rfl (hb hby at_482) (by decide) (by decide)) ?_
                show Go p e below T381 (mkF m 499 #[.val (.int p0), .val (.int p1), .val (.int p2), .val (.int p3), .val (.int p4), .val (.int ((p0 &&& (2147483647 : Int32)) % (5 : Int32))), .val (.int cc), .val (.int kp), .val (.ref b281), .val (.int pq), .val (.int (1 : Int32)), .val (.ref auth)] [(.int (1 : Int32))]) _
                refine outNW X381 hx hZ hEL e381 hS hk CR (t := .boolean) hret (by simp) (hb hby at_499) hlk (by decide) (by decide) ?_
                exact ⟨rfl, N379⟩
              · refine stp (fun _ => XS.icmpYes X339.here hx rfl (pc0 := 425) (pc' := 432) rfl (hb hby at_425) rfl (XT.ii_ne_t q425_344) (by decide) (by decide)) ?_
                show Go p e below T339 (mkF m 432 #[.val (.int p0), .val (.int p1), .val (.int p2), .val (.int p3), .val (.int p4), .val (.int ((p0 &&& (2147483647 : Int32)) % (5 : Int32))), .val (.int cc), .val (.int kp), .val (.ref b281), .val (.int pq), .unset, .unset] []) _
                refine stp (fun _ => XS.iconst X339.here hx rfl (hb hby at_432)) ?_
                show Go p e below T339 (mkF m 433 #[.val (.int p0), .val (.int p1), .val (.int p2), .val (.int p3), .val (.int p4), .val (.int ((p0 &&& (2147483647 : Int32)) % (5 : Int32))), .val (.int cc), .val (.int kp), .val (.ref b281), .val (.int pq), .unset, .unset] [(.int (0 : Int32))]) _
                refine stp (fun _ => XS.istore X339.here hx rfl (hb hby at_433) rfl (l' := #[.val (.int p0), .val (.int p1), .val (.int p2), .val (.int p3), .val (.int p4), .val (.int ((p0 &&& (2147483647 : Int32)) % (5 : Int32))), .val (.int cc), .val (.int kp), .val (.ref b281), .val (.int pq), .val (.int (0 : Int32)), .unset]) rfl) ?_
                show Go p e below T339 (mkF m 435 #[.val (.int p0), .val (.int p1), .val (.int p2), .val (.int p3), .val (.int p4), .val (.int ((p0 &&& (2147483647 : Int32)) % (5 : Int32))), .val (.int cc), .val (.int kp), .val (.ref b281), .val (.int pq), .val (.int (0 : Int32)), .unset] []) _
                refine stp (fun _ => XS.iload X339.here hx rfl (hb hby at_435) rfl) ?_
                show Go p e below T339 (mkF m 437 #[.val (.int p0), .val (.int p1), .val (.int p2), .val (.int p3), .val (.int p4), .val (.int ((p0 &&& (2147483647 : Int32)) % (5 : Int32))), .val (.int cc), .val (.int kp), .val (.ref b281), .val (.int pq), .val (.int (0 : Int32)), .unset] [(.int kp)]) _
                refine stp (fun _ => XS.ifNo X339.here hx rfl (hb hby at_437) rfl (XT.i0_ne_f q415_342)) ?_
                show Go p e below T339 (mkF m 440 #[.val (.int p0), .val (.int p1), .val (.int p2), .val (.int p3), .val (.int p4), .val (.int ((p0 &&& (2147483647 : Int32)) % (5 : Int32))), .val (.int cc), .val (.int kp), .val (.ref b281), .val (.int pq), .val (.int (0 : Int32)), .unset] []) _
                refine stp (fun _ => XS.aload X339.here hx rfl (hb hby at_440) rfl rfl) ?_
                show Go p e below T339 (mkF m 442 #[.val (.int p0), .val (.int p1), .val (.int p2), .val (.int p3), .val (.int p4), .val (.int ((p0 &&& (2147483647 : Int32)) % (5 : Int32))), .val (.int cc), .val (.int kp), .val (.ref b281), .val (.int pq), .val (.int (0 : Int32)), .unset] [(.ref b281)]) _
                refine stp (fun _ => XS.iload X339.here hx rfl (hb hby at_442) rfl) ?_
                show Go p e below T339 (mkF m 444 #[.val (.int p0), .val (.int p1), .val (.int p2), .val (.int p3), .val (.int p4), .val (.int ((p0 &&& (2147483647 : Int32)) % (5 : Int32))), .val (.int cc), .val (.int kp), .val (.ref b281), .val (.int pq), .val (.int (0 : Int32)), .unset] [(.int pq), (.ref b281)]) _
                refine stp (fun _ => XS.iload X339.here hx rfl (hb hby at_444) rfl) ?_
                show Go p e below T339 (mkF m 446 #[.val (.int p0), .val (.int p1), .val (.int p2), .val (.int p3), .val (.int p4), .val (.int ((p0 &&& (2147483647 : Int32)) % (5 : Int32))), .val (.int cc), .val (.int kp), .val (.ref b281), .val (.int pq), .val (.int (0 : Int32)), .unset] [(.int cc), (.int pq), (.ref b281)]) _
                obtain ⟨cl382, Ar382, q382, S382, M382, H382, G382⟩ := (id V339)
                have in382 : ¬ (pq < 0 ∨ cl382.slots.size ≤ (pq).toNatClampNeg) := inb_of S382 hpq
                obtain ⟨T382, h382, X382, e382, W382, st382⟩ := stC X339 hx hZ e339 Ar382 (j := pq) in382 (g := (mkF m 446 #[.val (.int p0), .val (.int p1), .val (.int p2), .val (.int p3), .val (.int p4), .val (.int ((p0 &&& (2147483647 : Int32)) % (5 : Int32))), .val (.int cc), .val (.int kp), .val (.ref b281), .val (.int pq), .val (.int (0 : Int32)), .unset] [(.int cc), (.int pq), (.ref b281)])) rfl rfl (hb hby at_446)
                have V382 : Arv Z h382 b281 k281 .char (18 : Int32) [(.int (own_acp pq cc (0 : Int32))), (.int (own_acp pq cc (1 : Int32))), (.int (own_acp pq cc (2 : Int32))), (.int (own_acp pq cc (3 : Int32))), (.int (own_acp pq cc (4 : Int32))), (.int (own_acp pq cc (5 : Int32))), (.int (own_acp pq cc (6 : Int32))), (.int (own_acp pq cc (7 : Int32))), (.int (own_acp pq cc (8 : Int32))), (.int (own_acp pq cc (9 : Int32))), (.int (own_acp pq cc (10 : Int32))), (.int (own_acp pq cc (11 : Int32))), (.int (own_acp pq cc (12 : Int32))), (.int (own_acp pq cc (13 : Int32))), (.int (own_acp pq cc (14 : Int32))), (.int (own_acp pq cc (15 : Int32))), (.int (own_acp pq cc (16 : Int32))), (.int (own_acp pq cc (17 : Int32)))] (.int (0 : Int32)) := (own_ac_set hpq) ▸ Arv.set Ar382 q382 S382 M382 H382 G382 (ow_fits_char (char255 hcc)) (ow_wr_char (char255 hcc) W382) _ rfl (own_ac_lt hpq)
                have f383 := f340.wr W382
                have hk := Nat.le_trans hk (Keep.of_wr W382).1
                have CR := CR.trans (CHr.wr W382 (Safe.exa hZ.alike f340 (by decide) (by decide)) CR.1)
                have K382 : Keep h0 h382 [] := K339.wr W382 (Or.inr sz_b281)
                have O382 := O339.wr W382 ge_b281
                have N382 := Fr.snoc X382 N339 ge_b281
                refine stp st382 ?_
                show Go p e below T382 (mkF m 447 #[.val (.int p0), .val (.int p1), .val (.int p2), .val (.int p3), .val (.int p4), .val (.int ((p0 &&& (2147483647 : Int32)) % (5 : Int32))), .val (.int cc), .val (.int kp), .val (.ref b281), .val (.int pq), .val (.int (0 : Int32)), .unset] []) _
                obtain ⟨T385, h385, X385, e385, E385, A385, D385, -, st385⟩ := newO X382 hx hZ hown (hw _ (List.mem_of_getElem? (i := 43) rfl)) (hw _ (List.mem_of_getElem? (i := 44) rfl)) (hw _ (List.mem_of_getElem? (i := 28) rfl)) e382 (g := (mkF m 447 #[.val (.int p0), .val (.int p1), .val (.int p2), .val (.int p3), .val (.int p4), .val (.int ((p0 &&& (2147483647 : Int32)) % (5 : Int32))), .val (.int cc), .val (.int kp), .val (.ref b281), .val (.int pq), .val (.int (0 : Int32)), .unset] [])) rfl (hb hby at_447) (by decide) (by decide)
                obtain ⟨b385, g385⟩ : ∃ z, z = h382.size := ⟨_, rfl⟩
                rw [← g385] at A385 D385 st385
                have ne386 : auth ≠ b385 := O382.ne E_auth.lt (Nat.le_trans (old_le O382) (Nat.le_of_eq g385.symm))
                have ne387 : b281 ≠ b385 := Nat.ne_of_lt (Nat.lt_of_lt_of_le f383.lt (Nat.le_of_eq g385.symm))
                have ne388 : empty_ ≠ b385 := O382.ne E_em.lt (Nat.le_trans (old_le O382) (Nat.le_of_eq g385.symm))
                have ne389 : impl ≠ b385 := O382.ne E_impl.lt (Nat.le_trans (old_le O382) (Nat.le_of_eq g385.symm))
                have ne390 : va ≠ b385 := O382.ne E_va.lt (Nat.le_trans (old_le O382) (Nat.le_of_eq g385.symm))
                have ne391 : w1 ≠ b385 := O382.ne Q_w1.lt (Nat.le_trans (old_le O382) (Nat.le_of_eq g385.symm))
                have ne392 : w2 ≠ b385 := O382.ne Q_w2.lt (Nat.le_trans (old_le O382) (Nat.le_of_eq g385.symm))
                have sz_b385 : h0.size ≤ b385 := Nat.le_trans K382.1 (Nat.le_of_eq g385.symm)
                have ge_b385 : n0 ≤ b385 := Nat.le_trans (old_le O382) (Nat.le_of_eq g385.symm)
                have f393 := f383.ext E385
                have f394 := V382.ext E385
                have Sf385 := (Safe.new (Z := Z) (EL := consts_1) (Nat.le_of_eq g385.symm)).ext E385 CR.1
                have hk := Nat.le_trans hk E385.1
                have CR := CR.trans (CHr.ext E385 CR.1)
                have K385 : Keep h0 h385 [] := K382.ext E385
                have O385 := O382.ext E385
                have F395 : Fld Z h385 b385 "java/lang/String" "coder" "B" (.int (0 : Int32)) := D385 (Or.inr (hw _ (List.mem_of_getElem? (i := 68) rfl))) (ty := .byte) (by decide)
                have F396 : Fld Z h385 b385 "java/lang/String" "value" "[B" .null := D385 (Or.inr (hw _ (List.mem_of_getElem? (i := 70) rfl))) (ty := (.array .byte)) (by decide)
                refine stp st385 ?_
                show Go p e below T385 (mkF m 450 #[.val (.int p0), .val (.int p1), .val (.int p2), .val (.int p3), .val (.int p4), .val (.int ((p0 &&& (2147483647 : Int32)) % (5 : Int32))), .val (.int cc), .val (.int kp), .val (.ref b281), .val (.int pq), .val (.int (0 : Int32)), .unset] [(.ref b385)]) _
                refine stp (fun _ => XS.dup X385.here hx rfl (hb hby at_450) rfl rfl) ?_
                show Go p e below T385 (mkF m 451 #[.val (.int p0), .val (.int p1), .val (.int p2), .val (.int p3), .val (.int p4), .val (.int ((p0 &&& (2147483647 : Int32)) % (5 : Int32))), .val (.int cc), .val (.int kp), .val (.ref b281), .val (.int pq), .val (.int (0 : Int32)), .unset] [(.ref b385), (.ref b385)]) _
                refine stp (fun _ => XS.aload X385.here hx rfl (hb hby at_451) rfl rfl) ?_
                show Go p e below T385 (mkF m 453 #[.val (.int p0), .val (.int p1), .val (.int p2), .val (.int p3), .val (.int p4), .val (.int ((p0 &&& (2147483647 : Int32)) % (5 : Int32))), .val (.int cc), .val (.int kp), .val (.ref b281), .val (.int pq), .val (.int (0 : Int32)), .unset] [(.ref b281), (.ref b385), (.ref b385)]) _
                obtain ⟨_, _, ⟨T397, L397, k397, n397⟩, -, X397, ⟨Lc397, hQ397, l397, y397, z397⟩, st397⟩ := X385.specialBack hx (y := (⟨"java/lang/String", "<init>", "([C)V"⟩ : MethodName)) rfl hown (mvT hZ (hw _ (List.mem_of_getElem? (i := 45) rfl))) (mvT hZ (hw _ (List.mem_of_getElem? (i := 46) rfl))) (mvT hZ (hw _ (List.mem_of_getElem? (i := 47) rfl))) (by decide) (StrChars.Road.backV (W := 1) hZ hws (kI := 4) (hw _ (List.mem_of_getElem? (i := 44) rfl)) (cs := ([(own_acp pq cc (0 : Int32)), (own_acp pq cc (1 : Int32)), (own_acp pq cc (2 : Int32)), (own_acp pq cc (3 : Int32)), (own_acp pq cc (4 : Int32)), (own_acp pq cc (5 : Int32)), (own_acp pq cc (6 : Int32)), (own_acp pq cc (7 : Int32)), (own_acp pq cc (8 : Int32)), (own_acp pq cc (9 : Int32)), (own_acp pq cc (10 : Int32)), (own_acp pq cc (11 : Int32)), (own_acp pq cc (12 : Int32)), (own_acp pq cc (13 : Int32)), (own_acp pq cc (14 : Int32)), (own_acp pq cc (15 : Int32)), (own_acp pq cc (16 : Int32)), (own_acp pq cc (17 : Int32))] : List Int32)) (bs := ([(own_acp pq cc (0 : Int32)), (own_acp pq cc (1 : Int32)), (own_acp pq cc (2 : Int32)), (own_acp pq cc (3 : Int32)), (own_acp pq cc (4 : Int32)), (own_acp pq cc (5 : Int32)), (own_acp pq cc (6 : Int32)), (own_acp pq cc (7 : Int32)), (own_acp pq cc (8 : Int32)), (own_acp pq cc (9 : Int32)), (own_acp pq cc (10 : Int32)), (own_acp pq cc (11 : Int32)), (own_acp pq cc (12 : Int32)), (own_acp pq cc (13 : Int32)), (own_acp pq cc (14 : Int32)), (own_acp pq cc (15 : Int32)), (own_acp pq cc (16 : Int32)), (own_acp pq cc (17 : Int32))] : List Int32).map (fun c => c.toInt8.toInt32)) (n := 18) ge_b385 (old_le O385) A385 F396 F395 f394 (S_CS.ext O385.2) hcz rfl rfl (by decide) (by decide) (own_sm1 (own_acp_sm hcc _ _) (own_sm1 (own_acp_sm hcc _ _) (own_sm1 (own_acp_sm hcc _ _) (own_sm1 (own_acp_sm hcc _ _) (own_sm1 (own_acp_sm hcc _ _) (own_sm1 (own_acp_sm hcc _ _) (own_sm1 (own_acp_sm hcc _ _) (own_sm1 (own_acp_sm hcc _ _) (own_sm1 (own_acp_sm hcc _ _) (own_sm1 (own_acp_sm hcc _ _) (own_sm1 (own_acp_sm hcc _ _) (own_sm1 (own_acp_sm hcc _ _) (own_sm1 (own_acp_sm hcc _ _) (own_sm1 (own_acp_sm hcc _ _) (own_sm1 (own_acp_sm hcc _ _) (own_sm1 (own_acp_sm hcc _ _) (own_sm1 (own_acp_sm hcc _ _) (own_sm1 (own_acp_sm hcc _ _) own_sm0)))))))))))))))))) rfl (by decide) (by decide)) (g := (mkF m 453 #[.val (.int p0), .val (.int p1), .val (.int p2), .val (.int p3), .val (.int p4), .val (.int ((p0 &&& (2147483647 : Int32)) % (5 : Int32))), .val (.int cc), .val (.int kp), .val (.ref b281), .val (.int pq), .val (.int (0 : Int32)), .unset] [(.ref b281), (.ref b385), (.ref b385)])) rfl (by rw [hml]; rfl) (Steps.refl _) (a := b385) (argsL := [(.ref b281)]) (rest := [(.ref b385)]) (lenOf pd_7 rfl) rfl (by show 2 * 0 + _ ≤ _; exact Nat.le_of_eq rfl) (hb hby at_453) (fun _ _ => ⟨rfl, e385, (by decide : 2 + 1 ≤ _), (by decide : 22 + 18 ≤ _)⟩)
                dsimp only [Pt.U, Pt.locs, Pt.cells, Pt.slots] at X397 l397 y397 z397 st397 hQ397
                subst y397 z397
                obtain ⟨rfl, N397q, K397q, E397q, C397q, t397, kb397, ge_t397, sz397q, ne397q, F397q, V397q⟩ := hQ397
                have N397 : Fr n0 L397 := by rw [l397]; exact Fr.app N382 N397q
                have ne398 : b281 ≠ t397 := Nat.ne_of_lt (Nat.lt_of_lt_of_le f393.lt sz397q)
                have f399 := f393.keep K397q
                have f400 := f394.keep K397q (ninS ne387 nin0)
                have f401 := Sf385.keep K397q (sfS Sf385 sf0) CR.1
                have hk := Nat.le_trans hk K397q.1
                have CR := CR.trans (CHr.keep K397q (sfS Sf385 sf0) CR.1)
                have K397 : Keep h0 T397.heap [] := K385.trans K397q (allS (Or.inr sz_b385) all0)
                have sz_t397 : h0.size ≤ t397 := Nat.le_trans K385.1 sz397q
                have O397 := O385.keep K397q (allS ge_b385 all0)
                have Q397 : StrIs Z T397.heap b385 ([(own_acp pq cc (0 : Int32)), (own_acp pq cc (1 : Int32)), (own_acp pq cc (2 : Int32)), (own_acp pq cc (3 : Int32)), (own_acp pq cc (4 : Int32)), (own_acp pq cc (5 : Int32)), (own_acp pq cc (6 : Int32)), (own_acp pq cc (7 : Int32)), (own_acp pq cc (8 : Int32)), (own_acp pq cc (9 : Int32)), (own_acp pq cc (10 : Int32)), (own_acp pq cc (11 : Int32)), (own_acp pq cc (12 : Int32)), (own_acp pq cc (13 : Int32)), (own_acp pq cc (14 : Int32)), (own_acp pq cc (15 : Int32)), (own_acp pq cc (16 : Int32)), (own_acp pq cc (17 : Int32))] : List Int32) := StrIs.of E397q F397q C397q V397q rfl rfl (own_sm1 (own_acp_sm hcc _ _) (own_sm1 (own_acp_sm hcc _ _) (own_sm1 (own_acp_sm hcc _ _) (own_sm1 (own_acp_sm hcc _ _) (own_sm1 (own_acp_sm hcc _ _) (own_sm1 (own_acp_sm hcc _ _) (own_sm1 (own_acp_sm hcc _ _) (own_sm1 (own_acp_sm hcc _ _) (own_sm1 (own_acp_sm hcc _ _) (own_sm1 (own_acp_sm hcc _ _) (own_sm1 (own_acp_sm hcc _ _) (own_sm1 (own_acp_sm hcc _ _) (own_sm1 (own_acp_sm hcc _ _) (own_sm1 (own_acp_sm hcc _ _) (own_sm1 (own_acp_sm hcc _ _) (own_sm1 (own_acp_sm hcc _ _) (own_sm1 (own_acp_sm hcc _ _) (own_sm1 (own_acp_sm hcc _ _) own_sm0)))))))))))))))))) (Nat.le_of_ble_eq_true rfl)
                refine stt st397 ?_
                show Go p e below T397 (mkF m 456 #[.val (.int p0), .val (.int p1), .val (.int p2), .val (.int p3), .val (.int p4), .val (.int ((p0 &&& (2147483647 : Int32)) % (5 : Int32))), .val (.int cc), .val (.int kp), .val (.ref b281), .val (.int pq), .val (.int (0 : Int32)), .unset] [(.ref b385)]) _
                obtain ⟨_, _, ⟨T402, L402, k402, n402⟩, -, X402, ⟨Lc402, hQ402, l402, y402, z402⟩, st402⟩ := Jvm.LawKit.callS X397 hx (y := (⟨"com/example/uriel/uriel/grant/GrantType", "fromWireName", "(Ljava/lang/String;)Ljava/util/Optional;"⟩ : MethodName)) hown (mvT hZ (hw _ (List.mem_of_getElem? (i := 1) rfl))) (mvT hZ (hw _ (List.mem_of_getElem? (i := 2) rfl))) (mvT hZ (hw _ (List.mem_of_getElem? (i := 3) rfl))) (mvT hZ (hw _ (List.mem_of_getElem? (i := 4) rfl))) (by decide) (backOf (W := 0) (rm_fwn l Z a0 hw [] b385 auth impl va w1 w2 empty_ ([(own_acp pq cc (0 : Int32)), (own_acp pq cc (1 : Int32)), (own_acp pq cc (2 : Int32)), (own_acp pq cc (3 : Int32)), (own_acp pq cc (4 : Int32)), (own_acp pq cc (5 : Int32)), (own_acp pq cc (6 : Int32)), (own_acp pq cc (7 : Int32)), (own_acp pq cc (8 : Int32)), (own_acp pq cc (9 : Int32)), (own_acp pq cc (10 : Int32)), (own_acp pq cc (11 : Int32)), (own_acp pq cc (12 : Int32)), (own_acp pq cc (13 : Int32)), (own_acp pq cc (14 : Int32)), (own_acp pq cc (15 : Int32)), (own_acp pq cc (16 : Int32)), (own_acp pq cc (17 : Int32))] : List Int32) cz k_va T397.heap n0 O397 S_VALUES E_va V_va F_w1 F_w2 Q_w1 Q_w2 S_EM Q397 S_CS hcz (fun q => q425_344 ((own_ac_eq hpq).mp q)) (own_im_ne (show (8 : Nat) ≠ 18 by decide))) hZ (hw _ (List.mem_of_getElem? (i := 4) rfl)) (hw _ (List.mem_of_getElem? (i := 3) rfl)) (by decide) (by decide)) (g := (mkF m 456 #[.val (.int p0), .val (.int p1), .val (.int p2), .val (.int p3), .val (.int p4), .val (.int ((p0 &&& (2147483647 : Int32)) % (5 : Int32))), .val (.int cc), .val (.int kp), .val (.ref b281), .val (.int pq), .val (.int (0 : Int32)), .unset] [(.ref b385)])) rfl (by rw [hml]; rfl) (argsL := [(.ref b385)]) (rest := []) (lenOf pd_5 rfl) rfl (by show 2 * 0 + _ ≤ _; exact Nat.le_of_eq rfl) (hb hby at_456) (fun _ _ => ⟨rfl, rfl, (by decide : 3 + 1 ≤ _), (by decide : 40 + 2 ≤ _)⟩)
                dsimp only [Pt.U, Pt.locs, Pt.cells, Pt.slots] at X402 l402 y402 z402 st402 hQ402
                subst y402 z402
                obtain ⟨rfl, N402q, K402q⟩ := hQ402
                have N402 : Fr n0 L402 := by rw [l402]; exact Fr.app N397 N402q
                have f403 := f399.keep K402q
                have f404 := f400.keep K402q nin0
                have f405 := f401.keep K402q sf0 CR.1
                have f406 := E397q.keep K402q
                have f407 := Q397.keep K402q nin0 apart0
                have hk := Nat.le_trans hk K402q.1
                have CR := CR.trans (CHr.keep K402q sf0 CR.1)
                have K402 : Keep h0 T402.heap [] := K397.trans K402q all0
                have O402 := O397.keep K402q all0
                refine stp st402 ?_
                show Go p e below T402 (mkF m 459 #[.val (.int p0), .val (.int p1), .val (.int p2), .val (.int p3), .val (.int p4), .val (.int ((p0 &&& (2147483647 : Int32)) % (5 : Int32))), .val (.int cc), .val (.int kp), .val (.ref b281), .val (.int pq), .val (.int (0 : Int32)), .unset] [(.ref empty_)]) _
                refine stp (fun _ => XS.aconstNull X402.here hx rfl (hb hby at_459)) ?_
                show Go p e below T402 (mkF m 460 #[.val (.int p0), .val (.int p1), .val (.int p2), .val (.int p3), .val (.int p4), .val (.int ((p0 &&& (2147483647 : Int32)) % (5 : Int32))), .val (.int cc), .val (.int kp), .val (.ref b281), .val (.int pq), .val (.int (0 : Int32)), .unset] [.null, (.ref empty_)]) _
                obtain ⟨cq408, kq408, q408a, q408b, q408c⟩ := isOf hZ rfl (E_em.ext O402.2)
                obtain ⟨_, _, ⟨T408, L408, k408, n408⟩, -, X408, ⟨Lc408, hQ408, l408, y408, z408⟩, st408⟩ := X402.virtualBack hx (y := (⟨"java/util/Optional", "orElse", "(Ljava/lang/Object;)Ljava/lang/Object;"⟩ : MethodName)) (z := (⟨"java/util/Optional", "orElse", "(Ljava/lang/Object;)Ljava/lang/Object;"⟩ : MethodName)) hown (mvT hZ (hw _ (List.mem_of_getElem? (i := 35) rfl))) (mvT hZ (hw _ (List.mem_of_getElem? (i := 36) rfl))) (notFace_of_selects (args := #[]) (mvT hZ (hw _ (List.mem_of_getElem? (i := 38) rfl)))) (mvT hZ (hw _ (List.mem_of_getElem? (i := 38) rfl))) (mvT hZ (hw _ (List.mem_of_getElem? (i := 37) rfl))) (by decide) (backOf (W := 0) (rm_oe0 l Z a0 hw [] empty_  T402.heap n0 O402 F_em) hZ (hw _ (List.mem_of_getElem? (i := 39) rfl)) (hw _ (List.mem_of_getElem? (i := 32) rfl)) (by decide) (by decide)) q408a q408c (g := (mkF m 460 #[.val (.int p0), .val (.int p1), .val (.int p2), .val (.int p3), .val (.int p4), .val (.int ((p0 &&& (2147483647 : Int32)) % (5 : Int32))), .val (.int cc), .val (.int kp), .val (.ref b281), .val (.int pq), .val (.int (0 : Int32)), .unset] [.null, (.ref empty_)])) rfl (by rw [hml]; rfl) (Steps.refl _) (argsL := [.null]) (rest := []) (lenOf pd_6 rfl) rfl (by show 2 * 0 + _ ≤ _; exact Nat.le_of_eq rfl) (hb hby at_460) (fun _ _ => ⟨rfl, rfl, (by decide : 4 + 0 ≤ _), (by decide : 42 + 0 ≤ _)⟩)
                dsimp only [Pt.U, Pt.locs, Pt.cells, Pt.slots] at X408 l408 y408 z408 st408 hQ408
                subst y408 z408
                obtain ⟨rfl, N408q, e408⟩ := hQ408
                have N408 : Fr n0 L408 := by rw [l408]; exact Fr.app N402 N408q
                refine stt st408 ?_
                show Go p e below T408 (mkF m 463 #[.val (.int p0), .val (.int p1), .val (.int p2), .val (.int p3), .val (.int p4), .val (.int ((p0 &&& (2147483647 : Int32)) % (5 : Int32))), .val (.int cc), .val (.int kp), .val (.ref b281), .val (.int pq), .val (.int (0 : Int32)), .unset] [.null]) _
                refine stp (fun _ => X408.checkcastNull hx (g := (mkF m 463 #[.val (.int p0), .val (.int p1), .val (.int p2), .val (.int p3), .val (.int p4), .val (.int ((p0 &&& (2147483647 : Int32)) % (5 : Int32))), .val (.int cc), .val (.int kp), .val (.ref b281), .val (.int pq), .val (.int (0 : Int32)), .unset] [.null])) rfl rfl (hb hby at_463) _) ?_
                show Go p e below T408 (mkF m 466 #[.val (.int p0), .val (.int p1), .val (.int p2), .val (.int p3), .val (.int p4), .val (.int ((p0 &&& (2147483647 : Int32)) % (5 : Int32))), .val (.int cc), .val (.int kp), .val (.ref b281), .val (.int pq), .val (.int (0 : Int32)), .unset] [.null]) _
                refine stp (fun _ => XS.astore X408.here hx rfl (hb hby at_466) rfl rfl (l' := #[.val (.int p0), .val (.int p1), .val (.int p2), .val (.int p3), .val (.int p4), .val (.int ((p0 &&& (2147483647 : Int32)) % (5 : Int32))), .val (.int cc), .val (.int kp), .val (.ref b281), .val (.int pq), .val (.int (0 : Int32)), .val .null]) rfl) ?_
                show Go p e below T408 (mkF m 468 #[.val (.int p0), .val (.int p1), .val (.int p2), .val (.int p3), .val (.int p4), .val (.int ((p0 &&& (2147483647 : Int32)) % (5 : Int32))), .val (.int cc), .val (.int kp), .val (.ref b281), .val (.int pq), .val (.int (0 : Int32)), .val .null] []) _
                refine stp (fun _ => XS.iload X408.here hx rfl (hb hby at_468) rfl) ?_
                show Go p e below T408 (mkF m 470 #[.val (.int p0), .val (.int p1), .val (.int p2), .val (.int p3), .val (.int p4), .val (.int ((p0 &&& (2147483647 : Int32)) % (5 : Int32))), .val (.int cc), .val (.int kp), .val (.ref b281), .val (.int pq), .val (.int (0 : Int32)), .val .null] [(.int (0 : Int32))]) _
                refine stp (fun _ => XS.ifYes X408.here hx rfl (pc0 := 470) (pc' := 489) rfl (hb hby at_470) rfl (by decide) (by decide) (by decide)) ?_
                show Go p e below T408 (mkF m 489 #[.val (.int p0), .val (.int p1), .val (.int p2), .val (.int p3), .val (.int p4), .val (.int ((p0 &&& (2147483647 : Int32)) % (5 : Int32))), .val (.int cc), .val (.int kp), .val (.ref b281), .val (.int pq), .val (.int (0 : Int32)), .val .null] []) _
                refine stp (fun _ => XS.aload X408.here hx rfl (hb hby at_489) rfl rfl) ?_
                show Go p e below T408 (mkF m 491 #[.val (.int p0), .val (.int p1), .val (.int p2), .val (.int p3), .val (.int p4), .val (.int ((p0 &&& (2147483647 : Int32)) % (5 : Int32))), .val (.int cc), .val (.int kp), .val (.ref b281), .val (.int pq), .val (.int (0 : Int32)), .val .null] [.null]) _
                refine stp (fun _ => XS.ifnonnullNo X408.here hx rfl (hb hby at_491) rfl) ?_
                show Go p e below T408 (mkF m 494 #[.val (.int p0), .val (.int p1), .val (.int p2), .val (.int p3), .val (.int p4), .val (.int ((p0 &&& (2147483647 : Int32)) % (5 : Int32))), .val (.int cc), .val (.int kp), .val (.ref b281), .val (.int pq), .val (.int (0 : Int32)), .val .null] []) _
                refine stp (fun _ => XS.iconst X408.here hx rfl (hb hby at_494)) ?_
                show Go p e below T408 (mkF m 495 #[.val (.int p0), .val (.int p1), .val (.int p2), .val (.int p3), .val (.int p4), .val (.int ((p0 &&& (2147483647 : Int32)) % (5 : Int32))), .val (.int cc), .val (.int kp), .val (.ref b281), .val (.int pq), .val (.int (0 : Int32)), .val .null] [(.int (1 : Int32))]) _
                refine stp (fun _ => XS.goto X408.here hx rfl (pc0 := 495) (pc' := 499) rfl (hb hby at_495) (by decide) (by decide)) ?_
                show Go p e below T408 (mkF m 499 #[.val (.int p0), .val (.int p1), .val (.int p2), .val (.int p3), .val (.int p4), .val (.int ((p0 &&& (2147483647 : Int32)) % (5 : Int32))), .val (.int cc), .val (.int kp), .val (.ref b281), .val (.int pq), .val (.int (0 : Int32)), .val .null] [(.int (1 : Int32))]) _
                refine outNW X408 hx hZ hEL e408 hS hk CR (t := .boolean) hret (by simp) (hb hby at_499) hlk (by decide) (by decide) ?_
                exact ⟨rfl, N408⟩
            · refine stp (fun _ => XS.ifYes X339.here hx rfl (pc0 := 415) (pc' := 428) rfl (hb hby at_415) rfl (XT.i0_ne_t q415_342) (by decide) (by decide)) ?_
              show Go p e below T339 (mkF m 428 #[.val (.int p0), .val (.int p1), .val (.int p2), .val (.int p3), .val (.int p4), .val (.int ((p0 &&& (2147483647 : Int32)) % (5 : Int32))), .val (.int cc), .val (.int kp), .val (.ref b281), .val (.int pq), .unset, .unset] []) _
              refine stp (fun _ => XS.iconst X339.here hx rfl (hb hby at_428)) ?_
              show Go p e below T339 (mkF m 429 #[.val (.int p0), .val (.int p1), .val (.int p2), .val (.int p3), .val (.int p4), .val (.int ((p0 &&& (2147483647 : Int32)) % (5 : Int32))), .val (.int cc), .val (.int kp), .val (.ref b281), .val (.int pq), .unset, .unset] [(.int (1 : Int32))]) _
              refine stp (fun _ => XS.goto X339.here hx rfl (pc0 := 429) (pc' := 433) rfl (hb hby at_429) (by decide) (by decide)) ?_
              show Go p e below T339 (mkF m 433 #[.val (.int p0), .val (.int p1), .val (.int p2), .val (.int p3), .val (.int p4), .val (.int ((p0 &&& (2147483647 : Int32)) % (5 : Int32))), .val (.int cc), .val (.int kp), .val (.ref b281), .val (.int pq), .unset, .unset] [(.int (1 : Int32))]) _
              refine stp (fun _ => XS.istore X339.here hx rfl (hb hby at_433) rfl (l' := #[.val (.int p0), .val (.int p1), .val (.int p2), .val (.int p3), .val (.int p4), .val (.int ((p0 &&& (2147483647 : Int32)) % (5 : Int32))), .val (.int cc), .val (.int kp), .val (.ref b281), .val (.int pq), .val (.int (1 : Int32)), .unset]) rfl) ?_
              show Go p e below T339 (mkF m 435 #[.val (.int p0), .val (.int p1), .val (.int p2), .val (.int p3), .val (.int p4), .val (.int ((p0 &&& (2147483647 : Int32)) % (5 : Int32))), .val (.int cc), .val (.int kp), .val (.ref b281), .val (.int pq), .val (.int (1 : Int32)), .unset] []) _
              refine stp (fun _ => XS.iload X339.here hx rfl (hb hby at_435) rfl) ?_
              show Go p e below T339 (mkF m 437 #[.val (.int p0), .val (.int p1), .val (.int p2), .val (.int p3), .val (.int p4), .val (.int ((p0 &&& (2147483647 : Int32)) % (5 : Int32))), .val (.int cc), .val (.int kp), .val (.ref b281), .val (.int pq), .val (.int (1 : Int32)), .unset] [(.int kp)]) _
              refine stp (fun _ => XS.ifYes X339.here hx rfl (pc0 := 437) (pc' := 447) rfl (hb hby at_437) rfl (XT.i0_ne_t q415_342) (by decide) (by decide)) ?_
              show Go p e below T339 (mkF m 447 #[.val (.int p0), .val (.int p1), .val (.int p2), .val (.int p3), .val (.int p4), .val (.int ((p0 &&& (2147483647 : Int32)) % (5 : Int32))), .val (.int cc), .val (.int kp), .val (.ref b281), .val (.int pq), .val (.int (1 : Int32)), .unset] []) _
              obtain ⟨T409, h409, X409, e409, E409, A409, D409, -, st409⟩ := newO X339 hx hZ hown (hw _ (List.mem_of_getElem? (i := 43) rfl)) (hw _ (List.mem_of_getElem? (i := 44) rfl)) (hw _ (List.mem_of_getElem? (i := 28) rfl)) e339 (g := (mkF m 447 #[.val (.int p0), .val (.int p1), .val (.int p2), .val (.int p3), .val (.int p4), .val (.int ((p0 &&& (2147483647 : Int32)) % (5 : Int32))), .val (.int cc), .val (.int kp), .val (.ref b281), .val (.int pq), .val (.int (1 : Int32)), .unset] [])) rfl (hb hby at_447) (by decide) (by decide)
              obtain ⟨b409, g409⟩ : ∃ z, z = h339.size := ⟨_, rfl⟩
              rw [← g409] at A409 D409 st409
              have ne410 : auth ≠ b409 := O339.ne E_auth.lt (Nat.le_trans (old_le O339) (Nat.le_of_eq g409.symm))
              have ne411 : b281 ≠ b409 := Nat.ne_of_lt (Nat.lt_of_lt_of_le f340.lt (Nat.le_of_eq g409.symm))
              have ne412 : empty_ ≠ b409 := O339.ne E_em.lt (Nat.le_trans (old_le O339) (Nat.le_of_eq g409.symm))
              have ne413 : impl ≠ b409 := O339.ne E_impl.lt (Nat.le_trans (old_le O339) (Nat.le_of_eq g409.symm))
              have ne414 : va ≠ b409 := O339.ne E_va.lt (Nat.le_trans (old_le O339) (Nat.le_of_eq g409.symm))
              have ne415 : w1 ≠ b409 := O339.ne Q_w1.lt (Nat.le_trans (old_le O339) (Nat.le_of_eq g409.symm))
              have ne416 : w2 ≠ b409 := O339.ne Q_w2.lt (Nat.le_trans (old_le O339) (Nat.le_of_eq g409.symm))
              have sz_b409 : h0.size ≤ b409 := Nat.le_trans K339.1 (Nat.le_of_eq g409.symm)
              have ge_b409 : n0 ≤ b409 := Nat.le_trans (old_le O339) (Nat.le_of_eq g409.symm)
              have f417 := f340.ext E409
              have f418 := V339.ext E409
              have Sf409 := (Safe.new (Z := Z) (EL := consts_1) (Nat.le_of_eq g409.symm)).ext E409 CR.1
              have hk := Nat.le_trans hk E409.1
              have CR := CR.trans (CHr.ext E409 CR.1)
              have K409 : Keep h0 h409 [] := K339.ext E409
              have O409 := O339.ext E409
              have F419 : Fld Z h409 b409 "java/lang/String" "coder" "B" (.int (0 : Int32)) := D409 (Or.inr (hw _ (List.mem_of_getElem? (i := 68) rfl))) (ty := .byte) (by decide)
              have F420 : Fld Z h409 b409 "java/lang/String" "value" "[B" .null := D409 (Or.inr (hw _ (List.mem_of_getElem? (i := 70) rfl))) (ty := (.array .byte)) (by decide)
              refine stp st409 ?_
              show Go p e below T409 (mkF m 450 #[.val (.int p0), .val (.int p1), .val (.int p2), .val (.int p3), .val (.int p4), .val (.int ((p0 &&& (2147483647 : Int32)) % (5 : Int32))), .val (.int cc), .val (.int kp), .val (.ref b281), .val (.int pq), .val (.int (1 : Int32)), .unset] [(.ref b409)]) _
              refine stp (fun _ => XS.dup X409.here hx rfl (hb hby at_450) rfl rfl) ?_
              show Go p e below T409 (mkF m 451 #[.val (.int p0), .val (.int p1), .val (.int p2), .val (.int p3), .val (.int p4), .val (.int ((p0 &&& (2147483647 : Int32)) % (5 : Int32))), .val (.int cc), .val (.int kp), .val (.ref b281), .val (.int pq), .val (.int (1 : Int32)), .unset] [(.ref b409), (.ref b409)]) _
              refine stp (fun _ => XS.aload X409.here hx rfl (hb hby at_451) rfl rfl) ?_
              show Go p e below T409 (mkF m 453 #[.val (.int p0), .val (.int p1), .val (.int p2), .val (.int p3), .val (.int p4), .val (.int ((p0 &&& (2147483647 : Int32)) % (5 : Int32))), .val (.int cc), .val (.int kp), .val (.ref b281), .val (.int pq), .val (.int (1 : Int32)), .unset] [(.ref b281), (.ref b409), (.ref b409)]) _
              obtain ⟨_, _, ⟨T421, L421, k421, n421⟩, -, X421, ⟨Lc421, hQ421, l421, y421, z421⟩, st421⟩ := X409.specialBack hx (y := (⟨"java/lang/String", "<init>", "([C)V"⟩ : MethodName)) rfl hown (mvT hZ (hw _ (List.mem_of_getElem? (i := 45) rfl))) (mvT hZ (hw _ (List.mem_of_getElem? (i := 46) rfl))) (mvT hZ (hw _ (List.mem_of_getElem? (i := 47) rfl))) (by decide) (StrChars.Road.backV (W := 1) hZ hws (kI := 4) (hw _ (List.mem_of_getElem? (i := 44) rfl)) (cs := ([(97 : Int32), (117 : Int32), (116 : Int32), (104 : Int32), (111 : Int32), (114 : Int32), (105 : Int32), (122 : Int32), (97 : Int32), (116 : Int32), (105 : Int32), (111 : Int32), (110 : Int32), (95 : Int32), (99 : Int32), (111 : Int32), (100 : Int32), (101 : Int32)] : List Int32)) (bs := ([(97 : Int32), (117 : Int32), (116 : Int32), (104 : Int32), (111 : Int32), (114 : Int32), (105 : Int32), (122 : Int32), (97 : Int32), (116 : Int32), (105 : Int32), (111 : Int32), (110 : Int32), (95 : Int32), (99 : Int32), (111 : Int32), (100 : Int32), (101 : Int32)] : List Int32).map (fun c => c.toInt8.toInt32)) (n := 18) ge_b409 (old_le O409) A409 F420 F419 f418 (S_CS.ext O409.2) hcz rfl rfl (by decide) (by decide) (own_sm1 ⟨by decide, by decide⟩ (own_sm1 ⟨by decide, by decide⟩ (own_sm1 ⟨by decide, by decide⟩ (own_sm1 ⟨by decide, by decide⟩ (own_sm1 ⟨by decide, by decide⟩ (own_sm1 ⟨by decide, by decide⟩ (own_sm1 ⟨by decide, by decide⟩ (own_sm1 ⟨by decide, by decide⟩ (own_sm1 ⟨by decide, by decide⟩ (own_sm1 ⟨by decide, by decide⟩ (own_sm1 ⟨by decide, by decide⟩ (own_sm1 ⟨by decide, by decide⟩ (own_sm1 ⟨by decide, by decide⟩ (own_sm1 ⟨by decide, by decide⟩ (own_sm1 ⟨by decide, by decide⟩ (own_sm1 ⟨by decide, by decide⟩ (own_sm1 ⟨by decide, by decide⟩ (own_sm1 ⟨by decide, by decide⟩ own_sm0)))))))))))))))))) rfl (by decide) (by decide)) (g := (mkF m 453 #[.val (.int p0), .val (.int p1), .val (.int p2), .val (.int p3), .val (.int p4), .val (.int ((p0 &&& (2147483647 : Int32)) % (5 : Int32))), .val (.int cc), .val (.int kp), .val (.ref b281), .val (.int pq), .val (.int (1 : Int32)), .unset] [(.ref b281), (.ref b409), (.ref b409)])) rfl (by rw [hml]; rfl) (Steps.refl _) (a := b409) (argsL := [(.ref b281)]) (rest := [(.ref b409)]) (lenOf pd_7 rfl) rfl (by show 2 * 0 + _ ≤ _; exact Nat.le_of_eq rfl) (hb hby at_453) (fun _ _ => ⟨rfl, e409, (by decide : 2 + 1 ≤ _), (by decide : 22 + 18 ≤ _)⟩)
              dsimp only [Pt.U, Pt.locs, Pt.cells, Pt.slots] at X421 l421 y421 z421 st421 hQ421
              subst y421 z421
              obtain ⟨rfl, N421q, K421q, E421q, C421q, t421, kb421, ge_t421, sz421q, ne421q, F421q, V421q⟩ := hQ421
              have N421 : Fr n0 L421 := by rw [l421]; exact Fr.app N339 N421q
              have ne422 : b281 ≠ t421 := Nat.ne_of_lt (Nat.lt_of_lt_of_le f417.lt sz421q)
              have f423 := f417.keep K421q
              have f424 := f418.keep K421q (ninS ne411 nin0)
              have f425 := Sf409.keep K421q (sfS Sf409 sf0) CR.1
              have hk := Nat.le_trans hk K421q.1
              have CR := CR.trans (CHr.keep K421q (sfS Sf409 sf0) CR.1)
              have K421 : Keep h0 T421.heap [] := K409.trans K421q (allS (Or.inr sz_b409) all0)
              have sz_t421 : h0.size ≤ t421 := Nat.le_trans K409.1 sz421q
              have O421 := O409.keep K421q (allS ge_b409 all0)
              have Q421 : StrIs Z T421.heap b409 ([(97 : Int32), (117 : Int32), (116 : Int32), (104 : Int32), (111 : Int32), (114 : Int32), (105 : Int32), (122 : Int32), (97 : Int32), (116 : Int32), (105 : Int32), (111 : Int32), (110 : Int32), (95 : Int32), (99 : Int32), (111 : Int32), (100 : Int32), (101 : Int32)] : List Int32) := StrIs.of E421q F421q C421q V421q rfl rfl (own_sm1 ⟨by decide, by decide⟩ (own_sm1 ⟨by decide, by decide⟩ (own_sm1 ⟨by decide, by decide⟩ (own_sm1 ⟨by decide, by decide⟩ (own_sm1 ⟨by decide, by decide⟩ (own_sm1 ⟨by decide, by decide⟩ (own_sm1 ⟨by decide, by decide⟩ (own_sm1 ⟨by decide, by decide⟩ (own_sm1 ⟨by decide, by decide⟩ (own_sm1 ⟨by decide, by decide⟩ (own_sm1 ⟨by decide, by decide⟩ (own_sm1 ⟨by decide, by decide⟩ (own_sm1 ⟨by decide, by decide⟩ (own_sm1 ⟨by decide, by decide⟩ (own_sm1 ⟨by decide, by decide⟩ (own_sm1 ⟨by decide, by decide⟩ (own_sm1 ⟨by decide, by decide⟩ (own_sm1 ⟨by decide, by decide⟩ own_sm0)))))))))))))))))) (Nat.le_of_ble_eq_true rfl)
              refine stt st421 ?_
              show Go p e below T421 (mkF m 456 #[.val (.int p0), .val (.int p1), .val (.int p2), .val (.int p3), .val (.int p4), .val (.int ((p0 &&& (2147483647 : Int32)) % (5 : Int32))), .val (.int cc), .val (.int kp), .val (.ref b281), .val (.int pq), .val (.int (1 : Int32)), .unset] [(.ref b409)]) _
              obtain ⟨_, _, ⟨T426, L426, k426, n426⟩, -, X426, ⟨Lc426, hQ426, l426, y426, z426⟩, st426⟩ := Jvm.LawKit.callS X421 hx (y := (⟨"com/example/uriel/uriel/grant/GrantType", "fromWireName", "(Ljava/lang/String;)Ljava/util/Optional;"⟩ : MethodName)) hown (mvT hZ (hw _ (List.mem_of_getElem? (i := 1) rfl))) (mvT hZ (hw _ (List.mem_of_getElem? (i := 2) rfl))) (mvT hZ (hw _ (List.mem_of_getElem? (i := 3) rfl))) (mvT hZ (hw _ (List.mem_of_getElem? (i := 4) rfl))) (by decide) (backOf (W := 0) (rm_fwa l Z a0 hw [] b409 auth impl va w1 w2 ([(97 : Int32), (117 : Int32), (116 : Int32), (104 : Int32), (111 : Int32), (114 : Int32), (105 : Int32), (122 : Int32), (97 : Int32), (116 : Int32), (105 : Int32), (111 : Int32), (110 : Int32), (95 : Int32), (99 : Int32), (111 : Int32), (100 : Int32), (101 : Int32)] : List Int32) cz k_va T421.heap n0 O421 S_VALUES E_va V_va F_w1 F_w2 Q_w1 Q_w2 Q421 S_CS hcz rfl (own_im_ne (show (8 : Nat) ≠ 18 by decide))) hZ (hw _ (List.mem_of_getElem? (i := 4) rfl)) (hw _ (List.mem_of_getElem? (i := 3) rfl)) (by decide) (by decide)) (g := (mkF m 456 #[.val (.int p0), .val (.int p1), .val (.int p2), .val (.int p3), .val (.int p4), .val (.int ((p0 &&& (2147483647 : Int32)) % (5 : Int32))), .val (.int cc), .val (.int kp), .val (.ref b281), .val (.int pq), .val (.int (1 : Int32)), .unset] [(.ref b409)])) rfl (by rw [hml]; rfl) (argsL := [(.ref b409)]) (rest := []) (lenOf pd_5 rfl) rfl (by show 2 * 0 + _ ≤ _; exact Nat.le_of_eq rfl) (hb hby at_456) (fun _ _ => ⟨rfl, rfl, (by decide : 3 + 2 ≤ _), (by decide : 40 + 3 ≤ _)⟩)
              dsimp only [Pt.U, Pt.locs, Pt.cells, Pt.slots] at X426 l426 y426 z426 st426 hQ426
              subst y426 z426
              obtain ⟨r426, rfl, N426q, K426q, ⟨ge_r426, sz426_r426⟩, r426_0, r426_1⟩ := hQ426
              have N426 : Fr n0 L426 := by rw [l426]; exact Fr.app N421 N426q
              have ne427 : b281 ≠ r426 := Nat.ne_of_lt (Nat.lt_of_lt_of_le f423.lt sz426_r426)
              have ne428 : b409 ≠ r426 := Nat.ne_of_lt (Nat.lt_of_lt_of_le E421q.lt sz426_r426)
              have ne429 : auth ≠ r426 := O421.ne E_auth.lt ge_r426
              have ne430 : empty_ ≠ r426 := O421.ne E_em.lt ge_r426
              have ne431 : impl ≠ r426 := O421.ne E_impl.lt ge_r426
              have ne432 : va ≠ r426 := O421.ne E_va.lt ge_r426
              have ne433 : w1 ≠ r426 := O421.ne Q_w1.lt ge_r426
              have ne434 : w2 ≠ r426 := O421.ne Q_w2.lt ge_r426
              have f435 := f423.keep K426q
              have f436 := f424.keep K426q nin0
              have f437 := f425.keep K426q sf0 CR.1
              have f438 := E421q.keep K426q
              have f439 := Q421.keep K426q nin0 apart0
              have hk := Nat.le_trans hk K426q.1
              have CR := CR.trans (CHr.keep K426q sf0 CR.1)
              have sz_r426 : h0.size ≤ r426 := Nat.le_trans K421.1 sz426_r426
              have K426 : Keep h0 T426.heap [] := K421.trans K426q all0
              have O426 := O421.keep K426q all0
              refine stp st426 ?_
              show Go p e below T426 (mkF m 459 #[.val (.int p0), .val (.int p1), .val (.int p2), .val (.int p3), .val (.int p4), .val (.int ((p0 &&& (2147483647 : Int32)) % (5 : Int32))), .val (.int cc), .val (.int kp), .val (.ref b281), .val (.int pq), .val (.int (1 : Int32)), .unset] [(.ref r426)]) _
              refine stp (fun _ => XS.aconstNull X426.here hx rfl (hb hby at_459)) ?_
              show Go p e below T426 (mkF m 460 #[.val (.int p0), .val (.int p1), .val (.int p2), .val (.int p3), .val (.int p4), .val (.int ((p0 &&& (2147483647 : Int32)) % (5 : Int32))), .val (.int cc), .val (.int kp), .val (.ref b281), .val (.int pq), .val (.int (1 : Int32)), .unset] [.null, (.ref r426)]) _
              obtain ⟨cq440, kq440, q440a, q440b, q440c⟩ := isOf hZ rfl r426_0
              obtain ⟨_, _, ⟨T440, L440, k440, n440⟩, -, X440, ⟨Lc440, hQ440, l440, y440, z440⟩, st440⟩ := X426.virtualBack hx (y := (⟨"java/util/Optional", "orElse", "(Ljava/lang/Object;)Ljava/lang/Object;"⟩ : MethodName)) (z := (⟨"java/util/Optional", "orElse", "(Ljava/lang/Object;)Ljava/lang/Object;"⟩ : MethodName)) hown (mvT hZ (hw _ (List.mem_of_getElem? (i := 35) rfl))) (mvT hZ (hw _ (List.mem_of_getElem? (i := 36) rfl))) (notFace_of_selects (args := #[]) (mvT hZ (hw _ (List.mem_of_getElem? (i := 38) rfl)))) (mvT hZ (hw _ (List.mem_of_getElem? (i := 38) rfl))) (mvT hZ (hw _ (List.mem_of_getElem? (i := 37) rfl))) (by decide) (backOf (W := 0) (rm_oe1 l Z a0 hw [] r426 auth T426.heap n0 O426 r426_1) hZ (hw _ (List.mem_of_getElem? (i := 39) rfl)) (hw _ (List.mem_of_getElem? (i := 32) rfl)) (by decide) (by decide)) q440a q440c (g := (mkF m 460 #[.val (.int p0), .val (.int p1), .val (.int p2), .val (.int p3), .val (.int p4), .val (.int ((p0 &&& (2147483647 : Int32)) % (5 : Int32))), .val (.int cc), .val (.int kp), .val (.ref b281), .val (.int pq), .val (.int (1 : Int32)), .unset] [.null, (.ref r426)])) rfl (by rw [hml]; rfl) (Steps.refl _) (argsL := [.null]) (rest := []) (lenOf pd_6 rfl) rfl (by show 2 * 0 + _ ≤ _; exact Nat.le_of_eq rfl) (hb hby at_460) (fun _ _ => ⟨rfl, rfl, (by decide : 5 + 0 ≤ _), (by decide : 43 + 0 ≤ _)⟩)
              dsimp only [Pt.U, Pt.locs, Pt.cells, Pt.slots] at X440 l440 y440 z440 st440 hQ440
              subst y440 z440
              obtain ⟨rfl, N440q, e440⟩ := hQ440
              have N440 : Fr n0 L440 := by rw [l440]; exact Fr.app N426 N440q
              refine stt st440 ?_
              show Go p e below T440 (mkF m 463 #[.val (.int p0), .val (.int p1), .val (.int p2), .val (.int p3), .val (.int p4), .val (.int ((p0 &&& (2147483647 : Int32)) % (5 : Int32))), .val (.int cc), .val (.int kp), .val (.ref b281), .val (.int pq), .val (.int (1 : Int32)), .unset] [(.ref auth)]) _
              obtain ⟨T441, X441, e441, st441⟩ := castY X440 hx hZ hown (hw _ (List.mem_of_getElem? (i := 83) rfl)) e440 (Ins.self (E_auth.ext O426.2)) (g := (mkF m 463 #[.val (.int p0), .val (.int p1), .val (.int p2), .val (.int p3), .val (.int p4), .val (.int ((p0 &&& (2147483647 : Int32)) % (5 : Int32))), .val (.int cc), .val (.int kp), .val (.ref b281), .val (.int pq), .val (.int (1 : Int32)), .unset] [(.ref auth)])) rfl rfl (hb hby at_463)
              refine stp st441 ?_
              show Go p e below T441 (mkF m 466 #[.val (.int p0), .val (.int p1), .val (.int p2), .val (.int p3), .val (.int p4), .val (.int ((p0 &&& (2147483647 : Int32)) % (5 : Int32))), .val (.int cc), .val (.int kp), .val (.ref b281), .val (.int pq), .val (.int (1 : Int32)), .unset] [(.ref auth)]) _
              refine stp (fun _ => XS.astore X441.here hx rfl (hb hby at_466) rfl rfl (l' := #[.val (.int p0), .val (.int p1), .val (.int p2), .val (.int p3), .val (.int p4), .val (.int ((p0 &&& (2147483647 : Int32)) % (5 : Int32))), .val (.int cc), .val (.int kp), .val (.ref b281), .val (.int pq), .val (.int (1 : Int32)), .val (.ref auth)]) rfl) ?_
              show Go p e below T441 (mkF m 468 #[.val (.int p0), .val (.int p1), .val (.int p2), .val (.int p3), .val (.int p4), .val (.int ((p0 &&& (2147483647 : Int32)) % (5 : Int32))), .val (.int cc), .val (.int kp), .val (.ref b281), .val (.int pq), .val (.int (1 : Int32)), .val (.ref auth)] []) _
              refine stp (fun _ => XS.iload X441.here hx rfl (hb hby at_468) rfl) ?_
              show Go p e below T441 (mkF m 470 #[.val (.int p0), .val (.int p1), .val (.int p2), .val (.int p3), .val (.int p4), .val (.int ((p0 &&& (2147483647 : Int32)) % (5 : Int32))), .val (.int cc), .val (.int kp), .val (.ref b281), .val (.int pq), .val (.int (1 : Int32)), .val (.ref auth)] [(.int (1 : Int32))]) _
              refine stp (fun _ => XS.ifNo X441.here hx rfl (hb hby at_470) rfl (by decide)) ?_
              show Go p e below T441 (mkF m 473 #[.val (.int p0), .val (.int p1), .val (.int p2), .val (.int p3), .val (.int p4), .val (.int ((p0 &&& (2147483647 : Int32)) % (5 : Int32))), .val (.int cc), .val (.int kp), .val (.ref b281), .val (.int pq), .val (.int (1 : Int32)), .val (.ref auth)] []) _
              refine stp (fun _ => XS.aload X441.here hx rfl (hb hby at_473) rfl rfl) ?_
              show Go p e below T441 (mkF m 475 #[.val (.int p0), .val (.int p1), .val (.int p2), .val (.int p3), .val (.int p4), .val (.int ((p0 &&& (2147483647 : Int32)) % (5 : Int32))), .val (.int cc), .val (.int kp), .val (.ref b281), .val (.int pq), .val (.int (1 : Int32)), .val (.ref auth)] [(.ref auth)]) _
              obtain ⟨T442, X442, e442, st442⟩ := getS2 X441 hx hZ hown (host := "") (Or.inl (hw _ (List.mem_of_getElem? (i := 89) rfl))) Via.refl e441 (S_AC.ext O426.2) (g := (mkF m 475 #[.val (.int p0), .val (.int p1), .val (.int p2), .val (.int p3), .val (.int p4), .val (.int ((p0 &&& (2147483647 : Int32)) % (5 : Int32))), .val (.int cc), .val (.int kp), .val (.ref b281), .val (.int pq), .val (.int (1 : Int32)), .val (.ref auth)] [(.ref auth)])) rfl (hb hby at_475)
              refine stp st442 ?_
              show Go p e below T442 (mkF m 478 #[.val (.int p0), .val (.int p1), .val (.int p2), .val (.int p3), .val (.int p4), .val (.int ((p0 &&& (2147483647 : Int32)) % (5 : Int32))), .val (.int cc), .val (.int kp), .val (.ref b281), .val (.int pq), .val (.int (1 : Int32)), .val (.ref auth)] [(.ref auth), (.ref auth)]) _
              refine stp (fun _ => Jvm.RoadKit.acmp (g := (mkF m 478 #[.val (.int p0), .val (.int p1), .val (.int p2), .val (.int p3), .val (.int p4), .val (.int ((p0 &&& (2147483647 : Int32)) % (5 : Int32))), .val (.int cc), .val (.int kp), .val (.ref b281), .val (.int pq), .val (.int (1 : Int32)), .val (.ref auth)] [(.ref auth), (.ref auth)])) X442 hx rfl rfl rfl (pc0 := 478) (pc' := 481) (same := true) rfl (hb hby at_478) rfl (decide_eq_true rfl) (by decide) (by decide)) ?_
              show Go p e below T442 (mkF m 481 #[.val (.int p0), .val (.int p1), .val (.int p2), .val (.int p3), .val (.int p4), .val (.int ((p0 &&& (2147483647 : Int32)) % (5 : Int32))), .val (.int cc), .val (.int kp), .val (.ref b281), .val (.int pq), .val (.int (1 : Int32)), .val (.ref auth)] []) _
              refine stp (fun _ => XS.iconst X442.here hx rfl (hb hby at_481)) ?_
              show Go p e below T442 (mkF m 482 #[.val (.int p0), .val (.int p1), .val (.int p2), .val (.int p3), .val (.int p4), .val (.int ((p0 &&& (2147483647 : Int32)) % (5 : Int32))), .val (.int cc), .val (.int kp), .val (.ref b281), .val (.int pq), .val (.int (1 : Int32)), .val (.ref auth)] [(.int (1 : Int32))]) _
              refine stp (fun _ => XS.goto X442.here hx rfl (pc0 := 482) (pc' := 499) rfl (hb hby at_482) (by decide) (by decide)) ?_
              show Go p e below T442 (mkF m 499 #[.val (.int p0), .val (.int p1), .val (.int p2), .val (.int p3), .val (.int p4), .val (.int ((p0 &&& (2147483647 : Int32)) % (5 : Int32))), .val (.int cc), .val (.int kp), .val (.ref b281), .val (.int pq), .val (.int (1 : Int32)), .val (.ref auth)] [(.int (1 : Int32))]) _
              refine outNW X442 hx hZ hEL e442 hS hk CR (t := .boolean) hret (by simp) (hb hby at_499) hlk (by decide) (by decide) ?_
              exact ⟨rfl, N440⟩
          · refine stp (fun _ => XS.icmpYes X0.here hx rfl (pc0 := 293) (pc' := 500) rfl (hb hby at_293) rfl (XT.ii_ne_t q293_280) (by decide) (by decide)) ?_
            show Go p e below T0 (mkF m 500 #[.val (.int p0), .val (.int p1), .val (.int p2), .val (.int p3), .val (.int p4), .val (.int ((p0 &&& (2147483647 : Int32)) % (5 : Int32))), .val (.int cc), .val (.int kp), .unset, .unset, .unset, .unset] []) _
            refine stp (fun _ => XS.iloadN X0.here hx rfl (hb hby at_500) rfl) ?_
            show Go p e below T0 (mkF m 501 #[.val (.int p0), .val (.int p1), .val (.int p2), .val (.int p3), .val (.int p4), .val (.int ((p0 &&& (2147483647 : Int32)) % (5 : Int32))), .val (.int cc), .val (.int kp), .unset, .unset, .unset, .unset] [(.int p3)]) _
            refine stp (fun _ => XS.iconst X0.here hx rfl (hb hby at_501)) ?_
            show Go p e below T0 (mkF m 502 #[.val (.int p0), .val (.int p1), .val (.int p2), .val (.int p3), .val (.int p4), .val (.int ((p0 &&& (2147483647 : Int32)) % (5 : Int32))), .val (.int cc), .val (.int kp), .unset, .unset, .unset, .unset] [(.int (1 : Int32)), (.int p3)]) _
            refine stp (fun _ => XS.iand X0.here hx rfl (hb hby at_502) rfl) ?_
            show Go p e below T0 (mkF m 503 #[.val (.int p0), .val (.int p1), .val (.int p2), .val (.int p3), .val (.int p4), .val (.int ((p0 &&& (2147483647 : Int32)) % (5 : Int32))), .val (.int cc), .val (.int kp), .unset, .unset, .unset, .unset] [(.int (p3 &&& (1 : Int32)))]) _
            by_cases q503_443 : (p3 &&& (1 : Int32)) = 0
            · refine stp (fun _ => XS.ifNo X0.here hx rfl (hb hby at_503) rfl (XT.i0_ne_f q503_443)) ?_
              show Go p e below T0 (mkF m 506 #[.val (.int p0), .val (.int p1), .val (.int p2), .val (.int p3), .val (.int p4), .val (.int ((p0 &&& (2147483647 : Int32)) % (5 : Int32))), .val (.int cc), .val (.int kp), .unset, .unset, .unset, .unset] []) _
              refine stp (fun _ => XS.bipush X0.here hx rfl (hb hby at_506)) ?_
              show Go p e below T0 (mkF m 508 #[.val (.int p0), .val (.int p1), .val (.int p2), .val (.int p3), .val (.int p4), .val (.int ((p0 &&& (2147483647 : Int32)) % (5 : Int32))), .val (.int cc), .val (.int kp), .unset, .unset, .unset, .unset] [(.int (9 : Int32))]) _
              obtain ⟨T444, h444, k444, X444, e444, E444, A444, B444, st444⟩ := newPE X0 hx hZ (hw _ (List.mem_of_getElem? (i := 42) rfl)) e0 (g := (mkF m 508 #[.val (.int p0), .val (.int p1), .val (.int p2), .val (.int p3), .val (.int p4), .val (.int ((p0 &&& (2147483647 : Int32)) % (5 : Int32))), .val (.int cc), .val (.int kp), .unset, .unset, .unset, .unset] [(.int (9 : Int32))])) rfl (hb hby at_508) rfl (by decide) (cap := 9) (by decide) (by decide) (by decide) (by decide) (ad := "[C") (by decide)
              obtain ⟨b444, g444⟩ : ∃ z, z = h0.size := ⟨_, rfl⟩
              rw [← g444] at A444 B444 st444
              have ne445 : auth ≠ b444 := O0.ne E_auth.lt (Nat.le_trans (old_le O0) (Nat.le_of_eq g444.symm))
              have ne446 : empty_ ≠ b444 := O0.ne E_em.lt (Nat.le_trans (old_le O0) (Nat.le_of_eq g444.symm))
              have ne447 : impl ≠ b444 := O0.ne E_impl.lt (Nat.le_trans (old_le O0) (Nat.le_of_eq g444.symm))
              have ne448 : va ≠ b444 := O0.ne E_va.lt (Nat.le_trans (old_le O0) (Nat.le_of_eq g444.symm))
              have ne449 : w1 ≠ b444 := O0.ne Q_w1.lt (Nat.le_trans (old_le O0) (Nat.le_of_eq g444.symm))
              have ne450 : w2 ≠ b444 := O0.ne Q_w2.lt (Nat.le_trans (old_le O0) (Nat.le_of_eq g444.symm))
              have sz_b444 : h0.size ≤ b444 := Nat.le_trans (Keep.refl h0 []).1 (Nat.le_of_eq g444.symm)
              have ge_b444 : n0 ≤ b444 := Nat.le_trans (old_le O0) (Nat.le_of_eq g444.symm)
              have hk := Nat.le_trans hk E444.1
              have CR := CR.trans (CHr.ext E444 CR.1)
              have K444 : Keep h0 h444 [] := (Keep.refl h0 []).ext E444
              have O444 := O0.ext E444
              have V444 : Arv Z h444 b444 k444 .char (9 : Int32) [(.int (0 : Int32)), (.int (0 : Int32)), (.int (0 : Int32)), (.int (0 : Int32)), (.int (0 : Int32)), (.int (0 : Int32)), (.int (0 : Int32)), (.int (0 : Int32)), (.int (0 : Int32))] (.int (0 : Int32)) := (Arv.new A444 (by decide)).pad (pad_rep [] (.int (0 : Int32)) 9)
              refine stp st444 ?_
              show Go p e below T444 (mkF m 510 #[.val (.int p0), .val (.int p1), .val (.int p2), .val (.int p3), .val (.int p4), .val (.int ((p0 &&& (2147483647 : Int32)) % (5 : Int32))), .val (.int cc), .val (.int kp), .unset, .unset, .unset, .unset] [(.ref b444)]) _
              refine stp (fun _ => XS.dup X444.here hx rfl (hb hby at_510) rfl rfl) ?_
              show Go p e below T444 (mkF m 511 #[.val (.int p0), .val (.int p1), .val (.int p2), .val (.int p3), .val (.int p4), .val (.int ((p0 &&& (2147483647 : Int32)) % (5 : Int32))), .val (.int cc), .val (.int kp), .unset, .unset, .unset, .unset] [(.ref b444), (.ref b444)]) _
              refine stp (fun _ => XS.iconst X444.here hx rfl (hb hby at_511)) ?_
              show Go p e below T444 (mkF m 512 #[.val (.int p0), .val (.int p1), .val (.int p2), .val (.int p3), .val (.int p4), .val (.int ((p0 &&& (2147483647 : Int32)) % (5 : Int32))), .val (.int cc), .val (.int kp), .unset, .unset, .unset, .unset] [(.int (0 : Int32)), (.ref b444), (.ref b444)]) _
              refine stp (fun _ => XS.bipush X444.here hx rfl (hb hby at_512)) ?_
              show Go p e below T444 (mkF m 514 #[.val (.int p0), .val (.int p1), .val (.int p2), .val (.int p3), .val (.int p4), .val (.int ((p0 &&& (2147483647 : Int32)) % (5 : Int32))), .val (.int cc), .val (.int kp), .unset, .unset, .unset, .unset] [(.int (105 : Int32)), (.int (0 : Int32)), (.ref b444), (.ref b444)]) _
              obtain ⟨cl451, Ar451, q451, S451, M451, H451, G451⟩ := (id V444)
              have in451 : ¬ ((0 : Int32) < 0 ∨ cl451.slots.size ≤ ((0 : Int32)).toNatClampNeg) := inb_of S451 ⟨by decide, by decide⟩
              obtain ⟨T451, h451, X451, e451, W451, st451⟩ := stC X444 hx hZ e444 Ar451 (j := (0 : Int32)) in451 (g := (mkF m 514 #[.val (.int p0), .val (.int p1), .val (.int p2), .val (.int p3), .val (.int p4), .val (.int ((p0 &&& (2147483647 : Int32)) % (5 : Int32))), .val (.int cc), .val (.int kp), .unset, .unset, .unset, .unset] [(.int (105 : Int32)), (.int (0 : Int32)), (.ref b444), (.ref b444)])) rfl rfl (hb hby at_514)
              have V451 : Arv Z h451 b444 k444 .char (9 : Int32) [(.int (105 : Int32)), (.int (0 : Int32)), (.int (0 : Int32)), (.int (0 : Int32)), (.int (0 : Int32)), (.int (0 : Int32)), (.int (0 : Int32)), (.int (0 : Int32)), (.int (0 : Int32))] (.int (0 : Int32)) := Arv.set Ar451 q451 S451 M451 H451 G451 (ow_fits_char (by decide)) (ow_wr_char (by decide) W451) 0 rfl (Nat.le_of_ble_eq_true rfl)
              have f452 := B444.wr W451
              have hk := Nat.le_trans hk (Keep.of_wr W451).1
              have CR := CR.trans (CHr.wr W451 (Safe.exa hZ.alike B444 (by decide) (by decide)) CR.1)
              have K451 : Keep h0 h451 [] := K444.wr W451 (Or.inr sz_b444)
              have O451 := O444.wr W451 ge_b444
              have N451 := Fr.snoc X451 N0 ge_b444
              refine stp st451 ?_
              show Go p e below T451 (mkF m 515 #[.val (.int p0), .val (.int p1), .val (.int p2), .val (.int p3), .val (.int p4), .val (.int ((p0 &&& (2147483647 : Int32)) % (5 : Int32))), .val (.int cc), .val (.int kp), .unset, .unset, .unset, .unset] [(.ref b444)]) _
              refine stp (fun _ => XS.dup X451.here hx rfl (hb hby at_515) rfl rfl) ?_
              show Go p e below T451 (mkF m 516 #[.val (.int p0), .val (.int p1), .val (.int p2), .val (.int p3), .val (.int p4), .val (.int ((p0 &&& (2147483647 : Int32)) % (5 : Int32))), .val (.int cc), .val (.int kp), .unset, .unset, .unset, .unset] [(.ref b444), (.ref b444)]) _
              refine stp (fun _ => XS.iconst X451.here hx rfl (hb hby at_516)) ?_
              show Go p e below T451 (mkF m 517 #[.val (.int p0), .val (.int p1), .val (.int p2), .val (.int p3), .val (.int p4), .val (.int ((p0 &&& (2147483647 : Int32)) % (5 : Int32))), .val (.int cc), .val (.int kp), .unset, .unset, .unset, .unset] [(.int (1 : Int32)), (.ref b444), (.ref b444)]) _
              refine stp (fun _ => XS.bipush X451.here hx rfl (hb hby at_517)) ?_
              show Go p e below T451 (mkF m 519 #[.val (.int p0), .val (.int p1), .val (.int p2), .val (.int p3), .val (.int p4), .val (.int ((p0 &&& (2147483647 : Int32)) % (5 : Int32))), .val (.int cc), .val (.int kp), .unset, .unset, .unset, .unset] [(.int (109 : Int32)), (.int (1 : Int32)), (.ref b444), (.ref b444)]) _
              obtain ⟨cl454, Ar454, q454, S454, M454, H454, G454⟩ := (id V451)
              have in454 : ¬ ((1 : Int32) < 0 ∨ cl454.slots.size ≤ ((1 : Int32)).toNatClampNeg) := inb_of S454 ⟨by decide, by decide⟩
              obtain ⟨T454, h454, X454, e454, W454, st454⟩ := stC X451 hx hZ e451 Ar454 (j := (1 : Int32)) in454 (g := (mkF m 519 #[.val (.int p0), .val (.int p1), .val (.int p2), .val (.int p3), .val (.int p4), .val (.int ((p0 &&& (2147483647 : Int32)) % (5 : Int32))), .val (.int cc), .val (.int kp), .unset, .unset, .unset, .unset] [(.int (109 : Int32)), (.int (1 : Int32)), (.ref b444), (.ref b444)])) rfl rfl (hb hby at_519)
              have V454 : Arv Z h454 b444 k444 .char (9 : Int32) [(.int (105 : Int32)), (.int (109 : Int32)), (.int (0 : Int32)), (.int (0 : Int32)), (.int (0 : Int32)), (.int (0 : Int32)), (.int (0 : Int32)), (.int (0 : Int32)), (.int (0 : Int32))] (.int (0 : Int32)) := Arv.set Ar454 q454 S454 M454 H454 G454 (ow_fits_char (by decide)) (ow_wr_char (by decide) W454) 1 rfl (Nat.le_of_ble_eq_true rfl)
              have f455 := f452.wr W454
              have hk := Nat.le_trans hk (Keep.of_wr W454).1
              have CR := CR.trans (CHr.wr W454 (Safe.exa hZ.alike f452 (by decide) (by decide)) CR.1)
              have K454 : Keep h0 h454 [] := K451.wr W454 (Or.inr sz_b444)
              have O454 := O451.wr W454 ge_b444
              have N454 := Fr.snoc X454 N451 ge_b444
              refine stp st454 ?_
              show Go p e below T454 (mkF m 520 #[.val (.int p0), .val (.int p1), .val (.int p2), .val (.int p3), .val (.int p4), .val (.int ((p0 &&& (2147483647 : Int32)) % (5 : Int32))), .val (.int cc), .val (.int kp), .unset, .unset, .unset, .unset] [(.ref b444)]) _
              refine stp (fun _ => XS.dup X454.here hx rfl (hb hby at_520) rfl rfl) ?_
              show Go p e below T454 (mkF m 521 #[.val (.int p0), .val (.int p1), .val (.int p2), .val (.int p3), .val (.int p4), .val (.int ((p0 &&& (2147483647 : Int32)) % (5 : Int32))), .val (.int cc), .val (.int kp), .unset, .unset, .unset, .unset] [(.ref b444), (.ref b444)]) _
              refine stp (fun _ => XS.iconst X454.here hx rfl (hb hby at_521)) ?_
              show Go p e below T454 (mkF m 522 #[.val (.int p0), .val (.int p1), .val (.int p2), .val (.int p3), .val (.int p4), .val (.int ((p0 &&& (2147483647 : Int32)) % (5 : Int32))), .val (.int cc), .val (.int kp), .unset, .unset, .unset, .unset] [(.int (2 : Int32)), (.ref b444), (.ref b444)]) _
              refine stp (fun _ => XS.bipush X454.here hx rfl (hb hby at_522)) ?_
              show Go p e below T454 (mkF m 524 #[.val (.int p0), .val (.int p1), .val (.int p2), .val (.int p3), .val (.int p4), .val (.int ((p0 &&& (2147483647 : Int32)) % (5 : Int32))), .val (.int cc), .val (.int kp), .unset, .unset, .unset, .unset] [(.int (112 : Int32)), (.int (2 : Int32)), (.ref b444), (.ref b444)]) _
              obtain ⟨cl457, Ar457, q457, S457, M457, H457, G457⟩ := (id V454)
              have in457 : ¬ ((2 : Int32) < 0 ∨ cl457.slots.size ≤ ((2 : Int32)).toNatClampNeg) := inb_of S457 ⟨by decide, by decide⟩
              obtain ⟨T457, h457, X457, e457, W457, st457⟩ := stC X454 hx hZ e454 Ar457 (j := (2 : Int32)) in457 (g := (mkF m 524 #[.val (.int p0), .val (.int p1), .val (.int p2), .val (.int p3), .val (.int p4), .val (.int ((p0 &&& (2147483647 : Int32)) % (5 : Int32))), .val (.int cc), .val (.int kp), .unset, .unset, .unset, .unset] [(.int (112 : Int32)), (.int (2 : Int32)), (.ref b444), (.ref b444)])) rfl rfl (hb hby at_524)
              have V457 : Arv Z h457 b444 k444 .char (9 : Int32) [(.int (105 : Int32)), (.int (109 : Int32)), (.int (112 : Int32)), (.int (0 : Int32)), (.int (0 : Int32)), (.int (0 : Int32)), (.int (0 : Int32)), (.int (0 : Int32)), (.int (0 : Int32))] (.int (0 : Int32)) := Arv.set Ar457 q457 S457 M457 H457 G457 (ow_fits_char (by decide)) (ow_wr_char (by decide) W457) 2 rfl (Nat.le_of_ble_eq_true rfl)
              have f458 := f455.wr W457
              have hk := Nat.le_trans hk (Keep.of_wr W457).1
              have CR := CR.trans (CHr.wr W457 (Safe.exa hZ.alike f455 (by decide) (by decide)) CR.1)
              have K457 : Keep h0 h457 [] := K454.wr W457 (Or.inr sz_b444)
              have O457 := O454.wr W457 ge_b444
              have N457 := Fr.snoc X457 N454 ge_b444
              refine stp st457 ?_
              show Go p e below T457 (mkF m 525 #[.val (.int p0), .val (.int p1), .val (.int p2), .val (.int p3), .val (.int p4), .val (.int ((p0 &&& (2147483647 : Int32)) % (5 : Int32))), .val (.int cc), .val (.int kp), .unset, .unset, .unset, .unset] [(.ref b444)]) _
              refine stp (fun _ => XS.dup X457.here hx rfl (hb hby at_525) rfl rfl) ?_
              show Go p e below T457 (mkF m 526 #[.val (.int p0), .val (.int p1), .val (.int p2), .val (.int p3), .val (.int p4), .val (.int ((p0 &&& (2147483647 : Int32)) % (5 : Int32))), .val (.int cc), .val (.int kp), .unset, .unset, .unset, .unset] [(.ref b444), (.ref b444)]) _
              refine stp (fun _ => XS.iconst X457.here hx rfl (hb hby at_526)) ?_
              show Go p e below T457 (mkF m 527 #[.val (.int p0), .val (.int p1), .val (.int p2), .val (.int p3), .val (.int p4), .val (.int ((p0 &&& (2147483647 : Int32)) % (5 : Int32))), .val (.int cc), .val (.int kp), .unset, .unset, .unset, .unset] [(.int (3 : Int32)), (.ref b444), (.ref b444)]) _
              refine stp (fun _ => XS.bipush X457.here hx rfl (hb hby at_527)) ?_
              show Go p e below T457 (mkF m 529 #[.val (.int p0), .val (.int p1), .val (.int p2), .val (.int p3), .val (.int p4), .val (.int ((p0 &&& (2147483647 : Int32)) % (5 : Int32))), .val (.int cc), .val (.int kp), .unset, .unset, .unset, .unset] [(.int (108 : Int32)), (.int (3 : Int32)), (.ref b444), (.ref b444)]) _
              obtain ⟨cl460, Ar460, q460, S460, M460, H460, G460⟩ := (id V457)
              have in460 : ¬ ((3 : Int32) < 0 ∨ cl460.slots.size ≤ ((3 : Int32)).toNatClampNeg) := inb_of S460 ⟨by decide, by decide⟩
              obtain ⟨T460, h460, X460, e460, W460, st460⟩ := stC X457 hx hZ e457 Ar460 (j := (3 : Int32)) in460 (g := (mkF m 529 #[.val (.int p0), .val (.int p1), .val (.int p2), .val (.int p3), .val (.int p4), .val (.int ((p0 &&& (2147483647 : Int32)) % (5 : Int32))), .val (.int cc), .val (.int kp), .unset, .unset, .unset, .unset] [(.int (108 : Int32)), (.int (3 : Int32)), (.ref b444), (.ref b444)])) rfl rfl (hb hby at_529)
              have V460 : Arv Z h460 b444 k444 .char (9 : Int32) [(.int (105 : Int32)), (.int (109 : Int32)), (.int (112 : Int32)), (.int (108 : Int32)), (.int (0 : Int32)), (.int (0 : Int32)), (.int (0 : Int32)), (.int (0 : Int32)), (.int (0 : Int32))] (.int (0 : Int32)) := Arv.set Ar460 q460 S460 M460 H460 G460 (ow_fits_char (by decide)) (ow_wr_char (by decide) W460) 3 rfl (Nat.le_of_ble_eq_true rfl)
              have f461 := f458.wr W460
              have hk := Nat.le_trans hk (Keep.of_wr W460).1
              have CR := CR.trans (CHr.wr W460 (Safe.exa hZ.alike f458 (by decide) (by decide)) CR.1)
              have K460 : Keep h0 h460 [] := K457.wr W460 (Or.inr sz_b444)
              have O460 := O457.wr W460 ge_b444
              have N460 := Fr.snoc X460 N457 ge_b444
              refine stp st460 ?_
              show Go p e below T460 (mkF m 530 #[.val (.int p0), .val (.int p1), .val (.int p2), .val (.int p3), .val (.int p4), .val (.int ((p0 &&& (2147483647 : Int32)) % (5 : Int32))), .val (.int cc), .val (.int kp), .unset, .unset, .unset, .unset] [(.ref b444)]) _
              refine stp (fun _ => XS.dup X460.here hx rfl (hb hby at_530) rfl rfl) ?_
              show Go p e below T460 (mkF m 531 #[.val (.int p0), .val (.int p1), .val (.int p2), .val (.int p3), .val (.int p4), .val (.int ((p0 &&& (2147483647 : Int32)) % (5 : Int32))), .val (.int cc), .val (.int kp), .unset, .unset, .unset, .unset] [(.ref b444), (.ref b444)]) _
              refine stp (fun _ => XS.iconst X460.here hx rfl (hb hby at_531)) ?_
              show Go p e below T460 (mkF m 532 #[.val (.int p0), .val (.int p1), .val (.int p2), .val (.int p3), .val (.int p4), .val (.int ((p0 &&& (2147483647 : Int32)) % (5 : Int32))), .val (.int cc), .val (.int kp), .unset, .unset, .unset, .unset] [(.int (4 : Int32)), (.ref b444), (.ref b444)]) _
              refine stp (fun _ => XS.bipush X460.here hx rfl (hb hby at_532)) ?_
              show Go p e below T460 (mkF m 534 #[.val (.int p0), .val (.int p1), .val (.int p2), .val (.int p3), .val (.int p4), .val (.int ((p0 &&& (2147483647 : Int32)) % (5 : Int32))), .val (.int cc), .val (.int kp), .unset, .unset, .unset, .unset] [(.int (105 : Int32)), (.int (4 : Int32)), (.ref b444), (.ref b444)]) _
              obtain ⟨cl463, Ar463, q463, S463, M463, H463, G463⟩ := (id V460)
              have in463 : ¬ ((4 : Int32) < 0 ∨ cl463.slots.size ≤ ((4 : Int32)).toNatClampNeg) := inb_of S463 ⟨by decide, by decide⟩
              obtain ⟨T463, h463, X463, e463, W463, st463⟩ := stC X460 hx hZ e460 Ar463 (j := (4 : Int32)) in463 (g := (mkF m 534 #[.val (.int p0), .val (.int p1), .val (.int p2), .val (.int p3), .val (.int p4), .val (.int ((p0 &&& (2147483647 : Int32)) % (5 : Int32))), .val (.int cc), .val (.int kp), .unset, .unset, .unset, .unset] [(.int (105 : Int32)), (.int (4 : Int32)), (.ref b444), (.ref b444)])) rfl rfl (hb hby at_534)
              have V463 : Arv Z h463 b444 k444 .char (9 : Int32) [(.int (105 : Int32)), (.int (109 : Int32)), (.int (112 : Int32)), (.int (108 : Int32)), (.int (105 : Int32)), (.int (0 : Int32)), (.int (0 : Int32)), (.int (0 : Int32)), (.int (0 : Int32))] (.int (0 : Int32)) := Arv.set Ar463 q463 S463 M463 H463 G463 (ow_fits_char (by decide)) (ow_wr_char (by decide) W463) 4 rfl (Nat.le_of_ble_eq_true rfl)
              have f464 := f461.wr W463
              have hk := Nat.le_trans hk (Keep.of_wr W463).1
              have CR := CR.trans (CHr.wr W463 (Safe.exa hZ.alike f461 (by decide) (by decide)) CR.1)
              have K463 : Keep h0 h463 [] := K460.wr W463 (Or.inr sz_b444)
              have O463 := O460.wr W463 ge_b444
              have N463 := Fr.snoc X463 N460 ge_b444
              refine stp st463 ?_
              show Go p e below T463 (mkF m 535 #[.val (.int p0), .val (.int p1), .val (.int p2), .val (.int p3), .val (.int p4), .val (.int ((p0 &&& (2147483647 : Int32)) % (5 : Int32))), .val (.int cc), .val (.int kp), .unset, .unset, .unset, .unset] [(.ref b444)]) _
              refine stp (fun _ => XS.dup X463.here hx rfl (hb hby at_535) rfl rfl) ?_
              show Go p e below T463 (mkF m 536 #[.val (.int p0), .val (.int p1), .val (.int p2), .val (.int p3), .val (.int p4), .val (.int ((p0 &&& (2147483647 : Int32)) % (5 : Int32))), .val (.int cc), .val (.int kp), .unset, .unset, .unset, .unset] [(.ref b444), (.ref b444)]) _
              refine stp (fun _ => XS.iconst X463.here hx rfl (hb hby at_536)) ?_
              show Go p e below T463 (mkF m 537 #[.val (.int p0), .val (.int p1), .val (.int p2), .val (.int p3), .val (.int p4), .val (.int ((p0 &&& (2147483647 : Int32)) % (5 : Int32))), .val (.int cc), .val (.int kp), .unset, .unset, .unset, .unset] [(.int (5 : Int32)), (.ref b444), (.ref b444)]) _
              refine stp (fun _ => XS.bipush X463.here hx rfl (hb hby at_537)) ?_
              show Go p e below T463 (mkF m 539 #[.val (.int p0), .val (.int p1), .val (.int p2), .val (.int p3), .val (.int p4), .val (.int ((p0 &&& (2147483647 : Int32)) % (5 : Int32))), .val (.int cc), .val (.int kp), .unset, .unset, .unset, .unset] [(.int (99 : Int32)), (.int (5 : Int32)), (.ref b444), (.ref b444)]) _
              obtain ⟨cl466, Ar466, q466, S466, M466, H466, G466⟩ := (id V463)
              have in466 : ¬ ((5 : Int32) < 0 ∨ cl466.slots.size ≤ ((5 : Int32)).toNatClampNeg) := inb_of S466 ⟨by decide, by decide⟩
              obtain ⟨T466, h466, X466, e466, W466, st466⟩ := stC X463 hx hZ e463 Ar466 (j := (5 : Int32)) in466 (g := (mkF m 539 #[.val (.int p0), .val (.int p1), .val (.int p2), .val (.int p3), .val (.int p4), .val (.int ((p0 &&& (2147483647 : Int32)) % (5 : Int32))), .val (.int cc), .val (.int kp), .unset, .unset, .unset, .unset] [(.int (99 : Int32)), (.int (5 : Int32)), (.ref b444), (.ref b444)])) rfl rfl (hb hby at_539)
              have V466 : Arv Z h466 b444 k444 .char (9 : Int32) [(.int (105 : Int32)), (.int (109 : Int32)), (.int (112 : Int32)), (.int (108 : Int32)), (.int (105 : Int32)), (.int (99 : Int32)), (.int (0 : Int32)), (.int (0 : Int32)), (.int (0 : Int32))] (.int (0 : Int32)) := Arv.set Ar466 q466 S466 M466 H466 G466 (ow_fits_char (by decide)) (ow_wr_char (by decide) W466) 5 rfl (Nat.le_of_ble_eq_true rfl)
              have f467 := f464.wr W466
              have hk := Nat.le_trans hk (Keep.of_wr W466).1
              have CR := CR.trans (CHr.wr W466 (Safe.exa hZ.alike f464 (by decide) (by decide)) CR.1)
              have K466 : Keep h0 h466 [] := K463.wr W466 (Or.inr sz_b444)
              have O466 := O463.wr W466 ge_b444
              have N466 := Fr.snoc X466 N463 ge_b444
              refine stp st466 ?_
              show Go p e below T466 (mkF m 540 #[.val (.int p0), .val (.int p1), .val (.int p2), .val (.int p3), .val (.int p4), .val (.int ((p0 &&& (2147483647 : Int32)) % (5 : Int32))), .val (.int cc), .val (.int kp), .unset, .unset, .unset, .unset] [(.ref b444)]) _
              refine stp (fun _ => XS.dup X466.here hx rfl (hb hby at_540) rfl rfl) ?_
              show Go p e below T466 (mkF m 541 #[.val (.int p0), .val (.int p1), .val (.int p2), .val (.int p3), .val (.int p4), .val (.int ((p0 &&& (2147483647 : Int32)) % (5 : Int32))), .val (.int cc), .val (.int kp), .unset, .unset, .unset, .unset] [(.ref b444), (.ref b444)]) _
              refine stp (fun _ => XS.bipush X466.here hx rfl (hb hby at_541)) ?_
              show Go p e below T466 (mkF m 543 #[.val (.int p0), .val (.int p1), .val (.int p2), .val (.int p3), .val (.int p4), .val (.int ((p0 &&& (2147483647 : Int32)) % (5 : Int32))), .val (.int cc), .val (.int kp), .unset, .unset, .unset, .unset] [(.int (6 : Int32)), (.ref b444), (.ref b444)]) _
              refine stp (fun _ => XS.bipush X466.here hx rfl (hb hby at_543)) ?_
              show Go p e below T466 (mkF m 545 #[.val (.int p0), .val (.int p1), .val (.int p2), .val (.int p3), .val (.int p4), .val (.int ((p0 &&& (2147483647 : Int32)) % (5 : Int32))), .val (.int cc), .val (.int kp), .unset, .unset, .unset, .unset] [(.int (105 : Int32)), (.int (6 : Int32)), (.ref b444), (.ref b444)]) _
              obtain ⟨cl469, Ar469, q469, S469, M469, H469, G469⟩ := (id V466)
              have in469 : ¬ ((6 : Int32) < 0 ∨ cl469.slots.size ≤ ((6 : Int32)).toNatClampNeg) := inb_of S469 ⟨by decide, by decide⟩
              obtain ⟨T469, h469, X469, e469, W469, st469⟩ := stC X466 hx hZ e466 Ar469 (j := (6 : Int32)) in469 (g := (mkF m 545 #[.val (.int p0), .val (.int p1), .val (.int p2), .val (.int p3), .val (.int p4), .val (.int ((p0 &&& (2147483647 : Int32)) % (5 : Int32))), .val (.int cc), .val (.int kp), .unset, .unset, .unset, .unset] [(.int (105 : Int32)), (.int (6 : Int32)), (.ref b444), (.ref b444)])) rfl rfl (hb hby at_545)
              have V469 : Arv Z h469 b444 k444 .char (9 : Int32) [(.int (105 : Int32)), (.int (109 : Int32)), (.int (112 : Int32)), (.int (108 : Int32)), (.int (105 : Int32)), (.int (99 : Int32)), (.int (105 : Int32)), (.int (0 : Int32)), (.int (0 : Int32))] (.int (0 : Int32)) := Arv.set Ar469 q469 S469 M469 H469 G469 (ow_fits_char (by decide)) (ow_wr_char (by decide) W469) 6 rfl (Nat.le_of_ble_eq_true rfl)
              have f470 := f467.wr W469
              have hk := Nat.le_trans hk (Keep.of_wr W469).1
              have CR := CR.trans (CHr.wr W469 (Safe.exa hZ.alike f467 (by decide) (by decide)) CR.1)
              have K469 : Keep h0 h469 [] := K466.wr W469 (Or.inr sz_b444)
              have O469 := O466.wr W469 ge_b444
              have N469 := Fr.snoc X469 N466 ge_b444
              refine stp st469 ?_
              show Go p e below T469 (mkF m 546 #[.val (.int p0), .val (.int p1), .val (.int p2), .val (.int p3), .val (.int p4), .val (.int ((p0 &&& (2147483647 : Int32)) % (5 : Int32))), .val (.int cc), .val (.int kp), .unset, .unset, .unset, .unset] [(.ref b444)]) _
              refine stp (fun _ => XS.dup X469.here hx rfl (hb hby at_546) rfl rfl) ?_
              show Go p e below T469 (mkF m 547 #[.val (.int p0), .val (.int p1), .val (.int p2), .val (.int p3), .val (.int p4), .val (.int ((p0 &&& (2147483647 : Int32)) % (5 : Int32))), .val (.int cc), .val (.int kp), .unset, .unset, .unset, .unset] [(.ref b444), (.ref b444)]) _
              refine stp (fun _ => XS.bipush X469.here hx rfl (hb hby at_547)) ?_
              show Go p e below T469 (mkF m 549 #[.val (.int p0), .val (.int p1), .val (.int p2), .val (.int p3), .val (.int p4), .val (.int ((p0 &&& (2147483647 : Int32)) % (5 : Int32))), .val (.int cc), .val (.int kp), .unset, .unset, .unset, .unset] [(.int (7 : Int32)), (.ref b444), (.ref b444)]) _
              refine stp (fun _ => XS.bipush X469.here hx rfl (hb hby at_549)) ?_
              show Go p e below T469 (mkF m 551 #[.val (.int p0), .val (.int p1), .val (.int p2), .val (.int p3), .val (.int p4), .val (.int ((p0 &&& (2147483647 : Int32)) % (5 : Int32))), .val (.int cc), .val (.int kp), .unset, .unset, .unset, .unset] [(.int (116 : Int32)), (.int (7 : Int32)), (.ref b444), (.ref b444)]) _
              obtain ⟨cl472, Ar472, q472, S472, M472, H472, G472⟩ := (id V469)
              have in472 : ¬ ((7 : Int32) < 0 ∨ cl472.slots.size ≤ ((7 : Int32)).toNatClampNeg) := inb_of S472 ⟨by decide, by decide⟩
              obtain ⟨T472, h472, X472, e472, W472, st472⟩ := stC X469 hx hZ e469 Ar472 (j := (7 : Int32)) in472 (g := (mkF m 551 #[.val (.int p0), .val (.int p1), .val (.int p2), .val (.int p3), .val (.int p4), .val (.int ((p0 &&& (2147483647 : Int32)) % (5 : Int32))), .val (.int cc), .val (.int kp), .unset, .unset, .unset, .unset] [(.int (116 : Int32)), (.int (7 : Int32)), (.ref b444), (.ref b444)])) rfl rfl (hb hby at_551)
              have V472 : Arv Z h472 b444 k444 .char (9 : Int32) [(.int (105 : Int32)), (.int (109 : Int32)), (.int (112 : Int32)), (.int (108 : Int32)), (.int (105 : Int32)), (.int (99 : Int32)), (.int (105 : Int32)), (.int (116 : Int32)), (.int (0 : Int32))] (.int (0 : Int32)) := Arv.set Ar472 q472 S472 M472 H472 G472 (ow_fits_char (by decide)) (ow_wr_char (by decide) W472) 7 rfl (Nat.le_of_ble_eq_true rfl)
              have f473 := f470.wr W472
              have hk := Nat.le_trans hk (Keep.of_wr W472).1
              have CR := CR.trans (CHr.wr W472 (Safe.exa hZ.alike f470 (by decide) (by decide)) CR.1)
              have K472 : Keep h0 h472 [] := K469.wr W472 (Or.inr sz_b444)
              have O472 := O469.wr W472 ge_b444
              have N472 := Fr.snoc X472 N469 ge_b444
              refine stp st472 ?_
              show Go p e below T472 (mkF m 552 #[.val (.int p0), .val (.int p1), .val (.int p2), .val (.int p3), .val (.int p4), .val (.int ((p0 &&& (2147483647 : Int32)) % (5 : Int32))), .val (.int cc), .val (.int kp), .unset, .unset, .unset, .unset] [(.ref b444)]) _
              refine stp (fun _ => XS.dup X472.here hx rfl (hb hby at_552) rfl rfl) ?_
              show Go p e below T472 (mkF m 553 #[.val (.int p0), .val (.int p1), .val (.int p2), .val (.int p3), .val (.int p4), .val (.int ((p0 &&& (2147483647 : Int32)) % (5 : Int32))), .val (.int cc), .val (.int kp), .unset, .unset, .unset, .unset] [(.ref b444), (.ref b444)]) _
              refine stp (fun _ => XS.bipush X472.here hx rfl (hb hby at_553)) ?_
              show Go p e below T472 (mkF m 555 #[.val (.int p0), .val (.int p1), .val (.int p2), .val (.int p3), .val (.int p4), .val (.int ((p0 &&& (2147483647 : Int32)) % (5 : Int32))), .val (.int cc), .val (.int kp), .unset, .unset, .unset, .unset] [(.int (8 : Int32)), (.ref b444), (.ref b444)]) _
              refine stp (fun _ => XS.bipush X472.here hx rfl (hb hby at_555)) ?_
              show Go p e below T472 (mkF m 557 #[.val (.int p0), .val (.int p1), .val (.int p2), .val (.int p3), .val (.int p4), .val (.int ((p0 &&& (2147483647 : Int32)) % (5 : Int32))), .val (.int cc), .val (.int kp), .unset, .unset, .unset, .unset] [(.int (32 : Int32)), (.int (8 : Int32)), (.ref b444), (.ref b444)]) _
              obtain ⟨cl475, Ar475, q475, S475, M475, H475, G475⟩ := (id V472)
              have in475 : ¬ ((8 : Int32) < 0 ∨ cl475.slots.size ≤ ((8 : Int32)).toNatClampNeg) := inb_of S475 ⟨by decide, by decide⟩
              obtain ⟨T475, h475, X475, e475, W475, st475⟩ := stC X472 hx hZ e472 Ar475 (j := (8 : Int32)) in475 (g := (mkF m 557 #[.val (.int p0), .val (.int p1), .val (.int p2), .val (.int p3), .val (.int p4), .val (.int ((p0 &&& (2147483647 : Int32)) % (5 : Int32))), .val (.int cc), .val (.int kp), .unset, .unset, .unset, .unset] [(.int (32 : Int32)), (.int (8 : Int32)), (.ref b444), (.ref b444)])) rfl rfl (hb hby at_557)
              have V475 : Arv Z h475 b444 k444 .char (9 : Int32) [(.int (105 : Int32)), (.int (109 : Int32)), (.int (112 : Int32)), (.int (108 : Int32)), (.int (105 : Int32)), (.int (99 : Int32)), (.int (105 : Int32)), (.int (116 : Int32)), (.int (32 : Int32))] (.int (0 : Int32)) := Arv.set Ar475 q475 S475 M475 H475 G475 (ow_fits_char (by decide)) (ow_wr_char (by decide) W475) 8 rfl (Nat.le_of_ble_eq_true rfl)
              have f476 := f473.wr W475
              have hk := Nat.le_trans hk (Keep.of_wr W475).1
              have CR := CR.trans (CHr.wr W475 (Safe.exa hZ.alike f473 (by decide) (by decide)) CR.1)
              have K475 : Keep h0 h475 [] := K472.wr W475 (Or.inr sz_b444)
              have O475 := O472.wr W475 ge_b444
              have N475 := Fr.snoc X475 N472 ge_b444
              refine stp st475 ?_
              show Go p e below T475 (mkF m 558 #[.val (.int p0), .val (.int p1), .val (.int p2), .val (.int p3), .val (.int p4), .val (.int ((p0 &&& (2147483647 : Int32)) % (5 : Int32))), .val (.int cc), .val (.int kp), .unset, .unset, .unset, .unset] [(.ref b444)]) _
              refine stp (fun _ => XS.astore X475.here hx rfl (hb hby at_558) rfl rfl (l' := #[.val (.int p0), .val (.int p1), .val (.int p2), .val (.int p3), .val (.int p4), .val (.int ((p0 &&& (2147483647 : Int32)) % (5 : Int32))), .val (.int cc), .val (.int kp), .val (.ref b444), .unset, .unset, .unset]) rfl) ?_
              show Go p e below T475 (mkF m 560 #[.val (.int p0), .val (.int p1), .val (.int p2), .val (.int p3), .val (.int p4), .val (.int ((p0 &&& (2147483647 : Int32)) % (5 : Int32))), .val (.int cc), .val (.int kp), .val (.ref b444), .unset, .unset, .unset] []) _
              refine stp (fun _ => XS.aload X475.here hx rfl (hb hby at_560) rfl rfl) ?_
              show Go p e below T475 (mkF m 562 #[.val (.int p0), .val (.int p1), .val (.int p2), .val (.int p3), .val (.int p4), .val (.int ((p0 &&& (2147483647 : Int32)) % (5 : Int32))), .val (.int cc), .val (.int kp), .val (.ref b444), .unset, .unset, .unset] [(.ref b444)]) _
              refine stp (fun _ => XS.bipush X475.here hx rfl (hb hby at_562)) ?_
              show Go p e below T475 (mkF m 564 #[.val (.int p0), .val (.int p1), .val (.int p2), .val (.int p3), .val (.int p4), .val (.int ((p0 &&& (2147483647 : Int32)) % (5 : Int32))), .val (.int cc), .val (.int kp), .val (.ref b444), .unset, .unset, .unset] [(.int (8 : Int32)), (.ref b444)]) _
              refine stp (fun _ => XS.iload X475.here hx rfl (hb hby at_564) rfl) ?_
              show Go p e below T475 (mkF m 566 #[.val (.int p0), .val (.int p1), .val (.int p2), .val (.int p3), .val (.int p4), .val (.int ((p0 &&& (2147483647 : Int32)) % (5 : Int32))), .val (.int cc), .val (.int kp), .val (.ref b444), .unset, .unset, .unset] [(.int cc), (.int (8 : Int32)), (.ref b444)]) _
              obtain ⟨cl478, Ar478, q478, S478, M478, H478, G478⟩ := (id V475)
              have in478 : ¬ ((8 : Int32) < 0 ∨ cl478.slots.size ≤ ((8 : Int32)).toNatClampNeg) := inb_of S478 ⟨by decide, by decide⟩
              obtain ⟨T478, h478, X478, e478, W478, st478⟩ := stC X475 hx hZ e475 Ar478 (j := (8 : Int32)) in478 (g := (mkF m 566 #[.val (.int p0), .val (.int p1), .val (.int p2), .val (.int p3), .val (.int p4), .val (.int ((p0 &&& (2147483647 : Int32)) % (5 : Int32))), .val (.int cc), .val (.int kp), .val (.ref b444), .unset, .unset, .unset] [(.int cc), (.int (8 : Int32)), (.ref b444)])) rfl rfl (hb hby at_566)
              have V478 : Arv Z h478 b444 k444 .char (9 : Int32) [(.int (105 : Int32)), (.int (109 : Int32)), (.int (112 : Int32)), (.int (108 : Int32)), (.int (105 : Int32)), (.int (99 : Int32)), (.int (105 : Int32)), (.int (116 : Int32)), (.int cc)] (.int (0 : Int32)) := Arv.set Ar478 q478 S478 M478 H478 G478 (ow_fits_char (char255 hcc)) (ow_wr_char (char255 hcc) W478) 8 rfl (Nat.le_of_ble_eq_true rfl)
              have f479 := f476.wr W478
              have hk := Nat.le_trans hk (Keep.of_wr W478).1
              have CR := CR.trans (CHr.wr W478 (Safe.exa hZ.alike f476 (by decide) (by decide)) CR.1)
              have K478 : Keep h0 h478 [] := K475.wr W478 (Or.inr sz_b444)
              have O478 := O475.wr W478 ge_b444
              have N478 := Fr.snoc X478 N475 ge_b444
              refine stp st478 ?_
              show Go p e below T478 (mkF m 567 #[.val (.int p0), .val (.int p1), .val (.int p2), .val (.int p3), .val (.int p4), .val (.int ((p0 &&& (2147483647 : Int32)) % (5 : Int32))), .val (.int cc), .val (.int kp), .val (.ref b444), .unset, .unset, .unset] []) _
              obtain ⟨T481, h481, X481, e481, E481, A481, D481, -, st481⟩ := newO X478 hx hZ hown (hw _ (List.mem_of_getElem? (i := 43) rfl)) (hw _ (List.mem_of_getElem? (i := 44) rfl)) (hw _ (List.mem_of_getElem? (i := 28) rfl)) e478 (g := (mkF m 567 #[.val (.int p0), .val (.int p1), .val (.int p2), .val (.int p3), .val (.int p4), .val (.int ((p0 &&& (2147483647 : Int32)) % (5 : Int32))), .val (.int cc), .val (.int kp), .val (.ref b444), .unset, .unset, .unset] [])) rfl (hb hby at_567) (by decide) (by decide)
              obtain ⟨b481, g481⟩ : ∃ z, z = h478.size := ⟨_, rfl⟩
              rw [← g481] at A481 D481 st481
              have ne482 : auth ≠ b481 := O478.ne E_auth.lt (Nat.le_trans (old_le O478) (Nat.le_of_eq g481.symm))
              have ne483 : b444 ≠ b481 := Nat.ne_of_lt (Nat.lt_of_lt_of_le f479.lt (Nat.le_of_eq g481.symm))
              have ne484 : empty_ ≠ b481 := O478.ne E_em.lt (Nat.le_trans (old_le O478) (Nat.le_of_eq g481.symm))
              have ne485 : impl ≠ b481 := O478.ne E_impl.lt (Nat.le_trans (old_le O478) (Nat.le_of_eq g481.symm))
              have ne486 : va ≠ b481 := O478.ne E_va.lt (Nat.le_trans (old_le O478) (Nat.le_of_eq g481.symm))
              have ne487 : w1 ≠ b481 := O478.ne Q_w1.lt (Nat.le_trans (old_le O478) (Nat.le_of_eq g481.symm))
              have ne488 : w2 ≠ b481 := O478.ne Q_w2.lt (Nat.le_trans (old_le O478) (Nat.le_of_eq g481.symm))
              have sz_b481 : h0.size ≤ b481 := Nat.le_trans K478.1 (Nat.le_of_eq g481.symm)
              have ge_b481 : n0 ≤ b481 := Nat.le_trans (old_le O478) (Nat.le_of_eq g481.symm)
              have f489 := f479.ext E481
              have f490 := V478.ext E481
              have Sf481 := (Safe.new (Z := Z) (EL := consts_1) (Nat.le_of_eq g481.symm)).ext E481 CR.1
              have hk := Nat.le_trans hk E481.1
              have CR := CR.trans (CHr.ext E481 CR.1)
              have K481 : Keep h0 h481 [] := K478.ext E481
              have O481 := O478.ext E481
              have F491 : Fld Z h481 b481 "java/lang/String" "coder" "B" (.int (0 : Int32)) := D481 (Or.inr (hw _ (List.mem_of_getElem? (i := 68) rfl))) (ty := .byte) (by decide)
              have F492 : Fld Z h481 b481 "java/lang/String" "value" "[B" .null := D481 (Or.inr (hw _ (List.mem_of_getElem? (i := 70) rfl))) (ty := (.array .byte)) (by decide)
              refine stp st481 ?_
              show Go p e below T481 (mkF m 570 #[.val (.int p0), .val (.int p1), .val (.int p2), .val (.int p3), .val (.int p4), .val (.int ((p0 &&& (2147483647 : Int32)) % (5 : Int32))), .val (.int cc), .val (.int kp), .val (.ref b444), .unset, .unset, .unset] [(.ref b481)]) _
              refine stp (fun _ => XS.dup X481.here hx rfl (hb hby at_570) rfl rfl) ?_
              show Go p e below T481 (mkF m 571 #[.val (.int p0), .val (.int p1), .val (.int p2), .val (.int p3), .val (.int p4), .val (.int ((p0 &&& (2147483647 : Int32)) % (5 : Int32))), .val (.int cc), .val (.int kp), .val (.ref b444), .unset, .unset, .unset] [(.ref b481), (.ref b481)]) _
              refine stp (fun _ => XS.aload X481.here hx rfl (hb hby at_571) rfl rfl) ?_
              show Go p e below T481 (mkF m 573 #[.val (.int p0), .val (.int p1), .val (.int p2), .val (.int p3), .val (.int p4), .val (.int ((p0 &&& (2147483647 : Int32)) % (5 : Int32))), .val (.int cc), .val (.int kp), .val (.ref b444), .unset, .unset, .unset] [(.ref b444), (.ref b481), (.ref b481)]) _
              obtain ⟨_, _, ⟨T493, L493, k493, n493⟩, -, X493, ⟨Lc493, hQ493, l493, y493, z493⟩, st493⟩ := X481.specialBack hx (y := (⟨"java/lang/String", "<init>", "([C)V"⟩ : MethodName)) rfl hown (mvT hZ (hw _ (List.mem_of_getElem? (i := 45) rfl))) (mvT hZ (hw _ (List.mem_of_getElem? (i := 46) rfl))) (mvT hZ (hw _ (List.mem_of_getElem? (i := 47) rfl))) (by decide) (StrChars.Road.backV (W := 1) hZ hws (kI := 4) (hw _ (List.mem_of_getElem? (i := 44) rfl)) (cs := ([(105 : Int32), (109 : Int32), (112 : Int32), (108 : Int32), (105 : Int32), (99 : Int32), (105 : Int32), (116 : Int32), cc] : List Int32)) (bs := ([(105 : Int32), (109 : Int32), (112 : Int32), (108 : Int32), (105 : Int32), (99 : Int32), (105 : Int32), (116 : Int32), cc] : List Int32).map (fun c => c.toInt8.toInt32)) (n := 9) ge_b481 (old_le O481) A481 F492 F491 f490 (S_CS.ext O481.2) hcz rfl rfl (by decide) (by decide) (own_sm1 ⟨by decide, by decide⟩ (own_sm1 ⟨by decide, by decide⟩ (own_sm1 ⟨by decide, by decide⟩ (own_sm1 ⟨by decide, by decide⟩ (own_sm1 ⟨by decide, by decide⟩ (own_sm1 ⟨by decide, by decide⟩ (own_sm1 ⟨by decide, by decide⟩ (own_sm1 ⟨by decide, by decide⟩ (own_sm1 hcc own_sm0))))))))) rfl (by decide) (by decide)) (g := (mkF m 573 #[.val (.int p0), .val (.int p1), .val (.int p2), .val (.int p3), .val (.int p4), .val (.int ((p0 &&& (2147483647 : Int32)) % (5 : Int32))), .val (.int cc), .val (.int kp), .val (.ref b444), .unset, .unset, .unset] [(.ref b444), (.ref b481), (.ref b481)])) rfl (by rw [hml]; rfl) (Steps.refl _) (a := b481) (argsL := [(.ref b444)]) (rest := [(.ref b481)]) (lenOf pd_7 rfl) rfl (by show 2 * 0 + _ ≤ _; exact Nat.le_of_eq rfl) (hb hby at_573) (fun _ _ => ⟨rfl, e481, (by decide : 2 + 1 ≤ _), (by decide : 13 + 9 ≤ _)⟩)
              dsimp only [Pt.U, Pt.locs, Pt.cells, Pt.slots] at X493 l493 y493 z493 st493 hQ493
              subst y493 z493
              obtain ⟨rfl, N493q, K493q, E493q, C493q, t493, kb493, ge_t493, sz493q, ne493q, F493q, V493q⟩ := hQ493
              have N493 : Fr n0 L493 := by rw [l493]; exact Fr.app N478 N493q
              have ne494 : b444 ≠ t493 := Nat.ne_of_lt (Nat.lt_of_lt_of_le f489.lt sz493q)
              have f495 := f489.keep K493q
              have f496 := f490.keep K493q (ninS ne483 nin0)
              have f497 := Sf481.keep K493q (sfS Sf481 sf0) CR.1
              have hk := Nat.le_trans hk K493q.1
              have CR := CR.trans (CHr.keep K493q (sfS Sf481 sf0) CR.1)
              have K493 : Keep h0 T493.heap [] := K481.trans K493q (allS (Or.inr sz_b481) all0)
              have sz_t493 : h0.size ≤ t493 := Nat.le_trans K481.1 sz493q
              have O493 := O481.keep K493q (allS ge_b481 all0)
              have Q493 : StrIs Z T493.heap b481 ([(105 : Int32), (109 : Int32), (112 : Int32), (108 : Int32), (105 : Int32), (99 : Int32), (105 : Int32), (116 : Int32), cc] : List Int32) := StrIs.of E493q F493q C493q V493q rfl rfl (own_sm1 ⟨by decide, by decide⟩ (own_sm1 ⟨by decide, by decide⟩ (own_sm1 ⟨by decide, by decide⟩ (own_sm1 ⟨by decide, by decide⟩ (own_sm1 ⟨by decide, by decide⟩ (own_sm1 ⟨by decide, by decide⟩ (own_sm1 ⟨by decide, by decide⟩ (own_sm1 ⟨by decide, by decide⟩ (own_sm1 hcc own_sm0))))))))) (Nat.le_of_ble_eq_true rfl)
              refine stt st493 ?_
              show Go p e below T493 (mkF m 576 #[.val (.int p0), .val (.int p1), .val (.int p2), .val (.int p3), .val (.int p4), .val (.int ((p0 &&& (2147483647 : Int32)) % (5 : Int32))), .val (.int cc), .val (.int kp), .val (.ref b444), .unset, .unset, .unset] [(.ref b481)]) _
              obtain ⟨_, _, ⟨T498, L498, k498, n498⟩, -, X498, ⟨Lc498, hQ498, l498, y498, z498⟩, st498⟩ := Jvm.LawKit.callS X493 hx (y := (⟨"com/example/uriel/uriel/grant/GrantType", "fromWireName", "(Ljava/lang/String;)Ljava/util/Optional;"⟩ : MethodName)) hown (mvT hZ (hw _ (List.mem_of_getElem? (i := 1) rfl))) (mvT hZ (hw _ (List.mem_of_getElem? (i := 2) rfl))) (mvT hZ (hw _ (List.mem_of_getElem? (i := 3) rfl))) (mvT hZ (hw _ (List.mem_of_getElem? (i := 4) rfl))) (by decide) (backOf (W := 0) (rm_fwn l Z a0 hw [] b481 auth impl va w1 w2 empty_ ([(105 : Int32), (109 : Int32), (112 : Int32), (108 : Int32), (105 : Int32), (99 : Int32), (105 : Int32), (116 : Int32), cc] : List Int32) cz k_va T493.heap n0 O493 S_VALUES E_va V_va F_w1 F_w2 Q_w1 Q_w2 S_EM Q493 S_CS hcz (own_ac_ne (show (18 : Nat) ≠ 9 by decide)) (own_im_ne (show (8 : Nat) ≠ 9 by decide))) hZ (hw _ (List.mem_of_getElem? (i := 4) rfl)) (hw _ (List.mem_of_getElem? (i := 3) rfl)) (by decide) (by decide)) (g := (mkF m 576 #[.val (.int p0), .val (.int p1), .val (.int p2), .val (.int p3), .val (.int p4), .val (.int ((p0 &&& (2147483647 : Int32)) % (5 : Int32))), .val (.int cc), .val (.int kp), .val (.ref b444), .unset, .unset, .unset] [(.ref b481)])) rfl (by rw [hml]; rfl) (argsL := [(.ref b481)]) (rest := []) (lenOf pd_5 rfl) rfl (by show 2 * 0 + _ ≤ _; exact Nat.le_of_eq rfl) (hb hby at_576) (fun _ _ => ⟨rfl, rfl, (by decide : 3 + 1 ≤ _), (by decide : 22 + 2 ≤ _)⟩)
              dsimp only [Pt.U, Pt.locs, Pt.cells, Pt.slots] at X498 l498 y498 z498 st498 hQ498
              subst y498 z498
              obtain ⟨rfl, N498q, K498q⟩ := hQ498
              have N498 : Fr n0 L498 := by rw [l498]; exact Fr.app N493 N498q
              have f499 := f495.keep K498q
              have f500 := f496.keep K498q nin0
              have f501 := f497.keep K498q sf0 CR.1
              have f502 := E493q.keep K498q
              have f503 := Q493.keep K498q nin0 apart0
              have hk := Nat.le_trans hk K498q.1
              have CR := CR.trans (CHr.keep K498q sf0 CR.1)
              have K498 : Keep h0 T498.heap [] := K493.trans K498q all0
              have O498 := O493.keep K498q all0
              refine stp st498 ?_
              show Go p e below T498 (mkF m 579 #[.val (.int p0), .val (.int p1), .val (.int p2), .val (.int p3), .val (.int p4), .val (.int ((p0 &&& (2147483647 : Int32)) % (5 : Int32))), .val (.int cc), .val (.int kp), .val (.ref b444), .unset, .unset, .unset] [(.ref empty_)]) _
              refine stp (fun _ => XS.aconstNull X498.here hx rfl (hb hby at_579)) ?_
              show Go p e below T498 (mkF m 580 #[.val (.int p0), .val (.int p1), .val (.int p2), .val (.int p3), .val (.int p4), .val (.int ((p0 &&& (2147483647 : Int32)) % (5 : Int32))), .val (.int cc), .val (.int kp), .val (.ref b444), .unset, .unset, .unset] [.null, (.ref empty_)]) _
              obtain ⟨cq504, kq504, q504a, q504b, q504c⟩ := isOf hZ rfl (E_em.ext O498.2)
              obtain ⟨_, _, ⟨T504, L504, k504, n504⟩, -, X504, ⟨Lc504, hQ504, l504, y504, z504⟩, st504⟩ := X498.virtualBack hx (y := (⟨"java/util/Optional", "orElse", "(Ljava/lang/Object;)Ljava/lang/Object;"⟩ : MethodName)) (z := (⟨"java/util/Optional", "orElse", "(Ljava/lang/Object;)Ljava/lang/Object;"⟩ : MethodName)) hown (mvT hZ (hw _ (List.mem_of_getElem? (i := 35) rfl))) (mvT hZ (hw _ (List.mem_of_getElem? (i := 36) rfl))) (notFace_of_selects (args := #[]) (mvT hZ (hw _ (List.mem_of_getElem? (i := 38) rfl)))) (mvT hZ (hw _ (List.mem_of_getElem? (i := 38) rfl))) (mvT hZ (hw _ (List.mem_of_getElem? (i := 37) rfl))) (by decide) (backOf (W := 0) (rm_oe0 l Z a0 hw [] empty_  T498.heap n0 O498 F_em) hZ (hw _ (List.mem_of_getElem? (i := 39) rfl)) (hw _ (List.mem_of_getElem? (i := 32) rfl)) (by decide) (by decide)) q504a q504c (g := (mkF m 580 #[.val (.int p0), .val (.int p1), .val (.int p2), .val (.int p3), .val (.int p4), .val (.int ((p0 &&& (2147483647 : Int32)) % (5 : Int32))), .val (.int cc), .val (.int kp), .val (.ref b444), .unset, .unset, .unset] [.null, (.ref empty_)])) rfl (by rw [hml]; rfl) (Steps.refl _) (argsL := [.null]) (rest := []) (lenOf pd_6 rfl) rfl (by show 2 * 0 + _ ≤ _; exact Nat.le_of_eq rfl) (hb hby at_580) (fun _ _ => ⟨rfl, rfl, (by decide : 4 + 0 ≤ _), (by decide : 24 + 0 ≤ _)⟩)
              dsimp only [Pt.U, Pt.locs, Pt.cells, Pt.slots] at X504 l504 y504 z504 st504 hQ504
              subst y504 z504
              obtain ⟨rfl, N504q, e504⟩ := hQ504
              have N504 : Fr n0 L504 := by rw [l504]; exact Fr.app N498 N504q
              refine stt st504 ?_
              show Go p e below T504 (mkF m 583 #[.val (.int p0), .val (.int p1), .val (.int p2), .val (.int p3), .val (.int p4), .val (.int ((p0 &&& (2147483647 : Int32)) % (5 : Int32))), .val (.int cc), .val (.int kp), .val (.ref b444), .unset, .unset, .unset] [.null]) _
              refine stp (fun _ => XS.ifnonnullNo X504.here hx rfl (hb hby at_583) rfl) ?_
              show Go p e below T504 (mkF m 586 #[.val (.int p0), .val (.int p1), .val (.int p2), .val (.int p3), .val (.int p4), .val (.int ((p0 &&& (2147483647 : Int32)) % (5 : Int32))), .val (.int cc), .val (.int kp), .val (.ref b444), .unset, .unset, .unset] []) _
              refine stp (fun _ => XS.iconst X504.here hx rfl (hb hby at_586)) ?_
              show Go p e below T504 (mkF m 587 #[.val (.int p0), .val (.int p1), .val (.int p2), .val (.int p3), .val (.int p4), .val (.int ((p0 &&& (2147483647 : Int32)) % (5 : Int32))), .val (.int cc), .val (.int kp), .val (.ref b444), .unset, .unset, .unset] [(.int (1 : Int32))]) _
              refine stp (fun _ => XS.goto X504.here hx rfl (pc0 := 587) (pc' := 591) rfl (hb hby at_587) (by decide) (by decide)) ?_
              show Go p e below T504 (mkF m 591 #[.val (.int p0), .val (.int p1), .val (.int p2), .val (.int p3), .val (.int p4), .val (.int ((p0 &&& (2147483647 : Int32)) % (5 : Int32))), .val (.int cc), .val (.int kp), .val (.ref b444), .unset, .unset, .unset] [(.int (1 : Int32))]) _
              refine outNW X504 hx hZ hEL e504 hS hk CR (t := .boolean) hret (by simp) (hb hby at_591) hlk (by decide) (by decide) ?_
              exact ⟨rfl, N504⟩
            · refine stp (fun _ => XS.ifYes X0.here hx rfl (pc0 := 503) (pc' := 592) rfl (hb hby at_503) rfl (XT.i0_ne_t q503_443) (by decide) (by decide)) ?_
              show Go p e below T0 (mkF m 592 #[.val (.int p0), .val (.int p1), .val (.int p2), .val (.int p3), .val (.int p4), .val (.int ((p0 &&& (2147483647 : Int32)) % (5 : Int32))), .val (.int cc), .val (.int kp), .unset, .unset, .unset, .unset] []) _
              refine stp (fun _ => XS.bipush X0.here hx rfl (hb hby at_592)) ?_
              show Go p e below T0 (mkF m 594 #[.val (.int p0), .val (.int p1), .val (.int p2), .val (.int p3), .val (.int p4), .val (.int ((p0 &&& (2147483647 : Int32)) % (5 : Int32))), .val (.int cc), .val (.int kp), .unset, .unset, .unset, .unset] [(.int (19 : Int32))]) _
              obtain ⟨T505, h505, k505, X505, e505, E505, A505, B505, st505⟩ := newPE X0 hx hZ (hw _ (List.mem_of_getElem? (i := 42) rfl)) e0 (g := (mkF m 594 #[.val (.int p0), .val (.int p1), .val (.int p2), .val (.int p3), .val (.int p4), .val (.int ((p0 &&& (2147483647 : Int32)) % (5 : Int32))), .val (.int cc), .val (.int kp), .unset, .unset, .unset, .unset] [(.int (19 : Int32))])) rfl (hb hby at_594) rfl (by decide) (cap := 19) (by decide) (by decide) (by decide) (by decide) (ad := "[C") (by decide)
              obtain ⟨b505, g505⟩ : ∃ z, z = h0.size := ⟨_, rfl⟩
              rw [← g505] at A505 B505 st505
              have ne506 : auth ≠ b505 := O0.ne E_auth.lt (Nat.le_trans (old_le O0) (Nat.le_of_eq g505.symm))
              have ne507 : empty_ ≠ b505 := O0.ne E_em.lt (Nat.le_trans (old_le O0) (Nat.le_of_eq g505.symm))
              have ne508 : impl ≠ b505 := O0.ne E_impl.lt (Nat.le_trans (old_le O0) (Nat.le_of_eq g505.symm))
              have ne509 : va ≠ b505 := O0.ne E_va.lt (Nat.le_trans (old_le O0) (Nat.le_of_eq g505.symm))
              have ne510 : w1 ≠ b505 := O0.ne Q_w1.lt (Nat.le_trans (old_le O0) (Nat.le_of_eq g505.symm))
              have ne511 : w2 ≠ b505 := O0.ne Q_w2.lt (Nat.le_trans (old_le O0) (Nat.le_of_eq g505.symm))
              have sz_b505 : h0.size ≤ b505 := Nat.le_trans (Keep.refl h0 []).1 (Nat.le_of_eq g505.symm)
              have ge_b505 : n0 ≤ b505 := Nat.le_trans (old_le O0) (Nat.le_of_eq g505.symm)
              have hk := Nat.le_trans hk E505.1
              have CR := CR.trans (CHr.ext E505 CR.1)
              have K505 : Keep h0 h505 [] := (Keep.refl h0 []).ext E505
              have O505 := O0.ext E505
              have V505 : Arv Z h505 b505 k505 .char (19 : Int32) [(.int (0 : Int32)), (.int (0 : Int32)), (.int (0 : Int32)), (.int (0 : Int32)), (.int (0 : Int32)), (.int (0 : Int32)), (.int (0 : Int32)), (.int (0 : Int32)), (.int (0 : Int32)), (.int (0 : Int32)), (.int (0 : Int32)), (.int (0 : Int32)), (.int (0 : Int32)), (.int (0 : Int32)), (.int (0 : Int32)), (.int (0 : Int32)), (.int (0 : Int32)), (.int (0 : Int32)), (.int (0 : Int32))] (.int (0 : Int32)) := (Arv.new A505 (by decide)).pad (pad_rep [] (.int (0 : Int32)) 19)
              refine stp st505 ?_
              show Go p e below T505 (mkF m 596 #[.val (.int p0), .val (.int p1), .val (.int p2), .val (.int p3), .val (.int p4), .val (.int ((p0 &&& (2147483647 : Int32)) % (5 : Int32))), .val (.int cc), .val (.int kp), .unset, .unset, .unset, .unset] [(.ref b505)]) _
              refine stp (fun _ => XS.dup X505.here hx rfl (hb hby at_596) rfl rfl) ?_
              show Go p e below T505 (mkF m 597 #[.val (.int p0), .val (.int p1), .val (.int p2), .val (.int p3), .val (.int p4), .val (.int ((p0 &&& (2147483647 : Int32)) % (5 : Int32))), .val (.int cc), .val (.int kp), .unset, .unset, .unset, .unset] [(.ref b505), (.ref b505)]) _
              refine stp (fun _ => XS.iconst X505.here hx rfl (hb hby at_597)) ?_
              show Go p e below T505 (mkF m 598 #[.val (.int p0), .val (.int p1), .val (.int p2), .val (.int p3), .val (.int p4), .val (.int ((p0 &&& (2147483647 : Int32)) % (5 : Int32))), .val (.int cc), .val (.int kp), .unset, .unset, .unset, .unset] [(.int (0 : Int32)), (.ref b505), (.ref b505)]) _
              refine stp (fun _ => XS.bipush X505.here hx rfl (hb hby at_598)) ?_
              show Go p e below T505 (mkF m 600 #[.val (.int p0), .val (.int p1), .val (.int p2), .val (.int p3), .val (.int p4), .val (.int ((p0 &&& (2147483647 : Int32)) % (5 : Int32))), .val (.int cc), .val (.int kp), .unset, .unset, .unset, .unset] [(.int (97 : Int32)), (.int (0 : Int32)), (.ref b505), (.ref b505)]) _
              obtain ⟨cl512, Ar512, q512, S512, M512, H512, G512⟩ := (id V505)
              have in512 : ¬ ((0 : Int32) < 0 ∨ cl512.slots.size ≤ ((0 : Int32)).toNatClampNeg) := inb_of S512 ⟨by decide, by decide⟩
              obtain ⟨T512, h512, X512, e512, W512, st512⟩ := stC X505 hx hZ e505 Ar512 (j := (0 : Int32)) in512 (g := (mkF m 600 #[.val (.int p0), .val (.int p1), .val (.int p2), .val (.int p3), .val (.int p4), .val (.int ((p0 &&& (2147483647 : Int32)) % (5 : Int32))), .val (.int cc), .val (.int kp), .unset, .unset, .unset, .unset] [(.int (97 : Int32)), (.int (0 : Int32)), (.ref b505), (.ref b505)])) rfl rfl (hb hby at_600)
              have V512 : Arv Z h512 b505 k505 .char (19 : Int32) [(.int (97 : Int32)), (.int (0 : Int32)), (.int (0 : Int32)), (.int (0 : Int32)), (.int (0 : Int32)), (.int (0 : Int32)), (.int (0 : Int32)), (.int (0 : Int32)), (.int (0 : Int32)), (.int (0 : Int32)), (.int (0 : Int32)), (.int (0 : Int32)), (.int (0 : Int32)), (.int (0 : Int32)), (.int (0 : Int32)), (.int (0 : Int32)), (.int (0 : Int32)), (.int (0 : Int32)), (.int (0 : Int32))] (.int (0 : Int32)) := Arv.set Ar512 q512 S512 M512 H512 G512 (ow_fits_char (by decide)) (ow_wr_char (by decide) W512) 0 rfl (Nat.le_of_ble_eq_true rfl)
              have f513 := B505.wr W512
              have hk := Nat.le_trans hk (Keep.of_wr W512).1
              have CR := CR.trans (CHr.wr W512 (Safe.exa hZ.alike B505 (by decide) (by decide)) CR.1)
              have K512 : Keep h0 h512 [] := K505.wr W512 (Or.inr sz_b505)
              have O512 := O505.wr W512 ge_b505
              have N512 := Fr.snoc X512 N0 ge_b505
              refine stp st512 ?_
              show Go p e below T512 (mkF m 601 #[.val (.int p0), .val (.int p1), .val (.int p2), .val (.int p3), .val (.int p4), .val (.int ((p0 &&& (2147483647 : Int32)) % (5 : Int32))), .val (.int cc), .val (.int kp), .unset, .unset, .unset, .unset] [(.ref b505)]) _
              refine stp (fun _ => XS.dup X512.here hx rfl (hb hby at_601) rfl rfl) ?_
              show Go p e below T512 (mkF m 602 #[.val (.int p0), .val (.int p1), .val (.int p2), .val (.int p3), .val (.int p4), .val (.int ((p0 &&& (2147483647 : Int32)) % (5 : Int32))), .val (.int cc), .val (.int kp), .unset, .unset, .unset, .unset] [(.ref b505), (.ref b505)]) _
              refine stp (fun _ => XS.iconst X512.here hx rfl (hb hby at_602)) ?_
              show Go p e below T512 (mkF m 603 #[.val (.int p0), .val (.int p1), .val (.int p2), .val (.int p3), .val (.int p4), .val (.int ((p0 &&& (2147483647 : Int32)) % (5 : Int32))), .val (.int cc), .val (.int kp), .unset, .unset, .unset, .unset] [(.int (1 : Int32)), (.ref b505), (.ref b505)]) _
              refine stp (fun _ => XS.bipush X512.here hx rfl (hb hby at_603)) ?_
              show Go p e below T512 (mkF m 605 #[.val (.int p0), .val (.int p1), .val (.int p2), .val (.int p3), .val (.int p4), .val (.int ((p0 &&& (2147483647 : Int32)) % (5 : Int32))), .val (.int cc), .val (.int kp), .unset, .unset, .unset, .unset] [(.int (117 : Int32)), (.int (1 : Int32)), (.ref b505), (.ref b505)]) _
              obtain ⟨cl515, Ar515, q515, S515, M515, H515, G515⟩ := (id V512)
              have in515 : ¬ ((1 : Int32) < 0 ∨ cl515.slots.size ≤ ((1 : Int32)).toNatClampNeg) := inb_of S515 ⟨by decide, by decide⟩
              obtain ⟨T515, h515, X515, e515, W515, st515⟩ := stC X512 hx hZ e512 Ar515 (j := (1 : Int32)) in515 (g := (mkF m 605 #[.val (.int p0), .val (.int p1), .val (.int p2), .val (.int p3), .val (.int p4), .val (.int ((p0 &&& (2147483647 : Int32)) % (5 : Int32))), .val (.int cc), .val (.int kp), .unset, .unset, .unset, .unset] [(.int (117 : Int32)), (.int (1 : Int32)), (.ref b505), (.ref b505)])) rfl rfl (hb hby at_605)
              have V515 : Arv Z h515 b505 k505 .char (19 : Int32) [(.int (97 : Int32)), (.int (117 : Int32)), (.int (0 : Int32)), (.int (0 : Int32)), (.int (0 : Int32)), (.int (0 : Int32)), (.int (0 : Int32)), (.int (0 : Int32)), (.int (0 : Int32)), (.int (0 : Int32)), (.int (0 : Int32)), (.int (0 : Int32)), (.int (0 : Int32)), (.int (0 : Int32)), (.int (0 : Int32)), (.int (0 : Int32)), (.int (0 : Int32)), (.int (0 : Int32)), (.int (0 : Int32))] (.int (0 : Int32)) := Arv.set Ar515 q515 S515 M515 H515 G515 (ow_fits_char (by decide)) (ow_wr_char (by decide) W515) 1 rfl (Nat.le_of_ble_eq_true rfl)
              have f516 := f513.wr W515
              have hk := Nat.le_trans hk (Keep.of_wr W515).1
              have CR := CR.trans (CHr.wr W515 (Safe.exa hZ.alike f513 (by decide) (by decide)) CR.1)
              have K515 : Keep h0 h515 [] := K512.wr W515 (Or.inr sz_b505)
              have O515 := O512.wr W515 ge_b505
              have N515 := Fr.snoc X515 N512 ge_b505
              refine stp st515 ?_
              show Go p e below T515 (mkF m 606 #[.val (.int p0), .val (.int p1), .val (.int p2), .val (.int p3), .val (.int p4), .val (.int ((p0 &&& (2147483647 : Int32)) % (5 : Int32))), .val (.int cc), .val (.int kp), .unset, .unset, .unset, .unset] [(.ref b505)]) _
              refine stp (fun _ => XS.dup X515.here hx rfl (hb hby at_606) rfl rfl) ?_
              show Go p e below T515 (mkF m 607 #[.val (.int p0), .val (.int p1), .val (.int p2), .val (.int p3), .val (.int p4), .val (.int ((p0 &&& (2147483647 : Int32)) % (5 : Int32))), .val (.int cc), .val (.int kp), .unset, .unset, .unset, .unset] [(.ref b505), (.ref b505)]) _
              refine stp (fun _ => XS.iconst X515.here hx rfl (hb hby at_607)) ?_
              show Go p e below T515 (mkF m 608 #[.val (.int p0), .val (.int p1), .val (.int p2), .val (.int p3), .val (.int p4), .val (.int ((p0 &&& (2147483647 : Int32)) % (5 : Int32))), .val (.int cc), .val (.int kp), .unset, .unset, .unset, .unset] [(.int (2 : Int32)), (.ref b505), (.ref b505)]) _
              refine stp (fun _ => XS.bipush X515.here hx rfl (hb hby at_608)) ?_
              show Go p e below T515 (mkF m 610 #[.val (.int p0), .val (.int p1), .val (.int p2), .val (.int p3), .val (.int p4), .val (.int ((p0 &&& (2147483647 : Int32)) % (5 : Int32))), .val (.int cc), .val (.int kp), .unset, .unset, .unset, .unset] [(.int (116 : Int32)), (.int (2 : Int32)), (.ref b505), (.ref b505)]) _
              obtain ⟨cl518, Ar518, q518, S518, M518, H518, G518⟩ := (id V515)
              have in518 : ¬ ((2 : Int32) < 0 ∨ cl518.slots.size ≤ ((2 : Int32)).toNatClampNeg) := inb_of S518 ⟨by decide, by decide⟩
              obtain ⟨T518, h518, X518, e518, W518, st518⟩ := stC X515 hx hZ e515 Ar518 (j := (2 : Int32)) in518 (g := (mkF m 610 #[.val (.int p0), .val (.int p1), .val (.int p2), .val (.int p3), .val (.int p4), .val (.int ((p0 &&& (2147483647 : Int32)) % (5 : Int32))), .val (.int cc), .val (.int kp), .unset, .unset, .unset, .unset] [(.int (116 : Int32)), (.int (2 : Int32)), (.ref b505), (.ref b505)])) rfl rfl (hb hby at_610)
              have V518 : Arv Z h518 b505 k505 .char (19 : Int32) [(.int (97 : Int32)), (.int (117 : Int32)), (.int (116 : Int32)), (.int (0 : Int32)), (.int (0 : Int32)), (.int (0 : Int32)), (.int (0 : Int32)), (.int (0 : Int32)), (.int (0 : Int32)), (.int (0 : Int32)), (.int (0 : Int32)), (.int (0 : Int32)), (.int (0 : Int32)), (.int (0 : Int32)), (.int (0 : Int32)), (.int (0 : Int32)), (.int (0 : Int32)), (.int (0 : Int32)), (.int (0 : Int32))] (.int (0 : Int32)) := Arv.set Ar518 q518 S518 M518 H518 G518 (ow_fits_char (by decide)) (ow_wr_char (by decide) W518) 2 rfl (Nat.le_of_ble_eq_true rfl)
              have f519 := f516.wr W518
              have hk := Nat.le_trans hk (Keep.of_wr W518).1
              have CR := CR.trans (CHr.wr W518 (Safe.exa hZ.alike f516 (by decide) (by decide)) CR.1)
              have K518 : Keep h0 h518 [] := K515.wr W518 (Or.inr sz_b505)
              have O518 := O515.wr W518 ge_b505
              have N518 := Fr.snoc X518 N515 ge_b505
              refine stp st518 ?_
              show Go p e below T518 (mkF m 611 #[.val (.int p0), .val (.int p1), .val (.int p2), .val (.int p3), .val (.int p4), .val (.int ((p0 &&& (2147483647 : Int32)) % (5 : Int32))), .val (.int cc), .val (.int kp), .unset, .unset, .unset, .unset] [(.ref b505)]) _
              refine stp (fun _ => XS.dup X518.here hx rfl (hb hby at_611) rfl rfl) ?_
              show Go p e below T518 (mkF m 612 #[.val (.int p0), .val (.int p1), .val (.int p2), .val (.int p3), .val (.int p4), .val (.int ((p0 &&& (2147483647 : Int32)) % (5 : Int32))), .val (.int cc), .val (.int kp), .unset, .unset, .unset, .unset] [(.ref b505), (.ref b505)]) _
              refine stp (fun _ => XS.iconst X518.here hx rfl (hb hby at_612)) ?_
              show Go p e below T518 (mkF m 613 #[.val (.int p0), .val (.int p1), .val (.int p2), .val (.int p3), .val (.int p4), .val (.int ((p0 &&& (2147483647 : Int32)) % (5 : Int32))), .val (.int cc), .val (.int kp), .unset, .unset, .unset, .unset] [(.int (3 : Int32)), (.ref b505), (.ref b505)]) _
              refine stp (fun _ => XS.bipush X518.here hx rfl (hb hby at_613)) ?_
              show Go p e below T518 (mkF m 615 #[.val (.int p0), .val (.int p1), .val (.int p2), .val (.int p3), .val (.int p4), .val (.int ((p0 &&& (2147483647 : Int32)) % (5 : Int32))), .val (.int cc), .val (.int kp), .unset, .unset, .unset, .unset] [(.int (104 : Int32)), (.int (3 : Int32)), (.ref b505), (.ref b505)]) _
              obtain ⟨cl521, Ar521, q521, S521, M521, H521, G521⟩ := (id V518)
              have in521 : ¬ ((3 : Int32) < 0 ∨ cl521.slots.size ≤ ((3 : Int32)).toNatClampNeg) := inb_of S521 ⟨by decide, by decide⟩
              obtain ⟨T521, h521, X521, e521, W521, st521⟩ := stC X518 hx hZ e518 Ar521 (j := (3 : Int32)) in521 (g := (mkF m 615 #[.val (.int p0), .val (.int p1), .val (.int p2), .val (.int p3), .val (.int p4), .val (.int ((p0 &&& (2147483647 : Int32)) % (5 : Int32))), .val (.int cc), .val (.int kp), .unset, .unset, .unset, .unset] [(.int (104 : Int32)), (.int (3 : Int32)), (.ref b505), (.ref b505)])) rfl rfl (hb hby at_615)
              have V521 : Arv Z h521 b505 k505 .char (19 : Int32) [(.int (97 : Int32)), (.int (117 : Int32)), (.int (116 : Int32)), (.int (104 : Int32)), (.int (0 : Int32)), (.int (0 : Int32)), (.int (0 : Int32)), (.int (0 : Int32)), (.int (0 : Int32)), (.int (0 : Int32)), (.int (0 : Int32)), (.int (0 : Int32)), (.int (0 : Int32)), (.int (0 : Int32)), (.int (0 : Int32)), (.int (0 : Int32)), (.int (0 : Int32)), (.int (0 : Int32)), (.int (0 : Int32))] (.int (0 : Int32)) := Arv.set Ar521 q521 S521 M521 H521 G521 (ow_fits_char (by decide)) (ow_wr_char (by decide) W521) 3 rfl (Nat.le_of_ble_eq_true rfl)
              have f522 := f519.wr W521
              have hk := Nat.le_trans hk (Keep.of_wr W521).1
              have CR := CR.trans (CHr.wr W521 (Safe.exa hZ.alike f519 (by decide) (by decide)) CR.1)
              have K521 : Keep h0 h521 [] := K518.wr W521 (Or.inr sz_b505)
              have O521 := O518.wr W521 ge_b505
              have N521 := Fr.snoc X521 N518 ge_b505
              refine stp st521 ?_
              show Go p e below T521 (mkF m 616 #[.val (.int p0), .val (.int p1), .val (.int p2), .val (.int p3), .val (.int p4), .val (.int ((p0 &&& (2147483647 : Int32)) % (5 : Int32))), .val (.int cc), .val (.int kp), .unset, .unset, .unset, .unset] [(.ref b505)]) _
              refine stp (fun _ => XS.dup X521.here hx rfl (hb hby at_616) rfl rfl) ?_
              show Go p e below T521 (mkF m 617 #[.val (.int p0), .val (.int p1), .val (.int p2), .val (.int p3), .val (.int p4), .val (.int ((p0 &&& (2147483647 : Int32)) % (5 : Int32))), .val (.int cc), .val (.int kp), .unset, .unset, .unset, .unset] [(.ref b505), (.ref b505)]) _
              refine stp (fun _ => XS.iconst X521.here hx rfl (hb hby at_617)) ?_
              show Go p e below T521 (mkF m 618 #[.val (.int p0), .val (.int p1), .val (.int p2), .val (.int p3), .val (.int p4), .val (.int ((p0 &&& (2147483647 : Int32)) % (5 : Int32))), .val (.int cc), .val (.int kp), .unset, .unset, .unset, .unset] [(.int (4 : Int32)), (.ref b505), (.ref b505)]) _
              refine stp (fun _ => XS.bipush X521.here hx rfl (hb hby at_618)) ?_
              show Go p e below T521 (mkF m 620 #[.val (.int p0), .val (.int p1), .val (.int p2), .val (.int p3), .val (.int p4), .val (.int ((p0 &&& (2147483647 : Int32)) % (5 : Int32))), .val (.int cc), .val (.int kp), .unset, .unset, .unset, .unset] [(.int (111 : Int32)), (.int (4 : Int32)), (.ref b505), (.ref b505)]) _
              obtain ⟨cl524, Ar524, q524, S524, M524, H524, G524⟩ := (id V521)
              have in524 : ¬ ((4 : Int32) < 0 ∨ cl524.slots.size ≤ ((4 : Int32)).toNatClampNeg) := inb_of S524 ⟨by decide, by decide⟩
              obtain ⟨T524, h524, X524, e524, W524, st524⟩ := stC X521 hx hZ e521 Ar524 (j := (4 : Int32)) in524 (g := (mkF m 620 #[.val (.int p0), .val (.int p1), .val (.int p2), .val (.int p3), .val (.int p4), .val (.int ((p0 &&& (2147483647 : Int32)) % (5 : Int32))), .val (.int cc), .val (.int kp), .unset, .unset, .unset, .unset] [(.int (111 : Int32)), (.int (4 : Int32)), (.ref b505), (.ref b505)])) rfl rfl (hb hby at_620)
              have V524 : Arv Z h524 b505 k505 .char (19 : Int32) [(.int (97 : Int32)), (.int (117 : Int32)), (.int (116 : Int32)), (.int (104 : Int32)), (.int (111 : Int32)), (.int (0 : Int32)), (.int (0 : Int32)), (.int (0 : Int32)), (.int (0 : Int32)), (.int (0 : Int32)), (.int (0 : Int32)), (.int (0 : Int32)), (.int (0 : Int32)), (.int (0 : Int32)), (.int (0 : Int32)), (.int (0 : Int32)), (.int (0 : Int32)), (.int (0 : Int32)), (.int (0 : Int32))] (.int (0 : Int32)) := Arv.set Ar524 q524 S524 M524 H524 G524 (ow_fits_char (by decide)) (ow_wr_char (by decide) W524) 4 rfl (Nat.le_of_ble_eq_true rfl)
              have f525 := f522.wr W524
              have hk := Nat.le_trans hk (Keep.of_wr W524).1
              have CR := CR.trans (CHr.wr W524 (Safe.exa hZ.alike f522 (by decide) (by decide)) CR.1)
              have K524 : Keep h0 h524 [] := K521.wr W524 (Or.inr sz_b505)
              have O524 := O521.wr W524 ge_b505
              have N524 := Fr.snoc X524 N521 ge_b505
              refine stp st524 ?_
              show Go p e below T524 (mkF m 621 #[.val (.int p0), .val (.int p1), .val (.int p2), .val (.int p3), .val (.int p4), .val (.int ((p0 &&& (2147483647 : Int32)) % (5 : Int32))), .val (.int cc), .val (.int kp), .unset, .unset, .unset, .unset] [(.ref b505)]) _
              refine stp (fun _ => XS.dup X524.here hx rfl (hb hby at_621) rfl rfl) ?_
              show Go p e below T524 (mkF m 622 #[.val (.int p0), .val (.int p1), .val (.int p2), .val (.int p3), .val (.int p4), .val (.int ((p0 &&& (2147483647 : Int32)) % (5 : Int32))), .val (.int cc), .val (.int kp), .unset, .unset, .unset, .unset] [(.ref b505), (.ref b505)]) _
              refine stp (fun _ => XS.iconst X524.here hx rfl (hb hby at_622)) ?_
              show Go p e below T524 (mkF m 623 #[.val (.int p0), .val (.int p1), .val (.int p2), .val (.int p3), .val (.int p4), .val (.int ((p0 &&& (2147483647 : Int32)) % (5 : Int32))), .val (.int cc), .val (.int kp), .unset, .unset, .unset, .unset] [(.int (5 : Int32)), (.ref b505), (.ref b505)]) _
              refine stp (fun _ => XS.bipush X524.here hx rfl (hb hby at_623)) ?_
              show Go p e below T524 (mkF m 625 #[.val (.int p0), .val (.int p1), .val (.int p2), .val (.int p3), .val (.int p4), .val (.int ((p0 &&& (2147483647 : Int32)) % (5 : Int32))), .val (.int cc), .val (.int kp), .unset, .unset, .unset, .unset] [(.int (114 : Int32)), (.int (5 : Int32)), (.ref b505), (.ref b505)]) _
              obtain ⟨cl527, Ar527, q527, S527, M527, H527, G527⟩ := (id V524)
              have in527 : ¬ ((5 : Int32) < 0 ∨ cl527.slots.size ≤ ((5 : Int32)).toNatClampNeg) := inb_of S527 ⟨by decide, by decide⟩
              obtain ⟨T527, h527, X527, e527, W527, st527⟩ := stC X524 hx hZ e524 Ar527 (j := (5 : Int32)) in527 (g := (mkF m 625 #[.val (.int p0), .val (.int p1), .val (.int p2), .val (.int p3), .val (.int p4), .val (.int ((p0 &&& (2147483647 : Int32)) % (5 : Int32))), .val (.int cc), .val (.int kp), .unset, .unset, .unset, .unset] [(.int (114 : Int32)), (.int (5 : Int32)), (.ref b505), (.ref b505)])) rfl rfl (hb hby at_625)
              have V527 : Arv Z h527 b505 k505 .char (19 : Int32) [(.int (97 : Int32)), (.int (117 : Int32)), (.int (116 : Int32)), (.int (104 : Int32)), (.int (111 : Int32)), (.int (114 : Int32)), (.int (0 : Int32)), (.int (0 : Int32)), (.int (0 : Int32)), (.int (0 : Int32)), (.int (0 : Int32)), (.int (0 : Int32)), (.int (0 : Int32)), (.int (0 : Int32)), (.int (0 : Int32)), (.int (0 : Int32)), (.int (0 : Int32)), (.int (0 : Int32)), (.int (0 : Int32))] (.int (0 : Int32)) := Arv.set Ar527 q527 S527 M527 H527 G527 (ow_fits_char (by decide)) (ow_wr_char (by decide) W527) 5 rfl (Nat.le_of_ble_eq_true rfl)
              have f528 := f525.wr W527
              have hk := Nat.le_trans hk (Keep.of_wr W527).1
              have CR := CR.trans (CHr.wr W527 (Safe.exa hZ.alike f525 (by decide) (by decide)) CR.1)
              have K527 : Keep h0 h527 [] := K524.wr W527 (Or.inr sz_b505)
              have O527 := O524.wr W527 ge_b505
              have N527 := Fr.snoc X527 N524 ge_b505
              refine stp st527 ?_
              show Go p e below T527 (mkF m 626 #[.val (.int p0), .val (.int p1), .val (.int p2), .val (.int p3), .val (.int p4), .val (.int ((p0 &&& (2147483647 : Int32)) % (5 : Int32))), .val (.int cc), .val (.int kp), .unset, .unset, .unset, .unset] [(.ref b505)]) _
              refine stp (fun _ => XS.dup X527.here hx rfl (hb hby at_626) rfl rfl) ?_
              show Go p e below T527 (mkF m 627 #[.val (.int p0), .val (.int p1), .val (.int p2), .val (.int p3), .val (.int p4), .val (.int ((p0 &&& (2147483647 : Int32)) % (5 : Int32))), .val (.int cc), .val (.int kp), .unset, .unset, .unset, .unset] [(.ref b505), (.ref b505)]) _
              refine stp (fun _ => XS.bipush X527.here hx rfl (hb hby at_627)) ?_
              show Go p e below T527 (mkF m 629 #[.val (.int p0), .val (.int p1), .val (.int p2), .val (.int p3), .val (.int p4), .val (.int ((p0 &&& (2147483647 : Int32)) % (5 : Int32))), .val (.int cc), .val (.int kp), .unset, .unset, .unset, .unset] [(.int (6 : Int32)), (.ref b505), (.ref b505)]) _
              refine stp (fun _ => XS.bipush X527.here hx rfl (hb hby at_629)) ?_
              show Go p e below T527 (mkF m 631 #[.val (.int p0), .val (.int p1), .val (.int p2), .val (.int p3), .val (.int p4), .val (.int ((p0 &&& (2147483647 : Int32)) % (5 : Int32))), .val (.int cc), .val (.int kp), .unset, .unset, .unset, .unset] [(.int (105 : Int32)), (.int (6 : Int32)), (.ref b505), (.ref b505)]) _
              obtain ⟨cl530, Ar530, q530, S530, M530, H530, G530⟩ := (id V527)
              have in530 : ¬ ((6 : Int32) < 0 ∨ cl530.slots.size ≤ ((6 : Int32)).toNatClampNeg) := inb_of S530 ⟨by decide, by decide⟩
              obtain ⟨T530, h530, X530, e530, W530, st530⟩ := stC X527 hx hZ e527 Ar530 (j := (6 : Int32)) in530 (g := (mkF m 631 #[.val (.int p0), .val (.int p1), .val (.int p2), .val (.int p3), .val (.int p4), .val (.int ((p0 &&& (2147483647 : Int32)) % (5 : Int32))), .val (.int cc), .val (.int kp), .unset, .unset, .unset, .unset] [(.int (105 : Int32)), (.int (6 : Int32)), (.ref b505), (.ref b505)])) rfl rfl (hb hby at_631)
              have V530 : Arv Z h530 b505 k505 .char (19 : Int32) [(.int (97 : Int32)), (.int (117 : Int32)), (.int (116 : Int32)), (.int (104 : Int32)), (.int (111 : Int32)), (.int (114 : Int32)), (.int (105 : Int32)), (.int (0 : Int32)), (.int (0 : Int32)), (.int (0 : Int32)), (.int (0 : Int32)), (.int (0 : Int32)), (.int (0 : Int32)), (.int (0 : Int32)), (.int (0 : Int32)), (.int (0 : Int32)), (.int (0 : Int32)), (.int (0 : Int32)), (.int (0 : Int32))] (.int (0 : Int32)) := Arv.set Ar530 q530 S530 M530 H530 G530 (ow_fits_char (by decide)) (ow_wr_char (by decide) W530) 6 rfl (Nat.le_of_ble_eq_true rfl)
              have f531 := f528.wr W530
              have hk := Nat.le_trans hk (Keep.of_wr W530).1
              have CR := CR.trans (CHr.wr W530 (Safe.exa hZ.alike f528 (by decide) (by decide)) CR.1)
              have K530 : Keep h0 h530 [] := K527.wr W530 (Or.inr sz_b505)
              have O530 := O527.wr W530 ge_b505
              have N530 := Fr.snoc X530 N527 ge_b505
              refine stp st530 ?_
              show Go p e below T530 (mkF m 632 #[.val (.int p0), .val (.int p1), .val (.int p2), .val (.int p3), .val (.int p4), .val (.int ((p0 &&& (2147483647 : Int32)) % (5 : Int32))), .val (.int cc), .val (.int kp), .unset, .unset, .unset, .unset] [(.ref b505)]) _
              refine stp (fun _ => XS.dup X530.here hx rfl (hb hby at_632) rfl rfl) ?_
              show Go p e below T530 (mkF m 633 #[.val (.int p0), .val (.int p1), .val (.int p2), .val (.int p3), .val (.int p4), .val (.int ((p0 &&& (2147483647 : Int32)) % (5 : Int32))), .val (.int cc), .val (.int kp), .unset, .unset, .unset, .unset] [(.ref b505), (.ref b505)]) _
              refine stp (fun _ => XS.bipush X530.here hx rfl (hb hby at_633)) ?_
              show Go p e below T530 (mkF m 635 #[.val (.int p0), .val (.int p1), .val (.int p2), .val (.int p3), .val (.int p4), .val (.int ((p0 &&& (2147483647 : Int32)) % (5 : Int32))), .val (.int cc), .val (.int kp), .unset, .unset, .unset, .unset] [(.int (7 : Int32)), (.ref b505), (.ref b505)]) _
              refine stp (fun _ => XS.bipush X530.here hx rfl (hb hby at_635)) ?_
              show Go p e below T530 (mkF m 637 #[.val (.int p0), .val (.int p1), .val (.int p2), .val (.int p3), .val (.int p4), .val (.int ((p0 &&& (2147483647 : Int32)) % (5 : Int32))), .val (.int cc), .val (.int kp), .unset, .unset, .unset, .unset] [(.int (122 : Int32)), (.int (7 : Int32)), (.ref b505), (.ref b505)]) _
              obtain ⟨cl533, Ar533, q533, S533, M533, H533, G533⟩ := (id V530)
              have in533 : ¬ ((7 : Int32) < 0 ∨ cl533.slots.size ≤ ((7 : Int32)).toNatClampNeg) := inb_of S533 ⟨by decide, by decide⟩
              obtain ⟨T533, h533, X533, e533, W533, st533⟩ := stC X530 hx hZ e530 Ar533 (j := (7 : Int32)) in533 (g := (mkF m 637 #[.val (.int p0), .val (.int p1), .val (.int p2), .val (.int p3), .val (.int p4), .val (.int ((p0 &&& (2147483647 : Int32)) % (5 : Int32))), .val (.int cc), .val (.int kp), .unset, .unset, .unset, .unset] [(.int (122 : Int32)), (.int (7 : Int32)), (.ref b505), (.ref b505)])) rfl rfl (hb hby at_637)
              have V533 : Arv Z h533 b505 k505 .char (19 : Int32) [(.int (97 : Int32)), (.int (117 : Int32)), (.int (116 : Int32)), (.int (104 : Int32)), (.int (111 : Int32)), (.int (114 : Int32)), (.int (105 : Int32)), (.int (122 : Int32)), (.int (0 : Int32)), (.int (0 : Int32)), (.int (0 : Int32)), (.int (0 : Int32)), (.int (0 : Int32)), (.int (0 : Int32)), (.int (0 : Int32)), (.int (0 : Int32)), (.int (0 : Int32)), (.int (0 : Int32)), (.int (0 : Int32))] (.int (0 : Int32)) := Arv.set Ar533 q533 S533 M533 H533 G533 (ow_fits_char (by decide)) (ow_wr_char (by decide) W533) 7 rfl (Nat.le_of_ble_eq_true rfl)
              have f534 := f531.wr W533
              have hk := Nat.le_trans hk (Keep.of_wr W533).1
              have CR := CR.trans (CHr.wr W533 (Safe.exa hZ.alike f531 (by decide) (by decide)) CR.1)
              have K533 : Keep h0 h533 [] := K530.wr W533 (Or.inr sz_b505)
              have O533 := O530.wr W533 ge_b505
              have N533 := Fr.snoc X533 N530 ge_b505
              refine stp st533 ?_
              show Go p e below T533 (mkF m 638 #[.val (.int p0), .val (.int p1), .val (.int p2), .val (.int p3), .val (.int p4), .val (.int ((p0 &&& (2147483647 : Int32)) % (5 : Int32))), .val (.int cc), .val (.int kp), .unset, .unset, .unset, .unset] [(.ref b505)]) _
              refine stp (fun _ => XS.dup X533.here hx rfl (hb hby at_638) rfl rfl) ?_
              show Go p e below T533 (mkF m 639 #[.val (.int p0), .val (.int p1), .val (.int p2), .val (.int p3), .val (.int p4), .val (.int ((p0 &&& (2147483647 : Int32)) % (5 : Int32))), .val (.int cc), .val (.int kp), .unset, .unset, .unset, .unset] [(.ref b505), (.ref b505)]) _
              refine stp (fun _ => XS.bipush X533.here hx rfl (hb hby at_639)) ?_
              show Go p e below T533 (mkF m 641 #[.val (.int p0), .val (.int p1), .val (.int p2), .val (.int p3), .val (.int p4), .val (.int ((p0 &&& (2147483647 : Int32)) % (5 : Int32))), .val (.int cc), .val (.int kp), .unset, .unset, .unset, .unset] [(.int (8 : Int32)), (.ref b505), (.ref b505)]) _
              refine stp (fun _ => XS.bipush X533.here hx rfl (hb hby at_641)) ?_
              show Go p e below T533 (mkF m 643 #[.val (.int p0), .val (.int p1), .val (.int p2), .val (.int p3), .val (.int p4), .val (.int ((p0 &&& (2147483647 : Int32)) % (5 : Int32))), .val (.int cc), .val (.int kp), .unset, .unset, .unset, .unset] [(.int (97 : Int32)), (.int (8 : Int32)), (.ref b505), (.ref b505)]) _
              obtain ⟨cl536, Ar536, q536, S536, M536, H536, G536⟩ := (id V533)
              have in536 : ¬ ((8 : Int32) < 0 ∨ cl536.slots.size ≤ ((8 : Int32)).toNatClampNeg) := inb_of S536 ⟨by decide, by decide⟩
              obtain ⟨T536, h536, X536, e536, W536, st536⟩ := stC X533 hx hZ e533 Ar536 (j := (8 : Int32)) in536 (g := (mkF m 643 #[.val (.int p0), .val (.int p1), .val (.int p2), .val (.int p3), .val (.int p4), .val (.int ((p0 &&& (2147483647 : Int32)) % (5 : Int32))), .val (.int cc), .val (.int kp), .unset, .unset, .unset, .unset] [(.int (97 : Int32)), (.int (8 : Int32)), (.ref b505), (.ref b505)])) rfl rfl (hb hby at_643)
              have V536 : Arv Z h536 b505 k505 .char (19 : Int32) [(.int (97 : Int32)), (.int (117 : Int32)), (.int (116 : Int32)), (.int (104 : Int32)), (.int (111 : Int32)), (.int (114 : Int32)), (.int (105 : Int32)), (.int (122 : Int32)), (.int (97 : Int32)), (.int (0 : Int32)), (.int (0 : Int32)), (.int (0 : Int32)), (.int (0 : Int32)), (.int (0 : Int32)), (.int (0 : Int32)), (.int (0 : Int32)), (.int (0 : Int32)), (.int (0 : Int32)), (.int (0 : Int32))] (.int (0 : Int32)) := Arv.set Ar536 q536 S536 M536 H536 G536 (ow_fits_char (by decide)) (ow_wr_char (by decide) W536) 8 rfl (Nat.le_of_ble_eq_true rfl)
              have f537 := f534.wr W536
              have hk := Nat.le_trans hk (Keep.of_wr W536).1
              have CR := CR.trans (CHr.wr W536 (Safe.exa hZ.alike f534 (by decide) (by decide)) CR.1)
              have K536 : Keep h0 h536 [] := K533.wr W536 (Or.inr sz_b505)
              have O536 := O533.wr W536 ge_b505
              have N536 := Fr.snoc X536 N533 ge_b505
              refine stp st536 ?_
              show Go p e below T536 (mkF m 644 #[.val (.int p0), .val (.int p1), .val (.int p2), .val (.int p3), .val (.int p4), .val (.int ((p0 &&& (2147483647 : Int32)) % (5 : Int32))), .val (.int cc), .val (.int kp), .unset, .unset, .unset, .unset] [(.ref b505)]) _
              refine stp (fun _ => XS.dup X536.here hx rfl (hb hby at_644) rfl rfl) ?_
              show Go p e below T536 (mkF m 645 #[.val (.int p0), .val (.int p1), .val (.int p2), .val (.int p3), .val (.int p4), .val (.int ((p0 &&& (2147483647 : Int32)) % (5 : Int32))), .val (.int cc), .val (.int kp), .unset, .unset, .unset, .unset] [(.ref b505), (.ref b505)]) _
              refine stp (fun _ => XS.bipush X536.here hx rfl (hb hby at_645)) ?_
              show Go p e below T536 (mkF m 647 #[.val (.int p0), .val (.int p1), .val (.int p2), .val (.int p3), .val (.int p4), .val (.int ((p0 &&& (2147483647 : Int32)) % (5 : Int32))), .val (.int cc), .val (.int kp), .unset, .unset, .unset, .unset] [(.int (9 : Int32)), (.ref b505), (.ref b505)]) _
              refine stp (fun _ => XS.bipush X536.here hx rfl (hb hby at_647)) ?_
              show Go p e below T536 (mkF m 649 #[.val (.int p0), .val (.int p1), .val (.int p2), .val (.int p3), .val (.int p4), .val (.int ((p0 &&& (2147483647 : Int32)) % (5 : Int32))), .val (.int cc), .val (.int kp), .unset, .unset, .unset, .unset] [(.int (116 : Int32)), (.int (9 : Int32)), (.ref b505), (.ref b505)]) _
              obtain ⟨cl539, Ar539, q539, S539, M539, H539, G539⟩ := (id V536)
              have in539 : ¬ ((9 : Int32) < 0 ∨ cl539.slots.size ≤ ((9 : Int32)).toNatClampNeg) := inb_of S539 ⟨by decide, by decide⟩
              obtain ⟨T539, h539, X539, e539, W539, st539⟩ := stC X536 hx hZ e536 Ar539 (j := (9 : Int32)) in539 (g := (mkF m 649 #[.val (.int p0), .val (.int p1), .val (.int p2), .val (.int p3), .val (.int p4), .val (.int ((p0 &&& (2147483647 : Int32)) % (5 : Int32))), .val (.int cc), .val (.int kp), .unset, .unset, .unset, .unset] [(.int (116 : Int32)), (.int (9 : Int32)), (.ref b505), (.ref b505)])) rfl rfl (hb hby at_649)
              have V539 : Arv Z h539 b505 k505 .char (19 : Int32) [(.int (97 : Int32)), (.int (117 : Int32)), (.int (116 : Int32)), (.int (104 : Int32)), (.int (111 : Int32)), (.int (114 : Int32)), (.int (105 : Int32)), (.int (122 : Int32)), (.int (97 : Int32)), (.int (116 : Int32)), (.int (0 : Int32)), (.int (0 : Int32)), (.int (0 : Int32)), (.int (0 : Int32)), (.int (0 : Int32)), (.int (0 : Int32)), (.int (0 : Int32)), (.int (0 : Int32)), (.int (0 : Int32))] (.int (0 : Int32)) := Arv.set Ar539 q539 S539 M539 H539 G539 (ow_fits_char (by decide)) (ow_wr_char (by decide) W539) 9 rfl (Nat.le_of_ble_eq_true rfl)
              have f540 := f537.wr W539
              have hk := Nat.le_trans hk (Keep.of_wr W539).1
              have CR := CR.trans (CHr.wr W539 (Safe.exa hZ.alike f537 (by decide) (by decide)) CR.1)
              have K539 : Keep h0 h539 [] := K536.wr W539 (Or.inr sz_b505)
              have O539 := O536.wr W539 ge_b505
              have N539 := Fr.snoc X539 N536 ge_b505
              refine stp st539 ?_
              show Go p e below T539 (mkF m 650 #[.val (.int p0), .val (.int p1), .val (.int p2), .val (.int p3), .val (.int p4), .val (.int ((p0 &&& (2147483647 : Int32)) % (5 : Int32))), .val (.int cc), .val (.int kp), .unset, .unset, .unset, .unset] [(.ref b505)]) _
              refine stp (fun _ => XS.dup X539.here hx rfl (hb hby at_650) rfl rfl) ?_
              show Go p e below T539 (mkF m 651 #[.val (.int p0), .val (.int p1), .val (.int p2), .val (.int p3), .val (.int p4), .val (.int ((p0 &&& (2147483647 : Int32)) % (5 : Int32))), .val (.int cc), .val (.int kp), .unset, .unset, .unset, .unset] [(.ref b505), (.ref b505)]) _
              refine stp (fun _ => XS.bipush X539.here hx rfl (hb hby at_651)) ?_
              show Go p e below T539 (mkF m 653 #[.val (.int p0), .val (.int p1), .val (.int p2), .val (.int p3), .val (.int p4), .val (.int ((p0 &&& (2147483647 : Int32)) % (5 : Int32))), .val (.int cc), .val (.int kp), .unset, .unset, .unset, .unset] [(.int (10 : Int32)), (.ref b505), (.ref b505)]) _
              refine stp (fun _ => XS.bipush X539.here hx rfl (hb hby at_653)) ?_
              show Go p e below T539 (mkF m 655 #[.val (.int p0), .val (.int p1), .val (.int p2), .val (.int p3), .val (.int p4), .val (.int ((p0 &&& (2147483647 : Int32)) % (5 : Int32))), .val (.int cc), .val (.int kp), .unset, .unset, .unset, .unset] [(.int (105 : Int32)), (.int (10 : Int32)), (.ref b505), (.ref b505)]) _
              obtain ⟨cl542, Ar542, q542, S542, M542, H542, G542⟩ := (id V539)
              have in542 : ¬ ((10 : Int32) < 0 ∨ cl542.slots.size ≤ ((10 : Int32)).toNatClampNeg) := inb_of S542 ⟨by decide, by decide⟩
              obtain ⟨T542, h542, X542, e542, W542, st542⟩ := stC X539 hx hZ e539 Ar542 (j := (10 : Int32)) in542 (g := (mkF m 655 #[.val (.int p0), .val (.int p1), .val (.int p2), .val (.int p3), .val (.int p4), .val (.int ((p0 &&& (2147483647 : Int32)) % (5 : Int32))), .val (.int cc), .val (.int kp), .unset, .unset, .unset, .unset] [(.int (105 : Int32)), (.int (10 : Int32)), (.ref b505), (.ref b505)])) rfl rfl (hb hby at_655)
              have V542 : Arv Z h542 b505 k505 .char (19 : Int32) [(.int (97 : Int32)), (.int (117 : Int32)), (.int (116 : Int32)), (.int (104 : Int32)), (.int (111 : Int32)), (.int (114 : Int32)), (.int (105 : Int32)), (.int (122 : Int32)), (.int (97 : Int32)), (.int (116 : Int32)), (.int (105 : Int32)), (.int (0 : Int32)), (.int (0 : Int32)), (.int (0 : Int32)), (.int (0 : Int32)), (.int (0 : Int32)), (.int (0 : Int32)), (.int (0 : Int32)), (.int (0 : Int32))] (.int (0 : Int32)) := Arv.set Ar542 q542 S542 M542 H542 G542 (ow_fits_char (by decide)) (ow_wr_char (by decide) W542) 10 rfl (Nat.le_of_ble_eq_true rfl)
              have f543 := f540.wr W542
              have hk := Nat.le_trans hk (Keep.of_wr W542).1
              have CR := CR.trans (CHr.wr W542 (Safe.exa hZ.alike f540 (by decide) (by decide)) CR.1)
              have K542 : Keep h0 h542 [] := K539.wr W542 (Or.inr sz_b505)
              have O542 := O539.wr W542 ge_b505
              have N542 := Fr.snoc X542 N539 ge_b505
              refine stp st542 ?_
              show Go p e below T542 (mkF m 656 #[.val (.int p0), .val (.int p1), .val (.int p2), .val (.int p3), .val (.int p4), .val (.int ((p0 &&& (2147483647 : Int32)) % (5 : Int32))), .val (.int cc), .val (.int kp), .unset, .unset, .unset, .unset] [(.ref b505)]) _
              refine stp (fun _ => XS.dup X542.here hx rfl (hb hby at_656) rfl rfl) ?_
              show Go p e below T542 (mkF m 657 #[.val (.int p0), .val (.int p1), .val (.int p2), .val (.int p3), .val (.int p4), .val (.int ((p0 &&& (2147483647 : Int32)) % (5 : Int32))), .val (.int cc), .val (.int kp), .unset, .unset, .unset, .unset] [(.ref b505), (.ref b505)]) _
              refine stp (fun _ => XS.bipush X542.here hx rfl (hb hby at_657)) ?_
              show Go p e below T542 (mkF m 659 #[.val (.int p0), .val (.int p1), .val (.int p2), .val (.int p3), .val (.int p4), .val (.int ((p0 &&& (2147483647 : Int32)) % (5 : Int32))), .val (.int cc), .val (.int kp), .unset, .unset, .unset, .unset] [(.int (11 : Int32)), (.ref b505), (.ref b505)]) _
              refine stp (fun _ => XS.bipush X542.here hx rfl (hb hby at_659)) ?_
              show Go p e below T542 (mkF m 661 #[.val (.int p0), .val (.int p1), .val (.int p2), .val (.int p3), .val (.int p4), .val (.int ((p0 &&& (2147483647 : Int32)) % (5 : Int32))), .val (.int cc), .val (.int kp), .unset, .unset, .unset, .unset] [(.int (111 : Int32)), (.int (11 : Int32)), (.ref b505), (.ref b505)]) _
              obtain ⟨cl545, Ar545, q545, S545, M545, H545, G545⟩ := (id V542)
              have in545 : ¬ ((11 : Int32) < 0 ∨ cl545.slots.size ≤ ((11 : Int32)).toNatClampNeg) := inb_of S545 ⟨by decide, by decide⟩
              obtain ⟨T545, h545, X545, e545, W545, st545⟩ := stC X542 hx hZ e542 Ar545 (j := (11 : Int32)) in545 (g := (mkF m 661 #[.val (.int p0), .val (.int p1), .val (.int p2), .val (.int p3), .val (.int p4), .val (.int ((p0 &&& (2147483647 : Int32)) % (5 : Int32))), .val (.int cc), .val (.int kp), .unset, .unset, .unset, .unset] [(.int (111 : Int32)), (.int (11 : Int32)), (.ref b505), (.ref b505)])) rfl rfl (hb hby at_661)
              have V545 : Arv Z h545 b505 k505 .char (19 : Int32) [(.int (97 : Int32)), (.int (117 : Int32)), (.int (116 : Int32)), (.int (104 : Int32)), (.int (111 : Int32)), (.int (114 : Int32)), (.int (105 : Int32)), (.int (122 : Int32)), (.int (97 : Int32)), (.int (116 : Int32)), (.int (105 : Int32)), (.int (111 : Int32)), (.int (0 : Int32)), (.int (0 : Int32)), (.int (0 : Int32)), (.int (0 : Int32)), (.int (0 : Int32)), (.int (0 : Int32)), (.int (0 : Int32))] (.int (0 : Int32)) := Arv.set Ar545 q545 S545 M545 H545 G545 (ow_fits_char (by decide)) (ow_wr_char (by decide) W545) 11 rfl (Nat.le_of_ble_eq_true rfl)
              have f546 := f543.wr W545
              have hk := Nat.le_trans hk (Keep.of_wr W545).1
              have CR := CR.trans (CHr.wr W545 (Safe.exa hZ.alike f543 (by decide) (by decide)) CR.1)
              have K545 : Keep h0 h545 [] := K542.wr W545 (Or.inr sz_b505)
              have O545 := O542.wr W545 ge_b505
              have N545 := Fr.snoc X545 N542 ge_b505
              refine stp st545 ?_
              show Go p e below T545 (mkF m 662 #[.val (.int p0), .val (.int p1), .val (.int p2), .val (.int p3), .val (.int p4), .val (.int ((p0 &&& (2147483647 : Int32)) % (5 : Int32))), .val (.int cc), .val (.int kp), .unset, .unset, .unset, .unset] [(.ref b505)]) _
              refine stp (fun _ => XS.dup X545.here hx rfl (hb hby at_662) rfl rfl) ?_
              show Go p e below T545 (mkF m 663 #[.val (.int p0), .val (.int p1), .val (.int p2), .val (.int p3), .val (.int p4), .val (.int ((p0 &&& (2147483647 : Int32)) % (5 : Int32))), .val (.int cc), .val (.int kp), .unset, .unset, .unset, .unset] [(.ref b505), (.ref b505)]) _
              refine stp (fun _ => XS.bipush X545.here hx rfl (hb hby at_663)) ?_
              show Go p e below T545 (mkF m 665 #[.val (.int p0), .val (.int p1), .val (.int p2), .val (.int p3), .val (.int p4), .val (.int ((p0 &&& (2147483647 : Int32)) % (5 : Int32))), .val (.int cc), .val (.int kp), .unset, .unset, .unset, .unset] [(.int (12 : Int32)), (.ref b505), (.ref b505)]) _
              refine stp (fun _ => XS.bipush X545.here hx rfl (hb hby at_665)) ?_
              show Go p e below T545 (mkF m 667 #[.val (.int p0), .val (.int p1), .val (.int p2), .val (.int p3), .val (.int p4), .val (.int ((p0 &&& (2147483647 : Int32)) % (5 : Int32))), .val (.int cc), .val (.int kp), .unset, .unset, .unset, .unset] [(.int (110 : Int32)), (.int (12 : Int32)), (.ref b505), (.ref b505)]) _
              obtain ⟨cl548, Ar548, q548, S548, M548, H548, G548⟩ := (id V545)
              have in548 : ¬ ((12 : Int32) < 0 ∨ cl548.slots.size ≤ ((12 : Int32)).toNatClampNeg) := inb_of S548 ⟨by decide, by decide⟩
              obtain ⟨T548, h548, X548, e548, W548, st548⟩ := stC X545 hx hZ e545 Ar548 (j := (12 : Int32)) in548 (g := (mkF m 667 #[.val (.int p0), .val (.int p1), .val (.int p2), .val (.int p3), .val (.int p4), .val (.int ((p0 &&& (2147483647 : Int32)) % (5 : Int32))), .val (.int cc), .val (.int kp), .unset, .unset, .unset, .unset] [(.int (110 : Int32)), (.int (12 : Int32)), (.ref b505), (.ref b505)])) rfl rfl (hb hby at_667)
              have V548 : Arv Z h548 b505 k505 .char (19 : Int32) [(.int (97 : Int32)), (.int (117 : Int32)), (.int (116 : Int32)), (.int (104 : Int32)), (.int (111 : Int32)), (.int (114 : Int32)), (.int (105 : Int32)), (.int (122 : Int32)), (.int (97 : Int32)), (.int (116 : Int32)), (.int (105 : Int32)), (.int (111 : Int32)), (.int (110 : Int32)), (.int (0 : Int32)), (.int (0 : Int32)), (.int (0 : Int32)), (.int (0 : Int32)), (.int (0 : Int32)), (.int (0 : Int32))] (.int (0 : Int32)) := Arv.set Ar548 q548 S548 M548 H548 G548 (ow_fits_char (by decide)) (ow_wr_char (by decide) W548) 12 rfl (Nat.le_of_ble_eq_true rfl)
              have f549 := f546.wr W548
              have hk := Nat.le_trans hk (Keep.of_wr W548).1
              have CR := CR.trans (CHr.wr W548 (Safe.exa hZ.alike f546 (by decide) (by decide)) CR.1)
              have K548 : Keep h0 h548 [] := K545.wr W548 (Or.inr sz_b505)
              have O548 := O545.wr W548 ge_b505
              have N548 := Fr.snoc X548 N545 ge_b505
              refine stp st548 ?_
              show Go p e below T548 (mkF m 668 #[.val (.int p0), .val (.int p1), .val (.int p2), .val (.int p3), .val (.int p4), .val (.int ((p0 &&& (2147483647 : Int32)) % (5 : Int32))), .val (.int cc), .val (.int kp), .unset, .unset, .unset, .unset] [(.ref b505)]) _
              refine stp (fun _ => XS.dup X548.here hx rfl (hb hby at_668) rfl rfl) ?_
              show Go p e below T548 (mkF m 669 #[.val (.int p0), .val (.int p1), .val (.int p2), .val (.int p3), .val (.int p4), .val (.int ((p0 &&& (2147483647 : Int32)) % (5 : Int32))), .val (.int cc), .val (.int kp), .unset, .unset, .unset, .unset] [(.ref b505), (.ref b505)]) _
              refine stp (fun _ => XS.bipush X548.here hx rfl (hb hby at_669)) ?_
              show Go p e below T548 (mkF m 671 #[.val (.int p0), .val (.int p1), .val (.int p2), .val (.int p3), .val (.int p4), .val (.int ((p0 &&& (2147483647 : Int32)) % (5 : Int32))), .val (.int cc), .val (.int kp), .unset, .unset, .unset, .unset] [(.int (13 : Int32)), (.ref b505), (.ref b505)]) _
              refine stp (fun _ => XS.bipush X548.here hx rfl (hb hby at_671)) ?_
              show Go p e below T548 (mkF m 673 #[.val (.int p0), .val (.int p1), .val (.int p2), .val (.int p3), .val (.int p4), .val (.int ((p0 &&& (2147483647 : Int32)) % (5 : Int32))), .val (.int cc), .val (.int kp), .unset, .unset, .unset, .unset] [(.int (95 : Int32)), (.int (13 : Int32)), (.ref b505), (.ref b505)]) _
              obtain ⟨cl551, Ar551, q551, S551, M551, H551, G551⟩ := (id V548)
              have in551 : ¬ ((13 : Int32) < 0 ∨ cl551.slots.size ≤ ((13 : Int32)).toNatClampNeg) := inb_of S551 ⟨by decide, by decide⟩
              obtain ⟨T551, h551, X551, e551, W551, st551⟩ := stC X548 hx hZ e548 Ar551 (j := (13 : Int32)) in551 (g := (mkF m 673 #[.val (.int p0), .val (.int p1), .val (.int p2), .val (.int p3), .val (.int p4), .val (.int ((p0 &&& (2147483647 : Int32)) % (5 : Int32))), .val (.int cc), .val (.int kp), .unset, .unset, .unset, .unset] [(.int (95 : Int32)), (.int (13 : Int32)), (.ref b505), (.ref b505)])) rfl rfl (hb hby at_673)
              have V551 : Arv Z h551 b505 k505 .char (19 : Int32) [(.int (97 : Int32)), (.int (117 : Int32)), (.int (116 : Int32)), (.int (104 : Int32)), (.int (111 : Int32)), (.int (114 : Int32)), (.int (105 : Int32)), (.int (122 : Int32)), (.int (97 : Int32)), (.int (116 : Int32)), (.int (105 : Int32)), (.int (111 : Int32)), (.int (110 : Int32)), (.int (95 : Int32)), (.int (0 : Int32)), (.int (0 : Int32)), (.int (0 : Int32)), (.int (0 : Int32)), (.int (0 : Int32))] (.int (0 : Int32)) := Arv.set Ar551 q551 S551 M551 H551 G551 (ow_fits_char (by decide)) (ow_wr_char (by decide) W551) 13 rfl (Nat.le_of_ble_eq_true rfl)
              have f552 := f549.wr W551
              have hk := Nat.le_trans hk (Keep.of_wr W551).1
              have CR := CR.trans (CHr.wr W551 (Safe.exa hZ.alike f549 (by decide) (by decide)) CR.1)
              have K551 : Keep h0 h551 [] := K548.wr W551 (Or.inr sz_b505)
              have O551 := O548.wr W551 ge_b505
              have N551 := Fr.snoc X551 N548 ge_b505
              refine stp st551 ?_
              show Go p e below T551 (mkF m 674 #[.val (.int p0), .val (.int p1), .val (.int p2), .val (.int p3), .val (.int p4), .val (.int ((p0 &&& (2147483647 : Int32)) % (5 : Int32))), .val (.int cc), .val (.int kp), .unset, .unset, .unset, .unset] [(.ref b505)]) _
              refine stp (fun _ => XS.dup X551.here hx rfl (hb hby at_674) rfl rfl) ?_
              show Go p e below T551 (mkF m 675 #[.val (.int p0), .val (.int p1), .val (.int p2), .val (.int p3), .val (.int p4), .val (.int ((p0 &&& (2147483647 : Int32)) % (5 : Int32))), .val (.int cc), .val (.int kp), .unset, .unset, .unset, .unset] [(.ref b505), (.ref b505)]) _
              refine stp (fun _ => XS.bipush X551.here hx rfl (hb hby at_675)) ?_
              show Go p e below T551 (mkF m 677 #[.val (.int p0), .val (.int p1), .val (.int p2), .val (.int p3), .val (.int p4), .val (.int ((p0 &&& (2147483647 : Int32)) % (5 : Int32))), .val (.int cc), .val (.int kp), .unset, .unset, .unset, .unset] [(.int (14 : Int32)), (.ref b505), (.ref b505)]) _
              refine stp (fun _ => XS.bipush X551.here hx rfl (hb hby at_677)) ?_
              show Go p e below T551 (mkF m 679 #[.val (.int p0), .val (.int p1), .val (.int p2), .val (.int p3), .val (.int p4), .val (.int ((p0 &&& (2147483647 : Int32)) % (5 : Int32))), .val (.int cc), .val (.int kp), .unset, .unset, .unset, .unset] [(.int (99 : Int32)), (.int (14 : Int32)), (.ref b505), (.ref b505)]) _
              obtain ⟨cl554, Ar554, q554, S554, M554, H554, G554⟩ := (id V551)
              have in554 : ¬ ((14 : Int32) < 0 ∨ cl554.slots.size ≤ ((14 : Int32)).toNatClampNeg) := inb_of S554 ⟨by decide, by decide⟩
              obtain ⟨T554, h554, X554, e554, W554, st554⟩ := stC X551 hx hZ e551 Ar554 (j := (14 : Int32)) in554 (g := (mkF m 679 #[.val (.int p0), .val (.int p1), .val (.int p2), .val (.int p3), .val (.int p4), .val (.int ((p0 &&& (2147483647 : Int32)) % (5 : Int32))), .val (.int cc), .val (.int kp), .unset, .unset, .unset, .unset] [(.int (99 : Int32)), (.int (14 : Int32)), (.ref b505), (.ref b505)])) rfl rfl (hb hby at_679)
              have V554 : Arv Z h554 b505 k505 .char (19 : Int32) [(.int (97 : Int32)), (.int (117 : Int32)), (.int (116 : Int32)), (.int (104 : Int32)), (.int (111 : Int32)), (.int (114 : Int32)), (.int (105 : Int32)), (.int (122 : Int32)), (.int (97 : Int32)), (.int (116 : Int32)), (.int (105 : Int32)), (.int (111 : Int32)), (.int (110 : Int32)), (.int (95 : Int32)), (.int (99 : Int32)), (.int (0 : Int32)), (.int (0 : Int32)), (.int (0 : Int32)), (.int (0 : Int32))] (.int (0 : Int32)) := Arv.set Ar554 q554 S554 M554 H554 G554 (ow_fits_char (by decide)) (ow_wr_char (by decide) W554) 14 rfl (Nat.le_of_ble_eq_true rfl)
              have f555 := f552.wr W554
              have hk := Nat.le_trans hk (Keep.of_wr W554).1
              have CR := CR.trans (CHr.wr W554 (Safe.exa hZ.alike f552 (by decide) (by decide)) CR.1)
              have K554 : Keep h0 h554 [] := K551.wr W554 (Or.inr sz_b505)
              have O554 := O551.wr W554 ge_b505
              have N554 := Fr.snoc X554 N551 ge_b505
              refine stp st554 ?_
              show Go p e below T554 (mkF m 680 #[.val (.int p0), .val (.int p1), .val (.int p2), .val (.int p3), .val (.int p4), .val (.int ((p0 &&& (2147483647 : Int32)) % (5 : Int32))), .val (.int cc), .val (.int kp), .unset, .unset, .unset, .unset] [(.ref b505)]) _
              refine stp (fun _ => XS.dup X554.here hx rfl (hb hby at_680) rfl rfl) ?_
              show Go p e below T554 (mkF m 681 #[.val (.int p0), .val (.int p1), .val (.int p2), .val (.int p3), .val (.int p4), .val (.int ((p0 &&& (2147483647 : Int32)) % (5 : Int32))), .val (.int cc), .val (.int kp), .unset, .unset, .unset, .unset] [(.ref b505), (.ref b505)]) _
              refine stp (fun _ => XS.bipush X554.here hx rfl (hb hby at_681)) ?_
              show Go p e below T554 (mkF m 683 #[.val (.int p0), .val (.int p1), .val (.int p2), .val (.int p3), .val (.int p4), .val (.int ((p0 &&& (2147483647 : Int32)) % (5 : Int32))), .val (.int cc), .val (.int kp), .unset, .unset, .unset, .unset] [(.int (15 : Int32)), (.ref b505), (.ref b505)]) _
              refine stp (fun _ => XS.bipush X554.here hx rfl (hb hby at_683)) ?_
              show Go p e below T554 (mkF m 685 #[.val (.int p0), .val (.int p1), .val (.int p2), .val (.int p3), .val (.int p4), .val (.int ((p0 &&& (2147483647 : Int32)) % (5 : Int32))), .val (.int cc), .val (.int kp), .unset, .unset, .unset, .unset] [(.int (111 : Int32)), (.int (15 : Int32)), (.ref b505), (.ref b505)]) _
              obtain ⟨cl557, Ar557, q557, S557, M557, H557, G557⟩ := (id V554)
              have in557 : ¬ ((15 : Int32) < 0 ∨ cl557.slots.size ≤ ((15 : Int32)).toNatClampNeg) := inb_of S557 ⟨by decide, by decide⟩
              obtain ⟨T557, h557, X557, e557, W557, st557⟩ := stC X554 hx hZ e554 Ar557 (j := (15 : Int32)) in557 (g := (mkF m 685 #[.val (.int p0), .val (.int p1), .val (.int p2), .val (.int p3), .val (.int p4), .val (.int ((p0 &&& (2147483647 : Int32)) % (5 : Int32))), .val (.int cc), .val (.int kp), .unset, .unset, .unset, .unset] [(.int (111 : Int32)), (.int (15 : Int32)), (.ref b505), (.ref b505)])) rfl rfl (hb hby at_685)
              have V557 : Arv Z h557 b505 k505 .char (19 : Int32) [(.int (97 : Int32)), (.int (117 : Int32)), (.int (116 : Int32)), (.int (104 : Int32)), (.int (111 : Int32)), (.int (114 : Int32)), (.int (105 : Int32)), (.int (122 : Int32)), (.int (97 : Int32)), (.int (116 : Int32)), (.int (105 : Int32)), (.int (111 : Int32)), (.int (110 : Int32)), (.int (95 : Int32)), (.int (99 : Int32)), (.int (111 : Int32)), (.int (0 : Int32)), (.int (0 : Int32)), (.int (0 : Int32))] (.int (0 : Int32)) := Arv.set Ar557 q557 S557 M557 H557 G557 (ow_fits_char (by decide)) (ow_wr_char (by decide) W557) 15 rfl (Nat.le_of_ble_eq_true rfl)
              have f558 := f555.wr W557
              have hk := Nat.le_trans hk (Keep.of_wr W557).1
              have CR := CR.trans (CHr.wr W557 (Safe.exa hZ.alike f555 (by decide) (by decide)) CR.1)
              have K557 : Keep h0 h557 [] := K554.wr W557 (Or.inr sz_b505)
              have O557 := O554.wr W557 ge_b505
              have N557 := Fr.snoc X557 N554 ge_b505
              refine stp st557 ?_
              show Go p e below T557 (mkF m 686 #[.val (.int p0), .val (.int p1), .val (.int p2), .val (.int p3), .val (.int p4), .val (.int ((p0 &&& (2147483647 : Int32)) % (5 : Int32))), .val (.int cc), .val (.int kp), .unset, .unset, .unset, .unset] [(.ref b505)]) _
              refine stp (fun _ => XS.dup X557.here hx rfl (hb hby at_686) rfl rfl) ?_
              show Go p e below T557 (mkF m 687 #[.val (.int p0), .val (.int p1), .val (.int p2), .val (.int p3), .val (.int p4), .val (.int ((p0 &&& (2147483647 : Int32)) % (5 : Int32))), .val (.int cc), .val (.int kp), .unset, .unset, .unset, .unset] [(.ref b505), (.ref b505)]) _
              refine stp (fun _ => XS.bipush X557.here hx rfl (hb hby at_687)) ?_
              show Go p e below T557 (mkF m 689 #[.val (.int p0), .val (.int p1), .val (.int p2), .val (.int p3), .val (.int p4), .val (.int ((p0 &&& (2147483647 : Int32)) % (5 : Int32))), .val (.int cc), .val (.int kp), .unset, .unset, .unset, .unset] [(.int (16 : Int32)), (.ref b505), (.ref b505)]) _
              refine stp (fun _ => XS.bipush X557.here hx rfl (hb hby at_689)) ?_
              show Go p e below T557 (mkF m 691 #[.val (.int p0), .val (.int p1), .val (.int p2), .val (.int p3), .val (.int p4), .val (.int ((p0 &&& (2147483647 : Int32)) % (5 : Int32))), .val (.int cc), .val (.int kp), .unset, .unset, .unset, .unset] [(.int (100 : Int32)), (.int (16 : Int32)), (.ref b505), (.ref b505)]) _
              obtain ⟨cl560, Ar560, q560, S560, M560, H560, G560⟩ := (id V557)
              have in560 : ¬ ((16 : Int32) < 0 ∨ cl560.slots.size ≤ ((16 : Int32)).toNatClampNeg) := inb_of S560 ⟨by decide, by decide⟩
              obtain ⟨T560, h560, X560, e560, W560, st560⟩ := stC X557 hx hZ e557 Ar560 (j := (16 : Int32)) in560 (g := (mkF m 691 #[.val (.int p0), .val (.int p1), .val (.int p2), .val (.int p3), .val (.int p4), .val (.int ((p0 &&& (2147483647 : Int32)) % (5 : Int32))), .val (.int cc), .val (.int kp), .unset, .unset, .unset, .unset] [(.int (100 : Int32)), (.int (16 : Int32)), (.ref b505), (.ref b505)])) rfl rfl (hb hby at_691)
              have V560 : Arv Z h560 b505 k505 .char (19 : Int32) [(.int (97 : Int32)), (.int (117 : Int32)), (.int (116 : Int32)), (.int (104 : Int32)), (.int (111 : Int32)), (.int (114 : Int32)), (.int (105 : Int32)), (.int (122 : Int32)), (.int (97 : Int32)), (.int (116 : Int32)), (.int (105 : Int32)), (.int (111 : Int32)), (.int (110 : Int32)), (.int (95 : Int32)), (.int (99 : Int32)), (.int (111 : Int32)), (.int (100 : Int32)), (.int (0 : Int32)), (.int (0 : Int32))] (.int (0 : Int32)) := Arv.set Ar560 q560 S560 M560 H560 G560 (ow_fits_char (by decide)) (ow_wr_char (by decide) W560) 16 rfl (Nat.le_of_ble_eq_true rfl)
              have f561 := f558.wr W560
              have hk := Nat.le_trans hk (Keep.of_wr W560).1
              have CR := CR.trans (CHr.wr W560 (Safe.exa hZ.alike f558 (by decide) (by decide)) CR.1)
              have K560 : Keep h0 h560 [] := K557.wr W560 (Or.inr sz_b505)
              have O560 := O557.wr W560 ge_b505
              have N560 := Fr.snoc X560 N557 ge_b505
              refine stp st560 ?_
              show Go p e below T560 (mkF m 692 #[.val (.int p0), .val (.int p1), .val (.int p2), .val (.int p3), .val (.int p4), .val (.int ((p0 &&& (2147483647 : Int32)) % (5 : Int32))), .val (.int cc), .val (.int kp), .unset, .unset, .unset, .unset] [(.ref b505)]) _
              refine stp (fun _ => XS.dup X560.here hx rfl (hb hby at_692) rfl rfl) ?_
              show Go p e below T560 (mkF m 693 #[.val (.int p0), .val (.int p1), .val (.int p2), .val (.int p3), .val (.int p4), .val (.int ((p0 &&& (2147483647 : Int32)) % (5 : Int32))), .val (.int cc), .val (.int kp), .unset, .unset, .unset, .unset] [(.ref b505), (.ref b505)]) _
              refine stp (fun _ => XS.bipush X560.here hx rfl (hb hby at_693)) ?_
              show Go p e below T560 (mkF m 695 #[.val (.int p0), .val (.int p1), .val (.int p2), .val (.int p3), .val (.int p4), .val (.int ((p0 &&& (2147483647 : Int32)) % (5 : Int32))), .val (.int cc), .val (.int kp), .unset, .unset, .unset, .unset] [(.int (17 : Int32)), (.ref b505), (.ref b505)]) _
              refine stp (fun _ => XS.bipush X560.here hx rfl (hb hby at_695)) ?_
              show Go p e below T560 (mkF m 697 #[.val (.int p0), .val (.int p1), .val (.int p2), .val (.int p3), .val (.int p4), .val (.int ((p0 &&& (2147483647 : Int32)) % (5 : Int32))), .val (.int cc), .val (.int kp), .unset, .unset, .unset, .unset] [(.int (101 : Int32)), (.int (17 : Int32)), (.ref b505), (.ref b505)]) _
              obtain ⟨cl563, Ar563, q563, S563, M563, H563, G563⟩ := (id V560)
              have in563 : ¬ ((17 : Int32) < 0 ∨ cl563.slots.size ≤ ((17 : Int32)).toNatClampNeg) := inb_of S563 ⟨by decide, by decide⟩
              obtain ⟨T563, h563, X563, e563, W563, st563⟩ := stC X560 hx hZ e560 Ar563 (j := (17 : Int32)) in563 (g := (mkF m 697 #[.val (.int p0), .val (.int p1), .val (.int p2), .val (.int p3), .val (.int p4), .val (.int ((p0 &&& (2147483647 : Int32)) % (5 : Int32))), .val (.int cc), .val (.int kp), .unset, .unset, .unset, .unset] [(.int (101 : Int32)), (.int (17 : Int32)), (.ref b505), (.ref b505)])) rfl rfl (hb hby at_697)
              have V563 : Arv Z h563 b505 k505 .char (19 : Int32) [(.int (97 : Int32)), (.int (117 : Int32)), (.int (116 : Int32)), (.int (104 : Int32)), (.int (111 : Int32)), (.int (114 : Int32)), (.int (105 : Int32)), (.int (122 : Int32)), (.int (97 : Int32)), (.int (116 : Int32)), (.int (105 : Int32)), (.int (111 : Int32)), (.int (110 : Int32)), (.int (95 : Int32)), (.int (99 : Int32)), (.int (111 : Int32)), (.int (100 : Int32)), (.int (101 : Int32)), (.int (0 : Int32))] (.int (0 : Int32)) := Arv.set Ar563 q563 S563 M563 H563 G563 (ow_fits_char (by decide)) (ow_wr_char (by decide) W563) 17 rfl (Nat.le_of_ble_eq_true rfl)
              have f564 := f561.wr W563
              have hk := Nat.le_trans hk (Keep.of_wr W563).1
              have CR := CR.trans (CHr.wr W563 (Safe.exa hZ.alike f561 (by decide) (by decide)) CR.1)
              have K563 : Keep h0 h563 [] := K560.wr W563 (Or.inr sz_b505)
              have O563 := O560.wr W563 ge_b505
              have N563 := Fr.snoc X563 N560 ge_b505
              refine stp st563 ?_
              show Go p e below T563 (mkF m 698 #[.val (.int p0), .val (.int p1), .val (.int p2), .val (.int p3), .val (.int p4), .val (.int ((p0 &&& (2147483647 : Int32)) % (5 : Int32))), .val (.int cc), .val (.int kp), .unset, .unset, .unset, .unset] [(.ref b505)]) _
              refine stp (fun _ => XS.dup X563.here hx rfl (hb hby at_698) rfl rfl) ?_
              show Go p e below T563 (mkF m 699 #[.val (.int p0), .val (.int p1), .val (.int p2), .val (.int p3), .val (.int p4), .val (.int ((p0 &&& (2147483647 : Int32)) % (5 : Int32))), .val (.int cc), .val (.int kp), .unset, .unset, .unset, .unset] [(.ref b505), (.ref b505)]) _
              refine stp (fun _ => XS.bipush X563.here hx rfl (hb hby at_699)) ?_
              show Go p e below T563 (mkF m 701 #[.val (.int p0), .val (.int p1), .val (.int p2), .val (.int p3), .val (.int p4), .val (.int ((p0 &&& (2147483647 : Int32)) % (5 : Int32))), .val (.int cc), .val (.int kp), .unset, .unset, .unset, .unset] [(.int (18 : Int32)), (.ref b505), (.ref b505)]) _
              refine stp (fun _ => XS.bipush X563.here hx rfl (hb hby at_701)) ?_
              show Go p e below T563 (mkF m 703 #[.val (.int p0), .val (.int p1), .val (.int p2), .val (.int p3), .val (.int p4), .val (.int ((p0 &&& (2147483647 : Int32)) % (5 : Int32))), .val (.int cc), .val (.int kp), .unset, .unset, .unset, .unset] [(.int (32 : Int32)), (.int (18 : Int32)), (.ref b505), (.ref b505)]) _
              obtain ⟨cl566, Ar566, q566, S566, M566, H566, G566⟩ := (id V563)
              have in566 : ¬ ((18 : Int32) < 0 ∨ cl566.slots.size ≤ ((18 : Int32)).toNatClampNeg) := inb_of S566 ⟨by decide, by decide⟩
              obtain ⟨T566, h566, X566, e566, W566, st566⟩ := stC X563 hx hZ e563 Ar566 (j := (18 : Int32)) in566 (g := (mkF m 703 #[.val (.int p0), .val (.int p1), .val (.int p2), .val (.int p3), .val (.int p4), .val (.int ((p0 &&& (2147483647 : Int32)) % (5 : Int32))), .val (.int cc), .val (.int kp), .unset, .unset, .unset, .unset] [(.int (32 : Int32)), (.int (18 : Int32)), (.ref b505), (.ref b505)])) rfl rfl (hb hby at_703)
              have V566 : Arv Z h566 b505 k505 .char (19 : Int32) [(.int (97 : Int32)), (.int (117 : Int32)), (.int (116 : Int32)), (.int (104 : Int32)), (.int (111 : Int32)), (.int (114 : Int32)), (.int (105 : Int32)), (.int (122 : Int32)), (.int (97 : Int32)), (.int (116 : Int32)), (.int (105 : Int32)), (.int (111 : Int32)), (.int (110 : Int32)), (.int (95 : Int32)), (.int (99 : Int32)), (.int (111 : Int32)), (.int (100 : Int32)), (.int (101 : Int32)), (.int (32 : Int32))] (.int (0 : Int32)) := Arv.set Ar566 q566 S566 M566 H566 G566 (ow_fits_char (by decide)) (ow_wr_char (by decide) W566) 18 rfl (Nat.le_of_ble_eq_true rfl)
              have f567 := f564.wr W566
              have hk := Nat.le_trans hk (Keep.of_wr W566).1
              have CR := CR.trans (CHr.wr W566 (Safe.exa hZ.alike f564 (by decide) (by decide)) CR.1)
              have K566 : Keep h0 h566 [] := K563.wr W566 (Or.inr sz_b505)
              have O566 := O563.wr W566 ge_b505
              have N566 := Fr.snoc X566 N563 ge_b505
              refine stp st566 ?_
              show Go p e below T566 (mkF m 704 #[.val (.int p0), .val (.int p1), .val (.int p2), .val (.int p3), .val (.int p4), .val (.int ((p0 &&& (2147483647 : Int32)) % (5 : Int32))), .val (.int cc), .val (.int kp), .unset, .unset, .unset, .unset] [(.ref b505)]) _
              refine stp (fun _ => XS.astore X566.here hx rfl (hb hby at_704) rfl rfl (l' := #[.val (.int p0), .val (.int p1), .val (.int p2), .val (.int p3), .val (.int p4), .val (.int ((p0 &&& (2147483647 : Int32)) % (5 : Int32))), .val (.int cc), .val (.int kp), .val (.ref b505), .unset, .unset, .unset]) rfl) ?_
              show Go p e below T566 (mkF m 706 #[.val (.int p0), .val (.int p1), .val (.int p2), .val (.int p3), .val (.int p4), .val (.int ((p0 &&& (2147483647 : Int32)) % (5 : Int32))), .val (.int cc), .val (.int kp), .val (.ref b505), .unset, .unset, .unset] []) _
              refine stp (fun _ => XS.aload X566.here hx rfl (hb hby at_706) rfl rfl) ?_
              show Go p e below T566 (mkF m 708 #[.val (.int p0), .val (.int p1), .val (.int p2), .val (.int p3), .val (.int p4), .val (.int ((p0 &&& (2147483647 : Int32)) % (5 : Int32))), .val (.int cc), .val (.int kp), .val (.ref b505), .unset, .unset, .unset] [(.ref b505)]) _
              refine stp (fun _ => XS.bipush X566.here hx rfl (hb hby at_708)) ?_
              show Go p e below T566 (mkF m 710 #[.val (.int p0), .val (.int p1), .val (.int p2), .val (.int p3), .val (.int p4), .val (.int ((p0 &&& (2147483647 : Int32)) % (5 : Int32))), .val (.int cc), .val (.int kp), .val (.ref b505), .unset, .unset, .unset] [(.int (18 : Int32)), (.ref b505)]) _
              refine stp (fun _ => XS.iload X566.here hx rfl (hb hby at_710) rfl) ?_
              show Go p e below T566 (mkF m 712 #[.val (.int p0), .val (.int p1), .val (.int p2), .val (.int p3), .val (.int p4), .val (.int ((p0 &&& (2147483647 : Int32)) % (5 : Int32))), .val (.int cc), .val (.int kp), .val (.ref b505), .unset, .unset, .unset] [(.int cc), (.int (18 : Int32)), (.ref b505)]) _
              obtain ⟨cl569, Ar569, q569, S569, M569, H569, G569⟩ := (id V566)
              have in569 : ¬ ((18 : Int32) < 0 ∨ cl569.slots.size ≤ ((18 : Int32)).toNatClampNeg) := inb_of S569 ⟨by decide, by decide⟩
              obtain ⟨T569, h569, X569, e569, W569, st569⟩ := stC X566 hx hZ e566 Ar569 (j := (18 : Int32)) in569 (g := (mkF m 712 #[.val (.int p0), .val (.int p1), .val (.int p2), .val (.int p3), .val (.int p4), .val (.int ((p0 &&& (2147483647 : Int32)) % (5 : Int32))), .val (.int cc), .val (.int kp), .val (.ref b505), .unset, .unset, .unset] [(.int cc), (.int (18 : Int32)), (.ref b505)])) rfl rfl (hb hby at_712)
              have V569 : Arv Z h569 b505 k505 .char (19 : Int32) [(.int (97 : Int32)), (.int (117 : Int32)), (.int (116 : Int32)), (.int (104 : Int32)), (.int (111 : Int32)), (.int (114 : Int32)), (.int (105 : Int32)), (.int (122 : Int32)), (.int (97 : Int32)), (.int (116 : Int32)), (.int (105 : Int32)), (.int (111 : Int32)), (.int (110 : Int32)), (.int (95 : Int32)), (.int (99 : Int32)), (.int (111 : Int32)), (.int (100 : Int32)), (.int (101 : Int32)), (.int cc)] (.int (0 : Int32)) := Arv.set Ar569 q569 S569 M569 H569 G569 (ow_fits_char (char255 hcc)) (ow_wr_char (char255 hcc) W569) 18 rfl (Nat.le_of_ble_eq_true rfl)
              have f570 := f567.wr W569
              have hk := Nat.le_trans hk (Keep.of_wr W569).1
              have CR := CR.trans (CHr.wr W569 (Safe.exa hZ.alike f567 (by decide) (by decide)) CR.1)
              have K569 : Keep h0 h569 [] := K566.wr W569 (Or.inr sz_b505)
              have O569 := O566.wr W569 ge_b505
              have N569 := Fr.snoc X569 N566 ge_b505
              refine stp st569 ?_
              show Go p e below T569 (mkF m 713 #[.val (.int p0), .val (.int p1), .val (.int p2), .val (.int p3), .val (.int p4), .val (.int ((p0 &&& (2147483647 : Int32)) % (5 : Int32))), .val (.int cc), .val (.int kp), .val (.ref b505), .unset, .unset, .unset] []) _
              obtain ⟨T572, h572, X572, e572, E572, A572, D572, -, st572⟩ := newO X569 hx hZ hown (hw _ (List.mem_of_getElem? (i := 43) rfl)) (hw _ (List.mem_of_getElem? (i := 44) rfl)) (hw _ (List.mem_of_getElem? (i := 28) rfl)) e569 (g := (mkF m 713 #[.val (.int p0), .val (.int p1), .val (.int p2), .val (.int p3), .val (.int p4), .val (.int ((p0 &&& (2147483647 : Int32)) % (5 : Int32))), .val (.int cc), .val (.int kp), .val (.ref b505), .unset, .unset, .unset] [])) rfl (hb hby at_713) (by decide) (by decide)
              obtain ⟨b572, g572⟩ : ∃ z, z = h569.size := ⟨_, rfl⟩
              rw [← g572] at A572 D572 st572
              have ne573 : auth ≠ b572 := O569.ne E_auth.lt (Nat.le_trans (old_le O569) (Nat.le_of_eq g572.symm))
              have ne574 : b505 ≠ b572 := Nat.ne_of_lt (Nat.lt_of_lt_of_le f570.lt (Nat.le_of_eq g572.symm))
              have ne575 : empty_ ≠ b572 := O569.ne E_em.lt (Nat.le_trans (old_le O569) (Nat.le_of_eq g572.symm))
              have ne576 : impl ≠ b572 := O569.ne E_impl.lt (Nat.le_trans (old_le O569) (Nat.le_of_eq g572.symm))
              have ne577 : va ≠ b572 := O569.ne E_va.lt (Nat.le_trans (old_le O569) (Nat.le_of_eq g572.symm))
              have ne578 : w1 ≠ b572 := O569.ne Q_w1.lt (Nat.le_trans (old_le O569) (Nat.le_of_eq g572.symm))
              have ne579 : w2 ≠ b572 := O569.ne Q_w2.lt (Nat.le_trans (old_le O569) (Nat.le_of_eq g572.symm))
              have sz_b572 : h0.size ≤ b572 := Nat.le_trans K569.1 (Nat.le_of_eq g572.symm)
              have ge_b572 : n0 ≤ b572 := Nat.le_trans (old_le O569) (Nat.le_of_eq g572.symm)
              have f580 := f570.ext E572
              have f581 := V569.ext E572
              have Sf572 := (Safe.new (Z := Z) (EL := consts_1) (Nat.le_of_eq g572.symm)).ext E572 CR.1
              have hk := Nat.le_trans hk E572.1
              have CR := CR.trans (CHr.ext E572 CR.1)
              have K572 : Keep h0 h572 [] := K569.ext E572
              have O572 := O569.ext E572
              have F582 : Fld Z h572 b572 "java/lang/String" "coder" "B" (.int (0 : Int32)) := D572 (Or.inr (hw _ (List.mem_of_getElem? (i := 68) rfl))) (ty := .byte) (by decide)
              have F583 : Fld Z h572 b572 "java/lang/String" "value" "[B" .null := D572 (Or.inr (hw _ (List.mem_of_getElem? (i := 70) rfl))) (ty := (.array .byte)) (by decide)
              refine stp st572 ?_
              show Go p e below T572 (mkF m 716 #[.val (.int p0), .val (.int p1), .val (.int p2), .val (.int p3), .val (.int p4), .val (.int ((p0 &&& (2147483647 : Int32)) % (5 : Int32))), .val (.int cc), .val (.int kp), .val (.ref b505), .unset, .unset, .unset] [(.ref b572)]) _
              refine stp (fun _ => XS.dup X572.here hx rfl (hb hby at_716) rfl rfl) ?_
              show Go p e below T572 (mkF m 717 #[.val (.int p0), .val (.int p1), .val (.int p2), .val (.int p3), .val (.int p4), .val (.int ((p0 &&& (2147483647 : Int32)) % (5 : Int32))), .val (.int cc), .val (.int kp), .val (.ref b505), .unset, .unset, .unset] [(.ref b572), (.ref b572)]) _
              refine stp (fun _ => XS.aload X572.here hx rfl (hb hby at_717) rfl rfl) ?_
              show Go p e below T572 (mkF m 719 #[.val (.int p0), .val (.int p1), .val (.int p2), .val (.int p3), .val (.int p4), .val (.int ((p0 &&& (2147483647 : Int32)) % (5 : Int32))), .val (.int cc), .val (.int kp), .val (.ref b505), .unset, .unset, .unset] [(.ref b505), (.ref b572), (.ref b572)]) _
              obtain ⟨_, _, ⟨T584, L584, k584, n584⟩, -, X584, ⟨Lc584, hQ584, l584, y584, z584⟩, st584⟩ := X572.specialBack hx (y := (⟨"java/lang/String", "<init>", "([C)V"⟩ : MethodName)) rfl hown (mvT hZ (hw _ (List.mem_of_getElem? (i := 45) rfl))) (mvT hZ (hw _ (List.mem_of_getElem? (i := 46) rfl))) (mvT hZ (hw _ (List.mem_of_getElem? (i := 47) rfl))) (by decide) (StrChars.Road.backV (W := 1) hZ hws (kI := 4) (hw _ (List.mem_of_getElem? (i := 44) rfl)) (cs := ([(97 : Int32), (117 : Int32), (116 : Int32), (104 : Int32), (111 : Int32), (114 : Int32), (105 : Int32), (122 : Int32), (97 : Int32), (116 : Int32), (105 : Int32), (111 : Int32), (110 : Int32), (95 : Int32), (99 : Int32), (111 : Int32), (100 : Int32), (101 : Int32), cc] : List Int32)) (bs := ([(97 : Int32), (117 : Int32), (116 : Int32), (104 : Int32), (111 : Int32), (114 : Int32), (105 : Int32), (122 : Int32), (97 : Int32), (116 : Int32), (105 : Int32), (111 : Int32), (110 : Int32), (95 : Int32), (99 : Int32), (111 : Int32), (100 : Int32), (101 : Int32), cc] : List Int32).map (fun c => c.toInt8.toInt32)) (n := 19) ge_b572 (old_le O572) A572 F583 F582 f581 (S_CS.ext O572.2) hcz rfl rfl (by decide) (by decide) (own_sm1 ⟨by decide, by decide⟩ (own_sm1 ⟨by decide, by decide⟩ (own_sm1 ⟨by decide, by decide⟩ (own_sm1 ⟨by decide, by decide⟩ (own_sm1 ⟨by decide, by decide⟩ (own_sm1 ⟨by decide, by decide⟩ (own_sm1 ⟨by decide, by decide⟩ (own_sm1 ⟨by decide, by decide⟩ (own_sm1 ⟨by decide, by decide⟩ (own_sm1 ⟨by decide, by decide⟩ (own_sm1 ⟨by decide, by decide⟩ (own_sm1 ⟨by decide, by decide⟩ (own_sm1 ⟨by decide, by decide⟩ (own_sm1 ⟨by decide, by decide⟩ (own_sm1 ⟨by decide, by decide⟩ (own_sm1 ⟨by decide, by decide⟩ (own_sm1 ⟨by decide, by decide⟩ (own_sm1 ⟨by decide, by decide⟩ (own_sm1 hcc own_sm0))))))))))))))))))) rfl (by decide) (by decide)) (g := (mkF m 719 #[.val (.int p0), .val (.int p1), .val (.int p2), .val (.int p3), .val (.int p4), .val (.int ((p0 &&& (2147483647 : Int32)) % (5 : Int32))), .val (.int cc), .val (.int kp), .val (.ref b505), .unset, .unset, .unset] [(.ref b505), (.ref b572), (.ref b572)])) rfl (by rw [hml]; rfl) (Steps.refl _) (a := b572) (argsL := [(.ref b505)]) (rest := [(.ref b572)]) (lenOf pd_7 rfl) rfl (by show 2 * 0 + _ ≤ _; exact Nat.le_of_eq rfl) (hb hby at_719) (fun _ _ => ⟨rfl, e572, (by decide : 2 + 1 ≤ _), (by decide : 23 + 19 ≤ _)⟩)
              dsimp only [Pt.U, Pt.locs, Pt.cells, Pt.slots] at X584 l584 y584 z584 st584 hQ584
              subst y584 z584
              obtain ⟨rfl, N584q, K584q, E584q, C584q, t584, kb584, ge_t584, sz584q, ne584q, F584q, V584q⟩ := hQ584
              have N584 : Fr n0 L584 := by rw [l584]; exact Fr.app N569 N584q
              have ne585 : b505 ≠ t584 := Nat.ne_of_lt (Nat.lt_of_lt_of_le f580.lt sz584q)
              have f586 := f580.keep K584q
              have f587 := f581.keep K584q (ninS ne574 nin0)
              have f588 := Sf572.keep K584q (sfS Sf572 sf0) CR.1
              have hk := Nat.le_trans hk K584q.1
              have CR := CR.trans (CHr.keep K584q (sfS Sf572 sf0) CR.1)
              have K584 : Keep h0 T584.heap [] := K572.trans K584q (allS (Or.inr sz_b572) all0)
              have sz_t584 : h0.size ≤ t584 := Nat.le_trans K572.1 sz584q
              have O584 := O572.keep K584q (allS ge_b572 all0)
              have Q584 : StrIs Z T584.heap b572 ([(97 : Int32), (117 : Int32), (116 : Int32), (104 : Int32), (111 : Int32), (114 : Int32), (105 : Int32), (122 : Int32), (97 : Int32), (116 : Int32), (105 : Int32), (111 : Int32), (110 : Int32), (95 : Int32), (99 : Int32), (111 : Int32), (100 : Int32), (101 : Int32), cc] : List Int32) := StrIs.of E584q F584q C584q V584q rfl rfl (own_sm1 ⟨by decide, by decide⟩ (own_sm1 ⟨by decide, by decide⟩ (own_sm1 ⟨by decide, by decide⟩ (own_sm1 ⟨by decide, by decide⟩ (own_sm1 ⟨by decide, by decide⟩ (own_sm1 ⟨by decide, by decide⟩ (own_sm1 ⟨by decide, by decide⟩ (own_sm1 ⟨by decide, by decide⟩ (own_sm1 ⟨by decide, by decide⟩ (own_sm1 ⟨by decide, by decide⟩ (own_sm1 ⟨by decide, by decide⟩ (own_sm1 ⟨by decide, by decide⟩ (own_sm1 ⟨by decide, by decide⟩ (own_sm1 ⟨by decide, by decide⟩ (own_sm1 ⟨by decide, by decide⟩ (own_sm1 ⟨by decide, by decide⟩ (own_sm1 ⟨by decide, by decide⟩ (own_sm1 ⟨by decide, by decide⟩ (own_sm1 hcc own_sm0))))))))))))))))))) (Nat.le_of_ble_eq_true rfl)
              refine stt st584 ?_
              show Go p e below T584 (mkF m 722 #[.val (.int p0), .val (.int p1), .val (.int p2), .val (.int p3), .val (.int p4), .val (.int ((p0 &&& (2147483647 : Int32)) % (5 : Int32))), .val (.int cc), .val (.int kp), .val (.ref b505), .unset, .unset, .unset] [(.ref b572)]) _
              obtain ⟨_, _, ⟨T589, L589, k589, n589⟩, -, X589, ⟨Lc589, hQ589, l589, y589, z589⟩, st589⟩ := Jvm.LawKit.callS X584 hx (y := (⟨"com/example/uriel/uriel/grant/GrantType", "fromWireName", "(Ljava/lang/String;)Ljava/util/Optional;"⟩ : MethodName)) hown (mvT hZ (hw _ (List.mem_of_getElem? (i := 1) rfl))) (mvT hZ (hw _ (List.mem_of_getElem? (i := 2) rfl))) (mvT hZ (hw _ (List.mem_of_getElem? (i := 3) rfl))) (mvT hZ (hw _ (List.mem_of_getElem? (i := 4) rfl))) (by decide) (backOf (W := 0) (rm_fwn l Z a0 hw [] b572 auth impl va w1 w2 empty_ ([(97 : Int32), (117 : Int32), (116 : Int32), (104 : Int32), (111 : Int32), (114 : Int32), (105 : Int32), (122 : Int32), (97 : Int32), (116 : Int32), (105 : Int32), (111 : Int32), (110 : Int32), (95 : Int32), (99 : Int32), (111 : Int32), (100 : Int32), (101 : Int32), cc] : List Int32) cz k_va T584.heap n0 O584 S_VALUES E_va V_va F_w1 F_w2 Q_w1 Q_w2 S_EM Q584 S_CS hcz (own_ac_ne (show (18 : Nat) ≠ 19 by decide)) (own_im_ne (show (8 : Nat) ≠ 19 by decide))) hZ (hw _ (List.mem_of_getElem? (i := 4) rfl)) (hw _ (List.mem_of_getElem? (i := 3) rfl)) (by decide) (by decide)) (g := (mkF m 722 #[.val (.int p0), .val (.int p1), .val (.int p2), .val (.int p3), .val (.int p4), .val (.int ((p0 &&& (2147483647 : Int32)) % (5 : Int32))), .val (.int cc), .val (.int kp), .val (.ref b505), .unset, .unset, .unset] [(.ref b572)])) rfl (by rw [hml]; rfl) (argsL := [(.ref b572)]) (rest := []) (lenOf pd_5 rfl) rfl (by show 2 * 0 + _ ≤ _; exact Nat.le_of_eq rfl) (hb hby at_722) (fun _ _ => ⟨rfl, rfl, (by decide : 3 + 1 ≤ _), (by decide : 42 + 2 ≤ _)⟩)
              dsimp only [Pt.U, Pt.locs, Pt.cells, Pt.slots] at X589 l589 y589 z589 st589 hQ589
              subst y589 z589
              obtain ⟨rfl, N589q, K589q⟩ := hQ589
              have N589 : Fr n0 L589 := by rw [l589]; exact Fr.app N584 N589q
              have f590 := f586.keep K589q
              have f591 := f587.keep K589q nin0
              have f592 := f588.keep K589q sf0 CR.1
              have f593 := E584q.keep K589q
              have f594 := Q584.keep K589q nin0 apart0
              have hk := Nat.le_trans hk K589q.1
              have CR := CR.trans (CHr.keep K589q sf0 CR.1)
              have K589 : Keep h0 T589.heap [] := K584.trans K589q all0
              have O589 := O584.keep K589q all0
              refine stp st589 ?_
              show Go p e below T589 (mkF m 725 #[.val (.int p0), .val (.int p1), .val (.int p2), .val (.int p3), .val (.int p4), .val (.int ((p0 &&& (2147483647 : Int32)) % (5 : Int32))), .val (.int cc), .val (.int kp), .val (.ref b505), .unset, .unset, .unset] [(.ref empty_)]) _
              refine stp (fun _ => XS.aconstNull X589.here hx rfl (hb hby at_725)) ?_
              show Go p e below T589 (mkF m 726 #[.val (.int p0), .val (.int p1), .val (.int p2), .val (.int p3), .val (.int p4), .val (.int ((p0 &&& (2147483647 : Int32)) % (5 : Int32))), .val (.int cc), .val (.int kp), .val (.ref b505), .unset, .unset, .unset] [.null, (.ref empty_)]) _
              obtain ⟨cq595, kq595, q595a, q595b, q595c⟩ := isOf hZ rfl (E_em.ext O589.2)
              obtain ⟨_, _, ⟨T595, L595, k595, n595⟩, -, X595, ⟨Lc595, hQ595, l595, y595, z595⟩, st595⟩ := X589.virtualBack hx (y := (⟨"java/util/Optional", "orElse", "(Ljava/lang/Object;)Ljava/lang/Object;"⟩ : MethodName)) (z := (⟨"java/util/Optional", "orElse", "(Ljava/lang/Object;)Ljava/lang/Object;"⟩ : MethodName)) hown (mvT hZ (hw _ (List.mem_of_getElem? (i := 35) rfl))) (mvT hZ (hw _ (List.mem_of_getElem? (i := 36) rfl))) (notFace_of_selects (args := #[]) (mvT hZ (hw _ (List.mem_of_getElem? (i := 38) rfl)))) (mvT hZ (hw _ (List.mem_of_getElem? (i := 38) rfl))) (mvT hZ (hw _ (List.mem_of_getElem? (i := 37) rfl))) (by decide) (backOf (W := 0) (rm_oe0 l Z a0 hw [] empty_  T589.heap n0 O589 F_em) hZ (hw _ (List.mem_of_getElem? (i := 39) rfl)) (hw _ (List.mem_of_getElem? (i := 32) rfl)) (by decide) (by decide)) q595a q595c (g := (mkF m 726 #[.val (.int p0), .val (.int p1), .val (.int p2), .val (.int p3), .val (.int p4), .val (.int ((p0 &&& (2147483647 : Int32)) % (5 : Int32))), .val (.int cc), .val (.int kp), .val (.ref b505), .unset, .unset, .unset] [.null, (.ref empty_)])) rfl (by rw [hml]; rfl) (Steps.refl _) (argsL := [.null]) (rest := []) (lenOf pd_6 rfl) rfl (by show 2 * 0 + _ ≤ _; exact Nat.le_of_eq rfl) (hb hby at_726) (fun _ _ => ⟨rfl, rfl, (by decide : 4 + 0 ≤ _), (by decide : 44 + 0 ≤ _)⟩)
              dsimp only [Pt.U, Pt.locs, Pt.cells, Pt.slots] at X595 l595 y595 z595 st595 hQ595
              subst y595 z595
              obtain ⟨rfl, N595q, e595⟩ := hQ595
              have N595 : Fr n0 L595 := by rw [l595]; exact Fr.app N589 N595q
              refine stt st595 ?_
              show Go p e below T595 (mkF m 729 #[.val (.int p0), .val (.int p1), .val (.int p2), .val (.int p3), .val (.int p4), .val (.int ((p0 &&& (2147483647 : Int32)) % (5 : Int32))), .val (.int cc), .val (.int kp), .val (.ref b505), .unset, .unset, .unset] [.null]) _
              refine stp (fun _ => XS.ifnonnullNo X595.here hx rfl (hb hby at_729) rfl) ?_
              show Go p e below T595 (mkF m 732 #[.val (.int p0), .val (.int p1), .val (.int p2), .val (.int p3), .val (.int p4), .val (.int ((p0 &&& (2147483647 : Int32)) % (5 : Int32))), .val (.int cc), .val (.int kp), .val (.ref b505), .unset, .unset, .unset] []) _
              refine stp (fun _ => XS.iconst X595.here hx rfl (hb hby at_732)) ?_
              show Go p e below T595 (mkF m 733 #[.val (.int p0), .val (.int p1), .val (.int p2), .val (.int p3), .val (.int p4), .val (.int ((p0 &&& (2147483647 : Int32)) % (5 : Int32))), .val (.int cc), .val (.int kp), .val (.ref b505), .unset, .unset, .unset] [(.int (1 : Int32))]) _
              refine stp (fun _ => XS.goto X595.here hx rfl (pc0 := 733) (pc' := 737) rfl (hb hby at_733) (by decide) (by decide)) ?_
              show Go p e below T595 (mkF m 737 #[.val (.int p0), .val (.int p1), .val (.int p2), .val (.int p3), .val (.int p4), .val (.int ((p0 &&& (2147483647 : Int32)) % (5 : Int32))), .val (.int cc), .val (.int kp), .val (.ref b505), .unset, .unset, .unset] [(.int (1 : Int32))]) _
              refine outNW X595 hx hZ hEL e595 hS hk CR (t := .boolean) hret (by simp) (hb hby at_737) hlk (by decide) (by decide) ?_
              exact ⟨rfl, N595⟩
  by_cases q22_596 : ((p2 >>> ((8 : Int32) &&& 31)) &&& (1 : Int32)) = 0
  · refine stp (fun _ => XS.ifYes X0.here hx rfl (pc0 := 22) (pc' := 29) rfl (hb hby at_22) rfl (XT.i0_eq_t q22_596) (by decide) (by decide)) ?_
    show Go p e below T0 (mkF m 29 #[.val (.int p0), .val (.int p1), .val (.int p2), .val (.int p3), .val (.int p4), .val (.int ((p0 &&& (2147483647 : Int32)) % (5 : Int32))), .val (.int cc), .unset, .unset, .unset, .unset, .unset] []) _
    refine stp (fun _ => XS.iconst X0.here hx rfl (hb hby at_29)) ?_
    show Go p e below T0 (mkF m 30 #[.val (.int p0), .val (.int p1), .val (.int p2), .val (.int p3), .val (.int p4), .val (.int ((p0 &&& (2147483647 : Int32)) % (5 : Int32))), .val (.int cc), .unset, .unset, .unset, .unset, .unset] [(.int (0 : Int32))]) _
    exact J _ (Or.inl rfl)
  · refine stp (fun _ => XS.ifNo X0.here hx rfl (hb hby at_22) rfl (XT.i0_eq_f q22_596)) ?_
    show Go p e below T0 (mkF m 25 #[.val (.int p0), .val (.int p1), .val (.int p2), .val (.int p3), .val (.int p4), .val (.int ((p0 &&& (2147483647 : Int32)) % (5 : Int32))), .val (.int cc), .unset, .unset, .unset, .unset, .unset] []) _
    refine stp (fun _ => XS.iconst X0.here hx rfl (hb hby at_25)) ?_
    show Go p e below T0 (mkF m 26 #[.val (.int p0), .val (.int p1), .val (.int p2), .val (.int p3), .val (.int p4), .val (.int ((p0 &&& (2147483647 : Int32)) % (5 : Int32))), .val (.int cc), .unset, .unset, .unset, .unset, .unset] [(.int (1 : Int32))]) _
    refine stp (fun _ => XS.goto X0.here hx rfl (pc0 := 26) (pc' := 30) rfl (hb hby at_26) (by decide) (by decide)) ?_
    show Go p e below T0 (mkF m 30 #[.val (.int p0), .val (.int p1), .val (.int p2), .val (.int p3), .val (.int p4), .val (.int ((p0 &&& (2147483647 : Int32)) % (5 : Int32))), .val (.int cc), .unset, .unset, .unset, .unset, .unset] [(.int (1 : Int32))]) _
    exact J _ (Or.inr rfl)
set_option maxRecDepth 65536 in
set_option maxHeartbeats 40000000 in
theorem comes_1 {Post : Tables → Env → Array Value → State → Outcome → State → Prop} (hpost : ∀ tb e args s v u, (limb_1_1.after args s (.returned v) u = true ∧ limb_1_2.after args s (.returned v) u = true ∧ True) → Jvm.D.FramedW s (.returned v) u (Jvm.fieldLocs frame_1_writes args s ++ Jvm.arrayLocs frame_1_arrays args s ++ Jvm.staticLocs frame_1_statics s) 24 1216 → Post tb e args s (.returned v) u) :
    ArmFor flags0 classFile x code maxLocals ret World_1 tables_1 room_1 Calls_1 rest_1 Pre_1 Post := by
  intro l hfl _ _ p e ha hc hk s m args below hf hA hF happ hP
  obtain ⟨hcalls, hrest, hpre⟩ := hP
  obtain ⟨-, -, -, hnamed, -, -, -, hat⟩ := (Spec.applies_iff hf).mp happ
  obtain ⟨hg, hn⟩ := and_e (Cond.before_iff.mp (show (Jvm.Cond.and given_1 narrow_1).before args s = true from hpre))
  obtain ⟨g1, g2⟩ := and_e hg
  obtain ⟨g3, g4⟩ := and_e g2
  obtain ⟨g5, g6⟩ := and_e g4
  obtain ⟨g7, g8⟩ := and_e g6
  obtain ⟨g9, g10⟩ := and_e g8
  obtain ⟨w0, w1, w2, w3, w4, rfl⟩ : ∃ w0 w1 w2 w3 w4 : Value, args = #[w0, w1, w2, w3, w4] := by
    have hs : args.size = 5 := by simpa [Cond.value, given_1] using g1
    obtain ⟨L⟩ := args
    match L, hs with
    | [w0, w1, w2, w3, w4], _ => exact ⟨w0, w1, w2, w3, w4, rfl⟩
  have hw := fun d (hd : d ∈ tables_1) => atoms_spec (ws := Jvm.Cond.code x code maxLocals ret :: tables_1) hat d (List.mem_cons_of_mem _ hd)
  have hfit : Fit s := fun {y c} hc i hi => by
    obtain ⟨ha, rfl⟩ := Array.getElem?_eq_some_iff.mp hc
    have q := List.all_eq_true.mp ((Array.all_eq_true_iff_forall_mem.mp hF) _ (Array.getElem_mem ha)) i (List.mem_range.mpr hi)
    simpa [Array.getElem?_eq_getElem hi] using q
  obtain ⟨i0, ei0⟩ := is_v g3
  obtain rfl : w0 = (.int i0) := Option.some.inj ei0
  obtain ⟨i1, ei1⟩ := is_v g5
  obtain rfl : w1 = (.int i1) := Option.some.inj ei1
  obtain ⟨i2, ei2⟩ := is_v g7
  obtain rfl : w2 = (.int i2) := Option.some.inj ei2
  obtain ⟨i3, ei3⟩ := is_v g9
  obtain rfl : w3 = (.int i3) := Option.some.inj ei3
  obtain ⟨i4, ei4⟩ := is_v g10
  obtain rfl : w4 = (.int i4) := Option.some.inj ei4
  obtain ⟨g11, g12⟩ := and_e hn
  obtain ⟨g13, g14⟩ := and_e g12
  obtain ⟨a__VALUES, ev_a__VALUES⟩ := exa_v g13
  have S_a__VALUES := Sta.start ev_a__VALUES (Or.inr ⟨(hw _ (List.mem_of_getElem? (i := 3) rfl)), (hw _ (List.mem_of_getElem? (i := 9) rfl))⟩)
  have E_a__VALUES := Exa.start ev_a__VALUES g13
  obtain ⟨g15, g16⟩ := and_e g14
  obtain ⟨g17, g18⟩ := and_e g16
  obtain ⟨a_AUTHORIZATION_CODE, ev_a_AUTHORIZATION_CODE⟩ := exa_v g17
  have S_a_AUTHORIZATION_CODE := Sta.start ev_a_AUTHORIZATION_CODE (Or.inr ⟨(hw _ (List.mem_of_getElem? (i := 3) rfl)), (hw _ (List.mem_of_getElem? (i := 17) rfl))⟩)
  have E_a_AUTHORIZATION_CODE := Exa.start ev_a_AUTHORIZATION_CODE g17
  obtain ⟨g19, g20⟩ := and_e g18
  obtain ⟨g21, g22⟩ := and_e g20
  obtain ⟨a_IMPLICIT, ev_a_IMPLICIT⟩ := exa_v g21
  have S_a_IMPLICIT := Sta.start ev_a_IMPLICIT (Or.inr ⟨(hw _ (List.mem_of_getElem? (i := 3) rfl)), (hw _ (List.mem_of_getElem? (i := 18) rfl))⟩)
  have E_a_IMPLICIT := Exa.start ev_a_IMPLICIT g21
  obtain ⟨g23, g24⟩ := and_e g22
  obtain ⟨g25, g26⟩ := and_e g24
  obtain ⟨g27, g28⟩ := and_e g26
  obtain ⟨g29, g30⟩ := and_e g28
  obtain ⟨g31, g32⟩ := and_e g30
  obtain ⟨g33, g34⟩ := and_e g32
  obtain ⟨g35, g36⟩ := and_e g34
  obtain ⟨g37, g38⟩ := and_e g36
  obtain ⟨g39, g40⟩ := and_e g38
  obtain ⟨g41, g42⟩ := and_e g40
  obtain ⟨g43, g44⟩ := and_e g42
  obtain ⟨g45, g46⟩ := and_e g44
  obtain ⟨g47, g48⟩ := and_e g46
  obtain ⟨g49, g50⟩ := and_e g48
  obtain ⟨g51, g52⟩ := and_e g50
  obtain ⟨g53, g54⟩ := and_e g52
  obtain ⟨g55, g56⟩ := and_e g54
  obtain ⟨g57, g58⟩ := and_e g56
  obtain ⟨g59, g60⟩ := and_e g58
  obtain ⟨g61, g62⟩ := and_e g60
  obtain ⟨g63, g64⟩ := and_e g62
  obtain ⟨g65, g66⟩ := and_e g64
  obtain ⟨g67, g68⟩ := and_e g66
  obtain ⟨g69, g70⟩ := and_e g68
  obtain ⟨g71, g72⟩ := and_e g70
  obtain ⟨g73, g74⟩ := and_e g72
  obtain ⟨g75, g76⟩ := and_e g74
  obtain ⟨g77, g78⟩ := and_e g76
  obtain ⟨g79, g80⟩ := and_e g78
  obtain ⟨g81, g82⟩ := and_e g80
  obtain ⟨g83, g84⟩ := and_e g82
  obtain ⟨g85, g86⟩ := and_e g84
  obtain ⟨g87, g88⟩ := and_e g86
  obtain ⟨g89, g90⟩ := and_e g88
  obtain ⟨c_a__VALUES, A_a__VALUES⟩ := Arr.start ev_a__VALUES g11
  obtain ⟨a_IMPLICIT_wireName, ev_a_IMPLICIT_wireName⟩ := exa_v g27
  have Fl_a_IMPLICIT_wireName := fldref_of ev_a_IMPLICIT ev_a_IMPLICIT_wireName
  have E_a_IMPLICIT_wireName := Exa.start ev_a_IMPLICIT_wireName g27
  obtain ⟨a_AUTHORIZATION_CODE_wireName, ev_a_AUTHORIZATION_CODE_wireName⟩ := exa_v g25
  have Fl_a_AUTHORIZATION_CODE_wireName := fldref_of ev_a_AUTHORIZATION_CODE ev_a_AUTHORIZATION_CODE_wireName
  have E_a_AUTHORIZATION_CODE_wireName := Exa.start ev_a_AUTHORIZATION_CODE_wireName g25
  obtain ⟨a_IMPLICIT_wireName_value, ev_a_IMPLICIT_wireName_value⟩ := arr_v g37
  have Fl_a_IMPLICIT_wireName_value := fldref_of ev_a_IMPLICIT_wireName ev_a_IMPLICIT_wireName_value
  obtain ⟨c_a_IMPLICIT_wireName_value, A_a_IMPLICIT_wireName_value⟩ := Arr.start ev_a_IMPLICIT_wireName_value g37
  obtain ⟨a_AUTHORIZATION_CODE_wireName_value, ev_a_AUTHORIZATION_CODE_wireName_value⟩ := arr_v g31
  have Fl_a_AUTHORIZATION_CODE_wireName_value := fldref_of ev_a_AUTHORIZATION_CODE_wireName ev_a_AUTHORIZATION_CODE_wireName_value
  obtain ⟨c_a_AUTHORIZATION_CODE_wireName_value, A_a_AUTHORIZATION_CODE_wireName_value⟩ := Arr.start ev_a_AUTHORIZATION_CODE_wireName_value g31
  have l_a__VALUES := pin_len ev_a__VALUES A_a__VALUES g15
  have p_a__VALUES_0 := pin_at ev_a__VALUES A_a__VALUES (eqref_v ev_a_AUTHORIZATION_CODE g19) (i := 0) (by decide)
  have p_a__VALUES_1 := pin_at ev_a__VALUES A_a__VALUES (eqref_v ev_a_IMPLICIT g23) (i := 1) (by decide)
  have Fi_a_AUTHORIZATION_CODE_wireName_coder := fldint_of ev_a_AUTHORIZATION_CODE_wireName g29
  have l_a_AUTHORIZATION_CODE_wireName_value := pin_len ev_a_AUTHORIZATION_CODE_wireName_value A_a_AUTHORIZATION_CODE_wireName_value g33
  have Fi_a_IMPLICIT_wireName_coder := fldint_of ev_a_IMPLICIT_wireName g35
  have l_a_IMPLICIT_wireName_value := pin_len ev_a_IMPLICIT_wireName_value A_a_IMPLICIT_wireName_value g39
  have p_a_AUTHORIZATION_CODE_wireName_value_0 := pin_at ev_a_AUTHORIZATION_CODE_wireName_value A_a_AUTHORIZATION_CODE_wireName_value (eqint_v g41) (i := 0) (by decide)
  have p_a_AUTHORIZATION_CODE_wireName_value_1 := pin_at ev_a_AUTHORIZATION_CODE_wireName_value A_a_AUTHORIZATION_CODE_wireName_value (eqint_v g43) (i := 1) (by decide)
  have p_a_AUTHORIZATION_CODE_wireName_value_2 := pin_at ev_a_AUTHORIZATION_CODE_wireName_value A_a_AUTHORIZATION_CODE_wireName_value (eqint_v g45) (i := 2) (by decide)
  have p_a_AUTHORIZATION_CODE_wireName_value_3 := pin_at ev_a_AUTHORIZATION_CODE_wireName_value A_a_AUTHORIZATION_CODE_wireName_value (eqint_v g47) (i := 3) (by decide)
  have p_a_AUTHORIZATION_CODE_wireName_value_4 := pin_at ev_a_AUTHORIZATION_CODE_wireName_value A_a_AUTHORIZATION_CODE_wireName_value (eqint_v g49) (i := 4) (by decide)
  have p_a_AUTHORIZATION_CODE_wireName_value_5 := pin_at ev_a_AUTHORIZATION_CODE_wireName_value A_a_AUTHORIZATION_CODE_wireName_value (eqint_v g51) (i := 5) (by decide)
  have p_a_AUTHORIZATION_CODE_wireName_value_6 := pin_at ev_a_AUTHORIZATION_CODE_wireName_value A_a_AUTHORIZATION_CODE_wireName_value (eqint_v g53) (i := 6) (by decide)
  have p_a_AUTHORIZATION_CODE_wireName_value_7 := pin_at ev_a_AUTHORIZATION_CODE_wireName_value A_a_AUTHORIZATION_CODE_wireName_value (eqint_v g55) (i := 7) (by decide)
  have p_a_AUTHORIZATION_CODE_wireName_value_8 := pin_at ev_a_AUTHORIZATION_CODE_wireName_value A_a_AUTHORIZATION_CODE_wireName_value (eqint_v g57) (i := 8) (by decide)
  have p_a_AUTHORIZATION_CODE_wireName_value_9 := pin_at ev_a_AUTHORIZATION_CODE_wireName_value A_a_AUTHORIZATION_CODE_wireName_value (eqint_v g59) (i := 9) (by decide)
  have p_a_AUTHORIZATION_CODE_wireName_value_10 := pin_at ev_a_AUTHORIZATION_CODE_wireName_value A_a_AUTHORIZATION_CODE_wireName_value (eqint_v g61) (i := 10) (by decide)
  have p_a_AUTHORIZATION_CODE_wireName_value_11 := pin_at ev_a_AUTHORIZATION_CODE_wireName_value A_a_AUTHORIZATION_CODE_wireName_value (eqint_v g63) (i := 11) (by decide)
  have p_a_AUTHORIZATION_CODE_wireName_value_12 := pin_at ev_a_AUTHORIZATION_CODE_wireName_value A_a_AUTHORIZATION_CODE_wireName_value (eqint_v g65) (i := 12) (by decide)
  have p_a_AUTHORIZATION_CODE_wireName_value_13 := pin_at ev_a_AUTHORIZATION_CODE_wireName_value A_a_AUTHORIZATION_CODE_wireName_value (eqint_v g67) (i := 13) (by decide)
  have p_a_AUTHORIZATION_CODE_wireName_value_14 := pin_at ev_a_AUTHORIZATION_CODE_wireName_value A_a_AUTHORIZATION_CODE_wireName_value (eqint_v g69) (i := 14) (by decide)
  have p_a_AUTHORIZATION_CODE_wireName_value_15 := pin_at ev_a_AUTHORIZATION_CODE_wireName_value A_a_AUTHORIZATION_CODE_wireName_value (eqint_v g71) (i := 15) (by decide)
  have p_a_AUTHORIZATION_CODE_wireName_value_16 := pin_at ev_a_AUTHORIZATION_CODE_wireName_value A_a_AUTHORIZATION_CODE_wireName_value (eqint_v g73) (i := 16) (by decide)
  have p_a_AUTHORIZATION_CODE_wireName_value_17 := pin_at ev_a_AUTHORIZATION_CODE_wireName_value A_a_AUTHORIZATION_CODE_wireName_value (eqint_v g75) (i := 17) (by decide)
  have p_a_IMPLICIT_wireName_value_0 := pin_at ev_a_IMPLICIT_wireName_value A_a_IMPLICIT_wireName_value (eqint_v g77) (i := 0) (by decide)
  have p_a_IMPLICIT_wireName_value_1 := pin_at ev_a_IMPLICIT_wireName_value A_a_IMPLICIT_wireName_value (eqint_v g79) (i := 1) (by decide)
  have p_a_IMPLICIT_wireName_value_2 := pin_at ev_a_IMPLICIT_wireName_value A_a_IMPLICIT_wireName_value (eqint_v g81) (i := 2) (by decide)
  have p_a_IMPLICIT_wireName_value_3 := pin_at ev_a_IMPLICIT_wireName_value A_a_IMPLICIT_wireName_value (eqint_v g83) (i := 3) (by decide)
  have p_a_IMPLICIT_wireName_value_4 := pin_at ev_a_IMPLICIT_wireName_value A_a_IMPLICIT_wireName_value (eqint_v g85) (i := 4) (by decide)
  have p_a_IMPLICIT_wireName_value_5 := pin_at ev_a_IMPLICIT_wireName_value A_a_IMPLICIT_wireName_value (eqint_v g87) (i := 5) (by decide)
  have p_a_IMPLICIT_wireName_value_6 := pin_at ev_a_IMPLICIT_wireName_value A_a_IMPLICIT_wireName_value (eqint_v g89) (i := 6) (by decide)
  have p_a_IMPLICIT_wireName_value_7 := pin_at ev_a_IMPLICIT_wireName_value A_a_IMPLICIT_wireName_value (eqint_v g90) (i := 7) (by decide)
  have V_a__VALUES := pin_arv (z := (2 : Int32)) (n := 2) (vs := [(.ref a_AUTHORIZATION_CODE), (.ref a_IMPLICIT)]) (d := .null) A_a__VALUES l_a__VALUES (by decide) (pin_cons p_a__VALUES_0 (pin_cons p_a__VALUES_1 pin_nil)) rfl rfl
  have V_a_IMPLICIT_wireName_value := pin_arv (z := (8 : Int32)) (n := 8) (vs := [(.int (105 : Int32)), (.int (109 : Int32)), (.int (112 : Int32)), (.int (108 : Int32)), (.int (105 : Int32)), (.int (99 : Int32)), (.int (105 : Int32)), (.int (116 : Int32))]) (d := (.int 0)) A_a_IMPLICIT_wireName_value l_a_IMPLICIT_wireName_value (by decide) (pin_cons p_a_IMPLICIT_wireName_value_0 (pin_cons p_a_IMPLICIT_wireName_value_1 (pin_cons p_a_IMPLICIT_wireName_value_2 (pin_cons p_a_IMPLICIT_wireName_value_3 (pin_cons p_a_IMPLICIT_wireName_value_4 (pin_cons p_a_IMPLICIT_wireName_value_5 (pin_cons p_a_IMPLICIT_wireName_value_6 (pin_cons p_a_IMPLICIT_wireName_value_7 pin_nil)))))))) rfl rfl
  have V_a_AUTHORIZATION_CODE_wireName_value := pin_arv (z := (18 : Int32)) (n := 18) (vs := [(.int (97 : Int32)), (.int (117 : Int32)), (.int (116 : Int32)), (.int (104 : Int32)), (.int (111 : Int32)), (.int (114 : Int32)), (.int (105 : Int32)), (.int (122 : Int32)), (.int (97 : Int32)), (.int (116 : Int32)), (.int (105 : Int32)), (.int (111 : Int32)), (.int (110 : Int32)), (.int (95 : Int32)), (.int (99 : Int32)), (.int (111 : Int32)), (.int (100 : Int32)), (.int (101 : Int32))]) (d := (.int 0)) A_a_AUTHORIZATION_CODE_wireName_value l_a_AUTHORIZATION_CODE_wireName_value (by decide) (pin_cons p_a_AUTHORIZATION_CODE_wireName_value_0 (pin_cons p_a_AUTHORIZATION_CODE_wireName_value_1 (pin_cons p_a_AUTHORIZATION_CODE_wireName_value_2 (pin_cons p_a_AUTHORIZATION_CODE_wireName_value_3 (pin_cons p_a_AUTHORIZATION_CODE_wireName_value_4 (pin_cons p_a_AUTHORIZATION_CODE_wireName_value_5 (pin_cons p_a_AUTHORIZATION_CODE_wireName_value_6 (pin_cons p_a_AUTHORIZATION_CODE_wireName_value_7 (pin_cons p_a_AUTHORIZATION_CODE_wireName_value_8 (pin_cons p_a_AUTHORIZATION_CODE_wireName_value_9 (pin_cons p_a_AUTHORIZATION_CODE_wireName_value_10 (pin_cons p_a_AUTHORIZATION_CODE_wireName_value_11 (pin_cons p_a_AUTHORIZATION_CODE_wireName_value_12 (pin_cons p_a_AUTHORIZATION_CODE_wireName_value_13 (pin_cons p_a_AUTHORIZATION_CODE_wireName_value_14 (pin_cons p_a_AUTHORIZATION_CODE_wireName_value_15 (pin_cons p_a_AUTHORIZATION_CODE_wireName_value_16 (pin_cons p_a_AUTHORIZATION_CODE_wireName_value_17 pin_nil)))))))))))))))))) rfl rfl
  obtain ⟨hsets, hown0⟩ := atoms_of _ (rest_1_c_eq ▸ (show rest_1_c.before _ s = true from hrest))
  have hr0 := Cond.before_iff.mp hown0
  obtain ⟨a_EMPTY, ev_a_EMPTY⟩ := exa_v (Cond.before_iff.mp (hsets _ (List.mem_of_getElem? (i := 2) rfl)))
  have S_a_EMPTY := Sta.start ev_a_EMPTY (Or.inl (hsets _ (List.mem_of_getElem? (i := 1) rfl)))
  have E_a_EMPTY := Exa.start ev_a_EMPTY (Cond.before_iff.mp (hsets _ (List.mem_of_getElem? (i := 2) rfl)))
  have F_value_a_EMPTY := fldnull_of ev_a_EMPTY (Cond.before_iff.mp (hsets _ (List.mem_of_getElem? (i := 3) rfl)))
  obtain ⟨z_COMPACT_STRINGS, ez_COMPACT_STRINGS⟩ := is_v (Cond.before_iff.mp (hsets _ (List.mem_of_getElem? (i := 5) rfl)))
  have S_z_COMPACT_STRINGS := Sta.start ez_COMPACT_STRINGS (Or.inl (hsets _ (List.mem_of_getElem? (i := 4) rfl)))
  have c_COMPACT_STRINGS : ¬ (z_COMPACT_STRINGS = (0 : Int32)) := gotF (Cond.eq_ints ez_COMPACT_STRINGS (Term.int_eval (0))) (not_v (Cond.before_iff.mp (hsets _ (List.mem_of_getElem? (i := 6) rfl))))
  obtain ⟨v_SIOOBE_FORMATTER, ez_SIOOBE_FORMATTER, r_SIOOBE_FORMATTER⟩ := isR_v (Cond.before_iff.mp (hsets _ (List.mem_of_getElem? (i := 12) rfl)))
  have S_v_SIOOBE_FORMATTER := Sta.start ez_SIOOBE_FORMATTER (Or.inl (hsets _ (List.mem_of_getElem? (i := 11) rfl)))
  have Q_a_AUTHORIZATION_CODE_wireName : StrIs s s.heap a_AUTHORIZATION_CODE_wireName own_ac_list := StrIs.of E_a_AUTHORIZATION_CODE_wireName Fl_a_AUTHORIZATION_CODE_wireName_value Fi_a_AUTHORIZATION_CODE_wireName_coder V_a_AUTHORIZATION_CODE_wireName_value rfl rfl (by decide) (Nat.le_of_ble_eq_true rfl)
  have Q_a_IMPLICIT_wireName : StrIs s s.heap a_IMPLICIT_wireName own_im_list := StrIs.of E_a_IMPLICIT_wireName Fl_a_IMPLICIT_wireName_value Fi_a_IMPLICIT_wireName_coder V_a_IMPLICIT_wireName_value rfl rfl (by decide) (Nat.le_of_ble_eq_true rfl)
  have hEL : EW s _ consts_1 := own_EW hw
  have hCH : CHv s consts_1 s.vm s.heap := CHv.start hEL (fun p hp => hcalls.1 p hp) (hsets _ (List.mem_of_getElem? (i := 6) rfl)) (hw _ (List.mem_of_getElem? (i := 60) rfl)) (hw _ (List.mem_of_getElem? (i := 44) rfl))
  obtain ⟨n, o, h1, h2, h3, _, L, rfl, ⟨rfl, N⟩, -, hq⟩ := rm0 l s _ hw tables_1 i0 i1 i2 i3 i4 a_AUTHORIZATION_CODE a_IMPLICIT a__VALUES a_EMPTY a_AUTHORIZATION_CODE_wireName a_IMPLICIT_wireName _ z_COMPACT_STRINGS s.heap s.heap.size (Old.start s) hEL S_a__VALUES S_a_AUTHORIZATION_CODE S_a_IMPLICIT S_a_EMPTY E_a__VALUES V_a__VALUES E_a_AUTHORIZATION_CODE E_a_IMPLICIT E_a_EMPTY F_value_a_EMPTY Fl_a_AUTHORIZATION_CODE_wireName Fl_a_IMPLICIT_wireName Q_a_AUTHORIZATION_CODE_wireName Q_a_IMPLICIT_wireName S_z_COMPACT_STRINGS c_COMPACT_STRINGS p e ha hc hk s m _ below hf ((Spec.applies_iff_loose hf).mp happ).1 ⟨rfl, State.Warmed39.refl s, rfl, hCH⟩ trivial
  refine ⟨n, _, h1, h2, h3, hpost _ _ _ _ _ _ ⟨Cond.after_iff.mpr rfl, Cond.after_iff.mpr (eq_i res_at (Term.int_eval (1)) rfl), trivial⟩ ⟨hq.1, hq.2.1, hq.2.2.1, (hq.2.2.2.sift fun y hy => Or.inr (N y hy)).mono (by decide) (by decide)⟩⟩
theorem main_1_1 : Claimed_1_1 := comes_1 fun _ _ _ _ _ _ h hF => ⟨h.1, hF⟩
theorem main_1_2 : Claimed_1_2 := comes_1 fun _ _ _ _ _ _ h hF => ⟨h.2.1, hF⟩
end Jvm.Pilot.@@N@@
namespace Jvm.Pilot.@@N@@
open Jvm Jvm.ClassFile Sem Op Lib Jvm.Free Jvm.Stand Jvm.Pilot.@@N@@.Jvm.D
/-! MADE BY PROGRAM (witnessworld.py) out of the Statement's table words and the real class files: 23 classes; the members and pool entries that the words name. The judged class is class 1, her method 1. -/
namespace start1
open Jvm.ClassFile
def u (s : String) : CpInfo := .utf8 (stringToUtf16 s)
/-- a pool by its gaps: so many unusable entries, then the entry; so many at the end -/
def gap : Nat → List CpInfo → List CpInfo
  | 0, r => r
  | n + 1, r => .unusable :: gap n r
def poolList (es : List (Nat × CpInfo)) (last : Nat) : List CpInfo := es.foldr (fun e r => gap e.1 (e.2 :: r)) (gap last [])
def pool (es : List (Nat × CpInfo)) (last : Nat) : Array CpInfo := ⟨poolList es last⟩
def fileOf (pool : Array CpInfo) (this : Nat) (attrs : Array Attribute := #[]) (ms : Array MethodInfo := #[]) (fl : Nat := 33) (sup : Nat := 0) (ifs : Array Nat := #[]) (fds : Array FieldInfo := #[]) : ClassFile where
  minorVersion := 0
  majorVersion := 65
  constantPool := pool
  accessFlags := fl
  thisClass := this
  superClass := sup
  interfaces := ifs
  fields := fds
  methods := ms
  attributes := attrs
def plain (name : String) (sup : Option ClassId) : Class where
  name := name
  kind := .ordinary
  loader := none
  accessFlags := 33
  super := sup
  interfaces := #[]
  cf := none
  fields := #[]
  methods := #[]
  instanceTypes := #[]
  staticTypes := #[]
  resolved := #[]
  callSites := []
  init := .initialized
  statics := none
  mirror := none

def pool0 : Array CpInfo := pool [(5, u "<init>"), (0, u "()V"), (1, .class_ 10), (1, u "java/lang/Object"), (85, u "clone"), (0, u "()Ljava/lang/Object;")] 26

def k0c0 : Code := { maxStack := 0, maxLocals := 1, code := object_method_1_code, exceptionTable := #[], attributes := #[] }
def k0m0 : Method := { name := "<init>", desc := "()V", sig := { parameters := [], returnType := none }, accessFlags := 1, code := some k0c0 }
def k0m1 : Method := { name := "clone", desc := "()Ljava/lang/Object;", sig := { parameters := [], returnType := some (.object "java/lang/Object") }, accessFlags := 260, code := none }
/-- java/lang/Object -/
def k0 : Class := { plain "java/lang/Object" none with
  accessFlags := 33
  interfaces := #[]
  cf := some (fileOf pool0 8 #[] #[{ accessFlags := 1, nameIndex := 5, descriptorIndex := 6, attributes := #[] }, { accessFlags := 260, nameIndex := 96, descriptorIndex := 97, attributes := #[] }] 33 0 #[] #[])
  fields := #[]
  methods := #[k0m0, k0m1]
  instanceTypes := #[]
  staticTypes := #[]
  resolved := Array.replicate 124 none
  statics := none }

def pool1 : Array CpInfo := pool [(2, .class_ 4), (1, u "java/lang/Object"), (0, u "<init>"), (0, u "()V"), (0, .integer 2147483647), (0, .methodref 9 10), (0, .class_ 11), (0, .nameAndType 12 13), (0, u "com/example/uriel/uriel/grant/GrantType"), (0, u "fromWireName"), (0, u "(Ljava/lang/String;)Ljava/util/Optional;"), (0, .methodref 15 16), (0, .class_ 17), (0, .nameAndType 18 19), (0, u "java/util/Optional"), (0, u "orElse"), (0, u "(Ljava/lang/Object;)Ljava/lang/Object;"), (0, .class_ 21), (0, u "java/lang/String"), (0, .methodref 20 23), (0, .nameAndType 5 24), (0, u "([C)V"), (0, .fieldref 9 26), (0, .nameAndType 27 28), (0, u "IMPLICIT"), (0, u "Lcom/example/uriel/uriel/grant/GrantType;"), (0, .fieldref 9 30), (0, .nameAndType 31 28), (0, u "AUTHORIZATION_CODE"), (0, .class_ 33), (0, u "com/example/uriel/uriel/grant/GrantTypeFromWireNamePinLaw"), (2, u "law"), (0, u "(IIIII)Z")] 5

def k1m0 : Method := { name := "<init>", desc := "()V", sig := { parameters := [], returnType := none }, accessFlags := 1, code := none }
def k1c1 : Code := { maxStack := 4, maxLocals := 12, code := code, exceptionTable := #[], attributes := #[] }
def k1m1 : Method := { name := "law", desc := "(IIIII)Z", sig := { parameters := [.int, .int, .int, .int, .int], returnType := some .boolean }, accessFlags := 9, code := some k1c1 }
/-- com/example/uriel/uriel/grant/GrantTypeFromWireNamePinLaw -/
def k1 : Class := { plain "com/example/uriel/uriel/grant/GrantTypeFromWireNamePinLaw" (some 0) with
  accessFlags := 49
  interfaces := #[]
  cf := some (fileOf pool1 32 #[] #[{ accessFlags := 1, nameIndex := 5, descriptorIndex := 6, attributes := #[] }, { accessFlags := 9, nameIndex := 36, descriptorIndex := 37, attributes := #[] }] 49 2 #[] #[])
  fields := #[]
  methods := #[k1m0, k1m1]
  instanceTypes := #[]
  staticTypes := #[]
  resolved := Array.replicate 43 none
  statics := none }

def pool2 : Array CpInfo := pool [(1, .class_ 2), (0, u "java/lang/constant/Constable"), (0, .class_ 4), (0, u "java/lang/Object")] 6

/-- java/lang/constant/Constable -/
def k2 : Class := { plain "java/lang/constant/Constable" (some 0) with
  accessFlags := 1537
  interfaces := #[]
  cf := some (fileOf pool2 1 #[] #[] 1537 3 #[] #[])
  fields := #[]
  methods := #[]
  instanceTypes := #[]
  staticTypes := #[]
  resolved := Array.replicate 11 none
  statics := none }

def pool3 : Array CpInfo := pool [(1, .class_ 2), (0, u "java/lang/Comparable"), (0, .class_ 4), (0, u "java/lang/Object")] 7

/-- java/lang/Comparable -/
def k3 : Class := { plain "java/lang/Comparable" (some 0) with
  accessFlags := 1537
  interfaces := #[]
  cf := some (fileOf pool3 1 #[] #[] 1537 3 #[] #[])
  fields := #[]
  methods := #[]
  instanceTypes := #[]
  staticTypes := #[]
  resolved := Array.replicate 12 none
  statics := none }

def pool4 : Array CpInfo := pool [(1, .class_ 2), (0, u "java/io/Serializable"), (0, .class_ 4), (0, u "java/lang/Object")] 2

/-- java/io/Serializable -/
def k4 : Class := { plain "java/io/Serializable" (some 0) with
  accessFlags := 1537
  interfaces := #[]
  cf := some (fileOf pool4 1 #[] #[] 1537 3 #[] #[])
  fields := #[]
  methods := #[]
  instanceTypes := #[]
  staticTypes := #[]
  resolved := Array.replicate 7 none
  statics := none }

def pool5 : Array CpInfo := pool [(2, .class_ 4), (1, u "java/lang/Enum"), (0, u "name"), (0, u "Ljava/lang/String;"), (2, u "ordinal"), (0, u "I"), (1, .class_ 14), (1, u "java/lang/Object"), (4, u "hash"), (86, .class_ 108), (1, u "java/lang/Enum$EnumDesc"), (2, .class_ 112), (0, u "java/lang/constant/Constable"), (0, .class_ 114), (0, u "java/lang/Comparable"), (0, .class_ 116), (0, u "java/io/Serializable")] 87

/-- java/lang/Enum -/
def k5 : Class := { plain "java/lang/Enum" (some 0) with
  accessFlags := 1057
  interfaces := #[2, 3, 4]
  cf := some (fileOf pool5 2 #[.nestMembers #[106]] #[] 1057 12 #[111, 113, 115] #[{ accessFlags := 18, nameIndex := 5, descriptorIndex := 6, attributes := #[] }, { accessFlags := 18, nameIndex := 9, descriptorIndex := 10, attributes := #[] }, { accessFlags := 2, nameIndex := 19, descriptorIndex := 10, attributes := #[] }])
  fields := #[{ name := "name", type := (.object "java/lang/String"), accessFlags := 18, slot := 0, constantValue := 0 }, { name := "ordinal", type := .int, accessFlags := 18, slot := 1, constantValue := 0 }, { name := "hash", type := .int, accessFlags := 2, slot := 2, constantValue := 0 }]
  methods := #[]
  instanceTypes := #[(.object "java/lang/String"), .int, .int]
  staticTypes := #[]
  resolved := Array.replicate 204 none
  statics := none }

def pool6 : Array CpInfo := pool [(1, .class_ 2), (0, u "com/example/uriel/uriel/grant/GrantType"), (2, u "AUTHORIZATION_CODE"), (0, u "Lcom/example/uriel/uriel/grant/GrantType;"), (2, u "IMPLICIT"), (0, .fieldref 1 11), (0, .nameAndType 12 13), (0, u "$VALUES"), (0, u "[Lcom/example/uriel/uriel/grant/GrantType;"), (0, .methodref 15 16), (0, .class_ 13), (0, .nameAndType 17 18), (0, u "clone"), (0, u "()Ljava/lang/Object;"), (1, .class_ 22), (1, u "java/lang/Enum"), (6, .fieldref 1 30), (0, .nameAndType 31 32), (0, u "wireName"), (0, u "Ljava/lang/String;"), (0, .methodref 1 34), (0, .nameAndType 35 36), (0, u "values"), (0, u "()[Lcom/example/uriel/uriel/grant/GrantType;"), (0, .methodref 38 39), (0, .class_ 40), (0, .nameAndType 41 42), (0, u "java/lang/String"), (0, u "equals"), (0, u "(Ljava/lang/Object;)Z"), (0, .methodref 44 45), (0, .class_ 46), (0, .nameAndType 47 48), (0, u "java/util/Optional"), (0, u "ofNullable"), (0, u "(Ljava/lang/Object;)Ljava/util/Optional;"), (19, u "fromWireName"), (0, u "(Ljava/lang/String;)Ljava/util/Optional;")] 7

def k6c0 : Code := { maxStack := 1, maxLocals := 0, code := prog_7_method_1_code, exceptionTable := #[], attributes := #[] }
def k6m0 : Method := { name := "values", desc := "()[Lcom/example/uriel/uriel/grant/GrantType;", sig := { parameters := [], returnType := some (.array (.object "com/example/uriel/uriel/grant/GrantType")) }, accessFlags := 9, code := some k6c0 }
def k6c1 : Code := { maxStack := 2, maxLocals := 6, code := prog_7_method_5_code, exceptionTable := #[], attributes := #[] }
def k6m1 : Method := { name := "fromWireName", desc := "(Ljava/lang/String;)Ljava/util/Optional;", sig := { parameters := [(.object "java/lang/String")], returnType := some (.object "java/util/Optional") }, accessFlags := 8, code := some k6c1 }
/-- com/example/uriel/uriel/grant/GrantType -/
def k6 : Class := { plain "com/example/uriel/uriel/grant/GrantType" (some 5) with
  accessFlags := 16433
  interfaces := #[]
  cf := some (fileOf pool6 1 #[] #[{ accessFlags := 9, nameIndex := 35, descriptorIndex := 36, attributes := #[] }, { accessFlags := 8, nameIndex := 68, descriptorIndex := 69, attributes := #[] }] 16433 20 #[] #[{ accessFlags := 16409, nameIndex := 5, descriptorIndex := 6, attributes := #[] }, { accessFlags := 16409, nameIndex := 9, descriptorIndex := 6, attributes := #[] }, { accessFlags := 18, nameIndex := 31, descriptorIndex := 32, attributes := #[] }, { accessFlags := 4122, nameIndex := 12, descriptorIndex := 13, attributes := #[] }])
  fields := #[{ name := "AUTHORIZATION_CODE", type := (.object "com/example/uriel/uriel/grant/GrantType"), accessFlags := 16409, slot := 0, constantValue := 0 }, { name := "IMPLICIT", type := (.object "com/example/uriel/uriel/grant/GrantType"), accessFlags := 16409, slot := 1, constantValue := 0 }, { name := "wireName", type := (.object "java/lang/String"), accessFlags := 18, slot := 3, constantValue := 0 }, { name := "$VALUES", type := (.array (.object "com/example/uriel/uriel/grant/GrantType")), accessFlags := 4122, slot := 2, constantValue := 0 }]
  methods := #[k6m0, k6m1]
  instanceTypes := #[(.object "java/lang/String"), .int, .int, (.object "java/lang/String")]
  staticTypes := #[(.object "com/example/uriel/uriel/grant/GrantType"), (.object "com/example/uriel/uriel/grant/GrantType"), (.array (.object "com/example/uriel/uriel/grant/GrantType"))]
  resolved := Array.replicate 77 none
  statics := some 0 }

def pool7 : Array CpInfo := pool [(1, .class_ 2), (0, u "java/lang/Cloneable"), (0, .class_ 4), (0, u "java/lang/Object")] 2

/-- java/lang/Cloneable -/
def k7 : Class := { plain "java/lang/Cloneable" (some 0) with
  accessFlags := 1537
  interfaces := #[]
  cf := some (fileOf pool7 1 #[] #[] 1537 3 #[] #[])
  fields := #[]
  methods := #[]
  instanceTypes := #[]
  staticTypes := #[]
  resolved := Array.replicate 7 none
  statics := none }

def pool8 : Array CpInfo := pool [(2, .class_ 4), (1, u "java/lang/CharSequence"), (42, .class_ 48), (0, u "java/lang/CharSequence$1CodePointIterator"), (10, .class_ 60), (0, u "java/lang/CharSequence$1CharIterator"), (5, .class_ 67), (0, u "java/lang/Object")] 63

/-- java/lang/CharSequence -/
def k8 : Class := { plain "java/lang/CharSequence" (some 0) with
  accessFlags := 1537
  interfaces := #[]
  cf := some (fileOf pool8 2 #[.nestMembers #[47, 59]] #[] 1537 66 #[] #[])
  fields := #[]
  methods := #[]
  instanceTypes := #[]
  staticTypes := #[]
  resolved := Array.replicate 131 none
  statics := none }

def pool9 : Array CpInfo := pool [(1, .class_ 2), (0, u "java/lang/constant/ConstantDesc"), (0, .class_ 4), (0, u "java/lang/Object")] 32

/-- java/lang/constant/ConstantDesc -/
def k9 : Class := { plain "java/lang/constant/ConstantDesc" (some 0) with
  accessFlags := 1537
  interfaces := #[]
  cf := some (fileOf pool9 1 #[] #[] 1537 3 #[] #[])
  fields := #[]
  methods := #[]
  instanceTypes := #[]
  staticTypes := #[]
  resolved := Array.replicate 37 none
  statics := none }

def pool10 : Array CpInfo := pool [(1, .methodref 2 3), (0, .class_ 4), (0, .nameAndType 5 6), (0, u "java/lang/Object"), (0, u "<init>"), (0, u "()V"), (0, .string 8), (0, u ""), (0, .fieldref 10 11), (0, .class_ 12), (0, .nameAndType 13 14), (0, u "java/lang/String"), (0, u "value"), (0, u "[B"), (0, .fieldref 10 16), (0, .nameAndType 17 18), (0, u "coder"), (0, u "B"), (2, u "hash"), (0, u "I"), (2, u "hashIsZero"), (0, u "Z"), (0, .methodref 10 28), (0, .nameAndType 5 29), (0, u "([CIILjava/lang/Void;)V"), (8, .fieldref 10 39), (0, .nameAndType 40 26), (0, u "COMPACT_STRINGS"), (1, .class_ 44), (1, u "java/lang/StringUTF16"), (0, u "compress"), (1, .methodref 42 48), (0, .nameAndType 49 50), (0, u "coderFromArrayLen"), (0, u "([BI)B"), (56, .class_ 109), (1, u "java/lang/StringLatin1"), (67, .methodref 42 178), (0, .nameAndType 45 179), (0, u "([CII)[B"), (361, .methodref 107 542), (0, .nameAndType 543 544), (0, u "equals"), (0, u "([B[B)Z"), (28, u "(Ljava/lang/Object;)Z"), (1, .class_ 576), (0, u "java/lang/CharSequence"), (22, u "CASE_INSENSITIVE_ORDER"), (0, u "Ljava/util/Comparator;"), (409, u "([C)V"), (90, u "serialPersistentFields"), (0, u "[Ljava/io/ObjectStreamField;"), (0, .class_ 1104), (0, u "java/lang/String$CaseInsensitiveComparator"), (1, .class_ 1107), (0, u "java/io/Serializable"), (0, .class_ 1109), (0, u "java/lang/Comparable"), (0, .class_ 1111), (0, u "java/lang/constant/Constable"), (0, .class_ 1113), (0, u "java/lang/constant/ConstantDesc"), (2, u "serialVersionUID"), (0, u "J"), (3, u "REPL"), (0, u "C"), (2, u "LATIN1"), (1, u "UTF16")] 323

def k10m0 : Method := { name := "<init>", desc := "()V", sig := { parameters := [], returnType := none }, accessFlags := 1, code := none }
def k10c1 : Code := { maxStack := 5, maxLocals := 2, code := jdk_42_method_3_code, exceptionTable := #[], attributes := #[] }
def k10m1 : Method := { name := "<init>", desc := "([C)V", sig := { parameters := [(.array .char)], returnType := none }, accessFlags := 1, code := some k10c1 }
def k10c2 : Code := { maxStack := 2, maxLocals := 3, code := jdk_42_method_66_code, exceptionTable := #[], attributes := #[] }
def k10m2 : Method := { name := "equals", desc := "(Ljava/lang/Object;)Z", sig := { parameters := [(.object "java/lang/Object")], returnType := some .boolean }, accessFlags := 1, code := some k10c2 }
def k10c3 : Code := { maxStack := 4, maxLocals := 6, code := jdk_42_method_149_code, exceptionTable := #[], attributes := #[] }
def k10m3 : Method := { name := "<init>", desc := "([CIILjava/lang/Void;)V", sig := { parameters := [(.array .char), .int, .int, (.object "java/lang/Void")], returnType := none }, accessFlags := 2, code := some k10c3 }
/-- java/lang/String -/
def k10 : Class := { plain "java/lang/String" (some 0) with
  accessFlags := 49
  interfaces := #[4, 3, 8, 2, 9]
  cf := some (fileOf pool10 10 #[.nestMembers #[1103]] #[{ accessFlags := 1, nameIndex := 5, descriptorIndex := 6, attributes := #[] }, { accessFlags := 1, nameIndex := 5, descriptorIndex := 1010, attributes := #[] }, { accessFlags := 1, nameIndex := 543, descriptorIndex := 573, attributes := #[] }, { accessFlags := 2, nameIndex := 5, descriptorIndex := 29, attributes := #[] }] 49 2 #[1106, 1108, 575, 1110, 1112] #[{ accessFlags := 18, nameIndex := 13, descriptorIndex := 14, attributes := #[] }, { accessFlags := 18, nameIndex := 17, descriptorIndex := 18, attributes := #[] }, { accessFlags := 2, nameIndex := 21, descriptorIndex := 22, attributes := #[] }, { accessFlags := 2, nameIndex := 25, descriptorIndex := 26, attributes := #[] }, { accessFlags := 26, nameIndex := 1116, descriptorIndex := 1117, attributes := #[] }, { accessFlags := 24, nameIndex := 40, descriptorIndex := 26, attributes := #[] }, { accessFlags := 26, nameIndex := 1101, descriptorIndex := 1102, attributes := #[] }, { accessFlags := 26, nameIndex := 1121, descriptorIndex := 1122, attributes := #[] }, { accessFlags := 25, nameIndex := 599, descriptorIndex := 600, attributes := #[] }, { accessFlags := 24, nameIndex := 1125, descriptorIndex := 18, attributes := #[] }, { accessFlags := 24, nameIndex := 1127, descriptorIndex := 18, attributes := #[] }])
  fields := #[{ name := "value", type := (.array .byte), accessFlags := 18, slot := 0, constantValue := 0 }, { name := "coder", type := .byte, accessFlags := 18, slot := 1, constantValue := 0 }, { name := "hash", type := .int, accessFlags := 2, slot := 2, constantValue := 0 }, { name := "hashIsZero", type := .boolean, accessFlags := 2, slot := 3, constantValue := 0 }, { name := "serialVersionUID", type := .long, accessFlags := 26, slot := 0, constantValue := 0 }, { name := "COMPACT_STRINGS", type := .boolean, accessFlags := 24, slot := 1, constantValue := 0 }, { name := "serialPersistentFields", type := (.array (.object "java/io/ObjectStreamField")), accessFlags := 26, slot := 2, constantValue := 0 }, { name := "REPL", type := .char, accessFlags := 26, slot := 3, constantValue := 0 }, { name := "CASE_INSENSITIVE_ORDER", type := (.object "java/util/Comparator"), accessFlags := 25, slot := 4, constantValue := 0 }, { name := "LATIN1", type := .byte, accessFlags := 24, slot := 5, constantValue := 0 }, { name := "UTF16", type := .byte, accessFlags := 24, slot := 6, constantValue := 0 }]
  methods := #[k10m0, k10m1, k10m2, k10m3]
  instanceTypes := #[(.array .byte), .byte, .int, .boolean]
  staticTypes := #[.long, .boolean, (.array (.object "java/io/ObjectStreamField")), .char, (.object "java/util/Comparator"), .byte, .byte]
  resolved := Array.replicate 1451 none
  statics := some 1 }

def pool11 : Array CpInfo := pool [(1, .fieldref 2 3), (0, .class_ 4), (0, .nameAndType 5 6), (0, u "java/util/Optional"), (0, u "EMPTY"), (0, u "Ljava/util/Optional;"), (0, .methodref 8 9), (0, .class_ 10), (0, .nameAndType 11 12), (0, u "java/lang/Object"), (0, u "<init>"), (0, u "()V"), (0, .fieldref 2 14), (0, .nameAndType 15 16), (0, u "value"), (0, u "Ljava/lang/Object;"), (5, u "(Ljava/lang/Object;)Ljava/lang/Object;"), (0, .methodref 2 24), (0, .nameAndType 11 25), (0, u "(Ljava/lang/Object;)V"), (38, u "ofNullable"), (0, u "(Ljava/lang/Object;)Ljava/util/Optional;"), (99, u "orElse")] 21

def k11c0 : Code := { maxStack := 2, maxLocals := 2, code := jdk_32_method_2_code, exceptionTable := #[], attributes := #[] }
def k11m0 : Method := { name := "<init>", desc := "(Ljava/lang/Object;)V", sig := { parameters := [(.object "java/lang/Object")], returnType := none }, accessFlags := 2, code := some k11c0 }
def k11c1 : Code := { maxStack := 3, maxLocals := 1, code := jdk_32_method_4_code, exceptionTable := #[], attributes := #[] }
def k11m1 : Method := { name := "ofNullable", desc := "(Ljava/lang/Object;)Ljava/util/Optional;", sig := { parameters := [(.object "java/lang/Object")], returnType := some (.object "java/util/Optional") }, accessFlags := 9, code := some k11c1 }
def k11c2 : Code := { maxStack := 1, maxLocals := 2, code := jdk_32_method_15_code, exceptionTable := #[], attributes := #[] }
def k11m2 : Method := { name := "orElse", desc := "(Ljava/lang/Object;)Ljava/lang/Object;", sig := { parameters := [(.object "java/lang/Object")], returnType := some (.object "java/lang/Object") }, accessFlags := 1, code := some k11c2 }
/-- java/util/Optional -/
def k11 : Class := { plain "java/util/Optional" (some 0) with
  accessFlags := 49
  interfaces := #[]
  cf := some (fileOf pool11 2 #[] #[{ accessFlags := 2, nameIndex := 11, descriptorIndex := 25, attributes := #[] }, { accessFlags := 9, nameIndex := 64, descriptorIndex := 65, attributes := #[] }, { accessFlags := 1, nameIndex := 165, descriptorIndex := 22, attributes := #[] }] 49 8 #[] #[{ accessFlags := 26, nameIndex := 5, descriptorIndex := 6, attributes := #[] }, { accessFlags := 18, nameIndex := 15, descriptorIndex := 16, attributes := #[] }])
  fields := #[{ name := "EMPTY", type := (.object "java/util/Optional"), accessFlags := 26, slot := 0, constantValue := 0 }, { name := "value", type := (.object "java/lang/Object"), accessFlags := 18, slot := 0, constantValue := 0 }]
  methods := #[k11m0, k11m1, k11m2]
  instanceTypes := #[(.object "java/lang/Object")]
  staticTypes := #[(.object "java/util/Optional")]
  resolved := Array.replicate 187 none
  statics := some 2 }

def pool12 : Array CpInfo := pool [(6, .class_ 8), (1, u "java/lang/Object"), (0, u "<init>"), (0, u "()V"), (1, .class_ 14), (1, u "java/lang/StringUTF16"), (31, u "$assertionsDisabled"), (0, u "Z"), (13, u "HI_BYTE_SHIFT"), (0, u "I"), (2, u "LO_BYTE_SHIFT"), (49, .methodref 12 116), (0, .nameAndType 117 118), (0, u "compress"), (0, u "([CI[BII)I"), (3, u "([CII)[B"), (138, u "coderFromArrayLen"), (0, u "([BI)B"), (106, .class_ 371), (1, u "java/lang/StringUTF16$LinesSpliterator"), (58, u "MAX_LENGTH"), (196, .class_ 628), (0, u "java/lang/StringUTF16$CodePointsSpliterator"), (0, .class_ 630), (0, u "java/lang/StringUTF16$CharsSpliterator")] 4

def k12m0 : Method := { name := "<init>", desc := "()V", sig := { parameters := [], returnType := none }, accessFlags := 0, code := none }
def k12c1 : Code := { maxStack := 2, maxLocals := 2, code := jdk_52_method_15_code, exceptionTable := #[], attributes := #[] }
def k12m1 : Method := { name := "coderFromArrayLen", desc := "([BI)B", sig := { parameters := [(.array .byte), .int], returnType := some .byte }, accessFlags := 8, code := some k12c1 }
def k12c2 : Code := { maxStack := 5, maxLocals := 6, code := jdk_52_method_16_code, exceptionTable := #[], attributes := #[] }
def k12m2 : Method := { name := "compress", desc := "([CII)[B", sig := { parameters := [(.array .char), .int, .int], returnType := some (.array .byte) }, accessFlags := 9, code := some k12c2 }
def k12c3 : Code := { maxStack := 3, maxLocals := 7, code := jdk_52_method_21_code, exceptionTable := #[], attributes := #[] }
def k12m3 : Method := { name := "compress", desc := "([CI[BII)I", sig := { parameters := [(.array .char), .int, (.array .byte), .int, .int], returnType := some .int }, accessFlags := 9, code := some k12c3 }
/-- java/lang/StringUTF16 -/
def k12 : Class := { plain "java/lang/StringUTF16" (some 0) with
  accessFlags := 48
  interfaces := #[]
  cf := some (fileOf pool12 12 #[.nestMembers #[627, 629, 369]] #[{ accessFlags := 0, nameIndex := 9, descriptorIndex := 10, attributes := #[] }, { accessFlags := 8, nameIndex := 261, descriptorIndex := 262, attributes := #[] }, { accessFlags := 9, nameIndex := 117, descriptorIndex := 122, attributes := #[] }, { accessFlags := 9, nameIndex := 117, descriptorIndex := 118, attributes := #[] }] 48 6 #[] #[{ accessFlags := 26, nameIndex := 61, descriptorIndex := 62, attributes := #[] }, { accessFlags := 26, nameIndex := 65, descriptorIndex := 62, attributes := #[] }, { accessFlags := 24, nameIndex := 430, descriptorIndex := 62, attributes := #[] }, { accessFlags := 4120, nameIndex := 46, descriptorIndex := 47, attributes := #[] }])
  fields := #[{ name := "HI_BYTE_SHIFT", type := .int, accessFlags := 26, slot := 0, constantValue := 0 }, { name := "LO_BYTE_SHIFT", type := .int, accessFlags := 26, slot := 1, constantValue := 0 }, { name := "MAX_LENGTH", type := .int, accessFlags := 24, slot := 2, constantValue := 0 }, { name := "$assertionsDisabled", type := .boolean, accessFlags := 4120, slot := 3, constantValue := 0 }]
  methods := #[k12m0, k12m1, k12m2, k12m3]
  instanceTypes := #[]
  staticTypes := #[.int, .int, .int, .boolean]
  resolved := Array.replicate 635 none
  statics := none }

def pool13 : Array CpInfo := pool [(4, .class_ 6), (1, u "java/lang/Object"), (0, u "<init>"), (0, u "()V"), (5, .class_ 16), (1, u "java/lang/StringLatin1"), (104, u "$assertionsDisabled"), (0, u "Z"), (98, .class_ 223), (1, u "java/lang/StringLatin1$LinesSpliterator"), (57, u "equals"), (0, u "([B[B)Z"), (107, .class_ 391), (0, u "java/lang/StringLatin1$CharsSpliterator")] 3

def k13m0 : Method := { name := "<init>", desc := "()V", sig := { parameters := [], returnType := none }, accessFlags := 0, code := none }
def k13c1 : Code := { maxStack := 3, maxLocals := 3, code := jdk_43_method_13_code, exceptionTable := #[], attributes := #[] }
def k13m1 : Method := { name := "equals", desc := "([B[B)Z", sig := { parameters := [(.array .byte), (.array .byte)], returnType := some .boolean }, accessFlags := 9, code := some k13c1 }
/-- java/lang/StringLatin1 -/
def k13 : Class := { plain "java/lang/StringLatin1" (some 0) with
  accessFlags := 48
  interfaces := #[]
  cf := some (fileOf pool13 14 #[.nestMembers #[390, 221]] #[{ accessFlags := 0, nameIndex := 7, descriptorIndex := 8, attributes := #[] }, { accessFlags := 9, nameIndex := 281, descriptorIndex := 282, attributes := #[] }] 48 4 #[] #[{ accessFlags := 4120, nameIndex := 121, descriptorIndex := 122, attributes := #[] }])
  fields := #[{ name := "$assertionsDisabled", type := .boolean, accessFlags := 4120, slot := 0, constantValue := 0 }]
  methods := #[k13m0, k13m1]
  instanceTypes := #[]
  staticTypes := #[.boolean]
  resolved := Array.replicate 395 none
  statics := none }

def pool14 : Array CpInfo := pool [(2, .class_ 4), (1, u "java/lang/Object"), (0, u "<init>"), (0, u "()V"), (17, .class_ 26), (1, u "jdk/internal/util/Preconditions"), (28, .class_ 56), (0, u "jdk/internal/util/Preconditions$4"), (57, .class_ 115), (0, u "jdk/internal/util/Preconditions$1"), (7, u "SIOOBE_FORMATTER"), (0, u "Ljava/util/function/BiFunction;"), (0, .class_ 126), (0, u "jdk/internal/util/Preconditions$2"), (3, u "AIOOBE_FORMATTER"), (0, .class_ 132), (0, u "jdk/internal/util/Preconditions$3"), (3, u "IOOBE_FORMATTER")] 57

def k14m0 : Method := { name := "<init>", desc := "()V", sig := { parameters := [], returnType := none }, accessFlags := 1, code := none }
/-- jdk/internal/util/Preconditions -/
def k14 : Class := { plain "jdk/internal/util/Preconditions" (some 0) with
  accessFlags := 33
  interfaces := #[]
  cf := some (fileOf pool14 24 #[.nestMembers #[55, 131, 125, 114]] #[{ accessFlags := 1, nameIndex := 5, descriptorIndex := 6, attributes := #[] }] 33 2 #[] #[{ accessFlags := 25, nameIndex := 123, descriptorIndex := 124, attributes := #[] }, { accessFlags := 25, nameIndex := 130, descriptorIndex := 124, attributes := #[] }, { accessFlags := 25, nameIndex := 136, descriptorIndex := 124, attributes := #[] }])
  fields := #[{ name := "SIOOBE_FORMATTER", type := (.object "java/util/function/BiFunction"), accessFlags := 25, slot := 0, constantValue := 0 }, { name := "AIOOBE_FORMATTER", type := (.object "java/util/function/BiFunction"), accessFlags := 25, slot := 1, constantValue := 0 }, { name := "IOOBE_FORMATTER", type := (.object "java/util/function/BiFunction"), accessFlags := 25, slot := 2, constantValue := 0 }]
  methods := #[k14m0]
  instanceTypes := #[]
  staticTypes := #[(.object "java/util/function/BiFunction"), (.object "java/util/function/BiFunction"), (.object "java/util/function/BiFunction")]
  resolved := Array.replicate 194 none
  statics := some 3 }

def pool15 : Array CpInfo := pool [(9, u "<init>"), (6, .class_ 18), (1, u "java/lang/Object"), (0, u "()V"), (1, .class_ 23), (1, u "jdk/internal/util/ArraysSupport"), (0, u "LOG2_ARRAY_LONG_INDEX_SCALE"), (0, u "I"), (2, u "U"), (0, u "Ljdk/internal/misc/Unsafe;"), (8, u "BIG_ENDIAN"), (0, u "Z"), (8, u "LOG2_BYTE_BIT_SIZE"), (4, u "LOG2_ARRAY_INT_INDEX_SCALE"), (54, u "JLA"), (0, u "Ljdk/internal/access/JavaLangAccess;"), (11, u "LOG2_ARRAY_BOOLEAN_INDEX_SCALE"), (9, u "LOG2_ARRAY_BYTE_INDEX_SCALE"), (5, u "LOG2_ARRAY_CHAR_INDEX_SCALE"), (5, u "LOG2_ARRAY_SHORT_INDEX_SCALE"), (18, u "LOG2_ARRAY_FLOAT_INDEX_SCALE"), (24, u "LOG2_ARRAY_DOUBLE_INDEX_SCALE"), (89, u "T_BOOLEAN"), (2, u "T_CHAR"), (1, u "T_FLOAT"), (1, u "T_DOUBLE"), (1, u "T_BYTE"), (1, u "T_SHORT"), (1, u "T_INT"), (1, u "T_LONG"), (1, u "SOFT_MAX_ARRAY_LENGTH")] 83

def k15m0 : Method := { name := "<init>", desc := "()V", sig := { parameters := [], returnType := none }, accessFlags := 2, code := none }
/-- jdk/internal/util/ArraysSupport -/
def k15 : Class := { plain "jdk/internal/util/ArraysSupport" (some 0) with
  accessFlags := 33
  interfaces := #[]
  cf := some (fileOf pool15 21 #[] #[{ accessFlags := 2, nameIndex := 9, descriptorIndex := 19, attributes := #[] }] 33 16 #[] #[{ accessFlags := 24, nameIndex := 28, descriptorIndex := 29, attributes := #[] }, { accessFlags := 26, nameIndex := 38, descriptorIndex := 39, attributes := #[] }, { accessFlags := 25, nameIndex := 121, descriptorIndex := 25, attributes := #[] }, { accessFlags := 25, nameIndex := 131, descriptorIndex := 25, attributes := #[] }, { accessFlags := 25, nameIndex := 137, descriptorIndex := 25, attributes := #[] }, { accessFlags := 25, nameIndex := 143, descriptorIndex := 25, attributes := #[] }, { accessFlags := 25, nameIndex := 53, descriptorIndex := 25, attributes := #[] }, { accessFlags := 25, nameIndex := 24, descriptorIndex := 25, attributes := #[] }, { accessFlags := 25, nameIndex := 162, descriptorIndex := 25, attributes := #[] }, { accessFlags := 25, nameIndex := 187, descriptorIndex := 25, attributes := #[] }, { accessFlags := 26, nameIndex := 48, descriptorIndex := 25, attributes := #[] }, { accessFlags := 25, nameIndex := 277, descriptorIndex := 25, attributes := #[] }, { accessFlags := 25, nameIndex := 280, descriptorIndex := 25, attributes := #[] }, { accessFlags := 25, nameIndex := 282, descriptorIndex := 25, attributes := #[] }, { accessFlags := 25, nameIndex := 284, descriptorIndex := 25, attributes := #[] }, { accessFlags := 25, nameIndex := 286, descriptorIndex := 25, attributes := #[] }, { accessFlags := 25, nameIndex := 288, descriptorIndex := 25, attributes := #[] }, { accessFlags := 25, nameIndex := 290, descriptorIndex := 25, attributes := #[] }, { accessFlags := 25, nameIndex := 292, descriptorIndex := 25, attributes := #[] }, { accessFlags := 26, nameIndex := 108, descriptorIndex := 109, attributes := #[] }, { accessFlags := 25, nameIndex := 294, descriptorIndex := 25, attributes := #[] }])
  fields := #[{ name := "U", type := (.object "jdk/internal/misc/Unsafe"), accessFlags := 24, slot := 0, constantValue := 0 }, { name := "BIG_ENDIAN", type := .boolean, accessFlags := 26, slot := 1, constantValue := 0 }, { name := "LOG2_ARRAY_BOOLEAN_INDEX_SCALE", type := .int, accessFlags := 25, slot := 2, constantValue := 0 }, { name := "LOG2_ARRAY_BYTE_INDEX_SCALE", type := .int, accessFlags := 25, slot := 3, constantValue := 0 }, { name := "LOG2_ARRAY_CHAR_INDEX_SCALE", type := .int, accessFlags := 25, slot := 4, constantValue := 0 }, { name := "LOG2_ARRAY_SHORT_INDEX_SCALE", type := .int, accessFlags := 25, slot := 5, constantValue := 0 }, { name := "LOG2_ARRAY_INT_INDEX_SCALE", type := .int, accessFlags := 25, slot := 6, constantValue := 0 }, { name := "LOG2_ARRAY_LONG_INDEX_SCALE", type := .int, accessFlags := 25, slot := 7, constantValue := 0 }, { name := "LOG2_ARRAY_FLOAT_INDEX_SCALE", type := .int, accessFlags := 25, slot := 8, constantValue := 0 }, { name := "LOG2_ARRAY_DOUBLE_INDEX_SCALE", type := .int, accessFlags := 25, slot := 9, constantValue := 0 }, { name := "LOG2_BYTE_BIT_SIZE", type := .int, accessFlags := 26, slot := 10, constantValue := 0 }, { name := "T_BOOLEAN", type := .int, accessFlags := 25, slot := 11, constantValue := 0 }, { name := "T_CHAR", type := .int, accessFlags := 25, slot := 12, constantValue := 0 }, { name := "T_FLOAT", type := .int, accessFlags := 25, slot := 13, constantValue := 0 }, { name := "T_DOUBLE", type := .int, accessFlags := 25, slot := 14, constantValue := 0 }, { name := "T_BYTE", type := .int, accessFlags := 25, slot := 15, constantValue := 0 }, { name := "T_SHORT", type := .int, accessFlags := 25, slot := 16, constantValue := 0 }, { name := "T_INT", type := .int, accessFlags := 25, slot := 17, constantValue := 0 }, { name := "T_LONG", type := .int, accessFlags := 25, slot := 18, constantValue := 0 }, { name := "JLA", type := (.object "jdk/internal/access/JavaLangAccess"), accessFlags := 26, slot := 19, constantValue := 0 }, { name := "SOFT_MAX_ARRAY_LENGTH", type := .int, accessFlags := 25, slot := 20, constantValue := 0 }]
  methods := #[k15m0]
  instanceTypes := #[]
  staticTypes := #[(.object "jdk/internal/misc/Unsafe"), .boolean, .int, .int, .int, .int, .int, .int, .int, .int, .int, .int, .int, .int, .int, .int, .int, .int, .int, (.object "jdk/internal/access/JavaLangAccess"), .int]
  resolved := Array.replicate 378 none
  statics := none }

/-- the primitive byte -/
def k16 : Class := { plain "byte" none with kind := .primitive 'B', accessFlags := 0x411 }
/-- [B -/
def k17 : Class := { plain "[B" (some 0) with kind := .array 16 .byte, interfaces := #[7, 4], accessFlags := 1041 }

/-- the primitive char -/
def k18 : Class := { plain "char" none with kind := .primitive 'C', accessFlags := 0x411 }
/-- [C -/
def k19 : Class := { plain "[C" (some 0) with kind := .array 18 .char, interfaces := #[7, 4], accessFlags := 1041 }

/-- the primitive int -/
def k20 : Class := { plain "int" none with kind := .primitive 'I', accessFlags := 0x411 }
/-- [I -/
def k21 : Class := { plain "[I" (some 0) with kind := .array 20 .int, interfaces := #[7, 4], accessFlags := 1041 }

/-- [Lcom/example/uriel/uriel/grant/GrantType; -/
def k22 : Class := { plain "[Lcom/example/uriel/uriel/grant/GrantType;" (some 0) with kind := .array 6 (.object "com/example/uriel/uriel/grant/GrantType"), interfaces := #[7, 4], accessFlags := 1041 }

def heap : Heap := #[{ cls := 6, slots := #[.ref 5, .ref 6, .ref 4], vm := .statics 6 },
  { cls := 10, slots := #[.long 0, .int 1, .null, .int 0, .null, .int 0, .int 0], vm := .statics 10 },
  { cls := 11, slots := #[.ref 11], vm := .statics 11 },
  { cls := 14, slots := #[.null, .null, .null], vm := .statics 14 },
  { cls := 22, slots := #[.ref 5, .ref 6], vm := .none },
  { cls := 6, slots := #[.null, .int 0, .int 0, .ref 7], vm := .none },
  { cls := 6, slots := #[.null, .int 1, .int 0, .ref 8], vm := .none },
  { cls := 10, slots := #[.ref 9, .int 0, .int 0, .int 0], vm := .none },
  { cls := 10, slots := #[.ref 10, .int 0, .int 0, .int 0], vm := .none },
  { cls := 17, slots := #[.int 97, .int 117, .int 116, .int 104, .int 111, .int 114, .int 105, .int 122, .int 97, .int 116, .int 105, .int 111, .int 110, .int 95, .int 99, .int 111, .int 100, .int 101], vm := .none },
  { cls := 17, slots := #[.int 105, .int 109, .int 112, .int 108, .int 105, .int 99, .int 105, .int 116], vm := .none },
  { cls := 11, slots := #[.null], vm := .none }]
def classes : Array Class := #[k0, k1, k2, k3, k4, k5, k6, k7, k8, k9, k10, k11, k12, k13, k14, k15, k16, k17, k18, k19, k20, k21, k22]
def interned : List (Array UInt16 × Addr) := []
def slotsUsed : Nat := 59
def theMethod : MethodId := ⟨1, 1⟩
def args0 : Array Value := #[.int 0, .int 0, .int 0, .int 0, .int 0]
def aboutOver (below : List Frame) : State where
  vm := { classes := classes, interned := interned.toArray }
  heap := heap
  slotsUsed := slotsUsed
  threads := #[{ frames := .invoking theMethod args0 :: below }]
def below0 : List Frame := [.native { method := ⟨0, 0⟩, args := #[] }]
def about1 : State := aboutOver below0
def p0 : Program := .bare "" "" ""
def e0 : Env := launch0.env 0 0 0
theorem w_frames : about1.frames = Frame.invoking theMethod args0 :: below0 := rfl
set_option maxRecDepth 65536 in
theorem w_args : argsFit about1.vm theMethod args0 = true := by decide +kernel
set_option maxRecDepth 65536 in
theorem w_heap : heapFits about1 = true := by decide +kernel
set_option maxRecDepth 65536 in
theorem w_runnable : about1.curStatus? = some .runnable := by decide +kernel
set_option maxRecDepth 65536 in
theorem w_alone : about1.alone = true := by decide +kernel
set_option maxRecDepth 65536 in
theorem w_named : about1.methodNamed? x = some theMethod := by decide +kernel
set_option maxRecDepth 65536 in
theorem w_hears : about1.hears theMethod below0 = true := by decide +kernel
set_option maxRecDepth 65536 in
theorem w_ripe : about1.ripe theMethod args0 below0 = true := by decide +kernel
theorem w_running : about1.status = .running := rfl
set_option maxRecDepth 65536 in
theorem w_room : about1.hasRoom e0.platform room_1 = true :=
  launch0.hasRoom_least _ room_1 (by decide +kernel) (by decide +kernel) (by decide +kernel) (by decide +kernel) (by decide +kernel) (by decide +kernel)
theorem allAtoms_all (ts : List Jvm.Cond) (a : Array Jvm.Value) (st : Jvm.State) : (allAtoms ts).before a st = ts.all (fun c => c.before a st) := by
  induction ts with
  | nil => rfl
  | cons c t ih =>
    show (Jvm.Cond.and c (allAtoms t)).before a st = _
    rw [Jvm.Cond.before_and, ih, List.all_cons]
def words1 : List Jvm.Cond := Jvm.Cond.code x code maxLocals ret :: tables_1
/-- a 'code' word, met by the world's own term for the bytes: nothing is compared byte by byte -/
theorem code_word {y : MethodName} {bytes : ByteArray} {mx : Nat} {rt : Option FieldType} {a : Array Value} {s : State} {m : MethodId} {meth : Method} {c : Code} (h1 : s.methodNamed? y = some m) (h2 : s.vm.method? m = some meth) (h3 : meth.code = some c) (h4 : c.code = bytes)
    (h5 : (c.maxLocals == mx && c.exceptionTable.isEmpty && decide (c.maxStack ≤ mostOperands) && decide (meth.sig.returnType = rt) && !meth.locks && decide (parseMethodDescriptor y.desc = some meth.sig)) = true) : (Jvm.Cond.code y bytes mx rt).before a s = true := by
  simp only [Bool.and_eq_true, beq_iff_eq, Bool.not_eq_true', decide_eq_true_eq] at h5
  obtain ⟨⟨⟨⟨⟨g1, g2⟩, g3⟩, g4⟩, g5⟩, g6⟩ := h5
  simp [Cond.before, Cond.holds, Cond.value, h1, h2, h3, h4, g1, g2, g3, g4, g5, g6]
def isCode : Jvm.Cond → Bool
  | .code _ _ _ _ => true
  | _ => false
theorem all_split {L : List Jvm.Cond} {P : Jvm.Cond → Bool} (h1 : L.all (fun c => isCode c || P c) = true) (h2 : ∀ c ∈ L.filter isCode, P c = true) : L.all P = true := by
  refine List.all_eq_true.mpr fun c hc => ?_
  have h := List.all_eq_true.mp h1 c hc
  rcases Bool.eq_false_or_eq_true (isCode c) with hi | hi
  · exact h2 c (List.mem_filter.mpr ⟨hc, hi⟩)
  · simpa [hi] using h
set_option maxRecDepth 65536 in
theorem w_c0 : (Jvm.Cond.code x code maxLocals ret).before args0 about1 = true := code_word (m := ⟨1, 1⟩) (meth := k1m1) (c := k1c1) (by decide +kernel) rfl rfl rfl (by decide +kernel)
set_option maxRecDepth 65536 in
theorem w_c1 : (Jvm.Cond.code ({ cls := "com/example/uriel/uriel/grant/GrantType", name := "fromWireName", desc := "(Ljava/lang/String;)Ljava/util/Optional;" } : Jvm.MethodName) prog_7_method_5_code (6 : Nat) (Option.some (Jvm.ClassFile.FieldType.object "java/util/Optional"))).before args0 about1 = true := code_word (m := ⟨6, 1⟩) (meth := k6m1) (c := k6c1) (by decide +kernel) rfl rfl rfl (by decide +kernel)
set_option maxRecDepth 65536 in
theorem w_c2 : (Jvm.Cond.code ({ cls := "com/example/uriel/uriel/grant/GrantType", name := "values", desc := "()[Lcom/example/uriel/uriel/grant/GrantType;" } : Jvm.MethodName) prog_7_method_1_code (0 : Nat) (Option.some (Jvm.ClassFile.FieldType.array (Jvm.ClassFile.FieldType.object "com/example/uriel/uriel/grant/GrantType")))).before args0 about1 = true := code_word (m := ⟨6, 0⟩) (meth := k6m0) (c := k6c0) (by decide +kernel) rfl rfl rfl (by decide +kernel)
set_option maxRecDepth 65536 in
theorem w_c3 : (Jvm.Cond.code ({ cls := "java/lang/String", name := "equals", desc := "(Ljava/lang/Object;)Z" } : Jvm.MethodName) jdk_42_method_66_code (3 : Nat) (Option.some Jvm.ClassFile.FieldType.boolean)).before args0 about1 = true := code_word (m := ⟨10, 2⟩) (meth := k10m2) (c := k10c2) (by decide +kernel) rfl rfl rfl (by decide +kernel)
set_option maxRecDepth 65536 in
theorem w_c4 : (Jvm.Cond.code ({ cls := "java/util/Optional", name := "ofNullable", desc := "(Ljava/lang/Object;)Ljava/util/Optional;" } : Jvm.MethodName) jdk_32_method_4_code (1 : Nat) (Option.some (Jvm.ClassFile.FieldType.object "java/util/Optional"))).before args0 about1 = true := code_word (m := ⟨11, 1⟩) (meth := k11m1) (c := k11c1) (by decide +kernel) rfl rfl rfl (by decide +kernel)
set_option maxRecDepth 65536 in
theorem w_c5 : (Jvm.Cond.code ({ cls := "java/util/Optional", name := "orElse", desc := "(Ljava/lang/Object;)Ljava/lang/Object;" } : Jvm.MethodName) jdk_32_method_15_code (2 : Nat) (Option.some (Jvm.ClassFile.FieldType.object "java/lang/Object"))).before args0 about1 = true := code_word (m := ⟨11, 2⟩) (meth := k11m2) (c := k11c2) (by decide +kernel) rfl rfl rfl (by decide +kernel)
set_option maxRecDepth 65536 in
theorem w_c6 : (Jvm.Cond.code ({ cls := "java/lang/String", name := "<init>", desc := "([C)V" } : Jvm.MethodName) jdk_42_method_3_code (2 : Nat) (Option.none : Option Jvm.ClassFile.FieldType)).before args0 about1 = true := code_word (m := ⟨10, 1⟩) (meth := k10m1) (c := k10c1) (by decide +kernel) rfl rfl rfl (by decide +kernel)
set_option maxRecDepth 65536 in
theorem w_c7 : (Jvm.Cond.code ({ cls := "java/lang/String", name := "<init>", desc := "([CIILjava/lang/Void;)V" } : Jvm.MethodName) jdk_42_method_149_code (6 : Nat) (Option.none : Option Jvm.ClassFile.FieldType)).before args0 about1 = true := code_word (m := ⟨10, 3⟩) (meth := k10m3) (c := k10c3) (by decide +kernel) rfl rfl rfl (by decide +kernel)
set_option maxRecDepth 65536 in
theorem w_c8 : (Jvm.Cond.code ({ cls := "java/lang/Object", name := "<init>", desc := "()V" } : Jvm.MethodName) object_method_1_code (1 : Nat) (Option.none : Option Jvm.ClassFile.FieldType)).before args0 about1 = true := code_word (m := ⟨0, 0⟩) (meth := k0m0) (c := k0c0) (by decide +kernel) rfl rfl rfl (by decide +kernel)
set_option maxRecDepth 65536 in
theorem w_c9 : (Jvm.Cond.code ({ cls := "java/lang/StringUTF16", name := "compress", desc := "([CII)[B" } : Jvm.MethodName) jdk_52_method_16_code (6 : Nat) (Option.some (Jvm.ClassFile.FieldType.array Jvm.ClassFile.FieldType.byte))).before args0 about1 = true := code_word (m := ⟨12, 2⟩) (meth := k12m2) (c := k12c2) (by decide +kernel) rfl rfl rfl (by decide +kernel)
set_option maxRecDepth 65536 in
theorem w_c10 : (Jvm.Cond.code ({ cls := "java/lang/StringUTF16", name := "compress", desc := "([CI[BII)I" } : Jvm.MethodName) jdk_52_method_21_code (7 : Nat) (Option.some Jvm.ClassFile.FieldType.int)).before args0 about1 = true := code_word (m := ⟨12, 3⟩) (meth := k12m3) (c := k12c3) (by decide +kernel) rfl rfl rfl (by decide +kernel)
set_option maxRecDepth 65536 in
theorem w_c11 : (Jvm.Cond.code ({ cls := "java/lang/StringUTF16", name := "coderFromArrayLen", desc := "([BI)B" } : Jvm.MethodName) jdk_52_method_15_code (2 : Nat) (Option.some Jvm.ClassFile.FieldType.byte)).before args0 about1 = true := code_word (m := ⟨12, 1⟩) (meth := k12m1) (c := k12c1) (by decide +kernel) rfl rfl rfl (by decide +kernel)
set_option maxRecDepth 65536 in
theorem w_c12 : (Jvm.Cond.code ({ cls := "java/lang/StringLatin1", name := "equals", desc := "([B[B)Z" } : Jvm.MethodName) jdk_43_method_13_code (3 : Nat) (Option.some Jvm.ClassFile.FieldType.boolean)).before args0 about1 = true := code_word (m := ⟨13, 1⟩) (meth := k13m1) (c := k13c1) (by decide +kernel) rfl rfl rfl (by decide +kernel)
set_option maxRecDepth 65536 in
theorem w_c13 : (Jvm.Cond.code ({ cls := "java/util/Optional", name := "<init>", desc := "(Ljava/lang/Object;)V" } : Jvm.MethodName) jdk_32_method_2_code (2 : Nat) (Option.none : Option Jvm.ClassFile.FieldType)).before args0 about1 = true := code_word (m := ⟨11, 0⟩) (meth := k11m0) (c := k11c0) (by decide +kernel) rfl rfl rfl (by decide +kernel)
def codes1 : List Jvm.Cond := [Jvm.Cond.code x code maxLocals ret, Jvm.Cond.code ({ cls := "com/example/uriel/uriel/grant/GrantType", name := "fromWireName", desc := "(Ljava/lang/String;)Ljava/util/Optional;" } : Jvm.MethodName) prog_7_method_5_code (6 : Nat) (Option.some (Jvm.ClassFile.FieldType.object "java/util/Optional")), Jvm.Cond.code ({ cls := "com/example/uriel/uriel/grant/GrantType", name := "values", desc := "()[Lcom/example/uriel/uriel/grant/GrantType;" } : Jvm.MethodName) prog_7_method_1_code (0 : Nat) (Option.some (Jvm.ClassFile.FieldType.array (Jvm.ClassFile.FieldType.object "com/example/uriel/uriel/grant/GrantType"))), Jvm.Cond.code ({ cls := "java/lang/String", name := "equals", desc := "(Ljava/lang/Object;)Z" } : Jvm.MethodName) jdk_42_method_66_code (3 : Nat) (Option.some Jvm.ClassFile.FieldType.boolean), Jvm.Cond.code ({ cls := "java/util/Optional", name := "ofNullable", desc := "(Ljava/lang/Object;)Ljava/util/Optional;" } : Jvm.MethodName) jdk_32_method_4_code (1 : Nat) (Option.some (Jvm.ClassFile.FieldType.object "java/util/Optional")), Jvm.Cond.code ({ cls := "java/util/Optional", name := "orElse", desc := "(Ljava/lang/Object;)Ljava/lang/Object;" } : Jvm.MethodName) jdk_32_method_15_code (2 : Nat) (Option.some (Jvm.ClassFile.FieldType.object "java/lang/Object")), Jvm.Cond.code ({ cls := "java/lang/String", name := "<init>", desc := "([C)V" } : Jvm.MethodName) jdk_42_method_3_code (2 : Nat) (Option.none : Option Jvm.ClassFile.FieldType), Jvm.Cond.code ({ cls := "java/lang/String", name := "<init>", desc := "([CIILjava/lang/Void;)V" } : Jvm.MethodName) jdk_42_method_149_code (6 : Nat) (Option.none : Option Jvm.ClassFile.FieldType), Jvm.Cond.code ({ cls := "java/lang/Object", name := "<init>", desc := "()V" } : Jvm.MethodName) object_method_1_code (1 : Nat) (Option.none : Option Jvm.ClassFile.FieldType), Jvm.Cond.code ({ cls := "java/lang/StringUTF16", name := "compress", desc := "([CII)[B" } : Jvm.MethodName) jdk_52_method_16_code (6 : Nat) (Option.some (Jvm.ClassFile.FieldType.array Jvm.ClassFile.FieldType.byte)), Jvm.Cond.code ({ cls := "java/lang/StringUTF16", name := "compress", desc := "([CI[BII)I" } : Jvm.MethodName) jdk_52_method_21_code (7 : Nat) (Option.some Jvm.ClassFile.FieldType.int), Jvm.Cond.code ({ cls := "java/lang/StringUTF16", name := "coderFromArrayLen", desc := "([BI)B" } : Jvm.MethodName) jdk_52_method_15_code (2 : Nat) (Option.some Jvm.ClassFile.FieldType.byte), Jvm.Cond.code ({ cls := "java/lang/StringLatin1", name := "equals", desc := "([B[B)Z" } : Jvm.MethodName) jdk_43_method_13_code (3 : Nat) (Option.some Jvm.ClassFile.FieldType.boolean), Jvm.Cond.code ({ cls := "java/util/Optional", name := "<init>", desc := "(Ljava/lang/Object;)V" } : Jvm.MethodName) jdk_32_method_2_code (2 : Nat) (Option.none : Option Jvm.ClassFile.FieldType)]
set_option maxRecDepth 65536 in
theorem codes_eq : words1.filter isCode = codes1 := rfl
theorem w_codes : ∀ c ∈ words1.filter isCode, c.before args0 about1 = true := by
  rw [codes_eq]
  intro c hc
  simp only [codes1, List.mem_cons, List.not_mem_nil, or_false] at hc
  rcases hc with rfl | rfl | rfl | rfl | rfl | rfl | rfl | rfl | rfl | rfl | rfl | rfl | rfl | rfl
  · exact w_c0
  · exact w_c1
  · exact w_c2
  · exact w_c3
  · exact w_c4
  · exact w_c5
  · exact w_c6
  · exact w_c7
  · exact w_c8
  · exact w_c9
  · exact w_c10
  · exact w_c11
  · exact w_c12
  · exact w_c13
set_option maxRecDepth 65536 in
theorem w_t1 : (words1.take 24).all (fun c => isCode c || c.before args0 about1) = true := by decide +kernel
set_option maxRecDepth 65536 in
theorem w_t2 : ((words1.drop 24).take 24).all (fun c => isCode c || c.before args0 about1) = true := by decide +kernel
set_option maxRecDepth 65536 in
theorem w_t3 : (((words1.drop 24).drop 24).take 24).all (fun c => isCode c || c.before args0 about1) = true := by decide +kernel
set_option maxRecDepth 65536 in
theorem w_t4 : (((words1.drop 24).drop 24).drop 24).all (fun c => isCode c || c.before args0 about1) = true := by decide +kernel
theorem w_tables : (allAtoms (Jvm.Cond.code x code maxLocals ret :: tables_1)).before args0 about1 = true := by
  rw [allAtoms_all]
  show words1.all (fun c => c.before args0 about1) = true
  refine all_split ?_ w_codes
  rw [← List.take_append_drop 24 words1, List.all_append, w_t1, ← List.take_append_drop 24 (words1.drop 24), List.all_append, w_t2, ← List.take_append_drop 24 ((words1.drop 24).drop 24), List.all_append, w_t3, w_t4]
  rfl
set_option maxRecDepth 65536 in
theorem w_rest : rest_1_c.before args0 about1 = true := by decide +kernel
set_option maxRecDepth 65536 in
theorem w_case : (Jvm.Cond.and given_1 narrow_1).before args0 about1 = true := by decide +kernel
set_option maxRecDepth 65536 in
theorem w_consts : constsHeld consts_1 about1 := Jvm.Lit.constsHeldB_iff.mp (by decide +kernel)
theorem w_applies : (headSpec (Jvm.Cond.code x code maxLocals ret :: tables_1) room_1).applies x e0.platform about1 = true :=
  (Spec.applies_iff w_frames).mpr ⟨w_running, w_runnable, w_alone, w_named, w_hears, w_ripe, w_room, w_tables⟩
theorem atStart : AtStart classFile x code maxLocals ret World_1 tables_1 room_1 Calls_1 rest_1 Pre_1 launch0 p0 e0 about1 theMethod args0 below0 :=
  ⟨lists_1, trivial, launch0.admits_env _ _ _, launch0.least_env, fairChoices_fair.cas, fairChoices_fair.clock, w_frames, w_args, w_heap, w_applies, ⟨w_consts, trivial⟩, w_rest, w_case⟩
end start1
theorem witness_1 : WitnessClaimed_1 := ⟨start1.p0, start1.e0, start1.about1, start1.theMethod, start1.args0, start1.below0, start1.atStart⟩
end Jvm.Pilot.@@N@@
