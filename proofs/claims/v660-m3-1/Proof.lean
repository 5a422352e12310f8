import JvmDerived
import JvmDerived.Pilot.@@N@@Statement
import JvmDerived.Pilot.@@N@@Code
set_option linter.unusedVariables false
set_option linter.unusedSimpArgs false
namespace Jvm.OwnKit
open Sem ClassFile Op Lib Jvm.Stand Jvm.Free Jvm.LawKit Jvm.RoadKit
section Go
variable {p : Program} {l : Launch} {e : Env} {R : Room} {s : State} {m : MethodId} {args : Array Value} {below : List Frame} {meth : Method} {c : Code} {T T' : State} {locs : List Loc} {cells slots : Nat} {g g' : JFrame} {P : Outcome → State → Prop} {Q : Option Value → Heap → List Loc → Prop} {k n pc : Nat} {Ls : Array Slot} {rest : List Value}
/-- from this state and frame the invocation comes to its end, and the end is as P says -/
def Go (p : Program) (e : Env) (below : List Frame) (T : State) (g : JFrame) (P : Outcome → State → Prop) : Prop :=
  ∃ s₂ o, Steps p.tables e below (T.setTop g) s₂ ∧ s₂.status = .running ∧ Ended s₂ below o ∧ P o s₂
abbrev Po (s : State) (Q : Option Value → Heap → List Loc → Prop) (k n : Nat) : Outcome → State → Prop := fun o U' => ∃ v L, o = .returned v ∧ Q v U'.heap L ∧ FrameEnd s o U' L k n
theorem stp (h : ∀ t, Steps p.tables e below (T'.setTop g') t → Steps p.tables e below (T.setTop g) t) (K : Go p e below T' g' P) : Go p e below T g P := by
  obtain ⟨s2, o, h1, h2⟩ := K
  exact ⟨s2, o, h _ h1, h2⟩
theorem stt (h : Steps p.tables e below (T.setTop g) (T'.setTop g')) (K : Go p e below T' g' P) : Go p e below T g P := by
  obtain ⟨s2, o, h1, h2⟩ := K
  exact ⟨s2, o, h.trans h1, h2⟩
theorem out (X : Stand p l e R s m args below meth c T locs cells slots) {v : Option Value} (hl : meth.locks = false) (hv : meth.sig.returnType = none → v = none)
    (hst : ∀ fs : List Frame, (∀ (f : JFrame) (acts : List Action), f.method = m → f.locked = none → f.entered = [] → (doReturn e (T.setTop f) acts v).1 = T.setFrames fs) → Steps p.tables e below (T.setTop g) (T.setFrames fs))
    (hc : cells ≤ k) (hn : slots ≤ n) (hQ : Q v T.heap locs) : Go p e below T g (Po s Q k n) := by
  obtain ⟨fs, hr, hrun, hended, hW, hsame⟩ := X.leave (v := v) hv hl
  exact ⟨_, _, hst fs hr, hrun, hended, v, locs, rfl, hQ, ⟨_, rfl⟩, hW, hsame.mono hc hn⟩
theorem outN (X : Stand p l e R s m args below meth c T locs cells slots) (hx : p.tables.exec = Jvm.exec) {t : FieldType} {z : Int32} (hret : meth.sig.returnType = some t) (ht : t = .boolean ∨ t = .byte ∨ t = .char ∨ t = .short) (hd : decode c.code pc = .ok (.ireturn, 1)) (hl : meth.locks = false)
    (hc : cells ≤ k) (hn : slots ≤ n) (hQ : Q (some (.int (nar t z))) T.heap locs) : Go p e below T (mkF m pc Ls (.int z :: rest)) (Po s Q k n) :=
  out X hl (fun h => by rw [hret] at h; cases h) (fun fs hr => retN X hx hret ht hd hr) hc hn hQ
theorem outI (X : Stand p l e R s m args below meth c T locs cells slots) (hx : p.tables.exec = Jvm.exec) {z : Int32} (hret : meth.sig.returnType = some .int) (hd : decode c.code pc = .ok (.ireturn, 1)) (hl : meth.locks = false)
    (hc : cells ≤ k) (hn : slots ≤ n) (hQ : Q (some (.int z)) T.heap locs) : Go p e below T (mkF m pc Ls (.int z :: rest)) (Po s Q k n) :=
  out X hl (fun h => by rw [hret] at h; cases h) (fun fs hr => retOut X hx hret rfl (Or.inl ⟨rfl, Or.inl rfl, _, rfl⟩) hd hr) hc hn hQ
theorem outJ (X : Stand p l e R s m args below meth c T locs cells slots) (hx : p.tables.exec = Jvm.exec) {z : Int64} (hret : meth.sig.returnType = some .long) (hd : decode c.code pc = .ok (.lreturn, 1)) (hl : meth.locks = false)
    (hc : cells ≤ k) (hn : slots ≤ n) (hQ : Q (some (.long z)) T.heap locs) : Go p e below T (mkF m pc Ls (.long z :: rest)) (Po s Q k n) :=
  out X hl (fun h => by rw [hret] at h; cases h) (fun fs hr => retOut X hx hret rfl (Or.inr (Or.inl ⟨rfl, rfl, _, rfl⟩)) hd hr) hc hn hQ
theorem outD (X : Stand p l e R s m args below meth c T locs cells slots) (hx : p.tables.exec = Jvm.exec) {w : Value} (hret : meth.sig.returnType = some .double) (hw : ∃ z, w = .double z) (hd : decode c.code pc = .ok (.dreturn, 1)) (hl : meth.locks = false)
    (hc : cells ≤ k) (hn : slots ≤ n) (hQ : Q (some w) T.heap locs) : Go p e below T (mkF m pc Ls (w :: rest)) (Po s Q k n) := by
  obtain ⟨z, rfl⟩ := hw
  exact out X hl (fun h => by rw [hret] at h; cases h) (fun fs hr => retOut X hx hret rfl (Or.inr (Or.inr (Or.inl ⟨rfl, rfl, _, rfl⟩))) hd hr) hc hn hQ
theorem outA (X : Stand p l e R s m args below meth c T locs cells slots) (hx : p.tables.exec = Jvm.exec) {w : Value} {t : FieldType} (hret : meth.sig.returnType = some t) (ht : t.isReference = true) (hw : w.isRef = true) (hd : decode c.code pc = .ok (.areturn, 1)) (hl : meth.locks = false)
    (hc : cells ≤ k) (hn : slots ≤ n) (hQ : Q (some w) T.heap locs) : Go p e below T (mkF m pc Ls (w :: rest)) (Po s Q k n) := by
  refine out X hl (fun h => by rw [hret] at h; cases h) (fun fs hr => retOut X hx hret ?_ (Or.inr (Or.inr (Or.inr (Or.inr ⟨rfl, ht, hw⟩)))) hd hr) hc hn hQ
  rcases ref_cases hw with rfl | ⟨a, rfl⟩ <;> cases t <;> first | rfl | cases ht
theorem outV (X : Stand p l e R s m args below meth c T locs cells slots) (hx : p.tables.exec = Jvm.exec) (hret : meth.sig.returnType = none) (hd : decode c.code pc = .ok (.return_, 1)) (hl : meth.locks = false)
    (hc : cells ≤ k) (hn : slots ≤ n) (hQ : Q none T.heap locs) : Go p e below T (mkF m pc Ls []) (Po s Q k n) :=
  out X hl (fun _ => rfl) (fun fs hr => X.returnOut hx hret hd hr) hc hn hQ
theorem start {y : MethodName} {bytes : ByteArray} {maxL : Nat} {ret : Option FieldType} {ws : List Cond} {rm : Room} {Z : State} {as' : Array Value} {h0 : Heap} (hpl : plainFor y = true)
    (body : ∀ p e s m below meth c T, Stand p l e rm s m as' below meth c T [] 0 0 → p.tables.exec = Jvm.exec → c.code = bytes → c.maxLocals = maxL → s.vm.findClass y.cls = some m.cls → meth.name = y.name → meth.sig.returnType = ret → meth.locks = false → Z.Warmed39 s.vm → T.heap = h0 →
      Go p e below T (entryFrame m as' maxL) (Po s Q k n)) :
    MetFree l y (head1 (Cond.code y bytes maxL ret :: ws) rm) (fun a U => a = as' ∧ Z.Warmed39 U.vm ∧ U.heap = h0) (fun _ _ _ _ _ => True) (fun _ U o U' => ∃ v L, o = .returned v ∧ Q v U'.heap L ∧ FrameEnd U o U' L k n) := by
  refine MetFree.of_bodySF hpl hisR ?_
  intro p e s m args below meth c s₁ Bd hml0 hP hK
  obtain ⟨rfl, hZ, hh⟩ := hP
  exact body p e s m below meth c s₁ (Stand.of_body Bd) Bd.exec Bd.bytes hml0 (findClass_of_methodNamed Bd.named) (name_of_methodNamed Bd.named Bd.method).1 Bd.returns Bd.notSynchronized hZ (by rw [← hh, Bd.state]; rfl)
theorem goAt (q : g = g') (K : Go p e below T g' P) : Go p e below T g P := q ▸ K
end Go
theorem cat_ref {v : Value} (h : v.isRef = true) : v.category = 1 := by cases v <;> simp_all [Value.isRef, Value.category]
section Facts
variable {Z : State} {args : Array Value}
theorem old_le {n0 : Nat} {h : Heap} (O : Old Z n0 h) : n0 ≤ h.size := by
  obtain ⟨rfl, h2⟩ := O
  exact h2.1
theorem fld_of {C n d : String} {t : Term} {a : Addr} {k : Int32} (ev : t.eval args Z none [] Z = some (.ref a)) (h : (Cond.eq (.field t C n d) (.int k)).value args Z none Z [] = some true) : Fld Z Z.heap a C n d (.int k) := by
  obtain ⟨x, y, h1, h2, -, hk⟩ := cmp_v (Or.inl h)
  have h3 : y = .int k := (Option.some.inj h2).symm
  subst h3
  obtain ⟨z, rfl⟩ := hk
  have h4 : z = k := gotT (Cond.eq_ints h1 h2) h
  subst h4
  rw [fld_at ev] at h1
  exact Fld.start h1
theorem fldnull_of {C n d : String} {t : Term} {a : Addr} (ev : t.eval args Z none [] Z = some (.ref a)) (h : (Cond.eq (.field t C n d) .null).value args Z none Z [] = some true) : Fld Z Z.heap a C n d .null := by
  have h1 := null_v h
  rw [fld_at ev] at h1
  exact Fld.start h1
theorem eqint_v {t : Term} {k : Int32} (h : (Cond.eq t (.int k)).value args Z none Z [] = some true) : t.eval args Z none [] Z = some (.int k) := by
  obtain ⟨x, y, h1, h2, -, hk⟩ := cmp_v (Or.inl h)
  have h3 : y = .int k := (Option.some.inj h2).symm
  subst h3
  obtain ⟨z, rfl⟩ := hk
  have h4 : z = k := gotT (Cond.eq_ints h1 h2) h
  subst h4
  exact h1
end Facts
section Small
variable {h h' : Heap} {a : Addr} {sl : Nat} {x : Int32}
theorem ow_wr_char (e : x.toUInt32.toUInt16.toUInt32.toInt32 = x) (W : Wr h h' a sl (.int (nar .char x))) : Wr h h' a sl (.int x) := by rwa [show nar .char x = x from e] at W
theorem ow_fits_char (e : x.toUInt32.toUInt16.toUInt32.toInt32 = x) : fits .char (.int x) = true := by
  have q := fits_nar_char x
  rwa [show nar .char x = x from e] at q
theorem ow_wr_byte (e : x.toInt8.toInt32 = x) (W : Wr h h' a sl (.int (nar .byte x))) : Wr h h' a sl (.int x) := by rwa [show nar .byte x = x from e] at W
theorem ow_fits_byte (e : x.toInt8.toInt32 = x) : fits .byte (.int x) = true := by
  have q := fits_nar_byte x
  rwa [e] at q
theorem char_small (h0 : ¬ x < 0) (h1 : ¬ (65535 : Int32) < x) : x.toUInt32.toUInt16.toUInt32.toInt32 = x := by
  obtain ⟨q1, q2, q3⟩ := c_i2c x
  simp only [Int32.lt_iff_toInt_lt, Int32.reduceToInt] at h0 h1
  exact Int32.toInt_inj.mp (by omega)
theorem char255 (q : ¬ x < 0 ∧ ¬ (255 : Int32) < x) : x.toUInt32.toUInt16.toUInt32.toInt32 = x := char_small q.1 (by
  obtain ⟨q1, q2⟩ := q
  simp only [Int32.lt_iff_toInt_lt, Int32.reduceToInt] at q1 q2 ⊢
  omega)
theorem byte_small (h0 : ¬ x < (-128 : Int32)) (h1 : ¬ (127 : Int32) < x) : x.toInt8.toInt32 = x := by
  obtain ⟨q1, q2, q3⟩ := c_i2b x
  simp only [Int32.lt_iff_toInt_lt, Int32.reduceToInt] at h0 h1
  exact Int32.toInt_inj.mp (by omega)
theorem byte_twice : x.toInt8.toInt32.toInt8.toInt32 = x.toInt8.toInt32 := by simp
theorem and255 (x : Int32) : ¬ (x &&& (255 : Int32)) < 0 ∧ ¬ (255 : Int32) < (x &&& (255 : Int32)) := by
  have h := c_mask x 255 8 (by decide) (by decide)
  simp only [Int32.lt_iff_toInt_lt, Int32.reduceToInt]
  omega
end Small
section Sub
variable {Z : State} {a0 : Array Value}
theorem NSroot {O K : String} {n : Nat} (w : (Cond.noSuperclass O).before a0 Z = true) (wk : (Cond.instantiable K n).before a0 Z = true) (hn : O ≠ K) : NS Z O K := by
  obtain ⟨c, k, h1, h2, h3, -, -⟩ := Cond.noSuperclass_spec w
  obtain ⟨t, kt, g1, -⟩ := Cond.instantiable_spec wk
  have ne := ids_ne h1 g1 hn
  refine ⟨c, t, h1, g1, fun fuel => ?_⟩
  cases fuel with
  | zero => rfl
  | succ f => simp [Vm.isSubclassAux, ne, h2, h3]
theorem NSno {C S K : String} {n : Nat} (w : (Cond.superclass C S).before a0 Z = true) (wk : (Cond.instantiable K n).before a0 Z = true) (N : NS Z C K) (hn : C ≠ K) : ∃ c t, Z.vm.findClass C = some c ∧ Z.vm.findClass K = some t ∧ Z.vm.assignable c t = false := by
  obtain ⟨c, t, h0, g0, n3⟩ := N
  obtain ⟨p, k, kp, h1, h2, h3, h4, h5, -, h7⟩ := Cond.superclass_spec h0 w
  obtain ⟨t', kt, g1, g2, g5, g7, -⟩ := Cond.instantiable_spec wk
  cases g0.symm.trans g1
  rw [Bool.or_eq_false_iff] at g7
  have ne := ids_ne h0 g0 hn
  refine ⟨c, t, h0, g0, ?_⟩
  show Z.vm.assignableAux (255 + 1) c t = false
  simp [Vm.assignableAux, ne, h2, g2, h5, g5, g7.1, Vm.isSubclass, n3]
end Sub
/-- an array of n elements, told by a function -/
def Arf (Z : State) (h : Heap) (a : Addr) (k : ClassId) (ty : FieldType) (n : Nat) (f : Nat → Value) : Prop := ∃ c : Cell, Arr Z h a c ty ∧ c.cls = k ∧ c.slots.size = n ∧ (∀ i, i < n → c.slots[i]? = some (f i)) ∧ ∀ i, i < n → fits ty (f i) = true
section Arf
variable {Z : State} {h h' : Heap} {a b : Addr} {k : ClassId} {ty : FieldType} {n sl : Nat} {f g : Nat → Value} {v : Value} {ws : List Addr} {c : Cell} {j : Int32} {i : Nat}
theorem Arf.lt (F : Arf Z h a k ty n f) : a < h.size := by
  obtain ⟨c, A, -⟩ := F
  exact A.lt
theorem Arf.ext (F : Arf Z h a k ty n f) (E : Ext h h') : Arf Z h' a k ty n f := by
  obtain ⟨c, A, r⟩ := F
  exact ⟨c, A.ext E, r⟩
theorem Arf.other (F : Arf Z h b k ty n f) (W : Wr h h' a sl v) (q : b ≠ a) : Arf Z h' b k ty n f := by
  obtain ⟨c, A, r⟩ := F
  exact ⟨c, A.other W q, r⟩
theorem Arf.keep (F : Arf Z h a k ty n f) (K : Keep h h' ws) (q : a ∉ ws) : Arf Z h' a k ty n f := by
  obtain ⟨c, A, r⟩ := F
  exact ⟨c, ⟨K.2.1 a c A.1 q, A.2⟩, r⟩
theorem Arf.congr (F : Arf Z h a k ty n f) (q : ∀ i, i < n → g i = f i) : Arf Z h a k ty n g := by
  obtain ⟨c, A, r1, r2, H, G⟩ := F
  exact ⟨c, A, r1, r2, fun i hi => by rw [q i hi]; exact H i hi, fun i hi => by rw [q i hi]; exact G i hi⟩
theorem Arf.set (A : Arr Z h a c ty) (q1 : c.cls = k) (S : c.slots.size = n) (H : ∀ i, i < n → c.slots[i]? = some (f i)) (G : ∀ i, i < n → fits ty (f i) = true) (hv : fits ty v = true) (W : Wr h h' a i v) (hi : i < n) : Arf Z h' a k ty n (fun x => if x = i then v else f x) := by
  refine ⟨c.setSlot i v, A.same W, q1, by rw [sz_set]; exact S, fun x hx => ?_, fun x hx => ?_⟩
  · show (c.setSlot i v).slots[x]? = some (if x = i then v else f x)
    by_cases e : x = i
    · subst e
      simp [Cell.setSlot, S, hx]
    · rw [if_neg e, ← H x hx]
      exact Cell.slots_setSlot_ne v (Ne.symm e)
  · by_cases e : x = i
    · simp [e, hv]
    · simp [e, G x hx]
theorem Arv.arf {z : Int32} {vs : List Value} {d : Value} (F : Arv Z h a k ty z vs d) (hz : z.toNatClampNeg = n) : Arf Z h a k ty n (fun i => vs.getD i d) := by
  obtain ⟨c, A, r1, r2, r3, H, G⟩ := F
  exact ⟨c, A, r1, by rw [r2, hz], fun i hi => H i (by rw [r2, hz]; exact hi), fun i hi => G i (by rw [r2, hz]; exact hi)⟩
theorem arf_in (S : c.slots.size = n) (hk : j.toInt = i) (hn : i < n) : ¬ (j < 0 ∨ c.slots.size ≤ j.toNatClampNeg) := by
  simp only [Int32.lt_iff_toInt_lt, Int32.toNatClampNeg, Int32.reduceToInt, S, hk]
  omega
theorem arf_at (H : ∀ i, i < n → c.slots[i]? = some (f i)) (hk : j.toInt = i) (hn : i < n) : c.slots[j.toNatClampNeg]? = some (f i) := by
  have e : j.toNatClampNeg = i := by simp only [Int32.toNatClampNeg, hk]; omega
  rw [e]
  exact H i hn
theorem arf_ix (hk : j.toInt = i) : j.toNatClampNeg = i := by simp only [Int32.toNatClampNeg, hk]; omega
theorem arf_len {z : Int32} (S : c.slots.size = n) (hz : z.toInt = n) : c.slots.size.toInt32 = z := by
  rw [S]
  have h1 := Int32.toInt_lt z
  exact Int32.toInt_inj.mp (by rw [len_toInt (by omega)]; exact hz.symm)
theorem Arf.one (F : Arf Z h a k ty n f) (hi : i < n) : fits ty (f i) = true := by
  obtain ⟨c, A, r1, r2, H, G⟩ := F
  exact G i hi
theorem Arf.new {z : Int32} (A : Arr Z h a (newA k ty z) ty) (q : ¬ z < 0) (hz : z.toNatClampNeg = n) : Arf Z h a k ty n (fun _ => defaultValue ty) := (Arv.arf (Arv.new A q) hz).congr fun i _ => by simp
theorem cloneF {p : Program} {l : Launch} {e : Env} {R : Room} {s : State} {m : MethodId} {args : Array Value} {below : List Frame} {meth : Method} {c : Code} {T : State} {locs : List Loc} {cells slots : Nat} (X : Stand p l e R s m args below meth c T locs cells slots) (hx : p.tables.exec = Jvm.exec) (hZ : Z.Warmed39 s.vm) {a0 : Array Value} {own ad : String} {index : Nat} (hown : s.vm.findClass own = some m.cls)
    (w1 : (Cond.methodLink own index ⟨ad, "clone", "()Ljava/lang/Object;"⟩).before a0 Z = true) (w2 : (Cond.sameMethod ad "java/lang/Object" "clone" "()Ljava/lang/Object;").before a0 Z = true) (w3 : (Cond.native ⟨"java/lang/Object", "clone", "()Ljava/lang/Object;"⟩).before a0 Z = true)
    (w4 : (Cond.instanceMethod ⟨"java/lang/Object", "clone", "()Ljava/lang/Object;"⟩).before a0 Z = true) (w5 : (Cond.selects ad ⟨ad, "clone", "()Ljava/lang/Object;"⟩ ⟨"java/lang/Object", "clone", "()Ljava/lang/Object;"⟩).before a0 Z = true) (w6 : (Cond.castable ad "java/lang/Cloneable").before a0 Z = true)
    (eT : T.heap = h) (F : Arf Z h a k ty n f) (E : Exa Z h a ad) {g : JFrame} (hg : g.method = m) (hsize : g.locals.size = c.maxLocals) {rest : List Value} (hst : g.stack = .ref a :: rest) (hd : decode c.code g.pc = .ok (.invokevirtual index, 3))
    (hf : 1 ≤ R.frames) {W cap : Nat} (hW : 2 * g.monitorRoom + (rest.map fun v => v.category).sum ≤ W) (hl : W + 14 ≤ R.locals) (hcap : n ≤ cap) (hc : cells + 1 ≤ R.cells) (hsl : slots + cap ≤ R.slots) :
    ∃ T' h', Stand p l e R s m args below meth c T' locs (cells + 1) (slots + cap) ∧ T'.heap = h' ∧ Ext h h' ∧ Arf Z h' h.size k ty n f ∧ Exa Z h' h.size ad ∧
      ∀ target, Steps p.tables e below (T'.setTop { g with pc := g.pc + 3, stack := .ref h.size :: rest }) target → Steps p.tables e below (T.setTop g) target := by
  obtain ⟨cl, A, q1, S, H, G⟩ := F
  have FC : FitC Z cl := fitC_of A fun i hi v hv => by rw [H i (S ▸ hi)] at hv; cases hv; exact G i (S ▸ hi)
  obtain ⟨T', h', X', e', ex, A', E', st⟩ := cloneA X hx hZ hown w1 w2 w3 w4 w5 w6 eT A E FC hg hsize hst hd hf hW hl (by rw [S]; exact hcap) hc hsl
  exact ⟨T', h', X', e', ex, ⟨cloneOf cl, A', q1, S, H, G⟩, E', st⟩
end Arf
theorem and1_cases (x : Int32) : x &&& (1 : Int32) = (0 : Int32) ∨ x &&& (1 : Int32) = (1 : Int32) := and_one x
theorem and3_cases (x : Int32) : x &&& (3 : Int32) = (0 : Int32) ∨ x &&& (3 : Int32) = (1 : Int32) ∨ x &&& (3 : Int32) = (2 : Int32) ∨ x &&& (3 : Int32) = (3 : Int32) := by
  have h := c_mask x 3 2 (by decide) (by decide)
  simp only [← Int32.toInt_inj]
  have : (0 : Int32).toInt = 0 := by decide
  have : (1 : Int32).toInt = 1 := by decide
  have : (2 : Int32).toInt = 2 := by decide
  have : (3 : Int32).toInt = 3 := by decide
  omega
end Jvm.OwnKit
namespace Jvm.Pilot.@@N@@
open Jvm Jvm.ClassFile Sem Op Lib Jvm.Free Jvm.Stand Jvm.LawKit Jvm.RoadKit Jvm.OwnKit Bundle Jvm.Pilot.@@N@@.Jvm.D
abbrev own_chunk (q : Int64) (k : Int32) : Int32 := (((q.toUInt64 >>> (((16 : Int32) * k) &&& 0x3f).toInt64.toUInt64).toInt64 &&& (65535 : Int64)).toInt32)
theorem own_lt {d : Int32} : (d &&& (1073741823 : Int32)) < ((d &&& (1073741823 : Int32)) + (1 : Int32)) := by
  have e := c_mask d 1073741823 30 (by decide) (by decide)
  have e2 := c_iadd (d &&& (1073741823 : Int32)) 1
  have e3 := rng32 ((d &&& (1073741823 : Int32)) + (1 : Int32))
  have e4 : (1 : Int32).toInt = 1 := by decide
  rw [Int32.lt_iff_toInt_lt]
  omega
theorem d1_0 : decode method_3_code 0 = .ok (.lload_n 0, 1) := by decide +kernel
theorem d1_1 : decode method_3_code 1 = .ok (.bipush 16, 2) := by decide +kernel
theorem d1_3 : decode method_3_code 3 = .ok (.iload_n 2, 1) := by decide +kernel
theorem d1_4 : decode method_3_code 4 = .ok (.imul, 1) := by decide +kernel
theorem d1_5 : decode method_3_code 5 = .ok (.lushr, 1) := by decide +kernel
theorem d1_6 : decode method_3_code 6 = .ok (.ldc2_w 27, 3) := by decide +kernel
theorem d1_9 : decode method_3_code 9 = .ok (.land, 1) := by decide +kernel
theorem d1_10 : decode method_3_code 10 = .ok (.l2i, 1) := by decide +kernel
theorem d1_11 : decode method_3_code 11 = .ok (.ireturn, 1) := by decide +kernel
theorem ef_rm_chunk (m : MethodId) (q0 : Int64) (p1 : Int32)  : entryFrame m #[(.long q0), (.int p1)] 3 = mkF m 0 #[.val (.long q0), .second, .val (.int p1)] [] := by first | (simp [entryFrame, mkF, argsToLocals, Value.category]; done) | rfl
def Q_rm_chunk (Z : State) (q0 : Int64) (p1 : Int32)  (h0 : Heap) (n0 : Nat) (v : Option Value) (h : Heap) (L : List Loc) : Prop := v = some (.int (((q0.toUInt64 >>> (((16 : Int32) * p1) &&& 0x3f).toInt64.toUInt64).toInt64 &&& (65535 : Int64)).toInt32)) ∧ Fr n0 L ∧ h = h0
theorem pn_0_ : plainName "com/example/fetch_to_rank/fetchtorank/index/PostingsCountPinLaw" = true := by first | (simp [plainName, overriddenIn]; done) | decide +kernel
theorem pn_0 : plainFor (⟨"com/example/fetch_to_rank/fetchtorank/index/PostingsCountPinLaw", "chunk", "(JI)I"⟩ : MethodName) = true := plainFor_of_name pn_0_
set_option maxRecDepth 65536 in
set_option maxHeartbeats 40000000 in
theorem rm_chunk (l : Launch) (Z : State) (a0 : Array Value) (hw : ∀ d ∈ tables_1, d.before a0 Z = true) (ws : List Jvm.Cond) (q0 : Int64) (p1 : Int32)  (h0 : Heap) (n0 : Nat) (O0 : Old Z n0 h0)  :
    MetFree l (⟨"com/example/fetch_to_rank/fetchtorank/index/PostingsCountPinLaw", "chunk", "(JI)I"⟩ : MethodName) (head1 (Jvm.Cond.code (⟨"com/example/fetch_to_rank/fetchtorank/index/PostingsCountPinLaw", "chunk", "(JI)I"⟩ : MethodName) method_3_code 3 (some .int) :: ws) ({ frames := 0, cells := 0, slots := 0, locals := 0 } : Room)) (fun args_ U => args_ = #[(.long q0), (.int p1)] ∧ Z.Warmed39 U.vm ∧ U.heap = h0) (fun _ _ _ _ _ => True) (fun _ U o U' => ∃ v L, o = .returned v ∧ (Q_rm_chunk Z q0 p1 h0 n0) v U'.heap L ∧ FrameEnd U o U' L ({ frames := 0, cells := 0, slots := 0, locals := 0 } : Room).cells ({ frames := 0, cells := 0, slots := 0, locals := 0 } : Room).slots) := by
  refine start (Q := (Q_rm_chunk Z q0 p1 h0 n0)) pn_0 ?_
  intro p e s m below meth c T0 X0 hx hby hml hown hnm hret hlk hZ e0
  replace hown : s.vm.findClass "com/example/fetch_to_rank/fetchtorank/index/PostingsCountPinLaw" = some m.cls := hown
  replace hml : c.maxLocals = 3 := hml
  refine goAt (ef_rm_chunk m q0 p1 ) ?_
  have N0 := Fr.nil n0
  show Go p e below T0 (mkF m 0 #[.val (.long q0), .second, .val (.int p1)] []) _
  refine stp (fun _ => XS.lloadN X0.here hx rfl (hb hby d1_0) rfl) ?_
  show Go p e below T0 (mkF m 1 #[.val (.long q0), .second, .val (.int p1)] [(.long q0)]) _
  refine stp (fun _ => XS.bipush X0.here hx rfl (hb hby d1_1)) ?_
  show Go p e below T0 (mkF m 3 #[.val (.long q0), .second, .val (.int p1)] [(.int (16 : Int32)), (.long q0)]) _
  refine stp (fun _ => XS.iloadN X0.here hx rfl (hb hby d1_3) rfl) ?_
  show Go p e below T0 (mkF m 4 #[.val (.long q0), .second, .val (.int p1)] [(.int p1), (.int (16 : Int32)), (.long q0)]) _
  refine stp (fun _ => XS.imul X0.here hx rfl (hb hby d1_4) rfl) ?_
  show Go p e below T0 (mkF m 5 #[.val (.long q0), .second, .val (.int p1)] [(.int ((16 : Int32) * p1)), (.long q0)]) _
  refine stp (fun _ => XS.lushr X0.here hx rfl (hb hby d1_5) rfl) ?_
  show Go p e below T0 (mkF m 6 #[.val (.long q0), .second, .val (.int p1)] [(.long ((q0.toUInt64 >>> (((16 : Int32) * p1) &&& 0x3f).toInt64.toUInt64).toInt64))]) _
  refine stp (fun _ => X0.ldc2Long hx hown (mvT hZ (hw _ (List.mem_of_getElem? (i := 6) rfl))) (g := (mkF m 6 #[.val (.long q0), .second, .val (.int p1)] [(.long ((q0.toUInt64 >>> (((16 : Int32) * p1) &&& 0x3f).toInt64.toUInt64).toInt64))])) rfl (hb hby d1_6) _) ?_
  show Go p e below T0 (mkF m 9 #[.val (.long q0), .second, .val (.int p1)] [(.long (65535 : Int64)), (.long ((q0.toUInt64 >>> (((16 : Int32) * p1) &&& 0x3f).toInt64.toUInt64).toInt64))]) _
  refine stp (fun _ => XS.land X0.here hx rfl (hb hby d1_9) rfl) ?_
  show Go p e below T0 (mkF m 10 #[.val (.long q0), .second, .val (.int p1)] [(.long (((q0.toUInt64 >>> (((16 : Int32) * p1) &&& 0x3f).toInt64.toUInt64).toInt64) &&& (65535 : Int64)))]) _
  refine stp (fun _ => XS.l2i X0.here hx rfl (hb hby d1_10) rfl) ?_
  show Go p e below T0 (mkF m 11 #[.val (.long q0), .second, .val (.int p1)] [(.int ((((q0.toUInt64 >>> (((16 : Int32) * p1) &&& 0x3f).toInt64.toUInt64).toInt64) &&& (65535 : Int64)).toInt32))]) _
  refine outI X0 hx hret (hb hby d1_11) hlk (by decide) (by decide) ?_
  exact ⟨rfl, N0, e0⟩
theorem d2_0 : decode prog_27_method_1_code 0 = .ok (.aload_n 0, 1) := by decide +kernel
theorem d2_1 : decode prog_27_method_1_code 1 = .ok (.invokespecial 1, 3) := by decide +kernel
theorem d2_4 : decode prog_27_method_1_code 4 = .ok (.aload_n 2, 1) := by decide +kernel
theorem d2_5 : decode prog_27_method_1_code 5 = .ok (.arraylength, 1) := by decide +kernel
theorem d2_6 : decode prog_27_method_1_code 6 = .ok (.aload_n 1, 1) := by decide +kernel
theorem d2_7 : decode prog_27_method_1_code 7 = .ok (.arraylength, 1) := by decide +kernel
theorem d2_8 : decode prog_27_method_1_code 8 = .ok (.getstatic 7, 3) := by decide +kernel
theorem d2_11 : decode prog_27_method_1_code 11 = .ok (.imul, 1) := by decide +kernel
theorem d2_12 : decode prog_27_method_1_code 12 = .ok (.if_icmp .eq 20, 3) := by decide +kernel
theorem d2_32 : decode prog_27_method_1_code 32 = .ok (.iconst 1, 1) := by decide +kernel
theorem d2_33 : decode prog_27_method_1_code 33 = .ok (.istore_n 3, 1) := by decide +kernel
theorem d2_34 : decode prog_27_method_1_code 34 = .ok (.iload_n 3, 1) := by decide +kernel
theorem d2_35 : decode prog_27_method_1_code 35 = .ok (.aload_n 1, 1) := by decide +kernel
theorem d2_36 : decode prog_27_method_1_code 36 = .ok (.arraylength, 1) := by decide +kernel
theorem d2_37 : decode prog_27_method_1_code 37 = .ok (.if_icmp .ge 36, 3) := by decide +kernel
theorem d2_40 : decode prog_27_method_1_code 40 = .ok (.aload_n 1, 1) := by decide +kernel
theorem d2_41 : decode prog_27_method_1_code 41 = .ok (.iload_n 3, 1) := by decide +kernel
theorem d2_42 : decode prog_27_method_1_code 42 = .ok (.iaload, 1) := by decide +kernel
theorem d2_43 : decode prog_27_method_1_code 43 = .ok (.aload_n 1, 1) := by decide +kernel
theorem d2_44 : decode prog_27_method_1_code 44 = .ok (.iload_n 3, 1) := by decide +kernel
theorem d2_45 : decode prog_27_method_1_code 45 = .ok (.iconst 1, 1) := by decide +kernel
theorem d2_46 : decode prog_27_method_1_code 46 = .ok (.isub, 1) := by decide +kernel
theorem d2_47 : decode prog_27_method_1_code 47 = .ok (.iaload, 1) := by decide +kernel
theorem d2_48 : decode prog_27_method_1_code 48 = .ok (.if_icmp .gt 19, 3) := by decide +kernel
theorem d2_67 : decode prog_27_method_1_code 67 = .ok (.iinc 3 1, 3) := by decide +kernel
theorem d2_70 : decode prog_27_method_1_code 70 = .ok (.goto (-36), 3) := by decide +kernel
theorem d2_73 : decode prog_27_method_1_code 73 = .ok (.aload_n 0, 1) := by decide +kernel
theorem d2_74 : decode prog_27_method_1_code 74 = .ok (.aload_n 1, 1) := by decide +kernel
theorem d2_75 : decode prog_27_method_1_code 75 = .ok (.invokevirtual 25, 3) := by decide +kernel
theorem d2_78 : decode prog_27_method_1_code 78 = .ok (.checkcast 26, 3) := by decide +kernel
theorem d2_81 : decode prog_27_method_1_code 81 = .ok (.putfield 31, 3) := by decide +kernel
theorem d2_84 : decode prog_27_method_1_code 84 = .ok (.aload_n 0, 1) := by decide +kernel
theorem d2_85 : decode prog_27_method_1_code 85 = .ok (.aload_n 2, 1) := by decide +kernel
theorem d2_86 : decode prog_27_method_1_code 86 = .ok (.invokevirtual 25, 3) := by decide +kernel
theorem d2_89 : decode prog_27_method_1_code 89 = .ok (.checkcast 26, 3) := by decide +kernel
theorem d2_92 : decode prog_27_method_1_code 92 = .ok (.putfield 34, 3) := by decide +kernel
theorem d2_95 : decode prog_27_method_1_code 95 = .ok (.return_, 1) := by decide +kernel
theorem ef_rm_init (m : MethodId) (t : Addr) (da : Addr) (ca : Addr)  : entryFrame m #[(.ref t), (.ref da), (.ref ca)] 4 = mkF m 0 #[.val (.ref t), .val (.ref da), .val (.ref ca), .unset] [] := by first | (simp [entryFrame, mkF, argsToLocals, Value.category]; done) | rfl
def Q_rm_init (Z : State) (t : Addr) (da : Addr) (ca : Addr) (kd kc : ClassId) (d0 d1 x0 x1 x2 x3 x4 x5 x6 x7 : Int32) (h0 : Heap) (n0 : Nat) (v : Option Value) (h : Heap) (L : List Loc) : Prop := v = none ∧ Fr n0 L ∧ Keep h0 h [t] ∧ Exa Z h t "com/example/fetch_to_rank/fetchtorank/index/Postings" ∧ ∃ b, n0 ≤ b ∧ b ≠ t ∧ Fld Z h t "com/example/fetch_to_rank/fetchtorank/index/Postings" "counts" "[I" (.ref b) ∧ Arv Z h b kc .int (8 : Int32) [(.int x0), (.int x1), (.int x2), (.int x3), (.int x4), (.int x5), (.int x6), (.int x7)] (.int (0 : Int32))
theorem pn_1_ : plainName "com/example/fetch_to_rank/fetchtorank/index/Postings" = true := by first | (simp [plainName, overriddenIn]; done) | decide +kernel
theorem pn_1 : plainFor (⟨"com/example/fetch_to_rank/fetchtorank/index/Postings", "<init>", "([I[I)V"⟩ : MethodName) = true := plainFor_of_name pn_1_
set_option maxRecDepth 65536 in
set_option maxHeartbeats 40000000 in
theorem rm_init (l : Launch) (Z : State) (a0 : Array Value) (hw : ∀ d ∈ tables_1, d.before a0 Z = true) (ws : List Jvm.Cond) (t : Addr) (da : Addr) (ca : Addr) (kd kc : ClassId) (d0 d1 x0 x1 x2 x3 x4 x5 x6 x7 : Int32) (h0 : Heap) (n0 : Nat) (O0 : Old Z n0 h0) (E_t : Exa Z h0 t "com/example/fetch_to_rank/fetchtorank/index/Postings") (F_d : Fld Z h0 t "com/example/fetch_to_rank/fetchtorank/index/Postings" "documents" "[I" .null) (F_c : Fld Z h0 t "com/example/fetch_to_rank/fetchtorank/index/Postings" "counts" "[I" .null) (A_d : Arv Z h0 da kd .int (2 : Int32) [(.int d0), (.int d1)] (.int (0 : Int32))) (A_c : Arv Z h0 ca kc .int (8 : Int32) [(.int x0), (.int x1), (.int x2), (.int x3), (.int x4), (.int x5), (.int x6), (.int x7)] (.int (0 : Int32))) (E_d : Exa Z h0 da "[I") (E_c : Exa Z h0 ca "[I") (ge_t : n0 ≤ t) (ne_d : da ≠ t) (ne_c : ca ≠ t) (hlt : d0 < d1) (S_TYPES : Sta Z Z.heap "com/example/fetch_to_rank/fetchtorank/index/Postings" "TYPES" "I" (.int 4)) :
    MetFree l (⟨"com/example/fetch_to_rank/fetchtorank/index/Postings", "<init>", "([I[I)V"⟩ : MethodName) (head1 (Jvm.Cond.code (⟨"com/example/fetch_to_rank/fetchtorank/index/Postings", "<init>", "([I[I)V"⟩ : MethodName) prog_27_method_1_code 4 none :: ws) ({ frames := 1, cells := 2, slots := 10, locals := 15 } : Room)) (fun args_ U => args_ = #[(.ref t), (.ref da), (.ref ca)] ∧ Z.Warmed39 U.vm ∧ U.heap = h0) (fun _ _ _ _ _ => True) (fun _ U o U' => ∃ v L, o = .returned v ∧ (Q_rm_init Z t da ca kd kc d0 d1 x0 x1 x2 x3 x4 x5 x6 x7 h0 n0) v U'.heap L ∧ FrameEnd U o U' L ({ frames := 1, cells := 2, slots := 10, locals := 15 } : Room).cells ({ frames := 1, cells := 2, slots := 10, locals := 15 } : Room).slots) := by
  refine start (Q := (Q_rm_init Z t da ca kd kc d0 d1 x0 x1 x2 x3 x4 x5 x6 x7 h0 n0)) pn_1 ?_
  intro p e s m below meth c T0 X0 hx hby hml hown hnm hret hlk hZ e0
  replace hown : s.vm.findClass "com/example/fetch_to_rank/fetchtorank/index/Postings" = some m.cls := hown
  replace hml : c.maxLocals = 4 := hml
  refine goAt (ef_rm_init m t da ca ) ?_
  have N0 := Fr.nil n0
  show Go p e below T0 (mkF m 0 #[.val (.ref t), .val (.ref da), .val (.ref ca), .unset] []) _
  refine stp (fun _ => XS.aloadN X0.here hx rfl (hb hby d2_0) rfl rfl) ?_
  show Go p e below T0 (mkF m 1 #[.val (.ref t), .val (.ref da), .val (.ref ca), .unset] [(.ref t)]) _
  obtain ⟨T1, X1, e1, st1⟩ := initO X0 hx hZ hown (hw _ (List.mem_of_getElem? (i := 13) rfl)) (hw _ (List.mem_of_getElem? (i := 14) rfl)) (hw _ (List.mem_of_getElem? (i := 15) rfl)) e0 (g := (mkF m 1 #[.val (.ref t), .val (.ref da), .val (.ref ca), .unset] [(.ref t)])) rfl (by rw [hml]; rfl) rfl (hb hby d2_1) (by decide) (W := 0) (by show 2 * 0 + _ ≤ _; exact Nat.le_of_eq rfl) (by decide)
  refine stp st1 ?_
  show Go p e below T1 (mkF m 4 #[.val (.ref t), .val (.ref da), .val (.ref ca), .unset] []) _
  refine stp (fun _ => XS.aloadN X1.here hx rfl (hb hby d2_4) rfl rfl) ?_
  show Go p e below T1 (mkF m 5 #[.val (.ref t), .val (.ref da), .val (.ref ca), .unset] [(.ref ca)]) _
  obtain ⟨cl2, Ar2, -, S2, M2, -, -⟩ := (id A_c)
  refine stp (fun _ => X1.arraylength hx (by rw [e1]; exact Ar2.1) (State.isArrayOf_alike hZ.alike Ar2.2.1) (g := (mkF m 5 #[.val (.ref t), .val (.ref da), .val (.ref ca), .unset] [(.ref ca)])) rfl rfl (hb hby d2_5) _) ?_
  rw [len_of S2 M2]
  show Go p e below T1 (mkF m 6 #[.val (.ref t), .val (.ref da), .val (.ref ca), .unset] [(.int (8 : Int32))]) _
  refine stp (fun _ => XS.aloadN X1.here hx rfl (hb hby d2_6) rfl rfl) ?_
  show Go p e below T1 (mkF m 7 #[.val (.ref t), .val (.ref da), .val (.ref ca), .unset] [(.ref da), (.int (8 : Int32))]) _
  obtain ⟨cl3, Ar3, -, S3, M3, -, -⟩ := (id A_d)
  refine stp (fun _ => X1.arraylength hx (by rw [e1]; exact Ar3.1) (State.isArrayOf_alike hZ.alike Ar3.2.1) (g := (mkF m 7 #[.val (.ref t), .val (.ref da), .val (.ref ca), .unset] [(.ref da), (.int (8 : Int32))])) rfl rfl (hb hby d2_7) _) ?_
  rw [len_of S3 M3]
  show Go p e below T1 (mkF m 8 #[.val (.ref t), .val (.ref da), .val (.ref ca), .unset] [(.int (2 : Int32)), (.int (8 : Int32))]) _
  obtain ⟨T4, X4, e4, st4⟩ := getS2 X1 hx hZ hown (host := "") (Or.inl (hw _ (List.mem_of_getElem? (i := 16) rfl))) Via.refl e1 (S_TYPES.ext O0.2) (g := (mkF m 8 #[.val (.ref t), .val (.ref da), .val (.ref ca), .unset] [(.int (2 : Int32)), (.int (8 : Int32))])) rfl (hb hby d2_8)
  refine stp st4 ?_
  show Go p e below T4 (mkF m 11 #[.val (.ref t), .val (.ref da), .val (.ref ca), .unset] [(.int (4 : Int32)), (.int (2 : Int32)), (.int (8 : Int32))]) _
  refine stp (fun _ => XS.imul X4.here hx rfl (hb hby d2_11) rfl) ?_
  show Go p e below T4 (mkF m 12 #[.val (.ref t), .val (.ref da), .val (.ref ca), .unset] [(.int (8 : Int32)), (.int (8 : Int32))]) _
  refine stp (fun _ => XS.icmpYes X4.here hx rfl (pc0 := 12) (pc' := 32) rfl (hb hby d2_12) rfl (by decide) (by decide) (by decide)) ?_
  show Go p e below T4 (mkF m 32 #[.val (.ref t), .val (.ref da), .val (.ref ca), .unset] []) _
  refine stp (fun _ => XS.iconst X4.here hx rfl (hb hby d2_32)) ?_
  show Go p e below T4 (mkF m 33 #[.val (.ref t), .val (.ref da), .val (.ref ca), .unset] [(.int (1 : Int32))]) _
  refine stp (fun _ => XS.istoreN X4.here hx rfl (hb hby d2_33) rfl (l' := #[.val (.ref t), .val (.ref da), .val (.ref ca), .val (.int (1 : Int32))]) rfl) ?_
  show Go p e below T4 (mkF m 34 #[.val (.ref t), .val (.ref da), .val (.ref ca), .val (.int (1 : Int32))] []) _
  refine stp (fun _ => XS.iloadN X4.here hx rfl (hb hby d2_34) rfl) ?_
  show Go p e below T4 (mkF m 35 #[.val (.ref t), .val (.ref da), .val (.ref ca), .val (.int (1 : Int32))] [(.int (1 : Int32))]) _
  refine stp (fun _ => XS.aloadN X4.here hx rfl (hb hby d2_35) rfl rfl) ?_
  show Go p e below T4 (mkF m 36 #[.val (.ref t), .val (.ref da), .val (.ref ca), .val (.int (1 : Int32))] [(.ref da), (.int (1 : Int32))]) _
  obtain ⟨cl5, Ar5, -, S5, M5, -, -⟩ := (id A_d)
  refine stp (fun _ => X4.arraylength hx (by rw [e4]; exact Ar5.1) (State.isArrayOf_alike hZ.alike Ar5.2.1) (g := (mkF m 36 #[.val (.ref t), .val (.ref da), .val (.ref ca), .val (.int (1 : Int32))] [(.ref da), (.int (1 : Int32))])) rfl rfl (hb hby d2_36) _) ?_
  rw [len_of S5 M5]
  show Go p e below T4 (mkF m 37 #[.val (.ref t), .val (.ref da), .val (.ref ca), .val (.int (1 : Int32))] [(.int (2 : Int32)), (.int (1 : Int32))]) _
  refine stp (fun _ => XS.icmpNo X4.here hx rfl (hb hby d2_37) rfl (by decide)) ?_
  show Go p e below T4 (mkF m 40 #[.val (.ref t), .val (.ref da), .val (.ref ca), .val (.int (1 : Int32))] []) _
  refine stp (fun _ => XS.aloadN X4.here hx rfl (hb hby d2_40) rfl rfl) ?_
  show Go p e below T4 (mkF m 41 #[.val (.ref t), .val (.ref da), .val (.ref ca), .val (.int (1 : Int32))] [(.ref da)]) _
  refine stp (fun _ => XS.iloadN X4.here hx rfl (hb hby d2_41) rfl) ?_
  show Go p e below T4 (mkF m 42 #[.val (.ref t), .val (.ref da), .val (.ref ca), .val (.int (1 : Int32))] [(.int (1 : Int32)), (.ref da)]) _
  obtain ⟨cl6, Ar6, q6, S6, M6, H6, G6⟩ := (id A_d)
  have in6 : ¬ ((1 : Int32) < 0 ∨ cl6.slots.size ≤ ((1 : Int32)).toNatClampNeg) := inb_of S6 ⟨by decide, by decide⟩
  have at6 : cl6.slots[((1 : Int32)).toNatClampNeg]? = some (.int d1) := H6.at in6 rfl
  refine stp (fun _ => X4.iaload hx (j := (1 : Int32)) (v := (.int d1)) (by rw [e4]; exact Ar6.1) (State.isArrayOf_alike hZ.alike Ar6.2.1) Ar6.2.2 in6 at6 (g := (mkF m 42 #[.val (.ref t), .val (.ref da), .val (.ref ca), .val (.int (1 : Int32))] [(.int (1 : Int32)), (.ref da)])) rfl rfl (hb hby d2_42) _) ?_
  show Go p e below T4 (mkF m 43 #[.val (.ref t), .val (.ref da), .val (.ref ca), .val (.int (1 : Int32))] [(.int d1)]) _
  refine stp (fun _ => XS.aloadN X4.here hx rfl (hb hby d2_43) rfl rfl) ?_
  show Go p e below T4 (mkF m 44 #[.val (.ref t), .val (.ref da), .val (.ref ca), .val (.int (1 : Int32))] [(.ref da), (.int d1)]) _
  refine stp (fun _ => XS.iloadN X4.here hx rfl (hb hby d2_44) rfl) ?_
  show Go p e below T4 (mkF m 45 #[.val (.ref t), .val (.ref da), .val (.ref ca), .val (.int (1 : Int32))] [(.int (1 : Int32)), (.ref da), (.int d1)]) _
  refine stp (fun _ => XS.iconst X4.here hx rfl (hb hby d2_45)) ?_
  show Go p e below T4 (mkF m 46 #[.val (.ref t), .val (.ref da), .val (.ref ca), .val (.int (1 : Int32))] [(.int (1 : Int32)), (.int (1 : Int32)), (.ref da), (.int d1)]) _
  refine stp (fun _ => XS.isub X4.here hx rfl (hb hby d2_46) rfl) ?_
  show Go p e below T4 (mkF m 47 #[.val (.ref t), .val (.ref da), .val (.ref ca), .val (.int (1 : Int32))] [(.int (0 : Int32)), (.ref da), (.int d1)]) _
  obtain ⟨cl7, Ar7, q7, S7, M7, H7, G7⟩ := (id A_d)
  have in7 : ¬ ((0 : Int32) < 0 ∨ cl7.slots.size ≤ ((0 : Int32)).toNatClampNeg) := inb_of S7 ⟨by decide, by decide⟩
  have at7 : cl7.slots[((0 : Int32)).toNatClampNeg]? = some (.int d0) := H7.at in7 rfl
  refine stp (fun _ => X4.iaload hx (j := (0 : Int32)) (v := (.int d0)) (by rw [e4]; exact Ar7.1) (State.isArrayOf_alike hZ.alike Ar7.2.1) Ar7.2.2 in7 at7 (g := (mkF m 47 #[.val (.ref t), .val (.ref da), .val (.ref ca), .val (.int (1 : Int32))] [(.int (0 : Int32)), (.ref da), (.int d1)])) rfl rfl (hb hby d2_47) _) ?_
  show Go p e below T4 (mkF m 48 #[.val (.ref t), .val (.ref da), .val (.ref ca), .val (.int (1 : Int32))] [(.int d0), (.int d1)]) _
  refine stp (fun _ => XS.icmpYes X4.here hx rfl (pc0 := 48) (pc' := 67) rfl (hb hby d2_48) rfl (XT.ii_gt_t hlt) (by decide) (by decide)) ?_
  show Go p e below T4 (mkF m 67 #[.val (.ref t), .val (.ref da), .val (.ref ca), .val (.int (1 : Int32))] []) _
  refine stp (fun _ => XS.iinc X4.here hx rfl (hb hby d2_67) rfl (l' := #[.val (.ref t), .val (.ref da), .val (.ref ca), .val (.int (2 : Int32))]) rfl) ?_
  show Go p e below T4 (mkF m 70 #[.val (.ref t), .val (.ref da), .val (.ref ca), .val (.int (2 : Int32))] []) _
  refine stp (fun _ => XS.goto X4.here hx rfl (pc0 := 70) (pc' := 34) rfl (hb hby d2_70) (by decide) (by decide)) ?_
  show Go p e below T4 (mkF m 34 #[.val (.ref t), .val (.ref da), .val (.ref ca), .val (.int (2 : Int32))] []) _
  refine stp (fun _ => XS.iloadN X4.here hx rfl (hb hby d2_34) rfl) ?_
  show Go p e below T4 (mkF m 35 #[.val (.ref t), .val (.ref da), .val (.ref ca), .val (.int (2 : Int32))] [(.int (2 : Int32))]) _
  refine stp (fun _ => XS.aloadN X4.here hx rfl (hb hby d2_35) rfl rfl) ?_
  show Go p e below T4 (mkF m 36 #[.val (.ref t), .val (.ref da), .val (.ref ca), .val (.int (2 : Int32))] [(.ref da), (.int (2 : Int32))]) _
  obtain ⟨cl8, Ar8, -, S8, M8, -, -⟩ := (id A_d)
  refine stp (fun _ => X4.arraylength hx (by rw [e4]; exact Ar8.1) (State.isArrayOf_alike hZ.alike Ar8.2.1) (g := (mkF m 36 #[.val (.ref t), .val (.ref da), .val (.ref ca), .val (.int (2 : Int32))] [(.ref da), (.int (2 : Int32))])) rfl rfl (hb hby d2_36) _) ?_
  rw [len_of S8 M8]
  show Go p e below T4 (mkF m 37 #[.val (.ref t), .val (.ref da), .val (.ref ca), .val (.int (2 : Int32))] [(.int (2 : Int32)), (.int (2 : Int32))]) _
  refine stp (fun _ => XS.icmpYes X4.here hx rfl (pc0 := 37) (pc' := 73) rfl (hb hby d2_37) rfl (by decide) (by decide) (by decide)) ?_
  show Go p e below T4 (mkF m 73 #[.val (.ref t), .val (.ref da), .val (.ref ca), .val (.int (2 : Int32))] []) _
  refine stp (fun _ => XS.aloadN X4.here hx rfl (hb hby d2_73) rfl rfl) ?_
  show Go p e below T4 (mkF m 74 #[.val (.ref t), .val (.ref da), .val (.ref ca), .val (.int (2 : Int32))] [(.ref t)]) _
  refine stp (fun _ => XS.aloadN X4.here hx rfl (hb hby d2_74) rfl rfl) ?_
  show Go p e below T4 (mkF m 75 #[.val (.ref t), .val (.ref da), .val (.ref ca), .val (.int (2 : Int32))] [(.ref da), (.ref t)]) _
  obtain ⟨T9, h9, X9, e9, E9, V9, B9, st9⟩ := cloneH X4 hx hZ (ad := "[I") hown (hw _ (List.mem_of_getElem? (i := 18) rfl)) (hw _ (List.mem_of_getElem? (i := 19) rfl)) (hw _ (List.mem_of_getElem? (i := 23) rfl)) (hw _ (List.mem_of_getElem? (i := 21) rfl)) (hw _ (List.mem_of_getElem? (i := 22) rfl)) (hw _ (List.mem_of_getElem? (i := 24) rfl)) e4 A_d.arh E_d (g := (mkF m 75 #[.val (.ref t), .val (.ref da), .val (.ref ca), .val (.int (2 : Int32))] [(.ref da), (.ref t)])) rfl (by rw [hml]; rfl) rfl (hb hby d2_75) (by decide) (W := 1) (cap := 2) (by show 2 * 0 + _ ≤ _; exact Nat.le_of_eq rfl) (by decide) (by decide) (by decide) (by decide)
  obtain ⟨b9, g9⟩ : ∃ z, z = h0.size := ⟨_, rfl⟩
  rw [← g9] at V9 B9 st9
  have ne10 : ca ≠ b9 := Nat.ne_of_lt (Nat.lt_of_lt_of_le A_c.lt (Nat.le_of_eq g9.symm))
  have ne11 : da ≠ b9 := Nat.ne_of_lt (Nat.lt_of_lt_of_le A_d.lt (Nat.le_of_eq g9.symm))
  have ne12 : t ≠ b9 := Nat.ne_of_lt (Nat.lt_of_lt_of_le E_t.lt (Nat.le_of_eq g9.symm))
  have sz_b9 : h0.size ≤ b9 := Nat.le_trans (Keep.refl h0 [t]).1 (Nat.le_of_eq g9.symm)
  have ge_b9 : n0 ≤ b9 := Nat.le_trans (old_le O0) (Nat.le_of_eq g9.symm)
  have f13 := E_t.ext E9
  have f14 := F_d.ext E9
  have f15 := F_c.ext E9
  have f16 := A_d.ext E9
  have f17 := A_c.ext E9
  have f18 := E_d.ext E9
  have f19 := E_c.ext E9
  have K9 : Keep h0 h9 [t] := (Keep.refl h0 [t]).ext E9
  have O9 := O0.ext E9
  replace V9 : Arv Z h9 b9 kd .int (2 : Int32) [(.int d0), (.int d1)] (.int (0 : Int32)) := V9
  refine stp st9 ?_
  show Go p e below T9 (mkF m 78 #[.val (.ref t), .val (.ref da), .val (.ref ca), .val (.int (2 : Int32))] [(.ref b9), (.ref t)]) _
  obtain ⟨T20, X20, e20, st20⟩ := castY X9 hx hZ hown (hw _ (List.mem_of_getElem? (i := 25) rfl)) e9 (Ins.self B9) (g := (mkF m 78 #[.val (.ref t), .val (.ref da), .val (.ref ca), .val (.int (2 : Int32))] [(.ref b9), (.ref t)])) rfl rfl (hb hby d2_78)
  refine stp st20 ?_
  show Go p e below T20 (mkF m 81 #[.val (.ref t), .val (.ref da), .val (.ref ca), .val (.int (2 : Int32))] [(.ref b9), (.ref t)]) _
  obtain ⟨T21, h21, X21, e21, W21, st21⟩ := putF X20 hx hZ hown (host := "") (Or.inl (hw _ (List.mem_of_getElem? (i := 27) rfl))) Via.refl e20 f14 f13 (Or.inr ⟨(hw _ (List.mem_of_getElem? (i := 28) rfl)), rfl, hnm⟩) (hw _ (List.mem_of_getElem? (i := 8) rfl)) (ty := (.array .int)) (by decide) rfl rfl (g := (mkF m 81 #[.val (.ref t), .val (.ref da), .val (.ref ca), .val (.int (2 : Int32))] [(.ref b9), (.ref t)])) rfl rfl (hb hby d2_81)
  have Fw21 := f14.same W21
  have f22 := f13.wr W21
  have f24 := f15.other W21 (Or.inr (slot_ne (Or.inr (hw _ (List.mem_of_getElem? (i := 30) rfl))) (Or.inr (hw _ (List.mem_of_getElem? (i := 28) rfl))) (by decide) (t := (.array .int)) (t' := (.array .int)) (by decide) (by decide)))
  have f25 := f16.other W21 ne_d
  have f26 := f17.other W21 ne_c
  have f27 := f18.wr W21
  have f28 := f19.wr W21
  have f29 := B9.wr W21
  have f30 := V9.other W21 (Ne.symm ne12)
  have K21 : Keep h0 h21 [t] := K9.wr W21 (Or.inl (List.mem_of_getElem? (i := 0) rfl))
  have O21 := O9.wr W21 ge_t
  have N21 := Fr.snoc X21 N0 ge_t
  refine stp st21 ?_
  show Go p e below T21 (mkF m 84 #[.val (.ref t), .val (.ref da), .val (.ref ca), .val (.int (2 : Int32))] []) _
  refine stp (fun _ => XS.aloadN X21.here hx rfl (hb hby d2_84) rfl rfl) ?_
  show Go p e below T21 (mkF m 85 #[.val (.ref t), .val (.ref da), .val (.ref ca), .val (.int (2 : Int32))] [(.ref t)]) _
  refine stp (fun _ => XS.aloadN X21.here hx rfl (hb hby d2_85) rfl rfl) ?_
  show Go p e below T21 (mkF m 86 #[.val (.ref t), .val (.ref da), .val (.ref ca), .val (.int (2 : Int32))] [(.ref ca), (.ref t)]) _
  obtain ⟨T31, h31, X31, e31, E31, V31, B31, st31⟩ := cloneH X21 hx hZ (ad := "[I") hown (hw _ (List.mem_of_getElem? (i := 18) rfl)) (hw _ (List.mem_of_getElem? (i := 19) rfl)) (hw _ (List.mem_of_getElem? (i := 23) rfl)) (hw _ (List.mem_of_getElem? (i := 21) rfl)) (hw _ (List.mem_of_getElem? (i := 22) rfl)) (hw _ (List.mem_of_getElem? (i := 24) rfl)) e21 f26.arh f28 (g := (mkF m 86 #[.val (.ref t), .val (.ref da), .val (.ref ca), .val (.int (2 : Int32))] [(.ref ca), (.ref t)])) rfl (by rw [hml]; rfl) rfl (hb hby d2_86) (by decide) (W := 1) (cap := 8) (by show 2 * 0 + _ ≤ _; exact Nat.le_of_eq rfl) (by decide) (by decide) (by decide) (by decide)
  obtain ⟨b31, g31⟩ : ∃ z, z = h21.size := ⟨_, rfl⟩
  rw [← g31] at V31 B31 st31
  have ne32 : b9 ≠ b31 := Nat.ne_of_lt (Nat.lt_of_lt_of_le f29.lt (Nat.le_of_eq g31.symm))
  have ne33 : ca ≠ b31 := Nat.ne_of_lt (Nat.lt_of_lt_of_le f26.lt (Nat.le_of_eq g31.symm))
  have ne34 : da ≠ b31 := Nat.ne_of_lt (Nat.lt_of_lt_of_le f25.lt (Nat.le_of_eq g31.symm))
  have ne35 : t ≠ b31 := Nat.ne_of_lt (Nat.lt_of_lt_of_le f22.lt (Nat.le_of_eq g31.symm))
  have sz_b31 : h0.size ≤ b31 := Nat.le_trans K21.1 (Nat.le_of_eq g31.symm)
  have ge_b31 : n0 ≤ b31 := Nat.le_trans (old_le O21) (Nat.le_of_eq g31.symm)
  have f36 := f22.ext E31
  have f37 := Fw21.ext E31
  have f38 := f24.ext E31
  have f39 := f25.ext E31
  have f40 := f26.ext E31
  have f41 := f27.ext E31
  have f42 := f28.ext E31
  have f43 := f29.ext E31
  have f44 := f30.ext E31
  have K31 : Keep h0 h31 [t] := K21.ext E31
  have O31 := O21.ext E31
  replace V31 : Arv Z h31 b31 kc .int (8 : Int32) [(.int x0), (.int x1), (.int x2), (.int x3), (.int x4), (.int x5), (.int x6), (.int x7)] (.int (0 : Int32)) := V31
  refine stp st31 ?_
  show Go p e below T31 (mkF m 89 #[.val (.ref t), .val (.ref da), .val (.ref ca), .val (.int (2 : Int32))] [(.ref b31), (.ref t)]) _
  obtain ⟨T45, X45, e45, st45⟩ := castY X31 hx hZ hown (hw _ (List.mem_of_getElem? (i := 25) rfl)) e31 (Ins.self B31) (g := (mkF m 89 #[.val (.ref t), .val (.ref da), .val (.ref ca), .val (.int (2 : Int32))] [(.ref b31), (.ref t)])) rfl rfl (hb hby d2_89)
  refine stp st45 ?_
  show Go p e below T45 (mkF m 92 #[.val (.ref t), .val (.ref da), .val (.ref ca), .val (.int (2 : Int32))] [(.ref b31), (.ref t)]) _
  obtain ⟨T46, h46, X46, e46, W46, st46⟩ := putF X45 hx hZ hown (host := "") (Or.inl (hw _ (List.mem_of_getElem? (i := 29) rfl))) Via.refl e45 f38 f36 (Or.inr ⟨(hw _ (List.mem_of_getElem? (i := 30) rfl)), rfl, hnm⟩) (hw _ (List.mem_of_getElem? (i := 8) rfl)) (ty := (.array .int)) (by decide) rfl rfl (g := (mkF m 92 #[.val (.ref t), .val (.ref da), .val (.ref ca), .val (.int (2 : Int32))] [(.ref b31), (.ref t)])) rfl rfl (hb hby d2_92)
  have Fw46 := f38.same W46
  have f47 := f36.wr W46
  have f48 := f37.other W46 (Or.inr (slot_ne (Or.inr (hw _ (List.mem_of_getElem? (i := 28) rfl))) (Or.inr (hw _ (List.mem_of_getElem? (i := 30) rfl))) (by decide) (t := (.array .int)) (t' := (.array .int)) (by decide) (by decide)))
  have f50 := f39.other W46 ne_d
  have f51 := f40.other W46 ne_c
  have f52 := f41.wr W46
  have f53 := f42.wr W46
  have f54 := f43.wr W46
  have f55 := f44.other W46 (Ne.symm ne12)
  have f56 := B31.wr W46
  have f57 := V31.other W46 (Ne.symm ne35)
  have K46 : Keep h0 h46 [t] := K31.wr W46 (Or.inl (List.mem_of_getElem? (i := 0) rfl))
  have O46 := O31.wr W46 ge_t
  have N46 := Fr.snoc X46 N21 ge_t
  refine stp st46 ?_
  show Go p e below T46 (mkF m 95 #[.val (.ref t), .val (.ref da), .val (.ref ca), .val (.int (2 : Int32))] []) _
  refine outV X46 hx hret (hb hby d2_95) hlk (by decide) (by decide) ?_
  rw [e46]
  exact ⟨rfl, N46, K46, f47, b31, ge_b31, (Ne.symm ne35), Fw46, f57⟩
theorem d4_0 : decode method_4_code 0 = .ok (.iload_n 0, 1) := by decide +kernel
theorem d4_1 : decode method_4_code 1 = .ok (.ifCond .ne 7, 3) := by decide +kernel
theorem d4_4 : decode method_4_code 4 = .ok (.getstatic 29, 3) := by decide +kernel
theorem d4_7 : decode method_4_code 7 = .ok (.areturn, 1) := by decide +kernel
theorem d4_8 : decode method_4_code 8 = .ok (.iload_n 0, 1) := by decide +kernel
theorem d4_9 : decode method_4_code 9 = .ok (.iconst 1, 1) := by decide +kernel
theorem d4_10 : decode method_4_code 10 = .ok (.if_icmp .ne 7, 3) := by decide +kernel
theorem d4_13 : decode method_4_code 13 = .ok (.getstatic 35, 3) := by decide +kernel
theorem d4_16 : decode method_4_code 16 = .ok (.areturn, 1) := by decide +kernel
theorem d4_17 : decode method_4_code 17 = .ok (.iload_n 0, 1) := by decide +kernel
theorem d4_18 : decode method_4_code 18 = .ok (.iconst 2, 1) := by decide +kernel
theorem d4_19 : decode method_4_code 19 = .ok (.if_icmp .ne 7, 3) := by decide +kernel
theorem d4_22 : decode method_4_code 22 = .ok (.getstatic 38, 3) := by decide +kernel
theorem d4_25 : decode method_4_code 25 = .ok (.areturn, 1) := by decide +kernel
theorem d4_26 : decode method_4_code 26 = .ok (.getstatic 41, 3) := by decide +kernel
theorem d4_29 : decode method_4_code 29 = .ok (.areturn, 1) := by decide +kernel
theorem ef_rm_type (m : MethodId) (p0 : Int32)  : entryFrame m #[(.int p0)] 1 = mkF m 0 #[.val (.int p0)] [] := by first | (simp [entryFrame, mkF, argsToLocals, Value.category]; done) | rfl
def Q_rm_type (Z : State) (p0 : Int32) (title anchor url plain r : Addr) (h0 : Heap) (n0 : Nat) (v : Option Value) (h : Heap) (L : List Loc) : Prop := v = some (.ref r) ∧ Fr n0 L ∧ h = h0
theorem pn_2_ : plainName "com/example/fetch_to_rank/fetchtorank/index/PostingsCountPinLaw" = true := by first | (simp [plainName, overriddenIn]; done) | decide +kernel
theorem pn_2 : plainFor (⟨"com/example/fetch_to_rank/fetchtorank/index/PostingsCountPinLaw", "typeOf", "(I)Lcom/example/fetch_to_rank/fetchtorank/index/HitType;"⟩ : MethodName) = true := plainFor_of_name pn_2_
set_option maxRecDepth 65536 in
set_option maxHeartbeats 40000000 in
theorem rm_type (l : Launch) (Z : State) (a0 : Array Value) (hw : ∀ d ∈ tables_1, d.before a0 Z = true) (ws : List Jvm.Cond) (p0 : Int32) (title anchor url plain r : Addr) (h0 : Heap) (n0 : Nat) (O0 : Old Z n0 h0) (S_TITLE : Sta Z Z.heap "com/example/fetch_to_rank/fetchtorank/index/HitType" "TITLE" "Lcom/example/fetch_to_rank/fetchtorank/index/HitType;" (.ref title)) (S_ANCHOR : Sta Z Z.heap "com/example/fetch_to_rank/fetchtorank/index/HitType" "ANCHOR" "Lcom/example/fetch_to_rank/fetchtorank/index/HitType;" (.ref anchor)) (S_URL : Sta Z Z.heap "com/example/fetch_to_rank/fetchtorank/index/HitType" "URL" "Lcom/example/fetch_to_rank/fetchtorank/index/HitType;" (.ref url)) (S_PLAIN : Sta Z Z.heap "com/example/fetch_to_rank/fetchtorank/index/HitType" "PLAIN" "Lcom/example/fetch_to_rank/fetchtorank/index/HitType;" (.ref plain)) (hr : (p0 = 0 → r = title) ∧ (p0 = 1 → r = anchor) ∧ (p0 = 2 → r = url) ∧ (¬ p0 = 0 → ¬ p0 = 1 → ¬ p0 = 2 → r = plain)) :
    MetFree l (⟨"com/example/fetch_to_rank/fetchtorank/index/PostingsCountPinLaw", "typeOf", "(I)Lcom/example/fetch_to_rank/fetchtorank/index/HitType;"⟩ : MethodName) (head1 (Jvm.Cond.code (⟨"com/example/fetch_to_rank/fetchtorank/index/PostingsCountPinLaw", "typeOf", "(I)Lcom/example/fetch_to_rank/fetchtorank/index/HitType;"⟩ : MethodName) method_4_code 1 (some (.object "com/example/fetch_to_rank/fetchtorank/index/HitType")) :: ws) ({ frames := 0, cells := 0, slots := 0, locals := 0 } : Room)) (fun args_ U => args_ = #[(.int p0)] ∧ Z.Warmed39 U.vm ∧ U.heap = h0) (fun _ _ _ _ _ => True) (fun _ U o U' => ∃ v L, o = .returned v ∧ (Q_rm_type Z p0 title anchor url plain r h0 n0) v U'.heap L ∧ FrameEnd U o U' L ({ frames := 0, cells := 0, slots := 0, locals := 0 } : Room).cells ({ frames := 0, cells := 0, slots := 0, locals := 0 } : Room).slots) := by
  refine start (Q := (Q_rm_type Z p0 title anchor url plain r h0 n0)) pn_2 ?_
  intro p e s m below meth c T0 X0 hx hby hml hown hnm hret hlk hZ e0
  replace hown : s.vm.findClass "com/example/fetch_to_rank/fetchtorank/index/PostingsCountPinLaw" = some m.cls := hown
  replace hml : c.maxLocals = 1 := hml
  refine goAt (ef_rm_type m p0 ) ?_
  have N0 := Fr.nil n0
  show Go p e below T0 (mkF m 0 #[.val (.int p0)] []) _
  refine stp (fun _ => XS.iloadN X0.here hx rfl (hb hby d4_0) rfl) ?_
  show Go p e below T0 (mkF m 1 #[.val (.int p0)] [(.int p0)]) _
  by_cases q1_1 : p0 = 0
  · refine stp (fun _ => XS.ifNo X0.here hx rfl (hb hby d4_1) rfl (XT.i0_ne_f q1_1)) ?_
    show Go p e below T0 (mkF m 4 #[.val (.int p0)] []) _
    obtain ⟨T2, X2, e2, st2⟩ := getS2 X0 hx hZ hown (host := "") (Or.inl (hw _ (List.mem_of_getElem? (i := 34) rfl))) Via.refl e0 (S_TITLE.ext O0.2) (g := (mkF m 4 #[.val (.int p0)] [])) rfl (hb hby d4_4)
    refine stp st2 ?_
    show Go p e below T2 (mkF m 7 #[.val (.int p0)] [(.ref title)]) _
    refine outA X2 hx hret rfl rfl (hb hby d4_7) hlk (by decide) (by decide) ?_
    exact ⟨by rw [hr.1 q1_1], N0, e2⟩
  · refine stp (fun _ => XS.ifYes X0.here hx rfl (pc0 := 1) (pc' := 8) rfl (hb hby d4_1) rfl (XT.i0_ne_t q1_1) (by decide) (by decide)) ?_
    show Go p e below T0 (mkF m 8 #[.val (.int p0)] []) _
    refine stp (fun _ => XS.iloadN X0.here hx rfl (hb hby d4_8) rfl) ?_
    show Go p e below T0 (mkF m 9 #[.val (.int p0)] [(.int p0)]) _
    refine stp (fun _ => XS.iconst X0.here hx rfl (hb hby d4_9)) ?_
    show Go p e below T0 (mkF m 10 #[.val (.int p0)] [(.int (1 : Int32)), (.int p0)]) _
    by_cases q10_3 : p0 = (1 : Int32)
    · refine stp (fun _ => XS.icmpNo X0.here hx rfl (hb hby d4_10) rfl (XT.ii_ne_f q10_3)) ?_
      show Go p e below T0 (mkF m 13 #[.val (.int p0)] []) _
      obtain ⟨T4, X4, e4, st4⟩ := getS2 X0 hx hZ hown (host := "") (Or.inl (hw _ (List.mem_of_getElem? (i := 55) rfl))) Via.refl e0 (S_ANCHOR.ext O0.2) (g := (mkF m 13 #[.val (.int p0)] [])) rfl (hb hby d4_13)
      refine stp st4 ?_
      show Go p e below T4 (mkF m 16 #[.val (.int p0)] [(.ref anchor)]) _
      refine outA X4 hx hret rfl rfl (hb hby d4_16) hlk (by decide) (by decide) ?_
      exact ⟨by rw [hr.2.1 q10_3], N0, e4⟩
    · refine stp (fun _ => XS.icmpYes X0.here hx rfl (pc0 := 10) (pc' := 17) rfl (hb hby d4_10) rfl (XT.ii_ne_t q10_3) (by decide) (by decide)) ?_
      show Go p e below T0 (mkF m 17 #[.val (.int p0)] []) _
      refine stp (fun _ => XS.iloadN X0.here hx rfl (hb hby d4_17) rfl) ?_
      show Go p e below T0 (mkF m 18 #[.val (.int p0)] [(.int p0)]) _
      refine stp (fun _ => XS.iconst X0.here hx rfl (hb hby d4_18)) ?_
      show Go p e below T0 (mkF m 19 #[.val (.int p0)] [(.int (2 : Int32)), (.int p0)]) _
      by_cases q19_5 : p0 = (2 : Int32)
      · refine stp (fun _ => XS.icmpNo X0.here hx rfl (hb hby d4_19) rfl (XT.ii_ne_f q19_5)) ?_
        show Go p e below T0 (mkF m 22 #[.val (.int p0)] []) _
        obtain ⟨T6, X6, e6, st6⟩ := getS2 X0 hx hZ hown (host := "") (Or.inl (hw _ (List.mem_of_getElem? (i := 51) rfl))) Via.refl e0 (S_URL.ext O0.2) (g := (mkF m 22 #[.val (.int p0)] [])) rfl (hb hby d4_22)
        refine stp st6 ?_
        show Go p e below T6 (mkF m 25 #[.val (.int p0)] [(.ref url)]) _
        refine outA X6 hx hret rfl rfl (hb hby d4_25) hlk (by decide) (by decide) ?_
        exact ⟨by rw [hr.2.2.1 q19_5], N0, e6⟩
      · refine stp (fun _ => XS.icmpYes X0.here hx rfl (pc0 := 19) (pc' := 26) rfl (hb hby d4_19) rfl (XT.ii_ne_t q19_5) (by decide) (by decide)) ?_
        show Go p e below T0 (mkF m 26 #[.val (.int p0)] []) _
        obtain ⟨T7, X7, e7, st7⟩ := getS2 X0 hx hZ hown (host := "") (Or.inl (hw _ (List.mem_of_getElem? (i := 53) rfl))) Via.refl e0 (S_PLAIN.ext O0.2) (g := (mkF m 26 #[.val (.int p0)] [])) rfl (hb hby d4_26)
        refine stp st7 ?_
        show Go p e below T7 (mkF m 29 #[.val (.int p0)] [(.ref plain)]) _
        refine outA X7 hx hret rfl rfl (hb hby d4_29) hlk (by decide) (by decide) ?_
        exact ⟨by rw [hr.2.2.2 q1_1 q10_3 q19_5], N0, e7⟩
theorem d6_0 : decode jdk_37_method_2_code 0 = .ok (.aload_n 0, 1) := by decide +kernel
theorem d6_1 : decode jdk_37_method_2_code 1 = .ok (.getfield 7, 3) := by decide +kernel
theorem d6_4 : decode jdk_37_method_2_code 4 = .ok (.ireturn, 1) := by decide +kernel
theorem ef_rm_ord (m : MethodId) (a0_ : Addr)  : entryFrame m #[(.ref a0_)] 1 = mkF m 0 #[.val (.ref a0_)] [] := by first | (simp [entryFrame, mkF, argsToLocals, Value.category]; done) | rfl
def Q_rm_ord (Z : State) (a0_ : Addr) (k : Int32) (h0 : Heap) (n0 : Nat) (v : Option Value) (h : Heap) (L : List Loc) : Prop := v = some (.int k) ∧ Fr n0 L ∧ h = h0
theorem pn_3_ : plainName "java/lang/Enum" = true := by first | (simp [plainName, overriddenIn]; done) | decide +kernel
theorem pn_3 : plainFor (⟨"java/lang/Enum", "ordinal", "()I"⟩ : MethodName) = true := plainFor_of_name pn_3_
set_option maxRecDepth 65536 in
set_option maxHeartbeats 40000000 in
theorem rm_ord (l : Launch) (Z : State) (a0 : Array Value) (hw : ∀ d ∈ tables_1, d.before a0 Z = true) (ws : List Jvm.Cond) (a0_ : Addr) (k : Int32) (h0 : Heap) (n0 : Nat) (O0 : Old Z n0 h0) (F : Fld Z Z.heap a0_ "java/lang/Enum" "ordinal" "I" (.int k)) :
    MetFree l (⟨"java/lang/Enum", "ordinal", "()I"⟩ : MethodName) (head1 (Jvm.Cond.code (⟨"java/lang/Enum", "ordinal", "()I"⟩ : MethodName) jdk_37_method_2_code 1 (some .int) :: ws) ({ frames := 0, cells := 0, slots := 0, locals := 0 } : Room)) (fun args_ U => args_ = #[(.ref a0_)] ∧ Z.Warmed39 U.vm ∧ U.heap = h0) (fun _ _ _ _ _ => True) (fun _ U o U' => ∃ v L, o = .returned v ∧ (Q_rm_ord Z a0_ k h0 n0) v U'.heap L ∧ FrameEnd U o U' L ({ frames := 0, cells := 0, slots := 0, locals := 0 } : Room).cells ({ frames := 0, cells := 0, slots := 0, locals := 0 } : Room).slots) := by
  refine start (Q := (Q_rm_ord Z a0_ k h0 n0)) pn_3 ?_
  intro p e s m below meth c T0 X0 hx hby hml hown hnm hret hlk hZ e0
  replace hown : s.vm.findClass "java/lang/Enum" = some m.cls := hown
  replace hml : c.maxLocals = 1 := hml
  refine goAt (ef_rm_ord m a0_ ) ?_
  have N0 := Fr.nil n0
  show Go p e below T0 (mkF m 0 #[.val (.ref a0_)] []) _
  refine stp (fun _ => XS.aloadN X0.here hx rfl (hb hby d6_0) rfl rfl) ?_
  show Go p e below T0 (mkF m 1 #[.val (.ref a0_)] [(.ref a0_)]) _
  obtain ⟨T1, X1, e1, st1⟩ := getF X0 hx hZ hown (host := "") (Or.inl (hw _ (List.mem_of_getElem? (i := 49) rfl))) Via.refl e0 (F.ext O0.2) (g := (mkF m 1 #[.val (.ref a0_)] [(.ref a0_)])) rfl rfl (hb hby d6_1)
  refine stp st1 ?_
  show Go p e below T1 (mkF m 4 #[.val (.ref a0_)] [(.int k)]) _
  refine outI X1 hx hret (hb hby d6_4) hlk (by decide) (by decide) ?_
  exact ⟨rfl, N0, e1⟩
theorem d5_0 : decode prog_27_method_4_code 0 = .ok (.aload_n 0, 1) := by decide +kernel
theorem d5_1 : decode prog_27_method_4_code 1 = .ok (.getfield 34, 3) := by decide +kernel
theorem d5_4 : decode prog_27_method_4_code 4 = .ok (.iload_n 1, 1) := by decide +kernel
theorem d5_5 : decode prog_27_method_4_code 5 = .ok (.getstatic 7, 3) := by decide +kernel
theorem d5_8 : decode prog_27_method_4_code 8 = .ok (.imul, 1) := by decide +kernel
theorem d5_9 : decode prog_27_method_4_code 9 = .ok (.aload_n 2, 1) := by decide +kernel
theorem d5_10 : decode prog_27_method_4_code 10 = .ok (.invokevirtual 37, 3) := by decide +kernel
theorem pd_0 : parseMethodDescriptor "()I" = some ⟨[], some .int⟩ := by decide +kernel
theorem d5_13 : decode prog_27_method_4_code 13 = .ok (.iadd, 1) := by decide +kernel
theorem d5_14 : decode prog_27_method_4_code 14 = .ok (.iaload, 1) := by decide +kernel
theorem d5_15 : decode prog_27_method_4_code 15 = .ok (.ireturn, 1) := by decide +kernel
theorem ef_rm_count (m : MethodId) (t : Addr) (i : Int32) (ht : Addr)  : entryFrame m #[(.ref t), (.int i), (.ref ht)] 3 = mkF m 0 #[.val (.ref t), .val (.int i), .val (.ref ht)] [] := by first | (simp [entryFrame, mkF, argsToLocals, Value.category]; done) | rfl
def Q_rm_count (Z : State) (t : Addr) (i : Int32) (ht : Addr) (b : Addr) (kc : ClassId) (k w x0 x1 x2 x3 x4 x5 x6 x7 : Int32) (h0 : Heap) (n0 : Nat) (v : Option Value) (h : Heap) (L : List Loc) : Prop := v = some (.int w) ∧ Fr n0 L ∧ h = h0
theorem pn_4_ : plainName "com/example/fetch_to_rank/fetchtorank/index/Postings" = true := by first | (simp [plainName, overriddenIn]; done) | decide +kernel
theorem pn_4 : plainFor (⟨"com/example/fetch_to_rank/fetchtorank/index/Postings", "count", "(ILcom/example/fetch_to_rank/fetchtorank/index/HitType;)I"⟩ : MethodName) = true := plainFor_of_name pn_4_
set_option maxRecDepth 65536 in
set_option maxHeartbeats 40000000 in
theorem rm_count (l : Launch) (Z : State) (a0 : Array Value) (hw : ∀ d ∈ tables_1, d.before a0 Z = true) (ws : List Jvm.Cond) (t : Addr) (i : Int32) (ht : Addr) (b : Addr) (kc : ClassId) (k w x0 x1 x2 x3 x4 x5 x6 x7 : Int32) (h0 : Heap) (n0 : Nat) (O0 : Old Z n0 h0) (F_c : Fld Z h0 t "com/example/fetch_to_rank/fetchtorank/index/Postings" "counts" "[I" (.ref b)) (A_c : Arv Z h0 b kc .int (8 : Int32) [(.int x0), (.int x1), (.int x2), (.int x3), (.int x4), (.int x5), (.int x6), (.int x7)] (.int (0 : Int32))) (E_h : Exa Z Z.heap ht "com/example/fetch_to_rank/fetchtorank/index/HitType") (F_o : Fld Z Z.heap ht "java/lang/Enum" "ordinal" "I" (.int k)) (hin : ¬ ((i * (4 : Int32)) + k) < 0 ∧ ((i * (4 : Int32)) + k) < (8 : Int32)) (hat : ([(.int x0), (.int x1), (.int x2), (.int x3), (.int x4), (.int x5), (.int x6), (.int x7)] : List Value).getD ((i * (4 : Int32)) + k).toNatClampNeg (.int (0 : Int32)) = (.int w)) (S_TYPES : Sta Z Z.heap "com/example/fetch_to_rank/fetchtorank/index/Postings" "TYPES" "I" (.int 4)) :
    MetFree l (⟨"com/example/fetch_to_rank/fetchtorank/index/Postings", "count", "(ILcom/example/fetch_to_rank/fetchtorank/index/HitType;)I"⟩ : MethodName) (head1 (Jvm.Cond.code (⟨"com/example/fetch_to_rank/fetchtorank/index/Postings", "count", "(ILcom/example/fetch_to_rank/fetchtorank/index/HitType;)I"⟩ : MethodName) prog_27_method_4_code 3 (some .int) :: ws) ({ frames := 1, cells := 0, slots := 0, locals := 14 } : Room)) (fun args_ U => args_ = #[(.ref t), (.int i), (.ref ht)] ∧ Z.Warmed39 U.vm ∧ U.heap = h0) (fun _ _ _ _ _ => True) (fun _ U o U' => ∃ v L, o = .returned v ∧ (Q_rm_count Z t i ht b kc k w x0 x1 x2 x3 x4 x5 x6 x7 h0 n0) v U'.heap L ∧ FrameEnd U o U' L ({ frames := 1, cells := 0, slots := 0, locals := 14 } : Room).cells ({ frames := 1, cells := 0, slots := 0, locals := 14 } : Room).slots) := by
  refine start (Q := (Q_rm_count Z t i ht b kc k w x0 x1 x2 x3 x4 x5 x6 x7 h0 n0)) pn_4 ?_
  intro p e s m below meth c T0 X0 hx hby hml hown hnm hret hlk hZ e0
  replace hown : s.vm.findClass "com/example/fetch_to_rank/fetchtorank/index/Postings" = some m.cls := hown
  replace hml : c.maxLocals = 3 := hml
  refine goAt (ef_rm_count m t i ht ) ?_
  have N0 := Fr.nil n0
  show Go p e below T0 (mkF m 0 #[.val (.ref t), .val (.int i), .val (.ref ht)] []) _
  refine stp (fun _ => XS.aloadN X0.here hx rfl (hb hby d5_0) rfl rfl) ?_
  show Go p e below T0 (mkF m 1 #[.val (.ref t), .val (.int i), .val (.ref ht)] [(.ref t)]) _
  obtain ⟨T1, X1, e1, st1⟩ := getF X0 hx hZ hown (host := "") (Or.inl (hw _ (List.mem_of_getElem? (i := 29) rfl))) Via.refl e0 F_c (g := (mkF m 1 #[.val (.ref t), .val (.int i), .val (.ref ht)] [(.ref t)])) rfl rfl (hb hby d5_1)
  refine stp st1 ?_
  show Go p e below T1 (mkF m 4 #[.val (.ref t), .val (.int i), .val (.ref ht)] [(.ref b)]) _
  refine stp (fun _ => XS.iloadN X1.here hx rfl (hb hby d5_4) rfl) ?_
  show Go p e below T1 (mkF m 5 #[.val (.ref t), .val (.int i), .val (.ref ht)] [(.int i), (.ref b)]) _
  obtain ⟨T2, X2, e2, st2⟩ := getS2 X1 hx hZ hown (host := "") (Or.inl (hw _ (List.mem_of_getElem? (i := 16) rfl))) Via.refl e1 (S_TYPES.ext O0.2) (g := (mkF m 5 #[.val (.ref t), .val (.int i), .val (.ref ht)] [(.int i), (.ref b)])) rfl (hb hby d5_5)
  refine stp st2 ?_
  show Go p e below T2 (mkF m 8 #[.val (.ref t), .val (.int i), .val (.ref ht)] [(.int (4 : Int32)), (.int i), (.ref b)]) _
  refine stp (fun _ => XS.imul X2.here hx rfl (hb hby d5_8) rfl) ?_
  show Go p e below T2 (mkF m 9 #[.val (.ref t), .val (.int i), .val (.ref ht)] [(.int (i * (4 : Int32))), (.ref b)]) _
  refine stp (fun _ => XS.aloadN X2.here hx rfl (hb hby d5_9) rfl rfl) ?_
  show Go p e below T2 (mkF m 10 #[.val (.ref t), .val (.int i), .val (.ref ht)] [(.ref ht), (.int (i * (4 : Int32))), (.ref b)]) _
  obtain ⟨cq3, kq3, q3a, q3b, q3c⟩ := isOf hZ e2 (E_h.ext O0.2)
  obtain ⟨_, _, ⟨T3, L3, k3, n3⟩, -, X3, ⟨Lc3, hQ3, l3, y3, z3⟩, st3⟩ := X2.virtualBackUp hx (x := (⟨"com/example/fetch_to_rank/fetchtorank/index/HitType", "ordinal", "()I"⟩ : MethodName)) (y := (⟨"java/lang/Enum", "ordinal", "()I"⟩ : MethodName)) (owner := "java/lang/Enum") hown (mvT hZ (hw _ (List.mem_of_getElem? (i := 42) rfl))) (mvT hZ (hw _ (List.mem_of_getElem? (i := 43) rfl))) (mvT hZ (hw _ (List.mem_of_getElem? (i := 44) rfl))) (by decide) (mvT hZ (hw _ (List.mem_of_getElem? (i := 46) rfl))) (mvT hZ (hw _ (List.mem_of_getElem? (i := 45) rfl))) (backOf (W := 2) (rm_ord l Z a0 hw [] ht k h0 n0 O0 F_o) hZ (hw _ (List.mem_of_getElem? (i := 48) rfl)) (hw _ (List.mem_of_getElem? (i := 47) rfl)) (by decide) (by decide)) q3a q3c (g := (mkF m 10 #[.val (.ref t), .val (.int i), .val (.ref ht)] [(.ref ht), (.int (i * (4 : Int32))), (.ref b)])) rfl (by rw [hml]; rfl) (Steps.refl _) (argsL := []) (rest := [(.int (i * (4 : Int32))), (.ref b)]) (lenOf pd_0 rfl) rfl (by show 2 * 0 + _ ≤ _; exact Nat.le_of_eq rfl) (hb hby d5_10) (fun _ _ => ⟨rfl, e2, (by decide : 0 + 0 ≤ _), (by decide : 0 + 0 ≤ _)⟩)
  dsimp only [Pt.U, Pt.locs, Pt.cells, Pt.slots] at X3 l3 y3 z3 st3 hQ3
  subst y3 z3
  obtain ⟨rfl, N3q, e3⟩ := hQ3
  have N3 : Fr n0 L3 := by rw [l3]; exact Fr.app N0 N3q
  refine stt st3 ?_
  show Go p e below T3 (mkF m 13 #[.val (.ref t), .val (.int i), .val (.ref ht)] [(.int k), (.int (i * (4 : Int32))), (.ref b)]) _
  refine stp (fun _ => XS.iadd X3.here hx rfl (hb hby d5_13) rfl) ?_
  show Go p e below T3 (mkF m 14 #[.val (.ref t), .val (.int i), .val (.ref ht)] [(.int ((i * (4 : Int32)) + k)), (.ref b)]) _
  obtain ⟨cl4, Ar4, q4, S4, M4, H4, G4⟩ := (id A_c)
  have in4 : ¬ (((i * (4 : Int32)) + k) < 0 ∨ cl4.slots.size ≤ (((i * (4 : Int32)) + k)).toNatClampNeg) := inb_of S4 hin
  have at4 : cl4.slots[(((i * (4 : Int32)) + k)).toNatClampNeg]? = some (.int w) := H4.at in4 hat
  refine stp (fun _ => X3.iaload hx (j := ((i * (4 : Int32)) + k)) (v := (.int w)) (by rw [e3]; exact Ar4.1) (State.isArrayOf_alike hZ.alike Ar4.2.1) Ar4.2.2 in4 at4 (g := (mkF m 14 #[.val (.ref t), .val (.int i), .val (.ref ht)] [(.int ((i * (4 : Int32)) + k)), (.ref b)])) rfl rfl (hb hby d5_14) _) ?_
  show Go p e below T3 (mkF m 15 #[.val (.ref t), .val (.int i), .val (.ref ht)] [(.int w)]) _
  refine outI X3 hx hret (hb hby d5_15) hlk (by decide) (by decide) ?_
  exact ⟨rfl, N3, e3⟩
theorem pd_1 : parseMethodDescriptor "(JI)I" = some ⟨[.long, .int], some .int⟩ := by decide +kernel
theorem pd_2 : parseMethodDescriptor "([I[I)V" = some ⟨[(.array .int), (.array .int)], none⟩ := by decide +kernel
theorem pd_3 : parseMethodDescriptor "(I)Lcom/example/fetch_to_rank/fetchtorank/index/HitType;" = some ⟨[.int], some (.object "com/example/fetch_to_rank/fetchtorank/index/HitType")⟩ := by decide +kernel
theorem pd_4 : parseMethodDescriptor "(ILcom/example/fetch_to_rank/fetchtorank/index/HitType;)I" = some ⟨[.int, (.object "com/example/fetch_to_rank/fetchtorank/index/HitType")], some .int⟩ := by decide +kernel
theorem ef_rm0 (m : MethodId) (q0 : Int64) (q1 : Int64) (p2 : Int32) (p3 : Int32)  : entryFrame m #[(.long q0), (.long q1), (.int p2), (.int p3)] maxLocals = mkF m 0 #[.val (.long q0), .second, .val (.long q1), .second, .val (.int p2), .val (.int p3), .unset, .unset, .unset, .unset, .unset, .unset, .unset, .unset, .unset, .unset] [] := by first | (simp [entryFrame, mkF, argsToLocals, Value.category, maxLocals]; done) | rfl
def Q_rm0 (Z : State) (q0 : Int64) (q1 : Int64) (p2 : Int32) (p3 : Int32) (title anchor url plain : Addr) (h0 : Heap) (n0 : Nat) (v : Option Value) (h : Heap) (L : List Loc) : Prop := v = some (.int 1) ∧ Fr n0 L
theorem pn_5_ : plainName "com/example/fetch_to_rank/fetchtorank/index/PostingsCountPinLaw" = true := by first | (simp [plainName, overriddenIn]; done) | decide +kernel
theorem pn_5 : plainFor (⟨"com/example/fetch_to_rank/fetchtorank/index/PostingsCountPinLaw", "law", "(JJII)Z"⟩ : MethodName) = true := plainFor_of_name pn_5_
set_option maxRecDepth 65536 in
set_option maxHeartbeats 40000000 in
theorem rm0 (l : Launch) (Z : State) (a0 : Array Value) (hw : ∀ d ∈ tables_1, d.before a0 Z = true) (ws : List Jvm.Cond) (q0 : Int64) (q1 : Int64) (p2 : Int32) (p3 : Int32) (title anchor url plain : Addr) (h0 : Heap) (n0 : Nat) (O0 : Old Z n0 h0) (S_TYPES : Sta Z Z.heap "com/example/fetch_to_rank/fetchtorank/index/Postings" "TYPES" "I" (.int 4)) (S_TITLE : Sta Z Z.heap "com/example/fetch_to_rank/fetchtorank/index/HitType" "TITLE" "Lcom/example/fetch_to_rank/fetchtorank/index/HitType;" (.ref title)) (E_TITLE : Exa Z Z.heap title "com/example/fetch_to_rank/fetchtorank/index/HitType") (F_TITLE : Fld Z Z.heap title "java/lang/Enum" "ordinal" "I" (.int 0)) (S_ANCHOR : Sta Z Z.heap "com/example/fetch_to_rank/fetchtorank/index/HitType" "ANCHOR" "Lcom/example/fetch_to_rank/fetchtorank/index/HitType;" (.ref anchor)) (E_ANCHOR : Exa Z Z.heap anchor "com/example/fetch_to_rank/fetchtorank/index/HitType") (F_ANCHOR : Fld Z Z.heap anchor "java/lang/Enum" "ordinal" "I" (.int 1)) (S_URL : Sta Z Z.heap "com/example/fetch_to_rank/fetchtorank/index/HitType" "URL" "Lcom/example/fetch_to_rank/fetchtorank/index/HitType;" (.ref url)) (E_URL : Exa Z Z.heap url "com/example/fetch_to_rank/fetchtorank/index/HitType") (F_URL : Fld Z Z.heap url "java/lang/Enum" "ordinal" "I" (.int 2)) (S_PLAIN : Sta Z Z.heap "com/example/fetch_to_rank/fetchtorank/index/HitType" "PLAIN" "Lcom/example/fetch_to_rank/fetchtorank/index/HitType;" (.ref plain)) (E_PLAIN : Exa Z Z.heap plain "com/example/fetch_to_rank/fetchtorank/index/HitType") (F_PLAIN : Fld Z Z.heap plain "java/lang/Enum" "ordinal" "I" (.int 3)) :
    MetFree l x (head1 (Jvm.Cond.code x code maxLocals ret :: ws) room_1) (fun args_ U => args_ = #[(.long q0), (.long q1), (.int p2), (.int p3)] ∧ Z.Warmed39 U.vm ∧ U.heap = h0) (fun _ _ _ _ _ => True) (fun _ U o U' => ∃ v L, o = .returned v ∧ (Q_rm0 Z q0 q1 p2 p3 title anchor url plain h0 n0) v U'.heap L ∧ FrameEnd U o U' L 5 22) := by
  refine start (Q := (Q_rm0 Z q0 q1 p2 p3 title anchor url plain h0 n0)) (show plainFor x = true from pn_5) ?_
  intro p e s m below meth c T0 X0 hx hby hml hown hnm hret hlk hZ e0
  replace hown : s.vm.findClass "com/example/fetch_to_rank/fetchtorank/index/PostingsCountPinLaw" = some m.cls := hown
  replace hml : c.maxLocals = 16 := hml
  refine goAt (ef_rm0 m q0 q1 p2 p3 ) ?_
  have N0 := Fr.nil n0
  show Go p e below T0 (mkF m 0 #[.val (.long q0), .second, .val (.long q1), .second, .val (.int p2), .val (.int p3), .unset, .unset, .unset, .unset, .unset, .unset, .unset, .unset, .unset, .unset] []) _
  refine stp (fun _ => XS.iload X0.here hx rfl (hb hby at_0) rfl) ?_
  show Go p e below T0 (mkF m 2 #[.val (.long q0), .second, .val (.long q1), .second, .val (.int p2), .val (.int p3), .unset, .unset, .unset, .unset, .unset, .unset, .unset, .unset, .unset, .unset] [(.int p3)]) _
  refine stp (fun _ => X0.ldcInt hx hown (mvT hZ (hw _ (List.mem_of_getElem? (i := 0) rfl))) (g := (mkF m 2 #[.val (.long q0), .second, .val (.long q1), .second, .val (.int p2), .val (.int p3), .unset, .unset, .unset, .unset, .unset, .unset, .unset, .unset, .unset, .unset] [(.int p3)])) rfl (hb hby at_2) _) ?_
  show Go p e below T0 (mkF m 4 #[.val (.long q0), .second, .val (.long q1), .second, .val (.int p2), .val (.int p3), .unset, .unset, .unset, .unset, .unset, .unset, .unset, .unset, .unset, .unset] [(.int (1073741823 : Int32)), (.int p3)]) _
  refine stp (fun _ => XS.iand X0.here hx rfl (hb hby at_4) rfl) ?_
  show Go p e below T0 (mkF m 5 #[.val (.long q0), .second, .val (.long q1), .second, .val (.int p2), .val (.int p3), .unset, .unset, .unset, .unset, .unset, .unset, .unset, .unset, .unset, .unset] [(.int (p3 &&& (1073741823 : Int32)))]) _
  refine stp (fun _ => XS.istore X0.here hx rfl (hb hby at_5) rfl (l' := #[.val (.long q0), .second, .val (.long q1), .second, .val (.int p2), .val (.int p3), .val (.int (p3 &&& (1073741823 : Int32))), .unset, .unset, .unset, .unset, .unset, .unset, .unset, .unset, .unset]) rfl) ?_
  show Go p e below T0 (mkF m 7 #[.val (.long q0), .second, .val (.long q1), .second, .val (.int p2), .val (.int p3), .val (.int (p3 &&& (1073741823 : Int32))), .unset, .unset, .unset, .unset, .unset, .unset, .unset, .unset, .unset] []) _
  refine stp (fun _ => XS.iconst X0.here hx rfl (hb hby at_7)) ?_
  show Go p e below T0 (mkF m 8 #[.val (.long q0), .second, .val (.long q1), .second, .val (.int p2), .val (.int p3), .val (.int (p3 &&& (1073741823 : Int32))), .unset, .unset, .unset, .unset, .unset, .unset, .unset, .unset, .unset] [(.int (2 : Int32))]) _
  obtain ⟨T1, h1, k1, X1, e1, E1, A1, B1, st1⟩ := newPE X0 hx hZ (hw _ (List.mem_of_getElem? (i := 1) rfl)) e0 (g := (mkF m 8 #[.val (.long q0), .second, .val (.long q1), .second, .val (.int p2), .val (.int p3), .val (.int (p3 &&& (1073741823 : Int32))), .unset, .unset, .unset, .unset, .unset, .unset, .unset, .unset, .unset] [(.int (2 : Int32))])) rfl (hb hby at_8) rfl (by decide) (cap := 2) (by decide) (by decide) (by decide) (by decide) (ad := "[I") (by decide)
  obtain ⟨b1, g1⟩ : ∃ z, z = h0.size := ⟨_, rfl⟩
  rw [← g1] at A1 B1 st1
  have sz_b1 : h0.size ≤ b1 := Nat.le_trans (Keep.refl h0 []).1 (Nat.le_of_eq g1.symm)
  have ge_b1 : n0 ≤ b1 := Nat.le_trans (old_le O0) (Nat.le_of_eq g1.symm)
  have K1 : Keep h0 h1 [] := (Keep.refl h0 []).ext E1
  have O1 := O0.ext E1
  have V1 : Arv Z h1 b1 k1 .int (2 : Int32) [(.int (0 : Int32)), (.int (0 : Int32))] (.int (0 : Int32)) := (Arv.new A1 (by decide)).pad (pad_rep [] (.int (0 : Int32)) 2)
  refine stp st1 ?_
  show Go p e below T1 (mkF m 10 #[.val (.long q0), .second, .val (.long q1), .second, .val (.int p2), .val (.int p3), .val (.int (p3 &&& (1073741823 : Int32))), .unset, .unset, .unset, .unset, .unset, .unset, .unset, .unset, .unset] [(.ref b1)]) _
  refine stp (fun _ => XS.dup X1.here hx rfl (hb hby at_10) rfl rfl) ?_
  show Go p e below T1 (mkF m 11 #[.val (.long q0), .second, .val (.long q1), .second, .val (.int p2), .val (.int p3), .val (.int (p3 &&& (1073741823 : Int32))), .unset, .unset, .unset, .unset, .unset, .unset, .unset, .unset, .unset] [(.ref b1), (.ref b1)]) _
  refine stp (fun _ => XS.iconst X1.here hx rfl (hb hby at_11)) ?_
  show Go p e below T1 (mkF m 12 #[.val (.long q0), .second, .val (.long q1), .second, .val (.int p2), .val (.int p3), .val (.int (p3 &&& (1073741823 : Int32))), .unset, .unset, .unset, .unset, .unset, .unset, .unset, .unset, .unset] [(.int (0 : Int32)), (.ref b1), (.ref b1)]) _
  refine stp (fun _ => XS.iload X1.here hx rfl (hb hby at_12) rfl) ?_
  show Go p e below T1 (mkF m 14 #[.val (.long q0), .second, .val (.long q1), .second, .val (.int p2), .val (.int p3), .val (.int (p3 &&& (1073741823 : Int32))), .unset, .unset, .unset, .unset, .unset, .unset, .unset, .unset, .unset] [(.int (p3 &&& (1073741823 : Int32))), (.int (0 : Int32)), (.ref b1), (.ref b1)]) _
  obtain ⟨cl2, Ar2, q2, S2, M2, H2, G2⟩ := (id V1)
  have in2 : ¬ ((0 : Int32) < 0 ∨ cl2.slots.size ≤ ((0 : Int32)).toNatClampNeg) := inb_of S2 ⟨by decide, by decide⟩
  obtain ⟨T2, h2, X2, e2, W2, st2⟩ := stI X1 hx hZ e1 Ar2 (j := (0 : Int32)) in2 (g := (mkF m 14 #[.val (.long q0), .second, .val (.long q1), .second, .val (.int p2), .val (.int p3), .val (.int (p3 &&& (1073741823 : Int32))), .unset, .unset, .unset, .unset, .unset, .unset, .unset, .unset, .unset] [(.int (p3 &&& (1073741823 : Int32))), (.int (0 : Int32)), (.ref b1), (.ref b1)])) rfl rfl (hb hby at_14)
  have V2 : Arv Z h2 b1 k1 .int (2 : Int32) [(.int (p3 &&& (1073741823 : Int32))), (.int (0 : Int32))] (.int (0 : Int32)) := Arv.set Ar2 q2 S2 M2 H2 G2 rfl W2 0 rfl (Nat.le_of_ble_eq_true rfl)
  have f3 := B1.wr W2
  have K2 : Keep h0 h2 [] := K1.wr W2 (Or.inr sz_b1)
  have O2 := O1.wr W2 ge_b1
  have N2 := Fr.snoc X2 N0 ge_b1
  refine stp st2 ?_
  show Go p e below T2 (mkF m 15 #[.val (.long q0), .second, .val (.long q1), .second, .val (.int p2), .val (.int p3), .val (.int (p3 &&& (1073741823 : Int32))), .unset, .unset, .unset, .unset, .unset, .unset, .unset, .unset, .unset] [(.ref b1)]) _
  refine stp (fun _ => XS.dup X2.here hx rfl (hb hby at_15) rfl rfl) ?_
  show Go p e below T2 (mkF m 16 #[.val (.long q0), .second, .val (.long q1), .second, .val (.int p2), .val (.int p3), .val (.int (p3 &&& (1073741823 : Int32))), .unset, .unset, .unset, .unset, .unset, .unset, .unset, .unset, .unset] [(.ref b1), (.ref b1)]) _
  refine stp (fun _ => XS.iconst X2.here hx rfl (hb hby at_16)) ?_
  show Go p e below T2 (mkF m 17 #[.val (.long q0), .second, .val (.long q1), .second, .val (.int p2), .val (.int p3), .val (.int (p3 &&& (1073741823 : Int32))), .unset, .unset, .unset, .unset, .unset, .unset, .unset, .unset, .unset] [(.int (1 : Int32)), (.ref b1), (.ref b1)]) _
  refine stp (fun _ => XS.iload X2.here hx rfl (hb hby at_17) rfl) ?_
  show Go p e below T2 (mkF m 19 #[.val (.long q0), .second, .val (.long q1), .second, .val (.int p2), .val (.int p3), .val (.int (p3 &&& (1073741823 : Int32))), .unset, .unset, .unset, .unset, .unset, .unset, .unset, .unset, .unset] [(.int (p3 &&& (1073741823 : Int32))), (.int (1 : Int32)), (.ref b1), (.ref b1)]) _
  refine stp (fun _ => XS.iconst X2.here hx rfl (hb hby at_19)) ?_
  show Go p e below T2 (mkF m 20 #[.val (.long q0), .second, .val (.long q1), .second, .val (.int p2), .val (.int p3), .val (.int (p3 &&& (1073741823 : Int32))), .unset, .unset, .unset, .unset, .unset, .unset, .unset, .unset, .unset] [(.int (1 : Int32)), (.int (p3 &&& (1073741823 : Int32))), (.int (1 : Int32)), (.ref b1), (.ref b1)]) _
  refine stp (fun _ => XS.iadd X2.here hx rfl (hb hby at_20) rfl) ?_
  show Go p e below T2 (mkF m 21 #[.val (.long q0), .second, .val (.long q1), .second, .val (.int p2), .val (.int p3), .val (.int (p3 &&& (1073741823 : Int32))), .unset, .unset, .unset, .unset, .unset, .unset, .unset, .unset, .unset] [(.int ((p3 &&& (1073741823 : Int32)) + (1 : Int32))), (.int (1 : Int32)), (.ref b1), (.ref b1)]) _
  obtain ⟨cl5, Ar5, q5, S5, M5, H5, G5⟩ := (id V2)
  have in5 : ¬ ((1 : Int32) < 0 ∨ cl5.slots.size ≤ ((1 : Int32)).toNatClampNeg) := inb_of S5 ⟨by decide, by decide⟩
  obtain ⟨T5, h5, X5, e5, W5, st5⟩ := stI X2 hx hZ e2 Ar5 (j := (1 : Int32)) in5 (g := (mkF m 21 #[.val (.long q0), .second, .val (.long q1), .second, .val (.int p2), .val (.int p3), .val (.int (p3 &&& (1073741823 : Int32))), .unset, .unset, .unset, .unset, .unset, .unset, .unset, .unset, .unset] [(.int ((p3 &&& (1073741823 : Int32)) + (1 : Int32))), (.int (1 : Int32)), (.ref b1), (.ref b1)])) rfl rfl (hb hby at_21)
  have V5 : Arv Z h5 b1 k1 .int (2 : Int32) [(.int (p3 &&& (1073741823 : Int32))), (.int ((p3 &&& (1073741823 : Int32)) + (1 : Int32)))] (.int (0 : Int32)) := Arv.set Ar5 q5 S5 M5 H5 G5 rfl W5 1 rfl (Nat.le_of_ble_eq_true rfl)
  have f6 := f3.wr W5
  have K5 : Keep h0 h5 [] := K2.wr W5 (Or.inr sz_b1)
  have O5 := O2.wr W5 ge_b1
  have N5 := Fr.snoc X5 N2 ge_b1
  refine stp st5 ?_
  show Go p e below T5 (mkF m 22 #[.val (.long q0), .second, .val (.long q1), .second, .val (.int p2), .val (.int p3), .val (.int (p3 &&& (1073741823 : Int32))), .unset, .unset, .unset, .unset, .unset, .unset, .unset, .unset, .unset] [(.ref b1)]) _
  refine stp (fun _ => XS.astore X5.here hx rfl (hb hby at_22) rfl rfl (l' := #[.val (.long q0), .second, .val (.long q1), .second, .val (.int p2), .val (.int p3), .val (.int (p3 &&& (1073741823 : Int32))), .val (.ref b1), .unset, .unset, .unset, .unset, .unset, .unset, .unset, .unset]) rfl) ?_
  show Go p e below T5 (mkF m 24 #[.val (.long q0), .second, .val (.long q1), .second, .val (.int p2), .val (.int p3), .val (.int (p3 &&& (1073741823 : Int32))), .val (.ref b1), .unset, .unset, .unset, .unset, .unset, .unset, .unset, .unset] []) _
  refine stp (fun _ => XS.bipush X5.here hx rfl (hb hby at_24)) ?_
  show Go p e below T5 (mkF m 26 #[.val (.long q0), .second, .val (.long q1), .second, .val (.int p2), .val (.int p3), .val (.int (p3 &&& (1073741823 : Int32))), .val (.ref b1), .unset, .unset, .unset, .unset, .unset, .unset, .unset, .unset] [(.int (8 : Int32))]) _
  obtain ⟨T8, h8, k8, X8, e8, E8, A8, B8, st8⟩ := newPE X5 hx hZ (hw _ (List.mem_of_getElem? (i := 1) rfl)) e5 (g := (mkF m 26 #[.val (.long q0), .second, .val (.long q1), .second, .val (.int p2), .val (.int p3), .val (.int (p3 &&& (1073741823 : Int32))), .val (.ref b1), .unset, .unset, .unset, .unset, .unset, .unset, .unset, .unset] [(.int (8 : Int32))])) rfl (hb hby at_26) rfl (by decide) (cap := 8) (by decide) (by decide) (by decide) (by decide) (ad := "[I") (by decide)
  obtain ⟨b8, g8⟩ : ∃ z, z = h5.size := ⟨_, rfl⟩
  rw [← g8] at A8 B8 st8
  have ne9 : b1 ≠ b8 := Nat.ne_of_lt (Nat.lt_of_lt_of_le f6.lt (Nat.le_of_eq g8.symm))
  have sz_b8 : h0.size ≤ b8 := Nat.le_trans K5.1 (Nat.le_of_eq g8.symm)
  have ge_b8 : n0 ≤ b8 := Nat.le_trans (old_le O5) (Nat.le_of_eq g8.symm)
  have f10 := f6.ext E8
  have f11 := V5.ext E8
  have K8 : Keep h0 h8 [] := K5.ext E8
  have O8 := O5.ext E8
  have V8 : Arv Z h8 b8 k8 .int (8 : Int32) [(.int (0 : Int32)), (.int (0 : Int32)), (.int (0 : Int32)), (.int (0 : Int32)), (.int (0 : Int32)), (.int (0 : Int32)), (.int (0 : Int32)), (.int (0 : Int32))] (.int (0 : Int32)) := (Arv.new A8 (by decide)).pad (pad_rep [] (.int (0 : Int32)) 8)
  refine stp st8 ?_
  show Go p e below T8 (mkF m 28 #[.val (.long q0), .second, .val (.long q1), .second, .val (.int p2), .val (.int p3), .val (.int (p3 &&& (1073741823 : Int32))), .val (.ref b1), .unset, .unset, .unset, .unset, .unset, .unset, .unset, .unset] [(.ref b8)]) _
  refine stp (fun _ => XS.astore X8.here hx rfl (hb hby at_28) rfl rfl (l' := #[.val (.long q0), .second, .val (.long q1), .second, .val (.int p2), .val (.int p3), .val (.int (p3 &&& (1073741823 : Int32))), .val (.ref b1), .val (.ref b8), .unset, .unset, .unset, .unset, .unset, .unset, .unset]) rfl) ?_
  show Go p e below T8 (mkF m 30 #[.val (.long q0), .second, .val (.long q1), .second, .val (.int p2), .val (.int p3), .val (.int (p3 &&& (1073741823 : Int32))), .val (.ref b1), .val (.ref b8), .unset, .unset, .unset, .unset, .unset, .unset, .unset] []) _
  refine stp (fun _ => XS.aload X8.here hx rfl (hb hby at_30) rfl rfl) ?_
  show Go p e below T8 (mkF m 32 #[.val (.long q0), .second, .val (.long q1), .second, .val (.int p2), .val (.int p3), .val (.int (p3 &&& (1073741823 : Int32))), .val (.ref b1), .val (.ref b8), .unset, .unset, .unset, .unset, .unset, .unset, .unset] [(.ref b8)]) _
  refine stp (fun _ => XS.iconst X8.here hx rfl (hb hby at_32)) ?_
  show Go p e below T8 (mkF m 33 #[.val (.long q0), .second, .val (.long q1), .second, .val (.int p2), .val (.int p3), .val (.int (p3 &&& (1073741823 : Int32))), .val (.ref b1), .val (.ref b8), .unset, .unset, .unset, .unset, .unset, .unset, .unset] [(.int (0 : Int32)), (.ref b8)]) _
  refine stp (fun _ => XS.lloadN X8.here hx rfl (hb hby at_33) rfl) ?_
  show Go p e below T8 (mkF m 34 #[.val (.long q0), .second, .val (.long q1), .second, .val (.int p2), .val (.int p3), .val (.int (p3 &&& (1073741823 : Int32))), .val (.ref b1), .val (.ref b8), .unset, .unset, .unset, .unset, .unset, .unset, .unset] [(.long q0), (.int (0 : Int32)), (.ref b8)]) _
  refine stp (fun _ => XS.iconst X8.here hx rfl (hb hby at_34)) ?_
  show Go p e below T8 (mkF m 35 #[.val (.long q0), .second, .val (.long q1), .second, .val (.int p2), .val (.int p3), .val (.int (p3 &&& (1073741823 : Int32))), .val (.ref b1), .val (.ref b8), .unset, .unset, .unset, .unset, .unset, .unset, .unset] [(.int (0 : Int32)), (.long q0), (.int (0 : Int32)), (.ref b8)]) _
  obtain ⟨_, _, ⟨T12, L12, k12, n12⟩, -, X12, ⟨Lc12, hQ12, l12, y12, z12⟩, st12⟩ := Jvm.LawKit.callS X8 hx (y := (⟨"com/example/fetch_to_rank/fetchtorank/index/PostingsCountPinLaw", "chunk", "(JI)I"⟩ : MethodName)) hown (mvT hZ (hw _ (List.mem_of_getElem? (i := 2) rfl))) (mvT hZ (hw _ (List.mem_of_getElem? (i := 3) rfl))) (mvT hZ (hw _ (List.mem_of_getElem? (i := 4) rfl))) (mvT hZ (hw _ (List.mem_of_getElem? (i := 5) rfl))) (by decide) (backOf (W := 2) (rm_chunk l Z a0 hw [] q0 (0 : Int32) h8 n0 O8 ) hZ (hw _ (List.mem_of_getElem? (i := 5) rfl)) (hw _ (List.mem_of_getElem? (i := 4) rfl)) (by decide) (by decide)) (g := (mkF m 35 #[.val (.long q0), .second, .val (.long q1), .second, .val (.int p2), .val (.int p3), .val (.int (p3 &&& (1073741823 : Int32))), .val (.ref b1), .val (.ref b8), .unset, .unset, .unset, .unset, .unset, .unset, .unset] [(.int (0 : Int32)), (.long q0), (.int (0 : Int32)), (.ref b8)])) rfl (by rw [hml]; rfl) (argsL := [(.long q0), (.int (0 : Int32))]) (rest := [(.int (0 : Int32)), (.ref b8)]) (lenOf pd_1 rfl) rfl (by show 2 * 0 + _ ≤ _; exact Nat.le_of_eq rfl) (hb hby at_35) (fun _ _ => ⟨rfl, e8, (by decide : 2 + 0 ≤ _), (by decide : 10 + 0 ≤ _)⟩)
  dsimp only [Pt.U, Pt.locs, Pt.cells, Pt.slots] at X12 l12 y12 z12 st12 hQ12
  subst y12 z12
  obtain ⟨rfl, N12q, e12⟩ := hQ12
  have N12 : Fr n0 L12 := by rw [l12]; exact Fr.app N5 N12q
  refine stp st12 ?_
  show Go p e below T12 (mkF m 38 #[.val (.long q0), .second, .val (.long q1), .second, .val (.int p2), .val (.int p3), .val (.int (p3 &&& (1073741823 : Int32))), .val (.ref b1), .val (.ref b8), .unset, .unset, .unset, .unset, .unset, .unset, .unset] [(.int (own_chunk q0 (0 : Int32))), (.int (0 : Int32)), (.ref b8)]) _
  obtain ⟨cl13, Ar13, q13, S13, M13, H13, G13⟩ := (id V8)
  have in13 : ¬ ((0 : Int32) < 0 ∨ cl13.slots.size ≤ ((0 : Int32)).toNatClampNeg) := inb_of S13 ⟨by decide, by decide⟩
  obtain ⟨T13, h13, X13, e13, W13, st13⟩ := stI X12 hx hZ e12 Ar13 (j := (0 : Int32)) in13 (g := (mkF m 38 #[.val (.long q0), .second, .val (.long q1), .second, .val (.int p2), .val (.int p3), .val (.int (p3 &&& (1073741823 : Int32))), .val (.ref b1), .val (.ref b8), .unset, .unset, .unset, .unset, .unset, .unset, .unset] [(.int (own_chunk q0 (0 : Int32))), (.int (0 : Int32)), (.ref b8)])) rfl rfl (hb hby at_38)
  have V13 : Arv Z h13 b8 k8 .int (8 : Int32) [(.int (own_chunk q0 (0 : Int32))), (.int (0 : Int32)), (.int (0 : Int32)), (.int (0 : Int32)), (.int (0 : Int32)), (.int (0 : Int32)), (.int (0 : Int32)), (.int (0 : Int32))] (.int (0 : Int32)) := Arv.set Ar13 q13 S13 M13 H13 G13 rfl W13 0 rfl (Nat.le_of_ble_eq_true rfl)
  have f14 := f10.wr W13
  have f15 := f11.other W13 ne9
  have f16 := B8.wr W13
  have K13 : Keep h0 h13 [] := K8.wr W13 (Or.inr sz_b8)
  have O13 := O8.wr W13 ge_b8
  have N13 := Fr.snoc X13 N12 ge_b8
  refine stp st13 ?_
  show Go p e below T13 (mkF m 39 #[.val (.long q0), .second, .val (.long q1), .second, .val (.int p2), .val (.int p3), .val (.int (p3 &&& (1073741823 : Int32))), .val (.ref b1), .val (.ref b8), .unset, .unset, .unset, .unset, .unset, .unset, .unset] []) _
  refine stp (fun _ => XS.aload X13.here hx rfl (hb hby at_39) rfl rfl) ?_
  show Go p e below T13 (mkF m 41 #[.val (.long q0), .second, .val (.long q1), .second, .val (.int p2), .val (.int p3), .val (.int (p3 &&& (1073741823 : Int32))), .val (.ref b1), .val (.ref b8), .unset, .unset, .unset, .unset, .unset, .unset, .unset] [(.ref b8)]) _
  refine stp (fun _ => XS.iconst X13.here hx rfl (hb hby at_41)) ?_
  show Go p e below T13 (mkF m 42 #[.val (.long q0), .second, .val (.long q1), .second, .val (.int p2), .val (.int p3), .val (.int (p3 &&& (1073741823 : Int32))), .val (.ref b1), .val (.ref b8), .unset, .unset, .unset, .unset, .unset, .unset, .unset] [(.int (1 : Int32)), (.ref b8)]) _
  refine stp (fun _ => XS.lloadN X13.here hx rfl (hb hby at_42) rfl) ?_
  show Go p e below T13 (mkF m 43 #[.val (.long q0), .second, .val (.long q1), .second, .val (.int p2), .val (.int p3), .val (.int (p3 &&& (1073741823 : Int32))), .val (.ref b1), .val (.ref b8), .unset, .unset, .unset, .unset, .unset, .unset, .unset] [(.long q0), (.int (1 : Int32)), (.ref b8)]) _
  refine stp (fun _ => XS.iconst X13.here hx rfl (hb hby at_43)) ?_
  show Go p e below T13 (mkF m 44 #[.val (.long q0), .second, .val (.long q1), .second, .val (.int p2), .val (.int p3), .val (.int (p3 &&& (1073741823 : Int32))), .val (.ref b1), .val (.ref b8), .unset, .unset, .unset, .unset, .unset, .unset, .unset] [(.int (1 : Int32)), (.long q0), (.int (1 : Int32)), (.ref b8)]) _
  obtain ⟨_, _, ⟨T18, L18, k18, n18⟩, -, X18, ⟨Lc18, hQ18, l18, y18, z18⟩, st18⟩ := Jvm.LawKit.callS X13 hx (y := (⟨"com/example/fetch_to_rank/fetchtorank/index/PostingsCountPinLaw", "chunk", "(JI)I"⟩ : MethodName)) hown (mvT hZ (hw _ (List.mem_of_getElem? (i := 2) rfl))) (mvT hZ (hw _ (List.mem_of_getElem? (i := 3) rfl))) (mvT hZ (hw _ (List.mem_of_getElem? (i := 4) rfl))) (mvT hZ (hw _ (List.mem_of_getElem? (i := 5) rfl))) (by decide) (backOf (W := 2) (rm_chunk l Z a0 hw [] q0 (1 : Int32) h13 n0 O13 ) hZ (hw _ (List.mem_of_getElem? (i := 5) rfl)) (hw _ (List.mem_of_getElem? (i := 4) rfl)) (by decide) (by decide)) (g := (mkF m 44 #[.val (.long q0), .second, .val (.long q1), .second, .val (.int p2), .val (.int p3), .val (.int (p3 &&& (1073741823 : Int32))), .val (.ref b1), .val (.ref b8), .unset, .unset, .unset, .unset, .unset, .unset, .unset] [(.int (1 : Int32)), (.long q0), (.int (1 : Int32)), (.ref b8)])) rfl (by rw [hml]; rfl) (argsL := [(.long q0), (.int (1 : Int32))]) (rest := [(.int (1 : Int32)), (.ref b8)]) (lenOf pd_1 rfl) rfl (by show 2 * 0 + _ ≤ _; exact Nat.le_of_eq rfl) (hb hby at_44) (fun _ _ => ⟨rfl, e13, (by decide : 2 + 0 ≤ _), (by decide : 10 + 0 ≤ _)⟩)
  dsimp only [Pt.U, Pt.locs, Pt.cells, Pt.slots] at X18 l18 y18 z18 st18 hQ18
  subst y18 z18
  obtain ⟨rfl, N18q, e18⟩ := hQ18
  have N18 : Fr n0 L18 := by rw [l18]; exact Fr.app N13 N18q
  refine stp st18 ?_
  show Go p e below T18 (mkF m 47 #[.val (.long q0), .second, .val (.long q1), .second, .val (.int p2), .val (.int p3), .val (.int (p3 &&& (1073741823 : Int32))), .val (.ref b1), .val (.ref b8), .unset, .unset, .unset, .unset, .unset, .unset, .unset] [(.int (own_chunk q0 (1 : Int32))), (.int (1 : Int32)), (.ref b8)]) _
  obtain ⟨cl19, Ar19, q19, S19, M19, H19, G19⟩ := (id V13)
  have in19 : ¬ ((1 : Int32) < 0 ∨ cl19.slots.size ≤ ((1 : Int32)).toNatClampNeg) := inb_of S19 ⟨by decide, by decide⟩
  obtain ⟨T19, h19, X19, e19, W19, st19⟩ := stI X18 hx hZ e18 Ar19 (j := (1 : Int32)) in19 (g := (mkF m 47 #[.val (.long q0), .second, .val (.long q1), .second, .val (.int p2), .val (.int p3), .val (.int (p3 &&& (1073741823 : Int32))), .val (.ref b1), .val (.ref b8), .unset, .unset, .unset, .unset, .unset, .unset, .unset] [(.int (own_chunk q0 (1 : Int32))), (.int (1 : Int32)), (.ref b8)])) rfl rfl (hb hby at_47)
  have V19 : Arv Z h19 b8 k8 .int (8 : Int32) [(.int (own_chunk q0 (0 : Int32))), (.int (own_chunk q0 (1 : Int32))), (.int (0 : Int32)), (.int (0 : Int32)), (.int (0 : Int32)), (.int (0 : Int32)), (.int (0 : Int32)), (.int (0 : Int32))] (.int (0 : Int32)) := Arv.set Ar19 q19 S19 M19 H19 G19 rfl W19 1 rfl (Nat.le_of_ble_eq_true rfl)
  have f20 := f14.wr W19
  have f21 := f15.other W19 ne9
  have f22 := f16.wr W19
  have K19 : Keep h0 h19 [] := K13.wr W19 (Or.inr sz_b8)
  have O19 := O13.wr W19 ge_b8
  have N19 := Fr.snoc X19 N18 ge_b8
  refine stp st19 ?_
  show Go p e below T19 (mkF m 48 #[.val (.long q0), .second, .val (.long q1), .second, .val (.int p2), .val (.int p3), .val (.int (p3 &&& (1073741823 : Int32))), .val (.ref b1), .val (.ref b8), .unset, .unset, .unset, .unset, .unset, .unset, .unset] []) _
  refine stp (fun _ => XS.aload X19.here hx rfl (hb hby at_48) rfl rfl) ?_
  show Go p e below T19 (mkF m 50 #[.val (.long q0), .second, .val (.long q1), .second, .val (.int p2), .val (.int p3), .val (.int (p3 &&& (1073741823 : Int32))), .val (.ref b1), .val (.ref b8), .unset, .unset, .unset, .unset, .unset, .unset, .unset] [(.ref b8)]) _
  refine stp (fun _ => XS.iconst X19.here hx rfl (hb hby at_50)) ?_
  show Go p e below T19 (mkF m 51 #[.val (.long q0), .second, .val (.long q1), .second, .val (.int p2), .val (.int p3), .val (.int (p3 &&& (1073741823 : Int32))), .val (.ref b1), .val (.ref b8), .unset, .unset, .unset, .unset, .unset, .unset, .unset] [(.int (2 : Int32)), (.ref b8)]) _
  refine stp (fun _ => XS.lloadN X19.here hx rfl (hb hby at_51) rfl) ?_
  show Go p e below T19 (mkF m 52 #[.val (.long q0), .second, .val (.long q1), .second, .val (.int p2), .val (.int p3), .val (.int (p3 &&& (1073741823 : Int32))), .val (.ref b1), .val (.ref b8), .unset, .unset, .unset, .unset, .unset, .unset, .unset] [(.long q0), (.int (2 : Int32)), (.ref b8)]) _
  refine stp (fun _ => XS.iconst X19.here hx rfl (hb hby at_52)) ?_
  show Go p e below T19 (mkF m 53 #[.val (.long q0), .second, .val (.long q1), .second, .val (.int p2), .val (.int p3), .val (.int (p3 &&& (1073741823 : Int32))), .val (.ref b1), .val (.ref b8), .unset, .unset, .unset, .unset, .unset, .unset, .unset] [(.int (2 : Int32)), (.long q0), (.int (2 : Int32)), (.ref b8)]) _
  obtain ⟨_, _, ⟨T24, L24, k24, n24⟩, -, X24, ⟨Lc24, hQ24, l24, y24, z24⟩, st24⟩ := Jvm.LawKit.callS X19 hx (y := (⟨"com/example/fetch_to_rank/fetchtorank/index/PostingsCountPinLaw", "chunk", "(JI)I"⟩ : MethodName)) hown (mvT hZ (hw _ (List.mem_of_getElem? (i := 2) rfl))) (mvT hZ (hw _ (List.mem_of_getElem? (i := 3) rfl))) (mvT hZ (hw _ (List.mem_of_getElem? (i := 4) rfl))) (mvT hZ (hw _ (List.mem_of_getElem? (i := 5) rfl))) (by decide) (backOf (W := 2) (rm_chunk l Z a0 hw [] q0 (2 : Int32) h19 n0 O19 ) hZ (hw _ (List.mem_of_getElem? (i := 5) rfl)) (hw _ (List.mem_of_getElem? (i := 4) rfl)) (by decide) (by decide)) (g := (mkF m 53 #[.val (.long q0), .second, .val (.long q1), .second, .val (.int p2), .val (.int p3), .val (.int (p3 &&& (1073741823 : Int32))), .val (.ref b1), .val (.ref b8), .unset, .unset, .unset, .unset, .unset, .unset, .unset] [(.int (2 : Int32)), (.long q0), (.int (2 : Int32)), (.ref b8)])) rfl (by rw [hml]; rfl) (argsL := [(.long q0), (.int (2 : Int32))]) (rest := [(.int (2 : Int32)), (.ref b8)]) (lenOf pd_1 rfl) rfl (by show 2 * 0 + _ ≤ _; exact Nat.le_of_eq rfl) (hb hby at_53) (fun _ _ => ⟨rfl, e19, (by decide : 2 + 0 ≤ _), (by decide : 10 + 0 ≤ _)⟩)
  dsimp only [Pt.U, Pt.locs, Pt.cells, Pt.slots] at X24 l24 y24 z24 st24 hQ24
  subst y24 z24
  obtain ⟨rfl, N24q, e24⟩ := hQ24
  have N24 : Fr n0 L24 := by rw [l24]; exact Fr.app N19 N24q
  refine stp st24 ?_
  show Go p e below T24 (mkF m 56 #[.val (.long q0), .second, .val (.long q1), .second, .val (.int p2), .val (.int p3), .val (.int (p3 &&& (1073741823 : Int32))), .val (.ref b1), .val (.ref b8), .unset, .unset, .unset, .unset, .unset, .unset, .unset] [(.int (own_chunk q0 (2 : Int32))), (.int (2 : Int32)), (.ref b8)]) _
  obtain ⟨cl25, Ar25, q25, S25, M25, H25, G25⟩ := (id V19)
  have in25 : ¬ ((2 : Int32) < 0 ∨ cl25.slots.size ≤ ((2 : Int32)).toNatClampNeg) := inb_of S25 ⟨by decide, by decide⟩
  obtain ⟨T25, h25, X25, e25, W25, st25⟩ := stI X24 hx hZ e24 Ar25 (j := (2 : Int32)) in25 (g := (mkF m 56 #[.val (.long q0), .second, .val (.long q1), .second, .val (.int p2), .val (.int p3), .val (.int (p3 &&& (1073741823 : Int32))), .val (.ref b1), .val (.ref b8), .unset, .unset, .unset, .unset, .unset, .unset, .unset] [(.int (own_chunk q0 (2 : Int32))), (.int (2 : Int32)), (.ref b8)])) rfl rfl (hb hby at_56)
  have V25 : Arv Z h25 b8 k8 .int (8 : Int32) [(.int (own_chunk q0 (0 : Int32))), (.int (own_chunk q0 (1 : Int32))), (.int (own_chunk q0 (2 : Int32))), (.int (0 : Int32)), (.int (0 : Int32)), (.int (0 : Int32)), (.int (0 : Int32)), (.int (0 : Int32))] (.int (0 : Int32)) := Arv.set Ar25 q25 S25 M25 H25 G25 rfl W25 2 rfl (Nat.le_of_ble_eq_true rfl)
  have f26 := f20.wr W25
  have f27 := f21.other W25 ne9
  have f28 := f22.wr W25
  have K25 : Keep h0 h25 [] := K19.wr W25 (Or.inr sz_b8)
  have O25 := O19.wr W25 ge_b8
  have N25 := Fr.snoc X25 N24 ge_b8
  refine stp st25 ?_
  show Go p e below T25 (mkF m 57 #[.val (.long q0), .second, .val (.long q1), .second, .val (.int p2), .val (.int p3), .val (.int (p3 &&& (1073741823 : Int32))), .val (.ref b1), .val (.ref b8), .unset, .unset, .unset, .unset, .unset, .unset, .unset] []) _
  refine stp (fun _ => XS.aload X25.here hx rfl (hb hby at_57) rfl rfl) ?_
  show Go p e below T25 (mkF m 59 #[.val (.long q0), .second, .val (.long q1), .second, .val (.int p2), .val (.int p3), .val (.int (p3 &&& (1073741823 : Int32))), .val (.ref b1), .val (.ref b8), .unset, .unset, .unset, .unset, .unset, .unset, .unset] [(.ref b8)]) _
  refine stp (fun _ => XS.iconst X25.here hx rfl (hb hby at_59)) ?_
  show Go p e below T25 (mkF m 60 #[.val (.long q0), .second, .val (.long q1), .second, .val (.int p2), .val (.int p3), .val (.int (p3 &&& (1073741823 : Int32))), .val (.ref b1), .val (.ref b8), .unset, .unset, .unset, .unset, .unset, .unset, .unset] [(.int (3 : Int32)), (.ref b8)]) _
  refine stp (fun _ => XS.lloadN X25.here hx rfl (hb hby at_60) rfl) ?_
  show Go p e below T25 (mkF m 61 #[.val (.long q0), .second, .val (.long q1), .second, .val (.int p2), .val (.int p3), .val (.int (p3 &&& (1073741823 : Int32))), .val (.ref b1), .val (.ref b8), .unset, .unset, .unset, .unset, .unset, .unset, .unset] [(.long q0), (.int (3 : Int32)), (.ref b8)]) _
  refine stp (fun _ => XS.iconst X25.here hx rfl (hb hby at_61)) ?_
  show Go p e below T25 (mkF m 62 #[.val (.long q0), .second, .val (.long q1), .second, .val (.int p2), .val (.int p3), .val (.int (p3 &&& (1073741823 : Int32))), .val (.ref b1), .val (.ref b8), .unset, .unset, .unset, .unset, .unset, .unset, .unset] [(.int (3 : Int32)), (.long q0), (.int (3 : Int32)), (.ref b8)]) _
  obtain ⟨_, _, ⟨T30, L30, k30, n30⟩, -, X30, ⟨Lc30, hQ30, l30, y30, z30⟩, st30⟩ := Jvm.LawKit.callS X25 hx (y := (⟨"com/example/fetch_to_rank/fetchtorank/index/PostingsCountPinLaw", "chunk", "(JI)I"⟩ : MethodName)) hown (mvT hZ (hw _ (List.mem_of_getElem? (i := 2) rfl))) (mvT hZ (hw _ (List.mem_of_getElem? (i := 3) rfl))) (mvT hZ (hw _ (List.mem_of_getElem? (i := 4) rfl))) (mvT hZ (hw _ (List.mem_of_getElem? (i := 5) rfl))) (by decide) (backOf (W := 2) (rm_chunk l Z a0 hw [] q0 (3 : Int32) h25 n0 O25 ) hZ (hw _ (List.mem_of_getElem? (i := 5) rfl)) (hw _ (List.mem_of_getElem? (i := 4) rfl)) (by decide) (by decide)) (g := (mkF m 62 #[.val (.long q0), .second, .val (.long q1), .second, .val (.int p2), .val (.int p3), .val (.int (p3 &&& (1073741823 : Int32))), .val (.ref b1), .val (.ref b8), .unset, .unset, .unset, .unset, .unset, .unset, .unset] [(.int (3 : Int32)), (.long q0), (.int (3 : Int32)), (.ref b8)])) rfl (by rw [hml]; rfl) (argsL := [(.long q0), (.int (3 : Int32))]) (rest := [(.int (3 : Int32)), (.ref b8)]) (lenOf pd_1 rfl) rfl (by show 2 * 0 + _ ≤ _; exact Nat.le_of_eq rfl) (hb hby at_62) (fun _ _ => ⟨rfl, e25, (by decide : 2 + 0 ≤ _), (by decide : 10 + 0 ≤ _)⟩)
  dsimp only [Pt.U, Pt.locs, Pt.cells, Pt.slots] at X30 l30 y30 z30 st30 hQ30
  subst y30 z30
  obtain ⟨rfl, N30q, e30⟩ := hQ30
  have N30 : Fr n0 L30 := by rw [l30]; exact Fr.app N25 N30q
  refine stp st30 ?_
  show Go p e below T30 (mkF m 65 #[.val (.long q0), .second, .val (.long q1), .second, .val (.int p2), .val (.int p3), .val (.int (p3 &&& (1073741823 : Int32))), .val (.ref b1), .val (.ref b8), .unset, .unset, .unset, .unset, .unset, .unset, .unset] [(.int (own_chunk q0 (3 : Int32))), (.int (3 : Int32)), (.ref b8)]) _
  obtain ⟨cl31, Ar31, q31, S31, M31, H31, G31⟩ := (id V25)
  have in31 : ¬ ((3 : Int32) < 0 ∨ cl31.slots.size ≤ ((3 : Int32)).toNatClampNeg) := inb_of S31 ⟨by decide, by decide⟩
  obtain ⟨T31, h31, X31, e31, W31, st31⟩ := stI X30 hx hZ e30 Ar31 (j := (3 : Int32)) in31 (g := (mkF m 65 #[.val (.long q0), .second, .val (.long q1), .second, .val (.int p2), .val (.int p3), .val (.int (p3 &&& (1073741823 : Int32))), .val (.ref b1), .val (.ref b8), .unset, .unset, .unset, .unset, .unset, .unset, .unset] [(.int (own_chunk q0 (3 : Int32))), (.int (3 : Int32)), (.ref b8)])) rfl rfl (hb hby at_65)
  have V31 : Arv Z h31 b8 k8 .int (8 : Int32) [(.int (own_chunk q0 (0 : Int32))), (.int (own_chunk q0 (1 : Int32))), (.int (own_chunk q0 (2 : Int32))), (.int (own_chunk q0 (3 : Int32))), (.int (0 : Int32)), (.int (0 : Int32)), (.int (0 : Int32)), (.int (0 : Int32))] (.int (0 : Int32)) := Arv.set Ar31 q31 S31 M31 H31 G31 rfl W31 3 rfl (Nat.le_of_ble_eq_true rfl)
  have f32 := f26.wr W31
  have f33 := f27.other W31 ne9
  have f34 := f28.wr W31
  have K31 : Keep h0 h31 [] := K25.wr W31 (Or.inr sz_b8)
  have O31 := O25.wr W31 ge_b8
  have N31 := Fr.snoc X31 N30 ge_b8
  refine stp st31 ?_
  show Go p e below T31 (mkF m 66 #[.val (.long q0), .second, .val (.long q1), .second, .val (.int p2), .val (.int p3), .val (.int (p3 &&& (1073741823 : Int32))), .val (.ref b1), .val (.ref b8), .unset, .unset, .unset, .unset, .unset, .unset, .unset] []) _
  refine stp (fun _ => XS.aload X31.here hx rfl (hb hby at_66) rfl rfl) ?_
  show Go p e below T31 (mkF m 68 #[.val (.long q0), .second, .val (.long q1), .second, .val (.int p2), .val (.int p3), .val (.int (p3 &&& (1073741823 : Int32))), .val (.ref b1), .val (.ref b8), .unset, .unset, .unset, .unset, .unset, .unset, .unset] [(.ref b8)]) _
  refine stp (fun _ => XS.iconst X31.here hx rfl (hb hby at_68)) ?_
  show Go p e below T31 (mkF m 69 #[.val (.long q0), .second, .val (.long q1), .second, .val (.int p2), .val (.int p3), .val (.int (p3 &&& (1073741823 : Int32))), .val (.ref b1), .val (.ref b8), .unset, .unset, .unset, .unset, .unset, .unset, .unset] [(.int (4 : Int32)), (.ref b8)]) _
  refine stp (fun _ => XS.lloadN X31.here hx rfl (hb hby at_69) rfl) ?_
  show Go p e below T31 (mkF m 70 #[.val (.long q0), .second, .val (.long q1), .second, .val (.int p2), .val (.int p3), .val (.int (p3 &&& (1073741823 : Int32))), .val (.ref b1), .val (.ref b8), .unset, .unset, .unset, .unset, .unset, .unset, .unset] [(.long q1), (.int (4 : Int32)), (.ref b8)]) _
  refine stp (fun _ => XS.iconst X31.here hx rfl (hb hby at_70)) ?_
  show Go p e below T31 (mkF m 71 #[.val (.long q0), .second, .val (.long q1), .second, .val (.int p2), .val (.int p3), .val (.int (p3 &&& (1073741823 : Int32))), .val (.ref b1), .val (.ref b8), .unset, .unset, .unset, .unset, .unset, .unset, .unset] [(.int (0 : Int32)), (.long q1), (.int (4 : Int32)), (.ref b8)]) _
  obtain ⟨_, _, ⟨T36, L36, k36, n36⟩, -, X36, ⟨Lc36, hQ36, l36, y36, z36⟩, st36⟩ := Jvm.LawKit.callS X31 hx (y := (⟨"com/example/fetch_to_rank/fetchtorank/index/PostingsCountPinLaw", "chunk", "(JI)I"⟩ : MethodName)) hown (mvT hZ (hw _ (List.mem_of_getElem? (i := 2) rfl))) (mvT hZ (hw _ (List.mem_of_getElem? (i := 3) rfl))) (mvT hZ (hw _ (List.mem_of_getElem? (i := 4) rfl))) (mvT hZ (hw _ (List.mem_of_getElem? (i := 5) rfl))) (by decide) (backOf (W := 2) (rm_chunk l Z a0 hw [] q1 (0 : Int32) h31 n0 O31 ) hZ (hw _ (List.mem_of_getElem? (i := 5) rfl)) (hw _ (List.mem_of_getElem? (i := 4) rfl)) (by decide) (by decide)) (g := (mkF m 71 #[.val (.long q0), .second, .val (.long q1), .second, .val (.int p2), .val (.int p3), .val (.int (p3 &&& (1073741823 : Int32))), .val (.ref b1), .val (.ref b8), .unset, .unset, .unset, .unset, .unset, .unset, .unset] [(.int (0 : Int32)), (.long q1), (.int (4 : Int32)), (.ref b8)])) rfl (by rw [hml]; rfl) (argsL := [(.long q1), (.int (0 : Int32))]) (rest := [(.int (4 : Int32)), (.ref b8)]) (lenOf pd_1 rfl) rfl (by show 2 * 0 + _ ≤ _; exact Nat.le_of_eq rfl) (hb hby at_71) (fun _ _ => ⟨rfl, e31, (by decide : 2 + 0 ≤ _), (by decide : 10 + 0 ≤ _)⟩)
  dsimp only [Pt.U, Pt.locs, Pt.cells, Pt.slots] at X36 l36 y36 z36 st36 hQ36
  subst y36 z36
  obtain ⟨rfl, N36q, e36⟩ := hQ36
  have N36 : Fr n0 L36 := by rw [l36]; exact Fr.app N31 N36q
  refine stp st36 ?_
  show Go p e below T36 (mkF m 74 #[.val (.long q0), .second, .val (.long q1), .second, .val (.int p2), .val (.int p3), .val (.int (p3 &&& (1073741823 : Int32))), .val (.ref b1), .val (.ref b8), .unset, .unset, .unset, .unset, .unset, .unset, .unset] [(.int (own_chunk q1 (0 : Int32))), (.int (4 : Int32)), (.ref b8)]) _
  obtain ⟨cl37, Ar37, q37, S37, M37, H37, G37⟩ := (id V31)
  have in37 : ¬ ((4 : Int32) < 0 ∨ cl37.slots.size ≤ ((4 : Int32)).toNatClampNeg) := inb_of S37 ⟨by decide, by decide⟩
  obtain ⟨T37, h37, X37, e37, W37, st37⟩ := stI X36 hx hZ e36 Ar37 (j := (4 : Int32)) in37 (g := (mkF m 74 #[.val (.long q0), .second, .val (.long q1), .second, .val (.int p2), .val (.int p3), .val (.int (p3 &&& (1073741823 : Int32))), .val (.ref b1), .val (.ref b8), .unset, .unset, .unset, .unset, .unset, .unset, .unset] [(.int (own_chunk q1 (0 : Int32))), (.int (4 : Int32)), (.ref b8)])) rfl rfl (hb hby at_74)
  have V37 : Arv Z h37 b8 k8 .int (8 : Int32) [(.int (own_chunk q0 (0 : Int32))), (.int (own_chunk q0 (1 : Int32))), (.int (own_chunk q0 (2 : Int32))), (.int (own_chunk q0 (3 : Int32))), (.int (own_chunk q1 (0 : Int32))), (.int (0 : Int32)), (.int (0 : Int32)), (.int (0 : Int32))] (.int (0 : Int32)) := Arv.set Ar37 q37 S37 M37 H37 G37 rfl W37 4 rfl (Nat.le_of_ble_eq_true rfl)
  have f38 := f32.wr W37
  have f39 := f33.other W37 ne9
  have f40 := f34.wr W37
  have K37 : Keep h0 h37 [] := K31.wr W37 (Or.inr sz_b8)
  have O37 := O31.wr W37 ge_b8
  have N37 := Fr.snoc X37 N36 ge_b8
  refine stp st37 ?_
  show Go p e below T37 (mkF m 75 #[.val (.long q0), .second, .val (.long q1), .second, .val (.int p2), .val (.int p3), .val (.int (p3 &&& (1073741823 : Int32))), .val (.ref b1), .val (.ref b8), .unset, .unset, .unset, .unset, .unset, .unset, .unset] []) _
  refine stp (fun _ => XS.aload X37.here hx rfl (hb hby at_75) rfl rfl) ?_
  show Go p e below T37 (mkF m 77 #[.val (.long q0), .second, .val (.long q1), .second, .val (.int p2), .val (.int p3), .val (.int (p3 &&& (1073741823 : Int32))), .val (.ref b1), .val (.ref b8), .unset, .unset, .unset, .unset, .unset, .unset, .unset] [(.ref b8)]) _
  refine stp (fun _ => XS.iconst X37.here hx rfl (hb hby at_77)) ?_
  show Go p e below T37 (mkF m 78 #[.val (.long q0), .second, .val (.long q1), .second, .val (.int p2), .val (.int p3), .val (.int (p3 &&& (1073741823 : Int32))), .val (.ref b1), .val (.ref b8), .unset, .unset, .unset, .unset, .unset, .unset, .unset] [(.int (5 : Int32)), (.ref b8)]) _
  refine stp (fun _ => XS.lloadN X37.here hx rfl (hb hby at_78) rfl) ?_
  show Go p e below T37 (mkF m 79 #[.val (.long q0), .second, .val (.long q1), .second, .val (.int p2), .val (.int p3), .val (.int (p3 &&& (1073741823 : Int32))), .val (.ref b1), .val (.ref b8), .unset, .unset, .unset, .unset, .unset, .unset, .unset] [(.long q1), (.int (5 : Int32)), (.ref b8)]) _
  refine stp (fun _ => XS.iconst X37.here hx rfl (hb hby at_79)) ?_
  show Go p e below T37 (mkF m 80 #[.val (.long q0), .second, .val (.long q1), .second, .val (.int p2), .val (.int p3), .val (.int (p3 &&& (1073741823 : Int32))), .val (.ref b1), .val (.ref b8), .unset, .unset, .unset, .unset, .unset, .unset, .unset] [(.int (1 : Int32)), (.long q1), (.int (5 : Int32)), (.ref b8)]) _
  obtain ⟨_, _, ⟨T42, L42, k42, n42⟩, -, X42, ⟨Lc42, hQ42, l42, y42, z42⟩, st42⟩ := Jvm.LawKit.callS X37 hx (y := (⟨"com/example/fetch_to_rank/fetchtorank/index/PostingsCountPinLaw", "chunk", "(JI)I"⟩ : MethodName)) hown (mvT hZ (hw _ (List.mem_of_getElem? (i := 2) rfl))) (mvT hZ (hw _ (List.mem_of_getElem? (i := 3) rfl))) (mvT hZ (hw _ (List.mem_of_getElem? (i := 4) rfl))) (mvT hZ (hw _ (List.mem_of_getElem? (i := 5) rfl))) (by decide) (backOf (W := 2) (rm_chunk l Z a0 hw [] q1 (1 : Int32) h37 n0 O37 ) hZ (hw _ (List.mem_of_getElem? (i := 5) rfl)) (hw _ (List.mem_of_getElem? (i := 4) rfl)) (by decide) (by decide)) (g := (mkF m 80 #[.val (.long q0), .second, .val (.long q1), .second, .val (.int p2), .val (.int p3), .val (.int (p3 &&& (1073741823 : Int32))), .val (.ref b1), .val (.ref b8), .unset, .unset, .unset, .unset, .unset, .unset, .unset] [(.int (1 : Int32)), (.long q1), (.int (5 : Int32)), (.ref b8)])) rfl (by rw [hml]; rfl) (argsL := [(.long q1), (.int (1 : Int32))]) (rest := [(.int (5 : Int32)), (.ref b8)]) (lenOf pd_1 rfl) rfl (by show 2 * 0 + _ ≤ _; exact Nat.le_of_eq rfl) (hb hby at_80) (fun _ _ => ⟨rfl, e37, (by decide : 2 + 0 ≤ _), (by decide : 10 + 0 ≤ _)⟩)
  dsimp only [Pt.U, Pt.locs, Pt.cells, Pt.slots] at X42 l42 y42 z42 st42 hQ42
  subst y42 z42
  obtain ⟨rfl, N42q, e42⟩ := hQ42
  have N42 : Fr n0 L42 := by rw [l42]; exact Fr.app N37 N42q
  refine stp st42 ?_
  show Go p e below T42 (mkF m 83 #[.val (.long q0), .second, .val (.long q1), .second, .val (.int p2), .val (.int p3), .val (.int (p3 &&& (1073741823 : Int32))), .val (.ref b1), .val (.ref b8), .unset, .unset, .unset, .unset, .unset, .unset, .unset] [(.int (own_chunk q1 (1 : Int32))), (.int (5 : Int32)), (.ref b8)]) _
  obtain ⟨cl43, Ar43, q43, S43, M43, H43, G43⟩ := (id V37)
  have in43 : ¬ ((5 : Int32) < 0 ∨ cl43.slots.size ≤ ((5 : Int32)).toNatClampNeg) := inb_of S43 ⟨by decide, by decide⟩
  obtain ⟨T43, h43, X43, e43, W43, st43⟩ := stI X42 hx hZ e42 Ar43 (j := (5 : Int32)) in43 (g := (mkF m 83 #[.val (.long q0), .second, .val (.long q1), .second, .val (.int p2), .val (.int p3), .val (.int (p3 &&& (1073741823 : Int32))), .val (.ref b1), .val (.ref b8), .unset, .unset, .unset, .unset, .unset, .unset, .unset] [(.int (own_chunk q1 (1 : Int32))), (.int (5 : Int32)), (.ref b8)])) rfl rfl (hb hby at_83)
  have V43 : Arv Z h43 b8 k8 .int (8 : Int32) [(.int (own_chunk q0 (0 : Int32))), (.int (own_chunk q0 (1 : Int32))), (.int (own_chunk q0 (2 : Int32))), (.int (own_chunk q0 (3 : Int32))), (.int (own_chunk q1 (0 : Int32))), (.int (own_chunk q1 (1 : Int32))), (.int (0 : Int32)), (.int (0 : Int32))] (.int (0 : Int32)) := Arv.set Ar43 q43 S43 M43 H43 G43 rfl W43 5 rfl (Nat.le_of_ble_eq_true rfl)
  have f44 := f38.wr W43
  have f45 := f39.other W43 ne9
  have f46 := f40.wr W43
  have K43 : Keep h0 h43 [] := K37.wr W43 (Or.inr sz_b8)
  have O43 := O37.wr W43 ge_b8
  have N43 := Fr.snoc X43 N42 ge_b8
  refine stp st43 ?_
  show Go p e below T43 (mkF m 84 #[.val (.long q0), .second, .val (.long q1), .second, .val (.int p2), .val (.int p3), .val (.int (p3 &&& (1073741823 : Int32))), .val (.ref b1), .val (.ref b8), .unset, .unset, .unset, .unset, .unset, .unset, .unset] []) _
  refine stp (fun _ => XS.aload X43.here hx rfl (hb hby at_84) rfl rfl) ?_
  show Go p e below T43 (mkF m 86 #[.val (.long q0), .second, .val (.long q1), .second, .val (.int p2), .val (.int p3), .val (.int (p3 &&& (1073741823 : Int32))), .val (.ref b1), .val (.ref b8), .unset, .unset, .unset, .unset, .unset, .unset, .unset] [(.ref b8)]) _
  refine stp (fun _ => XS.bipush X43.here hx rfl (hb hby at_86)) ?_
  show Go p e below T43 (mkF m 88 #[.val (.long q0), .second, .val (.long q1), .second, .val (.int p2), .val (.int p3), .val (.int (p3 &&& (1073741823 : Int32))), .val (.ref b1), .val (.ref b8), .unset, .unset, .unset, .unset, .unset, .unset, .unset] [(.int (6 : Int32)), (.ref b8)]) _
  refine stp (fun _ => XS.lloadN X43.here hx rfl (hb hby at_88) rfl) ?_
  show Go p e below T43 (mkF m 89 #[.val (.long q0), .second, .val (.long q1), .second, .val (.int p2), .val (.int p3), .val (.int (p3 &&& (1073741823 : Int32))), .val (.ref b1), .val (.ref b8), .unset, .unset, .unset, .unset, .unset, .unset, .unset] [(.long q1), (.int (6 : Int32)), (.ref b8)]) _
  refine stp (fun _ => XS.iconst X43.here hx rfl (hb hby at_89)) ?_
  show Go p e below T43 (mkF m 90 #[.val (.long q0), .second, .val (.long q1), .second, .val (.int p2), .val (.int p3), .val (.int (p3 &&& (1073741823 : Int32))), .val (.ref b1), .val (.ref b8), .unset, .unset, .unset, .unset, .unset, .unset, .unset] [(.int (2 : Int32)), (.long q1), (.int (6 : Int32)), (.ref b8)]) _
  obtain ⟨_, _, ⟨T48, L48, k48, n48⟩, -, X48, ⟨Lc48, hQ48, l48, y48, z48⟩, st48⟩ := Jvm.LawKit.callS X43 hx (y := (⟨"com/example/fetch_to_rank/fetchtorank/index/PostingsCountPinLaw", "chunk", "(JI)I"⟩ : MethodName)) hown (mvT hZ (hw _ (List.mem_of_getElem? (i := 2) rfl))) (mvT hZ (hw _ (List.mem_of_getElem? (i := 3) rfl))) (mvT hZ (hw _ (List.mem_of_getElem? (i := 4) rfl))) (mvT hZ (hw _ (List.mem_of_getElem? (i := 5) rfl))) (by decide) (backOf (W := 2) (rm_chunk l Z a0 hw [] q1 (2 : Int32) h43 n0 O43 ) hZ (hw _ (List.mem_of_getElem? (i := 5) rfl)) (hw _ (List.mem_of_getElem? (i := 4) rfl)) (by decide) (by decide)) (g := (mkF m 90 #[.val (.long q0), .second, .val (.long q1), .second, .val (.int p2), .val (.int p3), .val (.int (p3 &&& (1073741823 : Int32))), .val (.ref b1), .val (.ref b8), .unset, .unset, .unset, .unset, .unset, .unset, .unset] [(.int (2 : Int32)), (.long q1), (.int (6 : Int32)), (.ref b8)])) rfl (by rw [hml]; rfl) (argsL := [(.long q1), (.int (2 : Int32))]) (rest := [(.int (6 : Int32)), (.ref b8)]) (lenOf pd_1 rfl) rfl (by show 2 * 0 + _ ≤ _; exact Nat.le_of_eq rfl) (hb hby at_90) (fun _ _ => ⟨rfl, e43, (by decide : 2 + 0 ≤ _), (by decide : 10 + 0 ≤ _)⟩)
  dsimp only [Pt.U, Pt.locs, Pt.cells, Pt.slots] at X48 l48 y48 z48 st48 hQ48
  subst y48 z48
  obtain ⟨rfl, N48q, e48⟩ := hQ48
  have N48 : Fr n0 L48 := by rw [l48]; exact Fr.app N43 N48q
  refine stp st48 ?_
  show Go p e below T48 (mkF m 93 #[.val (.long q0), .second, .val (.long q1), .second, .val (.int p2), .val (.int p3), .val (.int (p3 &&& (1073741823 : Int32))), .val (.ref b1), .val (.ref b8), .unset, .unset, .unset, .unset, .unset, .unset, .unset] [(.int (own_chunk q1 (2 : Int32))), (.int (6 : Int32)), (.ref b8)]) _
  obtain ⟨cl49, Ar49, q49, S49, M49, H49, G49⟩ := (id V43)
  have in49 : ¬ ((6 : Int32) < 0 ∨ cl49.slots.size ≤ ((6 : Int32)).toNatClampNeg) := inb_of S49 ⟨by decide, by decide⟩
  obtain ⟨T49, h49, X49, e49, W49, st49⟩ := stI X48 hx hZ e48 Ar49 (j := (6 : Int32)) in49 (g := (mkF m 93 #[.val (.long q0), .second, .val (.long q1), .second, .val (.int p2), .val (.int p3), .val (.int (p3 &&& (1073741823 : Int32))), .val (.ref b1), .val (.ref b8), .unset, .unset, .unset, .unset, .unset, .unset, .unset] [(.int (own_chunk q1 (2 : Int32))), (.int (6 : Int32)), (.ref b8)])) rfl rfl (hb hby at_93)
  have V49 : Arv Z h49 b8 k8 .int (8 : Int32) [(.int (own_chunk q0 (0 : Int32))), (.int (own_chunk q0 (1 : Int32))), (.int (own_chunk q0 (2 : Int32))), (.int (own_chunk q0 (3 : Int32))), (.int (own_chunk q1 (0 : Int32))), (.int (own_chunk q1 (1 : Int32))), (.int (own_chunk q1 (2 : Int32))), (.int (0 : Int32))] (.int (0 : Int32)) := Arv.set Ar49 q49 S49 M49 H49 G49 rfl W49 6 rfl (Nat.le_of_ble_eq_true rfl)
  have f50 := f44.wr W49
  have f51 := f45.other W49 ne9
  have f52 := f46.wr W49
  have K49 : Keep h0 h49 [] := K43.wr W49 (Or.inr sz_b8)
  have O49 := O43.wr W49 ge_b8
  have N49 := Fr.snoc X49 N48 ge_b8
  refine stp st49 ?_
  show Go p e below T49 (mkF m 94 #[.val (.long q0), .second, .val (.long q1), .second, .val (.int p2), .val (.int p3), .val (.int (p3 &&& (1073741823 : Int32))), .val (.ref b1), .val (.ref b8), .unset, .unset, .unset, .unset, .unset, .unset, .unset] []) _
  refine stp (fun _ => XS.aload X49.here hx rfl (hb hby at_94) rfl rfl) ?_
  show Go p e below T49 (mkF m 96 #[.val (.long q0), .second, .val (.long q1), .second, .val (.int p2), .val (.int p3), .val (.int (p3 &&& (1073741823 : Int32))), .val (.ref b1), .val (.ref b8), .unset, .unset, .unset, .unset, .unset, .unset, .unset] [(.ref b8)]) _
  refine stp (fun _ => XS.bipush X49.here hx rfl (hb hby at_96)) ?_
  show Go p e below T49 (mkF m 98 #[.val (.long q0), .second, .val (.long q1), .second, .val (.int p2), .val (.int p3), .val (.int (p3 &&& (1073741823 : Int32))), .val (.ref b1), .val (.ref b8), .unset, .unset, .unset, .unset, .unset, .unset, .unset] [(.int (7 : Int32)), (.ref b8)]) _
  refine stp (fun _ => XS.lloadN X49.here hx rfl (hb hby at_98) rfl) ?_
  show Go p e below T49 (mkF m 99 #[.val (.long q0), .second, .val (.long q1), .second, .val (.int p2), .val (.int p3), .val (.int (p3 &&& (1073741823 : Int32))), .val (.ref b1), .val (.ref b8), .unset, .unset, .unset, .unset, .unset, .unset, .unset] [(.long q1), (.int (7 : Int32)), (.ref b8)]) _
  refine stp (fun _ => XS.iconst X49.here hx rfl (hb hby at_99)) ?_
  show Go p e below T49 (mkF m 100 #[.val (.long q0), .second, .val (.long q1), .second, .val (.int p2), .val (.int p3), .val (.int (p3 &&& (1073741823 : Int32))), .val (.ref b1), .val (.ref b8), .unset, .unset, .unset, .unset, .unset, .unset, .unset] [(.int (3 : Int32)), (.long q1), (.int (7 : Int32)), (.ref b8)]) _
  obtain ⟨_, _, ⟨T54, L54, k54, n54⟩, -, X54, ⟨Lc54, hQ54, l54, y54, z54⟩, st54⟩ := Jvm.LawKit.callS X49 hx (y := (⟨"com/example/fetch_to_rank/fetchtorank/index/PostingsCountPinLaw", "chunk", "(JI)I"⟩ : MethodName)) hown (mvT hZ (hw _ (List.mem_of_getElem? (i := 2) rfl))) (mvT hZ (hw _ (List.mem_of_getElem? (i := 3) rfl))) (mvT hZ (hw _ (List.mem_of_getElem? (i := 4) rfl))) (mvT hZ (hw _ (List.mem_of_getElem? (i := 5) rfl))) (by decide) (backOf (W := 2) (rm_chunk l Z a0 hw [] q1 (3 : Int32) h49 n0 O49 ) hZ (hw _ (List.mem_of_getElem? (i := 5) rfl)) (hw _ (List.mem_of_getElem? (i := 4) rfl)) (by decide) (by decide)) (g := (mkF m 100 #[.val (.long q0), .second, .val (.long q1), .second, .val (.int p2), .val (.int p3), .val (.int (p3 &&& (1073741823 : Int32))), .val (.ref b1), .val (.ref b8), .unset, .unset, .unset, .unset, .unset, .unset, .unset] [(.int (3 : Int32)), (.long q1), (.int (7 : Int32)), (.ref b8)])) rfl (by rw [hml]; rfl) (argsL := [(.long q1), (.int (3 : Int32))]) (rest := [(.int (7 : Int32)), (.ref b8)]) (lenOf pd_1 rfl) rfl (by show 2 * 0 + _ ≤ _; exact Nat.le_of_eq rfl) (hb hby at_100) (fun _ _ => ⟨rfl, e49, (by decide : 2 + 0 ≤ _), (by decide : 10 + 0 ≤ _)⟩)
  dsimp only [Pt.U, Pt.locs, Pt.cells, Pt.slots] at X54 l54 y54 z54 st54 hQ54
  subst y54 z54
  obtain ⟨rfl, N54q, e54⟩ := hQ54
  have N54 : Fr n0 L54 := by rw [l54]; exact Fr.app N49 N54q
  refine stp st54 ?_
  show Go p e below T54 (mkF m 103 #[.val (.long q0), .second, .val (.long q1), .second, .val (.int p2), .val (.int p3), .val (.int (p3 &&& (1073741823 : Int32))), .val (.ref b1), .val (.ref b8), .unset, .unset, .unset, .unset, .unset, .unset, .unset] [(.int (own_chunk q1 (3 : Int32))), (.int (7 : Int32)), (.ref b8)]) _
  obtain ⟨cl55, Ar55, q55, S55, M55, H55, G55⟩ := (id V49)
  have in55 : ¬ ((7 : Int32) < 0 ∨ cl55.slots.size ≤ ((7 : Int32)).toNatClampNeg) := inb_of S55 ⟨by decide, by decide⟩
  obtain ⟨T55, h55, X55, e55, W55, st55⟩ := stI X54 hx hZ e54 Ar55 (j := (7 : Int32)) in55 (g := (mkF m 103 #[.val (.long q0), .second, .val (.long q1), .second, .val (.int p2), .val (.int p3), .val (.int (p3 &&& (1073741823 : Int32))), .val (.ref b1), .val (.ref b8), .unset, .unset, .unset, .unset, .unset, .unset, .unset] [(.int (own_chunk q1 (3 : Int32))), (.int (7 : Int32)), (.ref b8)])) rfl rfl (hb hby at_103)
  have V55 : Arv Z h55 b8 k8 .int (8 : Int32) [(.int (own_chunk q0 (0 : Int32))), (.int (own_chunk q0 (1 : Int32))), (.int (own_chunk q0 (2 : Int32))), (.int (own_chunk q0 (3 : Int32))), (.int (own_chunk q1 (0 : Int32))), (.int (own_chunk q1 (1 : Int32))), (.int (own_chunk q1 (2 : Int32))), (.int (own_chunk q1 (3 : Int32)))] (.int (0 : Int32)) := Arv.set Ar55 q55 S55 M55 H55 G55 rfl W55 7 rfl (Nat.le_of_ble_eq_true rfl)
  have f56 := f50.wr W55
  have f57 := f51.other W55 ne9
  have f58 := f52.wr W55
  have K55 : Keep h0 h55 [] := K49.wr W55 (Or.inr sz_b8)
  have O55 := O49.wr W55 ge_b8
  have N55 := Fr.snoc X55 N54 ge_b8
  refine stp st55 ?_
  show Go p e below T55 (mkF m 104 #[.val (.long q0), .second, .val (.long q1), .second, .val (.int p2), .val (.int p3), .val (.int (p3 &&& (1073741823 : Int32))), .val (.ref b1), .val (.ref b8), .unset, .unset, .unset, .unset, .unset, .unset, .unset] []) _
  obtain ⟨T60, h60, X60, e60, E60, A60, D60, -, st60⟩ := newO X55 hx hZ hown (hw _ (List.mem_of_getElem? (i := 7) rfl)) (hw _ (List.mem_of_getElem? (i := 8) rfl)) (hw _ (List.mem_of_getElem? (i := 9) rfl)) e55 (g := (mkF m 104 #[.val (.long q0), .second, .val (.long q1), .second, .val (.int p2), .val (.int p3), .val (.int (p3 &&& (1073741823 : Int32))), .val (.ref b1), .val (.ref b8), .unset, .unset, .unset, .unset, .unset, .unset, .unset] [])) rfl (hb hby at_104) (by decide) (by decide)
  obtain ⟨b60, g60⟩ : ∃ z, z = h55.size := ⟨_, rfl⟩
  rw [← g60] at A60 D60 st60
  have ne61 : b1 ≠ b60 := Nat.ne_of_lt (Nat.lt_of_lt_of_le f56.lt (Nat.le_of_eq g60.symm))
  have ne62 : b8 ≠ b60 := Nat.ne_of_lt (Nat.lt_of_lt_of_le f58.lt (Nat.le_of_eq g60.symm))
  have sz_b60 : h0.size ≤ b60 := Nat.le_trans K55.1 (Nat.le_of_eq g60.symm)
  have ge_b60 : n0 ≤ b60 := Nat.le_trans (old_le O55) (Nat.le_of_eq g60.symm)
  have f63 := f56.ext E60
  have f64 := f57.ext E60
  have f65 := f58.ext E60
  have f66 := V55.ext E60
  have K60 : Keep h0 h60 [] := K55.ext E60
  have O60 := O55.ext E60
  have F67 : Fld Z h60 b60 "com/example/fetch_to_rank/fetchtorank/index/Postings" "documents" "[I" .null := D60 (Or.inr (hw _ (List.mem_of_getElem? (i := 28) rfl))) (ty := (.array .int)) (by decide)
  have F68 : Fld Z h60 b60 "com/example/fetch_to_rank/fetchtorank/index/Postings" "counts" "[I" .null := D60 (Or.inr (hw _ (List.mem_of_getElem? (i := 30) rfl))) (ty := (.array .int)) (by decide)
  refine stp st60 ?_
  show Go p e below T60 (mkF m 107 #[.val (.long q0), .second, .val (.long q1), .second, .val (.int p2), .val (.int p3), .val (.int (p3 &&& (1073741823 : Int32))), .val (.ref b1), .val (.ref b8), .unset, .unset, .unset, .unset, .unset, .unset, .unset] [(.ref b60)]) _
  refine stp (fun _ => XS.dup X60.here hx rfl (hb hby at_107) rfl rfl) ?_
  show Go p e below T60 (mkF m 108 #[.val (.long q0), .second, .val (.long q1), .second, .val (.int p2), .val (.int p3), .val (.int (p3 &&& (1073741823 : Int32))), .val (.ref b1), .val (.ref b8), .unset, .unset, .unset, .unset, .unset, .unset, .unset] [(.ref b60), (.ref b60)]) _
  refine stp (fun _ => XS.aload X60.here hx rfl (hb hby at_108) rfl rfl) ?_
  show Go p e below T60 (mkF m 110 #[.val (.long q0), .second, .val (.long q1), .second, .val (.int p2), .val (.int p3), .val (.int (p3 &&& (1073741823 : Int32))), .val (.ref b1), .val (.ref b8), .unset, .unset, .unset, .unset, .unset, .unset, .unset] [(.ref b1), (.ref b60), (.ref b60)]) _
  refine stp (fun _ => XS.aload X60.here hx rfl (hb hby at_110) rfl rfl) ?_
  show Go p e below T60 (mkF m 112 #[.val (.long q0), .second, .val (.long q1), .second, .val (.int p2), .val (.int p3), .val (.int (p3 &&& (1073741823 : Int32))), .val (.ref b1), .val (.ref b8), .unset, .unset, .unset, .unset, .unset, .unset, .unset] [(.ref b8), (.ref b1), (.ref b60), (.ref b60)]) _
  obtain ⟨_, _, ⟨T69, L69, k69, n69⟩, -, X69, ⟨Lc69, hQ69, l69, y69, z69⟩, st69⟩ := X60.specialBack hx (y := (⟨"com/example/fetch_to_rank/fetchtorank/index/Postings", "<init>", "([I[I)V"⟩ : MethodName)) rfl hown (mvT hZ (hw _ (List.mem_of_getElem? (i := 10) rfl))) (mvT hZ (hw _ (List.mem_of_getElem? (i := 11) rfl))) (mvT hZ (hw _ (List.mem_of_getElem? (i := 12) rfl))) (by decide) (backOf (W := 1) (rm_init l Z a0 hw [] b60 b1 b8 k1 k8 (p3 &&& (1073741823 : Int32)) ((p3 &&& (1073741823 : Int32)) + (1 : Int32)) (own_chunk q0 (0 : Int32)) (own_chunk q0 (1 : Int32)) (own_chunk q0 (2 : Int32)) (own_chunk q0 (3 : Int32)) (own_chunk q1 (0 : Int32)) (own_chunk q1 (1 : Int32)) (own_chunk q1 (2 : Int32)) (own_chunk q1 (3 : Int32)) h60 n0 O60 A60 F67 F68 f64 f66 f63 f65 ge_b60 ne61 ne62 own_lt S_TYPES) hZ (hw _ (List.mem_of_getElem? (i := 12) rfl)) (hw _ (List.mem_of_getElem? (i := 9) rfl)) (by decide) (by decide)) (g := (mkF m 112 #[.val (.long q0), .second, .val (.long q1), .second, .val (.int p2), .val (.int p3), .val (.int (p3 &&& (1073741823 : Int32))), .val (.ref b1), .val (.ref b8), .unset, .unset, .unset, .unset, .unset, .unset, .unset] [(.ref b8), (.ref b1), (.ref b60), (.ref b60)])) rfl (by rw [hml]; rfl) (Steps.refl _) (a := b60) (argsL := [(.ref b1), (.ref b8)]) (rest := [(.ref b60)]) (lenOf pd_2 rfl) rfl (by show 2 * 0 + _ ≤ _; exact Nat.le_of_eq rfl) (hb hby at_112) (fun _ _ => ⟨rfl, e60, (by decide : 3 + 2 ≤ _), (by decide : 12 + 10 ≤ _)⟩)
  dsimp only [Pt.U, Pt.locs, Pt.cells, Pt.slots] at X69 l69 y69 z69 st69 hQ69
  subst y69 z69
  obtain ⟨rfl, N69q, K69q, E69q, b69, ge_b69, ne69q, F69q, V69q⟩ := hQ69
  have N69 : Fr n0 L69 := by rw [l69]; exact Fr.app N55 N69q
  have f70 := f63.keep K69q
  have f71 := f64.keep K69q (ninS ne61 nin0)
  have f72 := f65.keep K69q
  have f73 := f66.keep K69q (ninS ne62 nin0)
  have O69 := O60.keep K69q (allS ge_b60 all0)
  refine stt st69 ?_
  show Go p e below T69 (mkF m 115 #[.val (.long q0), .second, .val (.long q1), .second, .val (.int p2), .val (.int p3), .val (.int (p3 &&& (1073741823 : Int32))), .val (.ref b1), .val (.ref b8), .unset, .unset, .unset, .unset, .unset, .unset, .unset] [(.ref b60)]) _
  refine stp (fun _ => XS.astore X69.here hx rfl (hb hby at_115) rfl rfl (l' := #[.val (.long q0), .second, .val (.long q1), .second, .val (.int p2), .val (.int p3), .val (.int (p3 &&& (1073741823 : Int32))), .val (.ref b1), .val (.ref b8), .val (.ref b60), .unset, .unset, .unset, .unset, .unset, .unset]) rfl) ?_
  show Go p e below T69 (mkF m 117 #[.val (.long q0), .second, .val (.long q1), .second, .val (.int p2), .val (.int p3), .val (.int (p3 &&& (1073741823 : Int32))), .val (.ref b1), .val (.ref b8), .val (.ref b60), .unset, .unset, .unset, .unset, .unset, .unset] []) _
  refine stp (fun _ => XS.iload X69.here hx rfl (hb hby at_117) rfl) ?_
  show Go p e below T69 (mkF m 119 #[.val (.long q0), .second, .val (.long q1), .second, .val (.int p2), .val (.int p3), .val (.int (p3 &&& (1073741823 : Int32))), .val (.ref b1), .val (.ref b8), .val (.ref b60), .unset, .unset, .unset, .unset, .unset, .unset] [(.int p2)]) _
  refine stp (fun _ => XS.iconst X69.here hx rfl (hb hby at_119)) ?_
  show Go p e below T69 (mkF m 120 #[.val (.long q0), .second, .val (.long q1), .second, .val (.int p2), .val (.int p3), .val (.int (p3 &&& (1073741823 : Int32))), .val (.ref b1), .val (.ref b8), .val (.ref b60), .unset, .unset, .unset, .unset, .unset, .unset] [(.int (1 : Int32)), (.int p2)]) _
  refine stp (fun _ => XS.iand X69.here hx rfl (hb hby at_120) rfl) ?_
  show Go p e below T69 (mkF m 121 #[.val (.long q0), .second, .val (.long q1), .second, .val (.int p2), .val (.int p3), .val (.int (p3 &&& (1073741823 : Int32))), .val (.ref b1), .val (.ref b8), .val (.ref b60), .unset, .unset, .unset, .unset, .unset, .unset] [(.int (p2 &&& (1 : Int32)))]) _
  refine stp (fun _ => XS.istore X69.here hx rfl (hb hby at_121) rfl (l' := #[.val (.long q0), .second, .val (.long q1), .second, .val (.int p2), .val (.int p3), .val (.int (p3 &&& (1073741823 : Int32))), .val (.ref b1), .val (.ref b8), .val (.ref b60), .val (.int (p2 &&& (1 : Int32))), .unset, .unset, .unset, .unset, .unset]) rfl) ?_
  show Go p e below T69 (mkF m 123 #[.val (.long q0), .second, .val (.long q1), .second, .val (.int p2), .val (.int p3), .val (.int (p3 &&& (1073741823 : Int32))), .val (.ref b1), .val (.ref b8), .val (.ref b60), .val (.int (p2 &&& (1 : Int32))), .unset, .unset, .unset, .unset, .unset] []) _
  refine stp (fun _ => XS.iload X69.here hx rfl (hb hby at_123) rfl) ?_
  show Go p e below T69 (mkF m 125 #[.val (.long q0), .second, .val (.long q1), .second, .val (.int p2), .val (.int p3), .val (.int (p3 &&& (1073741823 : Int32))), .val (.ref b1), .val (.ref b8), .val (.ref b60), .val (.int (p2 &&& (1 : Int32))), .unset, .unset, .unset, .unset, .unset] [(.int p2)]) _
  refine stp (fun _ => XS.iconst X69.here hx rfl (hb hby at_125)) ?_
  show Go p e below T69 (mkF m 126 #[.val (.long q0), .second, .val (.long q1), .second, .val (.int p2), .val (.int p3), .val (.int (p3 &&& (1073741823 : Int32))), .val (.ref b1), .val (.ref b8), .val (.ref b60), .val (.int (p2 &&& (1 : Int32))), .unset, .unset, .unset, .unset, .unset] [(.int (1 : Int32)), (.int p2)]) _
  refine stp (fun _ => XS.iushr X69.here hx rfl (hb hby at_126) rfl) ?_
  show Go p e below T69 (mkF m 127 #[.val (.long q0), .second, .val (.long q1), .second, .val (.int p2), .val (.int p3), .val (.int (p3 &&& (1073741823 : Int32))), .val (.ref b1), .val (.ref b8), .val (.ref b60), .val (.int (p2 &&& (1 : Int32))), .unset, .unset, .unset, .unset, .unset] [(.int ((p2.toUInt32 >>> ((1 : Int32) &&& 31).toUInt32).toInt32))]) _
  refine stp (fun _ => XS.iconst X69.here hx rfl (hb hby at_127)) ?_
  show Go p e below T69 (mkF m 128 #[.val (.long q0), .second, .val (.long q1), .second, .val (.int p2), .val (.int p3), .val (.int (p3 &&& (1073741823 : Int32))), .val (.ref b1), .val (.ref b8), .val (.ref b60), .val (.int (p2 &&& (1 : Int32))), .unset, .unset, .unset, .unset, .unset] [(.int (3 : Int32)), (.int ((p2.toUInt32 >>> ((1 : Int32) &&& 31).toUInt32).toInt32))]) _
  refine stp (fun _ => XS.iand X69.here hx rfl (hb hby at_128) rfl) ?_
  show Go p e below T69 (mkF m 129 #[.val (.long q0), .second, .val (.long q1), .second, .val (.int p2), .val (.int p3), .val (.int (p3 &&& (1073741823 : Int32))), .val (.ref b1), .val (.ref b8), .val (.ref b60), .val (.int (p2 &&& (1 : Int32))), .unset, .unset, .unset, .unset, .unset] [(.int (((p2.toUInt32 >>> ((1 : Int32) &&& 31).toUInt32).toInt32) &&& (3 : Int32)))]) _
  refine stp (fun _ => XS.istore X69.here hx rfl (hb hby at_129) rfl (l' := #[.val (.long q0), .second, .val (.long q1), .second, .val (.int p2), .val (.int p3), .val (.int (p3 &&& (1073741823 : Int32))), .val (.ref b1), .val (.ref b8), .val (.ref b60), .val (.int (p2 &&& (1 : Int32))), .val (.int (((p2.toUInt32 >>> ((1 : Int32) &&& 31).toUInt32).toInt32) &&& (3 : Int32))), .unset, .unset, .unset, .unset]) rfl) ?_
  show Go p e below T69 (mkF m 131 #[.val (.long q0), .second, .val (.long q1), .second, .val (.int p2), .val (.int p3), .val (.int (p3 &&& (1073741823 : Int32))), .val (.ref b1), .val (.ref b8), .val (.ref b60), .val (.int (p2 &&& (1 : Int32))), .val (.int (((p2.toUInt32 >>> ((1 : Int32) &&& 31).toUInt32).toInt32) &&& (3 : Int32))), .unset, .unset, .unset, .unset] []) _
  have hs74 : (((p2.toUInt32 >>> ((1 : Int32) &&& 31).toUInt32).toInt32) &&& (3 : Int32)) = (0 : Int32) ∨ (((p2.toUInt32 >>> ((1 : Int32) &&& 31).toUInt32).toInt32) &&& (3 : Int32)) = (1 : Int32) ∨ (((p2.toUInt32 >>> ((1 : Int32) &&& 31).toUInt32).toInt32) &&& (3 : Int32)) = (2 : Int32) ∨ (((p2.toUInt32 >>> ((1 : Int32) &&& 31).toUInt32).toInt32) &&& (3 : Int32)) = (3 : Int32) := and3_cases _
  rcases hs74 with hs74 | hs74 | hs74 | hs74
  · rw [hs74]
    show Go p e below T69 (mkF m 131 #[.val (.long q0), .second, .val (.long q1), .second, .val (.int p2), .val (.int p3), .val (.int (p3 &&& (1073741823 : Int32))), .val (.ref b1), .val (.ref b8), .val (.ref b60), .val (.int (p2 &&& (1 : Int32))), .val (.int (0 : Int32)), .unset, .unset, .unset, .unset] []) _
    refine stp (fun _ => XS.iload X69.here hx rfl (hb hby at_131) rfl) ?_
    show Go p e below T69 (mkF m 133 #[.val (.long q0), .second, .val (.long q1), .second, .val (.int p2), .val (.int p3), .val (.int (p3 &&& (1073741823 : Int32))), .val (.ref b1), .val (.ref b8), .val (.ref b60), .val (.int (p2 &&& (1 : Int32))), .val (.int (0 : Int32)), .unset, .unset, .unset, .unset] [(.int (0 : Int32))]) _
    obtain ⟨_, _, ⟨T75, L75, k75, n75⟩, -, X75, ⟨Lc75, hQ75, l75, y75, z75⟩, st75⟩ := Jvm.LawKit.callS X69 hx (y := (⟨"com/example/fetch_to_rank/fetchtorank/index/PostingsCountPinLaw", "typeOf", "(I)Lcom/example/fetch_to_rank/fetchtorank/index/HitType;"⟩ : MethodName)) hown (mvT hZ (hw _ (List.mem_of_getElem? (i := 31) rfl))) (mvT hZ (hw _ (List.mem_of_getElem? (i := 32) rfl))) (mvT hZ (hw _ (List.mem_of_getElem? (i := 4) rfl))) (mvT hZ (hw _ (List.mem_of_getElem? (i := 33) rfl))) (by decide) (backOf (W := 0) (rm_type l Z a0 hw [] (0 : Int32) title anchor url plain title T69.heap n0 O69 S_TITLE S_ANCHOR S_URL S_PLAIN ⟨fun _ => rfl, fun h => absurd h (by decide), fun h => absurd h (by decide), fun h0 h1 h2 => absurd rfl h0⟩) hZ (hw _ (List.mem_of_getElem? (i := 33) rfl)) (hw _ (List.mem_of_getElem? (i := 4) rfl)) (by decide) (by decide)) (g := (mkF m 133 #[.val (.long q0), .second, .val (.long q1), .second, .val (.int p2), .val (.int p3), .val (.int (p3 &&& (1073741823 : Int32))), .val (.ref b1), .val (.ref b8), .val (.ref b60), .val (.int (p2 &&& (1 : Int32))), .val (.int (0 : Int32)), .unset, .unset, .unset, .unset] [(.int (0 : Int32))])) rfl (by rw [hml]; rfl) (argsL := [(.int (0 : Int32))]) (rest := []) (lenOf pd_3 rfl) rfl (by show 2 * 0 + _ ≤ _; exact Nat.le_of_eq rfl) (hb hby at_133) (fun _ _ => ⟨rfl, rfl, (by decide : 5 + 0 ≤ _), (by decide : 22 + 0 ≤ _)⟩)
    dsimp only [Pt.U, Pt.locs, Pt.cells, Pt.slots] at X75 l75 y75 z75 st75 hQ75
    subst y75 z75
    obtain ⟨rfl, N75q, e75⟩ := hQ75
    have N75 : Fr n0 L75 := by rw [l75]; exact Fr.app N69 N75q
    refine stp st75 ?_
    show Go p e below T75 (mkF m 136 #[.val (.long q0), .second, .val (.long q1), .second, .val (.int p2), .val (.int p3), .val (.int (p3 &&& (1073741823 : Int32))), .val (.ref b1), .val (.ref b8), .val (.ref b60), .val (.int (p2 &&& (1 : Int32))), .val (.int (0 : Int32)), .unset, .unset, .unset, .unset] [(.ref title)]) _
    refine stp (fun _ => XS.astore X75.here hx rfl (hb hby at_136) rfl rfl (l' := #[.val (.long q0), .second, .val (.long q1), .second, .val (.int p2), .val (.int p3), .val (.int (p3 &&& (1073741823 : Int32))), .val (.ref b1), .val (.ref b8), .val (.ref b60), .val (.int (p2 &&& (1 : Int32))), .val (.int (0 : Int32)), .val (.ref title), .unset, .unset, .unset]) rfl) ?_
    show Go p e below T75 (mkF m 138 #[.val (.long q0), .second, .val (.long q1), .second, .val (.int p2), .val (.int p3), .val (.int (p3 &&& (1073741823 : Int32))), .val (.ref b1), .val (.ref b8), .val (.ref b60), .val (.int (p2 &&& (1 : Int32))), .val (.int (0 : Int32)), .val (.ref title), .unset, .unset, .unset] []) _
    have hs76 : (p2 &&& (1 : Int32)) = (0 : Int32) ∨ (p2 &&& (1 : Int32)) = (1 : Int32) := and1_cases _
    rcases hs76 with hs76 | hs76
    · rw [hs76]
      show Go p e below T75 (mkF m 138 #[.val (.long q0), .second, .val (.long q1), .second, .val (.int p2), .val (.int p3), .val (.int (p3 &&& (1073741823 : Int32))), .val (.ref b1), .val (.ref b8), .val (.ref b60), .val (.int (0 : Int32)), .val (.int (0 : Int32)), .val (.ref title), .unset, .unset, .unset] []) _
      refine stp (fun _ => XS.iload X75.here hx rfl (hb hby at_138) rfl) ?_
      show Go p e below T75 (mkF m 140 #[.val (.long q0), .second, .val (.long q1), .second, .val (.int p2), .val (.int p3), .val (.int (p3 &&& (1073741823 : Int32))), .val (.ref b1), .val (.ref b8), .val (.ref b60), .val (.int (0 : Int32)), .val (.int (0 : Int32)), .val (.ref title), .unset, .unset, .unset] [(.int (0 : Int32))]) _
      refine stp (fun _ => XS.ifNo X75.here hx rfl (hb hby at_140) rfl (by decide)) ?_
      show Go p e below T75 (mkF m 143 #[.val (.long q0), .second, .val (.long q1), .second, .val (.int p2), .val (.int p3), .val (.int (p3 &&& (1073741823 : Int32))), .val (.ref b1), .val (.ref b8), .val (.ref b60), .val (.int (0 : Int32)), .val (.int (0 : Int32)), .val (.ref title), .unset, .unset, .unset] []) _
      refine stp (fun _ => XS.lloadN X75.here hx rfl (hb hby at_143) rfl) ?_
      show Go p e below T75 (mkF m 144 #[.val (.long q0), .second, .val (.long q1), .second, .val (.int p2), .val (.int p3), .val (.int (p3 &&& (1073741823 : Int32))), .val (.ref b1), .val (.ref b8), .val (.ref b60), .val (.int (0 : Int32)), .val (.int (0 : Int32)), .val (.ref title), .unset, .unset, .unset] [(.long q0)]) _
      refine stp (fun _ => XS.goto X75.here hx rfl (pc0 := 144) (pc' := 148) rfl (hb hby at_144) (by decide) (by decide)) ?_
      show Go p e below T75 (mkF m 148 #[.val (.long q0), .second, .val (.long q1), .second, .val (.int p2), .val (.int p3), .val (.int (p3 &&& (1073741823 : Int32))), .val (.ref b1), .val (.ref b8), .val (.ref b60), .val (.int (0 : Int32)), .val (.int (0 : Int32)), .val (.ref title), .unset, .unset, .unset] [(.long q0)]) _
      refine stp (fun _ => XS.lstore X75.here hx rfl (hb hby at_148) rfl (l' := #[.val (.long q0), .second, .val (.long q1), .second, .val (.int p2), .val (.int p3), .val (.int (p3 &&& (1073741823 : Int32))), .val (.ref b1), .val (.ref b8), .val (.ref b60), .val (.int (0 : Int32)), .val (.int (0 : Int32)), .val (.ref title), .val (.long q0), .second, .unset]) rfl) ?_
      show Go p e below T75 (mkF m 150 #[.val (.long q0), .second, .val (.long q1), .second, .val (.int p2), .val (.int p3), .val (.int (p3 &&& (1073741823 : Int32))), .val (.ref b1), .val (.ref b8), .val (.ref b60), .val (.int (0 : Int32)), .val (.int (0 : Int32)), .val (.ref title), .val (.long q0), .second, .unset] []) _
      refine stp (fun _ => XS.lload X75.here hx rfl (hb hby at_150) rfl) ?_
      show Go p e below T75 (mkF m 152 #[.val (.long q0), .second, .val (.long q1), .second, .val (.int p2), .val (.int p3), .val (.int (p3 &&& (1073741823 : Int32))), .val (.ref b1), .val (.ref b8), .val (.ref b60), .val (.int (0 : Int32)), .val (.int (0 : Int32)), .val (.ref title), .val (.long q0), .second, .unset] [(.long q0)]) _
      refine stp (fun _ => XS.iload X75.here hx rfl (hb hby at_152) rfl) ?_
      show Go p e below T75 (mkF m 154 #[.val (.long q0), .second, .val (.long q1), .second, .val (.int p2), .val (.int p3), .val (.int (p3 &&& (1073741823 : Int32))), .val (.ref b1), .val (.ref b8), .val (.ref b60), .val (.int (0 : Int32)), .val (.int (0 : Int32)), .val (.ref title), .val (.long q0), .second, .unset] [(.int (0 : Int32)), (.long q0)]) _
      obtain ⟨_, _, ⟨T77, L77, k77, n77⟩, -, X77, ⟨Lc77, hQ77, l77, y77, z77⟩, st77⟩ := Jvm.LawKit.callS X75 hx (y := (⟨"com/example/fetch_to_rank/fetchtorank/index/PostingsCountPinLaw", "chunk", "(JI)I"⟩ : MethodName)) hown (mvT hZ (hw _ (List.mem_of_getElem? (i := 2) rfl))) (mvT hZ (hw _ (List.mem_of_getElem? (i := 3) rfl))) (mvT hZ (hw _ (List.mem_of_getElem? (i := 4) rfl))) (mvT hZ (hw _ (List.mem_of_getElem? (i := 5) rfl))) (by decide) (backOf (W := 0) (rm_chunk l Z a0 hw [] q0 (0 : Int32) T69.heap n0 O69 ) hZ (hw _ (List.mem_of_getElem? (i := 5) rfl)) (hw _ (List.mem_of_getElem? (i := 4) rfl)) (by decide) (by decide)) (g := (mkF m 154 #[.val (.long q0), .second, .val (.long q1), .second, .val (.int p2), .val (.int p3), .val (.int (p3 &&& (1073741823 : Int32))), .val (.ref b1), .val (.ref b8), .val (.ref b60), .val (.int (0 : Int32)), .val (.int (0 : Int32)), .val (.ref title), .val (.long q0), .second, .unset] [(.int (0 : Int32)), (.long q0)])) rfl (by rw [hml]; rfl) (argsL := [(.long q0), (.int (0 : Int32))]) (rest := []) (lenOf pd_1 rfl) rfl (by show 2 * 0 + _ ≤ _; exact Nat.le_of_eq rfl) (hb hby at_154) (fun _ _ => ⟨rfl, e75, (by decide : 5 + 0 ≤ _), (by decide : 22 + 0 ≤ _)⟩)
      dsimp only [Pt.U, Pt.locs, Pt.cells, Pt.slots] at X77 l77 y77 z77 st77 hQ77
      subst y77 z77
      obtain ⟨rfl, N77q, e77⟩ := hQ77
      have N77 : Fr n0 L77 := by rw [l77]; exact Fr.app N75 N77q
      refine stp st77 ?_
      show Go p e below T77 (mkF m 157 #[.val (.long q0), .second, .val (.long q1), .second, .val (.int p2), .val (.int p3), .val (.int (p3 &&& (1073741823 : Int32))), .val (.ref b1), .val (.ref b8), .val (.ref b60), .val (.int (0 : Int32)), .val (.int (0 : Int32)), .val (.ref title), .val (.long q0), .second, .unset] [(.int (own_chunk q0 (0 : Int32)))]) _
      refine stp (fun _ => XS.istore X77.here hx rfl (hb hby at_157) rfl (l' := #[.val (.long q0), .second, .val (.long q1), .second, .val (.int p2), .val (.int p3), .val (.int (p3 &&& (1073741823 : Int32))), .val (.ref b1), .val (.ref b8), .val (.ref b60), .val (.int (0 : Int32)), .val (.int (0 : Int32)), .val (.ref title), .val (.long q0), .second, .val (.int (own_chunk q0 (0 : Int32)))]) rfl) ?_
      show Go p e below T77 (mkF m 159 #[.val (.long q0), .second, .val (.long q1), .second, .val (.int p2), .val (.int p3), .val (.int (p3 &&& (1073741823 : Int32))), .val (.ref b1), .val (.ref b8), .val (.ref b60), .val (.int (0 : Int32)), .val (.int (0 : Int32)), .val (.ref title), .val (.long q0), .second, .val (.int (own_chunk q0 (0 : Int32)))] []) _
      refine stp (fun _ => XS.aload X77.here hx rfl (hb hby at_159) rfl rfl) ?_
      show Go p e below T77 (mkF m 161 #[.val (.long q0), .second, .val (.long q1), .second, .val (.int p2), .val (.int p3), .val (.int (p3 &&& (1073741823 : Int32))), .val (.ref b1), .val (.ref b8), .val (.ref b60), .val (.int (0 : Int32)), .val (.int (0 : Int32)), .val (.ref title), .val (.long q0), .second, .val (.int (own_chunk q0 (0 : Int32)))] [(.ref b60)]) _
      refine stp (fun _ => XS.iload X77.here hx rfl (hb hby at_161) rfl) ?_
      show Go p e below T77 (mkF m 163 #[.val (.long q0), .second, .val (.long q1), .second, .val (.int p2), .val (.int p3), .val (.int (p3 &&& (1073741823 : Int32))), .val (.ref b1), .val (.ref b8), .val (.ref b60), .val (.int (0 : Int32)), .val (.int (0 : Int32)), .val (.ref title), .val (.long q0), .second, .val (.int (own_chunk q0 (0 : Int32)))] [(.int (0 : Int32)), (.ref b60)]) _
      refine stp (fun _ => XS.aload X77.here hx rfl (hb hby at_163) rfl rfl) ?_
      show Go p e below T77 (mkF m 165 #[.val (.long q0), .second, .val (.long q1), .second, .val (.int p2), .val (.int p3), .val (.int (p3 &&& (1073741823 : Int32))), .val (.ref b1), .val (.ref b8), .val (.ref b60), .val (.int (0 : Int32)), .val (.int (0 : Int32)), .val (.ref title), .val (.long q0), .second, .val (.int (own_chunk q0 (0 : Int32)))] [(.ref title), (.int (0 : Int32)), (.ref b60)]) _
      obtain ⟨cq78, kq78, q78a, q78b, q78c⟩ := isOf hZ e77 E69q
      obtain ⟨_, _, ⟨T78, L78, k78, n78⟩, -, X78, ⟨Lc78, hQ78, l78, y78, z78⟩, st78⟩ := X77.virtualBack hx (y := (⟨"com/example/fetch_to_rank/fetchtorank/index/Postings", "count", "(ILcom/example/fetch_to_rank/fetchtorank/index/HitType;)I"⟩ : MethodName)) (z := (⟨"com/example/fetch_to_rank/fetchtorank/index/Postings", "count", "(ILcom/example/fetch_to_rank/fetchtorank/index/HitType;)I"⟩ : MethodName)) hown (mvT hZ (hw _ (List.mem_of_getElem? (i := 37) rfl))) (mvT hZ (hw _ (List.mem_of_getElem? (i := 38) rfl))) (notFace_of_selects (args := #[]) (mvT hZ (hw _ (List.mem_of_getElem? (i := 40) rfl)))) (mvT hZ (hw _ (List.mem_of_getElem? (i := 40) rfl))) (mvT hZ (hw _ (List.mem_of_getElem? (i := 39) rfl))) (by decide) (backOf (W := 0) (rm_count l Z a0 hw [] b60 (0 : Int32) title b69 k8 (0 : Int32) (own_chunk q0 (0 : Int32)) (own_chunk q0 (0 : Int32)) (own_chunk q0 (1 : Int32)) (own_chunk q0 (2 : Int32)) (own_chunk q0 (3 : Int32)) (own_chunk q1 (0 : Int32)) (own_chunk q1 (1 : Int32)) (own_chunk q1 (2 : Int32)) (own_chunk q1 (3 : Int32)) T69.heap n0 O69 F69q V69q E_TITLE F_TITLE (by decide) rfl S_TYPES) hZ (hw _ (List.mem_of_getElem? (i := 41) rfl)) (hw _ (List.mem_of_getElem? (i := 9) rfl)) (by decide) (by decide)) q78a q78c (g := (mkF m 165 #[.val (.long q0), .second, .val (.long q1), .second, .val (.int p2), .val (.int p3), .val (.int (p3 &&& (1073741823 : Int32))), .val (.ref b1), .val (.ref b8), .val (.ref b60), .val (.int (0 : Int32)), .val (.int (0 : Int32)), .val (.ref title), .val (.long q0), .second, .val (.int (own_chunk q0 (0 : Int32)))] [(.ref title), (.int (0 : Int32)), (.ref b60)])) rfl (by rw [hml]; rfl) (Steps.refl _) (argsL := [(.int (0 : Int32)), (.ref title)]) (rest := []) (lenOf pd_4 rfl) rfl (by show 2 * 0 + _ ≤ _; exact Nat.le_of_eq rfl) (hb hby at_165) (fun _ _ => ⟨rfl, e77, (by decide : 5 + 0 ≤ _), (by decide : 22 + 0 ≤ _)⟩)
      dsimp only [Pt.U, Pt.locs, Pt.cells, Pt.slots] at X78 l78 y78 z78 st78 hQ78
      subst y78 z78
      obtain ⟨rfl, N78q, e78⟩ := hQ78
      have N78 : Fr n0 L78 := by rw [l78]; exact Fr.app N77 N78q
      refine stt st78 ?_
      show Go p e below T78 (mkF m 168 #[.val (.long q0), .second, .val (.long q1), .second, .val (.int p2), .val (.int p3), .val (.int (p3 &&& (1073741823 : Int32))), .val (.ref b1), .val (.ref b8), .val (.ref b60), .val (.int (0 : Int32)), .val (.int (0 : Int32)), .val (.ref title), .val (.long q0), .second, .val (.int (own_chunk q0 (0 : Int32)))] [(.int (own_chunk q0 (0 : Int32)))]) _
      refine stp (fun _ => XS.iload X78.here hx rfl (hb hby at_168) rfl) ?_
      show Go p e below T78 (mkF m 170 #[.val (.long q0), .second, .val (.long q1), .second, .val (.int p2), .val (.int p3), .val (.int (p3 &&& (1073741823 : Int32))), .val (.ref b1), .val (.ref b8), .val (.ref b60), .val (.int (0 : Int32)), .val (.int (0 : Int32)), .val (.ref title), .val (.long q0), .second, .val (.int (own_chunk q0 (0 : Int32)))] [(.int (own_chunk q0 (0 : Int32))), (.int (own_chunk q0 (0 : Int32)))]) _
      refine stp (fun _ => XS.icmpNo X78.here hx rfl (hb hby at_170) rfl (XT.ii_ne_f rfl)) ?_
      show Go p e below T78 (mkF m 173 #[.val (.long q0), .second, .val (.long q1), .second, .val (.int p2), .val (.int p3), .val (.int (p3 &&& (1073741823 : Int32))), .val (.ref b1), .val (.ref b8), .val (.ref b60), .val (.int (0 : Int32)), .val (.int (0 : Int32)), .val (.ref title), .val (.long q0), .second, .val (.int (own_chunk q0 (0 : Int32)))] []) _
      refine stp (fun _ => XS.iconst X78.here hx rfl (hb hby at_173)) ?_
      show Go p e below T78 (mkF m 174 #[.val (.long q0), .second, .val (.long q1), .second, .val (.int p2), .val (.int p3), .val (.int (p3 &&& (1073741823 : Int32))), .val (.ref b1), .val (.ref b8), .val (.ref b60), .val (.int (0 : Int32)), .val (.int (0 : Int32)), .val (.ref title), .val (.long q0), .second, .val (.int (own_chunk q0 (0 : Int32)))] [(.int (1 : Int32))]) _
      refine stp (fun _ => XS.goto X78.here hx rfl (pc0 := 174) (pc' := 178) rfl (hb hby at_174) (by decide) (by decide)) ?_
      show Go p e below T78 (mkF m 178 #[.val (.long q0), .second, .val (.long q1), .second, .val (.int p2), .val (.int p3), .val (.int (p3 &&& (1073741823 : Int32))), .val (.ref b1), .val (.ref b8), .val (.ref b60), .val (.int (0 : Int32)), .val (.int (0 : Int32)), .val (.ref title), .val (.long q0), .second, .val (.int (own_chunk q0 (0 : Int32)))] [(.int (1 : Int32))]) _
      refine outN X78 hx (t := .boolean) hret (by simp) (hb hby at_178) hlk (by decide) (by decide) ?_
      exact ⟨rfl, N78⟩
    · rw [hs76]
      show Go p e below T75 (mkF m 138 #[.val (.long q0), .second, .val (.long q1), .second, .val (.int p2), .val (.int p3), .val (.int (p3 &&& (1073741823 : Int32))), .val (.ref b1), .val (.ref b8), .val (.ref b60), .val (.int (1 : Int32)), .val (.int (0 : Int32)), .val (.ref title), .unset, .unset, .unset] []) _
      refine stp (fun _ => XS.iload X75.here hx rfl (hb hby at_138) rfl) ?_
      show Go p e below T75 (mkF m 140 #[.val (.long q0), .second, .val (.long q1), .second, .val (.int p2), .val (.int p3), .val (.int (p3 &&& (1073741823 : Int32))), .val (.ref b1), .val (.ref b8), .val (.ref b60), .val (.int (1 : Int32)), .val (.int (0 : Int32)), .val (.ref title), .unset, .unset, .unset] [(.int (1 : Int32))]) _
      refine stp (fun _ => XS.ifYes X75.here hx rfl (pc0 := 140) (pc' := 147) rfl (hb hby at_140) rfl (by decide) (by decide) (by decide)) ?_
      show Go p e below T75 (mkF m 147 #[.val (.long q0), .second, .val (.long q1), .second, .val (.int p2), .val (.int p3), .val (.int (p3 &&& (1073741823 : Int32))), .val (.ref b1), .val (.ref b8), .val (.ref b60), .val (.int (1 : Int32)), .val (.int (0 : Int32)), .val (.ref title), .unset, .unset, .unset] []) _
      refine stp (fun _ => XS.lloadN X75.here hx rfl (hb hby at_147) rfl) ?_
      show Go p e below T75 (mkF m 148 #[.val (.long q0), .second, .val (.long q1), .second, .val (.int p2), .val (.int p3), .val (.int (p3 &&& (1073741823 : Int32))), .val (.ref b1), .val (.ref b8), .val (.ref b60), .val (.int (1 : Int32)), .val (.int (0 : Int32)), .val (.ref title), .unset, .unset, .unset] [(.long q1)]) _
      refine stp (fun _ => XS.lstore X75.here hx rfl (hb hby at_148) rfl (l' := #[.val (.long q0), .second, .val (.long q1), .second, .val (.int p2), .val (.int p3), .val (.int (p3 &&& (1073741823 : Int32))), .val (.ref b1), .val (.ref b8), .val (.ref b60), .val (.int (1 : Int32)), .val (.int (0 : Int32)), .val (.ref title), .val (.long q1), .second, .unset]) rfl) ?_
      show Go p e below T75 (mkF m 150 #[.val (.long q0), .second, .val (.long q1), .second, .val (.int p2), .val (.int p3), .val (.int (p3 &&& (1073741823 : Int32))), .val (.ref b1), .val (.ref b8), .val (.ref b60), .val (.int (1 : Int32)), .val (.int (0 : Int32)), .val (.ref title), .val (.long q1), .second, .unset] []) _
      refine stp (fun _ => XS.lload X75.here hx rfl (hb hby at_150) rfl) ?_
      show Go p e below T75 (mkF m 152 #[.val (.long q0), .second, .val (.long q1), .second, .val (.int p2), .val (.int p3), .val (.int (p3 &&& (1073741823 : Int32))), .val (.ref b1), .val (.ref b8), .val (.ref b60), .val (.int (1 : Int32)), .val (.int (0 : Int32)), .val (.ref title), .val (.long q1), .second, .unset] [(.long q1)]) _
      refine stp (fun _ => XS.iload X75.here hx rfl (hb hby at_152) rfl) ?_
      show Go p e below T75 (mkF m 154 #[.val (.long q0), .second, .val (.long q1), .second, .val (.int p2), .val (.int p3), .val (.int (p3 &&& (1073741823 : Int32))), .val (.ref b1), .val (.ref b8), .val (.ref b60), .val (.int (1 : Int32)), .val (.int (0 : Int32)), .val (.ref title), .val (.long q1), .second, .unset] [(.int (0 : Int32)), (.long q1)]) _
      obtain ⟨_, _, ⟨T79, L79, k79, n79⟩, -, X79, ⟨Lc79, hQ79, l79, y79, z79⟩, st79⟩ := Jvm.LawKit.callS X75 hx (y := (⟨"com/example/fetch_to_rank/fetchtorank/index/PostingsCountPinLaw", "chunk", "(JI)I"⟩ : MethodName)) hown (mvT hZ (hw _ (List.mem_of_getElem? (i := 2) rfl))) (mvT hZ (hw _ (List.mem_of_getElem? (i := 3) rfl))) (mvT hZ (hw _ (List.mem_of_getElem? (i := 4) rfl))) (mvT hZ (hw _ (List.mem_of_getElem? (i := 5) rfl))) (by decide) (backOf (W := 0) (rm_chunk l Z a0 hw [] q1 (0 : Int32) T69.heap n0 O69 ) hZ (hw _ (List.mem_of_getElem? (i := 5) rfl)) (hw _ (List.mem_of_getElem? (i := 4) rfl)) (by decide) (by decide)) (g := (mkF m 154 #[.val (.long q0), .second, .val (.long q1), .second, .val (.int p2), .val (.int p3), .val (.int (p3 &&& (1073741823 : Int32))), .val (.ref b1), .val (.ref b8), .val (.ref b60), .val (.int (1 : Int32)), .val (.int (0 : Int32)), .val (.ref title), .val (.long q1), .second, .unset] [(.int (0 : Int32)), (.long q1)])) rfl (by rw [hml]; rfl) (argsL := [(.long q1), (.int (0 : Int32))]) (rest := []) (lenOf pd_1 rfl) rfl (by show 2 * 0 + _ ≤ _; exact Nat.le_of_eq rfl) (hb hby at_154) (fun _ _ => ⟨rfl, e75, (by decide : 5 + 0 ≤ _), (by decide : 22 + 0 ≤ _)⟩)
      dsimp only [Pt.U, Pt.locs, Pt.cells, Pt.slots] at X79 l79 y79 z79 st79 hQ79
      subst y79 z79
      obtain ⟨rfl, N79q, e79⟩ := hQ79
      have N79 : Fr n0 L79 := by rw [l79]; exact Fr.app N75 N79q
      refine stp st79 ?_
      show Go p e below T79 (mkF m 157 #[.val (.long q0), .second, .val (.long q1), .second, .val (.int p2), .val (.int p3), .val (.int (p3 &&& (1073741823 : Int32))), .val (.ref b1), .val (.ref b8), .val (.ref b60), .val (.int (1 : Int32)), .val (.int (0 : Int32)), .val (.ref title), .val (.long q1), .second, .unset] [(.int (own_chunk q1 (0 : Int32)))]) _
      refine stp (fun _ => XS.istore X79.here hx rfl (hb hby at_157) rfl (l' := #[.val (.long q0), .second, .val (.long q1), .second, .val (.int p2), .val (.int p3), .val (.int (p3 &&& (1073741823 : Int32))), .val (.ref b1), .val (.ref b8), .val (.ref b60), .val (.int (1 : Int32)), .val (.int (0 : Int32)), .val (.ref title), .val (.long q1), .second, .val (.int (own_chunk q1 (0 : Int32)))]) rfl) ?_
      show Go p e below T79 (mkF m 159 #[.val (.long q0), .second, .val (.long q1), .second, .val (.int p2), .val (.int p3), .val (.int (p3 &&& (1073741823 : Int32))), .val (.ref b1), .val (.ref b8), .val (.ref b60), .val (.int (1 : Int32)), .val (.int (0 : Int32)), .val (.ref title), .val (.long q1), .second, .val (.int (own_chunk q1 (0 : Int32)))] []) _
      refine stp (fun _ => XS.aload X79.here hx rfl (hb hby at_159) rfl rfl) ?_
      show Go p e below T79 (mkF m 161 #[.val (.long q0), .second, .val (.long q1), .second, .val (.int p2), .val (.int p3), .val (.int (p3 &&& (1073741823 : Int32))), .val (.ref b1), .val (.ref b8), .val (.ref b60), .val (.int (1 : Int32)), .val (.int (0 : Int32)), .val (.ref title), .val (.long q1), .second, .val (.int (own_chunk q1 (0 : Int32)))] [(.ref b60)]) _
      refine stp (fun _ => XS.iload X79.here hx rfl (hb hby at_161) rfl) ?_
      show Go p e below T79 (mkF m 163 #[.val (.long q0), .second, .val (.long q1), .second, .val (.int p2), .val (.int p3), .val (.int (p3 &&& (1073741823 : Int32))), .val (.ref b1), .val (.ref b8), .val (.ref b60), .val (.int (1 : Int32)), .val (.int (0 : Int32)), .val (.ref title), .val (.long q1), .second, .val (.int (own_chunk q1 (0 : Int32)))] [(.int (1 : Int32)), (.ref b60)]) _
      refine stp (fun _ => XS.aload X79.here hx rfl (hb hby at_163) rfl rfl) ?_
      show Go p e below T79 (mkF m 165 #[.val (.long q0), .second, .val (.long q1), .second, .val (.int p2), .val (.int p3), .val (.int (p3 &&& (1073741823 : Int32))), .val (.ref b1), .val (.ref b8), .val (.ref b60), .val (.int (1 : Int32)), .val (.int (0 : Int32)), .val (.ref title), .val (.long q1), .second, .val (.int (own_chunk q1 (0 : Int32)))] [(.ref title), (.int (1 : Int32)), (.ref b60)]) _
      obtain ⟨cq80, kq80, q80a, q80b, q80c⟩ := isOf hZ e79 E69q
      obtain ⟨_, _, ⟨T80, L80, k80, n80⟩, -, X80, ⟨Lc80, hQ80, l80, y80, z80⟩, st80⟩ := X79.virtualBack hx (y := (⟨"com/example/fetch_to_rank/fetchtorank/index/Postings", "count", "(ILcom/example/fetch_to_rank/fetchtorank/index/HitType;)I"⟩ : MethodName)) (z := (⟨"com/example/fetch_to_rank/fetchtorank/index/Postings", "count", "(ILcom/example/fetch_to_rank/fetchtorank/index/HitType;)I"⟩ : MethodName)) hown (mvT hZ (hw _ (List.mem_of_getElem? (i := 37) rfl))) (mvT hZ (hw _ (List.mem_of_getElem? (i := 38) rfl))) (notFace_of_selects (args := #[]) (mvT hZ (hw _ (List.mem_of_getElem? (i := 40) rfl)))) (mvT hZ (hw _ (List.mem_of_getElem? (i := 40) rfl))) (mvT hZ (hw _ (List.mem_of_getElem? (i := 39) rfl))) (by decide) (backOf (W := 0) (rm_count l Z a0 hw [] b60 (1 : Int32) title b69 k8 (0 : Int32) (own_chunk q1 (0 : Int32)) (own_chunk q0 (0 : Int32)) (own_chunk q0 (1 : Int32)) (own_chunk q0 (2 : Int32)) (own_chunk q0 (3 : Int32)) (own_chunk q1 (0 : Int32)) (own_chunk q1 (1 : Int32)) (own_chunk q1 (2 : Int32)) (own_chunk q1 (3 : Int32)) T69.heap n0 O69 F69q V69q E_TITLE F_TITLE (by decide) rfl S_TYPES) hZ (hw _ (List.mem_of_getElem? (i := 41) rfl)) (hw _ (List.mem_of_getElem? (i := 9) rfl)) (by decide) (by decide)) q80a q80c (g := (mkF m 165 #[.val (.long q0), .second, .val (.long q1), .second, .val (.int p2), .val (.int p3), .val (.int (p3 &&& (1073741823 : Int32))), .val (.ref b1), .val (.ref b8), .val (.ref b60), .val (.int (1 : Int32)), .val (.int (0 : Int32)), .val (.ref title), .val (.long q1), .second, .val (.int (own_chunk q1 (0 : Int32)))] [(.ref title), (.int (1 : Int32)), (.ref b60)])) rfl (by rw [hml]; rfl) (Steps.refl _) (argsL := [(.int (1 : Int32)), (.ref title)]) (rest := []) (lenOf pd_4 rfl) rfl (by show 2 * 0 + _ ≤ _; exact Nat.le_of_eq rfl) (hb hby at_165) (fun _ _ => ⟨rfl, e79, (by decide : 5 + 0 ≤ _), (by decide : 22 + 0 ≤ _)⟩)
      dsimp only [Pt.U, Pt.locs, Pt.cells, Pt.slots] at X80 l80 y80 z80 st80 hQ80
      subst y80 z80
      obtain ⟨rfl, N80q, e80⟩ := hQ80
      have N80 : Fr n0 L80 := by rw [l80]; exact Fr.app N79 N80q
      refine stt st80 ?_
      show Go p e below T80 (mkF m 168 #[.val (.long q0), .second, .val (.long q1), .second, .val (.int p2), .val (.int p3), .val (.int (p3 &&& (1073741823 : Int32))), .val (.ref b1), .val (.ref b8), .val (.ref b60), .val (.int (1 : Int32)), .val (.int (0 : Int32)), .val (.ref title), .val (.long q1), .second, .val (.int (own_chunk q1 (0 : Int32)))] [(.int (own_chunk q1 (0 : Int32)))]) _
      refine stp (fun _ => XS.iload X80.here hx rfl (hb hby at_168) rfl) ?_
      show Go p e below T80 (mkF m 170 #[.val (.long q0), .second, .val (.long q1), .second, .val (.int p2), .val (.int p3), .val (.int (p3 &&& (1073741823 : Int32))), .val (.ref b1), .val (.ref b8), .val (.ref b60), .val (.int (1 : Int32)), .val (.int (0 : Int32)), .val (.ref title), .val (.long q1), .second, .val (.int (own_chunk q1 (0 : Int32)))] [(.int (own_chunk q1 (0 : Int32))), (.int (own_chunk q1 (0 : Int32)))]) _
      refine stp (fun _ => XS.icmpNo X80.here hx rfl (hb hby at_170) rfl (XT.ii_ne_f rfl)) ?_
      show Go p e below T80 (mkF m 173 #[.val (.long q0), .second, .val (.long q1), .second, .val (.int p2), .val (.int p3), .val (.int (p3 &&& (1073741823 : Int32))), .val (.ref b1), .val (.ref b8), .val (.ref b60), .val (.int (1 : Int32)), .val (.int (0 : Int32)), .val (.ref title), .val (.long q1), .second, .val (.int (own_chunk q1 (0 : Int32)))] []) _
      refine stp (fun _ => XS.iconst X80.here hx rfl (hb hby at_173)) ?_
      show Go p e below T80 (mkF m 174 #[.val (.long q0), .second, .val (.long q1), .second, .val (.int p2), .val (.int p3), .val (.int (p3 &&& (1073741823 : Int32))), .val (.ref b1), .val (.ref b8), .val (.ref b60), .val (.int (1 : Int32)), .val (.int (0 : Int32)), .val (.ref title), .val (.long q1), .second, .val (.int (own_chunk q1 (0 : Int32)))] [(.int (1 : Int32))]) _
      refine stp (fun _ => XS.goto X80.here hx rfl (pc0 := 174) (pc' := 178) rfl (hb hby at_174) (by decide) (by decide)) ?_
      show Go p e below T80 (mkF m 178 #[.val (.long q0), .second, .val (.long q1), .second, .val (.int p2), .val (.int p3), .val (.int (p3 &&& (1073741823 : Int32))), .val (.ref b1), .val (.ref b8), .val (.ref b60), .val (.int (1 : Int32)), .val (.int (0 : Int32)), .val (.ref title), .val (.long q1), .second, .val (.int (own_chunk q1 (0 : Int32)))] [(.int (1 : Int32))]) _
      refine outN X80 hx (t := .boolean) hret (by simp) (hb hby at_178) hlk (by decide) (by decide) ?_
      exact ⟨rfl, N80⟩
  · rw [hs74]
    show Go p e below T69 (mkF m 131 #[.val (.long q0), .second, .val (.long q1), .second, .val (.int p2), .val (.int p3), .val (.int (p3 &&& (1073741823 : Int32))), .val (.ref b1), .val (.ref b8), .val (.ref b60), .val (.int (p2 &&& (1 : Int32))), .val (.int (1 : Int32)), .unset, .unset, .unset, .unset] []) _
    refine stp (fun _ => XS.iload X69.here hx rfl (hb hby at_131) rfl) ?_
    show Go p e below T69 (mkF m 133 #[.val (.long q0), .second, .val (.long q1), .second, .val (.int p2), .val (.int p3), .val (.int (p3 &&& (1073741823 : Int32))), .val (.ref b1), .val (.ref b8), .val (.ref b60), .val (.int (p2 &&& (1 : Int32))), .val (.int (1 : Int32)), .unset, .unset, .unset, .unset] [(.int (1 : Int32))]) _
    obtain ⟨_, _, ⟨T81, L81, k81, n81⟩, -, X81, ⟨Lc81, hQ81, l81, y81, z81⟩, st81⟩ := Jvm.LawKit.callS X69 hx (y := (⟨"com/example/fetch_to_rank/fetchtorank/index/PostingsCountPinLaw", "typeOf", "(I)Lcom/example/fetch_to_rank/fetchtorank/index/HitType;"⟩ : MethodName)) hown (mvT hZ (hw _ (List.mem_of_getElem? (i := 31) rfl))) (mvT hZ (hw _ (List.mem_of_getElem? (i := 32) rfl))) (mvT hZ (hw _ (List.mem_of_getElem? (i := 4) rfl))) (mvT hZ (hw _ (List.mem_of_getElem? (i := 33) rfl))) (by decide) (backOf (W := 0) (rm_type l Z a0 hw [] (1 : Int32) title anchor url plain anchor T69.heap n0 O69 S_TITLE S_ANCHOR S_URL S_PLAIN ⟨fun h => absurd h (by decide), fun _ => rfl, fun h => absurd h (by decide), fun h0 h1 h2 => absurd rfl h1⟩) hZ (hw _ (List.mem_of_getElem? (i := 33) rfl)) (hw _ (List.mem_of_getElem? (i := 4) rfl)) (by decide) (by decide)) (g := (mkF m 133 #[.val (.long q0), .second, .val (.long q1), .second, .val (.int p2), .val (.int p3), .val (.int (p3 &&& (1073741823 : Int32))), .val (.ref b1), .val (.ref b8), .val (.ref b60), .val (.int (p2 &&& (1 : Int32))), .val (.int (1 : Int32)), .unset, .unset, .unset, .unset] [(.int (1 : Int32))])) rfl (by rw [hml]; rfl) (argsL := [(.int (1 : Int32))]) (rest := []) (lenOf pd_3 rfl) rfl (by show 2 * 0 + _ ≤ _; exact Nat.le_of_eq rfl) (hb hby at_133) (fun _ _ => ⟨rfl, rfl, (by decide : 5 + 0 ≤ _), (by decide : 22 + 0 ≤ _)⟩)
    dsimp only [Pt.U, Pt.locs, Pt.cells, Pt.slots] at X81 l81 y81 z81 st81 hQ81
    subst y81 z81
    obtain ⟨rfl, N81q, e81⟩ := hQ81
    have N81 : Fr n0 L81 := by rw [l81]; exact Fr.app N69 N81q
    refine stp st81 ?_
    show Go p e below T81 (mkF m 136 #[.val (.long q0), .second, .val (.long q1), .second, .val (.int p2), .val (.int p3), .val (.int (p3 &&& (1073741823 : Int32))), .val (.ref b1), .val (.ref b8), .val (.ref b60), .val (.int (p2 &&& (1 : Int32))), .val (.int (1 : Int32)), .unset, .unset, .unset, .unset] [(.ref anchor)]) _
    refine stp (fun _ => XS.astore X81.here hx rfl (hb hby at_136) rfl rfl (l' := #[.val (.long q0), .second, .val (.long q1), .second, .val (.int p2), .val (.int p3), .val (.int (p3 &&& (1073741823 : Int32))), .val (.ref b1), .val (.ref b8), .val (.ref b60), .val (.int (p2 &&& (1 : Int32))), .val (.int (1 : Int32)), .val (.ref anchor), .unset, .unset, .unset]) rfl) ?_
    show Go p e below T81 (mkF m 138 #[.val (.long q0), .second, .val (.long q1), .second, .val (.int p2), .val (.int p3), .val (.int (p3 &&& (1073741823 : Int32))), .val (.ref b1), .val (.ref b8), .val (.ref b60), .val (.int (p2 &&& (1 : Int32))), .val (.int (1 : Int32)), .val (.ref anchor), .unset, .unset, .unset] []) _
    have hs82 : (p2 &&& (1 : Int32)) = (0 : Int32) ∨ (p2 &&& (1 : Int32)) = (1 : Int32) := and1_cases _
    rcases hs82 with hs82 | hs82
    · rw [hs82]
      show Go p e below T81 (mkF m 138 #[.val (.long q0), .second, .val (.long q1), .second, .val (.int p2), .val (.int p3), .val (.int (p3 &&& (1073741823 : Int32))), .val (.ref b1), .val (.ref b8), .val (.ref b60), .val (.int (0 : Int32)), .val (.int (1 : Int32)), .val (.ref anchor), .unset, .unset, .unset] []) _
      refine stp (fun _ => XS.iload X81.here hx rfl (hb hby at_138) rfl) ?_
      show Go p e below T81 (mkF m 140 #[.val (.long q0), .second, .val (.long q1), .second, .val (.int p2), .val (.int p3), .val (.int (p3 &&& (1073741823 : Int32))), .val (.ref b1), .val (.ref b8), .val (.ref b60), .val (.int (0 : Int32)), .val (.int (1 : Int32)), .val (.ref anchor), .unset, .unset, .unset] [(.int (0 : Int32))]) _
      refine stp (fun _ => XS.ifNo X81.here hx rfl (hb hby at_140) rfl (by decide)) ?_
      show Go p e below T81 (mkF m 143 #[.val (.long q0), .second, .val (.long q1), .second, .val (.int p2), .val (.int p3), .val (.int (p3 &&& (1073741823 : Int32))), .val (.ref b1), .val (.ref b8), .val (.ref b60), .val (.int (0 : Int32)), .val (.int (1 : Int32)), .val (.ref anchor), .unset, .unset, .unset] []) _
      refine stp (fun _ => XS.lloadN X81.here hx rfl (hb hby at_143) rfl) ?_
      show Go p e below T81 (mkF m 144 #[.val (.long q0), .second, .val (.long q1), .second, .val (.int p2), .val (.int p3), .val (.int (p3 &&& (1073741823 : Int32))), .val (.ref b1), .val (.ref b8), .val (.ref b60), .val (.int (0 : Int32)), .val (.int (1 : Int32)), .val (.ref anchor), .unset, .unset, .unset] [(.long q0)]) _
      refine stp (fun _ => XS.goto X81.here hx rfl (pc0 := 144) (pc' := 148) rfl (hb hby at_144) (by decide) (by decide)) ?_
      show Go p e below T81 (mkF m 148 #[.val (.long q0), .second, .val (.long q1), .second, .val (.int p2), .val (.int p3), .val (.int (p3 &&& (1073741823 : Int32))), .val (.ref b1), .val (.ref b8), .val (.ref b60), .val (.int (0 : Int32)), .val (.int (1 : Int32)), .val (.ref anchor), .unset, .unset, .unset] [(.long q0)]) _
      refine stp (fun _ => XS.lstore X81.here hx rfl (hb hby at_148) rfl (l' := #[.val (.long q0), .second, .val (.long q1), .second, .val (.int p2), .val (.int p3), .val (.int (p3 &&& (1073741823 : Int32))), .val (.ref b1), .val (.ref b8), .val (.ref b60), .val (.int (0 : Int32)), .val (.int (1 : Int32)), .val (.ref anchor), .val (.long q0), .second, .unset]) rfl) ?_
      show Go p e below T81 (mkF m 150 #[.val (.long q0), .second, .val (.long q1), .second, .val (.int p2), .val (.int p3), .val (.int (p3 &&& (1073741823 : Int32))), .val (.ref b1), .val (.ref b8), .val (.ref b60), .val (.int (0 : Int32)), .val (.int (1 : Int32)), .val (.ref anchor), .val (.long q0), .second, .unset] []) _
      refine stp (fun _ => XS.lload X81.here hx rfl (hb hby at_150) rfl) ?_
      show Go p e below T81 (mkF m 152 #[.val (.long q0), .second, .val (.long q1), .second, .val (.int p2), .val (.int p3), .val (.int (p3 &&& (1073741823 : Int32))), .val (.ref b1), .val (.ref b8), .val (.ref b60), .val (.int (0 : Int32)), .val (.int (1 : Int32)), .val (.ref anchor), .val (.long q0), .second, .unset] [(.long q0)]) _
      refine stp (fun _ => XS.iload X81.here hx rfl (hb hby at_152) rfl) ?_
      show Go p e below T81 (mkF m 154 #[.val (.long q0), .second, .val (.long q1), .second, .val (.int p2), .val (.int p3), .val (.int (p3 &&& (1073741823 : Int32))), .val (.ref b1), .val (.ref b8), .val (.ref b60), .val (.int (0 : Int32)), .val (.int (1 : Int32)), .val (.ref anchor), .val (.long q0), .second, .unset] [(.int (1 : Int32)), (.long q0)]) _
      obtain ⟨_, _, ⟨T83, L83, k83, n83⟩, -, X83, ⟨Lc83, hQ83, l83, y83, z83⟩, st83⟩ := Jvm.LawKit.callS X81 hx (y := (⟨"com/example/fetch_to_rank/fetchtorank/index/PostingsCountPinLaw", "chunk", "(JI)I"⟩ : MethodName)) hown (mvT hZ (hw _ (List.mem_of_getElem? (i := 2) rfl))) (mvT hZ (hw _ (List.mem_of_getElem? (i := 3) rfl))) (mvT hZ (hw _ (List.mem_of_getElem? (i := 4) rfl))) (mvT hZ (hw _ (List.mem_of_getElem? (i := 5) rfl))) (by decide) (backOf (W := 0) (rm_chunk l Z a0 hw [] q0 (1 : Int32) T69.heap n0 O69 ) hZ (hw _ (List.mem_of_getElem? (i := 5) rfl)) (hw _ (List.mem_of_getElem? (i := 4) rfl)) (by decide) (by decide)) (g := (mkF m 154 #[.val (.long q0), .second, .val (.long q1), .second, .val (.int p2), .val (.int p3), .val (.int (p3 &&& (1073741823 : Int32))), .val (.ref b1), .val (.ref b8), .val (.ref b60), .val (.int (0 : Int32)), .val (.int (1 : Int32)), .val (.ref anchor), .val (.long q0), .second, .unset] [(.int (1 : Int32)), (.long q0)])) rfl (by rw [hml]; rfl) (argsL := [(.long q0), (.int (1 : Int32))]) (rest := []) (lenOf pd_1 rfl) rfl (by show 2 * 0 + _ ≤ _; exact Nat.le_of_eq rfl) (hb hby at_154) (fun _ _ => ⟨rfl, e81, (by decide : 5 + 0 ≤ _), (by decide : 22 + 0 ≤ _)⟩)
      dsimp only [Pt.U, Pt.locs, Pt.cells, Pt.slots] at X83 l83 y83 z83 st83 hQ83
      subst y83 z83
      obtain ⟨rfl, N83q, e83⟩ := hQ83
      have N83 : Fr n0 L83 := by rw [l83]; exact Fr.app N81 N83q
      refine stp st83 ?_
      show Go p e below T83 (mkF m 157 #[.val (.long q0), .second, .val (.long q1), .second, .val (.int p2), .val (.int p3), .val (.int (p3 &&& (1073741823 : Int32))), .val (.ref b1), .val (.ref b8), .val (.ref b60), .val (.int (0 : Int32)), .val (.int (1 : Int32)), .val (.ref anchor), .val (.long q0), .second, .unset] [(.int (own_chunk q0 (1 : Int32)))]) _
      refine stp (fun _ => XS.istore X83.here hx rfl (hb hby at_157) rfl (l' := #[.val (.long q0), .second, .val (.long q1), .second, .val (.int p2), .val (.int p3), .val (.int (p3 &&& (1073741823 : Int32))), .val (.ref b1), .val (.ref b8), .val (.ref b60), .val (.int (0 : Int32)), .val (.int (1 : Int32)), .val (.ref anchor), .val (.long q0), .second, .val (.int (own_chunk q0 (1 : Int32)))]) rfl) ?_
      show Go p e below T83 (mkF m 159 #[.val (.long q0), .second, .val (.long q1), .second, .val (.int p2), .val (.int p3), .val (.int (p3 &&& (1073741823 : Int32))), .val (.ref b1), .val (.ref b8), .val (.ref b60), .val (.int (0 : Int32)), .val (.int (1 : Int32)), .val (.ref anchor), .val (.long q0), .second, .val (.int (own_chunk q0 (1 : Int32)))] []) _
      refine stp (fun _ => XS.aload X83.here hx rfl (hb hby at_159) rfl rfl) ?_
      show Go p e below T83 (mkF m 161 #[.val (.long q0), .second, .val (.long q1), .second, .val (.int p2), .val (.int p3), .val (.int (p3 &&& (1073741823 : Int32))), .val (.ref b1), .val (.ref b8), .val (.ref b60), .val (.int (0 : Int32)), .val (.int (1 : Int32)), .val (.ref anchor), .val (.long q0), .second, .val (.int (own_chunk q0 (1 : Int32)))] [(.ref b60)]) _
      refine stp (fun _ => XS.iload X83.here hx rfl (hb hby at_161) rfl) ?_
      show Go p e below T83 (mkF m 163 #[.val (.long q0), .second, .val (.long q1), .second, .val (.int p2), .val (.int p3), .val (.int (p3 &&& (1073741823 : Int32))), .val (.ref b1), .val (.ref b8), .val (.ref b60), .val (.int (0 : Int32)), .val (.int (1 : Int32)), .val (.ref anchor), .val (.long q0), .second, .val (.int (own_chunk q0 (1 : Int32)))] [(.int (0 : Int32)), (.ref b60)]) _
      refine stp (fun _ => XS.aload X83.here hx rfl (hb hby at_163) rfl rfl) ?_
      show Go p e below T83 (mkF m 165 #[.val (.long q0), .second, .val (.long q1), .second, .val (.int p2), .val (.int p3), .val (.int (p3 &&& (1073741823 : Int32))), .val (.ref b1), .val (.ref b8), .val (.ref b60), .val (.int (0 : Int32)), .val (.int (1 : Int32)), .val (.ref anchor), .val (.long q0), .second, .val (.int (own_chunk q0 (1 : Int32)))] [(.ref anchor), (.int (0 : Int32)), (.ref b60)]) _
      obtain ⟨cq84, kq84, q84a, q84b, q84c⟩ := isOf hZ e83 E69q
      obtain ⟨_, _, ⟨T84, L84, k84, n84⟩, -, X84, ⟨Lc84, hQ84, l84, y84, z84⟩, st84⟩ := X83.virtualBack hx (y := (⟨"com/example/fetch_to_rank/fetchtorank/index/Postings", "count", "(ILcom/example/fetch_to_rank/fetchtorank/index/HitType;)I"⟩ : MethodName)) (z := (⟨"com/example/fetch_to_rank/fetchtorank/index/Postings", "count", "(ILcom/example/fetch_to_rank/fetchtorank/index/HitType;)I"⟩ : MethodName)) hown (mvT hZ (hw _ (List.mem_of_getElem? (i := 37) rfl))) (mvT hZ (hw _ (List.mem_of_getElem? (i := 38) rfl))) (notFace_of_selects (args := #[]) (mvT hZ (hw _ (List.mem_of_getElem? (i := 40) rfl)))) (mvT hZ (hw _ (List.mem_of_getElem? (i := 40) rfl))) (mvT hZ (hw _ (List.mem_of_getElem? (i := 39) rfl))) (by decide) (backOf (W := 0) (rm_count l Z a0 hw [] b60 (0 : Int32) anchor b69 k8 (1 : Int32) (own_chunk q0 (1 : Int32)) (own_chunk q0 (0 : Int32)) (own_chunk q0 (1 : Int32)) (own_chunk q0 (2 : Int32)) (own_chunk q0 (3 : Int32)) (own_chunk q1 (0 : Int32)) (own_chunk q1 (1 : Int32)) (own_chunk q1 (2 : Int32)) (own_chunk q1 (3 : Int32)) T69.heap n0 O69 F69q V69q E_ANCHOR F_ANCHOR (by decide) rfl S_TYPES) hZ (hw _ (List.mem_of_getElem? (i := 41) rfl)) (hw _ (List.mem_of_getElem? (i := 9) rfl)) (by decide) (by decide)) q84a q84c (g := (mkF m 165 #[.val (.long q0), .second, .val (.long q1), .second, .val (.int p2), .val (.int p3), .val (.int (p3 &&& (1073741823 : Int32))), .val (.ref b1), .val (.ref b8), .val (.ref b60), .val (.int (0 : Int32)), .val (.int (1 : Int32)), .val (.ref anchor), .val (.long q0), .second, .val (.int (own_chunk q0 (1 : Int32)))] [(.ref anchor), (.int (0 : Int32)), (.ref b60)])) rfl (by rw [hml]; rfl) (Steps.refl _) (argsL := [(.int (0 : Int32)), (.ref anchor)]) (rest := []) (lenOf pd_4 rfl) rfl (by show 2 * 0 + _ ≤ _; exact Nat.le_of_eq rfl) (hb hby at_165) (fun _ _ => ⟨rfl, e83, (by decide : 5 + 0 ≤ _), (by decide : 22 + 0 ≤ _)⟩)
      dsimp only [Pt.U, Pt.locs, Pt.cells, Pt.slots] at X84 l84 y84 z84 st84 hQ84
      subst y84 z84
      obtain ⟨rfl, N84q, e84⟩ := hQ84
      have N84 : Fr n0 L84 := by rw [l84]; exact Fr.app N83 N84q
      refine stt st84 ?_
      show Go p e below T84 (mkF m 168 #[.val (.long q0), .second, .val (.long q1), .second, .val (.int p2), .val (.int p3), .val (.int (p3 &&& (1073741823 : Int32))), .val (.ref b1), .val (.ref b8), .val (.ref b60), .val (.int (0 : Int32)), .val (.int (1 : Int32)), .val (.ref anchor), .val (.long q0), .second, .val (.int (own_chunk q0 (1 : Int32)))] [(.int (own_chunk q0 (1 : Int32)))]) _
      refine stp (fun _ => XS.iload X84.here hx rfl (hb hby at_168) rfl) ?_
      show Go p e below T84 (mkF m 170 #[.val (.long q0), .second, .val (.long q1), .second, .val (.int p2), .val (.int p3), .val (.int (p3 &&& (1073741823 : Int32))), .val (.ref b1), .val (.ref b8), .val (.ref b60), .val (.int (0 : Int32)), .val (.int (1 : Int32)), .val (.ref anchor), .val (.long q0), .second, .val (.int (own_chunk q0 (1 : Int32)))] [(.int (own_chunk q0 (1 : Int32))), (.int (own_chunk q0 (1 : Int32)))]) _
      refine stp (fun _ => XS.icmpNo X84.here hx rfl (hb hby at_170) rfl (XT.ii_ne_f rfl)) ?_
      show Go p e below T84 (mkF m 173 #[.val (.long q0), .second, .val (.long q1), .second, .val (.int p2), .val (.int p3), .val (.int (p3 &&& (1073741823 : Int32))), .val (.ref b1), .val (.ref b8), .val (.ref b60), .val (.int (0 : Int32)), .val (.int (1 : Int32)), .val (.ref anchor), .val (.long q0), .second, .val (.int (own_chunk q0 (1 : Int32)))] []) _
      refine stp (fun _ => XS.iconst X84.here hx rfl (hb hby at_173)) ?_
      show Go p e below T84 (mkF m 174 #[.val (.long q0), .second, .val (.long q1), .second, .val (.int p2), .val (.int p3), .val (.int (p3 &&& (1073741823 : Int32))), .val (.ref b1), .val (.ref b8), .val (.ref b60), .val (.int (0 : Int32)), .val (.int (1 : Int32)), .val (.ref anchor), .val (.long q0), .second, .val (.int (own_chunk q0 (1 : Int32)))] [(.int (1 : Int32))]) _
      refine stp (fun _ => XS.goto X84.here hx rfl (pc0 := 174) (pc' := 178) rfl (hb hby at_174) (by decide) (by decide)) ?_
      show Go p e below T84 (mkF m 178 #[.val (.long q0), .second, .val (.long q1), .second, .val (.int p2), .val (.int p3), .val (.int (p3 &&& (1073741823 : Int32))), .val (.ref b1), .val (.ref b8), .val (.ref b60), .val (.int (0 : Int32)), .val (.int (1 : Int32)), .val (.ref anchor), .val (.long q0), .second, .val (.int (own_chunk q0 (1 : Int32)))] [(.int (1 : Int32))]) _
      refine outN X84 hx (t := .boolean) hret (by simp) (hb hby at_178) hlk (by decide) (by decide) ?_
      exact ⟨rfl, N84⟩
    · rw [hs82]
      show Go p e below T81 (mkF m 138 #[.val (.long q0), .second, .val (.long q1), .second, .val (.int p2), .val (.int p3), .val (.int (p3 &&& (1073741823 : Int32))), .val (.ref b1), .val (.ref b8), .val (.ref b60), .val (.int (1 : Int32)), .val (.int (1 : Int32)), .val (.ref anchor), .unset, .unset, .unset] []) _
      refine stp (fun _ => XS.iload X81.here hx rfl (hb hby at_138) rfl) ?_
      show Go p e below T81 (mkF m 140 #[.val (.long q0), .second, .val (.long q1), .second, .val (.int p2), .val (.int p3), .val (.int (p3 &&& (1073741823 : Int32))), .val (.ref b1), .val (.ref b8), .val (.ref b60), .val (.int (1 : Int32)), .val (.int (1 : Int32)), .val (.ref anchor), .unset, .unset, .unset] [(.int (1 : Int32))]) _
      refine stp (fun _ => XS.ifYes X81.here hx rfl (pc0 := 140) (pc' := 147) rfl (hb hby at_140) rfl (by decide) (by decide) (by decide)) ?_
      show Go p e below T81 (mkF m 147 #[.val (.long q0), .second, .val (.long q1), .second, .val (.int p2), .val (.int p3), .val (.int (p3 &&& (1073741823 : Int32))), .val (.ref b1), .val (.ref b8), .val (.ref b60), .val (.int (1 : Int32)), .val (.int (1 : Int32)), .val (.ref anchor), .unset, .unset, .unset] []) _
      refine stp (fun _ => XS.lloadN X81.here hx rfl (hb hby at_147) rfl) ?_
      show Go p e below T81 (mkF m 148 #[.val (.long q0), .second, .val (.long q1), .second, .val (.int p2), .val (.int p3), .val (.int (p3 &&& (1073741823 : Int32))), .val (.ref b1), .val (.ref b8), .val (.ref b60), .val (.int (1 : Int32)), .val (.int (1 : Int32)), .val (.ref anchor), .unset, .unset, .unset] [(.long q1)]) _
      refine stp (fun _ => XS.lstore X81.here hx rfl (hb hby at_148) rfl (l' := #[.val (.long q0), .second, .val (.long q1), .second, .val (.int p2), .val (.int p3), .val (.int (p3 &&& (1073741823 : Int32))), .val (.ref b1), .val (.ref b8), .val (.ref b60), .val (.int (1 : Int32)), .val (.int (1 : Int32)), .val (.ref anchor), .val (.long q1), .second, .unset]) rfl) ?_
      show Go p e below T81 (mkF m 150 #[.val (.long q0), .second, .val (.long q1), .second, .val (.int p2), .val (.int p3), .val (.int (p3 &&& (1073741823 : Int32))), .val (.ref b1), .val (.ref b8), .val (.ref b60), .val (.int (1 : Int32)), .val (.int (1 : Int32)), .val (.ref anchor), .val (.long q1), .second, .unset] []) _
      refine stp (fun _ => XS.lload X81.here hx rfl (hb hby at_150) rfl) ?_
      show Go p e below T81 (mkF m 152 #[.val (.long q0), .second, .val (.long q1), .second, .val (.int p2), .val (.int p3), .val (.int (p3 &&& (1073741823 : Int32))), .val (.ref b1), .val (.ref b8), .val (.ref b60), .val (.int (1 : Int32)), .val (.int (1 : Int32)), .val (.ref anchor), .val (.long q1), .second, .unset] [(.long q1)]) _
      refine stp (fun _ => XS.iload X81.here hx rfl (hb hby at_152) rfl) ?_
      show Go p e below T81 (mkF m 154 #[.val (.long q0), .second, .val (.long q1), .second, .val (.int p2), .val (.int p3), .val (.int (p3 &&& (1073741823 : Int32))), .val (.ref b1), .val (.ref b8), .val (.ref b60), .val (.int (1 : Int32)), .val (.int (1 : Int32)), .val (.ref anchor), .val (.long q1), .second, .unset] [(.int (1 : Int32)), (.long q1)]) _
      obtain ⟨_, _, ⟨T85, L85, k85, n85⟩, -, X85, ⟨Lc85, hQ85, l85, y85, z85⟩, st85⟩ := Jvm.LawKit.callS X81 hx (y := (⟨"com/example/fetch_to_rank/fetchtorank/index/PostingsCountPinLaw", "chunk", "(JI)I"⟩ : MethodName)) hown (mvT hZ (hw _ (List.mem_of_getElem? (i := 2) rfl))) (mvT hZ (hw _ (List.mem_of_getElem? (i := 3) rfl))) (mvT hZ (hw _ (List.mem_of_getElem? (i := 4) rfl))) (mvT hZ (hw _ (List.mem_of_getElem? (i := 5) rfl))) (by decide) (backOf (W := 0) (rm_chunk l Z a0 hw [] q1 (1 : Int32) T69.heap n0 O69 ) hZ (hw _ (List.mem_of_getElem? (i := 5) rfl)) (hw _ (List.mem_of_getElem? (i := 4) rfl)) (by decide) (by decide)) (g := (mkF m 154 #[.val (.long q0), .second, .val (.long q1), .second, .val (.int p2), .val (.int p3), .val (.int (p3 &&& (1073741823 : Int32))), .val (.ref b1), .val (.ref b8), .val (.ref b60), .val (.int (1 : Int32)), .val (.int (1 : Int32)), .val (.ref anchor), .val (.long q1), .second, .unset] [(.int (1 : Int32)), (.long q1)])) rfl (by rw [hml]; rfl) (argsL := [(.long q1), (.int (1 : Int32))]) (rest := []) (lenOf pd_1 rfl) rfl (by show 2 * 0 + _ ≤ _; exact Nat.le_of_eq rfl) (hb hby at_154) (fun _ _ => ⟨rfl, e81, (by decide : 5 + 0 ≤ _), (by decide : 22 + 0 ≤ _)⟩)
      dsimp only [Pt.U, Pt.locs, Pt.cells, Pt.slots] at X85 l85 y85 z85 st85 hQ85
      subst y85 z85
      obtain ⟨rfl, N85q, e85⟩ := hQ85
      have N85 : Fr n0 L85 := by rw [l85]; exact Fr.app N81 N85q
      refine stp st85 ?_
      show Go p e below T85 (mkF m 157 #[.val (.long q0), .second, .val (.long q1), .second, .val (.int p2), .val (.int p3), .val (.int (p3 &&& (1073741823 : Int32))), .val (.ref b1), .val (.ref b8), .val (.ref b60), .val (.int (1 : Int32)), .val (.int (1 : Int32)), .val (.ref anchor), .val (.long q1), .second, .unset] [(.int (own_chunk q1 (1 : Int32)))]) _
      refine stp (fun _ => XS.istore X85.here hx rfl (hb hby at_157) rfl (l' := #[.val (.long q0), .second, .val (.long q1), .second, .val (.int p2), .val (.int p3), .val (.int (p3 &&& (1073741823 : Int32))), .val (.ref b1), .val (.ref b8), .val (.ref b60), .val (.int (1 : Int32)), .val (.int (1 : Int32)), .val (.ref anchor), .val (.long q1), .second, .val (.int (own_chunk q1 (1 : Int32)))]) rfl) ?_
      show Go p e below T85 (mkF m 159 #[.val (.long q0), .second, .val (.long q1), .second, .val (.int p2), .val (.int p3), .val (.int (p3 &&& (1073741823 : Int32))), .val (.ref b1), .val (.ref b8), .val (.ref b60), .val (.int (1 : Int32)), .val (.int (1 : Int32)), .val (.ref anchor), .val (.long q1), .second, .val (.int (own_chunk q1 (1 : Int32)))] []) _
      refine stp (fun _ => XS.aload X85.here hx rfl (hb hby at_159) rfl rfl) ?_
      show Go p e below T85 (mkF m 161 #[.val (.long q0), .second, .val (.long q1), .second, .val (.int p2), .val (.int p3), .val (.int (p3 &&& (1073741823 : Int32))), .val (.ref b1), .val (.ref b8), .val (.ref b60), .val (.int (1 : Int32)), .val (.int (1 : Int32)), .val (.ref anchor), .val (.long q1), .second, .val (.int (own_chunk q1 (1 : Int32)))] [(.ref b60)]) _
      refine stp (fun _ => XS.iload X85.here hx rfl (hb hby at_161) rfl) ?_
      show Go p e below T85 (mkF m 163 #[.val (.long q0), .second, .val (.long q1), .second, .val (.int p2), .val (.int p3), .val (.int (p3 &&& (1073741823 : Int32))), .val (.ref b1), .val (.ref b8), .val (.ref b60), .val (.int (1 : Int32)), .val (.int (1 : Int32)), .val (.ref anchor), .val (.long q1), .second, .val (.int (own_chunk q1 (1 : Int32)))] [(.int (1 : Int32)), (.ref b60)]) _
      refine stp (fun _ => XS.aload X85.here hx rfl (hb hby at_163) rfl rfl) ?_
      show Go p e below T85 (mkF m 165 #[.val (.long q0), .second, .val (.long q1), .second, .val (.int p2), .val (.int p3), .val (.int (p3 &&& (1073741823 : Int32))), .val (.ref b1), .val (.ref b8), .val (.ref b60), .val (.int (1 : Int32)), .val (.int (1 : Int32)), .val (.ref anchor), .val (.long q1), .second, .val (.int (own_chunk q1 (1 : Int32)))] [(.ref anchor), (.int (1 : Int32)), (.ref b60)]) _
      obtain ⟨cq86, kq86, q86a, q86b, q86c⟩ := isOf hZ e85 E69q
      obtain ⟨_, _, ⟨T86, L86, k86, n86⟩, -, X86, ⟨Lc86, hQ86, l86, y86, z86⟩, st86⟩ := X85.virtualBack hx (y := (⟨"com/example/fetch_to_rank/fetchtorank/index/Postings", "count", "(ILcom/example/fetch_to_rank/fetchtorank/index/HitType;)I"⟩ : MethodName)) (z := (⟨"com/example/fetch_to_rank/fetchtorank/index/Postings", "count", "(ILcom/example/fetch_to_rank/fetchtorank/index/HitType;)I"⟩ : MethodName)) hown (mvT hZ (hw _ (List.mem_of_getElem? (i := 37) rfl))) (mvT hZ (hw _ (List.mem_of_getElem? (i := 38) rfl))) (notFace_of_selects (args := #[]) (mvT hZ (hw _ (List.mem_of_getElem? (i := 40) rfl)))) (mvT hZ (hw _ (List.mem_of_getElem? (i := 40) rfl))) (mvT hZ (hw _ (List.mem_of_getElem? (i := 39) rfl))) (by decide) (backOf (W := 0) (rm_count l Z a0 hw [] b60 (1 : Int32) anchor b69 k8 (1 : Int32) (own_chunk q1 (1 : Int32)) (own_chunk q0 (0 : Int32)) (own_chunk q0 (1 : Int32)) (own_chunk q0 (2 : Int32)) (own_chunk q0 (3 : Int32)) (own_chunk q1 (0 : Int32)) (own_chunk q1 (1 : Int32)) (own_chunk q1 (2 : Int32)) (own_chunk q1 (3 : Int32)) T69.heap n0 O69 F69q V69q E_ANCHOR F_ANCHOR (by decide) rfl S_TYPES) hZ (hw _ (List.mem_of_getElem? (i := 41) rfl)) (hw _ (List.mem_of_getElem? (i := 9) rfl)) (by decide) (by decide)) q86a q86c (g := (mkF m 165 #[.val (.long q0), .second, .val (.long q1), .second, .val (.int p2), .val (.int p3), .val (.int (p3 &&& (1073741823 : Int32))), .val (.ref b1), .val (.ref b8), .val (.ref b60), .val (.int (1 : Int32)), .val (.int (1 : Int32)), .val (.ref anchor), .val (.long q1), .second, .val (.int (own_chunk q1 (1 : Int32)))] [(.ref anchor), (.int (1 : Int32)), (.ref b60)])) rfl (by rw [hml]; rfl) (Steps.refl _) (argsL := [(.int (1 : Int32)), (.ref anchor)]) (rest := []) (lenOf pd_4 rfl) rfl (by show 2 * 0 + _ ≤ _; exact Nat.le_of_eq rfl) (hb hby at_165) (fun _ _ => ⟨rfl, e85, (by decide : 5 + 0 ≤ _), (by decide : 22 + 0 ≤ _)⟩)
      dsimp only [Pt.U, Pt.locs, Pt.cells, Pt.slots] at X86 l86 y86 z86 st86 hQ86
      subst y86 z86
      obtain ⟨rfl, N86q, e86⟩ := hQ86
      have N86 : Fr n0 L86 := by rw [l86]; exact Fr.app N85 N86q
      refine stt st86 ?_
      show Go p e below T86 (mkF m 168 #[.val (.long q0), .second, .val (.long q1), .second, .val (.int p2), .val (.int p3), .val (.int (p3 &&& (1073741823 : Int32))), .val (.ref b1), .val (.ref b8), .val (.ref b60), .val (.int (1 : Int32)), .val (.int (1 : Int32)), .val (.ref anchor), .val (.long q1), .second, .val (.int (own_chunk q1 (1 : Int32)))] [(.int (own_chunk q1 (1 : Int32)))]) _
      refine stp (fun _ => XS.iload X86.here hx rfl (hb hby at_168) rfl) ?_
      show Go p e below T86 (mkF m 170 #[.val (.long q0), .second, .val (.long q1), .second, .val (.int p2), .val (.int p3), .val (.int (p3 &&& (1073741823 : Int32))), .val (.ref b1), .val (.ref b8), .val (.ref b60), .val (.int (1 : Int32)), .val (.int (1 : Int32)), .val (.ref anchor), .val (.long q1), .second, .val (.int (own_chunk q1 (1 : Int32)))] [(.int (own_chunk q1 (1 : Int32))), (.int (own_chunk q1 (1 : Int32)))]) _
      refine stp (fun _ => XS.icmpNo X86.here hx rfl (hb hby at_170) rfl (XT.ii_ne_f rfl)) ?_
      show Go p e below T86 (mkF m 173 #[.val (.long q0), .second, .val (.long q1), .second, .val (.int p2), .val (.int p3), .val (.int (p3 &&& (1073741823 : Int32))), .val (.ref b1), .val (.ref b8), .val (.ref b60), .val (.int (1 : Int32)), .val (.int (1 : Int32)), .val (.ref anchor), .val (.long q1), .second, .val (.int (own_chunk q1 (1 : Int32)))] []) _
      refine stp (fun _ => XS.iconst X86.here hx rfl (hb hby at_173)) ?_
      show Go p e below T86 (mkF m 174 #[.val (.long q0), .second, .val (.long q1), .second, .val (.int p2), .val (.int p3), .val (.int (p3 &&& (1073741823 : Int32))), .val (.ref b1), .val (.ref b8), .val (.ref b60), .val (.int (1 : Int32)), .val (.int (1 : Int32)), .val (.ref anchor), .val (.long q1), .second, .val (.int (own_chunk q1 (1 : Int32)))] [(.int (1 : Int32))]) _
      refine stp (fun _ => XS.goto X86.here hx rfl (pc0 := 174) (pc' := 178) rfl (hb hby at_174) (by decide) (by decide)) ?_
      show Go p e below T86 (mkF m 178 #[.val (.long q0), .second, .val (.long q1), .second, .val (.int p2), .val (.int p3), .val (.int (p3 &&& (1073741823 : Int32))), .val (.ref b1), .val (.ref b8), .val (.ref b60), .val (.int (1 : Int32)), .val (.int (1 : Int32)), .val (.ref anchor), .val (.long q1), .second, .val (.int (own_chunk q1 (1 : Int32)))] [(.int (1 : Int32))]) _
      refine outN X86 hx (t := .boolean) hret (by simp) (hb hby at_178) hlk (by decide) (by decide) ?_
      exact ⟨rfl, N86⟩
  · rw [hs74]
    show Go p e below T69 (mkF m 131 #[.val (.long q0), .second, .val (.long q1), .second, .val (.int p2), .val (.int p3), .val (.int (p3 &&& (1073741823 : Int32))), .val (.ref b1), .val (.ref b8), .val (.ref b60), .val (.int (p2 &&& (1 : Int32))), .val (.int (2 : Int32)), .unset, .unset, .unset, .unset] []) _
    refine stp (fun _ => XS.iload X69.here hx rfl (hb hby at_131) rfl) ?_
    show Go p e below T69 (mkF m 133 #[.val (.long q0), .second, .val (.long q1), .second, .val (.int p2), .val (.int p3), .val (.int (p3 &&& (1073741823 : Int32))), .val (.ref b1), .val (.ref b8), .val (.ref b60), .val (.int (p2 &&& (1 : Int32))), .val (.int (2 : Int32)), .unset, .unset, .unset, .unset] [(.int (2 : Int32))]) _
    obtain ⟨_, _, ⟨T87, L87, k87, n87⟩, -, X87, ⟨Lc87, hQ87, l87, y87, z87⟩, st87⟩ := Jvm.LawKit.callS X69 hx (y := (⟨"com/example/fetch_to_rank/fetchtorank/index/PostingsCountPinLaw", "typeOf", "(I)Lcom/example/fetch_to_rank/fetchtorank/index/HitType;"⟩ : MethodName)) hown (mvT hZ (hw _ (List.mem_of_getElem? (i := 31) rfl))) (mvT hZ (hw _ (List.mem_of_getElem? (i := 32) rfl))) (mvT hZ (hw _ (List.mem_of_getElem? (i := 4) rfl))) (mvT hZ (hw _ (List.mem_of_getElem? (i := 33) rfl))) (by decide) (backOf (W := 0) (rm_type l Z a0 hw [] (2 : Int32) title anchor url plain url T69.heap n0 O69 S_TITLE S_ANCHOR S_URL S_PLAIN ⟨fun h => absurd h (by decide), fun h => absurd h (by decide), fun _ => rfl, fun h0 h1 h2 => absurd rfl h2⟩) hZ (hw _ (List.mem_of_getElem? (i := 33) rfl)) (hw _ (List.mem_of_getElem? (i := 4) rfl)) (by decide) (by decide)) (g := (mkF m 133 #[.val (.long q0), .second, .val (.long q1), .second, .val (.int p2), .val (.int p3), .val (.int (p3 &&& (1073741823 : Int32))), .val (.ref b1), .val (.ref b8), .val (.ref b60), .val (.int (p2 &&& (1 : Int32))), .val (.int (2 : Int32)), .unset, .unset, .unset, .unset] [(.int (2 : Int32))])) rfl (by rw [hml]; rfl) (argsL := [(.int (2 : Int32))]) (rest := []) (lenOf pd_3 rfl) rfl (by show 2 * 0 + _ ≤ _; exact Nat.le_of_eq rfl) (hb hby at_133) (fun _ _ => ⟨rfl, rfl, (by decide : 5 + 0 ≤ _), (by decide : 22 + 0 ≤ _)⟩)
    dsimp only [Pt.U, Pt.locs, Pt.cells, Pt.slots] at X87 l87 y87 z87 st87 hQ87
    subst y87 z87
    obtain ⟨rfl, N87q, e87⟩ := hQ87
    have N87 : Fr n0 L87 := by rw [l87]; exact Fr.app N69 N87q
    refine stp st87 ?_
    show Go p e below T87 (mkF m 136 #[.val (.long q0), .second, .val (.long q1), .second, .val (.int p2), .val (.int p3), .val (.int (p3 &&& (1073741823 : Int32))), .val (.ref b1), .val (.ref b8), .val (.ref b60), .val (.int (p2 &&& (1 : Int32))), .val (.int (2 : Int32)), .unset, .unset, .unset, .unset] [(.ref url)]) _
    refine stp (fun _ => XS.astore X87.here hx rfl (hb hby at_136) rfl rfl (l' := #[.val (.long q0), .second, .val (.long q1), .second, .val (.int p2), .val (.int p3), .val (.int (p3 &&& (1073741823 : Int32))), .val (.ref b1), .val (.ref b8), .val (.ref b60), .val (.int (p2 &&& (1 : Int32))), .val (.int (2 : Int32)), .val (.ref url), .unset, .unset, .unset]) rfl) ?_
    show Go p e below T87 (mkF m 138 #[.val (.long q0), .second, .val (.long q1), .second, .val (.int p2), .val (.int p3), .val (.int (p3 &&& (1073741823 : Int32))), .val (.ref b1), .val (.ref b8), .val (.ref b60), .val (.int (p2 &&& (1 : Int32))), .val (.int (2 : Int32)), .val (.ref url), .unset, .unset, .unset] []) _
    have hs88 : (p2 &&& (1 : Int32)) = (0 : Int32) ∨ (p2 &&& (1 : Int32)) = (1 : Int32) := and1_cases _
    rcases hs88 with hs88 | hs88
    · rw [hs88]
      show Go p e below T87 (mkF m 138 #[.val (.long q0), .second, .val (.long q1), .second, .val (.int p2), .val (.int p3), .val (.int (p3 &&& (1073741823 : Int32))), .val (.ref b1), .val (.ref b8), .val (.ref b60), .val (.int (0 : Int32)), .val (.int (2 : Int32)), .val (.ref url), .unset, .unset, .unset] []) _
      refine stp (fun _ => XS.iload X87.here hx rfl (hb hby at_138) rfl) ?_
      show Go p e below T87 (mkF m 140 #[.val (.long q0), .second, .val (.long q1), .second, .val (.int p2), .val (.int p3), .val (.int (p3 &&& (1073741823 : Int32))), .val (.ref b1), .val (.ref b8), .val (.ref b60), .val (.int (0 : Int32)), .val (.int (2 : Int32)), .val (.ref url), .unset, .unset, .unset] [(.int (0 : Int32))]) _
      refine stp (fun _ => XS.ifNo X87.here hx rfl (hb hby at_140) rfl (by decide)) ?_
      show Go p e below T87 (mkF m 143 #[.val (.long q0), .second, .val (.long q1), .second, .val (.int p2), .val (.int p3), .val (.int (p3 &&& (1073741823 : Int32))), .val (.ref b1), .val (.ref b8), .val (.ref b60), .val (.int (0 : Int32)), .val (.int (2 : Int32)), .val (.ref url), .unset, .unset, .unset] []) _
      refine stp (fun _ => XS.lloadN X87.here hx rfl (hb hby at_143) rfl) ?_
      show Go p e below T87 (mkF m 144 #[.val (.long q0), .second, .val (.long q1), .second, .val (.int p2), .val (.int p3), .val (.int (p3 &&& (1073741823 : Int32))), .val (.ref b1), .val (.ref b8), .val (.ref b60), .val (.int (0 : Int32)), .val (.int (2 : Int32)), .val (.ref url), .unset, .unset, .unset] [(.long q0)]) _
      refine stp (fun _ => XS.goto X87.here hx rfl (pc0 := 144) (pc' := 148) rfl (hb hby at_144) (by decide) (by decide)) ?_
      show Go p e below T87 (mkF m 148 #[.val (.long q0), .second, .val (.long q1), .second, .val (.int p2), .val (.int p3), .val (.int (p3 &&& (1073741823 : Int32))), .val (.ref b1), .val (.ref b8), .val (.ref b60), .val (.int (0 : Int32)), .val (.int (2 : Int32)), .val (.ref url), .unset, .unset, .unset] [(.long q0)]) _
      refine stp (fun _ => XS.lstore X87.here hx rfl (hb hby at_148) rfl (l' := #[.val (.long q0), .second, .val (.long q1), .second, .val (.int p2), .val (.int p3), .val (.int (p3 &&& (1073741823 : Int32))), .val (.ref b1), .val (.ref b8), .val (.ref b60), .val (.int (0 : Int32)), .val (.int (2 : Int32)), .val (.ref url), .val (.long q0), .second, .unset]) rfl) ?_
      show Go p e below T87 (mkF m 150 #[.val (.long q0), .second, .val (.long q1), .second, .val (.int p2), .val (.int p3), .val (.int (p3 &&& (1073741823 : Int32))), .val (.ref b1), .val (.ref b8), .val (.ref b60), .val (.int (0 : Int32)), .val (.int (2 : Int32)), .val (.ref url), .val (.long q0), .second, .unset] []) _
      refine stp (fun _ => XS.lload X87.here hx rfl (hb hby at_150) rfl) ?_
      show Go p e below T87 (mkF m 152 #[.val (.long q0), .second, .val (.long q1), .second, .val (.int p2), .val (.int p3), .val (.int (p3 &&& (1073741823 : Int32))), .val (.ref b1), .val (.ref b8), .val (.ref b60), .val (.int (0 : Int32)), .val (.int (2 : Int32)), .val (.ref url), .val (.long q0), .second, .unset] [(.long q0)]) _
      refine stp (fun _ => XS.iload X87.here hx rfl (hb hby at_152) rfl) ?_
      show Go p e below T87 (mkF m 154 #[.val (.long q0), .second, .val (.long q1), .second, .val (.int p2), .val (.int p3), .val (.int (p3 &&& (1073741823 : Int32))), .val (.ref b1), .val (.ref b8), .val (.ref b60), .val (.int (0 : Int32)), .val (.int (2 : Int32)), .val (.ref url), .val (.long q0), .second, .unset] [(.int (2 : Int32)), (.long q0)]) _
      obtain ⟨_, _, ⟨T89, L89, k89, n89⟩, -, X89, ⟨Lc89, hQ89, l89, y89, z89⟩, st89⟩ := Jvm.LawKit.callS X87 hx (y := (⟨"com/example/fetch_to_rank/fetchtorank/index/PostingsCountPinLaw", "chunk", "(JI)I"⟩ : MethodName)) hown (mvT hZ (hw _ (List.mem_of_getElem? (i := 2) rfl))) (mvT hZ (hw _ (List.mem_of_getElem? (i := 3) rfl))) (mvT hZ (hw _ (List.mem_of_getElem? (i := 4) rfl))) (mvT hZ (hw _ (List.mem_of_getElem? (i := 5) rfl))) (by decide) (backOf (W := 0) (rm_chunk l Z a0 hw [] q0 (2 : Int32) T69.heap n0 O69 ) hZ (hw _ (List.mem_of_getElem? (i := 5) rfl)) (hw _ (List.mem_of_getElem? (i := 4) rfl)) (by decide) (by decide)) (g := (mkF m 154 #[.val (.long q0), .second, .val (.long q1), .second, .val (.int p2), .val (.int p3), .val (.int (p3 &&& (1073741823 : Int32))), .val (.ref b1), .val (.ref b8), .val (.ref b60), .val (.int (0 : Int32)), .val (.int (2 : Int32)), .val (.ref url), .val (.long q0), .second, .unset] [(.int (2 : Int32)), (.long q0)])) rfl (by rw [hml]; rfl) (argsL := [(.long q0), (.int (2 : Int32))]) (rest := []) (lenOf pd_1 rfl) rfl (by show 2 * 0 + _ ≤ _; exact Nat.le_of_eq rfl) (hb hby at_154) (fun _ _ => ⟨rfl, e87, (by decide : 5 + 0 ≤ _), (by decide : 22 + 0 ≤ _)⟩)
      dsimp only [Pt.U, Pt.locs, Pt.cells, Pt.slots] at X89 l89 y89 z89 st89 hQ89
      subst y89 z89
      obtain ⟨rfl, N89q, e89⟩ := hQ89
      have N89 : Fr n0 L89 := by rw [l89]; exact Fr.app N87 N89q
      refine stp st89 ?_
      show Go p e below T89 (mkF m 157 #[.val (.long q0), .second, .val (.long q1), .second, .val (.int p2), .val (.int p3), .val (.int (p3 &&& (1073741823 : Int32))), .val (.ref b1), .val (.ref b8), .val (.ref b60), .val (.int (0 : Int32)), .val (.int (2 : Int32)), .val (.ref url), .val (.long q0), .second, .unset] [(.int (own_chunk q0 (2 : Int32)))]) _
      refine stp (fun _ => XS.istore X89.here hx rfl (hb hby at_157) rfl (l' := #[.val (.long q0), .second, .val (.long q1), .second, .val (.int p2), .val (.int p3), .val (.int (p3 &&& (1073741823 : Int32))), .val (.ref b1), .val (.ref b8), .val (.ref b60), .val (.int (0 : Int32)), .val (.int (2 : Int32)), .val (.ref url), .val (.long q0), .second, .val (.int (own_chunk q0 (2 : Int32)))]) rfl) ?_
      show Go p e below T89 (mkF m 159 #[.val (.long q0), .second, .val (.long q1), .second, .val (.int p2), .val (.int p3), .val (.int (p3 &&& (1073741823 : Int32))), .val (.ref b1), .val (.ref b8), .val (.ref b60), .val (.int (0 : Int32)), .val (.int (2 : Int32)), .val (.ref url), .val (.long q0), .second, .val (.int (own_chunk q0 (2 : Int32)))] []) _
      refine stp (fun _ => XS.aload X89.here hx rfl (hb hby at_159) rfl rfl) ?_
      show Go p e below T89 (mkF m 161 #[.val (.long q0), .second, .val (.long q1), .second, .val (.int p2), .val (.int p3), .val (.int (p3 &&& (1073741823 : Int32))), .val (.ref b1), .val (.ref b8), .val (.ref b60), .val (.int (0 : Int32)), .val (.int (2 : Int32)), .val (.ref url), .val (.long q0), .second, .val (.int (own_chunk q0 (2 : Int32)))] [(.ref b60)]) _
      refine stp (fun _ => XS.iload X89.here hx rfl (hb hby at_161) rfl) ?_
      show Go p e below T89 (mkF m 163 #[.val (.long q0), .second, .val (.long q1), .second, .val (.int p2), .val (.int p3), .val (.int (p3 &&& (1073741823 : Int32))), .val (.ref b1), .val (.ref b8), .val (.ref b60), .val (.int (0 : Int32)), .val (.int (2 : Int32)), .val (.ref url), .val (.long q0), .second, .val (.int (own_chunk q0 (2 : Int32)))] [(.int (0 : Int32)), (.ref b60)]) _
      refine stp (fun _ => XS.aload X89.here hx rfl (hb hby at_163) rfl rfl) ?_
      show Go p e below T89 (mkF m 165 #[.val (.long q0), .second, .val (.long q1), .second, .val (.int p2), .val (.int p3), .val (.int (p3 &&& (1073741823 : Int32))), .val (.ref b1), .val (.ref b8), .val (.ref b60), .val (.int (0 : Int32)), .val (.int (2 : Int32)), .val (.ref url), .val (.long q0), .second, .val (.int (own_chunk q0 (2 : Int32)))] [(.ref url), (.int (0 : Int32)), (.ref b60)]) _
      obtain ⟨cq90, kq90, q90a, q90b, q90c⟩ := isOf hZ e89 E69q
      obtain ⟨_, _, ⟨T90, L90, k90, n90⟩, -, X90, ⟨Lc90, hQ90, l90, y90, z90⟩, st90⟩ := X89.virtualBack hx (y := (⟨"com/example/fetch_to_rank/fetchtorank/index/Postings", "count", "(ILcom/example/fetch_to_rank/fetchtorank/index/HitType;)I"⟩ : MethodName)) (z := (⟨"com/example/fetch_to_rank/fetchtorank/index/Postings", "count", "(ILcom/example/fetch_to_rank/fetchtorank/index/HitType;)I"⟩ : MethodName)) hown (mvT hZ (hw _ (List.mem_of_getElem? (i := 37) rfl))) (mvT hZ (hw _ (List.mem_of_getElem? (i := 38) rfl))) (notFace_of_selects (args := #[]) (mvT hZ (hw _ (List.mem_of_getElem? (i := 40) rfl)))) (mvT hZ (hw _ (List.mem_of_getElem? (i := 40) rfl))) (mvT hZ (hw _ (List.mem_of_getElem? (i := 39) rfl))) (by decide) (backOf (W := 0) (rm_count l Z a0 hw [] b60 (0 : Int32) url b69 k8 (2 : Int32) (own_chunk q0 (2 : Int32)) (own_chunk q0 (0 : Int32)) (own_chunk q0 (1 : Int32)) (own_chunk q0 (2 : Int32)) (own_chunk q0 (3 : Int32)) (own_chunk q1 (0 : Int32)) (own_chunk q1 (1 : Int32)) (own_chunk q1 (2 : Int32)) (own_chunk q1 (3 : Int32)) T69.heap n0 O69 F69q V69q E_URL F_URL (by decide) rfl S_TYPES) hZ (hw _ (List.mem_of_getElem? (i := 41) rfl)) (hw _ (List.mem_of_getElem? (i := 9) rfl)) (by decide) (by decide)) q90a q90c (g := (mkF m 165 #[.val (.long q0), .second, .val (.long q1), .second, .val (.int p2), .val (.int p3), .val (.int (p3 &&& (1073741823 : Int32))), .val (.ref b1), .val (.ref b8), .val (.ref b60), .val (.int (0 : Int32)), .val (.int (2 : Int32)), .val (.ref url), .val (.long q0), .second, .val (.int (own_chunk q0 (2 : Int32)))] [(.ref url), (.int (0 : Int32)), (.ref b60)])) rfl (by rw [hml]; rfl) (Steps.refl _) (argsL := [(.int (0 : Int32)), (.ref url)]) (rest := []) (lenOf pd_4 rfl) rfl (by show 2 * 0 + _ ≤ _; exact Nat.le_of_eq rfl) (hb hby at_165) (fun _ _ => ⟨rfl, e89, (by decide : 5 + 0 ≤ _), (by decide : 22 + 0 ≤ _)⟩)
      dsimp only [Pt.U, Pt.locs, Pt.cells, Pt.slots] at X90 l90 y90 z90 st90 hQ90
      subst y90 z90
      obtain ⟨rfl, N90q, e90⟩ := hQ90
      have N90 : Fr n0 L90 := by rw [l90]; exact Fr.app N89 N90q
      refine stt st90 ?_
      show Go p e below T90 (mkF m 168 #[.val (.long q0), .second, .val (.long q1), .second, .val (.int p2), .val (.int p3), .val (.int (p3 &&& (1073741823 : Int32))), .val (.ref b1), .val (.ref b8), .val (.ref b60), .val (.int (0 : Int32)), .val (.int (2 : Int32)), .val (.ref url), .val (.long q0), .second, .val (.int (own_chunk q0 (2 : Int32)))] [(.int (own_chunk q0 (2 : Int32)))]) _
      refine stp (fun _ => XS.iload X90.here hx rfl (hb hby at_168) rfl) ?_
      show Go p e below T90 (mkF m 170 #[.val (.long q0), .second, .val (.long q1), .second, .val (.int p2), .val (.int p3), .val (.int (p3 &&& (1073741823 : Int32))), .val (.ref b1), .val (.ref b8), .val (.ref b60), .val (.int (0 : Int32)), .val (.int (2 : Int32)), .val (.ref url), .val (.long q0), .second, .val (.int (own_chunk q0 (2 : Int32)))] [(.int (own_chunk q0 (2 : Int32))), (.int (own_chunk q0 (2 : Int32)))]) _
      refine stp (fun _ => XS.icmpNo X90.here hx rfl (hb hby at_170) rfl (XT.ii_ne_f rfl)) ?_
      show Go p e below T90 (mkF m 173 #[.val (.long q0), .second, .val (.long q1), .second, .val (.int p2), .val (.int p3), .val (.int (p3 &&& (1073741823 : Int32))), .val (.ref b1), .val (.ref b8), .val (.ref b60), .val (.int (0 : Int32)), .val (.int (2 : Int32)), .val (.ref url), .val (.long q0), .second, .val (.int (own_chunk q0 (2 : Int32)))] []) _
      refine stp (fun _ => XS.iconst X90.here hx rfl (hb hby at_173)) ?_
      show Go p e below T90 (mkF m 174 #[.val (.long q0), .second, .val (.long q1), .second, .val (.int p2), .val (.int p3), .val (.int (p3 &&& (1073741823 : Int32))), .val (.ref b1), .val (.ref b8), .val (.ref b60), .val (.int (0 : Int32)), .val (.int (2 : Int32)), .val (.ref url), .val (.long q0), .second, .val (.int (own_chunk q0 (2 : Int32)))] [(.int (1 : Int32))]) _
      refine stp (fun _ => XS.goto X90.here hx rfl (pc0 := 174) (pc' := 178) rfl (hb hby at_174) (by decide) (by decide)) ?_
      show Go p e below T90 (mkF m 178 #[.val (.long q0), .second, .val (.long q1), .second, .val (.int p2), .val (.int p3), .val (.int (p3 &&& (1073741823 : Int32))), .val (.ref b1), .val (.ref b8), .val (.ref b60), .val (.int (0 : Int32)), .val (.int (2 : Int32)), .val (.ref url), .val (.long q0), .second, .val (.int (own_chunk q0 (2 : Int32)))] [(.int (1 : Int32))]) _
      refine outN X90 hx (t := .boolean) hret (by simp) (hb hby at_178) hlk (by decide) (by decide) ?_
      exact ⟨rfl, N90⟩
    · rw [hs88]
      show Go p e below T87 (mkF m 138 #[.val (.long q0), .second, .val (.long q1), .second, .val (.int p2), .val (.int p3), .val (.int (p3 &&& (1073741823 : Int32))), .val (.ref b1), .val (.ref b8), .val (.ref b60), .val (.int (1 : Int32)), .val (.int (2 : Int32)), .val (.ref url), .unset, .unset, .unset] []) _
      refine stp (fun _ => XS.iload X87.here hx rfl (hb hby at_138) rfl) ?_
      show Go p e below T87 (mkF m 140 #[.val (.long q0), .second, .val (.long q1), .second, .val (.int p2), .val (.int p3), .val (.int (p3 &&& (1073741823 : Int32))), .val (.ref b1), .val (.ref b8), .val (.ref b60), .val (.int (1 : Int32)), .val (.int (2 : Int32)), .val (.ref url), .unset, .unset, .unset] [(.int (1 : Int32))]) _
      refine stp (fun _ => XS.ifYes X87.here hx rfl (pc0 := 140) (pc' := 147) rfl (hb hby at_140) rfl (by decide) (by decide) (by decide)) ?_
      show Go p e below T87 (mkF m 147 #[.val (.long q0), .second, .val (.long q1), .second, .val (.int p2), .val (.int p3), .val (.int (p3 &&& (1073741823 : Int32))), .val (.ref b1), .val (.ref b8), .val (.ref b60), .val (.int (1 : Int32)), .val (.int (2 : Int32)), .val (.ref url), .unset, .unset, .unset] []) _
      refine stp (fun _ => XS.lloadN X87.here hx rfl (hb hby at_147) rfl) ?_
      show Go p e below T87 (mkF m 148 #[.val (.long q0), .second, .val (.long q1), .second, .val (.int p2), .val (.int p3), .val (.int (p3 &&& (1073741823 : Int32))), .val (.ref b1), .val (.ref b8), .val (.ref b60), .val (.int (1 : Int32)), .val (.int (2 : Int32)), .val (.ref url), .unset, .unset, .unset] [(.long q1)]) _
      refine stp (fun _ => XS.lstore X87.here hx rfl (hb hby at_148) rfl (l' := #[.val (.long q0), .second, .val (.long q1), .second, .val (.int p2), .val (.int p3), .val (.int (p3 &&& (1073741823 : Int32))), .val (.ref b1), .val (.ref b8), .val (.ref b60), .val (.int (1 : Int32)), .val (.int (2 : Int32)), .val (.ref url), .val (.long q1), .second, .unset]) rfl) ?_
      show Go p e below T87 (mkF m 150 #[.val (.long q0), .second, .val (.long q1), .second, .val (.int p2), .val (.int p3), .val (.int (p3 &&& (1073741823 : Int32))), .val (.ref b1), .val (.ref b8), .val (.ref b60), .val (.int (1 : Int32)), .val (.int (2 : Int32)), .val (.ref url), .val (.long q1), .second, .unset] []) _
      refine stp (fun _ => XS.lload X87.here hx rfl (hb hby at_150) rfl) ?_
      show Go p e below T87 (mkF m 152 #[.val (.long q0), .second, .val (.long q1), .second, .val (.int p2), .val (.int p3), .val (.int (p3 &&& (1073741823 : Int32))), .val (.ref b1), .val (.ref b8), .val (.ref b60), .val (.int (1 : Int32)), .val (.int (2 : Int32)), .val (.ref url), .val (.long q1), .second, .unset] [(.long q1)]) _
      refine stp (fun _ => XS.iload X87.here hx rfl (hb hby at_152) rfl) ?_
      show Go p e below T87 (mkF m 154 #[.val (.long q0), .second, .val (.long q1), .second, .val (.int p2), .val (.int p3), .val (.int (p3 &&& (1073741823 : Int32))), .val (.ref b1), .val (.ref b8), .val (.ref b60), .val (.int (1 : Int32)), .val (.int (2 : Int32)), .val (.ref url), .val (.long q1), .second, .unset] [(.int (2 : Int32)), (.long q1)]) _
      obtain ⟨_, _, ⟨T91, L91, k91, n91⟩, -, X91, ⟨Lc91, hQ91, l91, y91, z91⟩, st91⟩ := Jvm.LawKit.callS X87 hx (y := (⟨"com/example/fetch_to_rank/fetchtorank/index/PostingsCountPinLaw", "chunk", "(JI)I"⟩ : MethodName)) hown (mvT hZ (hw _ (List.mem_of_getElem? (i := 2) rfl))) (mvT hZ (hw _ (List.mem_of_getElem? (i := 3) rfl))) (mvT hZ (hw _ (List.mem_of_getElem? (i := 4) rfl))) (mvT hZ (hw _ (List.mem_of_getElem? (i := 5) rfl))) (by decide) (backOf (W := 0) (rm_chunk l Z a0 hw [] q1 (2 : Int32) T69.heap n0 O69 ) hZ (hw _ (List.mem_of_getElem? (i := 5) rfl)) (hw _ (List.mem_of_getElem? (i := 4) rfl)) (by decide) (by decide)) (g := (mkF m 154 #[.val (.long q0), .second, .val (.long q1), .second, .val (.int p2), .val (.int p3), .val (.int (p3 &&& (1073741823 : Int32))), .val (.ref b1), .val (.ref b8), .val (.ref b60), .val (.int (1 : Int32)), .val (.int (2 : Int32)), .val (.ref url), .val (.long q1), .second, .unset] [(.int (2 : Int32)), (.long q1)])) rfl (by rw [hml]; rfl) (argsL := [(.long q1), (.int (2 : Int32))]) (rest := []) (lenOf pd_1 rfl) rfl (by show 2 * 0 + _ ≤ _; exact Nat.le_of_eq rfl) (hb hby at_154) (fun _ _ => ⟨rfl, e87, (by decide : 5 + 0 ≤ _), (by decide : 22 + 0 ≤ _)⟩)
      dsimp only [Pt.U, Pt.locs, Pt.cells, Pt.slots] at X91 l91 y91 z91 st91 hQ91
      subst y91 z91
      obtain ⟨rfl, N91q, e91⟩ := hQ91
      have N91 : Fr n0 L91 := by rw [l91]; exact Fr.app N87 N91q
      refine stp st91 ?_
      show Go p e below T91 (mkF m 157 #[.val (.long q0), .second, .val (.long q1), .second, .val (.int p2), .val (.int p3), .val (.int (p3 &&& (1073741823 : Int32))), .val (.ref b1), .val (.ref b8), .val (.ref b60), .val (.int (1 : Int32)), .val (.int (2 : Int32)), .val (.ref url), .val (.long q1), .second, .unset] [(.int (own_chunk q1 (2 : Int32)))]) _
      refine stp (fun _ => XS.istore X91.here hx rfl (hb hby at_157) rfl (l' := #[.val (.long q0), .second, .val (.long q1), .second, .val (.int p2), .val (.int p3), .val (.int (p3 &&& (1073741823 : Int32))), .val (.ref b1), .val (.ref b8), .val (.ref b60), .val (.int (1 : Int32)), .val (.int (2 : Int32)), .val (.ref url), .val (.long q1), .second, .val (.int (own_chunk q1 (2 : Int32)))]) rfl) ?_
      show Go p e below T91 (mkF m 159 #[.val (.long q0), .second, .val (.long q1), .second, .val (.int p2), .val (.int p3), .val (.int (p3 &&& (1073741823 : Int32))), .val (.ref b1), .val (.ref b8), .val (.ref b60), .val (.int (1 : Int32)), .val (.int (2 : Int32)), .val (.ref url), .val (.long q1), .second, .val (.int (own_chunk q1 (2 : Int32)))] []) _
      refine stp (fun _ => XS.aload X91.here hx rfl (hb hby at_159) rfl rfl) ?_
      show Go p e below T91 (mkF m 161 #[.val (.long q0), .second, .val (.long q1), .second, .val (.int p2), .val (.int p3), .val (.int (p3 &&& (1073741823 : Int32))), .val (.ref b1), .val (.ref b8), .val (.ref b60), .val (.int (1 : Int32)), .val (.int (2 : Int32)), .val (.ref url), .val (.long q1), .second, .val (.int (own_chunk q1 (2 : Int32)))] [(.ref b60)]) _
      refine stp (fun _ => XS.iload X91.here hx rfl (hb hby at_161) rfl) ?_
      show Go p e below T91 (mkF m 163 #[.val (.long q0), .second, .val (.long q1), .second, .val (.int p2), .val (.int p3), .val (.int (p3 &&& (1073741823 : Int32))), .val (.ref b1), .val (.ref b8), .val (.ref b60), .val (.int (1 : Int32)), .val (.int (2 : Int32)), .val (.ref url), .val (.long q1), .second, .val (.int (own_chunk q1 (2 : Int32)))] [(.int (1 : Int32)), (.ref b60)]) _
      refine stp (fun _ => XS.aload X91.here hx rfl (hb hby at_163) rfl rfl) ?_
      show Go p e below T91 (mkF m 165 #[.val (.long q0), .second, .val (.long q1), .second, .val (.int p2), .val (.int p3), .val (.int (p3 &&& (1073741823 : Int32))), .val (.ref b1), .val (.ref b8), .val (.ref b60), .val (.int (1 : Int32)), .val (.int (2 : Int32)), .val (.ref url), .val (.long q1), .second, .val (.int (own_chunk q1 (2 : Int32)))] [(.ref url), (.int (1 : Int32)), (.ref b60)]) _
      obtain ⟨cq92, kq92, q92a, q92b, q92c⟩ := isOf hZ e91 E69q
      obtain ⟨_, _, ⟨T92, L92, k92, n92⟩, -, X92, ⟨Lc92, hQ92, l92, y92, z92⟩, st92⟩ := X91.virtualBack hx (y := (⟨"com/example/fetch_to_rank/fetchtorank/index/Postings", "count", "(ILcom/example/fetch_to_rank/fetchtorank/index/HitType;)I"⟩ : MethodName)) (z := (⟨"com/example/fetch_to_rank/fetchtorank/index/Postings", "count", "(ILcom/example/fetch_to_rank/fetchtorank/index/HitType;)I"⟩ : MethodName)) hown (mvT hZ (hw _ (List.mem_of_getElem? (i := 37) rfl))) (mvT hZ (hw _ (List.mem_of_getElem? (i := 38) rfl))) (notFace_of_selects (args := #[]) (mvT hZ (hw _ (List.mem_of_getElem? (i := 40) rfl)))) (mvT hZ (hw _ (List.mem_of_getElem? (i := 40) rfl))) (mvT hZ (hw _ (List.mem_of_getElem? (i := 39) rfl))) (by decide) (backOf (W := 0) (rm_count l Z a0 hw [] b60 (1 : Int32) url b69 k8 (2 : Int32) (own_chunk q1 (2 : Int32)) (own_chunk q0 (0 : Int32)) (own_chunk q0 (1 : Int32)) (own_chunk q0 (2 : Int32)) (own_chunk q0 (3 : Int32)) (own_chunk q1 (0 : Int32)) (own_chunk q1 (1 : Int32)) (own_chunk q1 (2 : Int32)) (own_chunk q1 (3 : Int32)) T69.heap n0 O69 F69q V69q E_URL F_URL (by decide) rfl S_TYPES) hZ (hw _ (List.mem_of_getElem? (i := 41) rfl)) (hw _ (List.mem_of_getElem? (i := 9) rfl)) (by decide) (by decide)) q92a q92c (g := (mkF m 165 #[.val (.long q0), .second, .val (.long q1), .second, .val (.int p2), .val (.int p3), .val (.int (p3 &&& (1073741823 : Int32))), .val (.ref b1), .val (.ref b8), .val (.ref b60), .val (.int (1 : Int32)), .val (.int (2 : Int32)), .val (.ref url), .val (.long q1), .second, .val (.int (own_chunk q1 (2 : Int32)))] [(.ref url), (.int (1 : Int32)), (.ref b60)])) rfl (by rw [hml]; rfl) (Steps.refl _) (argsL := [(.int (1 : Int32)), (.ref url)]) (rest := []) (lenOf pd_4 rfl) rfl (by show 2 * 0 + _ ≤ _; exact Nat.le_of_eq rfl) (hb hby at_165) (fun _ _ => ⟨rfl, e91, (by decide : 5 + 0 ≤ _), (by decide : 22 + 0 ≤ _)⟩)
      dsimp only [Pt.U, Pt.locs, Pt.cells, Pt.slots] at X92 l92 y92 z92 st92 hQ92
      subst y92 z92
      obtain ⟨rfl, N92q, e92⟩ := hQ92
      have N92 : Fr n0 L92 := by rw [l92]; exact Fr.app N91 N92q
      refine stt st92 ?_
      show Go p e below T92 (mkF m 168 #[.val (.long q0), .second, .val (.long q1), .second, .val (.int p2), .val (.int p3), .val (.int (p3 &&& (1073741823 : Int32))), .val (.ref b1), .val (.ref b8), .val (.ref b60), .val (.int (1 : Int32)), .val (.int (2 : Int32)), .val (.ref url), .val (.long q1), .second, .val (.int (own_chunk q1 (2 : Int32)))] [(.int (own_chunk q1 (2 : Int32)))]) _
      refine stp (fun _ => XS.iload X92.here hx rfl (hb hby at_168) rfl) ?_
      show Go p e below T92 (mkF m 170 #[.val (.long q0), .second, .val (.long q1), .second, .val (.int p2), .val (.int p3), .val (.int (p3 &&& (1073741823 : Int32))), .val (.ref b1), .val (.ref b8), .val (.ref b60), .val (.int (1 : Int32)), .val (.int (2 : Int32)), .val (.ref url), .val (.long q1), .second, .val (.int (own_chunk q1 (2 : Int32)))] [(.int (own_chunk q1 (2 : Int32))), (.int (own_chunk q1 (2 : Int32)))]) _
      refine stp (fun _ => XS.icmpNo X92.here hx rfl (hb hby at_170) rfl (XT.ii_ne_f rfl)) ?_
      show Go p e below T92 (mkF m 173 #[.val (.long q0), .second, .val (.long q1), .second, .val (.int p2), .val (.int p3), .val (.int (p3 &&& (1073741823 : Int32))), .val (.ref b1), .val (.ref b8), .val (.ref b60), .val (.int (1 : Int32)), .val (.int (2 : Int32)), .val (.ref url), .val (.long q1), .second, .val (.int (own_chunk q1 (2 : Int32)))] []) _
      refine stp (fun _ => XS.iconst X92.here hx rfl (hb hby at_173)) ?_
      show Go p e below T92 (mkF m 174 #[.val (.long q0), .second, .val (.long q1), .second, .val (.int p2), .val (.int p3), .val (.int (p3 &&& (1073741823 : Int32))), .val (.ref b1), .val (.ref b8), .val (.ref b60), .val (.int (1 : Int32)), .val (.int (2 : Int32)), .val (.ref url), .val (.long q1), .second, .val (.int (own_chunk q1 (2 : Int32)))] [(.int (1 : Int32))]) _
      refine stp (fun _ => XS.goto X92.here hx rfl (pc0 := 174) (pc' := 178) rfl (hb hby at_174) (by decide) (by decide)) ?_
      show Go p e below T92 (mkF m 178 #[.val (.long q0), .second, .val (.long q1), .second, .val (.int p2), .val (.int p3), .val (.int (p3 &&& (1073741823 : Int32))), .val (.ref b1), .val (.ref b8), .val (.ref b60), .val (.int (1 : Int32)), .val (.int (2 : Int32)), .val (.ref url), .val (.long q1), .second, .val (.int (own_chunk q1 (2 : Int32)))] [(.int (1 : Int32))]) _
      refine outN X92 hx (t := .boolean) hret (by simp) (hb hby at_178) hlk (by decide) (by decide) ?_
      exact ⟨rfl, N92⟩
  · rw [hs74]
    show Go p e below T69 (mkF m 131 #[.val (.long q0), .second, .val (.long q1), .second, .val (.int p2), .val (.int p3), .val (.int (p3 &&& (1073741823 : Int32))), .val (.ref b1), .val (.ref b8), .val (.ref b60), .val (.int (p2 &&& (1 : Int32))), .val (.int (3 : Int32)), .unset, .unset, .unset, .unset] []) _
    refine stp (fun _ => XS.iload X69.here hx rfl (hb hby at_131) rfl) ?_
    show Go p e below T69 (mkF m 133 #[.val (.long q0), .second, .val (.long q1), .second, .val (.int p2), .val (.int p3), .val (.int (p3 &&& (1073741823 : Int32))), .val (.ref b1), .val (.ref b8), .val (.ref b60), .val (.int (p2 &&& (1 : Int32))), .val (.int (3 : Int32)), .unset, .unset, .unset, .unset] [(.int (3 : Int32))]) _
    obtain ⟨_, _, ⟨T93, L93, k93, n93⟩, -, X93, ⟨Lc93, hQ93, l93, y93, z93⟩, st93⟩ := Jvm.LawKit.callS X69 hx (y := (⟨"com/example/fetch_to_rank/fetchtorank/index/PostingsCountPinLaw", "typeOf", "(I)Lcom/example/fetch_to_rank/fetchtorank/index/HitType;"⟩ : MethodName)) hown (mvT hZ (hw _ (List.mem_of_getElem? (i := 31) rfl))) (mvT hZ (hw _ (List.mem_of_getElem? (i := 32) rfl))) (mvT hZ (hw _ (List.mem_of_getElem? (i := 4) rfl))) (mvT hZ (hw _ (List.mem_of_getElem? (i := 33) rfl))) (by decide) (backOf (W := 0) (rm_type l Z a0 hw [] (3 : Int32) title anchor url plain plain T69.heap n0 O69 S_TITLE S_ANCHOR S_URL S_PLAIN ⟨fun h => absurd h (by decide), fun h => absurd h (by decide), fun h => absurd h (by decide), fun h0 h1 h2 => rfl⟩) hZ (hw _ (List.mem_of_getElem? (i := 33) rfl)) (hw _ (List.mem_of_getElem? (i := 4) rfl)) (by decide) (by decide)) (g := (mkF m 133 #[.val (.long q0), .second, .val (.long q1), .second, .val (.int p2), .val (.int p3), .val (.int (p3 &&& (1073741823 : Int32))), .val (.ref b1), .val (.ref b8), .val (.ref b60), .val (.int (p2 &&& (1 : Int32))), .val (.int (3 : Int32)), .unset, .unset, .unset, .unset] [(.int (3 : Int32))])) rfl (by rw [hml]; rfl) (argsL := [(.int (3 : Int32))]) (rest := []) (lenOf pd_3 rfl) rfl (by show 2 * 0 + _ ≤ _; exact Nat.le_of_eq rfl) (hb hby at_133) (fun _ _ => ⟨rfl, rfl, (by decide : 5 + 0 ≤ _), (by decide : 22 + 0 ≤ _)⟩)
    dsimp only [Pt.U, Pt.locs, Pt.cells, Pt.slots] at X93 l93 y93 z93 st93 hQ93
    subst y93 z93
    obtain ⟨rfl, N93q, e93⟩ := hQ93
    have N93 : Fr n0 L93 := by rw [l93]; exact Fr.app N69 N93q
    refine stp st93 ?_
    show Go p e below T93 (mkF m 136 #[.val (.long q0), .second, .val (.long q1), .second, .val (.int p2), .val (.int p3), .val (.int (p3 &&& (1073741823 : Int32))), .val (.ref b1), .val (.ref b8), .val (.ref b60), .val (.int (p2 &&& (1 : Int32))), .val (.int (3 : Int32)), .unset, .unset, .unset, .unset] [(.ref plain)]) _
    refine stp (fun _ => XS.astore X93.here hx rfl (hb hby at_136) rfl rfl (l' := #[.val (.long q0), .second, .val (.long q1), .second, .val (.int p2), .val (.int p3), .val (.int (p3 &&& (1073741823 : Int32))), .val (.ref b1), .val (.ref b8), .val (.ref b60), .val (.int (p2 &&& (1 : Int32))), .val (.int (3 : Int32)), .val (.ref plain), .unset, .unset, .unset]) rfl) ?_
    show Go p e below T93 (mkF m 138 #[.val (.long q0), .second, .val (.long q1), .second, .val (.int p2), .val (.int p3), .val (.int (p3 &&& (1073741823 : Int32))), .val (.ref b1), .val (.ref b8), .val (.ref b60), .val (.int (p2 &&& (1 : Int32))), .val (.int (3 : Int32)), .val (.ref plain), .unset, .unset, .unset] []) _
    have hs94 : (p2 &&& (1 : Int32)) = (0 : Int32) ∨ (p2 &&& (1 : Int32)) = (1 : Int32) := and1_cases _
    rcases hs94 with hs94 | hs94
    · rw [hs94]
      show Go p e below T93 (mkF m 138 #[.val (.long q0), .second, .val (.long q1), .second, .val (.int p2), .val (.int p3), .val (.int (p3 &&& (1073741823 : Int32))), .val (.ref b1), .val (.ref b8), .val (.ref b60), .val (.int (0 : Int32)), .val (.int (3 : Int32)), .val (.ref plain), .unset, .unset, .unset] []) _
      refine stp (fun _ => XS.iload X93.here hx rfl (hb hby at_138) rfl) ?_
      show Go p e below T93 (mkF m 140 #[.val (.long q0), .second, .val (.long q1), .second, .val (.int p2), .val (.int p3), .val (.int (p3 &&& (1073741823 : Int32))), .val (.ref b1), .val (.ref b8), .val (.ref b60), .val (.int (0 : Int32)), .val (.int (3 : Int32)), .val (.ref plain), .unset, .unset, .unset] [(.int (0 : Int32))]) _
      refine stp (fun _ => XS.ifNo X93.here hx rfl (hb hby at_140) rfl (by decide)) ?_
      show Go p e below T93 (mkF m 143 #[.val (.long q0), .second, .val (.long q1), .second, .val (.int p2), .val (.int p3), .val (.int (p3 &&& (1073741823 : Int32))), .val (.ref b1), .val (.ref b8), .val (.ref b60), .val (.int (0 : Int32)), .val (.int (3 : Int32)), .val (.ref plain), .unset, .unset, .unset] []) _
      refine stp (fun _ => XS.lloadN X93.here hx rfl (hb hby at_143) rfl) ?_
      show Go p e below T93 (mkF m 144 #[.val (.long q0), .second, .val (.long q1), .second, .val (.int p2), .val (.int p3), .val (.int (p3 &&& (1073741823 : Int32))), .val (.ref b1), .val (.ref b8), .val (.ref b60), .val (.int (0 : Int32)), .val (.int (3 : Int32)), .val (.ref plain), .unset, .unset, .unset] [(.long q0)]) _
      refine stp (fun _ => XS.goto X93.here hx rfl (pc0 := 144) (pc' := 148) rfl (hb hby at_144) (by decide) (by decide)) ?_
      show Go p e below T93 (mkF m 148 #[.val (.long q0), .second, .val (.long q1), .second, .val (.int p2), .val (.int p3), .val (.int (p3 &&& (1073741823 : Int32))), .val (.ref b1), .val (.ref b8), .val (.ref b60), .val (.int (0 : Int32)), .val (.int (3 : Int32)), .val (.ref plain), .unset, .unset, .unset] [(.long q0)]) _
      refine stp (fun _ => XS.lstore X93.here hx rfl (hb hby at_148) rfl (l' := #[.val (.long q0), .second, .val (.long q1), .second, .val (.int p2), .val (.int p3), .val (.int (p3 &&& (1073741823 : Int32))), .val (.ref b1), .val (.ref b8), .val (.ref b60), .val (.int (0 : Int32)), .val (.int (3 : Int32)), .val (.ref plain), .val (.long q0), .second, .unset]) rfl) ?_
      show Go p e below T93 (mkF m 150 #[.val (.long q0), .second, .val (.long q1), .second, .val (.int p2), .val (.int p3), .val (.int (p3 &&& (1073741823 : Int32))), .val (.ref b1), .val (.ref b8), .val (.ref b60), .val (.int (0 : Int32)), .val (.int (3 : Int32)), .val (.ref plain), .val (.long q0), .second, .unset] []) _
      refine stp (fun _ => XS.lload X93.here hx rfl (hb hby at_150) rfl) ?_
      show Go p e below T93 (mkF m 152 #[.val (.long q0), .second, .val (.long q1), .second, .val (.int p2), .val (.int p3), .val (.int (p3 &&& (1073741823 : Int32))), .val (.ref b1), .val (.ref b8), .val (.ref b60), .val (.int (0 : Int32)), .val (.int (3 : Int32)), .val (.ref plain), .val (.long q0), .second, .unset] [(.long q0)]) _
      refine stp (fun _ => XS.iload X93.here hx rfl (hb hby at_152) rfl) ?_
      show Go p e below T93 (mkF m 154 #[.val (.long q0), .second, .val (.long q1), .second, .val (.int p2), .val (.int p3), .val (.int (p3 &&& (1073741823 : Int32))), .val (.ref b1), .val (.ref b8), .val (.ref b60), .val (.int (0 : Int32)), .val (.int (3 : Int32)), .val (.ref plain), .val (.long q0), .second, .unset] [(.int (3 : Int32)), (.long q0)]) _
      obtain ⟨_, _, ⟨T95, L95, k95, n95⟩, -, X95, ⟨Lc95, hQ95, l95, y95, z95⟩, st95⟩ := Jvm.LawKit.callS X93 hx (y := (⟨"com/example/fetch_to_rank/fetchtorank/index/PostingsCountPinLaw", "chunk", "(JI)I"⟩ : MethodName)) hown (mvT hZ (hw _ (List.mem_of_getElem? (i := 2) rfl))) (mvT hZ (hw _ (List.mem_of_getElem? (i := 3) rfl))) (mvT hZ (hw _ (List.mem_of_getElem? (i := 4) rfl))) (mvT hZ (hw _ (List.mem_of_getElem? (i := 5) rfl))) (by decide) (backOf (W := 0) (rm_chunk l Z a0 hw [] q0 (3 : Int32) T69.heap n0 O69 ) hZ (hw _ (List.mem_of_getElem? (i := 5) rfl)) (hw _ (List.mem_of_getElem? (i := 4) rfl)) (by decide) (by decide)) (g := (mkF m 154 #[.val (.long q0), .second, .val (.long q1), .second, .val (.int p2), .val (.int p3), .val (.int (p3 &&& (1073741823 : Int32))), .val (.ref b1), .val (.ref b8), .val (.ref b60), .val (.int (0 : Int32)), .val (.int (3 : Int32)), .val (.ref plain), .val (.long q0), .second, .unset] [(.int (3 : Int32)), (.long q0)])) rfl (by rw [hml]; rfl) (argsL := [(.long q0), (.int (3 : Int32))]) (rest := []) (lenOf pd_1 rfl) rfl (by show 2 * 0 + _ ≤ _; exact Nat.le_of_eq rfl) (hb hby at_154) (fun _ _ => ⟨rfl, e93, (by decide : 5 + 0 ≤ _), (by decide : 22 + 0 ≤ _)⟩)
      dsimp only [Pt.U, Pt.locs, Pt.cells, Pt.slots] at X95 l95 y95 z95 st95 hQ95
      subst y95 z95
      obtain ⟨rfl, N95q, e95⟩ := hQ95
      have N95 : Fr n0 L95 := by rw [l95]; exact Fr.app N93 N95q
      refine stp st95 ?_
      show Go p e below T95 (mkF m 157 #[.val (.long q0), .second, .val (.long q1), .second, .val (.int p2), .val (.int p3), .val (.int (p3 &&& (1073741823 : Int32))), .val (.ref b1), .val (.ref b8), .val (.ref b60), .val (.int (0 : Int32)), .val (.int (3 : Int32)), .val (.ref plain), .val (.long q0), .second, .unset] [(.int (own_chunk q0 (3 : Int32)))]) _
      refine stp (fun _ => XS.istore X95.here hx rfl (hb hby at_157) rfl (l' := #[.val (.long q0), .second, .val (.long q1), .second, .val (.int p2), .val (.int p3), .val (.int (p3 &&& (1073741823 : Int32))), .val (.ref b1), .val (.ref b8), .val (.ref b60), .val (.int (0 : Int32)), .val (.int (3 : Int32)), .val (.ref plain), .val (.long q0), .second, .val (.int (own_chunk q0 (3 : Int32)))]) rfl) ?_
      show Go p e below T95 (mkF m 159 #[.val (.long q0), .second, .val (.long q1), .second, .val (.int p2), .val (.int p3), .val (.int (p3 &&& (1073741823 : Int32))), .val (.ref b1), .val (.ref b8), .val (.ref b60), .val (.int (0 : Int32)), .val (.int (3 : Int32)), .val (.ref plain), .val (.long q0), .second, .val (.int (own_chunk q0 (3 : Int32)))] []) _
      refine stp (fun _ => XS.aload X95.here hx rfl (hb hby at_159) rfl rfl) ?_
      show Go p e below T95 (mkF m 161 #[.val (.long q0), .second, .val (.long q1), .second, .val (.int p2), .val (.int p3), .val (.int (p3 &&& (1073741823 : Int32))), .val (.ref b1), .val (.ref b8), .val (.ref b60), .val (.int (0 : Int32)), .val (.int (3 : Int32)), .val (.ref plain), .val (.long q0), .second, .val (.int (own_chunk q0 (3 : Int32)))] [(.ref b60)]) _
      refine stp (fun _ => XS.iload X95.here hx rfl (hb hby at_161) rfl) ?_
      show Go p e below T95 (mkF m 163 #[.val (.long q0), .second, .val (.long q1), .second, .val (.int p2), .val (.int p3), .val (.int (p3 &&& (1073741823 : Int32))), .val (.ref b1), .val (.ref b8), .val (.ref b60), .val (.int (0 : Int32)), .val (.int (3 : Int32)), .val (.ref plain), .val (.long q0), .second, .val (.int (own_chunk q0 (3 : Int32)))] [(.int (0 : Int32)), (.ref b60)]) _
      refine stp (fun _ => XS.aload X95.here hx rfl (hb hby at_163) rfl rfl) ?_
      show Go p e below T95 (mkF m 165 #[.val (.long q0), .second, .val (.long q1), .second, .val (.int p2), .val (.int p3), .val (.int (p3 &&& (1073741823 : Int32))), .val (.ref b1), .val (.ref b8), .val (.ref b60), .val (.int (0 : Int32)), .val (.int (3 : Int32)), .val (.ref plain), .val (.long q0), .second, .val (.int (own_chunk q0 (3 : Int32)))] [(.ref plain), (.int (0 : Int32)), (.ref b60)]) _
      obtain ⟨cq96, kq96, q96a, q96b, q96c⟩ := isOf hZ e95 E69q
      obtain ⟨_, _, ⟨T96, L96, k96, n96⟩, -, X96, ⟨Lc96, hQ96, l96, y96, z96⟩, st96⟩ := X95.virtualBack hx (y := (⟨"com/example/fetch_to_rank/fetchtorank/index/Postings", "count", "(ILcom/example/fetch_to_rank/fetchtorank/index/HitType;)I"⟩ : MethodName)) (z := (⟨"com/example/fetch_to_rank/fetchtorank/index/Postings", "count", "(ILcom/example/fetch_to_rank/fetchtorank/index/HitType;)I"⟩ : MethodName)) hown (mvT hZ (hw _ (List.mem_of_getElem? (i := 37) rfl))) (mvT hZ (hw _ (List.mem_of_getElem? (i := 38) rfl))) (notFace_of_selects (args := #[]) (mvT hZ (hw _ (List.mem_of_getElem? (i := 40) rfl)))) (mvT hZ (hw _ (List.mem_of_getElem? (i := 40) rfl))) (mvT hZ (hw _ (List.mem_of_getElem? (i := 39) rfl))) (by decide) (backOf (W := 0) (rm_count l Z a0 hw [] b60 (0 : Int32) plain b69 k8 (3 : Int32) (own_chunk q0 (3 : Int32)) (own_chunk q0 (0 : Int32)) (own_chunk q0 (1 : Int32)) (own_chunk q0 (2 : Int32)) (own_chunk q0 (3 : Int32)) (own_chunk q1 (0 : Int32)) (own_chunk q1 (1 : Int32)) (own_chunk q1 (2 : Int32)) (own_chunk q1 (3 : Int32)) T69.heap n0 O69 F69q V69q E_PLAIN F_PLAIN (by decide) rfl S_TYPES) hZ (hw _ (List.mem_of_getElem? (i := 41) rfl)) (hw _ (List.mem_of_getElem? (i := 9) rfl)) (by decide) (by decide)) q96a q96c (g := (mkF m 165 #[.val (.long q0), .second, .val (.long q1), .second, .val (.int p2), .val (.int p3), .val (.int (p3 &&& (1073741823 : Int32))), .val (.ref b1), .val (.ref b8), .val (.ref b60), .val (.int (0 : Int32)), .val (.int (3 : Int32)), .val (.ref plain), .val (.long q0), .second, .val (.int (own_chunk q0 (3 : Int32)))] [(.ref plain), (.int (0 : Int32)), (.ref b60)])) rfl (by rw [hml]; rfl) (Steps.refl _) (argsL := [(.int (0 : Int32)), (.ref plain)]) (rest := []) (lenOf pd_4 rfl) rfl (by show 2 * 0 + _ ≤ _; exact Nat.le_of_eq rfl) (hb hby at_165) (fun _ _ => ⟨rfl, e95, (by decide : 5 + 0 ≤ _), (by decide : 22 + 0 ≤ _)⟩)
      dsimp only [Pt.U, Pt.locs, Pt.cells, Pt.slots] at X96 l96 y96 z96 st96 hQ96
      subst y96 z96
      obtain ⟨rfl, N96q, e96⟩ := hQ96
      have N96 : Fr n0 L96 := by rw [l96]; exact Fr.app N95 N96q
      refine stt st96 ?_
      show Go p e below T96 (mkF m 168 #[.val (.long q0), .second, .val (.long q1), .second, .val (.int p2), .val (.int p3), .val (.int (p3 &&& (1073741823 : Int32))), .val (.ref b1), .val (.ref b8), .val (.ref b60), .val (.int (0 : Int32)), .val (.int (3 : Int32)), .val (.ref plain), .val (.long q0), .second, .val (.int (own_chunk q0 (3 : Int32)))] [(.int (own_chunk q0 (3 : Int32)))]) _
      refine stp (fun _ => XS.iload X96.here hx rfl (hb hby at_168) rfl) ?_
      show Go p e below T96 (mkF m 170 #[.val (.long q0), .second, .val (.long q1), .second, .val (.int p2), .val (.int p3), .val (.int (p3 &&& (1073741823 : Int32))), .val (.ref b1), .val (.ref b8), .val (.ref b60), .val (.int (0 : Int32)), .val (.int (3 : Int32)), .val (.ref plain), .val (.long q0), .second, .val (.int (own_chunk q0 (3 : Int32)))] [(.int (own_chunk q0 (3 : Int32))), (.int (own_chunk q0 (3 : Int32)))]) _
      refine stp (fun _ => XS.icmpNo X96.here hx rfl (hb hby at_170) rfl (XT.ii_ne_f rfl)) ?_
      show Go p e below T96 (mkF m 173 #[.val (.long q0), .second, .val (.long q1), .second, .val (.int p2), .val (.int p3), .val (.int (p3 &&& (1073741823 : Int32))), .val (.ref b1), .val (.ref b8), .val (.ref b60), .val (.int (0 : Int32)), .val (.int (3 : Int32)), .val (.ref plain), .val (.long q0), .second, .val (.int (own_chunk q0 (3 : Int32)))] []) _
      refine stp (fun _ => XS.iconst X96.here hx rfl (hb hby at_173)) ?_
      show Go p e below T96 (mkF m 174 #[.val (.long q0), .second, .val (.long q1), .second, .val (.int p2), .val (.int p3), .val (.int (p3 &&& (1073741823 : Int32))), .val (.ref b1), .val (.ref b8), .val (.ref b60), .val (.int (0 : Int32)), .val (.int (3 : Int32)), .val (.ref plain), .val (.long q0), .second, .val (.int (own_chunk q0 (3 : Int32)))] [(.int (1 : Int32))]) _
      refine stp (fun _ => XS.goto X96.here hx rfl (pc0 := 174) (pc' := 178) rfl (hb hby at_174) (by decide) (by decide)) ?_
      show Go p e below T96 (mkF m 178 #[.val (.long q0), .second, .val (.long q1), .second, .val (.int p2), .val (.int p3), .val (.int (p3 &&& (1073741823 : Int32))), .val (.ref b1), .val (.ref b8), .val (.ref b60), .val (.int (0 : Int32)), .val (.int (3 : Int32)), .val (.ref plain), .val (.long q0), .second, .val (.int (own_chunk q0 (3 : Int32)))] [(.int (1 : Int32))]) _
      refine outN X96 hx (t := .boolean) hret (by simp) (hb hby at_178) hlk (by decide) (by decide) ?_
      exact ⟨rfl, N96⟩
    · rw [hs94]
      show Go p e below T93 (mkF m 138 #[.val (.long q0), .second, .val (.long q1), .second, .val (.int p2), .val (.int p3), .val (.int (p3 &&& (1073741823 : Int32))), .val (.ref b1), .val (.ref b8), .val (.ref b60), .val (.int (1 : Int32)), .val (.int (3 : Int32)), .val (.ref plain), .unset, .unset, .unset] []) _
      refine stp (fun _ => XS.iload X93.here hx rfl (hb hby at_138) rfl) ?_
      show Go p e below T93 (mkF m 140 #[.val (.long q0), .second, .val (.long q1), .second, .val (.int p2), .val (.int p3), .val (.int (p3 &&& (1073741823 : Int32))), .val (.ref b1), .val (.ref b8), .val (.ref b60), .val (.int (1 : Int32)), .val (.int (3 : Int32)), .val (.ref plain), .unset, .unset, .unset] [(.int (1 : Int32))]) _
      refine stp (fun _ => XS.ifYes X93.here hx rfl (pc0 := 140) (pc' := 147) rfl (hb hby at_140) rfl (by decide) (by decide) (by decide)) ?_
      show Go p e below T93 (mkF m 147 #[.val (.long q0), .second, .val (.long q1), .second, .val (.int p2), .val (.int p3), .val (.int (p3 &&& (1073741823 : Int32))), .val (.ref b1), .val (.ref b8), .val (.ref b60), .val (.int (1 : Int32)), .val (.int (3 : Int32)), .val (.ref plain), .unset, .unset, .unset] []) _
      refine stp (fun _ => XS.lloadN X93.here hx rfl (hb hby at_147) rfl) ?_
      show Go p e below T93 (mkF m 148 #[.val (.long q0), .second, .val (.long q1), .second, .val (.int p2), .val (.int p3), .val (.int (p3 &&& (1073741823 : Int32))), .val (.ref b1), .val (.ref b8), .val (.ref b60), .val (.int (1 : Int32)), .val (.int (3 : Int32)), .val (.ref plain), .unset, .unset, .unset] [(.long q1)]) _
      refine stp (fun _ => XS.lstore X93.here hx rfl (hb hby at_148) rfl (l' := #[.val (.long q0), .second, .val (.long q1), .second, .val (.int p2), .val (.int p3), .val (.int (p3 &&& (1073741823 : Int32))), .val (.ref b1), .val (.ref b8), .val (.ref b60), .val (.int (1 : Int32)), .val (.int (3 : Int32)), .val (.ref plain), .val (.long q1), .second, .unset]) rfl) ?_
      show Go p e below T93 (mkF m 150 #[.val (.long q0), .second, .val (.long q1), .second, .val (.int p2), .val (.int p3), .val (.int (p3 &&& (1073741823 : Int32))), .val (.ref b1), .val (.ref b8), .val (.ref b60), .val (.int (1 : Int32)), .val (.int (3 : Int32)), .val (.ref plain), .val (.long q1), .second, .unset] []) _
      refine stp (fun _ => XS.lload X93.here hx rfl (hb hby at_150) rfl) ?_
      show Go p e below T93 (mkF m 152 #[.val (.long q0), .second, .val (.long q1), .second, .val (.int p2), .val (.int p3), .val (.int (p3 &&& (1073741823 : Int32))), .val (.ref b1), .val (.ref b8), .val (.ref b60), .val (.int (1 : Int32)), .val (.int (3 : Int32)), .val (.ref plain), .val (.long q1), .second, .unset] [(.long q1)]) _
      refine stp (fun _ => XS.iload X93.here hx rfl (hb hby at_152) rfl) ?_
      show Go p e below T93 (mkF m 154 #[.val (.long q0), .second, .val (.long q1), .second, .val (.int p2), .val (.int p3), .val (.int (p3 &&& (1073741823 : Int32))), .val (.ref b1), .val (.ref b8), .val (.ref b60), .val (.int (1 : Int32)), .val (.int (3 : Int32)), .val (.ref plain), .val (.long q1), .second, .unset] [(.int (3 : Int32)), (.long q1)]) _
      obtain ⟨_, _, ⟨T97, L97, k97, n97⟩, -, X97, ⟨Lc97, hQ97, l97, y97, z97⟩, st97⟩ := Jvm.LawKit.callS X93 hx (y := (⟨"com/example/fetch_to_rank/fetchtorank/index/PostingsCountPinLaw", "chunk", "(JI)I"⟩ : MethodName)) hown (mvT hZ (hw _ (List.mem_of_getElem? (i := 2) rfl))) (mvT hZ (hw _ (List.mem_of_getElem? (i := 3) rfl))) (mvT hZ (hw _ (List.mem_of_getElem? (i := 4) rfl))) (mvT hZ (hw _ (List.mem_of_getElem? (i := 5) rfl))) (by decide) (backOf (W := 0) (rm_chunk l Z a0 hw [] q1 (3 : Int32) T69.heap n0 O69 ) hZ (hw _ (List.mem_of_getElem? (i := 5) rfl)) (hw _ (List.mem_of_getElem? (i := 4) rfl)) (by decide) (by decide)) (g := (mkF m 154 #[.val (.long q0), .second, .val (.long q1), .second, .val (.int p2), .val (.int p3), .val (.int (p3 &&& (1073741823 : Int32))), .val (.ref b1), .val (.ref b8), .val (.ref b60), .val (.int (1 : Int32)), .val (.int (3 : Int32)), .val (.ref plain), .val (.long q1), .second, .unset] [(.int (3 : Int32)), (.long q1)])) rfl (by rw [hml]; rfl) (argsL := [(.long q1), (.int (3 : Int32))]) (rest := []) (lenOf pd_1 rfl) rfl (by show 2 * 0 + _ ≤ _; exact Nat.le_of_eq rfl) (hb hby at_154) (fun _ _ => ⟨rfl, e93, (by decide : 5 + 0 ≤ _), (by decide : 22 + 0 ≤ _)⟩)
      dsimp only [Pt.U, Pt.locs, Pt.cells, Pt.slots] at X97 l97 y97 z97 st97 hQ97
      subst y97 z97
      obtain ⟨rfl, N97q, e97⟩ := hQ97
      have N97 : Fr n0 L97 := by rw [l97]; exact Fr.app N93 N97q
      refine stp st97 ?_
      show Go p e below T97 (mkF m 157 #[.val (.long q0), .second, .val (.long q1), .second, .val (.int p2), .val (.int p3), .val (.int (p3 &&& (1073741823 : Int32))), .val (.ref b1), .val (.ref b8), .val (.ref b60), .val (.int (1 : Int32)), .val (.int (3 : Int32)), .val (.ref plain), .val (.long q1), .second, .unset] [(.int (own_chunk q1 (3 : Int32)))]) _
      refine stp (fun _ => XS.istore X97.here hx rfl (hb hby at_157) rfl (l' := #[.val (.long q0), .second, .val (.long q1), .second, .val (.int p2), .val (.int p3), .val (.int (p3 &&& (1073741823 : Int32))), .val (.ref b1), .val (.ref b8), .val (.ref b60), .val (.int (1 : Int32)), .val (.int (3 : Int32)), .val (.ref plain), .val (.long q1), .second, .val (.int (own_chunk q1 (3 : Int32)))]) rfl) ?_
      show Go p e below T97 (mkF m 159 #[.val (.long q0), .second, .val (.long q1), .second, .val (.int p2), .val (.int p3), .val (.int (p3 &&& (1073741823 : Int32))), .val (.ref b1), .val (.ref b8), .val (.ref b60), .val (.int (1 : Int32)), .val (.int (3 : Int32)), .val (.ref plain), .val (.long q1), .second, .val (.int (own_chunk q1 (3 : Int32)))] []) _
      refine stp (fun _ => XS.aload X97.here hx rfl (hb hby at_159) rfl rfl) ?_
      show Go p e below T97 (mkF m 161 #[.val (.long q0), .second, .val (.long q1), .second, .val (.int p2), .val (.int p3), .val (.int (p3 &&& (1073741823 : Int32))), .val (.ref b1), .val (.ref b8), .val (.ref b60), .val (.int (1 : Int32)), .val (.int (3 : Int32)), .val (.ref plain), .val (.long q1), .second, .val (.int (own_chunk q1 (3 : Int32)))] [(.ref b60)]) _
      refine stp (fun _ => XS.iload X97.here hx rfl (hb hby at_161) rfl) ?_
      show Go p e below T97 (mkF m 163 #[.val (.long q0), .second, .val (.long q1), .second, .val (.int p2), .val (.int p3), .val (.int (p3 &&& (1073741823 : Int32))), .val (.ref b1), .val (.ref b8), .val (.ref b60), .val (.int (1 : Int32)), .val (.int (3 : Int32)), .val (.ref plain), .val (.long q1), .second, .val (.int (own_chunk q1 (3 : Int32)))] [(.int (1 : Int32)), (.ref b60)]) _
      refine stp (fun _ => XS.aload X97.here hx rfl (hb hby at_163) rfl rfl) ?_
      show Go p e below T97 (mkF m 165 #[.val (.long q0), .second, .val (.long q1), .second, .val (.int p2), .val (.int p3), .val (.int (p3 &&& (1073741823 : Int32))), .val (.ref b1), .val (.ref b8), .val (.ref b60), .val (.int (1 : Int32)), .val (.int (3 : Int32)), .val (.ref plain), .val (.long q1), .second, .val (.int (own_chunk q1 (3 : Int32)))] [(.ref plain), (.int (1 : Int32)), (.ref b60)]) _
      obtain ⟨cq98, kq98, q98a, q98b, q98c⟩ := isOf hZ e97 E69q
      obtain ⟨_, _, ⟨T98, L98, k98, n98⟩, -, X98, ⟨Lc98, hQ98, l98, y98, z98⟩, st98⟩ := X97.virtualBack hx (y := (⟨"com/example/fetch_to_rank/fetchtorank/index/Postings", "count", "(ILcom/example/fetch_to_rank/fetchtorank/index/HitType;)I"⟩ : MethodName)) (z := (⟨"com/example/fetch_to_rank/fetchtorank/index/Postings", "count", "(ILcom/example/fetch_to_rank/fetchtorank/index/HitType;)I"⟩ : MethodName)) hown (mvT hZ (hw _ (List.mem_of_getElem? (i := 37) rfl))) (mvT hZ (hw _ (List.mem_of_getElem? (i := 38) rfl))) (notFace_of_selects (args := #[]) (mvT hZ (hw _ (List.mem_of_getElem? (i := 40) rfl)))) (mvT hZ (hw _ (List.mem_of_getElem? (i := 40) rfl))) (mvT hZ (hw _ (List.mem_of_getElem? (i := 39) rfl))) (by decide) (backOf (W := 0) (rm_count l Z a0 hw [] b60 (1 : Int32) plain b69 k8 (3 : Int32) (own_chunk q1 (3 : Int32)) (own_chunk q0 (0 : Int32)) (own_chunk q0 (1 : Int32)) (own_chunk q0 (2 : Int32)) (own_chunk q0 (3 : Int32)) (own_chunk q1 (0 : Int32)) (own_chunk q1 (1 : Int32)) (own_chunk q1 (2 : Int32)) (own_chunk q1 (3 : Int32)) T69.heap n0 O69 F69q V69q E_PLAIN F_PLAIN (by decide) rfl S_TYPES) hZ (hw _ (List.mem_of_getElem? (i := 41) rfl)) (hw _ (List.mem_of_getElem? (i := 9) rfl)) (by decide) (by decide)) q98a q98c (g := (mkF m 165 #[.val (.long q0), .second, .val (.long q1), .second, .val (.int p2), .val (.int p3), .val (.int (p3 &&& (1073741823 : Int32))), .val (.ref b1), .val (.ref b8), .val (.ref b60), .val (.int (1 : Int32)), .val (.int (3 : Int32)), .val (.ref plain), .val (.long q1), .second, .val (.int (own_chunk q1 (3 : Int32)))] [(.ref plain), (.int (1 : Int32)), (.ref b60)])) rfl (by rw [hml]; rfl) (Steps.refl _) (argsL := [(.int (1 : Int32)), (.ref plain)]) (rest := []) (lenOf pd_4 rfl) rfl (by show 2 * 0 + _ ≤ _; exact Nat.le_of_eq rfl) (hb hby at_165) (fun _ _ => ⟨rfl, e97, (by decide : 5 + 0 ≤ _), (by decide : 22 + 0 ≤ _)⟩)
      dsimp only [Pt.U, Pt.locs, Pt.cells, Pt.slots] at X98 l98 y98 z98 st98 hQ98
      subst y98 z98
      obtain ⟨rfl, N98q, e98⟩ := hQ98
      have N98 : Fr n0 L98 := by rw [l98]; exact Fr.app N97 N98q
      refine stt st98 ?_
      show Go p e below T98 (mkF m 168 #[.val (.long q0), .second, .val (.long q1), .second, .val (.int p2), .val (.int p3), .val (.int (p3 &&& (1073741823 : Int32))), .val (.ref b1), .val (.ref b8), .val (.ref b60), .val (.int (1 : Int32)), .val (.int (3 : Int32)), .val (.ref plain), .val (.long q1), .second, .val (.int (own_chunk q1 (3 : Int32)))] [(.int (own_chunk q1 (3 : Int32)))]) _
      refine stp (fun _ => XS.iload X98.here hx rfl (hb hby at_168) rfl) ?_
      show Go p e below T98 (mkF m 170 #[.val (.long q0), .second, .val (.long q1), .second, .val (.int p2), .val (.int p3), .val (.int (p3 &&& (1073741823 : Int32))), .val (.ref b1), .val (.ref b8), .val (.ref b60), .val (.int (1 : Int32)), .val (.int (3 : Int32)), .val (.ref plain), .val (.long q1), .second, .val (.int (own_chunk q1 (3 : Int32)))] [(.int (own_chunk q1 (3 : Int32))), (.int (own_chunk q1 (3 : Int32)))]) _
      refine stp (fun _ => XS.icmpNo X98.here hx rfl (hb hby at_170) rfl (XT.ii_ne_f rfl)) ?_
      show Go p e below T98 (mkF m 173 #[.val (.long q0), .second, .val (.long q1), .second, .val (.int p2), .val (.int p3), .val (.int (p3 &&& (1073741823 : Int32))), .val (.ref b1), .val (.ref b8), .val (.ref b60), .val (.int (1 : Int32)), .val (.int (3 : Int32)), .val (.ref plain), .val (.long q1), .second, .val (.int (own_chunk q1 (3 : Int32)))] []) _
      refine stp (fun _ => XS.iconst X98.here hx rfl (hb hby at_173)) ?_
      show Go p e below T98 (mkF m 174 #[.val (.long q0), .second, .val (.long q1), .second, .val (.int p2), .val (.int p3), .val (.int (p3 &&& (1073741823 : Int32))), .val (.ref b1), .val (.ref b8), .val (.ref b60), .val (.int (1 : Int32)), .val (.int (3 : Int32)), .val (.ref plain), .val (.long q1), .second, .val (.int (own_chunk q1 (3 : Int32)))] [(.int (1 : Int32))]) _
      refine stp (fun _ => XS.goto X98.here hx rfl (pc0 := 174) (pc' := 178) rfl (hb hby at_174) (by decide) (by decide)) ?_
      show Go p e below T98 (mkF m 178 #[.val (.long q0), .second, .val (.long q1), .second, .val (.int p2), .val (.int p3), .val (.int (p3 &&& (1073741823 : Int32))), .val (.ref b1), .val (.ref b8), .val (.ref b60), .val (.int (1 : Int32)), .val (.int (3 : Int32)), .val (.ref plain), .val (.long q1), .second, .val (.int (own_chunk q1 (3 : Int32)))] [(.int (1 : Int32))]) _
      refine outN X98 hx (t := .boolean) hret (by simp) (hb hby at_178) hlk (by decide) (by decide) ?_
      exact ⟨rfl, N98⟩
set_option maxRecDepth 65536 in
set_option maxHeartbeats 40000000 in
theorem comes_1 {Post : Tables → Env → Array Value → State → Outcome → State → Prop} (hpost : ∀ tb e args s v u, (limb_1_1.after args s (.returned v) u = true ∧ limb_1_2.after args s (.returned v) u = true ∧ True) → FrameEnd s (.returned v) u (Jvm.fieldLocs frame_1_writes args s ++ Jvm.arrayLocs frame_1_arrays args s ++ Jvm.staticLocs frame_1_statics s) 24 128 → Post tb e args s (.returned v) u) :
    ArmFor flags0 classFile x code maxLocals ret World_1 tables_1 room_1 Calls_1 rest_1 Pre_1 Post := by
  intro l hfl _ _ p e ha hc hk s m args below hf hA hF happ hP
  obtain ⟨hcalls, hrest, hpre⟩ := hP
  obtain ⟨-, -, -, hnamed, -, -, -, hat⟩ := (Spec.applies_iff hf).mp happ
  obtain ⟨hg, hn⟩ := and_e (Cond.before_iff.mp (show (Jvm.Cond.and given_1 narrow_1).before args s = true from hpre))
  obtain ⟨g1, g2⟩ := and_e hg
  obtain ⟨g3, g4⟩ := and_e g2
  obtain ⟨g5, g6⟩ := and_e g4
  obtain ⟨g7, g8⟩ := and_e g6
  obtain ⟨w0, w1, w2, w3, rfl⟩ : ∃ w0 w1 w2 w3 : Value, args = #[w0, w1, w2, w3] := by
    have hs : args.size = 4 := by simpa [Cond.value, given_1] using g1
    obtain ⟨L⟩ := args
    match L, hs with
    | [w0, w1, w2, w3], _ => exact ⟨w0, w1, w2, w3, rfl⟩
  have hw := fun d (hd : d ∈ tables_1) => atoms_spec (ws := Jvm.Cond.code x code maxLocals ret :: tables_1) hat d (List.mem_cons_of_mem _ hd)
  have hfit : Fit s := fun {y c} hc i hi => by
    obtain ⟨ha, rfl⟩ := Array.getElem?_eq_some_iff.mp hc
    have q := List.all_eq_true.mp ((Array.all_eq_true_iff_forall_mem.mp hF) _ (Array.getElem_mem ha)) i (List.mem_range.mpr hi)
    simpa [Array.getElem?_eq_getElem hi] using q
  obtain ⟨i0, ei0⟩ := isL_v g3
  obtain rfl : w0 = (.long i0) := Option.some.inj ei0
  obtain ⟨i1, ei1⟩ := isL_v g5
  obtain rfl : w1 = (.long i1) := Option.some.inj ei1
  obtain ⟨i2, ei2⟩ := is_v g7
  obtain rfl : w2 = (.int i2) := Option.some.inj ei2
  obtain ⟨i3, ei3⟩ := is_v g8
  obtain rfl : w3 = (.int i3) := Option.some.inj ei3
  obtain ⟨g9, g10⟩ := and_e hn
  have S_a_TYPES := Sta.start (eqint_v g9) (Or.inr ⟨(hw _ (List.mem_of_getElem? (i := 9) rfl)), (hw _ (List.mem_of_getElem? (i := 17) rfl))⟩)
  obtain ⟨g11, g12⟩ := and_e g10
  obtain ⟨a_TITLE, ev_a_TITLE⟩ := exa_v g11
  have S_a_TITLE := Sta.start ev_a_TITLE (Or.inr ⟨(hw _ (List.mem_of_getElem? (i := 35) rfl)), (hw _ (List.mem_of_getElem? (i := 36) rfl))⟩)
  have E_a_TITLE := Exa.start ev_a_TITLE g11
  obtain ⟨g13, g14⟩ := and_e g12
  obtain ⟨g15, g16⟩ := and_e g14
  obtain ⟨a_URL, ev_a_URL⟩ := exa_v g15
  have S_a_URL := Sta.start ev_a_URL (Or.inr ⟨(hw _ (List.mem_of_getElem? (i := 35) rfl)), (hw _ (List.mem_of_getElem? (i := 52) rfl))⟩)
  have E_a_URL := Exa.start ev_a_URL g15
  obtain ⟨g17, g18⟩ := and_e g16
  obtain ⟨g19, g20⟩ := and_e g18
  obtain ⟨a_PLAIN, ev_a_PLAIN⟩ := exa_v g19
  have S_a_PLAIN := Sta.start ev_a_PLAIN (Or.inr ⟨(hw _ (List.mem_of_getElem? (i := 35) rfl)), (hw _ (List.mem_of_getElem? (i := 54) rfl))⟩)
  have E_a_PLAIN := Exa.start ev_a_PLAIN g19
  obtain ⟨g21, g22⟩ := and_e g20
  obtain ⟨g23, g24⟩ := and_e g22
  obtain ⟨a_ANCHOR, ev_a_ANCHOR⟩ := exa_v g23
  have S_a_ANCHOR := Sta.start ev_a_ANCHOR (Or.inr ⟨(hw _ (List.mem_of_getElem? (i := 35) rfl)), (hw _ (List.mem_of_getElem? (i := 56) rfl))⟩)
  have E_a_ANCHOR := Exa.start ev_a_ANCHOR g23
  have F_ordinal_a_TITLE := fld_of ev_a_TITLE g13
  have F_ordinal_a_URL := fld_of ev_a_URL g17
  have F_ordinal_a_PLAIN := fld_of ev_a_PLAIN g21
  have F_ordinal_a_ANCHOR := fld_of ev_a_ANCHOR g24
  obtain ⟨n, o, h1, h2, h3, _, L, rfl, ⟨rfl, N⟩, hq⟩ := rm0 l s _ hw tables_1 i0 i1 i2 i3 a_TITLE a_ANCHOR a_URL a_PLAIN s.heap s.heap.size (Old.start s) S_a_TYPES S_a_TITLE E_a_TITLE F_ordinal_a_TITLE S_a_ANCHOR E_a_ANCHOR F_ordinal_a_ANCHOR S_a_URL E_a_URL F_ordinal_a_URL S_a_PLAIN E_a_PLAIN F_ordinal_a_PLAIN p e ha hc hk s m _ below hf ((Spec.applies_iff_loose hf).mp happ).1 ⟨rfl, State.Warmed39.refl s, rfl⟩ trivial
  refine ⟨n, _, h1, h2, h3, hpost _ _ _ _ _ _ ⟨Cond.after_iff.mpr rfl, Cond.after_iff.mpr (eq_i res_at (Term.int_eval (1)) rfl), trivial⟩ ⟨hq.1, hq.2.1, (hq.2.2.sift fun y hy => Or.inr (N y hy)).mono (by decide) (by decide)⟩⟩
theorem main_1_1 : Claimed_1_1 := comes_1 fun _ _ _ _ _ _ h hF => ⟨h.1, hF⟩
theorem main_1_2 : Claimed_1_2 := comes_1 fun _ _ _ _ _ _ h hF => ⟨h.2.1, hF⟩
end Jvm.Pilot.@@N@@
namespace Jvm.Pilot.@@N@@
open Jvm Jvm.ClassFile Sem Op Lib Jvm.Free Jvm.Stand Jvm.Pilot.@@N@@.Jvm.D
/-! MADE BY PROGRAM (witnessworld.py) out of the Statement's table words and the real class files: 13 classes; the members and pool entries that the words name. The judged class is class 1, her method 1. -/
namespace start1
open Jvm.ClassFile
def u (s : String) : CpInfo := .utf8 (stringToUtf16 s)
/-- a pool by its gaps: so many unusable entries, then the entry; so many at the end -/
def gap : Nat → List CpInfo → List CpInfo
  | 0, r => r
  | n + 1, r => .unusable :: gap n r
def poolList (es : List (Nat × CpInfo)) (last : Nat) : List CpInfo := es.foldr (fun e r => gap e.1 (e.2 :: r)) (gap last [])
def pool (es : List (Nat × CpInfo)) (last : Nat) : Array CpInfo := ⟨poolList es last⟩
def fileOf (pool : Array CpInfo) (this : Nat) (attrs : Array Attribute := #[]) (ms : Array MethodInfo := #[]) (fl : Nat := 33) (sup : Nat := 0) (ifs : Array Nat := #[]) (fds : Array FieldInfo := #[]) : ClassFile where
  minorVersion := 0
  majorVersion := 65
  constantPool := pool
  accessFlags := fl
  thisClass := this
  superClass := sup
  interfaces := ifs
  fields := fds
  methods := ms
  attributes := attrs
def plain (name : String) (sup : Option ClassId) : Class where
  name := name
  kind := .ordinary
  loader := none
  accessFlags := 33
  super := sup
  interfaces := #[]
  cf := none
  fields := #[]
  methods := #[]
  instanceTypes := #[]
  staticTypes := #[]
  resolved := #[]
  callSites := []
  init := .initialized
  statics := none
  mirror := none

def pool0 : Array CpInfo := pool [(5, u "<init>"), (0, u "()V"), (1, .class_ 10), (1, u "java/lang/Object"), (85, u "clone"), (0, u "()Ljava/lang/Object;")] 26

def k0c0 : Code := { maxStack := 0, maxLocals := 1, code := object_method_1_code, exceptionTable := #[], attributes := #[] }
def k0m0 : Method := { name := "<init>", desc := "()V", sig := { parameters := [], returnType := none }, accessFlags := 1, code := some k0c0 }
def k0m1 : Method := { name := "clone", desc := "()Ljava/lang/Object;", sig := { parameters := [], returnType := some (.object "java/lang/Object") }, accessFlags := 260, code := none }
/-- java/lang/Object -/
def k0 : Class := { plain "java/lang/Object" none with
  accessFlags := 33
  interfaces := #[]
  cf := some (fileOf pool0 8 #[] #[{ accessFlags := 1, nameIndex := 5, descriptorIndex := 6, attributes := #[] }, { accessFlags := 260, nameIndex := 96, descriptorIndex := 97, attributes := #[] }] 33 0 #[] #[])
  fields := #[]
  methods := #[k0m0, k0m1]
  instanceTypes := #[]
  staticTypes := #[]
  resolved := Array.replicate 124 none
  statics := none }

def pool1 : Array CpInfo := pool [(2, .class_ 4), (1, u "java/lang/Object"), (0, u "<init>"), (0, u "()V"), (0, .integer 1073741823), (0, .methodref 9 10), (0, .class_ 11), (0, .nameAndType 12 13), (0, u "com/example/fetch_to_rank/fetchtorank/index/PostingsCountPinLaw"), (0, u "chunk"), (0, u "(JI)I"), (0, .class_ 15), (0, u "com/example/fetch_to_rank/fetchtorank/index/Postings"), (0, .methodref 14 17), (0, .nameAndType 5 18), (0, u "([I[I)V"), (0, .methodref 9 20), (0, .nameAndType 21 22), (0, u "typeOf"), (0, u "(I)Lcom/example/fetch_to_rank/fetchtorank/index/HitType;"), (0, .methodref 14 24), (0, .nameAndType 25 26), (0, u "count"), (0, u "(ILcom/example/fetch_to_rank/fetchtorank/index/HitType;)I"), (0, .long 65535), (1, .fieldref 30 31), (0, .class_ 32), (0, .nameAndType 33 34), (0, u "com/example/fetch_to_rank/fetchtorank/index/HitType"), (0, u "TITLE"), (0, u "Lcom/example/fetch_to_rank/fetchtorank/index/HitType;"), (0, .fieldref 30 36), (0, .nameAndType 37 34), (0, u "ANCHOR"), (0, .fieldref 30 39), (0, .nameAndType 40 34), (0, u "URL"), (0, .fieldref 30 42), (0, .nameAndType 43 34), (0, u "PLAIN"), (2, u "law"), (0, u "(JJII)Z")] 5

def k1m0 : Method := { name := "<init>", desc := "()V", sig := { parameters := [], returnType := none }, accessFlags := 1, code := none }
def k1c1 : Code := { maxStack := 5, maxLocals := 16, code := code, exceptionTable := #[], attributes := #[] }
def k1m1 : Method := { name := "law", desc := "(JJII)Z", sig := { parameters := [.long, .long, .int, .int], returnType := some .boolean }, accessFlags := 9, code := some k1c1 }
def k1c2 : Code := { maxStack := 4, maxLocals := 3, code := method_3_code, exceptionTable := #[], attributes := #[] }
def k1m2 : Method := { name := "chunk", desc := "(JI)I", sig := { parameters := [.long, .int], returnType := some .int }, accessFlags := 10, code := some k1c2 }
def k1c3 : Code := { maxStack := 2, maxLocals := 1, code := method_4_code, exceptionTable := #[], attributes := #[] }
def k1m3 : Method := { name := "typeOf", desc := "(I)Lcom/example/fetch_to_rank/fetchtorank/index/HitType;", sig := { parameters := [.int], returnType := some (.object "com/example/fetch_to_rank/fetchtorank/index/HitType") }, accessFlags := 10, code := some k1c3 }
/-- com/example/fetch_to_rank/fetchtorank/index/PostingsCountPinLaw -/
def k1 : Class := { plain "com/example/fetch_to_rank/fetchtorank/index/PostingsCountPinLaw" (some 0) with
  accessFlags := 49
  interfaces := #[]
  cf := some (fileOf pool1 9 #[] #[{ accessFlags := 1, nameIndex := 5, descriptorIndex := 6, attributes := #[] }, { accessFlags := 9, nameIndex := 46, descriptorIndex := 47, attributes := #[] }, { accessFlags := 10, nameIndex := 12, descriptorIndex := 13, attributes := #[] }, { accessFlags := 10, nameIndex := 21, descriptorIndex := 22, attributes := #[] }] 49 2 #[] #[])
  fields := #[]
  methods := #[k1m0, k1m1, k1m2, k1m3]
  instanceTypes := #[]
  staticTypes := #[]
  resolved := Array.replicate 53 none
  statics := none }

def pool2 : Array CpInfo := pool [(1, .methodref 2 3), (0, .class_ 4), (0, .nameAndType 5 6), (0, u "java/lang/Object"), (0, u "<init>"), (0, u "()V"), (0, .fieldref 8 9), (0, .class_ 10), (0, .nameAndType 11 12), (0, u "com/example/fetch_to_rank/fetchtorank/index/Postings"), (0, u "TYPES"), (0, u "I"), (12, .methodref 26 27), (0, .class_ 28), (0, .nameAndType 29 30), (0, u "[I"), (0, u "clone"), (0, u "()Ljava/lang/Object;"), (0, .fieldref 8 32), (0, .nameAndType 33 28), (0, u "documents"), (0, .fieldref 8 35), (0, .nameAndType 36 28), (0, u "counts"), (0, .methodref 38 39), (0, .class_ 40), (0, .nameAndType 41 42), (0, u "com/example/fetch_to_rank/fetchtorank/index/HitType"), (0, u "ordinal"), (0, u "()I"), (11, u "([I[I)V"), (2, u "NONE"), (0, u "Lcom/example/fetch_to_rank/fetchtorank/index/Postings;"), (5, u "count"), (0, u "(ILcom/example/fetch_to_rank/fetchtorank/index/HitType;)I")] 20

def k2c0 : Code := { maxStack := 4, maxLocals := 4, code := prog_27_method_1_code, exceptionTable := #[], attributes := #[] }
def k2m0 : Method := { name := "<init>", desc := "([I[I)V", sig := { parameters := [(.array .int), (.array .int)], returnType := none }, accessFlags := 1, code := some k2c0 }
def k2c1 : Code := { maxStack := 3, maxLocals := 3, code := prog_27_method_4_code, exceptionTable := #[], attributes := #[] }
def k2m1 : Method := { name := "count", desc := "(ILcom/example/fetch_to_rank/fetchtorank/index/HitType;)I", sig := { parameters := [.int, (.object "com/example/fetch_to_rank/fetchtorank/index/HitType")], returnType := some .int }, accessFlags := 1, code := some k2c1 }
/-- com/example/fetch_to_rank/fetchtorank/index/Postings -/
def k2 : Class := { plain "com/example/fetch_to_rank/fetchtorank/index/Postings" (some 0) with
  accessFlags := 49
  interfaces := #[]
  cf := some (fileOf pool2 8 #[] #[{ accessFlags := 1, nameIndex := 5, descriptorIndex := 54, attributes := #[] }, { accessFlags := 1, nameIndex := 64, descriptorIndex := 65, attributes := #[] }] 49 2 #[] #[{ accessFlags := 26, nameIndex := 11, descriptorIndex := 12, attributes := #[] }, { accessFlags := 25, nameIndex := 57, descriptorIndex := 58, attributes := #[] }, { accessFlags := 18, nameIndex := 33, descriptorIndex := 28, attributes := #[] }, { accessFlags := 18, nameIndex := 36, descriptorIndex := 28, attributes := #[] }])
  fields := #[{ name := "TYPES", type := .int, accessFlags := 26, slot := 0, constantValue := 0 }, { name := "NONE", type := (.object "com/example/fetch_to_rank/fetchtorank/index/Postings"), accessFlags := 25, slot := 1, constantValue := 0 }, { name := "documents", type := (.array .int), accessFlags := 18, slot := 0, constantValue := 0 }, { name := "counts", type := (.array .int), accessFlags := 18, slot := 1, constantValue := 0 }]
  methods := #[k2m0, k2m1]
  instanceTypes := #[(.array .int), (.array .int)]
  staticTypes := #[.int, (.object "com/example/fetch_to_rank/fetchtorank/index/Postings")]
  resolved := Array.replicate 86 none
  statics := some 0 }

def pool3 : Array CpInfo := pool [(1, .class_ 2), (0, u "java/lang/Cloneable"), (0, .class_ 4), (0, u "java/lang/Object")] 2

/-- java/lang/Cloneable -/
def k3 : Class := { plain "java/lang/Cloneable" (some 0) with
  accessFlags := 1537
  interfaces := #[]
  cf := some (fileOf pool3 1 #[] #[] 1537 3 #[] #[])
  fields := #[]
  methods := #[]
  instanceTypes := #[]
  staticTypes := #[]
  resolved := Array.replicate 7 none
  statics := none }

def pool4 : Array CpInfo := pool [(1, .class_ 2), (0, u "java/lang/constant/Constable"), (0, .class_ 4), (0, u "java/lang/Object")] 6

/-- java/lang/constant/Constable -/
def k4 : Class := { plain "java/lang/constant/Constable" (some 0) with
  accessFlags := 1537
  interfaces := #[]
  cf := some (fileOf pool4 1 #[] #[] 1537 3 #[] #[])
  fields := #[]
  methods := #[]
  instanceTypes := #[]
  staticTypes := #[]
  resolved := Array.replicate 11 none
  statics := none }

def pool5 : Array CpInfo := pool [(1, .class_ 2), (0, u "java/lang/Comparable"), (0, .class_ 4), (0, u "java/lang/Object")] 7

/-- java/lang/Comparable -/
def k5 : Class := { plain "java/lang/Comparable" (some 0) with
  accessFlags := 1537
  interfaces := #[]
  cf := some (fileOf pool5 1 #[] #[] 1537 3 #[] #[])
  fields := #[]
  methods := #[]
  instanceTypes := #[]
  staticTypes := #[]
  resolved := Array.replicate 12 none
  statics := none }

def pool6 : Array CpInfo := pool [(1, .class_ 2), (0, u "java/io/Serializable"), (0, .class_ 4), (0, u "java/lang/Object")] 2

/-- java/io/Serializable -/
def k6 : Class := { plain "java/io/Serializable" (some 0) with
  accessFlags := 1537
  interfaces := #[]
  cf := some (fileOf pool6 1 #[] #[] 1537 3 #[] #[])
  fields := #[]
  methods := #[]
  instanceTypes := #[]
  staticTypes := #[]
  resolved := Array.replicate 7 none
  statics := none }

def pool7 : Array CpInfo := pool [(2, .class_ 4), (1, u "java/lang/Enum"), (0, u "name"), (0, u "Ljava/lang/String;"), (0, .fieldref 2 8), (0, .nameAndType 9 10), (0, u "ordinal"), (0, u "I"), (1, .class_ 14), (1, u "java/lang/Object"), (4, u "hash"), (86, .class_ 108), (1, u "java/lang/Enum$EnumDesc"), (2, .class_ 112), (0, u "java/lang/constant/Constable"), (0, .class_ 114), (0, u "java/lang/Comparable"), (0, .class_ 116), (0, u "java/io/Serializable"), (9, u "()I")] 77

def k7c0 : Code := { maxStack := 1, maxLocals := 1, code := jdk_37_method_2_code, exceptionTable := #[], attributes := #[] }
def k7m0 : Method := { name := "ordinal", desc := "()I", sig := { parameters := [], returnType := some .int }, accessFlags := 17, code := some k7c0 }
/-- java/lang/Enum -/
def k7 : Class := { plain "java/lang/Enum" (some 0) with
  accessFlags := 1057
  interfaces := #[4, 5, 6]
  cf := some (fileOf pool7 2 #[.nestMembers #[106]] #[{ accessFlags := 17, nameIndex := 9, descriptorIndex := 126, attributes := #[] }] 1057 12 #[111, 113, 115] #[{ accessFlags := 18, nameIndex := 5, descriptorIndex := 6, attributes := #[] }, { accessFlags := 18, nameIndex := 9, descriptorIndex := 10, attributes := #[] }, { accessFlags := 2, nameIndex := 19, descriptorIndex := 10, attributes := #[] }])
  fields := #[{ name := "name", type := (.object "java/lang/String"), accessFlags := 18, slot := 0, constantValue := 0 }, { name := "ordinal", type := .int, accessFlags := 18, slot := 1, constantValue := 0 }, { name := "hash", type := .int, accessFlags := 2, slot := 2, constantValue := 0 }]
  methods := #[k7m0]
  instanceTypes := #[(.object "java/lang/String"), .int, .int]
  staticTypes := #[]
  resolved := Array.replicate 204 none
  statics := none }

def pool8 : Array CpInfo := pool [(1, .class_ 2), (0, u "com/example/fetch_to_rank/fetchtorank/index/HitType"), (2, u "TITLE"), (0, u "Lcom/example/fetch_to_rank/fetchtorank/index/HitType;"), (2, u "ANCHOR"), (2, u "URL"), (2, u "PLAIN"), (2, u "$VALUES"), (0, u "[Lcom/example/fetch_to_rank/fetchtorank/index/HitType;"), (6, .class_ 28), (1, u "java/lang/Enum"), (42, u "ALL"), (0, u "Ljava/util/List;")] 12

/-- com/example/fetch_to_rank/fetchtorank/index/HitType -/
def k8 : Class := { plain "com/example/fetch_to_rank/fetchtorank/index/HitType" (some 7) with
  accessFlags := 16433
  interfaces := #[]
  cf := some (fileOf pool8 1 #[] #[] 16433 26 #[] #[{ accessFlags := 16409, nameIndex := 5, descriptorIndex := 6, attributes := #[] }, { accessFlags := 16409, nameIndex := 9, descriptorIndex := 6, attributes := #[] }, { accessFlags := 16409, nameIndex := 12, descriptorIndex := 6, attributes := #[] }, { accessFlags := 16409, nameIndex := 15, descriptorIndex := 6, attributes := #[] }, { accessFlags := 25, nameIndex := 71, descriptorIndex := 72, attributes := #[] }, { accessFlags := 4122, nameIndex := 18, descriptorIndex := 19, attributes := #[] }])
  fields := #[{ name := "TITLE", type := (.object "com/example/fetch_to_rank/fetchtorank/index/HitType"), accessFlags := 16409, slot := 0, constantValue := 0 }, { name := "ANCHOR", type := (.object "com/example/fetch_to_rank/fetchtorank/index/HitType"), accessFlags := 16409, slot := 1, constantValue := 0 }, { name := "URL", type := (.object "com/example/fetch_to_rank/fetchtorank/index/HitType"), accessFlags := 16409, slot := 2, constantValue := 0 }, { name := "PLAIN", type := (.object "com/example/fetch_to_rank/fetchtorank/index/HitType"), accessFlags := 16409, slot := 3, constantValue := 0 }, { name := "ALL", type := (.object "java/util/List"), accessFlags := 25, slot := 4, constantValue := 0 }, { name := "$VALUES", type := (.array (.object "com/example/fetch_to_rank/fetchtorank/index/HitType")), accessFlags := 4122, slot := 5, constantValue := 0 }]
  methods := #[]
  instanceTypes := #[(.object "java/lang/String"), .int, .int]
  staticTypes := #[(.object "com/example/fetch_to_rank/fetchtorank/index/HitType"), (.object "com/example/fetch_to_rank/fetchtorank/index/HitType"), (.object "com/example/fetch_to_rank/fetchtorank/index/HitType"), (.object "com/example/fetch_to_rank/fetchtorank/index/HitType"), (.object "java/util/List"), (.array (.object "com/example/fetch_to_rank/fetchtorank/index/HitType"))]
  resolved := Array.replicate 85 none
  statics := some 1 }

/-- the primitive byte -/
def k9 : Class := { plain "byte" none with kind := .primitive 'B', accessFlags := 0x411 }
/-- [B -/
def k10 : Class := { plain "[B" (some 0) with kind := .array 9 .byte, interfaces := #[3, 6], accessFlags := 1041 }

/-- the primitive int -/
def k11 : Class := { plain "int" none with kind := .primitive 'I', accessFlags := 0x411 }
/-- [I -/
def k12 : Class := { plain "[I" (some 0) with kind := .array 11 .int, interfaces := #[3, 6], accessFlags := 1041 }

def heap : Heap := #[{ cls := 2, slots := #[.int 4, .null], vm := .statics 2 },
  { cls := 8, slots := #[.ref 2, .ref 5, .ref 3, .ref 4, .null, .null], vm := .statics 8 },
  { cls := 8, slots := #[.null, .int 0, .int 0], vm := .none },
  { cls := 8, slots := #[.null, .int 2, .int 0], vm := .none },
  { cls := 8, slots := #[.null, .int 3, .int 0], vm := .none },
  { cls := 8, slots := #[.null, .int 1, .int 0], vm := .none }]
def classes : Array Class := #[k0, k1, k2, k3, k4, k5, k6, k7, k8, k9, k10, k11, k12]
def interned : List (Array UInt16 × Addr) := []
def slotsUsed : Nat := 20
def theMethod : MethodId := ⟨1, 1⟩
def args0 : Array Value := #[.long 5, .long 7, .int 1, .int 2]
def aboutOver (below : List Frame) : State where
  vm := { classes := classes, interned := interned.toArray }
  heap := heap
  slotsUsed := slotsUsed
  threads := #[{ frames := .invoking theMethod args0 :: below }]
def below0 : List Frame := [.native { method := ⟨0, 0⟩, args := #[] }]
def about1 : State := aboutOver below0
def p0 : Program := .bare "" "" ""
def e0 : Env := launch0.env 0 0 0
theorem w_frames : about1.frames = Frame.invoking theMethod args0 :: below0 := rfl
set_option maxRecDepth 65536 in
theorem w_args : argsFit about1.vm theMethod args0 = true := by decide +kernel
set_option maxRecDepth 65536 in
theorem w_heap : heapFits about1 = true := by decide +kernel
set_option maxRecDepth 65536 in
theorem w_runnable : about1.curStatus? = some .runnable := by decide +kernel
set_option maxRecDepth 65536 in
theorem w_alone : about1.alone = true := by decide +kernel
set_option maxRecDepth 65536 in
theorem w_named : about1.methodNamed? x = some theMethod := by decide +kernel
set_option maxRecDepth 65536 in
theorem w_hears : about1.hears theMethod below0 = true := by decide +kernel
set_option maxRecDepth 65536 in
theorem w_ripe : about1.ripe theMethod args0 below0 = true := by decide +kernel
theorem w_running : about1.status = .running := rfl
set_option maxRecDepth 65536 in
theorem w_room : about1.hasRoom e0.platform room_1 = true :=
  launch0.hasRoom_least _ room_1 (by decide +kernel) (by decide +kernel) (by decide +kernel) (by decide +kernel) (by decide +kernel) (by decide +kernel)
theorem allAtoms_all (ts : List Jvm.Cond) (a : Array Jvm.Value) (st : Jvm.State) : (allAtoms ts).before a st = ts.all (fun c => c.before a st) := by
  induction ts with
  | nil => rfl
  | cons c t ih =>
    show (Jvm.Cond.and c (allAtoms t)).before a st = _
    rw [Jvm.Cond.before_and, ih, List.all_cons]
def words1 : List Jvm.Cond := Jvm.Cond.code x code maxLocals ret :: tables_1
/-- a 'code' word, met by the world's own term for the bytes: nothing is compared byte by byte -/
theorem code_word {y : MethodName} {bytes : ByteArray} {mx : Nat} {rt : Option FieldType} {a : Array Value} {s : State} {m : MethodId} {meth : Method} {c : Code} (h1 : s.methodNamed? y = some m) (h2 : s.vm.method? m = some meth) (h3 : meth.code = some c) (h4 : c.code = bytes)
    (h5 : (c.maxLocals == mx && c.exceptionTable.isEmpty && decide (c.maxStack ≤ mostOperands) && decide (meth.sig.returnType = rt) && !meth.locks && decide (parseMethodDescriptor y.desc = some meth.sig)) = true) : (Jvm.Cond.code y bytes mx rt).before a s = true := by
  simp only [Bool.and_eq_true, beq_iff_eq, Bool.not_eq_true', decide_eq_true_eq] at h5
  obtain ⟨⟨⟨⟨⟨g1, g2⟩, g3⟩, g4⟩, g5⟩, g6⟩ := h5
  simp [Cond.before, Cond.holds, Cond.value, h1, h2, h3, h4, g1, g2, g3, g4, g5, g6]
def isCode : Jvm.Cond → Bool
  | .code _ _ _ _ => true
  | _ => false
theorem all_split {L : List Jvm.Cond} {P : Jvm.Cond → Bool} (h1 : L.all (fun c => isCode c || P c) = true) (h2 : ∀ c ∈ L.filter isCode, P c = true) : L.all P = true := by
  refine List.all_eq_true.mpr fun c hc => ?_
  have h := List.all_eq_true.mp h1 c hc
  rcases Bool.eq_false_or_eq_true (isCode c) with hi | hi
  · exact h2 c (List.mem_filter.mpr ⟨hc, hi⟩)
  · simpa [hi] using h
set_option maxRecDepth 65536 in
theorem w_c0 : (Jvm.Cond.code x code maxLocals ret).before args0 about1 = true := code_word (m := ⟨1, 1⟩) (meth := k1m1) (c := k1c1) (by decide +kernel) rfl rfl rfl (by decide +kernel)
set_option maxRecDepth 65536 in
theorem w_c1 : (Jvm.Cond.code ({ cls := "com/example/fetch_to_rank/fetchtorank/index/PostingsCountPinLaw", name := "chunk", desc := "(JI)I" } : Jvm.MethodName) method_3_code (3 : Nat) (Option.some Jvm.ClassFile.FieldType.int)).before args0 about1 = true := code_word (m := ⟨1, 2⟩) (meth := k1m2) (c := k1c2) (by decide +kernel) rfl rfl rfl (by decide +kernel)
set_option maxRecDepth 65536 in
theorem w_c2 : (Jvm.Cond.code ({ cls := "com/example/fetch_to_rank/fetchtorank/index/Postings", name := "<init>", desc := "([I[I)V" } : Jvm.MethodName) prog_27_method_1_code (4 : Nat) (Option.none : Option Jvm.ClassFile.FieldType)).before args0 about1 = true := code_word (m := ⟨2, 0⟩) (meth := k2m0) (c := k2c0) (by decide +kernel) rfl rfl rfl (by decide +kernel)
set_option maxRecDepth 65536 in
theorem w_c3 : (Jvm.Cond.code ({ cls := "java/lang/Object", name := "<init>", desc := "()V" } : Jvm.MethodName) object_method_1_code (1 : Nat) (Option.none : Option Jvm.ClassFile.FieldType)).before args0 about1 = true := code_word (m := ⟨0, 0⟩) (meth := k0m0) (c := k0c0) (by decide +kernel) rfl rfl rfl (by decide +kernel)
set_option maxRecDepth 65536 in
theorem w_c4 : (Jvm.Cond.code ({ cls := "com/example/fetch_to_rank/fetchtorank/index/PostingsCountPinLaw", name := "typeOf", desc := "(I)Lcom/example/fetch_to_rank/fetchtorank/index/HitType;" } : Jvm.MethodName) method_4_code (1 : Nat) (Option.some (Jvm.ClassFile.FieldType.object "com/example/fetch_to_rank/fetchtorank/index/HitType"))).before args0 about1 = true := code_word (m := ⟨1, 3⟩) (meth := k1m3) (c := k1c3) (by decide +kernel) rfl rfl rfl (by decide +kernel)
set_option maxRecDepth 65536 in
theorem w_c5 : (Jvm.Cond.code ({ cls := "com/example/fetch_to_rank/fetchtorank/index/Postings", name := "count", desc := "(ILcom/example/fetch_to_rank/fetchtorank/index/HitType;)I" } : Jvm.MethodName) prog_27_method_4_code (3 : Nat) (Option.some Jvm.ClassFile.FieldType.int)).before args0 about1 = true := code_word (m := ⟨2, 1⟩) (meth := k2m1) (c := k2c1) (by decide +kernel) rfl rfl rfl (by decide +kernel)
set_option maxRecDepth 65536 in
theorem w_c6 : (Jvm.Cond.code ({ cls := "java/lang/Enum", name := "ordinal", desc := "()I" } : Jvm.MethodName) jdk_37_method_2_code (1 : Nat) (Option.some Jvm.ClassFile.FieldType.int)).before args0 about1 = true := code_word (m := ⟨7, 0⟩) (meth := k7m0) (c := k7c0) (by decide +kernel) rfl rfl rfl (by decide +kernel)
def codes1 : List Jvm.Cond := [Jvm.Cond.code x code maxLocals ret, Jvm.Cond.code ({ cls := "com/example/fetch_to_rank/fetchtorank/index/PostingsCountPinLaw", name := "chunk", desc := "(JI)I" } : Jvm.MethodName) method_3_code (3 : Nat) (Option.some Jvm.ClassFile.FieldType.int), Jvm.Cond.code ({ cls := "com/example/fetch_to_rank/fetchtorank/index/Postings", name := "<init>", desc := "([I[I)V" } : Jvm.MethodName) prog_27_method_1_code (4 : Nat) (Option.none : Option Jvm.ClassFile.FieldType), Jvm.Cond.code ({ cls := "java/lang/Object", name := "<init>", desc := "()V" } : Jvm.MethodName) object_method_1_code (1 : Nat) (Option.none : Option Jvm.ClassFile.FieldType), Jvm.Cond.code ({ cls := "com/example/fetch_to_rank/fetchtorank/index/PostingsCountPinLaw", name := "typeOf", desc := "(I)Lcom/example/fetch_to_rank/fetchtorank/index/HitType;" } : Jvm.MethodName) method_4_code (1 : Nat) (Option.some (Jvm.ClassFile.FieldType.object "com/example/fetch_to_rank/fetchtorank/index/HitType")), Jvm.Cond.code ({ cls := "com/example/fetch_to_rank/fetchtorank/index/Postings", name := "count", desc := "(ILcom/example/fetch_to_rank/fetchtorank/index/HitType;)I" } : Jvm.MethodName) prog_27_method_4_code (3 : Nat) (Option.some Jvm.ClassFile.FieldType.int), Jvm.Cond.code ({ cls := "java/lang/Enum", name := "ordinal", desc := "()I" } : Jvm.MethodName) jdk_37_method_2_code (1 : Nat) (Option.some Jvm.ClassFile.FieldType.int)]
set_option maxRecDepth 65536 in
theorem codes_eq : words1.filter isCode = codes1 := rfl
theorem w_codes : ∀ c ∈ words1.filter isCode, c.before args0 about1 = true := by
  rw [codes_eq]
  intro c hc
  simp only [codes1, List.mem_cons, List.not_mem_nil, or_false] at hc
  rcases hc with rfl | rfl | rfl | rfl | rfl | rfl | rfl
  · exact w_c0
  · exact w_c1
  · exact w_c2
  · exact w_c3
  · exact w_c4
  · exact w_c5
  · exact w_c6
set_option maxRecDepth 65536 in
theorem w_t1 : (words1.take 24).all (fun c => isCode c || c.before args0 about1) = true := by decide +kernel
set_option maxRecDepth 65536 in
theorem w_t2 : ((words1.drop 24).take 24).all (fun c => isCode c || c.before args0 about1) = true := by decide +kernel
set_option maxRecDepth 65536 in
theorem w_t3 : ((words1.drop 24).drop 24).all (fun c => isCode c || c.before args0 about1) = true := by decide +kernel
theorem w_tables : (allAtoms (Jvm.Cond.code x code maxLocals ret :: tables_1)).before args0 about1 = true := by
  rw [allAtoms_all]
  show words1.all (fun c => c.before args0 about1) = true
  refine all_split ?_ w_codes
  rw [← List.take_append_drop 24 words1, List.all_append, w_t1, ← List.take_append_drop 24 (words1.drop 24), List.all_append, w_t2, w_t3]
  rfl
set_option maxRecDepth 65536 in
theorem w_case : (Jvm.Cond.and given_1 narrow_1).before args0 about1 = true := by decide +kernel
theorem w_applies : (headSpec (Jvm.Cond.code x code maxLocals ret :: tables_1) room_1).applies x e0.platform about1 = true :=
  (Spec.applies_iff w_frames).mpr ⟨w_running, w_runnable, w_alone, w_named, w_hears, w_ripe, w_room, w_tables⟩
theorem atStart : AtStart classFile x code maxLocals ret World_1 tables_1 room_1 Calls_1 rest_1 Pre_1 launch0 p0 e0 about1 theMethod args0 below0 :=
  ⟨lists_1, trivial, launch0.admits_env _ _ _, launch0.least_env, fairChoices_fair.cas, fairChoices_fair.clock, w_frames, w_args, w_heap, w_applies, trivial, trivial, w_case⟩
end start1
theorem witness_1 : WitnessClaimed_1 := ⟨start1.p0, start1.e0, start1.about1, start1.theMethod, start1.args0, start1.below0, start1.atStart⟩
end Jvm.Pilot.@@N@@
