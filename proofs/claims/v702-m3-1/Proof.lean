import JvmDerived
import JvmDerived.Pilot.@@N@@Statement
import JvmDerived.Pilot.@@N@@Code
set_option linter.unusedVariables false
set_option linter.unusedSimpArgs false
namespace Jvm.OwnKit
open Sem ClassFile Op Lib Jvm.Stand Jvm.Free Jvm.LawKit Jvm.RoadKit
section Go
variable {p : Program} {l : Launch} {e : Env} {R : Room} {s : State} {m : MethodId} {args : Array Value} {below : List Frame} {meth : Method} {c : Code} {T T' : State} {locs : List Loc} {cells slots : Nat} {g g' : JFrame} {P : Outcome → State → Prop} {Q : Option Value → Heap → List Loc → Prop} {k n pc : Nat} {Ls : Array Slot} {rest : List Value}
/-- from this state and frame the invocation comes to its end, and the end is as P says -/
def Go (p : Program) (e : Env) (below : List Frame) (T : State) (g : JFrame) (P : Outcome → State → Prop) : Prop :=
  ∃ s₂ o, Steps p.tables e below (T.setTop g) s₂ ∧ s₂.status = .running ∧ Ended s₂ below o ∧ P o s₂
abbrev Po (s : State) (Q : Option Value → Heap → List Loc → Prop) (k n : Nat) : Outcome → State → Prop := fun o U' => ∃ v L, o = .returned v ∧ Q v U'.heap L ∧ FrameEnd s o U' L k n
theorem stp (h : ∀ t, Steps p.tables e below (T'.setTop g') t → Steps p.tables e below (T.setTop g) t) (K : Go p e below T' g' P) : Go p e below T g P := by
  obtain ⟨s2, o, h1, h2⟩ := K
  exact ⟨s2, o, h _ h1, h2⟩
theorem stt (h : Steps p.tables e below (T.setTop g) (T'.setTop g')) (K : Go p e below T' g' P) : Go p e below T g P := by
  obtain ⟨s2, o, h1, h2⟩ := K
  exact ⟨s2, o, h.trans h1, h2⟩
theorem out (X : Stand p l e R s m args below meth c T locs cells slots) {v : Option Value} (hl : meth.locks = false) (hv : meth.sig.returnType = none → v = none)
    (hst : ∀ fs : List Frame, (∀ (f : JFrame) (acts : List Action), f.method = m → f.locked = none → f.entered = [] → (doReturn e (T.setTop f) acts v).1 = T.setFrames fs) → Steps p.tables e below (T.setTop g) (T.setFrames fs))
    (hc : cells ≤ k) (hn : slots ≤ n) (hQ : Q v T.heap locs) : Go p e below T g (Po s Q k n) := by
  obtain ⟨fs, hr, hrun, hended, hW, hsame⟩ := X.leave (v := v) hv hl
  exact ⟨_, _, hst fs hr, hrun, hended, v, locs, rfl, hQ, ⟨_, rfl⟩, hW, hsame.mono hc hn⟩
theorem outN (X : Stand p l e R s m args below meth c T locs cells slots) (hx : p.tables.exec = Jvm.exec) {t : FieldType} {z : Int32} (hret : meth.sig.returnType = some t) (ht : t = .boolean ∨ t = .byte ∨ t = .char ∨ t = .short) (hd : decode c.code pc = .ok (.ireturn, 1)) (hl : meth.locks = false)
    (hc : cells ≤ k) (hn : slots ≤ n) (hQ : Q (some (.int (nar t z))) T.heap locs) : Go p e below T (mkF m pc Ls (.int z :: rest)) (Po s Q k n) :=
  out X hl (fun h => by rw [hret] at h; cases h) (fun fs hr => retN X hx hret ht hd hr) hc hn hQ
theorem outI (X : Stand p l e R s m args below meth c T locs cells slots) (hx : p.tables.exec = Jvm.exec) {z : Int32} (hret : meth.sig.returnType = some .int) (hd : decode c.code pc = .ok (.ireturn, 1)) (hl : meth.locks = false)
    (hc : cells ≤ k) (hn : slots ≤ n) (hQ : Q (some (.int z)) T.heap locs) : Go p e below T (mkF m pc Ls (.int z :: rest)) (Po s Q k n) :=
  out X hl (fun h => by rw [hret] at h; cases h) (fun fs hr => retOut X hx hret rfl (Or.inl ⟨rfl, Or.inl rfl, _, rfl⟩) hd hr) hc hn hQ
theorem outJ (X : Stand p l e R s m args below meth c T locs cells slots) (hx : p.tables.exec = Jvm.exec) {z : Int64} (hret : meth.sig.returnType = some .long) (hd : decode c.code pc = .ok (.lreturn, 1)) (hl : meth.locks = false)
    (hc : cells ≤ k) (hn : slots ≤ n) (hQ : Q (some (.long z)) T.heap locs) : Go p e below T (mkF m pc Ls (.long z :: rest)) (Po s Q k n) :=
  out X hl (fun h => by rw [hret] at h; cases h) (fun fs hr => retOut X hx hret rfl (Or.inr (Or.inl ⟨rfl, rfl, _, rfl⟩)) hd hr) hc hn hQ
theorem outD (X : Stand p l e R s m args below meth c T locs cells slots) (hx : p.tables.exec = Jvm.exec) {w : Value} (hret : meth.sig.returnType = some .double) (hw : ∃ z, w = .double z) (hd : decode c.code pc = .ok (.dreturn, 1)) (hl : meth.locks = false)
    (hc : cells ≤ k) (hn : slots ≤ n) (hQ : Q (some w) T.heap locs) : Go p e below T (mkF m pc Ls (w :: rest)) (Po s Q k n) := by
  obtain ⟨z, rfl⟩ := hw
  exact out X hl (fun h => by rw [hret] at h; cases h) (fun fs hr => retOut X hx hret rfl (Or.inr (Or.inr (Or.inl ⟨rfl, rfl, _, rfl⟩))) hd hr) hc hn hQ
theorem outA (X : Stand p l e R s m args below meth c T locs cells slots) (hx : p.tables.exec = Jvm.exec) {w : Value} {t : FieldType} (hret : meth.sig.returnType = some t) (ht : t.isReference = true) (hw : w.isRef = true) (hd : decode c.code pc = .ok (.areturn, 1)) (hl : meth.locks = false)
    (hc : cells ≤ k) (hn : slots ≤ n) (hQ : Q (some w) T.heap locs) : Go p e below T (mkF m pc Ls (w :: rest)) (Po s Q k n) := by
  refine out X hl (fun h => by rw [hret] at h; cases h) (fun fs hr => retOut X hx hret ?_ (Or.inr (Or.inr (Or.inr (Or.inr ⟨rfl, ht, hw⟩)))) hd hr) hc hn hQ
  rcases ref_cases hw with rfl | ⟨a, rfl⟩ <;> cases t <;> first | rfl | cases ht
theorem outV (X : Stand p l e R s m args below meth c T locs cells slots) (hx : p.tables.exec = Jvm.exec) (hret : meth.sig.returnType = none) (hd : decode c.code pc = .ok (.return_, 1)) (hl : meth.locks = false)
    (hc : cells ≤ k) (hn : slots ≤ n) (hQ : Q none T.heap locs) : Go p e below T (mkF m pc Ls []) (Po s Q k n) :=
  out X hl (fun _ => rfl) (fun fs hr => X.returnOut hx hret hd hr) hc hn hQ
theorem start {y : MethodName} {bytes : ByteArray} {maxL : Nat} {ret : Option FieldType} {ws : List Cond} {rm : Room} {Z : State} {as' : Array Value} {h0 : Heap} (hpl : plainFor y = true)
    (body : ∀ p e s m below meth c T, Stand p l e rm s m as' below meth c T [] 0 0 → p.tables.exec = Jvm.exec → c.code = bytes → c.maxLocals = maxL → s.vm.findClass y.cls = some m.cls → meth.name = y.name → meth.sig.returnType = ret → meth.locks = false → Z.Warmed39 s.vm → T.heap = h0 →
      Go p e below T (entryFrame m as' maxL) (Po s Q k n)) :
    MetFree l y (head1 (Cond.code y bytes maxL ret :: ws) rm) (fun a U => a = as' ∧ Z.Warmed39 U.vm ∧ U.heap = h0) (fun _ _ _ _ _ => True) (fun _ U o U' => ∃ v L, o = .returned v ∧ Q v U'.heap L ∧ FrameEnd U o U' L k n) := by
  refine MetFree.of_bodySF hpl hisR ?_
  intro p e s m args below meth c s₁ Bd hml0 hP hK
  obtain ⟨rfl, hZ, hh⟩ := hP
  exact body p e s m below meth c s₁ (Stand.of_body Bd) Bd.exec Bd.bytes hml0 (findClass_of_methodNamed Bd.named) (name_of_methodNamed Bd.named Bd.method).1 Bd.returns Bd.notSynchronized hZ (by rw [← hh, Bd.state]; rfl)
theorem goAt (q : g = g') (K : Go p e below T g' P) : Go p e below T g P := q ▸ K
end Go
theorem cat_ref {v : Value} (h : v.isRef = true) : v.category = 1 := by cases v <;> simp_all [Value.isRef, Value.category]
section Facts
variable {Z : State} {args : Array Value}
theorem old_le {n0 : Nat} {h : Heap} (O : Old Z n0 h) : n0 ≤ h.size := by
  obtain ⟨rfl, h2⟩ := O
  exact h2.1
theorem fld_of {C n d : String} {t : Term} {a : Addr} {k : Int32} (ev : t.eval args Z none [] Z = some (.ref a)) (h : (Cond.eq (.field t C n d) (.int k)).value args Z none Z [] = some true) : Fld Z Z.heap a C n d (.int k) := by
  obtain ⟨x, y, h1, h2, -, hk⟩ := cmp_v (Or.inl h)
  have h3 : y = .int k := (Option.some.inj h2).symm
  subst h3
  obtain ⟨z, rfl⟩ := hk
  have h4 : z = k := gotT (Cond.eq_ints h1 h2) h
  subst h4
  rw [fld_at ev] at h1
  exact Fld.start h1
theorem fldnull_of {C n d : String} {t : Term} {a : Addr} (ev : t.eval args Z none [] Z = some (.ref a)) (h : (Cond.eq (.field t C n d) .null).value args Z none Z [] = some true) : Fld Z Z.heap a C n d .null := by
  have h1 := null_v h
  rw [fld_at ev] at h1
  exact Fld.start h1
theorem eqint_v {t : Term} {k : Int32} (h : (Cond.eq t (.int k)).value args Z none Z [] = some true) : t.eval args Z none [] Z = some (.int k) := by
  obtain ⟨x, y, h1, h2, -, hk⟩ := cmp_v (Or.inl h)
  have h3 : y = .int k := (Option.some.inj h2).symm
  subst h3
  obtain ⟨z, rfl⟩ := hk
  have h4 : z = k := gotT (Cond.eq_ints h1 h2) h
  subst h4
  exact h1
end Facts
section Small
variable {h h' : Heap} {a : Addr} {sl : Nat} {x : Int32}
theorem ow_wr_char (e : x.toUInt32.toUInt16.toUInt32.toInt32 = x) (W : Wr h h' a sl (.int (nar .char x))) : Wr h h' a sl (.int x) := by rwa [show nar .char x = x from e] at W
theorem ow_fits_char (e : x.toUInt32.toUInt16.toUInt32.toInt32 = x) : fits .char (.int x) = true := by
  have q := fits_nar_char x
  rwa [show nar .char x = x from e] at q
theorem ow_wr_byte (e : x.toInt8.toInt32 = x) (W : Wr h h' a sl (.int (nar .byte x))) : Wr h h' a sl (.int x) := by rwa [show nar .byte x = x from e] at W
theorem ow_fits_byte (e : x.toInt8.toInt32 = x) : fits .byte (.int x) = true := by
  have q := fits_nar_byte x
  rwa [e] at q
theorem char_small (h0 : ¬ x < 0) (h1 : ¬ (65535 : Int32) < x) : x.toUInt32.toUInt16.toUInt32.toInt32 = x := by
  obtain ⟨q1, q2, q3⟩ := c_i2c x
  simp only [Int32.lt_iff_toInt_lt, Int32.reduceToInt] at h0 h1
  exact Int32.toInt_inj.mp (by omega)
theorem char255 (q : ¬ x < 0 ∧ ¬ (255 : Int32) < x) : x.toUInt32.toUInt16.toUInt32.toInt32 = x := char_small q.1 (by
  obtain ⟨q1, q2⟩ := q
  simp only [Int32.lt_iff_toInt_lt, Int32.reduceToInt] at q1 q2 ⊢
  omega)
theorem byte_small (h0 : ¬ x < (-128 : Int32)) (h1 : ¬ (127 : Int32) < x) : x.toInt8.toInt32 = x := by
  obtain ⟨q1, q2, q3⟩ := c_i2b x
  simp only [Int32.lt_iff_toInt_lt, Int32.reduceToInt] at h0 h1
  exact Int32.toInt_inj.mp (by omega)
theorem byte_twice : x.toInt8.toInt32.toInt8.toInt32 = x.toInt8.toInt32 := by simp
theorem and255 (x : Int32) : ¬ (x &&& (255 : Int32)) < 0 ∧ ¬ (255 : Int32) < (x &&& (255 : Int32)) := by
  have h := c_mask x 255 8 (by decide) (by decide)
  simp only [Int32.lt_iff_toInt_lt, Int32.reduceToInt]
  omega
end Small
section Sub
variable {Z : State} {a0 : Array Value}
theorem NSroot {O K : String} {n : Nat} (w : (Cond.noSuperclass O).before a0 Z = true) (wk : (Cond.instantiable K n).before a0 Z = true) (hn : O ≠ K) : NS Z O K := by
  obtain ⟨c, k, h1, h2, h3, -, -⟩ := Cond.noSuperclass_spec w
  obtain ⟨t, kt, g1, -⟩ := Cond.instantiable_spec wk
  have ne := ids_ne h1 g1 hn
  refine ⟨c, t, h1, g1, fun fuel => ?_⟩
  cases fuel with
  | zero => rfl
  | succ f => simp [Vm.isSubclassAux, ne, h2, h3]
theorem NSno {C S K : String} {n : Nat} (w : (Cond.superclass C S).before a0 Z = true) (wk : (Cond.instantiable K n).before a0 Z = true) (N : NS Z C K) (hn : C ≠ K) : ∃ c t, Z.vm.findClass C = some c ∧ Z.vm.findClass K = some t ∧ Z.vm.assignable c t = false := by
  obtain ⟨c, t, h0, g0, n3⟩ := N
  obtain ⟨p, k, kp, h1, h2, h3, h4, h5, -, h7⟩ := Cond.superclass_spec h0 w
  obtain ⟨t', kt, g1, g2, g5, g7, -⟩ := Cond.instantiable_spec wk
  cases g0.symm.trans g1
  rw [Bool.or_eq_false_iff] at g7
  have ne := ids_ne h0 g0 hn
  refine ⟨c, t, h0, g0, ?_⟩
  show Z.vm.assignableAux (255 + 1) c t = false
  simp [Vm.assignableAux, ne, h2, g2, h5, g5, g7.1, Vm.isSubclass, n3]
end Sub
/-- an array of n elements, told by a function -/
def Arf (Z : State) (h : Heap) (a : Addr) (k : ClassId) (ty : FieldType) (n : Nat) (f : Nat → Value) : Prop := ∃ c : Cell, Arr Z h a c ty ∧ c.cls = k ∧ c.slots.size = n ∧ (∀ i, i < n → c.slots[i]? = some (f i)) ∧ ∀ i, i < n → fits ty (f i) = true
section Arf
variable {Z : State} {h h' : Heap} {a b : Addr} {k : ClassId} {ty : FieldType} {n sl : Nat} {f g : Nat → Value} {v : Value} {ws : List Addr} {c : Cell} {j : Int32} {i : Nat}
theorem Arf.lt (F : Arf Z h a k ty n f) : a < h.size := by
  obtain ⟨c, A, -⟩ := F
  exact A.lt
theorem Arf.ext (F : Arf Z h a k ty n f) (E : Ext h h') : Arf Z h' a k ty n f := by
  obtain ⟨c, A, r⟩ := F
  exact ⟨c, A.ext E, r⟩
theorem Arf.other (F : Arf Z h b k ty n f) (W : Wr h h' a sl v) (q : b ≠ a) : Arf Z h' b k ty n f := by
  obtain ⟨c, A, r⟩ := F
  exact ⟨c, A.other W q, r⟩
theorem Arf.keep (F : Arf Z h a k ty n f) (K : Keep h h' ws) (q : a ∉ ws) : Arf Z h' a k ty n f := by
  obtain ⟨c, A, r⟩ := F
  exact ⟨c, ⟨K.2.1 a c A.1 q, A.2⟩, r⟩
theorem Arf.congr (F : Arf Z h a k ty n f) (q : ∀ i, i < n → g i = f i) : Arf Z h a k ty n g := by
  obtain ⟨c, A, r1, r2, H, G⟩ := F
  exact ⟨c, A, r1, r2, fun i hi => by rw [q i hi]; exact H i hi, fun i hi => by rw [q i hi]; exact G i hi⟩
theorem Arf.set (A : Arr Z h a c ty) (q1 : c.cls = k) (S : c.slots.size = n) (H : ∀ i, i < n → c.slots[i]? = some (f i)) (G : ∀ i, i < n → fits ty (f i) = true) (hv : fits ty v = true) (W : Wr h h' a i v) (hi : i < n) : Arf Z h' a k ty n (fun x => if x = i then v else f x) := by
  refine ⟨c.setSlot i v, A.same W, q1, by rw [sz_set]; exact S, fun x hx => ?_, fun x hx => ?_⟩
  · show (c.setSlot i v).slots[x]? = some (if x = i then v else f x)
    by_cases e : x = i
    · subst e
      simp [Cell.setSlot, S, hx]
    · rw [if_neg e, ← H x hx]
      exact Cell.slots_setSlot_ne v (Ne.symm e)
  · by_cases e : x = i
    · simp [e, hv]
    · simp [e, G x hx]
theorem Arv.arf {z : Int32} {vs : List Value} {d : Value} (F : Arv Z h a k ty z vs d) (hz : z.toNatClampNeg = n) : Arf Z h a k ty n (fun i => vs.getD i d) := by
  obtain ⟨c, A, r1, r2, r3, H, G⟩ := F
  exact ⟨c, A, r1, by rw [r2, hz], fun i hi => H i (by rw [r2, hz]; exact hi), fun i hi => G i (by rw [r2, hz]; exact hi)⟩
theorem arf_in (S : c.slots.size = n) (hk : j.toInt = i) (hn : i < n) : ¬ (j < 0 ∨ c.slots.size ≤ j.toNatClampNeg) := by
  simp only [Int32.lt_iff_toInt_lt, Int32.toNatClampNeg, Int32.reduceToInt, S, hk]
  omega
theorem arf_at (H : ∀ i, i < n → c.slots[i]? = some (f i)) (hk : j.toInt = i) (hn : i < n) : c.slots[j.toNatClampNeg]? = some (f i) := by
  have e : j.toNatClampNeg = i := by simp only [Int32.toNatClampNeg, hk]; omega
  rw [e]
  exact H i hn
theorem arf_ix (hk : j.toInt = i) : j.toNatClampNeg = i := by simp only [Int32.toNatClampNeg, hk]; omega
theorem arf_len {z : Int32} (S : c.slots.size = n) (hz : z.toInt = n) : c.slots.size.toInt32 = z := by
  rw [S]
  have h1 := Int32.toInt_lt z
  exact Int32.toInt_inj.mp (by rw [len_toInt (by omega)]; exact hz.symm)
theorem Arf.one (F : Arf Z h a k ty n f) (hi : i < n) : fits ty (f i) = true := by
  obtain ⟨c, A, r1, r2, H, G⟩ := F
  exact G i hi
theorem Arf.new {z : Int32} (A : Arr Z h a (newA k ty z) ty) (q : ¬ z < 0) (hz : z.toNatClampNeg = n) : Arf Z h a k ty n (fun _ => defaultValue ty) := (Arv.arf (Arv.new A q) hz).congr fun i _ => by simp
theorem cloneF {p : Program} {l : Launch} {e : Env} {R : Room} {s : State} {m : MethodId} {args : Array Value} {below : List Frame} {meth : Method} {c : Code} {T : State} {locs : List Loc} {cells slots : Nat} (X : Stand p l e R s m args below meth c T locs cells slots) (hx : p.tables.exec = Jvm.exec) (hZ : Z.Warmed39 s.vm) {a0 : Array Value} {own ad : String} {index : Nat} (hown : s.vm.findClass own = some m.cls)
    (w1 : (Cond.methodLink own index ⟨ad, "clone", "()Ljava/lang/Object;"⟩).before a0 Z = true) (w2 : (Cond.sameMethod ad "java/lang/Object" "clone" "()Ljava/lang/Object;").before a0 Z = true) (w3 : (Cond.native ⟨"java/lang/Object", "clone", "()Ljava/lang/Object;"⟩).before a0 Z = true)
    (w4 : (Cond.instanceMethod ⟨"java/lang/Object", "clone", "()Ljava/lang/Object;"⟩).before a0 Z = true) (w5 : (Cond.selects ad ⟨ad, "clone", "()Ljava/lang/Object;"⟩ ⟨"java/lang/Object", "clone", "()Ljava/lang/Object;"⟩).before a0 Z = true) (w6 : (Cond.castable ad "java/lang/Cloneable").before a0 Z = true)
    (eT : T.heap = h) (F : Arf Z h a k ty n f) (E : Exa Z h a ad) {g : JFrame} (hg : g.method = m) (hsize : g.locals.size = c.maxLocals) {rest : List Value} (hst : g.stack = .ref a :: rest) (hd : decode c.code g.pc = .ok (.invokevirtual index, 3))
    (hf : 1 ≤ R.frames) {W cap : Nat} (hW : 2 * g.monitorRoom + (rest.map fun v => v.category).sum ≤ W) (hl : W + 14 ≤ R.locals) (hcap : n ≤ cap) (hc : cells + 1 ≤ R.cells) (hsl : slots + cap ≤ R.slots) :
    ∃ T' h', Stand p l e R s m args below meth c T' locs (cells + 1) (slots + cap) ∧ T'.heap = h' ∧ Ext h h' ∧ Arf Z h' h.size k ty n f ∧ Exa Z h' h.size ad ∧
      ∀ target, Steps p.tables e below (T'.setTop { g with pc := g.pc + 3, stack := .ref h.size :: rest }) target → Steps p.tables e below (T.setTop g) target := by
  obtain ⟨cl, A, q1, S, H, G⟩ := F
  have FC : FitC Z cl := fitC_of A fun i hi v hv => by rw [H i (S ▸ hi)] at hv; cases hv; exact G i (S ▸ hi)
  obtain ⟨T', h', X', e', ex, A', E', st⟩ := cloneA X hx hZ hown w1 w2 w3 w4 w5 w6 eT A E FC hg hsize hst hd hf hW hl (by rw [S]; exact hcap) hc hsl
  exact ⟨T', h', X', e', ex, ⟨cloneOf cl, A', q1, S, H, G⟩, E', st⟩
end Arf
theorem and1_cases (x : Int32) : x &&& (1 : Int32) = (0 : Int32) ∨ x &&& (1 : Int32) = (1 : Int32) := and_one x
theorem and3_cases (x : Int32) : x &&& (3 : Int32) = (0 : Int32) ∨ x &&& (3 : Int32) = (1 : Int32) ∨ x &&& (3 : Int32) = (2 : Int32) ∨ x &&& (3 : Int32) = (3 : Int32) := by
  have h := c_mask x 3 2 (by decide) (by decide)
  simp only [← Int32.toInt_inj]
  have : (0 : Int32).toInt = 0 := by decide
  have : (1 : Int32).toInt = 1 := by decide
  have : (2 : Int32).toInt = 2 := by decide
  have : (3 : Int32).toInt = 3 := by decide
  omega
end Jvm.OwnKit
namespace Jvm.Pilot.@@N@@
open Jvm Jvm.ClassFile Sem Op Lib Jvm.Free Jvm.Stand Jvm.LawKit Jvm.RoadKit Jvm.OwnKit Bundle Jvm.Pilot.@@N@@.Jvm.D
theorem own_fill (c d : Value) (k i : Nat) : (if i < k + 1 then c else d) = if i = k then c else (if i < k then c else d) := by
  by_cases h1 : i = k
  · simp [h1]
  · by_cases h2 : i < k
    · simp [h2, Nat.lt_succ_of_lt h2]
    · have h3 : ¬ i < k + 1 := by omega
      simp [h1, h2, h3]
theorem own_fill0 (c d : Value) (i : Nat) : (if i < 1 then c else d) = if i = 0 then c else d := by
  by_cases h1 : i = 0
  · simp [h1]
  · have h3 : ¬ i < 1 := by omega
    simp [h1]
theorem own_fillN (c d : Value) (i : Nat) (h : i < 66) : c = if i = 65 then c else (if i < 65 then c else d) := by
  by_cases h1 : i = 65
  · simp [h1]
  · have h3 : i < 65 := by omega
    simp [h1, h3]
def own_one (sd : Nat → Int32) : Nat → Int32
  | 0 => 1
  | k + 1 => own_one sd k &&& (if sd k = 3 then 1 else 0)
def own_bits (m : Int32) (sd : Nat → Int32) : Nat → Nat → Int64
  | 0, _ => 0
  | k + 1, w => if sd k &&& m = 0 then own_bits m sd k w else if w = k / 64 then own_bits m sd k w ||| ((1 : Int64) <<< (Int64.ofNat (k % 64))) else own_bits m sd k w
theorem own_one_iff (sd : Nat → Int32) : ∀ k, own_one sd k = if (∀ i, i < k → sd i = 3) then 1 else 0
  | 0 => by simp [own_one]
  | k + 1 => by
    rw [own_one, own_one_iff sd k]
    by_cases h : ∀ i, i < k → sd i = 3
    · by_cases h2 : sd k = 3
      · have h3 : ∀ i, i < k + 1 → sd i = 3 := fun i hi => by
          rcases Nat.lt_succ_iff_lt_or_eq.mp hi with q | rfl
          · exact h i q
          · exact h2
        rw [if_pos h, if_pos h2, if_pos h3]; rfl
      · rw [if_pos h, if_neg h2, if_neg (fun q => h2 (q k (Nat.lt_succ_self k)))]; rfl
    · have h3 : ¬ ∀ i, i < k + 1 → sd i = 3 := fun q => h fun i hi => q i (Nat.lt_succ_of_lt hi)
      rw [if_neg h, if_neg h3]
      by_cases h4 : sd k = 3
      · rw [if_pos h4]; rfl
      · rw [if_neg h4]; rfl
theorem own_shl_one (n : Nat) (hn : n < 64) (b : Nat) (hb : b < 64) : ((1 : Int64) <<< (Int64.ofNat n)).toBitVec.getLsbD b = decide (b = n) := by
  have h : ((1 : Int64) <<< (Int64.ofNat n)).toBitVec = (1#64 <<< n) := by
    rw [Int64.toBitVec_shiftLeft]
    have e : ((Int64.ofNat n).toBitVec.smod 64).toNat = n := smod64 n hn
    show (1#64) <<< ((Int64.ofNat n).toBitVec.smod 64).toNat = _
    rw [e]
  rw [h]
  rw [BitVec.getLsbD_shiftLeft]
  by_cases q : b = n
  · subst q
    simp [hb]
  · by_cases q2 : b < n
    · simp [q, q2]
    · have q3 : ¬ b - n = 0 := by omega
      simp [q, BitVec.getLsbD_one, q3]
theorem own_bits_at (m : Int32) (sd : Nat → Int32) : ∀ k w b, b < 64 → (own_bits m sd k w).toBitVec.getLsbD b = decide (w * 64 + b < k ∧ ¬ sd (w * 64 + b) &&& m = 0)
  | 0, w, b, hb => by simp [own_bits]
  | k + 1, w, b, hb => by
    have ih := own_bits_at m sd k w b hb
    have hk := Nat.div_add_mod k 64
    have hm := Nat.mod_lt k (show 64 > 0 by decide)
    rw [own_bits]
    split
    · rename_i h0
      rw [ih]
      congr 1
      apply propext
      constructor
      · rintro ⟨h1, h2⟩; exact ⟨by omega, h2⟩
      · rintro ⟨h1, h2⟩
        refine ⟨?_, h2⟩
        rcases Nat.lt_succ_iff_lt_or_eq.mp h1 with q | q
        · exact q
        · rw [q] at h2; exact absurd h0 h2
    · rename_i h0
      split
      · rename_i hw
        rw [Int64.toBitVec_or, BitVec.getLsbD_or, ih, own_shl_one _ hm _ hb]
        rw [← Bool.decide_or]
        congr 1
        apply propext
        constructor
        · rintro (⟨h1, h2⟩ | h1)
          · exact ⟨by omega, h2⟩
          · have e : w * 64 + b = k := by omega
            exact ⟨by omega, by rw [e]; exact h0⟩
        · rintro ⟨h1, h2⟩
          by_cases q : w * 64 + b < k
          · exact Or.inl ⟨q, h2⟩
          · exact Or.inr (by omega)
      · rename_i hw
        rw [ih]
        congr 1
        apply propext
        constructor
        · rintro ⟨h1, h2⟩; exact ⟨by omega, h2⟩
        · rintro ⟨h1, h2⟩; exact ⟨by omega, h2⟩
def own_sd (ipn : Nat) (s1 : Int32) (jpn : Nat) (s2 : Int32) (x : Nat) : Int32 := if x = jpn then s2 else if x = ipn then s1 else 3
theorem own_sdv (ipn : Nat) (s1 : Int32) (jpn : Nat) (s2 : Int32) (x : Nat) : (Value.int (own_sd ipn s1 jpn s2 x)) = if x = jpn then Value.int s2 else if x = ipn then Value.int s1 else Value.int 3 := by
  unfold own_sd
  split
  · rfl
  · split <;> rfl
theorem own_lits : (0 : Int32).toInt = 0 ∧ (1 : Int32).toInt = 1 ∧ (2 : Int32).toInt = 2 ∧ (3 : Int32).toInt = 3 ∧ (66 : Int32).toInt = 66 := by decide
theorem own_rem66 {p ip : Int32} (h : ip = (p &&& (2147483647 : Int32)) % (66 : Int32)) : ∃ n : Nat, ip.toInt = (n : Int) ∧ n < 66 := by
  have e1 := c_mask p 2147483647 31 (by decide) (by decide)
  have e2 := (c_irem (p &&& 2147483647) 66 66 (by decide)).1 (by omega)
  rw [← h] at e2
  exact ⟨ip.toInt.toNat, by omega, by omega⟩
theorem own_rem3 {p s : Int32} (h : s = ((p &&& (2147483647 : Int32)) % (3 : Int32)) + (1 : Int32)) : s = 1 ∨ s = 2 ∨ s = 3 := by
  have e1 := c_mask p 2147483647 31 (by decide) (by decide)
  have e2 := (c_irem (p &&& 2147483647) 3 3 (by decide)).1 (by omega)
  have e3 := c_iadd ((p &&& (2147483647 : Int32)) % (3 : Int32)) 1
  have e4 := rng32 s
  rw [← h] at e3
  have e5 := own_lits
  simp only [← Int32.toInt_inj]
  omega
theorem own_b3 {s : Int32} (h : s = 1 ∨ s = 2 ∨ s = 3) : s.toInt8.toInt32 = s := by
  rcases h with rfl | rfl | rfl <;> decide
theorem own_sd3 {ipn jpn : Nat} {s1 s2 : Int32} (h1 : s1 = 1 ∨ s1 = 2 ∨ s1 = 3) (h2 : s2 = 1 ∨ s2 = 2 ∨ s2 = 3) : ∀ x, x < 66 → own_sd ipn s1 jpn s2 x = 1 ∨ own_sd ipn s1 jpn s2 x = 2 ∨ own_sd ipn s1 jpn s2 x = 3 := by
  intro x _
  unfold own_sd
  split
  · exact h2
  · split
    · exact h1
    · exact Or.inr (Or.inr rfl)
theorem own_end {i : Int32} (hi : i.toInt = ((66 : Nat) : Int)) : ¬ i < (66 : Int32) := by
  rw [Int32.lt_iff_toInt_lt]
  have := own_lits
  omega
theorem own_in {i : Int32} {j : Nat} (hi : i.toInt = (j : Int)) (h : j < 66) : i < (66 : Int32) := by
  rw [Int32.lt_iff_toInt_lt]
  have := own_lits
  omega
theorem own_next {i : Int32} {j : Nat} (hi : i.toInt = (j : Int)) (h : j < 66) : (i + (1 : Int32)).toInt = ((j + 1 : Nat) : Int) := by
  have e3 := c_iadd i 1
  have e4 := rng32 (i + 1)
  have := own_lits
  omega
theorem own_onestep {sd : Nat → Int32} {o1 z : Int32} {j : Nat} (ho : o1 = own_one sd j) (h : (sd j = 3 ∧ z = 1) ∨ (¬ sd j = 3 ∧ z = 0)) : o1 &&& z = own_one sd (j + 1) := by
  rw [own_one, ho]
  rcases h with ⟨h1, rfl⟩ | ⟨h1, rfl⟩
  · rw [if_pos h1]
  · rw [if_neg h1]
theorem own_bit_no {m : Int32} {sd : Nat → Int32} {j w : Nat} (h : (sd j &&& m) = 0) : Value.long (own_bits m sd (j + 1) w) = Value.long (own_bits m sd j w) := by
  rw [own_bits, if_pos h]
theorem own_shl {i : Int32} {j : Nat} (hi : i.toInt = (j : Int)) : (i &&& 0x3f).toInt64 = Int64.ofNat (j % 64) := by
  have e1 := c_mask i 0x3f 6 (by decide) (by decide)
  refine Int64.toInt_inj.mp ?_
  rw [c_i2l, e1, hi, Int64.toInt_ofNat_of_lt (by omega)]
  omega
theorem own_bit_yes {m i : Int32} {sd : Nat → Int32} {j w : Nat} (h : ¬ (sd j &&& m) = 0) (hi : i.toInt = (j : Int)) : Value.long (own_bits m sd (j + 1) w) = if w = j / 64 then Value.long (own_bits m sd j (j / 64) ||| ((1 : Int64) <<< (i &&& 0x3f).toInt64)) else Value.long (own_bits m sd j w) := by
  rw [own_bits, if_neg h, own_shl hi]
  split
  · rename_i e; rw [e]
  · rfl
theorem own_div {i : Int32} {j : Nat} (hi : i.toInt = (j : Int)) : ((i.toUInt32 >>> ((6 : Int32) &&& 31).toUInt32).toInt32).toInt = ((j / 64 : Nat) : Int) := by
  have e := c_iushr i 6 6 (by decide) (by decide)
  have r := rng32 i
  rw [e, hi]
  omega
theorem own_d2 {j : Nat} (h : j < 66) : j / 64 < 2 := by omega
theorem own_all {sd : Nat → Int32} {o1 : Int32} (ho : o1 = own_one sd 66) (q : ¬ o1 = 0) : ∀ x, x < 66 → sd x = 3 := by
  rw [ho, own_one_iff] at q
  by_cases h : ∀ i, i < 66 → sd i = 3
  · exact h
  · rw [if_neg h] at q
    exact absurd rfl q
theorem own_notall {sd : Nat → Int32} {o1 : Int32} (ho : o1 = own_one sd 66) (q : o1 = 0) : ¬ ∀ x, x < 66 → sd x = 3 := by
  intro h
  rw [ho, own_one_iff, if_pos h] at q
  exact absurd q (by decide)
def own_pick (q ip jp : Int32) : Int32 := if (q &&& (3 : Int32)) = 0 then ip else if (q &&& (3 : Int32)) = (1 : Int32) then jp else ((q.toUInt32 >>> ((2 : Int32) &&& 31).toUInt32).toInt32) % (66 : Int32)
def own_side (w ip s1 jp s2 : Int32) : Int32 := if w = jp then s2 else if w = ip then s1 else (3 : Int32)
theorem own_pick66 {x q ip jp : Int32} {ipn jpn : Nat} (h : x = own_pick q ip jp) (h1 : ip.toInt = (ipn : Int)) (h2 : ipn < 66) (h3 : jp.toInt = (jpn : Int)) (h4 : jpn < 66) : ∃ n : Nat, x.toInt = (n : Int) ∧ n < 66 := by
  rw [own_pick] at h
  split at h
  · exact ⟨ipn, by rw [h]; exact h1, h2⟩
  · split at h
    · exact ⟨jpn, by rw [h]; exact h3, h4⟩
    · have e := c_iushr q 2 2 (by decide) (by decide)
      have e2 := (c_irem ((q.toUInt32 >>> ((2 : Int32) &&& 31).toUInt32).toInt32) 66 66 (by decide)).1 (by omega)
      rw [← h] at e2
      exact ⟨x.toInt.toNat, by omega, by omega⟩
theorem own_side_sd {x ip jp : Int32} (s1 s2 : Int32) {xn ipn jpn : Nat} (hx : x.toInt = (xn : Int)) (hi : ip.toInt = (ipn : Int)) (hj : jp.toInt = (jpn : Int)) : own_side x ip s1 jp s2 = own_sd ipn s1 jpn s2 xn := by
  have q1 : (x = jp) = (xn = jpn) := by
    rw [← Int32.toInt_inj, hx, hj]
    exact propext ⟨fun q => by omega, fun q => by omega⟩
  have q2 : (x = ip) = (xn = ipn) := by
    rw [← Int32.toInt_inj, hx, hi]
    exact propext ⟨fun q => by omega, fun q => by omega⟩
  unfold own_side own_sd
  simp only [q1, q2]
theorem own_lt2 {y : Int32} {yn : Nat} (hy : y.toInt = (yn : Int)) (h : yn < 66) : ((y.toUInt32 >>> ((6 : Int32) &&& 31).toUInt32).toInt32) < (2 : Int32) := by
  rw [Int32.lt_iff_toInt_lt, own_div hy]
  have := own_lits
  omega
theorem own_ushr (x : Int64) (q : Int32) (n : Nat) (hq : q.toBitVec.toNat % 64 = n) : ((x.toUInt64 >>> (q &&& 0x3f).toInt64.toUInt64).toInt64).toBitVec = x.toBitVec >>> n := by
  obtain ⟨h1, h2⟩ := sm64 q n hq
  have e : (q &&& 0x3f).toInt64.toUInt64.toNat = n := by
    show (q &&& 0x3f).toInt64.toBitVec.toNat = n
    rw [h1, BitVec.toNat_ofNat]
    omega
  show (x.toUInt64 >>> (q &&& 0x3f).toInt64.toUInt64).toBitVec = x.toBitVec >>> n
  rw [UInt64.toBitVec_shiftRight]
  show x.toBitVec >>> ((q &&& 0x3f).toInt64.toUInt64.toBitVec % 64#64) = _
  have e2 : ((q &&& 0x3f).toInt64.toUInt64.toBitVec % 64#64) = BitVec.ofNat 64 n := by
    apply BitVec.eq_of_toNat_eq
    rw [BitVec.toNat_umod, BitVec.toNat_ofNat]
    show (q &&& 0x3f).toInt64.toUInt64.toNat % _ = _
    rw [e, BitVec.toNat_ofNat]
    show n % 64 = n % 2 ^ 64
    omega
  rw [e2, BitVec.ushiftRight_eq', BitVec.toNat_ofNat]
  congr 1
  omega
theorem own_top (m : Int32) (sd : Nat → Int32) : (((own_bits m sd 66 1).toUInt64 >>> ((2 : Int32) &&& 0x3f).toInt64.toUInt64).toInt64) = (0 : Int64) := by
  apply Int64.toBitVec_inj.mp
  rw [own_ushr _ 2 2 (by decide)]
  apply BitVec.eq_of_getLsbD_eq
  intro i hi
  rw [BitVec.getLsbD_ushiftRight]
  by_cases h : 2 + i < 64
  · rw [own_bits_at m sd 66 1 (2 + i) h]
    have : ¬ (1 * 64 + (2 + i) < 66) := by omega
    simp [this]
  · simp [BitVec.getLsbD_of_ge _ _ (by omega : 64 ≤ 2 + i)]
theorem own_bitv {m y : Int32} {sd : Nat → Int32} {yn : Nat} (hy : y.toInt = (yn : Int)) (hl : yn < 66) : ((((own_bits m sd 66 (yn / 64)).toUInt64 >>> ((y &&& (63 : Int32)) &&& 0x3f).toInt64.toUInt64).toInt64 &&& (1 : Int64)) = (0 : Int64)) ↔ (sd yn &&& m) = 0 := by
  have e1 := c_mask y 63 6 (by decide) (by decide)
  have hq : (y &&& (63 : Int32)).toBitVec.toNat % 64 = yn % 64 := by
    have e2 : (y &&& (63 : Int32)).toInt = ((y &&& (63 : Int32)).toBitVec.toNat : Int) := by
      have := BitVec.toInt_eq_toNat_cond (y &&& (63 : Int32)).toBitVec
      have h3 : (y &&& (63 : Int32)).toInt = (y &&& (63 : Int32)).toBitVec.toInt := rfl
      have h4 := (y &&& (63 : Int32)).toBitVec.isLt
      rw [h3, this]
      rw [h3, this] at e1
      split at e1 <;> split <;> omega
    omega
  have hb := own_bits_at m sd 66 (yn / 64) (yn % 64) (Nat.mod_lt _ (by decide))
  have hk : yn / 64 * 64 + yn % 64 = yn := by omega
  rw [hk] at hb
  rw [← Int64.toBitVec_inj, Int64.toBitVec_and, own_ushr _ _ _ hq]
  constructor
  · intro h
    have h0 := congrArg (fun z => BitVec.getLsbD z 0) h
    simp only [BitVec.getLsbD_and, BitVec.getLsbD_ushiftRight, Nat.add_zero, hb] at h0
    by_cases q : (sd yn &&& m) = 0
    · exact q
    · exfalso
      have t1 : (1 : Int64).toBitVec.getLsbD 0 = true := by decide
      have t2 : (0 : Int64).toBitVec.getLsbD 0 = false := by decide
      rw [t1, t2] at h0
      simp [hl, q] at h0
  · intro h
    apply BitVec.eq_of_getLsbD_eq
    intro i hi
    simp only [BitVec.getLsbD_and, BitVec.getLsbD_ushiftRight]
    have t1 : (1 : Int64).toBitVec.getLsbD i = decide (i = 0) := by
      show (1#64).getLsbD i = _
      simp [BitVec.getLsbD_one]
    have t2 : (0 : Int64).toBitVec.getLsbD i = false := by
      show (0#64).getLsbD i = _
      simp
    rw [t1, t2]
    by_cases q : i = 0
    · subst q
      rw [Nat.add_zero, hb]
      simp [h]
    · simp [q]
theorem own_bit0 {m y : Int32} {sd : Nat → Int32} {yn : Nat} (hy : y.toInt = (yn : Int)) (hl : yn < 66) (h : (sd yn &&& m) = 0) : (((own_bits m sd 66 (yn / 64)).toUInt64 >>> ((y &&& (63 : Int32)) &&& 0x3f).toInt64.toUInt64).toInt64 &&& (1 : Int64)) = (0 : Int64) := (own_bitv hy hl).mpr h
theorem own_bit1 {m y : Int32} {sd : Nat → Int32} {yn : Nat} (hy : y.toInt = (yn : Int)) (hl : yn < 66) (h : ¬ (sd yn &&& m) = 0) : ¬ (((own_bits m sd 66 (yn / 64)).toUInt64 >>> ((y &&& (63 : Int32)) &&& 0x3f).toInt64.toUInt64).toInt64 &&& (1 : Int64)) = (0 : Int64) := fun q => h ((own_bitv hy hl).mp q)
theorem d1_0 : decode method_5_code 0 = .ok (.iconst 3, 1) := by decide +kernel
theorem d1_1 : decode method_5_code 1 = .ok (.istore_n 0, 1) := by decide +kernel
theorem d1_2 : decode method_5_code 2 = .ok (.bipush 66, 2) := by decide +kernel
theorem d1_4 : decode method_5_code 4 = .ok (.newarray .byte, 2) := by decide +kernel
theorem d1_6 : decode method_5_code 6 = .ok (.dup, 1) := by decide +kernel
theorem d1_7 : decode method_5_code 7 = .ok (.iconst 0, 1) := by decide +kernel
theorem d1_8 : decode method_5_code 8 = .ok (.iload_n 0, 1) := by decide +kernel
theorem d1_9 : decode method_5_code 9 = .ok (.bastore, 1) := by decide +kernel
theorem d1_10 : decode method_5_code 10 = .ok (.dup, 1) := by decide +kernel
theorem d1_11 : decode method_5_code 11 = .ok (.iconst 1, 1) := by decide +kernel
theorem d1_12 : decode method_5_code 12 = .ok (.iload_n 0, 1) := by decide +kernel
theorem d1_13 : decode method_5_code 13 = .ok (.bastore, 1) := by decide +kernel
theorem d1_14 : decode method_5_code 14 = .ok (.dup, 1) := by decide +kernel
theorem d1_15 : decode method_5_code 15 = .ok (.iconst 2, 1) := by decide +kernel
theorem d1_16 : decode method_5_code 16 = .ok (.iload_n 0, 1) := by decide +kernel
theorem d1_17 : decode method_5_code 17 = .ok (.bastore, 1) := by decide +kernel
theorem d1_18 : decode method_5_code 18 = .ok (.dup, 1) := by decide +kernel
theorem d1_19 : decode method_5_code 19 = .ok (.iconst 3, 1) := by decide +kernel
theorem d1_20 : decode method_5_code 20 = .ok (.iload_n 0, 1) := by decide +kernel
theorem d1_21 : decode method_5_code 21 = .ok (.bastore, 1) := by decide +kernel
theorem d1_22 : decode method_5_code 22 = .ok (.dup, 1) := by decide +kernel
theorem d1_23 : decode method_5_code 23 = .ok (.iconst 4, 1) := by decide +kernel
theorem d1_24 : decode method_5_code 24 = .ok (.iload_n 0, 1) := by decide +kernel
theorem d1_25 : decode method_5_code 25 = .ok (.bastore, 1) := by decide +kernel
theorem d1_26 : decode method_5_code 26 = .ok (.dup, 1) := by decide +kernel
theorem d1_27 : decode method_5_code 27 = .ok (.iconst 5, 1) := by decide +kernel
theorem d1_28 : decode method_5_code 28 = .ok (.iload_n 0, 1) := by decide +kernel
theorem d1_29 : decode method_5_code 29 = .ok (.bastore, 1) := by decide +kernel
theorem d1_30 : decode method_5_code 30 = .ok (.dup, 1) := by decide +kernel
theorem d1_31 : decode method_5_code 31 = .ok (.bipush 6, 2) := by decide +kernel
theorem d1_33 : decode method_5_code 33 = .ok (.iload_n 0, 1) := by decide +kernel
theorem d1_34 : decode method_5_code 34 = .ok (.bastore, 1) := by decide +kernel
theorem d1_35 : decode method_5_code 35 = .ok (.dup, 1) := by decide +kernel
theorem d1_36 : decode method_5_code 36 = .ok (.bipush 7, 2) := by decide +kernel
theorem d1_38 : decode method_5_code 38 = .ok (.iload_n 0, 1) := by decide +kernel
theorem d1_39 : decode method_5_code 39 = .ok (.bastore, 1) := by decide +kernel
theorem d1_40 : decode method_5_code 40 = .ok (.dup, 1) := by decide +kernel
theorem d1_41 : decode method_5_code 41 = .ok (.bipush 8, 2) := by decide +kernel
theorem d1_43 : decode method_5_code 43 = .ok (.iload_n 0, 1) := by decide +kernel
theorem d1_44 : decode method_5_code 44 = .ok (.bastore, 1) := by decide +kernel
theorem d1_45 : decode method_5_code 45 = .ok (.dup, 1) := by decide +kernel
theorem d1_46 : decode method_5_code 46 = .ok (.bipush 9, 2) := by decide +kernel
theorem d1_48 : decode method_5_code 48 = .ok (.iload_n 0, 1) := by decide +kernel
theorem d1_49 : decode method_5_code 49 = .ok (.bastore, 1) := by decide +kernel
theorem d1_50 : decode method_5_code 50 = .ok (.dup, 1) := by decide +kernel
theorem d1_51 : decode method_5_code 51 = .ok (.bipush 10, 2) := by decide +kernel
theorem d1_53 : decode method_5_code 53 = .ok (.iload_n 0, 1) := by decide +kernel
theorem d1_54 : decode method_5_code 54 = .ok (.bastore, 1) := by decide +kernel
theorem d1_55 : decode method_5_code 55 = .ok (.dup, 1) := by decide +kernel
theorem d1_56 : decode method_5_code 56 = .ok (.bipush 11, 2) := by decide +kernel
theorem d1_58 : decode method_5_code 58 = .ok (.iload_n 0, 1) := by decide +kernel
theorem d1_59 : decode method_5_code 59 = .ok (.bastore, 1) := by decide +kernel
theorem d1_60 : decode method_5_code 60 = .ok (.dup, 1) := by decide +kernel
theorem d1_61 : decode method_5_code 61 = .ok (.bipush 12, 2) := by decide +kernel
theorem d1_63 : decode method_5_code 63 = .ok (.iload_n 0, 1) := by decide +kernel
theorem d1_64 : decode method_5_code 64 = .ok (.bastore, 1) := by decide +kernel
theorem d1_65 : decode method_5_code 65 = .ok (.dup, 1) := by decide +kernel
theorem d1_66 : decode method_5_code 66 = .ok (.bipush 13, 2) := by decide +kernel
theorem d1_68 : decode method_5_code 68 = .ok (.iload_n 0, 1) := by decide +kernel
theorem d1_69 : decode method_5_code 69 = .ok (.bastore, 1) := by decide +kernel
theorem d1_70 : decode method_5_code 70 = .ok (.dup, 1) := by decide +kernel
theorem d1_71 : decode method_5_code 71 = .ok (.bipush 14, 2) := by decide +kernel
theorem d1_73 : decode method_5_code 73 = .ok (.iload_n 0, 1) := by decide +kernel
theorem d1_74 : decode method_5_code 74 = .ok (.bastore, 1) := by decide +kernel
theorem d1_75 : decode method_5_code 75 = .ok (.dup, 1) := by decide +kernel
theorem d1_76 : decode method_5_code 76 = .ok (.bipush 15, 2) := by decide +kernel
theorem d1_78 : decode method_5_code 78 = .ok (.iload_n 0, 1) := by decide +kernel
theorem d1_79 : decode method_5_code 79 = .ok (.bastore, 1) := by decide +kernel
theorem d1_80 : decode method_5_code 80 = .ok (.dup, 1) := by decide +kernel
theorem d1_81 : decode method_5_code 81 = .ok (.bipush 16, 2) := by decide +kernel
theorem d1_83 : decode method_5_code 83 = .ok (.iload_n 0, 1) := by decide +kernel
theorem d1_84 : decode method_5_code 84 = .ok (.bastore, 1) := by decide +kernel
theorem d1_85 : decode method_5_code 85 = .ok (.dup, 1) := by decide +kernel
theorem d1_86 : decode method_5_code 86 = .ok (.bipush 17, 2) := by decide +kernel
theorem d1_88 : decode method_5_code 88 = .ok (.iload_n 0, 1) := by decide +kernel
theorem d1_89 : decode method_5_code 89 = .ok (.bastore, 1) := by decide +kernel
theorem d1_90 : decode method_5_code 90 = .ok (.dup, 1) := by decide +kernel
theorem d1_91 : decode method_5_code 91 = .ok (.bipush 18, 2) := by decide +kernel
theorem d1_93 : decode method_5_code 93 = .ok (.iload_n 0, 1) := by decide +kernel
theorem d1_94 : decode method_5_code 94 = .ok (.bastore, 1) := by decide +kernel
theorem d1_95 : decode method_5_code 95 = .ok (.dup, 1) := by decide +kernel
theorem d1_96 : decode method_5_code 96 = .ok (.bipush 19, 2) := by decide +kernel
theorem d1_98 : decode method_5_code 98 = .ok (.iload_n 0, 1) := by decide +kernel
theorem d1_99 : decode method_5_code 99 = .ok (.bastore, 1) := by decide +kernel
theorem d1_100 : decode method_5_code 100 = .ok (.dup, 1) := by decide +kernel
theorem d1_101 : decode method_5_code 101 = .ok (.bipush 20, 2) := by decide +kernel
theorem d1_103 : decode method_5_code 103 = .ok (.iload_n 0, 1) := by decide +kernel
theorem d1_104 : decode method_5_code 104 = .ok (.bastore, 1) := by decide +kernel
theorem d1_105 : decode method_5_code 105 = .ok (.dup, 1) := by decide +kernel
theorem d1_106 : decode method_5_code 106 = .ok (.bipush 21, 2) := by decide +kernel
theorem d1_108 : decode method_5_code 108 = .ok (.iload_n 0, 1) := by decide +kernel
theorem d1_109 : decode method_5_code 109 = .ok (.bastore, 1) := by decide +kernel
theorem d1_110 : decode method_5_code 110 = .ok (.dup, 1) := by decide +kernel
theorem d1_111 : decode method_5_code 111 = .ok (.bipush 22, 2) := by decide +kernel
theorem d1_113 : decode method_5_code 113 = .ok (.iload_n 0, 1) := by decide +kernel
theorem d1_114 : decode method_5_code 114 = .ok (.bastore, 1) := by decide +kernel
theorem d1_115 : decode method_5_code 115 = .ok (.dup, 1) := by decide +kernel
theorem d1_116 : decode method_5_code 116 = .ok (.bipush 23, 2) := by decide +kernel
theorem d1_118 : decode method_5_code 118 = .ok (.iload_n 0, 1) := by decide +kernel
theorem d1_119 : decode method_5_code 119 = .ok (.bastore, 1) := by decide +kernel
theorem d1_120 : decode method_5_code 120 = .ok (.dup, 1) := by decide +kernel
theorem d1_121 : decode method_5_code 121 = .ok (.bipush 24, 2) := by decide +kernel
theorem d1_123 : decode method_5_code 123 = .ok (.iload_n 0, 1) := by decide +kernel
theorem d1_124 : decode method_5_code 124 = .ok (.bastore, 1) := by decide +kernel
theorem d1_125 : decode method_5_code 125 = .ok (.dup, 1) := by decide +kernel
theorem d1_126 : decode method_5_code 126 = .ok (.bipush 25, 2) := by decide +kernel
theorem d1_128 : decode method_5_code 128 = .ok (.iload_n 0, 1) := by decide +kernel
theorem d1_129 : decode method_5_code 129 = .ok (.bastore, 1) := by decide +kernel
theorem d1_130 : decode method_5_code 130 = .ok (.dup, 1) := by decide +kernel
theorem d1_131 : decode method_5_code 131 = .ok (.bipush 26, 2) := by decide +kernel
theorem d1_133 : decode method_5_code 133 = .ok (.iload_n 0, 1) := by decide +kernel
theorem d1_134 : decode method_5_code 134 = .ok (.bastore, 1) := by decide +kernel
theorem d1_135 : decode method_5_code 135 = .ok (.dup, 1) := by decide +kernel
theorem d1_136 : decode method_5_code 136 = .ok (.bipush 27, 2) := by decide +kernel
theorem d1_138 : decode method_5_code 138 = .ok (.iload_n 0, 1) := by decide +kernel
theorem d1_139 : decode method_5_code 139 = .ok (.bastore, 1) := by decide +kernel
theorem d1_140 : decode method_5_code 140 = .ok (.dup, 1) := by decide +kernel
theorem d1_141 : decode method_5_code 141 = .ok (.bipush 28, 2) := by decide +kernel
theorem d1_143 : decode method_5_code 143 = .ok (.iload_n 0, 1) := by decide +kernel
theorem d1_144 : decode method_5_code 144 = .ok (.bastore, 1) := by decide +kernel
theorem d1_145 : decode method_5_code 145 = .ok (.dup, 1) := by decide +kernel
theorem d1_146 : decode method_5_code 146 = .ok (.bipush 29, 2) := by decide +kernel
theorem d1_148 : decode method_5_code 148 = .ok (.iload_n 0, 1) := by decide +kernel
theorem d1_149 : decode method_5_code 149 = .ok (.bastore, 1) := by decide +kernel
theorem d1_150 : decode method_5_code 150 = .ok (.dup, 1) := by decide +kernel
theorem d1_151 : decode method_5_code 151 = .ok (.bipush 30, 2) := by decide +kernel
theorem d1_153 : decode method_5_code 153 = .ok (.iload_n 0, 1) := by decide +kernel
theorem d1_154 : decode method_5_code 154 = .ok (.bastore, 1) := by decide +kernel
theorem d1_155 : decode method_5_code 155 = .ok (.dup, 1) := by decide +kernel
theorem d1_156 : decode method_5_code 156 = .ok (.bipush 31, 2) := by decide +kernel
theorem d1_158 : decode method_5_code 158 = .ok (.iload_n 0, 1) := by decide +kernel
theorem d1_159 : decode method_5_code 159 = .ok (.bastore, 1) := by decide +kernel
theorem d1_160 : decode method_5_code 160 = .ok (.dup, 1) := by decide +kernel
theorem d1_161 : decode method_5_code 161 = .ok (.bipush 32, 2) := by decide +kernel
theorem d1_163 : decode method_5_code 163 = .ok (.iload_n 0, 1) := by decide +kernel
theorem d1_164 : decode method_5_code 164 = .ok (.bastore, 1) := by decide +kernel
theorem d1_165 : decode method_5_code 165 = .ok (.dup, 1) := by decide +kernel
theorem d1_166 : decode method_5_code 166 = .ok (.bipush 33, 2) := by decide +kernel
theorem d1_168 : decode method_5_code 168 = .ok (.iload_n 0, 1) := by decide +kernel
theorem d1_169 : decode method_5_code 169 = .ok (.bastore, 1) := by decide +kernel
theorem d1_170 : decode method_5_code 170 = .ok (.dup, 1) := by decide +kernel
theorem d1_171 : decode method_5_code 171 = .ok (.bipush 34, 2) := by decide +kernel
theorem d1_173 : decode method_5_code 173 = .ok (.iload_n 0, 1) := by decide +kernel
theorem d1_174 : decode method_5_code 174 = .ok (.bastore, 1) := by decide +kernel
theorem d1_175 : decode method_5_code 175 = .ok (.dup, 1) := by decide +kernel
theorem d1_176 : decode method_5_code 176 = .ok (.bipush 35, 2) := by decide +kernel
theorem d1_178 : decode method_5_code 178 = .ok (.iload_n 0, 1) := by decide +kernel
theorem d1_179 : decode method_5_code 179 = .ok (.bastore, 1) := by decide +kernel
theorem d1_180 : decode method_5_code 180 = .ok (.dup, 1) := by decide +kernel
theorem d1_181 : decode method_5_code 181 = .ok (.bipush 36, 2) := by decide +kernel
theorem d1_183 : decode method_5_code 183 = .ok (.iload_n 0, 1) := by decide +kernel
theorem d1_184 : decode method_5_code 184 = .ok (.bastore, 1) := by decide +kernel
theorem d1_185 : decode method_5_code 185 = .ok (.dup, 1) := by decide +kernel
theorem d1_186 : decode method_5_code 186 = .ok (.bipush 37, 2) := by decide +kernel
theorem d1_188 : decode method_5_code 188 = .ok (.iload_n 0, 1) := by decide +kernel
theorem d1_189 : decode method_5_code 189 = .ok (.bastore, 1) := by decide +kernel
theorem d1_190 : decode method_5_code 190 = .ok (.dup, 1) := by decide +kernel
theorem d1_191 : decode method_5_code 191 = .ok (.bipush 38, 2) := by decide +kernel
theorem d1_193 : decode method_5_code 193 = .ok (.iload_n 0, 1) := by decide +kernel
theorem d1_194 : decode method_5_code 194 = .ok (.bastore, 1) := by decide +kernel
theorem d1_195 : decode method_5_code 195 = .ok (.dup, 1) := by decide +kernel
theorem d1_196 : decode method_5_code 196 = .ok (.bipush 39, 2) := by decide +kernel
theorem d1_198 : decode method_5_code 198 = .ok (.iload_n 0, 1) := by decide +kernel
theorem d1_199 : decode method_5_code 199 = .ok (.bastore, 1) := by decide +kernel
theorem d1_200 : decode method_5_code 200 = .ok (.dup, 1) := by decide +kernel
theorem d1_201 : decode method_5_code 201 = .ok (.bipush 40, 2) := by decide +kernel
theorem d1_203 : decode method_5_code 203 = .ok (.iload_n 0, 1) := by decide +kernel
theorem d1_204 : decode method_5_code 204 = .ok (.bastore, 1) := by decide +kernel
theorem d1_205 : decode method_5_code 205 = .ok (.dup, 1) := by decide +kernel
theorem d1_206 : decode method_5_code 206 = .ok (.bipush 41, 2) := by decide +kernel
theorem d1_208 : decode method_5_code 208 = .ok (.iload_n 0, 1) := by decide +kernel
theorem d1_209 : decode method_5_code 209 = .ok (.bastore, 1) := by decide +kernel
theorem d1_210 : decode method_5_code 210 = .ok (.dup, 1) := by decide +kernel
theorem d1_211 : decode method_5_code 211 = .ok (.bipush 42, 2) := by decide +kernel
theorem d1_213 : decode method_5_code 213 = .ok (.iload_n 0, 1) := by decide +kernel
theorem d1_214 : decode method_5_code 214 = .ok (.bastore, 1) := by decide +kernel
theorem d1_215 : decode method_5_code 215 = .ok (.dup, 1) := by decide +kernel
theorem d1_216 : decode method_5_code 216 = .ok (.bipush 43, 2) := by decide +kernel
theorem d1_218 : decode method_5_code 218 = .ok (.iload_n 0, 1) := by decide +kernel
theorem d1_219 : decode method_5_code 219 = .ok (.bastore, 1) := by decide +kernel
theorem d1_220 : decode method_5_code 220 = .ok (.dup, 1) := by decide +kernel
theorem d1_221 : decode method_5_code 221 = .ok (.bipush 44, 2) := by decide +kernel
theorem d1_223 : decode method_5_code 223 = .ok (.iload_n 0, 1) := by decide +kernel
theorem d1_224 : decode method_5_code 224 = .ok (.bastore, 1) := by decide +kernel
theorem d1_225 : decode method_5_code 225 = .ok (.dup, 1) := by decide +kernel
theorem d1_226 : decode method_5_code 226 = .ok (.bipush 45, 2) := by decide +kernel
theorem d1_228 : decode method_5_code 228 = .ok (.iload_n 0, 1) := by decide +kernel
theorem d1_229 : decode method_5_code 229 = .ok (.bastore, 1) := by decide +kernel
theorem d1_230 : decode method_5_code 230 = .ok (.dup, 1) := by decide +kernel
theorem d1_231 : decode method_5_code 231 = .ok (.bipush 46, 2) := by decide +kernel
theorem d1_233 : decode method_5_code 233 = .ok (.iload_n 0, 1) := by decide +kernel
theorem d1_234 : decode method_5_code 234 = .ok (.bastore, 1) := by decide +kernel
theorem d1_235 : decode method_5_code 235 = .ok (.dup, 1) := by decide +kernel
theorem d1_236 : decode method_5_code 236 = .ok (.bipush 47, 2) := by decide +kernel
theorem d1_238 : decode method_5_code 238 = .ok (.iload_n 0, 1) := by decide +kernel
theorem d1_239 : decode method_5_code 239 = .ok (.bastore, 1) := by decide +kernel
theorem d1_240 : decode method_5_code 240 = .ok (.dup, 1) := by decide +kernel
theorem d1_241 : decode method_5_code 241 = .ok (.bipush 48, 2) := by decide +kernel
theorem d1_243 : decode method_5_code 243 = .ok (.iload_n 0, 1) := by decide +kernel
theorem d1_244 : decode method_5_code 244 = .ok (.bastore, 1) := by decide +kernel
theorem d1_245 : decode method_5_code 245 = .ok (.dup, 1) := by decide +kernel
theorem d1_246 : decode method_5_code 246 = .ok (.bipush 49, 2) := by decide +kernel
theorem d1_248 : decode method_5_code 248 = .ok (.iload_n 0, 1) := by decide +kernel
theorem d1_249 : decode method_5_code 249 = .ok (.bastore, 1) := by decide +kernel
theorem d1_250 : decode method_5_code 250 = .ok (.dup, 1) := by decide +kernel
theorem d1_251 : decode method_5_code 251 = .ok (.bipush 50, 2) := by decide +kernel
theorem d1_253 : decode method_5_code 253 = .ok (.iload_n 0, 1) := by decide +kernel
theorem d1_254 : decode method_5_code 254 = .ok (.bastore, 1) := by decide +kernel
theorem d1_255 : decode method_5_code 255 = .ok (.dup, 1) := by decide +kernel
theorem d1_256 : decode method_5_code 256 = .ok (.bipush 51, 2) := by decide +kernel
theorem d1_258 : decode method_5_code 258 = .ok (.iload_n 0, 1) := by decide +kernel
theorem d1_259 : decode method_5_code 259 = .ok (.bastore, 1) := by decide +kernel
theorem d1_260 : decode method_5_code 260 = .ok (.dup, 1) := by decide +kernel
theorem d1_261 : decode method_5_code 261 = .ok (.bipush 52, 2) := by decide +kernel
theorem d1_263 : decode method_5_code 263 = .ok (.iload_n 0, 1) := by decide +kernel
theorem d1_264 : decode method_5_code 264 = .ok (.bastore, 1) := by decide +kernel
theorem d1_265 : decode method_5_code 265 = .ok (.dup, 1) := by decide +kernel
theorem d1_266 : decode method_5_code 266 = .ok (.bipush 53, 2) := by decide +kernel
theorem d1_268 : decode method_5_code 268 = .ok (.iload_n 0, 1) := by decide +kernel
theorem d1_269 : decode method_5_code 269 = .ok (.bastore, 1) := by decide +kernel
theorem d1_270 : decode method_5_code 270 = .ok (.dup, 1) := by decide +kernel
theorem d1_271 : decode method_5_code 271 = .ok (.bipush 54, 2) := by decide +kernel
theorem d1_273 : decode method_5_code 273 = .ok (.iload_n 0, 1) := by decide +kernel
theorem d1_274 : decode method_5_code 274 = .ok (.bastore, 1) := by decide +kernel
theorem d1_275 : decode method_5_code 275 = .ok (.dup, 1) := by decide +kernel
theorem d1_276 : decode method_5_code 276 = .ok (.bipush 55, 2) := by decide +kernel
theorem d1_278 : decode method_5_code 278 = .ok (.iload_n 0, 1) := by decide +kernel
theorem d1_279 : decode method_5_code 279 = .ok (.bastore, 1) := by decide +kernel
theorem d1_280 : decode method_5_code 280 = .ok (.dup, 1) := by decide +kernel
theorem d1_281 : decode method_5_code 281 = .ok (.bipush 56, 2) := by decide +kernel
theorem d1_283 : decode method_5_code 283 = .ok (.iload_n 0, 1) := by decide +kernel
theorem d1_284 : decode method_5_code 284 = .ok (.bastore, 1) := by decide +kernel
theorem d1_285 : decode method_5_code 285 = .ok (.dup, 1) := by decide +kernel
theorem d1_286 : decode method_5_code 286 = .ok (.bipush 57, 2) := by decide +kernel
theorem d1_288 : decode method_5_code 288 = .ok (.iload_n 0, 1) := by decide +kernel
theorem d1_289 : decode method_5_code 289 = .ok (.bastore, 1) := by decide +kernel
theorem d1_290 : decode method_5_code 290 = .ok (.dup, 1) := by decide +kernel
theorem d1_291 : decode method_5_code 291 = .ok (.bipush 58, 2) := by decide +kernel
theorem d1_293 : decode method_5_code 293 = .ok (.iload_n 0, 1) := by decide +kernel
theorem d1_294 : decode method_5_code 294 = .ok (.bastore, 1) := by decide +kernel
theorem d1_295 : decode method_5_code 295 = .ok (.dup, 1) := by decide +kernel
theorem d1_296 : decode method_5_code 296 = .ok (.bipush 59, 2) := by decide +kernel
theorem d1_298 : decode method_5_code 298 = .ok (.iload_n 0, 1) := by decide +kernel
theorem d1_299 : decode method_5_code 299 = .ok (.bastore, 1) := by decide +kernel
theorem d1_300 : decode method_5_code 300 = .ok (.dup, 1) := by decide +kernel
theorem d1_301 : decode method_5_code 301 = .ok (.bipush 60, 2) := by decide +kernel
theorem d1_303 : decode method_5_code 303 = .ok (.iload_n 0, 1) := by decide +kernel
theorem d1_304 : decode method_5_code 304 = .ok (.bastore, 1) := by decide +kernel
theorem d1_305 : decode method_5_code 305 = .ok (.dup, 1) := by decide +kernel
theorem d1_306 : decode method_5_code 306 = .ok (.bipush 61, 2) := by decide +kernel
theorem d1_308 : decode method_5_code 308 = .ok (.iload_n 0, 1) := by decide +kernel
theorem d1_309 : decode method_5_code 309 = .ok (.bastore, 1) := by decide +kernel
theorem d1_310 : decode method_5_code 310 = .ok (.dup, 1) := by decide +kernel
theorem d1_311 : decode method_5_code 311 = .ok (.bipush 62, 2) := by decide +kernel
theorem d1_313 : decode method_5_code 313 = .ok (.iload_n 0, 1) := by decide +kernel
theorem d1_314 : decode method_5_code 314 = .ok (.bastore, 1) := by decide +kernel
theorem d1_315 : decode method_5_code 315 = .ok (.dup, 1) := by decide +kernel
theorem d1_316 : decode method_5_code 316 = .ok (.bipush 63, 2) := by decide +kernel
theorem d1_318 : decode method_5_code 318 = .ok (.iload_n 0, 1) := by decide +kernel
theorem d1_319 : decode method_5_code 319 = .ok (.bastore, 1) := by decide +kernel
theorem d1_320 : decode method_5_code 320 = .ok (.dup, 1) := by decide +kernel
theorem d1_321 : decode method_5_code 321 = .ok (.bipush 64, 2) := by decide +kernel
theorem d1_323 : decode method_5_code 323 = .ok (.iload_n 0, 1) := by decide +kernel
theorem d1_324 : decode method_5_code 324 = .ok (.bastore, 1) := by decide +kernel
theorem d1_325 : decode method_5_code 325 = .ok (.dup, 1) := by decide +kernel
theorem d1_326 : decode method_5_code 326 = .ok (.bipush 65, 2) := by decide +kernel
theorem d1_328 : decode method_5_code 328 = .ok (.iload_n 0, 1) := by decide +kernel
theorem d1_329 : decode method_5_code 329 = .ok (.bastore, 1) := by decide +kernel
theorem d1_330 : decode method_5_code 330 = .ok (.areturn, 1) := by decide +kernel
theorem ef_rm_ab (m : MethodId)   : entryFrame m #[] 1 = mkF m 0 #[.unset] [] := by first | (simp [entryFrame, mkF, argsToLocals, Value.category]; done) | rfl
def Q_rm_ab (Z : State)   (h0 : Heap) (n0 : Nat) (v : Option Value) (h : Heap) (L : List Loc) : Prop := ∃ (b : Addr) (k_b : ClassId), v = some (.ref b) ∧ Fr n0 L ∧ Keep h0 h [] ∧ (n0 ≤ b ∧ h0.size ≤ b) ∧ Exa Z h b "[B" ∧ Arf Z h b k_b .byte 66 (fun _ => (.int (3 : Int32)))
theorem pn_0_ : plainName "com/example/brisk_dedup/briskdedup/engine/SidesOfPinLaw" = true := by first | (simp [plainName, overriddenIn]; done) | decide +kernel
theorem pn_0 : plainFor (⟨"com/example/brisk_dedup/briskdedup/engine/SidesOfPinLaw", "allBoth", "()[B"⟩ : MethodName) = true := plainFor_of_name pn_0_
set_option maxRecDepth 65536 in
set_option maxHeartbeats 40000000 in
theorem rm_ab (l : Launch) (Z : State) (a0 : Array Value) (hw : ∀ d ∈ tables_1, d.before a0 Z = true) (ws : List Jvm.Cond)   (h0 : Heap) (n0 : Nat) (O0 : Old Z n0 h0)  :
    MetFree l (⟨"com/example/brisk_dedup/briskdedup/engine/SidesOfPinLaw", "allBoth", "()[B"⟩ : MethodName) (head1 (Jvm.Cond.code (⟨"com/example/brisk_dedup/briskdedup/engine/SidesOfPinLaw", "allBoth", "()[B"⟩ : MethodName) method_5_code 1 (some (.array .byte)) :: ws) ({ frames := 0, cells := 1, slots := 66, locals := 0 } : Room)) (fun args_ U => args_ = #[] ∧ Z.Warmed39 U.vm ∧ U.heap = h0) (fun _ _ _ _ _ => True) (fun _ U o U' => ∃ v L, o = .returned v ∧ (Q_rm_ab Z  h0 n0) v U'.heap L ∧ FrameEnd U o U' L ({ frames := 0, cells := 1, slots := 66, locals := 0 } : Room).cells ({ frames := 0, cells := 1, slots := 66, locals := 0 } : Room).slots) := by
  refine start (Q := (Q_rm_ab Z  h0 n0)) pn_0 ?_
  intro p e s m below meth c T0 X0 hx hby hml hown hnm hret hlk hZ e0
  replace hown : s.vm.findClass "com/example/brisk_dedup/briskdedup/engine/SidesOfPinLaw" = some m.cls := hown
  replace hml : c.maxLocals = 1 := hml
  refine goAt (ef_rm_ab m  ) ?_
  have N0 := Fr.nil n0
  show Go p e below T0 (mkF m 0 #[.unset] []) _
  refine stp (fun _ => XS.iconst X0.here hx rfl (hb hby d1_0)) ?_
  show Go p e below T0 (mkF m 1 #[.unset] [(.int (3 : Int32))]) _
  refine stp (fun _ => XS.istoreN X0.here hx rfl (hb hby d1_1) rfl (l' := #[.val (.int (3 : Int32))]) rfl) ?_
  show Go p e below T0 (mkF m 2 #[.val (.int (3 : Int32))] []) _
  refine stp (fun _ => XS.bipush X0.here hx rfl (hb hby d1_2)) ?_
  show Go p e below T0 (mkF m 4 #[.val (.int (3 : Int32))] [(.int (66 : Int32))]) _
  obtain ⟨T1, h1, k1, X1, e1, E1, A1, B1, st1⟩ := newPE X0 hx hZ (hw _ (List.mem_of_getElem? (i := 5) rfl)) e0 (g := (mkF m 4 #[.val (.int (3 : Int32))] [(.int (66 : Int32))])) rfl (hb hby d1_4) rfl (by decide) (cap := 66) (by decide) (by decide) (by decide) (by decide) (ad := "[B") (by decide)
  obtain ⟨b1, g1⟩ : ∃ z, z = h0.size := ⟨_, rfl⟩
  rw [← g1] at A1 B1 st1
  have sz_b1 : h0.size ≤ b1 := Nat.le_trans (Keep.refl h0 []).1 (Nat.le_of_eq g1.symm)
  have ge_b1 : n0 ≤ b1 := Nat.le_trans (old_le O0) (Nat.le_of_eq g1.symm)
  have K1 : Keep h0 h1 [] := (Keep.refl h0 []).ext E1
  have O1 := O0.ext E1
  have V1 : Arf Z h1 b1 k1 .byte 66 (fun _ => (.int (0 : Int32))) := Arf.new A1 (by decide) (by decide)
  refine stp st1 ?_
  show Go p e below T1 (mkF m 6 #[.val (.int (3 : Int32))] [(.ref b1)]) _
  refine stp (fun _ => XS.dup X1.here hx rfl (hb hby d1_6) rfl rfl) ?_
  show Go p e below T1 (mkF m 7 #[.val (.int (3 : Int32))] [(.ref b1), (.ref b1)]) _
  refine stp (fun _ => XS.iconst X1.here hx rfl (hb hby d1_7)) ?_
  show Go p e below T1 (mkF m 8 #[.val (.int (3 : Int32))] [(.int (0 : Int32)), (.ref b1), (.ref b1)]) _
  refine stp (fun _ => XS.iloadN X1.here hx rfl (hb hby d1_8) rfl) ?_
  show Go p e below T1 (mkF m 9 #[.val (.int (3 : Int32))] [(.int (3 : Int32)), (.int (0 : Int32)), (.ref b1), (.ref b1)]) _
  obtain ⟨cl2, Ar2, q2, S2, H2, G2⟩ := (id V1)
  have in2 : ¬ ((0 : Int32) < 0 ∨ cl2.slots.size ≤ ((0 : Int32)).toNatClampNeg) := arf_in S2 (show ((0 : Int32)).toInt = ((0 : Nat) : Int) by decide) (by decide)
  obtain ⟨T2, h2, X2, e2, W2, st2⟩ := stB X1 hx hZ e1 Ar2 (j := (0 : Int32)) in2 (g := (mkF m 9 #[.val (.int (3 : Int32))] [(.int (3 : Int32)), (.int (0 : Int32)), (.ref b1), (.ref b1)])) rfl rfl (hb hby d1_9)
  have V2 := Arf.set Ar2 q2 S2 H2 G2 (ow_fits_byte (by decide)) (arf_ix (show ((0 : Int32)).toInt = ((0 : Nat) : Int) by decide) ▸ (ow_wr_byte (by decide) W2)) (by decide)
  replace V2 : Arf Z h2 b1 k1 .byte 66 (fun x => if x < 1 then (.int (3 : Int32)) else (.int (0 : Int32))) := V2.congr (fun i _ => own_fill0 _ _ i)
  have f3 := B1.wr W2
  have K2 : Keep h0 h2 [] := K1.wr W2 (Or.inr sz_b1)
  have O2 := O1.wr W2 ge_b1
  have N2 := Fr.snoc X2 N0 ge_b1
  refine stp st2 ?_
  show Go p e below T2 (mkF m 10 #[.val (.int (3 : Int32))] [(.ref b1)]) _
  refine stp (fun _ => XS.dup X2.here hx rfl (hb hby d1_10) rfl rfl) ?_
  show Go p e below T2 (mkF m 11 #[.val (.int (3 : Int32))] [(.ref b1), (.ref b1)]) _
  refine stp (fun _ => XS.iconst X2.here hx rfl (hb hby d1_11)) ?_
  show Go p e below T2 (mkF m 12 #[.val (.int (3 : Int32))] [(.int (1 : Int32)), (.ref b1), (.ref b1)]) _
  refine stp (fun _ => XS.iloadN X2.here hx rfl (hb hby d1_12) rfl) ?_
  show Go p e below T2 (mkF m 13 #[.val (.int (3 : Int32))] [(.int (3 : Int32)), (.int (1 : Int32)), (.ref b1), (.ref b1)]) _
  obtain ⟨cl5, Ar5, q5, S5, H5, G5⟩ := (id V2)
  have in5 : ¬ ((1 : Int32) < 0 ∨ cl5.slots.size ≤ ((1 : Int32)).toNatClampNeg) := arf_in S5 (show ((1 : Int32)).toInt = ((1 : Nat) : Int) by decide) (by decide)
  obtain ⟨T5, h5, X5, e5, W5, st5⟩ := stB X2 hx hZ e2 Ar5 (j := (1 : Int32)) in5 (g := (mkF m 13 #[.val (.int (3 : Int32))] [(.int (3 : Int32)), (.int (1 : Int32)), (.ref b1), (.ref b1)])) rfl rfl (hb hby d1_13)
  have V5 := Arf.set Ar5 q5 S5 H5 G5 (ow_fits_byte (by decide)) (arf_ix (show ((1 : Int32)).toInt = ((1 : Nat) : Int) by decide) ▸ (ow_wr_byte (by decide) W5)) (by decide)
  replace V5 : Arf Z h5 b1 k1 .byte 66 (fun x => if x < 2 then (.int (3 : Int32)) else (.int (0 : Int32))) := V5.congr (fun i _ => own_fill _ _ 1 i)
  have f6 := f3.wr W5
  have K5 : Keep h0 h5 [] := K2.wr W5 (Or.inr sz_b1)
  have O5 := O2.wr W5 ge_b1
  have N5 := Fr.snoc X5 N2 ge_b1
  refine stp st5 ?_
  show Go p e below T5 (mkF m 14 #[.val (.int (3 : Int32))] [(.ref b1)]) _
  refine stp (fun _ => XS.dup X5.here hx rfl (hb hby d1_14) rfl rfl) ?_
  show Go p e below T5 (mkF m 15 #[.val (.int (3 : Int32))] [(.ref b1), (.ref b1)]) _
  refine stp (fun _ => XS.iconst X5.here hx rfl (hb hby d1_15)) ?_
  show Go p e below T5 (mkF m 16 #[.val (.int (3 : Int32))] [(.int (2 : Int32)), (.ref b1), (.ref b1)]) _
  refine stp (fun _ => XS.iloadN X5.here hx rfl (hb hby d1_16) rfl) ?_
  show Go p e below T5 (mkF m 17 #[.val (.int (3 : Int32))] [(.int (3 : Int32)), (.int (2 : Int32)), (.ref b1), (.ref b1)]) _
  obtain ⟨cl8, Ar8, q8, S8, H8, G8⟩ := (id V5)
  have in8 : ¬ ((2 : Int32) < 0 ∨ cl8.slots.size ≤ ((2 : Int32)).toNatClampNeg) := arf_in S8 (show ((2 : Int32)).toInt = ((2 : Nat) : Int) by decide) (by decide)
  obtain ⟨T8, h8, X8, e8, W8, st8⟩ := stB X5 hx hZ e5 Ar8 (j := (2 : Int32)) in8 (g := (mkF m 17 #[.val (.int (3 : Int32))] [(.int (3 : Int32)), (.int (2 : Int32)), (.ref b1), (.ref b1)])) rfl rfl (hb hby d1_17)
  have V8 := Arf.set Ar8 q8 S8 H8 G8 (ow_fits_byte (by decide)) (arf_ix (show ((2 : Int32)).toInt = ((2 : Nat) : Int) by decide) ▸ (ow_wr_byte (by decide) W8)) (by decide)
  replace V8 : Arf Z h8 b1 k1 .byte 66 (fun x => if x < 3 then (.int (3 : Int32)) else (.int (0 : Int32))) := V8.congr (fun i _ => own_fill _ _ 2 i)
  have f9 := f6.wr W8
  have K8 : Keep h0 h8 [] := K5.wr W8 (Or.inr sz_b1)
  have O8 := O5.wr W8 ge_b1
  have N8 := Fr.snoc X8 N5 ge_b1
  refine stp st8 ?_
  show Go p e below T8 (mkF m 18 #[.val (.int (3 : Int32))] [(.ref b1)]) _
  refine stp (fun _ => XS.dup X8.here hx rfl (hb hby d1_18) rfl rfl) ?_
  show Go p e below T8 (mkF m 19 #[.val (.int (3 : Int32))] [(.ref b1), (.ref b1)]) _
  refine stp (fun _ => XS.iconst X8.here hx rfl (hb hby d1_19)) ?_
  show Go p e below T8 (mkF m 20 #[.val (.int (3 : Int32))] [(.int (3 : Int32)), (.ref b1), (.ref b1)]) _
  refine stp (fun _ => XS.iloadN X8.here hx rfl (hb hby d1_20) rfl) ?_
  show Go p e below T8 (mkF m 21 #[.val (.int (3 : Int32))] [(.int (3 : Int32)), (.int (3 : Int32)), (.ref b1), (.ref b1)]) _
  obtain ⟨cl11, Ar11, q11, S11, H11, G11⟩ := (id V8)
  have in11 : ¬ ((3 : Int32) < 0 ∨ cl11.slots.size ≤ ((3 : Int32)).toNatClampNeg) := arf_in S11 (show ((3 : Int32)).toInt = ((3 : Nat) : Int) by decide) (by decide)
  obtain ⟨T11, h11, X11, e11, W11, st11⟩ := stB X8 hx hZ e8 Ar11 (j := (3 : Int32)) in11 (g := (mkF m 21 #[.val (.int (3 : Int32))] [(.int (3 : Int32)), (.int (3 : Int32)), (.ref b1), (.ref b1)])) rfl rfl (hb hby d1_21)
  have V11 := Arf.set Ar11 q11 S11 H11 G11 (ow_fits_byte (by decide)) (arf_ix (show ((3 : Int32)).toInt = ((3 : Nat) : Int) by decide) ▸ (ow_wr_byte (by decide) W11)) (by decide)
  replace V11 : Arf Z h11 b1 k1 .byte 66 (fun x => if x < 4 then (.int (3 : Int32)) else (.int (0 : Int32))) := V11.congr (fun i _ => own_fill _ _ 3 i)
  have f12 := f9.wr W11
  have K11 : Keep h0 h11 [] := K8.wr W11 (Or.inr sz_b1)
  have O11 := O8.wr W11 ge_b1
  have N11 := Fr.snoc X11 N8 ge_b1
  refine stp st11 ?_
  show Go p e below T11 (mkF m 22 #[.val (.int (3 : Int32))] [(.ref b1)]) _
  refine stp (fun _ => XS.dup X11.here hx rfl (hb hby d1_22) rfl rfl) ?_
  show Go p e below T11 (mkF m 23 #[.val (.int (3 : Int32))] [(.ref b1), (.ref b1)]) _
  refine stp (fun _ => XS.iconst X11.here hx rfl (hb hby d1_23)) ?_
  show Go p e below T11 (mkF m 24 #[.val (.int (3 : Int32))] [(.int (4 : Int32)), (.ref b1), (.ref b1)]) _
  refine stp (fun _ => XS.iloadN X11.here hx rfl (hb hby d1_24) rfl) ?_
  show Go p e below T11 (mkF m 25 #[.val (.int (3 : Int32))] [(.int (3 : Int32)), (.int (4 : Int32)), (.ref b1), (.ref b1)]) _
  obtain ⟨cl14, Ar14, q14, S14, H14, G14⟩ := (id V11)
  have in14 : ¬ ((4 : Int32) < 0 ∨ cl14.slots.size ≤ ((4 : Int32)).toNatClampNeg) := arf_in S14 (show ((4 : Int32)).toInt = ((4 : Nat) : Int) by decide) (by decide)
  obtain ⟨T14, h14, X14, e14, W14, st14⟩ := stB X11 hx hZ e11 Ar14 (j := (4 : Int32)) in14 (g := (mkF m 25 #[.val (.int (3 : Int32))] [(.int (3 : Int32)), (.int (4 : Int32)), (.ref b1), (.ref b1)])) rfl rfl (hb hby d1_25)
  have V14 := Arf.set Ar14 q14 S14 H14 G14 (ow_fits_byte (by decide)) (arf_ix (show ((4 : Int32)).toInt = ((4 : Nat) : Int) by decide) ▸ (ow_wr_byte (by decide) W14)) (by decide)
  replace V14 : Arf Z h14 b1 k1 .byte 66 (fun x => if x < 5 then (.int (3 : Int32)) else (.int (0 : Int32))) := V14.congr (fun i _ => own_fill _ _ 4 i)
  have f15 := f12.wr W14
  have K14 : Keep h0 h14 [] := K11.wr W14 (Or.inr sz_b1)
  have O14 := O11.wr W14 ge_b1
  have N14 := Fr.snoc X14 N11 ge_b1
  refine stp st14 ?_
  show Go p e below T14 (mkF m 26 #[.val (.int (3 : Int32))] [(.ref b1)]) _
  refine stp (fun _ => XS.dup X14.here hx rfl (hb hby d1_26) rfl rfl) ?_
  show Go p e below T14 (mkF m 27 #[.val (.int (3 : Int32))] [(.ref b1), (.ref b1)]) _
  refine stp (fun _ => XS.iconst X14.here hx rfl (hb hby d1_27)) ?_
  show Go p e below T14 (mkF m 28 #[.val (.int (3 : Int32))] [(.int (5 : Int32)), (.ref b1), (.ref b1)]) _
  refine stp (fun _ => XS.iloadN X14.here hx rfl (hb hby d1_28) rfl) ?_
  show Go p e below T14 (mkF m 29 #[.val (.int (3 : Int32))] [(.int (3 : Int32)), (.int (5 : Int32)), (.ref b1), (.ref b1)]) _
  obtain ⟨cl17, Ar17, q17, S17, H17, G17⟩ := (id V14)
  have in17 : ¬ ((5 : Int32) < 0 ∨ cl17.slots.size ≤ ((5 : Int32)).toNatClampNeg) := arf_in S17 (show ((5 : Int32)).toInt = ((5 : Nat) : Int) by decide) (by decide)
  obtain ⟨T17, h17, X17, e17, W17, st17⟩ := stB X14 hx hZ e14 Ar17 (j := (5 : Int32)) in17 (g := (mkF m 29 #[.val (.int (3 : Int32))] [(.int (3 : Int32)), (.int (5 : Int32)), (.ref b1), (.ref b1)])) rfl rfl (hb hby d1_29)
  have V17 := Arf.set Ar17 q17 S17 H17 G17 (ow_fits_byte (by decide)) (arf_ix (show ((5 : Int32)).toInt = ((5 : Nat) : Int) by decide) ▸ (ow_wr_byte (by decide) W17)) (by decide)
  replace V17 : Arf Z h17 b1 k1 .byte 66 (fun x => if x < 6 then (.int (3 : Int32)) else (.int (0 : Int32))) := V17.congr (fun i _ => own_fill _ _ 5 i)
  have f18 := f15.wr W17
  have K17 : Keep h0 h17 [] := K14.wr W17 (Or.inr sz_b1)
  have O17 := O14.wr W17 ge_b1
  have N17 := Fr.snoc X17 N14 ge_b1
  refine stp st17 ?_
  show Go p e below T17 (mkF m 30 #[.val (.int (3 : Int32))] [(.ref b1)]) _
  refine stp (fun _ => XS.dup X17.here hx rfl (hb hby d1_30) rfl rfl) ?_
  show Go p e below T17 (mkF m 31 #[.val (.int (3 : Int32))] [(.ref b1), (.ref b1)]) _
  refine stp (fun _ => XS.bipush X17.here hx rfl (hb hby d1_31)) ?_
  show Go p e below T17 (mkF m 33 #[.val (.int (3 : Int32))] [(.int (6 : Int32)), (.ref b1), (.ref b1)]) _
  refine stp (fun _ => XS.iloadN X17.here hx rfl (hb hby d1_33) rfl) ?_
  show Go p e below T17 (mkF m 34 #[.val (.int (3 : Int32))] [(.int (3 : Int32)), (.int (6 : Int32)), (.ref b1), (.ref b1)]) _
  obtain ⟨cl20, Ar20, q20, S20, H20, G20⟩ := (id V17)
  have in20 : ¬ ((6 : Int32) < 0 ∨ cl20.slots.size ≤ ((6 : Int32)).toNatClampNeg) := arf_in S20 (show ((6 : Int32)).toInt = ((6 : Nat) : Int) by decide) (by decide)
  obtain ⟨T20, h20, X20, e20, W20, st20⟩ := stB X17 hx hZ e17 Ar20 (j := (6 : Int32)) in20 (g := (mkF m 34 #[.val (.int (3 : Int32))] [(.int (3 : Int32)), (.int (6 : Int32)), (.ref b1), (.ref b1)])) rfl rfl (hb hby d1_34)
  have V20 := Arf.set Ar20 q20 S20 H20 G20 (ow_fits_byte (by decide)) (arf_ix (show ((6 : Int32)).toInt = ((6 : Nat) : Int) by decide) ▸ (ow_wr_byte (by decide) W20)) (by decide)
  replace V20 : Arf Z h20 b1 k1 .byte 66 (fun x => if x < 7 then (.int (3 : Int32)) else (.int (0 : Int32))) := V20.congr (fun i _ => own_fill _ _ 6 i)
  have f21 := f18.wr W20
  have K20 : Keep h0 h20 [] := K17.wr W20 (Or.inr sz_b1)
  have O20 := O17.wr W20 ge_b1
  have N20 := Fr.snoc X20 N17 ge_b1
  refine stp st20 ?_
  show Go p e below T20 (mkF m 35 #[.val (.int (3 : Int32))] [(.ref b1)]) _
  refine stp (fun _ => XS.dup X20.here hx rfl (hb hby d1_35) rfl rfl) ?_
  show Go p e below T20 (mkF m 36 #[.val (.int (3 : Int32))] [(.ref b1), (.ref b1)]) _
  refine stp (fun _ => XS.bipush X20.here hx rfl (hb hby d1_36)) ?_
  show Go p e below T20 (mkF m 38 #[.val (.int (3 : Int32))] [(.int (7 : Int32)), (.ref b1), (.ref b1)]) _
  refine stp (fun _ => XS.iloadN X20.here hx rfl (hb hby d1_38) rfl) ?_
  show Go p e below T20 (mkF m 39 #[.val (.int (3 : Int32))] [(.int (3 : Int32)), (.int (7 : Int32)), (.ref b1), (.ref b1)]) _
  obtain ⟨cl23, Ar23, q23, S23, H23, G23⟩ := (id V20)
  have in23 : ¬ ((7 : Int32) < 0 ∨ cl23.slots.size ≤ ((7 : Int32)).toNatClampNeg) := arf_in S23 (show ((7 : Int32)).toInt = ((7 : Nat) : Int) by decide) (by decide)
  obtain ⟨T23, h23, X23, e23, W23, st23⟩ := stB X20 hx hZ e20 Ar23 (j := (7 : Int32)) in23 (g := (mkF m 39 #[.val (.int (3 : Int32))] [(.int (3 : Int32)), (.int (7 : Int32)), (.ref b1), (.ref b1)])) rfl rfl (hb hby d1_39)
  have V23 := Arf.set Ar23 q23 S23 H23 G23 (ow_fits_byte (by decide)) (arf_ix (show ((7 : Int32)).toInt = ((7 : Nat) : Int) by decide) ▸ (ow_wr_byte (by decide) W23)) (by decide)
  replace V23 : Arf Z h23 b1 k1 .byte 66 (fun x => if x < 8 then (.int (3 : Int32)) else (.int (0 : Int32))) := V23.congr (fun i _ => own_fill _ _ 7 i)
  have f24 := f21.wr W23
  have K23 : Keep h0 h23 [] := K20.wr W23 (Or.inr sz_b1)
  have O23 := O20.wr W23 ge_b1
  have N23 := Fr.snoc X23 N20 ge_b1
  refine stp st23 ?_
  show Go p e below T23 (mkF m 40 #[.val (.int (3 : Int32))] [(.ref b1)]) _
  refine stp (fun _ => XS.dup X23.here hx rfl (hb hby d1_40) rfl rfl) ?_
  show Go p e below T23 (mkF m 41 #[.val (.int (3 : Int32))] [(.ref b1), (.ref b1)]) _
  refine stp (fun _ => XS.bipush X23.here hx rfl (hb hby d1_41)) ?_
  show Go p e below T23 (mkF m 43 #[.val (.int (3 : Int32))] [(.int (8 : Int32)), (.ref b1), (.ref b1)]) _
  refine stp (fun _ => XS.iloadN X23.here hx rfl (hb hby d1_43) rfl) ?_
  show Go p e below T23 (mkF m 44 #[.val (.int (3 : Int32))] [(.int (3 : Int32)), (.int (8 : Int32)), (.ref b1), (.ref b1)]) _
  obtain ⟨cl26, Ar26, q26, S26, H26, G26⟩ := (id V23)
  have in26 : ¬ ((8 : Int32) < 0 ∨ cl26.slots.size ≤ ((8 : Int32)).toNatClampNeg) := arf_in S26 (show ((8 : Int32)).toInt = ((8 : Nat) : Int) by decide) (by decide)
  obtain ⟨T26, h26, X26, e26, W26, st26⟩ := stB X23 hx hZ e23 Ar26 (j := (8 : Int32)) in26 (g := (mkF m 44 #[.val (.int (3 : Int32))] [(.int (3 : Int32)), (.int (8 : Int32)), (.ref b1), (.ref b1)])) rfl rfl (hb hby d1_44)
  have V26 := Arf.set Ar26 q26 S26 H26 G26 (ow_fits_byte (by decide)) (arf_ix (show ((8 : Int32)).toInt = ((8 : Nat) : Int) by decide) ▸ (ow_wr_byte (by decide) W26)) (by decide)
  replace V26 : Arf Z h26 b1 k1 .byte 66 (fun x => if x < 9 then (.int (3 : Int32)) else (.int (0 : Int32))) := V26.congr (fun i _ => own_fill _ _ 8 i)
  have f27 := f24.wr W26
  have K26 : Keep h0 h26 [] := K23.wr W26 (Or.inr sz_b1)
  have O26 := O23.wr W26 ge_b1
  have N26 := Fr.snoc X26 N23 ge_b1
  refine stp st26 ?_
  show Go p e below T26 (mkF m 45 #[.val (.int (3 : Int32))] [(.ref b1)]) _
  refine stp (fun _ => XS.dup X26.here hx rfl (hb hby d1_45) rfl rfl) ?_
  show Go p e below T26 (mkF m 46 #[.val (.int (3 : Int32))] [(.ref b1), (.ref b1)]) _
  refine stp (fun _ => XS.bipush X26.here hx rfl (hb hby d1_46)) ?_
  show Go p e below T26 (mkF m 48 #[.val (.int (3 : Int32))] [(.int (9 : Int32)), (.ref b1), (.ref b1)]) _
  refine stp (fun _ => XS.iloadN X26.here hx rfl (hb hby d1_48) rfl) ?_
  show Go p e below T26 (mkF m 49 #[.val (.int (3 : Int32))] [(.int (3 : Int32)), (.int (9 : Int32)), (.ref b1), (.ref b1)]) _
  obtain ⟨cl29, Ar29, q29, S29, H29, G29⟩ := (id V26)
  have in29 : ¬ ((9 : Int32) < 0 ∨ cl29.slots.size ≤ ((9 : Int32)).toNatClampNeg) := arf_in S29 (show ((9 : Int32)).toInt = ((9 : Nat) : Int) by decide) (by decide)
  obtain ⟨T29, h29, X29, e29, W29, st29⟩ := stB X26 hx hZ e26 Ar29 (j := (9 : Int32)) in29 (g := (mkF m 49 #[.val (.int (3 : Int32))] [(.int (3 : Int32)), (.int (9 : Int32)), (.ref b1), (.ref b1)])) rfl rfl (hb hby d1_49)
  have V29 := Arf.set Ar29 q29 S29 H29 G29 (ow_fits_byte (by decide)) (arf_ix (show ((9 : Int32)).toInt = ((9 : Nat) : Int) by decide) ▸ (ow_wr_byte (by decide) W29)) (by decide)
  replace V29 : Arf Z h29 b1 k1 .byte 66 (fun x => if x < 10 then (.int (3 : Int32)) else (.int (0 : Int32))) := V29.congr (fun i _ => own_fill _ _ 9 i)
  have f30 := f27.wr W29
  have K29 : Keep h0 h29 [] := K26.wr W29 (Or.inr sz_b1)
  have O29 := O26.wr W29 ge_b1
  have N29 := Fr.snoc X29 N26 ge_b1
  refine stp st29 ?_
  show Go p e below T29 (mkF m 50 #[.val (.int (3 : Int32))] [(.ref b1)]) _
  refine stp (fun _ => XS.dup X29.here hx rfl (hb hby d1_50) rfl rfl) ?_
  show Go p e below T29 (mkF m 51 #[.val (.int (3 : Int32))] [(.ref b1), (.ref b1)]) _
  refine stp (fun _ => XS.bipush X29.here hx rfl (hb hby d1_51)) ?_
  show Go p e below T29 (mkF m 53 #[.val (.int (3 : Int32))] [(.int (10 : Int32)), (.ref b1), (.ref b1)]) _
  refine stp (fun _ => XS.iloadN X29.here hx rfl (hb hby d1_53) rfl) ?_
  show Go p e below T29 (mkF m 54 #[.val (.int (3 : Int32))] [(.int (3 : Int32)), (.int (10 : Int32)), (.ref b1), (.ref b1)]) _
  obtain ⟨cl32, Ar32, q32, S32, H32, G32⟩ := (id V29)
  have in32 : ¬ ((10 : Int32) < 0 ∨ cl32.slots.size ≤ ((10 : Int32)).toNatClampNeg) := arf_in S32 (show ((10 : Int32)).toInt = ((10 : Nat) : Int) by decide) (by decide)
  obtain ⟨T32, h32, X32, e32, W32, st32⟩ := stB X29 hx hZ e29 Ar32 (j := (10 : Int32)) in32 (g := (mkF m 54 #[.val (.int (3 : Int32))] [(.int (3 : Int32)), (.int (10 : Int32)), (.ref b1), (.ref b1)])) rfl rfl (hb hby d1_54)
  have V32 := Arf.set Ar32 q32 S32 H32 G32 (ow_fits_byte (by decide)) (arf_ix (show ((10 : Int32)).toInt = ((10 : Nat) : Int) by decide) ▸ (ow_wr_byte (by decide) W32)) (by decide)
  replace V32 : Arf Z h32 b1 k1 .byte 66 (fun x => if x < 11 then (.int (3 : Int32)) else (.int (0 : Int32))) := V32.congr (fun i _ => own_fill _ _ 10 i)
  have f33 := f30.wr W32
  have K32 : Keep h0 h32 [] := K29.wr W32 (Or.inr sz_b1)
  have O32 := O29.wr W32 ge_b1
  have N32 := Fr.snoc X32 N29 ge_b1
  refine stp st32 ?_
  show Go p e below T32 (mkF m 55 #[.val (.int (3 : Int32))] [(.ref b1)]) _
  refine stp (fun _ => XS.dup X32.here hx rfl (hb hby d1_55) rfl rfl) ?_
  show Go p e below T32 (mkF m 56 #[.val (.int (3 : Int32))] [(.ref b1), (.ref b1)]) _
  refine stp (fun _ => XS.bipush X32.here hx rfl (hb hby d1_56)) ?_
  show Go p e below T32 (mkF m 58 #[.val (.int (3 : Int32))] [(.int (11 : Int32)), (.ref b1), (.ref b1)]) _
  refine stp (fun _ => XS.iloadN X32.here hx rfl (hb hby d1_58) rfl) ?_
  show Go p e below T32 (mkF m 59 #[.val (.int (3 : Int32))] [(.int (3 : Int32)), (.int (11 : Int32)), (.ref b1), (.ref b1)]) _
  obtain ⟨cl35, Ar35, q35, S35, H35, G35⟩ := (id V32)
  have in35 : ¬ ((11 : Int32) < 0 ∨ cl35.slots.size ≤ ((11 : Int32)).toNatClampNeg) := arf_in S35 (show ((11 : Int32)).toInt = ((11 : Nat) : Int) by decide) (by decide)
  obtain ⟨T35, h35, X35, e35, W35, st35⟩ := stB X32 hx hZ e32 Ar35 (j := (11 : Int32)) in35 (g := (mkF m 59 #[.val (.int (3 : Int32))] [(.int (3 : Int32)), (.int (11 : Int32)), (.ref b1), (.ref b1)])) rfl rfl (hb hby d1_59)
  have V35 := Arf.set Ar35 q35 S35 H35 G35 (ow_fits_byte (by decide)) (arf_ix (show ((11 : Int32)).toInt = ((11 : Nat) : Int) by decide) ▸ (ow_wr_byte (by decide) W35)) (by decide)
  replace V35 : Arf Z h35 b1 k1 .byte 66 (fun x => if x < 12 then (.int (3 : Int32)) else (.int (0 : Int32))) := V35.congr (fun i _ => own_fill _ _ 11 i)
  have f36 := f33.wr W35
  have K35 : Keep h0 h35 [] := K32.wr W35 (Or.inr sz_b1)
  have O35 := O32.wr W35 ge_b1
  have N35 := Fr.snoc X35 N32 ge_b1
  refine stp st35 ?_
  show Go p e below T35 (mkF m 60 #[.val (.int (3 : Int32))] [(.ref b1)]) _
  refine stp (fun _ => XS.dup X35.here hx rfl (hb hby d1_60) rfl rfl) ?_
  show Go p e below T35 (mkF m 61 #[.val (.int (3 : Int32))] [(.ref b1), (.ref b1)]) _
  refine stp (fun _ => XS.bipush X35.here hx rfl (hb hby d1_61)) ?_
  show Go p e below T35 (mkF m 63 #[.val (.int (3 : Int32))] [(.int (12 : Int32)), (.ref b1), (.ref b1)]) _
  refine stp (fun _ => XS.iloadN X35.here hx rfl (hb hby d1_63) rfl) ?_
  show Go p e below T35 (mkF m 64 #[.val (.int (3 : Int32))] [(.int (3 : Int32)), (.int (12 : Int32)), (.ref b1), (.ref b1)]) _
  obtain ⟨cl38, Ar38, q38, S38, H38, G38⟩ := (id V35)
  have in38 : ¬ ((12 : Int32) < 0 ∨ cl38.slots.size ≤ ((12 : Int32)).toNatClampNeg) := arf_in S38 (show ((12 : Int32)).toInt = ((12 : Nat) : Int) by decide) (by decide)
  obtain ⟨T38, h38, X38, e38, W38, st38⟩ := stB X35 hx hZ e35 Ar38 (j := (12 : Int32)) in38 (g := (mkF m 64 #[.val (.int (3 : Int32))] [(.int (3 : Int32)), (.int (12 : Int32)), (.ref b1), (.ref b1)])) rfl rfl (hb hby d1_64)
  have V38 := Arf.set Ar38 q38 S38 H38 G38 (ow_fits_byte (by decide)) (arf_ix (show ((12 : Int32)).toInt = ((12 : Nat) : Int) by decide) ▸ (ow_wr_byte (by decide) W38)) (by decide)
  replace V38 : Arf Z h38 b1 k1 .byte 66 (fun x => if x < 13 then (.int (3 : Int32)) else (.int (0 : Int32))) := V38.congr (fun i _ => own_fill _ _ 12 i)
  have f39 := f36.wr W38
  have K38 : Keep h0 h38 [] := K35.wr W38 (Or.inr sz_b1)
  have O38 := O35.wr W38 ge_b1
  have N38 := Fr.snoc X38 N35 ge_b1
  refine stp st38 ?_
  show Go p e below T38 (mkF m 65 #[.val (.int (3 : Int32))] [(.ref b1)]) _
  refine stp (fun _ => XS.dup X38.here hx rfl (hb hby d1_65) rfl rfl) ?_
  show Go p e below T38 (mkF m 66 #[.val (.int (3 : Int32))] [(.ref b1), (.ref b1)]) _
  refine stp (fun _ => XS.bipush X38.here hx rfl (hb hby d1_66)) ?_
  show Go p e below T38 (mkF m 68 #[.val (.int (3 : Int32))] [(.int (13 : Int32)), (.ref b1), (.ref b1)]) _
  refine stp (fun _ => XS.iloadN X38.here hx rfl (hb hby d1_68) rfl) ?_
  show Go p e below T38 (mkF m 69 #[.val (.int (3 : Int32))] [(.int (3 : Int32)), (.int (13 : Int32)), (.ref b1), (.ref b1)]) _
  obtain ⟨cl41, Ar41, q41, S41, H41, G41⟩ := (id V38)
  have in41 : ¬ ((13 : Int32) < 0 ∨ cl41.slots.size ≤ ((13 : Int32)).toNatClampNeg) := arf_in S41 (show ((13 : Int32)).toInt = ((13 : Nat) : Int) by decide) (by decide)
  obtain ⟨T41, h41, X41, e41, W41, st41⟩ := stB X38 hx hZ e38 Ar41 (j := (13 : Int32)) in41 (g := (mkF m 69 #[.val (.int (3 : Int32))] [(.int (3 : Int32)), (.int (13 : Int32)), (.ref b1), (.ref b1)])) rfl rfl (hb hby d1_69)
  have V41 := Arf.set Ar41 q41 S41 H41 G41 (ow_fits_byte (by decide)) (arf_ix (show ((13 : Int32)).toInt = ((13 : Nat) : Int) by decide) ▸ (ow_wr_byte (by decide) W41)) (by decide)
  replace V41 : Arf Z h41 b1 k1 .byte 66 (fun x => if x < 14 then (.int (3 : Int32)) else (.int (0 : Int32))) := V41.congr (fun i _ => own_fill _ _ 13 i)
  have f42 := f39.wr W41
  have K41 : Keep h0 h41 [] := K38.wr W41 (Or.inr sz_b1)
  have O41 := O38.wr W41 ge_b1
  have N41 := Fr.snoc X41 N38 ge_b1
  refine stp st41 ?_
  show Go p e below T41 (mkF m 70 #[.val (.int (3 : Int32))] [(.ref b1)]) _
  refine stp (fun _ => XS.dup X41.here hx rfl (hb hby d1_70) rfl rfl) ?_
  show Go p e below T41 (mkF m 71 #[.val (.int (3 : Int32))] [(.ref b1), (.ref b1)]) _
  refine stp (fun _ => XS.bipush X41.here hx rfl (hb hby d1_71)) ?_
  show Go p e below T41 (mkF m 73 #[.val (.int (3 : Int32))] [(.int (14 : Int32)), (.ref b1), (.ref b1)]) _
  refine stp (fun _ => XS.iloadN X41.here hx rfl (hb hby d1_73) rfl) ?_
  show Go p e below T41 (mkF m 74 #[.val (.int (3 : Int32))] [(.int (3 : Int32)), (.int (14 : Int32)), (.ref b1), (.ref b1)]) _
  obtain ⟨cl44, Ar44, q44, S44, H44, G44⟩ := (id V41)
  have in44 : ¬ ((14 : Int32) < 0 ∨ cl44.slots.size ≤ ((14 : Int32)).toNatClampNeg) := arf_in S44 (show ((14 : Int32)).toInt = ((14 : Nat) : Int) by decide) (by decide)
  obtain ⟨T44, h44, X44, e44, W44, st44⟩ := stB X41 hx hZ e41 Ar44 (j := (14 : Int32)) in44 (g := (mkF m 74 #[.val (.int (3 : Int32))] [(.int (3 : Int32)), (.int (14 : Int32)), (.ref b1), (.ref b1)])) rfl rfl (hb hby d1_74)
  have V44 := Arf.set Ar44 q44 S44 H44 G44 (ow_fits_byte (by decide)) (arf_ix (show ((14 : Int32)).toInt = ((14 : Nat) : Int) by decide) ▸ (ow_wr_byte (by decide) W44)) (by decide)
  replace V44 : Arf Z h44 b1 k1 .byte 66 (fun x => if x < 15 then (.int (3 : Int32)) else (.int (0 : Int32))) := V44.congr (fun i _ => own_fill _ _ 14 i)
  have f45 := f42.wr W44
  have K44 : Keep h0 h44 [] := K41.wr W44 (Or.inr sz_b1)
  have O44 := O41.wr W44 ge_b1
  have N44 := Fr.snoc X44 N41 ge_b1
  refine stp st44 ?_
  show Go p e below T44 (mkF m 75 #[.val (.int (3 : Int32))] [(.ref b1)]) _
  refine stp (fun _ => XS.dup X44.here hx rfl (hb hby d1_75) rfl rfl) ?_
  show Go p e below T44 (mkF m 76 #[.val (.int (3 : Int32))] [(.ref b1), (.ref b1)]) _
  refine stp (fun _ => XS.bipush X44.here hx rfl (hb hby d1_76)) ?_
  show Go p e below T44 (mkF m 78 #[.val (.int (3 : Int32))] [(.int (15 : Int32)), (.ref b1), (.ref b1)]) _
  refine stp (fun _ => XS.iloadN X44.here hx rfl (hb hby d1_78) rfl) ?_
  show Go p e below T44 (mkF m 79 #[.val (.int (3 : Int32))] [(.int (3 : Int32)), (.int (15 : Int32)), (.ref b1), (.ref b1)]) _
  obtain ⟨cl47, Ar47, q47, S47, H47, G47⟩ := (id V44)
  have in47 : ¬ ((15 : Int32) < 0 ∨ cl47.slots.size ≤ ((15 : Int32)).toNatClampNeg) := arf_in S47 (show ((15 : Int32)).toInt = ((15 : Nat) : Int) by decide) (by decide)
  obtain ⟨T47, h47, X47, e47, W47, st47⟩ := stB X44 hx hZ e44 Ar47 (j := (15 : Int32)) in47 (g := (mkF m 79 #[.val (.int (3 : Int32))] [(.int (3 : Int32)), (.int (15 : Int32)), (.ref b1), (.ref b1)])) rfl rfl (hb hby d1_79)
  have V47 := Arf.set Ar47 q47 S47 H47 G47 (ow_fits_byte (by decide)) (arf_ix (show ((15 : Int32)).toInt = ((15 : Nat) : Int) by decide) ▸ (ow_wr_byte (by decide) W47)) (by decide)
  replace V47 : Arf Z h47 b1 k1 .byte 66 (fun x => if x < 16 then (.int (3 : Int32)) else (.int (0 : Int32))) := V47.congr (fun i _ => own_fill _ _ 15 i)
  have f48 := f45.wr W47
  have K47 : Keep h0 h47 [] := K44.wr W47 (Or.inr sz_b1)
  have O47 := O44.wr W47 ge_b1
  have N47 := Fr.snoc X47 N44 ge_b1
  refine stp st47 ?_
  show Go p e below T47 (mkF m 80 #[.val (.int (3 : Int32))] [(.ref b1)]) _
  refine stp (fun _ => XS.dup X47.here hx rfl (hb hby d1_80) rfl rfl) ?_
  show Go p e below T47 (mkF m 81 #[.val (.int (3 : Int32))] [(.ref b1), (.ref b1)]) _
  refine stp (fun _ => XS.bipush X47.here hx rfl (hb hby d1_81)) ?_
  show Go p e below T47 (mkF m 83 #[.val (.int (3 : Int32))] [(.int (16 : Int32)), (.ref b1), (.ref b1)]) _
  refine stp (fun _ => XS.iloadN X47.here hx rfl (hb hby d1_83) rfl) ?_
  show Go p e below T47 (mkF m 84 #[.val (.int (3 : Int32))] [(.int (3 : Int32)), (.int (16 : Int32)), (.ref b1), (.ref b1)]) _
  obtain ⟨cl50, Ar50, q50, S50, H50, G50⟩ := (id V47)
  have in50 : ¬ ((16 : Int32) < 0 ∨ cl50.slots.size ≤ ((16 : Int32)).toNatClampNeg) := arf_in S50 (show ((16 : Int32)).toInt = ((16 : Nat) : Int) by decide) (by decide)
  obtain ⟨T50, h50, X50, e50, W50, st50⟩ := stB X47 hx hZ e47 Ar50 (j := (16 : Int32)) in50 (g := (mkF m 84 #[.val (.int (3 : Int32))] [(.int (3 : Int32)), (.int (16 : Int32)), (.ref b1), (.ref b1)])) rfl rfl (hb hby d1_84)
  have V50 := Arf.set Ar50 q50 S50 H50 G50 (ow_fits_byte (by decide)) (arf_ix (show ((16 : Int32)).toInt = ((16 : Nat) : Int) by decide) ▸ (ow_wr_byte (by decide) W50)) (by decide)
  replace V50 : Arf Z h50 b1 k1 .byte 66 (fun x => if x < 17 then (.int (3 : Int32)) else (.int (0 : Int32))) := V50.congr (fun i _ => own_fill _ _ 16 i)
  have f51 := f48.wr W50
  have K50 : Keep h0 h50 [] := K47.wr W50 (Or.inr sz_b1)
  have O50 := O47.wr W50 ge_b1
  have N50 := Fr.snoc X50 N47 ge_b1
  refine stp st50 ?_
  show Go p e below T50 (mkF m 85 #[.val (.int (3 : Int32))] [(.ref b1)]) _
  refine stp (fun _ => XS.dup X50.here hx rfl (hb hby d1_85) rfl rfl) ?_
  show Go p e below T50 (mkF m 86 #[.val (.int (3 : Int32))] [(.ref b1), (.ref b1)]) _
  refine stp (fun _ => XS.bipush X50.here hx rfl (hb hby d1_86)) ?_
  show Go p e below T50 (mkF m 88 #[.val (.int (3 : Int32))] [(.int (17 : Int32)), (.ref b1), (.ref b1)]) _
  refine stp (fun _ => XS.iloadN X50.here hx rfl (hb hby d1_88) rfl) ?_
  show Go p e below T50 (mkF m 89 #[.val (.int (3 : Int32))] [(.int (3 : Int32)), (.int (17 : Int32)), (.ref b1), (.ref b1)]) _
  obtain ⟨cl53, Ar53, q53, S53, H53, G53⟩ := (id V50)
  have in53 : ¬ ((17 : Int32) < 0 ∨ cl53.slots.size ≤ ((17 : Int32)).toNatClampNeg) := arf_in S53 (show ((17 : Int32)).toInt = ((17 : Nat) : Int) by decide) (by decide)
  obtain ⟨T53, h53, X53, e53, W53, st53⟩ := stB X50 hx hZ e50 Ar53 (j := (17 : Int32)) in53 (g := (mkF m 89 #[.val (.int (3 : Int32))] [(.int (3 : Int32)), (.int (17 : Int32)), (.ref b1), (.ref b1)])) rfl rfl (hb hby d1_89)
  have V53 := Arf.set Ar53 q53 S53 H53 G53 (ow_fits_byte (by decide)) (arf_ix (show ((17 : Int32)).toInt = ((17 : Nat) : Int) by decide) ▸ (ow_wr_byte (by decide) W53)) (by decide)
  replace V53 : Arf Z h53 b1 k1 .byte 66 (fun x => if x < 18 then (.int (3 : Int32)) else (.int (0 : Int32))) := V53.congr (fun i _ => own_fill _ _ 17 i)
  have f54 := f51.wr W53
  have K53 : Keep h0 h53 [] := K50.wr W53 (Or.inr sz_b1)
  have O53 := O50.wr W53 ge_b1
  have N53 := Fr.snoc X53 N50 ge_b1
  refine stp st53 ?_
  show Go p e below T53 (mkF m 90 #[.val (.int (3 : Int32))] [(.ref b1)]) _
  refine stp (fun _ => XS.dup X53.here hx rfl (hb hby d1_90) rfl rfl) ?_
  show Go p e below T53 (mkF m 91 #[.val (.int (3 : Int32))] [(.ref b1), (.ref b1)]) _
  refine stp (fun _ => XS.bipush X53.here hx rfl (hb hby d1_91)) ?_
  show Go p e below T53 (mkF m 93 #[.val (.int (3 : Int32))] [(.int (18 : Int32)), (.ref b1), (.ref b1)]) _
  refine stp (fun _ => XS.iloadN X53.here hx rfl (hb hby d1_93) rfl) ?_
  show Go p e below T53 (mkF m 94 #[.val (.int (3 : Int32))] [(.int (3 : Int32)), (.int (18 : Int32)), (.ref b1), (.ref b1)]) _
  obtain ⟨cl56, Ar56, q56, S56, H56, G56⟩ := (id V53)
  have in56 : ¬ ((18 : Int32) < 0 ∨ cl56.slots.size ≤ ((18 : Int32)).toNatClampNeg) := arf_in S56 (show ((18 : Int32)).toInt = ((18 : Nat) : Int) by decide) (by decide)
  obtain ⟨T56, h56, X56, e56, W56, st56⟩ := stB X53 hx hZ e53 Ar56 (j := (18 : Int32)) in56 (g := (mkF m 94 #[.val (.int (3 : Int32))] [(.int (3 : Int32)), (.int (18 : Int32)), (.ref b1), (.ref b1)])) rfl rfl (hb hby d1_94)
  have V56 := Arf.set Ar56 q56 S56 H56 G56 (ow_fits_byte (by decide)) (arf_ix (show ((18 : Int32)).toInt = ((18 : Nat) : Int) by decide) ▸ (ow_wr_byte (by decide) W56)) (by decide)
  replace V56 : Arf Z h56 b1 k1 .byte 66 (fun x => if x < 19 then (.int (3 : Int32)) else (.int (0 : Int32))) := V56.congr (fun i _ => own_fill _ _ 18 i)
  have f57 := f54.wr W56
  have K56 : Keep h0 h56 [] := K53.wr W56 (Or.inr sz_b1)
  have O56 := O53.wr W56 ge_b1
  have N56 := Fr.snoc X56 N53 ge_b1
  refine stp st56 ?_
  show Go p e below T56 (mkF m 95 #[.val (.int (3 : Int32))] [(.ref b1)]) _
  refine stp (fun _ => XS.dup X56.here hx rfl (hb hby d1_95) rfl rfl) ?_
  show Go p e below T56 (mkF m 96 #[.val (.int (3 : Int32))] [(.ref b1), (.ref b1)]) _
  refine stp (fun _ => XS.bipush X56.here hx rfl (hb hby d1_96)) ?_
  show Go p e below T56 (mkF m 98 #[.val (.int (3 : Int32))] [(.int (19 : Int32)), (.ref b1), (.ref b1)]) _
  refine stp (fun _ => XS.iloadN X56.here hx rfl (hb hby d1_98) rfl) ?_
  show Go p e below T56 (mkF m 99 #[.val (.int (3 : Int32))] [(.int (3 : Int32)), (.int (19 : Int32)), (.ref b1), (.ref b1)]) _
  obtain ⟨cl59, Ar59, q59, S59, H59, G59⟩ := (id V56)
  have in59 : ¬ ((19 : Int32) < 0 ∨ cl59.slots.size ≤ ((19 : Int32)).toNatClampNeg) := arf_in S59 (show ((19 : Int32)).toInt = ((19 : Nat) : Int) by decide) (by decide)
  obtain ⟨T59, h59, X59, e59, W59, st59⟩ := stB X56 hx hZ e56 Ar59 (j := (19 : Int32)) in59 (g := (mkF m 99 #[.val (.int (3 : Int32))] [(.int (3 : Int32)), (.int (19 : Int32)), (.ref b1), (.ref b1)])) rfl rfl (hb hby d1_99)
  have V59 := Arf.set Ar59 q59 S59 H59 G59 (ow_fits_byte (by decide)) (arf_ix (show ((19 : Int32)).toInt = ((19 : Nat) : Int) by decide) ▸ (ow_wr_byte (by decide) W59)) (by decide)
  replace V59 : Arf Z h59 b1 k1 .byte 66 (fun x => if x < 20 then (.int (3 : Int32)) else (.int (0 : Int32))) := V59.congr (fun i _ => own_fill _ _ 19 i)
  have f60 := f57.wr W59
  have K59 : Keep h0 h59 [] := K56.wr W59 (Or.inr sz_b1)
  have O59 := O56.wr W59 ge_b1
  have N59 := Fr.snoc X59 N56 ge_b1
  refine stp st59 ?_
  show Go p e below T59 (mkF m 100 #[.val (.int (3 : Int32))] [(.ref b1)]) _
  refine stp (fun _ => XS.dup X59.here hx rfl (hb hby d1_100) rfl rfl) ?_
  show Go p e below T59 (mkF m 101 #[.val (.int (3 : Int32))] [(.ref b1), (.ref b1)]) _
  refine stp (fun _ => XS.bipush X59.here hx rfl (hb hby d1_101)) ?_
  show Go p e below T59 (mkF m 103 #[.val (.int (3 : Int32))] [(.int (20 : Int32)), (.ref b1), (.ref b1)]) _
  refine stp (fun _ => XS.iloadN X59.here hx rfl (hb hby d1_103) rfl) ?_
  show Go p e below T59 (mkF m 104 #[.val (.int (3 : Int32))] [(.int (3 : Int32)), (.int (20 : Int32)), (.ref b1), (.ref b1)]) _
  obtain ⟨cl62, Ar62, q62, S62, H62, G62⟩ := (id V59)
  have in62 : ¬ ((20 : Int32) < 0 ∨ cl62.slots.size ≤ ((20 : Int32)).toNatClampNeg) := arf_in S62 (show ((20 : Int32)).toInt = ((20 : Nat) : Int) by decide) (by decide)
  obtain ⟨T62, h62, X62, e62, W62, st62⟩ := stB X59 hx hZ e59 Ar62 (j := (20 : Int32)) in62 (g := (mkF m 104 #[.val (.int (3 : Int32))] [(.int (3 : Int32)), (.int (20 : Int32)), (.ref b1), (.ref b1)])) rfl rfl (hb hby d1_104)
  have V62 := Arf.set Ar62 q62 S62 H62 G62 (ow_fits_byte (by decide)) (arf_ix (show ((20 : Int32)).toInt = ((20 : Nat) : Int) by decide) ▸ (ow_wr_byte (by decide) W62)) (by decide)
  replace V62 : Arf Z h62 b1 k1 .byte 66 (fun x => if x < 21 then (.int (3 : Int32)) else (.int (0 : Int32))) := V62.congr (fun i _ => own_fill _ _ 20 i)
  have f63 := f60.wr W62
  have K62 : Keep h0 h62 [] := K59.wr W62 (Or.inr sz_b1)
  have O62 := O59.wr W62 ge_b1
  have N62 := Fr.snoc X62 N59 ge_b1
  refine stp st62 ?_
  show Go p e below T62 (mkF m 105 #[.val (.int (3 : Int32))] [(.ref b1)]) _
  refine stp (fun _ => XS.dup X62.here hx rfl (hb hby d1_105) rfl rfl) ?_
  show Go p e below T62 (mkF m 106 #[.val (.int (3 : Int32))] [(.ref b1), (.ref b1)]) _
  refine stp (fun _ => XS.bipush X62.here hx rfl (hb hby d1_106)) ?_
  show Go p e below T62 (mkF m 108 #[.val (.int (3 : Int32))] [(.int (21 : Int32)), (.ref b1), (.ref b1)]) _
  refine stp (fun _ => XS.iloadN X62.here hx rfl (hb hby d1_108) rfl) ?_
  show Go p e below T62 (mkF m 109 #[.val (.int (3 : Int32))] [(.int (3 : Int32)), (.int (21 : Int32)), (.ref b1), (.ref b1)]) _
  obtain ⟨cl65, Ar65, q65, S65, H65, G65⟩ := (id V62)
  have in65 : ¬ ((21 : Int32) < 0 ∨ cl65.slots.size ≤ ((21 : Int32)).toNatClampNeg) := arf_in S65 (show ((21 : Int32)).toInt = ((21 : Nat) : Int) by decide) (by decide)
  obtain ⟨T65, h65, X65, e65, W65, st65⟩ := stB X62 hx hZ e62 Ar65 (j := (21 : Int32)) in65 (g := (mkF m 109 #[.val (.int (3 : Int32))] [(.int (3 : Int32)), (.int (21 : Int32)), (.ref b1), (.ref b1)])) rfl rfl (hb hby d1_109)
  have V65 := Arf.set Ar65 q65 S65 H65 G65 (ow_fits_byte (by decide)) (arf_ix (show ((21 : Int32)).toInt = ((21 : Nat) : Int) by decide) ▸ (ow_wr_byte (by decide) W65)) (by decide)
  replace V65 : Arf Z h65 b1 k1 .byte 66 (fun x => if x < 22 then (.int (3 : Int32)) else (.int (0 : Int32))) := V65.congr (fun i _ => own_fill _ _ 21 i)
  have f66 := f63.wr W65
  have K65 : Keep h0 h65 [] := K62.wr W65 (Or.inr sz_b1)
  have O65 := O62.wr W65 ge_b1
  have N65 := Fr.snoc X65 N62 ge_b1
  refine stp st65 ?_
  show Go p e below T65 (mkF m 110 #[.val (.int (3 : Int32))] [(.ref b1)]) _
  refine stp (fun _ => XS.dup X65.here hx rfl (hb hby d1_110) rfl rfl) ?_
  show Go p e below T65 (mkF m 111 #[.val (.int (3 : Int32))] [(.ref b1), (.ref b1)]) _
  refine stp (fun _ => XS.bipush X65.here hx rfl (hb hby d1_111)) ?_
  show Go p e below T65 (mkF m 113 #[.val (.int (3 : Int32))] [(.int (22 : Int32)), (.ref b1), (.ref b1)]) _
  refine stp (fun _ => XS.iloadN X65.here hx rfl (hb hby d1_113) rfl) ?_
  show Go p e below T65 (mkF m 114 #[.val (.int (3 : Int32))] [(.int (3 : Int32)), (.int (22 : Int32)), (.ref b1), (.ref b1)]) _
  obtain ⟨cl68, Ar68, q68, S68, H68, G68⟩ := (id V65)
  have in68 : ¬ ((22 : Int32) < 0 ∨ cl68.slots.size ≤ ((22 : Int32)).toNatClampNeg) := arf_in S68 (show ((22 : Int32)).toInt = ((22 : Nat) : Int) by decide) (by decide)
  obtain ⟨T68, h68, X68, e68, W68, st68⟩ := stB X65 hx hZ e65 Ar68 (j := (22 : Int32)) in68 (g := (mkF m 114 #[.val (.int (3 : Int32))] [(.int (3 : Int32)), (.int (22 : Int32)), (.ref b1), (.ref b1)])) rfl rfl (hb hby d1_114)
  have V68 := Arf.set Ar68 q68 S68 H68 G68 (ow_fits_byte (by decide)) (arf_ix (show ((22 : Int32)).toInt = ((22 : Nat) : Int) by decide) ▸ (ow_wr_byte (by decide) W68)) (by decide)
  replace V68 : Arf Z h68 b1 k1 .byte 66 (fun x => if x < 23 then (.int (3 : Int32)) else (.int (0 : Int32))) := V68.congr (fun i _ => own_fill _ _ 22 i)
  have f69 := f66.wr W68
  have K68 : Keep h0 h68 [] := K65.wr W68 (Or.inr sz_b1)
  have O68 := O65.wr W68 ge_b1
  have N68 := Fr.snoc X68 N65 ge_b1
  refine stp st68 ?_
  show Go p e below T68 (mkF m 115 #[.val (.int (3 : Int32))] [(.ref b1)]) _
  refine stp (fun _ => XS.dup X68.here hx rfl (hb hby d1_115) rfl rfl) ?_
  show Go p e below T68 (mkF m 116 #[.val (.int (3 : Int32))] [(.ref b1), (.ref b1)]) _
  refine stp (fun _ => XS.bipush X68.here hx rfl (hb hby d1_116)) ?_
  show Go p e below T68 (mkF m 118 #[.val (.int (3 : Int32))] [(.int (23 : Int32)), (.ref b1), (.ref b1)]) _
  refine stp (fun _ => XS.iloadN X68.here hx rfl (hb hby d1_118) rfl) ?_
  show Go p e below T68 (mkF m 119 #[.val (.int (3 : Int32))] [(.int (3 : Int32)), (.int (23 : Int32)), (.ref b1), (.ref b1)]) _
  obtain ⟨cl71, Ar71, q71, S71, H71, G71⟩ := (id V68)
  have in71 : ¬ ((23 : Int32) < 0 ∨ cl71.slots.size ≤ ((23 : Int32)).toNatClampNeg) := arf_in S71 (show ((23 : Int32)).toInt = ((23 : Nat) : Int) by decide) (by decide)
  obtain ⟨T71, h71, X71, e71, W71, st71⟩ := stB X68 hx hZ e68 Ar71 (j := (23 : Int32)) in71 (g := (mkF m 119 #[.val (.int (3 : Int32))] [(.int (3 : Int32)), (.int (23 : Int32)), (.ref b1), (.ref b1)])) rfl rfl (hb hby d1_119)
  have V71 := Arf.set Ar71 q71 S71 H71 G71 (ow_fits_byte (by decide)) (arf_ix (show ((23 : Int32)).toInt = ((23 : Nat) : Int) by decide) ▸ (ow_wr_byte (by decide) W71)) (by decide)
  replace V71 : Arf Z h71 b1 k1 .byte 66 (fun x => if x < 24 then (.int (3 : Int32)) else (.int (0 : Int32))) := V71.congr (fun i _ => own_fill _ _ 23 i)
  have f72 := f69.wr W71
  have K71 : Keep h0 h71 [] := K68.wr W71 (Or.inr sz_b1)
  have O71 := O68.wr W71 ge_b1
  have N71 := Fr.snoc X71 N68 ge_b1
  refine stp st71 ?_
  show Go p e below T71 (mkF m 120 #[.val (.int (3 : Int32))] [(.ref b1)]) _
  refine stp (fun _ => XS.dup X71.here hx rfl (hb hby d1_120) rfl rfl) ?_
  show Go p e below T71 (mkF m 121 #[.val (.int (3 : Int32))] [(.ref b1), (.ref b1)]) _
  refine stp (fun _ => XS.bipush X71.here hx rfl (hb hby d1_121)) ?_
  show Go p e below T71 (mkF m 123 #[.val (.int (3 : Int32))] [(.int (24 : Int32)), (.ref b1), (.ref b1)]) _
  refine stp (fun _ => XS.iloadN X71.here hx rfl (hb hby d1_123) rfl) ?_
  show Go p e below T71 (mkF m 124 #[.val (.int (3 : Int32))] [(.int (3 : Int32)), (.int (24 : Int32)), (.ref b1), (.ref b1)]) _
  obtain ⟨cl74, Ar74, q74, S74, H74, G74⟩ := (id V71)
  have in74 : ¬ ((24 : Int32) < 0 ∨ cl74.slots.size ≤ ((24 : Int32)).toNatClampNeg) := arf_in S74 (show ((24 : Int32)).toInt = ((24 : Nat) : Int) by decide) (by decide)
  obtain ⟨T74, h74, X74, e74, W74, st74⟩ := stB X71 hx hZ e71 Ar74 (j := (24 : Int32)) in74 (g := (mkF m 124 #[.val (.int (3 : Int32))] [(.int (3 : Int32)), (.int (24 : Int32)), (.ref b1), (.ref b1)])) rfl rfl (hb hby d1_124)
  have V74 := Arf.set Ar74 q74 S74 H74 G74 (ow_fits_byte (by decide)) (arf_ix (show ((24 : Int32)).toInt = ((24 : Nat) : Int) by decide) ▸ (ow_wr_byte (by decide) W74)) (by decide)
  replace V74 : Arf Z h74 b1 k1 .byte 66 (fun x => if x < 25 then (.int (3 : Int32)) else (.int (0 : Int32))) := V74.congr (fun i _ => own_fill _ _ 24 i)
  have f75 := f72.wr W74
  have K74 : Keep h0 h74 [] := K71.wr W74 (Or.inr sz_b1)
  have O74 := O71.wr W74 ge_b1
  have N74 := Fr.snoc X74 N71 ge_b1
  refine stp st74 ?_
  show Go p e below T74 (mkF m 125 #[.val (.int (3 : Int32))] [(.ref b1)]) _
  refine stp (fun _ => XS.dup X74.here hx rfl (hb hby d1_125) rfl rfl) ?_
  show Go p e below T74 (mkF m 126 #[.val (.int (3 : Int32))] [(.ref b1), (.ref b1)]) _
  refine stp (fun _ => XS.bipush X74.here hx rfl (hb hby d1_126)) ?_
  show Go p e below T74 (mkF m 128 #[.val (.int (3 : Int32))] [(.int (25 : Int32)), (.ref b1), (.ref b1)]) _
  refine stp (fun _ => XS.iloadN X74.here hx rfl (hb hby d1_128) rfl) ?_
  show Go p e below T74 (mkF m 129 #[.val (.int (3 : Int32))] [(.int (3 : Int32)), (.int (25 : Int32)), (.ref b1), (.ref b1)]) _
  obtain ⟨cl77, Ar77, q77, S77, H77, G77⟩ := (id V74)
  have in77 : ¬ ((25 : Int32) < 0 ∨ cl77.slots.size ≤ ((25 : Int32)).toNatClampNeg) := arf_in S77 (show ((25 : Int32)).toInt = ((25 : Nat) : Int) by decide) (by decide)
  obtain ⟨T77, h77, X77, e77, W77, st77⟩ := stB X74 hx hZ e74 Ar77 (j := (25 : Int32)) in77 (g := (mkF m 129 #[.val (.int (3 : Int32))] [(.int (3 : Int32)), (.int (25 : Int32)), (.ref b1), (.ref b1)])) rfl rfl (hb hby d1_129)
  have V77 := Arf.set Ar77 q77 S77 H77 G77 (ow_fits_byte (by decide)) (arf_ix (show ((25 : Int32)).toInt = ((25 : Nat) : Int) by decide) ▸ (ow_wr_byte (by decide) W77)) (by decide)
  replace V77 : Arf Z h77 b1 k1 .byte 66 (fun x => if x < 26 then (.int (3 : Int32)) else (.int (0 : Int32))) := V77.congr (fun i _ => own_fill _ _ 25 i)
  have f78 := f75.wr W77
  have K77 : Keep h0 h77 [] := K74.wr W77 (Or.inr sz_b1)
  have O77 := O74.wr W77 ge_b1
  have N77 := Fr.snoc X77 N74 ge_b1
  refine stp st77 ?_
  show Go p e below T77 (mkF m 130 #[.val (.int (3 : Int32))] [(.ref b1)]) _
  refine stp (fun _ => XS.dup X77.here hx rfl (hb hby d1_130) rfl rfl) ?_
  show Go p e below T77 (mkF m 131 #[.val (.int (3 : Int32))] [(.ref b1), (.ref b1)]) _
  refine stp (fun _ => XS.bipush X77.here hx rfl (hb hby d1_131)) ?_
  show Go p e below T77 (mkF m 133 #[.val (.int (3 : Int32))] [(.int (26 : Int32)), (.ref b1), (.ref b1)]) _
  refine stp (fun _ => XS.iloadN X77.here hx rfl (hb hby d1_133) rfl) ?_
  show Go p e below T77 (mkF m 134 #[.val (.int (3 : Int32))] [(.int (3 : Int32)), (.int (26 : Int32)), (.ref b1), (.ref b1)]) _
  obtain ⟨cl80, Ar80, q80, S80, H80, G80⟩ := (id V77)
  have in80 : ¬ ((26 : Int32) < 0 ∨ cl80.slots.size ≤ ((26 : Int32)).toNatClampNeg) := arf_in S80 (show ((26 : Int32)).toInt = ((26 : Nat) : Int) by decide) (by decide)
  obtain ⟨T80, h80, X80, e80, W80, st80⟩ := stB X77 hx hZ e77 Ar80 (j := (26 : Int32)) in80 (g := (mkF m 134 #[.val (.int (3 : Int32))] [(.int (3 : Int32)), (.int (26 : Int32)), (.ref b1), (.ref b1)])) rfl rfl (hb hby d1_134)
  have V80 := Arf.set Ar80 q80 S80 H80 G80 (ow_fits_byte (by decide)) (arf_ix (show ((26 : Int32)).toInt = ((26 : Nat) : Int) by decide) ▸ (ow_wr_byte (by decide) W80)) (by decide)
  replace V80 : Arf Z h80 b1 k1 .byte 66 (fun x => if x < 27 then (.int (3 : Int32)) else (.int (0 : Int32))) := V80.congr (fun i _ => own_fill _ _ 26 i)
  have f81 := f78.wr W80
  have K80 : Keep h0 h80 [] := K77.wr W80 (Or.inr sz_b1)
  have O80 := O77.wr W80 ge_b1
  have N80 := Fr.snoc X80 N77 ge_b1
  refine stp st80 ?_
  show Go p e below T80 (mkF m 135 #[.val (.int (3 : Int32))] [(.ref b1)]) _
  refine stp (fun _ => XS.dup X80.here hx rfl (hb hby d1_135) rfl rfl) ?_
  show Go p e below T80 (mkF m 136 #[.val (.int (3 : Int32))] [(.ref b1), (.ref b1)]) _
  refine stp (fun _ => XS.bipush X80.here hx rfl (hb hby d1_136)) ?_
  show Go p e below T80 (mkF m 138 #[.val (.int (3 : Int32))] [(.int (27 : Int32)), (.ref b1), (.ref b1)]) _
  refine stp (fun _ => XS.iloadN X80.here hx rfl (hb hby d1_138) rfl) ?_
  show Go p e below T80 (mkF m 139 #[.val (.int (3 : Int32))] [(.int (3 : Int32)), (.int (27 : Int32)), (.ref b1), (.ref b1)]) _
  obtain ⟨cl83, Ar83, q83, S83, H83, G83⟩ := (id V80)
  have in83 : ¬ ((27 : Int32) < 0 ∨ cl83.slots.size ≤ ((27 : Int32)).toNatClampNeg) := arf_in S83 (show ((27 : Int32)).toInt = ((27 : Nat) : Int) by decide) (by decide)
  obtain ⟨T83, h83, X83, e83, W83, st83⟩ := stB X80 hx hZ e80 Ar83 (j := (27 : Int32)) in83 (g := (mkF m 139 #[.val (.int (3 : Int32))] [(.int (3 : Int32)), (.int (27 : Int32)), (.ref b1), (.ref b1)])) rfl rfl (hb hby d1_139)
  have V83 := Arf.set Ar83 q83 S83 H83 G83 (ow_fits_byte (by decide)) (arf_ix (show ((27 : Int32)).toInt = ((27 : Nat) : Int) by decide) ▸ (ow_wr_byte (by decide) W83)) (by decide)
  replace V83 : Arf Z h83 b1 k1 .byte 66 (fun x => if x < 28 then (.int (3 : Int32)) else (.int (0 : Int32))) := V83.congr (fun i _ => own_fill _ _ 27 i)
  have f84 := f81.wr W83
  have K83 : Keep h0 h83 [] := K80.wr W83 (Or.inr sz_b1)
  have O83 := O80.wr W83 ge_b1
  have N83 := Fr.snoc X83 N80 ge_b1
  refine stp st83 ?_
  show Go p e below T83 (mkF m 140 #[.val (.int (3 : Int32))] [(.ref b1)]) _
  refine stp (fun _ => XS.dup X83.here hx rfl (hb hby d1_140) rfl rfl) ?_
  show Go p e below T83 (mkF m 141 #[.val (.int (3 : Int32))] [(.ref b1), (.ref b1)]) _
  refine stp (fun _ => XS.bipush X83.here hx rfl (hb hby d1_141)) ?_
  show Go p e below T83 (mkF m 143 #[.val (.int (3 : Int32))] [(.int (28 : Int32)), (.ref b1), (.ref b1)]) _
  refine stp (fun _ => XS.iloadN X83.here hx rfl (hb hby d1_143) rfl) ?_
  show Go p e below T83 (mkF m 144 #[.val (.int (3 : Int32))] [(.int (3 : Int32)), (.int (28 : Int32)), (.ref b1), (.ref b1)]) _
  obtain ⟨cl86, Ar86, q86, S86, H86, G86⟩ := (id V83)
  have in86 : ¬ ((28 : Int32) < 0 ∨ cl86.slots.size ≤ ((28 : Int32)).toNatClampNeg) := arf_in S86 (show ((28 : Int32)).toInt = ((28 : Nat) : Int) by decide) (by decide)
  obtain ⟨T86, h86, X86, e86, W86, st86⟩ := stB X83 hx hZ e83 Ar86 (j := (28 : Int32)) in86 (g := (mkF m 144 #[.val (.int (3 : Int32))] [(.int (3 : Int32)), (.int (28 : Int32)), (.ref b1), (.ref b1)])) rfl rfl (hb hby d1_144)
  have V86 := Arf.set Ar86 q86 S86 H86 G86 (ow_fits_byte (by decide)) (arf_ix (show ((28 : Int32)).toInt = ((28 : Nat) : Int) by decide) ▸ (ow_wr_byte (by decide) W86)) (by decide)
  replace V86 : Arf Z h86 b1 k1 .byte 66 (fun x => if x < 29 then (.int (3 : Int32)) else (.int (0 : Int32))) := V86.congr (fun i _ => own_fill _ _ 28 i)
  have f87 := f84.wr W86
  have K86 : Keep h0 h86 [] := K83.wr W86 (Or.inr sz_b1)
  have O86 := O83.wr W86 ge_b1
  have N86 := Fr.snoc X86 N83 ge_b1
  refine stp st86 ?_
  show Go p e below T86 (mkF m 145 #[.val (.int (3 : Int32))] [(.ref b1)]) _
  refine stp (fun _ => XS.dup X86.here hx rfl (hb hby d1_145) rfl rfl) ?_
  show Go p e below T86 (mkF m 146 #[.val (.int (3 : Int32))] [(.ref b1), (.ref b1)]) _
  refine stp (fun _ => XS.bipush X86.here hx rfl (hb hby d1_146)) ?_
  show Go p e below T86 (mkF m 148 #[.val (.int (3 : Int32))] [(.int (29 : Int32)), (.ref b1), (.ref b1)]) _
  refine stp (fun _ => XS.iloadN X86.here hx rfl (hb hby d1_148) rfl) ?_
  show Go p e below T86 (mkF m 149 #[.val (.int (3 : Int32))] [(.int (3 : Int32)), (.int (29 : Int32)), (.ref b1), (.ref b1)]) _
  obtain ⟨cl89, Ar89, q89, S89, H89, G89⟩ := (id V86)
  have in89 : ¬ ((29 : Int32) < 0 ∨ cl89.slots.size ≤ ((29 : Int32)).toNatClampNeg) := arf_in S89 (show ((29 : Int32)).toInt = ((29 : Nat) : Int) by decide) (by decide)
  obtain ⟨T89, h89, X89, e89, W89, st89⟩ := stB X86 hx hZ e86 Ar89 (j := (29 : Int32)) in89 (g := (mkF m 149 #[.val (.int (3 : Int32))] [(.int (3 : Int32)), (.int (29 : Int32)), (.ref b1), (.ref b1)])) rfl rfl (hb hby d1_149)
  have V89 := Arf.set Ar89 q89 S89 H89 G89 (ow_fits_byte (by decide)) (arf_ix (show ((29 : Int32)).toInt = ((29 : Nat) : Int) by decide) ▸ (ow_wr_byte (by decide) W89)) (by decide)
  replace V89 : Arf Z h89 b1 k1 .byte 66 (fun x => if x < 30 then (.int (3 : Int32)) else (.int (0 : Int32))) := V89.congr (fun i _ => own_fill _ _ 29 i)
  have f90 := f87.wr W89
  have K89 : Keep h0 h89 [] := K86.wr W89 (Or.inr sz_b1)
  have O89 := O86.wr W89 ge_b1
  have N89 := Fr.snoc X89 N86 ge_b1
  refine stp st89 ?_
  show Go p e below T89 (mkF m 150 #[.val (.int (3 : Int32))] [(.ref b1)]) _
  refine stp (fun _ => XS.dup X89.here hx rfl (hb hby d1_150) rfl rfl) ?_
  show Go p e below T89 (mkF m 151 #[.val (.int (3 : Int32))] [(.ref b1), (.ref b1)]) _
  refine stp (fun _ => XS.bipush X89.here hx rfl (hb hby d1_151)) ?_
  show Go p e below T89 (mkF m 153 #[.val (.int (3 : Int32))] [(.int (30 : Int32)), (.ref b1), (.ref b1)]) _
  refine stp (fun _ => XS.iloadN X89.here hx rfl (hb hby d1_153) rfl) ?_
  show Go p e below T89 (mkF m 154 #[.val (.int (3 : Int32))] [(.int (3 : Int32)), (.int (30 : Int32)), (.ref b1), (.ref b1)]) _
  obtain ⟨cl92, Ar92, q92, S92, H92, G92⟩ := (id V89)
  have in92 : ¬ ((30 : Int32) < 0 ∨ cl92.slots.size ≤ ((30 : Int32)).toNatClampNeg) := arf_in S92 (show ((30 : Int32)).toInt = ((30 : Nat) : Int) by decide) (by decide)
  obtain ⟨T92, h92, X92, e92, W92, st92⟩ := stB X89 hx hZ e89 Ar92 (j := (30 : Int32)) in92 (g := (mkF m 154 #[.val (.int (3 : Int32))] [(.int (3 : Int32)), (.int (30 : Int32)), (.ref b1), (.ref b1)])) rfl rfl (hb hby d1_154)
  have V92 := Arf.set Ar92 q92 S92 H92 G92 (ow_fits_byte (by decide)) (arf_ix (show ((30 : Int32)).toInt = ((30 : Nat) : Int) by decide) ▸ (ow_wr_byte (by decide) W92)) (by decide)
  replace V92 : Arf Z h92 b1 k1 .byte 66 (fun x => if x < 31 then (.int (3 : Int32)) else (.int (0 : Int32))) := V92.congr (fun i _ => own_fill _ _ 30 i)
  have f93 := f90.wr W92
  have K92 : Keep h0 h92 [] := K89.wr W92 (Or.inr sz_b1)
  have O92 := O89.wr W92 ge_b1
  have N92 := Fr.snoc X92 N89 ge_b1
  refine stp st92 ?_
  show Go p e below T92 (mkF m 155 #[.val (.int (3 : Int32))] [(.ref b1)]) _
  refine stp (fun _ => XS.dup X92.here hx rfl (hb hby d1_155) rfl rfl) ?_
  show Go p e below T92 (mkF m 156 #[.val (.int (3 : Int32))] [(.ref b1), (.ref b1)]) _
  refine stp (fun _ => XS.bipush X92.here hx rfl (hb hby d1_156)) ?_
  show Go p e below T92 (mkF m 158 #[.val (.int (3 : Int32))] [(.int (31 : Int32)), (.ref b1), (.ref b1)]) _
  refine stp (fun _ => XS.iloadN X92.here hx rfl (hb hby d1_158) rfl) ?_
  show Go p e below T92 (mkF m 159 #[.val (.int (3 : Int32))] [(.int (3 : Int32)), (.int (31 : Int32)), (.ref b1), (.ref b1)]) _
  obtain ⟨cl95, Ar95, q95, S95, H95, G95⟩ := (id V92)
  have in95 : ¬ ((31 : Int32) < 0 ∨ cl95.slots.size ≤ ((31 : Int32)).toNatClampNeg) := arf_in S95 (show ((31 : Int32)).toInt = ((31 : Nat) : Int) by decide) (by decide)
  obtain ⟨T95, h95, X95, e95, W95, st95⟩ := stB X92 hx hZ e92 Ar95 (j := (31 : Int32)) in95 (g := (mkF m 159 #[.val (.int (3 : Int32))] [(.int (3 : Int32)), (.int (31 : Int32)), (.ref b1), (.ref b1)])) rfl rfl (hb hby d1_159)
  have V95 := Arf.set Ar95 q95 S95 H95 G95 (ow_fits_byte (by decide)) (arf_ix (show ((31 : Int32)).toInt = ((31 : Nat) : Int) by decide) ▸ (ow_wr_byte (by decide) W95)) (by decide)
  replace V95 : Arf Z h95 b1 k1 .byte 66 (fun x => if x < 32 then (.int (3 : Int32)) else (.int (0 : Int32))) := V95.congr (fun i _ => own_fill _ _ 31 i)
  have f96 := f93.wr W95
  have K95 : Keep h0 h95 [] := K92.wr W95 (Or.inr sz_b1)
  have O95 := O92.wr W95 ge_b1
  have N95 := Fr.snoc X95 N92 ge_b1
  refine stp st95 ?_
  show Go p e below T95 (mkF m 160 #[.val (.int (3 : Int32))] [(.ref b1)]) _
  refine stp (fun _ => XS.dup X95.here hx rfl (hb hby d1_160) rfl rfl) ?_
  show Go p e below T95 (mkF m 161 #[.val (.int (3 : Int32))] [(.ref b1), (.ref b1)]) _
  refine stp (fun _ => XS.bipush X95.here hx rfl (hb hby d1_161)) ?_
  show Go p e below T95 (mkF m 163 #[.val (.int (3 : Int32))] [(.int (32 : Int32)), (.ref b1), (.ref b1)]) _
  refine stp (fun _ => XS.iloadN X95.here hx rfl (hb hby d1_163) rfl) ?_
  show Go p e below T95 (mkF m 164 #[.val (.int (3 : Int32))] [(.int (3 : Int32)), (.int (32 : Int32)), (.ref b1), (.ref b1)]) _
  obtain ⟨cl98, Ar98, q98, S98, H98, G98⟩ := (id V95)
  have in98 : ¬ ((32 : Int32) < 0 ∨ cl98.slots.size ≤ ((32 : Int32)).toNatClampNeg) := arf_in S98 (show ((32 : Int32)).toInt = ((32 : Nat) : Int) by decide) (by decide)
  obtain ⟨T98, h98, X98, e98, W98, st98⟩ := stB X95 hx hZ e95 Ar98 (j := (32 : Int32)) in98 (g := (mkF m 164 #[.val (.int (3 : Int32))] [(.int (3 : Int32)), (.int (32 : Int32)), (.ref b1), (.ref b1)])) rfl rfl (hb hby d1_164)
  have V98 := Arf.set Ar98 q98 S98 H98 G98 (ow_fits_byte (by decide)) (arf_ix (show ((32 : Int32)).toInt = ((32 : Nat) : Int) by decide) ▸ (ow_wr_byte (by decide) W98)) (by decide)
  replace V98 : Arf Z h98 b1 k1 .byte 66 (fun x => if x < 33 then (.int (3 : Int32)) else (.int (0 : Int32))) := V98.congr (fun i _ => own_fill _ _ 32 i)
  have f99 := f96.wr W98
  have K98 : Keep h0 h98 [] := K95.wr W98 (Or.inr sz_b1)
  have O98 := O95.wr W98 ge_b1
  have N98 := Fr.snoc X98 N95 ge_b1
  refine stp st98 ?_
  show Go p e below T98 (mkF m 165 #[.val (.int (3 : Int32))] [(.ref b1)]) _
  refine stp (fun _ => XS.dup X98.here hx rfl (hb hby d1_165) rfl rfl) ?_
  show Go p e below T98 (mkF m 166 #[.val (.int (3 : Int32))] [(.ref b1), (.ref b1)]) _
  refine stp (fun _ => XS.bipush X98.here hx rfl (hb hby d1_166)) ?_
  show Go p e below T98 (mkF m 168 #[.val (.int (3 : Int32))] [(.int (33 : Int32)), (.ref b1), (.ref b1)]) _
  refine stp (fun _ => XS.iloadN X98.here hx rfl (hb hby d1_168) rfl) ?_
  show Go p e below T98 (mkF m 169 #[.val (.int (3 : Int32))] [(.int (3 : Int32)), (.int (33 : Int32)), (.ref b1), (.ref b1)]) _
  obtain ⟨cl101, Ar101, q101, S101, H101, G101⟩ := (id V98)
  have in101 : ¬ ((33 : Int32) < 0 ∨ cl101.slots.size ≤ ((33 : Int32)).toNatClampNeg) := arf_in S101 (show ((33 : Int32)).toInt = ((33 : Nat) : Int) by decide) (by decide)
  obtain ⟨T101, h101, X101, e101, W101, st101⟩ := stB X98 hx hZ e98 Ar101 (j := (33 : Int32)) in101 (g := (mkF m 169 #[.val (.int (3 : Int32))] [(.int (3 : Int32)), (.int (33 : Int32)), (.ref b1), (.ref b1)])) rfl rfl (hb hby d1_169)
  have V101 := Arf.set Ar101 q101 S101 H101 G101 (ow_fits_byte (by decide)) (arf_ix (show ((33 : Int32)).toInt = ((33 : Nat) : Int) by decide) ▸ (ow_wr_byte (by decide) W101)) (by decide)
  replace V101 : Arf Z h101 b1 k1 .byte 66 (fun x => if x < 34 then (.int (3 : Int32)) else (.int (0 : Int32))) := V101.congr (fun i _ => own_fill _ _ 33 i)
  have f102 := f99.wr W101
  have K101 : Keep h0 h101 [] := K98.wr W101 (Or.inr sz_b1)
  have O101 := O98.wr W101 ge_b1
  have N101 := Fr.snoc X101 N98 ge_b1
  refine stp st101 ?_
  show Go p e below T101 (mkF m 170 #[.val (.int (3 : Int32))] [(.ref b1)]) _
  refine stp (fun _ => XS.dup X101.here hx rfl (hb hby d1_170) rfl rfl) ?_
  show Go p e below T101 (mkF m 171 #[.val (.int (3 : Int32))] [(.ref b1), (.ref b1)]) _
  refine stp (fun _ => XS.bipush X101.here hx rfl (hb hby d1_171)) ?_
  show Go p e below T101 (mkF m 173 #[.val (.int (3 : Int32))] [(.int (34 : Int32)), (.ref b1), (.ref b1)]) _
  refine stp (fun _ => XS.iloadN X101.here hx rfl (hb hby d1_173) rfl) ?_
  show Go p e below T101 (mkF m 174 #[.val (.int (3 : Int32))] [(.int (3 : Int32)), (.int (34 : Int32)), (.ref b1), (.ref b1)]) _
  obtain ⟨cl104, Ar104, q104, S104, H104, G104⟩ := (id V101)
  have in104 : ¬ ((34 : Int32) < 0 ∨ cl104.slots.size ≤ ((34 : Int32)).toNatClampNeg) := arf_in S104 (show ((34 : Int32)).toInt = ((34 : Nat) : Int) by decide) (by decide)
  obtain ⟨T104, h104, X104, e104, W104, st104⟩ := stB X101 hx hZ e101 Ar104 (j := (34 : Int32)) in104 (g := (mkF m 174 #[.val (.int (3 : Int32))] [(.int (3 : Int32)), (.int (34 : Int32)), (.ref b1), (.ref b1)])) rfl rfl (hb hby d1_174)
  have V104 := Arf.set Ar104 q104 S104 H104 G104 (ow_fits_byte (by decide)) (arf_ix (show ((34 : Int32)).toInt = ((34 : Nat) : Int) by decide) ▸ (ow_wr_byte (by decide) W104)) (by decide)
  replace V104 : Arf Z h104 b1 k1 .byte 66 (fun x => if x < 35 then (.int (3 : Int32)) else (.int (0 : Int32))) := V104.congr (fun i _ => own_fill _ _ 34 i)
  have f105 := f102.wr W104
  have K104 : Keep h0 h104 [] := K101.wr W104 (Or.inr sz_b1)
  have O104 := O101.wr W104 ge_b1
  have N104 := Fr.snoc X104 N101 ge_b1
  refine stp st104 ?_
  show Go p e below T104 (mkF m 175 #[.val (.int (3 : Int32))] [(.ref b1)]) _
  refine stp (fun _ => XS.dup X104.here hx rfl (hb hby d1_175) rfl rfl) ?_
  show Go p e below T104 (mkF m 176 #[.val (.int (3 : Int32))] [(.ref b1), (.ref b1)]) _
  refine stp (fun _ => XS.bipush X104.here hx rfl (hb hby d1_176)) ?_
  show Go p e below T104 (mkF m 178 #[.val (.int (3 : Int32))] [(.int (35 : Int32)), (.ref b1), (.ref b1)]) _
  refine stp (fun _ => XS.iloadN X104.here hx rfl (hb hby d1_178) rfl) ?_
  show Go p e below T104 (mkF m 179 #[.val (.int (3 : Int32))] [(.int (3 : Int32)), (.int (35 : Int32)), (.ref b1), (.ref b1)]) _
  obtain ⟨cl107, Ar107, q107, S107, H107, G107⟩ := (id V104)
  have in107 : ¬ ((35 : Int32) < 0 ∨ cl107.slots.size ≤ ((35 : Int32)).toNatClampNeg) := arf_in S107 (show ((35 : Int32)).toInt = ((35 : Nat) : Int) by decide) (by decide)
  obtain ⟨T107, h107, X107, e107, W107, st107⟩ := stB X104 hx hZ e104 Ar107 (j := (35 : Int32)) in107 (g := (mkF m 179 #[.val (.int (3 : Int32))] [(.int (3 : Int32)), (.int (35 : Int32)), (.ref b1), (.ref b1)])) rfl rfl (hb hby d1_179)
  have V107 := Arf.set Ar107 q107 S107 H107 G107 (ow_fits_byte (by decide)) (arf_ix (show ((35 : Int32)).toInt = ((35 : Nat) : Int) by decide) ▸ (ow_wr_byte (by decide) W107)) (by decide)
  replace V107 : Arf Z h107 b1 k1 .byte 66 (fun x => if x < 36 then (.int (3 : Int32)) else (.int (0 : Int32))) := V107.congr (fun i _ => own_fill _ _ 35 i)
  have f108 := f105.wr W107
  have K107 : Keep h0 h107 [] := K104.wr W107 (Or.inr sz_b1)
  have O107 := O104.wr W107 ge_b1
  have N107 := Fr.snoc X107 N104 ge_b1
  refine stp st107 ?_
  show Go p e below T107 (mkF m 180 #[.val (.int (3 : Int32))] [(.ref b1)]) _
  refine stp (fun _ => XS.dup X107.here hx rfl (hb hby d1_180) rfl rfl) ?_
  show Go p e below T107 (mkF m 181 #[.val (.int (3 : Int32))] [(.ref b1), (.ref b1)]) _
  refine stp (fun _ => XS.bipush X107.here hx rfl (hb hby d1_181)) ?_
  show Go p e below T107 (mkF m 183 #[.val (.int (3 : Int32))] [(.int (36 : Int32)), (.ref b1), (.ref b1)]) _
  refine stp (fun _ => XS.iloadN X107.here hx rfl (hb hby d1_183) rfl) ?_
  show Go p e below T107 (mkF m 184 #[.val (.int (3 : Int32))] [(.int (3 : Int32)), (.int (36 : Int32)), (.ref b1), (.ref b1)]) _
  obtain ⟨cl110, Ar110, q110, S110, H110, G110⟩ := (id V107)
  have in110 : ¬ ((36 : Int32) < 0 ∨ cl110.slots.size ≤ ((36 : Int32)).toNatClampNeg) := arf_in S110 (show ((36 : Int32)).toInt = ((36 : Nat) : Int) by decide) (by decide)
  obtain ⟨T110, h110, X110, e110, W110, st110⟩ := stB X107 hx hZ e107 Ar110 (j := (36 : Int32)) in110 (g := (mkF m 184 #[.val (.int (3 : Int32))] [(.int (3 : Int32)), (.int (36 : Int32)), (.ref b1), (.ref b1)])) rfl rfl (hb hby d1_184)
  have V110 := Arf.set Ar110 q110 S110 H110 G110 (ow_fits_byte (by decide)) (arf_ix (show ((36 : Int32)).toInt = ((36 : Nat) : Int) by decide) ▸ (ow_wr_byte (by decide) W110)) (by decide)
  replace V110 : Arf Z h110 b1 k1 .byte 66 (fun x => if x < 37 then (.int (3 : Int32)) else (.int (0 : Int32))) := V110.congr (fun i _ => own_fill _ _ 36 i)
  have f111 := f108.wr W110
  have K110 : Keep h0 h110 [] := K107.wr W110 (Or.inr sz_b1)
  have O110 := O107.wr W110 ge_b1
  have N110 := Fr.snoc X110 N107 ge_b1
  refine stp st110 ?_
  show Go p e below T110 (mkF m 185 #[.val (.int (3 : Int32))] [(.ref b1)]) _
  refine stp (fun _ => XS.dup X110.here hx rfl (hb hby d1_185) rfl rfl) ?_
  show Go p e below T110 (mkF m 186 #[.val (.int (3 : Int32))] [(.ref b1), (.ref b1)]) _
  refine stp (fun _ => XS.bipush X110.here hx rfl (hb hby d1_186)) ?_
  show Go p e below T110 (mkF m 188 #[.val (.int (3 : Int32))] [(.int (37 : Int32)), (.ref b1), (.ref b1)]) _
  refine stp (fun _ => XS.iloadN X110.here hx rfl (hb hby d1_188) rfl) ?_
  show Go p e below T110 (mkF m 189 #[.val (.int (3 : Int32))] [(.int (3 : Int32)), (.int (37 : Int32)), (.ref b1), (.ref b1)]) _
  obtain ⟨cl113, Ar113, q113, S113, H113, G113⟩ := (id V110)
  have in113 : ¬ ((37 : Int32) < 0 ∨ cl113.slots.size ≤ ((37 : Int32)).toNatClampNeg) := arf_in S113 (show ((37 : Int32)).toInt = ((37 : Nat) : Int) by decide) (by decide)
  obtain ⟨T113, h113, X113, e113, W113, st113⟩ := stB X110 hx hZ e110 Ar113 (j := (37 : Int32)) in113 (g := (mkF m 189 #[.val (.int (3 : Int32))] [(.int (3 : Int32)), (.int (37 : Int32)), (.ref b1), (.ref b1)])) rfl rfl (hb hby d1_189)
  have V113 := Arf.set Ar113 q113 S113 H113 G113 (ow_fits_byte (by decide)) (arf_ix (show ((37 : Int32)).toInt = ((37 : Nat) : Int) by decide) ▸ (ow_wr_byte (by decide) W113)) (by decide)
  replace V113 : Arf Z h113 b1 k1 .byte 66 (fun x => if x < 38 then (.int (3 : Int32)) else (.int (0 : Int32))) := V113.congr (fun i _ => own_fill _ _ 37 i)
  have f114 := f111.wr W113
  have K113 : Keep h0 h113 [] := K110.wr W113 (Or.inr sz_b1)
  have O113 := O110.wr W113 ge_b1
  have N113 := Fr.snoc X113 N110 ge_b1
  refine stp st113 ?_
  show Go p e below T113 (mkF m 190 #[.val (.int (3 : Int32))] [(.ref b1)]) _
  refine stp (fun _ => XS.dup X113.here hx rfl (hb hby d1_190) rfl rfl) ?_
  show Go p e below T113 (mkF m 191 #[.val (.int (3 : Int32))] [(.ref b1), (.ref b1)]) _
  refine stp (fun _ => XS.bipush X113.here hx rfl (hb hby d1_191)) ?_
  show Go p e below T113 (mkF m 193 #[.val (.int (3 : Int32))] [(.int (38 : Int32)), (.ref b1), (.ref b1)]) _
  refine stp (fun _ => XS.iloadN X113.here hx rfl (hb hby d1_193) rfl) ?_
  show Go p e below T113 (mkF m 194 #[.val (.int (3 : Int32))] [(.int (3 : Int32)), (.int (38 : Int32)), (.ref b1), (.ref b1)]) _
  obtain ⟨cl116, Ar116, q116, S116, H116, G116⟩ := (id V113)
  have in116 : ¬ ((38 : Int32) < 0 ∨ cl116.slots.size ≤ ((38 : Int32)).toNatClampNeg) := arf_in S116 (show ((38 : Int32)).toInt = ((38 : Nat) : Int) by decide) (by decide)
  obtain ⟨T116, h116, X116, e116, W116, st116⟩ := stB X113 hx hZ e113 Ar116 (j := (38 : Int32)) in116 (g := (mkF m 194 #[.val (.int (3 : Int32))] [(.int (3 : Int32)), (.int (38 : Int32)), (.ref b1), (.ref b1)])) rfl rfl (hb hby d1_194)
  have V116 := Arf.set Ar116 q116 S116 H116 G116 (ow_fits_byte (by decide)) (arf_ix (show ((38 : Int32)).toInt = ((38 : Nat) : Int) by decide) ▸ (ow_wr_byte (by decide) W116)) (by decide)
  replace V116 : Arf Z h116 b1 k1 .byte 66 (fun x => if x < 39 then (.int (3 : Int32)) else (.int (0 : Int32))) := V116.congr (fun i _ => own_fill _ _ 38 i)
  have f117 := f114.wr W116
  have K116 : Keep h0 h116 [] := K113.wr W116 (Or.inr sz_b1)
  have O116 := O113.wr W116 ge_b1
  have N116 := Fr.snoc X116 N113 ge_b1
  refine stp st116 ?_
  show Go p e below T116 (mkF m 195 #[.val (.int (3 : Int32))] [(.ref b1)]) _
  refine stp (fun _ => XS.dup X116.here hx rfl (hb hby d1_195) rfl rfl) ?_
  show Go p e below T116 (mkF m 196 #[.val (.int (3 : Int32))] [(.ref b1), (.ref b1)]) _
  refine stp (fun _ => XS.bipush X116.here hx rfl (hb hby d1_196)) ?_
  show Go p e below T116 (mkF m 198 #[.val (.int (3 : Int32))] [(.int (39 : Int32)), (.ref b1), (.ref b1)]) _
  refine stp (fun _ => XS.iloadN X116.here hx rfl (hb hby d1_198) rfl) ?_
  show Go p e below T116 (mkF m 199 #[.val (.int (3 : Int32))] [(.int (3 : Int32)), (.int (39 : Int32)), (.ref b1), (.ref b1)]) _
  obtain ⟨cl119, Ar119, q119, S119, H119, G119⟩ := (id V116)
  have in119 : ¬ ((39 : Int32) < 0 ∨ cl119.slots.size ≤ ((39 : Int32)).toNatClampNeg) := arf_in S119 (show ((39 : Int32)).toInt = ((39 : Nat) : Int) by decide) (by decide)
  obtain ⟨T119, h119, X119, e119, W119, st119⟩ := stB X116 hx hZ e116 Ar119 (j := (39 : Int32)) in119 (g := (mkF m 199 #[.val (.int (3 : Int32))] [(.int (3 : Int32)), (.int (39 : Int32)), (.ref b1), (.ref b1)])) rfl rfl (hb hby d1_199)
  have V119 := Arf.set Ar119 q119 S119 H119 G119 (ow_fits_byte (by decide)) (arf_ix (show ((39 : Int32)).toInt = ((39 : Nat) : Int) by decide) ▸ (ow_wr_byte (by decide) W119)) (by decide)
  replace V119 : Arf Z h119 b1 k1 .byte 66 (fun x => if x < 40 then (.int (3 : Int32)) else (.int (0 : Int32))) := V119.congr (fun i _ => own_fill _ _ 39 i)
  have f120 := f117.wr W119
  have K119 : Keep h0 h119 [] := K116.wr W119 (Or.inr sz_b1)
  have O119 := O116.wr W119 ge_b1
  have N119 := Fr.snoc X119 N116 ge_b1
  refine stp st119 ?_
  show Go p e below T119 (mkF m 200 #[.val (.int (3 : Int32))] [(.ref b1)]) _
  refine stp (fun _ => XS.dup X119.here hx rfl (hb hby d1_200) rfl rfl) ?_
  show Go p e below T119 (mkF m 201 #[.val (.int (3 : Int32))] [(.ref b1), (.ref b1)]) _
  refine stp (fun _ => XS.bipush X119.here hx rfl (hb hby d1_201)) ?_
  show Go p e below T119 (mkF m 203 #[.val (.int (3 : Int32))] [(.int (40 : Int32)), (.ref b1), (.ref b1)]) _
  refine stp (fun _ => XS.iloadN X119.here hx rfl (hb hby d1_203) rfl) ?_
  show Go p e below T119 (mkF m 204 #[.val (.int (3 : Int32))] [(.int (3 : Int32)), (.int (40 : Int32)), (.ref b1), (.ref b1)]) _
  obtain ⟨cl122, Ar122, q122, S122, H122, G122⟩ := (id V119)
  have in122 : ¬ ((40 : Int32) < 0 ∨ cl122.slots.size ≤ ((40 : Int32)).toNatClampNeg) := arf_in S122 (show ((40 : Int32)).toInt = ((40 : Nat) : Int) by decide) (by decide)
  obtain ⟨T122, h122, X122, e122, W122, st122⟩ := stB X119 hx hZ e119 Ar122 (j := (40 : Int32)) in122 (g := (mkF m 204 #[.val (.int (3 : Int32))] [(.int (3 : Int32)), (.int (40 : Int32)), (.ref b1), (.ref b1)])) rfl rfl (hb hby d1_204)
  have V122 := Arf.set Ar122 q122 S122 H122 G122 (ow_fits_byte (by decide)) (arf_ix (show ((40 : Int32)).toInt = ((40 : Nat) : Int) by decide) ▸ (ow_wr_byte (by decide) W122)) (by decide)
  replace V122 : Arf Z h122 b1 k1 .byte 66 (fun x => if x < 41 then (.int (3 : Int32)) else (.int (0 : Int32))) := V122.congr (fun i _ => own_fill _ _ 40 i)
  have f123 := f120.wr W122
  have K122 : Keep h0 h122 [] := K119.wr W122 (Or.inr sz_b1)
  have O122 := O119.wr W122 ge_b1
  have N122 := Fr.snoc X122 N119 ge_b1
  refine stp st122 ?_
  show Go p e below T122 (mkF m 205 #[.val (.int (3 : Int32))] [(.ref b1)]) _
  refine stp (fun _ => XS.dup X122.here hx rfl (hb hby d1_205) rfl rfl) ?_
  show Go p e below T122 (mkF m 206 #[.val (.int (3 : Int32))] [(.ref b1), (.ref b1)]) _
  refine stp (fun _ => XS.bipush X122.here hx rfl (hb hby d1_206)) ?_
  show Go p e below T122 (mkF m 208 #[.val (.int (3 : Int32))] [(.int (41 : Int32)), (.ref b1), (.ref b1)]) _
  refine stp (fun _ => XS.iloadN X122.here hx rfl (hb hby d1_208) rfl) ?_
  show Go p e below T122 (mkF m 209 #[.val (.int (3 : Int32))] [(.int (3 : Int32)), (.int (41 : Int32)), (.ref b1), (.ref b1)]) _
  obtain ⟨cl125, Ar125, q125, S125, H125, G125⟩ := (id V122)
  have in125 : ¬ ((41 : Int32) < 0 ∨ cl125.slots.size ≤ ((41 : Int32)).toNatClampNeg) := arf_in S125 (show ((41 : Int32)).toInt = ((41 : Nat) : Int) by decide) (by decide)
  obtain ⟨T125, h125, X125, e125, W125, st125⟩ := stB X122 hx hZ e122 Ar125 (j := (41 : Int32)) in125 (g := (mkF m 209 #[.val (.int (3 : Int32))] [(.int (3 : Int32)), (.int (41 : Int32)), (.ref b1), (.ref b1)])) rfl rfl (hb hby d1_209)
  have V125 := Arf.set Ar125 q125 S125 H125 G125 (ow_fits_byte (by decide)) (arf_ix (show ((41 : Int32)).toInt = ((41 : Nat) : Int) by decide) ▸ (ow_wr_byte (by decide) W125)) (by decide)
  replace V125 : Arf Z h125 b1 k1 .byte 66 (fun x => if x < 42 then (.int (3 : Int32)) else (.int (0 : Int32))) := V125.congr (fun i _ => own_fill _ _ 41 i)
  have f126 := f123.wr W125
  have K125 : Keep h0 h125 [] := K122.wr W125 (Or.inr sz_b1)
  have O125 := O122.wr W125 ge_b1
  have N125 := Fr.snoc X125 N122 ge_b1
  refine stp st125 ?_
  show Go p e below T125 (mkF m 210 #[.val (.int (3 : Int32))] [(.ref b1)]) _
  refine stp (fun _ => XS.dup X125.here hx rfl (hb hby d1_210) rfl rfl) ?_
  show Go p e below T125 (mkF m 211 #[.val (.int (3 : Int32))] [(.ref b1), (.ref b1)]) _
  refine stp (fun _ => XS.bipush X125.here hx rfl (hb hby d1_211)) ?_
  show Go p e below T125 (mkF m 213 #[.val (.int (3 : Int32))] [(.int (42 : Int32)), (.ref b1), (.ref b1)]) _
  refine stp (fun _ => XS.iloadN X125.here hx rfl (hb hby d1_213) rfl) ?_
  show Go p e below T125 (mkF m 214 #[.val (.int (3 : Int32))] [(.int (3 : Int32)), (.int (42 : Int32)), (.ref b1), (.ref b1)]) _
  obtain ⟨cl128, Ar128, q128, S128, H128, G128⟩ := (id V125)
  have in128 : ¬ ((42 : Int32) < 0 ∨ cl128.slots.size ≤ ((42 : Int32)).toNatClampNeg) := arf_in S128 (show ((42 : Int32)).toInt = ((42 : Nat) : Int) by decide) (by decide)
  obtain ⟨T128, h128, X128, e128, W128, st128⟩ := stB X125 hx hZ e125 Ar128 (j := (42 : Int32)) in128 (g := (mkF m 214 #[.val (.int (3 : Int32))] [(.int (3 : Int32)), (.int (42 : Int32)), (.ref b1), (.ref b1)])) rfl rfl (hb hby d1_214)
  have V128 := Arf.set Ar128 q128 S128 H128 G128 (ow_fits_byte (by decide)) (arf_ix (show ((42 : Int32)).toInt = ((42 : Nat) : Int) by decide) ▸ (ow_wr_byte (by decide) W128)) (by decide)
  replace V128 : Arf Z h128 b1 k1 .byte 66 (fun x => if x < 43 then (.int (3 : Int32)) else (.int (0 : Int32))) := V128.congr (fun i _ => own_fill _ _ 42 i)
  have f129 := f126.wr W128
  have K128 : Keep h0 h128 [] := K125.wr W128 (Or.inr sz_b1)
  have O128 := O125.wr W128 ge_b1
  have N128 := Fr.snoc X128 N125 ge_b1
  refine stp st128 ?_
  show Go p e below T128 (mkF m 215 #[.val (.int (3 : Int32))] [(.ref b1)]) _
  refine stp (fun _ => XS.dup X128.here hx rfl (hb hby d1_215) rfl rfl) ?_
  show Go p e below T128 (mkF m 216 #[.val (.int (3 : Int32))] [(.ref b1), (.ref b1)]) _
  refine stp (fun _ => XS.bipush X128.here hx rfl (hb hby d1_216)) ?_
  show Go p e below T128 (mkF m 218 #[.val (.int (3 : Int32))] [(.int (43 : Int32)), (.ref b1), (.ref b1)]) _
  refine stp (fun _ => XS.iloadN X128.here hx rfl (hb hby d1_218) rfl) ?_
  show Go p e below T128 (mkF m 219 #[.val (.int (3 : Int32))] [(.int (3 : Int32)), (.int (43 : Int32)), (.ref b1), (.ref b1)]) _
  obtain ⟨cl131, Ar131, q131, S131, H131, G131⟩ := (id V128)
  have in131 : ¬ ((43 : Int32) < 0 ∨ cl131.slots.size ≤ ((43 : Int32)).toNatClampNeg) := arf_in S131 (show ((43 : Int32)).toInt = ((43 : Nat) : Int) by decide) (by decide)
  obtain ⟨T131, h131, X131, e131, W131, st131⟩ := stB X128 hx hZ e128 Ar131 (j := (43 : Int32)) in131 (g := (mkF m 219 #[.val (.int (3 : Int32))] [(.int (3 : Int32)), (.int (43 : Int32)), (.ref b1), (.ref b1)])) rfl rfl (hb hby d1_219)
  have V131 := Arf.set Ar131 q131 S131 H131 G131 (ow_fits_byte (by decide)) (arf_ix (show ((43 : Int32)).toInt = ((43 : Nat) : Int) by decide) ▸ (ow_wr_byte (by decide) W131)) (by decide)
  replace V131 : Arf Z h131 b1 k1 .byte 66 (fun x => if x < 44 then (.int (3 : Int32)) else (.int (0 : Int32))) := V131.congr (fun i _ => own_fill _ _ 43 i)
  have f132 := f129.wr W131
  have K131 : Keep h0 h131 [] := K128.wr W131 (Or.inr sz_b1)
  have O131 := O128.wr W131 ge_b1
  have N131 := Fr.snoc X131 N128 ge_b1
  refine stp st131 ?_
  show Go p e below T131 (mkF m 220 #[.val (.int (3 : Int32))] [(.ref b1)]) _
  refine stp (fun _ => XS.dup X131.here hx rfl (hb hby d1_220) rfl rfl) ?_
  show Go p e below T131 (mkF m 221 #[.val (.int (3 : Int32))] [(.ref b1), (.ref b1)]) _
  refine stp (fun _ => XS.bipush X131.here hx rfl (hb hby d1_221)) ?_
  show Go p e below T131 (mkF m 223 #[.val (.int (3 : Int32))] [(.int (44 : Int32)), (.ref b1), (.ref b1)]) _
  refine stp (fun _ => XS.iloadN X131.here hx rfl (hb hby d1_223) rfl) ?_
  show Go p e below T131 (mkF m 224 #[.val (.int (3 : Int32))] [(.int (3 : Int32)), (.int (44 : Int32)), (.ref b1), (.ref b1)]) _
  obtain ⟨cl134, Ar134, q134, S134, H134, G134⟩ := (id V131)
  have in134 : ¬ ((44 : Int32) < 0 ∨ cl134.slots.size ≤ ((44 : Int32)).toNatClampNeg) := arf_in S134 (show ((44 : Int32)).toInt = ((44 : Nat) : Int) by decide) (by decide)
  obtain ⟨T134, h134, X134, e134, W134, st134⟩ := stB X131 hx hZ e131 Ar134 (j := (44 : Int32)) in134 (g := (mkF m 224 #[.val (.int (3 : Int32))] [(.int (3 : Int32)), (.int (44 : Int32)), (.ref b1), (.ref b1)])) rfl rfl (hb hby d1_224)
  have V134 := Arf.set Ar134 q134 S134 H134 G134 (ow_fits_byte (by decide)) (arf_ix (show ((44 : Int32)).toInt = ((44 : Nat) : Int) by decide) ▸ (ow_wr_byte (by decide) W134)) (by decide)
  replace V134 : Arf Z h134 b1 k1 .byte 66 (fun x => if x < 45 then (.int (3 : Int32)) else (.int (0 : Int32))) := V134.congr (fun i _ => own_fill _ _ 44 i)
  have f135 := f132.wr W134
  have K134 : Keep h0 h134 [] := K131.wr W134 (Or.inr sz_b1)
  have O134 := O131.wr W134 ge_b1
  have N134 := Fr.snoc X134 N131 ge_b1
  refine stp st134 ?_
  show Go p e below T134 (mkF m 225 #[.val (.int (3 : Int32))] [(.ref b1)]) _
  refine stp (fun _ => XS.dup X134.here hx rfl (hb hby d1_225) rfl rfl) ?_
  show Go p e below T134 (mkF m 226 #[.val (.int (3 : Int32))] [(.ref b1), (.ref b1)]) _
  refine stp (fun _ => XS.bipush X134.here hx rfl (hb hby d1_226)) ?_
  show Go p e below T134 (mkF m 228 #[.val (.int (3 : Int32))] [(.int (45 : Int32)), (.ref b1), (.ref b1)]) _
  refine stp (fun _ => XS.iloadN X134.here hx rfl (hb hby d1_228) rfl) ?_
  show Go p e below T134 (mkF m 229 #[.val (.int (3 : Int32))] [(.int (3 : Int32)), (.int (45 : Int32)), (.ref b1), (.ref b1)]) _
  obtain ⟨cl137, Ar137, q137, S137, H137, G137⟩ := (id V134)
  have in137 : ¬ ((45 : Int32) < 0 ∨ cl137.slots.size ≤ ((45 : Int32)).toNatClampNeg) := arf_in S137 (show ((45 : Int32)).toInt = ((45 : Nat) : Int) by decide) (by decide)
  obtain ⟨T137, h137, X137, e137, W137, st137⟩ := stB X134 hx hZ e134 Ar137 (j := (45 : Int32)) in137 (g := (mkF m 229 #[.val (.int (3 : Int32))] [(.int (3 : Int32)), (.int (45 : Int32)), (.ref b1), (.ref b1)])) rfl rfl (hb hby d1_229)
  have V137 := Arf.set Ar137 q137 S137 H137 G137 (ow_fits_byte (by decide)) (arf_ix (show ((45 : Int32)).toInt = ((45 : Nat) : Int) by decide) ▸ (ow_wr_byte (by decide) W137)) (by decide)
  replace V137 : Arf Z h137 b1 k1 .byte 66 (fun x => if x < 46 then (.int (3 : Int32)) else (.int (0 : Int32))) := V137.congr (fun i _ => own_fill _ _ 45 i)
  have f138 := f135.wr W137
  have K137 : Keep h0 h137 [] := K134.wr W137 (Or.inr sz_b1)
  have O137 := O134.wr W137 ge_b1
  have N137 := Fr.snoc X137 N134 ge_b1
  refine stp st137 ?_
  show Go p e below T137 (mkF m 230 #[.val (.int (3 : Int32))] [(.ref b1)]) _
  refine stp (fun _ => XS.dup X137.here hx rfl (hb hby d1_230) rfl rfl) ?_
  show Go p e below T137 (mkF m 231 #[.val (.int (3 : Int32))] [(.ref b1), (.ref b1)]) _
  refine stp (fun _ => XS.bipush X137.here hx rfl (hb hby d1_231)) ?_
  show Go p e below T137 (mkF m 233 #[.val (.int (3 : Int32))] [(.int (46 : Int32)), (.ref b1), (.ref b1)]) _
  refine stp (fun _ => XS.iloadN X137.here hx rfl (hb hby d1_233) rfl) ?_
  show Go p e below T137 (mkF m 234 #[.val (.int (3 : Int32))] [(.int (3 : Int32)), (.int (46 : Int32)), (.ref b1), (.ref b1)]) _
  obtain ⟨cl140, Ar140, q140, S140, H140, G140⟩ := (id V137)
  have in140 : ¬ ((46 : Int32) < 0 ∨ cl140.slots.size ≤ ((46 : Int32)).toNatClampNeg) := arf_in S140 (show ((46 : Int32)).toInt = ((46 : Nat) : Int) by decide) (by decide)
  obtain ⟨T140, h140, X140, e140, W140, st140⟩ := stB X137 hx hZ e137 Ar140 (j := (46 : Int32)) in140 (g := (mkF m 234 #[.val (.int (3 : Int32))] [(.int (3 : Int32)), (.int (46 : Int32)), (.ref b1), (.ref b1)])) rfl rfl (hb hby d1_234)
  have V140 := Arf.set Ar140 q140 S140 H140 G140 (ow_fits_byte (by decide)) (arf_ix (show ((46 : Int32)).toInt = ((46 : Nat) : Int) by decide) ▸ (ow_wr_byte (by decide) W140)) (by decide)
  replace V140 : Arf Z h140 b1 k1 .byte 66 (fun x => if x < 47 then (.int (3 : Int32)) else (.int (0 : Int32))) := V140.congr (fun i _ => own_fill _ _ 46 i)
  have f141 := f138.wr W140
  have K140 : Keep h0 h140 [] := K137.wr W140 (Or.inr sz_b1)
  have O140 := O137.wr W140 ge_b1
  have N140 := Fr.snoc X140 N137 ge_b1
  refine stp st140 ?_
  show Go p e below T140 (mkF m 235 #[.val (.int (3 : Int32))] [(.ref b1)]) _
  refine stp (fun _ => XS.dup X140.here hx rfl (hb hby d1_235) rfl rfl) ?_
  show Go p e below T140 (mkF m 236 #[.val (.int (3 : Int32))] [(.ref b1), (.ref b1)]) _
  refine stp (fun _ => XS.bipush X140.here hx rfl (hb hby d1_236)) ?_
  show Go p e below T140 (mkF m 238 #[.val (.int (3 : Int32))] [(.int (47 : Int32)), (.ref b1), (.ref b1)]) _
  refine stp (fun _ => XS.iloadN X140.here hx rfl (hb hby d1_238) rfl) ?_
  show Go p e below T140 (mkF m 239 #[.val (.int (3 : Int32))] [(.int (3 : Int32)), (.int (47 : Int32)), (.ref b1), (.ref b1)]) _
  obtain ⟨cl143, Ar143, q143, S143, H143, G143⟩ := (id V140)
  have in143 : ¬ ((47 : Int32) < 0 ∨ cl143.slots.size ≤ ((47 : Int32)).toNatClampNeg) := arf_in S143 (show ((47 : Int32)).toInt = ((47 : Nat) : Int) by decide) (by decide)
  obtain ⟨T143, h143, X143, e143, W143, st143⟩ := stB X140 hx hZ e140 Ar143 (j := (47 : Int32)) in143 (g := (mkF m 239 #[.val (.int (3 : Int32))] [(.int (3 : Int32)), (.int (47 : Int32)), (.ref b1), (.ref b1)])) rfl rfl (hb hby d1_239)
  have V143 := Arf.set Ar143 q143 S143 H143 G143 (ow_fits_byte (by decide)) (arf_ix (show ((47 : Int32)).toInt = ((47 : Nat) : Int) by decide) ▸ (ow_wr_byte (by decide) W143)) (by decide)
  replace V143 : Arf Z h143 b1 k1 .byte 66 (fun x => if x < 48 then (.int (3 : Int32)) else (.int (0 : Int32))) := V143.congr (fun i _ => own_fill _ _ 47 i)
  have f144 := f141.wr W143
  have K143 : Keep h0 h143 [] := K140.wr W143 (Or.inr sz_b1)
  have O143 := O140.wr W143 ge_b1
  have N143 := Fr.snoc X143 N140 ge_b1
  refine stp st143 ?_
  show Go p e below T143 (mkF m 240 #[.val (.int (3 : Int32))] [(.ref b1)]) _
  refine stp (fun _ => XS.dup X143.here hx rfl (hb hby d1_240) rfl rfl) ?_
  show Go p e below T143 (mkF m 241 #[.val (.int (3 : Int32))] [(.ref b1), (.ref b1)]) _
  refine stp (fun _ => XS.bipush X143.here hx rfl (hb hby d1_241)) ?_
  show Go p e below T143 (mkF m 243 #[.val (.int (3 : Int32))] [(.int (48 : Int32)), (.ref b1), (.ref b1)]) _
  refine stp (fun _ => XS.iloadN X143.here hx rfl (hb hby d1_243) rfl) ?_
  show Go p e below T143 (mkF m 244 #[.val (.int (3 : Int32))] [(.int (3 : Int32)), (.int (48 : Int32)), (.ref b1), (.ref b1)]) _
  obtain ⟨cl146, Ar146, q146, S146, H146, G146⟩ := (id V143)
  have in146 : ¬ ((48 : Int32) < 0 ∨ cl146.slots.size ≤ ((48 : Int32)).toNatClampNeg) := arf_in S146 (show ((48 : Int32)).toInt = ((48 : Nat) : Int) by decide) (by decide)
  obtain ⟨T146, h146, X146, e146, W146, st146⟩ := stB X143 hx hZ e143 Ar146 (j := (48 : Int32)) in146 (g := (mkF m 244 #[.val (.int (3 : Int32))] [(.int (3 : Int32)), (.int (48 : Int32)), (.ref b1), (.ref b1)])) rfl rfl (hb hby d1_244)
  have V146 := Arf.set Ar146 q146 S146 H146 G146 (ow_fits_byte (by decide)) (arf_ix (show ((48 : Int32)).toInt = ((48 : Nat) : Int) by decide) ▸ (ow_wr_byte (by decide) W146)) (by decide)
  replace V146 : Arf Z h146 b1 k1 .byte 66 (fun x => if x < 49 then (.int (3 : Int32)) else (.int (0 : Int32))) := V146.congr (fun i _ => own_fill _ _ 48 i)
  have f147 := f144.wr W146
  have K146 : Keep h0 h146 [] := K143.wr W146 (Or.inr sz_b1)
  have O146 := O143.wr W146 ge_b1
  have N146 := Fr.snoc X146 N143 ge_b1
  refine stp st146 ?_
  show Go p e below T146 (mkF m 245 #[.val (.int (3 : Int32))] [(.ref b1)]) _
  refine stp (fun _ => XS.dup X146.here hx rfl (hb hby d1_245) rfl rfl) ?_
  show Go p e below T146 (mkF m 246 #[.val (.int (3 : Int32))] [(.ref b1), (.ref b1)]) _
  refine stp (fun _ => XS.bipush X146.here hx rfl (hb hby d1_246)) ?_
  show Go p e below T146 (mkF m 248 #[.val (.int (3 : Int32))] [(.int (49 : Int32)), (.ref b1), (.ref b1)]) _
  refine stp (fun _ => XS.iloadN X146.here hx rfl (hb hby d1_248) rfl) ?_
  show Go p e below T146 (mkF m 249 #[.val (.int (3 : Int32))] [(.int (3 : Int32)), (.int (49 : Int32)), (.ref b1), (.ref b1)]) _
  obtain ⟨cl149, Ar149, q149, S149, H149, G149⟩ := (id V146)
  have in149 : ¬ ((49 : Int32) < 0 ∨ cl149.slots.size ≤ ((49 : Int32)).toNatClampNeg) := arf_in S149 (show ((49 : Int32)).toInt = ((49 : Nat) : Int) by decide) (by decide)
  obtain ⟨T149, h149, X149, e149, W149, st149⟩ := stB X146 hx hZ e146 Ar149 (j := (49 : Int32)) in149 (g := (mkF m 249 #[.val (.int (3 : Int32))] [(.int (3 : Int32)), (.int (49 : Int32)), (.ref b1), (.ref b1)])) rfl rfl (hb hby d1_249)
  have V149 := Arf.set Ar149 q149 S149 H149 G149 (ow_fits_byte (by decide)) (arf_ix (show ((49 : Int32)).toInt = ((49 : Nat) : Int) by decide) ▸ (ow_wr_byte (by decide) W149)) (by decide)
  replace V149 : Arf Z h149 b1 k1 .byte 66 (fun x => if x < 50 then (.int (3 : Int32)) else (.int (0 : Int32))) := V149.congr (fun i _ => own_fill _ _ 49 i)
  have f150 := f147.wr W149
  have K149 : Keep h0 h149 [] := K146.wr W149 (Or.inr sz_b1)
  have O149 := O146.wr W149 ge_b1
  have N149 := Fr.snoc X149 N146 ge_b1
  refine stp st149 ?_
  show Go p e below T149 (mkF m 250 #[.val (.int (3 : Int32))] [(.ref b1)]) _
  refine stp (fun _ => XS.dup X149.here hx rfl (hb hby d1_250) rfl rfl) ?_
  show Go p e below T149 (mkF m 251 #[.val (.int (3 : Int32))] [(.ref b1), (.ref b1)]) _
  refine stp (fun _ => XS.bipush X149.here hx rfl (hb hby d1_251)) ?_
  show Go p e below T149 (mkF m 253 #[.val (.int (3 : Int32))] [(.int (50 : Int32)), (.ref b1), (.ref b1)]) _
  refine stp (fun _ => XS.iloadN X149.here hx rfl (hb hby d1_253) rfl) ?_
  show Go p e below T149 (mkF m 254 #[.val (.int (3 : Int32))] [(.int (3 : Int32)), (.int (50 : Int32)), (.ref b1), (.ref b1)]) _
  obtain ⟨cl152, Ar152, q152, S152, H152, G152⟩ := (id V149)
  have in152 : ¬ ((50 : Int32) < 0 ∨ cl152.slots.size ≤ ((50 : Int32)).toNatClampNeg) := arf_in S152 (show ((50 : Int32)).toInt = ((50 : Nat) : Int) by decide) (by decide)
  obtain ⟨T152, h152, X152, e152, W152, st152⟩ := stB X149 hx hZ e149 Ar152 (j := (50 : Int32)) in152 (g := (mkF m 254 #[.val (.int (3 : Int32))] [(.int (3 : Int32)), (.int (50 : Int32)), (.ref b1), (.ref b1)])) rfl rfl (hb hby d1_254)
  have V152 := Arf.set Ar152 q152 S152 H152 G152 (ow_fits_byte (by decide)) (arf_ix (show ((50 : Int32)).toInt = ((50 : Nat) : Int) by decide) ▸ (ow_wr_byte (by decide) W152)) (by decide)
  replace V152 : Arf Z h152 b1 k1 .byte 66 (fun x => if x < 51 then (.int (3 : Int32)) else (.int (0 : Int32))) := V152.congr (fun i _ => own_fill _ _ 50 i)
  have f153 := f150.wr W152
  have K152 : Keep h0 h152 [] := K149.wr W152 (Or.inr sz_b1)
  have O152 := O149.wr W152 ge_b1
  have N152 := Fr.snoc X152 N149 ge_b1
  refine stp st152 ?_
  show Go p e below T152 (mkF m 255 #[.val (.int (3 : Int32))] [(.ref b1)]) _
  refine stp (fun _ => XS.dup X152.here hx rfl (hb hby d1_255) rfl rfl) ?_
  show Go p e below T152 (mkF m 256 #[.val (.int (3 : Int32))] [(.ref b1), (.ref b1)]) _
  refine stp (fun _ => XS.bipush X152.here hx rfl (hb hby d1_256)) ?_
  show Go p e below T152 (mkF m 258 #[.val (.int (3 : Int32))] [(.int (51 : Int32)), (.ref b1), (.ref b1)]) _
  refine stp (fun _ => XS.iloadN X152.here hx rfl (hb hby d1_258) rfl) ?_
  show Go p e below T152 (mkF m 259 #[.val (.int (3 : Int32))] [(.int (3 : Int32)), (.int (51 : Int32)), (.ref b1), (.ref b1)]) _
  obtain ⟨cl155, Ar155, q155, S155, H155, G155⟩ := (id V152)
  have in155 : ¬ ((51 : Int32) < 0 ∨ cl155.slots.size ≤ ((51 : Int32)).toNatClampNeg) := arf_in S155 (show ((51 : Int32)).toInt = ((51 : Nat) : Int) by decide) (by decide)
  obtain ⟨T155, h155, X155, e155, W155, st155⟩ := stB X152 hx hZ e152 Ar155 (j := (51 : Int32)) in155 (g := (mkF m 259 #[.val (.int (3 : Int32))] [(.int (3 : Int32)), (.int (51 : Int32)), (.ref b1), (.ref b1)])) rfl rfl (hb hby d1_259)
  have V155 := Arf.set Ar155 q155 S155 H155 G155 (ow_fits_byte (by decide)) (arf_ix (show ((51 : Int32)).toInt = ((51 : Nat) : Int) by decide) ▸ (ow_wr_byte (by decide) W155)) (by decide)
  replace V155 : Arf Z h155 b1 k1 .byte 66 (fun x => if x < 52 then (.int (3 : Int32)) else (.int (0 : Int32))) := V155.congr (fun i _ => own_fill _ _ 51 i)
  have f156 := f153.wr W155
  have K155 : Keep h0 h155 [] := K152.wr W155 (Or.inr sz_b1)
  have O155 := O152.wr W155 ge_b1
  have N155 := Fr.snoc X155 N152 ge_b1
  refine stp st155 ?_
  show Go p e below T155 (mkF m 260 #[.val (.int (3 : Int32))] [(.ref b1)]) _
  refine stp (fun _ => XS.dup X155.here hx rfl (hb hby d1_260) rfl rfl) ?_
  show Go p e below T155 (mkF m 261 #[.val (.int (3 : Int32))] [(.ref b1), (.ref b1)]) _
  refine stp (fun _ => XS.bipush X155.here hx rfl (hb hby d1_261)) ?_
  show Go p e below T155 (mkF m 263 #[.val (.int (3 : Int32))] [(.int (52 : Int32)), (.ref b1), (.ref b1)]) _
  refine stp (fun _ => XS.iloadN X155.here hx rfl (hb hby d1_263) rfl) ?_
  show Go p e below T155 (mkF m 264 #[.val (.int (3 : Int32))] [(.int (3 : Int32)), (.int (52 : Int32)), (.ref b1), (.ref b1)]) _
  obtain ⟨cl158, Ar158, q158, S158, H158, G158⟩ := (id V155)
  have in158 : ¬ ((52 : Int32) < 0 ∨ cl158.slots.size ≤ ((52 : Int32)).toNatClampNeg) := arf_in S158 (show ((52 : Int32)).toInt = ((52 : Nat) : Int) by decide) (by decide)
  obtain ⟨T158, h158, X158, e158, W158, st158⟩ := stB X155 hx hZ e155 Ar158 (j := (52 : Int32)) in158 (g := (mkF m 264 #[.val (.int (3 : Int32))] [(.int (3 : Int32)), (.int (52 : Int32)), (.ref b1), (.ref b1)])) rfl rfl (hb hby d1_264)
  have V158 := Arf.set Ar158 q158 S158 H158 G158 (ow_fits_byte (by decide)) (arf_ix (show ((52 : Int32)).toInt = ((52 : Nat) : Int) by decide) ▸ (ow_wr_byte (by decide) W158)) (by decide)
  replace V158 : Arf Z h158 b1 k1 .byte 66 (fun x => if x < 53 then (.int (3 : Int32)) else (.int (0 : Int32))) := V158.congr (fun i _ => own_fill _ _ 52 i)
  have f159 := f156.wr W158
  have K158 : Keep h0 h158 [] := K155.wr W158 (Or.inr sz_b1)
  have O158 := O155.wr W158 ge_b1
  have N158 := Fr.snoc X158 N155 ge_b1
  refine stp st158 ?_
  show Go p e below T158 (mkF m 265 #[.val (.int (3 : Int32))] [(.ref b1)]) _
  refine stp (fun _ => XS.dup X158.here hx rfl (hb hby d1_265) rfl rfl) ?_
  show Go p e below T158 (mkF m 266 #[.val (.int (3 : Int32))] [(.ref b1), (.ref b1)]) _
  refine stp (fun _ => XS.bipush X158.here hx rfl (hb hby d1_266)) ?_
  show Go p e below T158 (mkF m 268 #[.val (.int (3 : Int32))] [(.int (53 : Int32)), (.ref b1), (.ref b1)]) _
  refine stp (fun _ => XS.iloadN X158.here hx rfl (hb hby d1_268) rfl) ?_
  show Go p e below T158 (mkF m 269 #[.val (.int (3 : Int32))] [(.int (3 : Int32)), (.int (53 : Int32)), (.ref b1), (.ref b1)]) _
  obtain ⟨cl161, Ar161, q161, S161, H161, G161⟩ := (id V158)
  have in161 : ¬ ((53 : Int32) < 0 ∨ cl161.slots.size ≤ ((53 : Int32)).toNatClampNeg) := arf_in S161 (show ((53 : Int32)).toInt = ((53 : Nat) : Int) by decide) (by decide)
  obtain ⟨T161, h161, X161, e161, W161, st161⟩ := stB X158 hx hZ e158 Ar161 (j := (53 : Int32)) in161 (g := (mkF m 269 #[.val (.int (3 : Int32))] [(.int (3 : Int32)), (.int (53 : Int32)), (.ref b1), (.ref b1)])) rfl rfl (hb hby d1_269)
  have V161 := Arf.set Ar161 q161 S161 H161 G161 (ow_fits_byte (by decide)) (arf_ix (show ((53 : Int32)).toInt = ((53 : Nat) : Int) by decide) ▸ (ow_wr_byte (by decide) W161)) (by decide)
  replace V161 : Arf Z h161 b1 k1 .byte 66 (fun x => if x < 54 then (.int (3 : Int32)) else (.int (0 : Int32))) := V161.congr (fun i _ => own_fill _ _ 53 i)
  have f162 := f159.wr W161
  have K161 : Keep h0 h161 [] := K158.wr W161 (Or.inr sz_b1)
  have O161 := O158.wr W161 ge_b1
  have N161 := Fr.snoc X161 N158 ge_b1
  refine stp st161 ?_
  show Go p e below T161 (mkF m 270 #[.val (.int (3 : Int32))] [(.ref b1)]) _
  refine stp (fun _ => XS.dup X161.here hx rfl (hb hby d1_270) rfl rfl) ?_
  show Go p e below T161 (mkF m 271 #[.val (.int (3 : Int32))] [(.ref b1), (.ref b1)]) _
  refine stp (fun _ => XS.bipush X161.here hx rfl (hb hby d1_271)) ?_
  show Go p e below T161 (mkF m 273 #[.val (.int (3 : Int32))] [(.int (54 : Int32)), (.ref b1), (.ref b1)]) _
  refine stp (fun _ => XS.iloadN X161.here hx rfl (hb hby d1_273) rfl) ?_
  show Go p e below T161 (mkF m 274 #[.val (.int (3 : Int32))] [(.int (3 : Int32)), (.int (54 : Int32)), (.ref b1), (.ref b1)]) _
  obtain ⟨cl164, Ar164, q164, S164, H164, G164⟩ := (id V161)
  have in164 : ¬ ((54 : Int32) < 0 ∨ cl164.slots.size ≤ ((54 : Int32)).toNatClampNeg) := arf_in S164 (show ((54 : Int32)).toInt = ((54 : Nat) : Int) by decide) (by decide)
  obtain ⟨T164, h164, X164, e164, W164, st164⟩ := stB X161 hx hZ e161 Ar164 (j := (54 : Int32)) in164 (g := (mkF m 274 #[.val (.int (3 : Int32))] [(.int (3 : Int32)), (.int (54 : Int32)), (.ref b1), (.ref b1)])) rfl rfl (hb hby d1_274)
  have V164 := Arf.set Ar164 q164 S164 H164 G164 (ow_fits_byte (by decide)) (arf_ix (show ((54 : Int32)).toInt = ((54 : Nat) : Int) by decide) ▸ (ow_wr_byte (by decide) W164)) (by decide)
  replace V164 : Arf Z h164 b1 k1 .byte 66 (fun x => if x < 55 then (.int (3 : Int32)) else (.int (0 : Int32))) := V164.congr (fun i _ => own_fill _ _ 54 i)
  have f165 := f162.wr W164
  have K164 : Keep h0 h164 [] := K161.wr W164 (Or.inr sz_b1)
  have O164 := O161.wr W164 ge_b1
  have N164 := Fr.snoc X164 N161 ge_b1
  refine stp st164 ?_
  show Go p e below T164 (mkF m 275 #[.val (.int (3 : Int32))] [(.ref b1)]) _
  refine stp (fun _ => XS.dup X164.here hx rfl (hb hby d1_275) rfl rfl) ?_
  show Go p e below T164 (mkF m 276 #[.val (.int (3 : Int32))] [(.ref b1), (.ref b1)]) _
  refine stp (fun _ => XS.bipush X164.here hx rfl (hb hby d1_276)) ?_
  show Go p e below T164 (mkF m 278 #[.val (.int (3 : Int32))] [(.int (55 : Int32)), (.ref b1), (.ref b1)]) _
  refine stp (fun _ => XS.iloadN X164.here hx rfl (hb hby d1_278) rfl) ?_
  show Go p e below T164 (mkF m 279 #[.val (.int (3 : Int32))] [(.int (3 : Int32)), (.int (55 : Int32)), (.ref b1), (.ref b1)]) _
  obtain ⟨cl167, Ar167, q167, S167, H167, G167⟩ := (id V164)
  have in167 : ¬ ((55 : Int32) < 0 ∨ cl167.slots.size ≤ ((55 : Int32)).toNatClampNeg) := arf_in S167 (show ((55 : Int32)).toInt = ((55 : Nat) : Int) by decide) (by decide)
  obtain ⟨T167, h167, X167, e167, W167, st167⟩ := stB X164 hx hZ e164 Ar167 (j := (55 : Int32)) in167 (g := (mkF m 279 #[.val (.int (3 : Int32))] [(.int (3 : Int32)), (.int (55 : Int32)), (.ref b1), (.ref b1)])) rfl rfl (hb hby d1_279)
  have V167 := Arf.set Ar167 q167 S167 H167 G167 (ow_fits_byte (by decide)) (arf_ix (show ((55 : Int32)).toInt = ((55 : Nat) : Int) by decide) ▸ (ow_wr_byte (by decide) W167)) (by decide)
  replace V167 : Arf Z h167 b1 k1 .byte 66 (fun x => if x < 56 then (.int (3 : Int32)) else (.int (0 : Int32))) := V167.congr (fun i _ => own_fill _ _ 55 i)
  have f168 := f165.wr W167
  have K167 : Keep h0 h167 [] := K164.wr W167 (Or.inr sz_b1)
  have O167 := O164.wr W167 ge_b1
  have N167 := Fr.snoc X167 N164 ge_b1
  refine stp st167 ?_
  show Go p e below T167 (mkF m 280 #[.val (.int (3 : Int32))] [(.ref b1)]) _
  refine stp (fun _ => XS.dup X167.here hx rfl (hb hby d1_280) rfl rfl) ?_
  show Go p e below T167 (mkF m 281 #[.val (.int (3 : Int32))] [(.ref b1), (.ref b1)]) _
  refine stp (fun _ => XS.bipush X167.here hx rfl (hb hby d1_281)) ?_
  show Go p e below T167 (mkF m 283 #[.val (.int (3 : Int32))] [(.int (56 : Int32)), (.ref b1), (.ref b1)]) _
  refine stp (fun _ => XS.iloadN X167.here hx rfl (hb hby d1_283) rfl) ?_
  show Go p e below T167 (mkF m 284 #[.val (.int (3 : Int32))] [(.int (3 : Int32)), (.int (56 : Int32)), (.ref b1), (.ref b1)]) _
  obtain ⟨cl170, Ar170, q170, S170, H170, G170⟩ := (id V167)
  have in170 : ¬ ((56 : Int32) < 0 ∨ cl170.slots.size ≤ ((56 : Int32)).toNatClampNeg) := arf_in S170 (show ((56 : Int32)).toInt = ((56 : Nat) : Int) by decide) (by decide)
  obtain ⟨T170, h170, X170, e170, W170, st170⟩ := stB X167 hx hZ e167 Ar170 (j := (56 : Int32)) in170 (g := (mkF m 284 #[.val (.int (3 : Int32))] [(.int (3 : Int32)), (.int (56 : Int32)), (.ref b1), (.ref b1)])) rfl rfl (hb hby d1_284)
  have V170 := Arf.set Ar170 q170 S170 H170 G170 (ow_fits_byte (by decide)) (arf_ix (show ((56 : Int32)).toInt = ((56 : Nat) : Int) by decide) ▸ (ow_wr_byte (by decide) W170)) (by decide)
  replace V170 : Arf Z h170 b1 k1 .byte 66 (fun x => if x < 57 then (.int (3 : Int32)) else (.int (0 : Int32))) := V170.congr (fun i _ => own_fill _ _ 56 i)
  have f171 := f168.wr W170
  have K170 : Keep h0 h170 [] := K167.wr W170 (Or.inr sz_b1)
  have O170 := O167.wr W170 ge_b1
  have N170 := Fr.snoc X170 N167 ge_b1
  refine stp st170 ?_
  show Go p e below T170 (mkF m 285 #[.val (.int (3 : Int32))] [(.ref b1)]) _
  refine stp (fun _ => XS.dup X170.here hx rfl (hb hby d1_285) rfl rfl) ?_
  show Go p e below T170 (mkF m 286 #[.val (.int (3 : Int32))] [(.ref b1), (.ref b1)]) _
  refine stp (fun _ => XS.bipush X170.here hx rfl (hb hby d1_286)) ?_
  show Go p e below T170 (mkF m 288 #[.val (.int (3 : Int32))] [(.int (57 : Int32)), (.ref b1), (.ref b1)]) _
  refine stp (fun _ => XS.iloadN X170.here hx rfl (hb hby d1_288) rfl) ?_
  show Go p e below T170 (mkF m 289 #[.val (.int (3 : Int32))] [(.int (3 : Int32)), (.int (57 : Int32)), (.ref b1), (.ref b1)]) _
  obtain ⟨cl173, Ar173, q173, S173, H173, G173⟩ := (id V170)
  have in173 : ¬ ((57 : Int32) < 0 ∨ cl173.slots.size ≤ ((57 : Int32)).toNatClampNeg) := arf_in S173 (show ((57 : Int32)).toInt = ((57 : Nat) : Int) by decide) (by decide)
  obtain ⟨T173, h173, X173, e173, W173, st173⟩ := stB X170 hx hZ e170 Ar173 (j := (57 : Int32)) in173 (g := (mkF m 289 #[.val (.int (3 : Int32))] [(.int (3 : Int32)), (.int (57 : Int32)), (.ref b1), (.ref b1)])) rfl rfl (hb hby d1_289)
  have V173 := Arf.set Ar173 q173 S173 H173 G173 (ow_fits_byte (by decide)) (arf_ix (show ((57 : Int32)).toInt = ((57 : Nat) : Int) by decide) ▸ (ow_wr_byte (by decide) W173)) (by decide)
  replace V173 : Arf Z h173 b1 k1 .byte 66 (fun x => if x < 58 then (.int (3 : Int32)) else (.int (0 : Int32))) := V173.congr (fun i _ => own_fill _ _ 57 i)
  have f174 := f171.wr W173
  have K173 : Keep h0 h173 [] := K170.wr W173 (Or.inr sz_b1)
  have O173 := O170.wr W173 ge_b1
  have N173 := Fr.snoc X173 N170 ge_b1
  refine stp st173 ?_
  show Go p e below T173 (mkF m 290 #[.val (.int (3 : Int32))] [(.ref b1)]) _
  refine stp (fun _ => XS.dup X173.here hx rfl (hb hby d1_290) rfl rfl) ?_
  show Go p e below T173 (mkF m 291 #[.val (.int (3 : Int32))] [(.ref b1), (.ref b1)]) _
  refine stp (fun _ => XS.bipush X173.here hx rfl (hb hby d1_291)) ?_
  show Go p e below T173 (mkF m 293 #[.val (.int (3 : Int32))] [(.int (58 : Int32)), (.ref b1), (.ref b1)]) _
  refine stp (fun _ => XS.iloadN X173.here hx rfl (hb hby d1_293) rfl) ?_
  show Go p e below T173 (mkF m 294 #[.val (.int (3 : Int32))] [(.int (3 : Int32)), (.int (58 : Int32)), (.ref b1), (.ref b1)]) _
  obtain ⟨cl176, Ar176, q176, S176, H176, G176⟩ := (id V173)
  have in176 : ¬ ((58 : Int32) < 0 ∨ cl176.slots.size ≤ ((58 : Int32)).toNatClampNeg) := arf_in S176 (show ((58 : Int32)).toInt = ((58 : Nat) : Int) by decide) (by decide)
  obtain ⟨T176, h176, X176, e176, W176, st176⟩ := stB X173 hx hZ e173 Ar176 (j := (58 : Int32)) in176 (g := (mkF m 294 #[.val (.int (3 : Int32))] [(.int (3 : Int32)), (.int (58 : Int32)), (.ref b1), (.ref b1)])) rfl rfl (hb hby d1_294)
  have V176 := Arf.set Ar176 q176 S176 H176 G176 (ow_fits_byte (by decide)) (arf_ix (show ((58 : Int32)).toInt = ((58 : Nat) : Int) by decide) ▸ (ow_wr_byte (by decide) W176)) (by decide)
  replace V176 : Arf Z h176 b1 k1 .byte 66 (fun x => if x < 59 then (.int (3 : Int32)) else (.int (0 : Int32))) := V176.congr (fun i _ => own_fill _ _ 58 i)
  have f177 := f174.wr W176
  have K176 : Keep h0 h176 [] := K173.wr W176 (Or.inr sz_b1)
  have O176 := O173.wr W176 ge_b1
  have N176 := Fr.snoc X176 N173 ge_b1
  refine stp st176 ?_
  show Go p e below T176 (mkF m 295 #[.val (.int (3 : Int32))] [(.ref b1)]) _
  refine stp (fun _ => XS.dup X176.here hx rfl (hb hby d1_295) rfl rfl) ?_
  show Go p e below T176 (mkF m 296 #[.val (.int (3 : Int32))] [(.ref b1), (.ref b1)]) _
  refine stp (fun _ => XS.bipush X176.here hx rfl (hb hby d1_296)) ?_
  show Go p e below T176 (mkF m 298 #[.val (.int (3 : Int32))] [(.int (59 : Int32)), (.ref b1), (.ref b1)]) _
  refine stp (fun _ => XS.iloadN X176.here hx rfl (hb hby d1_298) rfl) ?_
  show Go p e below T176 (mkF m 299 #[.val (.int (3 : Int32))] [(.int (3 : Int32)), (.int (59 : Int32)), (.ref b1), (.ref b1)]) _
  obtain ⟨cl179, Ar179, q179, S179, H179, G179⟩ := (id V176)
  have in179 : ¬ ((59 : Int32) < 0 ∨ cl179.slots.size ≤ ((59 : Int32)).toNatClampNeg) := arf_in S179 (show ((59 : Int32)).toInt = ((59 : Nat) : Int) by decide) (by decide)
  obtain ⟨T179, h179, X179, e179, W179, st179⟩ := stB X176 hx hZ e176 Ar179 (j := (59 : Int32)) in179 (g := (mkF m 299 #[.val (.int (3 : Int32))] [(.int (3 : Int32)), (.int (59 : Int32)), (.ref b1), (.ref b1)])) rfl rfl (hb hby d1_299)
  have V179 := Arf.set Ar179 q179 S179 H179 G179 (ow_fits_byte (by decide)) (arf_ix (show ((59 : Int32)).toInt = ((59 : Nat) : Int) by decide) ▸ (ow_wr_byte (by decide) W179)) (by decide)
  replace V179 : Arf Z h179 b1 k1 .byte 66 (fun x => if x < 60 then (.int (3 : Int32)) else (.int (0 : Int32))) := V179.congr (fun i _ => own_fill _ _ 59 i)
  have f180 := f177.wr W179
  have K179 : Keep h0 h179 [] := K176.wr W179 (Or.inr sz_b1)
  have O179 := O176.wr W179 ge_b1
  have N179 := Fr.snoc X179 N176 ge_b1
  refine stp st179 ?_
  show Go p e below T179 (mkF m 300 #[.val (.int (3 : Int32))] [(.ref b1)]) _
  refine stp (fun _ => XS.dup X179.here hx rfl (hb hby d1_300) rfl rfl) ?_
  show Go p e below T179 (mkF m 301 #[.val (.int (3 : Int32))] [(.ref b1), (.ref b1)]) _
  refine stp (fun _ => XS.bipush X179.here hx rfl (hb hby d1_301)) ?_
  show Go p e below T179 (mkF m 303 #[.val (.int (3 : Int32))] [(.int (60 : Int32)), (.ref b1), (.ref b1)]) _
  refine stp (fun _ => XS.iloadN X179.here hx rfl (hb hby d1_303) rfl) ?_
  show Go p e below T179 (mkF m 304 #[.val (.int (3 : Int32))] [(.int (3 : Int32)), (.int (60 : Int32)), (.ref b1), (.ref b1)]) _
  obtain ⟨cl182, Ar182, q182, S182, H182, G182⟩ := (id V179)
  have in182 : ¬ ((60 : Int32) < 0 ∨ cl182.slots.size ≤ ((60 : Int32)).toNatClampNeg) := arf_in S182 (show ((60 : Int32)).toInt = ((60 : Nat) : Int) by decide) (by decide)
  obtain ⟨T182, h182, X182, e182, W182, st182⟩ := stB X179 hx hZ e179 Ar182 (j := (60 : Int32)) in182 (g := (mkF m 304 #[.val (.int (3 : Int32))] [(.int (3 : Int32)), (.int (60 : Int32)), (.ref b1), (.ref b1)])) rfl rfl (hb hby d1_304)
  have V182 := Arf.set Ar182 q182 S182 H182 G182 (ow_fits_byte (by decide)) (arf_ix (show ((60 : Int32)).toInt = ((60 : Nat) : Int) by decide) ▸ (ow_wr_byte (by decide) W182)) (by decide)
  replace V182 : Arf Z h182 b1 k1 .byte 66 (fun x => if x < 61 then (.int (3 : Int32)) else (.int (0 : Int32))) := V182.congr (fun i _ => own_fill _ _ 60 i)
  have f183 := f180.wr W182
  have K182 : Keep h0 h182 [] := K179.wr W182 (Or.inr sz_b1)
  have O182 := O179.wr W182 ge_b1
  have N182 := Fr.snoc X182 N179 ge_b1
  refine stp st182 ?_
  show Go p e below T182 (mkF m 305 #[.val (.int (3 : Int32))] [(.ref b1)]) _
  refine stp (fun _ => XS.dup X182.here hx rfl (hb hby d1_305) rfl rfl) ?_
  show Go p e below T182 (mkF m 306 #[.val (.int (3 : Int32))] [(.ref b1), (.ref b1)]) _
  refine stp (fun _ => XS.bipush X182.here hx rfl (hb hby d1_306)) ?_
  show Go p e below T182 (mkF m 308 #[.val (.int (3 : Int32))] [(.int (61 : Int32)), (.ref b1), (.ref b1)]) _
  refine stp (fun _ => XS.iloadN X182.here hx rfl (hb hby d1_308) rfl) ?_
  show Go p e below T182 (mkF m 309 #[.val (.int (3 : Int32))] [(.int (3 : Int32)), (.int (61 : Int32)), (.ref b1), (.ref b1)]) _
  obtain ⟨cl185, Ar185, q185, S185, H185, G185⟩ := (id V182)
  have in185 : ¬ ((61 : Int32) < 0 ∨ cl185.slots.size ≤ ((61 : Int32)).toNatClampNeg) := arf_in S185 (show ((61 : Int32)).toInt = ((61 : Nat) : Int) by decide) (by decide)
  obtain ⟨T185, h185, X185, e185, W185, st185⟩ := stB X182 hx hZ e182 Ar185 (j := (61 : Int32)) in185 (g := (mkF m 309 #[.val (.int (3 : Int32))] [(.int (3 : Int32)), (.int (61 : Int32)), (.ref b1), (.ref b1)])) rfl rfl (hb hby d1_309)
  have V185 := Arf.set Ar185 q185 S185 H185 G185 (ow_fits_byte (by decide)) (arf_ix (show ((61 : Int32)).toInt = ((61 : Nat) : Int) by decide) ▸ (ow_wr_byte (by decide) W185)) (by decide)
  replace V185 : Arf Z h185 b1 k1 .byte 66 (fun x => if x < 62 then (.int (3 : Int32)) else (.int (0 : Int32))) := V185.congr (fun i _ => own_fill _ _ 61 i)
  have f186 := f183.wr W185
  have K185 : Keep h0 h185 [] := K182.wr W185 (Or.inr sz_b1)
  have O185 := O182.wr W185 ge_b1
  have N185 := Fr.snoc X185 N182 ge_b1
  refine stp st185 ?_
  show Go p e below T185 (mkF m 310 #[.val (.int (3 : Int32))] [(.ref b1)]) _
  refine stp (fun _ => XS.dup X185.here hx rfl (hb hby d1_310) rfl rfl) ?_
  show Go p e below T185 (mkF m 311 #[.val (.int (3 : Int32))] [(.ref b1), (.ref b1)]) _
  refine stp (fun _ => XS.bipush X185.here hx rfl (hb hby d1_311)) ?_
  show Go p e below T185 (mkF m 313 #[.val (.int (3 : Int32))] [(.int (62 : Int32)), (.ref b1), (.ref b1)]) _
  refine stp (fun _ => XS.iloadN X185.here hx rfl (hb hby d1_313) rfl) ?_
  show Go p e below T185 (mkF m 314 #[.val (.int (3 : Int32))] [(.int (3 : Int32)), (.int (62 : Int32)), (.ref b1), (.ref b1)]) _
  obtain ⟨cl188, Ar188, q188, S188, H188, G188⟩ := (id V185)
  have in188 : ¬ ((62 : Int32) < 0 ∨ cl188.slots.size ≤ ((62 : Int32)).toNatClampNeg) := arf_in S188 (show ((62 : Int32)).toInt = ((62 : Nat) : Int) by decide) (by decide)
  obtain ⟨T188, h188, X188, e188, W188, st188⟩ := stB X185 hx hZ e185 Ar188 (j := (62 : Int32)) in188 (g := (mkF m 314 #[.val (.int (3 : Int32))] [(.int (3 : Int32)), (.int (62 : Int32)), (.ref b1), (.ref b1)])) rfl rfl (hb hby d1_314)
  have V188 := Arf.set Ar188 q188 S188 H188 G188 (ow_fits_byte (by decide)) (arf_ix (show ((62 : Int32)).toInt = ((62 : Nat) : Int) by decide) ▸ (ow_wr_byte (by decide) W188)) (by decide)
  replace V188 : Arf Z h188 b1 k1 .byte 66 (fun x => if x < 63 then (.int (3 : Int32)) else (.int (0 : Int32))) := V188.congr (fun i _ => own_fill _ _ 62 i)
  have f189 := f186.wr W188
  have K188 : Keep h0 h188 [] := K185.wr W188 (Or.inr sz_b1)
  have O188 := O185.wr W188 ge_b1
  have N188 := Fr.snoc X188 N185 ge_b1
  refine stp st188 ?_
  show Go p e below T188 (mkF m 315 #[.val (.int (3 : Int32))] [(.ref b1)]) _
  refine stp (fun _ => XS.dup X188.here hx rfl (hb hby d1_315) rfl rfl) ?_
  show Go p e below T188 (mkF m 316 #[.val (.int (3 : Int32))] [(.ref b1), (.ref b1)]) _
  refine stp (fun _ => XS.bipush X188.here hx rfl (hb hby d1_316)) ?_
  show Go p e below T188 (mkF m 318 #[.val (.int (3 : Int32))] [(.int (63 : Int32)), (.ref b1), (.ref b1)]) _
  refine stp (fun _ => XS.iloadN X188.here hx rfl (hb hby d1_318) rfl) ?_
  show Go p e below T188 (mkF m 319 #[.val (.int (3 : Int32))] [(.int (3 : Int32)), (.int (63 : Int32)), (.ref b1), (.ref b1)]) _
  obtain ⟨cl191, Ar191, q191, S191, H191, G191⟩ := (id V188)
  have in191 : ¬ ((63 : Int32) < 0 ∨ cl191.slots.size ≤ ((63 : Int32)).toNatClampNeg) := arf_in S191 (show ((63 : Int32)).toInt = ((63 : Nat) : Int) by decide) (by decide)
  obtain ⟨T191, h191, X191, e191, W191, st191⟩ := stB X188 hx hZ e188 Ar191 (j := (63 : Int32)) in191 (g := (mkF m 319 #[.val (.int (3 : Int32))] [(.int (3 : Int32)), (.int (63 : Int32)), (.ref b1), (.ref b1)])) rfl rfl (hb hby d1_319)
  have V191 := Arf.set Ar191 q191 S191 H191 G191 (ow_fits_byte (by decide)) (arf_ix (show ((63 : Int32)).toInt = ((63 : Nat) : Int) by decide) ▸ (ow_wr_byte (by decide) W191)) (by decide)
  replace V191 : Arf Z h191 b1 k1 .byte 66 (fun x => if x < 64 then (.int (3 : Int32)) else (.int (0 : Int32))) := V191.congr (fun i _ => own_fill _ _ 63 i)
  have f192 := f189.wr W191
  have K191 : Keep h0 h191 [] := K188.wr W191 (Or.inr sz_b1)
  have O191 := O188.wr W191 ge_b1
  have N191 := Fr.snoc X191 N188 ge_b1
  refine stp st191 ?_
  show Go p e below T191 (mkF m 320 #[.val (.int (3 : Int32))] [(.ref b1)]) _
  refine stp (fun _ => XS.dup X191.here hx rfl (hb hby d1_320) rfl rfl) ?_
  show Go p e below T191 (mkF m 321 #[.val (.int (3 : Int32))] [(.ref b1), (.ref b1)]) _
  refine stp (fun _ => XS.bipush X191.here hx rfl (hb hby d1_321)) ?_
  show Go p e below T191 (mkF m 323 #[.val (.int (3 : Int32))] [(.int (64 : Int32)), (.ref b1), (.ref b1)]) _
  refine stp (fun _ => XS.iloadN X191.here hx rfl (hb hby d1_323) rfl) ?_
  show Go p e below T191 (mkF m 324 #[.val (.int (3 : Int32))] [(.int (3 : Int32)), (.int (64 : Int32)), (.ref b1), (.ref b1)]) _
  obtain ⟨cl194, Ar194, q194, S194, H194, G194⟩ := (id V191)
  have in194 : ¬ ((64 : Int32) < 0 ∨ cl194.slots.size ≤ ((64 : Int32)).toNatClampNeg) := arf_in S194 (show ((64 : Int32)).toInt = ((64 : Nat) : Int) by decide) (by decide)
  obtain ⟨T194, h194, X194, e194, W194, st194⟩ := stB X191 hx hZ e191 Ar194 (j := (64 : Int32)) in194 (g := (mkF m 324 #[.val (.int (3 : Int32))] [(.int (3 : Int32)), (.int (64 : Int32)), (.ref b1), (.ref b1)])) rfl rfl (hb hby d1_324)
  have V194 := Arf.set Ar194 q194 S194 H194 G194 (ow_fits_byte (by decide)) (arf_ix (show ((64 : Int32)).toInt = ((64 : Nat) : Int) by decide) ▸ (ow_wr_byte (by decide) W194)) (by decide)
  replace V194 : Arf Z h194 b1 k1 .byte 66 (fun x => if x < 65 then (.int (3 : Int32)) else (.int (0 : Int32))) := V194.congr (fun i _ => own_fill _ _ 64 i)
  have f195 := f192.wr W194
  have K194 : Keep h0 h194 [] := K191.wr W194 (Or.inr sz_b1)
  have O194 := O191.wr W194 ge_b1
  have N194 := Fr.snoc X194 N191 ge_b1
  refine stp st194 ?_
  show Go p e below T194 (mkF m 325 #[.val (.int (3 : Int32))] [(.ref b1)]) _
  refine stp (fun _ => XS.dup X194.here hx rfl (hb hby d1_325) rfl rfl) ?_
  show Go p e below T194 (mkF m 326 #[.val (.int (3 : Int32))] [(.ref b1), (.ref b1)]) _
  refine stp (fun _ => XS.bipush X194.here hx rfl (hb hby d1_326)) ?_
  show Go p e below T194 (mkF m 328 #[.val (.int (3 : Int32))] [(.int (65 : Int32)), (.ref b1), (.ref b1)]) _
  refine stp (fun _ => XS.iloadN X194.here hx rfl (hb hby d1_328) rfl) ?_
  show Go p e below T194 (mkF m 329 #[.val (.int (3 : Int32))] [(.int (3 : Int32)), (.int (65 : Int32)), (.ref b1), (.ref b1)]) _
  obtain ⟨cl197, Ar197, q197, S197, H197, G197⟩ := (id V194)
  have in197 : ¬ ((65 : Int32) < 0 ∨ cl197.slots.size ≤ ((65 : Int32)).toNatClampNeg) := arf_in S197 (show ((65 : Int32)).toInt = ((65 : Nat) : Int) by decide) (by decide)
  obtain ⟨T197, h197, X197, e197, W197, st197⟩ := stB X194 hx hZ e194 Ar197 (j := (65 : Int32)) in197 (g := (mkF m 329 #[.val (.int (3 : Int32))] [(.int (3 : Int32)), (.int (65 : Int32)), (.ref b1), (.ref b1)])) rfl rfl (hb hby d1_329)
  have V197 := Arf.set Ar197 q197 S197 H197 G197 (ow_fits_byte (by decide)) (arf_ix (show ((65 : Int32)).toInt = ((65 : Nat) : Int) by decide) ▸ (ow_wr_byte (by decide) W197)) (by decide)
  replace V197 : Arf Z h197 b1 k1 .byte 66 (fun _ => (.int (3 : Int32))) := V197.congr (fun i h => own_fillN _ _ i h)
  have f198 := f195.wr W197
  have K197 : Keep h0 h197 [] := K194.wr W197 (Or.inr sz_b1)
  have O197 := O194.wr W197 ge_b1
  have N197 := Fr.snoc X197 N194 ge_b1
  refine stp st197 ?_
  show Go p e below T197 (mkF m 330 #[.val (.int (3 : Int32))] [(.ref b1)]) _
  refine outA X197 hx hret rfl rfl (hb hby d1_330) hlk (by decide) (by decide) ?_
  rw [e197]
  exact ⟨b1, k1, rfl, N197, K197, ⟨ge_b1, sz_b1⟩, f198, V197⟩
theorem d3_0 : decode prog_68_method_1_code 0 = .ok (.aload_n 0, 1) := by decide +kernel
theorem d3_1 : decode prog_68_method_1_code 1 = .ok (.invokespecial 3, 3) := by decide +kernel
theorem d3_4 : decode prog_68_method_1_code 4 = .ok (.aload_n 0, 1) := by decide +kernel
theorem d3_5 : decode prog_68_method_1_code 5 = .ok (.aload_n 1, 1) := by decide +kernel
theorem d3_6 : decode prog_68_method_1_code 6 = .ok (.putfield 9, 3) := by decide +kernel
theorem d3_9 : decode prog_68_method_1_code 9 = .ok (.aload_n 0, 1) := by decide +kernel
theorem d3_10 : decode prog_68_method_1_code 10 = .ok (.aload_n 2, 1) := by decide +kernel
theorem d3_11 : decode prog_68_method_1_code 11 = .ok (.putfield 13, 3) := by decide +kernel
theorem d3_14 : decode prog_68_method_1_code 14 = .ok (.aload_n 0, 1) := by decide +kernel
theorem d3_15 : decode prog_68_method_1_code 15 = .ok (.aload_n 3, 1) := by decide +kernel
theorem d3_16 : decode prog_68_method_1_code 16 = .ok (.putfield 17, 3) := by decide +kernel
theorem d3_19 : decode prog_68_method_1_code 19 = .ok (.return_, 1) := by decide +kernel
theorem ef_rm_init (m : MethodId) (t : Addr) (va : Addr) (vf : Addr) (vg : Addr)  : entryFrame m #[(.ref t), (.ref va), (.ref vf), (.ref vg)] 4 = mkF m 0 #[.val (.ref t), .val (.ref va), .val (.ref vf), .val (.ref vg)] [] := by first | (simp [entryFrame, mkF, argsToLocals, Value.category]; done) | rfl
def Q_rm_init (Z : State) (t : Addr) (va : Addr) (vf : Addr) (vg : Addr)  (h0 : Heap) (n0 : Nat) (v : Option Value) (h : Heap) (L : List Loc) : Prop := v = none ∧ Fr n0 L ∧ Keep h0 h [t] ∧ Exa Z h t "com/example/brisk_dedup/briskdedup/engine/Sides" ∧ Fld Z h t "com/example/brisk_dedup/briskdedup/engine/Sides" "sides" "[B" (.ref va) ∧ Fld Z h t "com/example/brisk_dedup/briskdedup/engine/Sides" "ofFirst" "[J" (.ref vf) ∧ Fld Z h t "com/example/brisk_dedup/briskdedup/engine/Sides" "ofSecond" "[J" (.ref vg)
theorem pn_1_ : plainName "com/example/brisk_dedup/briskdedup/engine/Sides" = true := by first | (simp [plainName, overriddenIn]; done) | decide +kernel
theorem pn_1 : plainFor (⟨"com/example/brisk_dedup/briskdedup/engine/Sides", "<init>", "([B[J[J)V"⟩ : MethodName) = true := plainFor_of_name pn_1_
set_option maxRecDepth 65536 in
set_option maxHeartbeats 40000000 in
theorem rm_init (l : Launch) (Z : State) (a0 : Array Value) (hw : ∀ d ∈ tables_1, d.before a0 Z = true) (ws : List Jvm.Cond) (t : Addr) (va : Addr) (vf : Addr) (vg : Addr)  (h0 : Heap) (n0 : Nat) (O0 : Old Z n0 h0) (E_t : Exa Z h0 t "com/example/brisk_dedup/briskdedup/engine/Sides") (F_t_sides : Fld Z h0 t "com/example/brisk_dedup/briskdedup/engine/Sides" "sides" "[B" .null) (F_t_ofFirst : Fld Z h0 t "com/example/brisk_dedup/briskdedup/engine/Sides" "ofFirst" "[J" .null) (F_t_ofSecond : Fld Z h0 t "com/example/brisk_dedup/briskdedup/engine/Sides" "ofSecond" "[J" .null) (ge_t : n0 ≤ t) :
    MetFree l (⟨"com/example/brisk_dedup/briskdedup/engine/Sides", "<init>", "([B[J[J)V"⟩ : MethodName) (head1 (Jvm.Cond.code (⟨"com/example/brisk_dedup/briskdedup/engine/Sides", "<init>", "([B[J[J)V"⟩ : MethodName) prog_68_method_1_code 4 none :: ws) ({ frames := 1, cells := 0, slots := 0, locals := 12 } : Room)) (fun args_ U => args_ = #[(.ref t), (.ref va), (.ref vf), (.ref vg)] ∧ Z.Warmed39 U.vm ∧ U.heap = h0) (fun _ _ _ _ _ => True) (fun _ U o U' => ∃ v L, o = .returned v ∧ (Q_rm_init Z t va vf vg h0 n0) v U'.heap L ∧ FrameEnd U o U' L ({ frames := 1, cells := 0, slots := 0, locals := 12 } : Room).cells ({ frames := 1, cells := 0, slots := 0, locals := 12 } : Room).slots) := by
  refine start (Q := (Q_rm_init Z t va vf vg h0 n0)) pn_1 ?_
  intro p e s m below meth c T0 X0 hx hby hml hown hnm hret hlk hZ e0
  replace hown : s.vm.findClass "com/example/brisk_dedup/briskdedup/engine/Sides" = some m.cls := hown
  replace hml : c.maxLocals = 4 := hml
  refine goAt (ef_rm_init m t va vf vg ) ?_
  have N0 := Fr.nil n0
  show Go p e below T0 (mkF m 0 #[.val (.ref t), .val (.ref va), .val (.ref vf), .val (.ref vg)] []) _
  refine stp (fun _ => XS.aloadN X0.here hx rfl (hb hby d3_0) rfl rfl) ?_
  show Go p e below T0 (mkF m 1 #[.val (.ref t), .val (.ref va), .val (.ref vf), .val (.ref vg)] [(.ref t)]) _
  obtain ⟨T1, X1, e1, st1⟩ := initO X0 hx hZ hown (hw _ (List.mem_of_getElem? (i := 25) rfl)) (hw _ (List.mem_of_getElem? (i := 26) rfl)) (hw _ (List.mem_of_getElem? (i := 27) rfl)) e0 (g := (mkF m 1 #[.val (.ref t), .val (.ref va), .val (.ref vf), .val (.ref vg)] [(.ref t)])) rfl (by rw [hml]; rfl) rfl (hb hby d3_1) (by decide) (W := 0) (by show 2 * 0 + _ ≤ _; exact Nat.le_of_eq rfl) (by decide)
  refine stp st1 ?_
  show Go p e below T1 (mkF m 4 #[.val (.ref t), .val (.ref va), .val (.ref vf), .val (.ref vg)] []) _
  refine stp (fun _ => XS.aloadN X1.here hx rfl (hb hby d3_4) rfl rfl) ?_
  show Go p e below T1 (mkF m 5 #[.val (.ref t), .val (.ref va), .val (.ref vf), .val (.ref vg)] [(.ref t)]) _
  refine stp (fun _ => XS.aloadN X1.here hx rfl (hb hby d3_5) rfl rfl) ?_
  show Go p e below T1 (mkF m 6 #[.val (.ref t), .val (.ref va), .val (.ref vf), .val (.ref vg)] [(.ref va), (.ref t)]) _
  obtain ⟨T2, h2, X2, e2, W2, st2⟩ := putF X1 hx hZ hown (host := "") (Or.inl (hw _ (List.mem_of_getElem? (i := 28) rfl))) Via.refl e1 F_t_sides E_t (Or.inr ⟨(hw _ (List.mem_of_getElem? (i := 29) rfl)), rfl, hnm⟩) (hw _ (List.mem_of_getElem? (i := 12) rfl)) (ty := (.array .byte)) (by decide) rfl rfl (g := (mkF m 6 #[.val (.ref t), .val (.ref va), .val (.ref vf), .val (.ref vg)] [(.ref va), (.ref t)])) rfl rfl (hb hby d3_6)
  have Fw2 := F_t_sides.same W2
  have f3 := E_t.wr W2
  have f5 := F_t_ofFirst.other W2 (Or.inr (slot_ne (Or.inr (hw _ (List.mem_of_getElem? (i := 31) rfl))) (Or.inr (hw _ (List.mem_of_getElem? (i := 29) rfl))) (by decide) (t := (.array .long)) (t' := (.array .byte)) (by decide) (by decide)))
  have f6 := F_t_ofSecond.other W2 (Or.inr (slot_ne (Or.inr (hw _ (List.mem_of_getElem? (i := 33) rfl))) (Or.inr (hw _ (List.mem_of_getElem? (i := 29) rfl))) (by decide) (t := (.array .long)) (t' := (.array .byte)) (by decide) (by decide)))
  have K2 : Keep h0 h2 [t] := (Keep.refl h0 [t]).wr W2 (Or.inl (List.mem_of_getElem? (i := 0) rfl))
  have O2 := O0.wr W2 ge_t
  have N2 := Fr.snoc X2 N0 ge_t
  refine stp st2 ?_
  show Go p e below T2 (mkF m 9 #[.val (.ref t), .val (.ref va), .val (.ref vf), .val (.ref vg)] []) _
  refine stp (fun _ => XS.aloadN X2.here hx rfl (hb hby d3_9) rfl rfl) ?_
  show Go p e below T2 (mkF m 10 #[.val (.ref t), .val (.ref va), .val (.ref vf), .val (.ref vg)] [(.ref t)]) _
  refine stp (fun _ => XS.aloadN X2.here hx rfl (hb hby d3_10) rfl rfl) ?_
  show Go p e below T2 (mkF m 11 #[.val (.ref t), .val (.ref va), .val (.ref vf), .val (.ref vg)] [(.ref vf), (.ref t)]) _
  obtain ⟨T7, h7, X7, e7, W7, st7⟩ := putF X2 hx hZ hown (host := "") (Or.inl (hw _ (List.mem_of_getElem? (i := 30) rfl))) Via.refl e2 f5 f3 (Or.inr ⟨(hw _ (List.mem_of_getElem? (i := 31) rfl)), rfl, hnm⟩) (hw _ (List.mem_of_getElem? (i := 12) rfl)) (ty := (.array .long)) (by decide) rfl rfl (g := (mkF m 11 #[.val (.ref t), .val (.ref va), .val (.ref vf), .val (.ref vg)] [(.ref vf), (.ref t)])) rfl rfl (hb hby d3_11)
  have Fw7 := f5.same W7
  have f8 := f3.wr W7
  have f9 := Fw2.other W7 (Or.inr (slot_ne (Or.inr (hw _ (List.mem_of_getElem? (i := 29) rfl))) (Or.inr (hw _ (List.mem_of_getElem? (i := 31) rfl))) (by decide) (t := (.array .byte)) (t' := (.array .long)) (by decide) (by decide)))
  have f11 := f6.other W7 (Or.inr (slot_ne (Or.inr (hw _ (List.mem_of_getElem? (i := 33) rfl))) (Or.inr (hw _ (List.mem_of_getElem? (i := 31) rfl))) (by decide) (t := (.array .long)) (t' := (.array .long)) (by decide) (by decide)))
  have K7 : Keep h0 h7 [t] := K2.wr W7 (Or.inl (List.mem_of_getElem? (i := 0) rfl))
  have O7 := O2.wr W7 ge_t
  have N7 := Fr.snoc X7 N2 ge_t
  refine stp st7 ?_
  show Go p e below T7 (mkF m 14 #[.val (.ref t), .val (.ref va), .val (.ref vf), .val (.ref vg)] []) _
  refine stp (fun _ => XS.aloadN X7.here hx rfl (hb hby d3_14) rfl rfl) ?_
  show Go p e below T7 (mkF m 15 #[.val (.ref t), .val (.ref va), .val (.ref vf), .val (.ref vg)] [(.ref t)]) _
  refine stp (fun _ => XS.aloadN X7.here hx rfl (hb hby d3_15) rfl rfl) ?_
  show Go p e below T7 (mkF m 16 #[.val (.ref t), .val (.ref va), .val (.ref vf), .val (.ref vg)] [(.ref vg), (.ref t)]) _
  obtain ⟨T12, h12, X12, e12, W12, st12⟩ := putF X7 hx hZ hown (host := "") (Or.inl (hw _ (List.mem_of_getElem? (i := 32) rfl))) Via.refl e7 f11 f8 (Or.inr ⟨(hw _ (List.mem_of_getElem? (i := 33) rfl)), rfl, hnm⟩) (hw _ (List.mem_of_getElem? (i := 12) rfl)) (ty := (.array .long)) (by decide) rfl rfl (g := (mkF m 16 #[.val (.ref t), .val (.ref va), .val (.ref vf), .val (.ref vg)] [(.ref vg), (.ref t)])) rfl rfl (hb hby d3_16)
  have Fw12 := f11.same W12
  have f13 := f8.wr W12
  have f14 := f9.other W12 (Or.inr (slot_ne (Or.inr (hw _ (List.mem_of_getElem? (i := 29) rfl))) (Or.inr (hw _ (List.mem_of_getElem? (i := 33) rfl))) (by decide) (t := (.array .byte)) (t' := (.array .long)) (by decide) (by decide)))
  have f15 := Fw7.other W12 (Or.inr (slot_ne (Or.inr (hw _ (List.mem_of_getElem? (i := 31) rfl))) (Or.inr (hw _ (List.mem_of_getElem? (i := 33) rfl))) (by decide) (t := (.array .long)) (t' := (.array .long)) (by decide) (by decide)))
  have K12 : Keep h0 h12 [t] := K7.wr W12 (Or.inl (List.mem_of_getElem? (i := 0) rfl))
  have O12 := O7.wr W12 ge_t
  have N12 := Fr.snoc X12 N7 ge_t
  refine stp st12 ?_
  show Go p e below T12 (mkF m 19 #[.val (.ref t), .val (.ref va), .val (.ref vf), .val (.ref vg)] []) _
  refine outV X12 hx hret (hb hby d3_19) hlk (by decide) (by decide) ?_
  rw [e12]
  exact ⟨rfl, N12, K12, f13, f14, f15, Fw12⟩
theorem d2_0 : decode prog_68_method_3_code 0 = .ok (.iconst 1, 1) := by decide +kernel
theorem d2_1 : decode prog_68_method_3_code 1 = .ok (.istore_n 1, 1) := by decide +kernel
theorem d2_2 : decode prog_68_method_3_code 2 = .ok (.aload_n 0, 1) := by decide +kernel
theorem d2_3 : decode prog_68_method_3_code 3 = .ok (.arraylength, 1) := by decide +kernel
theorem d2_4 : decode prog_68_method_3_code 4 = .ok (.bipush 63, 2) := by decide +kernel
theorem d2_6 : decode prog_68_method_3_code 6 = .ok (.iadd, 1) := by decide +kernel
theorem d2_7 : decode prog_68_method_3_code 7 = .ok (.bipush 6, 2) := by decide +kernel
theorem d2_9 : decode prog_68_method_3_code 9 = .ok (.iushr, 1) := by decide +kernel
theorem d2_10 : decode prog_68_method_3_code 10 = .ok (.newarray .long, 2) := by decide +kernel
theorem d2_12 : decode prog_68_method_3_code 12 = .ok (.astore_n 2, 1) := by decide +kernel
theorem d2_13 : decode prog_68_method_3_code 13 = .ok (.aload_n 2, 1) := by decide +kernel
theorem d2_14 : decode prog_68_method_3_code 14 = .ok (.arraylength, 1) := by decide +kernel
theorem d2_15 : decode prog_68_method_3_code 15 = .ok (.newarray .long, 2) := by decide +kernel
theorem d2_17 : decode prog_68_method_3_code 17 = .ok (.astore_n 3, 1) := by decide +kernel
theorem d2_18 : decode prog_68_method_3_code 18 = .ok (.iconst 0, 1) := by decide +kernel
theorem d2_19 : decode prog_68_method_3_code 19 = .ok (.istore 4, 2) := by decide +kernel
theorem d2_21 : decode prog_68_method_3_code 21 = .ok (.iload 4, 2) := by decide +kernel
theorem d2_23 : decode prog_68_method_3_code 23 = .ok (.aload_n 0, 1) := by decide +kernel
theorem d2_24 : decode prog_68_method_3_code 24 = .ok (.arraylength, 1) := by decide +kernel
theorem d2_25 : decode prog_68_method_3_code 25 = .ok (.if_icmp .ge 71, 3) := by decide +kernel
theorem d2_96 : decode prog_68_method_3_code 96 = .ok (.iload_n 1, 1) := by decide +kernel
theorem d2_97 : decode prog_68_method_3_code 97 = .ok (.ifCond .eq 9, 3) := by decide +kernel
theorem d2_106 : decode prog_68_method_3_code 106 = .ok (.new 1, 3) := by decide +kernel
theorem d2_109 : decode prog_68_method_3_code 109 = .ok (.dup, 1) := by decide +kernel
theorem d2_110 : decode prog_68_method_3_code 110 = .ok (.aload_n 0, 1) := by decide +kernel
theorem d2_111 : decode prog_68_method_3_code 111 = .ok (.invokevirtual 24, 3) := by decide +kernel
theorem d2_114 : decode prog_68_method_3_code 114 = .ok (.checkcast 25, 3) := by decide +kernel
theorem d2_117 : decode prog_68_method_3_code 117 = .ok (.aload_n 2, 1) := by decide +kernel
theorem d2_118 : decode prog_68_method_3_code 118 = .ok (.aload_n 3, 1) := by decide +kernel
theorem d2_119 : decode prog_68_method_3_code 119 = .ok (.invokespecial 29, 3) := by decide +kernel
theorem pd_0 : parseMethodDescriptor "([B[J[J)V" = some ⟨[(.array .byte), (.array .long), (.array .long)], none⟩ := by decide +kernel
theorem d2_122 : decode prog_68_method_3_code 122 = .ok (.areturn, 1) := by decide +kernel
theorem d2_100 : decode prog_68_method_3_code 100 = .ok (.getstatic 20, 3) := by decide +kernel
theorem d2_103 : decode prog_68_method_3_code 103 = .ok (.goto 19, 3) := by decide +kernel
theorem d2_28 : decode prog_68_method_3_code 28 = .ok (.iload_n 1, 1) := by decide +kernel
theorem d2_29 : decode prog_68_method_3_code 29 = .ok (.aload_n 0, 1) := by decide +kernel
theorem d2_30 : decode prog_68_method_3_code 30 = .ok (.iload 4, 2) := by decide +kernel
theorem d2_32 : decode prog_68_method_3_code 32 = .ok (.baload, 1) := by decide +kernel
theorem d2_33 : decode prog_68_method_3_code 33 = .ok (.iconst 3, 1) := by decide +kernel
theorem d2_34 : decode prog_68_method_3_code 34 = .ok (.if_icmp .ne 7, 3) := by decide +kernel
theorem d2_37 : decode prog_68_method_3_code 37 = .ok (.iconst 1, 1) := by decide +kernel
theorem d2_38 : decode prog_68_method_3_code 38 = .ok (.goto 4, 3) := by decide +kernel
theorem d2_42 : decode prog_68_method_3_code 42 = .ok (.iand, 1) := by decide +kernel
theorem d2_43 : decode prog_68_method_3_code 43 = .ok (.istore_n 1, 1) := by decide +kernel
theorem d2_44 : decode prog_68_method_3_code 44 = .ok (.aload_n 0, 1) := by decide +kernel
theorem d2_45 : decode prog_68_method_3_code 45 = .ok (.iload 4, 2) := by decide +kernel
theorem d2_47 : decode prog_68_method_3_code 47 = .ok (.baload, 1) := by decide +kernel
theorem d2_48 : decode prog_68_method_3_code 48 = .ok (.iconst 1, 1) := by decide +kernel
theorem d2_49 : decode prog_68_method_3_code 49 = .ok (.iand, 1) := by decide +kernel
theorem d2_50 : decode prog_68_method_3_code 50 = .ok (.ifCond .eq 17, 3) := by decide +kernel
theorem d2_67 : decode prog_68_method_3_code 67 = .ok (.aload_n 0, 1) := by decide +kernel
theorem d2_68 : decode prog_68_method_3_code 68 = .ok (.iload 4, 2) := by decide +kernel
theorem d2_70 : decode prog_68_method_3_code 70 = .ok (.baload, 1) := by decide +kernel
theorem d2_71 : decode prog_68_method_3_code 71 = .ok (.iconst 2, 1) := by decide +kernel
theorem d2_72 : decode prog_68_method_3_code 72 = .ok (.iand, 1) := by decide +kernel
theorem d2_73 : decode prog_68_method_3_code 73 = .ok (.ifCond .eq 17, 3) := by decide +kernel
theorem d2_90 : decode prog_68_method_3_code 90 = .ok (.iinc 4 1, 3) := by decide +kernel
theorem d2_93 : decode prog_68_method_3_code 93 = .ok (.goto (-72), 3) := by decide +kernel
theorem d2_76 : decode prog_68_method_3_code 76 = .ok (.aload_n 3, 1) := by decide +kernel
theorem d2_77 : decode prog_68_method_3_code 77 = .ok (.iload 4, 2) := by decide +kernel
theorem d2_79 : decode prog_68_method_3_code 79 = .ok (.bipush 6, 2) := by decide +kernel
theorem d2_81 : decode prog_68_method_3_code 81 = .ok (.iushr, 1) := by decide +kernel
theorem d2_82 : decode prog_68_method_3_code 82 = .ok (.dup2, 1) := by decide +kernel
theorem d2_83 : decode prog_68_method_3_code 83 = .ok (.laload, 1) := by decide +kernel
theorem d2_84 : decode prog_68_method_3_code 84 = .ok (.lconst 1, 1) := by decide +kernel
theorem d2_85 : decode prog_68_method_3_code 85 = .ok (.iload 4, 2) := by decide +kernel
theorem d2_87 : decode prog_68_method_3_code 87 = .ok (.lshl, 1) := by decide +kernel
theorem d2_88 : decode prog_68_method_3_code 88 = .ok (.lor, 1) := by decide +kernel
theorem d2_89 : decode prog_68_method_3_code 89 = .ok (.lastore, 1) := by decide +kernel
theorem d2_53 : decode prog_68_method_3_code 53 = .ok (.aload_n 2, 1) := by decide +kernel
theorem d2_54 : decode prog_68_method_3_code 54 = .ok (.iload 4, 2) := by decide +kernel
theorem d2_56 : decode prog_68_method_3_code 56 = .ok (.bipush 6, 2) := by decide +kernel
theorem d2_58 : decode prog_68_method_3_code 58 = .ok (.iushr, 1) := by decide +kernel
theorem d2_59 : decode prog_68_method_3_code 59 = .ok (.dup2, 1) := by decide +kernel
theorem d2_60 : decode prog_68_method_3_code 60 = .ok (.laload, 1) := by decide +kernel
theorem d2_61 : decode prog_68_method_3_code 61 = .ok (.lconst 1, 1) := by decide +kernel
theorem d2_62 : decode prog_68_method_3_code 62 = .ok (.iload 4, 2) := by decide +kernel
theorem d2_64 : decode prog_68_method_3_code 64 = .ok (.lshl, 1) := by decide +kernel
theorem d2_65 : decode prog_68_method_3_code 65 = .ok (.lor, 1) := by decide +kernel
theorem d2_66 : decode prog_68_method_3_code 66 = .ok (.lastore, 1) := by decide +kernel
theorem d2_41 : decode prog_68_method_3_code 41 = .ok (.iconst 0, 1) := by decide +kernel
theorem ef_rm_of (m : MethodId) (a : Addr)  : entryFrame m #[(.ref a)] 5 = mkF m 0 #[.val (.ref a), .unset, .unset, .unset, .unset] [] := by first | (simp [entryFrame, mkF, argsToLocals, Value.category]; done) | rfl
def Q_rm_of (Z : State) (a : Addr) (k_a : ClassId) (sd : Nat → Int32) (one_ : Addr) (h0 : Heap) (n0 : Nat) (v : Option Value) (h : Heap) (L : List Loc) : Prop := Fr n0 L ∧ Keep h0 h [] ∧ (((∀ x, x < 66 → sd x = 3) ∧ v = some (.ref one_)) ∨ ((¬ ∀ x, x < 66 → sd x = 3) ∧ ∃ (r vb vf vg : Addr) (kb kf kg : ClassId), v = some (.ref r) ∧ (n0 ≤ r ∧ h0.size ≤ r) ∧ (n0 ≤ vb ∧ h0.size ≤ vb) ∧ (n0 ≤ vf ∧ h0.size ≤ vf) ∧ (n0 ≤ vg ∧ h0.size ≤ vg) ∧ Exa Z h r "com/example/brisk_dedup/briskdedup/engine/Sides" ∧ Fld Z h r "com/example/brisk_dedup/briskdedup/engine/Sides" "sides" "[B" (.ref vb) ∧ Fld Z h r "com/example/brisk_dedup/briskdedup/engine/Sides" "ofFirst" "[J" (.ref vf) ∧ Fld Z h r "com/example/brisk_dedup/briskdedup/engine/Sides" "ofSecond" "[J" (.ref vg) ∧ Arf Z h vb kb .byte 66 (fun x => (.int (sd x))) ∧ Arf Z h vf kf .long 2 (fun w => (.long (own_bits 1 sd 66 w))) ∧ Arf Z h vg kg .long 2 (fun w => (.long (own_bits 2 sd 66 w)))))
theorem pn_2_ : plainName "com/example/brisk_dedup/briskdedup/engine/Sides" = true := by first | (simp [plainName, overriddenIn]; done) | decide +kernel
theorem pn_2 : plainFor (⟨"com/example/brisk_dedup/briskdedup/engine/Sides", "of", "([B)Lcom/example/brisk_dedup/briskdedup/engine/Sides;"⟩ : MethodName) = true := plainFor_of_name pn_2_
set_option maxRecDepth 65536 in
set_option maxHeartbeats 40000000 in
theorem rm_of (l : Launch) (Z : State) (a0 : Array Value) (hw : ∀ d ∈ tables_1, d.before a0 Z = true) (ws : List Jvm.Cond) (a : Addr) (k_a : ClassId) (sd : Nat → Int32) (one_ : Addr) (h0 : Heap) (n0 : Nat) (O0 : Old Z n0 h0) (V_a : Arf Z h0 a k_a .byte 66 (fun x => (.int (sd x)))) (E_a : Exa Z h0 a "[B") (S_ONE : Sta Z Z.heap "com/example/brisk_dedup/briskdedup/engine/Sides" "ONE_COLLECTION" "Lcom/example/brisk_dedup/briskdedup/engine/Sides;" (.ref one_)) (hsd : ∀ x, x < 66 → sd x = 1 ∨ sd x = 2 ∨ sd x = 3) :
    MetFree l (⟨"com/example/brisk_dedup/briskdedup/engine/Sides", "of", "([B)Lcom/example/brisk_dedup/briskdedup/engine/Sides;"⟩ : MethodName) (head1 (Jvm.Cond.code (⟨"com/example/brisk_dedup/briskdedup/engine/Sides", "of", "([B)Lcom/example/brisk_dedup/briskdedup/engine/Sides;"⟩ : MethodName) prog_68_method_3_code 5 (some (.object "com/example/brisk_dedup/briskdedup/engine/Sides")) :: ws) ({ frames := 2, cells := 4, slots := 73, locals := 28 } : Room)) (fun args_ U => args_ = #[(.ref a)] ∧ Z.Warmed39 U.vm ∧ U.heap = h0) (fun _ _ _ _ _ => True) (fun _ U o U' => ∃ v L, o = .returned v ∧ (Q_rm_of Z a k_a sd one_ h0 n0) v U'.heap L ∧ FrameEnd U o U' L ({ frames := 2, cells := 4, slots := 73, locals := 28 } : Room).cells ({ frames := 2, cells := 4, slots := 73, locals := 28 } : Room).slots) := by
  refine start (Q := (Q_rm_of Z a k_a sd one_ h0 n0)) pn_2 ?_
  intro p e s m below meth c T0 X0 hx hby hml hown hnm hret hlk hZ e0
  replace hown : s.vm.findClass "com/example/brisk_dedup/briskdedup/engine/Sides" = some m.cls := hown
  replace hml : c.maxLocals = 5 := hml
  refine goAt (ef_rm_of m a ) ?_
  have N0 := Fr.nil n0
  show Go p e below T0 (mkF m 0 #[.val (.ref a), .unset, .unset, .unset, .unset] []) _
  refine stp (fun _ => XS.iconst X0.here hx rfl (hb hby d2_0)) ?_
  show Go p e below T0 (mkF m 1 #[.val (.ref a), .unset, .unset, .unset, .unset] [(.int (1 : Int32))]) _
  refine stp (fun _ => XS.istoreN X0.here hx rfl (hb hby d2_1) rfl (l' := #[.val (.ref a), .val (.int (1 : Int32)), .unset, .unset, .unset]) rfl) ?_
  show Go p e below T0 (mkF m 2 #[.val (.ref a), .val (.int (1 : Int32)), .unset, .unset, .unset] []) _
  refine stp (fun _ => XS.aloadN X0.here hx rfl (hb hby d2_2) rfl rfl) ?_
  show Go p e below T0 (mkF m 3 #[.val (.ref a), .val (.int (1 : Int32)), .unset, .unset, .unset] [(.ref a)]) _
  obtain ⟨cl1, Ar1, -, S1, -, -⟩ := (id V_a)
  refine stp (fun _ => X0.arraylength hx (by rw [e0]; exact Ar1.1) (State.isArrayOf_alike hZ.alike Ar1.2.1) (g := (mkF m 3 #[.val (.ref a), .val (.int (1 : Int32)), .unset, .unset, .unset] [(.ref a)])) rfl rfl (hb hby d2_3) _) ?_
  rw [arf_len S1 (z := (66 : Int32)) (by decide)]
  show Go p e below T0 (mkF m 4 #[.val (.ref a), .val (.int (1 : Int32)), .unset, .unset, .unset] [(.int (66 : Int32))]) _
  refine stp (fun _ => XS.bipush X0.here hx rfl (hb hby d2_4)) ?_
  show Go p e below T0 (mkF m 6 #[.val (.ref a), .val (.int (1 : Int32)), .unset, .unset, .unset] [(.int (63 : Int32)), (.int (66 : Int32))]) _
  refine stp (fun _ => XS.iadd X0.here hx rfl (hb hby d2_6) rfl) ?_
  show Go p e below T0 (mkF m 7 #[.val (.ref a), .val (.int (1 : Int32)), .unset, .unset, .unset] [(.int (129 : Int32))]) _
  refine stp (fun _ => XS.bipush X0.here hx rfl (hb hby d2_7)) ?_
  show Go p e below T0 (mkF m 9 #[.val (.ref a), .val (.int (1 : Int32)), .unset, .unset, .unset] [(.int (6 : Int32)), (.int (129 : Int32))]) _
  refine stp (fun _ => XS.iushr X0.here hx rfl (hb hby d2_9) rfl) ?_
  show Go p e below T0 (mkF m 10 #[.val (.ref a), .val (.int (1 : Int32)), .unset, .unset, .unset] [(.int (((129 : Int32).toUInt32 >>> ((6 : Int32) &&& 31).toUInt32).toInt32))]) _
  show Go p e below T0 (mkF m 10 #[.val (.ref a), .val (.int (1 : Int32)), .unset, .unset, .unset] [(.int (2 : Int32))]) _
  obtain ⟨T2, h2, k2, X2, e2, E2, A2, B2, st2⟩ := newPE X0 hx hZ (hw _ (List.mem_of_getElem? (i := 10) rfl)) e0 (g := (mkF m 10 #[.val (.ref a), .val (.int (1 : Int32)), .unset, .unset, .unset] [(.int (2 : Int32))])) rfl (hb hby d2_10) rfl (by decide) (cap := 2) (by decide) (by decide) (by decide) (by decide) (ad := "[J") (by decide)
  obtain ⟨b2, g2⟩ : ∃ z, z = h0.size := ⟨_, rfl⟩
  rw [← g2] at A2 B2 st2
  have ne3 : a ≠ b2 := Nat.ne_of_lt (Nat.lt_of_lt_of_le V_a.lt (Nat.le_of_eq g2.symm))
  have sz_b2 : h0.size ≤ b2 := Nat.le_trans (Keep.refl h0 []).1 (Nat.le_of_eq g2.symm)
  have ge_b2 : n0 ≤ b2 := Nat.le_trans (old_le O0) (Nat.le_of_eq g2.symm)
  have f4 := V_a.ext E2
  have f5 := E_a.ext E2
  have K2 : Keep h0 h2 [] := (Keep.refl h0 []).ext E2
  have O2 := O0.ext E2
  have V2 : Arf Z h2 b2 k2 .long 2 (fun _ => (.long (0 : Int64))) := Arf.new A2 (by decide) (by decide)
  refine stp st2 ?_
  show Go p e below T2 (mkF m 12 #[.val (.ref a), .val (.int (1 : Int32)), .unset, .unset, .unset] [(.ref b2)]) _
  refine stp (fun _ => XS.astoreN X2.here hx rfl (hb hby d2_12) rfl rfl (l' := #[.val (.ref a), .val (.int (1 : Int32)), .val (.ref b2), .unset, .unset]) rfl) ?_
  show Go p e below T2 (mkF m 13 #[.val (.ref a), .val (.int (1 : Int32)), .val (.ref b2), .unset, .unset] []) _
  refine stp (fun _ => XS.aloadN X2.here hx rfl (hb hby d2_13) rfl rfl) ?_
  show Go p e below T2 (mkF m 14 #[.val (.ref a), .val (.int (1 : Int32)), .val (.ref b2), .unset, .unset] [(.ref b2)]) _
  obtain ⟨cl6, Ar6, -, S6, -, -⟩ := (id V2)
  refine stp (fun _ => X2.arraylength hx (by rw [e2]; exact Ar6.1) (State.isArrayOf_alike hZ.alike Ar6.2.1) (g := (mkF m 14 #[.val (.ref a), .val (.int (1 : Int32)), .val (.ref b2), .unset, .unset] [(.ref b2)])) rfl rfl (hb hby d2_14) _) ?_
  rw [arf_len S6 (z := (2 : Int32)) (by decide)]
  show Go p e below T2 (mkF m 15 #[.val (.ref a), .val (.int (1 : Int32)), .val (.ref b2), .unset, .unset] [(.int (2 : Int32))]) _
  obtain ⟨T7, h7, k7, X7, e7, E7, A7, B7, st7⟩ := newPE X2 hx hZ (hw _ (List.mem_of_getElem? (i := 10) rfl)) e2 (g := (mkF m 15 #[.val (.ref a), .val (.int (1 : Int32)), .val (.ref b2), .unset, .unset] [(.int (2 : Int32))])) rfl (hb hby d2_15) rfl (by decide) (cap := 2) (by decide) (by decide) (by decide) (by decide) (ad := "[J") (by decide)
  obtain ⟨b7, g7⟩ : ∃ z, z = h2.size := ⟨_, rfl⟩
  rw [← g7] at A7 B7 st7
  have ne8 : a ≠ b7 := Nat.ne_of_lt (Nat.lt_of_lt_of_le f4.lt (Nat.le_of_eq g7.symm))
  have ne9 : b2 ≠ b7 := Nat.ne_of_lt (Nat.lt_of_lt_of_le B2.lt (Nat.le_of_eq g7.symm))
  have sz_b7 : h0.size ≤ b7 := Nat.le_trans K2.1 (Nat.le_of_eq g7.symm)
  have ge_b7 : n0 ≤ b7 := Nat.le_trans (old_le O2) (Nat.le_of_eq g7.symm)
  have f10 := f4.ext E7
  have f11 := f5.ext E7
  have f12 := B2.ext E7
  have f13 := V2.ext E7
  have K7 : Keep h0 h7 [] := K2.ext E7
  have O7 := O2.ext E7
  have V7 : Arf Z h7 b7 k7 .long 2 (fun _ => (.long (0 : Int64))) := Arf.new A7 (by decide) (by decide)
  refine stp st7 ?_
  show Go p e below T7 (mkF m 17 #[.val (.ref a), .val (.int (1 : Int32)), .val (.ref b2), .unset, .unset] [(.ref b7)]) _
  refine stp (fun _ => XS.astoreN X7.here hx rfl (hb hby d2_17) rfl rfl (l' := #[.val (.ref a), .val (.int (1 : Int32)), .val (.ref b2), .val (.ref b7), .unset]) rfl) ?_
  show Go p e below T7 (mkF m 18 #[.val (.ref a), .val (.int (1 : Int32)), .val (.ref b2), .val (.ref b7), .unset] []) _
  refine stp (fun _ => XS.iconst X7.here hx rfl (hb hby d2_18)) ?_
  show Go p e below T7 (mkF m 19 #[.val (.ref a), .val (.int (1 : Int32)), .val (.ref b2), .val (.ref b7), .unset] [(.int (0 : Int32))]) _
  refine stp (fun _ => XS.istore X7.here hx rfl (hb hby d2_19) rfl (l' := #[.val (.ref a), .val (.int (1 : Int32)), .val (.ref b2), .val (.ref b7), .val (.int (0 : Int32))]) rfl) ?_
  show Go p e below T7 (mkF m 21 #[.val (.ref a), .val (.int (1 : Int32)), .val (.ref b2), .val (.ref b7), .val (.int (0 : Int32))] []) _
  have F0 : Arf Z h7 b2 k2 .long 2 (fun w => (.long (own_bits 1 sd 0 w))) := f13.congr (fun i _ => rfl)
  have G0 : Arf Z h7 b7 k7 .long 2 (fun w => (.long (own_bits 2 sd 0 w))) := V7.congr (fun i _ => rfl)
  have loop : ∀ (d j : Nat), j + d = 66 → ∀ (i o1 : Int32) (T : State) (locs : List Loc) (hA : Heap) (X : Stand p l e ({ frames := 2, cells := 4, slots := 73, locals := 28 } : Room) s m #[(.ref a)] below meth c T locs 2 4) (eA : T.heap = hA) (NA : Fr n0 locs) (OA : Old Z n0 hA) (KA : Keep h0 hA []) (Va : Arf Z hA a k_a .byte 66 (fun x => (.int (sd x)))) (Ea : Exa Z hA a "[B") (Vf : Arf Z hA b2 k2 .long 2 (fun w => (.long (own_bits 1 sd j w)))) (Vg : Arf Z hA b7 k7 .long 2 (fun w => (.long (own_bits 2 sd j w)))), i.toInt = (j : Int) → o1 = own_one sd j → Go p e below T (mkF m 21 #[.val (.ref a), .val (.int o1), .val (.ref b2), .val (.ref b7), .val (.int i)] []) (Po s (Q_rm_of Z a k_a sd one_ h0 n0) ({ frames := 2, cells := 4, slots := 73, locals := 28 } : Room).cells ({ frames := 2, cells := 4, slots := 73, locals := 28 } : Room).slots) := by
    intro d
    induction d with
    | zero =>
      intro j hj i o1 T locs hA X eA NA OA KA Va Ea Vf Vg hi ho
      have hj : j = 66 := by omega
      subst hj
      show Go p e below T (mkF m 21 #[.val (.ref a), .val (.int o1), .val (.ref b2), .val (.ref b7), .val (.int i)] []) _
      refine stp (fun _ => XS.iload X.here hx rfl (hb hby d2_21) rfl) ?_
      show Go p e below T (mkF m 23 #[.val (.ref a), .val (.int o1), .val (.ref b2), .val (.ref b7), .val (.int i)] [(.int i)]) _
      refine stp (fun _ => XS.aloadN X.here hx rfl (hb hby d2_23) rfl rfl) ?_
      show Go p e below T (mkF m 24 #[.val (.ref a), .val (.int o1), .val (.ref b2), .val (.ref b7), .val (.int i)] [(.ref a), (.int i)]) _
      obtain ⟨cl14, Ar14, -, S14, -, -⟩ := (id Va)
      refine stp (fun _ => X.arraylength hx (by rw [eA]; exact Ar14.1) (State.isArrayOf_alike hZ.alike Ar14.2.1) (g := (mkF m 24 #[.val (.ref a), .val (.int o1), .val (.ref b2), .val (.ref b7), .val (.int i)] [(.ref a), (.int i)])) rfl rfl (hb hby d2_24) _) ?_
      rw [arf_len S14 (z := (66 : Int32)) (by decide)]
      show Go p e below T (mkF m 25 #[.val (.ref a), .val (.int o1), .val (.ref b2), .val (.ref b7), .val (.int i)] [(.int (66 : Int32)), (.int i)]) _
      refine stp (fun _ => XS.icmpYes X.here hx rfl (pc0 := 25) (pc' := 96) rfl (hb hby d2_25) rfl (XT.ii_ge_t (own_end hi)) (by decide) (by decide)) ?_
      show Go p e below T (mkF m 96 #[.val (.ref a), .val (.int o1), .val (.ref b2), .val (.ref b7), .val (.int i)] []) _
      refine stp (fun _ => XS.iloadN X.here hx rfl (hb hby d2_96) rfl) ?_
      show Go p e below T (mkF m 97 #[.val (.ref a), .val (.int o1), .val (.ref b2), .val (.ref b7), .val (.int i)] [(.int o1)]) _
      by_cases q97_15 : o1 = 0
      · refine stp (fun _ => XS.ifYes X.here hx rfl (pc0 := 97) (pc' := 106) rfl (hb hby d2_97) rfl (XT.i0_eq_t q97_15) (by decide) (by decide)) ?_
        show Go p e below T (mkF m 106 #[.val (.ref a), .val (.int o1), .val (.ref b2), .val (.ref b7), .val (.int i)] []) _
        obtain ⟨T16, h16, X16, e16, E16, A16, D16, -, st16⟩ := newO X hx hZ hown (hw _ (List.mem_of_getElem? (i := 11) rfl)) (hw _ (List.mem_of_getElem? (i := 12) rfl)) (hw _ (List.mem_of_getElem? (i := 8) rfl)) eA (g := (mkF m 106 #[.val (.ref a), .val (.int o1), .val (.ref b2), .val (.ref b7), .val (.int i)] [])) rfl (hb hby d2_106) (by decide) (by decide)
        obtain ⟨b16, g16⟩ : ∃ z, z = hA.size := ⟨_, rfl⟩
        rw [← g16] at A16 D16 st16
        have ne17 : a ≠ b16 := Nat.ne_of_lt (Nat.lt_of_lt_of_le Va.lt (Nat.le_of_eq g16.symm))
        have ne18 : b2 ≠ b16 := Nat.ne_of_lt (Nat.lt_of_lt_of_le Vf.lt (Nat.le_of_eq g16.symm))
        have ne19 : b7 ≠ b16 := Nat.ne_of_lt (Nat.lt_of_lt_of_le Vg.lt (Nat.le_of_eq g16.symm))
        have sz_b16 : h0.size ≤ b16 := Nat.le_trans KA.1 (Nat.le_of_eq g16.symm)
        have ge_b16 : n0 ≤ b16 := Nat.le_trans (old_le OA) (Nat.le_of_eq g16.symm)
        have f20 := Va.ext E16
        have f21 := Ea.ext E16
        have f22 := Vf.ext E16
        have f23 := Vg.ext E16
        have K16 : Keep h0 h16 [] := KA.ext E16
        have O16 := OA.ext E16
        have F24 : Fld Z h16 b16 "com/example/brisk_dedup/briskdedup/engine/Sides" "sides" "[B" .null := D16 (Or.inr (hw _ (List.mem_of_getElem? (i := 29) rfl))) (ty := (.array .byte)) (by decide)
        have F25 : Fld Z h16 b16 "com/example/brisk_dedup/briskdedup/engine/Sides" "ofFirst" "[J" .null := D16 (Or.inr (hw _ (List.mem_of_getElem? (i := 31) rfl))) (ty := (.array .long)) (by decide)
        have F26 : Fld Z h16 b16 "com/example/brisk_dedup/briskdedup/engine/Sides" "ofSecond" "[J" .null := D16 (Or.inr (hw _ (List.mem_of_getElem? (i := 33) rfl))) (ty := (.array .long)) (by decide)
        refine stp st16 ?_
        show Go p e below T16 (mkF m 109 #[.val (.ref a), .val (.int o1), .val (.ref b2), .val (.ref b7), .val (.int i)] [(.ref b16)]) _
        refine stp (fun _ => XS.dup X16.here hx rfl (hb hby d2_109) rfl rfl) ?_
        show Go p e below T16 (mkF m 110 #[.val (.ref a), .val (.int o1), .val (.ref b2), .val (.ref b7), .val (.int i)] [(.ref b16), (.ref b16)]) _
        refine stp (fun _ => XS.aloadN X16.here hx rfl (hb hby d2_110) rfl rfl) ?_
        show Go p e below T16 (mkF m 111 #[.val (.ref a), .val (.int o1), .val (.ref b2), .val (.ref b7), .val (.int i)] [(.ref a), (.ref b16), (.ref b16)]) _
        obtain ⟨T27, h27, X27, e27, E27, V27, B27, st27⟩ := cloneF X16 hx hZ (ad := "[B") hown (hw _ (List.mem_of_getElem? (i := 13) rfl)) (hw _ (List.mem_of_getElem? (i := 14) rfl)) (hw _ (List.mem_of_getElem? (i := 18) rfl)) (hw _ (List.mem_of_getElem? (i := 16) rfl)) (hw _ (List.mem_of_getElem? (i := 17) rfl)) (hw _ (List.mem_of_getElem? (i := 19) rfl)) e16 f20 f21 (g := (mkF m 111 #[.val (.ref a), .val (.int o1), .val (.ref b2), .val (.ref b7), .val (.int i)] [(.ref a), (.ref b16), (.ref b16)])) rfl (by rw [hml]; rfl) rfl (hb hby d2_111) (by decide) (W := 2) (cap := 66) (by show 2 * 0 + _ ≤ _; exact Nat.le_of_eq rfl) (by decide) (by decide) (by decide) (by decide)
        obtain ⟨b27, g27⟩ : ∃ z, z = h16.size := ⟨_, rfl⟩
        rw [← g27] at V27 B27 st27
        have ne28 : a ≠ b27 := Nat.ne_of_lt (Nat.lt_of_lt_of_le f20.lt (Nat.le_of_eq g27.symm))
        have ne29 : b16 ≠ b27 := Nat.ne_of_lt (Nat.lt_of_lt_of_le A16.lt (Nat.le_of_eq g27.symm))
        have ne30 : b2 ≠ b27 := Nat.ne_of_lt (Nat.lt_of_lt_of_le f22.lt (Nat.le_of_eq g27.symm))
        have ne31 : b7 ≠ b27 := Nat.ne_of_lt (Nat.lt_of_lt_of_le f23.lt (Nat.le_of_eq g27.symm))
        have sz_b27 : h0.size ≤ b27 := Nat.le_trans K16.1 (Nat.le_of_eq g27.symm)
        have ge_b27 : n0 ≤ b27 := Nat.le_trans (old_le O16) (Nat.le_of_eq g27.symm)
        have f32 := f20.ext E27
        have f33 := f21.ext E27
        have f34 := f22.ext E27
        have f35 := f23.ext E27
        have f36 := A16.ext E27
        have f37 := F24.ext E27
        have f38 := F25.ext E27
        have f39 := F26.ext E27
        have K27 : Keep h0 h27 [] := K16.ext E27
        have O27 := O16.ext E27
        refine stp st27 ?_
        show Go p e below T27 (mkF m 114 #[.val (.ref a), .val (.int o1), .val (.ref b2), .val (.ref b7), .val (.int i)] [(.ref b27), (.ref b16), (.ref b16)]) _
        obtain ⟨T40, X40, e40, st40⟩ := castY X27 hx hZ hown (hw _ (List.mem_of_getElem? (i := 20) rfl)) e27 (Ins.self B27) (g := (mkF m 114 #[.val (.ref a), .val (.int o1), .val (.ref b2), .val (.ref b7), .val (.int i)] [(.ref b27), (.ref b16), (.ref b16)])) rfl rfl (hb hby d2_114)
        refine stp st40 ?_
        show Go p e below T40 (mkF m 117 #[.val (.ref a), .val (.int o1), .val (.ref b2), .val (.ref b7), .val (.int i)] [(.ref b27), (.ref b16), (.ref b16)]) _
        refine stp (fun _ => XS.aloadN X40.here hx rfl (hb hby d2_117) rfl rfl) ?_
        show Go p e below T40 (mkF m 118 #[.val (.ref a), .val (.int o1), .val (.ref b2), .val (.ref b7), .val (.int i)] [(.ref b2), (.ref b27), (.ref b16), (.ref b16)]) _
        refine stp (fun _ => XS.aloadN X40.here hx rfl (hb hby d2_118) rfl rfl) ?_
        show Go p e below T40 (mkF m 119 #[.val (.ref a), .val (.int o1), .val (.ref b2), .val (.ref b7), .val (.int i)] [(.ref b7), (.ref b2), (.ref b27), (.ref b16), (.ref b16)]) _
        obtain ⟨_, _, ⟨T41, L41, k41, n41⟩, -, X41, ⟨Lc41, hQ41, l41, y41, z41⟩, st41⟩ := X40.specialBack hx (y := (⟨"com/example/brisk_dedup/briskdedup/engine/Sides", "<init>", "([B[J[J)V"⟩ : MethodName)) rfl hown (mvT hZ (hw _ (List.mem_of_getElem? (i := 22) rfl))) (mvT hZ (hw _ (List.mem_of_getElem? (i := 23) rfl))) (mvT hZ (hw _ (List.mem_of_getElem? (i := 24) rfl))) (by decide) (backOf (W := 1) (rm_init l Z a0 hw [] b16 b27 b2 b7  h27 n0 O27 f36 f37 f38 f39 ge_b16) hZ (hw _ (List.mem_of_getElem? (i := 24) rfl)) (hw _ (List.mem_of_getElem? (i := 8) rfl)) (by decide) (by decide)) (g := (mkF m 119 #[.val (.ref a), .val (.int o1), .val (.ref b2), .val (.ref b7), .val (.int i)] [(.ref b7), (.ref b2), (.ref b27), (.ref b16), (.ref b16)])) rfl (by rw [hml]; rfl) (Steps.refl _) (a := b16) (argsL := [(.ref b27), (.ref b2), (.ref b7)]) (rest := [(.ref b16)]) (lenOf pd_0 rfl) rfl (by show 2 * 0 + _ ≤ _; exact Nat.le_of_eq rfl) (hb hby d2_119) (fun _ _ => ⟨rfl, e40, (by decide : 4 + 0 ≤ _), (by decide : 73 + 0 ≤ _)⟩)
        dsimp only [Pt.U, Pt.locs, Pt.cells, Pt.slots] at X41 l41 y41 z41 st41 hQ41
        subst l41 y41 z41
        obtain ⟨rfl, N41q, K41q, r41_0, r41_1, r41_2, r41_3⟩ := hQ41
        have N41 := Fr.app NA N41q
        have f42 := f32.keep K41q (ninS ne17 nin0)
        have f43 := f33.keep K41q
        have f44 := f34.keep K41q (ninS ne18 nin0)
        have f45 := f35.keep K41q (ninS ne19 nin0)
        have f46 := f36.keep K41q
        have f47 := B27.keep K41q
        have f48 := V27.keep K41q (ninS (Ne.symm ne29) nin0)
        have K41 : Keep h0 T41.heap [] := K27.trans K41q (allS (Or.inr sz_b16) all0)
        have O41 := O27.keep K41q (allS ge_b16 all0)
        refine stt st41 ?_
        show Go p e below T41 (mkF m 122 #[.val (.ref a), .val (.int o1), .val (.ref b2), .val (.ref b7), .val (.int i)] [(.ref b16)]) _
        refine outA X41 hx hret rfl rfl (hb hby d2_122) hlk (by decide) (by decide) ?_
        exact ⟨N41, K41, Or.inr ⟨own_notall ho q97_15, b16, b27, b2, b7, k_a, k2, k7, rfl, ⟨ge_b16, sz_b16⟩, ⟨ge_b27, sz_b27⟩, ⟨ge_b2, sz_b2⟩, ⟨ge_b7, sz_b7⟩, r41_0, r41_1, r41_2, r41_3, f48, f44, f45⟩⟩
      · refine stp (fun _ => XS.ifNo X.here hx rfl (hb hby d2_97) rfl (XT.i0_eq_f q97_15)) ?_
        show Go p e below T (mkF m 100 #[.val (.ref a), .val (.int o1), .val (.ref b2), .val (.ref b7), .val (.int i)] []) _
        obtain ⟨T49, X49, e49, st49⟩ := getS2 X hx hZ hown (host := "") (Or.inl (hw _ (List.mem_of_getElem? (i := 50) rfl))) Via.refl eA (S_ONE.ext OA.2) (g := (mkF m 100 #[.val (.ref a), .val (.int o1), .val (.ref b2), .val (.ref b7), .val (.int i)] [])) rfl (hb hby d2_100)
        refine stp st49 ?_
        show Go p e below T49 (mkF m 103 #[.val (.ref a), .val (.int o1), .val (.ref b2), .val (.ref b7), .val (.int i)] [(.ref one_)]) _
        refine stp (fun _ => XS.goto X49.here hx rfl (pc0 := 103) (pc' := 122) rfl (hb hby d2_103) (by decide) (by decide)) ?_
        show Go p e below T49 (mkF m 122 #[.val (.ref a), .val (.int o1), .val (.ref b2), .val (.ref b7), .val (.int i)] [(.ref one_)]) _
        refine outA X49 hx hret rfl rfl (hb hby d2_122) hlk (by decide) (by decide) ?_
        exact ⟨NA, e49 ▸ KA, Or.inl ⟨own_all ho q97_15, rfl⟩⟩
    | succ d ih =>
      intro j hj i o1 T locs hA X eA NA OA KA Va Ea Vf Vg hi ho
      have hjl : j < 66 := by omega
      have hs3 := hsd j hjl
      show Go p e below T (mkF m 21 #[.val (.ref a), .val (.int o1), .val (.ref b2), .val (.ref b7), .val (.int i)] []) _
      refine stp (fun _ => XS.iload X.here hx rfl (hb hby d2_21) rfl) ?_
      show Go p e below T (mkF m 23 #[.val (.ref a), .val (.int o1), .val (.ref b2), .val (.ref b7), .val (.int i)] [(.int i)]) _
      refine stp (fun _ => XS.aloadN X.here hx rfl (hb hby d2_23) rfl rfl) ?_
      show Go p e below T (mkF m 24 #[.val (.ref a), .val (.int o1), .val (.ref b2), .val (.ref b7), .val (.int i)] [(.ref a), (.int i)]) _
      obtain ⟨cl50, Ar50, -, S50, -, -⟩ := (id Va)
      refine stp (fun _ => X.arraylength hx (by rw [eA]; exact Ar50.1) (State.isArrayOf_alike hZ.alike Ar50.2.1) (g := (mkF m 24 #[.val (.ref a), .val (.int o1), .val (.ref b2), .val (.ref b7), .val (.int i)] [(.ref a), (.int i)])) rfl rfl (hb hby d2_24) _) ?_
      rw [arf_len S50 (z := (66 : Int32)) (by decide)]
      show Go p e below T (mkF m 25 #[.val (.ref a), .val (.int o1), .val (.ref b2), .val (.ref b7), .val (.int i)] [(.int (66 : Int32)), (.int i)]) _
      refine stp (fun _ => XS.icmpNo X.here hx rfl (hb hby d2_25) rfl (XT.ii_ge_f (own_in hi hjl))) ?_
      show Go p e below T (mkF m 28 #[.val (.ref a), .val (.int o1), .val (.ref b2), .val (.ref b7), .val (.int i)] []) _
      refine stp (fun _ => XS.iloadN X.here hx rfl (hb hby d2_28) rfl) ?_
      show Go p e below T (mkF m 29 #[.val (.ref a), .val (.int o1), .val (.ref b2), .val (.ref b7), .val (.int i)] [(.int o1)]) _
      refine stp (fun _ => XS.aloadN X.here hx rfl (hb hby d2_29) rfl rfl) ?_
      show Go p e below T (mkF m 30 #[.val (.ref a), .val (.int o1), .val (.ref b2), .val (.ref b7), .val (.int i)] [(.ref a), (.int o1)]) _
      refine stp (fun _ => XS.iload X.here hx rfl (hb hby d2_30) rfl) ?_
      show Go p e below T (mkF m 32 #[.val (.ref a), .val (.int o1), .val (.ref b2), .val (.ref b7), .val (.int i)] [(.int i), (.ref a), (.int o1)]) _
      obtain ⟨cl51, Ar51, q51, S51, H51, G51⟩ := (id Va)
      have in51 : ¬ (i < 0 ∨ cl51.slots.size ≤ (i).toNatClampNeg) := arf_in S51 hi hjl
      have at51 : cl51.slots[(i).toNatClampNeg]? = some (.int (sd j)) := arf_at H51 hi hjl
      refine stp (fun _ => X.baloadBytes hx (j := i) (v := (.int (sd j))) (by rw [eA]; exact Ar51.1) (State.isArrayOf_alike hZ.alike Ar51.2.1) Ar51.2.2 in51 at51 (g := (mkF m 32 #[.val (.ref a), .val (.int o1), .val (.ref b2), .val (.ref b7), .val (.int i)] [(.int i), (.ref a), (.int o1)])) rfl rfl (hb hby d2_32) _) ?_
      show Go p e below T (mkF m 33 #[.val (.ref a), .val (.int o1), .val (.ref b2), .val (.ref b7), .val (.int i)] [(.int (sd j)), (.int o1)]) _
      refine stp (fun _ => XS.iconst X.here hx rfl (hb hby d2_33)) ?_
      show Go p e below T (mkF m 34 #[.val (.ref a), .val (.int o1), .val (.ref b2), .val (.ref b7), .val (.int i)] [(.int (3 : Int32)), (.int (sd j)), (.int o1)]) _
      by_cases q34_52 : (sd j) = (3 : Int32)
      · refine stp (fun _ => XS.icmpNo X.here hx rfl (hb hby d2_34) rfl (XT.ii_ne_f q34_52)) ?_
        show Go p e below T (mkF m 37 #[.val (.ref a), .val (.int o1), .val (.ref b2), .val (.ref b7), .val (.int i)] [(.int o1)]) _
        refine stp (fun _ => XS.iconst X.here hx rfl (hb hby d2_37)) ?_
        show Go p e below T (mkF m 38 #[.val (.ref a), .val (.int o1), .val (.ref b2), .val (.ref b7), .val (.int i)] [(.int (1 : Int32)), (.int o1)]) _
        refine stp (fun _ => XS.goto X.here hx rfl (pc0 := 38) (pc' := 42) rfl (hb hby d2_38) (by decide) (by decide)) ?_
        show Go p e below T (mkF m 42 #[.val (.ref a), .val (.int o1), .val (.ref b2), .val (.ref b7), .val (.int i)] [(.int (1 : Int32)), (.int o1)]) _
        refine stp (fun _ => XS.iand X.here hx rfl (hb hby d2_42) rfl) ?_
        show Go p e below T (mkF m 43 #[.val (.ref a), .val (.int o1), .val (.ref b2), .val (.ref b7), .val (.int i)] [(.int (o1 &&& (1 : Int32)))]) _
        refine stp (fun _ => XS.istoreN X.here hx rfl (hb hby d2_43) rfl (l' := #[.val (.ref a), .val (.int (o1 &&& (1 : Int32))), .val (.ref b2), .val (.ref b7), .val (.int i)]) rfl) ?_
        show Go p e below T (mkF m 44 #[.val (.ref a), .val (.int (o1 &&& (1 : Int32))), .val (.ref b2), .val (.ref b7), .val (.int i)] []) _
        refine stp (fun _ => XS.aloadN X.here hx rfl (hb hby d2_44) rfl rfl) ?_
        show Go p e below T (mkF m 45 #[.val (.ref a), .val (.int (o1 &&& (1 : Int32))), .val (.ref b2), .val (.ref b7), .val (.int i)] [(.ref a)]) _
        refine stp (fun _ => XS.iload X.here hx rfl (hb hby d2_45) rfl) ?_
        show Go p e below T (mkF m 47 #[.val (.ref a), .val (.int (o1 &&& (1 : Int32))), .val (.ref b2), .val (.ref b7), .val (.int i)] [(.int i), (.ref a)]) _
        obtain ⟨cl53, Ar53, q53, S53, H53, G53⟩ := (id Va)
        have in53 : ¬ (i < 0 ∨ cl53.slots.size ≤ (i).toNatClampNeg) := arf_in S53 hi hjl
        have at53 : cl53.slots[(i).toNatClampNeg]? = some (.int (sd j)) := arf_at H53 hi hjl
        refine stp (fun _ => X.baloadBytes hx (j := i) (v := (.int (sd j))) (by rw [eA]; exact Ar53.1) (State.isArrayOf_alike hZ.alike Ar53.2.1) Ar53.2.2 in53 at53 (g := (mkF m 47 #[.val (.ref a), .val (.int (o1 &&& (1 : Int32))), .val (.ref b2), .val (.ref b7), .val (.int i)] [(.int i), (.ref a)])) rfl rfl (hb hby d2_47) _) ?_
        show Go p e below T (mkF m 48 #[.val (.ref a), .val (.int (o1 &&& (1 : Int32))), .val (.ref b2), .val (.ref b7), .val (.int i)] [(.int (sd j))]) _
        refine stp (fun _ => XS.iconst X.here hx rfl (hb hby d2_48)) ?_
        show Go p e below T (mkF m 49 #[.val (.ref a), .val (.int (o1 &&& (1 : Int32))), .val (.ref b2), .val (.ref b7), .val (.int i)] [(.int (1 : Int32)), (.int (sd j))]) _
        refine stp (fun _ => XS.iand X.here hx rfl (hb hby d2_49) rfl) ?_
        show Go p e below T (mkF m 50 #[.val (.ref a), .val (.int (o1 &&& (1 : Int32))), .val (.ref b2), .val (.ref b7), .val (.int i)] [(.int ((sd j) &&& (1 : Int32)))]) _
        by_cases q50_54 : ((sd j) &&& (1 : Int32)) = 0
        · refine stp (fun _ => XS.ifYes X.here hx rfl (pc0 := 50) (pc' := 67) rfl (hb hby d2_50) rfl (XT.i0_eq_t q50_54) (by decide) (by decide)) ?_
          show Go p e below T (mkF m 67 #[.val (.ref a), .val (.int (o1 &&& (1 : Int32))), .val (.ref b2), .val (.ref b7), .val (.int i)] []) _
          refine stp (fun _ => XS.aloadN X.here hx rfl (hb hby d2_67) rfl rfl) ?_
          show Go p e below T (mkF m 68 #[.val (.ref a), .val (.int (o1 &&& (1 : Int32))), .val (.ref b2), .val (.ref b7), .val (.int i)] [(.ref a)]) _
          refine stp (fun _ => XS.iload X.here hx rfl (hb hby d2_68) rfl) ?_
          show Go p e below T (mkF m 70 #[.val (.ref a), .val (.int (o1 &&& (1 : Int32))), .val (.ref b2), .val (.ref b7), .val (.int i)] [(.int i), (.ref a)]) _
          obtain ⟨cl55, Ar55, q55, S55, H55, G55⟩ := (id Va)
          have in55 : ¬ (i < 0 ∨ cl55.slots.size ≤ (i).toNatClampNeg) := arf_in S55 hi hjl
          have at55 : cl55.slots[(i).toNatClampNeg]? = some (.int (sd j)) := arf_at H55 hi hjl
          refine stp (fun _ => X.baloadBytes hx (j := i) (v := (.int (sd j))) (by rw [eA]; exact Ar55.1) (State.isArrayOf_alike hZ.alike Ar55.2.1) Ar55.2.2 in55 at55 (g := (mkF m 70 #[.val (.ref a), .val (.int (o1 &&& (1 : Int32))), .val (.ref b2), .val (.ref b7), .val (.int i)] [(.int i), (.ref a)])) rfl rfl (hb hby d2_70) _) ?_
          show Go p e below T (mkF m 71 #[.val (.ref a), .val (.int (o1 &&& (1 : Int32))), .val (.ref b2), .val (.ref b7), .val (.int i)] [(.int (sd j))]) _
          refine stp (fun _ => XS.iconst X.here hx rfl (hb hby d2_71)) ?_
          show Go p e below T (mkF m 72 #[.val (.ref a), .val (.int (o1 &&& (1 : Int32))), .val (.ref b2), .val (.ref b7), .val (.int i)] [(.int (2 : Int32)), (.int (sd j))]) _
          refine stp (fun _ => XS.iand X.here hx rfl (hb hby d2_72) rfl) ?_
          show Go p e below T (mkF m 73 #[.val (.ref a), .val (.int (o1 &&& (1 : Int32))), .val (.ref b2), .val (.ref b7), .val (.int i)] [(.int ((sd j) &&& (2 : Int32)))]) _
          by_cases q73_56 : ((sd j) &&& (2 : Int32)) = 0
          · refine stp (fun _ => XS.ifYes X.here hx rfl (pc0 := 73) (pc' := 90) rfl (hb hby d2_73) rfl (XT.i0_eq_t q73_56) (by decide) (by decide)) ?_
            show Go p e below T (mkF m 90 #[.val (.ref a), .val (.int (o1 &&& (1 : Int32))), .val (.ref b2), .val (.ref b7), .val (.int i)] []) _
            refine stp (fun _ => XS.iinc X.here hx rfl (hb hby d2_90) rfl (l' := #[.val (.ref a), .val (.int (o1 &&& (1 : Int32))), .val (.ref b2), .val (.ref b7), .val (.int (i + (1 : Int32)))]) rfl) ?_
            show Go p e below T (mkF m 93 #[.val (.ref a), .val (.int (o1 &&& (1 : Int32))), .val (.ref b2), .val (.ref b7), .val (.int (i + (1 : Int32)))] []) _
            refine stp (fun _ => XS.goto X.here hx rfl (pc0 := 93) (pc' := 21) rfl (hb hby d2_93) (by decide) (by decide)) ?_
            show Go p e below T (mkF m 21 #[.val (.ref a), .val (.int (o1 &&& (1 : Int32))), .val (.ref b2), .val (.ref b7), .val (.int (i + (1 : Int32)))] []) _
            have Fj : Arf Z hA b2 k2 .long 2 (fun w => (.long (own_bits 1 sd (j + 1) w))) := Vf.congr (fun w _ => own_bit_no q50_54)
            have Gj : Arf Z hA b7 k7 .long 2 (fun w => (.long (own_bits 2 sd (j + 1) w))) := Vg.congr (fun w _ => own_bit_no q73_56)
            exact ih (j + 1) (by omega) (i + (1 : Int32)) (o1 &&& (1 : Int32)) T _ hA X eA NA OA KA Va Ea Fj Gj (own_next hi hjl) (own_onestep ho (Or.inl ⟨q34_52, rfl⟩))
          · refine stp (fun _ => XS.ifNo X.here hx rfl (hb hby d2_73) rfl (XT.i0_eq_f q73_56)) ?_
            show Go p e below T (mkF m 76 #[.val (.ref a), .val (.int (o1 &&& (1 : Int32))), .val (.ref b2), .val (.ref b7), .val (.int i)] []) _
            refine stp (fun _ => XS.aloadN X.here hx rfl (hb hby d2_76) rfl rfl) ?_
            show Go p e below T (mkF m 77 #[.val (.ref a), .val (.int (o1 &&& (1 : Int32))), .val (.ref b2), .val (.ref b7), .val (.int i)] [(.ref b7)]) _
            refine stp (fun _ => XS.iload X.here hx rfl (hb hby d2_77) rfl) ?_
            show Go p e below T (mkF m 79 #[.val (.ref a), .val (.int (o1 &&& (1 : Int32))), .val (.ref b2), .val (.ref b7), .val (.int i)] [(.int i), (.ref b7)]) _
            refine stp (fun _ => XS.bipush X.here hx rfl (hb hby d2_79)) ?_
            show Go p e below T (mkF m 81 #[.val (.ref a), .val (.int (o1 &&& (1 : Int32))), .val (.ref b2), .val (.ref b7), .val (.int i)] [(.int (6 : Int32)), (.int i), (.ref b7)]) _
            refine stp (fun _ => XS.iushr X.here hx rfl (hb hby d2_81) rfl) ?_
            show Go p e below T (mkF m 82 #[.val (.ref a), .val (.int (o1 &&& (1 : Int32))), .val (.ref b2), .val (.ref b7), .val (.int i)] [(.int ((i.toUInt32 >>> ((6 : Int32) &&& 31).toUInt32).toInt32)), (.ref b7)]) _
            refine stp (fun _ => XT.dup2 X.here hx rfl (hb hby d2_82) rfl rfl rfl) ?_
            show Go p e below T (mkF m 83 #[.val (.ref a), .val (.int (o1 &&& (1 : Int32))), .val (.ref b2), .val (.ref b7), .val (.int i)] [(.int ((i.toUInt32 >>> ((6 : Int32) &&& 31).toUInt32).toInt32)), (.ref b7), (.int ((i.toUInt32 >>> ((6 : Int32) &&& 31).toUInt32).toInt32)), (.ref b7)]) _
            obtain ⟨cl57, Ar57, q57, S57, H57, G57⟩ := (id Vg)
            have in57 : ¬ (((i.toUInt32 >>> ((6 : Int32) &&& 31).toUInt32).toInt32) < 0 ∨ cl57.slots.size ≤ (((i.toUInt32 >>> ((6 : Int32) &&& 31).toUInt32).toInt32)).toNatClampNeg) := arf_in S57 (own_div hi) (own_d2 hjl)
            have at57 : cl57.slots[(((i.toUInt32 >>> ((6 : Int32) &&& 31).toUInt32).toInt32)).toNatClampNeg]? = some (.long (own_bits 2 sd j (j / 64))) := arf_at H57 (own_div hi) (own_d2 hjl)
            refine stp (fun _ => X.laload hx (j := ((i.toUInt32 >>> ((6 : Int32) &&& 31).toUInt32).toInt32)) (v := (.long (own_bits 2 sd j (j / 64)))) (by rw [eA]; exact Ar57.1) (State.isArrayOf_alike hZ.alike Ar57.2.1) Ar57.2.2 in57 at57 (g := (mkF m 83 #[.val (.ref a), .val (.int (o1 &&& (1 : Int32))), .val (.ref b2), .val (.ref b7), .val (.int i)] [(.int ((i.toUInt32 >>> ((6 : Int32) &&& 31).toUInt32).toInt32)), (.ref b7), (.int ((i.toUInt32 >>> ((6 : Int32) &&& 31).toUInt32).toInt32)), (.ref b7)])) rfl rfl (hb hby d2_83) _) ?_
            show Go p e below T (mkF m 84 #[.val (.ref a), .val (.int (o1 &&& (1 : Int32))), .val (.ref b2), .val (.ref b7), .val (.int i)] [(.long (own_bits 2 sd j (j / 64))), (.int ((i.toUInt32 >>> ((6 : Int32) &&& 31).toUInt32).toInt32)), (.ref b7)]) _
            refine stp (fun _ => XS.lconst X.here hx rfl (hb hby d2_84)) ?_
            show Go p e below T (mkF m 85 #[.val (.ref a), .val (.int (o1 &&& (1 : Int32))), .val (.ref b2), .val (.ref b7), .val (.int i)] [(.long (1 : Int64)), (.long (own_bits 2 sd j (j / 64))), (.int ((i.toUInt32 >>> ((6 : Int32) &&& 31).toUInt32).toInt32)), (.ref b7)]) _
            refine stp (fun _ => XS.iload X.here hx rfl (hb hby d2_85) rfl) ?_
            show Go p e below T (mkF m 87 #[.val (.ref a), .val (.int (o1 &&& (1 : Int32))), .val (.ref b2), .val (.ref b7), .val (.int i)] [(.int i), (.long (1 : Int64)), (.long (own_bits 2 sd j (j / 64))), (.int ((i.toUInt32 >>> ((6 : Int32) &&& 31).toUInt32).toInt32)), (.ref b7)]) _
            refine stp (fun _ => XS.lshl X.here hx rfl (hb hby d2_87) rfl) ?_
            show Go p e below T (mkF m 88 #[.val (.ref a), .val (.int (o1 &&& (1 : Int32))), .val (.ref b2), .val (.ref b7), .val (.int i)] [(.long ((1 : Int64) <<< (i &&& 0x3f).toInt64)), (.long (own_bits 2 sd j (j / 64))), (.int ((i.toUInt32 >>> ((6 : Int32) &&& 31).toUInt32).toInt32)), (.ref b7)]) _
            refine stp (fun _ => XS.lor X.here hx rfl (hb hby d2_88) rfl) ?_
            show Go p e below T (mkF m 89 #[.val (.ref a), .val (.int (o1 &&& (1 : Int32))), .val (.ref b2), .val (.ref b7), .val (.int i)] [(.long ((own_bits 2 sd j (j / 64)) ||| ((1 : Int64) <<< (i &&& 0x3f).toInt64))), (.int ((i.toUInt32 >>> ((6 : Int32) &&& 31).toUInt32).toInt32)), (.ref b7)]) _
            obtain ⟨cl58, Ar58, q58, S58, H58, G58⟩ := (id Vg)
            have in58 : ¬ (((i.toUInt32 >>> ((6 : Int32) &&& 31).toUInt32).toInt32) < 0 ∨ cl58.slots.size ≤ (((i.toUInt32 >>> ((6 : Int32) &&& 31).toUInt32).toInt32)).toNatClampNeg) := arf_in S58 (own_div hi) (own_d2 hjl)
            obtain ⟨T58, h58, X58, e58, W58, st58⟩ := stJ X hx hZ eA Ar58 (j := ((i.toUInt32 >>> ((6 : Int32) &&& 31).toUInt32).toInt32)) in58 (g := (mkF m 89 #[.val (.ref a), .val (.int (o1 &&& (1 : Int32))), .val (.ref b2), .val (.ref b7), .val (.int i)] [(.long ((own_bits 2 sd j (j / 64)) ||| ((1 : Int64) <<< (i &&& 0x3f).toInt64))), (.int ((i.toUInt32 >>> ((6 : Int32) &&& 31).toUInt32).toInt32)), (.ref b7)])) rfl rfl (hb hby d2_89)
            have V58 := Arf.set Ar58 q58 S58 H58 G58 rfl (arf_ix (own_div hi) ▸ W58) (own_d2 hjl)
            have f59 := Va.other W58 ne8
            have f60 := Ea.wr W58
            have f61 := Vf.other W58 ne9
            have K58 : Keep h0 h58 [] := KA.wr W58 (Or.inr sz_b7)
            have O58 := OA.wr W58 ge_b7
            have N58 := Fr.snoc X58 NA ge_b7
            refine stp st58 ?_
            show Go p e below T58 (mkF m 90 #[.val (.ref a), .val (.int (o1 &&& (1 : Int32))), .val (.ref b2), .val (.ref b7), .val (.int i)] []) _
            refine stp (fun _ => XS.iinc X58.here hx rfl (hb hby d2_90) rfl (l' := #[.val (.ref a), .val (.int (o1 &&& (1 : Int32))), .val (.ref b2), .val (.ref b7), .val (.int (i + (1 : Int32)))]) rfl) ?_
            show Go p e below T58 (mkF m 93 #[.val (.ref a), .val (.int (o1 &&& (1 : Int32))), .val (.ref b2), .val (.ref b7), .val (.int (i + (1 : Int32)))] []) _
            refine stp (fun _ => XS.goto X58.here hx rfl (pc0 := 93) (pc' := 21) rfl (hb hby d2_93) (by decide) (by decide)) ?_
            show Go p e below T58 (mkF m 21 #[.val (.ref a), .val (.int (o1 &&& (1 : Int32))), .val (.ref b2), .val (.ref b7), .val (.int (i + (1 : Int32)))] []) _
            have Fj : Arf Z h58 b2 k2 .long 2 (fun w => (.long (own_bits 1 sd (j + 1) w))) := f61.congr (fun w _ => own_bit_no q50_54)
            have Gj : Arf Z h58 b7 k7 .long 2 (fun w => (.long (own_bits 2 sd (j + 1) w))) := V58.congr (fun w _ => own_bit_yes q73_56 hi)
            exact ih (j + 1) (by omega) (i + (1 : Int32)) (o1 &&& (1 : Int32)) T58 _ h58 X58 e58 N58 O58 K58 f59 f60 Fj Gj (own_next hi hjl) (own_onestep ho (Or.inl ⟨q34_52, rfl⟩))
        · refine stp (fun _ => XS.ifNo X.here hx rfl (hb hby d2_50) rfl (XT.i0_eq_f q50_54)) ?_
          show Go p e below T (mkF m 53 #[.val (.ref a), .val (.int (o1 &&& (1 : Int32))), .val (.ref b2), .val (.ref b7), .val (.int i)] []) _
          refine stp (fun _ => XS.aloadN X.here hx rfl (hb hby d2_53) rfl rfl) ?_
          show Go p e below T (mkF m 54 #[.val (.ref a), .val (.int (o1 &&& (1 : Int32))), .val (.ref b2), .val (.ref b7), .val (.int i)] [(.ref b2)]) _
          refine stp (fun _ => XS.iload X.here hx rfl (hb hby d2_54) rfl) ?_
          show Go p e below T (mkF m 56 #[.val (.ref a), .val (.int (o1 &&& (1 : Int32))), .val (.ref b2), .val (.ref b7), .val (.int i)] [(.int i), (.ref b2)]) _
          refine stp (fun _ => XS.bipush X.here hx rfl (hb hby d2_56)) ?_
          show Go p e below T (mkF m 58 #[.val (.ref a), .val (.int (o1 &&& (1 : Int32))), .val (.ref b2), .val (.ref b7), .val (.int i)] [(.int (6 : Int32)), (.int i), (.ref b2)]) _
          refine stp (fun _ => XS.iushr X.here hx rfl (hb hby d2_58) rfl) ?_
          show Go p e below T (mkF m 59 #[.val (.ref a), .val (.int (o1 &&& (1 : Int32))), .val (.ref b2), .val (.ref b7), .val (.int i)] [(.int ((i.toUInt32 >>> ((6 : Int32) &&& 31).toUInt32).toInt32)), (.ref b2)]) _
          refine stp (fun _ => XT.dup2 X.here hx rfl (hb hby d2_59) rfl rfl rfl) ?_
          show Go p e below T (mkF m 60 #[.val (.ref a), .val (.int (o1 &&& (1 : Int32))), .val (.ref b2), .val (.ref b7), .val (.int i)] [(.int ((i.toUInt32 >>> ((6 : Int32) &&& 31).toUInt32).toInt32)), (.ref b2), (.int ((i.toUInt32 >>> ((6 : Int32) &&& 31).toUInt32).toInt32)), (.ref b2)]) _
          obtain ⟨cl63, Ar63, q63, S63, H63, G63⟩ := (id Vf)
          have in63 : ¬ (((i.toUInt32 >>> ((6 : Int32) &&& 31).toUInt32).toInt32) < 0 ∨ cl63.slots.size ≤ (((i.toUInt32 >>> ((6 : Int32) &&& 31).toUInt32).toInt32)).toNatClampNeg) := arf_in S63 (own_div hi) (own_d2 hjl)
          have at63 : cl63.slots[(((i.toUInt32 >>> ((6 : Int32) &&& 31).toUInt32).toInt32)).toNatClampNeg]? = some (.long (own_bits 1 sd j (j / 64))) := arf_at H63 (own_div hi) (own_d2 hjl)
          refine stp (fun _ => X.laload hx (j := ((i.toUInt32 >>> ((6 : Int32) &&& 31).toUInt32).toInt32)) (v := (.long (own_bits 1 sd j (j / 64)))) (by rw [eA]; exact Ar63.1) (State.isArrayOf_alike hZ.alike Ar63.2.1) Ar63.2.2 in63 at63 (g := (mkF m 60 #[.val (.ref a), .val (.int (o1 &&& (1 : Int32))), .val (.ref b2), .val (.ref b7), .val (.int i)] [(.int ((i.toUInt32 >>> ((6 : Int32) &&& 31).toUInt32).toInt32)), (.ref b2), (.int ((i.toUInt32 >>> ((6 : Int32) &&& 31).toUInt32).toInt32)), (.ref b2)])) rfl rfl (hb hby d2_60) _) ?_
          show Go p e below T (mkF m 61 #[.val (.ref a), .val (.int (o1 &&& (1 : Int32))), .val (.ref b2), .val (.ref b7), .val (.int i)] [(.long (own_bits 1 sd j (j / 64))), (.int ((i.toUInt32 >>> ((6 : Int32) &&& 31).toUInt32).toInt32)), (.ref b2)]) _
          refine stp (fun _ => XS.lconst X.here hx rfl (hb hby d2_61)) ?_
          show Go p e below T (mkF m 62 #[.val (.ref a), .val (.int (o1 &&& (1 : Int32))), .val (.ref b2), .val (.ref b7), .val (.int i)] [(.long (1 : Int64)), (.long (own_bits 1 sd j (j / 64))), (.int ((i.toUInt32 >>> ((6 : Int32) &&& 31).toUInt32).toInt32)), (.ref b2)]) _
          refine stp (fun _ => XS.iload X.here hx rfl (hb hby d2_62) rfl) ?_
          show Go p e below T (mkF m 64 #[.val (.ref a), .val (.int (o1 &&& (1 : Int32))), .val (.ref b2), .val (.ref b7), .val (.int i)] [(.int i), (.long (1 : Int64)), (.long (own_bits 1 sd j (j / 64))), (.int ((i.toUInt32 >>> ((6 : Int32) &&& 31).toUInt32).toInt32)), (.ref b2)]) _
          refine stp (fun _ => XS.lshl X.here hx rfl (hb hby d2_64) rfl) ?_
          show Go p e below T (mkF m 65 #[.val (.ref a), .val (.int (o1 &&& (1 : Int32))), .val (.ref b2), .val (.ref b7), .val (.int i)] [(.long ((1 : Int64) <<< (i &&& 0x3f).toInt64)), (.long (own_bits 1 sd j (j / 64))), (.int ((i.toUInt32 >>> ((6 : Int32) &&& 31).toUInt32).toInt32)), (.ref b2)]) _
          refine stp (fun _ => XS.lor X.here hx rfl (hb hby d2_65) rfl) ?_
          show Go p e below T (mkF m 66 #[.val (.ref a), .val (.int (o1 &&& (1 : Int32))), .val (.ref b2), .val (.ref b7), .val (.int i)] [(.long ((own_bits 1 sd j (j / 64)) ||| ((1 : Int64) <<< (i &&& 0x3f).toInt64))), (.int ((i.toUInt32 >>> ((6 : Int32) &&& 31).toUInt32).toInt32)), (.ref b2)]) _
          obtain ⟨cl64, Ar64, q64, S64, H64, G64⟩ := (id Vf)
          have in64 : ¬ (((i.toUInt32 >>> ((6 : Int32) &&& 31).toUInt32).toInt32) < 0 ∨ cl64.slots.size ≤ (((i.toUInt32 >>> ((6 : Int32) &&& 31).toUInt32).toInt32)).toNatClampNeg) := arf_in S64 (own_div hi) (own_d2 hjl)
          obtain ⟨T64, h64, X64, e64, W64, st64⟩ := stJ X hx hZ eA Ar64 (j := ((i.toUInt32 >>> ((6 : Int32) &&& 31).toUInt32).toInt32)) in64 (g := (mkF m 66 #[.val (.ref a), .val (.int (o1 &&& (1 : Int32))), .val (.ref b2), .val (.ref b7), .val (.int i)] [(.long ((own_bits 1 sd j (j / 64)) ||| ((1 : Int64) <<< (i &&& 0x3f).toInt64))), (.int ((i.toUInt32 >>> ((6 : Int32) &&& 31).toUInt32).toInt32)), (.ref b2)])) rfl rfl (hb hby d2_66)
          have V64 := Arf.set Ar64 q64 S64 H64 G64 rfl (arf_ix (own_div hi) ▸ W64) (own_d2 hjl)
          have f65 := Va.other W64 ne3
          have f66 := Ea.wr W64
          have f68 := Vg.other W64 (Ne.symm ne9)
          have K64 : Keep h0 h64 [] := KA.wr W64 (Or.inr sz_b2)
          have O64 := OA.wr W64 ge_b2
          have N64 := Fr.snoc X64 NA ge_b2
          refine stp st64 ?_
          show Go p e below T64 (mkF m 67 #[.val (.ref a), .val (.int (o1 &&& (1 : Int32))), .val (.ref b2), .val (.ref b7), .val (.int i)] []) _
          refine stp (fun _ => XS.aloadN X64.here hx rfl (hb hby d2_67) rfl rfl) ?_
          show Go p e below T64 (mkF m 68 #[.val (.ref a), .val (.int (o1 &&& (1 : Int32))), .val (.ref b2), .val (.ref b7), .val (.int i)] [(.ref a)]) _
          refine stp (fun _ => XS.iload X64.here hx rfl (hb hby d2_68) rfl) ?_
          show Go p e below T64 (mkF m 70 #[.val (.ref a), .val (.int (o1 &&& (1 : Int32))), .val (.ref b2), .val (.ref b7), .val (.int i)] [(.int i), (.ref a)]) _
          obtain ⟨cl69, Ar69, q69, S69, H69, G69⟩ := (id f65)
          have in69 : ¬ (i < 0 ∨ cl69.slots.size ≤ (i).toNatClampNeg) := arf_in S69 hi hjl
          have at69 : cl69.slots[(i).toNatClampNeg]? = some (.int (sd j)) := arf_at H69 hi hjl
          refine stp (fun _ => X64.baloadBytes hx (j := i) (v := (.int (sd j))) (by rw [e64]; exact Ar69.1) (State.isArrayOf_alike hZ.alike Ar69.2.1) Ar69.2.2 in69 at69 (g := (mkF m 70 #[.val (.ref a), .val (.int (o1 &&& (1 : Int32))), .val (.ref b2), .val (.ref b7), .val (.int i)] [(.int i), (.ref a)])) rfl rfl (hb hby d2_70) _) ?_
          show Go p e below T64 (mkF m 71 #[.val (.ref a), .val (.int (o1 &&& (1 : Int32))), .val (.ref b2), .val (.ref b7), .val (.int i)] [(.int (sd j))]) _
          refine stp (fun _ => XS.iconst X64.here hx rfl (hb hby d2_71)) ?_
          show Go p e below T64 (mkF m 72 #[.val (.ref a), .val (.int (o1 &&& (1 : Int32))), .val (.ref b2), .val (.ref b7), .val (.int i)] [(.int (2 : Int32)), (.int (sd j))]) _
          refine stp (fun _ => XS.iand X64.here hx rfl (hb hby d2_72) rfl) ?_
          show Go p e below T64 (mkF m 73 #[.val (.ref a), .val (.int (o1 &&& (1 : Int32))), .val (.ref b2), .val (.ref b7), .val (.int i)] [(.int ((sd j) &&& (2 : Int32)))]) _
          by_cases q73_70 : ((sd j) &&& (2 : Int32)) = 0
          · refine stp (fun _ => XS.ifYes X64.here hx rfl (pc0 := 73) (pc' := 90) rfl (hb hby d2_73) rfl (XT.i0_eq_t q73_70) (by decide) (by decide)) ?_
            show Go p e below T64 (mkF m 90 #[.val (.ref a), .val (.int (o1 &&& (1 : Int32))), .val (.ref b2), .val (.ref b7), .val (.int i)] []) _
            refine stp (fun _ => XS.iinc X64.here hx rfl (hb hby d2_90) rfl (l' := #[.val (.ref a), .val (.int (o1 &&& (1 : Int32))), .val (.ref b2), .val (.ref b7), .val (.int (i + (1 : Int32)))]) rfl) ?_
            show Go p e below T64 (mkF m 93 #[.val (.ref a), .val (.int (o1 &&& (1 : Int32))), .val (.ref b2), .val (.ref b7), .val (.int (i + (1 : Int32)))] []) _
            refine stp (fun _ => XS.goto X64.here hx rfl (pc0 := 93) (pc' := 21) rfl (hb hby d2_93) (by decide) (by decide)) ?_
            show Go p e below T64 (mkF m 21 #[.val (.ref a), .val (.int (o1 &&& (1 : Int32))), .val (.ref b2), .val (.ref b7), .val (.int (i + (1 : Int32)))] []) _
            have Fj : Arf Z h64 b2 k2 .long 2 (fun w => (.long (own_bits 1 sd (j + 1) w))) := V64.congr (fun w _ => own_bit_yes q50_54 hi)
            have Gj : Arf Z h64 b7 k7 .long 2 (fun w => (.long (own_bits 2 sd (j + 1) w))) := f68.congr (fun w _ => own_bit_no q73_70)
            exact ih (j + 1) (by omega) (i + (1 : Int32)) (o1 &&& (1 : Int32)) T64 _ h64 X64 e64 N64 O64 K64 f65 f66 Fj Gj (own_next hi hjl) (own_onestep ho (Or.inl ⟨q34_52, rfl⟩))
          · refine stp (fun _ => XS.ifNo X64.here hx rfl (hb hby d2_73) rfl (XT.i0_eq_f q73_70)) ?_
            show Go p e below T64 (mkF m 76 #[.val (.ref a), .val (.int (o1 &&& (1 : Int32))), .val (.ref b2), .val (.ref b7), .val (.int i)] []) _
            refine stp (fun _ => XS.aloadN X64.here hx rfl (hb hby d2_76) rfl rfl) ?_
            show Go p e below T64 (mkF m 77 #[.val (.ref a), .val (.int (o1 &&& (1 : Int32))), .val (.ref b2), .val (.ref b7), .val (.int i)] [(.ref b7)]) _
            refine stp (fun _ => XS.iload X64.here hx rfl (hb hby d2_77) rfl) ?_
            show Go p e below T64 (mkF m 79 #[.val (.ref a), .val (.int (o1 &&& (1 : Int32))), .val (.ref b2), .val (.ref b7), .val (.int i)] [(.int i), (.ref b7)]) _
            refine stp (fun _ => XS.bipush X64.here hx rfl (hb hby d2_79)) ?_
            show Go p e below T64 (mkF m 81 #[.val (.ref a), .val (.int (o1 &&& (1 : Int32))), .val (.ref b2), .val (.ref b7), .val (.int i)] [(.int (6 : Int32)), (.int i), (.ref b7)]) _
            refine stp (fun _ => XS.iushr X64.here hx rfl (hb hby d2_81) rfl) ?_
            show Go p e below T64 (mkF m 82 #[.val (.ref a), .val (.int (o1 &&& (1 : Int32))), .val (.ref b2), .val (.ref b7), .val (.int i)] [(.int ((i.toUInt32 >>> ((6 : Int32) &&& 31).toUInt32).toInt32)), (.ref b7)]) _
            refine stp (fun _ => XT.dup2 X64.here hx rfl (hb hby d2_82) rfl rfl rfl) ?_
            show Go p e below T64 (mkF m 83 #[.val (.ref a), .val (.int (o1 &&& (1 : Int32))), .val (.ref b2), .val (.ref b7), .val (.int i)] [(.int ((i.toUInt32 >>> ((6 : Int32) &&& 31).toUInt32).toInt32)), (.ref b7), (.int ((i.toUInt32 >>> ((6 : Int32) &&& 31).toUInt32).toInt32)), (.ref b7)]) _
            obtain ⟨cl71, Ar71, q71, S71, H71, G71⟩ := (id f68)
            have in71 : ¬ (((i.toUInt32 >>> ((6 : Int32) &&& 31).toUInt32).toInt32) < 0 ∨ cl71.slots.size ≤ (((i.toUInt32 >>> ((6 : Int32) &&& 31).toUInt32).toInt32)).toNatClampNeg) := arf_in S71 (own_div hi) (own_d2 hjl)
            have at71 : cl71.slots[(((i.toUInt32 >>> ((6 : Int32) &&& 31).toUInt32).toInt32)).toNatClampNeg]? = some (.long (own_bits 2 sd j (j / 64))) := arf_at H71 (own_div hi) (own_d2 hjl)
            refine stp (fun _ => X64.laload hx (j := ((i.toUInt32 >>> ((6 : Int32) &&& 31).toUInt32).toInt32)) (v := (.long (own_bits 2 sd j (j / 64)))) (by rw [e64]; exact Ar71.1) (State.isArrayOf_alike hZ.alike Ar71.2.1) Ar71.2.2 in71 at71 (g := (mkF m 83 #[.val (.ref a), .val (.int (o1 &&& (1 : Int32))), .val (.ref b2), .val (.ref b7), .val (.int i)] [(.int ((i.toUInt32 >>> ((6 : Int32) &&& 31).toUInt32).toInt32)), (.ref b7), (.int ((i.toUInt32 >>> ((6 : Int32) &&& 31).toUInt32).toInt32)), (.ref b7)])) rfl rfl (hb hby d2_83) _) ?_
            show Go p e below T64 (mkF m 84 #[.val (.ref a), .val (.int (o1 &&& (1 : Int32))), .val (.ref b2), .val (.ref b7), .val (.int i)] [(.long (own_bits 2 sd j (j / 64))), (.int ((i.toUInt32 >>> ((6 : Int32) &&& 31).toUInt32).toInt32)), (.ref b7)]) _
            refine stp (fun _ => XS.lconst X64.here hx rfl (hb hby d2_84)) ?_
            show Go p e below T64 (mkF m 85 #[.val (.ref a), .val (.int (o1 &&& (1 : Int32))), .val (.ref b2), .val (.ref b7), .val (.int i)] [(.long (1 : Int64)), (.long (own_bits 2 sd j (j / 64))), (.int ((i.toUInt32 >>> ((6 : Int32) &&& 31).toUInt32).toInt32)), (.ref b7)]) _
            refine stp (fun _ => XS.iload X64.here hx rfl (hb hby d2_85) rfl) ?_
            show Go p e below T64 (mkF m 87 #[.val (.ref a), .val (.int (o1 &&& (1 : Int32))), .val (.ref b2), .val (.ref b7), .val (.int i)] [(.int i), (.long (1 : Int64)), (.long (own_bits 2 sd j (j / 64))), (.int ((i.toUInt32 >>> ((6 : Int32) &&& 31).toUInt32).toInt32)), (.ref b7)]) _
            refine stp (fun _ => XS.lshl X64.here hx rfl (hb hby d2_87) rfl) ?_
            show Go p e below T64 (mkF m 88 #[.val (.ref a), .val (.int (o1 &&& (1 : Int32))), .val (.ref b2), .val (.ref b7), .val (.int i)] [(.long ((1 : Int64) <<< (i &&& 0x3f).toInt64)), (.long (own_bits 2 sd j (j / 64))), (.int ((i.toUInt32 >>> ((6 : Int32) &&& 31).toUInt32).toInt32)), (.ref b7)]) _
            refine stp (fun _ => XS.lor X64.here hx rfl (hb hby d2_88) rfl) ?_
            show Go p e below T64 (mkF m 89 #[.val (.ref a), .val (.int (o1 &&& (1 : Int32))), .val (.ref b2), .val (.ref b7), .val (.int i)] [(.long ((own_bits 2 sd j (j / 64)) ||| ((1 : Int64) <<< (i &&& 0x3f).toInt64))), (.int ((i.toUInt32 >>> ((6 : Int32) &&& 31).toUInt32).toInt32)), (.ref b7)]) _
            obtain ⟨cl72, Ar72, q72, S72, H72, G72⟩ := (id f68)
            have in72 : ¬ (((i.toUInt32 >>> ((6 : Int32) &&& 31).toUInt32).toInt32) < 0 ∨ cl72.slots.size ≤ (((i.toUInt32 >>> ((6 : Int32) &&& 31).toUInt32).toInt32)).toNatClampNeg) := arf_in S72 (own_div hi) (own_d2 hjl)
            obtain ⟨T72, h72, X72, e72, W72, st72⟩ := stJ X64 hx hZ e64 Ar72 (j := ((i.toUInt32 >>> ((6 : Int32) &&& 31).toUInt32).toInt32)) in72 (g := (mkF m 89 #[.val (.ref a), .val (.int (o1 &&& (1 : Int32))), .val (.ref b2), .val (.ref b7), .val (.int i)] [(.long ((own_bits 2 sd j (j / 64)) ||| ((1 : Int64) <<< (i &&& 0x3f).toInt64))), (.int ((i.toUInt32 >>> ((6 : Int32) &&& 31).toUInt32).toInt32)), (.ref b7)])) rfl rfl (hb hby d2_89)
            have V72 := Arf.set Ar72 q72 S72 H72 G72 rfl (arf_ix (own_div hi) ▸ W72) (own_d2 hjl)
            have f73 := f65.other W72 ne8
            have f74 := f66.wr W72
            have f75 := V64.other W72 ne9
            have K72 : Keep h0 h72 [] := K64.wr W72 (Or.inr sz_b7)
            have O72 := O64.wr W72 ge_b7
            have N72 := Fr.snoc X72 N64 ge_b7
            refine stp st72 ?_
            show Go p e below T72 (mkF m 90 #[.val (.ref a), .val (.int (o1 &&& (1 : Int32))), .val (.ref b2), .val (.ref b7), .val (.int i)] []) _
            refine stp (fun _ => XS.iinc X72.here hx rfl (hb hby d2_90) rfl (l' := #[.val (.ref a), .val (.int (o1 &&& (1 : Int32))), .val (.ref b2), .val (.ref b7), .val (.int (i + (1 : Int32)))]) rfl) ?_
            show Go p e below T72 (mkF m 93 #[.val (.ref a), .val (.int (o1 &&& (1 : Int32))), .val (.ref b2), .val (.ref b7), .val (.int (i + (1 : Int32)))] []) _
            refine stp (fun _ => XS.goto X72.here hx rfl (pc0 := 93) (pc' := 21) rfl (hb hby d2_93) (by decide) (by decide)) ?_
            show Go p e below T72 (mkF m 21 #[.val (.ref a), .val (.int (o1 &&& (1 : Int32))), .val (.ref b2), .val (.ref b7), .val (.int (i + (1 : Int32)))] []) _
            have Fj : Arf Z h72 b2 k2 .long 2 (fun w => (.long (own_bits 1 sd (j + 1) w))) := f75.congr (fun w _ => own_bit_yes q50_54 hi)
            have Gj : Arf Z h72 b7 k7 .long 2 (fun w => (.long (own_bits 2 sd (j + 1) w))) := V72.congr (fun w _ => own_bit_yes q73_70 hi)
            exact ih (j + 1) (by omega) (i + (1 : Int32)) (o1 &&& (1 : Int32)) T72 _ h72 X72 e72 N72 O72 K72 f73 f74 Fj Gj (own_next hi hjl) (own_onestep ho (Or.inl ⟨q34_52, rfl⟩))
      · refine stp (fun _ => XS.icmpYes X.here hx rfl (pc0 := 34) (pc' := 41) rfl (hb hby d2_34) rfl (XT.ii_ne_t q34_52) (by decide) (by decide)) ?_
        show Go p e below T (mkF m 41 #[.val (.ref a), .val (.int o1), .val (.ref b2), .val (.ref b7), .val (.int i)] [(.int o1)]) _
        refine stp (fun _ => XS.iconst X.here hx rfl (hb hby d2_41)) ?_
        show Go p e below T (mkF m 42 #[.val (.ref a), .val (.int o1), .val (.ref b2), .val (.ref b7), .val (.int i)] [(.int (0 : Int32)), (.int o1)]) _
        refine stp (fun _ => XS.iand X.here hx rfl (hb hby d2_42) rfl) ?_
        show Go p e below T (mkF m 43 #[.val (.ref a), .val (.int o1), .val (.ref b2), .val (.ref b7), .val (.int i)] [(.int (o1 &&& (0 : Int32)))]) _
        refine stp (fun _ => XS.istoreN X.here hx rfl (hb hby d2_43) rfl (l' := #[.val (.ref a), .val (.int (o1 &&& (0 : Int32))), .val (.ref b2), .val (.ref b7), .val (.int i)]) rfl) ?_
        show Go p e below T (mkF m 44 #[.val (.ref a), .val (.int (o1 &&& (0 : Int32))), .val (.ref b2), .val (.ref b7), .val (.int i)] []) _
        refine stp (fun _ => XS.aloadN X.here hx rfl (hb hby d2_44) rfl rfl) ?_
        show Go p e below T (mkF m 45 #[.val (.ref a), .val (.int (o1 &&& (0 : Int32))), .val (.ref b2), .val (.ref b7), .val (.int i)] [(.ref a)]) _
        refine stp (fun _ => XS.iload X.here hx rfl (hb hby d2_45) rfl) ?_
        show Go p e below T (mkF m 47 #[.val (.ref a), .val (.int (o1 &&& (0 : Int32))), .val (.ref b2), .val (.ref b7), .val (.int i)] [(.int i), (.ref a)]) _
        obtain ⟨cl77, Ar77, q77, S77, H77, G77⟩ := (id Va)
        have in77 : ¬ (i < 0 ∨ cl77.slots.size ≤ (i).toNatClampNeg) := arf_in S77 hi hjl
        have at77 : cl77.slots[(i).toNatClampNeg]? = some (.int (sd j)) := arf_at H77 hi hjl
        refine stp (fun _ => X.baloadBytes hx (j := i) (v := (.int (sd j))) (by rw [eA]; exact Ar77.1) (State.isArrayOf_alike hZ.alike Ar77.2.1) Ar77.2.2 in77 at77 (g := (mkF m 47 #[.val (.ref a), .val (.int (o1 &&& (0 : Int32))), .val (.ref b2), .val (.ref b7), .val (.int i)] [(.int i), (.ref a)])) rfl rfl (hb hby d2_47) _) ?_
        show Go p e below T (mkF m 48 #[.val (.ref a), .val (.int (o1 &&& (0 : Int32))), .val (.ref b2), .val (.ref b7), .val (.int i)] [(.int (sd j))]) _
        refine stp (fun _ => XS.iconst X.here hx rfl (hb hby d2_48)) ?_
        show Go p e below T (mkF m 49 #[.val (.ref a), .val (.int (o1 &&& (0 : Int32))), .val (.ref b2), .val (.ref b7), .val (.int i)] [(.int (1 : Int32)), (.int (sd j))]) _
        refine stp (fun _ => XS.iand X.here hx rfl (hb hby d2_49) rfl) ?_
        show Go p e below T (mkF m 50 #[.val (.ref a), .val (.int (o1 &&& (0 : Int32))), .val (.ref b2), .val (.ref b7), .val (.int i)] [(.int ((sd j) &&& (1 : Int32)))]) _
        by_cases q50_78 : ((sd j) &&& (1 : Int32)) = 0
        · refine stp (fun _ => XS.ifYes X.here hx rfl (pc0 := 50) (pc' := 67) rfl (hb hby d2_50) rfl (XT.i0_eq_t q50_78) (by decide) (by decide)) ?_
          show Go p e below T (mkF m 67 #[.val (.ref a), .val (.int (o1 &&& (0 : Int32))), .val (.ref b2), .val (.ref b7), .val (.int i)] []) _
          refine stp (fun _ => XS.aloadN X.here hx rfl (hb hby d2_67) rfl rfl) ?_
          show Go p e below T (mkF m 68 #[.val (.ref a), .val (.int (o1 &&& (0 : Int32))), .val (.ref b2), .val (.ref b7), .val (.int i)] [(.ref a)]) _
          refine stp (fun _ => XS.iload X.here hx rfl (hb hby d2_68) rfl) ?_
          show Go p e below T (mkF m 70 #[.val (.ref a), .val (.int (o1 &&& (0 : Int32))), .val (.ref b2), .val (.ref b7), .val (.int i)] [(.int i), (.ref a)]) _
          obtain ⟨cl79, Ar79, q79, S79, H79, G79⟩ := (id Va)
          have in79 : ¬ (i < 0 ∨ cl79.slots.size ≤ (i).toNatClampNeg) := arf_in S79 hi hjl
          have at79 : cl79.slots[(i).toNatClampNeg]? = some (.int (sd j)) := arf_at H79 hi hjl
          refine stp (fun _ => X.baloadBytes hx (j := i) (v := (.int (sd j))) (by rw [eA]; exact Ar79.1) (State.isArrayOf_alike hZ.alike Ar79.2.1) Ar79.2.2 in79 at79 (g := (mkF m 70 #[.val (.ref a), .val (.int (o1 &&& (0 : Int32))), .val (.ref b2), .val (.ref b7), .val (.int i)] [(.int i), (.ref a)])) rfl rfl (hb hby d2_70) _) ?_
          show Go p e below T (mkF m 71 #[.val (.ref a), .val (.int (o1 &&& (0 : Int32))), .val (.ref b2), .val (.ref b7), .val (.int i)] [(.int (sd j))]) _
          refine stp (fun _ => XS.iconst X.here hx rfl (hb hby d2_71)) ?_
          show Go p e below T (mkF m 72 #[.val (.ref a), .val (.int (o1 &&& (0 : Int32))), .val (.ref b2), .val (.ref b7), .val (.int i)] [(.int (2 : Int32)), (.int (sd j))]) _
          refine stp (fun _ => XS.iand X.here hx rfl (hb hby d2_72) rfl) ?_
          show Go p e below T (mkF m 73 #[.val (.ref a), .val (.int (o1 &&& (0 : Int32))), .val (.ref b2), .val (.ref b7), .val (.int i)] [(.int ((sd j) &&& (2 : Int32)))]) _
          by_cases q73_80 : ((sd j) &&& (2 : Int32)) = 0
          · refine stp (fun _ => XS.ifYes X.here hx rfl (pc0 := 73) (pc' := 90) rfl (hb hby d2_73) rfl (XT.i0_eq_t q73_80) (by decide) (by decide)) ?_
            show Go p e below T (mkF m 90 #[.val (.ref a), .val (.int (o1 &&& (0 : Int32))), .val (.ref b2), .val (.ref b7), .val (.int i)] []) _
            refine stp (fun _ => XS.iinc X.here hx rfl (hb hby d2_90) rfl (l' := #[.val (.ref a), .val (.int (o1 &&& (0 : Int32))), .val (.ref b2), .val (.ref b7), .val (.int (i + (1 : Int32)))]) rfl) ?_
            show Go p e below T (mkF m 93 #[.val (.ref a), .val (.int (o1 &&& (0 : Int32))), .val (.ref b2), .val (.ref b7), .val (.int (i + (1 : Int32)))] []) _
            refine stp (fun _ => XS.goto X.here hx rfl (pc0 := 93) (pc' := 21) rfl (hb hby d2_93) (by decide) (by decide)) ?_
            show Go p e below T (mkF m 21 #[.val (.ref a), .val (.int (o1 &&& (0 : Int32))), .val (.ref b2), .val (.ref b7), .val (.int (i + (1 : Int32)))] []) _
            have Fj : Arf Z hA b2 k2 .long 2 (fun w => (.long (own_bits 1 sd (j + 1) w))) := Vf.congr (fun w _ => own_bit_no q50_78)
            have Gj : Arf Z hA b7 k7 .long 2 (fun w => (.long (own_bits 2 sd (j + 1) w))) := Vg.congr (fun w _ => own_bit_no q73_80)
            exact ih (j + 1) (by omega) (i + (1 : Int32)) (o1 &&& (0 : Int32)) T _ hA X eA NA OA KA Va Ea Fj Gj (own_next hi hjl) (own_onestep ho (Or.inr ⟨q34_52, rfl⟩))
          · refine stp (fun _ => XS.ifNo X.here hx rfl (hb hby d2_73) rfl (XT.i0_eq_f q73_80)) ?_
            show Go p e below T (mkF m 76 #[.val (.ref a), .val (.int (o1 &&& (0 : Int32))), .val (.ref b2), .val (.ref b7), .val (.int i)] []) _
            refine stp (fun _ => XS.aloadN X.here hx rfl (hb hby d2_76) rfl rfl) ?_
            show Go p e below T (mkF m 77 #[.val (.ref a), .val (.int (o1 &&& (0 : Int32))), .val (.ref b2), .val (.ref b7), .val (.int i)] [(.ref b7)]) _
            refine stp (fun _ => XS.iload X.here hx rfl (hb hby d2_77) rfl) ?_
            show Go p e below T (mkF m 79 #[.val (.ref a), .val (.int (o1 &&& (0 : Int32))), .val (.ref b2), .val (.ref b7), .val (.int i)] [(.int i), (.ref b7)]) _
            refine stp (fun _ => XS.bipush X.here hx rfl (hb hby d2_79)) ?_
            show Go p e below T (mkF m 81 #[.val (.ref a), .val (.int (o1 &&& (0 : Int32))), .val (.ref b2), .val (.ref b7), .val (.int i)] [(.int (6 : Int32)), (.int i), (.ref b7)]) _
            refine stp (fun _ => XS.iushr X.here hx rfl (hb hby d2_81) rfl) ?_
            show Go p e below T (mkF m 82 #[.val (.ref a), .val (.int (o1 &&& (0 : Int32))), .val (.ref b2), .val (.ref b7), .val (.int i)] [(.int ((i.toUInt32 >>> ((6 : Int32) &&& 31).toUInt32).toInt32)), (.ref b7)]) _
            refine stp (fun _ => XT.dup2 X.here hx rfl (hb hby d2_82) rfl rfl rfl) ?_
            show Go p e below T (mkF m 83 #[.val (.ref a), .val (.int (o1 &&& (0 : Int32))), .val (.ref b2), .val (.ref b7), .val (.int i)] [(.int ((i.toUInt32 >>> ((6 : Int32) &&& 31).toUInt32).toInt32)), (.ref b7), (.int ((i.toUInt32 >>> ((6 : Int32) &&& 31).toUInt32).toInt32)), (.ref b7)]) _
            obtain ⟨cl81, Ar81, q81, S81, H81, G81⟩ := (id Vg)
            have in81 : ¬ (((i.toUInt32 >>> ((6 : Int32) &&& 31).toUInt32).toInt32) < 0 ∨ cl81.slots.size ≤ (((i.toUInt32 >>> ((6 : Int32) &&& 31).toUInt32).toInt32)).toNatClampNeg) := arf_in S81 (own_div hi) (own_d2 hjl)
            have at81 : cl81.slots[(((i.toUInt32 >>> ((6 : Int32) &&& 31).toUInt32).toInt32)).toNatClampNeg]? = some (.long (own_bits 2 sd j (j / 64))) := arf_at H81 (own_div hi) (own_d2 hjl)
            refine stp (fun _ => X.laload hx (j := ((i.toUInt32 >>> ((6 : Int32) &&& 31).toUInt32).toInt32)) (v := (.long (own_bits 2 sd j (j / 64)))) (by rw [eA]; exact Ar81.1) (State.isArrayOf_alike hZ.alike Ar81.2.1) Ar81.2.2 in81 at81 (g := (mkF m 83 #[.val (.ref a), .val (.int (o1 &&& (0 : Int32))), .val (.ref b2), .val (.ref b7), .val (.int i)] [(.int ((i.toUInt32 >>> ((6 : Int32) &&& 31).toUInt32).toInt32)), (.ref b7), (.int ((i.toUInt32 >>> ((6 : Int32) &&& 31).toUInt32).toInt32)), (.ref b7)])) rfl rfl (hb hby d2_83) _) ?_
            show Go p e below T (mkF m 84 #[.val (.ref a), .val (.int (o1 &&& (0 : Int32))), .val (.ref b2), .val (.ref b7), .val (.int i)] [(.long (own_bits 2 sd j (j / 64))), (.int ((i.toUInt32 >>> ((6 : Int32) &&& 31).toUInt32).toInt32)), (.ref b7)]) _
            refine stp (fun _ => XS.lconst X.here hx rfl (hb hby d2_84)) ?_
            show Go p e below T (mkF m 85 #[.val (.ref a), .val (.int (o1 &&& (0 : Int32))), .val (.ref b2), .val (.ref b7), .val (.int i)] [(.long (1 : Int64)), (.long (own_bits 2 sd j (j / 64))), (.int ((i.toUInt32 >>> ((6 : Int32) &&& 31).toUInt32).toInt32)), (.ref b7)]) _
            refine stp (fun _ => XS.iload X.here hx rfl (hb hby d2_85) rfl) ?_
            show Go p e below T (mkF m 87 #[.val (.ref a), .val (.int (o1 &&& (0 : Int32))), .val (.ref b2), .val (.ref b7), .val (.int i)] [(.int i), (.long (1 : Int64)), (.long (own_bits 2 sd j (j / 64))), (.int ((i.toUInt32 >>> ((6 : Int32) &&& 31).toUInt32).toInt32)), (.ref b7)]) _
            refine stp (fun _ => XS.lshl X.here hx rfl (hb hby d2_87) rfl) ?_
            show Go p e below T (mkF m 88 #[.val (.ref a), .val (.int (o1 &&& (0 : Int32))), .val (.ref b2), .val (.ref b7), .val (.int i)] [(.long ((1 : Int64) <<< (i &&& 0x3f).toInt64)), (.long (own_bits 2 sd j (j / 64))), (.int ((i.toUInt32 >>> ((6 : Int32) &&& 31).toUInt32).toInt32)), (.ref b7)]) _
            refine stp (fun _ => XS.lor X.here hx rfl (hb hby d2_88) rfl) ?_
            show Go p e below T (mkF m 89 #[.val (.ref a), .val (.int (o1 &&& (0 : Int32))), .val (.ref b2), .val (.ref b7), .val (.int i)] [(.long ((own_bits 2 sd j (j / 64)) ||| ((1 : Int64) <<< (i &&& 0x3f).toInt64))), (.int ((i.toUInt32 >>> ((6 : Int32) &&& 31).toUInt32).toInt32)), (.ref b7)]) _
            obtain ⟨cl82, Ar82, q82, S82, H82, G82⟩ := (id Vg)
            have in82 : ¬ (((i.toUInt32 >>> ((6 : Int32) &&& 31).toUInt32).toInt32) < 0 ∨ cl82.slots.size ≤ (((i.toUInt32 >>> ((6 : Int32) &&& 31).toUInt32).toInt32)).toNatClampNeg) := arf_in S82 (own_div hi) (own_d2 hjl)
            obtain ⟨T82, h82, X82, e82, W82, st82⟩ := stJ X hx hZ eA Ar82 (j := ((i.toUInt32 >>> ((6 : Int32) &&& 31).toUInt32).toInt32)) in82 (g := (mkF m 89 #[.val (.ref a), .val (.int (o1 &&& (0 : Int32))), .val (.ref b2), .val (.ref b7), .val (.int i)] [(.long ((own_bits 2 sd j (j / 64)) ||| ((1 : Int64) <<< (i &&& 0x3f).toInt64))), (.int ((i.toUInt32 >>> ((6 : Int32) &&& 31).toUInt32).toInt32)), (.ref b7)])) rfl rfl (hb hby d2_89)
            have V82 := Arf.set Ar82 q82 S82 H82 G82 rfl (arf_ix (own_div hi) ▸ W82) (own_d2 hjl)
            have f83 := Va.other W82 ne8
            have f84 := Ea.wr W82
            have f85 := Vf.other W82 ne9
            have K82 : Keep h0 h82 [] := KA.wr W82 (Or.inr sz_b7)
            have O82 := OA.wr W82 ge_b7
            have N82 := Fr.snoc X82 NA ge_b7
            refine stp st82 ?_
            show Go p e below T82 (mkF m 90 #[.val (.ref a), .val (.int (o1 &&& (0 : Int32))), .val (.ref b2), .val (.ref b7), .val (.int i)] []) _
            refine stp (fun _ => XS.iinc X82.here hx rfl (hb hby d2_90) rfl (l' := #[.val (.ref a), .val (.int (o1 &&& (0 : Int32))), .val (.ref b2), .val (.ref b7), .val (.int (i + (1 : Int32)))]) rfl) ?_
            show Go p e below T82 (mkF m 93 #[.val (.ref a), .val (.int (o1 &&& (0 : Int32))), .val (.ref b2), .val (.ref b7), .val (.int (i + (1 : Int32)))] []) _
            refine stp (fun _ => XS.goto X82.here hx rfl (pc0 := 93) (pc' := 21) rfl (hb hby d2_93) (by decide) (by decide)) ?_
            show Go p e below T82 (mkF m 21 #[.val (.ref a), .val (.int (o1 &&& (0 : Int32))), .val (.ref b2), .val (.ref b7), .val (.int (i + (1 : Int32)))] []) _
            have Fj : Arf Z h82 b2 k2 .long 2 (fun w => (.long (own_bits 1 sd (j + 1) w))) := f85.congr (fun w _ => own_bit_no q50_78)
            have Gj : Arf Z h82 b7 k7 .long 2 (fun w => (.long (own_bits 2 sd (j + 1) w))) := V82.congr (fun w _ => own_bit_yes q73_80 hi)
            exact ih (j + 1) (by omega) (i + (1 : Int32)) (o1 &&& (0 : Int32)) T82 _ h82 X82 e82 N82 O82 K82 f83 f84 Fj Gj (own_next hi hjl) (own_onestep ho (Or.inr ⟨q34_52, rfl⟩))
        · refine stp (fun _ => XS.ifNo X.here hx rfl (hb hby d2_50) rfl (XT.i0_eq_f q50_78)) ?_
          show Go p e below T (mkF m 53 #[.val (.ref a), .val (.int (o1 &&& (0 : Int32))), .val (.ref b2), .val (.ref b7), .val (.int i)] []) _
          refine stp (fun _ => XS.aloadN X.here hx rfl (hb hby d2_53) rfl rfl) ?_
          show Go p e below T (mkF m 54 #[.val (.ref a), .val (.int (o1 &&& (0 : Int32))), .val (.ref b2), .val (.ref b7), .val (.int i)] [(.ref b2)]) _
          refine stp (fun _ => XS.iload X.here hx rfl (hb hby d2_54) rfl) ?_
          show Go p e below T (mkF m 56 #[.val (.ref a), .val (.int (o1 &&& (0 : Int32))), .val (.ref b2), .val (.ref b7), .val (.int i)] [(.int i), (.ref b2)]) _
          refine stp (fun _ => XS.bipush X.here hx rfl (hb hby d2_56)) ?_
          show Go p e below T (mkF m 58 #[.val (.ref a), .val (.int (o1 &&& (0 : Int32))), .val (.ref b2), .val (.ref b7), .val (.int i)] [(.int (6 : Int32)), (.int i), (.ref b2)]) _
          refine stp (fun _ => XS.iushr X.here hx rfl (hb hby d2_58) rfl) ?_
          show Go p e below T (mkF m 59 #[.val (.ref a), .val (.int (o1 &&& (0 : Int32))), .val (.ref b2), .val (.ref b7), .val (.int i)] [(.int ((i.toUInt32 >>> ((6 : Int32) &&& 31).toUInt32).toInt32)), (.ref b2)]) _
          refine stp (fun _ => XT.dup2 X.here hx rfl (hb hby d2_59) rfl rfl rfl) ?_
          show Go p e below T (mkF m 60 #[.val (.ref a), .val (.int (o1 &&& (0 : Int32))), .val (.ref b2), .val (.ref b7), .val (.int i)] [(.int ((i.toUInt32 >>> ((6 : Int32) &&& 31).toUInt32).toInt32)), (.ref b2), (.int ((i.toUInt32 >>> ((6 : Int32) &&& 31).toUInt32).toInt32)), (.ref b2)]) _
          obtain ⟨cl87, Ar87, q87, S87, H87, G87⟩ := (id Vf)
          have in87 : ¬ (((i.toUInt32 >>> ((6 : Int32) &&& 31).toUInt32).toInt32) < 0 ∨ cl87.slots.size ≤ (((i.toUInt32 >>> ((6 : Int32) &&& 31).toUInt32).toInt32)).toNatClampNeg) := arf_in S87 (own_div hi) (own_d2 hjl)
          have at87 : cl87.slots[(((i.toUInt32 >>> ((6 : Int32) &&& 31).toUInt32).toInt32)).toNatClampNeg]? = some (.long (own_bits 1 sd j (j / 64))) := arf_at H87 (own_div hi) (own_d2 hjl)
          refine stp (fun _ => X.laload hx (j := ((i.toUInt32 >>> ((6 : Int32) &&& 31).toUInt32).toInt32)) (v := (.long (own_bits 1 sd j (j / 64)))) (by rw [eA]; exact Ar87.1) (State.isArrayOf_alike hZ.alike Ar87.2.1) Ar87.2.2 in87 at87 (g := (mkF m 60 #[.val (.ref a), .val (.int (o1 &&& (0 : Int32))), .val (.ref b2), .val (.ref b7), .val (.int i)] [(.int ((i.toUInt32 >>> ((6 : Int32) &&& 31).toUInt32).toInt32)), (.ref b2), (.int ((i.toUInt32 >>> ((6 : Int32) &&& 31).toUInt32).toInt32)), (.ref b2)])) rfl rfl (hb hby d2_60) _) ?_
          show Go p e below T (mkF m 61 #[.val (.ref a), .val (.int (o1 &&& (0 : Int32))), .val (.ref b2), .val (.ref b7), .val (.int i)] [(.long (own_bits 1 sd j (j / 64))), (.int ((i.toUInt32 >>> ((6 : Int32) &&& 31).toUInt32).toInt32)), (.ref b2)]) _
          refine stp (fun _ => XS.lconst X.here hx rfl (hb hby d2_61)) ?_
          show Go p e below T (mkF m 62 #[.val (.ref a), .val (.int (o1 &&& (0 : Int32))), .val (.ref b2), .val (.ref b7), .val (.int i)] [(.long (1 : Int64)), (.long (own_bits 1 sd j (j / 64))), (.int ((i.toUInt32 >>> ((6 : Int32) &&& 31).toUInt32).toInt32)), (.ref b2)]) _
          refine stp (fun _ => XS.iload X.here hx rfl (hb hby d2_62) rfl) ?_
          show Go p e below T (mkF m 64 #[.val (.ref a), .val (.int (o1 &&& (0 : Int32))), .val (.ref b2), .val (.ref b7), .val (.int i)] [(.int i), (.long (1 : Int64)), (.long (own_bits 1 sd j (j / 64))), (.int ((i.toUInt32 >>> ((6 : Int32) &&& 31).toUInt32).toInt32)), (.ref b2)]) _
          refine stp (fun _ => XS.lshl X.here hx rfl (hb hby d2_64) rfl) ?_
          show Go p e below T (mkF m 65 #[.val (.ref a), .val (.int (o1 &&& (0 : Int32))), .val (.ref b2), .val (.ref b7), .val (.int i)] [(.long ((1 : Int64) <<< (i &&& 0x3f).toInt64)), (.long (own_bits 1 sd j (j / 64))), (.int ((i.toUInt32 >>> ((6 : Int32) &&& 31).toUInt32).toInt32)), (.ref b2)]) _
          refine stp (fun _ => XS.lor X.here hx rfl (hb hby d2_65) rfl) ?_
          show Go p e below T (mkF m 66 #[.val (.ref a), .val (.int (o1 &&& (0 : Int32))), .val (.ref b2), .val (.ref b7), .val (.int i)] [(.long ((own_bits 1 sd j (j / 64)) ||| ((1 : Int64) <<< (i &&& 0x3f).toInt64))), (.int ((i.toUInt32 >>> ((6 : Int32) &&& 31).toUInt32).toInt32)), (.ref b2)]) _
          obtain ⟨cl88, Ar88, q88, S88, H88, G88⟩ := (id Vf)
          have in88 : ¬ (((i.toUInt32 >>> ((6 : Int32) &&& 31).toUInt32).toInt32) < 0 ∨ cl88.slots.size ≤ (((i.toUInt32 >>> ((6 : Int32) &&& 31).toUInt32).toInt32)).toNatClampNeg) := arf_in S88 (own_div hi) (own_d2 hjl)
          obtain ⟨T88, h88, X88, e88, W88, st88⟩ := stJ X hx hZ eA Ar88 (j := ((i.toUInt32 >>> ((6 : Int32) &&& 31).toUInt32).toInt32)) in88 (g := (mkF m 66 #[.val (.ref a), .val (.int (o1 &&& (0 : Int32))), .val (.ref b2), .val (.ref b7), .val (.int i)] [(.long ((own_bits 1 sd j (j / 64)) ||| ((1 : Int64) <<< (i &&& 0x3f).toInt64))), (.int ((i.toUInt32 >>> ((6 : Int32) &&& 31).toUInt32).toInt32)), (.ref b2)])) rfl rfl (hb hby d2_66)
          have V88 := Arf.set Ar88 q88 S88 H88 G88 rfl (arf_ix (own_div hi) ▸ W88) (own_d2 hjl)
          have f89 := Va.other W88 ne3
          have f90 := Ea.wr W88
          have f92 := Vg.other W88 (Ne.symm ne9)
          have K88 : Keep h0 h88 [] := KA.wr W88 (Or.inr sz_b2)
          have O88 := OA.wr W88 ge_b2
          have N88 := Fr.snoc X88 NA ge_b2
          refine stp st88 ?_
          show Go p e below T88 (mkF m 67 #[.val (.ref a), .val (.int (o1 &&& (0 : Int32))), .val (.ref b2), .val (.ref b7), .val (.int i)] []) _
          refine stp (fun _ => XS.aloadN X88.here hx rfl (hb hby d2_67) rfl rfl) ?_
          show Go p e below T88 (mkF m 68 #[.val (.ref a), .val (.int (o1 &&& (0 : Int32))), .val (.ref b2), .val (.ref b7), .val (.int i)] [(.ref a)]) _
          refine stp (fun _ => XS.iload X88.here hx rfl (hb hby d2_68) rfl) ?_
          show Go p e below T88 (mkF m 70 #[.val (.ref a), .val (.int (o1 &&& (0 : Int32))), .val (.ref b2), .val (.ref b7), .val (.int i)] [(.int i), (.ref a)]) _
          obtain ⟨cl93, Ar93, q93, S93, H93, G93⟩ := (id f89)
          have in93 : ¬ (i < 0 ∨ cl93.slots.size ≤ (i).toNatClampNeg) := arf_in S93 hi hjl
          have at93 : cl93.slots[(i).toNatClampNeg]? = some (.int (sd j)) := arf_at H93 hi hjl
          refine stp (fun _ => X88.baloadBytes hx (j := i) (v := (.int (sd j))) (by rw [e88]; exact Ar93.1) (State.isArrayOf_alike hZ.alike Ar93.2.1) Ar93.2.2 in93 at93 (g := (mkF m 70 #[.val (.ref a), .val (.int (o1 &&& (0 : Int32))), .val (.ref b2), .val (.ref b7), .val (.int i)] [(.int i), (.ref a)])) rfl rfl (hb hby d2_70) _) ?_
          show Go p e below T88 (mkF m 71 #[.val (.ref a), .val (.int (o1 &&& (0 : Int32))), .val (.ref b2), .val (.ref b7), .val (.int i)] [(.int (sd j))]) _
          refine stp (fun _ => XS.iconst X88.here hx rfl (hb hby d2_71)) ?_
          show Go p e below T88 (mkF m 72 #[.val (.ref a), .val (.int (o1 &&& (0 : Int32))), .val (.ref b2), .val (.ref b7), .val (.int i)] [(.int (2 : Int32)), (.int (sd j))]) _
          refine stp (fun _ => XS.iand X88.here hx rfl (hb hby d2_72) rfl) ?_
          show Go p e below T88 (mkF m 73 #[.val (.ref a), .val (.int (o1 &&& (0 : Int32))), .val (.ref b2), .val (.ref b7), .val (.int i)] [(.int ((sd j) &&& (2 : Int32)))]) _
          by_cases q73_94 : ((sd j) &&& (2 : Int32)) = 0
          · refine stp (fun _ => XS.ifYes X88.here hx rfl (pc0 := 73) (pc' := 90) rfl (hb hby d2_73) rfl (XT.i0_eq_t q73_94) (by decide) (by decide)) ?_
            show Go p e below T88 (mkF m 90 #[.val (.ref a), .val (.int (o1 &&& (0 : Int32))), .val (.ref b2), .val (.ref b7), .val (.int i)] []) _
            refine stp (fun _ => XS.iinc X88.here hx rfl (hb hby d2_90) rfl (l' := #[.val (.ref a), .val (.int (o1 &&& (0 : Int32))), .val (.ref b2), .val (.ref b7), .val (.int (i + (1 : Int32)))]) rfl) ?_
            show Go p e below T88 (mkF m 93 #[.val (.ref a), .val (.int (o1 &&& (0 : Int32))), .val (.ref b2), .val (.ref b7), .val (.int (i + (1 : Int32)))] []) _
            refine stp (fun _ => XS.goto X88.here hx rfl (pc0 := 93) (pc' := 21) rfl (hb hby d2_93) (by decide) (by decide)) ?_
            show Go p e below T88 (mkF m 21 #[.val (.ref a), .val (.int (o1 &&& (0 : Int32))), .val (.ref b2), .val (.ref b7), .val (.int (i + (1 : Int32)))] []) _
            have Fj : Arf Z h88 b2 k2 .long 2 (fun w => (.long (own_bits 1 sd (j + 1) w))) := V88.congr (fun w _ => own_bit_yes q50_78 hi)
            have Gj : Arf Z h88 b7 k7 .long 2 (fun w => (.long (own_bits 2 sd (j + 1) w))) := f92.congr (fun w _ => own_bit_no q73_94)
            exact ih (j + 1) (by omega) (i + (1 : Int32)) (o1 &&& (0 : Int32)) T88 _ h88 X88 e88 N88 O88 K88 f89 f90 Fj Gj (own_next hi hjl) (own_onestep ho (Or.inr ⟨q34_52, rfl⟩))
          · refine stp (fun _ => XS.ifNo X88.here hx rfl (hb hby d2_73) rfl (XT.i0_eq_f q73_94)) ?_
            show Go p e below T88 (mkF m 76 #[.val (.ref a), .val (.int (o1 &&& (0 : Int32))), .val (.ref b2), .val (.ref b7), .val (.int i)] []) _
            refine stp (fun _ => XS.aloadN X88.here hx rfl (hb hby d2_76) rfl rfl) ?_
            show Go p e below T88 (mkF m 77 #[.val (.ref a), .val (.int (o1 &&& (0 : Int32))), .val (.ref b2), .val (.ref b7), .val (.int i)] [(.ref b7)]) _
            refine stp (fun _ => XS.iload X88.here hx rfl (hb hby d2_77) rfl) ?_
            show Go p e below T88 (mkF m 79 #[.val (.ref a), .val (.int (o1 &&& (0 : Int32))), .val (.ref b2), .val (.ref b7), .val (.int i)] [(.int i), (.ref b7)]) _
            refine stp (fun _ => XS.bipush X88.here hx rfl (hb hby d2_79)) ?_
            show Go p e below T88 (mkF m 81 #[.val (.ref a), .val (.int (o1 &&& (0 : Int32))), .val (.ref b2), .val (.ref b7), .val (.int i)] [(.int (6 : Int32)), (.int i), (.ref b7)]) _
            refine stp (fun _ => XS.iushr X88.here hx rfl (hb hby d2_81) rfl) ?_
            show Go p e below T88 (mkF m 82 #[.val (.ref a), .val (.int (o1 &&& (0 : Int32))), .val (.ref b2), .val (.ref b7), .val (.int i)] [(.int ((i.toUInt32 >>> ((6 : Int32) &&& 31).toUInt32).toInt32)), (.ref b7)]) _
            refine stp (fun _ => XT.dup2 X88.here hx rfl (hb hby d2_82) rfl rfl rfl) ?_
            show Go p e below T88 (mkF m 83 #[.val (.ref a), .val (.int (o1 &&& (0 : Int32))), .val (.ref b2), .val (.ref b7), .val (.int i)] [(.int ((i.toUInt32 >>> ((6 : Int32) &&& 31).toUInt32).toInt32)), (.ref b7), (.int ((i.toUInt32 >>> ((6 : Int32) &&& 31).toUInt32).toInt32)), (.ref b7)]) _
            obtain ⟨cl95, Ar95, q95, S95, H95, G95⟩ := (id f92)
            have in95 : ¬ (((i.toUInt32 >>> ((6 : Int32) &&& 31).toUInt32).toInt32) < 0 ∨ cl95.slots.size ≤ (((i.toUInt32 >>> ((6 : Int32) &&& 31).toUInt32).toInt32)).toNatClampNeg) := arf_in S95 (own_div hi) (own_d2 hjl)
            have at95 : cl95.slots[(((i.toUInt32 >>> ((6 : Int32) &&& 31).toUInt32).toInt32)).toNatClampNeg]? = some (.long (own_bits 2 sd j (j / 64))) := arf_at H95 (own_div hi) (own_d2 hjl)
            refine stp (fun _ => X88.laload hx (j := ((i.toUInt32 >>> ((6 : Int32) &&& 31).toUInt32).toInt32)) (v := (.long (own_bits 2 sd j (j / 64)))) (by rw [e88]; exact Ar95.1) (State.isArrayOf_alike hZ.alike Ar95.2.1) Ar95.2.2 in95 at95 (g := (mkF m 83 #[.val (.ref a), .val (.int (o1 &&& (0 : Int32))), .val (.ref b2), .val (.ref b7), .val (.int i)] [(.int ((i.toUInt32 >>> ((6 : Int32) &&& 31).toUInt32).toInt32)), (.ref b7), (.int ((i.toUInt32 >>> ((6 : Int32) &&& 31).toUInt32).toInt32)), (.ref b7)])) rfl rfl (hb hby d2_83) _) ?_
            show Go p e below T88 (mkF m 84 #[.val (.ref a), .val (.int (o1 &&& (0 : Int32))), .val (.ref b2), .val (.ref b7), .val (.int i)] [(.long (own_bits 2 sd j (j / 64))), (.int ((i.toUInt32 >>> ((6 : Int32) &&& 31).toUInt32).toInt32)), (.ref b7)]) _
            refine stp (fun _ => XS.lconst X88.here hx rfl (hb hby d2_84)) ?_
            show Go p e below T88 (mkF m 85 #[.val (.ref a), .val (.int (o1 &&& (0 : Int32))), .val (.ref b2), .val (.ref b7), .val (.int i)] [(.long (1 : Int64)), (.long (own_bits 2 sd j (j / 64))), (.int ((i.toUInt32 >>> ((6 : Int32) &&& 31).toUInt32).toInt32)), (.ref b7)]) _
            refine stp (fun _ => XS.iload X88.here hx rfl (hb hby d2_85) rfl) ?_
            show Go p e below T88 (mkF m 87 #[.val (.ref a), .val (.int (o1 &&& (0 : Int32))), .val (.ref b2), .val (.ref b7), .val (.int i)] [(.int i), (.long (1 : Int64)), (.long (own_bits 2 sd j (j / 64))), (.int ((i.toUInt32 >>> ((6 : Int32) &&& 31).toUInt32).toInt32)), (.ref b7)]) _
            refine stp (fun _ => XS.lshl X88.here hx rfl (hb hby d2_87) rfl) ?_
            show Go p e below T88 (mkF m 88 #[.val (.ref a), .val (.int (o1 &&& (0 : Int32))), .val (.ref b2), .val (.ref b7), .val (.int i)] [(.long ((1 : Int64) <<< (i &&& 0x3f).toInt64)), (.long (own_bits 2 sd j (j / 64))), (.int ((i.toUInt32 >>> ((6 : Int32) &&& 31).toUInt32).toInt32)), (.ref b7)]) _
            refine stp (fun _ => XS.lor X88.here hx rfl (hb hby d2_88) rfl) ?_
            show Go p e below T88 (mkF m 89 #[.val (.ref a), .val (.int (o1 &&& (0 : Int32))), .val (.ref b2), .val (.ref b7), .val (.int i)] [(.long ((own_bits 2 sd j (j / 64)) ||| ((1 : Int64) <<< (i &&& 0x3f).toInt64))), (.int ((i.toUInt32 >>> ((6 : Int32) &&& 31).toUInt32).toInt32)), (.ref b7)]) _
            obtain ⟨cl96, Ar96, q96, S96, H96, G96⟩ := (id f92)
            have in96 : ¬ (((i.toUInt32 >>> ((6 : Int32) &&& 31).toUInt32).toInt32) < 0 ∨ cl96.slots.size ≤ (((i.toUInt32 >>> ((6 : Int32) &&& 31).toUInt32).toInt32)).toNatClampNeg) := arf_in S96 (own_div hi) (own_d2 hjl)
            obtain ⟨T96, h96, X96, e96, W96, st96⟩ := stJ X88 hx hZ e88 Ar96 (j := ((i.toUInt32 >>> ((6 : Int32) &&& 31).toUInt32).toInt32)) in96 (g := (mkF m 89 #[.val (.ref a), .val (.int (o1 &&& (0 : Int32))), .val (.ref b2), .val (.ref b7), .val (.int i)] [(.long ((own_bits 2 sd j (j / 64)) ||| ((1 : Int64) <<< (i &&& 0x3f).toInt64))), (.int ((i.toUInt32 >>> ((6 : Int32) &&& 31).toUInt32).toInt32)), (.ref b7)])) rfl rfl (hb hby d2_89)
            have V96 := Arf.set Ar96 q96 S96 H96 G96 rfl (arf_ix (own_div hi) ▸ W96) (own_d2 hjl)
            have f97 := f89.other W96 ne8
            have f98 := f90.wr W96
            have f99 := V88.other W96 ne9
            have K96 : Keep h0 h96 [] := K88.wr W96 (Or.inr sz_b7)
            have O96 := O88.wr W96 ge_b7
            have N96 := Fr.snoc X96 N88 ge_b7
            refine stp st96 ?_
            show Go p e below T96 (mkF m 90 #[.val (.ref a), .val (.int (o1 &&& (0 : Int32))), .val (.ref b2), .val (.ref b7), .val (.int i)] []) _
            refine stp (fun _ => XS.iinc X96.here hx rfl (hb hby d2_90) rfl (l' := #[.val (.ref a), .val (.int (o1 &&& (0 : Int32))), .val (.ref b2), .val (.ref b7), .val (.int (i + (1 : Int32)))]) rfl) ?_
            show Go p e below T96 (mkF m 93 #[.val (.ref a), .val (.int (o1 &&& (0 : Int32))), .val (.ref b2), .val (.ref b7), .val (.int (i + (1 : Int32)))] []) _
            refine stp (fun _ => XS.goto X96.here hx rfl (pc0 := 93) (pc' := 21) rfl (hb hby d2_93) (by decide) (by decide)) ?_
            show Go p e below T96 (mkF m 21 #[.val (.ref a), .val (.int (o1 &&& (0 : Int32))), .val (.ref b2), .val (.ref b7), .val (.int (i + (1 : Int32)))] []) _
            have Fj : Arf Z h96 b2 k2 .long 2 (fun w => (.long (own_bits 1 sd (j + 1) w))) := f99.congr (fun w _ => own_bit_yes q50_78 hi)
            have Gj : Arf Z h96 b7 k7 .long 2 (fun w => (.long (own_bits 2 sd (j + 1) w))) := V96.congr (fun w _ => own_bit_yes q73_94 hi)
            exact ih (j + 1) (by omega) (i + (1 : Int32)) (o1 &&& (0 : Int32)) T96 _ h96 X96 e96 N96 O96 K96 f97 f98 Fj Gj (own_next hi hjl) (own_onestep ho (Or.inr ⟨q34_52, rfl⟩))
  exact loop 66 0 rfl (0 : Int32) (1 : Int32) T7 _ h7 X7 e7 N0 O7 K7 f10 f11 F0 G0 (by decide) rfl
theorem d5_0 : decode method_4_code 0 = .ok (.iload_n 0, 1) := by decide +kernel
theorem d5_1 : decode method_4_code 1 = .ok (.iconst 3, 1) := by decide +kernel
theorem d5_2 : decode method_4_code 2 = .ok (.iand, 1) := by decide +kernel
theorem d5_3 : decode method_4_code 3 = .ok (.istore_n 3, 1) := by decide +kernel
theorem d5_4 : decode method_4_code 4 = .ok (.iload_n 3, 1) := by decide +kernel
theorem d5_5 : decode method_4_code 5 = .ok (.ifCond .ne 5, 3) := by decide +kernel
theorem d5_8 : decode method_4_code 8 = .ok (.iload_n 1, 1) := by decide +kernel
theorem d5_9 : decode method_4_code 9 = .ok (.ireturn, 1) := by decide +kernel
theorem d5_10 : decode method_4_code 10 = .ok (.iload_n 3, 1) := by decide +kernel
theorem d5_11 : decode method_4_code 11 = .ok (.iconst 1, 1) := by decide +kernel
theorem d5_12 : decode method_4_code 12 = .ok (.if_icmp .ne 5, 3) := by decide +kernel
theorem d5_15 : decode method_4_code 15 = .ok (.iload_n 2, 1) := by decide +kernel
theorem d5_16 : decode method_4_code 16 = .ok (.ireturn, 1) := by decide +kernel
theorem d5_17 : decode method_4_code 17 = .ok (.iload_n 0, 1) := by decide +kernel
theorem d5_18 : decode method_4_code 18 = .ok (.iconst 2, 1) := by decide +kernel
theorem d5_19 : decode method_4_code 19 = .ok (.iushr, 1) := by decide +kernel
theorem d5_20 : decode method_4_code 20 = .ok (.bipush 66, 2) := by decide +kernel
theorem d5_22 : decode method_4_code 22 = .ok (.irem, 1) := by decide +kernel
theorem d5_23 : decode method_4_code 23 = .ok (.ireturn, 1) := by decide +kernel
theorem ef_rm_pick (m : MethodId) (q : Int32) (ip : Int32) (jp : Int32)  : entryFrame m #[(.int q), (.int ip), (.int jp)] 4 = mkF m 0 #[.val (.int q), .val (.int ip), .val (.int jp), .unset] [] := by first | (simp [entryFrame, mkF, argsToLocals, Value.category]; done) | rfl
def Q_rm_pick (Z : State) (q : Int32) (ip : Int32) (jp : Int32)  (h0 : Heap) (n0 : Nat) (v : Option Value) (h : Heap) (L : List Loc) : Prop := v = some (.int (own_pick q ip jp)) ∧ Fr n0 L ∧ h = h0
theorem pn_3_ : plainName "com/example/brisk_dedup/briskdedup/engine/SidesOfPinLaw" = true := by first | (simp [plainName, overriddenIn]; done) | decide +kernel
theorem pn_3 : plainFor (⟨"com/example/brisk_dedup/briskdedup/engine/SidesOfPinLaw", "pick", "(III)I"⟩ : MethodName) = true := plainFor_of_name pn_3_
set_option maxRecDepth 65536 in
set_option maxHeartbeats 40000000 in
theorem rm_pick (l : Launch) (Z : State) (a0 : Array Value) (hw : ∀ d ∈ tables_1, d.before a0 Z = true) (ws : List Jvm.Cond) (q : Int32) (ip : Int32) (jp : Int32)  (h0 : Heap) (n0 : Nat) (O0 : Old Z n0 h0)  :
    MetFree l (⟨"com/example/brisk_dedup/briskdedup/engine/SidesOfPinLaw", "pick", "(III)I"⟩ : MethodName) (head1 (Jvm.Cond.code (⟨"com/example/brisk_dedup/briskdedup/engine/SidesOfPinLaw", "pick", "(III)I"⟩ : MethodName) method_4_code 4 (some .int) :: ws) ({ frames := 0, cells := 0, slots := 0, locals := 0 } : Room)) (fun args_ U => args_ = #[(.int q), (.int ip), (.int jp)] ∧ Z.Warmed39 U.vm ∧ U.heap = h0) (fun _ _ _ _ _ => True) (fun _ U o U' => ∃ v L, o = .returned v ∧ (Q_rm_pick Z q ip jp h0 n0) v U'.heap L ∧ FrameEnd U o U' L ({ frames := 0, cells := 0, slots := 0, locals := 0 } : Room).cells ({ frames := 0, cells := 0, slots := 0, locals := 0 } : Room).slots) := by
  refine start (Q := (Q_rm_pick Z q ip jp h0 n0)) pn_3 ?_
  intro p e s m below meth c T0 X0 hx hby hml hown hnm hret hlk hZ e0
  replace hown : s.vm.findClass "com/example/brisk_dedup/briskdedup/engine/SidesOfPinLaw" = some m.cls := hown
  replace hml : c.maxLocals = 4 := hml
  refine goAt (ef_rm_pick m q ip jp ) ?_
  have N0 := Fr.nil n0
  show Go p e below T0 (mkF m 0 #[.val (.int q), .val (.int ip), .val (.int jp), .unset] []) _
  refine stp (fun _ => XS.iloadN X0.here hx rfl (hb hby d5_0) rfl) ?_
  show Go p e below T0 (mkF m 1 #[.val (.int q), .val (.int ip), .val (.int jp), .unset] [(.int q)]) _
  refine stp (fun _ => XS.iconst X0.here hx rfl (hb hby d5_1)) ?_
  show Go p e below T0 (mkF m 2 #[.val (.int q), .val (.int ip), .val (.int jp), .unset] [(.int (3 : Int32)), (.int q)]) _
  refine stp (fun _ => XS.iand X0.here hx rfl (hb hby d5_2) rfl) ?_
  show Go p e below T0 (mkF m 3 #[.val (.int q), .val (.int ip), .val (.int jp), .unset] [(.int (q &&& (3 : Int32)))]) _
  refine stp (fun _ => XS.istoreN X0.here hx rfl (hb hby d5_3) rfl (l' := #[.val (.int q), .val (.int ip), .val (.int jp), .val (.int (q &&& (3 : Int32)))]) rfl) ?_
  show Go p e below T0 (mkF m 4 #[.val (.int q), .val (.int ip), .val (.int jp), .val (.int (q &&& (3 : Int32)))] []) _
  refine stp (fun _ => XS.iloadN X0.here hx rfl (hb hby d5_4) rfl) ?_
  show Go p e below T0 (mkF m 5 #[.val (.int q), .val (.int ip), .val (.int jp), .val (.int (q &&& (3 : Int32)))] [(.int (q &&& (3 : Int32)))]) _
  by_cases q5_1 : (q &&& (3 : Int32)) = 0
  · refine stp (fun _ => XS.ifNo X0.here hx rfl (hb hby d5_5) rfl (XT.i0_ne_f q5_1)) ?_
    show Go p e below T0 (mkF m 8 #[.val (.int q), .val (.int ip), .val (.int jp), .val (.int (q &&& (3 : Int32)))] []) _
    refine stp (fun _ => XS.iloadN X0.here hx rfl (hb hby d5_8) rfl) ?_
    show Go p e below T0 (mkF m 9 #[.val (.int q), .val (.int ip), .val (.int jp), .val (.int (q &&& (3 : Int32)))] [(.int ip)]) _
    refine outI X0 hx hret (hb hby d5_9) hlk (by decide) (by decide) ?_
    exact ⟨by simp only [own_pick, if_pos q5_1], N0, e0⟩
  · refine stp (fun _ => XS.ifYes X0.here hx rfl (pc0 := 5) (pc' := 10) rfl (hb hby d5_5) rfl (XT.i0_ne_t q5_1) (by decide) (by decide)) ?_
    show Go p e below T0 (mkF m 10 #[.val (.int q), .val (.int ip), .val (.int jp), .val (.int (q &&& (3 : Int32)))] []) _
    refine stp (fun _ => XS.iloadN X0.here hx rfl (hb hby d5_10) rfl) ?_
    show Go p e below T0 (mkF m 11 #[.val (.int q), .val (.int ip), .val (.int jp), .val (.int (q &&& (3 : Int32)))] [(.int (q &&& (3 : Int32)))]) _
    refine stp (fun _ => XS.iconst X0.here hx rfl (hb hby d5_11)) ?_
    show Go p e below T0 (mkF m 12 #[.val (.int q), .val (.int ip), .val (.int jp), .val (.int (q &&& (3 : Int32)))] [(.int (1 : Int32)), (.int (q &&& (3 : Int32)))]) _
    by_cases q12_2 : (q &&& (3 : Int32)) = (1 : Int32)
    · refine stp (fun _ => XS.icmpNo X0.here hx rfl (hb hby d5_12) rfl (XT.ii_ne_f q12_2)) ?_
      show Go p e below T0 (mkF m 15 #[.val (.int q), .val (.int ip), .val (.int jp), .val (.int (q &&& (3 : Int32)))] []) _
      refine stp (fun _ => XS.iloadN X0.here hx rfl (hb hby d5_15) rfl) ?_
      show Go p e below T0 (mkF m 16 #[.val (.int q), .val (.int ip), .val (.int jp), .val (.int (q &&& (3 : Int32)))] [(.int jp)]) _
      refine outI X0 hx hret (hb hby d5_16) hlk (by decide) (by decide) ?_
      exact ⟨by simp only [own_pick, if_neg q5_1, if_pos q12_2], N0, e0⟩
    · refine stp (fun _ => XS.icmpYes X0.here hx rfl (pc0 := 12) (pc' := 17) rfl (hb hby d5_12) rfl (XT.ii_ne_t q12_2) (by decide) (by decide)) ?_
      show Go p e below T0 (mkF m 17 #[.val (.int q), .val (.int ip), .val (.int jp), .val (.int (q &&& (3 : Int32)))] []) _
      refine stp (fun _ => XS.iloadN X0.here hx rfl (hb hby d5_17) rfl) ?_
      show Go p e below T0 (mkF m 18 #[.val (.int q), .val (.int ip), .val (.int jp), .val (.int (q &&& (3 : Int32)))] [(.int q)]) _
      refine stp (fun _ => XS.iconst X0.here hx rfl (hb hby d5_18)) ?_
      show Go p e below T0 (mkF m 19 #[.val (.int q), .val (.int ip), .val (.int jp), .val (.int (q &&& (3 : Int32)))] [(.int (2 : Int32)), (.int q)]) _
      refine stp (fun _ => XS.iushr X0.here hx rfl (hb hby d5_19) rfl) ?_
      show Go p e below T0 (mkF m 20 #[.val (.int q), .val (.int ip), .val (.int jp), .val (.int (q &&& (3 : Int32)))] [(.int ((q.toUInt32 >>> ((2 : Int32) &&& 31).toUInt32).toInt32))]) _
      refine stp (fun _ => XS.bipush X0.here hx rfl (hb hby d5_20)) ?_
      show Go p e below T0 (mkF m 22 #[.val (.int q), .val (.int ip), .val (.int jp), .val (.int (q &&& (3 : Int32)))] [(.int (66 : Int32)), (.int ((q.toUInt32 >>> ((2 : Int32) &&& 31).toUInt32).toInt32))]) _
      refine stp (fun _ => iremM X0 hx rfl (hb hby d5_22) rfl (by decide)) ?_
      show Go p e below T0 (mkF m 23 #[.val (.int q), .val (.int ip), .val (.int jp), .val (.int (q &&& (3 : Int32)))] [(.int (((q.toUInt32 >>> ((2 : Int32) &&& 31).toUInt32).toInt32) % (66 : Int32)))]) _
      refine outI X0 hx hret (hb hby d5_23) hlk (by decide) (by decide) ?_
      exact ⟨by simp only [own_pick, if_neg q5_1, if_neg q12_2], N0, e0⟩
theorem d6_0 : decode method_3_code 0 = .ok (.iload_n 0, 1) := by decide +kernel
theorem d6_1 : decode method_3_code 1 = .ok (.iload_n 3, 1) := by decide +kernel
theorem d6_2 : decode method_3_code 2 = .ok (.if_icmp .ne 6, 3) := by decide +kernel
theorem d6_5 : decode method_3_code 5 = .ok (.iload 4, 2) := by decide +kernel
theorem d6_7 : decode method_3_code 7 = .ok (.ireturn, 1) := by decide +kernel
theorem d6_8 : decode method_3_code 8 = .ok (.iload_n 0, 1) := by decide +kernel
theorem d6_9 : decode method_3_code 9 = .ok (.iload_n 1, 1) := by decide +kernel
theorem d6_10 : decode method_3_code 10 = .ok (.if_icmp .ne 5, 3) := by decide +kernel
theorem d6_13 : decode method_3_code 13 = .ok (.iload_n 2, 1) := by decide +kernel
theorem d6_14 : decode method_3_code 14 = .ok (.ireturn, 1) := by decide +kernel
theorem d6_15 : decode method_3_code 15 = .ok (.iconst 3, 1) := by decide +kernel
theorem d6_16 : decode method_3_code 16 = .ok (.ireturn, 1) := by decide +kernel
theorem ef_rm_side (m : MethodId) (w : Int32) (ip : Int32) (s1 : Int32) (jp : Int32) (s2 : Int32)  : entryFrame m #[(.int w), (.int ip), (.int s1), (.int jp), (.int s2)] 5 = mkF m 0 #[.val (.int w), .val (.int ip), .val (.int s1), .val (.int jp), .val (.int s2)] [] := by first | (simp [entryFrame, mkF, argsToLocals, Value.category]; done) | rfl
def Q_rm_side (Z : State) (w : Int32) (ip : Int32) (s1 : Int32) (jp : Int32) (s2 : Int32)  (h0 : Heap) (n0 : Nat) (v : Option Value) (h : Heap) (L : List Loc) : Prop := v = some (.int (own_side w ip s1 jp s2)) ∧ Fr n0 L ∧ h = h0
theorem pn_4_ : plainName "com/example/brisk_dedup/briskdedup/engine/SidesOfPinLaw" = true := by first | (simp [plainName, overriddenIn]; done) | decide +kernel
theorem pn_4 : plainFor (⟨"com/example/brisk_dedup/briskdedup/engine/SidesOfPinLaw", "side", "(IIIII)I"⟩ : MethodName) = true := plainFor_of_name pn_4_
set_option maxRecDepth 65536 in
set_option maxHeartbeats 40000000 in
theorem rm_side (l : Launch) (Z : State) (a0 : Array Value) (hw : ∀ d ∈ tables_1, d.before a0 Z = true) (ws : List Jvm.Cond) (w : Int32) (ip : Int32) (s1 : Int32) (jp : Int32) (s2 : Int32)  (h0 : Heap) (n0 : Nat) (O0 : Old Z n0 h0)  :
    MetFree l (⟨"com/example/brisk_dedup/briskdedup/engine/SidesOfPinLaw", "side", "(IIIII)I"⟩ : MethodName) (head1 (Jvm.Cond.code (⟨"com/example/brisk_dedup/briskdedup/engine/SidesOfPinLaw", "side", "(IIIII)I"⟩ : MethodName) method_3_code 5 (some .int) :: ws) ({ frames := 0, cells := 0, slots := 0, locals := 0 } : Room)) (fun args_ U => args_ = #[(.int w), (.int ip), (.int s1), (.int jp), (.int s2)] ∧ Z.Warmed39 U.vm ∧ U.heap = h0) (fun _ _ _ _ _ => True) (fun _ U o U' => ∃ v L, o = .returned v ∧ (Q_rm_side Z w ip s1 jp s2 h0 n0) v U'.heap L ∧ FrameEnd U o U' L ({ frames := 0, cells := 0, slots := 0, locals := 0 } : Room).cells ({ frames := 0, cells := 0, slots := 0, locals := 0 } : Room).slots) := by
  refine start (Q := (Q_rm_side Z w ip s1 jp s2 h0 n0)) pn_4 ?_
  intro p e s m below meth c T0 X0 hx hby hml hown hnm hret hlk hZ e0
  replace hown : s.vm.findClass "com/example/brisk_dedup/briskdedup/engine/SidesOfPinLaw" = some m.cls := hown
  replace hml : c.maxLocals = 5 := hml
  refine goAt (ef_rm_side m w ip s1 jp s2 ) ?_
  have N0 := Fr.nil n0
  show Go p e below T0 (mkF m 0 #[.val (.int w), .val (.int ip), .val (.int s1), .val (.int jp), .val (.int s2)] []) _
  refine stp (fun _ => XS.iloadN X0.here hx rfl (hb hby d6_0) rfl) ?_
  show Go p e below T0 (mkF m 1 #[.val (.int w), .val (.int ip), .val (.int s1), .val (.int jp), .val (.int s2)] [(.int w)]) _
  refine stp (fun _ => XS.iloadN X0.here hx rfl (hb hby d6_1) rfl) ?_
  show Go p e below T0 (mkF m 2 #[.val (.int w), .val (.int ip), .val (.int s1), .val (.int jp), .val (.int s2)] [(.int jp), (.int w)]) _
  by_cases q2_1 : w = jp
  · refine stp (fun _ => XS.icmpNo X0.here hx rfl (hb hby d6_2) rfl (XT.ii_ne_f q2_1)) ?_
    show Go p e below T0 (mkF m 5 #[.val (.int w), .val (.int ip), .val (.int s1), .val (.int jp), .val (.int s2)] []) _
    refine stp (fun _ => XS.iload X0.here hx rfl (hb hby d6_5) rfl) ?_
    show Go p e below T0 (mkF m 7 #[.val (.int w), .val (.int ip), .val (.int s1), .val (.int jp), .val (.int s2)] [(.int s2)]) _
    refine outI X0 hx hret (hb hby d6_7) hlk (by decide) (by decide) ?_
    exact ⟨by simp only [own_side, if_pos q2_1], N0, e0⟩
  · refine stp (fun _ => XS.icmpYes X0.here hx rfl (pc0 := 2) (pc' := 8) rfl (hb hby d6_2) rfl (XT.ii_ne_t q2_1) (by decide) (by decide)) ?_
    show Go p e below T0 (mkF m 8 #[.val (.int w), .val (.int ip), .val (.int s1), .val (.int jp), .val (.int s2)] []) _
    refine stp (fun _ => XS.iloadN X0.here hx rfl (hb hby d6_8) rfl) ?_
    show Go p e below T0 (mkF m 9 #[.val (.int w), .val (.int ip), .val (.int s1), .val (.int jp), .val (.int s2)] [(.int w)]) _
    refine stp (fun _ => XS.iloadN X0.here hx rfl (hb hby d6_9) rfl) ?_
    show Go p e below T0 (mkF m 10 #[.val (.int w), .val (.int ip), .val (.int s1), .val (.int jp), .val (.int s2)] [(.int ip), (.int w)]) _
    by_cases q10_2 : w = ip
    · refine stp (fun _ => XS.icmpNo X0.here hx rfl (hb hby d6_10) rfl (XT.ii_ne_f q10_2)) ?_
      show Go p e below T0 (mkF m 13 #[.val (.int w), .val (.int ip), .val (.int s1), .val (.int jp), .val (.int s2)] []) _
      refine stp (fun _ => XS.iloadN X0.here hx rfl (hb hby d6_13) rfl) ?_
      show Go p e below T0 (mkF m 14 #[.val (.int w), .val (.int ip), .val (.int s1), .val (.int jp), .val (.int s2)] [(.int s1)]) _
      refine outI X0 hx hret (hb hby d6_14) hlk (by decide) (by decide) ?_
      exact ⟨by simp only [own_side, if_neg q2_1, if_pos q10_2], N0, e0⟩
    · refine stp (fun _ => XS.icmpYes X0.here hx rfl (pc0 := 10) (pc' := 15) rfl (hb hby d6_10) rfl (XT.ii_ne_t q10_2) (by decide) (by decide)) ?_
      show Go p e below T0 (mkF m 15 #[.val (.int w), .val (.int ip), .val (.int s1), .val (.int jp), .val (.int s2)] []) _
      refine stp (fun _ => XS.iconst X0.here hx rfl (hb hby d6_15)) ?_
      show Go p e below T0 (mkF m 16 #[.val (.int w), .val (.int ip), .val (.int s1), .val (.int jp), .val (.int s2)] [(.int (3 : Int32))]) _
      refine outI X0 hx hret (hb hby d6_16) hlk (by decide) (by decide) ?_
      exact ⟨by simp only [own_side, if_neg q2_1, if_neg q10_2], N0, e0⟩
theorem d7_0 : decode prog_68_method_4_code 0 = .ok (.aload_n 0, 1) := by decide +kernel
theorem d7_1 : decode prog_68_method_4_code 1 = .ok (.getfield 9, 3) := by decide +kernel
theorem d7_4 : decode prog_68_method_4_code 4 = .ok (.ifnull 20, 3) := by decide +kernel
theorem d7_24 : decode prog_68_method_4_code 24 = .ok (.iconst 1, 1) := by decide +kernel
theorem d7_25 : decode prog_68_method_4_code 25 = .ok (.goto 4, 3) := by decide +kernel
theorem d7_29 : decode prog_68_method_4_code 29 = .ok (.ireturn, 1) := by decide +kernel
theorem ef_rm_mp0 (m : MethodId) (t : Addr) (x : Int32) (y : Int32)  : entryFrame m #[(.ref t), (.int x), (.int y)] 3 = mkF m 0 #[.val (.ref t), .val (.int x), .val (.int y)] [] := by first | (simp [entryFrame, mkF, argsToLocals, Value.category]; done) | rfl
def Q_rm_mp0 (Z : State) (t : Addr) (x : Int32) (y : Int32)  (h0 : Heap) (n0 : Nat) (v : Option Value) (h : Heap) (L : List Loc) : Prop := v = some (.int (1 : Int32)) ∧ Fr n0 L ∧ h = h0
theorem pn_5_ : plainName "com/example/brisk_dedup/briskdedup/engine/Sides" = true := by first | (simp [plainName, overriddenIn]; done) | decide +kernel
theorem pn_5 : plainFor (⟨"com/example/brisk_dedup/briskdedup/engine/Sides", "mayPair", "(II)Z"⟩ : MethodName) = true := plainFor_of_name pn_5_
set_option maxRecDepth 65536 in
set_option maxHeartbeats 40000000 in
theorem rm_mp0 (l : Launch) (Z : State) (a0 : Array Value) (hw : ∀ d ∈ tables_1, d.before a0 Z = true) (ws : List Jvm.Cond) (t : Addr) (x : Int32) (y : Int32)  (h0 : Heap) (n0 : Nat) (O0 : Old Z n0 h0) (F_t_sides : Fld Z Z.heap t "com/example/brisk_dedup/briskdedup/engine/Sides" "sides" "[B" .null) :
    MetFree l (⟨"com/example/brisk_dedup/briskdedup/engine/Sides", "mayPair", "(II)Z"⟩ : MethodName) (head1 (Jvm.Cond.code (⟨"com/example/brisk_dedup/briskdedup/engine/Sides", "mayPair", "(II)Z"⟩ : MethodName) prog_68_method_4_code 3 (some .boolean) :: ws) ({ frames := 0, cells := 0, slots := 0, locals := 0 } : Room)) (fun args_ U => args_ = #[(.ref t), (.int x), (.int y)] ∧ Z.Warmed39 U.vm ∧ U.heap = h0) (fun _ _ _ _ _ => True) (fun _ U o U' => ∃ v L, o = .returned v ∧ (Q_rm_mp0 Z t x y h0 n0) v U'.heap L ∧ FrameEnd U o U' L ({ frames := 0, cells := 0, slots := 0, locals := 0 } : Room).cells ({ frames := 0, cells := 0, slots := 0, locals := 0 } : Room).slots) := by
  refine start (Q := (Q_rm_mp0 Z t x y h0 n0)) pn_5 ?_
  intro p e s m below meth c T0 X0 hx hby hml hown hnm hret hlk hZ e0
  replace hown : s.vm.findClass "com/example/brisk_dedup/briskdedup/engine/Sides" = some m.cls := hown
  replace hml : c.maxLocals = 3 := hml
  refine goAt (ef_rm_mp0 m t x y ) ?_
  have N0 := Fr.nil n0
  show Go p e below T0 (mkF m 0 #[.val (.ref t), .val (.int x), .val (.int y)] []) _
  refine stp (fun _ => XS.aloadN X0.here hx rfl (hb hby d7_0) rfl rfl) ?_
  show Go p e below T0 (mkF m 1 #[.val (.ref t), .val (.int x), .val (.int y)] [(.ref t)]) _
  obtain ⟨T1, X1, e1, st1⟩ := getF X0 hx hZ hown (host := "") (Or.inl (hw _ (List.mem_of_getElem? (i := 28) rfl))) Via.refl e0 (F_t_sides.ext O0.2) (g := (mkF m 1 #[.val (.ref t), .val (.int x), .val (.int y)] [(.ref t)])) rfl rfl (hb hby d7_1)
  refine stp st1 ?_
  show Go p e below T1 (mkF m 4 #[.val (.ref t), .val (.int x), .val (.int y)] [.null]) _
  refine stp (fun _ => XS.ifnullYes X1.here hx rfl (pc0 := 4) (pc' := 24) rfl (hb hby d7_4) rfl (by decide) (by decide)) ?_
  show Go p e below T1 (mkF m 24 #[.val (.ref t), .val (.int x), .val (.int y)] []) _
  refine stp (fun _ => XS.iconst X1.here hx rfl (hb hby d7_24)) ?_
  show Go p e below T1 (mkF m 25 #[.val (.ref t), .val (.int x), .val (.int y)] [(.int (1 : Int32))]) _
  refine stp (fun _ => XS.goto X1.here hx rfl (pc0 := 25) (pc' := 29) rfl (hb hby d7_25) (by decide) (by decide)) ?_
  show Go p e below T1 (mkF m 29 #[.val (.ref t), .val (.int x), .val (.int y)] [(.int (1 : Int32))]) _
  refine outN X1 hx (t := .boolean) hret (by simp) (hb hby d7_29) hlk (by decide) (by decide) ?_
  exact ⟨rfl, N0, e1⟩
theorem d7_7 : decode prog_68_method_4_code 7 = .ok (.aload_n 0, 1) := by decide +kernel
theorem d7_8 : decode prog_68_method_4_code 8 = .ok (.getfield 9, 3) := by decide +kernel
theorem d7_11 : decode prog_68_method_4_code 11 = .ok (.iload_n 1, 1) := by decide +kernel
theorem d7_12 : decode prog_68_method_4_code 12 = .ok (.baload, 1) := by decide +kernel
theorem d7_13 : decode prog_68_method_4_code 13 = .ok (.aload_n 0, 1) := by decide +kernel
theorem d7_14 : decode prog_68_method_4_code 14 = .ok (.getfield 9, 3) := by decide +kernel
theorem d7_17 : decode prog_68_method_4_code 17 = .ok (.iload_n 2, 1) := by decide +kernel
theorem d7_18 : decode prog_68_method_4_code 18 = .ok (.baload, 1) := by decide +kernel
theorem d7_19 : decode prog_68_method_4_code 19 = .ok (.ior, 1) := by decide +kernel
theorem d7_20 : decode prog_68_method_4_code 20 = .ok (.iconst 3, 1) := by decide +kernel
theorem d7_21 : decode prog_68_method_4_code 21 = .ok (.if_icmp .ne 7, 3) := by decide +kernel
theorem d7_28 : decode prog_68_method_4_code 28 = .ok (.iconst 0, 1) := by decide +kernel
theorem ef_rm_mp1 (m : MethodId) (t : Addr) (x : Int32) (y : Int32)  : entryFrame m #[(.ref t), (.int x), (.int y)] 3 = mkF m 0 #[.val (.ref t), .val (.int x), .val (.int y)] [] := by first | (simp [entryFrame, mkF, argsToLocals, Value.category]; done) | rfl
def Q_rm_mp1 (Z : State) (t : Addr) (x : Int32) (y : Int32) (vb : Addr) (sd : Nat → Int32) (xn : Nat) (yn : Nat) (r : Int32) (k_vb : ClassId) (h0 : Heap) (n0 : Nat) (v : Option Value) (h : Heap) (L : List Loc) : Prop := v = some (.int r) ∧ Fr n0 L ∧ h = h0
set_option maxRecDepth 65536 in
set_option maxHeartbeats 40000000 in
theorem rm_mp1 (l : Launch) (Z : State) (a0 : Array Value) (hw : ∀ d ∈ tables_1, d.before a0 Z = true) (ws : List Jvm.Cond) (t : Addr) (x : Int32) (y : Int32) (vb : Addr) (sd : Nat → Int32) (xn : Nat) (yn : Nat) (r : Int32) (k_vb : ClassId) (h0 : Heap) (n0 : Nat) (O0 : Old Z n0 h0) (F_t_sides : Fld Z h0 t "com/example/brisk_dedup/briskdedup/engine/Sides" "sides" "[B" (.ref vb)) (V_vb : Arf Z h0 vb k_vb .byte 66 (fun x => (.int (sd x)))) (hx1 : x.toInt = (xn : Int)) (hx2 : xn < 66) (hy1 : y.toInt = (yn : Int)) (hy2 : yn < 66) (hr : ((sd xn ||| sd yn) = 3 → r = 1) ∧ (¬ (sd xn ||| sd yn) = 3 → r = 0)) :
    MetFree l (⟨"com/example/brisk_dedup/briskdedup/engine/Sides", "mayPair", "(II)Z"⟩ : MethodName) (head1 (Jvm.Cond.code (⟨"com/example/brisk_dedup/briskdedup/engine/Sides", "mayPair", "(II)Z"⟩ : MethodName) prog_68_method_4_code 3 (some .boolean) :: ws) ({ frames := 0, cells := 0, slots := 0, locals := 0 } : Room)) (fun args_ U => args_ = #[(.ref t), (.int x), (.int y)] ∧ Z.Warmed39 U.vm ∧ U.heap = h0) (fun _ _ _ _ _ => True) (fun _ U o U' => ∃ v L, o = .returned v ∧ (Q_rm_mp1 Z t x y vb sd xn yn r k_vb h0 n0) v U'.heap L ∧ FrameEnd U o U' L ({ frames := 0, cells := 0, slots := 0, locals := 0 } : Room).cells ({ frames := 0, cells := 0, slots := 0, locals := 0 } : Room).slots) := by
  refine start (Q := (Q_rm_mp1 Z t x y vb sd xn yn r k_vb h0 n0)) pn_5 ?_
  intro p e s m below meth c T0 X0 hx hby hml hown hnm hret hlk hZ e0
  replace hown : s.vm.findClass "com/example/brisk_dedup/briskdedup/engine/Sides" = some m.cls := hown
  replace hml : c.maxLocals = 3 := hml
  refine goAt (ef_rm_mp1 m t x y ) ?_
  have N0 := Fr.nil n0
  show Go p e below T0 (mkF m 0 #[.val (.ref t), .val (.int x), .val (.int y)] []) _
  refine stp (fun _ => XS.aloadN X0.here hx rfl (hb hby d7_0) rfl rfl) ?_
  show Go p e below T0 (mkF m 1 #[.val (.ref t), .val (.int x), .val (.int y)] [(.ref t)]) _
  obtain ⟨T1, X1, e1, st1⟩ := getF X0 hx hZ hown (host := "") (Or.inl (hw _ (List.mem_of_getElem? (i := 28) rfl))) Via.refl e0 F_t_sides (g := (mkF m 1 #[.val (.ref t), .val (.int x), .val (.int y)] [(.ref t)])) rfl rfl (hb hby d7_1)
  refine stp st1 ?_
  show Go p e below T1 (mkF m 4 #[.val (.ref t), .val (.int x), .val (.int y)] [(.ref vb)]) _
  refine stp (fun _ => XS.ifnullNo X1.here hx rfl (hb hby d7_4) rfl) ?_
  show Go p e below T1 (mkF m 7 #[.val (.ref t), .val (.int x), .val (.int y)] []) _
  refine stp (fun _ => XS.aloadN X1.here hx rfl (hb hby d7_7) rfl rfl) ?_
  show Go p e below T1 (mkF m 8 #[.val (.ref t), .val (.int x), .val (.int y)] [(.ref t)]) _
  obtain ⟨T2, X2, e2, st2⟩ := getF X1 hx hZ hown (host := "") (Or.inl (hw _ (List.mem_of_getElem? (i := 28) rfl))) Via.refl e1 F_t_sides (g := (mkF m 8 #[.val (.ref t), .val (.int x), .val (.int y)] [(.ref t)])) rfl rfl (hb hby d7_8)
  refine stp st2 ?_
  show Go p e below T2 (mkF m 11 #[.val (.ref t), .val (.int x), .val (.int y)] [(.ref vb)]) _
  refine stp (fun _ => XS.iloadN X2.here hx rfl (hb hby d7_11) rfl) ?_
  show Go p e below T2 (mkF m 12 #[.val (.ref t), .val (.int x), .val (.int y)] [(.int x), (.ref vb)]) _
  obtain ⟨cl3, Ar3, q3, S3, H3, G3⟩ := (id V_vb)
  have in3 : ¬ (x < 0 ∨ cl3.slots.size ≤ (x).toNatClampNeg) := arf_in S3 hx1 hx2
  have at3 : cl3.slots[(x).toNatClampNeg]? = some (.int (sd xn)) := arf_at H3 hx1 hx2
  refine stp (fun _ => X2.baloadBytes hx (j := x) (v := (.int (sd xn))) (by rw [e2]; exact Ar3.1) (State.isArrayOf_alike hZ.alike Ar3.2.1) Ar3.2.2 in3 at3 (g := (mkF m 12 #[.val (.ref t), .val (.int x), .val (.int y)] [(.int x), (.ref vb)])) rfl rfl (hb hby d7_12) _) ?_
  show Go p e below T2 (mkF m 13 #[.val (.ref t), .val (.int x), .val (.int y)] [(.int (sd xn))]) _
  refine stp (fun _ => XS.aloadN X2.here hx rfl (hb hby d7_13) rfl rfl) ?_
  show Go p e below T2 (mkF m 14 #[.val (.ref t), .val (.int x), .val (.int y)] [(.ref t), (.int (sd xn))]) _
  obtain ⟨T4, X4, e4, st4⟩ := getF X2 hx hZ hown (host := "") (Or.inl (hw _ (List.mem_of_getElem? (i := 28) rfl))) Via.refl e2 F_t_sides (g := (mkF m 14 #[.val (.ref t), .val (.int x), .val (.int y)] [(.ref t), (.int (sd xn))])) rfl rfl (hb hby d7_14)
  refine stp st4 ?_
  show Go p e below T4 (mkF m 17 #[.val (.ref t), .val (.int x), .val (.int y)] [(.ref vb), (.int (sd xn))]) _
  refine stp (fun _ => XS.iloadN X4.here hx rfl (hb hby d7_17) rfl) ?_
  show Go p e below T4 (mkF m 18 #[.val (.ref t), .val (.int x), .val (.int y)] [(.int y), (.ref vb), (.int (sd xn))]) _
  obtain ⟨cl5, Ar5, q5, S5, H5, G5⟩ := (id V_vb)
  have in5 : ¬ (y < 0 ∨ cl5.slots.size ≤ (y).toNatClampNeg) := arf_in S5 hy1 hy2
  have at5 : cl5.slots[(y).toNatClampNeg]? = some (.int (sd yn)) := arf_at H5 hy1 hy2
  refine stp (fun _ => X4.baloadBytes hx (j := y) (v := (.int (sd yn))) (by rw [e4]; exact Ar5.1) (State.isArrayOf_alike hZ.alike Ar5.2.1) Ar5.2.2 in5 at5 (g := (mkF m 18 #[.val (.ref t), .val (.int x), .val (.int y)] [(.int y), (.ref vb), (.int (sd xn))])) rfl rfl (hb hby d7_18) _) ?_
  show Go p e below T4 (mkF m 19 #[.val (.ref t), .val (.int x), .val (.int y)] [(.int (sd yn)), (.int (sd xn))]) _
  refine stp (fun _ => XS.ior X4.here hx rfl (hb hby d7_19) rfl) ?_
  show Go p e below T4 (mkF m 20 #[.val (.ref t), .val (.int x), .val (.int y)] [(.int ((sd xn) ||| (sd yn)))]) _
  refine stp (fun _ => XS.iconst X4.here hx rfl (hb hby d7_20)) ?_
  show Go p e below T4 (mkF m 21 #[.val (.ref t), .val (.int x), .val (.int y)] [(.int (3 : Int32)), (.int ((sd xn) ||| (sd yn)))]) _
  by_cases q21_6 : ((sd xn) ||| (sd yn)) = (3 : Int32)
  · refine stp (fun _ => XS.icmpNo X4.here hx rfl (hb hby d7_21) rfl (XT.ii_ne_f q21_6)) ?_
    show Go p e below T4 (mkF m 24 #[.val (.ref t), .val (.int x), .val (.int y)] []) _
    refine stp (fun _ => XS.iconst X4.here hx rfl (hb hby d7_24)) ?_
    show Go p e below T4 (mkF m 25 #[.val (.ref t), .val (.int x), .val (.int y)] [(.int (1 : Int32))]) _
    refine stp (fun _ => XS.goto X4.here hx rfl (pc0 := 25) (pc' := 29) rfl (hb hby d7_25) (by decide) (by decide)) ?_
    show Go p e below T4 (mkF m 29 #[.val (.ref t), .val (.int x), .val (.int y)] [(.int (1 : Int32))]) _
    refine outN X4 hx (t := .boolean) hret (by simp) (hb hby d7_29) hlk (by decide) (by decide) ?_
    exact ⟨by rw [hr.1 q21_6]; rfl, N0, e4⟩
  · refine stp (fun _ => XS.icmpYes X4.here hx rfl (pc0 := 21) (pc' := 28) rfl (hb hby d7_21) rfl (XT.ii_ne_t q21_6) (by decide) (by decide)) ?_
    show Go p e below T4 (mkF m 28 #[.val (.ref t), .val (.int x), .val (.int y)] []) _
    refine stp (fun _ => XS.iconst X4.here hx rfl (hb hby d7_28)) ?_
    show Go p e below T4 (mkF m 29 #[.val (.ref t), .val (.int x), .val (.int y)] [(.int (0 : Int32))]) _
    refine outN X4 hx (t := .boolean) hret (by simp) (hb hby d7_29) hlk (by decide) (by decide) ?_
    exact ⟨by rw [hr.2 q21_6]; rfl, N0, e4⟩
theorem d8_0 : decode prog_68_method_5_code 0 = .ok (.aload_n 0, 1) := by decide +kernel
theorem d8_1 : decode prog_68_method_5_code 1 = .ok (.getfield 9, 3) := by decide +kernel
theorem d8_4 : decode prog_68_method_5_code 4 = .ok (.ifnull 13, 3) := by decide +kernel
theorem d8_17 : decode prog_68_method_5_code 17 = .ok (.aconst_null, 1) := by decide +kernel
theorem d8_18 : decode prog_68_method_5_code 18 = .ok (.areturn, 1) := by decide +kernel
theorem ef_rm_pa0 (m : MethodId) (t : Addr) (x : Int32)  : entryFrame m #[(.ref t), (.int x)] 2 = mkF m 0 #[.val (.ref t), .val (.int x)] [] := by first | (simp [entryFrame, mkF, argsToLocals, Value.category]; done) | rfl
def Q_rm_pa0 (Z : State) (t : Addr) (x : Int32)  (h0 : Heap) (n0 : Nat) (v : Option Value) (h : Heap) (L : List Loc) : Prop := v = some .null ∧ Fr n0 L ∧ h = h0
theorem pn_6_ : plainName "com/example/brisk_dedup/briskdedup/engine/Sides" = true := by first | (simp [plainName, overriddenIn]; done) | decide +kernel
theorem pn_6 : plainFor (⟨"com/example/brisk_dedup/briskdedup/engine/Sides", "partners", "(I)[J"⟩ : MethodName) = true := plainFor_of_name pn_6_
set_option maxRecDepth 65536 in
set_option maxHeartbeats 40000000 in
theorem rm_pa0 (l : Launch) (Z : State) (a0 : Array Value) (hw : ∀ d ∈ tables_1, d.before a0 Z = true) (ws : List Jvm.Cond) (t : Addr) (x : Int32)  (h0 : Heap) (n0 : Nat) (O0 : Old Z n0 h0) (F_t_sides : Fld Z Z.heap t "com/example/brisk_dedup/briskdedup/engine/Sides" "sides" "[B" .null) :
    MetFree l (⟨"com/example/brisk_dedup/briskdedup/engine/Sides", "partners", "(I)[J"⟩ : MethodName) (head1 (Jvm.Cond.code (⟨"com/example/brisk_dedup/briskdedup/engine/Sides", "partners", "(I)[J"⟩ : MethodName) prog_68_method_5_code 2 (some (.array .long)) :: ws) ({ frames := 0, cells := 0, slots := 0, locals := 0 } : Room)) (fun args_ U => args_ = #[(.ref t), (.int x)] ∧ Z.Warmed39 U.vm ∧ U.heap = h0) (fun _ _ _ _ _ => True) (fun _ U o U' => ∃ v L, o = .returned v ∧ (Q_rm_pa0 Z t x h0 n0) v U'.heap L ∧ FrameEnd U o U' L ({ frames := 0, cells := 0, slots := 0, locals := 0 } : Room).cells ({ frames := 0, cells := 0, slots := 0, locals := 0 } : Room).slots) := by
  refine start (Q := (Q_rm_pa0 Z t x h0 n0)) pn_6 ?_
  intro p e s m below meth c T0 X0 hx hby hml hown hnm hret hlk hZ e0
  replace hown : s.vm.findClass "com/example/brisk_dedup/briskdedup/engine/Sides" = some m.cls := hown
  replace hml : c.maxLocals = 2 := hml
  refine goAt (ef_rm_pa0 m t x ) ?_
  have N0 := Fr.nil n0
  show Go p e below T0 (mkF m 0 #[.val (.ref t), .val (.int x)] []) _
  refine stp (fun _ => XS.aloadN X0.here hx rfl (hb hby d8_0) rfl rfl) ?_
  show Go p e below T0 (mkF m 1 #[.val (.ref t), .val (.int x)] [(.ref t)]) _
  obtain ⟨T1, X1, e1, st1⟩ := getF X0 hx hZ hown (host := "") (Or.inl (hw _ (List.mem_of_getElem? (i := 28) rfl))) Via.refl e0 (F_t_sides.ext O0.2) (g := (mkF m 1 #[.val (.ref t), .val (.int x)] [(.ref t)])) rfl rfl (hb hby d8_1)
  refine stp st1 ?_
  show Go p e below T1 (mkF m 4 #[.val (.ref t), .val (.int x)] [.null]) _
  refine stp (fun _ => XS.ifnullYes X1.here hx rfl (pc0 := 4) (pc' := 17) rfl (hb hby d8_4) rfl (by decide) (by decide)) ?_
  show Go p e below T1 (mkF m 17 #[.val (.ref t), .val (.int x)] []) _
  refine stp (fun _ => XS.aconstNull X1.here hx rfl (hb hby d8_17)) ?_
  show Go p e below T1 (mkF m 18 #[.val (.ref t), .val (.int x)] [.null]) _
  refine outA X1 hx hret rfl rfl (hb hby d8_18) hlk (by decide) (by decide) ?_
  exact ⟨rfl, N0, e1⟩
theorem d8_7 : decode prog_68_method_5_code 7 = .ok (.aload_n 0, 1) := by decide +kernel
theorem d8_8 : decode prog_68_method_5_code 8 = .ok (.getfield 9, 3) := by decide +kernel
theorem d8_11 : decode prog_68_method_5_code 11 = .ok (.iload_n 1, 1) := by decide +kernel
theorem d8_12 : decode prog_68_method_5_code 12 = .ok (.baload, 1) := by decide +kernel
theorem d8_13 : decode prog_68_method_5_code 13 = .ok (.iconst 3, 1) := by decide +kernel
theorem d8_14 : decode prog_68_method_5_code 14 = .ok (.if_icmp .ne 5, 3) := by decide +kernel
theorem ef_rm_pa9 (m : MethodId) (t : Addr) (x : Int32)  : entryFrame m #[(.ref t), (.int x)] 2 = mkF m 0 #[.val (.ref t), .val (.int x)] [] := by first | (simp [entryFrame, mkF, argsToLocals, Value.category]; done) | rfl
def Q_rm_pa9 (Z : State) (t : Addr) (x : Int32) (vb : Addr) (sd : Nat → Int32) (xn : Nat) (k_vb : ClassId) (h0 : Heap) (n0 : Nat) (v : Option Value) (h : Heap) (L : List Loc) : Prop := v = some .null ∧ Fr n0 L ∧ h = h0
set_option maxRecDepth 65536 in
set_option maxHeartbeats 40000000 in
theorem rm_pa9 (l : Launch) (Z : State) (a0 : Array Value) (hw : ∀ d ∈ tables_1, d.before a0 Z = true) (ws : List Jvm.Cond) (t : Addr) (x : Int32) (vb : Addr) (sd : Nat → Int32) (xn : Nat) (k_vb : ClassId) (h0 : Heap) (n0 : Nat) (O0 : Old Z n0 h0) (F_t_sides : Fld Z h0 t "com/example/brisk_dedup/briskdedup/engine/Sides" "sides" "[B" (.ref vb)) (V_vb : Arf Z h0 vb k_vb .byte 66 (fun x => (.int (sd x)))) (hx1 : x.toInt = (xn : Int)) (hx2 : xn < 66) (hk : sd xn = 3) :
    MetFree l (⟨"com/example/brisk_dedup/briskdedup/engine/Sides", "partners", "(I)[J"⟩ : MethodName) (head1 (Jvm.Cond.code (⟨"com/example/brisk_dedup/briskdedup/engine/Sides", "partners", "(I)[J"⟩ : MethodName) prog_68_method_5_code 2 (some (.array .long)) :: ws) ({ frames := 0, cells := 0, slots := 0, locals := 0 } : Room)) (fun args_ U => args_ = #[(.ref t), (.int x)] ∧ Z.Warmed39 U.vm ∧ U.heap = h0) (fun _ _ _ _ _ => True) (fun _ U o U' => ∃ v L, o = .returned v ∧ (Q_rm_pa9 Z t x vb sd xn k_vb h0 n0) v U'.heap L ∧ FrameEnd U o U' L ({ frames := 0, cells := 0, slots := 0, locals := 0 } : Room).cells ({ frames := 0, cells := 0, slots := 0, locals := 0 } : Room).slots) := by
  refine start (Q := (Q_rm_pa9 Z t x vb sd xn k_vb h0 n0)) pn_6 ?_
  intro p e s m below meth c T0 X0 hx hby hml hown hnm hret hlk hZ e0
  replace hown : s.vm.findClass "com/example/brisk_dedup/briskdedup/engine/Sides" = some m.cls := hown
  replace hml : c.maxLocals = 2 := hml
  refine goAt (ef_rm_pa9 m t x ) ?_
  have N0 := Fr.nil n0
  show Go p e below T0 (mkF m 0 #[.val (.ref t), .val (.int x)] []) _
  refine stp (fun _ => XS.aloadN X0.here hx rfl (hb hby d8_0) rfl rfl) ?_
  show Go p e below T0 (mkF m 1 #[.val (.ref t), .val (.int x)] [(.ref t)]) _
  obtain ⟨T1, X1, e1, st1⟩ := getF X0 hx hZ hown (host := "") (Or.inl (hw _ (List.mem_of_getElem? (i := 28) rfl))) Via.refl e0 F_t_sides (g := (mkF m 1 #[.val (.ref t), .val (.int x)] [(.ref t)])) rfl rfl (hb hby d8_1)
  refine stp st1 ?_
  show Go p e below T1 (mkF m 4 #[.val (.ref t), .val (.int x)] [(.ref vb)]) _
  refine stp (fun _ => XS.ifnullNo X1.here hx rfl (hb hby d8_4) rfl) ?_
  show Go p e below T1 (mkF m 7 #[.val (.ref t), .val (.int x)] []) _
  refine stp (fun _ => XS.aloadN X1.here hx rfl (hb hby d8_7) rfl rfl) ?_
  show Go p e below T1 (mkF m 8 #[.val (.ref t), .val (.int x)] [(.ref t)]) _
  obtain ⟨T2, X2, e2, st2⟩ := getF X1 hx hZ hown (host := "") (Or.inl (hw _ (List.mem_of_getElem? (i := 28) rfl))) Via.refl e1 F_t_sides (g := (mkF m 8 #[.val (.ref t), .val (.int x)] [(.ref t)])) rfl rfl (hb hby d8_8)
  refine stp st2 ?_
  show Go p e below T2 (mkF m 11 #[.val (.ref t), .val (.int x)] [(.ref vb)]) _
  refine stp (fun _ => XS.iloadN X2.here hx rfl (hb hby d8_11) rfl) ?_
  show Go p e below T2 (mkF m 12 #[.val (.ref t), .val (.int x)] [(.int x), (.ref vb)]) _
  obtain ⟨cl3, Ar3, q3, S3, H3, G3⟩ := (id V_vb)
  have in3 : ¬ (x < 0 ∨ cl3.slots.size ≤ (x).toNatClampNeg) := arf_in S3 hx1 hx2
  have at3 : cl3.slots[(x).toNatClampNeg]? = some (.int (sd xn)) := arf_at H3 hx1 hx2
  refine stp (fun _ => X2.baloadBytes hx (j := x) (v := (.int (sd xn))) (by rw [e2]; exact Ar3.1) (State.isArrayOf_alike hZ.alike Ar3.2.1) Ar3.2.2 in3 at3 (g := (mkF m 12 #[.val (.ref t), .val (.int x)] [(.int x), (.ref vb)])) rfl rfl (hb hby d8_12) _) ?_
  show Go p e below T2 (mkF m 13 #[.val (.ref t), .val (.int x)] [(.int (sd xn))]) _
  refine stp (fun _ => XS.iconst X2.here hx rfl (hb hby d8_13)) ?_
  show Go p e below T2 (mkF m 14 #[.val (.ref t), .val (.int x)] [(.int (3 : Int32)), (.int (sd xn))]) _
  refine stp (fun _ => XS.icmpNo X2.here hx rfl (hb hby d8_14) rfl (XT.ii_ne_f hk)) ?_
  show Go p e below T2 (mkF m 17 #[.val (.ref t), .val (.int x)] []) _
  refine stp (fun _ => XS.aconstNull X2.here hx rfl (hb hby d8_17)) ?_
  show Go p e below T2 (mkF m 18 #[.val (.ref t), .val (.int x)] [.null]) _
  refine outA X2 hx hret rfl rfl (hb hby d8_18) hlk (by decide) (by decide) ?_
  exact ⟨rfl, N0, e2⟩
theorem d8_19 : decode prog_68_method_5_code 19 = .ok (.aload_n 0, 1) := by decide +kernel
theorem d8_20 : decode prog_68_method_5_code 20 = .ok (.getfield 9, 3) := by decide +kernel
theorem d8_23 : decode prog_68_method_5_code 23 = .ok (.iload_n 1, 1) := by decide +kernel
theorem d8_24 : decode prog_68_method_5_code 24 = .ok (.baload, 1) := by decide +kernel
theorem d8_25 : decode prog_68_method_5_code 25 = .ok (.iconst 1, 1) := by decide +kernel
theorem d8_26 : decode prog_68_method_5_code 26 = .ok (.if_icmp .ne 10, 3) := by decide +kernel
theorem d8_29 : decode prog_68_method_5_code 29 = .ok (.aload_n 0, 1) := by decide +kernel
theorem d8_30 : decode prog_68_method_5_code 30 = .ok (.getfield 17, 3) := by decide +kernel
theorem d8_33 : decode prog_68_method_5_code 33 = .ok (.goto 7, 3) := by decide +kernel
theorem d8_40 : decode prog_68_method_5_code 40 = .ok (.areturn, 1) := by decide +kernel
theorem ef_rm_pa1 (m : MethodId) (t : Addr) (x : Int32)  : entryFrame m #[(.ref t), (.int x)] 2 = mkF m 0 #[.val (.ref t), .val (.int x)] [] := by first | (simp [entryFrame, mkF, argsToLocals, Value.category]; done) | rfl
def Q_rm_pa1 (Z : State) (t : Addr) (x : Int32) (vb : Addr) (sd : Nat → Int32) (xn : Nat) (vw : Addr) (k_vb : ClassId) (h0 : Heap) (n0 : Nat) (v : Option Value) (h : Heap) (L : List Loc) : Prop := v = some (.ref vw) ∧ Fr n0 L ∧ h = h0
set_option maxRecDepth 65536 in
set_option maxHeartbeats 40000000 in
theorem rm_pa1 (l : Launch) (Z : State) (a0 : Array Value) (hw : ∀ d ∈ tables_1, d.before a0 Z = true) (ws : List Jvm.Cond) (t : Addr) (x : Int32) (vb : Addr) (sd : Nat → Int32) (xn : Nat) (vw : Addr) (k_vb : ClassId) (h0 : Heap) (n0 : Nat) (O0 : Old Z n0 h0) (F_t_sides : Fld Z h0 t "com/example/brisk_dedup/briskdedup/engine/Sides" "sides" "[B" (.ref vb)) (V_vb : Arf Z h0 vb k_vb .byte 66 (fun x => (.int (sd x)))) (F_t_ofSecond : Fld Z h0 t "com/example/brisk_dedup/briskdedup/engine/Sides" "ofSecond" "[J" (.ref vw)) (hx1 : x.toInt = (xn : Int)) (hx2 : xn < 66) (hk : sd xn = 1) :
    MetFree l (⟨"com/example/brisk_dedup/briskdedup/engine/Sides", "partners", "(I)[J"⟩ : MethodName) (head1 (Jvm.Cond.code (⟨"com/example/brisk_dedup/briskdedup/engine/Sides", "partners", "(I)[J"⟩ : MethodName) prog_68_method_5_code 2 (some (.array .long)) :: ws) ({ frames := 0, cells := 0, slots := 0, locals := 0 } : Room)) (fun args_ U => args_ = #[(.ref t), (.int x)] ∧ Z.Warmed39 U.vm ∧ U.heap = h0) (fun _ _ _ _ _ => True) (fun _ U o U' => ∃ v L, o = .returned v ∧ (Q_rm_pa1 Z t x vb sd xn vw k_vb h0 n0) v U'.heap L ∧ FrameEnd U o U' L ({ frames := 0, cells := 0, slots := 0, locals := 0 } : Room).cells ({ frames := 0, cells := 0, slots := 0, locals := 0 } : Room).slots) := by
  refine start (Q := (Q_rm_pa1 Z t x vb sd xn vw k_vb h0 n0)) pn_6 ?_
  intro p e s m below meth c T0 X0 hx hby hml hown hnm hret hlk hZ e0
  replace hown : s.vm.findClass "com/example/brisk_dedup/briskdedup/engine/Sides" = some m.cls := hown
  replace hml : c.maxLocals = 2 := hml
  refine goAt (ef_rm_pa1 m t x ) ?_
  have N0 := Fr.nil n0
  show Go p e below T0 (mkF m 0 #[.val (.ref t), .val (.int x)] []) _
  refine stp (fun _ => XS.aloadN X0.here hx rfl (hb hby d8_0) rfl rfl) ?_
  show Go p e below T0 (mkF m 1 #[.val (.ref t), .val (.int x)] [(.ref t)]) _
  obtain ⟨T1, X1, e1, st1⟩ := getF X0 hx hZ hown (host := "") (Or.inl (hw _ (List.mem_of_getElem? (i := 28) rfl))) Via.refl e0 F_t_sides (g := (mkF m 1 #[.val (.ref t), .val (.int x)] [(.ref t)])) rfl rfl (hb hby d8_1)
  refine stp st1 ?_
  show Go p e below T1 (mkF m 4 #[.val (.ref t), .val (.int x)] [(.ref vb)]) _
  refine stp (fun _ => XS.ifnullNo X1.here hx rfl (hb hby d8_4) rfl) ?_
  show Go p e below T1 (mkF m 7 #[.val (.ref t), .val (.int x)] []) _
  refine stp (fun _ => XS.aloadN X1.here hx rfl (hb hby d8_7) rfl rfl) ?_
  show Go p e below T1 (mkF m 8 #[.val (.ref t), .val (.int x)] [(.ref t)]) _
  obtain ⟨T2, X2, e2, st2⟩ := getF X1 hx hZ hown (host := "") (Or.inl (hw _ (List.mem_of_getElem? (i := 28) rfl))) Via.refl e1 F_t_sides (g := (mkF m 8 #[.val (.ref t), .val (.int x)] [(.ref t)])) rfl rfl (hb hby d8_8)
  refine stp st2 ?_
  show Go p e below T2 (mkF m 11 #[.val (.ref t), .val (.int x)] [(.ref vb)]) _
  refine stp (fun _ => XS.iloadN X2.here hx rfl (hb hby d8_11) rfl) ?_
  show Go p e below T2 (mkF m 12 #[.val (.ref t), .val (.int x)] [(.int x), (.ref vb)]) _
  obtain ⟨cl3, Ar3, q3, S3, H3, G3⟩ := (id V_vb)
  have in3 : ¬ (x < 0 ∨ cl3.slots.size ≤ (x).toNatClampNeg) := arf_in S3 hx1 hx2
  have at3 : cl3.slots[(x).toNatClampNeg]? = some (.int (sd xn)) := arf_at H3 hx1 hx2
  refine stp (fun _ => X2.baloadBytes hx (j := x) (v := (.int (sd xn))) (by rw [e2]; exact Ar3.1) (State.isArrayOf_alike hZ.alike Ar3.2.1) Ar3.2.2 in3 at3 (g := (mkF m 12 #[.val (.ref t), .val (.int x)] [(.int x), (.ref vb)])) rfl rfl (hb hby d8_12) _) ?_
  show Go p e below T2 (mkF m 13 #[.val (.ref t), .val (.int x)] [(.int (sd xn))]) _
  refine stp (fun _ => XS.iconst X2.here hx rfl (hb hby d8_13)) ?_
  show Go p e below T2 (mkF m 14 #[.val (.ref t), .val (.int x)] [(.int (3 : Int32)), (.int (sd xn))]) _
  refine stp (fun _ => XS.icmpYes X2.here hx rfl (pc0 := 14) (pc' := 19) rfl (hb hby d8_14) rfl (XT.ii_ne_t (by rw [hk]; decide)) (by decide) (by decide)) ?_
  show Go p e below T2 (mkF m 19 #[.val (.ref t), .val (.int x)] []) _
  refine stp (fun _ => XS.aloadN X2.here hx rfl (hb hby d8_19) rfl rfl) ?_
  show Go p e below T2 (mkF m 20 #[.val (.ref t), .val (.int x)] [(.ref t)]) _
  obtain ⟨T4, X4, e4, st4⟩ := getF X2 hx hZ hown (host := "") (Or.inl (hw _ (List.mem_of_getElem? (i := 28) rfl))) Via.refl e2 F_t_sides (g := (mkF m 20 #[.val (.ref t), .val (.int x)] [(.ref t)])) rfl rfl (hb hby d8_20)
  refine stp st4 ?_
  show Go p e below T4 (mkF m 23 #[.val (.ref t), .val (.int x)] [(.ref vb)]) _
  refine stp (fun _ => XS.iloadN X4.here hx rfl (hb hby d8_23) rfl) ?_
  show Go p e below T4 (mkF m 24 #[.val (.ref t), .val (.int x)] [(.int x), (.ref vb)]) _
  obtain ⟨cl5, Ar5, q5, S5, H5, G5⟩ := (id V_vb)
  have in5 : ¬ (x < 0 ∨ cl5.slots.size ≤ (x).toNatClampNeg) := arf_in S5 hx1 hx2
  have at5 : cl5.slots[(x).toNatClampNeg]? = some (.int (sd xn)) := arf_at H5 hx1 hx2
  refine stp (fun _ => X4.baloadBytes hx (j := x) (v := (.int (sd xn))) (by rw [e4]; exact Ar5.1) (State.isArrayOf_alike hZ.alike Ar5.2.1) Ar5.2.2 in5 at5 (g := (mkF m 24 #[.val (.ref t), .val (.int x)] [(.int x), (.ref vb)])) rfl rfl (hb hby d8_24) _) ?_
  show Go p e below T4 (mkF m 25 #[.val (.ref t), .val (.int x)] [(.int (sd xn))]) _
  refine stp (fun _ => XS.iconst X4.here hx rfl (hb hby d8_25)) ?_
  show Go p e below T4 (mkF m 26 #[.val (.ref t), .val (.int x)] [(.int (1 : Int32)), (.int (sd xn))]) _
  refine stp (fun _ => XS.icmpNo X4.here hx rfl (hb hby d8_26) rfl (XT.ii_ne_f hk)) ?_
  show Go p e below T4 (mkF m 29 #[.val (.ref t), .val (.int x)] []) _
  refine stp (fun _ => XS.aloadN X4.here hx rfl (hb hby d8_29) rfl rfl) ?_
  show Go p e below T4 (mkF m 30 #[.val (.ref t), .val (.int x)] [(.ref t)]) _
  obtain ⟨T6, X6, e6, st6⟩ := getF X4 hx hZ hown (host := "") (Or.inl (hw _ (List.mem_of_getElem? (i := 32) rfl))) Via.refl e4 F_t_ofSecond (g := (mkF m 30 #[.val (.ref t), .val (.int x)] [(.ref t)])) rfl rfl (hb hby d8_30)
  refine stp st6 ?_
  show Go p e below T6 (mkF m 33 #[.val (.ref t), .val (.int x)] [(.ref vw)]) _
  refine stp (fun _ => XS.goto X6.here hx rfl (pc0 := 33) (pc' := 40) rfl (hb hby d8_33) (by decide) (by decide)) ?_
  show Go p e below T6 (mkF m 40 #[.val (.ref t), .val (.int x)] [(.ref vw)]) _
  refine outA X6 hx hret rfl rfl (hb hby d8_40) hlk (by decide) (by decide) ?_
  exact ⟨rfl, N0, e6⟩
theorem d8_36 : decode prog_68_method_5_code 36 = .ok (.aload_n 0, 1) := by decide +kernel
theorem d8_37 : decode prog_68_method_5_code 37 = .ok (.getfield 13, 3) := by decide +kernel
theorem ef_rm_pa2 (m : MethodId) (t : Addr) (x : Int32)  : entryFrame m #[(.ref t), (.int x)] 2 = mkF m 0 #[.val (.ref t), .val (.int x)] [] := by first | (simp [entryFrame, mkF, argsToLocals, Value.category]; done) | rfl
def Q_rm_pa2 (Z : State) (t : Addr) (x : Int32) (vb : Addr) (sd : Nat → Int32) (xn : Nat) (vw : Addr) (k_vb : ClassId) (h0 : Heap) (n0 : Nat) (v : Option Value) (h : Heap) (L : List Loc) : Prop := v = some (.ref vw) ∧ Fr n0 L ∧ h = h0
set_option maxRecDepth 65536 in
set_option maxHeartbeats 40000000 in
theorem rm_pa2 (l : Launch) (Z : State) (a0 : Array Value) (hw : ∀ d ∈ tables_1, d.before a0 Z = true) (ws : List Jvm.Cond) (t : Addr) (x : Int32) (vb : Addr) (sd : Nat → Int32) (xn : Nat) (vw : Addr) (k_vb : ClassId) (h0 : Heap) (n0 : Nat) (O0 : Old Z n0 h0) (F_t_sides : Fld Z h0 t "com/example/brisk_dedup/briskdedup/engine/Sides" "sides" "[B" (.ref vb)) (V_vb : Arf Z h0 vb k_vb .byte 66 (fun x => (.int (sd x)))) (F_t_ofFirst : Fld Z h0 t "com/example/brisk_dedup/briskdedup/engine/Sides" "ofFirst" "[J" (.ref vw)) (hx1 : x.toInt = (xn : Int)) (hx2 : xn < 66) (hk : sd xn = 2) :
    MetFree l (⟨"com/example/brisk_dedup/briskdedup/engine/Sides", "partners", "(I)[J"⟩ : MethodName) (head1 (Jvm.Cond.code (⟨"com/example/brisk_dedup/briskdedup/engine/Sides", "partners", "(I)[J"⟩ : MethodName) prog_68_method_5_code 2 (some (.array .long)) :: ws) ({ frames := 0, cells := 0, slots := 0, locals := 0 } : Room)) (fun args_ U => args_ = #[(.ref t), (.int x)] ∧ Z.Warmed39 U.vm ∧ U.heap = h0) (fun _ _ _ _ _ => True) (fun _ U o U' => ∃ v L, o = .returned v ∧ (Q_rm_pa2 Z t x vb sd xn vw k_vb h0 n0) v U'.heap L ∧ FrameEnd U o U' L ({ frames := 0, cells := 0, slots := 0, locals := 0 } : Room).cells ({ frames := 0, cells := 0, slots := 0, locals := 0 } : Room).slots) := by
  refine start (Q := (Q_rm_pa2 Z t x vb sd xn vw k_vb h0 n0)) pn_6 ?_
  intro p e s m below meth c T0 X0 hx hby hml hown hnm hret hlk hZ e0
  replace hown : s.vm.findClass "com/example/brisk_dedup/briskdedup/engine/Sides" = some m.cls := hown
  replace hml : c.maxLocals = 2 := hml
  refine goAt (ef_rm_pa2 m t x ) ?_
  have N0 := Fr.nil n0
  show Go p e below T0 (mkF m 0 #[.val (.ref t), .val (.int x)] []) _
  refine stp (fun _ => XS.aloadN X0.here hx rfl (hb hby d8_0) rfl rfl) ?_
  show Go p e below T0 (mkF m 1 #[.val (.ref t), .val (.int x)] [(.ref t)]) _
  obtain ⟨T1, X1, e1, st1⟩ := getF X0 hx hZ hown (host := "") (Or.inl (hw _ (List.mem_of_getElem? (i := 28) rfl))) Via.refl e0 F_t_sides (g := (mkF m 1 #[.val (.ref t), .val (.int x)] [(.ref t)])) rfl rfl (hb hby d8_1)
  refine stp st1 ?_
  show Go p e below T1 (mkF m 4 #[.val (.ref t), .val (.int x)] [(.ref vb)]) _
  refine stp (fun _ => XS.ifnullNo X1.here hx rfl (hb hby d8_4) rfl) ?_
  show Go p e below T1 (mkF m 7 #[.val (.ref t), .val (.int x)] []) _
  refine stp (fun _ => XS.aloadN X1.here hx rfl (hb hby d8_7) rfl rfl) ?_
  show Go p e below T1 (mkF m 8 #[.val (.ref t), .val (.int x)] [(.ref t)]) _
  obtain ⟨T2, X2, e2, st2⟩ := getF X1 hx hZ hown (host := "") (Or.inl (hw _ (List.mem_of_getElem? (i := 28) rfl))) Via.refl e1 F_t_sides (g := (mkF m 8 #[.val (.ref t), .val (.int x)] [(.ref t)])) rfl rfl (hb hby d8_8)
  refine stp st2 ?_
  show Go p e below T2 (mkF m 11 #[.val (.ref t), .val (.int x)] [(.ref vb)]) _
  refine stp (fun _ => XS.iloadN X2.here hx rfl (hb hby d8_11) rfl) ?_
  show Go p e below T2 (mkF m 12 #[.val (.ref t), .val (.int x)] [(.int x), (.ref vb)]) _
  obtain ⟨cl3, Ar3, q3, S3, H3, G3⟩ := (id V_vb)
  have in3 : ¬ (x < 0 ∨ cl3.slots.size ≤ (x).toNatClampNeg) := arf_in S3 hx1 hx2
  have at3 : cl3.slots[(x).toNatClampNeg]? = some (.int (sd xn)) := arf_at H3 hx1 hx2
  refine stp (fun _ => X2.baloadBytes hx (j := x) (v := (.int (sd xn))) (by rw [e2]; exact Ar3.1) (State.isArrayOf_alike hZ.alike Ar3.2.1) Ar3.2.2 in3 at3 (g := (mkF m 12 #[.val (.ref t), .val (.int x)] [(.int x), (.ref vb)])) rfl rfl (hb hby d8_12) _) ?_
  show Go p e below T2 (mkF m 13 #[.val (.ref t), .val (.int x)] [(.int (sd xn))]) _
  refine stp (fun _ => XS.iconst X2.here hx rfl (hb hby d8_13)) ?_
  show Go p e below T2 (mkF m 14 #[.val (.ref t), .val (.int x)] [(.int (3 : Int32)), (.int (sd xn))]) _
  refine stp (fun _ => XS.icmpYes X2.here hx rfl (pc0 := 14) (pc' := 19) rfl (hb hby d8_14) rfl (XT.ii_ne_t (by rw [hk]; decide)) (by decide) (by decide)) ?_
  show Go p e below T2 (mkF m 19 #[.val (.ref t), .val (.int x)] []) _
  refine stp (fun _ => XS.aloadN X2.here hx rfl (hb hby d8_19) rfl rfl) ?_
  show Go p e below T2 (mkF m 20 #[.val (.ref t), .val (.int x)] [(.ref t)]) _
  obtain ⟨T4, X4, e4, st4⟩ := getF X2 hx hZ hown (host := "") (Or.inl (hw _ (List.mem_of_getElem? (i := 28) rfl))) Via.refl e2 F_t_sides (g := (mkF m 20 #[.val (.ref t), .val (.int x)] [(.ref t)])) rfl rfl (hb hby d8_20)
  refine stp st4 ?_
  show Go p e below T4 (mkF m 23 #[.val (.ref t), .val (.int x)] [(.ref vb)]) _
  refine stp (fun _ => XS.iloadN X4.here hx rfl (hb hby d8_23) rfl) ?_
  show Go p e below T4 (mkF m 24 #[.val (.ref t), .val (.int x)] [(.int x), (.ref vb)]) _
  obtain ⟨cl5, Ar5, q5, S5, H5, G5⟩ := (id V_vb)
  have in5 : ¬ (x < 0 ∨ cl5.slots.size ≤ (x).toNatClampNeg) := arf_in S5 hx1 hx2
  have at5 : cl5.slots[(x).toNatClampNeg]? = some (.int (sd xn)) := arf_at H5 hx1 hx2
  refine stp (fun _ => X4.baloadBytes hx (j := x) (v := (.int (sd xn))) (by rw [e4]; exact Ar5.1) (State.isArrayOf_alike hZ.alike Ar5.2.1) Ar5.2.2 in5 at5 (g := (mkF m 24 #[.val (.ref t), .val (.int x)] [(.int x), (.ref vb)])) rfl rfl (hb hby d8_24) _) ?_
  show Go p e below T4 (mkF m 25 #[.val (.ref t), .val (.int x)] [(.int (sd xn))]) _
  refine stp (fun _ => XS.iconst X4.here hx rfl (hb hby d8_25)) ?_
  show Go p e below T4 (mkF m 26 #[.val (.ref t), .val (.int x)] [(.int (1 : Int32)), (.int (sd xn))]) _
  refine stp (fun _ => XS.icmpYes X4.here hx rfl (pc0 := 26) (pc' := 36) rfl (hb hby d8_26) rfl (XT.ii_ne_t (by rw [hk]; decide)) (by decide) (by decide)) ?_
  show Go p e below T4 (mkF m 36 #[.val (.ref t), .val (.int x)] []) _
  refine stp (fun _ => XS.aloadN X4.here hx rfl (hb hby d8_36) rfl rfl) ?_
  show Go p e below T4 (mkF m 37 #[.val (.ref t), .val (.int x)] [(.ref t)]) _
  obtain ⟨T6, X6, e6, st6⟩ := getF X4 hx hZ hown (host := "") (Or.inl (hw _ (List.mem_of_getElem? (i := 30) rfl))) Via.refl e4 F_t_ofFirst (g := (mkF m 37 #[.val (.ref t), .val (.int x)] [(.ref t)])) rfl rfl (hb hby d8_37)
  refine stp st6 ?_
  show Go p e below T6 (mkF m 40 #[.val (.ref t), .val (.int x)] [(.ref vw)]) _
  refine outA X6 hx hret rfl rfl (hb hby d8_40) hlk (by decide) (by decide) ?_
  exact ⟨rfl, N0, e6⟩
theorem pd_1 : parseMethodDescriptor "()[B" = some ⟨[], some (.array .byte)⟩ := by decide +kernel
theorem pd_2 : parseMethodDescriptor "([B)Lcom/example/brisk_dedup/briskdedup/engine/Sides;" = some ⟨[(.array .byte)], some (.object "com/example/brisk_dedup/briskdedup/engine/Sides")⟩ := by decide +kernel
theorem pd_3 : parseMethodDescriptor "(III)I" = some ⟨[.int, .int, .int], some .int⟩ := by decide +kernel
theorem pd_4 : parseMethodDescriptor "(IIIII)I" = some ⟨[.int, .int, .int, .int, .int], some .int⟩ := by decide +kernel
theorem pd_5 : parseMethodDescriptor "(II)Z" = some ⟨[.int, .int], some .boolean⟩ := by decide +kernel
theorem pd_6 : parseMethodDescriptor "(I)[J" = some ⟨[.int], some (.array .long)⟩ := by decide +kernel
theorem ef_rm0 (m : MethodId) (p0 : Int32) (p1 : Int32) (p2 : Int32) (p3 : Int32) (p4 : Int32) (p5 : Int32)  : entryFrame m #[(.int p0), (.int p1), (.int p2), (.int p3), (.int p4), (.int p5)] maxLocals = mkF m 0 #[.val (.int p0), .val (.int p1), .val (.int p2), .val (.int p3), .val (.int p4), .val (.int p5), .unset, .unset, .unset, .unset, .unset, .unset, .unset, .unset, .unset, .unset, .unset, .unset, .unset] [] := by first | (simp [entryFrame, mkF, argsToLocals, Value.category, maxLocals]; done) | rfl
def Q_rm0 (Z : State) (p0 : Int32) (p1 : Int32) (p2 : Int32) (p3 : Int32) (p4 : Int32) (p5 : Int32) (one_ : Addr) (h0 : Heap) (n0 : Nat) (v : Option Value) (h : Heap) (L : List Loc) : Prop := v = some (.int 1) ∧ Fr n0 L
theorem pn_7_ : plainName "com/example/brisk_dedup/briskdedup/engine/SidesOfPinLaw" = true := by first | (simp [plainName, overriddenIn]; done) | decide +kernel
theorem pn_7 : plainFor (⟨"com/example/brisk_dedup/briskdedup/engine/SidesOfPinLaw", "law", "(IIIIII)Z"⟩ : MethodName) = true := plainFor_of_name pn_7_
set_option maxRecDepth 65536 in
set_option maxHeartbeats 40000000 in
theorem rm0 (l : Launch) (Z : State) (a0 : Array Value) (hw : ∀ d ∈ tables_1, d.before a0 Z = true) (ws : List Jvm.Cond) (p0 : Int32) (p1 : Int32) (p2 : Int32) (p3 : Int32) (p4 : Int32) (p5 : Int32) (one_ : Addr) (h0 : Heap) (n0 : Nat) (O0 : Old Z n0 h0) (S_ONE : Sta Z Z.heap "com/example/brisk_dedup/briskdedup/engine/Sides" "ONE_COLLECTION" "Lcom/example/brisk_dedup/briskdedup/engine/Sides;" (.ref one_)) (E_ONE : Exa Z Z.heap one_ "com/example/brisk_dedup/briskdedup/engine/Sides") (F_ONE : Fld Z Z.heap one_ "com/example/brisk_dedup/briskdedup/engine/Sides" "sides" "[B" .null) :
    MetFree l x (head1 (Jvm.Cond.code x code maxLocals ret :: ws) room_1) (fun args_ U => args_ = #[(.int p0), (.int p1), (.int p2), (.int p3), (.int p4), (.int p5)] ∧ Z.Warmed39 U.vm ∧ U.heap = h0) (fun _ _ _ _ _ => True) (fun _ U o U' => ∃ v L, o = .returned v ∧ (Q_rm0 Z p0 p1 p2 p3 p4 p5 one_ h0 n0) v U'.heap L ∧ FrameEnd U o U' L 5 139) := by
  refine start (Q := (Q_rm0 Z p0 p1 p2 p3 p4 p5 one_ h0 n0)) (show plainFor x = true from pn_7) ?_
  intro p e s m below meth c T0 X0 hx hby hml hown hnm hret hlk hZ e0
  replace hown : s.vm.findClass "com/example/brisk_dedup/briskdedup/engine/SidesOfPinLaw" = some m.cls := hown
  replace hml : c.maxLocals = 19 := hml
  refine goAt (ef_rm0 m p0 p1 p2 p3 p4 p5 ) ?_
  have N0 := Fr.nil n0
  show Go p e below T0 (mkF m 0 #[.val (.int p0), .val (.int p1), .val (.int p2), .val (.int p3), .val (.int p4), .val (.int p5), .unset, .unset, .unset, .unset, .unset, .unset, .unset, .unset, .unset, .unset, .unset, .unset, .unset] []) _
  refine stp (fun _ => XS.bipush X0.here hx rfl (hb hby at_0)) ?_
  show Go p e below T0 (mkF m 2 #[.val (.int p0), .val (.int p1), .val (.int p2), .val (.int p3), .val (.int p4), .val (.int p5), .unset, .unset, .unset, .unset, .unset, .unset, .unset, .unset, .unset, .unset, .unset, .unset, .unset] [(.int (66 : Int32))]) _
  refine stp (fun _ => XS.istore X0.here hx rfl (hb hby at_2) rfl (l' := #[.val (.int p0), .val (.int p1), .val (.int p2), .val (.int p3), .val (.int p4), .val (.int p5), .val (.int (66 : Int32)), .unset, .unset, .unset, .unset, .unset, .unset, .unset, .unset, .unset, .unset, .unset, .unset]) rfl) ?_
  show Go p e below T0 (mkF m 4 #[.val (.int p0), .val (.int p1), .val (.int p2), .val (.int p3), .val (.int p4), .val (.int p5), .val (.int (66 : Int32)), .unset, .unset, .unset, .unset, .unset, .unset, .unset, .unset, .unset, .unset, .unset, .unset] []) _
  refine stp (fun _ => XS.iloadN X0.here hx rfl (hb hby at_4) rfl) ?_
  show Go p e below T0 (mkF m 5 #[.val (.int p0), .val (.int p1), .val (.int p2), .val (.int p3), .val (.int p4), .val (.int p5), .val (.int (66 : Int32)), .unset, .unset, .unset, .unset, .unset, .unset, .unset, .unset, .unset, .unset, .unset, .unset] [(.int p0)]) _
  refine stp (fun _ => X0.ldcInt hx hown (mvT hZ (hw _ (List.mem_of_getElem? (i := 0) rfl))) (g := (mkF m 5 #[.val (.int p0), .val (.int p1), .val (.int p2), .val (.int p3), .val (.int p4), .val (.int p5), .val (.int (66 : Int32)), .unset, .unset, .unset, .unset, .unset, .unset, .unset, .unset, .unset, .unset, .unset, .unset] [(.int p0)])) rfl (hb hby at_5) _) ?_
  show Go p e below T0 (mkF m 7 #[.val (.int p0), .val (.int p1), .val (.int p2), .val (.int p3), .val (.int p4), .val (.int p5), .val (.int (66 : Int32)), .unset, .unset, .unset, .unset, .unset, .unset, .unset, .unset, .unset, .unset, .unset, .unset] [(.int (2147483647 : Int32)), (.int p0)]) _
  refine stp (fun _ => XS.iand X0.here hx rfl (hb hby at_7) rfl) ?_
  show Go p e below T0 (mkF m 8 #[.val (.int p0), .val (.int p1), .val (.int p2), .val (.int p3), .val (.int p4), .val (.int p5), .val (.int (66 : Int32)), .unset, .unset, .unset, .unset, .unset, .unset, .unset, .unset, .unset, .unset, .unset, .unset] [(.int (p0 &&& (2147483647 : Int32)))]) _
  refine stp (fun _ => XS.iload X0.here hx rfl (hb hby at_8) rfl) ?_
  show Go p e below T0 (mkF m 10 #[.val (.int p0), .val (.int p1), .val (.int p2), .val (.int p3), .val (.int p4), .val (.int p5), .val (.int (66 : Int32)), .unset, .unset, .unset, .unset, .unset, .unset, .unset, .unset, .unset, .unset, .unset, .unset] [(.int (66 : Int32)), (.int (p0 &&& (2147483647 : Int32)))]) _
  refine stp (fun _ => iremM X0 hx rfl (hb hby at_10) rfl (by decide)) ?_
  show Go p e below T0 (mkF m 11 #[.val (.int p0), .val (.int p1), .val (.int p2), .val (.int p3), .val (.int p4), .val (.int p5), .val (.int (66 : Int32)), .unset, .unset, .unset, .unset, .unset, .unset, .unset, .unset, .unset, .unset, .unset, .unset] [(.int ((p0 &&& (2147483647 : Int32)) % (66 : Int32)))]) _
  refine stp (fun _ => XS.istore X0.here hx rfl (hb hby at_11) rfl (l' := #[.val (.int p0), .val (.int p1), .val (.int p2), .val (.int p3), .val (.int p4), .val (.int p5), .val (.int (66 : Int32)), .val (.int ((p0 &&& (2147483647 : Int32)) % (66 : Int32))), .unset, .unset, .unset, .unset, .unset, .unset, .unset, .unset, .unset, .unset, .unset]) rfl) ?_
  show Go p e below T0 (mkF m 13 #[.val (.int p0), .val (.int p1), .val (.int p2), .val (.int p3), .val (.int p4), .val (.int p5), .val (.int (66 : Int32)), .val (.int ((p0 &&& (2147483647 : Int32)) % (66 : Int32))), .unset, .unset, .unset, .unset, .unset, .unset, .unset, .unset, .unset, .unset, .unset] []) _
  refine stp (fun _ => XS.iloadN X0.here hx rfl (hb hby at_13) rfl) ?_
  show Go p e below T0 (mkF m 14 #[.val (.int p0), .val (.int p1), .val (.int p2), .val (.int p3), .val (.int p4), .val (.int p5), .val (.int (66 : Int32)), .val (.int ((p0 &&& (2147483647 : Int32)) % (66 : Int32))), .unset, .unset, .unset, .unset, .unset, .unset, .unset, .unset, .unset, .unset, .unset] [(.int p1)]) _
  refine stp (fun _ => X0.ldcInt hx hown (mvT hZ (hw _ (List.mem_of_getElem? (i := 0) rfl))) (g := (mkF m 14 #[.val (.int p0), .val (.int p1), .val (.int p2), .val (.int p3), .val (.int p4), .val (.int p5), .val (.int (66 : Int32)), .val (.int ((p0 &&& (2147483647 : Int32)) % (66 : Int32))), .unset, .unset, .unset, .unset, .unset, .unset, .unset, .unset, .unset, .unset, .unset] [(.int p1)])) rfl (hb hby at_14) _) ?_
  show Go p e below T0 (mkF m 16 #[.val (.int p0), .val (.int p1), .val (.int p2), .val (.int p3), .val (.int p4), .val (.int p5), .val (.int (66 : Int32)), .val (.int ((p0 &&& (2147483647 : Int32)) % (66 : Int32))), .unset, .unset, .unset, .unset, .unset, .unset, .unset, .unset, .unset, .unset, .unset] [(.int (2147483647 : Int32)), (.int p1)]) _
  refine stp (fun _ => XS.iand X0.here hx rfl (hb hby at_16) rfl) ?_
  show Go p e below T0 (mkF m 17 #[.val (.int p0), .val (.int p1), .val (.int p2), .val (.int p3), .val (.int p4), .val (.int p5), .val (.int (66 : Int32)), .val (.int ((p0 &&& (2147483647 : Int32)) % (66 : Int32))), .unset, .unset, .unset, .unset, .unset, .unset, .unset, .unset, .unset, .unset, .unset] [(.int (p1 &&& (2147483647 : Int32)))]) _
  refine stp (fun _ => XS.iload X0.here hx rfl (hb hby at_17) rfl) ?_
  show Go p e below T0 (mkF m 19 #[.val (.int p0), .val (.int p1), .val (.int p2), .val (.int p3), .val (.int p4), .val (.int p5), .val (.int (66 : Int32)), .val (.int ((p0 &&& (2147483647 : Int32)) % (66 : Int32))), .unset, .unset, .unset, .unset, .unset, .unset, .unset, .unset, .unset, .unset, .unset] [(.int (66 : Int32)), (.int (p1 &&& (2147483647 : Int32)))]) _
  refine stp (fun _ => iremM X0 hx rfl (hb hby at_19) rfl (by decide)) ?_
  show Go p e below T0 (mkF m 20 #[.val (.int p0), .val (.int p1), .val (.int p2), .val (.int p3), .val (.int p4), .val (.int p5), .val (.int (66 : Int32)), .val (.int ((p0 &&& (2147483647 : Int32)) % (66 : Int32))), .unset, .unset, .unset, .unset, .unset, .unset, .unset, .unset, .unset, .unset, .unset] [(.int ((p1 &&& (2147483647 : Int32)) % (66 : Int32)))]) _
  refine stp (fun _ => XS.istore X0.here hx rfl (hb hby at_20) rfl (l' := #[.val (.int p0), .val (.int p1), .val (.int p2), .val (.int p3), .val (.int p4), .val (.int p5), .val (.int (66 : Int32)), .val (.int ((p0 &&& (2147483647 : Int32)) % (66 : Int32))), .val (.int ((p1 &&& (2147483647 : Int32)) % (66 : Int32))), .unset, .unset, .unset, .unset, .unset, .unset, .unset, .unset, .unset, .unset]) rfl) ?_
  show Go p e below T0 (mkF m 22 #[.val (.int p0), .val (.int p1), .val (.int p2), .val (.int p3), .val (.int p4), .val (.int p5), .val (.int (66 : Int32)), .val (.int ((p0 &&& (2147483647 : Int32)) % (66 : Int32))), .val (.int ((p1 &&& (2147483647 : Int32)) % (66 : Int32))), .unset, .unset, .unset, .unset, .unset, .unset, .unset, .unset, .unset, .unset] []) _
  refine stp (fun _ => XS.iloadN X0.here hx rfl (hb hby at_22) rfl) ?_
  show Go p e below T0 (mkF m 23 #[.val (.int p0), .val (.int p1), .val (.int p2), .val (.int p3), .val (.int p4), .val (.int p5), .val (.int (66 : Int32)), .val (.int ((p0 &&& (2147483647 : Int32)) % (66 : Int32))), .val (.int ((p1 &&& (2147483647 : Int32)) % (66 : Int32))), .unset, .unset, .unset, .unset, .unset, .unset, .unset, .unset, .unset, .unset] [(.int p2)]) _
  refine stp (fun _ => X0.ldcInt hx hown (mvT hZ (hw _ (List.mem_of_getElem? (i := 0) rfl))) (g := (mkF m 23 #[.val (.int p0), .val (.int p1), .val (.int p2), .val (.int p3), .val (.int p4), .val (.int p5), .val (.int (66 : Int32)), .val (.int ((p0 &&& (2147483647 : Int32)) % (66 : Int32))), .val (.int ((p1 &&& (2147483647 : Int32)) % (66 : Int32))), .unset, .unset, .unset, .unset, .unset, .unset, .unset, .unset, .unset, .unset] [(.int p2)])) rfl (hb hby at_23) _) ?_
  show Go p e below T0 (mkF m 25 #[.val (.int p0), .val (.int p1), .val (.int p2), .val (.int p3), .val (.int p4), .val (.int p5), .val (.int (66 : Int32)), .val (.int ((p0 &&& (2147483647 : Int32)) % (66 : Int32))), .val (.int ((p1 &&& (2147483647 : Int32)) % (66 : Int32))), .unset, .unset, .unset, .unset, .unset, .unset, .unset, .unset, .unset, .unset] [(.int (2147483647 : Int32)), (.int p2)]) _
  refine stp (fun _ => XS.iand X0.here hx rfl (hb hby at_25) rfl) ?_
  show Go p e below T0 (mkF m 26 #[.val (.int p0), .val (.int p1), .val (.int p2), .val (.int p3), .val (.int p4), .val (.int p5), .val (.int (66 : Int32)), .val (.int ((p0 &&& (2147483647 : Int32)) % (66 : Int32))), .val (.int ((p1 &&& (2147483647 : Int32)) % (66 : Int32))), .unset, .unset, .unset, .unset, .unset, .unset, .unset, .unset, .unset, .unset] [(.int (p2 &&& (2147483647 : Int32)))]) _
  refine stp (fun _ => XS.iconst X0.here hx rfl (hb hby at_26)) ?_
  show Go p e below T0 (mkF m 27 #[.val (.int p0), .val (.int p1), .val (.int p2), .val (.int p3), .val (.int p4), .val (.int p5), .val (.int (66 : Int32)), .val (.int ((p0 &&& (2147483647 : Int32)) % (66 : Int32))), .val (.int ((p1 &&& (2147483647 : Int32)) % (66 : Int32))), .unset, .unset, .unset, .unset, .unset, .unset, .unset, .unset, .unset, .unset] [(.int (3 : Int32)), (.int (p2 &&& (2147483647 : Int32)))]) _
  refine stp (fun _ => iremM X0 hx rfl (hb hby at_27) rfl (by decide)) ?_
  show Go p e below T0 (mkF m 28 #[.val (.int p0), .val (.int p1), .val (.int p2), .val (.int p3), .val (.int p4), .val (.int p5), .val (.int (66 : Int32)), .val (.int ((p0 &&& (2147483647 : Int32)) % (66 : Int32))), .val (.int ((p1 &&& (2147483647 : Int32)) % (66 : Int32))), .unset, .unset, .unset, .unset, .unset, .unset, .unset, .unset, .unset, .unset] [(.int ((p2 &&& (2147483647 : Int32)) % (3 : Int32)))]) _
  refine stp (fun _ => XS.iconst X0.here hx rfl (hb hby at_28)) ?_
  show Go p e below T0 (mkF m 29 #[.val (.int p0), .val (.int p1), .val (.int p2), .val (.int p3), .val (.int p4), .val (.int p5), .val (.int (66 : Int32)), .val (.int ((p0 &&& (2147483647 : Int32)) % (66 : Int32))), .val (.int ((p1 &&& (2147483647 : Int32)) % (66 : Int32))), .unset, .unset, .unset, .unset, .unset, .unset, .unset, .unset, .unset, .unset] [(.int (1 : Int32)), (.int ((p2 &&& (2147483647 : Int32)) % (3 : Int32)))]) _
  refine stp (fun _ => XS.iadd X0.here hx rfl (hb hby at_29) rfl) ?_
  show Go p e below T0 (mkF m 30 #[.val (.int p0), .val (.int p1), .val (.int p2), .val (.int p3), .val (.int p4), .val (.int p5), .val (.int (66 : Int32)), .val (.int ((p0 &&& (2147483647 : Int32)) % (66 : Int32))), .val (.int ((p1 &&& (2147483647 : Int32)) % (66 : Int32))), .unset, .unset, .unset, .unset, .unset, .unset, .unset, .unset, .unset, .unset] [(.int (((p2 &&& (2147483647 : Int32)) % (3 : Int32)) + (1 : Int32)))]) _
  refine stp (fun _ => XS.istore X0.here hx rfl (hb hby at_30) rfl (l' := #[.val (.int p0), .val (.int p1), .val (.int p2), .val (.int p3), .val (.int p4), .val (.int p5), .val (.int (66 : Int32)), .val (.int ((p0 &&& (2147483647 : Int32)) % (66 : Int32))), .val (.int ((p1 &&& (2147483647 : Int32)) % (66 : Int32))), .val (.int (((p2 &&& (2147483647 : Int32)) % (3 : Int32)) + (1 : Int32))), .unset, .unset, .unset, .unset, .unset, .unset, .unset, .unset, .unset]) rfl) ?_
  show Go p e below T0 (mkF m 32 #[.val (.int p0), .val (.int p1), .val (.int p2), .val (.int p3), .val (.int p4), .val (.int p5), .val (.int (66 : Int32)), .val (.int ((p0 &&& (2147483647 : Int32)) % (66 : Int32))), .val (.int ((p1 &&& (2147483647 : Int32)) % (66 : Int32))), .val (.int (((p2 &&& (2147483647 : Int32)) % (3 : Int32)) + (1 : Int32))), .unset, .unset, .unset, .unset, .unset, .unset, .unset, .unset, .unset] []) _
  refine stp (fun _ => XS.iloadN X0.here hx rfl (hb hby at_32) rfl) ?_
  show Go p e below T0 (mkF m 33 #[.val (.int p0), .val (.int p1), .val (.int p2), .val (.int p3), .val (.int p4), .val (.int p5), .val (.int (66 : Int32)), .val (.int ((p0 &&& (2147483647 : Int32)) % (66 : Int32))), .val (.int ((p1 &&& (2147483647 : Int32)) % (66 : Int32))), .val (.int (((p2 &&& (2147483647 : Int32)) % (3 : Int32)) + (1 : Int32))), .unset, .unset, .unset, .unset, .unset, .unset, .unset, .unset, .unset] [(.int p3)]) _
  refine stp (fun _ => X0.ldcInt hx hown (mvT hZ (hw _ (List.mem_of_getElem? (i := 0) rfl))) (g := (mkF m 33 #[.val (.int p0), .val (.int p1), .val (.int p2), .val (.int p3), .val (.int p4), .val (.int p5), .val (.int (66 : Int32)), .val (.int ((p0 &&& (2147483647 : Int32)) % (66 : Int32))), .val (.int ((p1 &&& (2147483647 : Int32)) % (66 : Int32))), .val (.int (((p2 &&& (2147483647 : Int32)) % (3 : Int32)) + (1 : Int32))), .unset, .unset, .unset, .unset, .unset, .unset, .unset, .unset, .unset] [(.int p3)])) rfl (hb hby at_33) _) ?_
  show Go p e below T0 (mkF m 35 #[.val (.int p0), .val (.int p1), .val (.int p2), .val (.int p3), .val (.int p4), .val (.int p5), .val (.int (66 : Int32)), .val (.int ((p0 &&& (2147483647 : Int32)) % (66 : Int32))), .val (.int ((p1 &&& (2147483647 : Int32)) % (66 : Int32))), .val (.int (((p2 &&& (2147483647 : Int32)) % (3 : Int32)) + (1 : Int32))), .unset, .unset, .unset, .unset, .unset, .unset, .unset, .unset, .unset] [(.int (2147483647 : Int32)), (.int p3)]) _
  refine stp (fun _ => XS.iand X0.here hx rfl (hb hby at_35) rfl) ?_
  show Go p e below T0 (mkF m 36 #[.val (.int p0), .val (.int p1), .val (.int p2), .val (.int p3), .val (.int p4), .val (.int p5), .val (.int (66 : Int32)), .val (.int ((p0 &&& (2147483647 : Int32)) % (66 : Int32))), .val (.int ((p1 &&& (2147483647 : Int32)) % (66 : Int32))), .val (.int (((p2 &&& (2147483647 : Int32)) % (3 : Int32)) + (1 : Int32))), .unset, .unset, .unset, .unset, .unset, .unset, .unset, .unset, .unset] [(.int (p3 &&& (2147483647 : Int32)))]) _
  refine stp (fun _ => XS.iconst X0.here hx rfl (hb hby at_36)) ?_
  show Go p e below T0 (mkF m 37 #[.val (.int p0), .val (.int p1), .val (.int p2), .val (.int p3), .val (.int p4), .val (.int p5), .val (.int (66 : Int32)), .val (.int ((p0 &&& (2147483647 : Int32)) % (66 : Int32))), .val (.int ((p1 &&& (2147483647 : Int32)) % (66 : Int32))), .val (.int (((p2 &&& (2147483647 : Int32)) % (3 : Int32)) + (1 : Int32))), .unset, .unset, .unset, .unset, .unset, .unset, .unset, .unset, .unset] [(.int (3 : Int32)), (.int (p3 &&& (2147483647 : Int32)))]) _
  refine stp (fun _ => iremM X0 hx rfl (hb hby at_37) rfl (by decide)) ?_
  show Go p e below T0 (mkF m 38 #[.val (.int p0), .val (.int p1), .val (.int p2), .val (.int p3), .val (.int p4), .val (.int p5), .val (.int (66 : Int32)), .val (.int ((p0 &&& (2147483647 : Int32)) % (66 : Int32))), .val (.int ((p1 &&& (2147483647 : Int32)) % (66 : Int32))), .val (.int (((p2 &&& (2147483647 : Int32)) % (3 : Int32)) + (1 : Int32))), .unset, .unset, .unset, .unset, .unset, .unset, .unset, .unset, .unset] [(.int ((p3 &&& (2147483647 : Int32)) % (3 : Int32)))]) _
  refine stp (fun _ => XS.iconst X0.here hx rfl (hb hby at_38)) ?_
  show Go p e below T0 (mkF m 39 #[.val (.int p0), .val (.int p1), .val (.int p2), .val (.int p3), .val (.int p4), .val (.int p5), .val (.int (66 : Int32)), .val (.int ((p0 &&& (2147483647 : Int32)) % (66 : Int32))), .val (.int ((p1 &&& (2147483647 : Int32)) % (66 : Int32))), .val (.int (((p2 &&& (2147483647 : Int32)) % (3 : Int32)) + (1 : Int32))), .unset, .unset, .unset, .unset, .unset, .unset, .unset, .unset, .unset] [(.int (1 : Int32)), (.int ((p3 &&& (2147483647 : Int32)) % (3 : Int32)))]) _
  refine stp (fun _ => XS.iadd X0.here hx rfl (hb hby at_39) rfl) ?_
  show Go p e below T0 (mkF m 40 #[.val (.int p0), .val (.int p1), .val (.int p2), .val (.int p3), .val (.int p4), .val (.int p5), .val (.int (66 : Int32)), .val (.int ((p0 &&& (2147483647 : Int32)) % (66 : Int32))), .val (.int ((p1 &&& (2147483647 : Int32)) % (66 : Int32))), .val (.int (((p2 &&& (2147483647 : Int32)) % (3 : Int32)) + (1 : Int32))), .unset, .unset, .unset, .unset, .unset, .unset, .unset, .unset, .unset] [(.int (((p3 &&& (2147483647 : Int32)) % (3 : Int32)) + (1 : Int32)))]) _
  refine stp (fun _ => XS.istore X0.here hx rfl (hb hby at_40) rfl (l' := #[.val (.int p0), .val (.int p1), .val (.int p2), .val (.int p3), .val (.int p4), .val (.int p5), .val (.int (66 : Int32)), .val (.int ((p0 &&& (2147483647 : Int32)) % (66 : Int32))), .val (.int ((p1 &&& (2147483647 : Int32)) % (66 : Int32))), .val (.int (((p2 &&& (2147483647 : Int32)) % (3 : Int32)) + (1 : Int32))), .val (.int (((p3 &&& (2147483647 : Int32)) % (3 : Int32)) + (1 : Int32))), .unset, .unset, .unset, .unset, .unset, .unset, .unset, .unset]) rfl) ?_
  show Go p e below T0 (mkF m 42 #[.val (.int p0), .val (.int p1), .val (.int p2), .val (.int p3), .val (.int p4), .val (.int p5), .val (.int (66 : Int32)), .val (.int ((p0 &&& (2147483647 : Int32)) % (66 : Int32))), .val (.int ((p1 &&& (2147483647 : Int32)) % (66 : Int32))), .val (.int (((p2 &&& (2147483647 : Int32)) % (3 : Int32)) + (1 : Int32))), .val (.int (((p3 &&& (2147483647 : Int32)) % (3 : Int32)) + (1 : Int32))), .unset, .unset, .unset, .unset, .unset, .unset, .unset, .unset] []) _
  obtain ⟨ip, hip⟩ : ∃ z : Int32, z = ((p0 &&& (2147483647 : Int32)) % (66 : Int32)) := ⟨_, rfl⟩
  rw [← hip]
  show Go p e below T0 (mkF m 42 #[.val (.int p0), .val (.int p1), .val (.int p2), .val (.int p3), .val (.int p4), .val (.int p5), .val (.int (66 : Int32)), .val (.int ip), .val (.int ((p1 &&& (2147483647 : Int32)) % (66 : Int32))), .val (.int (((p2 &&& (2147483647 : Int32)) % (3 : Int32)) + (1 : Int32))), .val (.int (((p3 &&& (2147483647 : Int32)) % (3 : Int32)) + (1 : Int32))), .unset, .unset, .unset, .unset, .unset, .unset, .unset, .unset] []) _
  obtain ⟨jp, hjp⟩ : ∃ z : Int32, z = ((p1 &&& (2147483647 : Int32)) % (66 : Int32)) := ⟨_, rfl⟩
  rw [← hjp]
  show Go p e below T0 (mkF m 42 #[.val (.int p0), .val (.int p1), .val (.int p2), .val (.int p3), .val (.int p4), .val (.int p5), .val (.int (66 : Int32)), .val (.int ip), .val (.int jp), .val (.int (((p2 &&& (2147483647 : Int32)) % (3 : Int32)) + (1 : Int32))), .val (.int (((p3 &&& (2147483647 : Int32)) % (3 : Int32)) + (1 : Int32))), .unset, .unset, .unset, .unset, .unset, .unset, .unset, .unset] []) _
  obtain ⟨s1, hs1⟩ : ∃ z : Int32, z = (((p2 &&& (2147483647 : Int32)) % (3 : Int32)) + (1 : Int32)) := ⟨_, rfl⟩
  rw [← hs1]
  show Go p e below T0 (mkF m 42 #[.val (.int p0), .val (.int p1), .val (.int p2), .val (.int p3), .val (.int p4), .val (.int p5), .val (.int (66 : Int32)), .val (.int ip), .val (.int jp), .val (.int s1), .val (.int (((p3 &&& (2147483647 : Int32)) % (3 : Int32)) + (1 : Int32))), .unset, .unset, .unset, .unset, .unset, .unset, .unset, .unset] []) _
  obtain ⟨s2, hs2⟩ : ∃ z : Int32, z = (((p3 &&& (2147483647 : Int32)) % (3 : Int32)) + (1 : Int32)) := ⟨_, rfl⟩
  rw [← hs2]
  show Go p e below T0 (mkF m 42 #[.val (.int p0), .val (.int p1), .val (.int p2), .val (.int p3), .val (.int p4), .val (.int p5), .val (.int (66 : Int32)), .val (.int ip), .val (.int jp), .val (.int s1), .val (.int s2), .unset, .unset, .unset, .unset, .unset, .unset, .unset, .unset] []) _
  obtain ⟨ipn, hipn, hipl⟩ := own_rem66 hip
  obtain ⟨jpn, hjpn, hjpl⟩ := own_rem66 hjp
  have hs1' := own_rem3 hs1
  have hs2' := own_rem3 hs2
  obtain ⟨_, _, ⟨T1, L1, k1, n1⟩, -, X1, ⟨Lc1, hQ1, l1, y1, z1⟩, st1⟩ := Jvm.LawKit.callS X0 hx (y := (⟨"com/example/brisk_dedup/briskdedup/engine/SidesOfPinLaw", "allBoth", "()[B"⟩ : MethodName)) hown (mvT hZ (hw _ (List.mem_of_getElem? (i := 1) rfl))) (mvT hZ (hw _ (List.mem_of_getElem? (i := 2) rfl))) (mvT hZ (hw _ (List.mem_of_getElem? (i := 3) rfl))) (mvT hZ (hw _ (List.mem_of_getElem? (i := 4) rfl))) (by decide) (backOf (W := 0) (rm_ab l Z a0 hw []   h0 n0 O0 ) hZ (hw _ (List.mem_of_getElem? (i := 4) rfl)) (hw _ (List.mem_of_getElem? (i := 3) rfl)) (by decide) (by decide)) (g := (mkF m 42 #[.val (.int p0), .val (.int p1), .val (.int p2), .val (.int p3), .val (.int p4), .val (.int p5), .val (.int (66 : Int32)), .val (.int ip), .val (.int jp), .val (.int s1), .val (.int s2), .unset, .unset, .unset, .unset, .unset, .unset, .unset, .unset] [])) rfl (by rw [hml]; rfl) (argsL := []) (rest := []) (lenOf pd_1 rfl) rfl (by show 2 * 0 + _ ≤ _; exact Nat.le_of_eq rfl) (hb hby at_42) (fun _ _ => ⟨rfl, e0, (by decide : 0 + 1 ≤ _), (by decide : 0 + 66 ≤ _)⟩)
  dsimp only [Pt.U, Pt.locs, Pt.cells, Pt.slots] at X1 l1 y1 z1 st1 hQ1
  subst l1 y1 z1
  obtain ⟨b1, k_b1, rfl, N1q, K1q, ⟨ge_b1, sz1_b1⟩, r1_0, r1_1⟩ := hQ1
  have N1 := Fr.app N0 N1q
  have ne2 : one_ ≠ b1 := O0.ne E_ONE.lt ge_b1
  have sz_b1 : h0.size ≤ b1 := Nat.le_trans (Keep.refl h0 []).1 sz1_b1
  have K1 : Keep h0 T1.heap [] := (Keep.refl h0 []).trans K1q all0
  have O1 := O0.keep K1q all0
  refine stp st1 ?_
  show Go p e below T1 (mkF m 45 #[.val (.int p0), .val (.int p1), .val (.int p2), .val (.int p3), .val (.int p4), .val (.int p5), .val (.int (66 : Int32)), .val (.int ip), .val (.int jp), .val (.int s1), .val (.int s2), .unset, .unset, .unset, .unset, .unset, .unset, .unset, .unset] [(.ref b1)]) _
  refine stp (fun _ => XS.astore X1.here hx rfl (hb hby at_45) rfl rfl (l' := #[.val (.int p0), .val (.int p1), .val (.int p2), .val (.int p3), .val (.int p4), .val (.int p5), .val (.int (66 : Int32)), .val (.int ip), .val (.int jp), .val (.int s1), .val (.int s2), .val (.ref b1), .unset, .unset, .unset, .unset, .unset, .unset, .unset]) rfl) ?_
  show Go p e below T1 (mkF m 47 #[.val (.int p0), .val (.int p1), .val (.int p2), .val (.int p3), .val (.int p4), .val (.int p5), .val (.int (66 : Int32)), .val (.int ip), .val (.int jp), .val (.int s1), .val (.int s2), .val (.ref b1), .unset, .unset, .unset, .unset, .unset, .unset, .unset] []) _
  refine stp (fun _ => XS.aload X1.here hx rfl (hb hby at_47) rfl rfl) ?_
  show Go p e below T1 (mkF m 49 #[.val (.int p0), .val (.int p1), .val (.int p2), .val (.int p3), .val (.int p4), .val (.int p5), .val (.int (66 : Int32)), .val (.int ip), .val (.int jp), .val (.int s1), .val (.int s2), .val (.ref b1), .unset, .unset, .unset, .unset, .unset, .unset, .unset] [(.ref b1)]) _
  refine stp (fun _ => XS.iload X1.here hx rfl (hb hby at_49) rfl) ?_
  show Go p e below T1 (mkF m 51 #[.val (.int p0), .val (.int p1), .val (.int p2), .val (.int p3), .val (.int p4), .val (.int p5), .val (.int (66 : Int32)), .val (.int ip), .val (.int jp), .val (.int s1), .val (.int s2), .val (.ref b1), .unset, .unset, .unset, .unset, .unset, .unset, .unset] [(.int ip), (.ref b1)]) _
  refine stp (fun _ => XS.iload X1.here hx rfl (hb hby at_51) rfl) ?_
  show Go p e below T1 (mkF m 53 #[.val (.int p0), .val (.int p1), .val (.int p2), .val (.int p3), .val (.int p4), .val (.int p5), .val (.int (66 : Int32)), .val (.int ip), .val (.int jp), .val (.int s1), .val (.int s2), .val (.ref b1), .unset, .unset, .unset, .unset, .unset, .unset, .unset] [(.int s1), (.int ip), (.ref b1)]) _
  refine stp (fun _ => XS.i2b X1.here hx rfl (hb hby at_53) rfl) ?_
  show Go p e below T1 (mkF m 54 #[.val (.int p0), .val (.int p1), .val (.int p2), .val (.int p3), .val (.int p4), .val (.int p5), .val (.int (66 : Int32)), .val (.int ip), .val (.int jp), .val (.int s1), .val (.int s2), .val (.ref b1), .unset, .unset, .unset, .unset, .unset, .unset, .unset] [(.int (s1.toInt8.toInt32)), (.int ip), (.ref b1)]) _
  rw [own_b3 hs1']
  show Go p e below T1 (mkF m 54 #[.val (.int p0), .val (.int p1), .val (.int p2), .val (.int p3), .val (.int p4), .val (.int p5), .val (.int (66 : Int32)), .val (.int ip), .val (.int jp), .val (.int s1), .val (.int s2), .val (.ref b1), .unset, .unset, .unset, .unset, .unset, .unset, .unset] [(.int s1), (.int ip), (.ref b1)]) _
  obtain ⟨cl3, Ar3, q3, S3, H3, G3⟩ := (id r1_1)
  have in3 : ¬ (ip < 0 ∨ cl3.slots.size ≤ (ip).toNatClampNeg) := arf_in S3 hipn hipl
  obtain ⟨T3, h3, X3, e3, W3, st3⟩ := stB X1 hx hZ rfl Ar3 (j := ip) in3 (g := (mkF m 54 #[.val (.int p0), .val (.int p1), .val (.int p2), .val (.int p3), .val (.int p4), .val (.int p5), .val (.int (66 : Int32)), .val (.int ip), .val (.int jp), .val (.int s1), .val (.int s2), .val (.ref b1), .unset, .unset, .unset, .unset, .unset, .unset, .unset] [(.int s1), (.int ip), (.ref b1)])) rfl rfl (hb hby at_54)
  have V3 := Arf.set Ar3 q3 S3 H3 G3 (ow_fits_byte (own_b3 hs1')) (arf_ix hipn ▸ (ow_wr_byte (own_b3 hs1') W3)) hipl
  have f4 := r1_0.wr W3
  have K3 : Keep h0 h3 [] := K1.wr W3 (Or.inr sz_b1)
  have O3 := O1.wr W3 ge_b1
  have N3 := Fr.snoc X3 N1 ge_b1
  refine stp st3 ?_
  show Go p e below T3 (mkF m 55 #[.val (.int p0), .val (.int p1), .val (.int p2), .val (.int p3), .val (.int p4), .val (.int p5), .val (.int (66 : Int32)), .val (.int ip), .val (.int jp), .val (.int s1), .val (.int s2), .val (.ref b1), .unset, .unset, .unset, .unset, .unset, .unset, .unset] []) _
  refine stp (fun _ => XS.aload X3.here hx rfl (hb hby at_55) rfl rfl) ?_
  show Go p e below T3 (mkF m 57 #[.val (.int p0), .val (.int p1), .val (.int p2), .val (.int p3), .val (.int p4), .val (.int p5), .val (.int (66 : Int32)), .val (.int ip), .val (.int jp), .val (.int s1), .val (.int s2), .val (.ref b1), .unset, .unset, .unset, .unset, .unset, .unset, .unset] [(.ref b1)]) _
  refine stp (fun _ => XS.iload X3.here hx rfl (hb hby at_57) rfl) ?_
  show Go p e below T3 (mkF m 59 #[.val (.int p0), .val (.int p1), .val (.int p2), .val (.int p3), .val (.int p4), .val (.int p5), .val (.int (66 : Int32)), .val (.int ip), .val (.int jp), .val (.int s1), .val (.int s2), .val (.ref b1), .unset, .unset, .unset, .unset, .unset, .unset, .unset] [(.int jp), (.ref b1)]) _
  refine stp (fun _ => XS.iload X3.here hx rfl (hb hby at_59) rfl) ?_
  show Go p e below T3 (mkF m 61 #[.val (.int p0), .val (.int p1), .val (.int p2), .val (.int p3), .val (.int p4), .val (.int p5), .val (.int (66 : Int32)), .val (.int ip), .val (.int jp), .val (.int s1), .val (.int s2), .val (.ref b1), .unset, .unset, .unset, .unset, .unset, .unset, .unset] [(.int s2), (.int jp), (.ref b1)]) _
  refine stp (fun _ => XS.i2b X3.here hx rfl (hb hby at_61) rfl) ?_
  show Go p e below T3 (mkF m 62 #[.val (.int p0), .val (.int p1), .val (.int p2), .val (.int p3), .val (.int p4), .val (.int p5), .val (.int (66 : Int32)), .val (.int ip), .val (.int jp), .val (.int s1), .val (.int s2), .val (.ref b1), .unset, .unset, .unset, .unset, .unset, .unset, .unset] [(.int (s2.toInt8.toInt32)), (.int jp), (.ref b1)]) _
  rw [own_b3 hs2']
  show Go p e below T3 (mkF m 62 #[.val (.int p0), .val (.int p1), .val (.int p2), .val (.int p3), .val (.int p4), .val (.int p5), .val (.int (66 : Int32)), .val (.int ip), .val (.int jp), .val (.int s1), .val (.int s2), .val (.ref b1), .unset, .unset, .unset, .unset, .unset, .unset, .unset] [(.int s2), (.int jp), (.ref b1)]) _
  obtain ⟨cl6, Ar6, q6, S6, H6, G6⟩ := (id V3)
  have in6 : ¬ (jp < 0 ∨ cl6.slots.size ≤ (jp).toNatClampNeg) := arf_in S6 hjpn hjpl
  obtain ⟨T6, h6, X6, e6, W6, st6⟩ := stB X3 hx hZ e3 Ar6 (j := jp) in6 (g := (mkF m 62 #[.val (.int p0), .val (.int p1), .val (.int p2), .val (.int p3), .val (.int p4), .val (.int p5), .val (.int (66 : Int32)), .val (.int ip), .val (.int jp), .val (.int s1), .val (.int s2), .val (.ref b1), .unset, .unset, .unset, .unset, .unset, .unset, .unset] [(.int s2), (.int jp), (.ref b1)])) rfl rfl (hb hby at_62)
  have V6 := Arf.set Ar6 q6 S6 H6 G6 (ow_fits_byte (own_b3 hs2')) (arf_ix hjpn ▸ (ow_wr_byte (own_b3 hs2') W6)) hjpl
  replace V6 : Arf Z h6 b1 k_b1 .byte 66 (fun x => (.int ((own_sd ipn s1 jpn s2) x))) := V6.congr (fun x _ => own_sdv ipn s1 jpn s2 x)
  have f7 := f4.wr W6
  have K6 : Keep h0 h6 [] := K3.wr W6 (Or.inr sz_b1)
  have O6 := O3.wr W6 ge_b1
  have N6 := Fr.snoc X6 N3 ge_b1
  refine stp st6 ?_
  show Go p e below T6 (mkF m 63 #[.val (.int p0), .val (.int p1), .val (.int p2), .val (.int p3), .val (.int p4), .val (.int p5), .val (.int (66 : Int32)), .val (.int ip), .val (.int jp), .val (.int s1), .val (.int s2), .val (.ref b1), .unset, .unset, .unset, .unset, .unset, .unset, .unset] []) _
  refine stp (fun _ => XS.aload X6.here hx rfl (hb hby at_63) rfl rfl) ?_
  show Go p e below T6 (mkF m 65 #[.val (.int p0), .val (.int p1), .val (.int p2), .val (.int p3), .val (.int p4), .val (.int p5), .val (.int (66 : Int32)), .val (.int ip), .val (.int jp), .val (.int s1), .val (.int s2), .val (.ref b1), .unset, .unset, .unset, .unset, .unset, .unset, .unset] [(.ref b1)]) _
  obtain ⟨_, _, ⟨T9, L9, k9, n9⟩, -, X9, ⟨Lc9, hQ9, l9, y9, z9⟩, st9⟩ := Jvm.LawKit.callS X6 hx (y := (⟨"com/example/brisk_dedup/briskdedup/engine/Sides", "of", "([B)Lcom/example/brisk_dedup/briskdedup/engine/Sides;"⟩ : MethodName)) hown (mvT hZ (hw _ (List.mem_of_getElem? (i := 6) rfl))) (mvT hZ (hw _ (List.mem_of_getElem? (i := 7) rfl))) (mvT hZ (hw _ (List.mem_of_getElem? (i := 8) rfl))) (mvT hZ (hw _ (List.mem_of_getElem? (i := 9) rfl))) (by decide) (backOf (W := 0) (rm_of l Z a0 hw [] b1 k_b1 (own_sd ipn s1 jpn s2) one_ h6 n0 O6 V6 f7 S_ONE (own_sd3 hs1' hs2')) hZ (hw _ (List.mem_of_getElem? (i := 9) rfl)) (hw _ (List.mem_of_getElem? (i := 8) rfl)) (by decide) (by decide)) (g := (mkF m 65 #[.val (.int p0), .val (.int p1), .val (.int p2), .val (.int p3), .val (.int p4), .val (.int p5), .val (.int (66 : Int32)), .val (.int ip), .val (.int jp), .val (.int s1), .val (.int s2), .val (.ref b1), .unset, .unset, .unset, .unset, .unset, .unset, .unset] [(.ref b1)])) rfl (by rw [hml]; rfl) (argsL := [(.ref b1)]) (rest := []) (lenOf pd_2 rfl) rfl (by show 2 * 0 + _ ≤ _; exact Nat.le_of_eq rfl) (hb hby at_65) (fun _ _ => ⟨rfl, e6, (by decide : 1 + 4 ≤ _), (by decide : 66 + 73 ≤ _)⟩)
  dsimp only [Pt.U, Pt.locs, Pt.cells, Pt.slots] at X9 l9 y9 z9 st9 hQ9
  subst l9 y9 z9
  obtain ⟨N9q, K9q, hc9⟩ := hQ9
  have N9 := Fr.app N6 N9q
  have f10 := f7.keep K9q
  have f11 := V6.keep K9q nin0
  have O9 := O6.keep K9q all0
  rcases hc9 with ⟨hall, rfl⟩ | ⟨hnall, r_, vb_, vf_, vg_, kb_, kf_, kg_, rfl, ⟨ge_r, sz_r⟩, ⟨ge_vb, sz_vb⟩, ⟨ge_vf, sz_vf⟩, ⟨ge_vg, sz_vg⟩, Er, Fb, Ff, Fg, Vb, Vf, Vg⟩
  · refine stp st9 ?_
    show Go p e below T9 (mkF m 68 #[.val (.int p0), .val (.int p1), .val (.int p2), .val (.int p3), .val (.int p4), .val (.int p5), .val (.int (66 : Int32)), .val (.int ip), .val (.int jp), .val (.int s1), .val (.int s2), .val (.ref b1), .unset, .unset, .unset, .unset, .unset, .unset, .unset] [(.ref one_)]) _
    refine stp (fun _ => XS.astore X9.here hx rfl (hb hby at_68) rfl rfl (l' := #[.val (.int p0), .val (.int p1), .val (.int p2), .val (.int p3), .val (.int p4), .val (.int p5), .val (.int (66 : Int32)), .val (.int ip), .val (.int jp), .val (.int s1), .val (.int s2), .val (.ref b1), .val (.ref one_), .unset, .unset, .unset, .unset, .unset, .unset]) rfl) ?_
    show Go p e below T9 (mkF m 70 #[.val (.int p0), .val (.int p1), .val (.int p2), .val (.int p3), .val (.int p4), .val (.int p5), .val (.int (66 : Int32)), .val (.int ip), .val (.int jp), .val (.int s1), .val (.int s2), .val (.ref b1), .val (.ref one_), .unset, .unset, .unset, .unset, .unset, .unset] []) _
    refine stp (fun _ => XS.aload X9.here hx rfl (hb hby at_70) rfl rfl) ?_
    show Go p e below T9 (mkF m 72 #[.val (.int p0), .val (.int p1), .val (.int p2), .val (.int p3), .val (.int p4), .val (.int p5), .val (.int (66 : Int32)), .val (.int ip), .val (.int jp), .val (.int s1), .val (.int s2), .val (.ref b1), .val (.ref one_), .unset, .unset, .unset, .unset, .unset, .unset] [(.ref b1)]) _
    refine stp (fun _ => XS.iload X9.here hx rfl (hb hby at_72) rfl) ?_
    show Go p e below T9 (mkF m 74 #[.val (.int p0), .val (.int p1), .val (.int p2), .val (.int p3), .val (.int p4), .val (.int p5), .val (.int (66 : Int32)), .val (.int ip), .val (.int jp), .val (.int s1), .val (.int s2), .val (.ref b1), .val (.ref one_), .unset, .unset, .unset, .unset, .unset, .unset] [(.int ip), (.ref b1)]) _
    refine stp (fun _ => XS.iconst X9.here hx rfl (hb hby at_74)) ?_
    show Go p e below T9 (mkF m 75 #[.val (.int p0), .val (.int p1), .val (.int p2), .val (.int p3), .val (.int p4), .val (.int p5), .val (.int (66 : Int32)), .val (.int ip), .val (.int jp), .val (.int s1), .val (.int s2), .val (.ref b1), .val (.ref one_), .unset, .unset, .unset, .unset, .unset, .unset] [(.int (3 : Int32)), (.int ip), (.ref b1)]) _
    obtain ⟨cl12, Ar12, q12, S12, H12, G12⟩ := (id f11)
    have in12 : ¬ (ip < 0 ∨ cl12.slots.size ≤ (ip).toNatClampNeg) := arf_in S12 hipn hipl
    obtain ⟨T12, h12, X12, e12, W12, st12⟩ := stB X9 hx hZ rfl Ar12 (j := ip) in12 (g := (mkF m 75 #[.val (.int p0), .val (.int p1), .val (.int p2), .val (.int p3), .val (.int p4), .val (.int p5), .val (.int (66 : Int32)), .val (.int ip), .val (.int jp), .val (.int s1), .val (.int s2), .val (.ref b1), .val (.ref one_), .unset, .unset, .unset, .unset, .unset, .unset] [(.int (3 : Int32)), (.int ip), (.ref b1)])) rfl rfl (hb hby at_75)
    have V12 := Arf.set Ar12 q12 S12 H12 G12 (ow_fits_byte (by decide)) (arf_ix hipn ▸ (ow_wr_byte (by decide) W12)) hipl
    have f13 := f10.wr W12
    have O12 := O9.wr W12 ge_b1
    have N12 := Fr.snoc X12 N9 ge_b1
    refine stp st12 ?_
    show Go p e below T12 (mkF m 76 #[.val (.int p0), .val (.int p1), .val (.int p2), .val (.int p3), .val (.int p4), .val (.int p5), .val (.int (66 : Int32)), .val (.int ip), .val (.int jp), .val (.int s1), .val (.int s2), .val (.ref b1), .val (.ref one_), .unset, .unset, .unset, .unset, .unset, .unset] []) _
    refine stp (fun _ => XS.aload X12.here hx rfl (hb hby at_76) rfl rfl) ?_
    show Go p e below T12 (mkF m 78 #[.val (.int p0), .val (.int p1), .val (.int p2), .val (.int p3), .val (.int p4), .val (.int p5), .val (.int (66 : Int32)), .val (.int ip), .val (.int jp), .val (.int s1), .val (.int s2), .val (.ref b1), .val (.ref one_), .unset, .unset, .unset, .unset, .unset, .unset] [(.ref b1)]) _
    refine stp (fun _ => XS.iload X12.here hx rfl (hb hby at_78) rfl) ?_
    show Go p e below T12 (mkF m 80 #[.val (.int p0), .val (.int p1), .val (.int p2), .val (.int p3), .val (.int p4), .val (.int p5), .val (.int (66 : Int32)), .val (.int ip), .val (.int jp), .val (.int s1), .val (.int s2), .val (.ref b1), .val (.ref one_), .unset, .unset, .unset, .unset, .unset, .unset] [(.int jp), (.ref b1)]) _
    refine stp (fun _ => XS.iconst X12.here hx rfl (hb hby at_80)) ?_
    show Go p e below T12 (mkF m 81 #[.val (.int p0), .val (.int p1), .val (.int p2), .val (.int p3), .val (.int p4), .val (.int p5), .val (.int (66 : Int32)), .val (.int ip), .val (.int jp), .val (.int s1), .val (.int s2), .val (.ref b1), .val (.ref one_), .unset, .unset, .unset, .unset, .unset, .unset] [(.int (3 : Int32)), (.int jp), (.ref b1)]) _
    obtain ⟨cl15, Ar15, q15, S15, H15, G15⟩ := (id V12)
    have in15 : ¬ (jp < 0 ∨ cl15.slots.size ≤ (jp).toNatClampNeg) := arf_in S15 hjpn hjpl
    obtain ⟨T15, h15, X15, e15, W15, st15⟩ := stB X12 hx hZ e12 Ar15 (j := jp) in15 (g := (mkF m 81 #[.val (.int p0), .val (.int p1), .val (.int p2), .val (.int p3), .val (.int p4), .val (.int p5), .val (.int (66 : Int32)), .val (.int ip), .val (.int jp), .val (.int s1), .val (.int s2), .val (.ref b1), .val (.ref one_), .unset, .unset, .unset, .unset, .unset, .unset] [(.int (3 : Int32)), (.int jp), (.ref b1)])) rfl rfl (hb hby at_81)
    have V15 := Arf.set Ar15 q15 S15 H15 G15 (ow_fits_byte (by decide)) (arf_ix hjpn ▸ (ow_wr_byte (by decide) W15)) hjpl
    have f16 := f13.wr W15
    have O15 := O12.wr W15 ge_b1
    have N15 := Fr.snoc X15 N12 ge_b1
    refine stp st15 ?_
    show Go p e below T15 (mkF m 82 #[.val (.int p0), .val (.int p1), .val (.int p2), .val (.int p3), .val (.int p4), .val (.int p5), .val (.int (66 : Int32)), .val (.int ip), .val (.int jp), .val (.int s1), .val (.int s2), .val (.ref b1), .val (.ref one_), .unset, .unset, .unset, .unset, .unset, .unset] []) _
    refine stp (fun _ => XS.iload X15.here hx rfl (hb hby at_82) rfl) ?_
    show Go p e below T15 (mkF m 84 #[.val (.int p0), .val (.int p1), .val (.int p2), .val (.int p3), .val (.int p4), .val (.int p5), .val (.int (66 : Int32)), .val (.int ip), .val (.int jp), .val (.int s1), .val (.int s2), .val (.ref b1), .val (.ref one_), .unset, .unset, .unset, .unset, .unset, .unset] [(.int p4)]) _
    refine stp (fun _ => XS.iload X15.here hx rfl (hb hby at_84) rfl) ?_
    show Go p e below T15 (mkF m 86 #[.val (.int p0), .val (.int p1), .val (.int p2), .val (.int p3), .val (.int p4), .val (.int p5), .val (.int (66 : Int32)), .val (.int ip), .val (.int jp), .val (.int s1), .val (.int s2), .val (.ref b1), .val (.ref one_), .unset, .unset, .unset, .unset, .unset, .unset] [(.int ip), (.int p4)]) _
    refine stp (fun _ => XS.iload X15.here hx rfl (hb hby at_86) rfl) ?_
    show Go p e below T15 (mkF m 88 #[.val (.int p0), .val (.int p1), .val (.int p2), .val (.int p3), .val (.int p4), .val (.int p5), .val (.int (66 : Int32)), .val (.int ip), .val (.int jp), .val (.int s1), .val (.int s2), .val (.ref b1), .val (.ref one_), .unset, .unset, .unset, .unset, .unset, .unset] [(.int jp), (.int ip), (.int p4)]) _
    obtain ⟨_, _, ⟨T18, L18, k18, n18⟩, -, X18, ⟨Lc18, hQ18, l18, y18, z18⟩, st18⟩ := Jvm.LawKit.callS X15 hx (y := (⟨"com/example/brisk_dedup/briskdedup/engine/SidesOfPinLaw", "pick", "(III)I"⟩ : MethodName)) hown (mvT hZ (hw _ (List.mem_of_getElem? (i := 34) rfl))) (mvT hZ (hw _ (List.mem_of_getElem? (i := 35) rfl))) (mvT hZ (hw _ (List.mem_of_getElem? (i := 3) rfl))) (mvT hZ (hw _ (List.mem_of_getElem? (i := 36) rfl))) (by decide) (backOf (W := 0) (rm_pick l Z a0 hw [] p4 ip jp  h15 n0 O15 ) hZ (hw _ (List.mem_of_getElem? (i := 36) rfl)) (hw _ (List.mem_of_getElem? (i := 3) rfl)) (by decide) (by decide)) (g := (mkF m 88 #[.val (.int p0), .val (.int p1), .val (.int p2), .val (.int p3), .val (.int p4), .val (.int p5), .val (.int (66 : Int32)), .val (.int ip), .val (.int jp), .val (.int s1), .val (.int s2), .val (.ref b1), .val (.ref one_), .unset, .unset, .unset, .unset, .unset, .unset] [(.int jp), (.int ip), (.int p4)])) rfl (by rw [hml]; rfl) (argsL := [(.int p4), (.int ip), (.int jp)]) (rest := []) (lenOf pd_3 rfl) rfl (by show 2 * 0 + _ ≤ _; exact Nat.le_of_eq rfl) (hb hby at_88) (fun _ _ => ⟨rfl, e15, (by decide : 5 + 0 ≤ _), (by decide : 139 + 0 ≤ _)⟩)
    dsimp only [Pt.U, Pt.locs, Pt.cells, Pt.slots] at X18 l18 y18 z18 st18 hQ18
    subst l18 y18 z18
    obtain ⟨rfl, N18q, e18⟩ := hQ18
    have N18 := Fr.app N15 N18q
    refine stp st18 ?_
    show Go p e below T18 (mkF m 91 #[.val (.int p0), .val (.int p1), .val (.int p2), .val (.int p3), .val (.int p4), .val (.int p5), .val (.int (66 : Int32)), .val (.int ip), .val (.int jp), .val (.int s1), .val (.int s2), .val (.ref b1), .val (.ref one_), .unset, .unset, .unset, .unset, .unset, .unset] [(.int (own_pick p4 ip jp))]) _
    refine stp (fun _ => XS.istore X18.here hx rfl (hb hby at_91) rfl (l' := #[.val (.int p0), .val (.int p1), .val (.int p2), .val (.int p3), .val (.int p4), .val (.int p5), .val (.int (66 : Int32)), .val (.int ip), .val (.int jp), .val (.int s1), .val (.int s2), .val (.ref b1), .val (.ref one_), .val (.int (own_pick p4 ip jp)), .unset, .unset, .unset, .unset, .unset]) rfl) ?_
    show Go p e below T18 (mkF m 93 #[.val (.int p0), .val (.int p1), .val (.int p2), .val (.int p3), .val (.int p4), .val (.int p5), .val (.int (66 : Int32)), .val (.int ip), .val (.int jp), .val (.int s1), .val (.int s2), .val (.ref b1), .val (.ref one_), .val (.int (own_pick p4 ip jp)), .unset, .unset, .unset, .unset, .unset] []) _
    refine stp (fun _ => XS.iload X18.here hx rfl (hb hby at_93) rfl) ?_
    show Go p e below T18 (mkF m 95 #[.val (.int p0), .val (.int p1), .val (.int p2), .val (.int p3), .val (.int p4), .val (.int p5), .val (.int (66 : Int32)), .val (.int ip), .val (.int jp), .val (.int s1), .val (.int s2), .val (.ref b1), .val (.ref one_), .val (.int (own_pick p4 ip jp)), .unset, .unset, .unset, .unset, .unset] [(.int p5)]) _
    refine stp (fun _ => XS.iload X18.here hx rfl (hb hby at_95) rfl) ?_
    show Go p e below T18 (mkF m 97 #[.val (.int p0), .val (.int p1), .val (.int p2), .val (.int p3), .val (.int p4), .val (.int p5), .val (.int (66 : Int32)), .val (.int ip), .val (.int jp), .val (.int s1), .val (.int s2), .val (.ref b1), .val (.ref one_), .val (.int (own_pick p4 ip jp)), .unset, .unset, .unset, .unset, .unset] [(.int ip), (.int p5)]) _
    refine stp (fun _ => XS.iload X18.here hx rfl (hb hby at_97) rfl) ?_
    show Go p e below T18 (mkF m 99 #[.val (.int p0), .val (.int p1), .val (.int p2), .val (.int p3), .val (.int p4), .val (.int p5), .val (.int (66 : Int32)), .val (.int ip), .val (.int jp), .val (.int s1), .val (.int s2), .val (.ref b1), .val (.ref one_), .val (.int (own_pick p4 ip jp)), .unset, .unset, .unset, .unset, .unset] [(.int jp), (.int ip), (.int p5)]) _
    obtain ⟨_, _, ⟨T19, L19, k19, n19⟩, -, X19, ⟨Lc19, hQ19, l19, y19, z19⟩, st19⟩ := Jvm.LawKit.callS X18 hx (y := (⟨"com/example/brisk_dedup/briskdedup/engine/SidesOfPinLaw", "pick", "(III)I"⟩ : MethodName)) hown (mvT hZ (hw _ (List.mem_of_getElem? (i := 34) rfl))) (mvT hZ (hw _ (List.mem_of_getElem? (i := 35) rfl))) (mvT hZ (hw _ (List.mem_of_getElem? (i := 3) rfl))) (mvT hZ (hw _ (List.mem_of_getElem? (i := 36) rfl))) (by decide) (backOf (W := 0) (rm_pick l Z a0 hw [] p5 ip jp  h15 n0 O15 ) hZ (hw _ (List.mem_of_getElem? (i := 36) rfl)) (hw _ (List.mem_of_getElem? (i := 3) rfl)) (by decide) (by decide)) (g := (mkF m 99 #[.val (.int p0), .val (.int p1), .val (.int p2), .val (.int p3), .val (.int p4), .val (.int p5), .val (.int (66 : Int32)), .val (.int ip), .val (.int jp), .val (.int s1), .val (.int s2), .val (.ref b1), .val (.ref one_), .val (.int (own_pick p4 ip jp)), .unset, .unset, .unset, .unset, .unset] [(.int jp), (.int ip), (.int p5)])) rfl (by rw [hml]; rfl) (argsL := [(.int p5), (.int ip), (.int jp)]) (rest := []) (lenOf pd_3 rfl) rfl (by show 2 * 0 + _ ≤ _; exact Nat.le_of_eq rfl) (hb hby at_99) (fun _ _ => ⟨rfl, e18, (by decide : 5 + 0 ≤ _), (by decide : 139 + 0 ≤ _)⟩)
    dsimp only [Pt.U, Pt.locs, Pt.cells, Pt.slots] at X19 l19 y19 z19 st19 hQ19
    subst l19 y19 z19
    obtain ⟨rfl, N19q, e19⟩ := hQ19
    have N19 := Fr.app N18 N19q
    refine stp st19 ?_
    show Go p e below T19 (mkF m 102 #[.val (.int p0), .val (.int p1), .val (.int p2), .val (.int p3), .val (.int p4), .val (.int p5), .val (.int (66 : Int32)), .val (.int ip), .val (.int jp), .val (.int s1), .val (.int s2), .val (.ref b1), .val (.ref one_), .val (.int (own_pick p4 ip jp)), .unset, .unset, .unset, .unset, .unset] [(.int (own_pick p5 ip jp))]) _
    refine stp (fun _ => XS.istore X19.here hx rfl (hb hby at_102) rfl (l' := #[.val (.int p0), .val (.int p1), .val (.int p2), .val (.int p3), .val (.int p4), .val (.int p5), .val (.int (66 : Int32)), .val (.int ip), .val (.int jp), .val (.int s1), .val (.int s2), .val (.ref b1), .val (.ref one_), .val (.int (own_pick p4 ip jp)), .val (.int (own_pick p5 ip jp)), .unset, .unset, .unset, .unset]) rfl) ?_
    show Go p e below T19 (mkF m 104 #[.val (.int p0), .val (.int p1), .val (.int p2), .val (.int p3), .val (.int p4), .val (.int p5), .val (.int (66 : Int32)), .val (.int ip), .val (.int jp), .val (.int s1), .val (.int s2), .val (.ref b1), .val (.ref one_), .val (.int (own_pick p4 ip jp)), .val (.int (own_pick p5 ip jp)), .unset, .unset, .unset, .unset] []) _
    obtain ⟨xv, hxv⟩ : ∃ z : Int32, z = (own_pick p4 ip jp) := ⟨_, rfl⟩
    rw [← hxv]
    show Go p e below T19 (mkF m 104 #[.val (.int p0), .val (.int p1), .val (.int p2), .val (.int p3), .val (.int p4), .val (.int p5), .val (.int (66 : Int32)), .val (.int ip), .val (.int jp), .val (.int s1), .val (.int s2), .val (.ref b1), .val (.ref one_), .val (.int xv), .val (.int (own_pick p5 ip jp)), .unset, .unset, .unset, .unset] []) _
    obtain ⟨yv, hyv⟩ : ∃ z : Int32, z = (own_pick p5 ip jp) := ⟨_, rfl⟩
    rw [← hyv]
    show Go p e below T19 (mkF m 104 #[.val (.int p0), .val (.int p1), .val (.int p2), .val (.int p3), .val (.int p4), .val (.int p5), .val (.int (66 : Int32)), .val (.int ip), .val (.int jp), .val (.int s1), .val (.int s2), .val (.ref b1), .val (.ref one_), .val (.int xv), .val (.int yv), .unset, .unset, .unset, .unset] []) _
    obtain ⟨xn, hxn, hxl⟩ := own_pick66 hxv hipn hipl hjpn hjpl
    obtain ⟨yn, hyn, hyl⟩ := own_pick66 hyv hipn hipl hjpn hjpl
    refine stp (fun _ => XS.iload X19.here hx rfl (hb hby at_104) rfl) ?_
    show Go p e below T19 (mkF m 106 #[.val (.int p0), .val (.int p1), .val (.int p2), .val (.int p3), .val (.int p4), .val (.int p5), .val (.int (66 : Int32)), .val (.int ip), .val (.int jp), .val (.int s1), .val (.int s2), .val (.ref b1), .val (.ref one_), .val (.int xv), .val (.int yv), .unset, .unset, .unset, .unset] [(.int xv)]) _
    refine stp (fun _ => XS.iload X19.here hx rfl (hb hby at_106) rfl) ?_
    show Go p e below T19 (mkF m 108 #[.val (.int p0), .val (.int p1), .val (.int p2), .val (.int p3), .val (.int p4), .val (.int p5), .val (.int (66 : Int32)), .val (.int ip), .val (.int jp), .val (.int s1), .val (.int s2), .val (.ref b1), .val (.ref one_), .val (.int xv), .val (.int yv), .unset, .unset, .unset, .unset] [(.int ip), (.int xv)]) _
    refine stp (fun _ => XS.iload X19.here hx rfl (hb hby at_108) rfl) ?_
    show Go p e below T19 (mkF m 110 #[.val (.int p0), .val (.int p1), .val (.int p2), .val (.int p3), .val (.int p4), .val (.int p5), .val (.int (66 : Int32)), .val (.int ip), .val (.int jp), .val (.int s1), .val (.int s2), .val (.ref b1), .val (.ref one_), .val (.int xv), .val (.int yv), .unset, .unset, .unset, .unset] [(.int s1), (.int ip), (.int xv)]) _
    refine stp (fun _ => XS.iload X19.here hx rfl (hb hby at_110) rfl) ?_
    show Go p e below T19 (mkF m 112 #[.val (.int p0), .val (.int p1), .val (.int p2), .val (.int p3), .val (.int p4), .val (.int p5), .val (.int (66 : Int32)), .val (.int ip), .val (.int jp), .val (.int s1), .val (.int s2), .val (.ref b1), .val (.ref one_), .val (.int xv), .val (.int yv), .unset, .unset, .unset, .unset] [(.int jp), (.int s1), (.int ip), (.int xv)]) _
    refine stp (fun _ => XS.iload X19.here hx rfl (hb hby at_112) rfl) ?_
    show Go p e below T19 (mkF m 114 #[.val (.int p0), .val (.int p1), .val (.int p2), .val (.int p3), .val (.int p4), .val (.int p5), .val (.int (66 : Int32)), .val (.int ip), .val (.int jp), .val (.int s1), .val (.int s2), .val (.ref b1), .val (.ref one_), .val (.int xv), .val (.int yv), .unset, .unset, .unset, .unset] [(.int s2), (.int jp), (.int s1), (.int ip), (.int xv)]) _
    obtain ⟨_, _, ⟨T20, L20, k20, n20⟩, -, X20, ⟨Lc20, hQ20, l20, y20, z20⟩, st20⟩ := Jvm.LawKit.callS X19 hx (y := (⟨"com/example/brisk_dedup/briskdedup/engine/SidesOfPinLaw", "side", "(IIIII)I"⟩ : MethodName)) hown (mvT hZ (hw _ (List.mem_of_getElem? (i := 37) rfl))) (mvT hZ (hw _ (List.mem_of_getElem? (i := 38) rfl))) (mvT hZ (hw _ (List.mem_of_getElem? (i := 3) rfl))) (mvT hZ (hw _ (List.mem_of_getElem? (i := 39) rfl))) (by decide) (backOf (W := 0) (rm_side l Z a0 hw [] xv ip s1 jp s2  h15 n0 O15 ) hZ (hw _ (List.mem_of_getElem? (i := 39) rfl)) (hw _ (List.mem_of_getElem? (i := 3) rfl)) (by decide) (by decide)) (g := (mkF m 114 #[.val (.int p0), .val (.int p1), .val (.int p2), .val (.int p3), .val (.int p4), .val (.int p5), .val (.int (66 : Int32)), .val (.int ip), .val (.int jp), .val (.int s1), .val (.int s2), .val (.ref b1), .val (.ref one_), .val (.int xv), .val (.int yv), .unset, .unset, .unset, .unset] [(.int s2), (.int jp), (.int s1), (.int ip), (.int xv)])) rfl (by rw [hml]; rfl) (argsL := [(.int xv), (.int ip), (.int s1), (.int jp), (.int s2)]) (rest := []) (lenOf pd_4 rfl) rfl (by show 2 * 0 + _ ≤ _; exact Nat.le_of_eq rfl) (hb hby at_114) (fun _ _ => ⟨rfl, e19, (by decide : 5 + 0 ≤ _), (by decide : 139 + 0 ≤ _)⟩)
    dsimp only [Pt.U, Pt.locs, Pt.cells, Pt.slots] at X20 l20 y20 z20 st20 hQ20
    subst l20 y20 z20
    obtain ⟨rfl, N20q, e20⟩ := hQ20
    have N20 := Fr.app N19 N20q
    refine stp st20 ?_
    show Go p e below T20 (mkF m 117 #[.val (.int p0), .val (.int p1), .val (.int p2), .val (.int p3), .val (.int p4), .val (.int p5), .val (.int (66 : Int32)), .val (.int ip), .val (.int jp), .val (.int s1), .val (.int s2), .val (.ref b1), .val (.ref one_), .val (.int xv), .val (.int yv), .unset, .unset, .unset, .unset] [(.int (own_side xv ip s1 jp s2))]) _
    refine stp (fun _ => XS.istore X20.here hx rfl (hb hby at_117) rfl (l' := #[.val (.int p0), .val (.int p1), .val (.int p2), .val (.int p3), .val (.int p4), .val (.int p5), .val (.int (66 : Int32)), .val (.int ip), .val (.int jp), .val (.int s1), .val (.int s2), .val (.ref b1), .val (.ref one_), .val (.int xv), .val (.int yv), .val (.int (own_side xv ip s1 jp s2)), .unset, .unset, .unset]) rfl) ?_
    show Go p e below T20 (mkF m 119 #[.val (.int p0), .val (.int p1), .val (.int p2), .val (.int p3), .val (.int p4), .val (.int p5), .val (.int (66 : Int32)), .val (.int ip), .val (.int jp), .val (.int s1), .val (.int s2), .val (.ref b1), .val (.ref one_), .val (.int xv), .val (.int yv), .val (.int (own_side xv ip s1 jp s2)), .unset, .unset, .unset] []) _
    refine stp (fun _ => XS.iload X20.here hx rfl (hb hby at_119) rfl) ?_
    show Go p e below T20 (mkF m 121 #[.val (.int p0), .val (.int p1), .val (.int p2), .val (.int p3), .val (.int p4), .val (.int p5), .val (.int (66 : Int32)), .val (.int ip), .val (.int jp), .val (.int s1), .val (.int s2), .val (.ref b1), .val (.ref one_), .val (.int xv), .val (.int yv), .val (.int (own_side xv ip s1 jp s2)), .unset, .unset, .unset] [(.int yv)]) _
    refine stp (fun _ => XS.iload X20.here hx rfl (hb hby at_121) rfl) ?_
    show Go p e below T20 (mkF m 123 #[.val (.int p0), .val (.int p1), .val (.int p2), .val (.int p3), .val (.int p4), .val (.int p5), .val (.int (66 : Int32)), .val (.int ip), .val (.int jp), .val (.int s1), .val (.int s2), .val (.ref b1), .val (.ref one_), .val (.int xv), .val (.int yv), .val (.int (own_side xv ip s1 jp s2)), .unset, .unset, .unset] [(.int ip), (.int yv)]) _
    refine stp (fun _ => XS.iload X20.here hx rfl (hb hby at_123) rfl) ?_
    show Go p e below T20 (mkF m 125 #[.val (.int p0), .val (.int p1), .val (.int p2), .val (.int p3), .val (.int p4), .val (.int p5), .val (.int (66 : Int32)), .val (.int ip), .val (.int jp), .val (.int s1), .val (.int s2), .val (.ref b1), .val (.ref one_), .val (.int xv), .val (.int yv), .val (.int (own_side xv ip s1 jp s2)), .unset, .unset, .unset] [(.int s1), (.int ip), (.int yv)]) _
    refine stp (fun _ => XS.iload X20.here hx rfl (hb hby at_125) rfl) ?_
    show Go p e below T20 (mkF m 127 #[.val (.int p0), .val (.int p1), .val (.int p2), .val (.int p3), .val (.int p4), .val (.int p5), .val (.int (66 : Int32)), .val (.int ip), .val (.int jp), .val (.int s1), .val (.int s2), .val (.ref b1), .val (.ref one_), .val (.int xv), .val (.int yv), .val (.int (own_side xv ip s1 jp s2)), .unset, .unset, .unset] [(.int jp), (.int s1), (.int ip), (.int yv)]) _
    refine stp (fun _ => XS.iload X20.here hx rfl (hb hby at_127) rfl) ?_
    show Go p e below T20 (mkF m 129 #[.val (.int p0), .val (.int p1), .val (.int p2), .val (.int p3), .val (.int p4), .val (.int p5), .val (.int (66 : Int32)), .val (.int ip), .val (.int jp), .val (.int s1), .val (.int s2), .val (.ref b1), .val (.ref one_), .val (.int xv), .val (.int yv), .val (.int (own_side xv ip s1 jp s2)), .unset, .unset, .unset] [(.int s2), (.int jp), (.int s1), (.int ip), (.int yv)]) _
    obtain ⟨_, _, ⟨T21, L21, k21, n21⟩, -, X21, ⟨Lc21, hQ21, l21, y21, z21⟩, st21⟩ := Jvm.LawKit.callS X20 hx (y := (⟨"com/example/brisk_dedup/briskdedup/engine/SidesOfPinLaw", "side", "(IIIII)I"⟩ : MethodName)) hown (mvT hZ (hw _ (List.mem_of_getElem? (i := 37) rfl))) (mvT hZ (hw _ (List.mem_of_getElem? (i := 38) rfl))) (mvT hZ (hw _ (List.mem_of_getElem? (i := 3) rfl))) (mvT hZ (hw _ (List.mem_of_getElem? (i := 39) rfl))) (by decide) (backOf (W := 0) (rm_side l Z a0 hw [] yv ip s1 jp s2  h15 n0 O15 ) hZ (hw _ (List.mem_of_getElem? (i := 39) rfl)) (hw _ (List.mem_of_getElem? (i := 3) rfl)) (by decide) (by decide)) (g := (mkF m 129 #[.val (.int p0), .val (.int p1), .val (.int p2), .val (.int p3), .val (.int p4), .val (.int p5), .val (.int (66 : Int32)), .val (.int ip), .val (.int jp), .val (.int s1), .val (.int s2), .val (.ref b1), .val (.ref one_), .val (.int xv), .val (.int yv), .val (.int (own_side xv ip s1 jp s2)), .unset, .unset, .unset] [(.int s2), (.int jp), (.int s1), (.int ip), (.int yv)])) rfl (by rw [hml]; rfl) (argsL := [(.int yv), (.int ip), (.int s1), (.int jp), (.int s2)]) (rest := []) (lenOf pd_4 rfl) rfl (by show 2 * 0 + _ ≤ _; exact Nat.le_of_eq rfl) (hb hby at_129) (fun _ _ => ⟨rfl, e20, (by decide : 5 + 0 ≤ _), (by decide : 139 + 0 ≤ _)⟩)
    dsimp only [Pt.U, Pt.locs, Pt.cells, Pt.slots] at X21 l21 y21 z21 st21 hQ21
    subst l21 y21 z21
    obtain ⟨rfl, N21q, e21⟩ := hQ21
    have N21 := Fr.app N20 N21q
    refine stp st21 ?_
    show Go p e below T21 (mkF m 132 #[.val (.int p0), .val (.int p1), .val (.int p2), .val (.int p3), .val (.int p4), .val (.int p5), .val (.int (66 : Int32)), .val (.int ip), .val (.int jp), .val (.int s1), .val (.int s2), .val (.ref b1), .val (.ref one_), .val (.int xv), .val (.int yv), .val (.int (own_side xv ip s1 jp s2)), .unset, .unset, .unset] [(.int (own_side yv ip s1 jp s2))]) _
    refine stp (fun _ => XS.istore X21.here hx rfl (hb hby at_132) rfl (l' := #[.val (.int p0), .val (.int p1), .val (.int p2), .val (.int p3), .val (.int p4), .val (.int p5), .val (.int (66 : Int32)), .val (.int ip), .val (.int jp), .val (.int s1), .val (.int s2), .val (.ref b1), .val (.ref one_), .val (.int xv), .val (.int yv), .val (.int (own_side xv ip s1 jp s2)), .val (.int (own_side yv ip s1 jp s2)), .unset, .unset]) rfl) ?_
    show Go p e below T21 (mkF m 134 #[.val (.int p0), .val (.int p1), .val (.int p2), .val (.int p3), .val (.int p4), .val (.int p5), .val (.int (66 : Int32)), .val (.int ip), .val (.int jp), .val (.int s1), .val (.int s2), .val (.ref b1), .val (.ref one_), .val (.int xv), .val (.int yv), .val (.int (own_side xv ip s1 jp s2)), .val (.int (own_side yv ip s1 jp s2)), .unset, .unset] []) _
    obtain ⟨sx, hsx⟩ : ∃ z : Int32, z = (own_side xv ip s1 jp s2) := ⟨_, rfl⟩
    rw [← hsx]
    show Go p e below T21 (mkF m 134 #[.val (.int p0), .val (.int p1), .val (.int p2), .val (.int p3), .val (.int p4), .val (.int p5), .val (.int (66 : Int32)), .val (.int ip), .val (.int jp), .val (.int s1), .val (.int s2), .val (.ref b1), .val (.ref one_), .val (.int xv), .val (.int yv), .val (.int sx), .val (.int (own_side yv ip s1 jp s2)), .unset, .unset] []) _
    obtain ⟨sy, hsy⟩ : ∃ z : Int32, z = (own_side yv ip s1 jp s2) := ⟨_, rfl⟩
    rw [← hsy]
    show Go p e below T21 (mkF m 134 #[.val (.int p0), .val (.int p1), .val (.int p2), .val (.int p3), .val (.int p4), .val (.int p5), .val (.int (66 : Int32)), .val (.int ip), .val (.int jp), .val (.int s1), .val (.int s2), .val (.ref b1), .val (.ref one_), .val (.int xv), .val (.int yv), .val (.int sx), .val (.int sy), .unset, .unset] []) _
    replace hsx := hsx.trans (own_side_sd s1 s2 hxn hipn hjpn)
    replace hsy := hsy.trans (own_side_sd s1 s2 hyn hipn hjpn)
    have ex : sx = 3 := hsx.trans (hall xn hxl)
    have ey : sy = 3 := hsy.trans (hall yn hyl)
    subst ex ey
    show Go p e below T21 (mkF m 134 #[.val (.int p0), .val (.int p1), .val (.int p2), .val (.int p3), .val (.int p4), .val (.int p5), .val (.int (66 : Int32)), .val (.int ip), .val (.int jp), .val (.int s1), .val (.int s2), .val (.ref b1), .val (.ref one_), .val (.int xv), .val (.int yv), .val (.int (3 : Int32)), .val (.int (3 : Int32)), .unset, .unset] []) _
    refine stp (fun _ => XS.aload X21.here hx rfl (hb hby at_134) rfl rfl) ?_
    show Go p e below T21 (mkF m 136 #[.val (.int p0), .val (.int p1), .val (.int p2), .val (.int p3), .val (.int p4), .val (.int p5), .val (.int (66 : Int32)), .val (.int ip), .val (.int jp), .val (.int s1), .val (.int s2), .val (.ref b1), .val (.ref one_), .val (.int xv), .val (.int yv), .val (.int (3 : Int32)), .val (.int (3 : Int32)), .unset, .unset] [(.ref one_)]) _
    refine stp (fun _ => XS.iload X21.here hx rfl (hb hby at_136) rfl) ?_
    show Go p e below T21 (mkF m 138 #[.val (.int p0), .val (.int p1), .val (.int p2), .val (.int p3), .val (.int p4), .val (.int p5), .val (.int (66 : Int32)), .val (.int ip), .val (.int jp), .val (.int s1), .val (.int s2), .val (.ref b1), .val (.ref one_), .val (.int xv), .val (.int yv), .val (.int (3 : Int32)), .val (.int (3 : Int32)), .unset, .unset] [(.int xv), (.ref one_)]) _
    refine stp (fun _ => XS.iload X21.here hx rfl (hb hby at_138) rfl) ?_
    show Go p e below T21 (mkF m 140 #[.val (.int p0), .val (.int p1), .val (.int p2), .val (.int p3), .val (.int p4), .val (.int p5), .val (.int (66 : Int32)), .val (.int ip), .val (.int jp), .val (.int s1), .val (.int s2), .val (.ref b1), .val (.ref one_), .val (.int xv), .val (.int yv), .val (.int (3 : Int32)), .val (.int (3 : Int32)), .unset, .unset] [(.int yv), (.int xv), (.ref one_)]) _
    obtain ⟨cq22, kq22, q22a, q22b, q22c⟩ := isOf hZ e21 (E_ONE.ext O15.2)
    obtain ⟨_, _, ⟨T22, L22, k22, n22⟩, -, X22, ⟨Lc22, hQ22, l22, y22, z22⟩, st22⟩ := X21.virtualBack hx (y := (⟨"com/example/brisk_dedup/briskdedup/engine/Sides", "mayPair", "(II)Z"⟩ : MethodName)) (z := (⟨"com/example/brisk_dedup/briskdedup/engine/Sides", "mayPair", "(II)Z"⟩ : MethodName)) hown (mvT hZ (hw _ (List.mem_of_getElem? (i := 40) rfl))) (mvT hZ (hw _ (List.mem_of_getElem? (i := 41) rfl))) (notFace_of_selects (args := #[]) (mvT hZ (hw _ (List.mem_of_getElem? (i := 43) rfl)))) (mvT hZ (hw _ (List.mem_of_getElem? (i := 43) rfl))) (mvT hZ (hw _ (List.mem_of_getElem? (i := 42) rfl))) (by decide) (backOf (W := 0) (rm_mp0 l Z a0 hw [] one_ xv yv  h15 n0 O15 F_ONE) hZ (hw _ (List.mem_of_getElem? (i := 44) rfl)) (hw _ (List.mem_of_getElem? (i := 8) rfl)) (by decide) (by decide)) q22a q22c (g := (mkF m 140 #[.val (.int p0), .val (.int p1), .val (.int p2), .val (.int p3), .val (.int p4), .val (.int p5), .val (.int (66 : Int32)), .val (.int ip), .val (.int jp), .val (.int s1), .val (.int s2), .val (.ref b1), .val (.ref one_), .val (.int xv), .val (.int yv), .val (.int (3 : Int32)), .val (.int (3 : Int32)), .unset, .unset] [(.int yv), (.int xv), (.ref one_)])) rfl (by rw [hml]; rfl) (Steps.refl _) (argsL := [(.int xv), (.int yv)]) (rest := []) (lenOf pd_5 rfl) rfl (by show 2 * 0 + _ ≤ _; exact Nat.le_of_eq rfl) (hb hby at_140) (fun _ _ => ⟨rfl, e21, (by decide : 5 + 0 ≤ _), (by decide : 139 + 0 ≤ _)⟩)
    dsimp only [Pt.U, Pt.locs, Pt.cells, Pt.slots] at X22 l22 y22 z22 st22 hQ22
    subst l22 y22 z22
    obtain ⟨rfl, N22q, e22⟩ := hQ22
    have N22 := Fr.app N21 N22q
    refine stt st22 ?_
    show Go p e below T22 (mkF m 143 #[.val (.int p0), .val (.int p1), .val (.int p2), .val (.int p3), .val (.int p4), .val (.int p5), .val (.int (66 : Int32)), .val (.int ip), .val (.int jp), .val (.int s1), .val (.int s2), .val (.ref b1), .val (.ref one_), .val (.int xv), .val (.int yv), .val (.int (3 : Int32)), .val (.int (3 : Int32)), .unset, .unset] [(.int (1 : Int32))]) _
    refine stp (fun _ => XS.iload X22.here hx rfl (hb hby at_143) rfl) ?_
    show Go p e below T22 (mkF m 145 #[.val (.int p0), .val (.int p1), .val (.int p2), .val (.int p3), .val (.int p4), .val (.int p5), .val (.int (66 : Int32)), .val (.int ip), .val (.int jp), .val (.int s1), .val (.int s2), .val (.ref b1), .val (.ref one_), .val (.int xv), .val (.int yv), .val (.int (3 : Int32)), .val (.int (3 : Int32)), .unset, .unset] [(.int (3 : Int32)), (.int (1 : Int32))]) _
    refine stp (fun _ => XS.iload X22.here hx rfl (hb hby at_145) rfl) ?_
    show Go p e below T22 (mkF m 147 #[.val (.int p0), .val (.int p1), .val (.int p2), .val (.int p3), .val (.int p4), .val (.int p5), .val (.int (66 : Int32)), .val (.int ip), .val (.int jp), .val (.int s1), .val (.int s2), .val (.ref b1), .val (.ref one_), .val (.int xv), .val (.int yv), .val (.int (3 : Int32)), .val (.int (3 : Int32)), .unset, .unset] [(.int (3 : Int32)), (.int (3 : Int32)), (.int (1 : Int32))]) _
    refine stp (fun _ => XS.ior X22.here hx rfl (hb hby at_147) rfl) ?_
    show Go p e below T22 (mkF m 148 #[.val (.int p0), .val (.int p1), .val (.int p2), .val (.int p3), .val (.int p4), .val (.int p5), .val (.int (66 : Int32)), .val (.int ip), .val (.int jp), .val (.int s1), .val (.int s2), .val (.ref b1), .val (.ref one_), .val (.int xv), .val (.int yv), .val (.int (3 : Int32)), .val (.int (3 : Int32)), .unset, .unset] [(.int (3 : Int32)), (.int (1 : Int32))]) _
    refine stp (fun _ => XS.iconst X22.here hx rfl (hb hby at_148)) ?_
    show Go p e below T22 (mkF m 149 #[.val (.int p0), .val (.int p1), .val (.int p2), .val (.int p3), .val (.int p4), .val (.int p5), .val (.int (66 : Int32)), .val (.int ip), .val (.int jp), .val (.int s1), .val (.int s2), .val (.ref b1), .val (.ref one_), .val (.int xv), .val (.int yv), .val (.int (3 : Int32)), .val (.int (3 : Int32)), .unset, .unset] [(.int (3 : Int32)), (.int (3 : Int32)), (.int (1 : Int32))]) _
    refine stp (fun _ => XS.icmpNo X22.here hx rfl (hb hby at_149) rfl (by decide)) ?_
    show Go p e below T22 (mkF m 152 #[.val (.int p0), .val (.int p1), .val (.int p2), .val (.int p3), .val (.int p4), .val (.int p5), .val (.int (66 : Int32)), .val (.int ip), .val (.int jp), .val (.int s1), .val (.int s2), .val (.ref b1), .val (.ref one_), .val (.int xv), .val (.int yv), .val (.int (3 : Int32)), .val (.int (3 : Int32)), .unset, .unset] [(.int (1 : Int32))]) _
    refine stp (fun _ => XS.iconst X22.here hx rfl (hb hby at_152)) ?_
    show Go p e below T22 (mkF m 153 #[.val (.int p0), .val (.int p1), .val (.int p2), .val (.int p3), .val (.int p4), .val (.int p5), .val (.int (66 : Int32)), .val (.int ip), .val (.int jp), .val (.int s1), .val (.int s2), .val (.ref b1), .val (.ref one_), .val (.int xv), .val (.int yv), .val (.int (3 : Int32)), .val (.int (3 : Int32)), .unset, .unset] [(.int (1 : Int32)), (.int (1 : Int32))]) _
    refine stp (fun _ => XS.goto X22.here hx rfl (pc0 := 153) (pc' := 157) rfl (hb hby at_153) (by decide) (by decide)) ?_
    show Go p e below T22 (mkF m 157 #[.val (.int p0), .val (.int p1), .val (.int p2), .val (.int p3), .val (.int p4), .val (.int p5), .val (.int (66 : Int32)), .val (.int ip), .val (.int jp), .val (.int s1), .val (.int s2), .val (.ref b1), .val (.ref one_), .val (.int xv), .val (.int yv), .val (.int (3 : Int32)), .val (.int (3 : Int32)), .unset, .unset] [(.int (1 : Int32)), (.int (1 : Int32))]) _
    refine stp (fun _ => XS.icmpYes X22.here hx rfl (pc0 := 157) (pc' := 162) rfl (hb hby at_157) rfl (by decide) (by decide) (by decide)) ?_
    show Go p e below T22 (mkF m 162 #[.val (.int p0), .val (.int p1), .val (.int p2), .val (.int p3), .val (.int p4), .val (.int p5), .val (.int (66 : Int32)), .val (.int ip), .val (.int jp), .val (.int s1), .val (.int s2), .val (.ref b1), .val (.ref one_), .val (.int xv), .val (.int yv), .val (.int (3 : Int32)), .val (.int (3 : Int32)), .unset, .unset] []) _
    refine stp (fun _ => XS.aload X22.here hx rfl (hb hby at_162) rfl rfl) ?_
    show Go p e below T22 (mkF m 164 #[.val (.int p0), .val (.int p1), .val (.int p2), .val (.int p3), .val (.int p4), .val (.int p5), .val (.int (66 : Int32)), .val (.int ip), .val (.int jp), .val (.int s1), .val (.int s2), .val (.ref b1), .val (.ref one_), .val (.int xv), .val (.int yv), .val (.int (3 : Int32)), .val (.int (3 : Int32)), .unset, .unset] [(.ref one_)]) _
    refine stp (fun _ => XS.iload X22.here hx rfl (hb hby at_164) rfl) ?_
    show Go p e below T22 (mkF m 166 #[.val (.int p0), .val (.int p1), .val (.int p2), .val (.int p3), .val (.int p4), .val (.int p5), .val (.int (66 : Int32)), .val (.int ip), .val (.int jp), .val (.int s1), .val (.int s2), .val (.ref b1), .val (.ref one_), .val (.int xv), .val (.int yv), .val (.int (3 : Int32)), .val (.int (3 : Int32)), .unset, .unset] [(.int xv), (.ref one_)]) _
    obtain ⟨cq23, kq23, q23a, q23b, q23c⟩ := isOf hZ e22 (E_ONE.ext O15.2)
    obtain ⟨_, _, ⟨T23, L23, k23, n23⟩, -, X23, ⟨Lc23, hQ23, l23, y23, z23⟩, st23⟩ := X22.virtualBack hx (y := (⟨"com/example/brisk_dedup/briskdedup/engine/Sides", "partners", "(I)[J"⟩ : MethodName)) (z := (⟨"com/example/brisk_dedup/briskdedup/engine/Sides", "partners", "(I)[J"⟩ : MethodName)) hown (mvT hZ (hw _ (List.mem_of_getElem? (i := 45) rfl))) (mvT hZ (hw _ (List.mem_of_getElem? (i := 46) rfl))) (notFace_of_selects (args := #[]) (mvT hZ (hw _ (List.mem_of_getElem? (i := 48) rfl)))) (mvT hZ (hw _ (List.mem_of_getElem? (i := 48) rfl))) (mvT hZ (hw _ (List.mem_of_getElem? (i := 47) rfl))) (by decide) (backOf (W := 0) (rm_pa0 l Z a0 hw [] one_ xv  h15 n0 O15 F_ONE) hZ (hw _ (List.mem_of_getElem? (i := 49) rfl)) (hw _ (List.mem_of_getElem? (i := 8) rfl)) (by decide) (by decide)) q23a q23c (g := (mkF m 166 #[.val (.int p0), .val (.int p1), .val (.int p2), .val (.int p3), .val (.int p4), .val (.int p5), .val (.int (66 : Int32)), .val (.int ip), .val (.int jp), .val (.int s1), .val (.int s2), .val (.ref b1), .val (.ref one_), .val (.int xv), .val (.int yv), .val (.int (3 : Int32)), .val (.int (3 : Int32)), .unset, .unset] [(.int xv), (.ref one_)])) rfl (by rw [hml]; rfl) (Steps.refl _) (argsL := [(.int xv)]) (rest := []) (lenOf pd_6 rfl) rfl (by show 2 * 0 + _ ≤ _; exact Nat.le_of_eq rfl) (hb hby at_166) (fun _ _ => ⟨rfl, e22, (by decide : 5 + 0 ≤ _), (by decide : 139 + 0 ≤ _)⟩)
    dsimp only [Pt.U, Pt.locs, Pt.cells, Pt.slots] at X23 l23 y23 z23 st23 hQ23
    subst l23 y23 z23
    obtain ⟨rfl, N23q, e23⟩ := hQ23
    have N23 := Fr.app N22 N23q
    refine stt st23 ?_
    show Go p e below T23 (mkF m 169 #[.val (.int p0), .val (.int p1), .val (.int p2), .val (.int p3), .val (.int p4), .val (.int p5), .val (.int (66 : Int32)), .val (.int ip), .val (.int jp), .val (.int s1), .val (.int s2), .val (.ref b1), .val (.ref one_), .val (.int xv), .val (.int yv), .val (.int (3 : Int32)), .val (.int (3 : Int32)), .unset, .unset] [.null]) _
    refine stp (fun _ => XS.astore X23.here hx rfl (hb hby at_169) rfl rfl (l' := #[.val (.int p0), .val (.int p1), .val (.int p2), .val (.int p3), .val (.int p4), .val (.int p5), .val (.int (66 : Int32)), .val (.int ip), .val (.int jp), .val (.int s1), .val (.int s2), .val (.ref b1), .val (.ref one_), .val (.int xv), .val (.int yv), .val (.int (3 : Int32)), .val (.int (3 : Int32)), .val .null, .unset]) rfl) ?_
    show Go p e below T23 (mkF m 171 #[.val (.int p0), .val (.int p1), .val (.int p2), .val (.int p3), .val (.int p4), .val (.int p5), .val (.int (66 : Int32)), .val (.int ip), .val (.int jp), .val (.int s1), .val (.int s2), .val (.ref b1), .val (.ref one_), .val (.int xv), .val (.int yv), .val (.int (3 : Int32)), .val (.int (3 : Int32)), .val .null, .unset] []) _
    refine stp (fun _ => XS.iload X23.here hx rfl (hb hby at_171) rfl) ?_
    show Go p e below T23 (mkF m 173 #[.val (.int p0), .val (.int p1), .val (.int p2), .val (.int p3), .val (.int p4), .val (.int p5), .val (.int (66 : Int32)), .val (.int ip), .val (.int jp), .val (.int s1), .val (.int s2), .val (.ref b1), .val (.ref one_), .val (.int xv), .val (.int yv), .val (.int (3 : Int32)), .val (.int (3 : Int32)), .val .null, .unset] [(.int (3 : Int32))]) _
    refine stp (fun _ => XS.iconst X23.here hx rfl (hb hby at_173)) ?_
    show Go p e below T23 (mkF m 174 #[.val (.int p0), .val (.int p1), .val (.int p2), .val (.int p3), .val (.int p4), .val (.int p5), .val (.int (66 : Int32)), .val (.int ip), .val (.int jp), .val (.int s1), .val (.int s2), .val (.ref b1), .val (.ref one_), .val (.int xv), .val (.int yv), .val (.int (3 : Int32)), .val (.int (3 : Int32)), .val .null, .unset] [(.int (3 : Int32)), (.int (3 : Int32))]) _
    refine stp (fun _ => XS.icmpNo X23.here hx rfl (hb hby at_174) rfl (by decide)) ?_
    show Go p e below T23 (mkF m 177 #[.val (.int p0), .val (.int p1), .val (.int p2), .val (.int p3), .val (.int p4), .val (.int p5), .val (.int (66 : Int32)), .val (.int ip), .val (.int jp), .val (.int s1), .val (.int s2), .val (.ref b1), .val (.ref one_), .val (.int xv), .val (.int yv), .val (.int (3 : Int32)), .val (.int (3 : Int32)), .val .null, .unset] []) _
    refine stp (fun _ => XS.aload X23.here hx rfl (hb hby at_177) rfl rfl) ?_
    show Go p e below T23 (mkF m 179 #[.val (.int p0), .val (.int p1), .val (.int p2), .val (.int p3), .val (.int p4), .val (.int p5), .val (.int (66 : Int32)), .val (.int ip), .val (.int jp), .val (.int s1), .val (.int s2), .val (.ref b1), .val (.ref one_), .val (.int xv), .val (.int yv), .val (.int (3 : Int32)), .val (.int (3 : Int32)), .val .null, .unset] [.null]) _
    refine stp (fun _ => XS.ifnonnullNo X23.here hx rfl (hb hby at_179) rfl) ?_
    show Go p e below T23 (mkF m 182 #[.val (.int p0), .val (.int p1), .val (.int p2), .val (.int p3), .val (.int p4), .val (.int p5), .val (.int (66 : Int32)), .val (.int ip), .val (.int jp), .val (.int s1), .val (.int s2), .val (.ref b1), .val (.ref one_), .val (.int xv), .val (.int yv), .val (.int (3 : Int32)), .val (.int (3 : Int32)), .val .null, .unset] []) _
    refine stp (fun _ => XS.iconst X23.here hx rfl (hb hby at_182)) ?_
    show Go p e below T23 (mkF m 183 #[.val (.int p0), .val (.int p1), .val (.int p2), .val (.int p3), .val (.int p4), .val (.int p5), .val (.int (66 : Int32)), .val (.int ip), .val (.int jp), .val (.int s1), .val (.int s2), .val (.ref b1), .val (.ref one_), .val (.int xv), .val (.int yv), .val (.int (3 : Int32)), .val (.int (3 : Int32)), .val .null, .unset] [(.int (1 : Int32))]) _
    refine stp (fun _ => XS.goto X23.here hx rfl (pc0 := 183) (pc' := 187) rfl (hb hby at_183) (by decide) (by decide)) ?_
    show Go p e below T23 (mkF m 187 #[.val (.int p0), .val (.int p1), .val (.int p2), .val (.int p3), .val (.int p4), .val (.int p5), .val (.int (66 : Int32)), .val (.int ip), .val (.int jp), .val (.int s1), .val (.int s2), .val (.ref b1), .val (.ref one_), .val (.int xv), .val (.int yv), .val (.int (3 : Int32)), .val (.int (3 : Int32)), .val .null, .unset] [(.int (1 : Int32))]) _
    refine outN X23 hx (t := .boolean) hret (by simp) (hb hby at_187) hlk (by decide) (by decide) ?_
    exact ⟨rfl, N23⟩
  · have ne24 : b1 ≠ r_ := Nat.ne_of_lt (Nat.lt_of_lt_of_le V6.lt sz_r)
    have ne25 : b1 ≠ vb_ := Nat.ne_of_lt (Nat.lt_of_lt_of_le V6.lt sz_vb)
    have ne26 : b1 ≠ vf_ := Nat.ne_of_lt (Nat.lt_of_lt_of_le V6.lt sz_vf)
    have ne27 : b1 ≠ vg_ := Nat.ne_of_lt (Nat.lt_of_lt_of_le V6.lt sz_vg)
    refine stp st9 ?_
    show Go p e below T9 (mkF m 68 #[.val (.int p0), .val (.int p1), .val (.int p2), .val (.int p3), .val (.int p4), .val (.int p5), .val (.int (66 : Int32)), .val (.int ip), .val (.int jp), .val (.int s1), .val (.int s2), .val (.ref b1), .unset, .unset, .unset, .unset, .unset, .unset, .unset] [(.ref r_)]) _
    refine stp (fun _ => XS.astore X9.here hx rfl (hb hby at_68) rfl rfl (l' := #[.val (.int p0), .val (.int p1), .val (.int p2), .val (.int p3), .val (.int p4), .val (.int p5), .val (.int (66 : Int32)), .val (.int ip), .val (.int jp), .val (.int s1), .val (.int s2), .val (.ref b1), .val (.ref r_), .unset, .unset, .unset, .unset, .unset, .unset]) rfl) ?_
    show Go p e below T9 (mkF m 70 #[.val (.int p0), .val (.int p1), .val (.int p2), .val (.int p3), .val (.int p4), .val (.int p5), .val (.int (66 : Int32)), .val (.int ip), .val (.int jp), .val (.int s1), .val (.int s2), .val (.ref b1), .val (.ref r_), .unset, .unset, .unset, .unset, .unset, .unset] []) _
    refine stp (fun _ => XS.aload X9.here hx rfl (hb hby at_70) rfl rfl) ?_
    show Go p e below T9 (mkF m 72 #[.val (.int p0), .val (.int p1), .val (.int p2), .val (.int p3), .val (.int p4), .val (.int p5), .val (.int (66 : Int32)), .val (.int ip), .val (.int jp), .val (.int s1), .val (.int s2), .val (.ref b1), .val (.ref r_), .unset, .unset, .unset, .unset, .unset, .unset] [(.ref b1)]) _
    refine stp (fun _ => XS.iload X9.here hx rfl (hb hby at_72) rfl) ?_
    show Go p e below T9 (mkF m 74 #[.val (.int p0), .val (.int p1), .val (.int p2), .val (.int p3), .val (.int p4), .val (.int p5), .val (.int (66 : Int32)), .val (.int ip), .val (.int jp), .val (.int s1), .val (.int s2), .val (.ref b1), .val (.ref r_), .unset, .unset, .unset, .unset, .unset, .unset] [(.int ip), (.ref b1)]) _
    refine stp (fun _ => XS.iconst X9.here hx rfl (hb hby at_74)) ?_
    show Go p e below T9 (mkF m 75 #[.val (.int p0), .val (.int p1), .val (.int p2), .val (.int p3), .val (.int p4), .val (.int p5), .val (.int (66 : Int32)), .val (.int ip), .val (.int jp), .val (.int s1), .val (.int s2), .val (.ref b1), .val (.ref r_), .unset, .unset, .unset, .unset, .unset, .unset] [(.int (3 : Int32)), (.int ip), (.ref b1)]) _
    obtain ⟨cl28, Ar28, q28, S28, H28, G28⟩ := (id f11)
    have in28 : ¬ (ip < 0 ∨ cl28.slots.size ≤ (ip).toNatClampNeg) := arf_in S28 hipn hipl
    obtain ⟨T28, h28, X28, e28, W28, st28⟩ := stB X9 hx hZ rfl Ar28 (j := ip) in28 (g := (mkF m 75 #[.val (.int p0), .val (.int p1), .val (.int p2), .val (.int p3), .val (.int p4), .val (.int p5), .val (.int (66 : Int32)), .val (.int ip), .val (.int jp), .val (.int s1), .val (.int s2), .val (.ref b1), .val (.ref r_), .unset, .unset, .unset, .unset, .unset, .unset] [(.int (3 : Int32)), (.int ip), (.ref b1)])) rfl rfl (hb hby at_75)
    have V28 := Arf.set Ar28 q28 S28 H28 G28 (ow_fits_byte (by decide)) (arf_ix hipn ▸ (ow_wr_byte (by decide) W28)) hipl
    have f29 := f10.wr W28
    have f31 := Er.wr W28
    have f32 := Fb.other W28 (Or.inl (Ne.symm ne24))
    have f33 := Ff.other W28 (Or.inl (Ne.symm ne24))
    have f34 := Fg.other W28 (Or.inl (Ne.symm ne24))
    have f35 := Vb.other W28 (Ne.symm ne25)
    have f36 := Vf.other W28 (Ne.symm ne26)
    have f37 := Vg.other W28 (Ne.symm ne27)
    have O28 := O9.wr W28 ge_b1
    have N28 := Fr.snoc X28 N9 ge_b1
    refine stp st28 ?_
    show Go p e below T28 (mkF m 76 #[.val (.int p0), .val (.int p1), .val (.int p2), .val (.int p3), .val (.int p4), .val (.int p5), .val (.int (66 : Int32)), .val (.int ip), .val (.int jp), .val (.int s1), .val (.int s2), .val (.ref b1), .val (.ref r_), .unset, .unset, .unset, .unset, .unset, .unset] []) _
    refine stp (fun _ => XS.aload X28.here hx rfl (hb hby at_76) rfl rfl) ?_
    show Go p e below T28 (mkF m 78 #[.val (.int p0), .val (.int p1), .val (.int p2), .val (.int p3), .val (.int p4), .val (.int p5), .val (.int (66 : Int32)), .val (.int ip), .val (.int jp), .val (.int s1), .val (.int s2), .val (.ref b1), .val (.ref r_), .unset, .unset, .unset, .unset, .unset, .unset] [(.ref b1)]) _
    refine stp (fun _ => XS.iload X28.here hx rfl (hb hby at_78) rfl) ?_
    show Go p e below T28 (mkF m 80 #[.val (.int p0), .val (.int p1), .val (.int p2), .val (.int p3), .val (.int p4), .val (.int p5), .val (.int (66 : Int32)), .val (.int ip), .val (.int jp), .val (.int s1), .val (.int s2), .val (.ref b1), .val (.ref r_), .unset, .unset, .unset, .unset, .unset, .unset] [(.int jp), (.ref b1)]) _
    refine stp (fun _ => XS.iconst X28.here hx rfl (hb hby at_80)) ?_
    show Go p e below T28 (mkF m 81 #[.val (.int p0), .val (.int p1), .val (.int p2), .val (.int p3), .val (.int p4), .val (.int p5), .val (.int (66 : Int32)), .val (.int ip), .val (.int jp), .val (.int s1), .val (.int s2), .val (.ref b1), .val (.ref r_), .unset, .unset, .unset, .unset, .unset, .unset] [(.int (3 : Int32)), (.int jp), (.ref b1)]) _
    obtain ⟨cl38, Ar38, q38, S38, H38, G38⟩ := (id V28)
    have in38 : ¬ (jp < 0 ∨ cl38.slots.size ≤ (jp).toNatClampNeg) := arf_in S38 hjpn hjpl
    obtain ⟨T38, h38, X38, e38, W38, st38⟩ := stB X28 hx hZ e28 Ar38 (j := jp) in38 (g := (mkF m 81 #[.val (.int p0), .val (.int p1), .val (.int p2), .val (.int p3), .val (.int p4), .val (.int p5), .val (.int (66 : Int32)), .val (.int ip), .val (.int jp), .val (.int s1), .val (.int s2), .val (.ref b1), .val (.ref r_), .unset, .unset, .unset, .unset, .unset, .unset] [(.int (3 : Int32)), (.int jp), (.ref b1)])) rfl rfl (hb hby at_81)
    have V38 := Arf.set Ar38 q38 S38 H38 G38 (ow_fits_byte (by decide)) (arf_ix hjpn ▸ (ow_wr_byte (by decide) W38)) hjpl
    have f39 := f29.wr W38
    have f41 := f31.wr W38
    have f42 := f32.other W38 (Or.inl (Ne.symm ne24))
    have f43 := f33.other W38 (Or.inl (Ne.symm ne24))
    have f44 := f34.other W38 (Or.inl (Ne.symm ne24))
    have f45 := f35.other W38 (Ne.symm ne25)
    have f46 := f36.other W38 (Ne.symm ne26)
    have f47 := f37.other W38 (Ne.symm ne27)
    have O38 := O28.wr W38 ge_b1
    have N38 := Fr.snoc X38 N28 ge_b1
    refine stp st38 ?_
    show Go p e below T38 (mkF m 82 #[.val (.int p0), .val (.int p1), .val (.int p2), .val (.int p3), .val (.int p4), .val (.int p5), .val (.int (66 : Int32)), .val (.int ip), .val (.int jp), .val (.int s1), .val (.int s2), .val (.ref b1), .val (.ref r_), .unset, .unset, .unset, .unset, .unset, .unset] []) _
    refine stp (fun _ => XS.iload X38.here hx rfl (hb hby at_82) rfl) ?_
    show Go p e below T38 (mkF m 84 #[.val (.int p0), .val (.int p1), .val (.int p2), .val (.int p3), .val (.int p4), .val (.int p5), .val (.int (66 : Int32)), .val (.int ip), .val (.int jp), .val (.int s1), .val (.int s2), .val (.ref b1), .val (.ref r_), .unset, .unset, .unset, .unset, .unset, .unset] [(.int p4)]) _
    refine stp (fun _ => XS.iload X38.here hx rfl (hb hby at_84) rfl) ?_
    show Go p e below T38 (mkF m 86 #[.val (.int p0), .val (.int p1), .val (.int p2), .val (.int p3), .val (.int p4), .val (.int p5), .val (.int (66 : Int32)), .val (.int ip), .val (.int jp), .val (.int s1), .val (.int s2), .val (.ref b1), .val (.ref r_), .unset, .unset, .unset, .unset, .unset, .unset] [(.int ip), (.int p4)]) _
    refine stp (fun _ => XS.iload X38.here hx rfl (hb hby at_86) rfl) ?_
    show Go p e below T38 (mkF m 88 #[.val (.int p0), .val (.int p1), .val (.int p2), .val (.int p3), .val (.int p4), .val (.int p5), .val (.int (66 : Int32)), .val (.int ip), .val (.int jp), .val (.int s1), .val (.int s2), .val (.ref b1), .val (.ref r_), .unset, .unset, .unset, .unset, .unset, .unset] [(.int jp), (.int ip), (.int p4)]) _
    obtain ⟨_, _, ⟨T48, L48, k48, n48⟩, -, X48, ⟨Lc48, hQ48, l48, y48, z48⟩, st48⟩ := Jvm.LawKit.callS X38 hx (y := (⟨"com/example/brisk_dedup/briskdedup/engine/SidesOfPinLaw", "pick", "(III)I"⟩ : MethodName)) hown (mvT hZ (hw _ (List.mem_of_getElem? (i := 34) rfl))) (mvT hZ (hw _ (List.mem_of_getElem? (i := 35) rfl))) (mvT hZ (hw _ (List.mem_of_getElem? (i := 3) rfl))) (mvT hZ (hw _ (List.mem_of_getElem? (i := 36) rfl))) (by decide) (backOf (W := 0) (rm_pick l Z a0 hw [] p4 ip jp  h38 n0 O38 ) hZ (hw _ (List.mem_of_getElem? (i := 36) rfl)) (hw _ (List.mem_of_getElem? (i := 3) rfl)) (by decide) (by decide)) (g := (mkF m 88 #[.val (.int p0), .val (.int p1), .val (.int p2), .val (.int p3), .val (.int p4), .val (.int p5), .val (.int (66 : Int32)), .val (.int ip), .val (.int jp), .val (.int s1), .val (.int s2), .val (.ref b1), .val (.ref r_), .unset, .unset, .unset, .unset, .unset, .unset] [(.int jp), (.int ip), (.int p4)])) rfl (by rw [hml]; rfl) (argsL := [(.int p4), (.int ip), (.int jp)]) (rest := []) (lenOf pd_3 rfl) rfl (by show 2 * 0 + _ ≤ _; exact Nat.le_of_eq rfl) (hb hby at_88) (fun _ _ => ⟨rfl, e38, (by decide : 5 + 0 ≤ _), (by decide : 139 + 0 ≤ _)⟩)
    dsimp only [Pt.U, Pt.locs, Pt.cells, Pt.slots] at X48 l48 y48 z48 st48 hQ48
    subst l48 y48 z48
    obtain ⟨rfl, N48q, e48⟩ := hQ48
    have N48 := Fr.app N38 N48q
    refine stp st48 ?_
    show Go p e below T48 (mkF m 91 #[.val (.int p0), .val (.int p1), .val (.int p2), .val (.int p3), .val (.int p4), .val (.int p5), .val (.int (66 : Int32)), .val (.int ip), .val (.int jp), .val (.int s1), .val (.int s2), .val (.ref b1), .val (.ref r_), .unset, .unset, .unset, .unset, .unset, .unset] [(.int (own_pick p4 ip jp))]) _
    refine stp (fun _ => XS.istore X48.here hx rfl (hb hby at_91) rfl (l' := #[.val (.int p0), .val (.int p1), .val (.int p2), .val (.int p3), .val (.int p4), .val (.int p5), .val (.int (66 : Int32)), .val (.int ip), .val (.int jp), .val (.int s1), .val (.int s2), .val (.ref b1), .val (.ref r_), .val (.int (own_pick p4 ip jp)), .unset, .unset, .unset, .unset, .unset]) rfl) ?_
    show Go p e below T48 (mkF m 93 #[.val (.int p0), .val (.int p1), .val (.int p2), .val (.int p3), .val (.int p4), .val (.int p5), .val (.int (66 : Int32)), .val (.int ip), .val (.int jp), .val (.int s1), .val (.int s2), .val (.ref b1), .val (.ref r_), .val (.int (own_pick p4 ip jp)), .unset, .unset, .unset, .unset, .unset] []) _
    refine stp (fun _ => XS.iload X48.here hx rfl (hb hby at_93) rfl) ?_
    show Go p e below T48 (mkF m 95 #[.val (.int p0), .val (.int p1), .val (.int p2), .val (.int p3), .val (.int p4), .val (.int p5), .val (.int (66 : Int32)), .val (.int ip), .val (.int jp), .val (.int s1), .val (.int s2), .val (.ref b1), .val (.ref r_), .val (.int (own_pick p4 ip jp)), .unset, .unset, .unset, .unset, .unset] [(.int p5)]) _
    refine stp (fun _ => XS.iload X48.here hx rfl (hb hby at_95) rfl) ?_
    show Go p e below T48 (mkF m 97 #[.val (.int p0), .val (.int p1), .val (.int p2), .val (.int p3), .val (.int p4), .val (.int p5), .val (.int (66 : Int32)), .val (.int ip), .val (.int jp), .val (.int s1), .val (.int s2), .val (.ref b1), .val (.ref r_), .val (.int (own_pick p4 ip jp)), .unset, .unset, .unset, .unset, .unset] [(.int ip), (.int p5)]) _
    refine stp (fun _ => XS.iload X48.here hx rfl (hb hby at_97) rfl) ?_
    show Go p e below T48 (mkF m 99 #[.val (.int p0), .val (.int p1), .val (.int p2), .val (.int p3), .val (.int p4), .val (.int p5), .val (.int (66 : Int32)), .val (.int ip), .val (.int jp), .val (.int s1), .val (.int s2), .val (.ref b1), .val (.ref r_), .val (.int (own_pick p4 ip jp)), .unset, .unset, .unset, .unset, .unset] [(.int jp), (.int ip), (.int p5)]) _
    obtain ⟨_, _, ⟨T49, L49, k49, n49⟩, -, X49, ⟨Lc49, hQ49, l49, y49, z49⟩, st49⟩ := Jvm.LawKit.callS X48 hx (y := (⟨"com/example/brisk_dedup/briskdedup/engine/SidesOfPinLaw", "pick", "(III)I"⟩ : MethodName)) hown (mvT hZ (hw _ (List.mem_of_getElem? (i := 34) rfl))) (mvT hZ (hw _ (List.mem_of_getElem? (i := 35) rfl))) (mvT hZ (hw _ (List.mem_of_getElem? (i := 3) rfl))) (mvT hZ (hw _ (List.mem_of_getElem? (i := 36) rfl))) (by decide) (backOf (W := 0) (rm_pick l Z a0 hw [] p5 ip jp  h38 n0 O38 ) hZ (hw _ (List.mem_of_getElem? (i := 36) rfl)) (hw _ (List.mem_of_getElem? (i := 3) rfl)) (by decide) (by decide)) (g := (mkF m 99 #[.val (.int p0), .val (.int p1), .val (.int p2), .val (.int p3), .val (.int p4), .val (.int p5), .val (.int (66 : Int32)), .val (.int ip), .val (.int jp), .val (.int s1), .val (.int s2), .val (.ref b1), .val (.ref r_), .val (.int (own_pick p4 ip jp)), .unset, .unset, .unset, .unset, .unset] [(.int jp), (.int ip), (.int p5)])) rfl (by rw [hml]; rfl) (argsL := [(.int p5), (.int ip), (.int jp)]) (rest := []) (lenOf pd_3 rfl) rfl (by show 2 * 0 + _ ≤ _; exact Nat.le_of_eq rfl) (hb hby at_99) (fun _ _ => ⟨rfl, e48, (by decide : 5 + 0 ≤ _), (by decide : 139 + 0 ≤ _)⟩)
    dsimp only [Pt.U, Pt.locs, Pt.cells, Pt.slots] at X49 l49 y49 z49 st49 hQ49
    subst l49 y49 z49
    obtain ⟨rfl, N49q, e49⟩ := hQ49
    have N49 := Fr.app N48 N49q
    refine stp st49 ?_
    show Go p e below T49 (mkF m 102 #[.val (.int p0), .val (.int p1), .val (.int p2), .val (.int p3), .val (.int p4), .val (.int p5), .val (.int (66 : Int32)), .val (.int ip), .val (.int jp), .val (.int s1), .val (.int s2), .val (.ref b1), .val (.ref r_), .val (.int (own_pick p4 ip jp)), .unset, .unset, .unset, .unset, .unset] [(.int (own_pick p5 ip jp))]) _
    refine stp (fun _ => XS.istore X49.here hx rfl (hb hby at_102) rfl (l' := #[.val (.int p0), .val (.int p1), .val (.int p2), .val (.int p3), .val (.int p4), .val (.int p5), .val (.int (66 : Int32)), .val (.int ip), .val (.int jp), .val (.int s1), .val (.int s2), .val (.ref b1), .val (.ref r_), .val (.int (own_pick p4 ip jp)), .val (.int (own_pick p5 ip jp)), .unset, .unset, .unset, .unset]) rfl) ?_
    show Go p e below T49 (mkF m 104 #[.val (.int p0), .val (.int p1), .val (.int p2), .val (.int p3), .val (.int p4), .val (.int p5), .val (.int (66 : Int32)), .val (.int ip), .val (.int jp), .val (.int s1), .val (.int s2), .val (.ref b1), .val (.ref r_), .val (.int (own_pick p4 ip jp)), .val (.int (own_pick p5 ip jp)), .unset, .unset, .unset, .unset] []) _
    obtain ⟨xv, hxv⟩ : ∃ z : Int32, z = (own_pick p4 ip jp) := ⟨_, rfl⟩
    rw [← hxv]
    show Go p e below T49 (mkF m 104 #[.val (.int p0), .val (.int p1), .val (.int p2), .val (.int p3), .val (.int p4), .val (.int p5), .val (.int (66 : Int32)), .val (.int ip), .val (.int jp), .val (.int s1), .val (.int s2), .val (.ref b1), .val (.ref r_), .val (.int xv), .val (.int (own_pick p5 ip jp)), .unset, .unset, .unset, .unset] []) _
    obtain ⟨yv, hyv⟩ : ∃ z : Int32, z = (own_pick p5 ip jp) := ⟨_, rfl⟩
    rw [← hyv]
    show Go p e below T49 (mkF m 104 #[.val (.int p0), .val (.int p1), .val (.int p2), .val (.int p3), .val (.int p4), .val (.int p5), .val (.int (66 : Int32)), .val (.int ip), .val (.int jp), .val (.int s1), .val (.int s2), .val (.ref b1), .val (.ref r_), .val (.int xv), .val (.int yv), .unset, .unset, .unset, .unset] []) _
    obtain ⟨xn, hxn, hxl⟩ := own_pick66 hxv hipn hipl hjpn hjpl
    obtain ⟨yn, hyn, hyl⟩ := own_pick66 hyv hipn hipl hjpn hjpl
    refine stp (fun _ => XS.iload X49.here hx rfl (hb hby at_104) rfl) ?_
    show Go p e below T49 (mkF m 106 #[.val (.int p0), .val (.int p1), .val (.int p2), .val (.int p3), .val (.int p4), .val (.int p5), .val (.int (66 : Int32)), .val (.int ip), .val (.int jp), .val (.int s1), .val (.int s2), .val (.ref b1), .val (.ref r_), .val (.int xv), .val (.int yv), .unset, .unset, .unset, .unset] [(.int xv)]) _
    refine stp (fun _ => XS.iload X49.here hx rfl (hb hby at_106) rfl) ?_
    show Go p e below T49 (mkF m 108 #[.val (.int p0), .val (.int p1), .val (.int p2), .val (.int p3), .val (.int p4), .val (.int p5), .val (.int (66 : Int32)), .val (.int ip), .val (.int jp), .val (.int s1), .val (.int s2), .val (.ref b1), .val (.ref r_), .val (.int xv), .val (.int yv), .unset, .unset, .unset, .unset] [(.int ip), (.int xv)]) _
    refine stp (fun _ => XS.iload X49.here hx rfl (hb hby at_108) rfl) ?_
    show Go p e below T49 (mkF m 110 #[.val (.int p0), .val (.int p1), .val (.int p2), .val (.int p3), .val (.int p4), .val (.int p5), .val (.int (66 : Int32)), .val (.int ip), .val (.int jp), .val (.int s1), .val (.int s2), .val (.ref b1), .val (.ref r_), .val (.int xv), .val (.int yv), .unset, .unset, .unset, .unset] [(.int s1), (.int ip), (.int xv)]) _
    refine stp (fun _ => XS.iload X49.here hx rfl (hb hby at_110) rfl) ?_
    show Go p e below T49 (mkF m 112 #[.val (.int p0), .val (.int p1), .val (.int p2), .val (.int p3), .val (.int p4), .val (.int p5), .val (.int (66 : Int32)), .val (.int ip), .val (.int jp), .val (.int s1), .val (.int s2), .val (.ref b1), .val (.ref r_), .val (.int xv), .val (.int yv), .unset, .unset, .unset, .unset] [(.int jp), (.int s1), (.int ip), (.int xv)]) _
    refine stp (fun _ => XS.iload X49.here hx rfl (hb hby at_112) rfl) ?_
    show Go p e below T49 (mkF m 114 #[.val (.int p0), .val (.int p1), .val (.int p2), .val (.int p3), .val (.int p4), .val (.int p5), .val (.int (66 : Int32)), .val (.int ip), .val (.int jp), .val (.int s1), .val (.int s2), .val (.ref b1), .val (.ref r_), .val (.int xv), .val (.int yv), .unset, .unset, .unset, .unset] [(.int s2), (.int jp), (.int s1), (.int ip), (.int xv)]) _
    obtain ⟨_, _, ⟨T50, L50, k50, n50⟩, -, X50, ⟨Lc50, hQ50, l50, y50, z50⟩, st50⟩ := Jvm.LawKit.callS X49 hx (y := (⟨"com/example/brisk_dedup/briskdedup/engine/SidesOfPinLaw", "side", "(IIIII)I"⟩ : MethodName)) hown (mvT hZ (hw _ (List.mem_of_getElem? (i := 37) rfl))) (mvT hZ (hw _ (List.mem_of_getElem? (i := 38) rfl))) (mvT hZ (hw _ (List.mem_of_getElem? (i := 3) rfl))) (mvT hZ (hw _ (List.mem_of_getElem? (i := 39) rfl))) (by decide) (backOf (W := 0) (rm_side l Z a0 hw [] xv ip s1 jp s2  h38 n0 O38 ) hZ (hw _ (List.mem_of_getElem? (i := 39) rfl)) (hw _ (List.mem_of_getElem? (i := 3) rfl)) (by decide) (by decide)) (g := (mkF m 114 #[.val (.int p0), .val (.int p1), .val (.int p2), .val (.int p3), .val (.int p4), .val (.int p5), .val (.int (66 : Int32)), .val (.int ip), .val (.int jp), .val (.int s1), .val (.int s2), .val (.ref b1), .val (.ref r_), .val (.int xv), .val (.int yv), .unset, .unset, .unset, .unset] [(.int s2), (.int jp), (.int s1), (.int ip), (.int xv)])) rfl (by rw [hml]; rfl) (argsL := [(.int xv), (.int ip), (.int s1), (.int jp), (.int s2)]) (rest := []) (lenOf pd_4 rfl) rfl (by show 2 * 0 + _ ≤ _; exact Nat.le_of_eq rfl) (hb hby at_114) (fun _ _ => ⟨rfl, e49, (by decide : 5 + 0 ≤ _), (by decide : 139 + 0 ≤ _)⟩)
    dsimp only [Pt.U, Pt.locs, Pt.cells, Pt.slots] at X50 l50 y50 z50 st50 hQ50
    subst l50 y50 z50
    obtain ⟨rfl, N50q, e50⟩ := hQ50
    have N50 := Fr.app N49 N50q
    refine stp st50 ?_
    show Go p e below T50 (mkF m 117 #[.val (.int p0), .val (.int p1), .val (.int p2), .val (.int p3), .val (.int p4), .val (.int p5), .val (.int (66 : Int32)), .val (.int ip), .val (.int jp), .val (.int s1), .val (.int s2), .val (.ref b1), .val (.ref r_), .val (.int xv), .val (.int yv), .unset, .unset, .unset, .unset] [(.int (own_side xv ip s1 jp s2))]) _
    refine stp (fun _ => XS.istore X50.here hx rfl (hb hby at_117) rfl (l' := #[.val (.int p0), .val (.int p1), .val (.int p2), .val (.int p3), .val (.int p4), .val (.int p5), .val (.int (66 : Int32)), .val (.int ip), .val (.int jp), .val (.int s1), .val (.int s2), .val (.ref b1), .val (.ref r_), .val (.int xv), .val (.int yv), .val (.int (own_side xv ip s1 jp s2)), .unset, .unset, .unset]) rfl) ?_
    show Go p e below T50 (mkF m 119 #[.val (.int p0), .val (.int p1), .val (.int p2), .val (.int p3), .val (.int p4), .val (.int p5), .val (.int (66 : Int32)), .val (.int ip), .val (.int jp), .val (.int s1), .val (.int s2), .val (.ref b1), .val (.ref r_), .val (.int xv), .val (.int yv), .val (.int (own_side xv ip s1 jp s2)), .unset, .unset, .unset] []) _
    refine stp (fun _ => XS.iload X50.here hx rfl (hb hby at_119) rfl) ?_
    show Go p e below T50 (mkF m 121 #[.val (.int p0), .val (.int p1), .val (.int p2), .val (.int p3), .val (.int p4), .val (.int p5), .val (.int (66 : Int32)), .val (.int ip), .val (.int jp), .val (.int s1), .val (.int s2), .val (.ref b1), .val (.ref r_), .val (.int xv), .val (.int yv), .val (.int (own_side xv ip s1 jp s2)), .unset, .unset, .unset] [(.int yv)]) _
    refine stp (fun _ => XS.iload X50.here hx rfl (hb hby at_121) rfl) ?_
    show Go p e below T50 (mkF m 123 #[.val (.int p0), .val (.int p1), .val (.int p2), .val (.int p3), .val (.int p4), .val (.int p5), .val (.int (66 : Int32)), .val (.int ip), .val (.int jp), .val (.int s1), .val (.int s2), .val (.ref b1), .val (.ref r_), .val (.int xv), .val (.int yv), .val (.int (own_side xv ip s1 jp s2)), .unset, .unset, .unset] [(.int ip), (.int yv)]) _
    refine stp (fun _ => XS.iload X50.here hx rfl (hb hby at_123) rfl) ?_
    show Go p e below T50 (mkF m 125 #[.val (.int p0), .val (.int p1), .val (.int p2), .val (.int p3), .val (.int p4), .val (.int p5), .val (.int (66 : Int32)), .val (.int ip), .val (.int jp), .val (.int s1), .val (.int s2), .val (.ref b1), .val (.ref r_), .val (.int xv), .val (.int yv), .val (.int (own_side xv ip s1 jp s2)), .unset, .unset, .unset] [(.int s1), (.int ip), (.int yv)]) _
    refine stp (fun _ => XS.iload X50.here hx rfl (hb hby at_125) rfl) ?_
    show Go p e below T50 (mkF m 127 #[.val (.int p0), .val (.int p1), .val (.int p2), .val (.int p3), .val (.int p4), .val (.int p5), .val (.int (66 : Int32)), .val (.int ip), .val (.int jp), .val (.int s1), .val (.int s2), .val (.ref b1), .val (.ref r_), .val (.int xv), .val (.int yv), .val (.int (own_side xv ip s1 jp s2)), .unset, .unset, .unset] [(.int jp), (.int s1), (.int ip), (.int yv)]) _
    refine stp (fun _ => XS.iload X50.here hx rfl (hb hby at_127) rfl) ?_
    show Go p e below T50 (mkF m 129 #[.val (.int p0), .val (.int p1), .val (.int p2), .val (.int p3), .val (.int p4), .val (.int p5), .val (.int (66 : Int32)), .val (.int ip), .val (.int jp), .val (.int s1), .val (.int s2), .val (.ref b1), .val (.ref r_), .val (.int xv), .val (.int yv), .val (.int (own_side xv ip s1 jp s2)), .unset, .unset, .unset] [(.int s2), (.int jp), (.int s1), (.int ip), (.int yv)]) _
    obtain ⟨_, _, ⟨T51, L51, k51, n51⟩, -, X51, ⟨Lc51, hQ51, l51, y51, z51⟩, st51⟩ := Jvm.LawKit.callS X50 hx (y := (⟨"com/example/brisk_dedup/briskdedup/engine/SidesOfPinLaw", "side", "(IIIII)I"⟩ : MethodName)) hown (mvT hZ (hw _ (List.mem_of_getElem? (i := 37) rfl))) (mvT hZ (hw _ (List.mem_of_getElem? (i := 38) rfl))) (mvT hZ (hw _ (List.mem_of_getElem? (i := 3) rfl))) (mvT hZ (hw _ (List.mem_of_getElem? (i := 39) rfl))) (by decide) (backOf (W := 0) (rm_side l Z a0 hw [] yv ip s1 jp s2  h38 n0 O38 ) hZ (hw _ (List.mem_of_getElem? (i := 39) rfl)) (hw _ (List.mem_of_getElem? (i := 3) rfl)) (by decide) (by decide)) (g := (mkF m 129 #[.val (.int p0), .val (.int p1), .val (.int p2), .val (.int p3), .val (.int p4), .val (.int p5), .val (.int (66 : Int32)), .val (.int ip), .val (.int jp), .val (.int s1), .val (.int s2), .val (.ref b1), .val (.ref r_), .val (.int xv), .val (.int yv), .val (.int (own_side xv ip s1 jp s2)), .unset, .unset, .unset] [(.int s2), (.int jp), (.int s1), (.int ip), (.int yv)])) rfl (by rw [hml]; rfl) (argsL := [(.int yv), (.int ip), (.int s1), (.int jp), (.int s2)]) (rest := []) (lenOf pd_4 rfl) rfl (by show 2 * 0 + _ ≤ _; exact Nat.le_of_eq rfl) (hb hby at_129) (fun _ _ => ⟨rfl, e50, (by decide : 5 + 0 ≤ _), (by decide : 139 + 0 ≤ _)⟩)
    dsimp only [Pt.U, Pt.locs, Pt.cells, Pt.slots] at X51 l51 y51 z51 st51 hQ51
    subst l51 y51 z51
    obtain ⟨rfl, N51q, e51⟩ := hQ51
    have N51 := Fr.app N50 N51q
    refine stp st51 ?_
    show Go p e below T51 (mkF m 132 #[.val (.int p0), .val (.int p1), .val (.int p2), .val (.int p3), .val (.int p4), .val (.int p5), .val (.int (66 : Int32)), .val (.int ip), .val (.int jp), .val (.int s1), .val (.int s2), .val (.ref b1), .val (.ref r_), .val (.int xv), .val (.int yv), .val (.int (own_side xv ip s1 jp s2)), .unset, .unset, .unset] [(.int (own_side yv ip s1 jp s2))]) _
    refine stp (fun _ => XS.istore X51.here hx rfl (hb hby at_132) rfl (l' := #[.val (.int p0), .val (.int p1), .val (.int p2), .val (.int p3), .val (.int p4), .val (.int p5), .val (.int (66 : Int32)), .val (.int ip), .val (.int jp), .val (.int s1), .val (.int s2), .val (.ref b1), .val (.ref r_), .val (.int xv), .val (.int yv), .val (.int (own_side xv ip s1 jp s2)), .val (.int (own_side yv ip s1 jp s2)), .unset, .unset]) rfl) ?_
    show Go p e below T51 (mkF m 134 #[.val (.int p0), .val (.int p1), .val (.int p2), .val (.int p3), .val (.int p4), .val (.int p5), .val (.int (66 : Int32)), .val (.int ip), .val (.int jp), .val (.int s1), .val (.int s2), .val (.ref b1), .val (.ref r_), .val (.int xv), .val (.int yv), .val (.int (own_side xv ip s1 jp s2)), .val (.int (own_side yv ip s1 jp s2)), .unset, .unset] []) _
    obtain ⟨sx, hsx⟩ : ∃ z : Int32, z = (own_side xv ip s1 jp s2) := ⟨_, rfl⟩
    rw [← hsx]
    show Go p e below T51 (mkF m 134 #[.val (.int p0), .val (.int p1), .val (.int p2), .val (.int p3), .val (.int p4), .val (.int p5), .val (.int (66 : Int32)), .val (.int ip), .val (.int jp), .val (.int s1), .val (.int s2), .val (.ref b1), .val (.ref r_), .val (.int xv), .val (.int yv), .val (.int sx), .val (.int (own_side yv ip s1 jp s2)), .unset, .unset] []) _
    obtain ⟨sy, hsy⟩ : ∃ z : Int32, z = (own_side yv ip s1 jp s2) := ⟨_, rfl⟩
    rw [← hsy]
    show Go p e below T51 (mkF m 134 #[.val (.int p0), .val (.int p1), .val (.int p2), .val (.int p3), .val (.int p4), .val (.int p5), .val (.int (66 : Int32)), .val (.int ip), .val (.int jp), .val (.int s1), .val (.int s2), .val (.ref b1), .val (.ref r_), .val (.int xv), .val (.int yv), .val (.int sx), .val (.int sy), .unset, .unset] []) _
    replace hsx := hsx.trans (own_side_sd s1 s2 hxn hipn hjpn)
    replace hsy := hsy.trans (own_side_sd s1 s2 hyn hipn hjpn)
    have hx3 : sx = 1 ∨ sx = 2 ∨ sx = 3 := by rw [hsx]; exact own_sd3 hs1' hs2' xn hxl
    have hy3 : sy = 1 ∨ sy = 2 ∨ sy = 3 := by rw [hsy]; exact own_sd3 hs1' hs2' yn hyl
    rcases hx3 with rfl | rfl | rfl
    · rcases hy3 with rfl | rfl | rfl
      · show Go p e below T51 (mkF m 134 #[.val (.int p0), .val (.int p1), .val (.int p2), .val (.int p3), .val (.int p4), .val (.int p5), .val (.int (66 : Int32)), .val (.int ip), .val (.int jp), .val (.int s1), .val (.int s2), .val (.ref b1), .val (.ref r_), .val (.int xv), .val (.int yv), .val (.int (1 : Int32)), .val (.int (1 : Int32)), .unset, .unset] []) _
        refine stp (fun _ => XS.aload X51.here hx rfl (hb hby at_134) rfl rfl) ?_
        show Go p e below T51 (mkF m 136 #[.val (.int p0), .val (.int p1), .val (.int p2), .val (.int p3), .val (.int p4), .val (.int p5), .val (.int (66 : Int32)), .val (.int ip), .val (.int jp), .val (.int s1), .val (.int s2), .val (.ref b1), .val (.ref r_), .val (.int xv), .val (.int yv), .val (.int (1 : Int32)), .val (.int (1 : Int32)), .unset, .unset] [(.ref r_)]) _
        refine stp (fun _ => XS.iload X51.here hx rfl (hb hby at_136) rfl) ?_
        show Go p e below T51 (mkF m 138 #[.val (.int p0), .val (.int p1), .val (.int p2), .val (.int p3), .val (.int p4), .val (.int p5), .val (.int (66 : Int32)), .val (.int ip), .val (.int jp), .val (.int s1), .val (.int s2), .val (.ref b1), .val (.ref r_), .val (.int xv), .val (.int yv), .val (.int (1 : Int32)), .val (.int (1 : Int32)), .unset, .unset] [(.int xv), (.ref r_)]) _
        refine stp (fun _ => XS.iload X51.here hx rfl (hb hby at_138) rfl) ?_
        show Go p e below T51 (mkF m 140 #[.val (.int p0), .val (.int p1), .val (.int p2), .val (.int p3), .val (.int p4), .val (.int p5), .val (.int (66 : Int32)), .val (.int ip), .val (.int jp), .val (.int s1), .val (.int s2), .val (.ref b1), .val (.ref r_), .val (.int xv), .val (.int yv), .val (.int (1 : Int32)), .val (.int (1 : Int32)), .unset, .unset] [(.int yv), (.int xv), (.ref r_)]) _
        obtain ⟨cq52, kq52, q52a, q52b, q52c⟩ := isOf hZ e51 f41
        obtain ⟨_, _, ⟨T52, L52, k52, n52⟩, -, X52, ⟨Lc52, hQ52, l52, y52, z52⟩, st52⟩ := X51.virtualBack hx (y := (⟨"com/example/brisk_dedup/briskdedup/engine/Sides", "mayPair", "(II)Z"⟩ : MethodName)) (z := (⟨"com/example/brisk_dedup/briskdedup/engine/Sides", "mayPair", "(II)Z"⟩ : MethodName)) hown (mvT hZ (hw _ (List.mem_of_getElem? (i := 40) rfl))) (mvT hZ (hw _ (List.mem_of_getElem? (i := 41) rfl))) (notFace_of_selects (args := #[]) (mvT hZ (hw _ (List.mem_of_getElem? (i := 43) rfl)))) (mvT hZ (hw _ (List.mem_of_getElem? (i := 43) rfl))) (mvT hZ (hw _ (List.mem_of_getElem? (i := 42) rfl))) (by decide) (backOf (W := 0) (rm_mp1 l Z a0 hw [] r_ xv yv vb_ (own_sd ipn s1 jpn s2) xn yn (0 : Int32) kb_ h38 n0 O38 f42 f45 hxn hxl hyn hyl ⟨fun h => absurd h (by rw [← hsx, ← hsy]; decide), fun _ => rfl⟩) hZ (hw _ (List.mem_of_getElem? (i := 44) rfl)) (hw _ (List.mem_of_getElem? (i := 8) rfl)) (by decide) (by decide)) q52a q52c (g := (mkF m 140 #[.val (.int p0), .val (.int p1), .val (.int p2), .val (.int p3), .val (.int p4), .val (.int p5), .val (.int (66 : Int32)), .val (.int ip), .val (.int jp), .val (.int s1), .val (.int s2), .val (.ref b1), .val (.ref r_), .val (.int xv), .val (.int yv), .val (.int (1 : Int32)), .val (.int (1 : Int32)), .unset, .unset] [(.int yv), (.int xv), (.ref r_)])) rfl (by rw [hml]; rfl) (Steps.refl _) (argsL := [(.int xv), (.int yv)]) (rest := []) (lenOf pd_5 rfl) rfl (by show 2 * 0 + _ ≤ _; exact Nat.le_of_eq rfl) (hb hby at_140) (fun _ _ => ⟨rfl, e51, (by decide : 5 + 0 ≤ _), (by decide : 139 + 0 ≤ _)⟩)
        dsimp only [Pt.U, Pt.locs, Pt.cells, Pt.slots] at X52 l52 y52 z52 st52 hQ52
        subst l52 y52 z52
        obtain ⟨rfl, N52q, e52⟩ := hQ52
        have N52 := Fr.app N51 N52q
        refine stt st52 ?_
        show Go p e below T52 (mkF m 143 #[.val (.int p0), .val (.int p1), .val (.int p2), .val (.int p3), .val (.int p4), .val (.int p5), .val (.int (66 : Int32)), .val (.int ip), .val (.int jp), .val (.int s1), .val (.int s2), .val (.ref b1), .val (.ref r_), .val (.int xv), .val (.int yv), .val (.int (1 : Int32)), .val (.int (1 : Int32)), .unset, .unset] [(.int (0 : Int32))]) _
        refine stp (fun _ => XS.iload X52.here hx rfl (hb hby at_143) rfl) ?_
        show Go p e below T52 (mkF m 145 #[.val (.int p0), .val (.int p1), .val (.int p2), .val (.int p3), .val (.int p4), .val (.int p5), .val (.int (66 : Int32)), .val (.int ip), .val (.int jp), .val (.int s1), .val (.int s2), .val (.ref b1), .val (.ref r_), .val (.int xv), .val (.int yv), .val (.int (1 : Int32)), .val (.int (1 : Int32)), .unset, .unset] [(.int (1 : Int32)), (.int (0 : Int32))]) _
        refine stp (fun _ => XS.iload X52.here hx rfl (hb hby at_145) rfl) ?_
        show Go p e below T52 (mkF m 147 #[.val (.int p0), .val (.int p1), .val (.int p2), .val (.int p3), .val (.int p4), .val (.int p5), .val (.int (66 : Int32)), .val (.int ip), .val (.int jp), .val (.int s1), .val (.int s2), .val (.ref b1), .val (.ref r_), .val (.int xv), .val (.int yv), .val (.int (1 : Int32)), .val (.int (1 : Int32)), .unset, .unset] [(.int (1 : Int32)), (.int (1 : Int32)), (.int (0 : Int32))]) _
        refine stp (fun _ => XS.ior X52.here hx rfl (hb hby at_147) rfl) ?_
        show Go p e below T52 (mkF m 148 #[.val (.int p0), .val (.int p1), .val (.int p2), .val (.int p3), .val (.int p4), .val (.int p5), .val (.int (66 : Int32)), .val (.int ip), .val (.int jp), .val (.int s1), .val (.int s2), .val (.ref b1), .val (.ref r_), .val (.int xv), .val (.int yv), .val (.int (1 : Int32)), .val (.int (1 : Int32)), .unset, .unset] [(.int (1 : Int32)), (.int (0 : Int32))]) _
        refine stp (fun _ => XS.iconst X52.here hx rfl (hb hby at_148)) ?_
        show Go p e below T52 (mkF m 149 #[.val (.int p0), .val (.int p1), .val (.int p2), .val (.int p3), .val (.int p4), .val (.int p5), .val (.int (66 : Int32)), .val (.int ip), .val (.int jp), .val (.int s1), .val (.int s2), .val (.ref b1), .val (.ref r_), .val (.int xv), .val (.int yv), .val (.int (1 : Int32)), .val (.int (1 : Int32)), .unset, .unset] [(.int (3 : Int32)), (.int (1 : Int32)), (.int (0 : Int32))]) _
        refine stp (fun _ => XS.icmpYes X52.here hx rfl (pc0 := 149) (pc' := 156) rfl (hb hby at_149) rfl (by decide) (by decide) (by decide)) ?_
        show Go p e below T52 (mkF m 156 #[.val (.int p0), .val (.int p1), .val (.int p2), .val (.int p3), .val (.int p4), .val (.int p5), .val (.int (66 : Int32)), .val (.int ip), .val (.int jp), .val (.int s1), .val (.int s2), .val (.ref b1), .val (.ref r_), .val (.int xv), .val (.int yv), .val (.int (1 : Int32)), .val (.int (1 : Int32)), .unset, .unset] [(.int (0 : Int32))]) _
        refine stp (fun _ => XS.iconst X52.here hx rfl (hb hby at_156)) ?_
        show Go p e below T52 (mkF m 157 #[.val (.int p0), .val (.int p1), .val (.int p2), .val (.int p3), .val (.int p4), .val (.int p5), .val (.int (66 : Int32)), .val (.int ip), .val (.int jp), .val (.int s1), .val (.int s2), .val (.ref b1), .val (.ref r_), .val (.int xv), .val (.int yv), .val (.int (1 : Int32)), .val (.int (1 : Int32)), .unset, .unset] [(.int (0 : Int32)), (.int (0 : Int32))]) _
        refine stp (fun _ => XS.icmpYes X52.here hx rfl (pc0 := 157) (pc' := 162) rfl (hb hby at_157) rfl (by decide) (by decide) (by decide)) ?_
        show Go p e below T52 (mkF m 162 #[.val (.int p0), .val (.int p1), .val (.int p2), .val (.int p3), .val (.int p4), .val (.int p5), .val (.int (66 : Int32)), .val (.int ip), .val (.int jp), .val (.int s1), .val (.int s2), .val (.ref b1), .val (.ref r_), .val (.int xv), .val (.int yv), .val (.int (1 : Int32)), .val (.int (1 : Int32)), .unset, .unset] []) _
        refine stp (fun _ => XS.aload X52.here hx rfl (hb hby at_162) rfl rfl) ?_
        show Go p e below T52 (mkF m 164 #[.val (.int p0), .val (.int p1), .val (.int p2), .val (.int p3), .val (.int p4), .val (.int p5), .val (.int (66 : Int32)), .val (.int ip), .val (.int jp), .val (.int s1), .val (.int s2), .val (.ref b1), .val (.ref r_), .val (.int xv), .val (.int yv), .val (.int (1 : Int32)), .val (.int (1 : Int32)), .unset, .unset] [(.ref r_)]) _
        refine stp (fun _ => XS.iload X52.here hx rfl (hb hby at_164) rfl) ?_
        show Go p e below T52 (mkF m 166 #[.val (.int p0), .val (.int p1), .val (.int p2), .val (.int p3), .val (.int p4), .val (.int p5), .val (.int (66 : Int32)), .val (.int ip), .val (.int jp), .val (.int s1), .val (.int s2), .val (.ref b1), .val (.ref r_), .val (.int xv), .val (.int yv), .val (.int (1 : Int32)), .val (.int (1 : Int32)), .unset, .unset] [(.int xv), (.ref r_)]) _
        obtain ⟨cq53, kq53, q53a, q53b, q53c⟩ := isOf hZ e52 f41
        obtain ⟨_, _, ⟨T53, L53, k53, n53⟩, -, X53, ⟨Lc53, hQ53, l53, y53, z53⟩, st53⟩ := X52.virtualBack hx (y := (⟨"com/example/brisk_dedup/briskdedup/engine/Sides", "partners", "(I)[J"⟩ : MethodName)) (z := (⟨"com/example/brisk_dedup/briskdedup/engine/Sides", "partners", "(I)[J"⟩ : MethodName)) hown (mvT hZ (hw _ (List.mem_of_getElem? (i := 45) rfl))) (mvT hZ (hw _ (List.mem_of_getElem? (i := 46) rfl))) (notFace_of_selects (args := #[]) (mvT hZ (hw _ (List.mem_of_getElem? (i := 48) rfl)))) (mvT hZ (hw _ (List.mem_of_getElem? (i := 48) rfl))) (mvT hZ (hw _ (List.mem_of_getElem? (i := 47) rfl))) (by decide) (backOf (W := 0) (rm_pa1 l Z a0 hw [] r_ xv vb_ (own_sd ipn s1 jpn s2) xn vg_ kb_ h38 n0 O38 f42 f45 f44 hxn hxl hsx.symm) hZ (hw _ (List.mem_of_getElem? (i := 49) rfl)) (hw _ (List.mem_of_getElem? (i := 8) rfl)) (by decide) (by decide)) q53a q53c (g := (mkF m 166 #[.val (.int p0), .val (.int p1), .val (.int p2), .val (.int p3), .val (.int p4), .val (.int p5), .val (.int (66 : Int32)), .val (.int ip), .val (.int jp), .val (.int s1), .val (.int s2), .val (.ref b1), .val (.ref r_), .val (.int xv), .val (.int yv), .val (.int (1 : Int32)), .val (.int (1 : Int32)), .unset, .unset] [(.int xv), (.ref r_)])) rfl (by rw [hml]; rfl) (Steps.refl _) (argsL := [(.int xv)]) (rest := []) (lenOf pd_6 rfl) rfl (by show 2 * 0 + _ ≤ _; exact Nat.le_of_eq rfl) (hb hby at_166) (fun _ _ => ⟨rfl, e52, (by decide : 5 + 0 ≤ _), (by decide : 139 + 0 ≤ _)⟩)
        dsimp only [Pt.U, Pt.locs, Pt.cells, Pt.slots] at X53 l53 y53 z53 st53 hQ53
        subst l53 y53 z53
        obtain ⟨rfl, N53q, e53⟩ := hQ53
        have N53 := Fr.app N52 N53q
        refine stt st53 ?_
        show Go p e below T53 (mkF m 169 #[.val (.int p0), .val (.int p1), .val (.int p2), .val (.int p3), .val (.int p4), .val (.int p5), .val (.int (66 : Int32)), .val (.int ip), .val (.int jp), .val (.int s1), .val (.int s2), .val (.ref b1), .val (.ref r_), .val (.int xv), .val (.int yv), .val (.int (1 : Int32)), .val (.int (1 : Int32)), .unset, .unset] [(.ref vg_)]) _
        refine stp (fun _ => XS.astore X53.here hx rfl (hb hby at_169) rfl rfl (l' := #[.val (.int p0), .val (.int p1), .val (.int p2), .val (.int p3), .val (.int p4), .val (.int p5), .val (.int (66 : Int32)), .val (.int ip), .val (.int jp), .val (.int s1), .val (.int s2), .val (.ref b1), .val (.ref r_), .val (.int xv), .val (.int yv), .val (.int (1 : Int32)), .val (.int (1 : Int32)), .val (.ref vg_), .unset]) rfl) ?_
        show Go p e below T53 (mkF m 171 #[.val (.int p0), .val (.int p1), .val (.int p2), .val (.int p3), .val (.int p4), .val (.int p5), .val (.int (66 : Int32)), .val (.int ip), .val (.int jp), .val (.int s1), .val (.int s2), .val (.ref b1), .val (.ref r_), .val (.int xv), .val (.int yv), .val (.int (1 : Int32)), .val (.int (1 : Int32)), .val (.ref vg_), .unset] []) _
        refine stp (fun _ => XS.iload X53.here hx rfl (hb hby at_171) rfl) ?_
        show Go p e below T53 (mkF m 173 #[.val (.int p0), .val (.int p1), .val (.int p2), .val (.int p3), .val (.int p4), .val (.int p5), .val (.int (66 : Int32)), .val (.int ip), .val (.int jp), .val (.int s1), .val (.int s2), .val (.ref b1), .val (.ref r_), .val (.int xv), .val (.int yv), .val (.int (1 : Int32)), .val (.int (1 : Int32)), .val (.ref vg_), .unset] [(.int (1 : Int32))]) _
        refine stp (fun _ => XS.iconst X53.here hx rfl (hb hby at_173)) ?_
        show Go p e below T53 (mkF m 174 #[.val (.int p0), .val (.int p1), .val (.int p2), .val (.int p3), .val (.int p4), .val (.int p5), .val (.int (66 : Int32)), .val (.int ip), .val (.int jp), .val (.int s1), .val (.int s2), .val (.ref b1), .val (.ref r_), .val (.int xv), .val (.int yv), .val (.int (1 : Int32)), .val (.int (1 : Int32)), .val (.ref vg_), .unset] [(.int (3 : Int32)), (.int (1 : Int32))]) _
        refine stp (fun _ => XS.icmpYes X53.here hx rfl (pc0 := 174) (pc' := 188) rfl (hb hby at_174) rfl (by decide) (by decide) (by decide)) ?_
        show Go p e below T53 (mkF m 188 #[.val (.int p0), .val (.int p1), .val (.int p2), .val (.int p3), .val (.int p4), .val (.int p5), .val (.int (66 : Int32)), .val (.int ip), .val (.int jp), .val (.int s1), .val (.int s2), .val (.ref b1), .val (.ref r_), .val (.int xv), .val (.int yv), .val (.int (1 : Int32)), .val (.int (1 : Int32)), .val (.ref vg_), .unset] []) _
        refine stp (fun _ => XS.aload X53.here hx rfl (hb hby at_188) rfl rfl) ?_
        show Go p e below T53 (mkF m 190 #[.val (.int p0), .val (.int p1), .val (.int p2), .val (.int p3), .val (.int p4), .val (.int p5), .val (.int (66 : Int32)), .val (.int ip), .val (.int jp), .val (.int s1), .val (.int s2), .val (.ref b1), .val (.ref r_), .val (.int xv), .val (.int yv), .val (.int (1 : Int32)), .val (.int (1 : Int32)), .val (.ref vg_), .unset] [(.ref vg_)]) _
        refine stp (fun _ => XS.ifnullNo X53.here hx rfl (hb hby at_190) rfl) ?_
        show Go p e below T53 (mkF m 193 #[.val (.int p0), .val (.int p1), .val (.int p2), .val (.int p3), .val (.int p4), .val (.int p5), .val (.int (66 : Int32)), .val (.int ip), .val (.int jp), .val (.int s1), .val (.int s2), .val (.ref b1), .val (.ref r_), .val (.int xv), .val (.int yv), .val (.int (1 : Int32)), .val (.int (1 : Int32)), .val (.ref vg_), .unset] []) _
        refine stp (fun _ => XS.aload X53.here hx rfl (hb hby at_193) rfl rfl) ?_
        show Go p e below T53 (mkF m 195 #[.val (.int p0), .val (.int p1), .val (.int p2), .val (.int p3), .val (.int p4), .val (.int p5), .val (.int (66 : Int32)), .val (.int ip), .val (.int jp), .val (.int s1), .val (.int s2), .val (.ref b1), .val (.ref r_), .val (.int xv), .val (.int yv), .val (.int (1 : Int32)), .val (.int (1 : Int32)), .val (.ref vg_), .unset] [(.ref vg_)]) _
        obtain ⟨cl54, Ar54, -, S54, -, -⟩ := (id f47)
        refine stp (fun _ => X53.arraylength hx (by rw [e53]; exact Ar54.1) (State.isArrayOf_alike hZ.alike Ar54.2.1) (g := (mkF m 195 #[.val (.int p0), .val (.int p1), .val (.int p2), .val (.int p3), .val (.int p4), .val (.int p5), .val (.int (66 : Int32)), .val (.int ip), .val (.int jp), .val (.int s1), .val (.int s2), .val (.ref b1), .val (.ref r_), .val (.int xv), .val (.int yv), .val (.int (1 : Int32)), .val (.int (1 : Int32)), .val (.ref vg_), .unset] [(.ref vg_)])) rfl rfl (hb hby at_195) _) ?_
        rw [arf_len S54 (z := (2 : Int32)) (by decide)]
        show Go p e below T53 (mkF m 196 #[.val (.int p0), .val (.int p1), .val (.int p2), .val (.int p3), .val (.int p4), .val (.int p5), .val (.int (66 : Int32)), .val (.int ip), .val (.int jp), .val (.int s1), .val (.int s2), .val (.ref b1), .val (.ref r_), .val (.int xv), .val (.int yv), .val (.int (1 : Int32)), .val (.int (1 : Int32)), .val (.ref vg_), .unset] [(.int (2 : Int32))]) _
        refine stp (fun _ => XS.iload X53.here hx rfl (hb hby at_196) rfl) ?_
        show Go p e below T53 (mkF m 198 #[.val (.int p0), .val (.int p1), .val (.int p2), .val (.int p3), .val (.int p4), .val (.int p5), .val (.int (66 : Int32)), .val (.int ip), .val (.int jp), .val (.int s1), .val (.int s2), .val (.ref b1), .val (.ref r_), .val (.int xv), .val (.int yv), .val (.int (1 : Int32)), .val (.int (1 : Int32)), .val (.ref vg_), .unset] [(.int yv), (.int (2 : Int32))]) _
        refine stp (fun _ => XS.bipush X53.here hx rfl (hb hby at_198)) ?_
        show Go p e below T53 (mkF m 200 #[.val (.int p0), .val (.int p1), .val (.int p2), .val (.int p3), .val (.int p4), .val (.int p5), .val (.int (66 : Int32)), .val (.int ip), .val (.int jp), .val (.int s1), .val (.int s2), .val (.ref b1), .val (.ref r_), .val (.int xv), .val (.int yv), .val (.int (1 : Int32)), .val (.int (1 : Int32)), .val (.ref vg_), .unset] [(.int (6 : Int32)), (.int yv), (.int (2 : Int32))]) _
        refine stp (fun _ => XS.iushr X53.here hx rfl (hb hby at_200) rfl) ?_
        show Go p e below T53 (mkF m 201 #[.val (.int p0), .val (.int p1), .val (.int p2), .val (.int p3), .val (.int p4), .val (.int p5), .val (.int (66 : Int32)), .val (.int ip), .val (.int jp), .val (.int s1), .val (.int s2), .val (.ref b1), .val (.ref r_), .val (.int xv), .val (.int yv), .val (.int (1 : Int32)), .val (.int (1 : Int32)), .val (.ref vg_), .unset] [(.int ((yv.toUInt32 >>> ((6 : Int32) &&& 31).toUInt32).toInt32)), (.int (2 : Int32))]) _
        refine stp (fun _ => XS.icmpYes X53.here hx rfl (pc0 := 201) (pc' := 206) rfl (hb hby at_201) rfl (XT.ii_gt_t (own_lt2 hyn hyl)) (by decide) (by decide)) ?_
        show Go p e below T53 (mkF m 206 #[.val (.int p0), .val (.int p1), .val (.int p2), .val (.int p3), .val (.int p4), .val (.int p5), .val (.int (66 : Int32)), .val (.int ip), .val (.int jp), .val (.int s1), .val (.int s2), .val (.ref b1), .val (.ref r_), .val (.int xv), .val (.int yv), .val (.int (1 : Int32)), .val (.int (1 : Int32)), .val (.ref vg_), .unset] []) _
        refine stp (fun _ => XS.aload X53.here hx rfl (hb hby at_206) rfl rfl) ?_
        show Go p e below T53 (mkF m 208 #[.val (.int p0), .val (.int p1), .val (.int p2), .val (.int p3), .val (.int p4), .val (.int p5), .val (.int (66 : Int32)), .val (.int ip), .val (.int jp), .val (.int s1), .val (.int s2), .val (.ref b1), .val (.ref r_), .val (.int xv), .val (.int yv), .val (.int (1 : Int32)), .val (.int (1 : Int32)), .val (.ref vg_), .unset] [(.ref vg_)]) _
        obtain ⟨cl55, Ar55, -, S55, -, -⟩ := (id f47)
        refine stp (fun _ => X53.arraylength hx (by rw [e53]; exact Ar55.1) (State.isArrayOf_alike hZ.alike Ar55.2.1) (g := (mkF m 208 #[.val (.int p0), .val (.int p1), .val (.int p2), .val (.int p3), .val (.int p4), .val (.int p5), .val (.int (66 : Int32)), .val (.int ip), .val (.int jp), .val (.int s1), .val (.int s2), .val (.ref b1), .val (.ref r_), .val (.int xv), .val (.int yv), .val (.int (1 : Int32)), .val (.int (1 : Int32)), .val (.ref vg_), .unset] [(.ref vg_)])) rfl rfl (hb hby at_208) _) ?_
        rw [arf_len S55 (z := (2 : Int32)) (by decide)]
        show Go p e below T53 (mkF m 209 #[.val (.int p0), .val (.int p1), .val (.int p2), .val (.int p3), .val (.int p4), .val (.int p5), .val (.int (66 : Int32)), .val (.int ip), .val (.int jp), .val (.int s1), .val (.int s2), .val (.ref b1), .val (.ref r_), .val (.int xv), .val (.int yv), .val (.int (1 : Int32)), .val (.int (1 : Int32)), .val (.ref vg_), .unset] [(.int (2 : Int32))]) _
        refine stp (fun _ => XS.iconst X53.here hx rfl (hb hby at_209)) ?_
        show Go p e below T53 (mkF m 210 #[.val (.int p0), .val (.int p1), .val (.int p2), .val (.int p3), .val (.int p4), .val (.int p5), .val (.int (66 : Int32)), .val (.int ip), .val (.int jp), .val (.int s1), .val (.int s2), .val (.ref b1), .val (.ref r_), .val (.int xv), .val (.int yv), .val (.int (1 : Int32)), .val (.int (1 : Int32)), .val (.ref vg_), .unset] [(.int (1 : Int32)), (.int (2 : Int32))]) _
        refine stp (fun _ => XS.icmpNo X53.here hx rfl (hb hby at_210) rfl (by decide)) ?_
        show Go p e below T53 (mkF m 213 #[.val (.int p0), .val (.int p1), .val (.int p2), .val (.int p3), .val (.int p4), .val (.int p5), .val (.int (66 : Int32)), .val (.int ip), .val (.int jp), .val (.int s1), .val (.int s2), .val (.ref b1), .val (.ref r_), .val (.int xv), .val (.int yv), .val (.int (1 : Int32)), .val (.int (1 : Int32)), .val (.ref vg_), .unset] []) _
        refine stp (fun _ => XS.aload X53.here hx rfl (hb hby at_213) rfl rfl) ?_
        show Go p e below T53 (mkF m 215 #[.val (.int p0), .val (.int p1), .val (.int p2), .val (.int p3), .val (.int p4), .val (.int p5), .val (.int (66 : Int32)), .val (.int ip), .val (.int jp), .val (.int s1), .val (.int s2), .val (.ref b1), .val (.ref r_), .val (.int xv), .val (.int yv), .val (.int (1 : Int32)), .val (.int (1 : Int32)), .val (.ref vg_), .unset] [(.ref vg_)]) _
        refine stp (fun _ => XS.iconst X53.here hx rfl (hb hby at_215)) ?_
        show Go p e below T53 (mkF m 216 #[.val (.int p0), .val (.int p1), .val (.int p2), .val (.int p3), .val (.int p4), .val (.int p5), .val (.int (66 : Int32)), .val (.int ip), .val (.int jp), .val (.int s1), .val (.int s2), .val (.ref b1), .val (.ref r_), .val (.int xv), .val (.int yv), .val (.int (1 : Int32)), .val (.int (1 : Int32)), .val (.ref vg_), .unset] [(.int (1 : Int32)), (.ref vg_)]) _
        obtain ⟨cl56, Ar56, q56, S56, H56, G56⟩ := (id f47)
        have in56 : ¬ ((1 : Int32) < 0 ∨ cl56.slots.size ≤ ((1 : Int32)).toNatClampNeg) := arf_in S56 (show (1 : Int32).toInt = ((1 : Nat) : Int) by decide) (by decide)
        have at56 : cl56.slots[((1 : Int32)).toNatClampNeg]? = some (.long (own_bits 2 (own_sd ipn s1 jpn s2) 66 1)) := arf_at H56 (show (1 : Int32).toInt = ((1 : Nat) : Int) by decide) (by decide)
        refine stp (fun _ => X53.laload hx (j := (1 : Int32)) (v := (.long (own_bits 2 (own_sd ipn s1 jpn s2) 66 1))) (by rw [e53]; exact Ar56.1) (State.isArrayOf_alike hZ.alike Ar56.2.1) Ar56.2.2 in56 at56 (g := (mkF m 216 #[.val (.int p0), .val (.int p1), .val (.int p2), .val (.int p3), .val (.int p4), .val (.int p5), .val (.int (66 : Int32)), .val (.int ip), .val (.int jp), .val (.int s1), .val (.int s2), .val (.ref b1), .val (.ref r_), .val (.int xv), .val (.int yv), .val (.int (1 : Int32)), .val (.int (1 : Int32)), .val (.ref vg_), .unset] [(.int (1 : Int32)), (.ref vg_)])) rfl rfl (hb hby at_216) _) ?_
        show Go p e below T53 (mkF m 217 #[.val (.int p0), .val (.int p1), .val (.int p2), .val (.int p3), .val (.int p4), .val (.int p5), .val (.int (66 : Int32)), .val (.int ip), .val (.int jp), .val (.int s1), .val (.int s2), .val (.ref b1), .val (.ref r_), .val (.int xv), .val (.int yv), .val (.int (1 : Int32)), .val (.int (1 : Int32)), .val (.ref vg_), .unset] [(.long (own_bits 2 (own_sd ipn s1 jpn s2) 66 1))]) _
        refine stp (fun _ => XS.iconst X53.here hx rfl (hb hby at_217)) ?_
        show Go p e below T53 (mkF m 218 #[.val (.int p0), .val (.int p1), .val (.int p2), .val (.int p3), .val (.int p4), .val (.int p5), .val (.int (66 : Int32)), .val (.int ip), .val (.int jp), .val (.int s1), .val (.int s2), .val (.ref b1), .val (.ref r_), .val (.int xv), .val (.int yv), .val (.int (1 : Int32)), .val (.int (1 : Int32)), .val (.ref vg_), .unset] [(.int (2 : Int32)), (.long (own_bits 2 (own_sd ipn s1 jpn s2) 66 1))]) _
        refine stp (fun _ => XS.lushr X53.here hx rfl (hb hby at_218) rfl) ?_
        show Go p e below T53 (mkF m 219 #[.val (.int p0), .val (.int p1), .val (.int p2), .val (.int p3), .val (.int p4), .val (.int p5), .val (.int (66 : Int32)), .val (.int ip), .val (.int jp), .val (.int s1), .val (.int s2), .val (.ref b1), .val (.ref r_), .val (.int xv), .val (.int yv), .val (.int (1 : Int32)), .val (.int (1 : Int32)), .val (.ref vg_), .unset] [(.long (((own_bits 2 (own_sd ipn s1 jpn s2) 66 1).toUInt64 >>> ((2 : Int32) &&& 0x3f).toInt64.toUInt64).toInt64))]) _
        refine stp (fun _ => XS.lconst X53.here hx rfl (hb hby at_219)) ?_
        show Go p e below T53 (mkF m 220 #[.val (.int p0), .val (.int p1), .val (.int p2), .val (.int p3), .val (.int p4), .val (.int p5), .val (.int (66 : Int32)), .val (.int ip), .val (.int jp), .val (.int s1), .val (.int s2), .val (.ref b1), .val (.ref r_), .val (.int xv), .val (.int yv), .val (.int (1 : Int32)), .val (.int (1 : Int32)), .val (.ref vg_), .unset] [(.long (0 : Int64)), (.long (((own_bits 2 (own_sd ipn s1 jpn s2) 66 1).toUInt64 >>> ((2 : Int32) &&& 0x3f).toInt64.toUInt64).toInt64))]) _
        refine stp (fun _ => XS.lcmp X53.here hx rfl (hb hby at_220) rfl) ?_
        show Go p e below T53 (mkF m 221 #[.val (.int p0), .val (.int p1), .val (.int p2), .val (.int p3), .val (.int p4), .val (.int p5), .val (.int (66 : Int32)), .val (.int ip), .val (.int jp), .val (.int s1), .val (.int s2), .val (.ref b1), .val (.ref r_), .val (.int xv), .val (.int yv), .val (.int (1 : Int32)), .val (.int (1 : Int32)), .val (.ref vg_), .unset] [(.int (lcmpW (((own_bits 2 (own_sd ipn s1 jpn s2) 66 1).toUInt64 >>> ((2 : Int32) &&& 0x3f).toInt64.toUInt64).toInt64) (0 : Int64)))]) _
        refine stp (fun _ => XS.ifYes X53.here hx rfl (pc0 := 221) (pc' := 226) rfl (hb hby at_221) rfl (XT.ll_eq_t (own_top _ _)) (by decide) (by decide)) ?_
        show Go p e below T53 (mkF m 226 #[.val (.int p0), .val (.int p1), .val (.int p2), .val (.int p3), .val (.int p4), .val (.int p5), .val (.int (66 : Int32)), .val (.int ip), .val (.int jp), .val (.int s1), .val (.int s2), .val (.ref b1), .val (.ref r_), .val (.int xv), .val (.int yv), .val (.int (1 : Int32)), .val (.int (1 : Int32)), .val (.ref vg_), .unset] []) _
        refine stp (fun _ => XS.aload X53.here hx rfl (hb hby at_226) rfl rfl) ?_
        show Go p e below T53 (mkF m 228 #[.val (.int p0), .val (.int p1), .val (.int p2), .val (.int p3), .val (.int p4), .val (.int p5), .val (.int (66 : Int32)), .val (.int ip), .val (.int jp), .val (.int s1), .val (.int s2), .val (.ref b1), .val (.ref r_), .val (.int xv), .val (.int yv), .val (.int (1 : Int32)), .val (.int (1 : Int32)), .val (.ref vg_), .unset] [(.ref vg_)]) _
        refine stp (fun _ => XS.iload X53.here hx rfl (hb hby at_228) rfl) ?_
        show Go p e below T53 (mkF m 230 #[.val (.int p0), .val (.int p1), .val (.int p2), .val (.int p3), .val (.int p4), .val (.int p5), .val (.int (66 : Int32)), .val (.int ip), .val (.int jp), .val (.int s1), .val (.int s2), .val (.ref b1), .val (.ref r_), .val (.int xv), .val (.int yv), .val (.int (1 : Int32)), .val (.int (1 : Int32)), .val (.ref vg_), .unset] [(.int yv), (.ref vg_)]) _
        refine stp (fun _ => XS.bipush X53.here hx rfl (hb hby at_230)) ?_
        show Go p e below T53 (mkF m 232 #[.val (.int p0), .val (.int p1), .val (.int p2), .val (.int p3), .val (.int p4), .val (.int p5), .val (.int (66 : Int32)), .val (.int ip), .val (.int jp), .val (.int s1), .val (.int s2), .val (.ref b1), .val (.ref r_), .val (.int xv), .val (.int yv), .val (.int (1 : Int32)), .val (.int (1 : Int32)), .val (.ref vg_), .unset] [(.int (6 : Int32)), (.int yv), (.ref vg_)]) _
        refine stp (fun _ => XS.iushr X53.here hx rfl (hb hby at_232) rfl) ?_
        show Go p e below T53 (mkF m 233 #[.val (.int p0), .val (.int p1), .val (.int p2), .val (.int p3), .val (.int p4), .val (.int p5), .val (.int (66 : Int32)), .val (.int ip), .val (.int jp), .val (.int s1), .val (.int s2), .val (.ref b1), .val (.ref r_), .val (.int xv), .val (.int yv), .val (.int (1 : Int32)), .val (.int (1 : Int32)), .val (.ref vg_), .unset] [(.int ((yv.toUInt32 >>> ((6 : Int32) &&& 31).toUInt32).toInt32)), (.ref vg_)]) _
        obtain ⟨cl57, Ar57, q57, S57, H57, G57⟩ := (id f47)
        have in57 : ¬ (((yv.toUInt32 >>> ((6 : Int32) &&& 31).toUInt32).toInt32) < 0 ∨ cl57.slots.size ≤ (((yv.toUInt32 >>> ((6 : Int32) &&& 31).toUInt32).toInt32)).toNatClampNeg) := arf_in S57 (own_div hyn) (own_d2 hyl)
        have at57 : cl57.slots[(((yv.toUInt32 >>> ((6 : Int32) &&& 31).toUInt32).toInt32)).toNatClampNeg]? = some (.long (own_bits 2 (own_sd ipn s1 jpn s2) 66 (yn / 64))) := arf_at H57 (own_div hyn) (own_d2 hyl)
        refine stp (fun _ => X53.laload hx (j := ((yv.toUInt32 >>> ((6 : Int32) &&& 31).toUInt32).toInt32)) (v := (.long (own_bits 2 (own_sd ipn s1 jpn s2) 66 (yn / 64)))) (by rw [e53]; exact Ar57.1) (State.isArrayOf_alike hZ.alike Ar57.2.1) Ar57.2.2 in57 at57 (g := (mkF m 233 #[.val (.int p0), .val (.int p1), .val (.int p2), .val (.int p3), .val (.int p4), .val (.int p5), .val (.int (66 : Int32)), .val (.int ip), .val (.int jp), .val (.int s1), .val (.int s2), .val (.ref b1), .val (.ref r_), .val (.int xv), .val (.int yv), .val (.int (1 : Int32)), .val (.int (1 : Int32)), .val (.ref vg_), .unset] [(.int ((yv.toUInt32 >>> ((6 : Int32) &&& 31).toUInt32).toInt32)), (.ref vg_)])) rfl rfl (hb hby at_233) _) ?_
        show Go p e below T53 (mkF m 234 #[.val (.int p0), .val (.int p1), .val (.int p2), .val (.int p3), .val (.int p4), .val (.int p5), .val (.int (66 : Int32)), .val (.int ip), .val (.int jp), .val (.int s1), .val (.int s2), .val (.ref b1), .val (.ref r_), .val (.int xv), .val (.int yv), .val (.int (1 : Int32)), .val (.int (1 : Int32)), .val (.ref vg_), .unset] [(.long (own_bits 2 (own_sd ipn s1 jpn s2) 66 (yn / 64)))]) _
        refine stp (fun _ => XS.iload X53.here hx rfl (hb hby at_234) rfl) ?_
        show Go p e below T53 (mkF m 236 #[.val (.int p0), .val (.int p1), .val (.int p2), .val (.int p3), .val (.int p4), .val (.int p5), .val (.int (66 : Int32)), .val (.int ip), .val (.int jp), .val (.int s1), .val (.int s2), .val (.ref b1), .val (.ref r_), .val (.int xv), .val (.int yv), .val (.int (1 : Int32)), .val (.int (1 : Int32)), .val (.ref vg_), .unset] [(.int yv), (.long (own_bits 2 (own_sd ipn s1 jpn s2) 66 (yn / 64)))]) _
        refine stp (fun _ => XS.bipush X53.here hx rfl (hb hby at_236)) ?_
        show Go p e below T53 (mkF m 238 #[.val (.int p0), .val (.int p1), .val (.int p2), .val (.int p3), .val (.int p4), .val (.int p5), .val (.int (66 : Int32)), .val (.int ip), .val (.int jp), .val (.int s1), .val (.int s2), .val (.ref b1), .val (.ref r_), .val (.int xv), .val (.int yv), .val (.int (1 : Int32)), .val (.int (1 : Int32)), .val (.ref vg_), .unset] [(.int (63 : Int32)), (.int yv), (.long (own_bits 2 (own_sd ipn s1 jpn s2) 66 (yn / 64)))]) _
        refine stp (fun _ => XS.iand X53.here hx rfl (hb hby at_238) rfl) ?_
        show Go p e below T53 (mkF m 239 #[.val (.int p0), .val (.int p1), .val (.int p2), .val (.int p3), .val (.int p4), .val (.int p5), .val (.int (66 : Int32)), .val (.int ip), .val (.int jp), .val (.int s1), .val (.int s2), .val (.ref b1), .val (.ref r_), .val (.int xv), .val (.int yv), .val (.int (1 : Int32)), .val (.int (1 : Int32)), .val (.ref vg_), .unset] [(.int (yv &&& (63 : Int32))), (.long (own_bits 2 (own_sd ipn s1 jpn s2) 66 (yn / 64)))]) _
        refine stp (fun _ => XS.lushr X53.here hx rfl (hb hby at_239) rfl) ?_
        show Go p e below T53 (mkF m 240 #[.val (.int p0), .val (.int p1), .val (.int p2), .val (.int p3), .val (.int p4), .val (.int p5), .val (.int (66 : Int32)), .val (.int ip), .val (.int jp), .val (.int s1), .val (.int s2), .val (.ref b1), .val (.ref r_), .val (.int xv), .val (.int yv), .val (.int (1 : Int32)), .val (.int (1 : Int32)), .val (.ref vg_), .unset] [(.long (((own_bits 2 (own_sd ipn s1 jpn s2) 66 (yn / 64)).toUInt64 >>> ((yv &&& (63 : Int32)) &&& 0x3f).toInt64.toUInt64).toInt64))]) _
        refine stp (fun _ => XS.lconst X53.here hx rfl (hb hby at_240)) ?_
        show Go p e below T53 (mkF m 241 #[.val (.int p0), .val (.int p1), .val (.int p2), .val (.int p3), .val (.int p4), .val (.int p5), .val (.int (66 : Int32)), .val (.int ip), .val (.int jp), .val (.int s1), .val (.int s2), .val (.ref b1), .val (.ref r_), .val (.int xv), .val (.int yv), .val (.int (1 : Int32)), .val (.int (1 : Int32)), .val (.ref vg_), .unset] [(.long (1 : Int64)), (.long (((own_bits 2 (own_sd ipn s1 jpn s2) 66 (yn / 64)).toUInt64 >>> ((yv &&& (63 : Int32)) &&& 0x3f).toInt64.toUInt64).toInt64))]) _
        refine stp (fun _ => XS.land X53.here hx rfl (hb hby at_241) rfl) ?_
        show Go p e below T53 (mkF m 242 #[.val (.int p0), .val (.int p1), .val (.int p2), .val (.int p3), .val (.int p4), .val (.int p5), .val (.int (66 : Int32)), .val (.int ip), .val (.int jp), .val (.int s1), .val (.int s2), .val (.ref b1), .val (.ref r_), .val (.int xv), .val (.int yv), .val (.int (1 : Int32)), .val (.int (1 : Int32)), .val (.ref vg_), .unset] [(.long ((((own_bits 2 (own_sd ipn s1 jpn s2) 66 (yn / 64)).toUInt64 >>> ((yv &&& (63 : Int32)) &&& 0x3f).toInt64.toUInt64).toInt64) &&& (1 : Int64)))]) _
        refine stp (fun _ => XS.lconst X53.here hx rfl (hb hby at_242)) ?_
        show Go p e below T53 (mkF m 243 #[.val (.int p0), .val (.int p1), .val (.int p2), .val (.int p3), .val (.int p4), .val (.int p5), .val (.int (66 : Int32)), .val (.int ip), .val (.int jp), .val (.int s1), .val (.int s2), .val (.ref b1), .val (.ref r_), .val (.int xv), .val (.int yv), .val (.int (1 : Int32)), .val (.int (1 : Int32)), .val (.ref vg_), .unset] [(.long (0 : Int64)), (.long ((((own_bits 2 (own_sd ipn s1 jpn s2) 66 (yn / 64)).toUInt64 >>> ((yv &&& (63 : Int32)) &&& 0x3f).toInt64.toUInt64).toInt64) &&& (1 : Int64)))]) _
        refine stp (fun _ => XS.lcmp X53.here hx rfl (hb hby at_243) rfl) ?_
        show Go p e below T53 (mkF m 244 #[.val (.int p0), .val (.int p1), .val (.int p2), .val (.int p3), .val (.int p4), .val (.int p5), .val (.int (66 : Int32)), .val (.int ip), .val (.int jp), .val (.int s1), .val (.int s2), .val (.ref b1), .val (.ref r_), .val (.int xv), .val (.int yv), .val (.int (1 : Int32)), .val (.int (1 : Int32)), .val (.ref vg_), .unset] [(.int (lcmpW ((((own_bits 2 (own_sd ipn s1 jpn s2) 66 (yn / 64)).toUInt64 >>> ((yv &&& (63 : Int32)) &&& 0x3f).toInt64.toUInt64).toInt64) &&& (1 : Int64)) (0 : Int64)))]) _
        refine stp (fun _ => XS.ifYes X53.here hx rfl (pc0 := 244) (pc' := 251) rfl (hb hby at_244) rfl (XT.ll_eq_t (own_bit0 hyn hyl (by rw [← hsy]; decide))) (by decide) (by decide)) ?_
        show Go p e below T53 (mkF m 251 #[.val (.int p0), .val (.int p1), .val (.int p2), .val (.int p3), .val (.int p4), .val (.int p5), .val (.int (66 : Int32)), .val (.int ip), .val (.int jp), .val (.int s1), .val (.int s2), .val (.ref b1), .val (.ref r_), .val (.int xv), .val (.int yv), .val (.int (1 : Int32)), .val (.int (1 : Int32)), .val (.ref vg_), .unset] []) _
        refine stp (fun _ => XS.iconst X53.here hx rfl (hb hby at_251)) ?_
        show Go p e below T53 (mkF m 252 #[.val (.int p0), .val (.int p1), .val (.int p2), .val (.int p3), .val (.int p4), .val (.int p5), .val (.int (66 : Int32)), .val (.int ip), .val (.int jp), .val (.int s1), .val (.int s2), .val (.ref b1), .val (.ref r_), .val (.int xv), .val (.int yv), .val (.int (1 : Int32)), .val (.int (1 : Int32)), .val (.ref vg_), .unset] [(.int (0 : Int32))]) _
        refine stp (fun _ => XS.istore X53.here hx rfl (hb hby at_252) rfl (l' := #[.val (.int p0), .val (.int p1), .val (.int p2), .val (.int p3), .val (.int p4), .val (.int p5), .val (.int (66 : Int32)), .val (.int ip), .val (.int jp), .val (.int s1), .val (.int s2), .val (.ref b1), .val (.ref r_), .val (.int xv), .val (.int yv), .val (.int (1 : Int32)), .val (.int (1 : Int32)), .val (.ref vg_), .val (.int (0 : Int32))]) rfl) ?_
        show Go p e below T53 (mkF m 254 #[.val (.int p0), .val (.int p1), .val (.int p2), .val (.int p3), .val (.int p4), .val (.int p5), .val (.int (66 : Int32)), .val (.int ip), .val (.int jp), .val (.int s1), .val (.int s2), .val (.ref b1), .val (.ref r_), .val (.int xv), .val (.int yv), .val (.int (1 : Int32)), .val (.int (1 : Int32)), .val (.ref vg_), .val (.int (0 : Int32))] []) _
        refine stp (fun _ => XS.iload X53.here hx rfl (hb hby at_254) rfl) ?_
        show Go p e below T53 (mkF m 256 #[.val (.int p0), .val (.int p1), .val (.int p2), .val (.int p3), .val (.int p4), .val (.int p5), .val (.int (66 : Int32)), .val (.int ip), .val (.int jp), .val (.int s1), .val (.int s2), .val (.ref b1), .val (.ref r_), .val (.int xv), .val (.int yv), .val (.int (1 : Int32)), .val (.int (1 : Int32)), .val (.ref vg_), .val (.int (0 : Int32))] [(.int (0 : Int32))]) _
        refine stp (fun _ => XS.iload X53.here hx rfl (hb hby at_256) rfl) ?_
        show Go p e below T53 (mkF m 258 #[.val (.int p0), .val (.int p1), .val (.int p2), .val (.int p3), .val (.int p4), .val (.int p5), .val (.int (66 : Int32)), .val (.int ip), .val (.int jp), .val (.int s1), .val (.int s2), .val (.ref b1), .val (.ref r_), .val (.int xv), .val (.int yv), .val (.int (1 : Int32)), .val (.int (1 : Int32)), .val (.ref vg_), .val (.int (0 : Int32))] [(.int (1 : Int32)), (.int (0 : Int32))]) _
        refine stp (fun _ => XS.iconst X53.here hx rfl (hb hby at_258)) ?_
        show Go p e below T53 (mkF m 259 #[.val (.int p0), .val (.int p1), .val (.int p2), .val (.int p3), .val (.int p4), .val (.int p5), .val (.int (66 : Int32)), .val (.int ip), .val (.int jp), .val (.int s1), .val (.int s2), .val (.ref b1), .val (.ref r_), .val (.int xv), .val (.int yv), .val (.int (1 : Int32)), .val (.int (1 : Int32)), .val (.ref vg_), .val (.int (0 : Int32))] [(.int (3 : Int32)), (.int (1 : Int32)), (.int (0 : Int32))]) _
        refine stp (fun _ => XS.iload X53.here hx rfl (hb hby at_259) rfl) ?_
        show Go p e below T53 (mkF m 261 #[.val (.int p0), .val (.int p1), .val (.int p2), .val (.int p3), .val (.int p4), .val (.int p5), .val (.int (66 : Int32)), .val (.int ip), .val (.int jp), .val (.int s1), .val (.int s2), .val (.ref b1), .val (.ref r_), .val (.int xv), .val (.int yv), .val (.int (1 : Int32)), .val (.int (1 : Int32)), .val (.ref vg_), .val (.int (0 : Int32))] [(.int (1 : Int32)), (.int (3 : Int32)), (.int (1 : Int32)), (.int (0 : Int32))]) _
        refine stp (fun _ => XS.isub X53.here hx rfl (hb hby at_261) rfl) ?_
        show Go p e below T53 (mkF m 262 #[.val (.int p0), .val (.int p1), .val (.int p2), .val (.int p3), .val (.int p4), .val (.int p5), .val (.int (66 : Int32)), .val (.int ip), .val (.int jp), .val (.int s1), .val (.int s2), .val (.ref b1), .val (.ref r_), .val (.int xv), .val (.int yv), .val (.int (1 : Int32)), .val (.int (1 : Int32)), .val (.ref vg_), .val (.int (0 : Int32))] [(.int (2 : Int32)), (.int (1 : Int32)), (.int (0 : Int32))]) _
        refine stp (fun _ => XS.iand X53.here hx rfl (hb hby at_262) rfl) ?_
        show Go p e below T53 (mkF m 263 #[.val (.int p0), .val (.int p1), .val (.int p2), .val (.int p3), .val (.int p4), .val (.int p5), .val (.int (66 : Int32)), .val (.int ip), .val (.int jp), .val (.int s1), .val (.int s2), .val (.ref b1), .val (.ref r_), .val (.int xv), .val (.int yv), .val (.int (1 : Int32)), .val (.int (1 : Int32)), .val (.ref vg_), .val (.int (0 : Int32))] [(.int (0 : Int32)), (.int (0 : Int32))]) _
        refine stp (fun _ => XS.ifYes X53.here hx rfl (pc0 := 263) (pc' := 270) rfl (hb hby at_263) rfl (by decide) (by decide) (by decide)) ?_
        show Go p e below T53 (mkF m 270 #[.val (.int p0), .val (.int p1), .val (.int p2), .val (.int p3), .val (.int p4), .val (.int p5), .val (.int (66 : Int32)), .val (.int ip), .val (.int jp), .val (.int s1), .val (.int s2), .val (.ref b1), .val (.ref r_), .val (.int xv), .val (.int yv), .val (.int (1 : Int32)), .val (.int (1 : Int32)), .val (.ref vg_), .val (.int (0 : Int32))] [(.int (0 : Int32))]) _
        refine stp (fun _ => XS.iconst X53.here hx rfl (hb hby at_270)) ?_
        show Go p e below T53 (mkF m 271 #[.val (.int p0), .val (.int p1), .val (.int p2), .val (.int p3), .val (.int p4), .val (.int p5), .val (.int (66 : Int32)), .val (.int ip), .val (.int jp), .val (.int s1), .val (.int s2), .val (.ref b1), .val (.ref r_), .val (.int xv), .val (.int yv), .val (.int (1 : Int32)), .val (.int (1 : Int32)), .val (.ref vg_), .val (.int (0 : Int32))] [(.int (0 : Int32)), (.int (0 : Int32))]) _
        refine stp (fun _ => XS.icmpNo X53.here hx rfl (hb hby at_271) rfl (by decide)) ?_
        show Go p e below T53 (mkF m 274 #[.val (.int p0), .val (.int p1), .val (.int p2), .val (.int p3), .val (.int p4), .val (.int p5), .val (.int (66 : Int32)), .val (.int ip), .val (.int jp), .val (.int s1), .val (.int s2), .val (.ref b1), .val (.ref r_), .val (.int xv), .val (.int yv), .val (.int (1 : Int32)), .val (.int (1 : Int32)), .val (.ref vg_), .val (.int (0 : Int32))] []) _
        refine stp (fun _ => XS.iconst X53.here hx rfl (hb hby at_274)) ?_
        show Go p e below T53 (mkF m 275 #[.val (.int p0), .val (.int p1), .val (.int p2), .val (.int p3), .val (.int p4), .val (.int p5), .val (.int (66 : Int32)), .val (.int ip), .val (.int jp), .val (.int s1), .val (.int s2), .val (.ref b1), .val (.ref r_), .val (.int xv), .val (.int yv), .val (.int (1 : Int32)), .val (.int (1 : Int32)), .val (.ref vg_), .val (.int (0 : Int32))] [(.int (1 : Int32))]) _
        refine stp (fun _ => XS.goto X53.here hx rfl (pc0 := 275) (pc' := 279) rfl (hb hby at_275) (by decide) (by decide)) ?_
        show Go p e below T53 (mkF m 279 #[.val (.int p0), .val (.int p1), .val (.int p2), .val (.int p3), .val (.int p4), .val (.int p5), .val (.int (66 : Int32)), .val (.int ip), .val (.int jp), .val (.int s1), .val (.int s2), .val (.ref b1), .val (.ref r_), .val (.int xv), .val (.int yv), .val (.int (1 : Int32)), .val (.int (1 : Int32)), .val (.ref vg_), .val (.int (0 : Int32))] [(.int (1 : Int32))]) _
        refine outN X53 hx (t := .boolean) hret (by simp) (hb hby at_279) hlk (by decide) (by decide) ?_
        exact ⟨rfl, N53⟩
      · show Go p e below T51 (mkF m 134 #[.val (.int p0), .val (.int p1), .val (.int p2), .val (.int p3), .val (.int p4), .val (.int p5), .val (.int (66 : Int32)), .val (.int ip), .val (.int jp), .val (.int s1), .val (.int s2), .val (.ref b1), .val (.ref r_), .val (.int xv), .val (.int yv), .val (.int (1 : Int32)), .val (.int (2 : Int32)), .unset, .unset] []) _
        refine stp (fun _ => XS.aload X51.here hx rfl (hb hby at_134) rfl rfl) ?_
        show Go p e below T51 (mkF m 136 #[.val (.int p0), .val (.int p1), .val (.int p2), .val (.int p3), .val (.int p4), .val (.int p5), .val (.int (66 : Int32)), .val (.int ip), .val (.int jp), .val (.int s1), .val (.int s2), .val (.ref b1), .val (.ref r_), .val (.int xv), .val (.int yv), .val (.int (1 : Int32)), .val (.int (2 : Int32)), .unset, .unset] [(.ref r_)]) _
        refine stp (fun _ => XS.iload X51.here hx rfl (hb hby at_136) rfl) ?_
        show Go p e below T51 (mkF m 138 #[.val (.int p0), .val (.int p1), .val (.int p2), .val (.int p3), .val (.int p4), .val (.int p5), .val (.int (66 : Int32)), .val (.int ip), .val (.int jp), .val (.int s1), .val (.int s2), .val (.ref b1), .val (.ref r_), .val (.int xv), .val (.int yv), .val (.int (1 : Int32)), .val (.int (2 : Int32)), .unset, .unset] [(.int xv), (.ref r_)]) _
        refine stp (fun _ => XS.iload X51.here hx rfl (hb hby at_138) rfl) ?_
        show Go p e below T51 (mkF m 140 #[.val (.int p0), .val (.int p1), .val (.int p2), .val (.int p3), .val (.int p4), .val (.int p5), .val (.int (66 : Int32)), .val (.int ip), .val (.int jp), .val (.int s1), .val (.int s2), .val (.ref b1), .val (.ref r_), .val (.int xv), .val (.int yv), .val (.int (1 : Int32)), .val (.int (2 : Int32)), .unset, .unset] [(.int yv), (.int xv), (.ref r_)]) _
        obtain ⟨cq58, kq58, q58a, q58b, q58c⟩ := isOf hZ e51 f41
        obtain ⟨_, _, ⟨T58, L58, k58, n58⟩, -, X58, ⟨Lc58, hQ58, l58, y58, z58⟩, st58⟩ := X51.virtualBack hx (y := (⟨"com/example/brisk_dedup/briskdedup/engine/Sides", "mayPair", "(II)Z"⟩ : MethodName)) (z := (⟨"com/example/brisk_dedup/briskdedup/engine/Sides", "mayPair", "(II)Z"⟩ : MethodName)) hown (mvT hZ (hw _ (List.mem_of_getElem? (i := 40) rfl))) (mvT hZ (hw _ (List.mem_of_getElem? (i := 41) rfl))) (notFace_of_selects (args := #[]) (mvT hZ (hw _ (List.mem_of_getElem? (i := 43) rfl)))) (mvT hZ (hw _ (List.mem_of_getElem? (i := 43) rfl))) (mvT hZ (hw _ (List.mem_of_getElem? (i := 42) rfl))) (by decide) (backOf (W := 0) (rm_mp1 l Z a0 hw [] r_ xv yv vb_ (own_sd ipn s1 jpn s2) xn yn (1 : Int32) kb_ h38 n0 O38 f42 f45 hxn hxl hyn hyl ⟨fun _ => rfl, fun h => absurd (by rw [← hsx, ← hsy]; decide) h⟩) hZ (hw _ (List.mem_of_getElem? (i := 44) rfl)) (hw _ (List.mem_of_getElem? (i := 8) rfl)) (by decide) (by decide)) q58a q58c (g := (mkF m 140 #[.val (.int p0), .val (.int p1), .val (.int p2), .val (.int p3), .val (.int p4), .val (.int p5), .val (.int (66 : Int32)), .val (.int ip), .val (.int jp), .val (.int s1), .val (.int s2), .val (.ref b1), .val (.ref r_), .val (.int xv), .val (.int yv), .val (.int (1 : Int32)), .val (.int (2 : Int32)), .unset, .unset] [(.int yv), (.int xv), (.ref r_)])) rfl (by rw [hml]; rfl) (Steps.refl _) (argsL := [(.int xv), (.int yv)]) (rest := []) (lenOf pd_5 rfl) rfl (by show 2 * 0 + _ ≤ _; exact Nat.le_of_eq rfl) (hb hby at_140) (fun _ _ => ⟨rfl, e51, (by decide : 5 + 0 ≤ _), (by decide : 139 + 0 ≤ _)⟩)
        dsimp only [Pt.U, Pt.locs, Pt.cells, Pt.slots] at X58 l58 y58 z58 st58 hQ58
        subst l58 y58 z58
        obtain ⟨rfl, N58q, e58⟩ := hQ58
        have N58 := Fr.app N51 N58q
        refine stt st58 ?_
        show Go p e below T58 (mkF m 143 #[.val (.int p0), .val (.int p1), .val (.int p2), .val (.int p3), .val (.int p4), .val (.int p5), .val (.int (66 : Int32)), .val (.int ip), .val (.int jp), .val (.int s1), .val (.int s2), .val (.ref b1), .val (.ref r_), .val (.int xv), .val (.int yv), .val (.int (1 : Int32)), .val (.int (2 : Int32)), .unset, .unset] [(.int (1 : Int32))]) _
        refine stp (fun _ => XS.iload X58.here hx rfl (hb hby at_143) rfl) ?_
        show Go p e below T58 (mkF m 145 #[.val (.int p0), .val (.int p1), .val (.int p2), .val (.int p3), .val (.int p4), .val (.int p5), .val (.int (66 : Int32)), .val (.int ip), .val (.int jp), .val (.int s1), .val (.int s2), .val (.ref b1), .val (.ref r_), .val (.int xv), .val (.int yv), .val (.int (1 : Int32)), .val (.int (2 : Int32)), .unset, .unset] [(.int (1 : Int32)), (.int (1 : Int32))]) _
        refine stp (fun _ => XS.iload X58.here hx rfl (hb hby at_145) rfl) ?_
        show Go p e below T58 (mkF m 147 #[.val (.int p0), .val (.int p1), .val (.int p2), .val (.int p3), .val (.int p4), .val (.int p5), .val (.int (66 : Int32)), .val (.int ip), .val (.int jp), .val (.int s1), .val (.int s2), .val (.ref b1), .val (.ref r_), .val (.int xv), .val (.int yv), .val (.int (1 : Int32)), .val (.int (2 : Int32)), .unset, .unset] [(.int (2 : Int32)), (.int (1 : Int32)), (.int (1 : Int32))]) _
        refine stp (fun _ => XS.ior X58.here hx rfl (hb hby at_147) rfl) ?_
        show Go p e below T58 (mkF m 148 #[.val (.int p0), .val (.int p1), .val (.int p2), .val (.int p3), .val (.int p4), .val (.int p5), .val (.int (66 : Int32)), .val (.int ip), .val (.int jp), .val (.int s1), .val (.int s2), .val (.ref b1), .val (.ref r_), .val (.int xv), .val (.int yv), .val (.int (1 : Int32)), .val (.int (2 : Int32)), .unset, .unset] [(.int (3 : Int32)), (.int (1 : Int32))]) _
        refine stp (fun _ => XS.iconst X58.here hx rfl (hb hby at_148)) ?_
        show Go p e below T58 (mkF m 149 #[.val (.int p0), .val (.int p1), .val (.int p2), .val (.int p3), .val (.int p4), .val (.int p5), .val (.int (66 : Int32)), .val (.int ip), .val (.int jp), .val (.int s1), .val (.int s2), .val (.ref b1), .val (.ref r_), .val (.int xv), .val (.int yv), .val (.int (1 : Int32)), .val (.int (2 : Int32)), .unset, .unset] [(.int (3 : Int32)), (.int (3 : Int32)), (.int (1 : Int32))]) _
        refine stp (fun _ => XS.icmpNo X58.here hx rfl (hb hby at_149) rfl (by decide)) ?_
        show Go p e below T58 (mkF m 152 #[.val (.int p0), .val (.int p1), .val (.int p2), .val (.int p3), .val (.int p4), .val (.int p5), .val (.int (66 : Int32)), .val (.int ip), .val (.int jp), .val (.int s1), .val (.int s2), .val (.ref b1), .val (.ref r_), .val (.int xv), .val (.int yv), .val (.int (1 : Int32)), .val (.int (2 : Int32)), .unset, .unset] [(.int (1 : Int32))]) _
        refine stp (fun _ => XS.iconst X58.here hx rfl (hb hby at_152)) ?_
        show Go p e below T58 (mkF m 153 #[.val (.int p0), .val (.int p1), .val (.int p2), .val (.int p3), .val (.int p4), .val (.int p5), .val (.int (66 : Int32)), .val (.int ip), .val (.int jp), .val (.int s1), .val (.int s2), .val (.ref b1), .val (.ref r_), .val (.int xv), .val (.int yv), .val (.int (1 : Int32)), .val (.int (2 : Int32)), .unset, .unset] [(.int (1 : Int32)), (.int (1 : Int32))]) _
        refine stp (fun _ => XS.goto X58.here hx rfl (pc0 := 153) (pc' := 157) rfl (hb hby at_153) (by decide) (by decide)) ?_
        show Go p e below T58 (mkF m 157 #[.val (.int p0), .val (.int p1), .val (.int p2), .val (.int p3), .val (.int p4), .val (.int p5), .val (.int (66 : Int32)), .val (.int ip), .val (.int jp), .val (.int s1), .val (.int s2), .val (.ref b1), .val (.ref r_), .val (.int xv), .val (.int yv), .val (.int (1 : Int32)), .val (.int (2 : Int32)), .unset, .unset] [(.int (1 : Int32)), (.int (1 : Int32))]) _
        refine stp (fun _ => XS.icmpYes X58.here hx rfl (pc0 := 157) (pc' := 162) rfl (hb hby at_157) rfl (by decide) (by decide) (by decide)) ?_
        show Go p e below T58 (mkF m 162 #[.val (.int p0), .val (.int p1), .val (.int p2), .val (.int p3), .val (.int p4), .val (.int p5), .val (.int (66 : Int32)), .val (.int ip), .val (.int jp), .val (.int s1), .val (.int s2), .val (.ref b1), .val (.ref r_), .val (.int xv), .val (.int yv), .val (.int (1 : Int32)), .val (.int (2 : Int32)), .unset, .unset] []) _
        refine stp (fun _ => XS.aload X58.here hx rfl (hb hby at_162) rfl rfl) ?_
        show Go p e below T58 (mkF m 164 #[.val (.int p0), .val (.int p1), .val (.int p2), .val (.int p3), .val (.int p4), .val (.int p5), .val (.int (66 : Int32)), .val (.int ip), .val (.int jp), .val (.int s1), .val (.int s2), .val (.ref b1), .val (.ref r_), .val (.int xv), .val (.int yv), .val (.int (1 : Int32)), .val (.int (2 : Int32)), .unset, .unset] [(.ref r_)]) _
        refine stp (fun _ => XS.iload X58.here hx rfl (hb hby at_164) rfl) ?_
        show Go p e below T58 (mkF m 166 #[.val (.int p0), .val (.int p1), .val (.int p2), .val (.int p3), .val (.int p4), .val (.int p5), .val (.int (66 : Int32)), .val (.int ip), .val (.int jp), .val (.int s1), .val (.int s2), .val (.ref b1), .val (.ref r_), .val (.int xv), .val (.int yv), .val (.int (1 : Int32)), .val (.int (2 : Int32)), .unset, .unset] [(.int xv), (.ref r_)]) _
        obtain ⟨cq59, kq59, q59a, q59b, q59c⟩ := isOf hZ e58 f41
        obtain ⟨_, _, ⟨T59, L59, k59, n59⟩, -, X59, ⟨Lc59, hQ59, l59, y59, z59⟩, st59⟩ := X58.virtualBack hx (y := (⟨"com/example/brisk_dedup/briskdedup/engine/Sides", "partners", "(I)[J"⟩ : MethodName)) (z := (⟨"com/example/brisk_dedup/briskdedup/engine/Sides", "partners", "(I)[J"⟩ : MethodName)) hown (mvT hZ (hw _ (List.mem_of_getElem? (i := 45) rfl))) (mvT hZ (hw _ (List.mem_of_getElem? (i := 46) rfl))) (notFace_of_selects (args := #[]) (mvT hZ (hw _ (List.mem_of_getElem? (i := 48) rfl)))) (mvT hZ (hw _ (List.mem_of_getElem? (i := 48) rfl))) (mvT hZ (hw _ (List.mem_of_getElem? (i := 47) rfl))) (by decide) (backOf (W := 0) (rm_pa1 l Z a0 hw [] r_ xv vb_ (own_sd ipn s1 jpn s2) xn vg_ kb_ h38 n0 O38 f42 f45 f44 hxn hxl hsx.symm) hZ (hw _ (List.mem_of_getElem? (i := 49) rfl)) (hw _ (List.mem_of_getElem? (i := 8) rfl)) (by decide) (by decide)) q59a q59c (g := (mkF m 166 #[.val (.int p0), .val (.int p1), .val (.int p2), .val (.int p3), .val (.int p4), .val (.int p5), .val (.int (66 : Int32)), .val (.int ip), .val (.int jp), .val (.int s1), .val (.int s2), .val (.ref b1), .val (.ref r_), .val (.int xv), .val (.int yv), .val (.int (1 : Int32)), .val (.int (2 : Int32)), .unset, .unset] [(.int xv), (.ref r_)])) rfl (by rw [hml]; rfl) (Steps.refl _) (argsL := [(.int xv)]) (rest := []) (lenOf pd_6 rfl) rfl (by show 2 * 0 + _ ≤ _; exact Nat.le_of_eq rfl) (hb hby at_166) (fun _ _ => ⟨rfl, e58, (by decide : 5 + 0 ≤ _), (by decide : 139 + 0 ≤ _)⟩)
        dsimp only [Pt.U, Pt.locs, Pt.cells, Pt.slots] at X59 l59 y59 z59 st59 hQ59
        subst l59 y59 z59
        obtain ⟨rfl, N59q, e59⟩ := hQ59
        have N59 := Fr.app N58 N59q
        refine stt st59 ?_
        show Go p e below T59 (mkF m 169 #[.val (.int p0), .val (.int p1), .val (.int p2), .val (.int p3), .val (.int p4), .val (.int p5), .val (.int (66 : Int32)), .val (.int ip), .val (.int jp), .val (.int s1), .val (.int s2), .val (.ref b1), .val (.ref r_), .val (.int xv), .val (.int yv), .val (.int (1 : Int32)), .val (.int (2 : Int32)), .unset, .unset] [(.ref vg_)]) _
        refine stp (fun _ => XS.astore X59.here hx rfl (hb hby at_169) rfl rfl (l' := #[.val (.int p0), .val (.int p1), .val (.int p2), .val (.int p3), .val (.int p4), .val (.int p5), .val (.int (66 : Int32)), .val (.int ip), .val (.int jp), .val (.int s1), .val (.int s2), .val (.ref b1), .val (.ref r_), .val (.int xv), .val (.int yv), .val (.int (1 : Int32)), .val (.int (2 : Int32)), .val (.ref vg_), .unset]) rfl) ?_
        show Go p e below T59 (mkF m 171 #[.val (.int p0), .val (.int p1), .val (.int p2), .val (.int p3), .val (.int p4), .val (.int p5), .val (.int (66 : Int32)), .val (.int ip), .val (.int jp), .val (.int s1), .val (.int s2), .val (.ref b1), .val (.ref r_), .val (.int xv), .val (.int yv), .val (.int (1 : Int32)), .val (.int (2 : Int32)), .val (.ref vg_), .unset] []) _
        refine stp (fun _ => XS.iload X59.here hx rfl (hb hby at_171) rfl) ?_
        show Go p e below T59 (mkF m 173 #[.val (.int p0), .val (.int p1), .val (.int p2), .val (.int p3), .val (.int p4), .val (.int p5), .val (.int (66 : Int32)), .val (.int ip), .val (.int jp), .val (.int s1), .val (.int s2), .val (.ref b1), .val (.ref r_), .val (.int xv), .val (.int yv), .val (.int (1 : Int32)), .val (.int (2 : Int32)), .val (.ref vg_), .unset] [(.int (1 : Int32))]) _
        refine stp (fun _ => XS.iconst X59.here hx rfl (hb hby at_173)) ?_
        show Go p e below T59 (mkF m 174 #[.val (.int p0), .val (.int p1), .val (.int p2), .val (.int p3), .val (.int p4), .val (.int p5), .val (.int (66 : Int32)), .val (.int ip), .val (.int jp), .val (.int s1), .val (.int s2), .val (.ref b1), .val (.ref r_), .val (.int xv), .val (.int yv), .val (.int (1 : Int32)), .val (.int (2 : Int32)), .val (.ref vg_), .unset] [(.int (3 : Int32)), (.int (1 : Int32))]) _
        refine stp (fun _ => XS.icmpYes X59.here hx rfl (pc0 := 174) (pc' := 188) rfl (hb hby at_174) rfl (by decide) (by decide) (by decide)) ?_
        show Go p e below T59 (mkF m 188 #[.val (.int p0), .val (.int p1), .val (.int p2), .val (.int p3), .val (.int p4), .val (.int p5), .val (.int (66 : Int32)), .val (.int ip), .val (.int jp), .val (.int s1), .val (.int s2), .val (.ref b1), .val (.ref r_), .val (.int xv), .val (.int yv), .val (.int (1 : Int32)), .val (.int (2 : Int32)), .val (.ref vg_), .unset] []) _
        refine stp (fun _ => XS.aload X59.here hx rfl (hb hby at_188) rfl rfl) ?_
        show Go p e below T59 (mkF m 190 #[.val (.int p0), .val (.int p1), .val (.int p2), .val (.int p3), .val (.int p4), .val (.int p5), .val (.int (66 : Int32)), .val (.int ip), .val (.int jp), .val (.int s1), .val (.int s2), .val (.ref b1), .val (.ref r_), .val (.int xv), .val (.int yv), .val (.int (1 : Int32)), .val (.int (2 : Int32)), .val (.ref vg_), .unset] [(.ref vg_)]) _
        refine stp (fun _ => XS.ifnullNo X59.here hx rfl (hb hby at_190) rfl) ?_
        show Go p e below T59 (mkF m 193 #[.val (.int p0), .val (.int p1), .val (.int p2), .val (.int p3), .val (.int p4), .val (.int p5), .val (.int (66 : Int32)), .val (.int ip), .val (.int jp), .val (.int s1), .val (.int s2), .val (.ref b1), .val (.ref r_), .val (.int xv), .val (.int yv), .val (.int (1 : Int32)), .val (.int (2 : Int32)), .val (.ref vg_), .unset] []) _
        refine stp (fun _ => XS.aload X59.here hx rfl (hb hby at_193) rfl rfl) ?_
        show Go p e below T59 (mkF m 195 #[.val (.int p0), .val (.int p1), .val (.int p2), .val (.int p3), .val (.int p4), .val (.int p5), .val (.int (66 : Int32)), .val (.int ip), .val (.int jp), .val (.int s1), .val (.int s2), .val (.ref b1), .val (.ref r_), .val (.int xv), .val (.int yv), .val (.int (1 : Int32)), .val (.int (2 : Int32)), .val (.ref vg_), .unset] [(.ref vg_)]) _
        obtain ⟨cl60, Ar60, -, S60, -, -⟩ := (id f47)
        refine stp (fun _ => X59.arraylength hx (by rw [e59]; exact Ar60.1) (State.isArrayOf_alike hZ.alike Ar60.2.1) (g := (mkF m 195 #[.val (.int p0), .val (.int p1), .val (.int p2), .val (.int p3), .val (.int p4), .val (.int p5), .val (.int (66 : Int32)), .val (.int ip), .val (.int jp), .val (.int s1), .val (.int s2), .val (.ref b1), .val (.ref r_), .val (.int xv), .val (.int yv), .val (.int (1 : Int32)), .val (.int (2 : Int32)), .val (.ref vg_), .unset] [(.ref vg_)])) rfl rfl (hb hby at_195) _) ?_
        rw [arf_len S60 (z := (2 : Int32)) (by decide)]
        show Go p e below T59 (mkF m 196 #[.val (.int p0), .val (.int p1), .val (.int p2), .val (.int p3), .val (.int p4), .val (.int p5), .val (.int (66 : Int32)), .val (.int ip), .val (.int jp), .val (.int s1), .val (.int s2), .val (.ref b1), .val (.ref r_), .val (.int xv), .val (.int yv), .val (.int (1 : Int32)), .val (.int (2 : Int32)), .val (.ref vg_), .unset] [(.int (2 : Int32))]) _
        refine stp (fun _ => XS.iload X59.here hx rfl (hb hby at_196) rfl) ?_
        show Go p e below T59 (mkF m 198 #[.val (.int p0), .val (.int p1), .val (.int p2), .val (.int p3), .val (.int p4), .val (.int p5), .val (.int (66 : Int32)), .val (.int ip), .val (.int jp), .val (.int s1), .val (.int s2), .val (.ref b1), .val (.ref r_), .val (.int xv), .val (.int yv), .val (.int (1 : Int32)), .val (.int (2 : Int32)), .val (.ref vg_), .unset] [(.int yv), (.int (2 : Int32))]) _
        refine stp (fun _ => XS.bipush X59.here hx rfl (hb hby at_198)) ?_
        show Go p e below T59 (mkF m 200 #[.val (.int p0), .val (.int p1), .val (.int p2), .val (.int p3), .val (.int p4), .val (.int p5), .val (.int (66 : Int32)), .val (.int ip), .val (.int jp), .val (.int s1), .val (.int s2), .val (.ref b1), .val (.ref r_), .val (.int xv), .val (.int yv), .val (.int (1 : Int32)), .val (.int (2 : Int32)), .val (.ref vg_), .unset] [(.int (6 : Int32)), (.int yv), (.int (2 : Int32))]) _
        refine stp (fun _ => XS.iushr X59.here hx rfl (hb hby at_200) rfl) ?_
        show Go p e below T59 (mkF m 201 #[.val (.int p0), .val (.int p1), .val (.int p2), .val (.int p3), .val (.int p4), .val (.int p5), .val (.int (66 : Int32)), .val (.int ip), .val (.int jp), .val (.int s1), .val (.int s2), .val (.ref b1), .val (.ref r_), .val (.int xv), .val (.int yv), .val (.int (1 : Int32)), .val (.int (2 : Int32)), .val (.ref vg_), .unset] [(.int ((yv.toUInt32 >>> ((6 : Int32) &&& 31).toUInt32).toInt32)), (.int (2 : Int32))]) _
        refine stp (fun _ => XS.icmpYes X59.here hx rfl (pc0 := 201) (pc' := 206) rfl (hb hby at_201) rfl (XT.ii_gt_t (own_lt2 hyn hyl)) (by decide) (by decide)) ?_
        show Go p e below T59 (mkF m 206 #[.val (.int p0), .val (.int p1), .val (.int p2), .val (.int p3), .val (.int p4), .val (.int p5), .val (.int (66 : Int32)), .val (.int ip), .val (.int jp), .val (.int s1), .val (.int s2), .val (.ref b1), .val (.ref r_), .val (.int xv), .val (.int yv), .val (.int (1 : Int32)), .val (.int (2 : Int32)), .val (.ref vg_), .unset] []) _
        refine stp (fun _ => XS.aload X59.here hx rfl (hb hby at_206) rfl rfl) ?_
        show Go p e below T59 (mkF m 208 #[.val (.int p0), .val (.int p1), .val (.int p2), .val (.int p3), .val (.int p4), .val (.int p5), .val (.int (66 : Int32)), .val (.int ip), .val (.int jp), .val (.int s1), .val (.int s2), .val (.ref b1), .val (.ref r_), .val (.int xv), .val (.int yv), .val (.int (1 : Int32)), .val (.int (2 : Int32)), .val (.ref vg_), .unset] [(.ref vg_)]) _
        obtain ⟨cl61, Ar61, -, S61, -, -⟩ := (id f47)
        refine stp (fun _ => X59.arraylength hx (by rw [e59]; exact Ar61.1) (State.isArrayOf_alike hZ.alike Ar61.2.1) (g := (mkF m 208 #[.val (.int p0), .val (.int p1), .val (.int p2), .val (.int p3), .val (.int p4), .val (.int p5), .val (.int (66 : Int32)), .val (.int ip), .val (.int jp), .val (.int s1), .val (.int s2), .val (.ref b1), .val (.ref r_), .val (.int xv), .val (.int yv), .val (.int (1 : Int32)), .val (.int (2 : Int32)), .val (.ref vg_), .unset] [(.ref vg_)])) rfl rfl (hb hby at_208) _) ?_
        rw [arf_len S61 (z := (2 : Int32)) (by decide)]
        show Go p e below T59 (mkF m 209 #[.val (.int p0), .val (.int p1), .val (.int p2), .val (.int p3), .val (.int p4), .val (.int p5), .val (.int (66 : Int32)), .val (.int ip), .val (.int jp), .val (.int s1), .val (.int s2), .val (.ref b1), .val (.ref r_), .val (.int xv), .val (.int yv), .val (.int (1 : Int32)), .val (.int (2 : Int32)), .val (.ref vg_), .unset] [(.int (2 : Int32))]) _
        refine stp (fun _ => XS.iconst X59.here hx rfl (hb hby at_209)) ?_
        show Go p e below T59 (mkF m 210 #[.val (.int p0), .val (.int p1), .val (.int p2), .val (.int p3), .val (.int p4), .val (.int p5), .val (.int (66 : Int32)), .val (.int ip), .val (.int jp), .val (.int s1), .val (.int s2), .val (.ref b1), .val (.ref r_), .val (.int xv), .val (.int yv), .val (.int (1 : Int32)), .val (.int (2 : Int32)), .val (.ref vg_), .unset] [(.int (1 : Int32)), (.int (2 : Int32))]) _
        refine stp (fun _ => XS.icmpNo X59.here hx rfl (hb hby at_210) rfl (by decide)) ?_
        show Go p e below T59 (mkF m 213 #[.val (.int p0), .val (.int p1), .val (.int p2), .val (.int p3), .val (.int p4), .val (.int p5), .val (.int (66 : Int32)), .val (.int ip), .val (.int jp), .val (.int s1), .val (.int s2), .val (.ref b1), .val (.ref r_), .val (.int xv), .val (.int yv), .val (.int (1 : Int32)), .val (.int (2 : Int32)), .val (.ref vg_), .unset] []) _
        refine stp (fun _ => XS.aload X59.here hx rfl (hb hby at_213) rfl rfl) ?_
        show Go p e below T59 (mkF m 215 #[.val (.int p0), .val (.int p1), .val (.int p2), .val (.int p3), .val (.int p4), .val (.int p5), .val (.int (66 : Int32)), .val (.int ip), .val (.int jp), .val (.int s1), .val (.int s2), .val (.ref b1), .val (.ref r_), .val (.int xv), .val (.int yv), .val (.int (1 : Int32)), .val (.int (2 : Int32)), .val (.ref vg_), .unset] [(.ref vg_)]) _
        refine stp (fun _ => XS.iconst X59.here hx rfl (hb hby at_215)) ?_
        show Go p e below T59 (mkF m 216 #[.val (.int p0), .val (.int p1), .val (.int p2), .val (.int p3), .val (.int p4), .val (.int p5), .val (.int (66 : Int32)), .val (.int ip), .val (.int jp), .val (.int s1), .val (.int s2), .val (.ref b1), .val (.ref r_), .val (.int xv), .val (.int yv), .val (.int (1 : Int32)), .val (.int (2 : Int32)), .val (.ref vg_), .unset] [(.int (1 : Int32)), (.ref vg_)]) _
        obtain ⟨cl62, Ar62, q62, S62, H62, G62⟩ := (id f47)
        have in62 : ¬ ((1 : Int32) < 0 ∨ cl62.slots.size ≤ ((1 : Int32)).toNatClampNeg) := arf_in S62 (show (1 : Int32).toInt = ((1 : Nat) : Int) by decide) (by decide)
        have at62 : cl62.slots[((1 : Int32)).toNatClampNeg]? = some (.long (own_bits 2 (own_sd ipn s1 jpn s2) 66 1)) := arf_at H62 (show (1 : Int32).toInt = ((1 : Nat) : Int) by decide) (by decide)
        refine stp (fun _ => X59.laload hx (j := (1 : Int32)) (v := (.long (own_bits 2 (own_sd ipn s1 jpn s2) 66 1))) (by rw [e59]; exact Ar62.1) (State.isArrayOf_alike hZ.alike Ar62.2.1) Ar62.2.2 in62 at62 (g := (mkF m 216 #[.val (.int p0), .val (.int p1), .val (.int p2), .val (.int p3), .val (.int p4), .val (.int p5), .val (.int (66 : Int32)), .val (.int ip), .val (.int jp), .val (.int s1), .val (.int s2), .val (.ref b1), .val (.ref r_), .val (.int xv), .val (.int yv), .val (.int (1 : Int32)), .val (.int (2 : Int32)), .val (.ref vg_), .unset] [(.int (1 : Int32)), (.ref vg_)])) rfl rfl (hb hby at_216) _) ?_
        show Go p e below T59 (mkF m 217 #[.val (.int p0), .val (.int p1), .val (.int p2), .val (.int p3), .val (.int p4), .val (.int p5), .val (.int (66 : Int32)), .val (.int ip), .val (.int jp), .val (.int s1), .val (.int s2), .val (.ref b1), .val (.ref r_), .val (.int xv), .val (.int yv), .val (.int (1 : Int32)), .val (.int (2 : Int32)), .val (.ref vg_), .unset] [(.long (own_bits 2 (own_sd ipn s1 jpn s2) 66 1))]) _
        refine stp (fun _ => XS.iconst X59.here hx rfl (hb hby at_217)) ?_
        show Go p e below T59 (mkF m 218 #[.val (.int p0), .val (.int p1), .val (.int p2), .val (.int p3), .val (.int p4), .val (.int p5), .val (.int (66 : Int32)), .val (.int ip), .val (.int jp), .val (.int s1), .val (.int s2), .val (.ref b1), .val (.ref r_), .val (.int xv), .val (.int yv), .val (.int (1 : Int32)), .val (.int (2 : Int32)), .val (.ref vg_), .unset] [(.int (2 : Int32)), (.long (own_bits 2 (own_sd ipn s1 jpn s2) 66 1))]) _
        refine stp (fun _ => XS.lushr X59.here hx rfl (hb hby at_218) rfl) ?_
        show Go p e below T59 (mkF m 219 #[.val (.int p0), .val (.int p1), .val (.int p2), .val (.int p3), .val (.int p4), .val (.int p5), .val (.int (66 : Int32)), .val (.int ip), .val (.int jp), .val (.int s1), .val (.int s2), .val (.ref b1), .val (.ref r_), .val (.int xv), .val (.int yv), .val (.int (1 : Int32)), .val (.int (2 : Int32)), .val (.ref vg_), .unset] [(.long (((own_bits 2 (own_sd ipn s1 jpn s2) 66 1).toUInt64 >>> ((2 : Int32) &&& 0x3f).toInt64.toUInt64).toInt64))]) _
        refine stp (fun _ => XS.lconst X59.here hx rfl (hb hby at_219)) ?_
        show Go p e below T59 (mkF m 220 #[.val (.int p0), .val (.int p1), .val (.int p2), .val (.int p3), .val (.int p4), .val (.int p5), .val (.int (66 : Int32)), .val (.int ip), .val (.int jp), .val (.int s1), .val (.int s2), .val (.ref b1), .val (.ref r_), .val (.int xv), .val (.int yv), .val (.int (1 : Int32)), .val (.int (2 : Int32)), .val (.ref vg_), .unset] [(.long (0 : Int64)), (.long (((own_bits 2 (own_sd ipn s1 jpn s2) 66 1).toUInt64 >>> ((2 : Int32) &&& 0x3f).toInt64.toUInt64).toInt64))]) _
        refine stp (fun _ => XS.lcmp X59.here hx rfl (hb hby at_220) rfl) ?_
        show Go p e below T59 (mkF m 221 #[.val (.int p0), .val (.int p1), .val (.int p2), .val (.int p3), .val (.int p4), .val (.int p5), .val (.int (66 : Int32)), .val (.int ip), .val (.int jp), .val (.int s1), .val (.int s2), .val (.ref b1), .val (.ref r_), .val (.int xv), .val (.int yv), .val (.int (1 : Int32)), .val (.int (2 : Int32)), .val (.ref vg_), .unset] [(.int (lcmpW (((own_bits 2 (own_sd ipn s1 jpn s2) 66 1).toUInt64 >>> ((2 : Int32) &&& 0x3f).toInt64.toUInt64).toInt64) (0 : Int64)))]) _
        refine stp (fun _ => XS.ifYes X59.here hx rfl (pc0 := 221) (pc' := 226) rfl (hb hby at_221) rfl (XT.ll_eq_t (own_top _ _)) (by decide) (by decide)) ?_
        show Go p e below T59 (mkF m 226 #[.val (.int p0), .val (.int p1), .val (.int p2), .val (.int p3), .val (.int p4), .val (.int p5), .val (.int (66 : Int32)), .val (.int ip), .val (.int jp), .val (.int s1), .val (.int s2), .val (.ref b1), .val (.ref r_), .val (.int xv), .val (.int yv), .val (.int (1 : Int32)), .val (.int (2 : Int32)), .val (.ref vg_), .unset] []) _
        refine stp (fun _ => XS.aload X59.here hx rfl (hb hby at_226) rfl rfl) ?_
        show Go p e below T59 (mkF m 228 #[.val (.int p0), .val (.int p1), .val (.int p2), .val (.int p3), .val (.int p4), .val (.int p5), .val (.int (66 : Int32)), .val (.int ip), .val (.int jp), .val (.int s1), .val (.int s2), .val (.ref b1), .val (.ref r_), .val (.int xv), .val (.int yv), .val (.int (1 : Int32)), .val (.int (2 : Int32)), .val (.ref vg_), .unset] [(.ref vg_)]) _
        refine stp (fun _ => XS.iload X59.here hx rfl (hb hby at_228) rfl) ?_
        show Go p e below T59 (mkF m 230 #[.val (.int p0), .val (.int p1), .val (.int p2), .val (.int p3), .val (.int p4), .val (.int p5), .val (.int (66 : Int32)), .val (.int ip), .val (.int jp), .val (.int s1), .val (.int s2), .val (.ref b1), .val (.ref r_), .val (.int xv), .val (.int yv), .val (.int (1 : Int32)), .val (.int (2 : Int32)), .val (.ref vg_), .unset] [(.int yv), (.ref vg_)]) _
        refine stp (fun _ => XS.bipush X59.here hx rfl (hb hby at_230)) ?_
        show Go p e below T59 (mkF m 232 #[.val (.int p0), .val (.int p1), .val (.int p2), .val (.int p3), .val (.int p4), .val (.int p5), .val (.int (66 : Int32)), .val (.int ip), .val (.int jp), .val (.int s1), .val (.int s2), .val (.ref b1), .val (.ref r_), .val (.int xv), .val (.int yv), .val (.int (1 : Int32)), .val (.int (2 : Int32)), .val (.ref vg_), .unset] [(.int (6 : Int32)), (.int yv), (.ref vg_)]) _
        refine stp (fun _ => XS.iushr X59.here hx rfl (hb hby at_232) rfl) ?_
        show Go p e below T59 (mkF m 233 #[.val (.int p0), .val (.int p1), .val (.int p2), .val (.int p3), .val (.int p4), .val (.int p5), .val (.int (66 : Int32)), .val (.int ip), .val (.int jp), .val (.int s1), .val (.int s2), .val (.ref b1), .val (.ref r_), .val (.int xv), .val (.int yv), .val (.int (1 : Int32)), .val (.int (2 : Int32)), .val (.ref vg_), .unset] [(.int ((yv.toUInt32 >>> ((6 : Int32) &&& 31).toUInt32).toInt32)), (.ref vg_)]) _
        obtain ⟨cl63, Ar63, q63, S63, H63, G63⟩ := (id f47)
        have in63 : ¬ (((yv.toUInt32 >>> ((6 : Int32) &&& 31).toUInt32).toInt32) < 0 ∨ cl63.slots.size ≤ (((yv.toUInt32 >>> ((6 : Int32) &&& 31).toUInt32).toInt32)).toNatClampNeg) := arf_in S63 (own_div hyn) (own_d2 hyl)
        have at63 : cl63.slots[(((yv.toUInt32 >>> ((6 : Int32) &&& 31).toUInt32).toInt32)).toNatClampNeg]? = some (.long (own_bits 2 (own_sd ipn s1 jpn s2) 66 (yn / 64))) := arf_at H63 (own_div hyn) (own_d2 hyl)
        refine stp (fun _ => X59.laload hx (j := ((yv.toUInt32 >>> ((6 : Int32) &&& 31).toUInt32).toInt32)) (v := (.long (own_bits 2 (own_sd ipn s1 jpn s2) 66 (yn / 64)))) (by rw [e59]; exact Ar63.1) (State.isArrayOf_alike hZ.alike Ar63.2.1) Ar63.2.2 in63 at63 (g := (mkF m 233 #[.val (.int p0), .val (.int p1), .val (.int p2), .val (.int p3), .val (.int p4), .val (.int p5), .val (.int (66 : Int32)), .val (.int ip), .val (.int jp), .val (.int s1), .val (.int s2), .val (.ref b1), .val (.ref r_), .val (.int xv), .val (.int yv), .val (.int (1 : Int32)), .val (.int (2 : Int32)), .val (.ref vg_), .unset] [(.int ((yv.toUInt32 >>> ((6 : Int32) &&& 31).toUInt32).toInt32)), (.ref vg_)])) rfl rfl (hb hby at_233) _) ?_
        show Go p e below T59 (mkF m 234 #[.val (.int p0), .val (.int p1), .val (.int p2), .val (.int p3), .val (.int p4), .val (.int p5), .val (.int (66 : Int32)), .val (.int ip), .val (.int jp), .val (.int s1), .val (.int s2), .val (.ref b1), .val (.ref r_), .val (.int xv), .val (.int yv), .val (.int (1 : Int32)), .val (.int (2 : Int32)), .val (.ref vg_), .unset] [(.long (own_bits 2 (own_sd ipn s1 jpn s2) 66 (yn / 64)))]) _
        refine stp (fun _ => XS.iload X59.here hx rfl (hb hby at_234) rfl) ?_
        show Go p e below T59 (mkF m 236 #[.val (.int p0), .val (.int p1), .val (.int p2), .val (.int p3), .val (.int p4), .val (.int p5), .val (.int (66 : Int32)), .val (.int ip), .val (.int jp), .val (.int s1), .val (.int s2), .val (.ref b1), .val (.ref r_), .val (.int xv), .val (.int yv), .val (.int (1 : Int32)), .val (.int (2 : Int32)), .val (.ref vg_), .unset] [(.int yv), (.long (own_bits 2 (own_sd ipn s1 jpn s2) 66 (yn / 64)))]) _
        refine stp (fun _ => XS.bipush X59.here hx rfl (hb hby at_236)) ?_
        show Go p e below T59 (mkF m 238 #[.val (.int p0), .val (.int p1), .val (.int p2), .val (.int p3), .val (.int p4), .val (.int p5), .val (.int (66 : Int32)), .val (.int ip), .val (.int jp), .val (.int s1), .val (.int s2), .val (.ref b1), .val (.ref r_), .val (.int xv), .val (.int yv), .val (.int (1 : Int32)), .val (.int (2 : Int32)), .val (.ref vg_), .unset] [(.int (63 : Int32)), (.int yv), (.long (own_bits 2 (own_sd ipn s1 jpn s2) 66 (yn / 64)))]) _
        refine stp (fun _ => XS.iand X59.here hx rfl (hb hby at_238) rfl) ?_
        show Go p e below T59 (mkF m 239 #[.val (.int p0), .val (.int p1), .val (.int p2), .val (.int p3), .val (.int p4), .val (.int p5), .val (.int (66 : Int32)), .val (.int ip), .val (.int jp), .val (.int s1), .val (.int s2), .val (.ref b1), .val (.ref r_), .val (.int xv), .val (.int yv), .val (.int (1 : Int32)), .val (.int (2 : Int32)), .val (.ref vg_), .unset] [(.int (yv &&& (63 : Int32))), (.long (own_bits 2 (own_sd ipn s1 jpn s2) 66 (yn / 64)))]) _
        refine stp (fun _ => XS.lushr X59.here hx rfl (hb hby at_239) rfl) ?_
        show Go p e below T59 (mkF m 240 #[.val (.int p0), .val (.int p1), .val (.int p2), .val (.int p3), .val (.int p4), .val (.int p5), .val (.int (66 : Int32)), .val (.int ip), .val (.int jp), .val (.int s1), .val (.int s2), .val (.ref b1), .val (.ref r_), .val (.int xv), .val (.int yv), .val (.int (1 : Int32)), .val (.int (2 : Int32)), .val (.ref vg_), .unset] [(.long (((own_bits 2 (own_sd ipn s1 jpn s2) 66 (yn / 64)).toUInt64 >>> ((yv &&& (63 : Int32)) &&& 0x3f).toInt64.toUInt64).toInt64))]) _
        refine stp (fun _ => XS.lconst X59.here hx rfl (hb hby at_240)) ?_
        show Go p e below T59 (mkF m 241 #[.val (.int p0), .val (.int p1), .val (.int p2), .val (.int p3), .val (.int p4), .val (.int p5), .val (.int (66 : Int32)), .val (.int ip), .val (.int jp), .val (.int s1), .val (.int s2), .val (.ref b1), .val (.ref r_), .val (.int xv), .val (.int yv), .val (.int (1 : Int32)), .val (.int (2 : Int32)), .val (.ref vg_), .unset] [(.long (1 : Int64)), (.long (((own_bits 2 (own_sd ipn s1 jpn s2) 66 (yn / 64)).toUInt64 >>> ((yv &&& (63 : Int32)) &&& 0x3f).toInt64.toUInt64).toInt64))]) _
        refine stp (fun _ => XS.land X59.here hx rfl (hb hby at_241) rfl) ?_
        show Go p e below T59 (mkF m 242 #[.val (.int p0), .val (.int p1), .val (.int p2), .val (.int p3), .val (.int p4), .val (.int p5), .val (.int (66 : Int32)), .val (.int ip), .val (.int jp), .val (.int s1), .val (.int s2), .val (.ref b1), .val (.ref r_), .val (.int xv), .val (.int yv), .val (.int (1 : Int32)), .val (.int (2 : Int32)), .val (.ref vg_), .unset] [(.long ((((own_bits 2 (own_sd ipn s1 jpn s2) 66 (yn / 64)).toUInt64 >>> ((yv &&& (63 : Int32)) &&& 0x3f).toInt64.toUInt64).toInt64) &&& (1 : Int64)))]) _
        refine stp (fun _ => XS.lconst X59.here hx rfl (hb hby at_242)) ?_
        show Go p e below T59 (mkF m 243 #[.val (.int p0), .val (.int p1), .val (.int p2), .val (.int p3), .val (.int p4), .val (.int p5), .val (.int (66 : Int32)), .val (.int ip), .val (.int jp), .val (.int s1), .val (.int s2), .val (.ref b1), .val (.ref r_), .val (.int xv), .val (.int yv), .val (.int (1 : Int32)), .val (.int (2 : Int32)), .val (.ref vg_), .unset] [(.long (0 : Int64)), (.long ((((own_bits 2 (own_sd ipn s1 jpn s2) 66 (yn / 64)).toUInt64 >>> ((yv &&& (63 : Int32)) &&& 0x3f).toInt64.toUInt64).toInt64) &&& (1 : Int64)))]) _
        refine stp (fun _ => XS.lcmp X59.here hx rfl (hb hby at_243) rfl) ?_
        show Go p e below T59 (mkF m 244 #[.val (.int p0), .val (.int p1), .val (.int p2), .val (.int p3), .val (.int p4), .val (.int p5), .val (.int (66 : Int32)), .val (.int ip), .val (.int jp), .val (.int s1), .val (.int s2), .val (.ref b1), .val (.ref r_), .val (.int xv), .val (.int yv), .val (.int (1 : Int32)), .val (.int (2 : Int32)), .val (.ref vg_), .unset] [(.int (lcmpW ((((own_bits 2 (own_sd ipn s1 jpn s2) 66 (yn / 64)).toUInt64 >>> ((yv &&& (63 : Int32)) &&& 0x3f).toInt64.toUInt64).toInt64) &&& (1 : Int64)) (0 : Int64)))]) _
        refine stp (fun _ => XS.ifNo X59.here hx rfl (hb hby at_244) rfl (XT.ll_eq_f (own_bit1 hyn hyl (by rw [← hsy]; decide)))) ?_
        show Go p e below T59 (mkF m 247 #[.val (.int p0), .val (.int p1), .val (.int p2), .val (.int p3), .val (.int p4), .val (.int p5), .val (.int (66 : Int32)), .val (.int ip), .val (.int jp), .val (.int s1), .val (.int s2), .val (.ref b1), .val (.ref r_), .val (.int xv), .val (.int yv), .val (.int (1 : Int32)), .val (.int (2 : Int32)), .val (.ref vg_), .unset] []) _
        refine stp (fun _ => XS.iconst X59.here hx rfl (hb hby at_247)) ?_
        show Go p e below T59 (mkF m 248 #[.val (.int p0), .val (.int p1), .val (.int p2), .val (.int p3), .val (.int p4), .val (.int p5), .val (.int (66 : Int32)), .val (.int ip), .val (.int jp), .val (.int s1), .val (.int s2), .val (.ref b1), .val (.ref r_), .val (.int xv), .val (.int yv), .val (.int (1 : Int32)), .val (.int (2 : Int32)), .val (.ref vg_), .unset] [(.int (1 : Int32))]) _
        refine stp (fun _ => XS.goto X59.here hx rfl (pc0 := 248) (pc' := 252) rfl (hb hby at_248) (by decide) (by decide)) ?_
        show Go p e below T59 (mkF m 252 #[.val (.int p0), .val (.int p1), .val (.int p2), .val (.int p3), .val (.int p4), .val (.int p5), .val (.int (66 : Int32)), .val (.int ip), .val (.int jp), .val (.int s1), .val (.int s2), .val (.ref b1), .val (.ref r_), .val (.int xv), .val (.int yv), .val (.int (1 : Int32)), .val (.int (2 : Int32)), .val (.ref vg_), .unset] [(.int (1 : Int32))]) _
        refine stp (fun _ => XS.istore X59.here hx rfl (hb hby at_252) rfl (l' := #[.val (.int p0), .val (.int p1), .val (.int p2), .val (.int p3), .val (.int p4), .val (.int p5), .val (.int (66 : Int32)), .val (.int ip), .val (.int jp), .val (.int s1), .val (.int s2), .val (.ref b1), .val (.ref r_), .val (.int xv), .val (.int yv), .val (.int (1 : Int32)), .val (.int (2 : Int32)), .val (.ref vg_), .val (.int (1 : Int32))]) rfl) ?_
        show Go p e below T59 (mkF m 254 #[.val (.int p0), .val (.int p1), .val (.int p2), .val (.int p3), .val (.int p4), .val (.int p5), .val (.int (66 : Int32)), .val (.int ip), .val (.int jp), .val (.int s1), .val (.int s2), .val (.ref b1), .val (.ref r_), .val (.int xv), .val (.int yv), .val (.int (1 : Int32)), .val (.int (2 : Int32)), .val (.ref vg_), .val (.int (1 : Int32))] []) _
        refine stp (fun _ => XS.iload X59.here hx rfl (hb hby at_254) rfl) ?_
        show Go p e below T59 (mkF m 256 #[.val (.int p0), .val (.int p1), .val (.int p2), .val (.int p3), .val (.int p4), .val (.int p5), .val (.int (66 : Int32)), .val (.int ip), .val (.int jp), .val (.int s1), .val (.int s2), .val (.ref b1), .val (.ref r_), .val (.int xv), .val (.int yv), .val (.int (1 : Int32)), .val (.int (2 : Int32)), .val (.ref vg_), .val (.int (1 : Int32))] [(.int (1 : Int32))]) _
        refine stp (fun _ => XS.iload X59.here hx rfl (hb hby at_256) rfl) ?_
        show Go p e below T59 (mkF m 258 #[.val (.int p0), .val (.int p1), .val (.int p2), .val (.int p3), .val (.int p4), .val (.int p5), .val (.int (66 : Int32)), .val (.int ip), .val (.int jp), .val (.int s1), .val (.int s2), .val (.ref b1), .val (.ref r_), .val (.int xv), .val (.int yv), .val (.int (1 : Int32)), .val (.int (2 : Int32)), .val (.ref vg_), .val (.int (1 : Int32))] [(.int (2 : Int32)), (.int (1 : Int32))]) _
        refine stp (fun _ => XS.iconst X59.here hx rfl (hb hby at_258)) ?_
        show Go p e below T59 (mkF m 259 #[.val (.int p0), .val (.int p1), .val (.int p2), .val (.int p3), .val (.int p4), .val (.int p5), .val (.int (66 : Int32)), .val (.int ip), .val (.int jp), .val (.int s1), .val (.int s2), .val (.ref b1), .val (.ref r_), .val (.int xv), .val (.int yv), .val (.int (1 : Int32)), .val (.int (2 : Int32)), .val (.ref vg_), .val (.int (1 : Int32))] [(.int (3 : Int32)), (.int (2 : Int32)), (.int (1 : Int32))]) _
        refine stp (fun _ => XS.iload X59.here hx rfl (hb hby at_259) rfl) ?_
        show Go p e below T59 (mkF m 261 #[.val (.int p0), .val (.int p1), .val (.int p2), .val (.int p3), .val (.int p4), .val (.int p5), .val (.int (66 : Int32)), .val (.int ip), .val (.int jp), .val (.int s1), .val (.int s2), .val (.ref b1), .val (.ref r_), .val (.int xv), .val (.int yv), .val (.int (1 : Int32)), .val (.int (2 : Int32)), .val (.ref vg_), .val (.int (1 : Int32))] [(.int (1 : Int32)), (.int (3 : Int32)), (.int (2 : Int32)), (.int (1 : Int32))]) _
        refine stp (fun _ => XS.isub X59.here hx rfl (hb hby at_261) rfl) ?_
        show Go p e below T59 (mkF m 262 #[.val (.int p0), .val (.int p1), .val (.int p2), .val (.int p3), .val (.int p4), .val (.int p5), .val (.int (66 : Int32)), .val (.int ip), .val (.int jp), .val (.int s1), .val (.int s2), .val (.ref b1), .val (.ref r_), .val (.int xv), .val (.int yv), .val (.int (1 : Int32)), .val (.int (2 : Int32)), .val (.ref vg_), .val (.int (1 : Int32))] [(.int (2 : Int32)), (.int (2 : Int32)), (.int (1 : Int32))]) _
        refine stp (fun _ => XS.iand X59.here hx rfl (hb hby at_262) rfl) ?_
        show Go p e below T59 (mkF m 263 #[.val (.int p0), .val (.int p1), .val (.int p2), .val (.int p3), .val (.int p4), .val (.int p5), .val (.int (66 : Int32)), .val (.int ip), .val (.int jp), .val (.int s1), .val (.int s2), .val (.ref b1), .val (.ref r_), .val (.int xv), .val (.int yv), .val (.int (1 : Int32)), .val (.int (2 : Int32)), .val (.ref vg_), .val (.int (1 : Int32))] [(.int (2 : Int32)), (.int (1 : Int32))]) _
        refine stp (fun _ => XS.ifNo X59.here hx rfl (hb hby at_263) rfl (by decide)) ?_
        show Go p e below T59 (mkF m 266 #[.val (.int p0), .val (.int p1), .val (.int p2), .val (.int p3), .val (.int p4), .val (.int p5), .val (.int (66 : Int32)), .val (.int ip), .val (.int jp), .val (.int s1), .val (.int s2), .val (.ref b1), .val (.ref r_), .val (.int xv), .val (.int yv), .val (.int (1 : Int32)), .val (.int (2 : Int32)), .val (.ref vg_), .val (.int (1 : Int32))] [(.int (1 : Int32))]) _
        refine stp (fun _ => XS.iconst X59.here hx rfl (hb hby at_266)) ?_
        show Go p e below T59 (mkF m 267 #[.val (.int p0), .val (.int p1), .val (.int p2), .val (.int p3), .val (.int p4), .val (.int p5), .val (.int (66 : Int32)), .val (.int ip), .val (.int jp), .val (.int s1), .val (.int s2), .val (.ref b1), .val (.ref r_), .val (.int xv), .val (.int yv), .val (.int (1 : Int32)), .val (.int (2 : Int32)), .val (.ref vg_), .val (.int (1 : Int32))] [(.int (1 : Int32)), (.int (1 : Int32))]) _
        refine stp (fun _ => XS.goto X59.here hx rfl (pc0 := 267) (pc' := 271) rfl (hb hby at_267) (by decide) (by decide)) ?_
        show Go p e below T59 (mkF m 271 #[.val (.int p0), .val (.int p1), .val (.int p2), .val (.int p3), .val (.int p4), .val (.int p5), .val (.int (66 : Int32)), .val (.int ip), .val (.int jp), .val (.int s1), .val (.int s2), .val (.ref b1), .val (.ref r_), .val (.int xv), .val (.int yv), .val (.int (1 : Int32)), .val (.int (2 : Int32)), .val (.ref vg_), .val (.int (1 : Int32))] [(.int (1 : Int32)), (.int (1 : Int32))]) _
        refine stp (fun _ => XS.icmpNo X59.here hx rfl (hb hby at_271) rfl (by decide)) ?_
        show Go p e below T59 (mkF m 274 #[.val (.int p0), .val (.int p1), .val (.int p2), .val (.int p3), .val (.int p4), .val (.int p5), .val (.int (66 : Int32)), .val (.int ip), .val (.int jp), .val (.int s1), .val (.int s2), .val (.ref b1), .val (.ref r_), .val (.int xv), .val (.int yv), .val (.int (1 : Int32)), .val (.int (2 : Int32)), .val (.ref vg_), .val (.int (1 : Int32))] []) _
        refine stp (fun _ => XS.iconst X59.here hx rfl (hb hby at_274)) ?_
        show Go p e below T59 (mkF m 275 #[.val (.int p0), .val (.int p1), .val (.int p2), .val (.int p3), .val (.int p4), .val (.int p5), .val (.int (66 : Int32)), .val (.int ip), .val (.int jp), .val (.int s1), .val (.int s2), .val (.ref b1), .val (.ref r_), .val (.int xv), .val (.int yv), .val (.int (1 : Int32)), .val (.int (2 : Int32)), .val (.ref vg_), .val (.int (1 : Int32))] [(.int (1 : Int32))]) _
        refine stp (fun _ => XS.goto X59.here hx rfl (pc0 := 275) (pc' := 279) rfl (hb hby at_275) (by decide) (by decide)) ?_
        show Go p e below T59 (mkF m 279 #[.val (.int p0), .val (.int p1), .val (.int p2), .val (.int p3), .val (.int p4), .val (.int p5), .val (.int (66 : Int32)), .val (.int ip), .val (.int jp), .val (.int s1), .val (.int s2), .val (.ref b1), .val (.ref r_), .val (.int xv), .val (.int yv), .val (.int (1 : Int32)), .val (.int (2 : Int32)), .val (.ref vg_), .val (.int (1 : Int32))] [(.int (1 : Int32))]) _
        refine outN X59 hx (t := .boolean) hret (by simp) (hb hby at_279) hlk (by decide) (by decide) ?_
        exact ⟨rfl, N59⟩
      · show Go p e below T51 (mkF m 134 #[.val (.int p0), .val (.int p1), .val (.int p2), .val (.int p3), .val (.int p4), .val (.int p5), .val (.int (66 : Int32)), .val (.int ip), .val (.int jp), .val (.int s1), .val (.int s2), .val (.ref b1), .val (.ref r_), .val (.int xv), .val (.int yv), .val (.int (1 : Int32)), .val (.int (3 : Int32)), .unset, .unset] []) _
        refine stp (fun _ => XS.aload X51.here hx rfl (hb hby at_134) rfl rfl) ?_
        show Go p e below T51 (mkF m 136 #[.val (.int p0), .val (.int p1), .val (.int p2), .val (.int p3), .val (.int p4), .val (.int p5), .val (.int (66 : Int32)), .val (.int ip), .val (.int jp), .val (.int s1), .val (.int s2), .val (.ref b1), .val (.ref r_), .val (.int xv), .val (.int yv), .val (.int (1 : Int32)), .val (.int (3 : Int32)), .unset, .unset] [(.ref r_)]) _
        refine stp (fun _ => XS.iload X51.here hx rfl (hb hby at_136) rfl) ?_
        show Go p e below T51 (mkF m 138 #[.val (.int p0), .val (.int p1), .val (.int p2), .val (.int p3), .val (.int p4), .val (.int p5), .val (.int (66 : Int32)), .val (.int ip), .val (.int jp), .val (.int s1), .val (.int s2), .val (.ref b1), .val (.ref r_), .val (.int xv), .val (.int yv), .val (.int (1 : Int32)), .val (.int (3 : Int32)), .unset, .unset] [(.int xv), (.ref r_)]) _
        refine stp (fun _ => XS.iload X51.here hx rfl (hb hby at_138) rfl) ?_
        show Go p e below T51 (mkF m 140 #[.val (.int p0), .val (.int p1), .val (.int p2), .val (.int p3), .val (.int p4), .val (.int p5), .val (.int (66 : Int32)), .val (.int ip), .val (.int jp), .val (.int s1), .val (.int s2), .val (.ref b1), .val (.ref r_), .val (.int xv), .val (.int yv), .val (.int (1 : Int32)), .val (.int (3 : Int32)), .unset, .unset] [(.int yv), (.int xv), (.ref r_)]) _
        obtain ⟨cq64, kq64, q64a, q64b, q64c⟩ := isOf hZ e51 f41
        obtain ⟨_, _, ⟨T64, L64, k64, n64⟩, -, X64, ⟨Lc64, hQ64, l64, y64, z64⟩, st64⟩ := X51.virtualBack hx (y := (⟨"com/example/brisk_dedup/briskdedup/engine/Sides", "mayPair", "(II)Z"⟩ : MethodName)) (z := (⟨"com/example/brisk_dedup/briskdedup/engine/Sides", "mayPair", "(II)Z"⟩ : MethodName)) hown (mvT hZ (hw _ (List.mem_of_getElem? (i := 40) rfl))) (mvT hZ (hw _ (List.mem_of_getElem? (i := 41) rfl))) (notFace_of_selects (args := #[]) (mvT hZ (hw _ (List.mem_of_getElem? (i := 43) rfl)))) (mvT hZ (hw _ (List.mem_of_getElem? (i := 43) rfl))) (mvT hZ (hw _ (List.mem_of_getElem? (i := 42) rfl))) (by decide) (backOf (W := 0) (rm_mp1 l Z a0 hw [] r_ xv yv vb_ (own_sd ipn s1 jpn s2) xn yn (1 : Int32) kb_ h38 n0 O38 f42 f45 hxn hxl hyn hyl ⟨fun _ => rfl, fun h => absurd (by rw [← hsx, ← hsy]; decide) h⟩) hZ (hw _ (List.mem_of_getElem? (i := 44) rfl)) (hw _ (List.mem_of_getElem? (i := 8) rfl)) (by decide) (by decide)) q64a q64c (g := (mkF m 140 #[.val (.int p0), .val (.int p1), .val (.int p2), .val (.int p3), .val (.int p4), .val (.int p5), .val (.int (66 : Int32)), .val (.int ip), .val (.int jp), .val (.int s1), .val (.int s2), .val (.ref b1), .val (.ref r_), .val (.int xv), .val (.int yv), .val (.int (1 : Int32)), .val (.int (3 : Int32)), .unset, .unset] [(.int yv), (.int xv), (.ref r_)])) rfl (by rw [hml]; rfl) (Steps.refl _) (argsL := [(.int xv), (.int yv)]) (rest := []) (lenOf pd_5 rfl) rfl (by show 2 * 0 + _ ≤ _; exact Nat.le_of_eq rfl) (hb hby at_140) (fun _ _ => ⟨rfl, e51, (by decide : 5 + 0 ≤ _), (by decide : 139 + 0 ≤ _)⟩)
        dsimp only [Pt.U, Pt.locs, Pt.cells, Pt.slots] at X64 l64 y64 z64 st64 hQ64
        subst l64 y64 z64
        obtain ⟨rfl, N64q, e64⟩ := hQ64
        have N64 := Fr.app N51 N64q
        refine stt st64 ?_
        show Go p e below T64 (mkF m 143 #[.val (.int p0), .val (.int p1), .val (.int p2), .val (.int p3), .val (.int p4), .val (.int p5), .val (.int (66 : Int32)), .val (.int ip), .val (.int jp), .val (.int s1), .val (.int s2), .val (.ref b1), .val (.ref r_), .val (.int xv), .val (.int yv), .val (.int (1 : Int32)), .val (.int (3 : Int32)), .unset, .unset] [(.int (1 : Int32))]) _
        refine stp (fun _ => XS.iload X64.here hx rfl (hb hby at_143) rfl) ?_
        show Go p e below T64 (mkF m 145 #[.val (.int p0), .val (.int p1), .val (.int p2), .val (.int p3), .val (.int p4), .val (.int p5), .val (.int (66 : Int32)), .val (.int ip), .val (.int jp), .val (.int s1), .val (.int s2), .val (.ref b1), .val (.ref r_), .val (.int xv), .val (.int yv), .val (.int (1 : Int32)), .val (.int (3 : Int32)), .unset, .unset] [(.int (1 : Int32)), (.int (1 : Int32))]) _
        refine stp (fun _ => XS.iload X64.here hx rfl (hb hby at_145) rfl) ?_
        show Go p e below T64 (mkF m 147 #[.val (.int p0), .val (.int p1), .val (.int p2), .val (.int p3), .val (.int p4), .val (.int p5), .val (.int (66 : Int32)), .val (.int ip), .val (.int jp), .val (.int s1), .val (.int s2), .val (.ref b1), .val (.ref r_), .val (.int xv), .val (.int yv), .val (.int (1 : Int32)), .val (.int (3 : Int32)), .unset, .unset] [(.int (3 : Int32)), (.int (1 : Int32)), (.int (1 : Int32))]) _
        refine stp (fun _ => XS.ior X64.here hx rfl (hb hby at_147) rfl) ?_
        show Go p e below T64 (mkF m 148 #[.val (.int p0), .val (.int p1), .val (.int p2), .val (.int p3), .val (.int p4), .val (.int p5), .val (.int (66 : Int32)), .val (.int ip), .val (.int jp), .val (.int s1), .val (.int s2), .val (.ref b1), .val (.ref r_), .val (.int xv), .val (.int yv), .val (.int (1 : Int32)), .val (.int (3 : Int32)), .unset, .unset] [(.int (3 : Int32)), (.int (1 : Int32))]) _
        refine stp (fun _ => XS.iconst X64.here hx rfl (hb hby at_148)) ?_
        show Go p e below T64 (mkF m 149 #[.val (.int p0), .val (.int p1), .val (.int p2), .val (.int p3), .val (.int p4), .val (.int p5), .val (.int (66 : Int32)), .val (.int ip), .val (.int jp), .val (.int s1), .val (.int s2), .val (.ref b1), .val (.ref r_), .val (.int xv), .val (.int yv), .val (.int (1 : Int32)), .val (.int (3 : Int32)), .unset, .unset] [(.int (3 : Int32)), (.int (3 : Int32)), (.int (1 : Int32))]) _
        refine stp (fun _ => XS.icmpNo X64.here hx rfl (hb hby at_149) rfl (by decide)) ?_
        show Go p e below T64 (mkF m 152 #[.val (.int p0), .val (.int p1), .val (.int p2), .val (.int p3), .val (.int p4), .val (.int p5), .val (.int (66 : Int32)), .val (.int ip), .val (.int jp), .val (.int s1), .val (.int s2), .val (.ref b1), .val (.ref r_), .val (.int xv), .val (.int yv), .val (.int (1 : Int32)), .val (.int (3 : Int32)), .unset, .unset] [(.int (1 : Int32))]) _
        refine stp (fun _ => XS.iconst X64.here hx rfl (hb hby at_152)) ?_
        show Go p e below T64 (mkF m 153 #[.val (.int p0), .val (.int p1), .val (.int p2), .val (.int p3), .val (.int p4), .val (.int p5), .val (.int (66 : Int32)), .val (.int ip), .val (.int jp), .val (.int s1), .val (.int s2), .val (.ref b1), .val (.ref r_), .val (.int xv), .val (.int yv), .val (.int (1 : Int32)), .val (.int (3 : Int32)), .unset, .unset] [(.int (1 : Int32)), (.int (1 : Int32))]) _
        refine stp (fun _ => XS.goto X64.here hx rfl (pc0 := 153) (pc' := 157) rfl (hb hby at_153) (by decide) (by decide)) ?_
        show Go p e below T64 (mkF m 157 #[.val (.int p0), .val (.int p1), .val (.int p2), .val (.int p3), .val (.int p4), .val (.int p5), .val (.int (66 : Int32)), .val (.int ip), .val (.int jp), .val (.int s1), .val (.int s2), .val (.ref b1), .val (.ref r_), .val (.int xv), .val (.int yv), .val (.int (1 : Int32)), .val (.int (3 : Int32)), .unset, .unset] [(.int (1 : Int32)), (.int (1 : Int32))]) _
        refine stp (fun _ => XS.icmpYes X64.here hx rfl (pc0 := 157) (pc' := 162) rfl (hb hby at_157) rfl (by decide) (by decide) (by decide)) ?_
        show Go p e below T64 (mkF m 162 #[.val (.int p0), .val (.int p1), .val (.int p2), .val (.int p3), .val (.int p4), .val (.int p5), .val (.int (66 : Int32)), .val (.int ip), .val (.int jp), .val (.int s1), .val (.int s2), .val (.ref b1), .val (.ref r_), .val (.int xv), .val (.int yv), .val (.int (1 : Int32)), .val (.int (3 : Int32)), .unset, .unset] []) _
        refine stp (fun _ => XS.aload X64.here hx rfl (hb hby at_162) rfl rfl) ?_
        show Go p e below T64 (mkF m 164 #[.val (.int p0), .val (.int p1), .val (.int p2), .val (.int p3), .val (.int p4), .val (.int p5), .val (.int (66 : Int32)), .val (.int ip), .val (.int jp), .val (.int s1), .val (.int s2), .val (.ref b1), .val (.ref r_), .val (.int xv), .val (.int yv), .val (.int (1 : Int32)), .val (.int (3 : Int32)), .unset, .unset] [(.ref r_)]) _
        refine stp (fun _ => XS.iload X64.here hx rfl (hb hby at_164) rfl) ?_
        show Go p e below T64 (mkF m 166 #[.val (.int p0), .val (.int p1), .val (.int p2), .val (.int p3), .val (.int p4), .val (.int p5), .val (.int (66 : Int32)), .val (.int ip), .val (.int jp), .val (.int s1), .val (.int s2), .val (.ref b1), .val (.ref r_), .val (.int xv), .val (.int yv), .val (.int (1 : Int32)), .val (.int (3 : Int32)), .unset, .unset] [(.int xv), (.ref r_)]) _
        obtain ⟨cq65, kq65, q65a, q65b, q65c⟩ := isOf hZ e64 f41
        obtain ⟨_, _, ⟨T65, L65, k65, n65⟩, -, X65, ⟨Lc65, hQ65, l65, y65, z65⟩, st65⟩ := X64.virtualBack hx (y := (⟨"com/example/brisk_dedup/briskdedup/engine/Sides", "partners", "(I)[J"⟩ : MethodName)) (z := (⟨"com/example/brisk_dedup/briskdedup/engine/Sides", "partners", "(I)[J"⟩ : MethodName)) hown (mvT hZ (hw _ (List.mem_of_getElem? (i := 45) rfl))) (mvT hZ (hw _ (List.mem_of_getElem? (i := 46) rfl))) (notFace_of_selects (args := #[]) (mvT hZ (hw _ (List.mem_of_getElem? (i := 48) rfl)))) (mvT hZ (hw _ (List.mem_of_getElem? (i := 48) rfl))) (mvT hZ (hw _ (List.mem_of_getElem? (i := 47) rfl))) (by decide) (backOf (W := 0) (rm_pa1 l Z a0 hw [] r_ xv vb_ (own_sd ipn s1 jpn s2) xn vg_ kb_ h38 n0 O38 f42 f45 f44 hxn hxl hsx.symm) hZ (hw _ (List.mem_of_getElem? (i := 49) rfl)) (hw _ (List.mem_of_getElem? (i := 8) rfl)) (by decide) (by decide)) q65a q65c (g := (mkF m 166 #[.val (.int p0), .val (.int p1), .val (.int p2), .val (.int p3), .val (.int p4), .val (.int p5), .val (.int (66 : Int32)), .val (.int ip), .val (.int jp), .val (.int s1), .val (.int s2), .val (.ref b1), .val (.ref r_), .val (.int xv), .val (.int yv), .val (.int (1 : Int32)), .val (.int (3 : Int32)), .unset, .unset] [(.int xv), (.ref r_)])) rfl (by rw [hml]; rfl) (Steps.refl _) (argsL := [(.int xv)]) (rest := []) (lenOf pd_6 rfl) rfl (by show 2 * 0 + _ ≤ _; exact Nat.le_of_eq rfl) (hb hby at_166) (fun _ _ => ⟨rfl, e64, (by decide : 5 + 0 ≤ _), (by decide : 139 + 0 ≤ _)⟩)
        dsimp only [Pt.U, Pt.locs, Pt.cells, Pt.slots] at X65 l65 y65 z65 st65 hQ65
        subst l65 y65 z65
        obtain ⟨rfl, N65q, e65⟩ := hQ65
        have N65 := Fr.app N64 N65q
        refine stt st65 ?_
        show Go p e below T65 (mkF m 169 #[.val (.int p0), .val (.int p1), .val (.int p2), .val (.int p3), .val (.int p4), .val (.int p5), .val (.int (66 : Int32)), .val (.int ip), .val (.int jp), .val (.int s1), .val (.int s2), .val (.ref b1), .val (.ref r_), .val (.int xv), .val (.int yv), .val (.int (1 : Int32)), .val (.int (3 : Int32)), .unset, .unset] [(.ref vg_)]) _
        refine stp (fun _ => XS.astore X65.here hx rfl (hb hby at_169) rfl rfl (l' := #[.val (.int p0), .val (.int p1), .val (.int p2), .val (.int p3), .val (.int p4), .val (.int p5), .val (.int (66 : Int32)), .val (.int ip), .val (.int jp), .val (.int s1), .val (.int s2), .val (.ref b1), .val (.ref r_), .val (.int xv), .val (.int yv), .val (.int (1 : Int32)), .val (.int (3 : Int32)), .val (.ref vg_), .unset]) rfl) ?_
        show Go p e below T65 (mkF m 171 #[.val (.int p0), .val (.int p1), .val (.int p2), .val (.int p3), .val (.int p4), .val (.int p5), .val (.int (66 : Int32)), .val (.int ip), .val (.int jp), .val (.int s1), .val (.int s2), .val (.ref b1), .val (.ref r_), .val (.int xv), .val (.int yv), .val (.int (1 : Int32)), .val (.int (3 : Int32)), .val (.ref vg_), .unset] []) _
        refine stp (fun _ => XS.iload X65.here hx rfl (hb hby at_171) rfl) ?_
        show Go p e below T65 (mkF m 173 #[.val (.int p0), .val (.int p1), .val (.int p2), .val (.int p3), .val (.int p4), .val (.int p5), .val (.int (66 : Int32)), .val (.int ip), .val (.int jp), .val (.int s1), .val (.int s2), .val (.ref b1), .val (.ref r_), .val (.int xv), .val (.int yv), .val (.int (1 : Int32)), .val (.int (3 : Int32)), .val (.ref vg_), .unset] [(.int (1 : Int32))]) _
        refine stp (fun _ => XS.iconst X65.here hx rfl (hb hby at_173)) ?_
        show Go p e below T65 (mkF m 174 #[.val (.int p0), .val (.int p1), .val (.int p2), .val (.int p3), .val (.int p4), .val (.int p5), .val (.int (66 : Int32)), .val (.int ip), .val (.int jp), .val (.int s1), .val (.int s2), .val (.ref b1), .val (.ref r_), .val (.int xv), .val (.int yv), .val (.int (1 : Int32)), .val (.int (3 : Int32)), .val (.ref vg_), .unset] [(.int (3 : Int32)), (.int (1 : Int32))]) _
        refine stp (fun _ => XS.icmpYes X65.here hx rfl (pc0 := 174) (pc' := 188) rfl (hb hby at_174) rfl (by decide) (by decide) (by decide)) ?_
        show Go p e below T65 (mkF m 188 #[.val (.int p0), .val (.int p1), .val (.int p2), .val (.int p3), .val (.int p4), .val (.int p5), .val (.int (66 : Int32)), .val (.int ip), .val (.int jp), .val (.int s1), .val (.int s2), .val (.ref b1), .val (.ref r_), .val (.int xv), .val (.int yv), .val (.int (1 : Int32)), .val (.int (3 : Int32)), .val (.ref vg_), .unset] []) _
        refine stp (fun _ => XS.aload X65.here hx rfl (hb hby at_188) rfl rfl) ?_
        show Go p e below T65 (mkF m 190 #[.val (.int p0), .val (.int p1), .val (.int p2), .val (.int p3), .val (.int p4), .val (.int p5), .val (.int (66 : Int32)), .val (.int ip), .val (.int jp), .val (.int s1), .val (.int s2), .val (.ref b1), .val (.ref r_), .val (.int xv), .val (.int yv), .val (.int (1 : Int32)), .val (.int (3 : Int32)), .val (.ref vg_), .unset] [(.ref vg_)]) _
        refine stp (fun _ => XS.ifnullNo X65.here hx rfl (hb hby at_190) rfl) ?_
        show Go p e below T65 (mkF m 193 #[.val (.int p0), .val (.int p1), .val (.int p2), .val (.int p3), .val (.int p4), .val (.int p5), .val (.int (66 : Int32)), .val (.int ip), .val (.int jp), .val (.int s1), .val (.int s2), .val (.ref b1), .val (.ref r_), .val (.int xv), .val (.int yv), .val (.int (1 : Int32)), .val (.int (3 : Int32)), .val (.ref vg_), .unset] []) _
        refine stp (fun _ => XS.aload X65.here hx rfl (hb hby at_193) rfl rfl) ?_
        show Go p e below T65 (mkF m 195 #[.val (.int p0), .val (.int p1), .val (.int p2), .val (.int p3), .val (.int p4), .val (.int p5), .val (.int (66 : Int32)), .val (.int ip), .val (.int jp), .val (.int s1), .val (.int s2), .val (.ref b1), .val (.ref r_), .val (.int xv), .val (.int yv), .val (.int (1 : Int32)), .val (.int (3 : Int32)), .val (.ref vg_), .unset] [(.ref vg_)]) _
        obtain ⟨cl66, Ar66, -, S66, -, -⟩ := (id f47)
        refine stp (fun _ => X65.arraylength hx (by rw [e65]; exact Ar66.1) (State.isArrayOf_alike hZ.alike Ar66.2.1) (g := (mkF m 195 #[.val (.int p0), .val (.int p1), .val (.int p2), .val (.int p3), .val (.int p4), .val (.int p5), .val (.int (66 : Int32)), .val (.int ip), .val (.int jp), .val (.int s1), .val (.int s2), .val (.ref b1), .val (.ref r_), .val (.int xv), .val (.int yv), .val (.int (1 : Int32)), .val (.int (3 : Int32)), .val (.ref vg_), .unset] [(.ref vg_)])) rfl rfl (hb hby at_195) _) ?_
        rw [arf_len S66 (z := (2 : Int32)) (by decide)]
        show Go p e below T65 (mkF m 196 #[.val (.int p0), .val (.int p1), .val (.int p2), .val (.int p3), .val (.int p4), .val (.int p5), .val (.int (66 : Int32)), .val (.int ip), .val (.int jp), .val (.int s1), .val (.int s2), .val (.ref b1), .val (.ref r_), .val (.int xv), .val (.int yv), .val (.int (1 : Int32)), .val (.int (3 : Int32)), .val (.ref vg_), .unset] [(.int (2 : Int32))]) _
        refine stp (fun _ => XS.iload X65.here hx rfl (hb hby at_196) rfl) ?_
        show Go p e below T65 (mkF m 198 #[.val (.int p0), .val (.int p1), .val (.int p2), .val (.int p3), .val (.int p4), .val (.int p5), .val (.int (66 : Int32)), .val (.int ip), .val (.int jp), .val (.int s1), .val (.int s2), .val (.ref b1), .val (.ref r_), .val (.int xv), .val (.int yv), .val (.int (1 : Int32)), .val (.int (3 : Int32)), .val (.ref vg_), .unset] [(.int yv), (.int (2 : Int32))]) _
        refine stp (fun _ => XS.bipush X65.here hx rfl (hb hby at_198)) ?_
        show Go p e below T65 (mkF m 200 #[.val (.int p0), .val (.int p1), .val (.int p2), .val (.int p3), .val (.int p4), .val (.int p5), .val (.int (66 : Int32)), .val (.int ip), .val (.int jp), .val (.int s1), .val (.int s2), .val (.ref b1), .val (.ref r_), .val (.int xv), .val (.int yv), .val (.int (1 : Int32)), .val (.int (3 : Int32)), .val (.ref vg_), .unset] [(.int (6 : Int32)), (.int yv), (.int (2 : Int32))]) _
        refine stp (fun _ => XS.iushr X65.here hx rfl (hb hby at_200) rfl) ?_
        show Go p e below T65 (mkF m 201 #[.val (.int p0), .val (.int p1), .val (.int p2), .val (.int p3), .val (.int p4), .val (.int p5), .val (.int (66 : Int32)), .val (.int ip), .val (.int jp), .val (.int s1), .val (.int s2), .val (.ref b1), .val (.ref r_), .val (.int xv), .val (.int yv), .val (.int (1 : Int32)), .val (.int (3 : Int32)), .val (.ref vg_), .unset] [(.int ((yv.toUInt32 >>> ((6 : Int32) &&& 31).toUInt32).toInt32)), (.int (2 : Int32))]) _
        refine stp (fun _ => XS.icmpYes X65.here hx rfl (pc0 := 201) (pc' := 206) rfl (hb hby at_201) rfl (XT.ii_gt_t (own_lt2 hyn hyl)) (by decide) (by decide)) ?_
        show Go p e below T65 (mkF m 206 #[.val (.int p0), .val (.int p1), .val (.int p2), .val (.int p3), .val (.int p4), .val (.int p5), .val (.int (66 : Int32)), .val (.int ip), .val (.int jp), .val (.int s1), .val (.int s2), .val (.ref b1), .val (.ref r_), .val (.int xv), .val (.int yv), .val (.int (1 : Int32)), .val (.int (3 : Int32)), .val (.ref vg_), .unset] []) _
        refine stp (fun _ => XS.aload X65.here hx rfl (hb hby at_206) rfl rfl) ?_
        show Go p e below T65 (mkF m 208 #[.val (.int p0), .val (.int p1), .val (.int p2), .val (.int p3), .val (.int p4), .val (.int p5), .val (.int (66 : Int32)), .val (.int ip), .val (.int jp), .val (.int s1), .val (.int s2), .val (.ref b1), .val (.ref r_), .val (.int xv), .val (.int yv), .val (.int (1 : Int32)), .val (.int (3 : Int32)), .val (.ref vg_), .unset] [(.ref vg_)]) _
        obtain ⟨cl67, Ar67, -, S67, -, -⟩ := (id f47)
        refine stp (fun _ => X65.arraylength hx (by rw [e65]; exact Ar67.1) (State.isArrayOf_alike hZ.alike Ar67.2.1) (g := (mkF m 208 #[.val (.int p0), .val (.int p1), .val (.int p2), .val (.int p3), .val (.int p4), .val (.int p5), .val (.int (66 : Int32)), .val (.int ip), .val (.int jp), .val (.int s1), .val (.int s2), .val (.ref b1), .val (.ref r_), .val (.int xv), .val (.int yv), .val (.int (1 : Int32)), .val (.int (3 : Int32)), .val (.ref vg_), .unset] [(.ref vg_)])) rfl rfl (hb hby at_208) _) ?_
        rw [arf_len S67 (z := (2 : Int32)) (by decide)]
        show Go p e below T65 (mkF m 209 #[.val (.int p0), .val (.int p1), .val (.int p2), .val (.int p3), .val (.int p4), .val (.int p5), .val (.int (66 : Int32)), .val (.int ip), .val (.int jp), .val (.int s1), .val (.int s2), .val (.ref b1), .val (.ref r_), .val (.int xv), .val (.int yv), .val (.int (1 : Int32)), .val (.int (3 : Int32)), .val (.ref vg_), .unset] [(.int (2 : Int32))]) _
        refine stp (fun _ => XS.iconst X65.here hx rfl (hb hby at_209)) ?_
        show Go p e below T65 (mkF m 210 #[.val (.int p0), .val (.int p1), .val (.int p2), .val (.int p3), .val (.int p4), .val (.int p5), .val (.int (66 : Int32)), .val (.int ip), .val (.int jp), .val (.int s1), .val (.int s2), .val (.ref b1), .val (.ref r_), .val (.int xv), .val (.int yv), .val (.int (1 : Int32)), .val (.int (3 : Int32)), .val (.ref vg_), .unset] [(.int (1 : Int32)), (.int (2 : Int32))]) _
        refine stp (fun _ => XS.icmpNo X65.here hx rfl (hb hby at_210) rfl (by decide)) ?_
        show Go p e below T65 (mkF m 213 #[.val (.int p0), .val (.int p1), .val (.int p2), .val (.int p3), .val (.int p4), .val (.int p5), .val (.int (66 : Int32)), .val (.int ip), .val (.int jp), .val (.int s1), .val (.int s2), .val (.ref b1), .val (.ref r_), .val (.int xv), .val (.int yv), .val (.int (1 : Int32)), .val (.int (3 : Int32)), .val (.ref vg_), .unset] []) _
        refine stp (fun _ => XS.aload X65.here hx rfl (hb hby at_213) rfl rfl) ?_
        show Go p e below T65 (mkF m 215 #[.val (.int p0), .val (.int p1), .val (.int p2), .val (.int p3), .val (.int p4), .val (.int p5), .val (.int (66 : Int32)), .val (.int ip), .val (.int jp), .val (.int s1), .val (.int s2), .val (.ref b1), .val (.ref r_), .val (.int xv), .val (.int yv), .val (.int (1 : Int32)), .val (.int (3 : Int32)), .val (.ref vg_), .unset] [(.ref vg_)]) _
        refine stp (fun _ => XS.iconst X65.here hx rfl (hb hby at_215)) ?_
        show Go p e below T65 (mkF m 216 #[.val (.int p0), .val (.int p1), .val (.int p2), .val (.int p3), .val (.int p4), .val (.int p5), .val (.int (66 : Int32)), .val (.int ip), .val (.int jp), .val (.int s1), .val (.int s2), .val (.ref b1), .val (.ref r_), .val (.int xv), .val (.int yv), .val (.int (1 : Int32)), .val (.int (3 : Int32)), .val (.ref vg_), .unset] [(.int (1 : Int32)), (.ref vg_)]) _
        obtain ⟨cl68, Ar68, q68, S68, H68, G68⟩ := (id f47)
        have in68 : ¬ ((1 : Int32) < 0 ∨ cl68.slots.size ≤ ((1 : Int32)).toNatClampNeg) := arf_in S68 (show (1 : Int32).toInt = ((1 : Nat) : Int) by decide) (by decide)
        have at68 : cl68.slots[((1 : Int32)).toNatClampNeg]? = some (.long (own_bits 2 (own_sd ipn s1 jpn s2) 66 1)) := arf_at H68 (show (1 : Int32).toInt = ((1 : Nat) : Int) by decide) (by decide)
        refine stp (fun _ => X65.laload hx (j := (1 : Int32)) (v := (.long (own_bits 2 (own_sd ipn s1 jpn s2) 66 1))) (by rw [e65]; exact Ar68.1) (State.isArrayOf_alike hZ.alike Ar68.2.1) Ar68.2.2 in68 at68 (g := (mkF m 216 #[.val (.int p0), .val (.int p1), .val (.int p2), .val (.int p3), .val (.int p4), .val (.int p5), .val (.int (66 : Int32)), .val (.int ip), .val (.int jp), .val (.int s1), .val (.int s2), .val (.ref b1), .val (.ref r_), .val (.int xv), .val (.int yv), .val (.int (1 : Int32)), .val (.int (3 : Int32)), .val (.ref vg_), .unset] [(.int (1 : Int32)), (.ref vg_)])) rfl rfl (hb hby at_216) _) ?_
        show Go p e below T65 (mkF m 217 #[.val (.int p0), .val (.int p1), .val (.int p2), .val (.int p3), .val (.int p4), .val (.int p5), .val (.int (66 : Int32)), .val (.int ip), .val (.int jp), .val (.int s1), .val (.int s2), .val (.ref b1), .val (.ref r_), .val (.int xv), .val (.int yv), .val (.int (1 : Int32)), .val (.int (3 : Int32)), .val (.ref vg_), .unset] [(.long (own_bits 2 (own_sd ipn s1 jpn s2) 66 1))]) _
        refine stp (fun _ => XS.iconst X65.here hx rfl (hb hby at_217)) ?_
        show Go p e below T65 (mkF m 218 #[.val (.int p0), .val (.int p1), .val (.int p2), .val (.int p3), .val (.int p4), .val (.int p5), .val (.int (66 : Int32)), .val (.int ip), .val (.int jp), .val (.int s1), .val (.int s2), .val (.ref b1), .val (.ref r_), .val (.int xv), .val (.int yv), .val (.int (1 : Int32)), .val (.int (3 : Int32)), .val (.ref vg_), .unset] [(.int (2 : Int32)), (.long (own_bits 2 (own_sd ipn s1 jpn s2) 66 1))]) _
        refine stp (fun _ => XS.lushr X65.here hx rfl (hb hby at_218) rfl) ?_
        show Go p e below T65 (mkF m 219 #[.val (.int p0), .val (.int p1), .val (.int p2), .val (.int p3), .val (.int p4), .val (.int p5), .val (.int (66 : Int32)), .val (.int ip), .val (.int jp), .val (.int s1), .val (.int s2), .val (.ref b1), .val (.ref r_), .val (.int xv), .val (.int yv), .val (.int (1 : Int32)), .val (.int (3 : Int32)), .val (.ref vg_), .unset] [(.long (((own_bits 2 (own_sd ipn s1 jpn s2) 66 1).toUInt64 >>> ((2 : Int32) &&& 0x3f).toInt64.toUInt64).toInt64))]) _
        refine stp (fun _ => XS.lconst X65.here hx rfl (hb hby at_219)) ?_
        show Go p e below T65 (mkF m 220 #[.val (.int p0), .val (.int p1), .val (.int p2), .val (.int p3), .val (.int p4), .val (.int p5), .val (.int (66 : Int32)), .val (.int ip), .val (.int jp), .val (.int s1), .val (.int s2), .val (.ref b1), .val (.ref r_), .val (.int xv), .val (.int yv), .val (.int (1 : Int32)), .val (.int (3 : Int32)), .val (.ref vg_), .unset] [(.long (0 : Int64)), (.long (((own_bits 2 (own_sd ipn s1 jpn s2) 66 1).toUInt64 >>> ((2 : Int32) &&& 0x3f).toInt64.toUInt64).toInt64))]) _
        refine stp (fun _ => XS.lcmp X65.here hx rfl (hb hby at_220) rfl) ?_
        show Go p e below T65 (mkF m 221 #[.val (.int p0), .val (.int p1), .val (.int p2), .val (.int p3), .val (.int p4), .val (.int p5), .val (.int (66 : Int32)), .val (.int ip), .val (.int jp), .val (.int s1), .val (.int s2), .val (.ref b1), .val (.ref r_), .val (.int xv), .val (.int yv), .val (.int (1 : Int32)), .val (.int (3 : Int32)), .val (.ref vg_), .unset] [(.int (lcmpW (((own_bits 2 (own_sd ipn s1 jpn s2) 66 1).toUInt64 >>> ((2 : Int32) &&& 0x3f).toInt64.toUInt64).toInt64) (0 : Int64)))]) _
        refine stp (fun _ => XS.ifYes X65.here hx rfl (pc0 := 221) (pc' := 226) rfl (hb hby at_221) rfl (XT.ll_eq_t (own_top _ _)) (by decide) (by decide)) ?_
        show Go p e below T65 (mkF m 226 #[.val (.int p0), .val (.int p1), .val (.int p2), .val (.int p3), .val (.int p4), .val (.int p5), .val (.int (66 : Int32)), .val (.int ip), .val (.int jp), .val (.int s1), .val (.int s2), .val (.ref b1), .val (.ref r_), .val (.int xv), .val (.int yv), .val (.int (1 : Int32)), .val (.int (3 : Int32)), .val (.ref vg_), .unset] []) _
        refine stp (fun _ => XS.aload X65.here hx rfl (hb hby at_226) rfl rfl) ?_
        show Go p e below T65 (mkF m 228 #[.val (.int p0), .val (.int p1), .val (.int p2), .val (.int p3), .val (.int p4), .val (.int p5), .val (.int (66 : Int32)), .val (.int ip), .val (.int jp), .val (.int s1), .val (.int s2), .val (.ref b1), .val (.ref r_), .val (.int xv), .val (.int yv), .val (.int (1 : Int32)), .val (.int (3 : Int32)), .val (.ref vg_), .unset] [(.ref vg_)]) _
        refine stp (fun _ => XS.iload X65.here hx rfl (hb hby at_228) rfl) ?_
        show Go p e below T65 (mkF m 230 #[.val (.int p0), .val (.int p1), .val (.int p2), .val (.int p3), .val (.int p4), .val (.int p5), .val (.int (66 : Int32)), .val (.int ip), .val (.int jp), .val (.int s1), .val (.int s2), .val (.ref b1), .val (.ref r_), .val (.int xv), .val (.int yv), .val (.int (1 : Int32)), .val (.int (3 : Int32)), .val (.ref vg_), .unset] [(.int yv), (.ref vg_)]) _
        refine stp (fun _ => XS.bipush X65.here hx rfl (hb hby at_230)) ?_
        show Go p e below T65 (mkF m 232 #[.val (.int p0), .val (.int p1), .val (.int p2), .val (.int p3), .val (.int p4), .val (.int p5), .val (.int (66 : Int32)), .val (.int ip), .val (.int jp), .val (.int s1), .val (.int s2), .val (.ref b1), .val (.ref r_), .val (.int xv), .val (.int yv), .val (.int (1 : Int32)), .val (.int (3 : Int32)), .val (.ref vg_), .unset] [(.int (6 : Int32)), (.int yv), (.ref vg_)]) _
        refine stp (fun _ => XS.iushr X65.here hx rfl (hb hby at_232) rfl) ?_
        show Go p e below T65 (mkF m 233 #[.val (.int p0), .val (.int p1), .val (.int p2), .val (.int p3), .val (.int p4), .val (.int p5), .val (.int (66 : Int32)), .val (.int ip), .val (.int jp), .val (.int s1), .val (.int s2), .val (.ref b1), .val (.ref r_), .val (.int xv), .val (.int yv), .val (.int (1 : Int32)), .val (.int (3 : Int32)), .val (.ref vg_), .unset] [(.int ((yv.toUInt32 >>> ((6 : Int32) &&& 31).toUInt32).toInt32)), (.ref vg_)]) _
        obtain ⟨cl69, Ar69, q69, S69, H69, G69⟩ := (id f47)
        have in69 : ¬ (((yv.toUInt32 >>> ((6 : Int32) &&& 31).toUInt32).toInt32) < 0 ∨ cl69.slots.size ≤ (((yv.toUInt32 >>> ((6 : Int32) &&& 31).toUInt32).toInt32)).toNatClampNeg) := arf_in S69 (own_div hyn) (own_d2 hyl)
        have at69 : cl69.slots[(((yv.toUInt32 >>> ((6 : Int32) &&& 31).toUInt32).toInt32)).toNatClampNeg]? = some (.long (own_bits 2 (own_sd ipn s1 jpn s2) 66 (yn / 64))) := arf_at H69 (own_div hyn) (own_d2 hyl)
        refine stp (fun _ => X65.laload hx (j := ((yv.toUInt32 >>> ((6 : Int32) &&& 31).toUInt32).toInt32)) (v := (.long (own_bits 2 (own_sd ipn s1 jpn s2) 66 (yn / 64)))) (by rw [e65]; exact Ar69.1) (State.isArrayOf_alike hZ.alike Ar69.2.1) Ar69.2.2 in69 at69 (g := (mkF m 233 #[.val (.int p0), .val (.int p1), .val (.int p2), .val (.int p3), .val (.int p4), .val (.int p5), .val (.int (66 : Int32)), .val (.int ip), .val (.int jp), .val (.int s1), .val (.int s2), .val (.ref b1), .val (.ref r_), .val (.int xv), .val (.int yv), .val (.int (1 : Int32)), .val (.int (3 : Int32)), .val (.ref vg_), .unset] [(.int ((yv.toUInt32 >>> ((6 : Int32) &&& 31).toUInt32).toInt32)), (.ref vg_)])) rfl rfl (hb hby at_233) _) ?_
        show Go p e below T65 (mkF m 234 #[.val (.int p0), .val (.int p1), .val (.int p2), .val (.int p3), .val (.int p4), .val (.int p5), .val (.int (66 : Int32)), .val (.int ip), .val (.int jp), .val (.int s1), .val (.int s2), .val (.ref b1), .val (.ref r_), .val (.int xv), .val (.int yv), .val (.int (1 : Int32)), .val (.int (3 : Int32)), .val (.ref vg_), .unset] [(.long (own_bits 2 (own_sd ipn s1 jpn s2) 66 (yn / 64)))]) _
        refine stp (fun _ => XS.iload X65.here hx rfl (hb hby at_234) rfl) ?_
        show Go p e below T65 (mkF m 236 #[.val (.int p0), .val (.int p1), .val (.int p2), .val (.int p3), .val (.int p4), .val (.int p5), .val (.int (66 : Int32)), .val (.int ip), .val (.int jp), .val (.int s1), .val (.int s2), .val (.ref b1), .val (.ref r_), .val (.int xv), .val (.int yv), .val (.int (1 : Int32)), .val (.int (3 : Int32)), .val (.ref vg_), .unset] [(.int yv), (.long (own_bits 2 (own_sd ipn s1 jpn s2) 66 (yn / 64)))]) _
        refine stp (fun _ => XS.bipush X65.here hx rfl (hb hby at_236)) ?_
        show Go p e below T65 (mkF m 238 #[.val (.int p0), .val (.int p1), .val (.int p2), .val (.int p3), .val (.int p4), .val (.int p5), .val (.int (66 : Int32)), .val (.int ip), .val (.int jp), .val (.int s1), .val (.int s2), .val (.ref b1), .val (.ref r_), .val (.int xv), .val (.int yv), .val (.int (1 : Int32)), .val (.int (3 : Int32)), .val (.ref vg_), .unset] [(.int (63 : Int32)), (.int yv), (.long (own_bits 2 (own_sd ipn s1 jpn s2) 66 (yn / 64)))]) _
        refine stp (fun _ => XS.iand X65.here hx rfl (hb hby at_238) rfl) ?_
        show Go p e below T65 (mkF m 239 #[.val (.int p0), .val (.int p1), .val (.int p2), .val (.int p3), .val (.int p4), .val (.int p5), .val (.int (66 : Int32)), .val (.int ip), .val (.int jp), .val (.int s1), .val (.int s2), .val (.ref b1), .val (.ref r_), .val (.int xv), .val (.int yv), .val (.int (1 : Int32)), .val (.int (3 : Int32)), .val (.ref vg_), .unset] [(.int (yv &&& (63 : Int32))), (.long (own_bits 2 (own_sd ipn s1 jpn s2) 66 (yn / 64)))]) _
        refine stp (fun _ => XS.lushr X65.here hx rfl (hb hby at_239) rfl) ?_
        show Go p e below T65 (mkF m 240 #[.val (.int p0), .val (.int p1), .val (.int p2), .val (.int p3), .val (.int p4), .val (.int p5), .val (.int (66 : Int32)), .val (.int ip), .val (.int jp), .val (.int s1), .val (.int s2), .val (.ref b1), .val (.ref r_), .val (.int xv), .val (.int yv), .val (.int (1 : Int32)), .val (.int (3 : Int32)), .val (.ref vg_), .unset] [(.long (((own_bits 2 (own_sd ipn s1 jpn s2) 66 (yn / 64)).toUInt64 >>> ((yv &&& (63 : Int32)) &&& 0x3f).toInt64.toUInt64).toInt64))]) _
        refine stp (fun _ => XS.lconst X65.here hx rfl (hb hby at_240)) ?_
        show Go p e below T65 (mkF m 241 #[.val (.int p0), .val (.int p1), .val (.int p2), .val (.int p3), .val (.int p4), .val (.int p5), .val (.int (66 : Int32)), .val (.int ip), .val (.int jp), .val (.int s1), .val (.int s2), .val (.ref b1), .val (.ref r_), .val (.int xv), .val (.int yv), .val (.int (1 : Int32)), .val (.int (3 : Int32)), .val (.ref vg_), .unset] [(.long (1 : Int64)), (.long (((own_bits 2 (own_sd ipn s1 jpn s2) 66 (yn / 64)).toUInt64 >>> ((yv &&& (63 : Int32)) &&& 0x3f).toInt64.toUInt64).toInt64))]) _
        refine stp (fun _ => XS.land X65.here hx rfl (hb hby at_241) rfl) ?_
        show Go p e below T65 (mkF m 242 #[.val (.int p0), .val (.int p1), .val (.int p2), .val (.int p3), .val (.int p4), .val (.int p5), .val (.int (66 : Int32)), .val (.int ip), .val (.int jp), .val (.int s1), .val (.int s2), .val (.ref b1), .val (.ref r_), .val (.int xv), .val (.int yv), .val (.int (1 : Int32)), .val (.int (3 : Int32)), .val (.ref vg_), .unset] [(.long ((((own_bits 2 (own_sd ipn s1 jpn s2) 66 (yn / 64)).toUInt64 >>> ((yv &&& (63 : Int32)) &&& 0x3f).toInt64.toUInt64).toInt64) &&& (1 : Int64)))]) _
        refine stp (fun _ => XS.lconst X65.here hx rfl (hb hby at_242)) ?_
        show Go p e below T65 (mkF m 243 #[.val (.int p0), .val (.int p1), .val (.int p2), .val (.int p3), .val (.int p4), .val (.int p5), .val (.int (66 : Int32)), .val (.int ip), .val (.int jp), .val (.int s1), .val (.int s2), .val (.ref b1), .val (.ref r_), .val (.int xv), .val (.int yv), .val (.int (1 : Int32)), .val (.int (3 : Int32)), .val (.ref vg_), .unset] [(.long (0 : Int64)), (.long ((((own_bits 2 (own_sd ipn s1 jpn s2) 66 (yn / 64)).toUInt64 >>> ((yv &&& (63 : Int32)) &&& 0x3f).toInt64.toUInt64).toInt64) &&& (1 : Int64)))]) _
        refine stp (fun _ => XS.lcmp X65.here hx rfl (hb hby at_243) rfl) ?_
        show Go p e below T65 (mkF m 244 #[.val (.int p0), .val (.int p1), .val (.int p2), .val (.int p3), .val (.int p4), .val (.int p5), .val (.int (66 : Int32)), .val (.int ip), .val (.int jp), .val (.int s1), .val (.int s2), .val (.ref b1), .val (.ref r_), .val (.int xv), .val (.int yv), .val (.int (1 : Int32)), .val (.int (3 : Int32)), .val (.ref vg_), .unset] [(.int (lcmpW ((((own_bits 2 (own_sd ipn s1 jpn s2) 66 (yn / 64)).toUInt64 >>> ((yv &&& (63 : Int32)) &&& 0x3f).toInt64.toUInt64).toInt64) &&& (1 : Int64)) (0 : Int64)))]) _
        refine stp (fun _ => XS.ifNo X65.here hx rfl (hb hby at_244) rfl (XT.ll_eq_f (own_bit1 hyn hyl (by rw [← hsy]; decide)))) ?_
        show Go p e below T65 (mkF m 247 #[.val (.int p0), .val (.int p1), .val (.int p2), .val (.int p3), .val (.int p4), .val (.int p5), .val (.int (66 : Int32)), .val (.int ip), .val (.int jp), .val (.int s1), .val (.int s2), .val (.ref b1), .val (.ref r_), .val (.int xv), .val (.int yv), .val (.int (1 : Int32)), .val (.int (3 : Int32)), .val (.ref vg_), .unset] []) _
        refine stp (fun _ => XS.iconst X65.here hx rfl (hb hby at_247)) ?_
        show Go p e below T65 (mkF m 248 #[.val (.int p0), .val (.int p1), .val (.int p2), .val (.int p3), .val (.int p4), .val (.int p5), .val (.int (66 : Int32)), .val (.int ip), .val (.int jp), .val (.int s1), .val (.int s2), .val (.ref b1), .val (.ref r_), .val (.int xv), .val (.int yv), .val (.int (1 : Int32)), .val (.int (3 : Int32)), .val (.ref vg_), .unset] [(.int (1 : Int32))]) _
        refine stp (fun _ => XS.goto X65.here hx rfl (pc0 := 248) (pc' := 252) rfl (hb hby at_248) (by decide) (by decide)) ?_
        show Go p e below T65 (mkF m 252 #[.val (.int p0), .val (.int p1), .val (.int p2), .val (.int p3), .val (.int p4), .val (.int p5), .val (.int (66 : Int32)), .val (.int ip), .val (.int jp), .val (.int s1), .val (.int s2), .val (.ref b1), .val (.ref r_), .val (.int xv), .val (.int yv), .val (.int (1 : Int32)), .val (.int (3 : Int32)), .val (.ref vg_), .unset] [(.int (1 : Int32))]) _
        refine stp (fun _ => XS.istore X65.here hx rfl (hb hby at_252) rfl (l' := #[.val (.int p0), .val (.int p1), .val (.int p2), .val (.int p3), .val (.int p4), .val (.int p5), .val (.int (66 : Int32)), .val (.int ip), .val (.int jp), .val (.int s1), .val (.int s2), .val (.ref b1), .val (.ref r_), .val (.int xv), .val (.int yv), .val (.int (1 : Int32)), .val (.int (3 : Int32)), .val (.ref vg_), .val (.int (1 : Int32))]) rfl) ?_
        show Go p e below T65 (mkF m 254 #[.val (.int p0), .val (.int p1), .val (.int p2), .val (.int p3), .val (.int p4), .val (.int p5), .val (.int (66 : Int32)), .val (.int ip), .val (.int jp), .val (.int s1), .val (.int s2), .val (.ref b1), .val (.ref r_), .val (.int xv), .val (.int yv), .val (.int (1 : Int32)), .val (.int (3 : Int32)), .val (.ref vg_), .val (.int (1 : Int32))] []) _
        refine stp (fun _ => XS.iload X65.here hx rfl (hb hby at_254) rfl) ?_
        show Go p e below T65 (mkF m 256 #[.val (.int p0), .val (.int p1), .val (.int p2), .val (.int p3), .val (.int p4), .val (.int p5), .val (.int (66 : Int32)), .val (.int ip), .val (.int jp), .val (.int s1), .val (.int s2), .val (.ref b1), .val (.ref r_), .val (.int xv), .val (.int yv), .val (.int (1 : Int32)), .val (.int (3 : Int32)), .val (.ref vg_), .val (.int (1 : Int32))] [(.int (1 : Int32))]) _
        refine stp (fun _ => XS.iload X65.here hx rfl (hb hby at_256) rfl) ?_
        show Go p e below T65 (mkF m 258 #[.val (.int p0), .val (.int p1), .val (.int p2), .val (.int p3), .val (.int p4), .val (.int p5), .val (.int (66 : Int32)), .val (.int ip), .val (.int jp), .val (.int s1), .val (.int s2), .val (.ref b1), .val (.ref r_), .val (.int xv), .val (.int yv), .val (.int (1 : Int32)), .val (.int (3 : Int32)), .val (.ref vg_), .val (.int (1 : Int32))] [(.int (3 : Int32)), (.int (1 : Int32))]) _
        refine stp (fun _ => XS.iconst X65.here hx rfl (hb hby at_258)) ?_
        show Go p e below T65 (mkF m 259 #[.val (.int p0), .val (.int p1), .val (.int p2), .val (.int p3), .val (.int p4), .val (.int p5), .val (.int (66 : Int32)), .val (.int ip), .val (.int jp), .val (.int s1), .val (.int s2), .val (.ref b1), .val (.ref r_), .val (.int xv), .val (.int yv), .val (.int (1 : Int32)), .val (.int (3 : Int32)), .val (.ref vg_), .val (.int (1 : Int32))] [(.int (3 : Int32)), (.int (3 : Int32)), (.int (1 : Int32))]) _
        refine stp (fun _ => XS.iload X65.here hx rfl (hb hby at_259) rfl) ?_
        show Go p e below T65 (mkF m 261 #[.val (.int p0), .val (.int p1), .val (.int p2), .val (.int p3), .val (.int p4), .val (.int p5), .val (.int (66 : Int32)), .val (.int ip), .val (.int jp), .val (.int s1), .val (.int s2), .val (.ref b1), .val (.ref r_), .val (.int xv), .val (.int yv), .val (.int (1 : Int32)), .val (.int (3 : Int32)), .val (.ref vg_), .val (.int (1 : Int32))] [(.int (1 : Int32)), (.int (3 : Int32)), (.int (3 : Int32)), (.int (1 : Int32))]) _
        refine stp (fun _ => XS.isub X65.here hx rfl (hb hby at_261) rfl) ?_
        show Go p e below T65 (mkF m 262 #[.val (.int p0), .val (.int p1), .val (.int p2), .val (.int p3), .val (.int p4), .val (.int p5), .val (.int (66 : Int32)), .val (.int ip), .val (.int jp), .val (.int s1), .val (.int s2), .val (.ref b1), .val (.ref r_), .val (.int xv), .val (.int yv), .val (.int (1 : Int32)), .val (.int (3 : Int32)), .val (.ref vg_), .val (.int (1 : Int32))] [(.int (2 : Int32)), (.int (3 : Int32)), (.int (1 : Int32))]) _
        refine stp (fun _ => XS.iand X65.here hx rfl (hb hby at_262) rfl) ?_
        show Go p e below T65 (mkF m 263 #[.val (.int p0), .val (.int p1), .val (.int p2), .val (.int p3), .val (.int p4), .val (.int p5), .val (.int (66 : Int32)), .val (.int ip), .val (.int jp), .val (.int s1), .val (.int s2), .val (.ref b1), .val (.ref r_), .val (.int xv), .val (.int yv), .val (.int (1 : Int32)), .val (.int (3 : Int32)), .val (.ref vg_), .val (.int (1 : Int32))] [(.int (2 : Int32)), (.int (1 : Int32))]) _
        refine stp (fun _ => XS.ifNo X65.here hx rfl (hb hby at_263) rfl (by decide)) ?_
        show Go p e below T65 (mkF m 266 #[.val (.int p0), .val (.int p1), .val (.int p2), .val (.int p3), .val (.int p4), .val (.int p5), .val (.int (66 : Int32)), .val (.int ip), .val (.int jp), .val (.int s1), .val (.int s2), .val (.ref b1), .val (.ref r_), .val (.int xv), .val (.int yv), .val (.int (1 : Int32)), .val (.int (3 : Int32)), .val (.ref vg_), .val (.int (1 : Int32))] [(.int (1 : Int32))]) _
        refine stp (fun _ => XS.iconst X65.here hx rfl (hb hby at_266)) ?_
        show Go p e below T65 (mkF m 267 #[.val (.int p0), .val (.int p1), .val (.int p2), .val (.int p3), .val (.int p4), .val (.int p5), .val (.int (66 : Int32)), .val (.int ip), .val (.int jp), .val (.int s1), .val (.int s2), .val (.ref b1), .val (.ref r_), .val (.int xv), .val (.int yv), .val (.int (1 : Int32)), .val (.int (3 : Int32)), .val (.ref vg_), .val (.int (1 : Int32))] [(.int (1 : Int32)), (.int (1 : Int32))]) _
        refine stp (fun _ => XS.goto X65.here hx rfl (pc0 := 267) (pc' := 271) rfl (hb hby at_267) (by decide) (by decide)) ?_
        show Go p e below T65 (mkF m 271 #[.val (.int p0), .val (.int p1), .val (.int p2), .val (.int p3), .val (.int p4), .val (.int p5), .val (.int (66 : Int32)), .val (.int ip), .val (.int jp), .val (.int s1), .val (.int s2), .val (.ref b1), .val (.ref r_), .val (.int xv), .val (.int yv), .val (.int (1 : Int32)), .val (.int (3 : Int32)), .val (.ref vg_), .val (.int (1 : Int32))] [(.int (1 : Int32)), (.int (1 : Int32))]) _
        refine stp (fun _ => XS.icmpNo X65.here hx rfl (hb hby at_271) rfl (by decide)) ?_
        show Go p e below T65 (mkF m 274 #[.val (.int p0), .val (.int p1), .val (.int p2), .val (.int p3), .val (.int p4), .val (.int p5), .val (.int (66 : Int32)), .val (.int ip), .val (.int jp), .val (.int s1), .val (.int s2), .val (.ref b1), .val (.ref r_), .val (.int xv), .val (.int yv), .val (.int (1 : Int32)), .val (.int (3 : Int32)), .val (.ref vg_), .val (.int (1 : Int32))] []) _
        refine stp (fun _ => XS.iconst X65.here hx rfl (hb hby at_274)) ?_
        show Go p e below T65 (mkF m 275 #[.val (.int p0), .val (.int p1), .val (.int p2), .val (.int p3), .val (.int p4), .val (.int p5), .val (.int (66 : Int32)), .val (.int ip), .val (.int jp), .val (.int s1), .val (.int s2), .val (.ref b1), .val (.ref r_), .val (.int xv), .val (.int yv), .val (.int (1 : Int32)), .val (.int (3 : Int32)), .val (.ref vg_), .val (.int (1 : Int32))] [(.int (1 : Int32))]) _
        refine stp (fun _ => XS.goto X65.here hx rfl (pc0 := 275) (pc' := 279) rfl (hb hby at_275) (by decide) (by decide)) ?_
        show Go p e below T65 (mkF m 279 #[.val (.int p0), .val (.int p1), .val (.int p2), .val (.int p3), .val (.int p4), .val (.int p5), .val (.int (66 : Int32)), .val (.int ip), .val (.int jp), .val (.int s1), .val (.int s2), .val (.ref b1), .val (.ref r_), .val (.int xv), .val (.int yv), .val (.int (1 : Int32)), .val (.int (3 : Int32)), .val (.ref vg_), .val (.int (1 : Int32))] [(.int (1 : Int32))]) _
        refine outN X65 hx (t := .boolean) hret (by simp) (hb hby at_279) hlk (by decide) (by decide) ?_
        exact ⟨rfl, N65⟩
    · rcases hy3 with rfl | rfl | rfl
      · show Go p e below T51 (mkF m 134 #[.val (.int p0), .val (.int p1), .val (.int p2), .val (.int p3), .val (.int p4), .val (.int p5), .val (.int (66 : Int32)), .val (.int ip), .val (.int jp), .val (.int s1), .val (.int s2), .val (.ref b1), .val (.ref r_), .val (.int xv), .val (.int yv), .val (.int (2 : Int32)), .val (.int (1 : Int32)), .unset, .unset] []) _
        refine stp (fun _ => XS.aload X51.here hx rfl (hb hby at_134) rfl rfl) ?_
        show Go p e below T51 (mkF m 136 #[.val (.int p0), .val (.int p1), .val (.int p2), .val (.int p3), .val (.int p4), .val (.int p5), .val (.int (66 : Int32)), .val (.int ip), .val (.int jp), .val (.int s1), .val (.int s2), .val (.ref b1), .val (.ref r_), .val (.int xv), .val (.int yv), .val (.int (2 : Int32)), .val (.int (1 : Int32)), .unset, .unset] [(.ref r_)]) _
        refine stp (fun _ => XS.iload X51.here hx rfl (hb hby at_136) rfl) ?_
        show Go p e below T51 (mkF m 138 #[.val (.int p0), .val (.int p1), .val (.int p2), .val (.int p3), .val (.int p4), .val (.int p5), .val (.int (66 : Int32)), .val (.int ip), .val (.int jp), .val (.int s1), .val (.int s2), .val (.ref b1), .val (.ref r_), .val (.int xv), .val (.int yv), .val (.int (2 : Int32)), .val (.int (1 : Int32)), .unset, .unset] [(.int xv), (.ref r_)]) _
        refine stp (fun _ => XS.iload X51.here hx rfl (hb hby at_138) rfl) ?_
        show Go p e below T51 (mkF m 140 #[.val (.int p0), .val (.int p1), .val (.int p2), .val (.int p3), .val (.int p4), .val (.int p5), .val (.int (66 : Int32)), .val (.int ip), .val (.int jp), .val (.int s1), .val (.int s2), .val (.ref b1), .val (.ref r_), .val (.int xv), .val (.int yv), .val (.int (2 : Int32)), .val (.int (1 : Int32)), .unset, .unset] [(.int yv), (.int xv), (.ref r_)]) _
        obtain ⟨cq70, kq70, q70a, q70b, q70c⟩ := isOf hZ e51 f41
        obtain ⟨_, _, ⟨T70, L70, k70, n70⟩, -, X70, ⟨Lc70, hQ70, l70, y70, z70⟩, st70⟩ := X51.virtualBack hx (y := (⟨"com/example/brisk_dedup/briskdedup/engine/Sides", "mayPair", "(II)Z"⟩ : MethodName)) (z := (⟨"com/example/brisk_dedup/briskdedup/engine/Sides", "mayPair", "(II)Z"⟩ : MethodName)) hown (mvT hZ (hw _ (List.mem_of_getElem? (i := 40) rfl))) (mvT hZ (hw _ (List.mem_of_getElem? (i := 41) rfl))) (notFace_of_selects (args := #[]) (mvT hZ (hw _ (List.mem_of_getElem? (i := 43) rfl)))) (mvT hZ (hw _ (List.mem_of_getElem? (i := 43) rfl))) (mvT hZ (hw _ (List.mem_of_getElem? (i := 42) rfl))) (by decide) (backOf (W := 0) (rm_mp1 l Z a0 hw [] r_ xv yv vb_ (own_sd ipn s1 jpn s2) xn yn (1 : Int32) kb_ h38 n0 O38 f42 f45 hxn hxl hyn hyl ⟨fun _ => rfl, fun h => absurd (by rw [← hsx, ← hsy]; decide) h⟩) hZ (hw _ (List.mem_of_getElem? (i := 44) rfl)) (hw _ (List.mem_of_getElem? (i := 8) rfl)) (by decide) (by decide)) q70a q70c (g := (mkF m 140 #[.val (.int p0), .val (.int p1), .val (.int p2), .val (.int p3), .val (.int p4), .val (.int p5), .val (.int (66 : Int32)), .val (.int ip), .val (.int jp), .val (.int s1), .val (.int s2), .val (.ref b1), .val (.ref r_), .val (.int xv), .val (.int yv), .val (.int (2 : Int32)), .val (.int (1 : Int32)), .unset, .unset] [(.int yv), (.int xv), (.ref r_)])) rfl (by rw [hml]; rfl) (Steps.refl _) (argsL := [(.int xv), (.int yv)]) (rest := []) (lenOf pd_5 rfl) rfl (by show 2 * 0 + _ ≤ _; exact Nat.le_of_eq rfl) (hb hby at_140) (fun _ _ => ⟨rfl, e51, (by decide : 5 + 0 ≤ _), (by decide : 139 + 0 ≤ _)⟩)
        dsimp only [Pt.U, Pt.locs, Pt.cells, Pt.slots] at X70 l70 y70 z70 st70 hQ70
        subst l70 y70 z70
        obtain ⟨rfl, N70q, e70⟩ := hQ70
        have N70 := Fr.app N51 N70q
        refine stt st70 ?_
        show Go p e below T70 (mkF m 143 #[.val (.int p0), .val (.int p1), .val (.int p2), .val (.int p3), .val (.int p4), .val (.int p5), .val (.int (66 : Int32)), .val (.int ip), .val (.int jp), .val (.int s1), .val (.int s2), .val (.ref b1), .val (.ref r_), .val (.int xv), .val (.int yv), .val (.int (2 : Int32)), .val (.int (1 : Int32)), .unset, .unset] [(.int (1 : Int32))]) _
        refine stp (fun _ => XS.iload X70.here hx rfl (hb hby at_143) rfl) ?_
        show Go p e below T70 (mkF m 145 #[.val (.int p0), .val (.int p1), .val (.int p2), .val (.int p3), .val (.int p4), .val (.int p5), .val (.int (66 : Int32)), .val (.int ip), .val (.int jp), .val (.int s1), .val (.int s2), .val (.ref b1), .val (.ref r_), .val (.int xv), .val (.int yv), .val (.int (2 : Int32)), .val (.int (1 : Int32)), .unset, .unset] [(.int (2 : Int32)), (.int (1 : Int32))]) _
        refine stp (fun _ => XS.iload X70.here hx rfl (hb hby at_145) rfl) ?_
        show Go p e below T70 (mkF m 147 #[.val (.int p0), .val (.int p1), .val (.int p2), .val (.int p3), .val (.int p4), .val (.int p5), .val (.int (66 : Int32)), .val (.int ip), .val (.int jp), .val (.int s1), .val (.int s2), .val (.ref b1), .val (.ref r_), .val (.int xv), .val (.int yv), .val (.int (2 : Int32)), .val (.int (1 : Int32)), .unset, .unset] [(.int (1 : Int32)), (.int (2 : Int32)), (.int (1 : Int32))]) _
        refine stp (fun _ => XS.ior X70.here hx rfl (hb hby at_147) rfl) ?_
        show Go p e below T70 (mkF m 148 #[.val (.int p0), .val (.int p1), .val (.int p2), .val (.int p3), .val (.int p4), .val (.int p5), .val (.int (66 : Int32)), .val (.int ip), .val (.int jp), .val (.int s1), .val (.int s2), .val (.ref b1), .val (.ref r_), .val (.int xv), .val (.int yv), .val (.int (2 : Int32)), .val (.int (1 : Int32)), .unset, .unset] [(.int (3 : Int32)), (.int (1 : Int32))]) _
        refine stp (fun _ => XS.iconst X70.here hx rfl (hb hby at_148)) ?_
        show Go p e below T70 (mkF m 149 #[.val (.int p0), .val (.int p1), .val (.int p2), .val (.int p3), .val (.int p4), .val (.int p5), .val (.int (66 : Int32)), .val (.int ip), .val (.int jp), .val (.int s1), .val (.int s2), .val (.ref b1), .val (.ref r_), .val (.int xv), .val (.int yv), .val (.int (2 : Int32)), .val (.int (1 : Int32)), .unset, .unset] [(.int (3 : Int32)), (.int (3 : Int32)), (.int (1 : Int32))]) _
        refine stp (fun _ => XS.icmpNo X70.here hx rfl (hb hby at_149) rfl (by decide)) ?_
        show Go p e below T70 (mkF m 152 #[.val (.int p0), .val (.int p1), .val (.int p2), .val (.int p3), .val (.int p4), .val (.int p5), .val (.int (66 : Int32)), .val (.int ip), .val (.int jp), .val (.int s1), .val (.int s2), .val (.ref b1), .val (.ref r_), .val (.int xv), .val (.int yv), .val (.int (2 : Int32)), .val (.int (1 : Int32)), .unset, .unset] [(.int (1 : Int32))]) _
        refine stp (fun _ => XS.iconst X70.here hx rfl (hb hby at_152)) ?_
        show Go p e below T70 (mkF m 153 #[.val (.int p0), .val (.int p1), .val (.int p2), .val (.int p3), .val (.int p4), .val (.int p5), .val (.int (66 : Int32)), .val (.int ip), .val (.int jp), .val (.int s1), .val (.int s2), .val (.ref b1), .val (.ref r_), .val (.int xv), .val (.int yv), .val (.int (2 : Int32)), .val (.int (1 : Int32)), .unset, .unset] [(.int (1 : Int32)), (.int (1 : Int32))]) _
        refine stp (fun _ => XS.goto X70.here hx rfl (pc0 := 153) (pc' := 157) rfl (hb hby at_153) (by decide) (by decide)) ?_
        show Go p e below T70 (mkF m 157 #[.val (.int p0), .val (.int p1), .val (.int p2), .val (.int p3), .val (.int p4), .val (.int p5), .val (.int (66 : Int32)), .val (.int ip), .val (.int jp), .val (.int s1), .val (.int s2), .val (.ref b1), .val (.ref r_), .val (.int xv), .val (.int yv), .val (.int (2 : Int32)), .val (.int (1 : Int32)), .unset, .unset] [(.int (1 : Int32)), (.int (1 : Int32))]) _
        refine stp (fun _ => XS.icmpYes X70.here hx rfl (pc0 := 157) (pc' := 162) rfl (hb hby at_157) rfl (by decide) (by decide) (by decide)) ?_
        show Go p e below T70 (mkF m 162 #[.val (.int p0), .val (.int p1), .val (.int p2), .val (.int p3), .val (.int p4), .val (.int p5), .val (.int (66 : Int32)), .val (.int ip), .val (.int jp), .val (.int s1), .val (.int s2), .val (.ref b1), .val (.ref r_), .val (.int xv), .val (.int yv), .val (.int (2 : Int32)), .val (.int (1 : Int32)), .unset, .unset] []) _
        refine stp (fun _ => XS.aload X70.here hx rfl (hb hby at_162) rfl rfl) ?_
        show Go p e below T70 (mkF m 164 #[.val (.int p0), .val (.int p1), .val (.int p2), .val (.int p3), .val (.int p4), .val (.int p5), .val (.int (66 : Int32)), .val (.int ip), .val (.int jp), .val (.int s1), .val (.int s2), .val (.ref b1), .val (.ref r_), .val (.int xv), .val (.int yv), .val (.int (2 : Int32)), .val (.int (1 : Int32)), .unset, .unset] [(.ref r_)]) _
        refine stp (fun _ => XS.iload X70.here hx rfl (hb hby at_164) rfl) ?_
        show Go p e below T70 (mkF m 166 #[.val (.int p0), .val (.int p1), .val (.int p2), .val (.int p3), .val (.int p4), .val (.int p5), .val (.int (66 : Int32)), .val (.int ip), .val (.int jp), .val (.int s1), .val (.int s2), .val (.ref b1), .val (.ref r_), .val (.int xv), .val (.int yv), .val (.int (2 : Int32)), .val (.int (1 : Int32)), .unset, .unset] [(.int xv), (.ref r_)]) _
        obtain ⟨cq71, kq71, q71a, q71b, q71c⟩ := isOf hZ e70 f41
        obtain ⟨_, _, ⟨T71, L71, k71, n71⟩, -, X71, ⟨Lc71, hQ71, l71, y71, z71⟩, st71⟩ := X70.virtualBack hx (y := (⟨"com/example/brisk_dedup/briskdedup/engine/Sides", "partners", "(I)[J"⟩ : MethodName)) (z := (⟨"com/example/brisk_dedup/briskdedup/engine/Sides", "partners", "(I)[J"⟩ : MethodName)) hown (mvT hZ (hw _ (List.mem_of_getElem? (i := 45) rfl))) (mvT hZ (hw _ (List.mem_of_getElem? (i := 46) rfl))) (notFace_of_selects (args := #[]) (mvT hZ (hw _ (List.mem_of_getElem? (i := 48) rfl)))) (mvT hZ (hw _ (List.mem_of_getElem? (i := 48) rfl))) (mvT hZ (hw _ (List.mem_of_getElem? (i := 47) rfl))) (by decide) (backOf (W := 0) (rm_pa2 l Z a0 hw [] r_ xv vb_ (own_sd ipn s1 jpn s2) xn vf_ kb_ h38 n0 O38 f42 f45 f43 hxn hxl hsx.symm) hZ (hw _ (List.mem_of_getElem? (i := 49) rfl)) (hw _ (List.mem_of_getElem? (i := 8) rfl)) (by decide) (by decide)) q71a q71c (g := (mkF m 166 #[.val (.int p0), .val (.int p1), .val (.int p2), .val (.int p3), .val (.int p4), .val (.int p5), .val (.int (66 : Int32)), .val (.int ip), .val (.int jp), .val (.int s1), .val (.int s2), .val (.ref b1), .val (.ref r_), .val (.int xv), .val (.int yv), .val (.int (2 : Int32)), .val (.int (1 : Int32)), .unset, .unset] [(.int xv), (.ref r_)])) rfl (by rw [hml]; rfl) (Steps.refl _) (argsL := [(.int xv)]) (rest := []) (lenOf pd_6 rfl) rfl (by show 2 * 0 + _ ≤ _; exact Nat.le_of_eq rfl) (hb hby at_166) (fun _ _ => ⟨rfl, e70, (by decide : 5 + 0 ≤ _), (by decide : 139 + 0 ≤ _)⟩)
        dsimp only [Pt.U, Pt.locs, Pt.cells, Pt.slots] at X71 l71 y71 z71 st71 hQ71
        subst l71 y71 z71
        obtain ⟨rfl, N71q, e71⟩ := hQ71
        have N71 := Fr.app N70 N71q
        refine stt st71 ?_
        show Go p e below T71 (mkF m 169 #[.val (.int p0), .val (.int p1), .val (.int p2), .val (.int p3), .val (.int p4), .val (.int p5), .val (.int (66 : Int32)), .val (.int ip), .val (.int jp), .val (.int s1), .val (.int s2), .val (.ref b1), .val (.ref r_), .val (.int xv), .val (.int yv), .val (.int (2 : Int32)), .val (.int (1 : Int32)), .unset, .unset] [(.ref vf_)]) _
        refine stp (fun _ => XS.astore X71.here hx rfl (hb hby at_169) rfl rfl (l' := #[.val (.int p0), .val (.int p1), .val (.int p2), .val (.int p3), .val (.int p4), .val (.int p5), .val (.int (66 : Int32)), .val (.int ip), .val (.int jp), .val (.int s1), .val (.int s2), .val (.ref b1), .val (.ref r_), .val (.int xv), .val (.int yv), .val (.int (2 : Int32)), .val (.int (1 : Int32)), .val (.ref vf_), .unset]) rfl) ?_
        show Go p e below T71 (mkF m 171 #[.val (.int p0), .val (.int p1), .val (.int p2), .val (.int p3), .val (.int p4), .val (.int p5), .val (.int (66 : Int32)), .val (.int ip), .val (.int jp), .val (.int s1), .val (.int s2), .val (.ref b1), .val (.ref r_), .val (.int xv), .val (.int yv), .val (.int (2 : Int32)), .val (.int (1 : Int32)), .val (.ref vf_), .unset] []) _
        refine stp (fun _ => XS.iload X71.here hx rfl (hb hby at_171) rfl) ?_
        show Go p e below T71 (mkF m 173 #[.val (.int p0), .val (.int p1), .val (.int p2), .val (.int p3), .val (.int p4), .val (.int p5), .val (.int (66 : Int32)), .val (.int ip), .val (.int jp), .val (.int s1), .val (.int s2), .val (.ref b1), .val (.ref r_), .val (.int xv), .val (.int yv), .val (.int (2 : Int32)), .val (.int (1 : Int32)), .val (.ref vf_), .unset] [(.int (2 : Int32))]) _
        refine stp (fun _ => XS.iconst X71.here hx rfl (hb hby at_173)) ?_
        show Go p e below T71 (mkF m 174 #[.val (.int p0), .val (.int p1), .val (.int p2), .val (.int p3), .val (.int p4), .val (.int p5), .val (.int (66 : Int32)), .val (.int ip), .val (.int jp), .val (.int s1), .val (.int s2), .val (.ref b1), .val (.ref r_), .val (.int xv), .val (.int yv), .val (.int (2 : Int32)), .val (.int (1 : Int32)), .val (.ref vf_), .unset] [(.int (3 : Int32)), (.int (2 : Int32))]) _
        refine stp (fun _ => XS.icmpYes X71.here hx rfl (pc0 := 174) (pc' := 188) rfl (hb hby at_174) rfl (by decide) (by decide) (by decide)) ?_
        show Go p e below T71 (mkF m 188 #[.val (.int p0), .val (.int p1), .val (.int p2), .val (.int p3), .val (.int p4), .val (.int p5), .val (.int (66 : Int32)), .val (.int ip), .val (.int jp), .val (.int s1), .val (.int s2), .val (.ref b1), .val (.ref r_), .val (.int xv), .val (.int yv), .val (.int (2 : Int32)), .val (.int (1 : Int32)), .val (.ref vf_), .unset] []) _
        refine stp (fun _ => XS.aload X71.here hx rfl (hb hby at_188) rfl rfl) ?_
        show Go p e below T71 (mkF m 190 #[.val (.int p0), .val (.int p1), .val (.int p2), .val (.int p3), .val (.int p4), .val (.int p5), .val (.int (66 : Int32)), .val (.int ip), .val (.int jp), .val (.int s1), .val (.int s2), .val (.ref b1), .val (.ref r_), .val (.int xv), .val (.int yv), .val (.int (2 : Int32)), .val (.int (1 : Int32)), .val (.ref vf_), .unset] [(.ref vf_)]) _
        refine stp (fun _ => XS.ifnullNo X71.here hx rfl (hb hby at_190) rfl) ?_
        show Go p e below T71 (mkF m 193 #[.val (.int p0), .val (.int p1), .val (.int p2), .val (.int p3), .val (.int p4), .val (.int p5), .val (.int (66 : Int32)), .val (.int ip), .val (.int jp), .val (.int s1), .val (.int s2), .val (.ref b1), .val (.ref r_), .val (.int xv), .val (.int yv), .val (.int (2 : Int32)), .val (.int (1 : Int32)), .val (.ref vf_), .unset] []) _
        refine stp (fun _ => XS.aload X71.here hx rfl (hb hby at_193) rfl rfl) ?_
        show Go p e below T71 (mkF m 195 #[.val (.int p0), .val (.int p1), .val (.int p2), .val (.int p3), .val (.int p4), .val (.int p5), .val (.int (66 : Int32)), .val (.int ip), .val (.int jp), .val (.int s1), .val (.int s2), .val (.ref b1), .val (.ref r_), .val (.int xv), .val (.int yv), .val (.int (2 : Int32)), .val (.int (1 : Int32)), .val (.ref vf_), .unset] [(.ref vf_)]) _
        obtain ⟨cl72, Ar72, -, S72, -, -⟩ := (id f46)
        refine stp (fun _ => X71.arraylength hx (by rw [e71]; exact Ar72.1) (State.isArrayOf_alike hZ.alike Ar72.2.1) (g := (mkF m 195 #[.val (.int p0), .val (.int p1), .val (.int p2), .val (.int p3), .val (.int p4), .val (.int p5), .val (.int (66 : Int32)), .val (.int ip), .val (.int jp), .val (.int s1), .val (.int s2), .val (.ref b1), .val (.ref r_), .val (.int xv), .val (.int yv), .val (.int (2 : Int32)), .val (.int (1 : Int32)), .val (.ref vf_), .unset] [(.ref vf_)])) rfl rfl (hb hby at_195) _) ?_
        rw [arf_len S72 (z := (2 : Int32)) (by decide)]
        show Go p e below T71 (mkF m 196 #[.val (.int p0), .val (.int p1), .val (.int p2), .val (.int p3), .val (.int p4), .val (.int p5), .val (.int (66 : Int32)), .val (.int ip), .val (.int jp), .val (.int s1), .val (.int s2), .val (.ref b1), .val (.ref r_), .val (.int xv), .val (.int yv), .val (.int (2 : Int32)), .val (.int (1 : Int32)), .val (.ref vf_), .unset] [(.int (2 : Int32))]) _
        refine stp (fun _ => XS.iload X71.here hx rfl (hb hby at_196) rfl) ?_
        show Go p e below T71 (mkF m 198 #[.val (.int p0), .val (.int p1), .val (.int p2), .val (.int p3), .val (.int p4), .val (.int p5), .val (.int (66 : Int32)), .val (.int ip), .val (.int jp), .val (.int s1), .val (.int s2), .val (.ref b1), .val (.ref r_), .val (.int xv), .val (.int yv), .val (.int (2 : Int32)), .val (.int (1 : Int32)), .val (.ref vf_), .unset] [(.int yv), (.int (2 : Int32))]) _
        refine stp (fun _ => XS.bipush X71.here hx rfl (hb hby at_198)) ?_
        show Go p e below T71 (mkF m 200 #[.val (.int p0), .val (.int p1), .val (.int p2), .val (.int p3), .val (.int p4), .val (.int p5), .val (.int (66 : Int32)), .val (.int ip), .val (.int jp), .val (.int s1), .val (.int s2), .val (.ref b1), .val (.ref r_), .val (.int xv), .val (.int yv), .val (.int (2 : Int32)), .val (.int (1 : Int32)), .val (.ref vf_), .unset] [(.int (6 : Int32)), (.int yv), (.int (2 : Int32))]) _
        refine stp (fun _ => XS.iushr X71.here hx rfl (hb hby at_200) rfl) ?_
        show Go p e below T71 (mkF m 201 #[.val (.int p0), .val (.int p1), .val (.int p2), .val (.int p3), .val (.int p4), .val (.int p5), .val (.int (66 : Int32)), .val (.int ip), .val (.int jp), .val (.int s1), .val (.int s2), .val (.ref b1), .val (.ref r_), .val (.int xv), .val (.int yv), .val (.int (2 : Int32)), .val (.int (1 : Int32)), .val (.ref vf_), .unset] [(.int ((yv.toUInt32 >>> ((6 : Int32) &&& 31).toUInt32).toInt32)), (.int (2 : Int32))]) _
        refine stp (fun _ => XS.icmpYes X71.here hx rfl (pc0 := 201) (pc' := 206) rfl (hb hby at_201) rfl (XT.ii_gt_t (own_lt2 hyn hyl)) (by decide) (by decide)) ?_
        show Go p e below T71 (mkF m 206 #[.val (.int p0), .val (.int p1), .val (.int p2), .val (.int p3), .val (.int p4), .val (.int p5), .val (.int (66 : Int32)), .val (.int ip), .val (.int jp), .val (.int s1), .val (.int s2), .val (.ref b1), .val (.ref r_), .val (.int xv), .val (.int yv), .val (.int (2 : Int32)), .val (.int (1 : Int32)), .val (.ref vf_), .unset] []) _
        refine stp (fun _ => XS.aload X71.here hx rfl (hb hby at_206) rfl rfl) ?_
        show Go p e below T71 (mkF m 208 #[.val (.int p0), .val (.int p1), .val (.int p2), .val (.int p3), .val (.int p4), .val (.int p5), .val (.int (66 : Int32)), .val (.int ip), .val (.int jp), .val (.int s1), .val (.int s2), .val (.ref b1), .val (.ref r_), .val (.int xv), .val (.int yv), .val (.int (2 : Int32)), .val (.int (1 : Int32)), .val (.ref vf_), .unset] [(.ref vf_)]) _
        obtain ⟨cl73, Ar73, -, S73, -, -⟩ := (id f46)
        refine stp (fun _ => X71.arraylength hx (by rw [e71]; exact Ar73.1) (State.isArrayOf_alike hZ.alike Ar73.2.1) (g := (mkF m 208 #[.val (.int p0), .val (.int p1), .val (.int p2), .val (.int p3), .val (.int p4), .val (.int p5), .val (.int (66 : Int32)), .val (.int ip), .val (.int jp), .val (.int s1), .val (.int s2), .val (.ref b1), .val (.ref r_), .val (.int xv), .val (.int yv), .val (.int (2 : Int32)), .val (.int (1 : Int32)), .val (.ref vf_), .unset] [(.ref vf_)])) rfl rfl (hb hby at_208) _) ?_
        rw [arf_len S73 (z := (2 : Int32)) (by decide)]
        show Go p e below T71 (mkF m 209 #[.val (.int p0), .val (.int p1), .val (.int p2), .val (.int p3), .val (.int p4), .val (.int p5), .val (.int (66 : Int32)), .val (.int ip), .val (.int jp), .val (.int s1), .val (.int s2), .val (.ref b1), .val (.ref r_), .val (.int xv), .val (.int yv), .val (.int (2 : Int32)), .val (.int (1 : Int32)), .val (.ref vf_), .unset] [(.int (2 : Int32))]) _
        refine stp (fun _ => XS.iconst X71.here hx rfl (hb hby at_209)) ?_
        show Go p e below T71 (mkF m 210 #[.val (.int p0), .val (.int p1), .val (.int p2), .val (.int p3), .val (.int p4), .val (.int p5), .val (.int (66 : Int32)), .val (.int ip), .val (.int jp), .val (.int s1), .val (.int s2), .val (.ref b1), .val (.ref r_), .val (.int xv), .val (.int yv), .val (.int (2 : Int32)), .val (.int (1 : Int32)), .val (.ref vf_), .unset] [(.int (1 : Int32)), (.int (2 : Int32))]) _
        refine stp (fun _ => XS.icmpNo X71.here hx rfl (hb hby at_210) rfl (by decide)) ?_
        show Go p e below T71 (mkF m 213 #[.val (.int p0), .val (.int p1), .val (.int p2), .val (.int p3), .val (.int p4), .val (.int p5), .val (.int (66 : Int32)), .val (.int ip), .val (.int jp), .val (.int s1), .val (.int s2), .val (.ref b1), .val (.ref r_), .val (.int xv), .val (.int yv), .val (.int (2 : Int32)), .val (.int (1 : Int32)), .val (.ref vf_), .unset] []) _
        refine stp (fun _ => XS.aload X71.here hx rfl (hb hby at_213) rfl rfl) ?_
        show Go p e below T71 (mkF m 215 #[.val (.int p0), .val (.int p1), .val (.int p2), .val (.int p3), .val (.int p4), .val (.int p5), .val (.int (66 : Int32)), .val (.int ip), .val (.int jp), .val (.int s1), .val (.int s2), .val (.ref b1), .val (.ref r_), .val (.int xv), .val (.int yv), .val (.int (2 : Int32)), .val (.int (1 : Int32)), .val (.ref vf_), .unset] [(.ref vf_)]) _
        refine stp (fun _ => XS.iconst X71.here hx rfl (hb hby at_215)) ?_
        show Go p e below T71 (mkF m 216 #[.val (.int p0), .val (.int p1), .val (.int p2), .val (.int p3), .val (.int p4), .val (.int p5), .val (.int (66 : Int32)), .val (.int ip), .val (.int jp), .val (.int s1), .val (.int s2), .val (.ref b1), .val (.ref r_), .val (.int xv), .val (.int yv), .val (.int (2 : Int32)), .val (.int (1 : Int32)), .val (.ref vf_), .unset] [(.int (1 : Int32)), (.ref vf_)]) _
        obtain ⟨cl74, Ar74, q74, S74, H74, G74⟩ := (id f46)
        have in74 : ¬ ((1 : Int32) < 0 ∨ cl74.slots.size ≤ ((1 : Int32)).toNatClampNeg) := arf_in S74 (show (1 : Int32).toInt = ((1 : Nat) : Int) by decide) (by decide)
        have at74 : cl74.slots[((1 : Int32)).toNatClampNeg]? = some (.long (own_bits 1 (own_sd ipn s1 jpn s2) 66 1)) := arf_at H74 (show (1 : Int32).toInt = ((1 : Nat) : Int) by decide) (by decide)
        refine stp (fun _ => X71.laload hx (j := (1 : Int32)) (v := (.long (own_bits 1 (own_sd ipn s1 jpn s2) 66 1))) (by rw [e71]; exact Ar74.1) (State.isArrayOf_alike hZ.alike Ar74.2.1) Ar74.2.2 in74 at74 (g := (mkF m 216 #[.val (.int p0), .val (.int p1), .val (.int p2), .val (.int p3), .val (.int p4), .val (.int p5), .val (.int (66 : Int32)), .val (.int ip), .val (.int jp), .val (.int s1), .val (.int s2), .val (.ref b1), .val (.ref r_), .val (.int xv), .val (.int yv), .val (.int (2 : Int32)), .val (.int (1 : Int32)), .val (.ref vf_), .unset] [(.int (1 : Int32)), (.ref vf_)])) rfl rfl (hb hby at_216) _) ?_
        show Go p e below T71 (mkF m 217 #[.val (.int p0), .val (.int p1), .val (.int p2), .val (.int p3), .val (.int p4), .val (.int p5), .val (.int (66 : Int32)), .val (.int ip), .val (.int jp), .val (.int s1), .val (.int s2), .val (.ref b1), .val (.ref r_), .val (.int xv), .val (.int yv), .val (.int (2 : Int32)), .val (.int (1 : Int32)), .val (.ref vf_), .unset] [(.long (own_bits 1 (own_sd ipn s1 jpn s2) 66 1))]) _
        refine stp (fun _ => XS.iconst X71.here hx rfl (hb hby at_217)) ?_
        show Go p e below T71 (mkF m 218 #[.val (.int p0), .val (.int p1), .val (.int p2), .val (.int p3), .val (.int p4), .val (.int p5), .val (.int (66 : Int32)), .val (.int ip), .val (.int jp), .val (.int s1), .val (.int s2), .val (.ref b1), .val (.ref r_), .val (.int xv), .val (.int yv), .val (.int (2 : Int32)), .val (.int (1 : Int32)), .val (.ref vf_), .unset] [(.int (2 : Int32)), (.long (own_bits 1 (own_sd ipn s1 jpn s2) 66 1))]) _
        refine stp (fun _ => XS.lushr X71.here hx rfl (hb hby at_218) rfl) ?_
        show Go p e below T71 (mkF m 219 #[.val (.int p0), .val (.int p1), .val (.int p2), .val (.int p3), .val (.int p4), .val (.int p5), .val (.int (66 : Int32)), .val (.int ip), .val (.int jp), .val (.int s1), .val (.int s2), .val (.ref b1), .val (.ref r_), .val (.int xv), .val (.int yv), .val (.int (2 : Int32)), .val (.int (1 : Int32)), .val (.ref vf_), .unset] [(.long (((own_bits 1 (own_sd ipn s1 jpn s2) 66 1).toUInt64 >>> ((2 : Int32) &&& 0x3f).toInt64.toUInt64).toInt64))]) _
        refine stp (fun _ => XS.lconst X71.here hx rfl (hb hby at_219)) ?_
        show Go p e below T71 (mkF m 220 #[.val (.int p0), .val (.int p1), .val (.int p2), .val (.int p3), .val (.int p4), .val (.int p5), .val (.int (66 : Int32)), .val (.int ip), .val (.int jp), .val (.int s1), .val (.int s2), .val (.ref b1), .val (.ref r_), .val (.int xv), .val (.int yv), .val (.int (2 : Int32)), .val (.int (1 : Int32)), .val (.ref vf_), .unset] [(.long (0 : Int64)), (.long (((own_bits 1 (own_sd ipn s1 jpn s2) 66 1).toUInt64 >>> ((2 : Int32) &&& 0x3f).toInt64.toUInt64).toInt64))]) _
        refine stp (fun _ => XS.lcmp X71.here hx rfl (hb hby at_220) rfl) ?_
        show Go p e below T71 (mkF m 221 #[.val (.int p0), .val (.int p1), .val (.int p2), .val (.int p3), .val (.int p4), .val (.int p5), .val (.int (66 : Int32)), .val (.int ip), .val (.int jp), .val (.int s1), .val (.int s2), .val (.ref b1), .val (.ref r_), .val (.int xv), .val (.int yv), .val (.int (2 : Int32)), .val (.int (1 : Int32)), .val (.ref vf_), .unset] [(.int (lcmpW (((own_bits 1 (own_sd ipn s1 jpn s2) 66 1).toUInt64 >>> ((2 : Int32) &&& 0x3f).toInt64.toUInt64).toInt64) (0 : Int64)))]) _
        refine stp (fun _ => XS.ifYes X71.here hx rfl (pc0 := 221) (pc' := 226) rfl (hb hby at_221) rfl (XT.ll_eq_t (own_top _ _)) (by decide) (by decide)) ?_
        show Go p e below T71 (mkF m 226 #[.val (.int p0), .val (.int p1), .val (.int p2), .val (.int p3), .val (.int p4), .val (.int p5), .val (.int (66 : Int32)), .val (.int ip), .val (.int jp), .val (.int s1), .val (.int s2), .val (.ref b1), .val (.ref r_), .val (.int xv), .val (.int yv), .val (.int (2 : Int32)), .val (.int (1 : Int32)), .val (.ref vf_), .unset] []) _
        refine stp (fun _ => XS.aload X71.here hx rfl (hb hby at_226) rfl rfl) ?_
        show Go p e below T71 (mkF m 228 #[.val (.int p0), .val (.int p1), .val (.int p2), .val (.int p3), .val (.int p4), .val (.int p5), .val (.int (66 : Int32)), .val (.int ip), .val (.int jp), .val (.int s1), .val (.int s2), .val (.ref b1), .val (.ref r_), .val (.int xv), .val (.int yv), .val (.int (2 : Int32)), .val (.int (1 : Int32)), .val (.ref vf_), .unset] [(.ref vf_)]) _
        refine stp (fun _ => XS.iload X71.here hx rfl (hb hby at_228) rfl) ?_
        show Go p e below T71 (mkF m 230 #[.val (.int p0), .val (.int p1), .val (.int p2), .val (.int p3), .val (.int p4), .val (.int p5), .val (.int (66 : Int32)), .val (.int ip), .val (.int jp), .val (.int s1), .val (.int s2), .val (.ref b1), .val (.ref r_), .val (.int xv), .val (.int yv), .val (.int (2 : Int32)), .val (.int (1 : Int32)), .val (.ref vf_), .unset] [(.int yv), (.ref vf_)]) _
        refine stp (fun _ => XS.bipush X71.here hx rfl (hb hby at_230)) ?_
        show Go p e below T71 (mkF m 232 #[.val (.int p0), .val (.int p1), .val (.int p2), .val (.int p3), .val (.int p4), .val (.int p5), .val (.int (66 : Int32)), .val (.int ip), .val (.int jp), .val (.int s1), .val (.int s2), .val (.ref b1), .val (.ref r_), .val (.int xv), .val (.int yv), .val (.int (2 : Int32)), .val (.int (1 : Int32)), .val (.ref vf_), .unset] [(.int (6 : Int32)), (.int yv), (.ref vf_)]) _
        refine stp (fun _ => XS.iushr X71.here hx rfl (hb hby at_232) rfl) ?_
        show Go p e below T71 (mkF m 233 #[.val (.int p0), .val (.int p1), .val (.int p2), .val (.int p3), .val (.int p4), .val (.int p5), .val (.int (66 : Int32)), .val (.int ip), .val (.int jp), .val (.int s1), .val (.int s2), .val (.ref b1), .val (.ref r_), .val (.int xv), .val (.int yv), .val (.int (2 : Int32)), .val (.int (1 : Int32)), .val (.ref vf_), .unset] [(.int ((yv.toUInt32 >>> ((6 : Int32) &&& 31).toUInt32).toInt32)), (.ref vf_)]) _
        obtain ⟨cl75, Ar75, q75, S75, H75, G75⟩ := (id f46)
        have in75 : ¬ (((yv.toUInt32 >>> ((6 : Int32) &&& 31).toUInt32).toInt32) < 0 ∨ cl75.slots.size ≤ (((yv.toUInt32 >>> ((6 : Int32) &&& 31).toUInt32).toInt32)).toNatClampNeg) := arf_in S75 (own_div hyn) (own_d2 hyl)
        have at75 : cl75.slots[(((yv.toUInt32 >>> ((6 : Int32) &&& 31).toUInt32).toInt32)).toNatClampNeg]? = some (.long (own_bits 1 (own_sd ipn s1 jpn s2) 66 (yn / 64))) := arf_at H75 (own_div hyn) (own_d2 hyl)
        refine stp (fun _ => X71.laload hx (j := ((yv.toUInt32 >>> ((6 : Int32) &&& 31).toUInt32).toInt32)) (v := (.long (own_bits 1 (own_sd ipn s1 jpn s2) 66 (yn / 64)))) (by rw [e71]; exact Ar75.1) (State.isArrayOf_alike hZ.alike Ar75.2.1) Ar75.2.2 in75 at75 (g := (mkF m 233 #[.val (.int p0), .val (.int p1), .val (.int p2), .val (.int p3), .val (.int p4), .val (.int p5), .val (.int (66 : Int32)), .val (.int ip), .val (.int jp), .val (.int s1), .val (.int s2), .val (.ref b1), .val (.ref r_), .val (.int xv), .val (.int yv), .val (.int (2 : Int32)), .val (.int (1 : Int32)), .val (.ref vf_), .unset] [(.int ((yv.toUInt32 >>> ((6 : Int32) &&& 31).toUInt32).toInt32)), (.ref vf_)])) rfl rfl (hb hby at_233) _) ?_
        show Go p e below T71 (mkF m 234 #[.val (.int p0), .val (.int p1), .val (.int p2), .val (.int p3), .val (.int p4), .val (.int p5), .val (.int (66 : Int32)), .val (.int ip), .val (.int jp), .val (.int s1), .val (.int s2), .val (.ref b1), .val (.ref r_), .val (.int xv), .val (.int yv), .val (.int (2 : Int32)), .val (.int (1 : Int32)), .val (.ref vf_), .unset] [(.long (own_bits 1 (own_sd ipn s1 jpn s2) 66 (yn / 64)))]) _
        refine stp (fun _ => XS.iload X71.here hx rfl (hb hby at_234) rfl) ?_
        show Go p e below T71 (mkF m 236 #[.val (.int p0), .val (.int p1), .val (.int p2), .val (.int p3), .val (.int p4), .val (.int p5), .val (.int (66 : Int32)), .val (.int ip), .val (.int jp), .val (.int s1), .val (.int s2), .val (.ref b1), .val (.ref r_), .val (.int xv), .val (.int yv), .val (.int (2 : Int32)), .val (.int (1 : Int32)), .val (.ref vf_), .unset] [(.int yv), (.long (own_bits 1 (own_sd ipn s1 jpn s2) 66 (yn / 64)))]) _
        refine stp (fun _ => XS.bipush X71.here hx rfl (hb hby at_236)) ?_
        show Go p e below T71 (mkF m 238 #[.val (.int p0), .val (.int p1), .val (.int p2), .val (.int p3), .val (.int p4), .val (.int p5), .val (.int (66 : Int32)), .val (.int ip), .val (.int jp), .val (.int s1), .val (.int s2), .val (.ref b1), .val (.ref r_), .val (.int xv), .val (.int yv), .val (.int (2 : Int32)), .val (.int (1 : Int32)), .val (.ref vf_), .unset] [(.int (63 : Int32)), (.int yv), (.long (own_bits 1 (own_sd ipn s1 jpn s2) 66 (yn / 64)))]) _
        refine stp (fun _ => XS.iand X71.here hx rfl (hb hby at_238) rfl) ?_
        show Go p e below T71 (mkF m 239 #[.val (.int p0), .val (.int p1), .val (.int p2), .val (.int p3), .val (.int p4), .val (.int p5), .val (.int (66 : Int32)), .val (.int ip), .val (.int jp), .val (.int s1), .val (.int s2), .val (.ref b1), .val (.ref r_), .val (.int xv), .val (.int yv), .val (.int (2 : Int32)), .val (.int (1 : Int32)), .val (.ref vf_), .unset] [(.int (yv &&& (63 : Int32))), (.long (own_bits 1 (own_sd ipn s1 jpn s2) 66 (yn / 64)))]) _
        refine stp (fun _ => XS.lushr X71.here hx rfl (hb hby at_239) rfl) ?_
        show Go p e below T71 (mkF m 240 #[.val (.int p0), .val (.int p1), .val (.int p2), .val (.int p3), .val (.int p4), .val (.int p5), .val (.int (66 : Int32)), .val (.int ip), .val (.int jp), .val (.int s1), .val (.int s2), .val (.ref b1), .val (.ref r_), .val (.int xv), .val (.int yv), .val (.int (2 : Int32)), .val (.int (1 : Int32)), .val (.ref vf_), .unset] [(.long (((own_bits 1 (own_sd ipn s1 jpn s2) 66 (yn / 64)).toUInt64 >>> ((yv &&& (63 : Int32)) &&& 0x3f).toInt64.toUInt64).toInt64))]) _
        refine stp (fun _ => XS.lconst X71.here hx rfl (hb hby at_240)) ?_
        show Go p e below T71 (mkF m 241 #[.val (.int p0), .val (.int p1), .val (.int p2), .val (.int p3), .val (.int p4), .val (.int p5), .val (.int (66 : Int32)), .val (.int ip), .val (.int jp), .val (.int s1), .val (.int s2), .val (.ref b1), .val (.ref r_), .val (.int xv), .val (.int yv), .val (.int (2 : Int32)), .val (.int (1 : Int32)), .val (.ref vf_), .unset] [(.long (1 : Int64)), (.long (((own_bits 1 (own_sd ipn s1 jpn s2) 66 (yn / 64)).toUInt64 >>> ((yv &&& (63 : Int32)) &&& 0x3f).toInt64.toUInt64).toInt64))]) _
        refine stp (fun _ => XS.land X71.here hx rfl (hb hby at_241) rfl) ?_
        show Go p e below T71 (mkF m 242 #[.val (.int p0), .val (.int p1), .val (.int p2), .val (.int p3), .val (.int p4), .val (.int p5), .val (.int (66 : Int32)), .val (.int ip), .val (.int jp), .val (.int s1), .val (.int s2), .val (.ref b1), .val (.ref r_), .val (.int xv), .val (.int yv), .val (.int (2 : Int32)), .val (.int (1 : Int32)), .val (.ref vf_), .unset] [(.long ((((own_bits 1 (own_sd ipn s1 jpn s2) 66 (yn / 64)).toUInt64 >>> ((yv &&& (63 : Int32)) &&& 0x3f).toInt64.toUInt64).toInt64) &&& (1 : Int64)))]) _
        refine stp (fun _ => XS.lconst X71.here hx rfl (hb hby at_242)) ?_
        show Go p e below T71 (mkF m 243 #[.val (.int p0), .val (.int p1), .val (.int p2), .val (.int p3), .val (.int p4), .val (.int p5), .val (.int (66 : Int32)), .val (.int ip), .val (.int jp), .val (.int s1), .val (.int s2), .val (.ref b1), .val (.ref r_), .val (.int xv), .val (.int yv), .val (.int (2 : Int32)), .val (.int (1 : Int32)), .val (.ref vf_), .unset] [(.long (0 : Int64)), (.long ((((own_bits 1 (own_sd ipn s1 jpn s2) 66 (yn / 64)).toUInt64 >>> ((yv &&& (63 : Int32)) &&& 0x3f).toInt64.toUInt64).toInt64) &&& (1 : Int64)))]) _
        refine stp (fun _ => XS.lcmp X71.here hx rfl (hb hby at_243) rfl) ?_
        show Go p e below T71 (mkF m 244 #[.val (.int p0), .val (.int p1), .val (.int p2), .val (.int p3), .val (.int p4), .val (.int p5), .val (.int (66 : Int32)), .val (.int ip), .val (.int jp), .val (.int s1), .val (.int s2), .val (.ref b1), .val (.ref r_), .val (.int xv), .val (.int yv), .val (.int (2 : Int32)), .val (.int (1 : Int32)), .val (.ref vf_), .unset] [(.int (lcmpW ((((own_bits 1 (own_sd ipn s1 jpn s2) 66 (yn / 64)).toUInt64 >>> ((yv &&& (63 : Int32)) &&& 0x3f).toInt64.toUInt64).toInt64) &&& (1 : Int64)) (0 : Int64)))]) _
        refine stp (fun _ => XS.ifNo X71.here hx rfl (hb hby at_244) rfl (XT.ll_eq_f (own_bit1 hyn hyl (by rw [← hsy]; decide)))) ?_
        show Go p e below T71 (mkF m 247 #[.val (.int p0), .val (.int p1), .val (.int p2), .val (.int p3), .val (.int p4), .val (.int p5), .val (.int (66 : Int32)), .val (.int ip), .val (.int jp), .val (.int s1), .val (.int s2), .val (.ref b1), .val (.ref r_), .val (.int xv), .val (.int yv), .val (.int (2 : Int32)), .val (.int (1 : Int32)), .val (.ref vf_), .unset] []) _
        refine stp (fun _ => XS.iconst X71.here hx rfl (hb hby at_247)) ?_
        show Go p e below T71 (mkF m 248 #[.val (.int p0), .val (.int p1), .val (.int p2), .val (.int p3), .val (.int p4), .val (.int p5), .val (.int (66 : Int32)), .val (.int ip), .val (.int jp), .val (.int s1), .val (.int s2), .val (.ref b1), .val (.ref r_), .val (.int xv), .val (.int yv), .val (.int (2 : Int32)), .val (.int (1 : Int32)), .val (.ref vf_), .unset] [(.int (1 : Int32))]) _
        refine stp (fun _ => XS.goto X71.here hx rfl (pc0 := 248) (pc' := 252) rfl (hb hby at_248) (by decide) (by decide)) ?_
        show Go p e below T71 (mkF m 252 #[.val (.int p0), .val (.int p1), .val (.int p2), .val (.int p3), .val (.int p4), .val (.int p5), .val (.int (66 : Int32)), .val (.int ip), .val (.int jp), .val (.int s1), .val (.int s2), .val (.ref b1), .val (.ref r_), .val (.int xv), .val (.int yv), .val (.int (2 : Int32)), .val (.int (1 : Int32)), .val (.ref vf_), .unset] [(.int (1 : Int32))]) _
        refine stp (fun _ => XS.istore X71.here hx rfl (hb hby at_252) rfl (l' := #[.val (.int p0), .val (.int p1), .val (.int p2), .val (.int p3), .val (.int p4), .val (.int p5), .val (.int (66 : Int32)), .val (.int ip), .val (.int jp), .val (.int s1), .val (.int s2), .val (.ref b1), .val (.ref r_), .val (.int xv), .val (.int yv), .val (.int (2 : Int32)), .val (.int (1 : Int32)), .val (.ref vf_), .val (.int (1 : Int32))]) rfl) ?_
        show Go p e below T71 (mkF m 254 #[.val (.int p0), .val (.int p1), .val (.int p2), .val (.int p3), .val (.int p4), .val (.int p5), .val (.int (66 : Int32)), .val (.int ip), .val (.int jp), .val (.int s1), .val (.int s2), .val (.ref b1), .val (.ref r_), .val (.int xv), .val (.int yv), .val (.int (2 : Int32)), .val (.int (1 : Int32)), .val (.ref vf_), .val (.int (1 : Int32))] []) _
        refine stp (fun _ => XS.iload X71.here hx rfl (hb hby at_254) rfl) ?_
        show Go p e below T71 (mkF m 256 #[.val (.int p0), .val (.int p1), .val (.int p2), .val (.int p3), .val (.int p4), .val (.int p5), .val (.int (66 : Int32)), .val (.int ip), .val (.int jp), .val (.int s1), .val (.int s2), .val (.ref b1), .val (.ref r_), .val (.int xv), .val (.int yv), .val (.int (2 : Int32)), .val (.int (1 : Int32)), .val (.ref vf_), .val (.int (1 : Int32))] [(.int (1 : Int32))]) _
        refine stp (fun _ => XS.iload X71.here hx rfl (hb hby at_256) rfl) ?_
        show Go p e below T71 (mkF m 258 #[.val (.int p0), .val (.int p1), .val (.int p2), .val (.int p3), .val (.int p4), .val (.int p5), .val (.int (66 : Int32)), .val (.int ip), .val (.int jp), .val (.int s1), .val (.int s2), .val (.ref b1), .val (.ref r_), .val (.int xv), .val (.int yv), .val (.int (2 : Int32)), .val (.int (1 : Int32)), .val (.ref vf_), .val (.int (1 : Int32))] [(.int (1 : Int32)), (.int (1 : Int32))]) _
        refine stp (fun _ => XS.iconst X71.here hx rfl (hb hby at_258)) ?_
        show Go p e below T71 (mkF m 259 #[.val (.int p0), .val (.int p1), .val (.int p2), .val (.int p3), .val (.int p4), .val (.int p5), .val (.int (66 : Int32)), .val (.int ip), .val (.int jp), .val (.int s1), .val (.int s2), .val (.ref b1), .val (.ref r_), .val (.int xv), .val (.int yv), .val (.int (2 : Int32)), .val (.int (1 : Int32)), .val (.ref vf_), .val (.int (1 : Int32))] [(.int (3 : Int32)), (.int (1 : Int32)), (.int (1 : Int32))]) _
        refine stp (fun _ => XS.iload X71.here hx rfl (hb hby at_259) rfl) ?_
        show Go p e below T71 (mkF m 261 #[.val (.int p0), .val (.int p1), .val (.int p2), .val (.int p3), .val (.int p4), .val (.int p5), .val (.int (66 : Int32)), .val (.int ip), .val (.int jp), .val (.int s1), .val (.int s2), .val (.ref b1), .val (.ref r_), .val (.int xv), .val (.int yv), .val (.int (2 : Int32)), .val (.int (1 : Int32)), .val (.ref vf_), .val (.int (1 : Int32))] [(.int (2 : Int32)), (.int (3 : Int32)), (.int (1 : Int32)), (.int (1 : Int32))]) _
        refine stp (fun _ => XS.isub X71.here hx rfl (hb hby at_261) rfl) ?_
        show Go p e below T71 (mkF m 262 #[.val (.int p0), .val (.int p1), .val (.int p2), .val (.int p3), .val (.int p4), .val (.int p5), .val (.int (66 : Int32)), .val (.int ip), .val (.int jp), .val (.int s1), .val (.int s2), .val (.ref b1), .val (.ref r_), .val (.int xv), .val (.int yv), .val (.int (2 : Int32)), .val (.int (1 : Int32)), .val (.ref vf_), .val (.int (1 : Int32))] [(.int (1 : Int32)), (.int (1 : Int32)), (.int (1 : Int32))]) _
        refine stp (fun _ => XS.iand X71.here hx rfl (hb hby at_262) rfl) ?_
        show Go p e below T71 (mkF m 263 #[.val (.int p0), .val (.int p1), .val (.int p2), .val (.int p3), .val (.int p4), .val (.int p5), .val (.int (66 : Int32)), .val (.int ip), .val (.int jp), .val (.int s1), .val (.int s2), .val (.ref b1), .val (.ref r_), .val (.int xv), .val (.int yv), .val (.int (2 : Int32)), .val (.int (1 : Int32)), .val (.ref vf_), .val (.int (1 : Int32))] [(.int (1 : Int32)), (.int (1 : Int32))]) _
        refine stp (fun _ => XS.ifNo X71.here hx rfl (hb hby at_263) rfl (by decide)) ?_
        show Go p e below T71 (mkF m 266 #[.val (.int p0), .val (.int p1), .val (.int p2), .val (.int p3), .val (.int p4), .val (.int p5), .val (.int (66 : Int32)), .val (.int ip), .val (.int jp), .val (.int s1), .val (.int s2), .val (.ref b1), .val (.ref r_), .val (.int xv), .val (.int yv), .val (.int (2 : Int32)), .val (.int (1 : Int32)), .val (.ref vf_), .val (.int (1 : Int32))] [(.int (1 : Int32))]) _
        refine stp (fun _ => XS.iconst X71.here hx rfl (hb hby at_266)) ?_
        show Go p e below T71 (mkF m 267 #[.val (.int p0), .val (.int p1), .val (.int p2), .val (.int p3), .val (.int p4), .val (.int p5), .val (.int (66 : Int32)), .val (.int ip), .val (.int jp), .val (.int s1), .val (.int s2), .val (.ref b1), .val (.ref r_), .val (.int xv), .val (.int yv), .val (.int (2 : Int32)), .val (.int (1 : Int32)), .val (.ref vf_), .val (.int (1 : Int32))] [(.int (1 : Int32)), (.int (1 : Int32))]) _
        refine stp (fun _ => XS.goto X71.here hx rfl (pc0 := 267) (pc' := 271) rfl (hb hby at_267) (by decide) (by decide)) ?_
        show Go p e below T71 (mkF m 271 #[.val (.int p0), .val (.int p1), .val (.int p2), .val (.int p3), .val (.int p4), .val (.int p5), .val (.int (66 : Int32)), .val (.int ip), .val (.int jp), .val (.int s1), .val (.int s2), .val (.ref b1), .val (.ref r_), .val (.int xv), .val (.int yv), .val (.int (2 : Int32)), .val (.int (1 : Int32)), .val (.ref vf_), .val (.int (1 : Int32))] [(.int (1 : Int32)), (.int (1 : Int32))]) _
        refine stp (fun _ => XS.icmpNo X71.here hx rfl (hb hby at_271) rfl (by decide)) ?_
        show Go p e below T71 (mkF m 274 #[.val (.int p0), .val (.int p1), .val (.int p2), .val (.int p3), .val (.int p4), .val (.int p5), .val (.int (66 : Int32)), .val (.int ip), .val (.int jp), .val (.int s1), .val (.int s2), .val (.ref b1), .val (.ref r_), .val (.int xv), .val (.int yv), .val (.int (2 : Int32)), .val (.int (1 : Int32)), .val (.ref vf_), .val (.int (1 : Int32))] []) _
        refine stp (fun _ => XS.iconst X71.here hx rfl (hb hby at_274)) ?_
        show Go p e below T71 (mkF m 275 #[.val (.int p0), .val (.int p1), .val (.int p2), .val (.int p3), .val (.int p4), .val (.int p5), .val (.int (66 : Int32)), .val (.int ip), .val (.int jp), .val (.int s1), .val (.int s2), .val (.ref b1), .val (.ref r_), .val (.int xv), .val (.int yv), .val (.int (2 : Int32)), .val (.int (1 : Int32)), .val (.ref vf_), .val (.int (1 : Int32))] [(.int (1 : Int32))]) _
        refine stp (fun _ => XS.goto X71.here hx rfl (pc0 := 275) (pc' := 279) rfl (hb hby at_275) (by decide) (by decide)) ?_
        show Go p e below T71 (mkF m 279 #[.val (.int p0), .val (.int p1), .val (.int p2), .val (.int p3), .val (.int p4), .val (.int p5), .val (.int (66 : Int32)), .val (.int ip), .val (.int jp), .val (.int s1), .val (.int s2), .val (.ref b1), .val (.ref r_), .val (.int xv), .val (.int yv), .val (.int (2 : Int32)), .val (.int (1 : Int32)), .val (.ref vf_), .val (.int (1 : Int32))] [(.int (1 : Int32))]) _
        refine outN X71 hx (t := .boolean) hret (by simp) (hb hby at_279) hlk (by decide) (by decide) ?_
        exact ⟨rfl, N71⟩
      · show Go p e below T51 (mkF m 134 #[.val (.int p0), .val (.int p1), .val (.int p2), .val (.int p3), .val (.int p4), .val (.int p5), .val (.int (66 : Int32)), .val (.int ip), .val (.int jp), .val (.int s1), .val (.int s2), .val (.ref b1), .val (.ref r_), .val (.int xv), .val (.int yv), .val (.int (2 : Int32)), .val (.int (2 : Int32)), .unset, .unset] []) _
        refine stp (fun _ => XS.aload X51.here hx rfl (hb hby at_134) rfl rfl) ?_
        show Go p e below T51 (mkF m 136 #[.val (.int p0), .val (.int p1), .val (.int p2), .val (.int p3), .val (.int p4), .val (.int p5), .val (.int (66 : Int32)), .val (.int ip), .val (.int jp), .val (.int s1), .val (.int s2), .val (.ref b1), .val (.ref r_), .val (.int xv), .val (.int yv), .val (.int (2 : Int32)), .val (.int (2 : Int32)), .unset, .unset] [(.ref r_)]) _
        refine stp (fun _ => XS.iload X51.here hx rfl (hb hby at_136) rfl) ?_
        show Go p e below T51 (mkF m 138 #[.val (.int p0), .val (.int p1), .val (.int p2), .val (.int p3), .val (.int p4), .val (.int p5), .val (.int (66 : Int32)), .val (.int ip), .val (.int jp), .val (.int s1), .val (.int s2), .val (.ref b1), .val (.ref r_), .val (.int xv), .val (.int yv), .val (.int (2 : Int32)), .val (.int (2 : Int32)), .unset, .unset] [(.int xv), (.ref r_)]) _
        refine stp (fun _ => XS.iload X51.here hx rfl (hb hby at_138) rfl) ?_
        show Go p e below T51 (mkF m 140 #[.val (.int p0), .val (.int p1), .val (.int p2), .val (.int p3), .val (.int p4), .val (.int p5), .val (.int (66 : Int32)), .val (.int ip), .val (.int jp), .val (.int s1), .val (.int s2), .val (.ref b1), .val (.ref r_), .val (.int xv), .val (.int yv), .val (.int (2 : Int32)), .val (.int (2 : Int32)), .unset, .unset] [(.int yv), (.int xv), (.ref r_)]) _
        obtain ⟨cq76, kq76, q76a, q76b, q76c⟩ := isOf hZ e51 f41
        obtain ⟨_, _, ⟨T76, L76, k76, n76⟩, -, X76, ⟨Lc76, hQ76, l76, y76, z76⟩, st76⟩ := X51.virtualBack hx (y := (⟨"com/example/brisk_dedup/briskdedup/engine/Sides", "mayPair", "(II)Z"⟩ : MethodName)) (z := (⟨"com/example/brisk_dedup/briskdedup/engine/Sides", "mayPair", "(II)Z"⟩ : MethodName)) hown (mvT hZ (hw _ (List.mem_of_getElem? (i := 40) rfl))) (mvT hZ (hw _ (List.mem_of_getElem? (i := 41) rfl))) (notFace_of_selects (args := #[]) (mvT hZ (hw _ (List.mem_of_getElem? (i := 43) rfl)))) (mvT hZ (hw _ (List.mem_of_getElem? (i := 43) rfl))) (mvT hZ (hw _ (List.mem_of_getElem? (i := 42) rfl))) (by decide) (backOf (W := 0) (rm_mp1 l Z a0 hw [] r_ xv yv vb_ (own_sd ipn s1 jpn s2) xn yn (0 : Int32) kb_ h38 n0 O38 f42 f45 hxn hxl hyn hyl ⟨fun h => absurd h (by rw [← hsx, ← hsy]; decide), fun _ => rfl⟩) hZ (hw _ (List.mem_of_getElem? (i := 44) rfl)) (hw _ (List.mem_of_getElem? (i := 8) rfl)) (by decide) (by decide)) q76a q76c (g := (mkF m 140 #[.val (.int p0), .val (.int p1), .val (.int p2), .val (.int p3), .val (.int p4), .val (.int p5), .val (.int (66 : Int32)), .val (.int ip), .val (.int jp), .val (.int s1), .val (.int s2), .val (.ref b1), .val (.ref r_), .val (.int xv), .val (.int yv), .val (.int (2 : Int32)), .val (.int (2 : Int32)), .unset, .unset] [(.int yv), (.int xv), (.ref r_)])) rfl (by rw [hml]; rfl) (Steps.refl _) (argsL := [(.int xv), (.int yv)]) (rest := []) (lenOf pd_5 rfl) rfl (by show 2 * 0 + _ ≤ _; exact Nat.le_of_eq rfl) (hb hby at_140) (fun _ _ => ⟨rfl, e51, (by decide : 5 + 0 ≤ _), (by decide : 139 + 0 ≤ _)⟩)
        dsimp only [Pt.U, Pt.locs, Pt.cells, Pt.slots] at X76 l76 y76 z76 st76 hQ76
        subst l76 y76 z76
        obtain ⟨rfl, N76q, e76⟩ := hQ76
        have N76 := Fr.app N51 N76q
        refine stt st76 ?_
        show Go p e below T76 (mkF m 143 #[.val (.int p0), .val (.int p1), .val (.int p2), .val (.int p3), .val (.int p4), .val (.int p5), .val (.int (66 : Int32)), .val (.int ip), .val (.int jp), .val (.int s1), .val (.int s2), .val (.ref b1), .val (.ref r_), .val (.int xv), .val (.int yv), .val (.int (2 : Int32)), .val (.int (2 : Int32)), .unset, .unset] [(.int (0 : Int32))]) _
        refine stp (fun _ => XS.iload X76.here hx rfl (hb hby at_143) rfl) ?_
        show Go p e below T76 (mkF m 145 #[.val (.int p0), .val (.int p1), .val (.int p2), .val (.int p3), .val (.int p4), .val (.int p5), .val (.int (66 : Int32)), .val (.int ip), .val (.int jp), .val (.int s1), .val (.int s2), .val (.ref b1), .val (.ref r_), .val (.int xv), .val (.int yv), .val (.int (2 : Int32)), .val (.int (2 : Int32)), .unset, .unset] [(.int (2 : Int32)), (.int (0 : Int32))]) _
        refine stp (fun _ => XS.iload X76.here hx rfl (hb hby at_145) rfl) ?_
        show Go p e below T76 (mkF m 147 #[.val (.int p0), .val (.int p1), .val (.int p2), .val (.int p3), .val (.int p4), .val (.int p5), .val (.int (66 : Int32)), .val (.int ip), .val (.int jp), .val (.int s1), .val (.int s2), .val (.ref b1), .val (.ref r_), .val (.int xv), .val (.int yv), .val (.int (2 : Int32)), .val (.int (2 : Int32)), .unset, .unset] [(.int (2 : Int32)), (.int (2 : Int32)), (.int (0 : Int32))]) _
        refine stp (fun _ => XS.ior X76.here hx rfl (hb hby at_147) rfl) ?_
        show Go p e below T76 (mkF m 148 #[.val (.int p0), .val (.int p1), .val (.int p2), .val (.int p3), .val (.int p4), .val (.int p5), .val (.int (66 : Int32)), .val (.int ip), .val (.int jp), .val (.int s1), .val (.int s2), .val (.ref b1), .val (.ref r_), .val (.int xv), .val (.int yv), .val (.int (2 : Int32)), .val (.int (2 : Int32)), .unset, .unset] [(.int (2 : Int32)), (.int (0 : Int32))]) _
        refine stp (fun _ => XS.iconst X76.here hx rfl (hb hby at_148)) ?_
        show Go p e below T76 (mkF m 149 #[.val (.int p0), .val (.int p1), .val (.int p2), .val (.int p3), .val (.int p4), .val (.int p5), .val (.int (66 : Int32)), .val (.int ip), .val (.int jp), .val (.int s1), .val (.int s2), .val (.ref b1), .val (.ref r_), .val (.int xv), .val (.int yv), .val (.int (2 : Int32)), .val (.int (2 : Int32)), .unset, .unset] [(.int (3 : Int32)), (.int (2 : Int32)), (.int (0 : Int32))]) _
        refine stp (fun _ => XS.icmpYes X76.here hx rfl (pc0 := 149) (pc' := 156) rfl (hb hby at_149) rfl (by decide) (by decide) (by decide)) ?_
        show Go p e below T76 (mkF m 156 #[.val (.int p0), .val (.int p1), .val (.int p2), .val (.int p3), .val (.int p4), .val (.int p5), .val (.int (66 : Int32)), .val (.int ip), .val (.int jp), .val (.int s1), .val (.int s2), .val (.ref b1), .val (.ref r_), .val (.int xv), .val (.int yv), .val (.int (2 : Int32)), .val (.int (2 : Int32)), .unset, .unset] [(.int (0 : Int32))]) _
        refine stp (fun _ => XS.iconst X76.here hx rfl (hb hby at_156)) ?_
        show Go p e below T76 (mkF m 157 #[.val (.int p0), .val (.int p1), .val (.int p2), .val (.int p3), .val (.int p4), .val (.int p5), .val (.int (66 : Int32)), .val (.int ip), .val (.int jp), .val (.int s1), .val (.int s2), .val (.ref b1), .val (.ref r_), .val (.int xv), .val (.int yv), .val (.int (2 : Int32)), .val (.int (2 : Int32)), .unset, .unset] [(.int (0 : Int32)), (.int (0 : Int32))]) _
        refine stp (fun _ => XS.icmpYes X76.here hx rfl (pc0 := 157) (pc' := 162) rfl (hb hby at_157) rfl (by decide) (by decide) (by decide)) ?_
        show Go p e below T76 (mkF m 162 #[.val (.int p0), .val (.int p1), .val (.int p2), .val (.int p3), .val (.int p4), .val (.int p5), .val (.int (66 : Int32)), .val (.int ip), .val (.int jp), .val (.int s1), .val (.int s2), .val (.ref b1), .val (.ref r_), .val (.int xv), .val (.int yv), .val (.int (2 : Int32)), .val (.int (2 : Int32)), .unset, .unset] []) _
        refine stp (fun _ => XS.aload X76.here hx rfl (hb hby at_162) rfl rfl) ?_
        show Go p e below T76 (mkF m 164 #[.val (.int p0), .val (.int p1), .val (.int p2), .val (.int p3), .val (.int p4), .val (.int p5), .val (.int (66 : Int32)), .val (.int ip), .val (.int jp), .val (.int s1), .val (.int s2), .val (.ref b1), .val (.ref r_), .val (.int xv), .val (.int yv), .val (.int (2 : Int32)), .val (.int (2 : Int32)), .unset, .unset] [(.ref r_)]) _
        refine stp (fun _ => XS.iload X76.here hx rfl (hb hby at_164) rfl) ?_
        show Go p e below T76 (mkF m 166 #[.val (.int p0), .val (.int p1), .val (.int p2), .val (.int p3), .val (.int p4), .val (.int p5), .val (.int (66 : Int32)), .val (.int ip), .val (.int jp), .val (.int s1), .val (.int s2), .val (.ref b1), .val (.ref r_), .val (.int xv), .val (.int yv), .val (.int (2 : Int32)), .val (.int (2 : Int32)), .unset, .unset] [(.int xv), (.ref r_)]) _
        obtain ⟨cq77, kq77, q77a, q77b, q77c⟩ := isOf hZ e76 f41
        obtain ⟨_, _, ⟨T77, L77, k77, n77⟩, -, X77, ⟨Lc77, hQ77, l77, y77, z77⟩, st77⟩ := X76.virtualBack hx (y := (⟨"com/example/brisk_dedup/briskdedup/engine/Sides", "partners", "(I)[J"⟩ : MethodName)) (z := (⟨"com/example/brisk_dedup/briskdedup/engine/Sides", "partners", "(I)[J"⟩ : MethodName)) hown (mvT hZ (hw _ (List.mem_of_getElem? (i := 45) rfl))) (mvT hZ (hw _ (List.mem_of_getElem? (i := 46) rfl))) (notFace_of_selects (args := #[]) (mvT hZ (hw _ (List.mem_of_getElem? (i := 48) rfl)))) (mvT hZ (hw _ (List.mem_of_getElem? (i := 48) rfl))) (mvT hZ (hw _ (List.mem_of_getElem? (i := 47) rfl))) (by decide) (backOf (W := 0) (rm_pa2 l Z a0 hw [] r_ xv vb_ (own_sd ipn s1 jpn s2) xn vf_ kb_ h38 n0 O38 f42 f45 f43 hxn hxl hsx.symm) hZ (hw _ (List.mem_of_getElem? (i := 49) rfl)) (hw _ (List.mem_of_getElem? (i := 8) rfl)) (by decide) (by decide)) q77a q77c (g := (mkF m 166 #[.val (.int p0), .val (.int p1), .val (.int p2), .val (.int p3), .val (.int p4), .val (.int p5), .val (.int (66 : Int32)), .val (.int ip), .val (.int jp), .val (.int s1), .val (.int s2), .val (.ref b1), .val (.ref r_), .val (.int xv), .val (.int yv), .val (.int (2 : Int32)), .val (.int (2 : Int32)), .unset, .unset] [(.int xv), (.ref r_)])) rfl (by rw [hml]; rfl) (Steps.refl _) (argsL := [(.int xv)]) (rest := []) (lenOf pd_6 rfl) rfl (by show 2 * 0 + _ ≤ _; exact Nat.le_of_eq rfl) (hb hby at_166) (fun _ _ => ⟨rfl, e76, (by decide : 5 + 0 ≤ _), (by decide : 139 + 0 ≤ _)⟩)
        dsimp only [Pt.U, Pt.locs, Pt.cells, Pt.slots] at X77 l77 y77 z77 st77 hQ77
        subst l77 y77 z77
        obtain ⟨rfl, N77q, e77⟩ := hQ77
        have N77 := Fr.app N76 N77q
        refine stt st77 ?_
        show Go p e below T77 (mkF m 169 #[.val (.int p0), .val (.int p1), .val (.int p2), .val (.int p3), .val (.int p4), .val (.int p5), .val (.int (66 : Int32)), .val (.int ip), .val (.int jp), .val (.int s1), .val (.int s2), .val (.ref b1), .val (.ref r_), .val (.int xv), .val (.int yv), .val (.int (2 : Int32)), .val (.int (2 : Int32)), .unset, .unset] [(.ref vf_)]) _
        refine stp (fun _ => XS.astore X77.here hx rfl (hb hby at_169) rfl rfl (l' := #[.val (.int p0), .val (.int p1), .val (.int p2), .val (.int p3), .val (.int p4), .val (.int p5), .val (.int (66 : Int32)), .val (.int ip), .val (.int jp), .val (.int s1), .val (.int s2), .val (.ref b1), .val (.ref r_), .val (.int xv), .val (.int yv), .val (.int (2 : Int32)), .val (.int (2 : Int32)), .val (.ref vf_), .unset]) rfl) ?_
        show Go p e below T77 (mkF m 171 #[.val (.int p0), .val (.int p1), .val (.int p2), .val (.int p3), .val (.int p4), .val (.int p5), .val (.int (66 : Int32)), .val (.int ip), .val (.int jp), .val (.int s1), .val (.int s2), .val (.ref b1), .val (.ref r_), .val (.int xv), .val (.int yv), .val (.int (2 : Int32)), .val (.int (2 : Int32)), .val (.ref vf_), .unset] []) _
        refine stp (fun _ => XS.iload X77.here hx rfl (hb hby at_171) rfl) ?_
        show Go p e below T77 (mkF m 173 #[.val (.int p0), .val (.int p1), .val (.int p2), .val (.int p3), .val (.int p4), .val (.int p5), .val (.int (66 : Int32)), .val (.int ip), .val (.int jp), .val (.int s1), .val (.int s2), .val (.ref b1), .val (.ref r_), .val (.int xv), .val (.int yv), .val (.int (2 : Int32)), .val (.int (2 : Int32)), .val (.ref vf_), .unset] [(.int (2 : Int32))]) _
        refine stp (fun _ => XS.iconst X77.here hx rfl (hb hby at_173)) ?_
        show Go p e below T77 (mkF m 174 #[.val (.int p0), .val (.int p1), .val (.int p2), .val (.int p3), .val (.int p4), .val (.int p5), .val (.int (66 : Int32)), .val (.int ip), .val (.int jp), .val (.int s1), .val (.int s2), .val (.ref b1), .val (.ref r_), .val (.int xv), .val (.int yv), .val (.int (2 : Int32)), .val (.int (2 : Int32)), .val (.ref vf_), .unset] [(.int (3 : Int32)), (.int (2 : Int32))]) _
        refine stp (fun _ => XS.icmpYes X77.here hx rfl (pc0 := 174) (pc' := 188) rfl (hb hby at_174) rfl (by decide) (by decide) (by decide)) ?_
        show Go p e below T77 (mkF m 188 #[.val (.int p0), .val (.int p1), .val (.int p2), .val (.int p3), .val (.int p4), .val (.int p5), .val (.int (66 : Int32)), .val (.int ip), .val (.int jp), .val (.int s1), .val (.int s2), .val (.ref b1), .val (.ref r_), .val (.int xv), .val (.int yv), .val (.int (2 : Int32)), .val (.int (2 : Int32)), .val (.ref vf_), .unset] []) _
        refine stp (fun _ => XS.aload X77.here hx rfl (hb hby at_188) rfl rfl) ?_
        show Go p e below T77 (mkF m 190 #[.val (.int p0), .val (.int p1), .val (.int p2), .val (.int p3), .val (.int p4), .val (.int p5), .val (.int (66 : Int32)), .val (.int ip), .val (.int jp), .val (.int s1), .val (.int s2), .val (.ref b1), .val (.ref r_), .val (.int xv), .val (.int yv), .val (.int (2 : Int32)), .val (.int (2 : Int32)), .val (.ref vf_), .unset] [(.ref vf_)]) _
        refine stp (fun _ => XS.ifnullNo X77.here hx rfl (hb hby at_190) rfl) ?_
        show Go p e below T77 (mkF m 193 #[.val (.int p0), .val (.int p1), .val (.int p2), .val (.int p3), .val (.int p4), .val (.int p5), .val (.int (66 : Int32)), .val (.int ip), .val (.int jp), .val (.int s1), .val (.int s2), .val (.ref b1), .val (.ref r_), .val (.int xv), .val (.int yv), .val (.int (2 : Int32)), .val (.int (2 : Int32)), .val (.ref vf_), .unset] []) _
        refine stp (fun _ => XS.aload X77.here hx rfl (hb hby at_193) rfl rfl) ?_
        show Go p e below T77 (mkF m 195 #[.val (.int p0), .val (.int p1), .val (.int p2), .val (.int p3), .val (.int p4), .val (.int p5), .val (.int (66 : Int32)), .val (.int ip), .val (.int jp), .val (.int s1), .val (.int s2), .val (.ref b1), .val (.ref r_), .val (.int xv), .val (.int yv), .val (.int (2 : Int32)), .val (.int (2 : Int32)), .val (.ref vf_), .unset] [(.ref vf_)]) _
        obtain ⟨cl78, Ar78, -, S78, -, -⟩ := (id f46)
        refine stp (fun _ => X77.arraylength hx (by rw [e77]; exact Ar78.1) (State.isArrayOf_alike hZ.alike Ar78.2.1) (g := (mkF m 195 #[.val (.int p0), .val (.int p1), .val (.int p2), .val (.int p3), .val (.int p4), .val (.int p5), .val (.int (66 : Int32)), .val (.int ip), .val (.int jp), .val (.int s1), .val (.int s2), .val (.ref b1), .val (.ref r_), .val (.int xv), .val (.int yv), .val (.int (2 : Int32)), .val (.int (2 : Int32)), .val (.ref vf_), .unset] [(.ref vf_)])) rfl rfl (hb hby at_195) _) ?_
        rw [arf_len S78 (z := (2 : Int32)) (by decide)]
        show Go p e below T77 (mkF m 196 #[.val (.int p0), .val (.int p1), .val (.int p2), .val (.int p3), .val (.int p4), .val (.int p5), .val (.int (66 : Int32)), .val (.int ip), .val (.int jp), .val (.int s1), .val (.int s2), .val (.ref b1), .val (.ref r_), .val (.int xv), .val (.int yv), .val (.int (2 : Int32)), .val (.int (2 : Int32)), .val (.ref vf_), .unset] [(.int (2 : Int32))]) _
        refine stp (fun _ => XS.iload X77.here hx rfl (hb hby at_196) rfl) ?_
        show Go p e below T77 (mkF m 198 #[.val (.int p0), .val (.int p1), .val (.int p2), .val (.int p3), .val (.int p4), .val (.int p5), .val (.int (66 : Int32)), .val (.int ip), .val (.int jp), .val (.int s1), .val (.int s2), .val (.ref b1), .val (.ref r_), .val (.int xv), .val (.int yv), .val (.int (2 : Int32)), .val (.int (2 : Int32)), .val (.ref vf_), .unset] [(.int yv), (.int (2 : Int32))]) _
        refine stp (fun _ => XS.bipush X77.here hx rfl (hb hby at_198)) ?_
        show Go p e below T77 (mkF m 200 #[.val (.int p0), .val (.int p1), .val (.int p2), .val (.int p3), .val (.int p4), .val (.int p5), .val (.int (66 : Int32)), .val (.int ip), .val (.int jp), .val (.int s1), .val (.int s2), .val (.ref b1), .val (.ref r_), .val (.int xv), .val (.int yv), .val (.int (2 : Int32)), .val (.int (2 : Int32)), .val (.ref vf_), .unset] [(.int (6 : Int32)), (.int yv), (.int (2 : Int32))]) _
        refine stp (fun _ => XS.iushr X77.here hx rfl (hb hby at_200) rfl) ?_
        show Go p e below T77 (mkF m 201 #[.val (.int p0), .val (.int p1), .val (.int p2), .val (.int p3), .val (.int p4), .val (.int p5), .val (.int (66 : Int32)), .val (.int ip), .val (.int jp), .val (.int s1), .val (.int s2), .val (.ref b1), .val (.ref r_), .val (.int xv), .val (.int yv), .val (.int (2 : Int32)), .val (.int (2 : Int32)), .val (.ref vf_), .unset] [(.int ((yv.toUInt32 >>> ((6 : Int32) &&& 31).toUInt32).toInt32)), (.int (2 : Int32))]) _
        refine stp (fun _ => XS.icmpYes X77.here hx rfl (pc0 := 201) (pc' := 206) rfl (hb hby at_201) rfl (XT.ii_gt_t (own_lt2 hyn hyl)) (by decide) (by decide)) ?_
        show Go p e below T77 (mkF m 206 #[.val (.int p0), .val (.int p1), .val (.int p2), .val (.int p3), .val (.int p4), .val (.int p5), .val (.int (66 : Int32)), .val (.int ip), .val (.int jp), .val (.int s1), .val (.int s2), .val (.ref b1), .val (.ref r_), .val (.int xv), .val (.int yv), .val (.int (2 : Int32)), .val (.int (2 : Int32)), .val (.ref vf_), .unset] []) _
        refine stp (fun _ => XS.aload X77.here hx rfl (hb hby at_206) rfl rfl) ?_
        show Go p e below T77 (mkF m 208 #[.val (.int p0), .val (.int p1), .val (.int p2), .val (.int p3), .val (.int p4), .val (.int p5), .val (.int (66 : Int32)), .val (.int ip), .val (.int jp), .val (.int s1), .val (.int s2), .val (.ref b1), .val (.ref r_), .val (.int xv), .val (.int yv), .val (.int (2 : Int32)), .val (.int (2 : Int32)), .val (.ref vf_), .unset] [(.ref vf_)]) _
        obtain ⟨cl79, Ar79, -, S79, -, -⟩ := (id f46)
        refine stp (fun _ => X77.arraylength hx (by rw [e77]; exact Ar79.1) (State.isArrayOf_alike hZ.alike Ar79.2.1) (g := (mkF m 208 #[.val (.int p0), .val (.int p1), .val (.int p2), .val (.int p3), .val (.int p4), .val (.int p5), .val (.int (66 : Int32)), .val (.int ip), .val (.int jp), .val (.int s1), .val (.int s2), .val (.ref b1), .val (.ref r_), .val (.int xv), .val (.int yv), .val (.int (2 : Int32)), .val (.int (2 : Int32)), .val (.ref vf_), .unset] [(.ref vf_)])) rfl rfl (hb hby at_208) _) ?_
        rw [arf_len S79 (z := (2 : Int32)) (by decide)]
        show Go p e below T77 (mkF m 209 #[.val (.int p0), .val (.int p1), .val (.int p2), .val (.int p3), .val (.int p4), .val (.int p5), .val (.int (66 : Int32)), .val (.int ip), .val (.int jp), .val (.int s1), .val (.int s2), .val (.ref b1), .val (.ref r_), .val (.int xv), .val (.int yv), .val (.int (2 : Int32)), .val (.int (2 : Int32)), .val (.ref vf_), .unset] [(.int (2 : Int32))]) _
        refine stp (fun _ => XS.iconst X77.here hx rfl (hb hby at_209)) ?_
        show Go p e below T77 (mkF m 210 #[.val (.int p0), .val (.int p1), .val (.int p2), .val (.int p3), .val (.int p4), .val (.int p5), .val (.int (66 : Int32)), .val (.int ip), .val (.int jp), .val (.int s1), .val (.int s2), .val (.ref b1), .val (.ref r_), .val (.int xv), .val (.int yv), .val (.int (2 : Int32)), .val (.int (2 : Int32)), .val (.ref vf_), .unset] [(.int (1 : Int32)), (.int (2 : Int32))]) _
        refine stp (fun _ => XS.icmpNo X77.here hx rfl (hb hby at_210) rfl (by decide)) ?_
        show Go p e below T77 (mkF m 213 #[.val (.int p0), .val (.int p1), .val (.int p2), .val (.int p3), .val (.int p4), .val (.int p5), .val (.int (66 : Int32)), .val (.int ip), .val (.int jp), .val (.int s1), .val (.int s2), .val (.ref b1), .val (.ref r_), .val (.int xv), .val (.int yv), .val (.int (2 : Int32)), .val (.int (2 : Int32)), .val (.ref vf_), .unset] []) _
        refine stp (fun _ => XS.aload X77.here hx rfl (hb hby at_213) rfl rfl) ?_
        show Go p e below T77 (mkF m 215 #[.val (.int p0), .val (.int p1), .val (.int p2), .val (.int p3), .val (.int p4), .val (.int p5), .val (.int (66 : Int32)), .val (.int ip), .val (.int jp), .val (.int s1), .val (.int s2), .val (.ref b1), .val (.ref r_), .val (.int xv), .val (.int yv), .val (.int (2 : Int32)), .val (.int (2 : Int32)), .val (.ref vf_), .unset] [(.ref vf_)]) _
        refine stp (fun _ => XS.iconst X77.here hx rfl (hb hby at_215)) ?_
        show Go p e below T77 (mkF m 216 #[.val (.int p0), .val (.int p1), .val (.int p2), .val (.int p3), .val (.int p4), .val (.int p5), .val (.int (66 : Int32)), .val (.int ip), .val (.int jp), .val (.int s1), .val (.int s2), .val (.ref b1), .val (.ref r_), .val (.int xv), .val (.int yv), .val (.int (2 : Int32)), .val (.int (2 : Int32)), .val (.ref vf_), .unset] [(.int (1 : Int32)), (.ref vf_)]) _
        obtain ⟨cl80, Ar80, q80, S80, H80, G80⟩ := (id f46)
        have in80 : ¬ ((1 : Int32) < 0 ∨ cl80.slots.size ≤ ((1 : Int32)).toNatClampNeg) := arf_in S80 (show (1 : Int32).toInt = ((1 : Nat) : Int) by decide) (by decide)
        have at80 : cl80.slots[((1 : Int32)).toNatClampNeg]? = some (.long (own_bits 1 (own_sd ipn s1 jpn s2) 66 1)) := arf_at H80 (show (1 : Int32).toInt = ((1 : Nat) : Int) by decide) (by decide)
        refine stp (fun _ => X77.laload hx (j := (1 : Int32)) (v := (.long (own_bits 1 (own_sd ipn s1 jpn s2) 66 1))) (by rw [e77]; exact Ar80.1) (State.isArrayOf_alike hZ.alike Ar80.2.1) Ar80.2.2 in80 at80 (g := (mkF m 216 #[.val (.int p0), .val (.int p1), .val (.int p2), .val (.int p3), .val (.int p4), .val (.int p5), .val (.int (66 : Int32)), .val (.int ip), .val (.int jp), .val (.int s1), .val (.int s2), .val (.ref b1), .val (.ref r_), .val (.int xv), .val (.int yv), .val (.int (2 : Int32)), .val (.int (2 : Int32)), .val (.ref vf_), .unset] [(.int (1 : Int32)), (.ref vf_)])) rfl rfl (hb hby at_216) _) ?_
        show Go p e below T77 (mkF m 217 #[.val (.int p0), .val (.int p1), .val (.int p2), .val (.int p3), .val (.int p4), .val (.int p5), .val (.int (66 : Int32)), .val (.int ip), .val (.int jp), .val (.int s1), .val (.int s2), .val (.ref b1), .val (.ref r_), .val (.int xv), .val (.int yv), .val (.int (2 : Int32)), .val (.int (2 : Int32)), .val (.ref vf_), .unset] [(.long (own_bits 1 (own_sd ipn s1 jpn s2) 66 1))]) _
        refine stp (fun _ => XS.iconst X77.here hx rfl (hb hby at_217)) ?_
        show Go p e below T77 (mkF m 218 #[.val (.int p0), .val (.int p1), .val (.int p2), .val (.int p3), .val (.int p4), .val (.int p5), .val (.int (66 : Int32)), .val (.int ip), .val (.int jp), .val (.int s1), .val (.int s2), .val (.ref b1), .val (.ref r_), .val (.int xv), .val (.int yv), .val (.int (2 : Int32)), .val (.int (2 : Int32)), .val (.ref vf_), .unset] [(.int (2 : Int32)), (.long (own_bits 1 (own_sd ipn s1 jpn s2) 66 1))]) _
        refine stp (fun _ => XS.lushr X77.here hx rfl (hb hby at_218) rfl) ?_
        show Go p e below T77 (mkF m 219 #[.val (.int p0), .val (.int p1), .val (.int p2), .val (.int p3), .val (.int p4), .val (.int p5), .val (.int (66 : Int32)), .val (.int ip), .val (.int jp), .val (.int s1), .val (.int s2), .val (.ref b1), .val (.ref r_), .val (.int xv), .val (.int yv), .val (.int (2 : Int32)), .val (.int (2 : Int32)), .val (.ref vf_), .unset] [(.long (((own_bits 1 (own_sd ipn s1 jpn s2) 66 1).toUInt64 >>> ((2 : Int32) &&& 0x3f).toInt64.toUInt64).toInt64))]) _
        refine stp (fun _ => XS.lconst X77.here hx rfl (hb hby at_219)) ?_
        show Go p e below T77 (mkF m 220 #[.val (.int p0), .val (.int p1), .val (.int p2), .val (.int p3), .val (.int p4), .val (.int p5), .val (.int (66 : Int32)), .val (.int ip), .val (.int jp), .val (.int s1), .val (.int s2), .val (.ref b1), .val (.ref r_), .val (.int xv), .val (.int yv), .val (.int (2 : Int32)), .val (.int (2 : Int32)), .val (.ref vf_), .unset] [(.long (0 : Int64)), (.long (((own_bits 1 (own_sd ipn s1 jpn s2) 66 1).toUInt64 >>> ((2 : Int32) &&& 0x3f).toInt64.toUInt64).toInt64))]) _
        refine stp (fun _ => XS.lcmp X77.here hx rfl (hb hby at_220) rfl) ?_
        show Go p e below T77 (mkF m 221 #[.val (.int p0), .val (.int p1), .val (.int p2), .val (.int p3), .val (.int p4), .val (.int p5), .val (.int (66 : Int32)), .val (.int ip), .val (.int jp), .val (.int s1), .val (.int s2), .val (.ref b1), .val (.ref r_), .val (.int xv), .val (.int yv), .val (.int (2 : Int32)), .val (.int (2 : Int32)), .val (.ref vf_), .unset] [(.int (lcmpW (((own_bits 1 (own_sd ipn s1 jpn s2) 66 1).toUInt64 >>> ((2 : Int32) &&& 0x3f).toInt64.toUInt64).toInt64) (0 : Int64)))]) _
        refine stp (fun _ => XS.ifYes X77.here hx rfl (pc0 := 221) (pc' := 226) rfl (hb hby at_221) rfl (XT.ll_eq_t (own_top _ _)) (by decide) (by decide)) ?_
        show Go p e below T77 (mkF m 226 #[.val (.int p0), .val (.int p1), .val (.int p2), .val (.int p3), .val (.int p4), .val (.int p5), .val (.int (66 : Int32)), .val (.int ip), .val (.int jp), .val (.int s1), .val (.int s2), .val (.ref b1), .val (.ref r_), .val (.int xv), .val (.int yv), .val (.int (2 : Int32)), .val (.int (2 : Int32)), .val (.ref vf_), .unset] []) _
        refine stp (fun _ => XS.aload X77.here hx rfl (hb hby at_226) rfl rfl) ?_
        show Go p e below T77 (mkF m 228 #[.val (.int p0), .val (.int p1), .val (.int p2), .val (.int p3), .val (.int p4), .val (.int p5), .val (.int (66 : Int32)), .val (.int ip), .val (.int jp), .val (.int s1), .val (.int s2), .val (.ref b1), .val (.ref r_), .val (.int xv), .val (.int yv), .val (.int (2 : Int32)), .val (.int (2 : Int32)), .val (.ref vf_), .unset] [(.ref vf_)]) _
        refine stp (fun _ => XS.iload X77.here hx rfl (hb hby at_228) rfl) ?_
        show Go p e below T77 (mkF m 230 #[.val (.int p0), .val (.int p1), .val (.int p2), .val (.int p3), .val (.int p4), .val (.int p5), .val (.int (66 : Int32)), .val (.int ip), .val (.int jp), .val (.int s1), .val (.int s2), .val (.ref b1), .val (.ref r_), .val (.int xv), .val (.int yv), .val (.int (2 : Int32)), .val (.int (2 : Int32)), .val (.ref vf_), .unset] [(.int yv), (.ref vf_)]) _
        refine stp (fun _ => XS.bipush X77.here hx rfl (hb hby at_230)) ?_
        show Go p e below T77 (mkF m 232 #[.val (.int p0), .val (.int p1), .val (.int p2), .val (.int p3), .val (.int p4), .val (.int p5), .val (.int (66 : Int32)), .val (.int ip), .val (.int jp), .val (.int s1), .val (.int s2), .val (.ref b1), .val (.ref r_), .val (.int xv), .val (.int yv), .val (.int (2 : Int32)), .val (.int (2 : Int32)), .val (.ref vf_), .unset] [(.int (6 : Int32)), (.int yv), (.ref vf_)]) _
        refine stp (fun _ => XS.iushr X77.here hx rfl (hb hby at_232) rfl) ?_
        show Go p e below T77 (mkF m 233 #[.val (.int p0), .val (.int p1), .val (.int p2), .val (.int p3), .val (.int p4), .val (.int p5), .val (.int (66 : Int32)), .val (.int ip), .val (.int jp), .val (.int s1), .val (.int s2), .val (.ref b1), .val (.ref r_), .val (.int xv), .val (.int yv), .val (.int (2 : Int32)), .val (.int (2 : Int32)), .val (.ref vf_), .unset] [(.int ((yv.toUInt32 >>> ((6 : Int32) &&& 31).toUInt32).toInt32)), (.ref vf_)]) _
        obtain ⟨cl81, Ar81, q81, S81, H81, G81⟩ := (id f46)
        have in81 : ¬ (((yv.toUInt32 >>> ((6 : Int32) &&& 31).toUInt32).toInt32) < 0 ∨ cl81.slots.size ≤ (((yv.toUInt32 >>> ((6 : Int32) &&& 31).toUInt32).toInt32)).toNatClampNeg) := arf_in S81 (own_div hyn) (own_d2 hyl)
        have at81 : cl81.slots[(((yv.toUInt32 >>> ((6 : Int32) &&& 31).toUInt32).toInt32)).toNatClampNeg]? = some (.long (own_bits 1 (own_sd ipn s1 jpn s2) 66 (yn / 64))) := arf_at H81 (own_div hyn) (own_d2 hyl)
        refine stp (fun _ => X77.laload hx (j := ((yv.toUInt32 >>> ((6 : Int32) &&& 31).toUInt32).toInt32)) (v := (.long (own_bits 1 (own_sd ipn s1 jpn s2) 66 (yn / 64)))) (by rw [e77]; exact Ar81.1) (State.isArrayOf_alike hZ.alike Ar81.2.1) Ar81.2.2 in81 at81 (g := (mkF m 233 #[.val (.int p0), .val (.int p1), .val (.int p2), .val (.int p3), .val (.int p4), .val (.int p5), .val (.int (66 : Int32)), .val (.int ip), .val (.int jp), .val (.int s1), .val (.int s2), .val (.ref b1), .val (.ref r_), .val (.int xv), .val (.int yv), .val (.int (2 : Int32)), .val (.int (2 : Int32)), .val (.ref vf_), .unset] [(.int ((yv.toUInt32 >>> ((6 : Int32) &&& 31).toUInt32).toInt32)), (.ref vf_)])) rfl rfl (hb hby at_233) _) ?_
        show Go p e below T77 (mkF m 234 #[.val (.int p0), .val (.int p1), .val (.int p2), .val (.int p3), .val (.int p4), .val (.int p5), .val (.int (66 : Int32)), .val (.int ip), .val (.int jp), .val (.int s1), .val (.int s2), .val (.ref b1), .val (.ref r_), .val (.int xv), .val (.int yv), .val (.int (2 : Int32)), .val (.int (2 : Int32)), .val (.ref vf_), .unset] [(.long (own_bits 1 (own_sd ipn s1 jpn s2) 66 (yn / 64)))]) _
        refine stp (fun _ => XS.iload X77.here hx rfl (hb hby at_234) rfl) ?_
        show Go p e below T77 (mkF m 236 #[.val (.int p0), .val (.int p1), .val (.int p2), .val (.int p3), .val (.int p4), .val (.int p5), .val (.int (66 : Int32)), .val (.int ip), .val (.int jp), .val (.int s1), .val (.int s2), .val (.ref b1), .val (.ref r_), .val (.int xv), .val (.int yv), .val (.int (2 : Int32)), .val (.int (2 : Int32)), .val (.ref vf_), .unset] [(.int yv), (.long (own_bits 1 (own_sd ipn s1 jpn s2) 66 (yn / 64)))]) _
        refine stp (fun _ => XS.bipush X77.here hx rfl (hb hby at_236)) ?_
        show Go p e below T77 (mkF m 238 #[.val (.int p0), .val (.int p1), .val (.int p2), .val (.int p3), .val (.int p4), .val (.int p5), .val (.int (66 : Int32)), .val (.int ip), .val (.int jp), .val (.int s1), .val (.int s2), .val (.ref b1), .val (.ref r_), .val (.int xv), .val (.int yv), .val (.int (2 : Int32)), .val (.int (2 : Int32)), .val (.ref vf_), .unset] [(.int (63 : Int32)), (.int yv), (.long (own_bits 1 (own_sd ipn s1 jpn s2) 66 (yn / 64)))]) _
        refine stp (fun _ => XS.iand X77.here hx rfl (hb hby at_238) rfl) ?_
        show Go p e below T77 (mkF m 239 #[.val (.int p0), .val (.int p1), .val (.int p2), .val (.int p3), .val (.int p4), .val (.int p5), .val (.int (66 : Int32)), .val (.int ip), .val (.int jp), .val (.int s1), .val (.int s2), .val (.ref b1), .val (.ref r_), .val (.int xv), .val (.int yv), .val (.int (2 : Int32)), .val (.int (2 : Int32)), .val (.ref vf_), .unset] [(.int (yv &&& (63 : Int32))), (.long (own_bits 1 (own_sd ipn s1 jpn s2) 66 (yn / 64)))]) _
        refine stp (fun _ => XS.lushr X77.here hx rfl (hb hby at_239) rfl) ?_
        show Go p e below T77 (mkF m 240 #[.val (.int p0), .val (.int p1), .val (.int p2), .val (.int p3), .val (.int p4), .val (.int p5), .val (.int (66 : Int32)), .val (.int ip), .val (.int jp), .val (.int s1), .val (.int s2), .val (.ref b1), .val (.ref r_), .val (.int xv), .val (.int yv), .val (.int (2 : Int32)), .val (.int (2 : Int32)), .val (.ref vf_), .unset] [(.long (((own_bits 1 (own_sd ipn s1 jpn s2) 66 (yn / 64)).toUInt64 >>> ((yv &&& (63 : Int32)) &&& 0x3f).toInt64.toUInt64).toInt64))]) _
        refine stp (fun _ => XS.lconst X77.here hx rfl (hb hby at_240)) ?_
        show Go p e below T77 (mkF m 241 #[.val (.int p0), .val (.int p1), .val (.int p2), .val (.int p3), .val (.int p4), .val (.int p5), .val (.int (66 : Int32)), .val (.int ip), .val (.int jp), .val (.int s1), .val (.int s2), .val (.ref b1), .val (.ref r_), .val (.int xv), .val (.int yv), .val (.int (2 : Int32)), .val (.int (2 : Int32)), .val (.ref vf_), .unset] [(.long (1 : Int64)), (.long (((own_bits 1 (own_sd ipn s1 jpn s2) 66 (yn / 64)).toUInt64 >>> ((yv &&& (63 : Int32)) &&& 0x3f).toInt64.toUInt64).toInt64))]) _
        refine stp (fun _ => XS.land X77.here hx rfl (hb hby at_241) rfl) ?_
        show Go p e below T77 (mkF m 242 #[.val (.int p0), .val (.int p1), .val (.int p2), .val (.int p3), .val (.int p4), .val (.int p5), .val (.int (66 : Int32)), .val (.int ip), .val (.int jp), .val (.int s1), .val (.int s2), .val (.ref b1), .val (.ref r_), .val (.int xv), .val (.int yv), .val (.int (2 : Int32)), .val (.int (2 : Int32)), .val (.ref vf_), .unset] [(.long ((((own_bits 1 (own_sd ipn s1 jpn s2) 66 (yn / 64)).toUInt64 >>> ((yv &&& (63 : Int32)) &&& 0x3f).toInt64.toUInt64).toInt64) &&& (1 : Int64)))]) _
        refine stp (fun _ => XS.lconst X77.here hx rfl (hb hby at_242)) ?_
        show Go p e below T77 (mkF m 243 #[.val (.int p0), .val (.int p1), .val (.int p2), .val (.int p3), .val (.int p4), .val (.int p5), .val (.int (66 : Int32)), .val (.int ip), .val (.int jp), .val (.int s1), .val (.int s2), .val (.ref b1), .val (.ref r_), .val (.int xv), .val (.int yv), .val (.int (2 : Int32)), .val (.int (2 : Int32)), .val (.ref vf_), .unset] [(.long (0 : Int64)), (.long ((((own_bits 1 (own_sd ipn s1 jpn s2) 66 (yn / 64)).toUInt64 >>> ((yv &&& (63 : Int32)) &&& 0x3f).toInt64.toUInt64).toInt64) &&& (1 : Int64)))]) _
        refine stp (fun _ => XS.lcmp X77.here hx rfl (hb hby at_243) rfl) ?_
        show Go p e below T77 (mkF m 244 #[.val (.int p0), .val (.int p1), .val (.int p2), .val (.int p3), .val (.int p4), .val (.int p5), .val (.int (66 : Int32)), .val (.int ip), .val (.int jp), .val (.int s1), .val (.int s2), .val (.ref b1), .val (.ref r_), .val (.int xv), .val (.int yv), .val (.int (2 : Int32)), .val (.int (2 : Int32)), .val (.ref vf_), .unset] [(.int (lcmpW ((((own_bits 1 (own_sd ipn s1 jpn s2) 66 (yn / 64)).toUInt64 >>> ((yv &&& (63 : Int32)) &&& 0x3f).toInt64.toUInt64).toInt64) &&& (1 : Int64)) (0 : Int64)))]) _
        refine stp (fun _ => XS.ifYes X77.here hx rfl (pc0 := 244) (pc' := 251) rfl (hb hby at_244) rfl (XT.ll_eq_t (own_bit0 hyn hyl (by rw [← hsy]; decide))) (by decide) (by decide)) ?_
        show Go p e below T77 (mkF m 251 #[.val (.int p0), .val (.int p1), .val (.int p2), .val (.int p3), .val (.int p4), .val (.int p5), .val (.int (66 : Int32)), .val (.int ip), .val (.int jp), .val (.int s1), .val (.int s2), .val (.ref b1), .val (.ref r_), .val (.int xv), .val (.int yv), .val (.int (2 : Int32)), .val (.int (2 : Int32)), .val (.ref vf_), .unset] []) _
        refine stp (fun _ => XS.iconst X77.here hx rfl (hb hby at_251)) ?_
        show Go p e below T77 (mkF m 252 #[.val (.int p0), .val (.int p1), .val (.int p2), .val (.int p3), .val (.int p4), .val (.int p5), .val (.int (66 : Int32)), .val (.int ip), .val (.int jp), .val (.int s1), .val (.int s2), .val (.ref b1), .val (.ref r_), .val (.int xv), .val (.int yv), .val (.int (2 : Int32)), .val (.int (2 : Int32)), .val (.ref vf_), .unset] [(.int (0 : Int32))]) _
        refine stp (fun _ => XS.istore X77.here hx rfl (hb hby at_252) rfl (l' := #[.val (.int p0), .val (.int p1), .val (.int p2), .val (.int p3), .val (.int p4), .val (.int p5), .val (.int (66 : Int32)), .val (.int ip), .val (.int jp), .val (.int s1), .val (.int s2), .val (.ref b1), .val (.ref r_), .val (.int xv), .val (.int yv), .val (.int (2 : Int32)), .val (.int (2 : Int32)), .val (.ref vf_), .val (.int (0 : Int32))]) rfl) ?_
        show Go p e below T77 (mkF m 254 #[.val (.int p0), .val (.int p1), .val (.int p2), .val (.int p3), .val (.int p4), .val (.int p5), .val (.int (66 : Int32)), .val (.int ip), .val (.int jp), .val (.int s1), .val (.int s2), .val (.ref b1), .val (.ref r_), .val (.int xv), .val (.int yv), .val (.int (2 : Int32)), .val (.int (2 : Int32)), .val (.ref vf_), .val (.int (0 : Int32))] []) _
        refine stp (fun _ => XS.iload X77.here hx rfl (hb hby at_254) rfl) ?_
        show Go p e below T77 (mkF m 256 #[.val (.int p0), .val (.int p1), .val (.int p2), .val (.int p3), .val (.int p4), .val (.int p5), .val (.int (66 : Int32)), .val (.int ip), .val (.int jp), .val (.int s1), .val (.int s2), .val (.ref b1), .val (.ref r_), .val (.int xv), .val (.int yv), .val (.int (2 : Int32)), .val (.int (2 : Int32)), .val (.ref vf_), .val (.int (0 : Int32))] [(.int (0 : Int32))]) _
        refine stp (fun _ => XS.iload X77.here hx rfl (hb hby at_256) rfl) ?_
        show Go p e below T77 (mkF m 258 #[.val (.int p0), .val (.int p1), .val (.int p2), .val (.int p3), .val (.int p4), .val (.int p5), .val (.int (66 : Int32)), .val (.int ip), .val (.int jp), .val (.int s1), .val (.int s2), .val (.ref b1), .val (.ref r_), .val (.int xv), .val (.int yv), .val (.int (2 : Int32)), .val (.int (2 : Int32)), .val (.ref vf_), .val (.int (0 : Int32))] [(.int (2 : Int32)), (.int (0 : Int32))]) _
        refine stp (fun _ => XS.iconst X77.here hx rfl (hb hby at_258)) ?_
        show Go p e below T77 (mkF m 259 #[.val (.int p0), .val (.int p1), .val (.int p2), .val (.int p3), .val (.int p4), .val (.int p5), .val (.int (66 : Int32)), .val (.int ip), .val (.int jp), .val (.int s1), .val (.int s2), .val (.ref b1), .val (.ref r_), .val (.int xv), .val (.int yv), .val (.int (2 : Int32)), .val (.int (2 : Int32)), .val (.ref vf_), .val (.int (0 : Int32))] [(.int (3 : Int32)), (.int (2 : Int32)), (.int (0 : Int32))]) _
        refine stp (fun _ => XS.iload X77.here hx rfl (hb hby at_259) rfl) ?_
        show Go p e below T77 (mkF m 261 #[.val (.int p0), .val (.int p1), .val (.int p2), .val (.int p3), .val (.int p4), .val (.int p5), .val (.int (66 : Int32)), .val (.int ip), .val (.int jp), .val (.int s1), .val (.int s2), .val (.ref b1), .val (.ref r_), .val (.int xv), .val (.int yv), .val (.int (2 : Int32)), .val (.int (2 : Int32)), .val (.ref vf_), .val (.int (0 : Int32))] [(.int (2 : Int32)), (.int (3 : Int32)), (.int (2 : Int32)), (.int (0 : Int32))]) _
        refine stp (fun _ => XS.isub X77.here hx rfl (hb hby at_261) rfl) ?_
        show Go p e below T77 (mkF m 262 #[.val (.int p0), .val (.int p1), .val (.int p2), .val (.int p3), .val (.int p4), .val (.int p5), .val (.int (66 : Int32)), .val (.int ip), .val (.int jp), .val (.int s1), .val (.int s2), .val (.ref b1), .val (.ref r_), .val (.int xv), .val (.int yv), .val (.int (2 : Int32)), .val (.int (2 : Int32)), .val (.ref vf_), .val (.int (0 : Int32))] [(.int (1 : Int32)), (.int (2 : Int32)), (.int (0 : Int32))]) _
        refine stp (fun _ => XS.iand X77.here hx rfl (hb hby at_262) rfl) ?_
        show Go p e below T77 (mkF m 263 #[.val (.int p0), .val (.int p1), .val (.int p2), .val (.int p3), .val (.int p4), .val (.int p5), .val (.int (66 : Int32)), .val (.int ip), .val (.int jp), .val (.int s1), .val (.int s2), .val (.ref b1), .val (.ref r_), .val (.int xv), .val (.int yv), .val (.int (2 : Int32)), .val (.int (2 : Int32)), .val (.ref vf_), .val (.int (0 : Int32))] [(.int (0 : Int32)), (.int (0 : Int32))]) _
        refine stp (fun _ => XS.ifYes X77.here hx rfl (pc0 := 263) (pc' := 270) rfl (hb hby at_263) rfl (by decide) (by decide) (by decide)) ?_
        show Go p e below T77 (mkF m 270 #[.val (.int p0), .val (.int p1), .val (.int p2), .val (.int p3), .val (.int p4), .val (.int p5), .val (.int (66 : Int32)), .val (.int ip), .val (.int jp), .val (.int s1), .val (.int s2), .val (.ref b1), .val (.ref r_), .val (.int xv), .val (.int yv), .val (.int (2 : Int32)), .val (.int (2 : Int32)), .val (.ref vf_), .val (.int (0 : Int32))] [(.int (0 : Int32))]) _
        refine stp (fun _ => XS.iconst X77.here hx rfl (hb hby at_270)) ?_
        show Go p e below T77 (mkF m 271 #[.val (.int p0), .val (.int p1), .val (.int p2), .val (.int p3), .val (.int p4), .val (.int p5), .val (.int (66 : Int32)), .val (.int ip), .val (.int jp), .val (.int s1), .val (.int s2), .val (.ref b1), .val (.ref r_), .val (.int xv), .val (.int yv), .val (.int (2 : Int32)), .val (.int (2 : Int32)), .val (.ref vf_), .val (.int (0 : Int32))] [(.int (0 : Int32)), (.int (0 : Int32))]) _
        refine stp (fun _ => XS.icmpNo X77.here hx rfl (hb hby at_271) rfl (by decide)) ?_
        show Go p e below T77 (mkF m 274 #[.val (.int p0), .val (.int p1), .val (.int p2), .val (.int p3), .val (.int p4), .val (.int p5), .val (.int (66 : Int32)), .val (.int ip), .val (.int jp), .val (.int s1), .val (.int s2), .val (.ref b1), .val (.ref r_), .val (.int xv), .val (.int yv), .val (.int (2 : Int32)), .val (.int (2 : Int32)), .val (.ref vf_), .val (.int (0 : Int32))] []) _
        refine stp (fun _ => XS.iconst X77.here hx rfl (hb hby at_274)) ?_
        show Go p e below T77 (mkF m 275 #[.val (.int p0), .val (.int p1), .val (.int p2), .val (.int p3), .val (.int p4), .val (.int p5), .val (.int (66 : Int32)), .val (.int ip), .val (.int jp), .val (.int s1), .val (.int s2), .val (.ref b1), .val (.ref r_), .val (.int xv), .val (.int yv), .val (.int (2 : Int32)), .val (.int (2 : Int32)), .val (.ref vf_), .val (.int (0 : Int32))] [(.int (1 : Int32))]) _
        refine stp (fun _ => XS.goto X77.here hx rfl (pc0 := 275) (pc' := 279) rfl (hb hby at_275) (by decide) (by decide)) ?_
        show Go p e below T77 (mkF m 279 #[.val (.int p0), .val (.int p1), .val (.int p2), .val (.int p3), .val (.int p4), .val (.int p5), .val (.int (66 : Int32)), .val (.int ip), .val (.int jp), .val (.int s1), .val (.int s2), .val (.ref b1), .val (.ref r_), .val (.int xv), .val (.int yv), .val (.int (2 : Int32)), .val (.int (2 : Int32)), .val (.ref vf_), .val (.int (0 : Int32))] [(.int (1 : Int32))]) _
        refine outN X77 hx (t := .boolean) hret (by simp) (hb hby at_279) hlk (by decide) (by decide) ?_
        exact ⟨rfl, N77⟩
      · show Go p e below T51 (mkF m 134 #[.val (.int p0), .val (.int p1), .val (.int p2), .val (.int p3), .val (.int p4), .val (.int p5), .val (.int (66 : Int32)), .val (.int ip), .val (.int jp), .val (.int s1), .val (.int s2), .val (.ref b1), .val (.ref r_), .val (.int xv), .val (.int yv), .val (.int (2 : Int32)), .val (.int (3 : Int32)), .unset, .unset] []) _
        refine stp (fun _ => XS.aload X51.here hx rfl (hb hby at_134) rfl rfl) ?_
        show Go p e below T51 (mkF m 136 #[.val (.int p0), .val (.int p1), .val (.int p2), .val (.int p3), .val (.int p4), .val (.int p5), .val (.int (66 : Int32)), .val (.int ip), .val (.int jp), .val (.int s1), .val (.int s2), .val (.ref b1), .val (.ref r_), .val (.int xv), .val (.int yv), .val (.int (2 : Int32)), .val (.int (3 : Int32)), .unset, .unset] [(.ref r_)]) _
        refine stp (fun _ => XS.iload X51.here hx rfl (hb hby at_136) rfl) ?_
        show Go p e below T51 (mkF m 138 #[.val (.int p0), .val (.int p1), .val (.int p2), .val (.int p3), .val (.int p4), .val (.int p5), .val (.int (66 : Int32)), .val (.int ip), .val (.int jp), .val (.int s1), .val (.int s2), .val (.ref b1), .val (.ref r_), .val (.int xv), .val (.int yv), .val (.int (2 : Int32)), .val (.int (3 : Int32)), .unset, .unset] [(.int xv), (.ref r_)]) _
        refine stp (fun _ => XS.iload X51.here hx rfl (hb hby at_138) rfl) ?_
        show Go p e below T51 (mkF m 140 #[.val (.int p0), .val (.int p1), .val (.int p2), .val (.int p3), .val (.int p4), .val (.int p5), .val (.int (66 : Int32)), .val (.int ip), .val (.int jp), .val (.int s1), .val (.int s2), .val (.ref b1), .val (.ref r_), .val (.int xv), .val (.int yv), .val (.int (2 : Int32)), .val (.int (3 : Int32)), .unset, .unset] [(.int yv), (.int xv), (.ref r_)]) _
        obtain ⟨cq82, kq82, q82a, q82b, q82c⟩ := isOf hZ e51 f41
        obtain ⟨_, _, ⟨T82, L82, k82, n82⟩, -, X82, ⟨Lc82, hQ82, l82, y82, z82⟩, st82⟩ := X51.virtualBack hx (y := (⟨"com/example/brisk_dedup/briskdedup/engine/Sides", "mayPair", "(II)Z"⟩ : MethodName)) (z := (⟨"com/example/brisk_dedup/briskdedup/engine/Sides", "mayPair", "(II)Z"⟩ : MethodName)) hown (mvT hZ (hw _ (List.mem_of_getElem? (i := 40) rfl))) (mvT hZ (hw _ (List.mem_of_getElem? (i := 41) rfl))) (notFace_of_selects (args := #[]) (mvT hZ (hw _ (List.mem_of_getElem? (i := 43) rfl)))) (mvT hZ (hw _ (List.mem_of_getElem? (i := 43) rfl))) (mvT hZ (hw _ (List.mem_of_getElem? (i := 42) rfl))) (by decide) (backOf (W := 0) (rm_mp1 l Z a0 hw [] r_ xv yv vb_ (own_sd ipn s1 jpn s2) xn yn (1 : Int32) kb_ h38 n0 O38 f42 f45 hxn hxl hyn hyl ⟨fun _ => rfl, fun h => absurd (by rw [← hsx, ← hsy]; decide) h⟩) hZ (hw _ (List.mem_of_getElem? (i := 44) rfl)) (hw _ (List.mem_of_getElem? (i := 8) rfl)) (by decide) (by decide)) q82a q82c (g := (mkF m 140 #[.val (.int p0), .val (.int p1), .val (.int p2), .val (.int p3), .val (.int p4), .val (.int p5), .val (.int (66 : Int32)), .val (.int ip), .val (.int jp), .val (.int s1), .val (.int s2), .val (.ref b1), .val (.ref r_), .val (.int xv), .val (.int yv), .val (.int (2 : Int32)), .val (.int (3 : Int32)), .unset, .unset] [(.int yv), (.int xv), (.ref r_)])) rfl (by rw [hml]; rfl) (Steps.refl _) (argsL := [(.int xv), (.int yv)]) (rest := []) (lenOf pd_5 rfl) rfl (by show 2 * 0 + _ ≤ _; exact Nat.le_of_eq rfl) (hb hby at_140) (fun _ _ => ⟨rfl, e51, (by decide : 5 + 0 ≤ _), (by decide : 139 + 0 ≤ _)⟩)
        dsimp only [Pt.U, Pt.locs, Pt.cells, Pt.slots] at X82 l82 y82 z82 st82 hQ82
        subst l82 y82 z82
        obtain ⟨rfl, N82q, e82⟩ := hQ82
        have N82 := Fr.app N51 N82q
        refine stt st82 ?_
        show Go p e below T82 (mkF m 143 #[.val (.int p0), .val (.int p1), .val (.int p2), .val (.int p3), .val (.int p4), .val (.int p5), .val (.int (66 : Int32)), .val (.int ip), .val (.int jp), .val (.int s1), .val (.int s2), .val (.ref b1), .val (.ref r_), .val (.int xv), .val (.int yv), .val (.int (2 : Int32)), .val (.int (3 : Int32)), .unset, .unset] [(.int (1 : Int32))]) _
        refine stp (fun _ => XS.iload X82.here hx rfl (hb hby at_143) rfl) ?_
        show Go p e below T82 (mkF m 145 #[.val (.int p0), .val (.int p1), .val (.int p2), .val (.int p3), .val (.int p4), .val (.int p5), .val (.int (66 : Int32)), .val (.int ip), .val (.int jp), .val (.int s1), .val (.int s2), .val (.ref b1), .val (.ref r_), .val (.int xv), .val (.int yv), .val (.int (2 : Int32)), .val (.int (3 : Int32)), .unset, .unset] [(.int (2 : Int32)), (.int (1 : Int32))]) _
        refine stp (fun _ => XS.iload X82.here hx rfl (hb hby at_145) rfl) ?_
        show Go p e below T82 (mkF m 147 #[.val (.int p0), .val (.int p1), .val (.int p2), .val (.int p3), .val (.int p4), .val (.int p5), .val (.int (66 : Int32)), .val (.int ip), .val (.int jp), .val (.int s1), .val (.int s2), .val (.ref b1), .val (.ref r_), .val (.int xv), .val (.int yv), .val (.int (2 : Int32)), .val (.int (3 : Int32)), .unset, .unset] [(.int (3 : Int32)), (.int (2 : Int32)), (.int (1 : Int32))]) _
        refine stp (fun _ => XS.ior X82.here hx rfl (hb hby at_147) rfl) ?_
        show Go p e below T82 (mkF m 148 #[.val (.int p0), .val (.int p1), .val (.int p2), .val (.int p3), .val (.int p4), .val (.int p5), .val (.int (66 : Int32)), .val (.int ip), .val (.int jp), .val (.int s1), .val (.int s2), .val (.ref b1), .val (.ref r_), .val (.int xv), .val (.int yv), .val (.int (2 : Int32)), .val (.int (3 : Int32)), .unset, .unset] [(.int (3 : Int32)), (.int (1 : Int32))]) _
        refine stp (fun _ => XS.iconst X82.here hx rfl (hb hby at_148)) ?_
        show Go p e below T82 (mkF m 149 #[.val (.int p0), .val (.int p1), .val (.int p2), .val (.int p3), .val (.int p4), .val (.int p5), .val (.int (66 : Int32)), .val (.int ip), .val (.int jp), .val (.int s1), .val (.int s2), .val (.ref b1), .val (.ref r_), .val (.int xv), .val (.int yv), .val (.int (2 : Int32)), .val (.int (3 : Int32)), .unset, .unset] [(.int (3 : Int32)), (.int (3 : Int32)), (.int (1 : Int32))]) _
        refine stp (fun _ => XS.icmpNo X82.here hx rfl (hb hby at_149) rfl (by decide)) ?_
        show Go p e below T82 (mkF m 152 #[.val (.int p0), .val (.int p1), .val (.int p2), .val (.int p3), .val (.int p4), .val (.int p5), .val (.int (66 : Int32)), .val (.int ip), .val (.int jp), .val (.int s1), .val (.int s2), .val (.ref b1), .val (.ref r_), .val (.int xv), .val (.int yv), .val (.int (2 : Int32)), .val (.int (3 : Int32)), .unset, .unset] [(.int (1 : Int32))]) _
        refine stp (fun _ => XS.iconst X82.here hx rfl (hb hby at_152)) ?_
        show Go p e below T82 (mkF m 153 #[.val (.int p0), .val (.int p1), .val (.int p2), .val (.int p3), .val (.int p4), .val (.int p5), .val (.int (66 : Int32)), .val (.int ip), .val (.int jp), .val (.int s1), .val (.int s2), .val (.ref b1), .val (.ref r_), .val (.int xv), .val (.int yv), .val (.int (2 : Int32)), .val (.int (3 : Int32)), .unset, .unset] [(.int (1 : Int32)), (.int (1 : Int32))]) _
        refine stp (fun _ => XS.goto X82.here hx rfl (pc0 := 153) (pc' := 157) rfl (hb hby at_153) (by decide) (by decide)) ?_
        show Go p e below T82 (mkF m 157 #[.val (.int p0), .val (.int p1), .val (.int p2), .val (.int p3), .val (.int p4), .val (.int p5), .val (.int (66 : Int32)), .val (.int ip), .val (.int jp), .val (.int s1), .val (.int s2), .val (.ref b1), .val (.ref r_), .val (.int xv), .val (.int yv), .val (.int (2 : Int32)), .val (.int (3 : Int32)), .unset, .unset] [(.int (1 : Int32)), (.int (1 : Int32))]) _
        refine stp (fun _ => XS.icmpYes X82.here hx rfl (pc0 := 157) (pc' := 162) rfl (hb hby at_157) rfl (by decide) (by decide) (by decide)) ?_
        show Go p e below T82 (mkF m 162 #[.val (.int p0), .val (.int p1), .val (.int p2), .val (.int p3), .val (.int p4), .val (.int p5), .val (.int (66 : Int32)), .val (.int ip), .val (.int jp), .val (.int s1), .val (.int s2), .val (.ref b1), .val (.ref r_), .val (.int xv), .val (.int yv), .val (.int (2 : Int32)), .val (.int (3 : Int32)), .unset, .unset] []) _
        refine stp (fun _ => XS.aload X82.here hx rfl (hb hby at_162) rfl rfl) ?_
        show Go p e below T82 (mkF m 164 #[.val (.int p0), .val (.int p1), .val (.int p2), .val (.int p3), .val (.int p4), .val (.int p5), .val (.int (66 : Int32)), .val (.int ip), .val (.int jp), .val (.int s1), .val (.int s2), .val (.ref b1), .val (.ref r_), .val (.int xv), .val (.int yv), .val (.int (2 : Int32)), .val (.int (3 : Int32)), .unset, .unset] [(.ref r_)]) _
        refine stp (fun _ => XS.iload X82.here hx rfl (hb hby at_164) rfl) ?_
        show Go p e below T82 (mkF m 166 #[.val (.int p0), .val (.int p1), .val (.int p2), .val (.int p3), .val (.int p4), .val (.int p5), .val (.int (66 : Int32)), .val (.int ip), .val (.int jp), .val (.int s1), .val (.int s2), .val (.ref b1), .val (.ref r_), .val (.int xv), .val (.int yv), .val (.int (2 : Int32)), .val (.int (3 : Int32)), .unset, .unset] [(.int xv), (.ref r_)]) _
        obtain ⟨cq83, kq83, q83a, q83b, q83c⟩ := isOf hZ e82 f41
        obtain ⟨_, _, ⟨T83, L83, k83, n83⟩, -, X83, ⟨Lc83, hQ83, l83, y83, z83⟩, st83⟩ := X82.virtualBack hx (y := (⟨"com/example/brisk_dedup/briskdedup/engine/Sides", "partners", "(I)[J"⟩ : MethodName)) (z := (⟨"com/example/brisk_dedup/briskdedup/engine/Sides", "partners", "(I)[J"⟩ : MethodName)) hown (mvT hZ (hw _ (List.mem_of_getElem? (i := 45) rfl))) (mvT hZ (hw _ (List.mem_of_getElem? (i := 46) rfl))) (notFace_of_selects (args := #[]) (mvT hZ (hw _ (List.mem_of_getElem? (i := 48) rfl)))) (mvT hZ (hw _ (List.mem_of_getElem? (i := 48) rfl))) (mvT hZ (hw _ (List.mem_of_getElem? (i := 47) rfl))) (by decide) (backOf (W := 0) (rm_pa2 l Z a0 hw [] r_ xv vb_ (own_sd ipn s1 jpn s2) xn vf_ kb_ h38 n0 O38 f42 f45 f43 hxn hxl hsx.symm) hZ (hw _ (List.mem_of_getElem? (i := 49) rfl)) (hw _ (List.mem_of_getElem? (i := 8) rfl)) (by decide) (by decide)) q83a q83c (g := (mkF m 166 #[.val (.int p0), .val (.int p1), .val (.int p2), .val (.int p3), .val (.int p4), .val (.int p5), .val (.int (66 : Int32)), .val (.int ip), .val (.int jp), .val (.int s1), .val (.int s2), .val (.ref b1), .val (.ref r_), .val (.int xv), .val (.int yv), .val (.int (2 : Int32)), .val (.int (3 : Int32)), .unset, .unset] [(.int xv), (.ref r_)])) rfl (by rw [hml]; rfl) (Steps.refl _) (argsL := [(.int xv)]) (rest := []) (lenOf pd_6 rfl) rfl (by show 2 * 0 + _ ≤ _; exact Nat.le_of_eq rfl) (hb hby at_166) (fun _ _ => ⟨rfl, e82, (by decide : 5 + 0 ≤ _), (by decide : 139 + 0 ≤ _)⟩)
        dsimp only [Pt.U, Pt.locs, Pt.cells, Pt.slots] at X83 l83 y83 z83 st83 hQ83
        subst l83 y83 z83
        obtain ⟨rfl, N83q, e83⟩ := hQ83
        have N83 := Fr.app N82 N83q
        refine stt st83 ?_
        show Go p e below T83 (mkF m 169 #[.val (.int p0), .val (.int p1), .val (.int p2), .val (.int p3), .val (.int p4), .val (.int p5), .val (.int (66 : Int32)), .val (.int ip), .val (.int jp), .val (.int s1), .val (.int s2), .val (.ref b1), .val (.ref r_), .val (.int xv), .val (.int yv), .val (.int (2 : Int32)), .val (.int (3 : Int32)), .unset, .unset] [(.ref vf_)]) _
        refine stp (fun _ => XS.astore X83.here hx rfl (hb hby at_169) rfl rfl (l' := #[.val (.int p0), .val (.int p1), .val (.int p2), .val (.int p3), .val (.int p4), .val (.int p5), .val (.int (66 : Int32)), .val (.int ip), .val (.int jp), .val (.int s1), .val (.int s2), .val (.ref b1), .val (.ref r_), .val (.int xv), .val (.int yv), .val (.int (2 : Int32)), .val (.int (3 : Int32)), .val (.ref vf_), .unset]) rfl) ?_
        show Go p e below T83 (mkF m 171 #[.val (.int p0), .val (.int p1), .val (.int p2), .val (.int p3), .val (.int p4), .val (.int p5), .val (.int (66 : Int32)), .val (.int ip), .val (.int jp), .val (.int s1), .val (.int s2), .val (.ref b1), .val (.ref r_), .val (.int xv), .val (.int yv), .val (.int (2 : Int32)), .val (.int (3 : Int32)), .val (.ref vf_), .unset] []) _
        refine stp (fun _ => XS.iload X83.here hx rfl (hb hby at_171) rfl) ?_
        show Go p e below T83 (mkF m 173 #[.val (.int p0), .val (.int p1), .val (.int p2), .val (.int p3), .val (.int p4), .val (.int p5), .val (.int (66 : Int32)), .val (.int ip), .val (.int jp), .val (.int s1), .val (.int s2), .val (.ref b1), .val (.ref r_), .val (.int xv), .val (.int yv), .val (.int (2 : Int32)), .val (.int (3 : Int32)), .val (.ref vf_), .unset] [(.int (2 : Int32))]) _
        refine stp (fun _ => XS.iconst X83.here hx rfl (hb hby at_173)) ?_
        show Go p e below T83 (mkF m 174 #[.val (.int p0), .val (.int p1), .val (.int p2), .val (.int p3), .val (.int p4), .val (.int p5), .val (.int (66 : Int32)), .val (.int ip), .val (.int jp), .val (.int s1), .val (.int s2), .val (.ref b1), .val (.ref r_), .val (.int xv), .val (.int yv), .val (.int (2 : Int32)), .val (.int (3 : Int32)), .val (.ref vf_), .unset] [(.int (3 : Int32)), (.int (2 : Int32))]) _
        refine stp (fun _ => XS.icmpYes X83.here hx rfl (pc0 := 174) (pc' := 188) rfl (hb hby at_174) rfl (by decide) (by decide) (by decide)) ?_
        show Go p e below T83 (mkF m 188 #[.val (.int p0), .val (.int p1), .val (.int p2), .val (.int p3), .val (.int p4), .val (.int p5), .val (.int (66 : Int32)), .val (.int ip), .val (.int jp), .val (.int s1), .val (.int s2), .val (.ref b1), .val (.ref r_), .val (.int xv), .val (.int yv), .val (.int (2 : Int32)), .val (.int (3 : Int32)), .val (.ref vf_), .unset] []) _
        refine stp (fun _ => XS.aload X83.here hx rfl (hb hby at_188) rfl rfl) ?_
        show Go p e below T83 (mkF m 190 #[.val (.int p0), .val (.int p1), .val (.int p2), .val (.int p3), .val (.int p4), .val (.int p5), .val (.int (66 : Int32)), .val (.int ip), .val (.int jp), .val (.int s1), .val (.int s2), .val (.ref b1), .val (.ref r_), .val (.int xv), .val (.int yv), .val (.int (2 : Int32)), .val (.int (3 : Int32)), .val (.ref vf_), .unset] [(.ref vf_)]) _
        refine stp (fun _ => XS.ifnullNo X83.here hx rfl (hb hby at_190) rfl) ?_
        show Go p e below T83 (mkF m 193 #[.val (.int p0), .val (.int p1), .val (.int p2), .val (.int p3), .val (.int p4), .val (.int p5), .val (.int (66 : Int32)), .val (.int ip), .val (.int jp), .val (.int s1), .val (.int s2), .val (.ref b1), .val (.ref r_), .val (.int xv), .val (.int yv), .val (.int (2 : Int32)), .val (.int (3 : Int32)), .val (.ref vf_), .unset] []) _
        refine stp (fun _ => XS.aload X83.here hx rfl (hb hby at_193) rfl rfl) ?_
        show Go p e below T83 (mkF m 195 #[.val (.int p0), .val (.int p1), .val (.int p2), .val (.int p3), .val (.int p4), .val (.int p5), .val (.int (66 : Int32)), .val (.int ip), .val (.int jp), .val (.int s1), .val (.int s2), .val (.ref b1), .val (.ref r_), .val (.int xv), .val (.int yv), .val (.int (2 : Int32)), .val (.int (3 : Int32)), .val (.ref vf_), .unset] [(.ref vf_)]) _
        obtain ⟨cl84, Ar84, -, S84, -, -⟩ := (id f46)
        refine stp (fun _ => X83.arraylength hx (by rw [e83]; exact Ar84.1) (State.isArrayOf_alike hZ.alike Ar84.2.1) (g := (mkF m 195 #[.val (.int p0), .val (.int p1), .val (.int p2), .val (.int p3), .val (.int p4), .val (.int p5), .val (.int (66 : Int32)), .val (.int ip), .val (.int jp), .val (.int s1), .val (.int s2), .val (.ref b1), .val (.ref r_), .val (.int xv), .val (.int yv), .val (.int (2 : Int32)), .val (.int (3 : Int32)), .val (.ref vf_), .unset] [(.ref vf_)])) rfl rfl (hb hby at_195) _) ?_
        rw [arf_len S84 (z := (2 : Int32)) (by decide)]
        show Go p e below T83 (mkF m 196 #[.val (.int p0), .val (.int p1), .val (.int p2), .val (.int p3), .val (.int p4), .val (.int p5), .val (.int (66 : Int32)), .val (.int ip), .val (.int jp), .val (.int s1), .val (.int s2), .val (.ref b1), .val (.ref r_), .val (.int xv), .val (.int yv), .val (.int (2 : Int32)), .val (.int (3 : Int32)), .val (.ref vf_), .unset] [(.int (2 : Int32))]) _
        refine stp (fun _ => XS.iload X83.here hx rfl (hb hby at_196) rfl) ?_
        show Go p e below T83 (mkF m 198 #[.val (.int p0), .val (.int p1), .val (.int p2), .val (.int p3), .val (.int p4), .val (.int p5), .val (.int (66 : Int32)), .val (.int ip), .val (.int jp), .val (.int s1), .val (.int s2), .val (.ref b1), .val (.ref r_), .val (.int xv), .val (.int yv), .val (.int (2 : Int32)), .val (.int (3 : Int32)), .val (.ref vf_), .unset] [(.int yv), (.int (2 : Int32))]) _
        refine stp (fun _ => XS.bipush X83.here hx rfl (hb hby at_198)) ?_
        show Go p e below T83 (mkF m 200 #[.val (.int p0), .val (.int p1), .val (.int p2), .val (.int p3), .val (.int p4), .val (.int p5), .val (.int (66 : Int32)), .val (.int ip), .val (.int jp), .val (.int s1), .val (.int s2), .val (.ref b1), .val (.ref r_), .val (.int xv), .val (.int yv), .val (.int (2 : Int32)), .val (.int (3 : Int32)), .val (.ref vf_), .unset] [(.int (6 : Int32)), (.int yv), (.int (2 : Int32))]) _
        refine stp (fun _ => XS.iushr X83.here hx rfl (hb hby at_200) rfl) ?_
        show Go p e below T83 (mkF m 201 #[.val (.int p0), .val (.int p1), .val (.int p2), .val (.int p3), .val (.int p4), .val (.int p5), .val (.int (66 : Int32)), .val (.int ip), .val (.int jp), .val (.int s1), .val (.int s2), .val (.ref b1), .val (.ref r_), .val (.int xv), .val (.int yv), .val (.int (2 : Int32)), .val (.int (3 : Int32)), .val (.ref vf_), .unset] [(.int ((yv.toUInt32 >>> ((6 : Int32) &&& 31).toUInt32).toInt32)), (.int (2 : Int32))]) _
        refine stp (fun _ => XS.icmpYes X83.here hx rfl (pc0 := 201) (pc' := 206) rfl (hb hby at_201) rfl (XT.ii_gt_t (own_lt2 hyn hyl)) (by decide) (by decide)) ?_
        show Go p e below T83 (mkF m 206 #[.val (.int p0), .val (.int p1), .val (.int p2), .val (.int p3), .val (.int p4), .val (.int p5), .val (.int (66 : Int32)), .val (.int ip), .val (.int jp), .val (.int s1), .val (.int s2), .val (.ref b1), .val (.ref r_), .val (.int xv), .val (.int yv), .val (.int (2 : Int32)), .val (.int (3 : Int32)), .val (.ref vf_), .unset] []) _
        refine stp (fun _ => XS.aload X83.here hx rfl (hb hby at_206) rfl rfl) ?_
        show Go p e below T83 (mkF m 208 #[.val (.int p0), .val (.int p1), .val (.int p2), .val (.int p3), .val (.int p4), .val (.int p5), .val (.int (66 : Int32)), .val (.int ip), .val (.int jp), .val (.int s1), .val (.int s2), .val (.ref b1), .val (.ref r_), .val (.int xv), .val (.int yv), .val (.int (2 : Int32)), .val (.int (3 : Int32)), .val (.ref vf_), .unset] [(.ref vf_)]) _
        obtain ⟨cl85, Ar85, -, S85, -, -⟩ := (id f46)
        refine stp (fun _ => X83.arraylength hx (by rw [e83]; exact Ar85.1) (State.isArrayOf_alike hZ.alike Ar85.2.1) (g := (mkF m 208 #[.val (.int p0), .val (.int p1), .val (.int p2), .val (.int p3), .val (.int p4), .val (.int p5), .val (.int (66 : Int32)), .val (.int ip), .val (.int jp), .val (.int s1), .val (.int s2), .val (.ref b1), .val (.ref r_), .val (.int xv), .val (.int yv), .val (.int (2 : Int32)), .val (.int (3 : Int32)), .val (.ref vf_), .unset] [(.ref vf_)])) rfl rfl (hb hby at_208) _) ?_
        rw [arf_len S85 (z := (2 : Int32)) (by decide)]
        show Go p e below T83 (mkF m 209 #[.val (.int p0), .val (.int p1), .val (.int p2), .val (.int p3), .val (.int p4), .val (.int p5), .val (.int (66 : Int32)), .val (.int ip), .val (.int jp), .val (.int s1), .val (.int s2), .val (.ref b1), .val (.ref r_), .val (.int xv), .val (.int yv), .val (.int (2 : Int32)), .val (.int (3 : Int32)), .val (.ref vf_), .unset] [(.int (2 : Int32))]) _
        refine stp (fun _ => XS.iconst X83.here hx rfl (hb hby at_209)) ?_
        show Go p e below T83 (mkF m 210 #[.val (.int p0), .val (.int p1), .val (.int p2), .val (.int p3), .val (.int p4), .val (.int p5), .val (.int (66 : Int32)), .val (.int ip), .val (.int jp), .val (.int s1), .val (.int s2), .val (.ref b1), .val (.ref r_), .val (.int xv), .val (.int yv), .val (.int (2 : Int32)), .val (.int (3 : Int32)), .val (.ref vf_), .unset] [(.int (1 : Int32)), (.int (2 : Int32))]) _
        refine stp (fun _ => XS.icmpNo X83.here hx rfl (hb hby at_210) rfl (by decide)) ?_
        show Go p e below T83 (mkF m 213 #[.val (.int p0), .val (.int p1), .val (.int p2), .val (.int p3), .val (.int p4), .val (.int p5), .val (.int (66 : Int32)), .val (.int ip), .val (.int jp), .val (.int s1), .val (.int s2), .val (.ref b1), .val (.ref r_), .val (.int xv), .val (.int yv), .val (.int (2 : Int32)), .val (.int (3 : Int32)), .val (.ref vf_), .unset] []) _
        refine stp (fun _ => XS.aload X83.here hx rfl (hb hby at_213) rfl rfl) ?_
        show Go p e below T83 (mkF m 215 #[.val (.int p0), .val (.int p1), .val (.int p2), .val (.int p3), .val (.int p4), .val (.int p5), .val (.int (66 : Int32)), .val (.int ip), .val (.int jp), .val (.int s1), .val (.int s2), .val (.ref b1), .val (.ref r_), .val (.int xv), .val (.int yv), .val (.int (2 : Int32)), .val (.int (3 : Int32)), .val (.ref vf_), .unset] [(.ref vf_)]) _
        refine stp (fun _ => XS.iconst X83.here hx rfl (hb hby at_215)) ?_
        show Go p e below T83 (mkF m 216 #[.val (.int p0), .val (.int p1), .val (.int p2), .val (.int p3), .val (.int p4), .val (.int p5), .val (.int (66 : Int32)), .val (.int ip), .val (.int jp), .val (.int s1), .val (.int s2), .val (.ref b1), .val (.ref r_), .val (.int xv), .val (.int yv), .val (.int (2 : Int32)), .val (.int (3 : Int32)), .val (.ref vf_), .unset] [(.int (1 : Int32)), (.ref vf_)]) _
        obtain ⟨cl86, Ar86, q86, S86, H86, G86⟩ := (id f46)
        have in86 : ¬ ((1 : Int32) < 0 ∨ cl86.slots.size ≤ ((1 : Int32)).toNatClampNeg) := arf_in S86 (show (1 : Int32).toInt = ((1 : Nat) : Int) by decide) (by decide)
        have at86 : cl86.slots[((1 : Int32)).toNatClampNeg]? = some (.long (own_bits 1 (own_sd ipn s1 jpn s2) 66 1)) := arf_at H86 (show (1 : Int32).toInt = ((1 : Nat) : Int) by decide) (by decide)
        refine stp (fun _ => X83.laload hx (j := (1 : Int32)) (v := (.long (own_bits 1 (own_sd ipn s1 jpn s2) 66 1))) (by rw [e83]; exact Ar86.1) (State.isArrayOf_alike hZ.alike Ar86.2.1) Ar86.2.2 in86 at86 (g := (mkF m 216 #[.val (.int p0), .val (.int p1), .val (.int p2), .val (.int p3), .val (.int p4), .val (.int p5), .val (.int (66 : Int32)), .val (.int ip), .val (.int jp), .val (.int s1), .val (.int s2), .val (.ref b1), .val (.ref r_), .val (.int xv), .val (.int yv), .val (.int (2 : Int32)), .val (.int (3 : Int32)), .val (.ref vf_), .unset] [(.int (1 : Int32)), (.ref vf_)])) rfl rfl (hb hby at_216) _) ?_
        show Go p e below T83 (mkF m 217 #[.val (.int p0), .val (.int p1), .val (.int p2), .val (.int p3), .val (.int p4), .val (.int p5), .val (.int (66 : Int32)), .val (.int ip), .val (.int jp), .val (.int s1), .val (.int s2), .val (.ref b1), .val (.ref r_), .val (.int xv), .val (.int yv), .val (.int (2 : Int32)), .val (.int (3 : Int32)), .val (.ref vf_), .unset] [(.long (own_bits 1 (own_sd ipn s1 jpn s2) 66 1))]) _
        refine stp (fun _ => XS.iconst X83.here hx rfl (hb hby at_217)) ?_
        show Go p e below T83 (mkF m 218 #[.val (.int p0), .val (.int p1), .val (.int p2), .val (.int p3), .val (.int p4), .val (.int p5), .val (.int (66 : Int32)), .val (.int ip), .val (.int jp), .val (.int s1), .val (.int s2), .val (.ref b1), .val (.ref r_), .val (.int xv), .val (.int yv), .val (.int (2 : Int32)), .val (.int (3 : Int32)), .val (.ref vf_), .unset] [(.int (2 : Int32)), (.long (own_bits 1 (own_sd ipn s1 jpn s2) 66 1))]) _
        refine stp (fun _ => XS.lushr X83.here hx rfl (hb hby at_218) rfl) ?_
        show Go p e below T83 (mkF m 219 #[.val (.int p0), .val (.int p1), .val (.int p2), .val (.int p3), .val (.int p4), .val (.int p5), .val (.int (66 : Int32)), .val (.int ip), .val (.int jp), .val (.int s1), .val (.int s2), .val (.ref b1), .val (.ref r_), .val (.int xv), .val (.int yv), .val (.int (2 : Int32)), .val (.int (3 : Int32)), .val (.ref vf_), .unset] [(.long (((own_bits 1 (own_sd ipn s1 jpn s2) 66 1).toUInt64 >>> ((2 : Int32) &&& 0x3f).toInt64.toUInt64).toInt64))]) _
        refine stp (fun _ => XS.lconst X83.here hx rfl (hb hby at_219)) ?_
        show Go p e below T83 (mkF m 220 #[.val (.int p0), .val (.int p1), .val (.int p2), .val (.int p3), .val (.int p4), .val (.int p5), .val (.int (66 : Int32)), .val (.int ip), .val (.int jp), .val (.int s1), .val (.int s2), .val (.ref b1), .val (.ref r_), .val (.int xv), .val (.int yv), .val (.int (2 : Int32)), .val (.int (3 : Int32)), .val (.ref vf_), .unset] [(.long (0 : Int64)), (.long (((own_bits 1 (own_sd ipn s1 jpn s2) 66 1).toUInt64 >>> ((2 : Int32) &&& 0x3f).toInt64.toUInt64).toInt64))]) _
        refine stp (fun _ => XS.lcmp X83.here hx rfl (hb hby at_220) rfl) ?_
        show Go p e below T83 (mkF m 221 #[.val (.int p0), .val (.int p1), .val (.int p2), .val (.int p3), .val (.int p4), .val (.int p5), .val (.int (66 : Int32)), .val (.int ip), .val (.int jp), .val (.int s1), .val (.int s2), .val (.ref b1), .val (.ref r_), .val (.int xv), .val (.int yv), .val (.int (2 : Int32)), .val (.int (3 : Int32)), .val (.ref vf_), .unset] [(.int (lcmpW (((own_bits 1 (own_sd ipn s1 jpn s2) 66 1).toUInt64 >>> ((2 : Int32) &&& 0x3f).toInt64.toUInt64).toInt64) (0 : Int64)))]) _
        refine stp (fun _ => XS.ifYes X83.here hx rfl (pc0 := 221) (pc' := 226) rfl (hb hby at_221) rfl (XT.ll_eq_t (own_top _ _)) (by decide) (by decide)) ?_
        show Go p e below T83 (mkF m 226 #[.val (.int p0), .val (.int p1), .val (.int p2), .val (.int p3), .val (.int p4), .val (.int p5), .val (.int (66 : Int32)), .val (.int ip), .val (.int jp), .val (.int s1), .val (.int s2), .val (.ref b1), .val (.ref r_), .val (.int xv), .val (.int yv), .val (.int (2 : Int32)), .val (.int (3 : Int32)), .val (.ref vf_), .unset] []) _
        refine stp (fun _ => XS.aload X83.here hx rfl (hb hby at_226) rfl rfl) ?_
        show Go p e below T83 (mkF m 228 #[.val (.int p0), .val (.int p1), .val (.int p2), .val (.int p3), .val (.int p4), .val (.int p5), .val (.int (66 : Int32)), .val (.int ip), .val (.int jp), .val (.int s1), .val (.int s2), .val (.ref b1), .val (.ref r_), .val (.int xv), .val (.int yv), .val (.int (2 : Int32)), .val (.int (3 : Int32)), .val (.ref vf_), .unset] [(.ref vf_)]) _
        refine stp (fun _ => XS.iload X83.here hx rfl (hb hby at_228) rfl) ?_
        show Go p e below T83 (mkF m 230 #[.val (.int p0), .val (.int p1), .val (.int p2), .val (.int p3), .val (.int p4), .val (.int p5), .val (.int (66 : Int32)), .val (.int ip), .val (.int jp), .val (.int s1), .val (.int s2), .val (.ref b1), .val (.ref r_), .val (.int xv), .val (.int yv), .val (.int (2 : Int32)), .val (.int (3 : Int32)), .val (.ref vf_), .unset] [(.int yv), (.ref vf_)]) _
        refine stp (fun _ => XS.bipush X83.here hx rfl (hb hby at_230)) ?_
        show Go p e below T83 (mkF m 232 #[.val (.int p0), .val (.int p1), .val (.int p2), .val (.int p3), .val (.int p4), .val (.int p5), .val (.int (66 : Int32)), .val (.int ip), .val (.int jp), .val (.int s1), .val (.int s2), .val (.ref b1), .val (.ref r_), .val (.int xv), .val (.int yv), .val (.int (2 : Int32)), .val (.int (3 : Int32)), .val (.ref vf_), .unset] [(.int (6 : Int32)), (.int yv), (.ref vf_)]) _
        refine stp (fun _ => XS.iushr X83.here hx rfl (hb hby at_232) rfl) ?_
        show Go p e below T83 (mkF m 233 #[.val (.int p0), .val (.int p1), .val (.int p2), .val (.int p3), .val (.int p4), .val (.int p5), .val (.int (66 : Int32)), .val (.int ip), .val (.int jp), .val (.int s1), .val (.int s2), .val (.ref b1), .val (.ref r_), .val (.int xv), .val (.int yv), .val (.int (2 : Int32)), .val (.int (3 : Int32)), .val (.ref vf_), .unset] [(.int ((yv.toUInt32 >>> ((6 : Int32) &&& 31).toUInt32).toInt32)), (.ref vf_)]) _
        obtain ⟨cl87, Ar87, q87, S87, H87, G87⟩ := (id f46)
        have in87 : ¬ (((yv.toUInt32 >>> ((6 : Int32) &&& 31).toUInt32).toInt32) < 0 ∨ cl87.slots.size ≤ (((yv.toUInt32 >>> ((6 : Int32) &&& 31).toUInt32).toInt32)).toNatClampNeg) := arf_in S87 (own_div hyn) (own_d2 hyl)
        have at87 : cl87.slots[(((yv.toUInt32 >>> ((6 : Int32) &&& 31).toUInt32).toInt32)).toNatClampNeg]? = some (.long (own_bits 1 (own_sd ipn s1 jpn s2) 66 (yn / 64))) := arf_at H87 (own_div hyn) (own_d2 hyl)
        refine stp (fun _ => X83.laload hx (j := ((yv.toUInt32 >>> ((6 : Int32) &&& 31).toUInt32).toInt32)) (v := (.long (own_bits 1 (own_sd ipn s1 jpn s2) 66 (yn / 64)))) (by rw [e83]; exact Ar87.1) (State.isArrayOf_alike hZ.alike Ar87.2.1) Ar87.2.2 in87 at87 (g := (mkF m 233 #[.val (.int p0), .val (.int p1), .val (.int p2), .val (.int p3), .val (.int p4), .val (.int p5), .val (.int (66 : Int32)), .val (.int ip), .val (.int jp), .val (.int s1), .val (.int s2), .val (.ref b1), .val (.ref r_), .val (.int xv), .val (.int yv), .val (.int (2 : Int32)), .val (.int (3 : Int32)), .val (.ref vf_), .unset] [(.int ((yv.toUInt32 >>> ((6 : Int32) &&& 31).toUInt32).toInt32)), (.ref vf_)])) rfl rfl (hb hby at_233) _) ?_
        show Go p e below T83 (mkF m 234 #[.val (.int p0), .val (.int p1), .val (.int p2), .val (.int p3), .val (.int p4), .val (.int p5), .val (.int (66 : Int32)), .val (.int ip), .val (.int jp), .val (.int s1), .val (.int s2), .val (.ref b1), .val (.ref r_), .val (.int xv), .val (.int yv), .val (.int (2 : Int32)), .val (.int (3 : Int32)), .val (.ref vf_), .unset] [(.long (own_bits 1 (own_sd ipn s1 jpn s2) 66 (yn / 64)))]) _
        refine stp (fun _ => XS.iload X83.here hx rfl (hb hby at_234) rfl) ?_
        show Go p e below T83 (mkF m 236 #[.val (.int p0), .val (.int p1), .val (.int p2), .val (.int p3), .val (.int p4), .val (.int p5), .val (.int (66 : Int32)), .val (.int ip), .val (.int jp), .val (.int s1), .val (.int s2), .val (.ref b1), .val (.ref r_), .val (.int xv), .val (.int yv), .val (.int (2 : Int32)), .val (.int (3 : Int32)), .val (.ref vf_), .unset] [(.int yv), (.long (own_bits 1 (own_sd ipn s1 jpn s2) 66 (yn / 64)))]) _
        refine stp (fun _ => XS.bipush X83.here hx rfl (hb hby at_236)) ?_
        show Go p e below T83 (mkF m 238 #[.val (.int p0), .val (.int p1), .val (.int p2), .val (.int p3), .val (.int p4), .val (.int p5), .val (.int (66 : Int32)), .val (.int ip), .val (.int jp), .val (.int s1), .val (.int s2), .val (.ref b1), .val (.ref r_), .val (.int xv), .val (.int yv), .val (.int (2 : Int32)), .val (.int (3 : Int32)), .val (.ref vf_), .unset] [(.int (63 : Int32)), (.int yv), (.long (own_bits 1 (own_sd ipn s1 jpn s2) 66 (yn / 64)))]) _
        refine stp (fun _ => XS.iand X83.here hx rfl (hb hby at_238) rfl) ?_
        show Go p e below T83 (mkF m 239 #[.val (.int p0), .val (.int p1), .val (.int p2), .val (.int p3), .val (.int p4), .val (.int p5), .val (.int (66 : Int32)), .val (.int ip), .val (.int jp), .val (.int s1), .val (.int s2), .val (.ref b1), .val (.ref r_), .val (.int xv), .val (.int yv), .val (.int (2 : Int32)), .val (.int (3 : Int32)), .val (.ref vf_), .unset] [(.int (yv &&& (63 : Int32))), (.long (own_bits 1 (own_sd ipn s1 jpn s2) 66 (yn / 64)))]) _
        refine stp (fun _ => XS.lushr X83.here hx rfl (hb hby at_239) rfl) ?_
        show Go p e below T83 (mkF m 240 #[.val (.int p0), .val (.int p1), .val (.int p2), .val (.int p3), .val (.int p4), .val (.int p5), .val (.int (66 : Int32)), .val (.int ip), .val (.int jp), .val (.int s1), .val (.int s2), .val (.ref b1), .val (.ref r_), .val (.int xv), .val (.int yv), .val (.int (2 : Int32)), .val (.int (3 : Int32)), .val (.ref vf_), .unset] [(.long (((own_bits 1 (own_sd ipn s1 jpn s2) 66 (yn / 64)).toUInt64 >>> ((yv &&& (63 : Int32)) &&& 0x3f).toInt64.toUInt64).toInt64))]) _
        refine stp (fun _ => XS.lconst X83.here hx rfl (hb hby at_240)) ?_
        show Go p e below T83 (mkF m 241 #[.val (.int p0), .val (.int p1), .val (.int p2), .val (.int p3), .val (.int p4), .val (.int p5), .val (.int (66 : Int32)), .val (.int ip), .val (.int jp), .val (.int s1), .val (.int s2), .val (.ref b1), .val (.ref r_), .val (.int xv), .val (.int yv), .val (.int (2 : Int32)), .val (.int (3 : Int32)), .val (.ref vf_), .unset] [(.long (1 : Int64)), (.long (((own_bits 1 (own_sd ipn s1 jpn s2) 66 (yn / 64)).toUInt64 >>> ((yv &&& (63 : Int32)) &&& 0x3f).toInt64.toUInt64).toInt64))]) _
        refine stp (fun _ => XS.land X83.here hx rfl (hb hby at_241) rfl) ?_
        show Go p e below T83 (mkF m 242 #[.val (.int p0), .val (.int p1), .val (.int p2), .val (.int p3), .val (.int p4), .val (.int p5), .val (.int (66 : Int32)), .val (.int ip), .val (.int jp), .val (.int s1), .val (.int s2), .val (.ref b1), .val (.ref r_), .val (.int xv), .val (.int yv), .val (.int (2 : Int32)), .val (.int (3 : Int32)), .val (.ref vf_), .unset] [(.long ((((own_bits 1 (own_sd ipn s1 jpn s2) 66 (yn / 64)).toUInt64 >>> ((yv &&& (63 : Int32)) &&& 0x3f).toInt64.toUInt64).toInt64) &&& (1 : Int64)))]) _
        refine stp (fun _ => XS.lconst X83.here hx rfl (hb hby at_242)) ?_
        show Go p e below T83 (mkF m 243 #[.val (.int p0), .val (.int p1), .val (.int p2), .val (.int p3), .val (.int p4), .val (.int p5), .val (.int (66 : Int32)), .val (.int ip), .val (.int jp), .val (.int s1), .val (.int s2), .val (.ref b1), .val (.ref r_), .val (.int xv), .val (.int yv), .val (.int (2 : Int32)), .val (.int (3 : Int32)), .val (.ref vf_), .unset] [(.long (0 : Int64)), (.long ((((own_bits 1 (own_sd ipn s1 jpn s2) 66 (yn / 64)).toUInt64 >>> ((yv &&& (63 : Int32)) &&& 0x3f).toInt64.toUInt64).toInt64) &&& (1 : Int64)))]) _
        refine stp (fun _ => XS.lcmp X83.here hx rfl (hb hby at_243) rfl) ?_
        show Go p e below T83 (mkF m 244 #[.val (.int p0), .val (.int p1), .val (.int p2), .val (.int p3), .val (.int p4), .val (.int p5), .val (.int (66 : Int32)), .val (.int ip), .val (.int jp), .val (.int s1), .val (.int s2), .val (.ref b1), .val (.ref r_), .val (.int xv), .val (.int yv), .val (.int (2 : Int32)), .val (.int (3 : Int32)), .val (.ref vf_), .unset] [(.int (lcmpW ((((own_bits 1 (own_sd ipn s1 jpn s2) 66 (yn / 64)).toUInt64 >>> ((yv &&& (63 : Int32)) &&& 0x3f).toInt64.toUInt64).toInt64) &&& (1 : Int64)) (0 : Int64)))]) _
        refine stp (fun _ => XS.ifNo X83.here hx rfl (hb hby at_244) rfl (XT.ll_eq_f (own_bit1 hyn hyl (by rw [← hsy]; decide)))) ?_
        show Go p e below T83 (mkF m 247 #[.val (.int p0), .val (.int p1), .val (.int p2), .val (.int p3), .val (.int p4), .val (.int p5), .val (.int (66 : Int32)), .val (.int ip), .val (.int jp), .val (.int s1), .val (.int s2), .val (.ref b1), .val (.ref r_), .val (.int xv), .val (.int yv), .val (.int (2 : Int32)), .val (.int (3 : Int32)), .val (.ref vf_), .unset] []) _
        refine stp (fun _ => XS.iconst X83.here hx rfl (hb hby at_247)) ?_
        show Go p e below T83 (mkF m 248 #[.val (.int p0), .val (.int p1), .val (.int p2), .val (.int p3), .val (.int p4), .val (.int p5), .val (.int (66 : Int32)), .val (.int ip), .val (.int jp), .val (.int s1), .val (.int s2), .val (.ref b1), .val (.ref r_), .val (.int xv), .val (.int yv), .val (.int (2 : Int32)), .val (.int (3 : Int32)), .val (.ref vf_), .unset] [(.int (1 : Int32))]) _
        refine stp (fun _ => XS.goto X83.here hx rfl (pc0 := 248) (pc' := 252) rfl (hb hby at_248) (by decide) (by decide)) ?_
        show Go p e below T83 (mkF m 252 #[.val (.int p0), .val (.int p1), .val (.int p2), .val (.int p3), .val (.int p4), .val (.int p5), .val (.int (66 : Int32)), .val (.int ip), .val (.int jp), .val (.int s1), .val (.int s2), .val (.ref b1), .val (.ref r_), .val (.int xv), .val (.int yv), .val (.int (2 : Int32)), .val (.int (3 : Int32)), .val (.ref vf_), .unset] [(.int (1 : Int32))]) _
        refine stp (fun _ => XS.istore X83.here hx rfl (hb hby at_252) rfl (l' := #[.val (.int p0), .val (.int p1), .val (.int p2), .val (.int p3), .val (.int p4), .val (.int p5), .val (.int (66 : Int32)), .val (.int ip), .val (.int jp), .val (.int s1), .val (.int s2), .val (.ref b1), .val (.ref r_), .val (.int xv), .val (.int yv), .val (.int (2 : Int32)), .val (.int (3 : Int32)), .val (.ref vf_), .val (.int (1 : Int32))]) rfl) ?_
        show Go p e below T83 (mkF m 254 #[.val (.int p0), .val (.int p1), .val (.int p2), .val (.int p3), .val (.int p4), .val (.int p5), .val (.int (66 : Int32)), .val (.int ip), .val (.int jp), .val (.int s1), .val (.int s2), .val (.ref b1), .val (.ref r_), .val (.int xv), .val (.int yv), .val (.int (2 : Int32)), .val (.int (3 : Int32)), .val (.ref vf_), .val (.int (1 : Int32))] []) _
        refine stp (fun _ => XS.iload X83.here hx rfl (hb hby at_254) rfl) ?_
        show Go p e below T83 (mkF m 256 #[.val (.int p0), .val (.int p1), .val (.int p2), .val (.int p3), .val (.int p4), .val (.int p5), .val (.int (66 : Int32)), .val (.int ip), .val (.int jp), .val (.int s1), .val (.int s2), .val (.ref b1), .val (.ref r_), .val (.int xv), .val (.int yv), .val (.int (2 : Int32)), .val (.int (3 : Int32)), .val (.ref vf_), .val (.int (1 : Int32))] [(.int (1 : Int32))]) _
        refine stp (fun _ => XS.iload X83.here hx rfl (hb hby at_256) rfl) ?_
        show Go p e below T83 (mkF m 258 #[.val (.int p0), .val (.int p1), .val (.int p2), .val (.int p3), .val (.int p4), .val (.int p5), .val (.int (66 : Int32)), .val (.int ip), .val (.int jp), .val (.int s1), .val (.int s2), .val (.ref b1), .val (.ref r_), .val (.int xv), .val (.int yv), .val (.int (2 : Int32)), .val (.int (3 : Int32)), .val (.ref vf_), .val (.int (1 : Int32))] [(.int (3 : Int32)), (.int (1 : Int32))]) _
        refine stp (fun _ => XS.iconst X83.here hx rfl (hb hby at_258)) ?_
        show Go p e below T83 (mkF m 259 #[.val (.int p0), .val (.int p1), .val (.int p2), .val (.int p3), .val (.int p4), .val (.int p5), .val (.int (66 : Int32)), .val (.int ip), .val (.int jp), .val (.int s1), .val (.int s2), .val (.ref b1), .val (.ref r_), .val (.int xv), .val (.int yv), .val (.int (2 : Int32)), .val (.int (3 : Int32)), .val (.ref vf_), .val (.int (1 : Int32))] [(.int (3 : Int32)), (.int (3 : Int32)), (.int (1 : Int32))]) _
        refine stp (fun _ => XS.iload X83.here hx rfl (hb hby at_259) rfl) ?_
        show Go p e below T83 (mkF m 261 #[.val (.int p0), .val (.int p1), .val (.int p2), .val (.int p3), .val (.int p4), .val (.int p5), .val (.int (66 : Int32)), .val (.int ip), .val (.int jp), .val (.int s1), .val (.int s2), .val (.ref b1), .val (.ref r_), .val (.int xv), .val (.int yv), .val (.int (2 : Int32)), .val (.int (3 : Int32)), .val (.ref vf_), .val (.int (1 : Int32))] [(.int (2 : Int32)), (.int (3 : Int32)), (.int (3 : Int32)), (.int (1 : Int32))]) _
        refine stp (fun _ => XS.isub X83.here hx rfl (hb hby at_261) rfl) ?_
        show Go p e below T83 (mkF m 262 #[.val (.int p0), .val (.int p1), .val (.int p2), .val (.int p3), .val (.int p4), .val (.int p5), .val (.int (66 : Int32)), .val (.int ip), .val (.int jp), .val (.int s1), .val (.int s2), .val (.ref b1), .val (.ref r_), .val (.int xv), .val (.int yv), .val (.int (2 : Int32)), .val (.int (3 : Int32)), .val (.ref vf_), .val (.int (1 : Int32))] [(.int (1 : Int32)), (.int (3 : Int32)), (.int (1 : Int32))]) _
        refine stp (fun _ => XS.iand X83.here hx rfl (hb hby at_262) rfl) ?_
        show Go p e below T83 (mkF m 263 #[.val (.int p0), .val (.int p1), .val (.int p2), .val (.int p3), .val (.int p4), .val (.int p5), .val (.int (66 : Int32)), .val (.int ip), .val (.int jp), .val (.int s1), .val (.int s2), .val (.ref b1), .val (.ref r_), .val (.int xv), .val (.int yv), .val (.int (2 : Int32)), .val (.int (3 : Int32)), .val (.ref vf_), .val (.int (1 : Int32))] [(.int (1 : Int32)), (.int (1 : Int32))]) _
        refine stp (fun _ => XS.ifNo X83.here hx rfl (hb hby at_263) rfl (by decide)) ?_
        show Go p e below T83 (mkF m 266 #[.val (.int p0), .val (.int p1), .val (.int p2), .val (.int p3), .val (.int p4), .val (.int p5), .val (.int (66 : Int32)), .val (.int ip), .val (.int jp), .val (.int s1), .val (.int s2), .val (.ref b1), .val (.ref r_), .val (.int xv), .val (.int yv), .val (.int (2 : Int32)), .val (.int (3 : Int32)), .val (.ref vf_), .val (.int (1 : Int32))] [(.int (1 : Int32))]) _
        refine stp (fun _ => XS.iconst X83.here hx rfl (hb hby at_266)) ?_
        show Go p e below T83 (mkF m 267 #[.val (.int p0), .val (.int p1), .val (.int p2), .val (.int p3), .val (.int p4), .val (.int p5), .val (.int (66 : Int32)), .val (.int ip), .val (.int jp), .val (.int s1), .val (.int s2), .val (.ref b1), .val (.ref r_), .val (.int xv), .val (.int yv), .val (.int (2 : Int32)), .val (.int (3 : Int32)), .val (.ref vf_), .val (.int (1 : Int32))] [(.int (1 : Int32)), (.int (1 : Int32))]) _
        refine stp (fun _ => XS.goto X83.here hx rfl (pc0 := 267) (pc' := 271) rfl (hb hby at_267) (by decide) (by decide)) ?_
        show Go p e below T83 (mkF m 271 #[.val (.int p0), .val (.int p1), .val (.int p2), .val (.int p3), .val (.int p4), .val (.int p5), .val (.int (66 : Int32)), .val (.int ip), .val (.int jp), .val (.int s1), .val (.int s2), .val (.ref b1), .val (.ref r_), .val (.int xv), .val (.int yv), .val (.int (2 : Int32)), .val (.int (3 : Int32)), .val (.ref vf_), .val (.int (1 : Int32))] [(.int (1 : Int32)), (.int (1 : Int32))]) _
        refine stp (fun _ => XS.icmpNo X83.here hx rfl (hb hby at_271) rfl (by decide)) ?_
        show Go p e below T83 (mkF m 274 #[.val (.int p0), .val (.int p1), .val (.int p2), .val (.int p3), .val (.int p4), .val (.int p5), .val (.int (66 : Int32)), .val (.int ip), .val (.int jp), .val (.int s1), .val (.int s2), .val (.ref b1), .val (.ref r_), .val (.int xv), .val (.int yv), .val (.int (2 : Int32)), .val (.int (3 : Int32)), .val (.ref vf_), .val (.int (1 : Int32))] []) _
        refine stp (fun _ => XS.iconst X83.here hx rfl (hb hby at_274)) ?_
        show Go p e below T83 (mkF m 275 #[.val (.int p0), .val (.int p1), .val (.int p2), .val (.int p3), .val (.int p4), .val (.int p5), .val (.int (66 : Int32)), .val (.int ip), .val (.int jp), .val (.int s1), .val (.int s2), .val (.ref b1), .val (.ref r_), .val (.int xv), .val (.int yv), .val (.int (2 : Int32)), .val (.int (3 : Int32)), .val (.ref vf_), .val (.int (1 : Int32))] [(.int (1 : Int32))]) _
        refine stp (fun _ => XS.goto X83.here hx rfl (pc0 := 275) (pc' := 279) rfl (hb hby at_275) (by decide) (by decide)) ?_
        show Go p e below T83 (mkF m 279 #[.val (.int p0), .val (.int p1), .val (.int p2), .val (.int p3), .val (.int p4), .val (.int p5), .val (.int (66 : Int32)), .val (.int ip), .val (.int jp), .val (.int s1), .val (.int s2), .val (.ref b1), .val (.ref r_), .val (.int xv), .val (.int yv), .val (.int (2 : Int32)), .val (.int (3 : Int32)), .val (.ref vf_), .val (.int (1 : Int32))] [(.int (1 : Int32))]) _
        refine outN X83 hx (t := .boolean) hret (by simp) (hb hby at_279) hlk (by decide) (by decide) ?_
        exact ⟨rfl, N83⟩
    · rcases hy3 with rfl | rfl | rfl
      · show Go p e below T51 (mkF m 134 #[.val (.int p0), .val (.int p1), .val (.int p2), .val (.int p3), .val (.int p4), .val (.int p5), .val (.int (66 : Int32)), .val (.int ip), .val (.int jp), .val (.int s1), .val (.int s2), .val (.ref b1), .val (.ref r_), .val (.int xv), .val (.int yv), .val (.int (3 : Int32)), .val (.int (1 : Int32)), .unset, .unset] []) _
        refine stp (fun _ => XS.aload X51.here hx rfl (hb hby at_134) rfl rfl) ?_
        show Go p e below T51 (mkF m 136 #[.val (.int p0), .val (.int p1), .val (.int p2), .val (.int p3), .val (.int p4), .val (.int p5), .val (.int (66 : Int32)), .val (.int ip), .val (.int jp), .val (.int s1), .val (.int s2), .val (.ref b1), .val (.ref r_), .val (.int xv), .val (.int yv), .val (.int (3 : Int32)), .val (.int (1 : Int32)), .unset, .unset] [(.ref r_)]) _
        refine stp (fun _ => XS.iload X51.here hx rfl (hb hby at_136) rfl) ?_
        show Go p e below T51 (mkF m 138 #[.val (.int p0), .val (.int p1), .val (.int p2), .val (.int p3), .val (.int p4), .val (.int p5), .val (.int (66 : Int32)), .val (.int ip), .val (.int jp), .val (.int s1), .val (.int s2), .val (.ref b1), .val (.ref r_), .val (.int xv), .val (.int yv), .val (.int (3 : Int32)), .val (.int (1 : Int32)), .unset, .unset] [(.int xv), (.ref r_)]) _
        refine stp (fun _ => XS.iload X51.here hx rfl (hb hby at_138) rfl) ?_
        show Go p e below T51 (mkF m 140 #[.val (.int p0), .val (.int p1), .val (.int p2), .val (.int p3), .val (.int p4), .val (.int p5), .val (.int (66 : Int32)), .val (.int ip), .val (.int jp), .val (.int s1), .val (.int s2), .val (.ref b1), .val (.ref r_), .val (.int xv), .val (.int yv), .val (.int (3 : Int32)), .val (.int (1 : Int32)), .unset, .unset] [(.int yv), (.int xv), (.ref r_)]) _
        obtain ⟨cq88, kq88, q88a, q88b, q88c⟩ := isOf hZ e51 f41
        obtain ⟨_, _, ⟨T88, L88, k88, n88⟩, -, X88, ⟨Lc88, hQ88, l88, y88, z88⟩, st88⟩ := X51.virtualBack hx (y := (⟨"com/example/brisk_dedup/briskdedup/engine/Sides", "mayPair", "(II)Z"⟩ : MethodName)) (z := (⟨"com/example/brisk_dedup/briskdedup/engine/Sides", "mayPair", "(II)Z"⟩ : MethodName)) hown (mvT hZ (hw _ (List.mem_of_getElem? (i := 40) rfl))) (mvT hZ (hw _ (List.mem_of_getElem? (i := 41) rfl))) (notFace_of_selects (args := #[]) (mvT hZ (hw _ (List.mem_of_getElem? (i := 43) rfl)))) (mvT hZ (hw _ (List.mem_of_getElem? (i := 43) rfl))) (mvT hZ (hw _ (List.mem_of_getElem? (i := 42) rfl))) (by decide) (backOf (W := 0) (rm_mp1 l Z a0 hw [] r_ xv yv vb_ (own_sd ipn s1 jpn s2) xn yn (1 : Int32) kb_ h38 n0 O38 f42 f45 hxn hxl hyn hyl ⟨fun _ => rfl, fun h => absurd (by rw [← hsx, ← hsy]; decide) h⟩) hZ (hw _ (List.mem_of_getElem? (i := 44) rfl)) (hw _ (List.mem_of_getElem? (i := 8) rfl)) (by decide) (by decide)) q88a q88c (g := (mkF m 140 #[.val (.int p0), .val (.int p1), .val (.int p2), .val (.int p3), .val (.int p4), .val (.int p5), .val (.int (66 : Int32)), .val (.int ip), .val (.int jp), .val (.int s1), .val (.int s2), .val (.ref b1), .val (.ref r_), .val (.int xv), .val (.int yv), .val (.int (3 : Int32)), .val (.int (1 : Int32)), .unset, .unset] [(.int yv), (.int xv), (.ref r_)])) rfl (by rw [hml]; rfl) (Steps.refl _) (argsL := [(.int xv), (.int yv)]) (rest := []) (lenOf pd_5 rfl) rfl (by show 2 * 0 + _ ≤ _; exact Nat.le_of_eq rfl) (hb hby at_140) (fun _ _ => ⟨rfl, e51, (by decide : 5 + 0 ≤ _), (by decide : 139 + 0 ≤ _)⟩)
        dsimp only [Pt.U, Pt.locs, Pt.cells, Pt.slots] at X88 l88 y88 z88 st88 hQ88
        subst l88 y88 z88
        obtain ⟨rfl, N88q, e88⟩ := hQ88
        have N88 := Fr.app N51 N88q
        refine stt st88 ?_
        show Go p e below T88 (mkF m 143 #[.val (.int p0), .val (.int p1), .val (.int p2), .val (.int p3), .val (.int p4), .val (.int p5), .val (.int (66 : Int32)), .val (.int ip), .val (.int jp), .val (.int s1), .val (.int s2), .val (.ref b1), .val (.ref r_), .val (.int xv), .val (.int yv), .val (.int (3 : Int32)), .val (.int (1 : Int32)), .unset, .unset] [(.int (1 : Int32))]) _
        refine stp (fun _ => XS.iload X88.here hx rfl (hb hby at_143) rfl) ?_
        show Go p e below T88 (mkF m 145 #[.val (.int p0), .val (.int p1), .val (.int p2), .val (.int p3), .val (.int p4), .val (.int p5), .val (.int (66 : Int32)), .val (.int ip), .val (.int jp), .val (.int s1), .val (.int s2), .val (.ref b1), .val (.ref r_), .val (.int xv), .val (.int yv), .val (.int (3 : Int32)), .val (.int (1 : Int32)), .unset, .unset] [(.int (3 : Int32)), (.int (1 : Int32))]) _
        refine stp (fun _ => XS.iload X88.here hx rfl (hb hby at_145) rfl) ?_
        show Go p e below T88 (mkF m 147 #[.val (.int p0), .val (.int p1), .val (.int p2), .val (.int p3), .val (.int p4), .val (.int p5), .val (.int (66 : Int32)), .val (.int ip), .val (.int jp), .val (.int s1), .val (.int s2), .val (.ref b1), .val (.ref r_), .val (.int xv), .val (.int yv), .val (.int (3 : Int32)), .val (.int (1 : Int32)), .unset, .unset] [(.int (1 : Int32)), (.int (3 : Int32)), (.int (1 : Int32))]) _
        refine stp (fun _ => XS.ior X88.here hx rfl (hb hby at_147) rfl) ?_
        show Go p e below T88 (mkF m 148 #[.val (.int p0), .val (.int p1), .val (.int p2), .val (.int p3), .val (.int p4), .val (.int p5), .val (.int (66 : Int32)), .val (.int ip), .val (.int jp), .val (.int s1), .val (.int s2), .val (.ref b1), .val (.ref r_), .val (.int xv), .val (.int yv), .val (.int (3 : Int32)), .val (.int (1 : Int32)), .unset, .unset] [(.int (3 : Int32)), (.int (1 : Int32))]) _
        refine stp (fun _ => XS.iconst X88.here hx rfl (hb hby at_148)) ?_
        show Go p e below T88 (mkF m 149 #[.val (.int p0), .val (.int p1), .val (.int p2), .val (.int p3), .val (.int p4), .val (.int p5), .val (.int (66 : Int32)), .val (.int ip), .val (.int jp), .val (.int s1), .val (.int s2), .val (.ref b1), .val (.ref r_), .val (.int xv), .val (.int yv), .val (.int (3 : Int32)), .val (.int (1 : Int32)), .unset, .unset] [(.int (3 : Int32)), (.int (3 : Int32)), (.int (1 : Int32))]) _
        refine stp (fun _ => XS.icmpNo X88.here hx rfl (hb hby at_149) rfl (by decide)) ?_
        show Go p e below T88 (mkF m 152 #[.val (.int p0), .val (.int p1), .val (.int p2), .val (.int p3), .val (.int p4), .val (.int p5), .val (.int (66 : Int32)), .val (.int ip), .val (.int jp), .val (.int s1), .val (.int s2), .val (.ref b1), .val (.ref r_), .val (.int xv), .val (.int yv), .val (.int (3 : Int32)), .val (.int (1 : Int32)), .unset, .unset] [(.int (1 : Int32))]) _
        refine stp (fun _ => XS.iconst X88.here hx rfl (hb hby at_152)) ?_
        show Go p e below T88 (mkF m 153 #[.val (.int p0), .val (.int p1), .val (.int p2), .val (.int p3), .val (.int p4), .val (.int p5), .val (.int (66 : Int32)), .val (.int ip), .val (.int jp), .val (.int s1), .val (.int s2), .val (.ref b1), .val (.ref r_), .val (.int xv), .val (.int yv), .val (.int (3 : Int32)), .val (.int (1 : Int32)), .unset, .unset] [(.int (1 : Int32)), (.int (1 : Int32))]) _
        refine stp (fun _ => XS.goto X88.here hx rfl (pc0 := 153) (pc' := 157) rfl (hb hby at_153) (by decide) (by decide)) ?_
        show Go p e below T88 (mkF m 157 #[.val (.int p0), .val (.int p1), .val (.int p2), .val (.int p3), .val (.int p4), .val (.int p5), .val (.int (66 : Int32)), .val (.int ip), .val (.int jp), .val (.int s1), .val (.int s2), .val (.ref b1), .val (.ref r_), .val (.int xv), .val (.int yv), .val (.int (3 : Int32)), .val (.int (1 : Int32)), .unset, .unset] [(.int (1 : Int32)), (.int (1 : Int32))]) _
        refine stp (fun _ => XS.icmpYes X88.here hx rfl (pc0 := 157) (pc' := 162) rfl (hb hby at_157) rfl (by decide) (by decide) (by decide)) ?_
        show Go p e below T88 (mkF m 162 #[.val (.int p0), .val (.int p1), .val (.int p2), .val (.int p3), .val (.int p4), .val (.int p5), .val (.int (66 : Int32)), .val (.int ip), .val (.int jp), .val (.int s1), .val (.int s2), .val (.ref b1), .val (.ref r_), .val (.int xv), .val (.int yv), .val (.int (3 : Int32)), .val (.int (1 : Int32)), .unset, .unset] []) _
        refine stp (fun _ => XS.aload X88.here hx rfl (hb hby at_162) rfl rfl) ?_
        show Go p e below T88 (mkF m 164 #[.val (.int p0), .val (.int p1), .val (.int p2), .val (.int p3), .val (.int p4), .val (.int p5), .val (.int (66 : Int32)), .val (.int ip), .val (.int jp), .val (.int s1), .val (.int s2), .val (.ref b1), .val (.ref r_), .val (.int xv), .val (.int yv), .val (.int (3 : Int32)), .val (.int (1 : Int32)), .unset, .unset] [(.ref r_)]) _
        refine stp (fun _ => XS.iload X88.here hx rfl (hb hby at_164) rfl) ?_
        show Go p e below T88 (mkF m 166 #[.val (.int p0), .val (.int p1), .val (.int p2), .val (.int p3), .val (.int p4), .val (.int p5), .val (.int (66 : Int32)), .val (.int ip), .val (.int jp), .val (.int s1), .val (.int s2), .val (.ref b1), .val (.ref r_), .val (.int xv), .val (.int yv), .val (.int (3 : Int32)), .val (.int (1 : Int32)), .unset, .unset] [(.int xv), (.ref r_)]) _
        obtain ⟨cq89, kq89, q89a, q89b, q89c⟩ := isOf hZ e88 f41
        obtain ⟨_, _, ⟨T89, L89, k89, n89⟩, -, X89, ⟨Lc89, hQ89, l89, y89, z89⟩, st89⟩ := X88.virtualBack hx (y := (⟨"com/example/brisk_dedup/briskdedup/engine/Sides", "partners", "(I)[J"⟩ : MethodName)) (z := (⟨"com/example/brisk_dedup/briskdedup/engine/Sides", "partners", "(I)[J"⟩ : MethodName)) hown (mvT hZ (hw _ (List.mem_of_getElem? (i := 45) rfl))) (mvT hZ (hw _ (List.mem_of_getElem? (i := 46) rfl))) (notFace_of_selects (args := #[]) (mvT hZ (hw _ (List.mem_of_getElem? (i := 48) rfl)))) (mvT hZ (hw _ (List.mem_of_getElem? (i := 48) rfl))) (mvT hZ (hw _ (List.mem_of_getElem? (i := 47) rfl))) (by decide) (backOf (W := 0) (rm_pa9 l Z a0 hw [] r_ xv vb_ (own_sd ipn s1 jpn s2) xn  kb_ h38 n0 O38 f42 f45  hxn hxl hsx.symm) hZ (hw _ (List.mem_of_getElem? (i := 49) rfl)) (hw _ (List.mem_of_getElem? (i := 8) rfl)) (by decide) (by decide)) q89a q89c (g := (mkF m 166 #[.val (.int p0), .val (.int p1), .val (.int p2), .val (.int p3), .val (.int p4), .val (.int p5), .val (.int (66 : Int32)), .val (.int ip), .val (.int jp), .val (.int s1), .val (.int s2), .val (.ref b1), .val (.ref r_), .val (.int xv), .val (.int yv), .val (.int (3 : Int32)), .val (.int (1 : Int32)), .unset, .unset] [(.int xv), (.ref r_)])) rfl (by rw [hml]; rfl) (Steps.refl _) (argsL := [(.int xv)]) (rest := []) (lenOf pd_6 rfl) rfl (by show 2 * 0 + _ ≤ _; exact Nat.le_of_eq rfl) (hb hby at_166) (fun _ _ => ⟨rfl, e88, (by decide : 5 + 0 ≤ _), (by decide : 139 + 0 ≤ _)⟩)
        dsimp only [Pt.U, Pt.locs, Pt.cells, Pt.slots] at X89 l89 y89 z89 st89 hQ89
        subst l89 y89 z89
        obtain ⟨rfl, N89q, e89⟩ := hQ89
        have N89 := Fr.app N88 N89q
        refine stt st89 ?_
        show Go p e below T89 (mkF m 169 #[.val (.int p0), .val (.int p1), .val (.int p2), .val (.int p3), .val (.int p4), .val (.int p5), .val (.int (66 : Int32)), .val (.int ip), .val (.int jp), .val (.int s1), .val (.int s2), .val (.ref b1), .val (.ref r_), .val (.int xv), .val (.int yv), .val (.int (3 : Int32)), .val (.int (1 : Int32)), .unset, .unset] [.null]) _
        refine stp (fun _ => XS.astore X89.here hx rfl (hb hby at_169) rfl rfl (l' := #[.val (.int p0), .val (.int p1), .val (.int p2), .val (.int p3), .val (.int p4), .val (.int p5), .val (.int (66 : Int32)), .val (.int ip), .val (.int jp), .val (.int s1), .val (.int s2), .val (.ref b1), .val (.ref r_), .val (.int xv), .val (.int yv), .val (.int (3 : Int32)), .val (.int (1 : Int32)), .val .null, .unset]) rfl) ?_
        show Go p e below T89 (mkF m 171 #[.val (.int p0), .val (.int p1), .val (.int p2), .val (.int p3), .val (.int p4), .val (.int p5), .val (.int (66 : Int32)), .val (.int ip), .val (.int jp), .val (.int s1), .val (.int s2), .val (.ref b1), .val (.ref r_), .val (.int xv), .val (.int yv), .val (.int (3 : Int32)), .val (.int (1 : Int32)), .val .null, .unset] []) _
        refine stp (fun _ => XS.iload X89.here hx rfl (hb hby at_171) rfl) ?_
        show Go p e below T89 (mkF m 173 #[.val (.int p0), .val (.int p1), .val (.int p2), .val (.int p3), .val (.int p4), .val (.int p5), .val (.int (66 : Int32)), .val (.int ip), .val (.int jp), .val (.int s1), .val (.int s2), .val (.ref b1), .val (.ref r_), .val (.int xv), .val (.int yv), .val (.int (3 : Int32)), .val (.int (1 : Int32)), .val .null, .unset] [(.int (3 : Int32))]) _
        refine stp (fun _ => XS.iconst X89.here hx rfl (hb hby at_173)) ?_
        show Go p e below T89 (mkF m 174 #[.val (.int p0), .val (.int p1), .val (.int p2), .val (.int p3), .val (.int p4), .val (.int p5), .val (.int (66 : Int32)), .val (.int ip), .val (.int jp), .val (.int s1), .val (.int s2), .val (.ref b1), .val (.ref r_), .val (.int xv), .val (.int yv), .val (.int (3 : Int32)), .val (.int (1 : Int32)), .val .null, .unset] [(.int (3 : Int32)), (.int (3 : Int32))]) _
        refine stp (fun _ => XS.icmpNo X89.here hx rfl (hb hby at_174) rfl (by decide)) ?_
        show Go p e below T89 (mkF m 177 #[.val (.int p0), .val (.int p1), .val (.int p2), .val (.int p3), .val (.int p4), .val (.int p5), .val (.int (66 : Int32)), .val (.int ip), .val (.int jp), .val (.int s1), .val (.int s2), .val (.ref b1), .val (.ref r_), .val (.int xv), .val (.int yv), .val (.int (3 : Int32)), .val (.int (1 : Int32)), .val .null, .unset] []) _
        refine stp (fun _ => XS.aload X89.here hx rfl (hb hby at_177) rfl rfl) ?_
        show Go p e below T89 (mkF m 179 #[.val (.int p0), .val (.int p1), .val (.int p2), .val (.int p3), .val (.int p4), .val (.int p5), .val (.int (66 : Int32)), .val (.int ip), .val (.int jp), .val (.int s1), .val (.int s2), .val (.ref b1), .val (.ref r_), .val (.int xv), .val (.int yv), .val (.int (3 : Int32)), .val (.int (1 : Int32)), .val .null, .unset] [.null]) _
        refine stp (fun _ => XS.ifnonnullNo X89.here hx rfl (hb hby at_179) rfl) ?_
        show Go p e below T89 (mkF m 182 #[.val (.int p0), .val (.int p1), .val (.int p2), .val (.int p3), .val (.int p4), .val (.int p5), .val (.int (66 : Int32)), .val (.int ip), .val (.int jp), .val (.int s1), .val (.int s2), .val (.ref b1), .val (.ref r_), .val (.int xv), .val (.int yv), .val (.int (3 : Int32)), .val (.int (1 : Int32)), .val .null, .unset] []) _
        refine stp (fun _ => XS.iconst X89.here hx rfl (hb hby at_182)) ?_
        show Go p e below T89 (mkF m 183 #[.val (.int p0), .val (.int p1), .val (.int p2), .val (.int p3), .val (.int p4), .val (.int p5), .val (.int (66 : Int32)), .val (.int ip), .val (.int jp), .val (.int s1), .val (.int s2), .val (.ref b1), .val (.ref r_), .val (.int xv), .val (.int yv), .val (.int (3 : Int32)), .val (.int (1 : Int32)), .val .null, .unset] [(.int (1 : Int32))]) _
        refine stp (fun _ => XS.goto X89.here hx rfl (pc0 := 183) (pc' := 187) rfl (hb hby at_183) (by decide) (by decide)) ?_
        show Go p e below T89 (mkF m 187 #[.val (.int p0), .val (.int p1), .val (.int p2), .val (.int p3), .val (.int p4), .val (.int p5), .val (.int (66 : Int32)), .val (.int ip), .val (.int jp), .val (.int s1), .val (.int s2), .val (.ref b1), .val (.ref r_), .val (.int xv), .val (.int yv), .val (.int (3 : Int32)), .val (.int (1 : Int32)), .val .null, .unset] [(.int (1 : Int32))]) _
        refine outN X89 hx (t := .boolean) hret (by simp) (hb hby at_187) hlk (by decide) (by decide) ?_
        exact ⟨rfl, N89⟩
      · show Go p e below T51 (mkF m 134 #[.val (.int p0), .val (.int p1), .val (.int p2), .val (.int p3), .val (.int p4), .val (.int p5), .val (.int (66 : Int32)), .val (.int ip), .val (.int jp), .val (.int s1), .val (.int s2), .val (.ref b1), .val (.ref r_), .val (.int xv), .val (.int yv), .val (.int (3 : Int32)), .val (.int (2 : Int32)), .unset, .unset] []) _
        refine stp (fun _ => XS.aload X51.here hx rfl (hb hby at_134) rfl rfl) ?_
        show Go p e below T51 (mkF m 136 #[.val (.int p0), .val (.int p1), .val (.int p2), .val (.int p3), .val (.int p4), .val (.int p5), .val (.int (66 : Int32)), .val (.int ip), .val (.int jp), .val (.int s1), .val (.int s2), .val (.ref b1), .val (.ref r_), .val (.int xv), .val (.int yv), .val (.int (3 : Int32)), .val (.int (2 : Int32)), .unset, .unset] [(.ref r_)]) _
        refine stp (fun _ => XS.iload X51.here hx rfl (hb hby at_136) rfl) ?_
        show Go p e below T51 (mkF m 138 #[.val (.int p0), .val (.int p1), .val (.int p2), .val (.int p3), .val (.int p4), .val (.int p5), .val (.int (66 : Int32)), .val (.int ip), .val (.int jp), .val (.int s1), .val (.int s2), .val (.ref b1), .val (.ref r_), .val (.int xv), .val (.int yv), .val (.int (3 : Int32)), .val (.int (2 : Int32)), .unset, .unset] [(.int xv), (.ref r_)]) _
        refine stp (fun _ => XS.iload X51.here hx rfl (hb hby at_138) rfl) ?_
        show Go p e below T51 (mkF m 140 #[.val (.int p0), .val (.int p1), .val (.int p2), .val (.int p3), .val (.int p4), .val (.int p5), .val (.int (66 : Int32)), .val (.int ip), .val (.int jp), .val (.int s1), .val (.int s2), .val (.ref b1), .val (.ref r_), .val (.int xv), .val (.int yv), .val (.int (3 : Int32)), .val (.int (2 : Int32)), .unset, .unset] [(.int yv), (.int xv), (.ref r_)]) _
        obtain ⟨cq90, kq90, q90a, q90b, q90c⟩ := isOf hZ e51 f41
        obtain ⟨_, _, ⟨T90, L90, k90, n90⟩, -, X90, ⟨Lc90, hQ90, l90, y90, z90⟩, st90⟩ := X51.virtualBack hx (y := (⟨"com/example/brisk_dedup/briskdedup/engine/Sides", "mayPair", "(II)Z"⟩ : MethodName)) (z := (⟨"com/example/brisk_dedup/briskdedup/engine/Sides", "mayPair", "(II)Z"⟩ : MethodName)) hown (mvT hZ (hw _ (List.mem_of_getElem? (i := 40) rfl))) (mvT hZ (hw _ (List.mem_of_getElem? (i := 41) rfl))) (notFace_of_selects (args := #[]) (mvT hZ (hw _ (List.mem_of_getElem? (i := 43) rfl)))) (mvT hZ (hw _ (List.mem_of_getElem? (i := 43) rfl))) (mvT hZ (hw _ (List.mem_of_getElem? (i := 42) rfl))) (by decide) (backOf (W := 0) (rm_mp1 l Z a0 hw [] r_ xv yv vb_ (own_sd ipn s1 jpn s2) xn yn (1 : Int32) kb_ h38 n0 O38 f42 f45 hxn hxl hyn hyl ⟨fun _ => rfl, fun h => absurd (by rw [← hsx, ← hsy]; decide) h⟩) hZ (hw _ (List.mem_of_getElem? (i := 44) rfl)) (hw _ (List.mem_of_getElem? (i := 8) rfl)) (by decide) (by decide)) q90a q90c (g := (mkF m 140 #[.val (.int p0), .val (.int p1), .val (.int p2), .val (.int p3), .val (.int p4), .val (.int p5), .val (.int (66 : Int32)), .val (.int ip), .val (.int jp), .val (.int s1), .val (.int s2), .val (.ref b1), .val (.ref r_), .val (.int xv), .val (.int yv), .val (.int (3 : Int32)), .val (.int (2 : Int32)), .unset, .unset] [(.int yv), (.int xv), (.ref r_)])) rfl (by rw [hml]; rfl) (Steps.refl _) (argsL := [(.int xv), (.int yv)]) (rest := []) (lenOf pd_5 rfl) rfl (by show 2 * 0 + _ ≤ _; exact Nat.le_of_eq rfl) (hb hby at_140) (fun _ _ => ⟨rfl, e51, (by decide : 5 + 0 ≤ _), (by decide : 139 + 0 ≤ _)⟩)
        dsimp only [Pt.U, Pt.locs, Pt.cells, Pt.slots] at X90 l90 y90 z90 st90 hQ90
        subst l90 y90 z90
        obtain ⟨rfl, N90q, e90⟩ := hQ90
        have N90 := Fr.app N51 N90q
        refine stt st90 ?_
        show Go p e below T90 (mkF m 143 #[.val (.int p0), .val (.int p1), .val (.int p2), .val (.int p3), .val (.int p4), .val (.int p5), .val (.int (66 : Int32)), .val (.int ip), .val (.int jp), .val (.int s1), .val (.int s2), .val (.ref b1), .val (.ref r_), .val (.int xv), .val (.int yv), .val (.int (3 : Int32)), .val (.int (2 : Int32)), .unset, .unset] [(.int (1 : Int32))]) _
        refine stp (fun _ => XS.iload X90.here hx rfl (hb hby at_143) rfl) ?_
        show Go p e below T90 (mkF m 145 #[.val (.int p0), .val (.int p1), .val (.int p2), .val (.int p3), .val (.int p4), .val (.int p5), .val (.int (66 : Int32)), .val (.int ip), .val (.int jp), .val (.int s1), .val (.int s2), .val (.ref b1), .val (.ref r_), .val (.int xv), .val (.int yv), .val (.int (3 : Int32)), .val (.int (2 : Int32)), .unset, .unset] [(.int (3 : Int32)), (.int (1 : Int32))]) _
        refine stp (fun _ => XS.iload X90.here hx rfl (hb hby at_145) rfl) ?_
        show Go p e below T90 (mkF m 147 #[.val (.int p0), .val (.int p1), .val (.int p2), .val (.int p3), .val (.int p4), .val (.int p5), .val (.int (66 : Int32)), .val (.int ip), .val (.int jp), .val (.int s1), .val (.int s2), .val (.ref b1), .val (.ref r_), .val (.int xv), .val (.int yv), .val (.int (3 : Int32)), .val (.int (2 : Int32)), .unset, .unset] [(.int (2 : Int32)), (.int (3 : Int32)), (.int (1 : Int32))]) _
        refine stp (fun _ => XS.ior X90.here hx rfl (hb hby at_147) rfl) ?_
        show Go p e below T90 (mkF m 148 #[.val (.int p0), .val (.int p1), .val (.int p2), .val (.int p3), .val (.int p4), .val (.int p5), .val (.int (66 : Int32)), .val (.int ip), .val (.int jp), .val (.int s1), .val (.int s2), .val (.ref b1), .val (.ref r_), .val (.int xv), .val (.int yv), .val (.int (3 : Int32)), .val (.int (2 : Int32)), .unset, .unset] [(.int (3 : Int32)), (.int (1 : Int32))]) _
        refine stp (fun _ => XS.iconst X90.here hx rfl (hb hby at_148)) ?_
        show Go p e below T90 (mkF m 149 #[.val (.int p0), .val (.int p1), .val (.int p2), .val (.int p3), .val (.int p4), .val (.int p5), .val (.int (66 : Int32)), .val (.int ip), .val (.int jp), .val (.int s1), .val (.int s2), .val (.ref b1), .val (.ref r_), .val (.int xv), .val (.int yv), .val (.int (3 : Int32)), .val (.int (2 : Int32)), .unset, .unset] [(.int (3 : Int32)), (.int (3 : Int32)), (.int (1 : Int32))]) _
        refine stp (fun _ => XS.icmpNo X90.here hx rfl (hb hby at_149) rfl (by decide)) ?_
        show Go p e below T90 (mkF m 152 #[.val (.int p0), .val (.int p1), .val (.int p2), .val (.int p3), .val (.int p4), .val (.int p5), .val (.int (66 : Int32)), .val (.int ip), .val (.int jp), .val (.int s1), .val (.int s2), .val (.ref b1), .val (.ref r_), .val (.int xv), .val (.int yv), .val (.int (3 : Int32)), .val (.int (2 : Int32)), .unset, .unset] [(.int (1 : Int32))]) _
        refine stp (fun _ => XS.iconst X90.here hx rfl (hb hby at_152)) ?_
        show Go p e below T90 (mkF m 153 #[.val (.int p0), .val (.int p1), .val (.int p2), .val (.int p3), .val (.int p4), .val (.int p5), .val (.int (66 : Int32)), .val (.int ip), .val (.int jp), .val (.int s1), .val (.int s2), .val (.ref b1), .val (.ref r_), .val (.int xv), .val (.int yv), .val (.int (3 : Int32)), .val (.int (2 : Int32)), .unset, .unset] [(.int (1 : Int32)), (.int (1 : Int32))]) _
        refine stp (fun _ => XS.goto X90.here hx rfl (pc0 := 153) (pc' := 157) rfl (hb hby at_153) (by decide) (by decide)) ?_
        show Go p e below T90 (mkF m 157 #[.val (.int p0), .val (.int p1), .val (.int p2), .val (.int p3), .val (.int p4), .val (.int p5), .val (.int (66 : Int32)), .val (.int ip), .val (.int jp), .val (.int s1), .val (.int s2), .val (.ref b1), .val (.ref r_), .val (.int xv), .val (.int yv), .val (.int (3 : Int32)), .val (.int (2 : Int32)), .unset, .unset] [(.int (1 : Int32)), (.int (1 : Int32))]) _
        refine stp (fun _ => XS.icmpYes X90.here hx rfl (pc0 := 157) (pc' := 162) rfl (hb hby at_157) rfl (by decide) (by decide) (by decide)) ?_
        show Go p e below T90 (mkF m 162 #[.val (.int p0), .val (.int p1), .val (.int p2), .val (.int p3), .val (.int p4), .val (.int p5), .val (.int (66 : Int32)), .val (.int ip), .val (.int jp), .val (.int s1), .val (.int s2), .val (.ref b1), .val (.ref r_), .val (.int xv), .val (.int yv), .val (.int (3 : Int32)), .val (.int (2 : Int32)), .unset, .unset] []) _
        refine stp (fun _ => XS.aload X90.here hx rfl (hb hby at_162) rfl rfl) ?_
        show Go p e below T90 (mkF m 164 #[.val (.int p0), .val (.int p1), .val (.int p2), .val (.int p3), .val (.int p4), .val (.int p5), .val (.int (66 : Int32)), .val (.int ip), .val (.int jp), .val (.int s1), .val (.int s2), .val (.ref b1), .val (.ref r_), .val (.int xv), .val (.int yv), .val (.int (3 : Int32)), .val (.int (2 : Int32)), .unset, .unset] [(.ref r_)]) _
        refine stp (fun _ => XS.iload X90.here hx rfl (hb hby at_164) rfl) ?_
        show Go p e below T90 (mkF m 166 #[.val (.int p0), .val (.int p1), .val (.int p2), .val (.int p3), .val (.int p4), .val (.int p5), .val (.int (66 : Int32)), .val (.int ip), .val (.int jp), .val (.int s1), .val (.int s2), .val (.ref b1), .val (.ref r_), .val (.int xv), .val (.int yv), .val (.int (3 : Int32)), .val (.int (2 : Int32)), .unset, .unset] [(.int xv), (.ref r_)]) _
        obtain ⟨cq91, kq91, q91a, q91b, q91c⟩ := isOf hZ e90 f41
        obtain ⟨_, _, ⟨T91, L91, k91, n91⟩, -, X91, ⟨Lc91, hQ91, l91, y91, z91⟩, st91⟩ := X90.virtualBack hx (y := (⟨"com/example/brisk_dedup/briskdedup/engine/Sides", "partners", "(I)[J"⟩ : MethodName)) (z := (⟨"com/example/brisk_dedup/briskdedup/engine/Sides", "partners", "(I)[J"⟩ : MethodName)) hown (mvT hZ (hw _ (List.mem_of_getElem? (i := 45) rfl))) (mvT hZ (hw _ (List.mem_of_getElem? (i := 46) rfl))) (notFace_of_selects (args := #[]) (mvT hZ (hw _ (List.mem_of_getElem? (i := 48) rfl)))) (mvT hZ (hw _ (List.mem_of_getElem? (i := 48) rfl))) (mvT hZ (hw _ (List.mem_of_getElem? (i := 47) rfl))) (by decide) (backOf (W := 0) (rm_pa9 l Z a0 hw [] r_ xv vb_ (own_sd ipn s1 jpn s2) xn  kb_ h38 n0 O38 f42 f45  hxn hxl hsx.symm) hZ (hw _ (List.mem_of_getElem? (i := 49) rfl)) (hw _ (List.mem_of_getElem? (i := 8) rfl)) (by decide) (by decide)) q91a q91c (g := (mkF m 166 #[.val (.int p0), .val (.int p1), .val (.int p2), .val (.int p3), .val (.int p4), .val (.int p5), .val (.int (66 : Int32)), .val (.int ip), .val (.int jp), .val (.int s1), .val (.int s2), .val (.ref b1), .val (.ref r_), .val (.int xv), .val (.int yv), .val (.int (3 : Int32)), .val (.int (2 : Int32)), .unset, .unset] [(.int xv), (.ref r_)])) rfl (by rw [hml]; rfl) (Steps.refl _) (argsL := [(.int xv)]) (rest := []) (lenOf pd_6 rfl) rfl (by show 2 * 0 + _ ≤ _; exact Nat.le_of_eq rfl) (hb hby at_166) (fun _ _ => ⟨rfl, e90, (by decide : 5 + 0 ≤ _), (by decide : 139 + 0 ≤ _)⟩)
        dsimp only [Pt.U, Pt.locs, Pt.cells, Pt.slots] at X91 l91 y91 z91 st91 hQ91
        subst l91 y91 z91
        obtain ⟨rfl, N91q, e91⟩ := hQ91
        have N91 := Fr.app N90 N91q
        refine stt st91 ?_
        show Go p e below T91 (mkF m 169 #[.val (.int p0), .val (.int p1), .val (.int p2), .val (.int p3), .val (.int p4), .val (.int p5), .val (.int (66 : Int32)), .val (.int ip), .val (.int jp), .val (.int s1), .val (.int s2), .val (.ref b1), .val (.ref r_), .val (.int xv), .val (.int yv), .val (.int (3 : Int32)), .val (.int (2 : Int32)), .unset, .unset] [.null]) _
        refine stp (fun _ => XS.astore X91.here hx rfl (hb hby at_169) rfl rfl (l' := #[.val (.int p0), .val (.int p1), .val (.int p2), .val (.int p3), .val (.int p4), .val (.int p5), .val (.int (66 : Int32)), .val (.int ip), .val (.int jp), .val (.int s1), .val (.int s2), .val (.ref b1), .val (.ref r_), .val (.int xv), .val (.int yv), .val (.int (3 : Int32)), .val (.int (2 : Int32)), .val .null, .unset]) rfl) ?_
        show Go p e below T91 (mkF m 171 #[.val (.int p0), .val (.int p1), .val (.int p2), .val (.int p3), .val (.int p4), .val (.int p5), .val (.int (66 : Int32)), .val (.int ip), .val (.int jp), .val (.int s1), .val (.int s2), .val (.ref b1), .val (.ref r_), .val (.int xv), .val (.int yv), .val (.int (3 : Int32)), .val (.int (2 : Int32)), .val .null, .unset] []) _
        refine stp (fun _ => XS.iload X91.here hx rfl (hb hby at_171) rfl) ?_
        show Go p e below T91 (mkF m 173 #[.val (.int p0), .val (.int p1), .val (.int p2), .val (.int p3), .val (.int p4), .val (.int p5), .val (.int (66 : Int32)), .val (.int ip), .val (.int jp), .val (.int s1), .val (.int s2), .val (.ref b1), .val (.ref r_), .val (.int xv), .val (.int yv), .val (.int (3 : Int32)), .val (.int (2 : Int32)), .val .null, .unset] [(.int (3 : Int32))]) _
        refine stp (fun _ => XS.iconst X91.here hx rfl (hb hby at_173)) ?_
        show Go p e below T91 (mkF m 174 #[.val (.int p0), .val (.int p1), .val (.int p2), .val (.int p3), .val (.int p4), .val (.int p5), .val (.int (66 : Int32)), .val (.int ip), .val (.int jp), .val (.int s1), .val (.int s2), .val (.ref b1), .val (.ref r_), .val (.int xv), .val (.int yv), .val (.int (3 : Int32)), .val (.int (2 : Int32)), .val .null, .unset] [(.int (3 : Int32)), (.int (3 : Int32))]) _
        refine stp (fun _ => XS.icmpNo X91.here hx rfl (hb hby at_174) rfl (by decide)) ?_
        show Go p e below T91 (mkF m 177 #[.val (.int p0), .val (.int p1), .val (.int p2), .val (.int p3), .val (.int p4), .val (.int p5), .val (.int (66 : Int32)), .val (.int ip), .val (.int jp), .val (.int s1), .val (.int s2), .val (.ref b1), .val (.ref r_), .val (.int xv), .val (.int yv), .val (.int (3 : Int32)), .val (.int (2 : Int32)), .val .null, .unset] []) _
        refine stp (fun _ => XS.aload X91.here hx rfl (hb hby at_177) rfl rfl) ?_
        show Go p e below T91 (mkF m 179 #[.val (.int p0), .val (.int p1), .val (.int p2), .val (.int p3), .val (.int p4), .val (.int p5), .val (.int (66 : Int32)), .val (.int ip), .val (.int jp), .val (.int s1), .val (.int s2), .val (.ref b1), .val (.ref r_), .val (.int xv), .val (.int yv), .val (.int (3 : Int32)), .val (.int (2 : Int32)), .val .null, .unset] [.null]) _
        refine stp (fun _ => XS.ifnonnullNo X91.here hx rfl (hb hby at_179) rfl) ?_
        show Go p e below T91 (mkF m 182 #[.val (.int p0), .val (.int p1), .val (.int p2), .val (.int p3), .val (.int p4), .val (.int p5), .val (.int (66 : Int32)), .val (.int ip), .val (.int jp), .val (.int s1), .val (.int s2), .val (.ref b1), .val (.ref r_), .val (.int xv), .val (.int yv), .val (.int (3 : Int32)), .val (.int (2 : Int32)), .val .null, .unset] []) _
        refine stp (fun _ => XS.iconst X91.here hx rfl (hb hby at_182)) ?_
        show Go p e below T91 (mkF m 183 #[.val (.int p0), .val (.int p1), .val (.int p2), .val (.int p3), .val (.int p4), .val (.int p5), .val (.int (66 : Int32)), .val (.int ip), .val (.int jp), .val (.int s1), .val (.int s2), .val (.ref b1), .val (.ref r_), .val (.int xv), .val (.int yv), .val (.int (3 : Int32)), .val (.int (2 : Int32)), .val .null, .unset] [(.int (1 : Int32))]) _
        refine stp (fun _ => XS.goto X91.here hx rfl (pc0 := 183) (pc' := 187) rfl (hb hby at_183) (by decide) (by decide)) ?_
        show Go p e below T91 (mkF m 187 #[.val (.int p0), .val (.int p1), .val (.int p2), .val (.int p3), .val (.int p4), .val (.int p5), .val (.int (66 : Int32)), .val (.int ip), .val (.int jp), .val (.int s1), .val (.int s2), .val (.ref b1), .val (.ref r_), .val (.int xv), .val (.int yv), .val (.int (3 : Int32)), .val (.int (2 : Int32)), .val .null, .unset] [(.int (1 : Int32))]) _
        refine outN X91 hx (t := .boolean) hret (by simp) (hb hby at_187) hlk (by decide) (by decide) ?_
        exact ⟨rfl, N91⟩
      · show Go p e below T51 (mkF m 134 #[.val (.int p0), .val (.int p1), .val (.int p2), .val (.int p3), .val (.int p4), .val (.int p5), .val (.int (66 : Int32)), .val (.int ip), .val (.int jp), .val (.int s1), .val (.int s2), .val (.ref b1), .val (.ref r_), .val (.int xv), .val (.int yv), .val (.int (3 : Int32)), .val (.int (3 : Int32)), .unset, .unset] []) _
        refine stp (fun _ => XS.aload X51.here hx rfl (hb hby at_134) rfl rfl) ?_
        show Go p e below T51 (mkF m 136 #[.val (.int p0), .val (.int p1), .val (.int p2), .val (.int p3), .val (.int p4), .val (.int p5), .val (.int (66 : Int32)), .val (.int ip), .val (.int jp), .val (.int s1), .val (.int s2), .val (.ref b1), .val (.ref r_), .val (.int xv), .val (.int yv), .val (.int (3 : Int32)), .val (.int (3 : Int32)), .unset, .unset] [(.ref r_)]) _
        refine stp (fun _ => XS.iload X51.here hx rfl (hb hby at_136) rfl) ?_
        show Go p e below T51 (mkF m 138 #[.val (.int p0), .val (.int p1), .val (.int p2), .val (.int p3), .val (.int p4), .val (.int p5), .val (.int (66 : Int32)), .val (.int ip), .val (.int jp), .val (.int s1), .val (.int s2), .val (.ref b1), .val (.ref r_), .val (.int xv), .val (.int yv), .val (.int (3 : Int32)), .val (.int (3 : Int32)), .unset, .unset] [(.int xv), (.ref r_)]) _
        refine stp (fun _ => XS.iload X51.here hx rfl (hb hby at_138) rfl) ?_
        show Go p e below T51 (mkF m 140 #[.val (.int p0), .val (.int p1), .val (.int p2), .val (.int p3), .val (.int p4), .val (.int p5), .val (.int (66 : Int32)), .val (.int ip), .val (.int jp), .val (.int s1), .val (.int s2), .val (.ref b1), .val (.ref r_), .val (.int xv), .val (.int yv), .val (.int (3 : Int32)), .val (.int (3 : Int32)), .unset, .unset] [(.int yv), (.int xv), (.ref r_)]) _
        obtain ⟨cq92, kq92, q92a, q92b, q92c⟩ := isOf hZ e51 f41
        obtain ⟨_, _, ⟨T92, L92, k92, n92⟩, -, X92, ⟨Lc92, hQ92, l92, y92, z92⟩, st92⟩ := X51.virtualBack hx (y := (⟨"com/example/brisk_dedup/briskdedup/engine/Sides", "mayPair", "(II)Z"⟩ : MethodName)) (z := (⟨"com/example/brisk_dedup/briskdedup/engine/Sides", "mayPair", "(II)Z"⟩ : MethodName)) hown (mvT hZ (hw _ (List.mem_of_getElem? (i := 40) rfl))) (mvT hZ (hw _ (List.mem_of_getElem? (i := 41) rfl))) (notFace_of_selects (args := #[]) (mvT hZ (hw _ (List.mem_of_getElem? (i := 43) rfl)))) (mvT hZ (hw _ (List.mem_of_getElem? (i := 43) rfl))) (mvT hZ (hw _ (List.mem_of_getElem? (i := 42) rfl))) (by decide) (backOf (W := 0) (rm_mp1 l Z a0 hw [] r_ xv yv vb_ (own_sd ipn s1 jpn s2) xn yn (1 : Int32) kb_ h38 n0 O38 f42 f45 hxn hxl hyn hyl ⟨fun _ => rfl, fun h => absurd (by rw [← hsx, ← hsy]; decide) h⟩) hZ (hw _ (List.mem_of_getElem? (i := 44) rfl)) (hw _ (List.mem_of_getElem? (i := 8) rfl)) (by decide) (by decide)) q92a q92c (g := (mkF m 140 #[.val (.int p0), .val (.int p1), .val (.int p2), .val (.int p3), .val (.int p4), .val (.int p5), .val (.int (66 : Int32)), .val (.int ip), .val (.int jp), .val (.int s1), .val (.int s2), .val (.ref b1), .val (.ref r_), .val (.int xv), .val (.int yv), .val (.int (3 : Int32)), .val (.int (3 : Int32)), .unset, .unset] [(.int yv), (.int xv), (.ref r_)])) rfl (by rw [hml]; rfl) (Steps.refl _) (argsL := [(.int xv), (.int yv)]) (rest := []) (lenOf pd_5 rfl) rfl (by show 2 * 0 + _ ≤ _; exact Nat.le_of_eq rfl) (hb hby at_140) (fun _ _ => ⟨rfl, e51, (by decide : 5 + 0 ≤ _), (by decide : 139 + 0 ≤ _)⟩)
        dsimp only [Pt.U, Pt.locs, Pt.cells, Pt.slots] at X92 l92 y92 z92 st92 hQ92
        subst l92 y92 z92
        obtain ⟨rfl, N92q, e92⟩ := hQ92
        have N92 := Fr.app N51 N92q
        refine stt st92 ?_
        show Go p e below T92 (mkF m 143 #[.val (.int p0), .val (.int p1), .val (.int p2), .val (.int p3), .val (.int p4), .val (.int p5), .val (.int (66 : Int32)), .val (.int ip), .val (.int jp), .val (.int s1), .val (.int s2), .val (.ref b1), .val (.ref r_), .val (.int xv), .val (.int yv), .val (.int (3 : Int32)), .val (.int (3 : Int32)), .unset, .unset] [(.int (1 : Int32))]) _
        refine stp (fun _ => XS.iload X92.here hx rfl (hb hby at_143) rfl) ?_
        show Go p e below T92 (mkF m 145 #[.val (.int p0), .val (.int p1), .val (.int p2), .val (.int p3), .val (.int p4), .val (.int p5), .val (.int (66 : Int32)), .val (.int ip), .val (.int jp), .val (.int s1), .val (.int s2), .val (.ref b1), .val (.ref r_), .val (.int xv), .val (.int yv), .val (.int (3 : Int32)), .val (.int (3 : Int32)), .unset, .unset] [(.int (3 : Int32)), (.int (1 : Int32))]) _
        refine stp (fun _ => XS.iload X92.here hx rfl (hb hby at_145) rfl) ?_
        show Go p e below T92 (mkF m 147 #[.val (.int p0), .val (.int p1), .val (.int p2), .val (.int p3), .val (.int p4), .val (.int p5), .val (.int (66 : Int32)), .val (.int ip), .val (.int jp), .val (.int s1), .val (.int s2), .val (.ref b1), .val (.ref r_), .val (.int xv), .val (.int yv), .val (.int (3 : Int32)), .val (.int (3 : Int32)), .unset, .unset] [(.int (3 : Int32)), (.int (3 : Int32)), (.int (1 : Int32))]) _
        refine stp (fun _ => XS.ior X92.here hx rfl (hb hby at_147) rfl) ?_
        show Go p e below T92 (mkF m 148 #[.val (.int p0), .val (.int p1), .val (.int p2), .val (.int p3), .val (.int p4), .val (.int p5), .val (.int (66 : Int32)), .val (.int ip), .val (.int jp), .val (.int s1), .val (.int s2), .val (.ref b1), .val (.ref r_), .val (.int xv), .val (.int yv), .val (.int (3 : Int32)), .val (.int (3 : Int32)), .unset, .unset] [(.int (3 : Int32)), (.int (1 : Int32))]) _
        refine stp (fun _ => XS.iconst X92.here hx rfl (hb hby at_148)) ?_
        show Go p e below T92 (mkF m 149 #[.val (.int p0), .val (.int p1), .val (.int p2), .val (.int p3), .val (.int p4), .val (.int p5), .val (.int (66 : Int32)), .val (.int ip), .val (.int jp), .val (.int s1), .val (.int s2), .val (.ref b1), .val (.ref r_), .val (.int xv), .val (.int yv), .val (.int (3 : Int32)), .val (.int (3 : Int32)), .unset, .unset] [(.int (3 : Int32)), (.int (3 : Int32)), (.int (1 : Int32))]) _
        refine stp (fun _ => XS.icmpNo X92.here hx rfl (hb hby at_149) rfl (by decide)) ?_
        show Go p e below T92 (mkF m 152 #[.val (.int p0), .val (.int p1), .val (.int p2), .val (.int p3), .val (.int p4), .val (.int p5), .val (.int (66 : Int32)), .val (.int ip), .val (.int jp), .val (.int s1), .val (.int s2), .val (.ref b1), .val (.ref r_), .val (.int xv), .val (.int yv), .val (.int (3 : Int32)), .val (.int (3 : Int32)), .unset, .unset] [(.int (1 : Int32))]) _
        refine stp (fun _ => XS.iconst X92.here hx rfl (hb hby at_152)) ?_
        show Go p e below T92 (mkF m 153 #[.val (.int p0), .val (.int p1), .val (.int p2), .val (.int p3), .val (.int p4), .val (.int p5), .val (.int (66 : Int32)), .val (.int ip), .val (.int jp), .val (.int s1), .val (.int s2), .val (.ref b1), .val (.ref r_), .val (.int xv), .val (.int yv), .val (.int (3 : Int32)), .val (.int (3 : Int32)), .unset, .unset] [(.int (1 : Int32)), (.int (1 : Int32))]) _
        refine stp (fun _ => XS.goto X92.here hx rfl (pc0 := 153) (pc' := 157) rfl (hb hby at_153) (by decide) (by decide)) ?_
        show Go p e below T92 (mkF m 157 #[.val (.int p0), .val (.int p1), .val (.int p2), .val (.int p3), .val (.int p4), .val (.int p5), .val (.int (66 : Int32)), .val (.int ip), .val (.int jp), .val (.int s1), .val (.int s2), .val (.ref b1), .val (.ref r_), .val (.int xv), .val (.int yv), .val (.int (3 : Int32)), .val (.int (3 : Int32)), .unset, .unset] [(.int (1 : Int32)), (.int (1 : Int32))]) _
        refine stp (fun _ => XS.icmpYes X92.here hx rfl (pc0 := 157) (pc' := 162) rfl (hb hby at_157) rfl (by decide) (by decide) (by decide)) ?_
        show Go p e below T92 (mkF m 162 #[.val (.int p0), .val (.int p1), .val (.int p2), .val (.int p3), .val (.int p4), .val (.int p5), .val (.int (66 : Int32)), .val (.int ip), .val (.int jp), .val (.int s1), .val (.int s2), .val (.ref b1), .val (.ref r_), .val (.int xv), .val (.int yv), .val (.int (3 : Int32)), .val (.int (3 : Int32)), .unset, .unset] []) _
        refine stp (fun _ => XS.aload X92.here hx rfl (hb hby at_162) rfl rfl) ?_
        show Go p e below T92 (mkF m 164 #[.val (.int p0), .val (.int p1), .val (.int p2), .val (.int p3), .val (.int p4), .val (.int p5), .val (.int (66 : Int32)), .val (.int ip), .val (.int jp), .val (.int s1), .val (.int s2), .val (.ref b1), .val (.ref r_), .val (.int xv), .val (.int yv), .val (.int (3 : Int32)), .val (.int (3 : Int32)), .unset, .unset] [(.ref r_)]) _
        refine stp (fun _ => XS.iload X92.here hx rfl (hb hby at_164) rfl) ?_
        show Go p e below T92 (mkF m 166 #[.val (.int p0), .val (.int p1), .val (.int p2), .val (.int p3), .val (.int p4), .val (.int p5), .val (.int (66 : Int32)), .val (.int ip), .val (.int jp), .val (.int s1), .val (.int s2), .val (.ref b1), .val (.ref r_), .val (.int xv), .val (.int yv), .val (.int (3 : Int32)), .val (.int (3 : Int32)), .unset, .unset] [(.int xv), (.ref r_)]) _
        obtain ⟨cq93, kq93, q93a, q93b, q93c⟩ := isOf hZ e92 f41
        obtain ⟨_, _, ⟨T93, L93, k93, n93⟩, -, X93, ⟨Lc93, hQ93, l93, y93, z93⟩, st93⟩ := X92.virtualBack hx (y := (⟨"com/example/brisk_dedup/briskdedup/engine/Sides", "partners", "(I)[J"⟩ : MethodName)) (z := (⟨"com/example/brisk_dedup/briskdedup/engine/Sides", "partners", "(I)[J"⟩ : MethodName)) hown (mvT hZ (hw _ (List.mem_of_getElem? (i := 45) rfl))) (mvT hZ (hw _ (List.mem_of_getElem? (i := 46) rfl))) (notFace_of_selects (args := #[]) (mvT hZ (hw _ (List.mem_of_getElem? (i := 48) rfl)))) (mvT hZ (hw _ (List.mem_of_getElem? (i := 48) rfl))) (mvT hZ (hw _ (List.mem_of_getElem? (i := 47) rfl))) (by decide) (backOf (W := 0) (rm_pa9 l Z a0 hw [] r_ xv vb_ (own_sd ipn s1 jpn s2) xn  kb_ h38 n0 O38 f42 f45  hxn hxl hsx.symm) hZ (hw _ (List.mem_of_getElem? (i := 49) rfl)) (hw _ (List.mem_of_getElem? (i := 8) rfl)) (by decide) (by decide)) q93a q93c (g := (mkF m 166 #[.val (.int p0), .val (.int p1), .val (.int p2), .val (.int p3), .val (.int p4), .val (.int p5), .val (.int (66 : Int32)), .val (.int ip), .val (.int jp), .val (.int s1), .val (.int s2), .val (.ref b1), .val (.ref r_), .val (.int xv), .val (.int yv), .val (.int (3 : Int32)), .val (.int (3 : Int32)), .unset, .unset] [(.int xv), (.ref r_)])) rfl (by rw [hml]; rfl) (Steps.refl _) (argsL := [(.int xv)]) (rest := []) (lenOf pd_6 rfl) rfl (by show 2 * 0 + _ ≤ _; exact Nat.le_of_eq rfl) (hb hby at_166) (fun _ _ => ⟨rfl, e92, (by decide : 5 + 0 ≤ _), (by decide : 139 + 0 ≤ _)⟩)
        dsimp only [Pt.U, Pt.locs, Pt.cells, Pt.slots] at X93 l93 y93 z93 st93 hQ93
        subst l93 y93 z93
        obtain ⟨rfl, N93q, e93⟩ := hQ93
        have N93 := Fr.app N92 N93q
        refine stt st93 ?_
        show Go p e below T93 (mkF m 169 #[.val (.int p0), .val (.int p1), .val (.int p2), .val (.int p3), .val (.int p4), .val (.int p5), .val (.int (66 : Int32)), .val (.int ip), .val (.int jp), .val (.int s1), .val (.int s2), .val (.ref b1), .val (.ref r_), .val (.int xv), .val (.int yv), .val (.int (3 : Int32)), .val (.int (3 : Int32)), .unset, .unset] [.null]) _
        refine stp (fun _ => XS.astore X93.here hx rfl (hb hby at_169) rfl rfl (l' := #[.val (.int p0), .val (.int p1), .val (.int p2), .val (.int p3), .val (.int p4), .val (.int p5), .val (.int (66 : Int32)), .val (.int ip), .val (.int jp), .val (.int s1), .val (.int s2), .val (.ref b1), .val (.ref r_), .val (.int xv), .val (.int yv), .val (.int (3 : Int32)), .val (.int (3 : Int32)), .val .null, .unset]) rfl) ?_
        show Go p e below T93 (mkF m 171 #[.val (.int p0), .val (.int p1), .val (.int p2), .val (.int p3), .val (.int p4), .val (.int p5), .val (.int (66 : Int32)), .val (.int ip), .val (.int jp), .val (.int s1), .val (.int s2), .val (.ref b1), .val (.ref r_), .val (.int xv), .val (.int yv), .val (.int (3 : Int32)), .val (.int (3 : Int32)), .val .null, .unset] []) _
        refine stp (fun _ => XS.iload X93.here hx rfl (hb hby at_171) rfl) ?_
        show Go p e below T93 (mkF m 173 #[.val (.int p0), .val (.int p1), .val (.int p2), .val (.int p3), .val (.int p4), .val (.int p5), .val (.int (66 : Int32)), .val (.int ip), .val (.int jp), .val (.int s1), .val (.int s2), .val (.ref b1), .val (.ref r_), .val (.int xv), .val (.int yv), .val (.int (3 : Int32)), .val (.int (3 : Int32)), .val .null, .unset] [(.int (3 : Int32))]) _
        refine stp (fun _ => XS.iconst X93.here hx rfl (hb hby at_173)) ?_
        show Go p e below T93 (mkF m 174 #[.val (.int p0), .val (.int p1), .val (.int p2), .val (.int p3), .val (.int p4), .val (.int p5), .val (.int (66 : Int32)), .val (.int ip), .val (.int jp), .val (.int s1), .val (.int s2), .val (.ref b1), .val (.ref r_), .val (.int xv), .val (.int yv), .val (.int (3 : Int32)), .val (.int (3 : Int32)), .val .null, .unset] [(.int (3 : Int32)), (.int (3 : Int32))]) _
        refine stp (fun _ => XS.icmpNo X93.here hx rfl (hb hby at_174) rfl (by decide)) ?_
        show Go p e below T93 (mkF m 177 #[.val (.int p0), .val (.int p1), .val (.int p2), .val (.int p3), .val (.int p4), .val (.int p5), .val (.int (66 : Int32)), .val (.int ip), .val (.int jp), .val (.int s1), .val (.int s2), .val (.ref b1), .val (.ref r_), .val (.int xv), .val (.int yv), .val (.int (3 : Int32)), .val (.int (3 : Int32)), .val .null, .unset] []) _
        refine stp (fun _ => XS.aload X93.here hx rfl (hb hby at_177) rfl rfl) ?_
        show Go p e below T93 (mkF m 179 #[.val (.int p0), .val (.int p1), .val (.int p2), .val (.int p3), .val (.int p4), .val (.int p5), .val (.int (66 : Int32)), .val (.int ip), .val (.int jp), .val (.int s1), .val (.int s2), .val (.ref b1), .val (.ref r_), .val (.int xv), .val (.int yv), .val (.int (3 : Int32)), .val (.int (3 : Int32)), .val .null, .unset] [.null]) _
        refine stp (fun _ => XS.ifnonnullNo X93.here hx rfl (hb hby at_179) rfl) ?_
        show Go p e below T93 (mkF m 182 #[.val (.int p0), .val (.int p1), .val (.int p2), .val (.int p3), .val (.int p4), .val (.int p5), .val (.int (66 : Int32)), .val (.int ip), .val (.int jp), .val (.int s1), .val (.int s2), .val (.ref b1), .val (.ref r_), .val (.int xv), .val (.int yv), .val (.int (3 : Int32)), .val (.int (3 : Int32)), .val .null, .unset] []) _
        refine stp (fun _ => XS.iconst X93.here hx rfl (hb hby at_182)) ?_
        show Go p e below T93 (mkF m 183 #[.val (.int p0), .val (.int p1), .val (.int p2), .val (.int p3), .val (.int p4), .val (.int p5), .val (.int (66 : Int32)), .val (.int ip), .val (.int jp), .val (.int s1), .val (.int s2), .val (.ref b1), .val (.ref r_), .val (.int xv), .val (.int yv), .val (.int (3 : Int32)), .val (.int (3 : Int32)), .val .null, .unset] [(.int (1 : Int32))]) _
        refine stp (fun _ => XS.goto X93.here hx rfl (pc0 := 183) (pc' := 187) rfl (hb hby at_183) (by decide) (by decide)) ?_
        show Go p e below T93 (mkF m 187 #[.val (.int p0), .val (.int p1), .val (.int p2), .val (.int p3), .val (.int p4), .val (.int p5), .val (.int (66 : Int32)), .val (.int ip), .val (.int jp), .val (.int s1), .val (.int s2), .val (.ref b1), .val (.ref r_), .val (.int xv), .val (.int yv), .val (.int (3 : Int32)), .val (.int (3 : Int32)), .val .null, .unset] [(.int (1 : Int32))]) _
        refine outN X93 hx (t := .boolean) hret (by simp) (hb hby at_187) hlk (by decide) (by decide) ?_
        exact ⟨rfl, N93⟩
set_option maxRecDepth 65536 in
set_option maxHeartbeats 40000000 in
theorem comes_1 {Post : Tables → Env → Array Value → State → Outcome → State → Prop} (hpost : ∀ tb e args s v u, (limb_1_1.after args s (.returned v) u = true ∧ limb_1_2.after args s (.returned v) u = true ∧ True) → FrameEnd s (.returned v) u (Jvm.fieldLocs frame_1_writes args s ++ Jvm.arrayLocs frame_1_arrays args s ++ Jvm.staticLocs frame_1_statics s) 24 384 → Post tb e args s (.returned v) u) :
    ArmFor flags0 classFile x code maxLocals ret World_1 tables_1 room_1 Calls_1 rest_1 Pre_1 Post := by
  intro l hfl _ _ p e ha hc hk s m args below hf hA hF happ hP
  obtain ⟨hcalls, hrest, hpre⟩ := hP
  obtain ⟨-, -, -, hnamed, -, -, -, hat⟩ := (Spec.applies_iff hf).mp happ
  obtain ⟨hg, hn⟩ := and_e (Cond.before_iff.mp (show (Jvm.Cond.and given_1 narrow_1).before args s = true from hpre))
  obtain ⟨g1, g2⟩ := and_e hg
  obtain ⟨g3, g4⟩ := and_e g2
  obtain ⟨g5, g6⟩ := and_e g4
  obtain ⟨g7, g8⟩ := and_e g6
  obtain ⟨g9, g10⟩ := and_e g8
  obtain ⟨g11, g12⟩ := and_e g10
  obtain ⟨w0, w1, w2, w3, w4, w5, rfl⟩ : ∃ w0 w1 w2 w3 w4 w5 : Value, args = #[w0, w1, w2, w3, w4, w5] := by
    have hs : args.size = 6 := by simpa [Cond.value, given_1] using g1
    obtain ⟨L⟩ := args
    match L, hs with
    | [w0, w1, w2, w3, w4, w5], _ => exact ⟨w0, w1, w2, w3, w4, w5, rfl⟩
  have hw := fun d (hd : d ∈ tables_1) => atoms_spec (ws := Jvm.Cond.code x code maxLocals ret :: tables_1) hat d (List.mem_cons_of_mem _ hd)
  have hfit : Fit s := fun {y c} hc i hi => by
    obtain ⟨ha, rfl⟩ := Array.getElem?_eq_some_iff.mp hc
    have q := List.all_eq_true.mp ((Array.all_eq_true_iff_forall_mem.mp hF) _ (Array.getElem_mem ha)) i (List.mem_range.mpr hi)
    simpa [Array.getElem?_eq_getElem hi] using q
  obtain ⟨i0, ei0⟩ := is_v g3
  obtain rfl : w0 = (.int i0) := Option.some.inj ei0
  obtain ⟨i1, ei1⟩ := is_v g5
  obtain rfl : w1 = (.int i1) := Option.some.inj ei1
  obtain ⟨i2, ei2⟩ := is_v g7
  obtain rfl : w2 = (.int i2) := Option.some.inj ei2
  obtain ⟨i3, ei3⟩ := is_v g9
  obtain rfl : w3 = (.int i3) := Option.some.inj ei3
  obtain ⟨i4, ei4⟩ := is_v g11
  obtain rfl : w4 = (.int i4) := Option.some.inj ei4
  obtain ⟨i5, ei5⟩ := is_v g12
  obtain rfl : w5 = (.int i5) := Option.some.inj ei5
  obtain ⟨g13, g14⟩ := and_e hn
  obtain ⟨a_ONE_COLLECTION, ev_a_ONE_COLLECTION⟩ := exa_v g13
  have S_a_ONE_COLLECTION := Sta.start ev_a_ONE_COLLECTION (Or.inr ⟨(hw _ (List.mem_of_getElem? (i := 8) rfl)), (hw _ (List.mem_of_getElem? (i := 51) rfl))⟩)
  have E_a_ONE_COLLECTION := Exa.start ev_a_ONE_COLLECTION g13
  have F_sides_a_ONE_COLLECTION := fldnull_of ev_a_ONE_COLLECTION g14
  obtain ⟨n, o, h1, h2, h3, _, L, rfl, ⟨rfl, N⟩, hq⟩ := rm0 l s _ hw tables_1 i0 i1 i2 i3 i4 i5 a_ONE_COLLECTION s.heap s.heap.size (Old.start s) S_a_ONE_COLLECTION E_a_ONE_COLLECTION F_sides_a_ONE_COLLECTION p e ha hc hk s m _ below hf ((Spec.applies_iff_loose hf).mp happ).1 ⟨rfl, State.Warmed39.refl s, rfl⟩ trivial
  refine ⟨n, _, h1, h2, h3, hpost _ _ _ _ _ _ ⟨Cond.after_iff.mpr rfl, Cond.after_iff.mpr (eq_i res_at (Term.int_eval (1)) rfl), trivial⟩ ⟨hq.1, hq.2.1, (hq.2.2.sift fun y hy => Or.inr (N y hy)).mono (by decide) (by decide)⟩⟩
theorem main_1_1 : Claimed_1_1 := comes_1 fun _ _ _ _ _ _ h hF => ⟨h.1, hF⟩
theorem main_1_2 : Claimed_1_2 := comes_1 fun _ _ _ _ _ _ h hF => ⟨h.2.1, hF⟩
end Jvm.Pilot.@@N@@
namespace Jvm.Pilot.@@N@@
open Jvm Jvm.ClassFile Sem Op Lib Jvm.Free Jvm.Stand Jvm.Pilot.@@N@@.Jvm.D
/-! MADE BY PROGRAM (witnessworld.py) out of the Statement's table words and the real class files: 11 classes; the members and pool entries that the words name. The judged class is class 1, her method 1. -/
namespace start1
open Jvm.ClassFile
def u (s : String) : CpInfo := .utf8 (stringToUtf16 s)
/-- a pool by its gaps: so many unusable entries, then the entry; so many at the end -/
def gap : Nat → List CpInfo → List CpInfo
  | 0, r => r
  | n + 1, r => .unusable :: gap n r
def poolList (es : List (Nat × CpInfo)) (last : Nat) : List CpInfo := es.foldr (fun e r => gap e.1 (e.2 :: r)) (gap last [])
def pool (es : List (Nat × CpInfo)) (last : Nat) : Array CpInfo := ⟨poolList es last⟩
def fileOf (pool : Array CpInfo) (this : Nat) (attrs : Array Attribute := #[]) (ms : Array MethodInfo := #[]) (fl : Nat := 33) (sup : Nat := 0) (ifs : Array Nat := #[]) (fds : Array FieldInfo := #[]) : ClassFile where
  minorVersion := 0
  majorVersion := 65
  constantPool := pool
  accessFlags := fl
  thisClass := this
  superClass := sup
  interfaces := ifs
  fields := fds
  methods := ms
  attributes := attrs
def plain (name : String) (sup : Option ClassId) : Class where
  name := name
  kind := .ordinary
  loader := none
  accessFlags := 33
  super := sup
  interfaces := #[]
  cf := none
  fields := #[]
  methods := #[]
  instanceTypes := #[]
  staticTypes := #[]
  resolved := #[]
  callSites := []
  init := .initialized
  statics := none
  mirror := none

def pool0 : Array CpInfo := pool [(5, u "<init>"), (0, u "()V"), (1, .class_ 10), (1, u "java/lang/Object"), (85, u "clone"), (0, u "()Ljava/lang/Object;")] 26

def k0c0 : Code := { maxStack := 0, maxLocals := 1, code := object_method_1_code, exceptionTable := #[], attributes := #[] }
def k0m0 : Method := { name := "<init>", desc := "()V", sig := { parameters := [], returnType := none }, accessFlags := 1, code := some k0c0 }
def k0m1 : Method := { name := "clone", desc := "()Ljava/lang/Object;", sig := { parameters := [], returnType := some (.object "java/lang/Object") }, accessFlags := 260, code := none }
/-- java/lang/Object -/
def k0 : Class := { plain "java/lang/Object" none with
  accessFlags := 33
  interfaces := #[]
  cf := some (fileOf pool0 8 #[] #[{ accessFlags := 1, nameIndex := 5, descriptorIndex := 6, attributes := #[] }, { accessFlags := 260, nameIndex := 96, descriptorIndex := 97, attributes := #[] }] 33 0 #[] #[])
  fields := #[]
  methods := #[k0m0, k0m1]
  instanceTypes := #[]
  staticTypes := #[]
  resolved := Array.replicate 124 none
  statics := none }

def pool1 : Array CpInfo := pool [(2, .class_ 4), (1, u "java/lang/Object"), (0, u "<init>"), (0, u "()V"), (0, .integer 2147483647), (0, .methodref 9 10), (0, .class_ 11), (0, .nameAndType 12 13), (0, u "com/example/brisk_dedup/briskdedup/engine/SidesOfPinLaw"), (0, u "allBoth"), (0, u "()[B"), (0, .methodref 15 16), (0, .class_ 17), (0, .nameAndType 18 19), (0, u "com/example/brisk_dedup/briskdedup/engine/Sides"), (0, u "of"), (0, u "([B)Lcom/example/brisk_dedup/briskdedup/engine/Sides;"), (0, .methodref 9 21), (0, .nameAndType 22 23), (0, u "pick"), (0, u "(III)I"), (0, .methodref 9 25), (0, .nameAndType 26 27), (0, u "side"), (0, u "(IIIII)I"), (0, .methodref 15 29), (0, .nameAndType 30 31), (0, u "mayPair"), (0, u "(II)Z"), (0, .methodref 15 33), (0, .nameAndType 34 35), (0, u "partners"), (0, u "(I)[J"), (2, u "law"), (0, u "(IIIIII)Z")] 7

def k1m0 : Method := { name := "<init>", desc := "()V", sig := { parameters := [], returnType := none }, accessFlags := 1, code := none }
def k1c1 : Code := { maxStack := 5, maxLocals := 19, code := code, exceptionTable := #[], attributes := #[] }
def k1m1 : Method := { name := "law", desc := "(IIIIII)Z", sig := { parameters := [.int, .int, .int, .int, .int, .int], returnType := some .boolean }, accessFlags := 9, code := some k1c1 }
def k1c2 : Code := { maxStack := 2, maxLocals := 5, code := method_3_code, exceptionTable := #[], attributes := #[] }
def k1m2 : Method := { name := "side", desc := "(IIIII)I", sig := { parameters := [.int, .int, .int, .int, .int], returnType := some .int }, accessFlags := 10, code := some k1c2 }
def k1c3 : Code := { maxStack := 2, maxLocals := 4, code := method_4_code, exceptionTable := #[], attributes := #[] }
def k1m3 : Method := { name := "pick", desc := "(III)I", sig := { parameters := [.int, .int, .int], returnType := some .int }, accessFlags := 10, code := some k1c3 }
def k1c4 : Code := { maxStack := 4, maxLocals := 1, code := method_5_code, exceptionTable := #[], attributes := #[] }
def k1m4 : Method := { name := "allBoth", desc := "()[B", sig := { parameters := [], returnType := some (.array .byte) }, accessFlags := 10, code := some k1c4 }
/-- com/example/brisk_dedup/briskdedup/engine/SidesOfPinLaw -/
def k1 : Class := { plain "com/example/brisk_dedup/briskdedup/engine/SidesOfPinLaw" (some 0) with
  accessFlags := 49
  interfaces := #[]
  cf := some (fileOf pool1 9 #[] #[{ accessFlags := 1, nameIndex := 5, descriptorIndex := 6, attributes := #[] }, { accessFlags := 9, nameIndex := 38, descriptorIndex := 39, attributes := #[] }, { accessFlags := 10, nameIndex := 26, descriptorIndex := 27, attributes := #[] }, { accessFlags := 10, nameIndex := 22, descriptorIndex := 23, attributes := #[] }, { accessFlags := 10, nameIndex := 12, descriptorIndex := 13, attributes := #[] }] 49 2 #[] #[])
  fields := #[]
  methods := #[k1m0, k1m1, k1m2, k1m3, k1m4]
  instanceTypes := #[]
  staticTypes := #[]
  resolved := Array.replicate 47 none
  statics := none }

def pool2 : Array CpInfo := pool [(1, .class_ 2), (0, u "com/example/brisk_dedup/briskdedup/engine/Sides"), (0, .methodref 4 5), (0, .class_ 6), (0, .nameAndType 7 8), (0, u "java/lang/Object"), (0, u "<init>"), (0, u "()V"), (0, .fieldref 1 10), (0, .nameAndType 11 12), (0, u "sides"), (0, u "[B"), (0, .fieldref 1 14), (0, .nameAndType 15 16), (0, u "ofFirst"), (0, u "[J"), (0, .fieldref 1 18), (0, .nameAndType 19 16), (0, u "ofSecond"), (0, .fieldref 1 21), (0, .nameAndType 22 23), (0, u "ONE_COLLECTION"), (0, u "Lcom/example/brisk_dedup/briskdedup/engine/Sides;"), (0, .methodref 25 26), (0, .class_ 12), (0, .nameAndType 27 28), (0, u "clone"), (0, u "()Ljava/lang/Object;"), (0, .methodref 1 30), (0, .nameAndType 7 31), (0, u "([B[J[J)V"), (0, u "FIRST"), (0, u "B"), (2, u "SECOND"), (1, u "BOTH"), (5, u "of"), (0, u "([B)Lcom/example/brisk_dedup/briskdedup/engine/Sides;"), (2, u "mayPair"), (0, u "(II)Z"), (0, u "partners"), (0, u "(I)[J")] 3

def k2c0 : Code := { maxStack := 2, maxLocals := 4, code := prog_68_method_1_code, exceptionTable := #[], attributes := #[] }
def k2m0 : Method := { name := "<init>", desc := "([B[J[J)V", sig := { parameters := [(.array .byte), (.array .long), (.array .long)], returnType := none }, accessFlags := 2, code := some k2c0 }
def k2c1 : Code := { maxStack := 7, maxLocals := 5, code := prog_68_method_3_code, exceptionTable := #[], attributes := #[] }
def k2m1 : Method := { name := "of", desc := "([B)Lcom/example/brisk_dedup/briskdedup/engine/Sides;", sig := { parameters := [(.array .byte)], returnType := some (.object "com/example/brisk_dedup/briskdedup/engine/Sides") }, accessFlags := 8, code := some k2c1 }
def k2c2 : Code := { maxStack := 3, maxLocals := 3, code := prog_68_method_4_code, exceptionTable := #[], attributes := #[] }
def k2m2 : Method := { name := "mayPair", desc := "(II)Z", sig := { parameters := [.int, .int], returnType := some .boolean }, accessFlags := 0, code := some k2c2 }
def k2c3 : Code := { maxStack := 2, maxLocals := 2, code := prog_68_method_5_code, exceptionTable := #[], attributes := #[] }
def k2m3 : Method := { name := "partners", desc := "(I)[J", sig := { parameters := [.int], returnType := some (.array .long) }, accessFlags := 0, code := some k2c3 }
/-- com/example/brisk_dedup/briskdedup/engine/Sides -/
def k2 : Class := { plain "com/example/brisk_dedup/briskdedup/engine/Sides" (some 0) with
  accessFlags := 32
  interfaces := #[]
  cf := some (fileOf pool2 1 #[] #[{ accessFlags := 2, nameIndex := 7, descriptorIndex := 31, attributes := #[] }, { accessFlags := 8, nameIndex := 44, descriptorIndex := 45, attributes := #[] }, { accessFlags := 0, nameIndex := 48, descriptorIndex := 49, attributes := #[] }, { accessFlags := 0, nameIndex := 50, descriptorIndex := 51, attributes := #[] }] 32 4 #[] #[{ accessFlags := 24, nameIndex := 32, descriptorIndex := 33, attributes := #[] }, { accessFlags := 24, nameIndex := 36, descriptorIndex := 33, attributes := #[] }, { accessFlags := 24, nameIndex := 38, descriptorIndex := 33, attributes := #[] }, { accessFlags := 26, nameIndex := 22, descriptorIndex := 23, attributes := #[] }, { accessFlags := 18, nameIndex := 11, descriptorIndex := 12, attributes := #[] }, { accessFlags := 18, nameIndex := 15, descriptorIndex := 16, attributes := #[] }, { accessFlags := 18, nameIndex := 19, descriptorIndex := 16, attributes := #[] }])
  fields := #[{ name := "FIRST", type := .byte, accessFlags := 24, slot := 0, constantValue := 0 }, { name := "SECOND", type := .byte, accessFlags := 24, slot := 1, constantValue := 0 }, { name := "BOTH", type := .byte, accessFlags := 24, slot := 2, constantValue := 0 }, { name := "ONE_COLLECTION", type := (.object "com/example/brisk_dedup/briskdedup/engine/Sides"), accessFlags := 26, slot := 3, constantValue := 0 }, { name := "sides", type := (.array .byte), accessFlags := 18, slot := 0, constantValue := 0 }, { name := "ofFirst", type := (.array .long), accessFlags := 18, slot := 1, constantValue := 0 }, { name := "ofSecond", type := (.array .long), accessFlags := 18, slot := 2, constantValue := 0 }]
  methods := #[k2m0, k2m1, k2m2, k2m3]
  instanceTypes := #[(.array .byte), (.array .long), (.array .long)]
  staticTypes := #[.byte, .byte, .byte, (.object "com/example/brisk_dedup/briskdedup/engine/Sides")]
  resolved := Array.replicate 55 none
  statics := some 0 }

def pool3 : Array CpInfo := pool [(1, .class_ 2), (0, u "java/lang/Cloneable"), (0, .class_ 4), (0, u "java/lang/Object")] 2

/-- java/lang/Cloneable -/
def k3 : Class := { plain "java/lang/Cloneable" (some 0) with
  accessFlags := 1537
  interfaces := #[]
  cf := some (fileOf pool3 1 #[] #[] 1537 3 #[] #[])
  fields := #[]
  methods := #[]
  instanceTypes := #[]
  staticTypes := #[]
  resolved := Array.replicate 7 none
  statics := none }

def pool4 : Array CpInfo := pool [(1, u "java/io/Serializable"), (0, .class_ 1), (0, u "java/lang/Object"), (0, .class_ 3)] 3

/-- java/io/Serializable -/
def k4 : Class := { plain "java/io/Serializable" (some 0) with
  accessFlags := 1537
  interfaces := #[]
  cf := some (fileOf pool4 2 #[] #[] 1537 4 #[] #[])
  fields := #[]
  methods := #[]
  instanceTypes := #[]
  staticTypes := #[]
  resolved := Array.replicate 8 none
  statics := none }

/-- the primitive byte -/
def k5 : Class := { plain "byte" none with kind := .primitive 'B', accessFlags := 0x411 }
/-- [B -/
def k6 : Class := { plain "[B" (some 0) with kind := .array 5 .byte, interfaces := #[3, 4], accessFlags := 1041 }

/-- the primitive int -/
def k7 : Class := { plain "int" none with kind := .primitive 'I', accessFlags := 0x411 }
/-- [I -/
def k8 : Class := { plain "[I" (some 0) with kind := .array 7 .int, interfaces := #[3, 4], accessFlags := 1041 }

/-- the primitive long -/
def k9 : Class := { plain "long" none with kind := .primitive 'J', accessFlags := 0x411 }
/-- [J -/
def k10 : Class := { plain "[J" (some 0) with kind := .array 9 .long, interfaces := #[3, 4], accessFlags := 1041 }

def heap : Heap := #[{ cls := 2, slots := #[.int 0, .int 0, .int 0, .ref 1], vm := .statics 2 },
  { cls := 2, slots := #[.null, .null, .null], vm := .none }]
def classes : Array Class := #[k0, k1, k2, k3, k4, k5, k6, k7, k8, k9, k10]
def interned : List (Array UInt16 × Addr) := []
def slotsUsed : Nat := 7
def theMethod : MethodId := ⟨1, 1⟩
def args0 : Array Value := #[.int 1, .int 2, .int 1, .int 2, .int 0, .int 1]
def aboutOver (below : List Frame) : State where
  vm := { classes := classes, interned := interned.toArray }
  heap := heap
  slotsUsed := slotsUsed
  threads := #[{ frames := .invoking theMethod args0 :: below }]
def below0 : List Frame := [.native { method := ⟨0, 0⟩, args := #[] }]
def about1 : State := aboutOver below0
def p0 : Program := .bare "" "" ""
def e0 : Env := launch0.env 0 0 0
theorem w_frames : about1.frames = Frame.invoking theMethod args0 :: below0 := rfl
set_option maxRecDepth 65536 in
theorem w_args : argsFit about1.vm theMethod args0 = true := by decide +kernel
set_option maxRecDepth 65536 in
theorem w_heap : heapFits about1 = true := by decide +kernel
set_option maxRecDepth 65536 in
theorem w_runnable : about1.curStatus? = some .runnable := by decide +kernel
set_option maxRecDepth 65536 in
theorem w_alone : about1.alone = true := by decide +kernel
set_option maxRecDepth 65536 in
theorem w_named : about1.methodNamed? x = some theMethod := by decide +kernel
set_option maxRecDepth 65536 in
theorem w_hears : about1.hears theMethod below0 = true := by decide +kernel
set_option maxRecDepth 65536 in
theorem w_ripe : about1.ripe theMethod args0 below0 = true := by decide +kernel
theorem w_running : about1.status = .running := rfl
set_option maxRecDepth 65536 in
theorem w_room : about1.hasRoom e0.platform room_1 = true :=
  launch0.hasRoom_least _ room_1 (by decide +kernel) (by decide +kernel) (by decide +kernel) (by decide +kernel) (by decide +kernel) (by decide +kernel)
theorem allAtoms_all (ts : List Jvm.Cond) (a : Array Jvm.Value) (st : Jvm.State) : (allAtoms ts).before a st = ts.all (fun c => c.before a st) := by
  induction ts with
  | nil => rfl
  | cons c t ih =>
    show (Jvm.Cond.and c (allAtoms t)).before a st = _
    rw [Jvm.Cond.before_and, ih, List.all_cons]
def words1 : List Jvm.Cond := Jvm.Cond.code x code maxLocals ret :: tables_1
/-- a 'code' word, met by the world's own term for the bytes: nothing is compared byte by byte -/
theorem code_word {y : MethodName} {bytes : ByteArray} {mx : Nat} {rt : Option FieldType} {a : Array Value} {s : State} {m : MethodId} {meth : Method} {c : Code} (h1 : s.methodNamed? y = some m) (h2 : s.vm.method? m = some meth) (h3 : meth.code = some c) (h4 : c.code = bytes)
    (h5 : (c.maxLocals == mx && c.exceptionTable.isEmpty && decide (c.maxStack ≤ mostOperands) && decide (meth.sig.returnType = rt) && !meth.locks && decide (parseMethodDescriptor y.desc = some meth.sig)) = true) : (Jvm.Cond.code y bytes mx rt).before a s = true := by
  simp only [Bool.and_eq_true, beq_iff_eq, Bool.not_eq_true', decide_eq_true_eq] at h5
  obtain ⟨⟨⟨⟨⟨g1, g2⟩, g3⟩, g4⟩, g5⟩, g6⟩ := h5
  simp [Cond.before, Cond.holds, Cond.value, h1, h2, h3, h4, g1, g2, g3, g4, g5, g6]
def isCode : Jvm.Cond → Bool
  | .code _ _ _ _ => true
  | _ => false
theorem all_split {L : List Jvm.Cond} {P : Jvm.Cond → Bool} (h1 : L.all (fun c => isCode c || P c) = true) (h2 : ∀ c ∈ L.filter isCode, P c = true) : L.all P = true := by
  refine List.all_eq_true.mpr fun c hc => ?_
  have h := List.all_eq_true.mp h1 c hc
  rcases Bool.eq_false_or_eq_true (isCode c) with hi | hi
  · exact h2 c (List.mem_filter.mpr ⟨hc, hi⟩)
  · simpa [hi] using h
set_option maxRecDepth 65536 in
theorem w_c0 : (Jvm.Cond.code x code maxLocals ret).before args0 about1 = true := code_word (m := ⟨1, 1⟩) (meth := k1m1) (c := k1c1) (by decide +kernel) rfl rfl rfl (by decide +kernel)
set_option maxRecDepth 65536 in
theorem w_c1 : (Jvm.Cond.code ({ cls := "com/example/brisk_dedup/briskdedup/engine/SidesOfPinLaw", name := "allBoth", desc := "()[B" } : Jvm.MethodName) method_5_code (1 : Nat) (Option.some (Jvm.ClassFile.FieldType.array Jvm.ClassFile.FieldType.byte))).before args0 about1 = true := code_word (m := ⟨1, 4⟩) (meth := k1m4) (c := k1c4) (by decide +kernel) rfl rfl rfl (by decide +kernel)
set_option maxRecDepth 65536 in
theorem w_c2 : (Jvm.Cond.code ({ cls := "com/example/brisk_dedup/briskdedup/engine/Sides", name := "of", desc := "([B)Lcom/example/brisk_dedup/briskdedup/engine/Sides;" } : Jvm.MethodName) prog_68_method_3_code (5 : Nat) (Option.some (Jvm.ClassFile.FieldType.object "com/example/brisk_dedup/briskdedup/engine/Sides"))).before args0 about1 = true := code_word (m := ⟨2, 1⟩) (meth := k2m1) (c := k2c1) (by decide +kernel) rfl rfl rfl (by decide +kernel)
set_option maxRecDepth 65536 in
theorem w_c3 : (Jvm.Cond.code ({ cls := "com/example/brisk_dedup/briskdedup/engine/Sides", name := "<init>", desc := "([B[J[J)V" } : Jvm.MethodName) prog_68_method_1_code (4 : Nat) (Option.none : Option Jvm.ClassFile.FieldType)).before args0 about1 = true := code_word (m := ⟨2, 0⟩) (meth := k2m0) (c := k2c0) (by decide +kernel) rfl rfl rfl (by decide +kernel)
set_option maxRecDepth 65536 in
theorem w_c4 : (Jvm.Cond.code ({ cls := "java/lang/Object", name := "<init>", desc := "()V" } : Jvm.MethodName) object_method_1_code (1 : Nat) (Option.none : Option Jvm.ClassFile.FieldType)).before args0 about1 = true := code_word (m := ⟨0, 0⟩) (meth := k0m0) (c := k0c0) (by decide +kernel) rfl rfl rfl (by decide +kernel)
set_option maxRecDepth 65536 in
theorem w_c5 : (Jvm.Cond.code ({ cls := "com/example/brisk_dedup/briskdedup/engine/SidesOfPinLaw", name := "pick", desc := "(III)I" } : Jvm.MethodName) method_4_code (4 : Nat) (Option.some Jvm.ClassFile.FieldType.int)).before args0 about1 = true := code_word (m := ⟨1, 3⟩) (meth := k1m3) (c := k1c3) (by decide +kernel) rfl rfl rfl (by decide +kernel)
set_option maxRecDepth 65536 in
theorem w_c6 : (Jvm.Cond.code ({ cls := "com/example/brisk_dedup/briskdedup/engine/SidesOfPinLaw", name := "side", desc := "(IIIII)I" } : Jvm.MethodName) method_3_code (5 : Nat) (Option.some Jvm.ClassFile.FieldType.int)).before args0 about1 = true := code_word (m := ⟨1, 2⟩) (meth := k1m2) (c := k1c2) (by decide +kernel) rfl rfl rfl (by decide +kernel)
set_option maxRecDepth 65536 in
theorem w_c7 : (Jvm.Cond.code ({ cls := "com/example/brisk_dedup/briskdedup/engine/Sides", name := "mayPair", desc := "(II)Z" } : Jvm.MethodName) prog_68_method_4_code (3 : Nat) (Option.some Jvm.ClassFile.FieldType.boolean)).before args0 about1 = true := code_word (m := ⟨2, 2⟩) (meth := k2m2) (c := k2c2) (by decide +kernel) rfl rfl rfl (by decide +kernel)
set_option maxRecDepth 65536 in
theorem w_c8 : (Jvm.Cond.code ({ cls := "com/example/brisk_dedup/briskdedup/engine/Sides", name := "partners", desc := "(I)[J" } : Jvm.MethodName) prog_68_method_5_code (2 : Nat) (Option.some (Jvm.ClassFile.FieldType.array Jvm.ClassFile.FieldType.long))).before args0 about1 = true := code_word (m := ⟨2, 3⟩) (meth := k2m3) (c := k2c3) (by decide +kernel) rfl rfl rfl (by decide +kernel)
def codes1 : List Jvm.Cond := [Jvm.Cond.code x code maxLocals ret, Jvm.Cond.code ({ cls := "com/example/brisk_dedup/briskdedup/engine/SidesOfPinLaw", name := "allBoth", desc := "()[B" } : Jvm.MethodName) method_5_code (1 : Nat) (Option.some (Jvm.ClassFile.FieldType.array Jvm.ClassFile.FieldType.byte)), Jvm.Cond.code ({ cls := "com/example/brisk_dedup/briskdedup/engine/Sides", name := "of", desc := "([B)Lcom/example/brisk_dedup/briskdedup/engine/Sides;" } : Jvm.MethodName) prog_68_method_3_code (5 : Nat) (Option.some (Jvm.ClassFile.FieldType.object "com/example/brisk_dedup/briskdedup/engine/Sides")), Jvm.Cond.code ({ cls := "com/example/brisk_dedup/briskdedup/engine/Sides", name := "<init>", desc := "([B[J[J)V" } : Jvm.MethodName) prog_68_method_1_code (4 : Nat) (Option.none : Option Jvm.ClassFile.FieldType), Jvm.Cond.code ({ cls := "java/lang/Object", name := "<init>", desc := "()V" } : Jvm.MethodName) object_method_1_code (1 : Nat) (Option.none : Option Jvm.ClassFile.FieldType), Jvm.Cond.code ({ cls := "com/example/brisk_dedup/briskdedup/engine/SidesOfPinLaw", name := "pick", desc := "(III)I" } : Jvm.MethodName) method_4_code (4 : Nat) (Option.some Jvm.ClassFile.FieldType.int), Jvm.Cond.code ({ cls := "com/example/brisk_dedup/briskdedup/engine/SidesOfPinLaw", name := "side", desc := "(IIIII)I" } : Jvm.MethodName) method_3_code (5 : Nat) (Option.some Jvm.ClassFile.FieldType.int), Jvm.Cond.code ({ cls := "com/example/brisk_dedup/briskdedup/engine/Sides", name := "mayPair", desc := "(II)Z" } : Jvm.MethodName) prog_68_method_4_code (3 : Nat) (Option.some Jvm.ClassFile.FieldType.boolean), Jvm.Cond.code ({ cls := "com/example/brisk_dedup/briskdedup/engine/Sides", name := "partners", desc := "(I)[J" } : Jvm.MethodName) prog_68_method_5_code (2 : Nat) (Option.some (Jvm.ClassFile.FieldType.array Jvm.ClassFile.FieldType.long))]
set_option maxRecDepth 65536 in
theorem codes_eq : words1.filter isCode = codes1 := rfl
theorem w_codes : ∀ c ∈ words1.filter isCode, c.before args0 about1 = true := by
  rw [codes_eq]
  intro c hc
  simp only [codes1, List.mem_cons, List.not_mem_nil, or_false] at hc
  rcases hc with rfl | rfl | rfl | rfl | rfl | rfl | rfl | rfl | rfl
  · exact w_c0
  · exact w_c1
  · exact w_c2
  · exact w_c3
  · exact w_c4
  · exact w_c5
  · exact w_c6
  · exact w_c7
  · exact w_c8
set_option maxRecDepth 65536 in
theorem w_t1 : (words1.take 24).all (fun c => isCode c || c.before args0 about1) = true := by decide +kernel
set_option maxRecDepth 65536 in
theorem w_t2 : ((words1.drop 24).take 24).all (fun c => isCode c || c.before args0 about1) = true := by decide +kernel
set_option maxRecDepth 65536 in
theorem w_t3 : ((words1.drop 24).drop 24).all (fun c => isCode c || c.before args0 about1) = true := by decide +kernel
theorem w_tables : (allAtoms (Jvm.Cond.code x code maxLocals ret :: tables_1)).before args0 about1 = true := by
  rw [allAtoms_all]
  show words1.all (fun c => c.before args0 about1) = true
  refine all_split ?_ w_codes
  rw [← List.take_append_drop 24 words1, List.all_append, w_t1, ← List.take_append_drop 24 (words1.drop 24), List.all_append, w_t2, w_t3]
  rfl
set_option maxRecDepth 65536 in
theorem w_case : (Jvm.Cond.and given_1 narrow_1).before args0 about1 = true := by decide +kernel
theorem w_applies : (headSpec (Jvm.Cond.code x code maxLocals ret :: tables_1) room_1).applies x e0.platform about1 = true :=
  (Spec.applies_iff w_frames).mpr ⟨w_running, w_runnable, w_alone, w_named, w_hears, w_ripe, w_room, w_tables⟩
theorem atStart : AtStart classFile x code maxLocals ret World_1 tables_1 room_1 Calls_1 rest_1 Pre_1 launch0 p0 e0 about1 theMethod args0 below0 :=
  ⟨lists_1, trivial, launch0.admits_env _ _ _, launch0.least_env, fairChoices_fair.cas, fairChoices_fair.clock, w_frames, w_args, w_heap, w_applies, trivial, trivial, w_case⟩
end start1
theorem witness_1 : WitnessClaimed_1 := ⟨start1.p0, start1.e0, start1.about1, start1.theMethod, start1.args0, start1.below0, start1.atStart⟩
end Jvm.Pilot.@@N@@
