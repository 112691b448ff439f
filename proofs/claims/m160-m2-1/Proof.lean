import JvmDerived
import JvmDerived.Pilot.@@N@@Statement
import JvmDerived.Pilot.@@N@@Code
set_option linter.unusedVariables false
set_option linter.unusedSimpArgs false
@@BLOCK:NumsL.lean.txt@@
@@BLOCK:Masks.lean.txt@@
@@BLOCK:Nums.lean.txt@@
namespace Jvm.Pilot.@@N@@
open Jvm Jvm.ClassFile Sem Op Lib Jvm.Free Jvm.Stand Jvm.LawKit Jvm.RoadKit Bundle Jvm.Pilot.@@N@@.Jvm.D
section Own
variable {p : Program} {l : Launch} {e : Env} {R : Room} {s : State} {m : MethodId} {args : Array Value} {below : List Frame} {meth : Method} {c : Code} {T T' : State} {locs : List Loc} {cells slots : Nat} {Z : State} {h h' : Heap} {n0 : Nat} {a0 : Array Value} {CC SS : Nat} {Q : Option Value → Heap → List Loc → Prop} {g g' : JFrame} {pc : Nat} {Ls : Array Slot} {rest st : List Value}
/-- from here the run comes to its end, and Q holds there -/
def own_Run (p : Program) (e : Env) (below : List Frame) (s : State) (CC SS : Nat) (Q : Option Value → Heap → List Loc → Prop) (T : State) (g : JFrame) : Prop :=
  ∃ s₂ o, Steps p.tables e below (T.setTop g) s₂ ∧ s₂.status = .running ∧ Ended s₂ below o ∧ ∃ v L, o = .returned v ∧ Q v s₂.heap L ∧ FrameEnd s o s₂ L CC SS
theorem own_run (sp : ∀ t, Steps p.tables e below (T'.setTop g') t → Steps p.tables e below (T.setTop g) t) (r : own_Run p e below s CC SS Q T' g') : own_Run p e below s CC SS Q T g := by
  obtain ⟨s₂, o, h1, r⟩ := r; exact ⟨s₂, o, sp _ h1, r⟩
theorem own_enter {ml : Nat} (q : entryFrame m args ml = g) (r : own_Run p e below s CC SS Q T g) : ∃ s₂ o, Steps p.tables e below (T.setTop (entryFrame m args ml)) s₂ ∧ s₂.status = .running ∧ Ended s₂ below o ∧ ∃ v L, o = .returned v ∧ Q v s₂.heap L ∧ FrameEnd s o s₂ L CC SS := by rw [q]; exact r
theorem own_retN {t : FieldType} {z : Int32} (X : Stand p l e R s m args below meth c T locs cells slots) (hx : p.tables.exec = Jvm.exec) (hlk : meth.locks = false) (hret : meth.sig.returnType = some t) (ht : t = .boolean ∨ t = .byte ∨ t = .char ∨ t = .short) (hd : decode c.code pc = .ok (.ireturn, 1)) (hc : cells ≤ CC) (hs : slots ≤ SS) (q : Q (some (.int (nar t z))) T.heap locs) : own_Run p e below s CC SS Q T (mkF m pc Ls (.int z :: rest)) := by
  obtain ⟨fs, hr, hrun, hended, hW, hsame⟩ := X.leave (v := some (.int (nar t z))) (fun h => by rw [hret] at h; cases h) hlk
  exact ⟨_, _, retN X hx hret ht hd hr, hrun, hended, _, _, rfl, q, ⟨_, rfl⟩, hW, hsame.mono hc hs⟩
theorem own_retI {z : Int32} (X : Stand p l e R s m args below meth c T locs cells slots) (hx : p.tables.exec = Jvm.exec) (hlk : meth.locks = false) (hret : meth.sig.returnType = some .int) (hd : decode c.code pc = .ok (.ireturn, 1)) (hc : cells ≤ CC) (hs : slots ≤ SS) (q : Q (some (.int z)) T.heap locs) : own_Run p e below s CC SS Q T (mkF m pc Ls (.int z :: rest)) := by
  obtain ⟨fs, hr, hrun, hended, hW, hsame⟩ := X.leave (v := some (.int z)) (fun h => by rw [hret] at h; cases h) hlk
  refine ⟨_, _, ?_, hrun, hended, _, _, rfl, q, ⟨_, rfl⟩, hW, hsame.mono hc hs⟩
  have hm' : T.vm.method? m = some meth := X.method'
  have hn : narrow .int (.int z) = .int z := rfl
  show Steps p.tables e below (T.setTop { method := m, pc := pc, locals := Ls, stack := _ :: rest, locked := none }) _
  jvm_step X.here [X.here.top, hx, hd, hm', hret, hn]
  first | (intro acts; rw [hr _ acts rfl rfl rfl]) | rw [hr _ _ rfl rfl rfl]
  exact Steps.refl _
theorem own_retL {z : Int64} (X : Stand p l e R s m args below meth c T locs cells slots) (hx : p.tables.exec = Jvm.exec) (hlk : meth.locks = false) (hret : meth.sig.returnType = some .long) (hd : decode c.code pc = .ok (.lreturn, 1)) (hc : cells ≤ CC) (hs : slots ≤ SS) (q : Q (some (.long z)) T.heap locs) : own_Run p e below s CC SS Q T (mkF m pc Ls [.long z]) := by
  obtain ⟨fs, hr, hrun, hended, hW, hsame⟩ := X.leave (v := some (.long z)) (fun h => by rw [hret] at h; cases h) hlk
  exact ⟨_, _, X.lreturnOut hx hret hd hr, hrun, hended, _, _, rfl, q, ⟨_, rfl⟩, hW, hsame.mono hc hs⟩
theorem own_retV (X : Stand p l e R s m args below meth c T locs cells slots) (hx : p.tables.exec = Jvm.exec) (hlk : meth.locks = false) (hret : meth.sig.returnType = none) (hd : decode c.code pc = .ok (.return_, 1)) (hc : cells ≤ CC) (hs : slots ≤ SS) (q : Q none T.heap locs) : own_Run p e below s CC SS Q T (mkF m pc Ls []) := by
  obtain ⟨fs, hr, hrun, hended, hW, hsame⟩ := X.leave (v := none) (fun _ => rfl) hlk
  exact ⟨_, _, X.returnOut hx hret hd hr, hrun, hended, _, _, rfl, q, ⟨_, rfl⟩, hW, hsame.mono hc hs⟩
theorem own_retR {v : Value} {t : FieldType} (X : Stand p l e R s m args below meth c T locs cells slots) (hx : p.tables.exec = Jvm.exec) (hlk : meth.locks = false) (hret : meth.sig.returnType = some t) (ht : t.isReference = true) (hv : v.isRef = true) (hd : decode c.code pc = .ok (.areturn, 1)) (hc : cells ≤ CC) (hs : slots ≤ SS) (q : Q (some v) T.heap locs) : own_Run p e below s CC SS Q T (mkF m pc Ls (v :: rest)) := by
  obtain ⟨fs, hr, hrun, hended, hW, hsame⟩ := X.leave (v := some v) (fun h => by rw [hret] at h; cases h) hlk
  refine ⟨_, _, ?_, hrun, hended, _, _, rfl, q, ⟨_, rfl⟩, hW, hsame.mono hc hs⟩
  have hm' : T.vm.method? m = some meth := X.method'
  show Steps p.tables e below (T.setTop { method := m, pc := pc, locals := Ls, stack := _ :: rest, locked := none }) _
  jvm_step X.here [X.here.top, hx, hd, hm', hret, ht, hv]
  first | (intro acts; rw [hr _ acts rfl rfl rfl]) | rw [hr _ _ rfl rfl rfl]
  exact Steps.refl _
theorem own_clt {x y : Int64} (q : x < y) : ifCond.holds .lt (XT.cmpL x y) = true ∧ ifCond.holds .ge (XT.cmpL x y) = false := by
  have q' : XT.cmpL x y < 0 := (lw_lt x y).mpr q
  exact ⟨(if0 _ _).trans (tlt q').1, (if0 _ _).trans (tlt q').2.1⟩
theorem own_cnlt {x y : Int64} (q : ¬ x < y) : ifCond.holds .lt (XT.cmpL x y) = false ∧ ifCond.holds .ge (XT.cmpL x y) = true := by
  have q' : ¬ XT.cmpL x y < 0 := fun z => q ((lw_lt x y).mp z)
  exact ⟨(if0 _ _).trans (flt q').1, (if0 _ _).trans (flt q').2.1⟩
theorem own_cgt {x y : Int64} (q : y < x) : ifCond.holds .gt (XT.cmpL x y) = true ∧ ifCond.holds .le (XT.cmpL x y) = false := by
  have q' : 0 < XT.cmpL x y := (lw_gt x y).mpr q
  exact ⟨(if0 _ _).trans (tlt q').2.2.1, (if0 _ _).trans (tlt q').2.2.2⟩
theorem own_cngt {x y : Int64} (q : ¬ y < x) : ifCond.holds .gt (XT.cmpL x y) = false ∧ ifCond.holds .le (XT.cmpL x y) = true := by
  have q' : ¬ 0 < XT.cmpL x y := fun z => q ((lw_gt x y).mp z)
  exact ⟨(if0 _ _).trans (flt q').2.2.1, (if0 _ _).trans (flt q').2.2.2⟩
theorem own_ceq {x y : Int64} (q : x = y) : ifCond.holds .eq (XT.cmpL x y) = true ∧ ifCond.holds .ne (XT.cmpL x y) = false := by
  have q' : XT.cmpL x y = 0 := (lw_eq x y).mpr q
  exact ⟨(if0 _ _).trans (teq q').1, (if0 _ _).trans (teq q').2⟩
theorem own_cneq {x y : Int64} (q : ¬ x = y) : ifCond.holds .eq (XT.cmpL x y) = false ∧ ifCond.holds .ne (XT.cmpL x y) = true := by
  have q' : ¬ XT.cmpL x y = 0 := fun z => q ((lw_eq x y).mp z)
  exact ⟨(if0 _ _).trans (feq q').1, (if0 _ _).trans (feq q').2⟩
theorem own_rem (x y : Int32) : x - (x / y) * y = x % y := by
  have a := (x % y).toInt_lt; have b := (x % y).le_toInt
  rw [Int32.toInt_mod] at a b
  apply Int32.toInt_inj.mp
  rw [Int32.toInt_mod, Int32.toInt_sub, Int32.toInt_mul, Int32.toInt_div, Int.bmod_mul_bmod, Int.sub_bmod_bmod, Int.mul_comm, ← Int.tmod_def]
  exact Jvm.Kit.bmod32 b a
theorem own_irem {tb : Tables} [Ours tb] {e : Env} {below : List Frame} {T target : State} {m : MethodId} {c : Code} {g : JFrame} (h : At T m c below) (hx : tb.exec = Jvm.exec) (hg : g.method = m) {x y : Int32} {rest : List Value} (hd : decode c.code g.pc = .ok (.irem, 1)) (hs : g.stack = .int y :: .int x :: rest) (hy : y ≠ 0)
    (hr : Steps tb e below (T.setTop { g with pc := g.pc + 1, stack := .int (x % y) :: rest }) target) : Steps tb e below (T.setTop g) target := XS.irem h hx hg hd hs hy (by rw [own_rem]; exact hr)
theorem own_ldcI {own : String} {index : Nat} {x : Int32} (X : Stand p l e R s m args below meth c T locs cells slots) (hx : p.tables.exec = Jvm.exec) (hZ : Z.Warmed39 s.vm) (hown : s.vm.findClass own = some m.cls) (w : (Cond.constant own index x).before a0 Z = true) (hd : decode c.code pc = .ok (.ldc index, 2)) (k : own_Run p e below s CC SS Q T (mkF m (pc + 2) Ls (.int x :: rest))) : own_Run p e below s CC SS Q T (mkF m pc Ls rest) :=
  own_run (X.ldcInt hx hown (mvT hZ w) (g := mkF m pc Ls rest) rfl hd) k
theorem own_ldcwI {own : String} {index : Nat} {x : Int32} (X : Stand p l e R s m args below meth c T locs cells slots) (hx : p.tables.exec = Jvm.exec) (hZ : Z.Warmed39 s.vm) (hown : s.vm.findClass own = some m.cls) (w : (Cond.constant own index x).before a0 Z = true) (hd : decode c.code pc = .ok (.ldc_w index, 3)) (k : own_Run p e below s CC SS Q T (mkF m (pc + 3) Ls (.int x :: rest))) : own_Run p e below s CC SS Q T (mkF m pc Ls rest) :=
  own_run (X.ldcwInt hx hown (mvT hZ w) (g := mkF m pc Ls rest) rfl hd) k
theorem own_ldcL {own : String} {index : Nat} {x : Int64} (X : Stand p l e R s m args below meth c T locs cells slots) (hx : p.tables.exec = Jvm.exec) (hZ : Z.Warmed39 s.vm) (hown : s.vm.findClass own = some m.cls) (w : (Cond.constantLong own index x).before a0 Z = true) (hd : decode c.code pc = .ok (.ldc2_w index, 3)) (k : own_Run p e below s CC SS Q T (mkF m (pc + 3) Ls (.long x :: rest))) : own_Run p e below s CC SS Q T (mkF m pc Ls rest) :=
  own_run (X.ldc2Long hx hown (mvT hZ w) (g := mkF m pc Ls rest) rfl hd) k
/-- an array of ints or bytes: its length and what it holds -/
def own_A (Z : State) (h : Heap) (a : Addr) (ty : FieldType) (n : Int32) (xs : List Int32) : Prop :=
  xs.length = n.toNatClampNeg ∧ ∃ k, Arv Z h a k ty n (xs.map Value.int) (.int (0 : Int32))
variable {a b : Addr} {ty : FieldType} {n j x : Int32} {xs ys : List Int32} {sl : Nat} {v : Value} {ws : List Addr}
theorem own_A.lt (A : own_A Z h a ty n xs) : a < h.size := by obtain ⟨-, k, V⟩ := A; exact V.lt
theorem own_A.ext (A : own_A Z h a ty n xs) (E : Ext h h') : own_A Z h' a ty n xs := ⟨A.1, A.2.imp fun _ V => V.ext E⟩
theorem own_A.other (A : own_A Z h b ty n xs) (W : Wr h h' a sl v) (q : b ≠ a) : own_A Z h' b ty n xs := ⟨A.1, A.2.imp fun _ V => V.other W q⟩
theorem own_A.keep (A : own_A Z h a ty n xs) (K : Keep h h' ws) (q : a ∉ ws) : own_A Z h' a ty n xs := ⟨A.1, A.2.imp fun _ V => V.keep K q⟩
theorem own_A.nn (A : own_A Z h a ty n xs) : ¬ n < 0 := by obtain ⟨-, k, cl, -, -, -, q, -⟩ := A; exact q
theorem own_A.to (A : own_A Z h a ty n xs) (q : xs = ys) : own_A Z h a ty n ys := q ▸ A
theorem own_lt_clamp {j n : Int32} (hj : ¬ j < 0 ∧ j < n) : j.toNatClampNeg < n.toNatClampNeg := by
  obtain ⟨q1, q2⟩ := hj
  rw [Int32.lt_iff_toInt_lt] at q1 q2
  have e0 : (0 : Int32).toInt = 0 := rfl
  simp only [Int32.toNatClampNeg] at *; omega
theorem own_newA {aty : ArrayType} {cap : Nat} (X : Stand p l e R s m args below meth c T locs cells slots) (hx : p.tables.exec = Jvm.exec) (hZ : Z.Warmed39 s.vm) (w : (Cond.arrayClass (newarray.typeOf aty)).before a0 Z = true) (hty : newarray.typeOf aty = ty) (hdv : defaultValue ty = .int 0) (eT : T.heap = h) (hd : decode c.code pc = .ok (.newarray aty, 2)) (hn : ¬ n < 0) (hcap : n.toNatClampNeg ≤ cap) (hb : cap * 8 ≤ 536870912) (hc : cells + 1 ≤ R.cells) (hl : slots + cap ≤ R.slots)
    (k : ∀ T' h' b, b = h.size → Stand p l e R s m args below meth c T' locs (cells + 1) (slots + cap) → T'.heap = h' → Ext h h' → own_A Z h' b ty n (List.replicate n.toNatClampNeg 0) → own_Run p e below s CC SS Q T' (mkF m (pc + 2) Ls (.ref b :: rest))) :
    own_Run p e below s CC SS Q T (mkF m pc Ls (.int n :: rest)) := by
  obtain ⟨T', h', cA, X', e', E', A', sp⟩ := newP X hx hZ w eT (g := mkF m pc Ls (.int n :: rest)) rfl hd rfl hn hcap hb hc hl
  subst hty
  refine own_run sp (k T' h' _ rfl X' e' E' ⟨by simp, cA, ?_⟩)
  have V := Arv.new A' hn
  rw [hdv] at V
  have q := V.pad (pad_rep [] (.int 0) n.toNatClampNeg)
  simpa using q
theorem own_len (X : Stand p l e R s m args below meth c T locs cells slots) (hx : p.tables.exec = Jvm.exec) (hZ : Z.Warmed39 s.vm) (eT : T.heap = h) (A : own_A Z h a ty n xs) (hd : decode c.code pc = .ok (.arraylength, 1)) (k : own_Run p e below s CC SS Q T (mkF m (pc + 1) Ls (.int n :: rest))) : own_Run p e below s CC SS Q T (mkF m pc Ls (.ref a :: rest)) := by
  obtain ⟨hl, kk, cl, Ar, q1, Sz, Nn, H, G⟩ := A
  refine own_run (fun t kt => X.arraylength hx (by rw [eT]; exact Ar.1) (State.isArrayOf_alike hZ.alike Ar.2.1) (g := mkF m pc Ls (.ref a :: rest)) rfl rfl hd t (by rw [len_of Sz Nn]; exact kt)) k
theorem own_getD (xs : List Int32) (i : Nat) : (xs.map Value.int).getD i (.int 0) = .int (xs.getD i 0) := by
  simp only [List.getD_eq_getElem?_getD, List.getElem?_map]; cases xs[i]? <;> rfl
theorem own_ldI (X : Stand p l e R s m args below meth c T locs cells slots) (hx : p.tables.exec = Jvm.exec) (hZ : Z.Warmed39 s.vm) (eT : T.heap = h) (A : own_A Z h a .int n xs) (hj : ¬ j < 0 ∧ j < n) (hd : decode c.code pc = .ok (.iaload, 1)) (hv : xs.getD j.toNatClampNeg 0 = x) (k : own_Run p e below s CC SS Q T (mkF m (pc + 1) Ls (.int x :: rest))) : own_Run p e below s CC SS Q T (mkF m pc Ls (.int j :: .ref a :: rest)) := by
  obtain ⟨hl, kk, cl, Ar, q1, Sz, Nn, H, G⟩ := A
  have hin := inb_of Sz hj
  refine own_run (fun t kt => X.iaload hx (j := j) (v := .int x) (by rw [eT]; exact Ar.1) (State.isArrayOf_alike hZ.alike Ar.2.1) Ar.2.2 hin (H.at hin (by rw [own_getD, hv])) (g := mkF m pc Ls (.int j :: .ref a :: rest)) rfl rfl hd t kt) k
theorem own_ldB (X : Stand p l e R s m args below meth c T locs cells slots) (hx : p.tables.exec = Jvm.exec) (hZ : Z.Warmed39 s.vm) (eT : T.heap = h) (A : own_A Z h a .byte n xs) (hj : ¬ j < 0 ∧ j < n) (hd : decode c.code pc = .ok (.baload, 1)) (hv : xs.getD j.toNatClampNeg 0 = x) (k : own_Run p e below s CC SS Q T (mkF m (pc + 1) Ls (.int x :: rest))) : own_Run p e below s CC SS Q T (mkF m pc Ls (.int j :: .ref a :: rest)) := by
  obtain ⟨hl, kk, cl, Ar, q1, Sz, Nn, H, G⟩ := A
  have hin := inb_of Sz hj
  refine own_run (fun t kt => X.baloadBytes hx (j := j) (v := .int x) (by rw [eT]; exact Ar.1) (State.isArrayOf_alike hZ.alike Ar.2.1) Ar.2.2 hin (H.at hin (by rw [own_getD, hv])) (g := mkF m pc Ls (.int j :: .ref a :: rest)) rfl rfl hd t kt) k
theorem own_map_set (xs : List Int32) (i : Nat) (x : Int32) : (xs.map Value.int).set i (.int x) = (xs.set i x).map Value.int := by rw [List.map_set]
theorem own_stI (X : Stand p l e R s m args below meth c T locs cells slots) (hx : p.tables.exec = Jvm.exec) (hZ : Z.Warmed39 s.vm) (eT : T.heap = h) (A : own_A Z h a .int n xs) (hj : ¬ j < 0 ∧ j < n) (N : Fr n0 locs) (ga : n0 ≤ a) (hd : decode c.code pc = .ok (.iastore, 1)) (hys : xs.set j.toNatClampNeg x = ys)
    (k : ∀ T' h' locs', Stand p l e R s m args below meth c T' locs' cells slots → Fr n0 locs' → T'.heap = h' → Wr h h' a j.toNatClampNeg (.int x) → own_A Z h' a .int n ys → own_Run p e below s CC SS Q T' (mkF m (pc + 1) Ls rest)) : own_Run p e below s CC SS Q T (mkF m pc Ls (.int x :: .int j :: .ref a :: rest)) := by
  obtain ⟨hl, kk, cl, Ar, q1, Sz, Nn, H, G⟩ := A
  have hin := inb_of Sz hj
  obtain ⟨T', h', X', e', W, sp⟩ := stI X hx hZ eT Ar (j := j) (x := x) hin (g := mkF m pc Ls (.int x :: .int j :: .ref a :: rest)) rfl rfl hd
  have V := Arv.set Ar q1 Sz Nn H G (show fits .int (.int x) = true from rfl) W _ rfl (by rw [List.length_map, hl]; exact own_lt_clamp hj)
  refine own_run sp (k T' h' _ X' (Fr.snoc X' N ga) e' W ⟨by rw [← hys, List.length_set]; exact hl, kk, ?_⟩)
  rw [← hys, ← own_map_set]; exact V
theorem own_stB (X : Stand p l e R s m args below meth c T locs cells slots) (hx : p.tables.exec = Jvm.exec) (hZ : Z.Warmed39 s.vm) (eT : T.heap = h) (A : own_A Z h a .byte n xs) (hj : ¬ j < 0 ∧ j < n) (N : Fr n0 locs) (ga : n0 ≤ a) (hd : decode c.code pc = .ok (.bastore, 1)) (hys : xs.set j.toNatClampNeg (nar .byte x) = ys)
    (k : ∀ T' h' locs', Stand p l e R s m args below meth c T' locs' cells slots → Fr n0 locs' → T'.heap = h' → Wr h h' a j.toNatClampNeg (.int (nar .byte x)) → own_A Z h' a .byte n ys → own_Run p e below s CC SS Q T' (mkF m (pc + 1) Ls rest)) : own_Run p e below s CC SS Q T (mkF m pc Ls (.int x :: .int j :: .ref a :: rest)) := by
  obtain ⟨hl, kk, cl, Ar, q1, Sz, Nn, H, G⟩ := A
  have hin := inb_of Sz hj
  obtain ⟨T', h', X', e', W, sp⟩ := stB X hx hZ eT Ar (j := j) (x := x) hin (g := mkF m pc Ls (.int x :: .int j :: .ref a :: rest)) rfl rfl hd
  have V := Arv.set Ar q1 Sz Nn H G (fits_nar_byte x) W _ rfl (by rw [List.length_map, hl]; exact own_lt_clamp hj)
  refine own_run sp (k T' h' _ X' (Fr.snoc X' N ga) e' W ⟨by rw [← hys, List.length_set]; exact hl, kk, ?_⟩)
  rw [← hys, ← own_map_set]; exact V
/-- an array of which only the length is said -/
def own_L (Z : State) (h : Heap) (a : Addr) (n : Int32) : Prop := ∃ (ty : FieldType) (k : ClassId) (vs : List Value) (d : Value), Arv Z h a k ty n vs d
theorem own_L.lt (A : own_L Z h a n) : a < h.size := by obtain ⟨_, _, _, _, V⟩ := A; exact V.lt
theorem own_L.ext (A : own_L Z h a n) (E : Ext h h') : own_L Z h' a n := by obtain ⟨_, _, _, _, V⟩ := A; exact ⟨_, _, _, _, V.ext E⟩
theorem own_L.other (A : own_L Z h b n) (W : Wr h h' a sl v) (q : b ≠ a) : own_L Z h' b n := by obtain ⟨_, _, _, _, V⟩ := A; exact ⟨_, _, _, _, V.other W q⟩
theorem own_L.keep (A : own_L Z h a n) (K : Keep h h' ws) (q : a ∉ ws) : own_L Z h' a n := by obtain ⟨_, _, _, _, V⟩ := A; exact ⟨_, _, _, _, V.keep K q⟩
theorem own_A.toL (A : own_A Z h a ty n xs) : own_L Z h a n := by obtain ⟨-, k, V⟩ := A; exact ⟨_, _, _, _, V⟩
theorem own_newL {aty : ArrayType} {cap : Nat} (X : Stand p l e R s m args below meth c T locs cells slots) (hx : p.tables.exec = Jvm.exec) (hZ : Z.Warmed39 s.vm) (w : (Cond.arrayClass (newarray.typeOf aty)).before a0 Z = true) (eT : T.heap = h) (hd : decode c.code pc = .ok (.newarray aty, 2)) (hn : ¬ n < 0) (hcap : n.toNatClampNeg ≤ cap) (hb : cap * 8 ≤ 536870912) (hc : cells + 1 ≤ R.cells) (hl : slots + cap ≤ R.slots)
    (k : ∀ T' h' b, b = h.size → Stand p l e R s m args below meth c T' locs (cells + 1) (slots + cap) → T'.heap = h' → Ext h h' → own_L Z h' b n → own_Run p e below s CC SS Q T' (mkF m (pc + 2) Ls (.ref b :: rest))) :
    own_Run p e below s CC SS Q T (mkF m pc Ls (.int n :: rest)) := by
  obtain ⟨T', h', cA, X', e', E', A', sp⟩ := newP X hx hZ w eT (g := mkF m pc Ls (.int n :: rest)) rfl hd rfl hn hcap hb hc hl
  exact own_run sp (k T' h' _ rfl X' e' E' ⟨_, _, _, _, Arv.new A' hn⟩)
theorem own_lenL (X : Stand p l e R s m args below meth c T locs cells slots) (hx : p.tables.exec = Jvm.exec) (hZ : Z.Warmed39 s.vm) (eT : T.heap = h) (A : own_L Z h a n) (hd : decode c.code pc = .ok (.arraylength, 1)) (k : own_Run p e below s CC SS Q T (mkF m (pc + 1) Ls (.int n :: rest))) : own_Run p e below s CC SS Q T (mkF m pc Ls (.ref a :: rest)) := by
  obtain ⟨ty, kk, vs, d, cl, Ar, q1, Sz, Nn, H, G⟩ := A
  refine own_run (fun t kt => X.arraylength hx (by rw [eT]; exact Ar.1) (State.isArrayOf_alike hZ.alike Ar.2.1) (g := mkF m pc Ls (.ref a :: rest)) rfl rfl hd t (by rw [len_of Sz Nn]; exact kt)) k
/-- an array of references that holds nothing but null -/
def own_U (Z : State) (h : Heap) (a : Addr) (n : Int32) : Prop := ∃ (C : String) (k : ClassId), Arv Z h a k (.object C) n [] .null
theorem own_U.lt (A : own_U Z h a n) : a < h.size := by obtain ⟨_, _, V⟩ := A; exact V.lt
theorem own_U.ext (A : own_U Z h a n) (E : Ext h h') : own_U Z h' a n := by obtain ⟨_, _, V⟩ := A; exact ⟨_, _, V.ext E⟩
theorem own_U.toL (A : own_U Z h a n) : own_L Z h a n := by obtain ⟨_, _, V⟩ := A; exact ⟨_, _, _, _, V⟩
theorem own_newU {own K : String} {index cap : Nat} (X : Stand p l e R s m args below meth c T locs cells slots) (hx : p.tables.exec = Jvm.exec) (hZ : Z.Warmed39 s.vm) (hown : s.vm.findClass own = some m.cls) (w1 : (Cond.classLink own index K).before a0 Z = true) (w2 : (Cond.arrayOver (.object K)).before a0 Z = true) (eT : T.heap = h) (hd : decode c.code pc = .ok (.anewarray index, 3)) (hn : ¬ n < 0) (hcap : n.toNatClampNeg ≤ cap) (hb : cap * 8 ≤ 536870912) (hc : cells + 1 ≤ R.cells) (hl : slots + cap ≤ R.slots)
    (k : ∀ T' h' b, b = h.size → Stand p l e R s m args below meth c T' locs (cells + 1) (slots + cap) → T'.heap = h' → Ext h h' → own_U Z h' b n → own_Run p e below s CC SS Q T' (mkF m (pc + 3) Ls (.ref b :: rest))) :
    own_Run p e below s CC SS Q T (mkF m pc Ls (.int n :: rest)) := by
  obtain ⟨T', h', cA, X', e', E', A', -, sp⟩ := newR X hx hZ hown w1 w2 eT (g := mkF m pc Ls (.int n :: rest)) rfl hd rfl hn hcap hb hc hl
  exact own_run sp (k T' h' _ rfl X' e' E' ⟨_, _, Arv.new A' hn⟩)
theorem own_ldU (X : Stand p l e R s m args below meth c T locs cells slots) (hx : p.tables.exec = Jvm.exec) (hZ : Z.Warmed39 s.vm) (eT : T.heap = h) (A : own_U Z h a n) (hj : ¬ j < 0 ∧ j < n) (hd : decode c.code pc = .ok (.aaload, 1)) (k : own_Run p e below s CC SS Q T (mkF m (pc + 1) Ls (.null :: rest))) : own_Run p e below s CC SS Q T (mkF m pc Ls (.int j :: .ref a :: rest)) := by
  obtain ⟨C, kk, cl, Ar, q1, Sz, Nn, H, G⟩ := A
  have hin := inb_of Sz hj
  refine own_run (fun t kt => X.aaload hx (j := j) (v := .null) (by rw [eT]; exact Ar.1) (State.isArrayOf_alike hZ.alike Ar.2.1) rfl Ar.2.2 hin (H.at hin (by simp)) (g := mkF m pc Ls (.int j :: .ref a :: rest)) rfl rfl hd t kt) k
/-- new -/
theorem own_new {own K : String} {index sz : Nat} (X : Stand p l e R s m args below meth c T locs cells slots) (hx : p.tables.exec = Jvm.exec) (hZ : Z.Warmed39 s.vm) (hown : s.vm.findClass own = some m.cls) (w : (Cond.classLink own index K).before a0 Z = true) (wi : (Cond.instantiable K sz).before a0 Z = true) (wz : (Cond.initialized K).before a0 Z = true) (eT : T.heap = h) (hd : decode c.code pc = .ok (.new index, 3)) (hc : cells + 1 ≤ R.cells) (hl : slots + sz ≤ R.slots)
    (k : ∀ T' h' b, b = h.size → Stand p l e R s m args below meth c T' locs (cells + 1) (slots + sz) → T'.heap = h' → Ext h h' → Exa Z h' b K → (∀ {O nm d : String} {ty : FieldType}, Laid Z a0 K O nm d → parseFieldDescriptor d = some ty → Fld Z h' b O nm d (defaultValue ty)) → own_Run p e below s CC SS Q T' (mkF m (pc + 3) Ls (.ref b :: rest))) :
    own_Run p e below s CC SS Q T (mkF m pc Ls rest) := by
  obtain ⟨T', h', X', e', E', A', D', -, sp⟩ := newO X hx hZ hown w wi wz eT (g := mkF m pc Ls rest) rfl hd hc hl
  exact own_run sp (k T' h' _ rfl X' e' E' A' D')
theorem own_getF {own R0 O nm d host : String} {index : Nat} (X : Stand p l e R s m args below meth c T locs cells slots) (hx : p.tables.exec = Jvm.exec) (hZ : Z.Warmed39 s.vm) (hown : s.vm.findClass own = some m.cls) (w : (Cond.fieldLink own index R0 nm d).before a0 Z = true ∨ (Cond.fieldLinkNest own index R0 nm d host).before a0 Z = true) (via : Via Z R0 O nm d) (eT : T.heap = h) (F : Fld Z h a O nm d v) (hd : decode c.code pc = .ok (.getfield index, 3))
    (k : ∀ T', Stand p l e R s m args below meth c T' locs cells slots → T'.heap = h → own_Run p e below s CC SS Q T' (mkF m (pc + 3) Ls (v :: rest))) : own_Run p e below s CC SS Q T (mkF m pc Ls (.ref a :: rest)) := by
  obtain ⟨T', X', e', sp⟩ := getF X hx hZ hown w via eT F (g := mkF m pc Ls (.ref a :: rest)) rfl rfl hd
  exact own_run sp (k T' X' e')
theorem own_getS {own R0 O nm d : String} {index : Nat} (X : Stand p l e R s m args below meth c T locs cells slots) (hx : p.tables.exec = Jvm.exec) (hZ : Z.Warmed39 s.vm) (hown : s.vm.findClass own = some m.cls) (w : (Cond.fieldLink own index R0 nm d).before a0 Z = true) (via : Via Z R0 O nm d) (eT : T.heap = h) (F : Sta Z h O nm d v) (hd : decode c.code pc = .ok (.getstatic index, 3))
    (k : ∀ T', Stand p l e R s m args below meth c T' locs cells slots → T'.heap = h → own_Run p e below s CC SS Q T' (mkF m (pc + 3) Ls (v :: rest))) : own_Run p e below s CC SS Q T (mkF m pc Ls rest) := by
  obtain ⟨T', X', e', sp⟩ := getS (host := "") X hx hZ hown w via eT F (g := mkF m pc Ls rest) rfl hd
  exact own_run sp (k T' X' e')
theorem own_StaKeep {O nm d K : String} (F : Sta Z h O nm d v) (Kp : Keep h h' [a]) (E : Exa Z h a K) : Sta Z h' O nm d v := by
  obtain ⟨cf, i, k, f, st, cell, h1, h2, h3, h4, h5, h6, h7⟩ := F
  obtain ⟨cell', k', q1, -, -, q4, -⟩ := E
  have ne : st ≠ a := fun e => by subst e; cases h5.symm.trans q1; rw [h6] at q4; cases q4
  exact ⟨cf, i, k, f, st, cell, h1, h2, h3, h4, Kp.2.1 _ _ h5 (ninS ne nin0), h6, h7⟩
theorem own_StaKeepA {O nm d : String} (F : Sta Z h O nm d v) (Kp : Keep h h' [a]) (A : own_A Z h a ty n xs) : Sta Z h' O nm d v := by
  obtain ⟨cf, i, k, f, st, cell, h1, h2, h3, h4, h5, h6, h7⟩ := F
  obtain ⟨-, kk, cl, Ar, -⟩ := A
  have q4 := Ar.plain
  have ne : st ≠ a := fun e => by subst e; cases h5.symm.trans Ar.1; rw [h6] at q4; cases q4
  exact ⟨cf, i, k, f, st, cell, h1, h2, h3, h4, Kp.2.1 _ _ h5 (ninS ne nin0), h6, h7⟩
theorem own_putF {own R0 O nm d host K : String} {index kk : Nat} {old : Value} (X : Stand p l e R s m args below meth c T locs cells slots) (hx : p.tables.exec = Jvm.exec) (hZ : Z.Warmed39 s.vm) (hown : s.vm.findClass own = some m.cls) (w : (Cond.fieldLink own index R0 nm d).before a0 Z = true ∨ (Cond.fieldLinkNest own index R0 nm d host).before a0 Z = true) (via : Via Z R0 O nm d) (eT : T.heap = h) (F : Fld Z h a O nm d old) (E : Exa Z h a K) (L : (Cond.lays K O nm d).before a0 Z = true ∨ ((Cond.laysFinal K O nm d).before a0 Z = true ∧ own = O ∧ meth.name = "<init>")) (wi : (Cond.instantiable K kk).before a0 Z = true) (hty : parseFieldDescriptor d = some ty) (hn : narrow ty v = v) (hf : fits ty v = true) (N : Fr n0 locs) (ga : n0 ≤ a) (hd : decode c.code pc = .ok (.putfield index, 3))
    (k : ∀ T' h' locs', Stand p l e R s m args below meth c T' locs' cells slots → Fr n0 locs' → T'.heap = h' → Wr h h' a (Jvm.RoadKit.slotOf Z O nm d) v → Fld Z h' a O nm d v → own_Run p e below s CC SS Q T' (mkF m (pc + 3) Ls rest)) : own_Run p e below s CC SS Q T (mkF m pc Ls (v :: .ref a :: rest)) := by
  obtain ⟨T', h', X', e', W, sp⟩ := putF X hx hZ hown w via eT F E L wi hty hn hf (g := mkF m pc Ls (v :: .ref a :: rest)) rfl rfl hd
  exact own_run sp (k T' h' _ X' (Fr.snoc X' N ga) e' W (F.same W))
theorem own_initO {own : String} {index W : Nat} (X : Stand p l e R s m args below meth c T locs cells slots) (hx : p.tables.exec = Jvm.exec) (hZ : Z.Warmed39 s.vm) (hown : s.vm.findClass own = some m.cls) (w1 : (Cond.methodLink own index Lib.objectInit).before a0 Z = true) (w2 : (Cond.instanceMethod Lib.objectInit).before a0 Z = true) (w3 : (Cond.code Lib.objectInit ⟨#[0xb1]⟩ 1 none).before a0 Z = true) (eT : T.heap = h) (hsize : Ls.size = c.maxLocals) (hd : decode c.code pc = .ok (.invokespecial index, 3)) (hf : 1 ≤ R.frames) (hW : (rest.map fun v => v.category).sum ≤ W) (hl : W + 12 ≤ R.locals)
    (k : ∀ T', Stand p l e R s m args below meth c T' locs cells slots → T'.heap = h → own_Run p e below s CC SS Q T' (mkF m (pc + 3) Ls rest)) : own_Run p e below s CC SS Q T (mkF m pc Ls (.ref a :: rest)) := by
  obtain ⟨T', X', e', sp⟩ := initO X hx hZ hown w1 w2 w3 eT (g := mkF m pc Ls (.ref a :: rest)) rfl hsize rfl hd hf (W := W) (by show 2 * 0 + _ ≤ _; omega) hl
  exact own_run sp (k T' X' e')
variable {own : String} {index maxL W : Nat} {y z : MethodName} {bytes : ByteArray} {ret : Option FieldType} {rm : Room} {argsL : List Value} {Q' : Option Value → Heap → List Loc → Prop}
/-- a static method by its contract -/
theorem own_callS (X : Stand p l e R s m args below meth c T locs cells slots) (hx : p.tables.exec = Jvm.exec) (hZ : Z.Warmed39 s.vm) (hown : s.vm.findClass own = some m.cls) (w1 : (Cond.methodLink own index y).before a0 Z = true) (w2 : (Cond.static y).before a0 Z = true) (w3 : (Cond.initialized y.cls).before a0 Z = true) (w4 : (Cond.code y bytes maxL ret).before a0 Z = true) (hy : y.cls ≠ "java/lang/invoke/MethodHandle" ∧ y.cls ≠ "java/lang/invoke/VarHandle")
    (hM : MetFree l y (head1 [Cond.code y bytes maxL ret] rm) (fun a U => a = argsL.toArray ∧ Z.Warmed39 U.vm ∧ U.heap = h) (fun _ _ _ _ _ => True) (fun _ U o U' => ∃ v L, o = .returned v ∧ Q' v U'.heap L ∧ FrameEnd U o U' L rm.cells rm.slots)) (eT : T.heap = h) (hf : rm.frames + 1 ≤ R.frames) (hl : W + (maxL + 11) + rm.locals ≤ R.locals) (hcl : cells + rm.cells ≤ R.cells) (hsl : slots + rm.slots ≤ R.slots) (hsize : Ls.size = c.maxLocals)
    (hlen : ∀ sig, parseMethodDescriptor y.desc = some sig → argsL.length = sig.parameters.length) (hs : st = argsL.reverse ++ rest) (hW : (rest.map fun v => v.category).sum ≤ W) (hd : decode c.code pc = .ok (.invokestatic index, 3))
    (k : ∀ T' v L, Stand p l e R s m args below meth c T' (locs ++ L) (cells + rm.cells) (slots + rm.slots) → Q' v T'.heap L → own_Run p e below s CC SS Q T' (mkF m (pc + 3) Ls (v.toList ++ rest))) : own_Run p e below s CC SS Q T (mkF m pc Ls st) := by
  obtain ⟨v, _, ⟨T1, L1, k1, n1⟩, -, X1, ⟨Lc, hQ, l1, y1, z1⟩, sp⟩ := Jvm.LawKit.callS X hx hown (mvT hZ w1) (mvT hZ w2) (mvT hZ w3) (mvT hZ w4) hy (backOf (W := W) hM hZ w4 w3 hf hl) (g := mkF m pc Ls st) rfl hsize (argsL := argsL) (rest := rest) hlen hs (by show 2 * 0 + _ ≤ _; omega) hd (fun _ _ => ⟨rfl, eT, hcl, hsl⟩)
  dsimp only [Pt.U, Pt.locs, Pt.cells, Pt.slots] at X1 l1 y1 z1 sp hQ
  subst l1 y1 z1
  exact own_run sp (k T1 v Lc X1 hQ)
/-- a constructor by its contract -/
theorem own_callI (X : Stand p l e R s m args below meth c T locs cells slots) (hx : p.tables.exec = Jvm.exec) (hZ : Z.Warmed39 s.vm) (hown : s.vm.findClass own = some m.cls) (hy1 : y.name = "<init>") (w1 : (Cond.methodLink own index y).before a0 Z = true) (w2 : (Cond.instanceMethod y).before a0 Z = true) (w3 : (Cond.initialized y.cls).before a0 Z = true) (w4 : (Cond.code y bytes maxL none).before a0 Z = true) (hy : y.cls ≠ "java/lang/invoke/MethodHandle" ∧ y.cls ≠ "java/lang/invoke/VarHandle")
    (hM : MetFree l y (head1 [Cond.code y bytes maxL none] rm) (fun a U => a = (.ref b :: argsL).toArray ∧ Z.Warmed39 U.vm ∧ U.heap = h) (fun _ _ _ _ _ => True) (fun _ U o U' => ∃ v L, o = .returned v ∧ Q' v U'.heap L ∧ FrameEnd U o U' L rm.cells rm.slots)) (eT : T.heap = h) (hf : rm.frames + 1 ≤ R.frames) (hl : W + (maxL + 11) + rm.locals ≤ R.locals) (hcl : cells + rm.cells ≤ R.cells) (hsl : slots + rm.slots ≤ R.slots) (hsize : Ls.size = c.maxLocals)
    (hlen : ∀ sig, parseMethodDescriptor y.desc = some sig → argsL.length = sig.parameters.length) (hs : st = argsL.reverse ++ .ref b :: rest) (hW : (rest.map fun v => v.category).sum ≤ W) (hd : decode c.code pc = .ok (.invokespecial index, 3))
    (k : ∀ T' v L, Stand p l e R s m args below meth c T' (locs ++ L) (cells + rm.cells) (slots + rm.slots) → Q' v T'.heap L → own_Run p e below s CC SS Q T' (mkF m (pc + 3) Ls (v.toList ++ rest))) : own_Run p e below s CC SS Q T (mkF m pc Ls st) := by
  obtain ⟨v, _, ⟨T1, L1, k1, n1⟩, -, X1, ⟨Lc, hQ, l1, y1, z1⟩, sp⟩ := X.specialBack hx (y := y) hy1 hown (mvT hZ w1) (mvT hZ w2) (mvT hZ w4) hy (backOf (W := W) hM hZ w4 w3 hf hl) (g := mkF m pc Ls st) rfl hsize (Steps.refl _) (a := b) (argsL := argsL) (rest := rest) hlen hs (by show 2 * 0 + _ ≤ _; omega) hd (fun _ _ => ⟨rfl, eT, hcl, hsl⟩)
  dsimp only [Pt.U, Pt.locs, Pt.cells, Pt.slots] at X1 l1 y1 z1 sp hQ
  subst l1 y1 z1
  exact own_run (fun t kt => sp.trans kt) (k T1 v Lc X1 hQ)
/-- an instance method by its contract -/
theorem own_callV {K : String} (X : Stand p l e R s m args below meth c T locs cells slots) (hx : p.tables.exec = Jvm.exec) (hZ : Z.Warmed39 s.vm) (hown : s.vm.findClass own = some m.cls) (w1 : (Cond.methodLink own index y).before a0 Z = true) (w2 : (Cond.declares y).before a0 Z = true) (w5 : (Cond.selects K y y).before a0 Z = true) (w6 : (Cond.instanceMethod y).before a0 Z = true) (w3 : (Cond.initialized y.cls).before a0 Z = true) (w4 : (Cond.code y bytes maxL ret).before a0 Z = true) (hy : y.cls ≠ "java/lang/invoke/MethodHandle" ∧ y.cls ≠ "java/lang/invoke/VarHandle") (E : Exa Z h b K)
    (hM : MetFree l y (head1 [Cond.code y bytes maxL ret] rm) (fun a U => a = (.ref b :: argsL).toArray ∧ Z.Warmed39 U.vm ∧ U.heap = h) (fun _ _ _ _ _ => True) (fun _ U o U' => ∃ v L, o = .returned v ∧ Q' v U'.heap L ∧ FrameEnd U o U' L rm.cells rm.slots)) (eT : T.heap = h) (hf : rm.frames + 1 ≤ R.frames) (hl : W + (maxL + 11) + rm.locals ≤ R.locals) (hcl : cells + rm.cells ≤ R.cells) (hsl : slots + rm.slots ≤ R.slots) (hsize : Ls.size = c.maxLocals)
    (hlen : ∀ sig, parseMethodDescriptor y.desc = some sig → argsL.length = sig.parameters.length) (hs : st = argsL.reverse ++ .ref b :: rest) (hW : (rest.map fun v => v.category).sum ≤ W) (hd : decode c.code pc = .ok (.invokevirtual index, 3))
    (k : ∀ T' v L, Stand p l e R s m args below meth c T' (locs ++ L) (cells + rm.cells) (slots + rm.slots) → Q' v T'.heap L → own_Run p e below s CC SS Q T' (mkF m (pc + 3) Ls (v.toList ++ rest))) : own_Run p e below s CC SS Q T (mkF m pc Ls st) := by
  obtain ⟨cq, kq, qa, qb, qc⟩ := isOf hZ eT E
  obtain ⟨v, _, ⟨T1, L1, k1, n1⟩, -, X1, ⟨Lc, hQ, l1, y1, z1⟩, sp⟩ := X.virtualBack hx (y := y) (z := y) hown (mvT hZ w1) (mvT hZ w2) (notFace_of_selects (args := #[]) (mvT hZ w5)) (mvT hZ w5) (mvT hZ w6) hy (backOf (W := W) hM hZ w4 w3 hf hl) qa qc (g := mkF m pc Ls st) rfl hsize (Steps.refl _) (argsL := argsL) (rest := rest) hlen hs (by show 2 * 0 + _ ≤ _; omega) hd (fun _ _ => ⟨rfl, eT, hcl, hsl⟩)
  dsimp only [Pt.U, Pt.locs, Pt.cells, Pt.slots] at X1 l1 y1 z1 sp hQ
  subst l1 y1 z1
  exact own_run (fun t kt => sp.trans kt) (k T1 v Lc X1 hQ)
/-- a private instance method by its contract -/
theorem own_callP {kk : Nat} {K : String} (X : Stand p l e R s m args below meth c T locs cells slots) (hx : p.tables.exec = Jvm.exec) (hZ : Z.Warmed39 s.vm) (hown : s.vm.findClass own = some m.cls) (w1 : (Cond.methodLink own index y).before a0 Z = true) (w2 : (Cond.instanceMethod y).before a0 Z = true) (wi : (Cond.instantiable y.cls kk).before a0 Z = true) (wp : (Cond.privateMethod y).before a0 Z = true) (w3 : (Cond.initialized y.cls).before a0 Z = true) (w4 : (Cond.code y bytes maxL ret).before a0 Z = true) (hy : y.cls ≠ "java/lang/invoke/MethodHandle" ∧ y.cls ≠ "java/lang/invoke/VarHandle") (E : Exa Z h b K)
    (hM : MetFree l y (head1 [Cond.code y bytes maxL ret] rm) (fun a U => a = (.ref b :: argsL).toArray ∧ Z.Warmed39 U.vm ∧ U.heap = h) (fun _ _ _ _ _ => True) (fun _ U o U' => ∃ v L, o = .returned v ∧ Q' v U'.heap L ∧ FrameEnd U o U' L rm.cells rm.slots)) (eT : T.heap = h) (hf : rm.frames + 1 ≤ R.frames) (hl : W + (maxL + 11) + rm.locals ≤ R.locals) (hcl : cells + rm.cells ≤ R.cells) (hsl : slots + rm.slots ≤ R.slots) (hsize : Ls.size = c.maxLocals)
    (hlen : ∀ sig, parseMethodDescriptor y.desc = some sig → argsL.length = sig.parameters.length) (hs : st = argsL.reverse ++ .ref b :: rest) (hW : (rest.map fun v => v.category).sum ≤ W) (hd : decode c.code pc = .ok (.invokevirtual index, 3))
    (k : ∀ T' v L, Stand p l e R s m args below meth c T' (locs ++ L) (cells + rm.cells) (slots + rm.slots) → Q' v T'.heap L → own_Run p e below s CC SS Q T' (mkF m (pc + 3) Ls (v.toList ++ rest))) : own_Run p e below s CC SS Q T (mkF m pc Ls st) := by
  obtain ⟨cq, q1, q2⟩ := E.cell
  obtain ⟨cI, kI, hc, hk, -, hniab, -, -⟩ := Cond.instantiable_spec (mvT (args := args) hZ wi)
  have hni : kI.isInterface = false := (Bool.or_eq_false_iff.mp hniab).1
  have hpriv : s.PrivateAt y := Cond.privateMethod_at (mvP hZ wp (args := #[]))
  have hsel : (Cond.selects y.cls y y).before args s = true := selects_self_of_private hc hk hni hpriv (mvT hZ w2) hy
  obtain ⟨v, _, ⟨T1, L1, k1, n1⟩, -, X1, ⟨Lc, hQ, l1, y1, z1⟩, sp⟩ := X.privateBack hx (y := y) hown (mvT hZ w1) (mvT hZ w2) hsel hpriv (mvT hZ w4) hy (backOf (W := W) hM hZ w4 w3 hf hl) (g := mkF m pc Ls st) rfl hsize (Steps.refl _) (a := b) (by rw [eT]; exact q1) q2 (argsL := argsL) (rest := rest) hlen hs (by show 2 * 0 + _ ≤ _; omega) hd (fun _ _ => ⟨rfl, eT, hcl, hsl⟩)
  dsimp only [Pt.U, Pt.locs, Pt.cells, Pt.slots] at X1 l1 y1 z1 sp hQ
  subst l1 y1 z1
  exact own_run (fun t kt => sp.trans kt) (k T1 v Lc X1 hQ)
end Own
theorem own_pn1 : plainName "com/example/fulgur/fulgur/Bytes" = true := by first | (simp [plainName, overriddenIn]; done) | decide +kernel
theorem own_ef1 (m : MethodId) (o0 : Addr) (p1 : Int32) (p2 : Int32) : entryFrame m #[(.ref o0), (.int p1), (.int p2)] 6 = mkF m 0 #[.val (.ref o0), .val (.int p1), .val (.int p2), .unset, .unset, .unset] [] := by first | (simp [entryFrame, mkF, argsToLocals, Value.category]; done) | rfl
def own_R1 : Room := ({ frames := 0, cells := 0, slots := 0, locals := 0 } : Room)
def own_acc (acc : Int64) (x : Int32) : Int64 := ((acc <<< ((8 : Int32).toInt64 &&& 63)) ||| (x &&& (255 : Int32)).toInt64)
def own_read (xs : List Int32) : Nat → Nat → Int64 → Int64
  | _, 0, acc => acc
  | j, k + 1, acc => own_read xs (j + 1) k (own_acc acc (xs.getD j 0))
def own_f1 (xs : List Int32) (p1 p2 : Int32) : Int64 := own_read xs p1.toNatClampNeg (p2.toNatClampNeg - p1.toNatClampNeg) 0
def Q1 (z : Int64) (h0 : Heap) (n0 : Nat) (v : Option Value) (h : Heap) (L : List Loc) : Prop := v = some (.long z) ∧ Fr n0 L ∧ h = h0
theorem own_clamp {n : Nat} (h : n < 2147483648) : (Int32.ofNat n).toNatClampNeg = n := by
  have e1 : (Int32.ofNat n).toInt = n := len_toInt h
  simp only [Int32.toNatClampNeg, e1]; omega
theorem own_one (i : Nat) : Int32.ofNat i + (1 : Int32) = Int32.ofNat (i + 1) := (Int32.ofNat_add i 1).symm
theorem own_ofnat_lt {j : Nat} {n : Int32} (h : j < 2147483648) : Int32.ofNat j < n ↔ j < n.toNatClampNeg := by
  have e1 : (Int32.ofNat j).toInt = j := len_toInt h
  rw [Int32.lt_iff_toInt_lt, e1]; simp only [Int32.toNatClampNeg]; omega
theorem own_clamp_lt (n : Int32) : n.toNatClampNeg < 2147483648 := by
  have := n.toInt_lt; simp only [Int32.toNatClampNeg]; omega
theorem own_ofnat_nn {j : Nat} (h : j < 2147483648) : ¬ Int32.ofNat j < 0 := by
  have e1 : (Int32.ofNat j).toInt = j := len_toInt h
  rw [Int32.lt_iff_toInt_lt, e1]; simp
theorem own_back {p : Int32} (h : ¬ p < 0) : Int32.ofNat p.toNatClampNeg = p := by
  have e1 : (Int32.ofNat p.toNatClampNeg).toInt = p.toNatClampNeg := len_toInt (own_clamp_lt p)
  rw [← Int32.toInt_inj, e1]
  rw [Int32.lt_iff_toInt_lt] at h
  simp only [Int32.toNatClampNeg]; simp at h; omega
theorem own_i32 {x k : Int32} (h : x.toInt = k.toInt) : x = k := Int32.toInt_inj.mp h
theorem own_and3 (x : Int32) : (x &&& (3 : Int32)) = 0 ∨ (x &&& (3 : Int32)) = 1 ∨ (x &&& (3 : Int32)) = 2 ∨ (x &&& (3 : Int32)) = 3 := by
  have e := Jvm.Kit.i32_mask x 3 (k := 2) (by decide) (by decide)
  have hb : x.toInt % 2 ^ 2 = 0 ∨ x.toInt % 2 ^ 2 = 1 ∨ x.toInt % 2 ^ 2 = 2 ∨ x.toInt % 2 ^ 2 = 3 := by omega
  rcases hb with h | h | h | h
  · exact Or.inl (own_i32 (k := 0) (e.trans h))
  · exact Or.inr (Or.inl (own_i32 (k := 1) (e.trans h)))
  · exact Or.inr (Or.inr (Or.inl (own_i32 (k := 2) (e.trans h))))
  · exact Or.inr (Or.inr (Or.inr (own_i32 (k := 3) (e.trans h))))

theorem own_rstep {xs : List Int32} {j t : Nat} {acc : Int64} (h : j < t) : own_read xs j (t - j) acc = own_read xs (j + 1) (t - (j + 1)) (own_acc acc (xs.getD j 0)) := by
  rw [show t - j = (t - (j + 1)) + 1 by omega]; rfl
theorem d1_0 : decode prog_4_method_2_code 0 = .ok (.lconst 0, 1) := by decide +kernel
theorem d1_1 : decode prog_4_method_2_code 1 = .ok (.lstore_n 3, 1) := by decide +kernel
theorem d1_2 : decode prog_4_method_2_code 2 = .ok (.iload_n 1, 1) := by decide +kernel
theorem d1_3 : decode prog_4_method_2_code 3 = .ok (.istore 5, 2) := by decide +kernel
theorem d1_5 : decode prog_4_method_2_code 5 = .ok (.iload 5, 2) := by decide +kernel
theorem d1_7 : decode prog_4_method_2_code 7 = .ok (.iload_n 2, 1) := by decide +kernel
theorem d1_8 : decode prog_4_method_2_code 8 = .ok (.if_icmp .ge 24, 3) := by decide +kernel
theorem d1_11 : decode prog_4_method_2_code 11 = .ok (.lload_n 3, 1) := by decide +kernel
theorem d1_12 : decode prog_4_method_2_code 12 = .ok (.bipush 8, 2) := by decide +kernel
theorem d1_14 : decode prog_4_method_2_code 14 = .ok (.lshl, 1) := by decide +kernel
theorem d1_15 : decode prog_4_method_2_code 15 = .ok (.aload_n 0, 1) := by decide +kernel
theorem d1_16 : decode prog_4_method_2_code 16 = .ok (.iload 5, 2) := by decide +kernel
theorem d1_18 : decode prog_4_method_2_code 18 = .ok (.baload, 1) := by decide +kernel
theorem d1_19 : decode prog_4_method_2_code 19 = .ok (.sipush 255, 3) := by decide +kernel
theorem d1_22 : decode prog_4_method_2_code 22 = .ok (.iand, 1) := by decide +kernel
theorem d1_23 : decode prog_4_method_2_code 23 = .ok (.i2l, 1) := by decide +kernel
theorem d1_24 : decode prog_4_method_2_code 24 = .ok (.lor, 1) := by decide +kernel
theorem d1_25 : decode prog_4_method_2_code 25 = .ok (.lstore_n 3, 1) := by decide +kernel
theorem d1_26 : decode prog_4_method_2_code 26 = .ok (.iinc 5 1, 3) := by decide +kernel
theorem d1_29 : decode prog_4_method_2_code 29 = .ok (.goto (-24), 3) := by decide +kernel
theorem d1_32 : decode prog_4_method_2_code 32 = .ok (.lload_n 3, 1) := by decide +kernel
theorem d1_33 : decode prog_4_method_2_code 33 = .ok (.lreturn, 1) := by decide +kernel
set_option maxRecDepth 65536 in
set_option maxHeartbeats 40000000 in
theorem rm1 (l : Launch) (Z : State) (a0 : Array Value) (hw : ∀ d ∈ tables_1, d.before a0 Z = true) (ws : List Jvm.Cond) (o0 : Addr) (p1 : Int32) (p2 : Int32) (n : Int32) (xs : List Int32) (h0 : Heap) (n0 : Nat) (A0 : own_A Z h0 o0 .byte n xs) (hp1 : ¬ p1 < 0) (hp12 : p1.toNatClampNeg ≤ p2.toNatClampNeg) (hp2n : p2 ≤ n) :
    MetFree l (⟨"com/example/fulgur/fulgur/Bytes", "readUnsigned", "([BII)J"⟩ : MethodName) (head1 (Jvm.Cond.code (⟨"com/example/fulgur/fulgur/Bytes", "readUnsigned", "([BII)J"⟩ : MethodName) prog_4_method_2_code 6 (some .long) :: ws) own_R1) (fun a U => a = #[(.ref o0), (.int p1), (.int p2)] ∧ Z.Warmed39 U.vm ∧ U.heap = h0) (fun _ _ _ _ _ => True) (fun _ U o U' => ∃ v L, o = .returned v ∧ Q1 (own_f1 xs p1 p2) h0 n0 v U'.heap L ∧ FrameEnd U o U' L own_R1.cells own_R1.slots) := by
  refine MetFree.of_bodySF (plainFor_of_name own_pn1) hisR ?_
  intro p e s m args below meth c s₁ Bd hml0 hP hK
  obtain ⟨ha, hZ, hh⟩ := hP
  have hx := Bd.exec
  have hby := Bd.bytes
  have hml : c.maxLocals = 6 := hml0
  have hown : s.vm.findClass "com/example/fulgur/fulgur/Bytes" = some m.cls := findClass_of_methodNamed Bd.named
  have hnm := (name_of_methodNamed Bd.named Bd.method).1
  have X0 : Stand p l e own_R1 s m args below meth c s₁ [] 0 0 := Stand.of_body Bd
  have e0 : s₁.heap = h0 := by rw [← hh, Bd.state]; rfl
  have N0 := Fr.nil n0
  refine own_enter (Q := (Q1 (own_f1 xs p1 p2) h0 n0)) (g := mkF m 0 #[.val (.ref o0), .val (.int p1), .val (.int p2), .unset, .unset, .unset] []) (by rw [ha]; exact own_ef1 m o0 p1 p2) ?_
  refine own_run (g' := (mkF m 5 #[.val (.ref o0), .val (.int p1), .val (.int p2), .val (.long (0 : Int64)), .second, .val (.int p1)] [])) (fun _ kt => XS.lconst X0.here hx rfl (hb hby d1_0) (XS.lstoreN X0.here hx rfl (hb hby d1_1) rfl (l' := #[.val (.ref o0), .val (.int p1), .val (.int p2), .val (.long (0 : Int64)), .second, .unset]) rfl (XS.iloadN X0.here hx rfl (hb hby d1_2) rfl (XS.istore X0.here hx rfl (hb hby d1_3) rfl (l' := #[.val (.ref o0), .val (.int p1), .val (.int p2), .val (.long (0 : Int64)), .second, .val (.int p1)]) rfl (kt))))) ?_
  have loop1 : ∀ (mz : Nat) (T1 : State) (L1 : List Loc) (acc : Int64) (i : Int32) (j : Nat), Stand p l e own_R1 s m args below meth c T1 L1 0 0 → Fr n0 L1 → T1.heap = h0 → (i = Int32.ofNat j) → (j ≤ p2.toNatClampNeg) → (own_f1 xs p1 p2 = own_read xs j (p2.toNatClampNeg - j) acc) → p2.toNatClampNeg - j = mz → own_Run p e below s own_R1.cells own_R1.slots (Q1 (own_f1 xs p1 p2) h0 n0) T1 (mkF m 5 #[.val (.ref o0), .val (.int p1), .val (.int p2), .val (.long acc), .second, .val (.int i)] []) := by
    intro mz
    induction mz using Nat.strongRecOn with
    | _ mz ih1 =>
      intro T1 L1 acc i j X1 N1 e1 hij hj hp hmz
      refine own_run (g' := (mkF m 8 #[.val (.ref o0), .val (.int p1), .val (.int p2), .val (.long acc), .second, .val (.int i)] [(.int p2), (.int i)])) (fun _ kt => XS.iload X1.here hx rfl (hb hby d1_5) rfl (XS.iloadN X1.here hx rfl (hb hby d1_7) rfl (kt))) ?_
      have hjb : j < 2147483648 := Nat.lt_of_le_of_lt hj (own_clamp_lt p2)
      by_cases hc8 : i < p2
      · refine own_run (g' := (mkF m 11 #[.val (.ref o0), .val (.int p1), .val (.int p2), .val (.long acc), .second, .val (.int i)] [])) (fun _ kt => XS.icmpNo X1.here hx rfl (hb hby d1_8) rfl ((tlt hc8).2.1) (kt)) ?_
        have hjn : j < p2.toNatClampNeg := by rw [hij] at hc8; exact (own_ofnat_lt hjb).mp hc8
        have hjc : i.toNatClampNeg = j := by rw [hij]; exact own_clamp hjb
        refine own_run (g' := (mkF m 18 #[.val (.ref o0), .val (.int p1), .val (.int p2), .val (.long acc), .second, .val (.int i)] [(.int i), (.ref o0), (.long (acc <<< ((8 : Int32).toInt64 &&& 63)))])) (fun _ kt => XS.lloadN X1.here hx rfl (hb hby d1_11) rfl (XS.bipush X1.here hx rfl (hb hby d1_12) (XT.lshl X1.here hx rfl (hb hby d1_14) rfl (XS.aloadN X1.here hx rfl (hb hby d1_15) rfl rfl (XS.iload X1.here hx rfl (hb hby d1_16) rfl (kt)))))) ?_
        refine own_ldB X1 hx hZ e1 A0 (j := i) ⟨by rw [hij]; exact own_ofnat_nn hjb, Int32.lt_of_lt_of_le hc8 hp2n⟩ (hb hby d1_18) (x := (xs.getD i.toNatClampNeg 0)) rfl ?_
        refine own_run (g' := (mkF m 5 #[.val (.ref o0), .val (.int p1), .val (.int p2), .val (.long ((acc <<< ((8 : Int32).toInt64 &&& 63)) ||| ((xs.getD i.toNatClampNeg 0) &&& (255 : Int32)).toInt64)), .second, .val (.int (i + (1 : Int32)))] [])) (fun _ kt => XS.sipush X1.here hx rfl (hb hby d1_19) (XS.iand X1.here hx rfl (hb hby d1_22) rfl (XS.i2l X1.here hx rfl (hb hby d1_23) rfl (XS.lor X1.here hx rfl (hb hby d1_24) rfl (XS.lstoreN X1.here hx rfl (hb hby d1_25) rfl (l' := #[.val (.ref o0), .val (.int p1), .val (.int p2), .val (.long ((acc <<< ((8 : Int32).toInt64 &&& 63)) ||| ((xs.getD i.toNatClampNeg 0) &&& (255 : Int32)).toInt64)), .second, .val (.int i)]) rfl (XS.iinc X1.here hx rfl (hb hby d1_26) rfl (l' := #[.val (.ref o0), .val (.int p1), .val (.int p2), .val (.long ((acc <<< ((8 : Int32).toInt64 &&& 63)) ||| ((xs.getD i.toNatClampNeg 0) &&& (255 : Int32)).toInt64)), .second, .val (.int (i + (1 : Int32)))]) rfl (XS.goto X1.here hx rfl (pc0 := 29) (pc' := 5) rfl (hb hby d1_29) (by decide) (by decide) (kt)))))))) ?_
        exact ih1 _ (by omega) T1 _ ((acc <<< ((8 : Int32).toInt64 &&& 63)) ||| ((xs.getD i.toNatClampNeg 0) &&& (255 : Int32)).toInt64) (i + (1 : Int32)) (j + 1) X1 N1 e1 (by rw [hij]; exact own_one j) hjn (by rw [hp, own_rstep hjn, hjc]; rfl) rfl
      · refine own_run (g' := (mkF m 33 #[.val (.ref o0), .val (.int p1), .val (.int p2), .val (.long acc), .second, .val (.int i)] [(.long acc)])) (fun _ kt => XS.icmpYes X1.here hx rfl (pc0 := 8) (pc' := 32) rfl (hb hby d1_8) rfl ((flt hc8).2.1) (by decide) (by decide) (XS.lloadN X1.here hx rfl (hb hby d1_32) rfl (kt))) ?_
        have hjn : ¬ j < p2.toNatClampNeg := fun q => hc8 (by rw [hij]; exact (own_ofnat_lt hjb).mpr q)
        have hf : own_f1 xs p1 p2 = acc := by rw [hp, Nat.sub_eq_zero_of_le (Nat.le_of_not_lt hjn)]; rfl
        exact own_retL X1 hx Bd.notSynchronized Bd.returns (hb hby d1_33) (by decide) (by decide) ⟨congrArg (fun z => some (Value.long z)) hf.symm, N1, e1⟩
  exact loop1 _ s₁ _ (0 : Int64) p1 p1.toNatClampNeg X0 N0 e0 (own_back hp1).symm hp12 rfl rfl
theorem own_ushr_nat (x y : Int32) {k : Nat} (hk : ((y &&& 31).toUInt32).toNat = k) (h : k < 32) : (XT.ushr x y).toBitVec.toNat = x.toBitVec.toNat / 2 ^ k := by
  have e : (XT.ushr x y).toBitVec = x.toBitVec >>> ((y &&& 31).toUInt32 % 32).toBitVec := rfl
  have e2 : ((y &&& 31).toUInt32 % 32).toBitVec.toNat = k := by
    show ((y &&& 31).toUInt32 % 32).toNat = k
    rw [UInt32.toNat_mod, hk]; exact Nat.mod_eq_of_lt h
  rw [e, BitVec.ushiftRight_eq', BitVec.toNat_ushiftRight, Nat.shiftRight_eq_div_pow, e2]
theorem own_and_nat (x m : Int32) {k : Nat} (hm : m.toBitVec.toNat = 2 ^ k - 1) : (x &&& m).toBitVec.toNat = x.toBitVec.toNat % 2 ^ k := by
  have e : (x &&& m).toBitVec = x.toBitVec &&& m.toBitVec := rfl
  rw [e, BitVec.toNat_and, hm, Nat.and_two_pow_sub_one_eq_mod]
theorem own_nat_inj {x y : Int32} (h : x.toBitVec.toNat = y.toBitVec.toNat) : x = y := Int32.toBitVec_inj.mp (BitVec.eq_of_toNat_eq h)

theorem own_ti32 (y : Int32) : y.toInt = if 2 * y.toBitVec.toNat < 2 ^ 32 then (y.toBitVec.toNat : Int) else (y.toBitVec.toNat : Int) - 2 ^ 32 := by
  have : y.toInt = y.toBitVec.toInt := rfl
  rw [this, BitVec.toInt_eq_toNat_cond]; simp
theorem own_ti64 (y : Int64) : y.toInt = if 2 * y.toBitVec.toNat < 2 ^ 64 then (y.toBitVec.toNat : Int) else (y.toBitVec.toNat : Int) - 2 ^ 64 := by
  have : y.toInt = y.toBitVec.toInt := rfl
  rw [this, BitVec.toInt_eq_toNat_cond]; simp
theorem own_nat_inj64 {x y : Int64} (h : x.toBitVec.toNat = y.toBitVec.toNat) : x = y := Int64.toBitVec_inj.mp (BitVec.eq_of_toNat_eq h)
theorem own_and_nat64 (x m : Int64) {k : Nat} (hm : m.toBitVec.toNat = 2 ^ k - 1) : (x &&& m).toBitVec.toNat = x.toBitVec.toNat % 2 ^ k := by
  have e : (x &&& m).toBitVec = x.toBitVec &&& m.toBitVec := rfl
  rw [e, BitVec.toNat_and, hm, Nat.and_two_pow_sub_one_eq_mod]
theorem own_ushrL_nat (x : Int64) (y : Int32) {k : Nat} (hk : (y.toInt64.toUInt64 &&& Int64.toUInt64 63).toNat = k) (h : k < 64) : (XT.ushrL x y).toBitVec.toNat = x.toBitVec.toNat / 2 ^ k := by
  have e : (XT.ushrL x y).toBitVec = x.toBitVec >>> ((y.toInt64.toUInt64 &&& Int64.toUInt64 63) % 64).toBitVec := rfl
  have e2 : ((y.toInt64.toUInt64 &&& Int64.toUInt64 63) % 64).toBitVec.toNat = k := by
    show ((y.toInt64.toUInt64 &&& Int64.toUInt64 63) % 64).toNat = k
    rw [UInt64.toNat_mod, hk]; exact Nat.mod_eq_of_lt h
  rw [e, BitVec.ushiftRight_eq', BitVec.toNat_ushiftRight, Nat.shiftRight_eq_div_pow, e2]
theorem own_i2l_nat (y : Int32) (h : y.toBitVec.toNat < 2 ^ 31) : y.toInt64.toBitVec.toNat = y.toBitVec.toNat := by
  have a := own_ti32 y
  have b := own_ti64 y.toInt64
  have c := Int32.toInt_toInt64 y
  have d := y.toInt64.toBitVec.isLt
  rw [a] at c; rw [c] at b
  split at b <;> split at b <;> omega
theorem own_l2i_nat (u : Int64) : u.toInt32.toBitVec.toNat = u.toBitVec.toNat % 2 ^ 32 := by
  have a := own_ti32 u.toInt32
  have b := own_ti64 u
  have c := Int64.toInt_toInt32 u
  rw [Int.bmod_def] at c
  rw [a, b] at c
  have h1 := u.toBitVec.isLt
  have h2 := u.toInt32.toBitVec.isLt
  split at c <;> split at c <;> split at c <;> omega
theorem own_low8 (z : Int32) : (z.toInt8.toInt32 &&& (255 : Int32)).toBitVec.toNat = z.toBitVec.toNat % 256 := by
  rw [own_and_nat _ _ (k := 8) (by decide)]
  have a := own_ti32 z.toInt8.toInt32
  have b := own_ti32 z
  have c : z.toInt8.toInt32.toInt = z.toInt.bmod (2 ^ 8) := by rw [Int8.toInt_toInt32, Int32.toInt_toInt8]
  rw [Int.bmod_def] at c
  rw [a, b] at c
  have h1 := z.toBitVec.isLt
  have h2 := z.toInt8.toInt32.toBitVec.isLt
  split at c <;> split at c <;> split at c <;> omega

theorem own_len9 (x : Int32) : ((x &&& (15 : Int32)) % (9 : Int32)) = 0 ∨ ((x &&& (15 : Int32)) % (9 : Int32)) = 1 ∨ ((x &&& (15 : Int32)) % (9 : Int32)) = 2 ∨ ((x &&& (15 : Int32)) % (9 : Int32)) = 3 ∨ ((x &&& (15 : Int32)) % (9 : Int32)) = 4 ∨ ((x &&& (15 : Int32)) % (9 : Int32)) = 5 ∨ ((x &&& (15 : Int32)) % (9 : Int32)) = 6 ∨ ((x &&& (15 : Int32)) % (9 : Int32)) = 7 ∨ ((x &&& (15 : Int32)) % (9 : Int32)) = 8 := by
  have e := Jvm.Kit.i32_mask x 15 (k := 4) (by decide) (by decide)
  have e9 : (9 : Int32).toInt = 9 := rfl
  have r := Jvm.Kit.i32_rem_nonneg (x := x &&& (15 : Int32)) (y := 9) (by rw [e]; omega)
  rw [e9, e] at r
  have hb : x.toInt % 2 ^ 4 % 9 = 0 ∨ x.toInt % 2 ^ 4 % 9 = 1 ∨ x.toInt % 2 ^ 4 % 9 = 2 ∨ x.toInt % 2 ^ 4 % 9 = 3 ∨ x.toInt % 2 ^ 4 % 9 = 4 ∨ x.toInt % 2 ^ 4 % 9 = 5 ∨ x.toInt % 2 ^ 4 % 9 = 6 ∨ x.toInt % 2 ^ 4 % 9 = 7 ∨ x.toInt % 2 ^ 4 % 9 = 8 := by omega
  rcases hb with h | h | h | h | h | h | h | h | h
  · exact Or.inl (own_i32 (k := 0) (r.trans h))
  · exact Or.inr (Or.inl (own_i32 (k := 1) (r.trans h)))
  · exact Or.inr (Or.inr (Or.inl (own_i32 (k := 2) (r.trans h))))
  · exact Or.inr (Or.inr (Or.inr (Or.inl (own_i32 (k := 3) (r.trans h)))))
  · exact Or.inr (Or.inr (Or.inr (Or.inr (Or.inl (own_i32 (k := 4) (r.trans h))))))
  · exact Or.inr (Or.inr (Or.inr (Or.inr (Or.inr (Or.inl (own_i32 (k := 5) (r.trans h)))))))
  · exact Or.inr (Or.inr (Or.inr (Or.inr (Or.inr (Or.inr (Or.inl (own_i32 (k := 6) (r.trans h))))))))
  · exact Or.inr (Or.inr (Or.inr (Or.inr (Or.inr (Or.inr (Or.inr (Or.inl (own_i32 (k := 7) (r.trans h)))))))))
  · exact Or.inr (Or.inr (Or.inr (Or.inr (Or.inr (Or.inr (Or.inr (Or.inr (own_i32 (k := 8) (r.trans h)))))))))
theorem own_byte (u : Int64) : ((nar .byte u.toInt32.toInt8.toInt32) &&& (255 : Int32)).toBitVec.toNat = u.toBitVec.toNat % 256 := by
  have e : nar .byte u.toInt32.toInt8.toInt32 = u.toInt32.toInt8.toInt32 := by simp [nar]
  rw [e, own_low8, own_l2i_nat]; omega
theorem own_accN (acc : Int64) (x : Int32) (w k : Nat) (hk : k < 8) (ha : acc.toBitVec.toNat = w / 256 % 256 ^ k) (hx : (x &&& (255 : Int32)).toBitVec.toNat = w % 256) : (own_acc acc x).toBitVec.toNat = w % 256 ^ (k + 1) := by
  have e1 : (own_acc acc x).toBitVec = (acc <<< ((8 : Int32).toInt64 &&& 63)).toBitVec ||| (x &&& (255 : Int32)).toInt64.toBitVec := rfl
  have e2 : (acc <<< ((8 : Int32).toInt64 &&& 63)).toBitVec = acc.toBitVec <<< (((8 : Int32).toInt64 &&& 63).toBitVec.smod 64) := rfl
  have e3 : ((((8 : Int32).toInt64 &&& 63).toBitVec.smod 64)).toNat = 8 := by decide
  have e4 : (x &&& (255 : Int32)).toInt64.toBitVec.toNat = w % 256 := by rw [own_i2l_nat _ (by rw [hx]; omega), hx]
  have hp : 256 ^ k ≤ 256 ^ 7 := Nat.pow_le_pow_right (by decide) (by omega)
  have hpos : 0 < 256 ^ k := Nat.pow_pos (by decide)
  have hlt : w / 256 % 256 ^ k < 256 ^ k := Nat.mod_lt _ hpos
  have e7 : (256 : Nat) ^ 7 = 72057594037927936 := by decide
  have key : w % 256 ^ (k + 1) = w % 256 + 256 * (w / 256 % 256 ^ k) := by rw [Nat.pow_succ, Nat.mul_comm (256 ^ k) 256, Nat.mod_mul]
  rw [e1, BitVec.toNat_or, e2, BitVec.shiftLeft_eq', BitVec.toNat_shiftLeft, e3, e4, ha, Nat.shiftLeft_eq, Nat.mod_eq_of_lt (by omega), ← Nat.shiftLeft_eq, ← Nat.shiftLeft_add_eq_or_of_lt (show w % 256 < 2 ^ 8 by omega), Nat.shiftLeft_eq, key]
  omega
theorem own_readN (v : Int64) (xs : List Int32) (l : Nat) (hl : l ≤ 8) : ∀ (k j : Nat) (acc : Int64) (d : Nat), d + k = l → acc.toBitVec.toNat = v.toBitVec.toNat / 256 ^ k % 256 ^ d → (∀ i, i < k → ((xs.getD (j + i) 0) &&& (255 : Int32)).toBitVec.toNat = v.toBitVec.toNat / 256 ^ (k - 1 - i) % 256) → (own_read xs j k acc).toBitVec.toNat = v.toBitVec.toNat % 256 ^ l
  | 0, j, acc, d, hd, ha, hb => by
    have : d = l := by omega
    subst this
    rw [own_read, ha]; simp
  | k + 1, j, acc, d, hd, ha, hb => by
    rw [own_read]
    refine own_readN v xs l hl k (j + 1) _ (d + 1) (by omega) ?_ ?_
    · have h0 := hb 0 (by omega)
      rw [Nat.add_zero, Nat.sub_zero, Nat.add_sub_cancel] at h0
      exact own_accN acc _ (v.toBitVec.toNat / 256 ^ k) d (by omega) (by rw [ha, Nat.div_div_eq_div_mul, Nat.pow_succ]) h0
    · intro i hi
      have h1 := hb (i + 1) (by omega)
      rw [show j + (i + 1) = j + 1 + i by omega, show k + 1 - 1 - (i + 1) = k - 1 - i by omega] at h1
      exact h1
theorem own_pl0 (v : Int64) (F : Nat) (x0 : List Int32) (hlen : x0.length = 12) (hF : F ≤ 3) : (own_read x0 F 0 0).toBitVec.toNat = v.toBitVec.toNat % 256 ^ 0 := by
  refine own_readN v _ 0 (by decide) 0 F 0 0 rfl (by rw [Nat.pow_zero, Nat.mod_one]; rfl) ?_
  intro i hi
  exact absurd hi (Nat.not_lt_zero _)
theorem own_pl1 (v : Int64) (F : Nat) (x0 : List Int32) (hlen : x0.length = 12) (hF : F ≤ 3) : (own_read (x0.set F (nar .byte (XT.ushrL v ((8 : Int32) * ((1 : Int32) - (1 : Int32)))).toInt32.toInt8.toInt32)) F 1 0).toBitVec.toNat = v.toBitVec.toNat % 256 ^ 1 := by
  refine own_readN v _ 1 (by decide) 1 F 0 0 rfl (by rw [Nat.pow_zero, Nat.mod_one]; rfl) ?_
  intro i hi
  have hi' : i = 0 := by omega
  rcases hi' with rfl
  · have e : (x0.set F (nar .byte (XT.ushrL v ((8 : Int32) * ((1 : Int32) - (1 : Int32)))).toInt32.toInt8.toInt32)).getD (F + 0) 0 = (nar .byte (XT.ushrL v ((8 : Int32) * ((1 : Int32) - (1 : Int32)))).toInt32.toInt8.toInt32) := by
      simp [List.getD_eq_getElem?_getD, List.getElem?_set, hlen]
      rw [if_pos (by omega)]; rfl
    rw [e, own_byte, own_ushrL_nat v _ (k := 0) (by decide) (by decide)]
theorem own_pl2 (v : Int64) (F : Nat) (x0 : List Int32) (hlen : x0.length = 12) (hF : F ≤ 3) : (own_read ((x0.set F (nar .byte (XT.ushrL v ((8 : Int32) * ((2 : Int32) - (1 : Int32)))).toInt32.toInt8.toInt32)).set (F + 1) (nar .byte (XT.ushrL v ((8 : Int32) * ((2 : Int32) - (2 : Int32)))).toInt32.toInt8.toInt32)) F 2 0).toBitVec.toNat = v.toBitVec.toNat % 256 ^ 2 := by
  refine own_readN v _ 2 (by decide) 2 F 0 0 rfl (by rw [Nat.pow_zero, Nat.mod_one]; rfl) ?_
  intro i hi
  have hi' : i = 0 ∨ i = 1 := by omega
  rcases hi' with rfl | rfl
  · have e : ((x0.set F (nar .byte (XT.ushrL v ((8 : Int32) * ((2 : Int32) - (1 : Int32)))).toInt32.toInt8.toInt32)).set (F + 1) (nar .byte (XT.ushrL v ((8 : Int32) * ((2 : Int32) - (2 : Int32)))).toInt32.toInt8.toInt32)).getD (F + 0) 0 = (nar .byte (XT.ushrL v ((8 : Int32) * ((2 : Int32) - (1 : Int32)))).toInt32.toInt8.toInt32) := by
      simp [List.getD_eq_getElem?_getD, List.getElem?_set, hlen]
      rw [if_pos (by omega)]; rfl
    rw [e, own_byte, own_ushrL_nat v _ (k := 8) (by decide) (by decide)]
  · have e : ((x0.set F (nar .byte (XT.ushrL v ((8 : Int32) * ((2 : Int32) - (1 : Int32)))).toInt32.toInt8.toInt32)).set (F + 1) (nar .byte (XT.ushrL v ((8 : Int32) * ((2 : Int32) - (2 : Int32)))).toInt32.toInt8.toInt32)).getD (F + 1) 0 = (nar .byte (XT.ushrL v ((8 : Int32) * ((2 : Int32) - (2 : Int32)))).toInt32.toInt8.toInt32) := by
      simp [List.getD_eq_getElem?_getD, List.getElem?_set, hlen]
      rw [if_pos (by omega)]; rfl
    rw [e, own_byte, own_ushrL_nat v _ (k := 0) (by decide) (by decide)]
theorem own_pl3 (v : Int64) (F : Nat) (x0 : List Int32) (hlen : x0.length = 12) (hF : F ≤ 3) : (own_read (((x0.set F (nar .byte (XT.ushrL v ((8 : Int32) * ((3 : Int32) - (1 : Int32)))).toInt32.toInt8.toInt32)).set (F + 1) (nar .byte (XT.ushrL v ((8 : Int32) * ((3 : Int32) - (2 : Int32)))).toInt32.toInt8.toInt32)).set (F + 2) (nar .byte (XT.ushrL v ((8 : Int32) * ((3 : Int32) - (3 : Int32)))).toInt32.toInt8.toInt32)) F 3 0).toBitVec.toNat = v.toBitVec.toNat % 256 ^ 3 := by
  refine own_readN v _ 3 (by decide) 3 F 0 0 rfl (by rw [Nat.pow_zero, Nat.mod_one]; rfl) ?_
  intro i hi
  have hi' : i = 0 ∨ i = 1 ∨ i = 2 := by omega
  rcases hi' with rfl | rfl | rfl
  · have e : (((x0.set F (nar .byte (XT.ushrL v ((8 : Int32) * ((3 : Int32) - (1 : Int32)))).toInt32.toInt8.toInt32)).set (F + 1) (nar .byte (XT.ushrL v ((8 : Int32) * ((3 : Int32) - (2 : Int32)))).toInt32.toInt8.toInt32)).set (F + 2) (nar .byte (XT.ushrL v ((8 : Int32) * ((3 : Int32) - (3 : Int32)))).toInt32.toInt8.toInt32)).getD (F + 0) 0 = (nar .byte (XT.ushrL v ((8 : Int32) * ((3 : Int32) - (1 : Int32)))).toInt32.toInt8.toInt32) := by
      simp [List.getD_eq_getElem?_getD, List.getElem?_set, hlen]
      rw [if_pos (by omega)]; rfl
    rw [e, own_byte, own_ushrL_nat v _ (k := 16) (by decide) (by decide)]
  · have e : (((x0.set F (nar .byte (XT.ushrL v ((8 : Int32) * ((3 : Int32) - (1 : Int32)))).toInt32.toInt8.toInt32)).set (F + 1) (nar .byte (XT.ushrL v ((8 : Int32) * ((3 : Int32) - (2 : Int32)))).toInt32.toInt8.toInt32)).set (F + 2) (nar .byte (XT.ushrL v ((8 : Int32) * ((3 : Int32) - (3 : Int32)))).toInt32.toInt8.toInt32)).getD (F + 1) 0 = (nar .byte (XT.ushrL v ((8 : Int32) * ((3 : Int32) - (2 : Int32)))).toInt32.toInt8.toInt32) := by
      simp [List.getD_eq_getElem?_getD, List.getElem?_set, hlen]
      rw [if_pos (by omega)]; rfl
    rw [e, own_byte, own_ushrL_nat v _ (k := 8) (by decide) (by decide)]
  · have e : (((x0.set F (nar .byte (XT.ushrL v ((8 : Int32) * ((3 : Int32) - (1 : Int32)))).toInt32.toInt8.toInt32)).set (F + 1) (nar .byte (XT.ushrL v ((8 : Int32) * ((3 : Int32) - (2 : Int32)))).toInt32.toInt8.toInt32)).set (F + 2) (nar .byte (XT.ushrL v ((8 : Int32) * ((3 : Int32) - (3 : Int32)))).toInt32.toInt8.toInt32)).getD (F + 2) 0 = (nar .byte (XT.ushrL v ((8 : Int32) * ((3 : Int32) - (3 : Int32)))).toInt32.toInt8.toInt32) := by
      simp [List.getD_eq_getElem?_getD, List.getElem?_set, hlen]
      rw [if_pos (by omega)]; rfl
    rw [e, own_byte, own_ushrL_nat v _ (k := 0) (by decide) (by decide)]
theorem own_pl4 (v : Int64) (F : Nat) (x0 : List Int32) (hlen : x0.length = 12) (hF : F ≤ 3) : (own_read ((((x0.set F (nar .byte (XT.ushrL v ((8 : Int32) * ((4 : Int32) - (1 : Int32)))).toInt32.toInt8.toInt32)).set (F + 1) (nar .byte (XT.ushrL v ((8 : Int32) * ((4 : Int32) - (2 : Int32)))).toInt32.toInt8.toInt32)).set (F + 2) (nar .byte (XT.ushrL v ((8 : Int32) * ((4 : Int32) - (3 : Int32)))).toInt32.toInt8.toInt32)).set (F + 3) (nar .byte (XT.ushrL v ((8 : Int32) * ((4 : Int32) - (4 : Int32)))).toInt32.toInt8.toInt32)) F 4 0).toBitVec.toNat = v.toBitVec.toNat % 256 ^ 4 := by
  refine own_readN v _ 4 (by decide) 4 F 0 0 rfl (by rw [Nat.pow_zero, Nat.mod_one]; rfl) ?_
  intro i hi
  have hi' : i = 0 ∨ i = 1 ∨ i = 2 ∨ i = 3 := by omega
  rcases hi' with rfl | rfl | rfl | rfl
  · have e : ((((x0.set F (nar .byte (XT.ushrL v ((8 : Int32) * ((4 : Int32) - (1 : Int32)))).toInt32.toInt8.toInt32)).set (F + 1) (nar .byte (XT.ushrL v ((8 : Int32) * ((4 : Int32) - (2 : Int32)))).toInt32.toInt8.toInt32)).set (F + 2) (nar .byte (XT.ushrL v ((8 : Int32) * ((4 : Int32) - (3 : Int32)))).toInt32.toInt8.toInt32)).set (F + 3) (nar .byte (XT.ushrL v ((8 : Int32) * ((4 : Int32) - (4 : Int32)))).toInt32.toInt8.toInt32)).getD (F + 0) 0 = (nar .byte (XT.ushrL v ((8 : Int32) * ((4 : Int32) - (1 : Int32)))).toInt32.toInt8.toInt32) := by
      simp [List.getD_eq_getElem?_getD, List.getElem?_set, hlen]
      rw [if_pos (by omega)]; rfl
    rw [e, own_byte, own_ushrL_nat v _ (k := 24) (by decide) (by decide)]
  · have e : ((((x0.set F (nar .byte (XT.ushrL v ((8 : Int32) * ((4 : Int32) - (1 : Int32)))).toInt32.toInt8.toInt32)).set (F + 1) (nar .byte (XT.ushrL v ((8 : Int32) * ((4 : Int32) - (2 : Int32)))).toInt32.toInt8.toInt32)).set (F + 2) (nar .byte (XT.ushrL v ((8 : Int32) * ((4 : Int32) - (3 : Int32)))).toInt32.toInt8.toInt32)).set (F + 3) (nar .byte (XT.ushrL v ((8 : Int32) * ((4 : Int32) - (4 : Int32)))).toInt32.toInt8.toInt32)).getD (F + 1) 0 = (nar .byte (XT.ushrL v ((8 : Int32) * ((4 : Int32) - (2 : Int32)))).toInt32.toInt8.toInt32) := by
      simp [List.getD_eq_getElem?_getD, List.getElem?_set, hlen]
      rw [if_pos (by omega)]; rfl
    rw [e, own_byte, own_ushrL_nat v _ (k := 16) (by decide) (by decide)]
  · have e : ((((x0.set F (nar .byte (XT.ushrL v ((8 : Int32) * ((4 : Int32) - (1 : Int32)))).toInt32.toInt8.toInt32)).set (F + 1) (nar .byte (XT.ushrL v ((8 : Int32) * ((4 : Int32) - (2 : Int32)))).toInt32.toInt8.toInt32)).set (F + 2) (nar .byte (XT.ushrL v ((8 : Int32) * ((4 : Int32) - (3 : Int32)))).toInt32.toInt8.toInt32)).set (F + 3) (nar .byte (XT.ushrL v ((8 : Int32) * ((4 : Int32) - (4 : Int32)))).toInt32.toInt8.toInt32)).getD (F + 2) 0 = (nar .byte (XT.ushrL v ((8 : Int32) * ((4 : Int32) - (3 : Int32)))).toInt32.toInt8.toInt32) := by
      simp [List.getD_eq_getElem?_getD, List.getElem?_set, hlen]
      rw [if_pos (by omega)]; rfl
    rw [e, own_byte, own_ushrL_nat v _ (k := 8) (by decide) (by decide)]
  · have e : ((((x0.set F (nar .byte (XT.ushrL v ((8 : Int32) * ((4 : Int32) - (1 : Int32)))).toInt32.toInt8.toInt32)).set (F + 1) (nar .byte (XT.ushrL v ((8 : Int32) * ((4 : Int32) - (2 : Int32)))).toInt32.toInt8.toInt32)).set (F + 2) (nar .byte (XT.ushrL v ((8 : Int32) * ((4 : Int32) - (3 : Int32)))).toInt32.toInt8.toInt32)).set (F + 3) (nar .byte (XT.ushrL v ((8 : Int32) * ((4 : Int32) - (4 : Int32)))).toInt32.toInt8.toInt32)).getD (F + 3) 0 = (nar .byte (XT.ushrL v ((8 : Int32) * ((4 : Int32) - (4 : Int32)))).toInt32.toInt8.toInt32) := by
      simp [List.getD_eq_getElem?_getD, List.getElem?_set, hlen]
      rw [if_pos (by omega)]; rfl
    rw [e, own_byte, own_ushrL_nat v _ (k := 0) (by decide) (by decide)]
theorem own_pl5 (v : Int64) (F : Nat) (x0 : List Int32) (hlen : x0.length = 12) (hF : F ≤ 3) : (own_read (((((x0.set F (nar .byte (XT.ushrL v ((8 : Int32) * ((5 : Int32) - (1 : Int32)))).toInt32.toInt8.toInt32)).set (F + 1) (nar .byte (XT.ushrL v ((8 : Int32) * ((5 : Int32) - (2 : Int32)))).toInt32.toInt8.toInt32)).set (F + 2) (nar .byte (XT.ushrL v ((8 : Int32) * ((5 : Int32) - (3 : Int32)))).toInt32.toInt8.toInt32)).set (F + 3) (nar .byte (XT.ushrL v ((8 : Int32) * ((5 : Int32) - (4 : Int32)))).toInt32.toInt8.toInt32)).set (F + 4) (nar .byte (XT.ushrL v ((8 : Int32) * ((5 : Int32) - (5 : Int32)))).toInt32.toInt8.toInt32)) F 5 0).toBitVec.toNat = v.toBitVec.toNat % 256 ^ 5 := by
  refine own_readN v _ 5 (by decide) 5 F 0 0 rfl (by rw [Nat.pow_zero, Nat.mod_one]; rfl) ?_
  intro i hi
  have hi' : i = 0 ∨ i = 1 ∨ i = 2 ∨ i = 3 ∨ i = 4 := by omega
  rcases hi' with rfl | rfl | rfl | rfl | rfl
  · have e : (((((x0.set F (nar .byte (XT.ushrL v ((8 : Int32) * ((5 : Int32) - (1 : Int32)))).toInt32.toInt8.toInt32)).set (F + 1) (nar .byte (XT.ushrL v ((8 : Int32) * ((5 : Int32) - (2 : Int32)))).toInt32.toInt8.toInt32)).set (F + 2) (nar .byte (XT.ushrL v ((8 : Int32) * ((5 : Int32) - (3 : Int32)))).toInt32.toInt8.toInt32)).set (F + 3) (nar .byte (XT.ushrL v ((8 : Int32) * ((5 : Int32) - (4 : Int32)))).toInt32.toInt8.toInt32)).set (F + 4) (nar .byte (XT.ushrL v ((8 : Int32) * ((5 : Int32) - (5 : Int32)))).toInt32.toInt8.toInt32)).getD (F + 0) 0 = (nar .byte (XT.ushrL v ((8 : Int32) * ((5 : Int32) - (1 : Int32)))).toInt32.toInt8.toInt32) := by
      simp [List.getD_eq_getElem?_getD, List.getElem?_set, hlen]
      rw [if_pos (by omega)]; rfl
    rw [e, own_byte, own_ushrL_nat v _ (k := 32) (by decide) (by decide)]
  · have e : (((((x0.set F (nar .byte (XT.ushrL v ((8 : Int32) * ((5 : Int32) - (1 : Int32)))).toInt32.toInt8.toInt32)).set (F + 1) (nar .byte (XT.ushrL v ((8 : Int32) * ((5 : Int32) - (2 : Int32)))).toInt32.toInt8.toInt32)).set (F + 2) (nar .byte (XT.ushrL v ((8 : Int32) * ((5 : Int32) - (3 : Int32)))).toInt32.toInt8.toInt32)).set (F + 3) (nar .byte (XT.ushrL v ((8 : Int32) * ((5 : Int32) - (4 : Int32)))).toInt32.toInt8.toInt32)).set (F + 4) (nar .byte (XT.ushrL v ((8 : Int32) * ((5 : Int32) - (5 : Int32)))).toInt32.toInt8.toInt32)).getD (F + 1) 0 = (nar .byte (XT.ushrL v ((8 : Int32) * ((5 : Int32) - (2 : Int32)))).toInt32.toInt8.toInt32) := by
      simp [List.getD_eq_getElem?_getD, List.getElem?_set, hlen]
      rw [if_pos (by omega)]; rfl
    rw [e, own_byte, own_ushrL_nat v _ (k := 24) (by decide) (by decide)]
  · have e : (((((x0.set F (nar .byte (XT.ushrL v ((8 : Int32) * ((5 : Int32) - (1 : Int32)))).toInt32.toInt8.toInt32)).set (F + 1) (nar .byte (XT.ushrL v ((8 : Int32) * ((5 : Int32) - (2 : Int32)))).toInt32.toInt8.toInt32)).set (F + 2) (nar .byte (XT.ushrL v ((8 : Int32) * ((5 : Int32) - (3 : Int32)))).toInt32.toInt8.toInt32)).set (F + 3) (nar .byte (XT.ushrL v ((8 : Int32) * ((5 : Int32) - (4 : Int32)))).toInt32.toInt8.toInt32)).set (F + 4) (nar .byte (XT.ushrL v ((8 : Int32) * ((5 : Int32) - (5 : Int32)))).toInt32.toInt8.toInt32)).getD (F + 2) 0 = (nar .byte (XT.ushrL v ((8 : Int32) * ((5 : Int32) - (3 : Int32)))).toInt32.toInt8.toInt32) := by
      simp [List.getD_eq_getElem?_getD, List.getElem?_set, hlen]
      rw [if_pos (by omega)]; rfl
    rw [e, own_byte, own_ushrL_nat v _ (k := 16) (by decide) (by decide)]
  · have e : (((((x0.set F (nar .byte (XT.ushrL v ((8 : Int32) * ((5 : Int32) - (1 : Int32)))).toInt32.toInt8.toInt32)).set (F + 1) (nar .byte (XT.ushrL v ((8 : Int32) * ((5 : Int32) - (2 : Int32)))).toInt32.toInt8.toInt32)).set (F + 2) (nar .byte (XT.ushrL v ((8 : Int32) * ((5 : Int32) - (3 : Int32)))).toInt32.toInt8.toInt32)).set (F + 3) (nar .byte (XT.ushrL v ((8 : Int32) * ((5 : Int32) - (4 : Int32)))).toInt32.toInt8.toInt32)).set (F + 4) (nar .byte (XT.ushrL v ((8 : Int32) * ((5 : Int32) - (5 : Int32)))).toInt32.toInt8.toInt32)).getD (F + 3) 0 = (nar .byte (XT.ushrL v ((8 : Int32) * ((5 : Int32) - (4 : Int32)))).toInt32.toInt8.toInt32) := by
      simp [List.getD_eq_getElem?_getD, List.getElem?_set, hlen]
      rw [if_pos (by omega)]; rfl
    rw [e, own_byte, own_ushrL_nat v _ (k := 8) (by decide) (by decide)]
  · have e : (((((x0.set F (nar .byte (XT.ushrL v ((8 : Int32) * ((5 : Int32) - (1 : Int32)))).toInt32.toInt8.toInt32)).set (F + 1) (nar .byte (XT.ushrL v ((8 : Int32) * ((5 : Int32) - (2 : Int32)))).toInt32.toInt8.toInt32)).set (F + 2) (nar .byte (XT.ushrL v ((8 : Int32) * ((5 : Int32) - (3 : Int32)))).toInt32.toInt8.toInt32)).set (F + 3) (nar .byte (XT.ushrL v ((8 : Int32) * ((5 : Int32) - (4 : Int32)))).toInt32.toInt8.toInt32)).set (F + 4) (nar .byte (XT.ushrL v ((8 : Int32) * ((5 : Int32) - (5 : Int32)))).toInt32.toInt8.toInt32)).getD (F + 4) 0 = (nar .byte (XT.ushrL v ((8 : Int32) * ((5 : Int32) - (5 : Int32)))).toInt32.toInt8.toInt32) := by
      simp [List.getD_eq_getElem?_getD, List.getElem?_set, hlen]
      rw [if_pos (by omega)]; rfl
    rw [e, own_byte, own_ushrL_nat v _ (k := 0) (by decide) (by decide)]
theorem own_pl6 (v : Int64) (F : Nat) (x0 : List Int32) (hlen : x0.length = 12) (hF : F ≤ 3) : (own_read ((((((x0.set F (nar .byte (XT.ushrL v ((8 : Int32) * ((6 : Int32) - (1 : Int32)))).toInt32.toInt8.toInt32)).set (F + 1) (nar .byte (XT.ushrL v ((8 : Int32) * ((6 : Int32) - (2 : Int32)))).toInt32.toInt8.toInt32)).set (F + 2) (nar .byte (XT.ushrL v ((8 : Int32) * ((6 : Int32) - (3 : Int32)))).toInt32.toInt8.toInt32)).set (F + 3) (nar .byte (XT.ushrL v ((8 : Int32) * ((6 : Int32) - (4 : Int32)))).toInt32.toInt8.toInt32)).set (F + 4) (nar .byte (XT.ushrL v ((8 : Int32) * ((6 : Int32) - (5 : Int32)))).toInt32.toInt8.toInt32)).set (F + 5) (nar .byte (XT.ushrL v ((8 : Int32) * ((6 : Int32) - (6 : Int32)))).toInt32.toInt8.toInt32)) F 6 0).toBitVec.toNat = v.toBitVec.toNat % 256 ^ 6 := by
  refine own_readN v _ 6 (by decide) 6 F 0 0 rfl (by rw [Nat.pow_zero, Nat.mod_one]; rfl) ?_
  intro i hi
  have hi' : i = 0 ∨ i = 1 ∨ i = 2 ∨ i = 3 ∨ i = 4 ∨ i = 5 := by omega
  rcases hi' with rfl | rfl | rfl | rfl | rfl | rfl
  · have e : ((((((x0.set F (nar .byte (XT.ushrL v ((8 : Int32) * ((6 : Int32) - (1 : Int32)))).toInt32.toInt8.toInt32)).set (F + 1) (nar .byte (XT.ushrL v ((8 : Int32) * ((6 : Int32) - (2 : Int32)))).toInt32.toInt8.toInt32)).set (F + 2) (nar .byte (XT.ushrL v ((8 : Int32) * ((6 : Int32) - (3 : Int32)))).toInt32.toInt8.toInt32)).set (F + 3) (nar .byte (XT.ushrL v ((8 : Int32) * ((6 : Int32) - (4 : Int32)))).toInt32.toInt8.toInt32)).set (F + 4) (nar .byte (XT.ushrL v ((8 : Int32) * ((6 : Int32) - (5 : Int32)))).toInt32.toInt8.toInt32)).set (F + 5) (nar .byte (XT.ushrL v ((8 : Int32) * ((6 : Int32) - (6 : Int32)))).toInt32.toInt8.toInt32)).getD (F + 0) 0 = (nar .byte (XT.ushrL v ((8 : Int32) * ((6 : Int32) - (1 : Int32)))).toInt32.toInt8.toInt32) := by
      simp [List.getD_eq_getElem?_getD, List.getElem?_set, hlen]
      rw [if_pos (by omega)]; rfl
    rw [e, own_byte, own_ushrL_nat v _ (k := 40) (by decide) (by decide)]
  · have e : ((((((x0.set F (nar .byte (XT.ushrL v ((8 : Int32) * ((6 : Int32) - (1 : Int32)))).toInt32.toInt8.toInt32)).set (F + 1) (nar .byte (XT.ushrL v ((8 : Int32) * ((6 : Int32) - (2 : Int32)))).toInt32.toInt8.toInt32)).set (F + 2) (nar .byte (XT.ushrL v ((8 : Int32) * ((6 : Int32) - (3 : Int32)))).toInt32.toInt8.toInt32)).set (F + 3) (nar .byte (XT.ushrL v ((8 : Int32) * ((6 : Int32) - (4 : Int32)))).toInt32.toInt8.toInt32)).set (F + 4) (nar .byte (XT.ushrL v ((8 : Int32) * ((6 : Int32) - (5 : Int32)))).toInt32.toInt8.toInt32)).set (F + 5) (nar .byte (XT.ushrL v ((8 : Int32) * ((6 : Int32) - (6 : Int32)))).toInt32.toInt8.toInt32)).getD (F + 1) 0 = (nar .byte (XT.ushrL v ((8 : Int32) * ((6 : Int32) - (2 : Int32)))).toInt32.toInt8.toInt32) := by
      simp [List.getD_eq_getElem?_getD, List.getElem?_set, hlen]
      rw [if_pos (by omega)]; rfl
    rw [e, own_byte, own_ushrL_nat v _ (k := 32) (by decide) (by decide)]
  · have e : ((((((x0.set F (nar .byte (XT.ushrL v ((8 : Int32) * ((6 : Int32) - (1 : Int32)))).toInt32.toInt8.toInt32)).set (F + 1) (nar .byte (XT.ushrL v ((8 : Int32) * ((6 : Int32) - (2 : Int32)))).toInt32.toInt8.toInt32)).set (F + 2) (nar .byte (XT.ushrL v ((8 : Int32) * ((6 : Int32) - (3 : Int32)))).toInt32.toInt8.toInt32)).set (F + 3) (nar .byte (XT.ushrL v ((8 : Int32) * ((6 : Int32) - (4 : Int32)))).toInt32.toInt8.toInt32)).set (F + 4) (nar .byte (XT.ushrL v ((8 : Int32) * ((6 : Int32) - (5 : Int32)))).toInt32.toInt8.toInt32)).set (F + 5) (nar .byte (XT.ushrL v ((8 : Int32) * ((6 : Int32) - (6 : Int32)))).toInt32.toInt8.toInt32)).getD (F + 2) 0 = (nar .byte (XT.ushrL v ((8 : Int32) * ((6 : Int32) - (3 : Int32)))).toInt32.toInt8.toInt32) := by
      simp [List.getD_eq_getElem?_getD, List.getElem?_set, hlen]
      rw [if_pos (by omega)]; rfl
    rw [e, own_byte, own_ushrL_nat v _ (k := 24) (by decide) (by decide)]
  · have e : ((((((x0.set F (nar .byte (XT.ushrL v ((8 : Int32) * ((6 : Int32) - (1 : Int32)))).toInt32.toInt8.toInt32)).set (F + 1) (nar .byte (XT.ushrL v ((8 : Int32) * ((6 : Int32) - (2 : Int32)))).toInt32.toInt8.toInt32)).set (F + 2) (nar .byte (XT.ushrL v ((8 : Int32) * ((6 : Int32) - (3 : Int32)))).toInt32.toInt8.toInt32)).set (F + 3) (nar .byte (XT.ushrL v ((8 : Int32) * ((6 : Int32) - (4 : Int32)))).toInt32.toInt8.toInt32)).set (F + 4) (nar .byte (XT.ushrL v ((8 : Int32) * ((6 : Int32) - (5 : Int32)))).toInt32.toInt8.toInt32)).set (F + 5) (nar .byte (XT.ushrL v ((8 : Int32) * ((6 : Int32) - (6 : Int32)))).toInt32.toInt8.toInt32)).getD (F + 3) 0 = (nar .byte (XT.ushrL v ((8 : Int32) * ((6 : Int32) - (4 : Int32)))).toInt32.toInt8.toInt32) := by
      simp [List.getD_eq_getElem?_getD, List.getElem?_set, hlen]
      rw [if_pos (by omega)]; rfl
    rw [e, own_byte, own_ushrL_nat v _ (k := 16) (by decide) (by decide)]
  · have e : ((((((x0.set F (nar .byte (XT.ushrL v ((8 : Int32) * ((6 : Int32) - (1 : Int32)))).toInt32.toInt8.toInt32)).set (F + 1) (nar .byte (XT.ushrL v ((8 : Int32) * ((6 : Int32) - (2 : Int32)))).toInt32.toInt8.toInt32)).set (F + 2) (nar .byte (XT.ushrL v ((8 : Int32) * ((6 : Int32) - (3 : Int32)))).toInt32.toInt8.toInt32)).set (F + 3) (nar .byte (XT.ushrL v ((8 : Int32) * ((6 : Int32) - (4 : Int32)))).toInt32.toInt8.toInt32)).set (F + 4) (nar .byte (XT.ushrL v ((8 : Int32) * ((6 : Int32) - (5 : Int32)))).toInt32.toInt8.toInt32)).set (F + 5) (nar .byte (XT.ushrL v ((8 : Int32) * ((6 : Int32) - (6 : Int32)))).toInt32.toInt8.toInt32)).getD (F + 4) 0 = (nar .byte (XT.ushrL v ((8 : Int32) * ((6 : Int32) - (5 : Int32)))).toInt32.toInt8.toInt32) := by
      simp [List.getD_eq_getElem?_getD, List.getElem?_set, hlen]
      rw [if_pos (by omega)]; rfl
    rw [e, own_byte, own_ushrL_nat v _ (k := 8) (by decide) (by decide)]
  · have e : ((((((x0.set F (nar .byte (XT.ushrL v ((8 : Int32) * ((6 : Int32) - (1 : Int32)))).toInt32.toInt8.toInt32)).set (F + 1) (nar .byte (XT.ushrL v ((8 : Int32) * ((6 : Int32) - (2 : Int32)))).toInt32.toInt8.toInt32)).set (F + 2) (nar .byte (XT.ushrL v ((8 : Int32) * ((6 : Int32) - (3 : Int32)))).toInt32.toInt8.toInt32)).set (F + 3) (nar .byte (XT.ushrL v ((8 : Int32) * ((6 : Int32) - (4 : Int32)))).toInt32.toInt8.toInt32)).set (F + 4) (nar .byte (XT.ushrL v ((8 : Int32) * ((6 : Int32) - (5 : Int32)))).toInt32.toInt8.toInt32)).set (F + 5) (nar .byte (XT.ushrL v ((8 : Int32) * ((6 : Int32) - (6 : Int32)))).toInt32.toInt8.toInt32)).getD (F + 5) 0 = (nar .byte (XT.ushrL v ((8 : Int32) * ((6 : Int32) - (6 : Int32)))).toInt32.toInt8.toInt32) := by
      simp [List.getD_eq_getElem?_getD, List.getElem?_set, hlen]
      rw [if_pos (by omega)]; rfl
    rw [e, own_byte, own_ushrL_nat v _ (k := 0) (by decide) (by decide)]
theorem own_pl7 (v : Int64) (F : Nat) (x0 : List Int32) (hlen : x0.length = 12) (hF : F ≤ 3) : (own_read (((((((x0.set F (nar .byte (XT.ushrL v ((8 : Int32) * ((7 : Int32) - (1 : Int32)))).toInt32.toInt8.toInt32)).set (F + 1) (nar .byte (XT.ushrL v ((8 : Int32) * ((7 : Int32) - (2 : Int32)))).toInt32.toInt8.toInt32)).set (F + 2) (nar .byte (XT.ushrL v ((8 : Int32) * ((7 : Int32) - (3 : Int32)))).toInt32.toInt8.toInt32)).set (F + 3) (nar .byte (XT.ushrL v ((8 : Int32) * ((7 : Int32) - (4 : Int32)))).toInt32.toInt8.toInt32)).set (F + 4) (nar .byte (XT.ushrL v ((8 : Int32) * ((7 : Int32) - (5 : Int32)))).toInt32.toInt8.toInt32)).set (F + 5) (nar .byte (XT.ushrL v ((8 : Int32) * ((7 : Int32) - (6 : Int32)))).toInt32.toInt8.toInt32)).set (F + 6) (nar .byte (XT.ushrL v ((8 : Int32) * ((7 : Int32) - (7 : Int32)))).toInt32.toInt8.toInt32)) F 7 0).toBitVec.toNat = v.toBitVec.toNat % 256 ^ 7 := by
  refine own_readN v _ 7 (by decide) 7 F 0 0 rfl (by rw [Nat.pow_zero, Nat.mod_one]; rfl) ?_
  intro i hi
  have hi' : i = 0 ∨ i = 1 ∨ i = 2 ∨ i = 3 ∨ i = 4 ∨ i = 5 ∨ i = 6 := by omega
  rcases hi' with rfl | rfl | rfl | rfl | rfl | rfl | rfl
  · have e : (((((((x0.set F (nar .byte (XT.ushrL v ((8 : Int32) * ((7 : Int32) - (1 : Int32)))).toInt32.toInt8.toInt32)).set (F + 1) (nar .byte (XT.ushrL v ((8 : Int32) * ((7 : Int32) - (2 : Int32)))).toInt32.toInt8.toInt32)).set (F + 2) (nar .byte (XT.ushrL v ((8 : Int32) * ((7 : Int32) - (3 : Int32)))).toInt32.toInt8.toInt32)).set (F + 3) (nar .byte (XT.ushrL v ((8 : Int32) * ((7 : Int32) - (4 : Int32)))).toInt32.toInt8.toInt32)).set (F + 4) (nar .byte (XT.ushrL v ((8 : Int32) * ((7 : Int32) - (5 : Int32)))).toInt32.toInt8.toInt32)).set (F + 5) (nar .byte (XT.ushrL v ((8 : Int32) * ((7 : Int32) - (6 : Int32)))).toInt32.toInt8.toInt32)).set (F + 6) (nar .byte (XT.ushrL v ((8 : Int32) * ((7 : Int32) - (7 : Int32)))).toInt32.toInt8.toInt32)).getD (F + 0) 0 = (nar .byte (XT.ushrL v ((8 : Int32) * ((7 : Int32) - (1 : Int32)))).toInt32.toInt8.toInt32) := by
      simp [List.getD_eq_getElem?_getD, List.getElem?_set, hlen]
      rw [if_pos (by omega)]; rfl
    rw [e, own_byte, own_ushrL_nat v _ (k := 48) (by decide) (by decide)]
  · have e : (((((((x0.set F (nar .byte (XT.ushrL v ((8 : Int32) * ((7 : Int32) - (1 : Int32)))).toInt32.toInt8.toInt32)).set (F + 1) (nar .byte (XT.ushrL v ((8 : Int32) * ((7 : Int32) - (2 : Int32)))).toInt32.toInt8.toInt32)).set (F + 2) (nar .byte (XT.ushrL v ((8 : Int32) * ((7 : Int32) - (3 : Int32)))).toInt32.toInt8.toInt32)).set (F + 3) (nar .byte (XT.ushrL v ((8 : Int32) * ((7 : Int32) - (4 : Int32)))).toInt32.toInt8.toInt32)).set (F + 4) (nar .byte (XT.ushrL v ((8 : Int32) * ((7 : Int32) - (5 : Int32)))).toInt32.toInt8.toInt32)).set (F + 5) (nar .byte (XT.ushrL v ((8 : Int32) * ((7 : Int32) - (6 : Int32)))).toInt32.toInt8.toInt32)).set (F + 6) (nar .byte (XT.ushrL v ((8 : Int32) * ((7 : Int32) - (7 : Int32)))).toInt32.toInt8.toInt32)).getD (F + 1) 0 = (nar .byte (XT.ushrL v ((8 : Int32) * ((7 : Int32) - (2 : Int32)))).toInt32.toInt8.toInt32) := by
      simp [List.getD_eq_getElem?_getD, List.getElem?_set, hlen]
      rw [if_pos (by omega)]; rfl
    rw [e, own_byte, own_ushrL_nat v _ (k := 40) (by decide) (by decide)]
  · have e : (((((((x0.set F (nar .byte (XT.ushrL v ((8 : Int32) * ((7 : Int32) - (1 : Int32)))).toInt32.toInt8.toInt32)).set (F + 1) (nar .byte (XT.ushrL v ((8 : Int32) * ((7 : Int32) - (2 : Int32)))).toInt32.toInt8.toInt32)).set (F + 2) (nar .byte (XT.ushrL v ((8 : Int32) * ((7 : Int32) - (3 : Int32)))).toInt32.toInt8.toInt32)).set (F + 3) (nar .byte (XT.ushrL v ((8 : Int32) * ((7 : Int32) - (4 : Int32)))).toInt32.toInt8.toInt32)).set (F + 4) (nar .byte (XT.ushrL v ((8 : Int32) * ((7 : Int32) - (5 : Int32)))).toInt32.toInt8.toInt32)).set (F + 5) (nar .byte (XT.ushrL v ((8 : Int32) * ((7 : Int32) - (6 : Int32)))).toInt32.toInt8.toInt32)).set (F + 6) (nar .byte (XT.ushrL v ((8 : Int32) * ((7 : Int32) - (7 : Int32)))).toInt32.toInt8.toInt32)).getD (F + 2) 0 = (nar .byte (XT.ushrL v ((8 : Int32) * ((7 : Int32) - (3 : Int32)))).toInt32.toInt8.toInt32) := by
      simp [List.getD_eq_getElem?_getD, List.getElem?_set, hlen]
      rw [if_pos (by omega)]; rfl
    rw [e, own_byte, own_ushrL_nat v _ (k := 32) (by decide) (by decide)]
  · have e : (((((((x0.set F (nar .byte (XT.ushrL v ((8 : Int32) * ((7 : Int32) - (1 : Int32)))).toInt32.toInt8.toInt32)).set (F + 1) (nar .byte (XT.ushrL v ((8 : Int32) * ((7 : Int32) - (2 : Int32)))).toInt32.toInt8.toInt32)).set (F + 2) (nar .byte (XT.ushrL v ((8 : Int32) * ((7 : Int32) - (3 : Int32)))).toInt32.toInt8.toInt32)).set (F + 3) (nar .byte (XT.ushrL v ((8 : Int32) * ((7 : Int32) - (4 : Int32)))).toInt32.toInt8.toInt32)).set (F + 4) (nar .byte (XT.ushrL v ((8 : Int32) * ((7 : Int32) - (5 : Int32)))).toInt32.toInt8.toInt32)).set (F + 5) (nar .byte (XT.ushrL v ((8 : Int32) * ((7 : Int32) - (6 : Int32)))).toInt32.toInt8.toInt32)).set (F + 6) (nar .byte (XT.ushrL v ((8 : Int32) * ((7 : Int32) - (7 : Int32)))).toInt32.toInt8.toInt32)).getD (F + 3) 0 = (nar .byte (XT.ushrL v ((8 : Int32) * ((7 : Int32) - (4 : Int32)))).toInt32.toInt8.toInt32) := by
      simp [List.getD_eq_getElem?_getD, List.getElem?_set, hlen]
      rw [if_pos (by omega)]; rfl
    rw [e, own_byte, own_ushrL_nat v _ (k := 24) (by decide) (by decide)]
  · have e : (((((((x0.set F (nar .byte (XT.ushrL v ((8 : Int32) * ((7 : Int32) - (1 : Int32)))).toInt32.toInt8.toInt32)).set (F + 1) (nar .byte (XT.ushrL v ((8 : Int32) * ((7 : Int32) - (2 : Int32)))).toInt32.toInt8.toInt32)).set (F + 2) (nar .byte (XT.ushrL v ((8 : Int32) * ((7 : Int32) - (3 : Int32)))).toInt32.toInt8.toInt32)).set (F + 3) (nar .byte (XT.ushrL v ((8 : Int32) * ((7 : Int32) - (4 : Int32)))).toInt32.toInt8.toInt32)).set (F + 4) (nar .byte (XT.ushrL v ((8 : Int32) * ((7 : Int32) - (5 : Int32)))).toInt32.toInt8.toInt32)).set (F + 5) (nar .byte (XT.ushrL v ((8 : Int32) * ((7 : Int32) - (6 : Int32)))).toInt32.toInt8.toInt32)).set (F + 6) (nar .byte (XT.ushrL v ((8 : Int32) * ((7 : Int32) - (7 : Int32)))).toInt32.toInt8.toInt32)).getD (F + 4) 0 = (nar .byte (XT.ushrL v ((8 : Int32) * ((7 : Int32) - (5 : Int32)))).toInt32.toInt8.toInt32) := by
      simp [List.getD_eq_getElem?_getD, List.getElem?_set, hlen]
      rw [if_pos (by omega)]; rfl
    rw [e, own_byte, own_ushrL_nat v _ (k := 16) (by decide) (by decide)]
  · have e : (((((((x0.set F (nar .byte (XT.ushrL v ((8 : Int32) * ((7 : Int32) - (1 : Int32)))).toInt32.toInt8.toInt32)).set (F + 1) (nar .byte (XT.ushrL v ((8 : Int32) * ((7 : Int32) - (2 : Int32)))).toInt32.toInt8.toInt32)).set (F + 2) (nar .byte (XT.ushrL v ((8 : Int32) * ((7 : Int32) - (3 : Int32)))).toInt32.toInt8.toInt32)).set (F + 3) (nar .byte (XT.ushrL v ((8 : Int32) * ((7 : Int32) - (4 : Int32)))).toInt32.toInt8.toInt32)).set (F + 4) (nar .byte (XT.ushrL v ((8 : Int32) * ((7 : Int32) - (5 : Int32)))).toInt32.toInt8.toInt32)).set (F + 5) (nar .byte (XT.ushrL v ((8 : Int32) * ((7 : Int32) - (6 : Int32)))).toInt32.toInt8.toInt32)).set (F + 6) (nar .byte (XT.ushrL v ((8 : Int32) * ((7 : Int32) - (7 : Int32)))).toInt32.toInt8.toInt32)).getD (F + 5) 0 = (nar .byte (XT.ushrL v ((8 : Int32) * ((7 : Int32) - (6 : Int32)))).toInt32.toInt8.toInt32) := by
      simp [List.getD_eq_getElem?_getD, List.getElem?_set, hlen]
      rw [if_pos (by omega)]; rfl
    rw [e, own_byte, own_ushrL_nat v _ (k := 8) (by decide) (by decide)]
  · have e : (((((((x0.set F (nar .byte (XT.ushrL v ((8 : Int32) * ((7 : Int32) - (1 : Int32)))).toInt32.toInt8.toInt32)).set (F + 1) (nar .byte (XT.ushrL v ((8 : Int32) * ((7 : Int32) - (2 : Int32)))).toInt32.toInt8.toInt32)).set (F + 2) (nar .byte (XT.ushrL v ((8 : Int32) * ((7 : Int32) - (3 : Int32)))).toInt32.toInt8.toInt32)).set (F + 3) (nar .byte (XT.ushrL v ((8 : Int32) * ((7 : Int32) - (4 : Int32)))).toInt32.toInt8.toInt32)).set (F + 4) (nar .byte (XT.ushrL v ((8 : Int32) * ((7 : Int32) - (5 : Int32)))).toInt32.toInt8.toInt32)).set (F + 5) (nar .byte (XT.ushrL v ((8 : Int32) * ((7 : Int32) - (6 : Int32)))).toInt32.toInt8.toInt32)).set (F + 6) (nar .byte (XT.ushrL v ((8 : Int32) * ((7 : Int32) - (7 : Int32)))).toInt32.toInt8.toInt32)).getD (F + 6) 0 = (nar .byte (XT.ushrL v ((8 : Int32) * ((7 : Int32) - (7 : Int32)))).toInt32.toInt8.toInt32) := by
      simp [List.getD_eq_getElem?_getD, List.getElem?_set, hlen]
      rw [if_pos (by omega)]; rfl
    rw [e, own_byte, own_ushrL_nat v _ (k := 0) (by decide) (by decide)]
theorem own_pl8 (v : Int64) (F : Nat) (x0 : List Int32) (hlen : x0.length = 12) (hF : F ≤ 3) : (own_read ((((((((x0.set F (nar .byte (XT.ushrL v ((8 : Int32) * ((8 : Int32) - (1 : Int32)))).toInt32.toInt8.toInt32)).set (F + 1) (nar .byte (XT.ushrL v ((8 : Int32) * ((8 : Int32) - (2 : Int32)))).toInt32.toInt8.toInt32)).set (F + 2) (nar .byte (XT.ushrL v ((8 : Int32) * ((8 : Int32) - (3 : Int32)))).toInt32.toInt8.toInt32)).set (F + 3) (nar .byte (XT.ushrL v ((8 : Int32) * ((8 : Int32) - (4 : Int32)))).toInt32.toInt8.toInt32)).set (F + 4) (nar .byte (XT.ushrL v ((8 : Int32) * ((8 : Int32) - (5 : Int32)))).toInt32.toInt8.toInt32)).set (F + 5) (nar .byte (XT.ushrL v ((8 : Int32) * ((8 : Int32) - (6 : Int32)))).toInt32.toInt8.toInt32)).set (F + 6) (nar .byte (XT.ushrL v ((8 : Int32) * ((8 : Int32) - (7 : Int32)))).toInt32.toInt8.toInt32)).set (F + 7) (nar .byte (XT.ushrL v ((8 : Int32) * ((8 : Int32) - (8 : Int32)))).toInt32.toInt8.toInt32)) F 8 0).toBitVec.toNat = v.toBitVec.toNat % 256 ^ 8 := by
  refine own_readN v _ 8 (by decide) 8 F 0 0 rfl (by rw [Nat.pow_zero, Nat.mod_one]; rfl) ?_
  intro i hi
  have hi' : i = 0 ∨ i = 1 ∨ i = 2 ∨ i = 3 ∨ i = 4 ∨ i = 5 ∨ i = 6 ∨ i = 7 := by omega
  rcases hi' with rfl | rfl | rfl | rfl | rfl | rfl | rfl | rfl
  · have e : ((((((((x0.set F (nar .byte (XT.ushrL v ((8 : Int32) * ((8 : Int32) - (1 : Int32)))).toInt32.toInt8.toInt32)).set (F + 1) (nar .byte (XT.ushrL v ((8 : Int32) * ((8 : Int32) - (2 : Int32)))).toInt32.toInt8.toInt32)).set (F + 2) (nar .byte (XT.ushrL v ((8 : Int32) * ((8 : Int32) - (3 : Int32)))).toInt32.toInt8.toInt32)).set (F + 3) (nar .byte (XT.ushrL v ((8 : Int32) * ((8 : Int32) - (4 : Int32)))).toInt32.toInt8.toInt32)).set (F + 4) (nar .byte (XT.ushrL v ((8 : Int32) * ((8 : Int32) - (5 : Int32)))).toInt32.toInt8.toInt32)).set (F + 5) (nar .byte (XT.ushrL v ((8 : Int32) * ((8 : Int32) - (6 : Int32)))).toInt32.toInt8.toInt32)).set (F + 6) (nar .byte (XT.ushrL v ((8 : Int32) * ((8 : Int32) - (7 : Int32)))).toInt32.toInt8.toInt32)).set (F + 7) (nar .byte (XT.ushrL v ((8 : Int32) * ((8 : Int32) - (8 : Int32)))).toInt32.toInt8.toInt32)).getD (F + 0) 0 = (nar .byte (XT.ushrL v ((8 : Int32) * ((8 : Int32) - (1 : Int32)))).toInt32.toInt8.toInt32) := by
      simp [List.getD_eq_getElem?_getD, List.getElem?_set, hlen]
      rw [if_pos (by omega)]; rfl
    rw [e, own_byte, own_ushrL_nat v _ (k := 56) (by decide) (by decide)]
  · have e : ((((((((x0.set F (nar .byte (XT.ushrL v ((8 : Int32) * ((8 : Int32) - (1 : Int32)))).toInt32.toInt8.toInt32)).set (F + 1) (nar .byte (XT.ushrL v ((8 : Int32) * ((8 : Int32) - (2 : Int32)))).toInt32.toInt8.toInt32)).set (F + 2) (nar .byte (XT.ushrL v ((8 : Int32) * ((8 : Int32) - (3 : Int32)))).toInt32.toInt8.toInt32)).set (F + 3) (nar .byte (XT.ushrL v ((8 : Int32) * ((8 : Int32) - (4 : Int32)))).toInt32.toInt8.toInt32)).set (F + 4) (nar .byte (XT.ushrL v ((8 : Int32) * ((8 : Int32) - (5 : Int32)))).toInt32.toInt8.toInt32)).set (F + 5) (nar .byte (XT.ushrL v ((8 : Int32) * ((8 : Int32) - (6 : Int32)))).toInt32.toInt8.toInt32)).set (F + 6) (nar .byte (XT.ushrL v ((8 : Int32) * ((8 : Int32) - (7 : Int32)))).toInt32.toInt8.toInt32)).set (F + 7) (nar .byte (XT.ushrL v ((8 : Int32) * ((8 : Int32) - (8 : Int32)))).toInt32.toInt8.toInt32)).getD (F + 1) 0 = (nar .byte (XT.ushrL v ((8 : Int32) * ((8 : Int32) - (2 : Int32)))).toInt32.toInt8.toInt32) := by
      simp [List.getD_eq_getElem?_getD, List.getElem?_set, hlen]
      rw [if_pos (by omega)]; rfl
    rw [e, own_byte, own_ushrL_nat v _ (k := 48) (by decide) (by decide)]
  · have e : ((((((((x0.set F (nar .byte (XT.ushrL v ((8 : Int32) * ((8 : Int32) - (1 : Int32)))).toInt32.toInt8.toInt32)).set (F + 1) (nar .byte (XT.ushrL v ((8 : Int32) * ((8 : Int32) - (2 : Int32)))).toInt32.toInt8.toInt32)).set (F + 2) (nar .byte (XT.ushrL v ((8 : Int32) * ((8 : Int32) - (3 : Int32)))).toInt32.toInt8.toInt32)).set (F + 3) (nar .byte (XT.ushrL v ((8 : Int32) * ((8 : Int32) - (4 : Int32)))).toInt32.toInt8.toInt32)).set (F + 4) (nar .byte (XT.ushrL v ((8 : Int32) * ((8 : Int32) - (5 : Int32)))).toInt32.toInt8.toInt32)).set (F + 5) (nar .byte (XT.ushrL v ((8 : Int32) * ((8 : Int32) - (6 : Int32)))).toInt32.toInt8.toInt32)).set (F + 6) (nar .byte (XT.ushrL v ((8 : Int32) * ((8 : Int32) - (7 : Int32)))).toInt32.toInt8.toInt32)).set (F + 7) (nar .byte (XT.ushrL v ((8 : Int32) * ((8 : Int32) - (8 : Int32)))).toInt32.toInt8.toInt32)).getD (F + 2) 0 = (nar .byte (XT.ushrL v ((8 : Int32) * ((8 : Int32) - (3 : Int32)))).toInt32.toInt8.toInt32) := by
      simp [List.getD_eq_getElem?_getD, List.getElem?_set, hlen]
      rw [if_pos (by omega)]; rfl
    rw [e, own_byte, own_ushrL_nat v _ (k := 40) (by decide) (by decide)]
  · have e : ((((((((x0.set F (nar .byte (XT.ushrL v ((8 : Int32) * ((8 : Int32) - (1 : Int32)))).toInt32.toInt8.toInt32)).set (F + 1) (nar .byte (XT.ushrL v ((8 : Int32) * ((8 : Int32) - (2 : Int32)))).toInt32.toInt8.toInt32)).set (F + 2) (nar .byte (XT.ushrL v ((8 : Int32) * ((8 : Int32) - (3 : Int32)))).toInt32.toInt8.toInt32)).set (F + 3) (nar .byte (XT.ushrL v ((8 : Int32) * ((8 : Int32) - (4 : Int32)))).toInt32.toInt8.toInt32)).set (F + 4) (nar .byte (XT.ushrL v ((8 : Int32) * ((8 : Int32) - (5 : Int32)))).toInt32.toInt8.toInt32)).set (F + 5) (nar .byte (XT.ushrL v ((8 : Int32) * ((8 : Int32) - (6 : Int32)))).toInt32.toInt8.toInt32)).set (F + 6) (nar .byte (XT.ushrL v ((8 : Int32) * ((8 : Int32) - (7 : Int32)))).toInt32.toInt8.toInt32)).set (F + 7) (nar .byte (XT.ushrL v ((8 : Int32) * ((8 : Int32) - (8 : Int32)))).toInt32.toInt8.toInt32)).getD (F + 3) 0 = (nar .byte (XT.ushrL v ((8 : Int32) * ((8 : Int32) - (4 : Int32)))).toInt32.toInt8.toInt32) := by
      simp [List.getD_eq_getElem?_getD, List.getElem?_set, hlen]
      rw [if_pos (by omega)]; rfl
    rw [e, own_byte, own_ushrL_nat v _ (k := 32) (by decide) (by decide)]
  · have e : ((((((((x0.set F (nar .byte (XT.ushrL v ((8 : Int32) * ((8 : Int32) - (1 : Int32)))).toInt32.toInt8.toInt32)).set (F + 1) (nar .byte (XT.ushrL v ((8 : Int32) * ((8 : Int32) - (2 : Int32)))).toInt32.toInt8.toInt32)).set (F + 2) (nar .byte (XT.ushrL v ((8 : Int32) * ((8 : Int32) - (3 : Int32)))).toInt32.toInt8.toInt32)).set (F + 3) (nar .byte (XT.ushrL v ((8 : Int32) * ((8 : Int32) - (4 : Int32)))).toInt32.toInt8.toInt32)).set (F + 4) (nar .byte (XT.ushrL v ((8 : Int32) * ((8 : Int32) - (5 : Int32)))).toInt32.toInt8.toInt32)).set (F + 5) (nar .byte (XT.ushrL v ((8 : Int32) * ((8 : Int32) - (6 : Int32)))).toInt32.toInt8.toInt32)).set (F + 6) (nar .byte (XT.ushrL v ((8 : Int32) * ((8 : Int32) - (7 : Int32)))).toInt32.toInt8.toInt32)).set (F + 7) (nar .byte (XT.ushrL v ((8 : Int32) * ((8 : Int32) - (8 : Int32)))).toInt32.toInt8.toInt32)).getD (F + 4) 0 = (nar .byte (XT.ushrL v ((8 : Int32) * ((8 : Int32) - (5 : Int32)))).toInt32.toInt8.toInt32) := by
      simp [List.getD_eq_getElem?_getD, List.getElem?_set, hlen]
      rw [if_pos (by omega)]; rfl
    rw [e, own_byte, own_ushrL_nat v _ (k := 24) (by decide) (by decide)]
  · have e : ((((((((x0.set F (nar .byte (XT.ushrL v ((8 : Int32) * ((8 : Int32) - (1 : Int32)))).toInt32.toInt8.toInt32)).set (F + 1) (nar .byte (XT.ushrL v ((8 : Int32) * ((8 : Int32) - (2 : Int32)))).toInt32.toInt8.toInt32)).set (F + 2) (nar .byte (XT.ushrL v ((8 : Int32) * ((8 : Int32) - (3 : Int32)))).toInt32.toInt8.toInt32)).set (F + 3) (nar .byte (XT.ushrL v ((8 : Int32) * ((8 : Int32) - (4 : Int32)))).toInt32.toInt8.toInt32)).set (F + 4) (nar .byte (XT.ushrL v ((8 : Int32) * ((8 : Int32) - (5 : Int32)))).toInt32.toInt8.toInt32)).set (F + 5) (nar .byte (XT.ushrL v ((8 : Int32) * ((8 : Int32) - (6 : Int32)))).toInt32.toInt8.toInt32)).set (F + 6) (nar .byte (XT.ushrL v ((8 : Int32) * ((8 : Int32) - (7 : Int32)))).toInt32.toInt8.toInt32)).set (F + 7) (nar .byte (XT.ushrL v ((8 : Int32) * ((8 : Int32) - (8 : Int32)))).toInt32.toInt8.toInt32)).getD (F + 5) 0 = (nar .byte (XT.ushrL v ((8 : Int32) * ((8 : Int32) - (6 : Int32)))).toInt32.toInt8.toInt32) := by
      simp [List.getD_eq_getElem?_getD, List.getElem?_set, hlen]
      rw [if_pos (by omega)]; rfl
    rw [e, own_byte, own_ushrL_nat v _ (k := 16) (by decide) (by decide)]
  · have e : ((((((((x0.set F (nar .byte (XT.ushrL v ((8 : Int32) * ((8 : Int32) - (1 : Int32)))).toInt32.toInt8.toInt32)).set (F + 1) (nar .byte (XT.ushrL v ((8 : Int32) * ((8 : Int32) - (2 : Int32)))).toInt32.toInt8.toInt32)).set (F + 2) (nar .byte (XT.ushrL v ((8 : Int32) * ((8 : Int32) - (3 : Int32)))).toInt32.toInt8.toInt32)).set (F + 3) (nar .byte (XT.ushrL v ((8 : Int32) * ((8 : Int32) - (4 : Int32)))).toInt32.toInt8.toInt32)).set (F + 4) (nar .byte (XT.ushrL v ((8 : Int32) * ((8 : Int32) - (5 : Int32)))).toInt32.toInt8.toInt32)).set (F + 5) (nar .byte (XT.ushrL v ((8 : Int32) * ((8 : Int32) - (6 : Int32)))).toInt32.toInt8.toInt32)).set (F + 6) (nar .byte (XT.ushrL v ((8 : Int32) * ((8 : Int32) - (7 : Int32)))).toInt32.toInt8.toInt32)).set (F + 7) (nar .byte (XT.ushrL v ((8 : Int32) * ((8 : Int32) - (8 : Int32)))).toInt32.toInt8.toInt32)).getD (F + 6) 0 = (nar .byte (XT.ushrL v ((8 : Int32) * ((8 : Int32) - (7 : Int32)))).toInt32.toInt8.toInt32) := by
      simp [List.getD_eq_getElem?_getD, List.getElem?_set, hlen]
      rw [if_pos (by omega)]; rfl
    rw [e, own_byte, own_ushrL_nat v _ (k := 8) (by decide) (by decide)]
  · have e : ((((((((x0.set F (nar .byte (XT.ushrL v ((8 : Int32) * ((8 : Int32) - (1 : Int32)))).toInt32.toInt8.toInt32)).set (F + 1) (nar .byte (XT.ushrL v ((8 : Int32) * ((8 : Int32) - (2 : Int32)))).toInt32.toInt8.toInt32)).set (F + 2) (nar .byte (XT.ushrL v ((8 : Int32) * ((8 : Int32) - (3 : Int32)))).toInt32.toInt8.toInt32)).set (F + 3) (nar .byte (XT.ushrL v ((8 : Int32) * ((8 : Int32) - (4 : Int32)))).toInt32.toInt8.toInt32)).set (F + 4) (nar .byte (XT.ushrL v ((8 : Int32) * ((8 : Int32) - (5 : Int32)))).toInt32.toInt8.toInt32)).set (F + 5) (nar .byte (XT.ushrL v ((8 : Int32) * ((8 : Int32) - (6 : Int32)))).toInt32.toInt8.toInt32)).set (F + 6) (nar .byte (XT.ushrL v ((8 : Int32) * ((8 : Int32) - (7 : Int32)))).toInt32.toInt8.toInt32)).set (F + 7) (nar .byte (XT.ushrL v ((8 : Int32) * ((8 : Int32) - (8 : Int32)))).toInt32.toInt8.toInt32)).getD (F + 7) 0 = (nar .byte (XT.ushrL v ((8 : Int32) * ((8 : Int32) - (8 : Int32)))).toInt32.toInt8.toInt32) := by
      simp [List.getD_eq_getElem?_getD, List.getElem?_set, hlen]
      rw [if_pos (by omega)]; rfl
    rw [e, own_byte, own_ushrL_nat v _ (k := 0) (by decide) (by decide)]
theorem own_glue (v : Int64) (f l t : Int32) (x0 x1 x2 x3 x4 x5 x6 x7 x8 : List Int32) (z : Int64) (hlen : x0.length = 12) (hf : f = 0 ∨ f = 1 ∨ f = 2 ∨ f = 3) (hl : l = 0 ∨ l = 1 ∨ l = 2 ∨ l = 3 ∨ l = 4 ∨ l = 5 ∨ l = 6 ∨ l = 7 ∨ l = 8) (ht : t = f + l) (h1 : x1 = (if (0 : Int32) < l then (x0.set f.toNatClampNeg (nar .byte (XT.ushrL v ((8 : Int32) * (l - (1 : Int32)))).toInt32.toInt8.toInt32)) else x0)) (h2 : x2 = (if (1 : Int32) < l then (x1.set (f + (1 : Int32)).toNatClampNeg (nar .byte (XT.ushrL v ((8 : Int32) * (l - (2 : Int32)))).toInt32.toInt8.toInt32)) else x1)) (h3 : x3 = (if (2 : Int32) < l then (x2.set (f + (2 : Int32)).toNatClampNeg (nar .byte (XT.ushrL v ((8 : Int32) * (l - (3 : Int32)))).toInt32.toInt8.toInt32)) else x2)) (h4 : x4 = (if (3 : Int32) < l then (x3.set (f + (3 : Int32)).toNatClampNeg (nar .byte (XT.ushrL v ((8 : Int32) * (l - (4 : Int32)))).toInt32.toInt8.toInt32)) else x3)) (h5 : x5 = (if (4 : Int32) < l then (x4.set (f + (4 : Int32)).toNatClampNeg (nar .byte (XT.ushrL v ((8 : Int32) * (l - (5 : Int32)))).toInt32.toInt8.toInt32)) else x4)) (h6 : x6 = (if (5 : Int32) < l then (x5.set (f + (5 : Int32)).toNatClampNeg (nar .byte (XT.ushrL v ((8 : Int32) * (l - (6 : Int32)))).toInt32.toInt8.toInt32)) else x5)) (h7 : x7 = (if (6 : Int32) < l then (x6.set (f + (6 : Int32)).toNatClampNeg (nar .byte (XT.ushrL v ((8 : Int32) * (l - (7 : Int32)))).toInt32.toInt8.toInt32)) else x6)) (h8 : x8 = (if (7 : Int32) < l then (x7.set (f + (7 : Int32)).toNatClampNeg (nar .byte (XT.ushrL v ((8 : Int32) * (l - (8 : Int32)))).toInt32.toInt8.toInt32)) else x7)) (hz : z = (if l = (8 : Int32) then v else (v &&& (((1 : Int64) <<< (((8 : Int32) * l).toInt64 &&& 63)) - (1 : Int64))))) : own_f1 x8 f t = z := by
  have hF : f.toNatClampNeg ≤ 3 := by rcases hf with h | h | h | h <;> subst h <;> decide
  have c1 : (f + (1 : Int32)).toNatClampNeg = f.toNatClampNeg + 1 := by rcases hf with h | h | h | h <;> subst h <;> decide
  have c2 : (f + (2 : Int32)).toNatClampNeg = f.toNatClampNeg + 2 := by rcases hf with h | h | h | h <;> subst h <;> decide
  have c3 : (f + (3 : Int32)).toNatClampNeg = f.toNatClampNeg + 3 := by rcases hf with h | h | h | h <;> subst h <;> decide
  have c4 : (f + (4 : Int32)).toNatClampNeg = f.toNatClampNeg + 4 := by rcases hf with h | h | h | h <;> subst h <;> decide
  have c5 : (f + (5 : Int32)).toNatClampNeg = f.toNatClampNeg + 5 := by rcases hf with h | h | h | h <;> subst h <;> decide
  have c6 : (f + (6 : Int32)).toNatClampNeg = f.toNatClampNeg + 6 := by rcases hf with h | h | h | h <;> subst h <;> decide
  have c7 : (f + (7 : Int32)).toNatClampNeg = f.toNatClampNeg + 7 := by rcases hf with h | h | h | h <;> subst h <;> decide
  rcases hl with h | h | h | h | h | h | h | h | h
  · subst h
    have hk : t.toNatClampNeg - f.toNatClampNeg = 0 := by subst ht; rcases hf with h | h | h | h <;> subst h <;> decide
    rw [if_neg (by decide)] at h1
    rw [if_neg (by decide)] at h2
    rw [if_neg (by decide)] at h3
    rw [if_neg (by decide)] at h4
    rw [if_neg (by decide)] at h5
    rw [if_neg (by decide)] at h6
    rw [if_neg (by decide)] at h7
    rw [if_neg (by decide)] at h8
    rw [if_neg (by decide)] at hz
    subst h1 h2 h3 h4 h5 h6 h7 h8 hz
    apply own_nat_inj64
    unfold own_f1
    rw [hk]
    refine (own_pl0 v _ _ hlen hF).trans ?_
    rw [own_and_nat64 _ _ (k := 0) (by decide)]
  · subst h
    have hk : t.toNatClampNeg - f.toNatClampNeg = 1 := by subst ht; rcases hf with h | h | h | h <;> subst h <;> decide
    rw [if_pos (by decide)] at h1
    rw [if_neg (by decide)] at h2
    rw [if_neg (by decide)] at h3
    rw [if_neg (by decide)] at h4
    rw [if_neg (by decide)] at h5
    rw [if_neg (by decide)] at h6
    rw [if_neg (by decide)] at h7
    rw [if_neg (by decide)] at h8
    rw [if_neg (by decide)] at hz
    subst h1 h2 h3 h4 h5 h6 h7 h8 hz
    apply own_nat_inj64
    unfold own_f1
    rw [hk]
    refine (own_pl1 v _ _ hlen hF).trans ?_
    rw [own_and_nat64 _ _ (k := 8) (by decide)]
  · subst h
    have hk : t.toNatClampNeg - f.toNatClampNeg = 2 := by subst ht; rcases hf with h | h | h | h <;> subst h <;> decide
    rw [if_pos (by decide)] at h1
    rw [if_pos (by decide)] at h2
    rw [if_neg (by decide)] at h3
    rw [if_neg (by decide)] at h4
    rw [if_neg (by decide)] at h5
    rw [if_neg (by decide)] at h6
    rw [if_neg (by decide)] at h7
    rw [if_neg (by decide)] at h8
    rw [c1] at h2
    rw [if_neg (by decide)] at hz
    subst h1 h2 h3 h4 h5 h6 h7 h8 hz
    apply own_nat_inj64
    unfold own_f1
    rw [hk]
    refine (own_pl2 v _ _ hlen hF).trans ?_
    rw [own_and_nat64 _ _ (k := 16) (by decide)]
  · subst h
    have hk : t.toNatClampNeg - f.toNatClampNeg = 3 := by subst ht; rcases hf with h | h | h | h <;> subst h <;> decide
    rw [if_pos (by decide)] at h1
    rw [if_pos (by decide)] at h2
    rw [if_pos (by decide)] at h3
    rw [if_neg (by decide)] at h4
    rw [if_neg (by decide)] at h5
    rw [if_neg (by decide)] at h6
    rw [if_neg (by decide)] at h7
    rw [if_neg (by decide)] at h8
    rw [c1] at h2
    rw [c2] at h3
    rw [if_neg (by decide)] at hz
    subst h1 h2 h3 h4 h5 h6 h7 h8 hz
    apply own_nat_inj64
    unfold own_f1
    rw [hk]
    refine (own_pl3 v _ _ hlen hF).trans ?_
    rw [own_and_nat64 _ _ (k := 24) (by decide)]
  · subst h
    have hk : t.toNatClampNeg - f.toNatClampNeg = 4 := by subst ht; rcases hf with h | h | h | h <;> subst h <;> decide
    rw [if_pos (by decide)] at h1
    rw [if_pos (by decide)] at h2
    rw [if_pos (by decide)] at h3
    rw [if_pos (by decide)] at h4
    rw [if_neg (by decide)] at h5
    rw [if_neg (by decide)] at h6
    rw [if_neg (by decide)] at h7
    rw [if_neg (by decide)] at h8
    rw [c1] at h2
    rw [c2] at h3
    rw [c3] at h4
    rw [if_neg (by decide)] at hz
    subst h1 h2 h3 h4 h5 h6 h7 h8 hz
    apply own_nat_inj64
    unfold own_f1
    rw [hk]
    refine (own_pl4 v _ _ hlen hF).trans ?_
    rw [own_and_nat64 _ _ (k := 32) (by decide)]
  · subst h
    have hk : t.toNatClampNeg - f.toNatClampNeg = 5 := by subst ht; rcases hf with h | h | h | h <;> subst h <;> decide
    rw [if_pos (by decide)] at h1
    rw [if_pos (by decide)] at h2
    rw [if_pos (by decide)] at h3
    rw [if_pos (by decide)] at h4
    rw [if_pos (by decide)] at h5
    rw [if_neg (by decide)] at h6
    rw [if_neg (by decide)] at h7
    rw [if_neg (by decide)] at h8
    rw [c1] at h2
    rw [c2] at h3
    rw [c3] at h4
    rw [c4] at h5
    rw [if_neg (by decide)] at hz
    subst h1 h2 h3 h4 h5 h6 h7 h8 hz
    apply own_nat_inj64
    unfold own_f1
    rw [hk]
    refine (own_pl5 v _ _ hlen hF).trans ?_
    rw [own_and_nat64 _ _ (k := 40) (by decide)]
  · subst h
    have hk : t.toNatClampNeg - f.toNatClampNeg = 6 := by subst ht; rcases hf with h | h | h | h <;> subst h <;> decide
    rw [if_pos (by decide)] at h1
    rw [if_pos (by decide)] at h2
    rw [if_pos (by decide)] at h3
    rw [if_pos (by decide)] at h4
    rw [if_pos (by decide)] at h5
    rw [if_pos (by decide)] at h6
    rw [if_neg (by decide)] at h7
    rw [if_neg (by decide)] at h8
    rw [c1] at h2
    rw [c2] at h3
    rw [c3] at h4
    rw [c4] at h5
    rw [c5] at h6
    rw [if_neg (by decide)] at hz
    subst h1 h2 h3 h4 h5 h6 h7 h8 hz
    apply own_nat_inj64
    unfold own_f1
    rw [hk]
    refine (own_pl6 v _ _ hlen hF).trans ?_
    rw [own_and_nat64 _ _ (k := 48) (by decide)]
  · subst h
    have hk : t.toNatClampNeg - f.toNatClampNeg = 7 := by subst ht; rcases hf with h | h | h | h <;> subst h <;> decide
    rw [if_pos (by decide)] at h1
    rw [if_pos (by decide)] at h2
    rw [if_pos (by decide)] at h3
    rw [if_pos (by decide)] at h4
    rw [if_pos (by decide)] at h5
    rw [if_pos (by decide)] at h6
    rw [if_pos (by decide)] at h7
    rw [if_neg (by decide)] at h8
    rw [c1] at h2
    rw [c2] at h3
    rw [c3] at h4
    rw [c4] at h5
    rw [c5] at h6
    rw [c6] at h7
    rw [if_neg (by decide)] at hz
    subst h1 h2 h3 h4 h5 h6 h7 h8 hz
    apply own_nat_inj64
    unfold own_f1
    rw [hk]
    refine (own_pl7 v _ _ hlen hF).trans ?_
    rw [own_and_nat64 _ _ (k := 56) (by decide)]
  · subst h
    have hk : t.toNatClampNeg - f.toNatClampNeg = 8 := by subst ht; rcases hf with h | h | h | h <;> subst h <;> decide
    rw [if_pos (by decide)] at h1
    rw [if_pos (by decide)] at h2
    rw [if_pos (by decide)] at h3
    rw [if_pos (by decide)] at h4
    rw [if_pos (by decide)] at h5
    rw [if_pos (by decide)] at h6
    rw [if_pos (by decide)] at h7
    rw [if_pos (by decide)] at h8
    rw [c1] at h2
    rw [c2] at h3
    rw [c3] at h4
    rw [c4] at h5
    rw [c5] at h6
    rw [c6] at h7
    rw [c7] at h8
    rw [if_pos (by decide)] at hz
    subst h1 h2 h3 h4 h5 h6 h7 h8 hz
    apply own_nat_inj64
    unfold own_f1
    rw [hk]
    refine (own_pl8 _ _ _ hlen hF).trans ?_
    exact Nat.mod_eq_of_lt (BitVec.isLt _)
theorem own_pn0 : plainName "com/example/fulgur/fulgur/BytesReadUnsignedPinLaw" = true := by first | (simp [plainName, overriddenIn]; done) | decide +kernel
theorem own_ef0 (m : MethodId) (q0 : Int64) (q1 : Int64) (p2 : Int32) (p3 : Int32) : entryFrame m #[(.long q0), (.long q1), (.int p2), (.int p3)] maxLocals = mkF m 0 #[.val (.long q0), .second, .val (.long q1), .second, .val (.int p2), .val (.int p3), .unset, .unset, .unset, .unset, .unset, .unset] [] := by first | (simp [entryFrame, mkF, argsToLocals, Value.category, maxLocals]; done) | rfl
def Q0 (h0 : Heap) (n0 : Nat) (v : Option Value) (h : Heap) (L : List Loc) : Prop := v = some (.int 1) ∧ Fr n0 L
theorem own_pd0 : parseMethodDescriptor "([BII)J" = some ⟨[(.array .byte), .int, .int], some .long⟩ := by decide +kernel
set_option maxRecDepth 65536 in
set_option maxHeartbeats 40000000 in
theorem rm0 (l : Launch) (Z : State) (a0 : Array Value) (hw : ∀ d ∈ tables_1, d.before a0 Z = true) (ws : List Jvm.Cond) (q0 : Int64) (q1 : Int64) (p2 : Int32) (p3 : Int32) (h0 : Heap) (n0 : Nat) (Z0 : n0 ≤ h0.size) :
    MetFree l x (head1 (Jvm.Cond.code x code maxLocals ret :: ws) room_1) (fun a U => a = #[(.long q0), (.long q1), (.int p2), (.int p3)] ∧ Z.Warmed39 U.vm ∧ U.heap = h0) (fun _ _ _ _ _ => True) (fun _ U o U' => ∃ v L, o = .returned v ∧ Q0 h0 n0 v U'.heap L ∧ FrameEnd U o U' L room_1.cells room_1.slots) := by
  refine MetFree.of_bodySF (plainFor_of_name own_pn0) hisR ?_
  intro p e s m args below meth c s₁ Bd hml0 hP hK
  obtain ⟨ha, hZ, hh⟩ := hP
  have hx := Bd.exec
  have hby := Bd.bytes
  have hml : c.maxLocals = 12 := hml0
  have hown : s.vm.findClass "com/example/fulgur/fulgur/BytesReadUnsignedPinLaw" = some m.cls := findClass_of_methodNamed Bd.named
  have hnm := (name_of_methodNamed Bd.named Bd.method).1
  have X0 : Stand p l e room_1 s m args below meth c s₁ [] 0 0 := Stand.of_body Bd
  have e0 : s₁.heap = h0 := by rw [← hh, Bd.state]; rfl
  have N0 := Fr.nil n0
  refine own_enter (Q := (Q0 h0 n0)) (g := mkF m 0 #[.val (.long q0), .second, .val (.long q1), .second, .val (.int p2), .val (.int p3), .unset, .unset, .unset, .unset, .unset, .unset] []) (by rw [ha]; exact own_ef0 m q0 q1 p2 p3) ?_
  refine own_run (g' := (mkF m 6 #[.val (.long q0), .second, .val (.long q1), .second, .val (.int p2), .val (.int p3), .val (.int (p2 &&& (3 : Int32))), .unset, .unset, .unset, .unset, .unset] [])) (fun _ kt => XS.iload X0.here hx rfl (hb hby at_0) rfl (XS.iconst X0.here hx rfl (hb hby at_2) (XS.iand X0.here hx rfl (hb hby at_3) rfl (XS.istore X0.here hx rfl (hb hby at_4) rfl (l' := #[.val (.long q0), .second, .val (.long q1), .second, .val (.int p2), .val (.int p3), .val (.int (p2 &&& (3 : Int32))), .unset, .unset, .unset, .unset, .unset]) rfl (kt))))) ?_
  obtain ⟨v4, hv4⟩ : ∃ z : Int32, z = (p2 &&& (3 : Int32)) := ⟨_, rfl⟩
  rw [← hv4]
  refine own_run (g' := (mkF m 16 #[.val (.long q0), .second, .val (.long q1), .second, .val (.int p2), .val (.int p3), .val (.int v4), .val (.int ((p3 &&& (15 : Int32)) % (9 : Int32))), .unset, .unset, .unset, .unset] [])) (fun _ kt => XS.iload X0.here hx rfl (hb hby at_6) rfl (XS.bipush X0.here hx rfl (hb hby at_8) (XS.iand X0.here hx rfl (hb hby at_10) rfl (XS.bipush X0.here hx rfl (hb hby at_11) (own_irem X0.here hx rfl (hb hby at_13) rfl (by decide) (XS.istore X0.here hx rfl (hb hby at_14) rfl (l' := #[.val (.long q0), .second, .val (.long q1), .second, .val (.int p2), .val (.int p3), .val (.int v4), .val (.int ((p3 &&& (15 : Int32)) % (9 : Int32))), .unset, .unset, .unset, .unset]) rfl (kt))))))) ?_
  obtain ⟨v14, hv14⟩ : ∃ z : Int32, z = ((p3 &&& (15 : Int32)) % (9 : Int32)) := ⟨_, rfl⟩
  rw [← hv14]
  refine own_run (g' := (mkF m 23 #[.val (.long q0), .second, .val (.long q1), .second, .val (.int p2), .val (.int p3), .val (.int v4), .val (.int v14), .val (.int (v4 + v14)), .unset, .unset, .unset] [])) (fun _ kt => XS.iload X0.here hx rfl (hb hby at_16) rfl (XS.iload X0.here hx rfl (hb hby at_18) rfl (XS.iadd X0.here hx rfl (hb hby at_20) rfl (XS.istore X0.here hx rfl (hb hby at_21) rfl (l' := #[.val (.long q0), .second, .val (.long q1), .second, .val (.int p2), .val (.int p3), .val (.int v4), .val (.int v14), .val (.int (v4 + v14)), .unset, .unset, .unset]) rfl (kt))))) ?_
  obtain ⟨v21, hv21⟩ : ∃ z : Int32, z = (v4 + v14) := ⟨_, rfl⟩
  rw [← hv21]
  have hf3 : v4 = 0 ∨ v4 = 1 ∨ v4 = 2 ∨ v4 = 3 := by rw [hv4]; exact own_and3 _
  have hl9 : v14 = 0 ∨ v14 = 1 ∨ v14 = 2 ∨ v14 = 3 ∨ v14 = 4 ∨ v14 = 5 ∨ v14 = 6 ∨ v14 = 7 ∨ v14 = 8 := by rw [hv14]; exact own_len9 _
  have hq1 : ¬ v4 < 0 := by rcases hf3 with h | h | h | h <;> rw [h] <;> decide
  have hq2 : v4.toNatClampNeg ≤ v21.toNatClampNeg := by rcases hf3 with h | h | h | h <;> rcases hl9 with h' | h' | h' | h' | h' | h' | h' | h' | h' <;> rw [hv21, h, h'] <;> decide
  have hq3 : v21 ≤ (12 : Int32) := by rcases hf3 with h | h | h | h <;> rcases hl9 with h' | h' | h' | h' | h' | h' | h' | h' | h' <;> rw [hv21, h, h'] <;> decide
  refine own_run (g' := (mkF m 25 #[.val (.long q0), .second, .val (.long q1), .second, .val (.int p2), .val (.int p3), .val (.int v4), .val (.int v14), .val (.int v21), .unset, .unset, .unset] [(.int (12 : Int32))])) (fun _ kt => XS.bipush X0.here hx rfl (hb hby at_23) (kt)) ?_
  refine own_newA X0 hx hZ (aty := .byte) (hw _ (List.mem_of_getElem? (i := 0) rfl)) (ty := .byte) rfl rfl e0 (hb hby at_25) (by decide) (cap := 12) (by decide) (by decide) (by decide) (by decide) ?_
  intro T1 h1 b1 qq1 X1 e1 E1 A1
  have g_b1 : n0 ≤ b1 := by rw [qq1]; exact Z0
  have Z1 : n0 ≤ h1.size := Nat.le_trans Z0 E1.1
  replace A1 : own_A Z h1 b1 .byte (12 : Int32) [(0 : Int32), (0 : Int32), (0 : Int32), (0 : Int32), (0 : Int32), (0 : Int32), (0 : Int32), (0 : Int32), (0 : Int32), (0 : Int32), (0 : Int32), (0 : Int32)] := A1
  refine own_run (g' := (mkF m 35 #[.val (.long q0), .second, .val (.long q1), .second, .val (.int p2), .val (.int p3), .val (.int v4), .val (.int v14), .val (.int v21), .val (.ref b1), .unset, .unset] [(.int q1.toInt32.toInt8.toInt32), (.int (0 : Int32)), (.ref b1)])) (fun _ kt => XS.astore X1.here hx rfl (hb hby at_27) rfl rfl (l' := #[.val (.long q0), .second, .val (.long q1), .second, .val (.int p2), .val (.int p3), .val (.int v4), .val (.int v14), .val (.int v21), .val (.ref b1), .unset, .unset]) rfl (XS.aload X1.here hx rfl (hb hby at_29) rfl rfl (XS.iconst X1.here hx rfl (hb hby at_31) (XS.lloadN X1.here hx rfl (hb hby at_32) rfl (XS.l2i X1.here hx rfl (hb hby at_33) rfl (XS.i2b X1.here hx rfl (hb hby at_34) rfl (kt))))))) ?_
  refine own_stB X1 hx hZ e1 A1 (j := (0 : Int32)) (by decide) N0 g_b1 (hb hby at_35) (ys := [(nar .byte q1.toInt32.toInt8.toInt32), (0 : Int32), (0 : Int32), (0 : Int32), (0 : Int32), (0 : Int32), (0 : Int32), (0 : Int32), (0 : Int32), (0 : Int32), (0 : Int32), (0 : Int32)]) rfl ?_
  intro T2 h2 L2 X2 N2 e2 W2 A2
  have ZW2 : n0 ≤ h2.size := Nat.le_trans Z1 (Keep.of_wr W2).1
  refine own_run (g' := (mkF m 45 #[.val (.long q0), .second, .val (.long q1), .second, .val (.int p2), .val (.int p3), .val (.int v4), .val (.int v14), .val (.int v21), .val (.ref b1), .unset, .unset] [(.int (XT.ushrL q1 (8 : Int32)).toInt32.toInt8.toInt32), (.int (1 : Int32)), (.ref b1)])) (fun _ kt => XS.aload X2.here hx rfl (hb hby at_36) rfl rfl (XS.iconst X2.here hx rfl (hb hby at_38) (XS.lloadN X2.here hx rfl (hb hby at_39) rfl (XS.bipush X2.here hx rfl (hb hby at_40) (XT.lushr X2.here hx rfl (hb hby at_42) rfl (XS.l2i X2.here hx rfl (hb hby at_43) rfl (XS.i2b X2.here hx rfl (hb hby at_44) rfl (kt)))))))) ?_
  refine own_stB X2 hx hZ e2 A2 (j := (1 : Int32)) (by decide) N2 g_b1 (hb hby at_45) (ys := [(nar .byte q1.toInt32.toInt8.toInt32), (nar .byte (XT.ushrL q1 (8 : Int32)).toInt32.toInt8.toInt32), (0 : Int32), (0 : Int32), (0 : Int32), (0 : Int32), (0 : Int32), (0 : Int32), (0 : Int32), (0 : Int32), (0 : Int32), (0 : Int32)]) rfl ?_
  intro T3 h3 L3 X3 N3 e3 W3 A3
  have ZW3 : n0 ≤ h3.size := Nat.le_trans ZW2 (Keep.of_wr W3).1
  refine own_run (g' := (mkF m 55 #[.val (.long q0), .second, .val (.long q1), .second, .val (.int p2), .val (.int p3), .val (.int v4), .val (.int v14), .val (.int v21), .val (.ref b1), .unset, .unset] [(.int (XT.ushrL q1 (16 : Int32)).toInt32.toInt8.toInt32), (.int (2 : Int32)), (.ref b1)])) (fun _ kt => XS.aload X3.here hx rfl (hb hby at_46) rfl rfl (XS.iconst X3.here hx rfl (hb hby at_48) (XS.lloadN X3.here hx rfl (hb hby at_49) rfl (XS.bipush X3.here hx rfl (hb hby at_50) (XT.lushr X3.here hx rfl (hb hby at_52) rfl (XS.l2i X3.here hx rfl (hb hby at_53) rfl (XS.i2b X3.here hx rfl (hb hby at_54) rfl (kt)))))))) ?_
  refine own_stB X3 hx hZ e3 A3 (j := (2 : Int32)) (by decide) N3 g_b1 (hb hby at_55) (ys := [(nar .byte q1.toInt32.toInt8.toInt32), (nar .byte (XT.ushrL q1 (8 : Int32)).toInt32.toInt8.toInt32), (nar .byte (XT.ushrL q1 (16 : Int32)).toInt32.toInt8.toInt32), (0 : Int32), (0 : Int32), (0 : Int32), (0 : Int32), (0 : Int32), (0 : Int32), (0 : Int32), (0 : Int32), (0 : Int32)]) rfl ?_
  intro T4 h4 L4 X4 N4 e4 W4 A4
  have ZW4 : n0 ≤ h4.size := Nat.le_trans ZW3 (Keep.of_wr W4).1
  refine own_run (g' := (mkF m 65 #[.val (.long q0), .second, .val (.long q1), .second, .val (.int p2), .val (.int p3), .val (.int v4), .val (.int v14), .val (.int v21), .val (.ref b1), .unset, .unset] [(.int (XT.ushrL q1 (24 : Int32)).toInt32.toInt8.toInt32), (.int (3 : Int32)), (.ref b1)])) (fun _ kt => XS.aload X4.here hx rfl (hb hby at_56) rfl rfl (XS.iconst X4.here hx rfl (hb hby at_58) (XS.lloadN X4.here hx rfl (hb hby at_59) rfl (XS.bipush X4.here hx rfl (hb hby at_60) (XT.lushr X4.here hx rfl (hb hby at_62) rfl (XS.l2i X4.here hx rfl (hb hby at_63) rfl (XS.i2b X4.here hx rfl (hb hby at_64) rfl (kt)))))))) ?_
  refine own_stB X4 hx hZ e4 A4 (j := (3 : Int32)) (by decide) N4 g_b1 (hb hby at_65) (ys := [(nar .byte q1.toInt32.toInt8.toInt32), (nar .byte (XT.ushrL q1 (8 : Int32)).toInt32.toInt8.toInt32), (nar .byte (XT.ushrL q1 (16 : Int32)).toInt32.toInt8.toInt32), (nar .byte (XT.ushrL q1 (24 : Int32)).toInt32.toInt8.toInt32), (0 : Int32), (0 : Int32), (0 : Int32), (0 : Int32), (0 : Int32), (0 : Int32), (0 : Int32), (0 : Int32)]) rfl ?_
  intro T5 h5 L5 X5 N5 e5 W5 A5
  have ZW5 : n0 ≤ h5.size := Nat.le_trans ZW4 (Keep.of_wr W5).1
  refine own_run (g' := (mkF m 75 #[.val (.long q0), .second, .val (.long q1), .second, .val (.int p2), .val (.int p3), .val (.int v4), .val (.int v14), .val (.int v21), .val (.ref b1), .unset, .unset] [(.int (XT.ushrL q1 (32 : Int32)).toInt32.toInt8.toInt32), (.int (4 : Int32)), (.ref b1)])) (fun _ kt => XS.aload X5.here hx rfl (hb hby at_66) rfl rfl (XS.iconst X5.here hx rfl (hb hby at_68) (XS.lloadN X5.here hx rfl (hb hby at_69) rfl (XS.bipush X5.here hx rfl (hb hby at_70) (XT.lushr X5.here hx rfl (hb hby at_72) rfl (XS.l2i X5.here hx rfl (hb hby at_73) rfl (XS.i2b X5.here hx rfl (hb hby at_74) rfl (kt)))))))) ?_
  refine own_stB X5 hx hZ e5 A5 (j := (4 : Int32)) (by decide) N5 g_b1 (hb hby at_75) (ys := [(nar .byte q1.toInt32.toInt8.toInt32), (nar .byte (XT.ushrL q1 (8 : Int32)).toInt32.toInt8.toInt32), (nar .byte (XT.ushrL q1 (16 : Int32)).toInt32.toInt8.toInt32), (nar .byte (XT.ushrL q1 (24 : Int32)).toInt32.toInt8.toInt32), (nar .byte (XT.ushrL q1 (32 : Int32)).toInt32.toInt8.toInt32), (0 : Int32), (0 : Int32), (0 : Int32), (0 : Int32), (0 : Int32), (0 : Int32), (0 : Int32)]) rfl ?_
  intro T6 h6 L6 X6 N6 e6 W6 A6
  have ZW6 : n0 ≤ h6.size := Nat.le_trans ZW5 (Keep.of_wr W6).1
  refine own_run (g' := (mkF m 85 #[.val (.long q0), .second, .val (.long q1), .second, .val (.int p2), .val (.int p3), .val (.int v4), .val (.int v14), .val (.int v21), .val (.ref b1), .unset, .unset] [(.int (XT.ushrL q1 (40 : Int32)).toInt32.toInt8.toInt32), (.int (5 : Int32)), (.ref b1)])) (fun _ kt => XS.aload X6.here hx rfl (hb hby at_76) rfl rfl (XS.iconst X6.here hx rfl (hb hby at_78) (XS.lloadN X6.here hx rfl (hb hby at_79) rfl (XS.bipush X6.here hx rfl (hb hby at_80) (XT.lushr X6.here hx rfl (hb hby at_82) rfl (XS.l2i X6.here hx rfl (hb hby at_83) rfl (XS.i2b X6.here hx rfl (hb hby at_84) rfl (kt)))))))) ?_
  refine own_stB X6 hx hZ e6 A6 (j := (5 : Int32)) (by decide) N6 g_b1 (hb hby at_85) (ys := [(nar .byte q1.toInt32.toInt8.toInt32), (nar .byte (XT.ushrL q1 (8 : Int32)).toInt32.toInt8.toInt32), (nar .byte (XT.ushrL q1 (16 : Int32)).toInt32.toInt8.toInt32), (nar .byte (XT.ushrL q1 (24 : Int32)).toInt32.toInt8.toInt32), (nar .byte (XT.ushrL q1 (32 : Int32)).toInt32.toInt8.toInt32), (nar .byte (XT.ushrL q1 (40 : Int32)).toInt32.toInt8.toInt32), (0 : Int32), (0 : Int32), (0 : Int32), (0 : Int32), (0 : Int32), (0 : Int32)]) rfl ?_
  intro T7 h7 L7 X7 N7 e7 W7 A7
  have ZW7 : n0 ≤ h7.size := Nat.le_trans ZW6 (Keep.of_wr W7).1
  refine own_run (g' := (mkF m 96 #[.val (.long q0), .second, .val (.long q1), .second, .val (.int p2), .val (.int p3), .val (.int v4), .val (.int v14), .val (.int v21), .val (.ref b1), .unset, .unset] [(.int (XT.ushrL q1 (48 : Int32)).toInt32.toInt8.toInt32), (.int (6 : Int32)), (.ref b1)])) (fun _ kt => XS.aload X7.here hx rfl (hb hby at_86) rfl rfl (XS.bipush X7.here hx rfl (hb hby at_88) (XS.lloadN X7.here hx rfl (hb hby at_90) rfl (XS.bipush X7.here hx rfl (hb hby at_91) (XT.lushr X7.here hx rfl (hb hby at_93) rfl (XS.l2i X7.here hx rfl (hb hby at_94) rfl (XS.i2b X7.here hx rfl (hb hby at_95) rfl (kt)))))))) ?_
  refine own_stB X7 hx hZ e7 A7 (j := (6 : Int32)) (by decide) N7 g_b1 (hb hby at_96) (ys := [(nar .byte q1.toInt32.toInt8.toInt32), (nar .byte (XT.ushrL q1 (8 : Int32)).toInt32.toInt8.toInt32), (nar .byte (XT.ushrL q1 (16 : Int32)).toInt32.toInt8.toInt32), (nar .byte (XT.ushrL q1 (24 : Int32)).toInt32.toInt8.toInt32), (nar .byte (XT.ushrL q1 (32 : Int32)).toInt32.toInt8.toInt32), (nar .byte (XT.ushrL q1 (40 : Int32)).toInt32.toInt8.toInt32), (nar .byte (XT.ushrL q1 (48 : Int32)).toInt32.toInt8.toInt32), (0 : Int32), (0 : Int32), (0 : Int32), (0 : Int32), (0 : Int32)]) rfl ?_
  intro T8 h8 L8 X8 N8 e8 W8 A8
  have ZW8 : n0 ≤ h8.size := Nat.le_trans ZW7 (Keep.of_wr W8).1
  refine own_run (g' := (mkF m 107 #[.val (.long q0), .second, .val (.long q1), .second, .val (.int p2), .val (.int p3), .val (.int v4), .val (.int v14), .val (.int v21), .val (.ref b1), .unset, .unset] [(.int (XT.ushrL q1 (56 : Int32)).toInt32.toInt8.toInt32), (.int (7 : Int32)), (.ref b1)])) (fun _ kt => XS.aload X8.here hx rfl (hb hby at_97) rfl rfl (XS.bipush X8.here hx rfl (hb hby at_99) (XS.lloadN X8.here hx rfl (hb hby at_101) rfl (XS.bipush X8.here hx rfl (hb hby at_102) (XT.lushr X8.here hx rfl (hb hby at_104) rfl (XS.l2i X8.here hx rfl (hb hby at_105) rfl (XS.i2b X8.here hx rfl (hb hby at_106) rfl (kt)))))))) ?_
  refine own_stB X8 hx hZ e8 A8 (j := (7 : Int32)) (by decide) N8 g_b1 (hb hby at_107) (ys := [(nar .byte q1.toInt32.toInt8.toInt32), (nar .byte (XT.ushrL q1 (8 : Int32)).toInt32.toInt8.toInt32), (nar .byte (XT.ushrL q1 (16 : Int32)).toInt32.toInt8.toInt32), (nar .byte (XT.ushrL q1 (24 : Int32)).toInt32.toInt8.toInt32), (nar .byte (XT.ushrL q1 (32 : Int32)).toInt32.toInt8.toInt32), (nar .byte (XT.ushrL q1 (40 : Int32)).toInt32.toInt8.toInt32), (nar .byte (XT.ushrL q1 (48 : Int32)).toInt32.toInt8.toInt32), (nar .byte (XT.ushrL q1 (56 : Int32)).toInt32.toInt8.toInt32), (0 : Int32), (0 : Int32), (0 : Int32), (0 : Int32)]) rfl ?_
  intro T9 h9 L9 X9 N9 e9 W9 A9
  have ZW9 : n0 ≤ h9.size := Nat.le_trans ZW8 (Keep.of_wr W9).1
  refine own_run (g' := (mkF m 113 #[.val (.long q0), .second, .val (.long q1), .second, .val (.int p2), .val (.int p3), .val (.int v4), .val (.int v14), .val (.int v21), .val (.ref b1), .unset, .unset] [(.long q1), (.int (8 : Int32)), (.ref b1)])) (fun _ kt => XS.aload X9.here hx rfl (hb hby at_108) rfl rfl (XS.bipush X9.here hx rfl (hb hby at_110) (XS.lloadN X9.here hx rfl (hb hby at_112) rfl (kt)))) ?_
  refine own_ldcL X9 hx hZ hown (hw _ (List.mem_of_getElem? (i := 1) rfl)) (hb hby at_113) ?_
  refine own_run (g' := (mkF m 119 #[.val (.long q0), .second, .val (.long q1), .second, .val (.int p2), .val (.int p3), .val (.int v4), .val (.int v14), .val (.int v21), .val (.ref b1), .unset, .unset] [(.int (q1 ^^^ (-1 : Int64)).toInt32.toInt8.toInt32), (.int (8 : Int32)), (.ref b1)])) (fun _ kt => XS.lxor X9.here hx rfl (hb hby at_116) rfl (XS.l2i X9.here hx rfl (hb hby at_117) rfl (XS.i2b X9.here hx rfl (hb hby at_118) rfl (kt)))) ?_
  refine own_stB X9 hx hZ e9 A9 (j := (8 : Int32)) (by decide) N9 g_b1 (hb hby at_119) (ys := [(nar .byte q1.toInt32.toInt8.toInt32), (nar .byte (XT.ushrL q1 (8 : Int32)).toInt32.toInt8.toInt32), (nar .byte (XT.ushrL q1 (16 : Int32)).toInt32.toInt8.toInt32), (nar .byte (XT.ushrL q1 (24 : Int32)).toInt32.toInt8.toInt32), (nar .byte (XT.ushrL q1 (32 : Int32)).toInt32.toInt8.toInt32), (nar .byte (XT.ushrL q1 (40 : Int32)).toInt32.toInt8.toInt32), (nar .byte (XT.ushrL q1 (48 : Int32)).toInt32.toInt8.toInt32), (nar .byte (XT.ushrL q1 (56 : Int32)).toInt32.toInt8.toInt32), (nar .byte (q1 ^^^ (-1 : Int64)).toInt32.toInt8.toInt32), (0 : Int32), (0 : Int32), (0 : Int32)]) rfl ?_
  intro T10 h10 L10 X10 N10 e10 W10 A10
  have ZW10 : n0 ≤ h10.size := Nat.le_trans ZW9 (Keep.of_wr W10).1
  refine own_run (g' := (mkF m 125 #[.val (.long q0), .second, .val (.long q1), .second, .val (.int p2), .val (.int p3), .val (.int v4), .val (.int v14), .val (.int v21), .val (.ref b1), .unset, .unset] [(.long q1), (.int (9 : Int32)), (.ref b1)])) (fun _ kt => XS.aload X10.here hx rfl (hb hby at_120) rfl rfl (XS.bipush X10.here hx rfl (hb hby at_122) (XS.lloadN X10.here hx rfl (hb hby at_124) rfl (kt)))) ?_
  refine own_ldcL X10 hx hZ hown (hw _ (List.mem_of_getElem? (i := 1) rfl)) (hb hby at_125) ?_
  refine own_run (g' := (mkF m 134 #[.val (.long q0), .second, .val (.long q1), .second, .val (.int p2), .val (.int p3), .val (.int v4), .val (.int v14), .val (.int v21), .val (.ref b1), .unset, .unset] [(.int (XT.ushrL (q1 ^^^ (-1 : Int64)) (8 : Int32)).toInt32.toInt8.toInt32), (.int (9 : Int32)), (.ref b1)])) (fun _ kt => XS.lxor X10.here hx rfl (hb hby at_128) rfl (XS.bipush X10.here hx rfl (hb hby at_129) (XT.lushr X10.here hx rfl (hb hby at_131) rfl (XS.l2i X10.here hx rfl (hb hby at_132) rfl (XS.i2b X10.here hx rfl (hb hby at_133) rfl (kt)))))) ?_
  refine own_stB X10 hx hZ e10 A10 (j := (9 : Int32)) (by decide) N10 g_b1 (hb hby at_134) (ys := [(nar .byte q1.toInt32.toInt8.toInt32), (nar .byte (XT.ushrL q1 (8 : Int32)).toInt32.toInt8.toInt32), (nar .byte (XT.ushrL q1 (16 : Int32)).toInt32.toInt8.toInt32), (nar .byte (XT.ushrL q1 (24 : Int32)).toInt32.toInt8.toInt32), (nar .byte (XT.ushrL q1 (32 : Int32)).toInt32.toInt8.toInt32), (nar .byte (XT.ushrL q1 (40 : Int32)).toInt32.toInt8.toInt32), (nar .byte (XT.ushrL q1 (48 : Int32)).toInt32.toInt8.toInt32), (nar .byte (XT.ushrL q1 (56 : Int32)).toInt32.toInt8.toInt32), (nar .byte (q1 ^^^ (-1 : Int64)).toInt32.toInt8.toInt32), (nar .byte (XT.ushrL (q1 ^^^ (-1 : Int64)) (8 : Int32)).toInt32.toInt8.toInt32), (0 : Int32), (0 : Int32)]) rfl ?_
  intro T11 h11 L11 X11 N11 e11 W11 A11
  have ZW11 : n0 ≤ h11.size := Nat.le_trans ZW10 (Keep.of_wr W11).1
  refine own_run (g' := (mkF m 140 #[.val (.long q0), .second, .val (.long q1), .second, .val (.int p2), .val (.int p3), .val (.int v4), .val (.int v14), .val (.int v21), .val (.ref b1), .unset, .unset] [(.long q1), (.int (10 : Int32)), (.ref b1)])) (fun _ kt => XS.aload X11.here hx rfl (hb hby at_135) rfl rfl (XS.bipush X11.here hx rfl (hb hby at_137) (XS.lloadN X11.here hx rfl (hb hby at_139) rfl (kt)))) ?_
  refine own_ldcL X11 hx hZ hown (hw _ (List.mem_of_getElem? (i := 1) rfl)) (hb hby at_140) ?_
  refine own_run (g' := (mkF m 149 #[.val (.long q0), .second, .val (.long q1), .second, .val (.int p2), .val (.int p3), .val (.int v4), .val (.int v14), .val (.int v21), .val (.ref b1), .unset, .unset] [(.int (XT.ushrL (q1 ^^^ (-1 : Int64)) (16 : Int32)).toInt32.toInt8.toInt32), (.int (10 : Int32)), (.ref b1)])) (fun _ kt => XS.lxor X11.here hx rfl (hb hby at_143) rfl (XS.bipush X11.here hx rfl (hb hby at_144) (XT.lushr X11.here hx rfl (hb hby at_146) rfl (XS.l2i X11.here hx rfl (hb hby at_147) rfl (XS.i2b X11.here hx rfl (hb hby at_148) rfl (kt)))))) ?_
  refine own_stB X11 hx hZ e11 A11 (j := (10 : Int32)) (by decide) N11 g_b1 (hb hby at_149) (ys := [(nar .byte q1.toInt32.toInt8.toInt32), (nar .byte (XT.ushrL q1 (8 : Int32)).toInt32.toInt8.toInt32), (nar .byte (XT.ushrL q1 (16 : Int32)).toInt32.toInt8.toInt32), (nar .byte (XT.ushrL q1 (24 : Int32)).toInt32.toInt8.toInt32), (nar .byte (XT.ushrL q1 (32 : Int32)).toInt32.toInt8.toInt32), (nar .byte (XT.ushrL q1 (40 : Int32)).toInt32.toInt8.toInt32), (nar .byte (XT.ushrL q1 (48 : Int32)).toInt32.toInt8.toInt32), (nar .byte (XT.ushrL q1 (56 : Int32)).toInt32.toInt8.toInt32), (nar .byte (q1 ^^^ (-1 : Int64)).toInt32.toInt8.toInt32), (nar .byte (XT.ushrL (q1 ^^^ (-1 : Int64)) (8 : Int32)).toInt32.toInt8.toInt32), (nar .byte (XT.ushrL (q1 ^^^ (-1 : Int64)) (16 : Int32)).toInt32.toInt8.toInt32), (0 : Int32)]) rfl ?_
  intro T12 h12 L12 X12 N12 e12 W12 A12
  have ZW12 : n0 ≤ h12.size := Nat.le_trans ZW11 (Keep.of_wr W12).1
  refine own_run (g' := (mkF m 155 #[.val (.long q0), .second, .val (.long q1), .second, .val (.int p2), .val (.int p3), .val (.int v4), .val (.int v14), .val (.int v21), .val (.ref b1), .unset, .unset] [(.long q1), (.int (11 : Int32)), (.ref b1)])) (fun _ kt => XS.aload X12.here hx rfl (hb hby at_150) rfl rfl (XS.bipush X12.here hx rfl (hb hby at_152) (XS.lloadN X12.here hx rfl (hb hby at_154) rfl (kt)))) ?_
  refine own_ldcL X12 hx hZ hown (hw _ (List.mem_of_getElem? (i := 1) rfl)) (hb hby at_155) ?_
  refine own_run (g' := (mkF m 164 #[.val (.long q0), .second, .val (.long q1), .second, .val (.int p2), .val (.int p3), .val (.int v4), .val (.int v14), .val (.int v21), .val (.ref b1), .unset, .unset] [(.int (XT.ushrL (q1 ^^^ (-1 : Int64)) (24 : Int32)).toInt32.toInt8.toInt32), (.int (11 : Int32)), (.ref b1)])) (fun _ kt => XS.lxor X12.here hx rfl (hb hby at_158) rfl (XS.bipush X12.here hx rfl (hb hby at_159) (XT.lushr X12.here hx rfl (hb hby at_161) rfl (XS.l2i X12.here hx rfl (hb hby at_162) rfl (XS.i2b X12.here hx rfl (hb hby at_163) rfl (kt)))))) ?_
  refine own_stB X12 hx hZ e12 A12 (j := (11 : Int32)) (by decide) N12 g_b1 (hb hby at_164) (ys := [(nar .byte q1.toInt32.toInt8.toInt32), (nar .byte (XT.ushrL q1 (8 : Int32)).toInt32.toInt8.toInt32), (nar .byte (XT.ushrL q1 (16 : Int32)).toInt32.toInt8.toInt32), (nar .byte (XT.ushrL q1 (24 : Int32)).toInt32.toInt8.toInt32), (nar .byte (XT.ushrL q1 (32 : Int32)).toInt32.toInt8.toInt32), (nar .byte (XT.ushrL q1 (40 : Int32)).toInt32.toInt8.toInt32), (nar .byte (XT.ushrL q1 (48 : Int32)).toInt32.toInt8.toInt32), (nar .byte (XT.ushrL q1 (56 : Int32)).toInt32.toInt8.toInt32), (nar .byte (q1 ^^^ (-1 : Int64)).toInt32.toInt8.toInt32), (nar .byte (XT.ushrL (q1 ^^^ (-1 : Int64)) (8 : Int32)).toInt32.toInt8.toInt32), (nar .byte (XT.ushrL (q1 ^^^ (-1 : Int64)) (16 : Int32)).toInt32.toInt8.toInt32), (nar .byte (XT.ushrL (q1 ^^^ (-1 : Int64)) (24 : Int32)).toInt32.toInt8.toInt32)]) rfl ?_
  intro T13 h13 L13 X13 N13 e13 W13 A13
  have ZW13 : n0 ≤ h13.size := Nat.le_trans ZW12 (Keep.of_wr W13).1
  refine own_run (g' := (mkF m 167 #[.val (.long q0), .second, .val (.long q1), .second, .val (.int p2), .val (.int p3), .val (.int v4), .val (.int v14), .val (.int v21), .val (.ref b1), .unset, .unset] [(.int v14)])) (fun _ kt => XS.iload X13.here hx rfl (hb hby at_165) rfl (kt)) ?_
  have J14 : ∀ (T14 : State) (L14 : List Loc) (h14 : Heap) (xs16 : List Int32), Stand p l e room_1 s m args below meth c T14 L14 1 12 → Fr n0 L14 → T14.heap = h14 → n0 ≤ h14.size → own_A Z h14 b1 .byte (12 : Int32) xs16 → xs16 = (if (0 : Int32) < v14 then ([(nar .byte q1.toInt32.toInt8.toInt32), (nar .byte (XT.ushrL q1 (8 : Int32)).toInt32.toInt8.toInt32), (nar .byte (XT.ushrL q1 (16 : Int32)).toInt32.toInt8.toInt32), (nar .byte (XT.ushrL q1 (24 : Int32)).toInt32.toInt8.toInt32), (nar .byte (XT.ushrL q1 (32 : Int32)).toInt32.toInt8.toInt32), (nar .byte (XT.ushrL q1 (40 : Int32)).toInt32.toInt8.toInt32), (nar .byte (XT.ushrL q1 (48 : Int32)).toInt32.toInt8.toInt32), (nar .byte (XT.ushrL q1 (56 : Int32)).toInt32.toInt8.toInt32), (nar .byte (q1 ^^^ (-1 : Int64)).toInt32.toInt8.toInt32), (nar .byte (XT.ushrL (q1 ^^^ (-1 : Int64)) (8 : Int32)).toInt32.toInt8.toInt32), (nar .byte (XT.ushrL (q1 ^^^ (-1 : Int64)) (16 : Int32)).toInt32.toInt8.toInt32), (nar .byte (XT.ushrL (q1 ^^^ (-1 : Int64)) (24 : Int32)).toInt32.toInt8.toInt32)].set v4.toNatClampNeg (nar .byte (XT.ushrL q0 ((8 : Int32) * (v14 - (1 : Int32)))).toInt32.toInt8.toInt32)) else [(nar .byte q1.toInt32.toInt8.toInt32), (nar .byte (XT.ushrL q1 (8 : Int32)).toInt32.toInt8.toInt32), (nar .byte (XT.ushrL q1 (16 : Int32)).toInt32.toInt8.toInt32), (nar .byte (XT.ushrL q1 (24 : Int32)).toInt32.toInt8.toInt32), (nar .byte (XT.ushrL q1 (32 : Int32)).toInt32.toInt8.toInt32), (nar .byte (XT.ushrL q1 (40 : Int32)).toInt32.toInt8.toInt32), (nar .byte (XT.ushrL q1 (48 : Int32)).toInt32.toInt8.toInt32), (nar .byte (XT.ushrL q1 (56 : Int32)).toInt32.toInt8.toInt32), (nar .byte (q1 ^^^ (-1 : Int64)).toInt32.toInt8.toInt32), (nar .byte (XT.ushrL (q1 ^^^ (-1 : Int64)) (8 : Int32)).toInt32.toInt8.toInt32), (nar .byte (XT.ushrL (q1 ^^^ (-1 : Int64)) (16 : Int32)).toInt32.toInt8.toInt32), (nar .byte (XT.ushrL (q1 ^^^ (-1 : Int64)) (24 : Int32)).toInt32.toInt8.toInt32)]) →  own_Run p e below s room_1.cells room_1.slots (Q0 h0 n0) T14 (mkF m 186 #[.val (.long q0), .second, .val (.long q1), .second, .val (.int p2), .val (.int p3), .val (.int v4), .val (.int v14), .val (.int v21), .val (.ref b1), .unset, .unset] []) := by
    intro T14 L14 h14 xs16 X14 N14 e14 Zh14 A15 hxs16
    refine own_run (g' := (mkF m 189 #[.val (.long q0), .second, .val (.long q1), .second, .val (.int p2), .val (.int p3), .val (.int v4), .val (.int v14), .val (.int v21), .val (.ref b1), .unset, .unset] [(.int (1 : Int32)), (.int v14)])) (fun _ kt => XS.iload X14.here hx rfl (hb hby at_186) rfl (XS.iconst X14.here hx rfl (hb hby at_188) (kt))) ?_
    have J17 : ∀ (T17 : State) (L17 : List Loc) (h17 : Heap) (xs19 : List Int32), Stand p l e room_1 s m args below meth c T17 L17 1 12 → Fr n0 L17 → T17.heap = h17 → n0 ≤ h17.size → own_A Z h17 b1 .byte (12 : Int32) xs19 → xs19 = (if (1 : Int32) < v14 then (xs16.set (v4 + (1 : Int32)).toNatClampNeg (nar .byte (XT.ushrL q0 ((8 : Int32) * (v14 - (2 : Int32)))).toInt32.toInt8.toInt32)) else xs16) →  own_Run p e below s room_1.cells room_1.slots (Q0 h0 n0) T17 (mkF m 210 #[.val (.long q0), .second, .val (.long q1), .second, .val (.int p2), .val (.int p3), .val (.int v4), .val (.int v14), .val (.int v21), .val (.ref b1), .unset, .unset] []) := by
      intro T17 L17 h17 xs19 X17 N17 e17 Zh17 A18 hxs19
      refine own_run (g' := (mkF m 213 #[.val (.long q0), .second, .val (.long q1), .second, .val (.int p2), .val (.int p3), .val (.int v4), .val (.int v14), .val (.int v21), .val (.ref b1), .unset, .unset] [(.int (2 : Int32)), (.int v14)])) (fun _ kt => XS.iload X17.here hx rfl (hb hby at_210) rfl (XS.iconst X17.here hx rfl (hb hby at_212) (kt))) ?_
      have J20 : ∀ (T20 : State) (L20 : List Loc) (h20 : Heap) (xs22 : List Int32), Stand p l e room_1 s m args below meth c T20 L20 1 12 → Fr n0 L20 → T20.heap = h20 → n0 ≤ h20.size → own_A Z h20 b1 .byte (12 : Int32) xs22 → xs22 = (if (2 : Int32) < v14 then (xs19.set (v4 + (2 : Int32)).toNatClampNeg (nar .byte (XT.ushrL q0 ((8 : Int32) * (v14 - (3 : Int32)))).toInt32.toInt8.toInt32)) else xs19) →  own_Run p e below s room_1.cells room_1.slots (Q0 h0 n0) T20 (mkF m 234 #[.val (.long q0), .second, .val (.long q1), .second, .val (.int p2), .val (.int p3), .val (.int v4), .val (.int v14), .val (.int v21), .val (.ref b1), .unset, .unset] []) := by
        intro T20 L20 h20 xs22 X20 N20 e20 Zh20 A21 hxs22
        refine own_run (g' := (mkF m 237 #[.val (.long q0), .second, .val (.long q1), .second, .val (.int p2), .val (.int p3), .val (.int v4), .val (.int v14), .val (.int v21), .val (.ref b1), .unset, .unset] [(.int (3 : Int32)), (.int v14)])) (fun _ kt => XS.iload X20.here hx rfl (hb hby at_234) rfl (XS.iconst X20.here hx rfl (hb hby at_236) (kt))) ?_
        have J23 : ∀ (T23 : State) (L23 : List Loc) (h23 : Heap) (xs25 : List Int32), Stand p l e room_1 s m args below meth c T23 L23 1 12 → Fr n0 L23 → T23.heap = h23 → n0 ≤ h23.size → own_A Z h23 b1 .byte (12 : Int32) xs25 → xs25 = (if (3 : Int32) < v14 then (xs22.set (v4 + (3 : Int32)).toNatClampNeg (nar .byte (XT.ushrL q0 ((8 : Int32) * (v14 - (4 : Int32)))).toInt32.toInt8.toInt32)) else xs22) →  own_Run p e below s room_1.cells room_1.slots (Q0 h0 n0) T23 (mkF m 258 #[.val (.long q0), .second, .val (.long q1), .second, .val (.int p2), .val (.int p3), .val (.int v4), .val (.int v14), .val (.int v21), .val (.ref b1), .unset, .unset] []) := by
          intro T23 L23 h23 xs25 X23 N23 e23 Zh23 A24 hxs25
          refine own_run (g' := (mkF m 261 #[.val (.long q0), .second, .val (.long q1), .second, .val (.int p2), .val (.int p3), .val (.int v4), .val (.int v14), .val (.int v21), .val (.ref b1), .unset, .unset] [(.int (4 : Int32)), (.int v14)])) (fun _ kt => XS.iload X23.here hx rfl (hb hby at_258) rfl (XS.iconst X23.here hx rfl (hb hby at_260) (kt))) ?_
          have J26 : ∀ (T26 : State) (L26 : List Loc) (h26 : Heap) (xs28 : List Int32), Stand p l e room_1 s m args below meth c T26 L26 1 12 → Fr n0 L26 → T26.heap = h26 → n0 ≤ h26.size → own_A Z h26 b1 .byte (12 : Int32) xs28 → xs28 = (if (4 : Int32) < v14 then (xs25.set (v4 + (4 : Int32)).toNatClampNeg (nar .byte (XT.ushrL q0 ((8 : Int32) * (v14 - (5 : Int32)))).toInt32.toInt8.toInt32)) else xs25) →  own_Run p e below s room_1.cells room_1.slots (Q0 h0 n0) T26 (mkF m 282 #[.val (.long q0), .second, .val (.long q1), .second, .val (.int p2), .val (.int p3), .val (.int v4), .val (.int v14), .val (.int v21), .val (.ref b1), .unset, .unset] []) := by
            intro T26 L26 h26 xs28 X26 N26 e26 Zh26 A27 hxs28
            refine own_run (g' := (mkF m 285 #[.val (.long q0), .second, .val (.long q1), .second, .val (.int p2), .val (.int p3), .val (.int v4), .val (.int v14), .val (.int v21), .val (.ref b1), .unset, .unset] [(.int (5 : Int32)), (.int v14)])) (fun _ kt => XS.iload X26.here hx rfl (hb hby at_282) rfl (XS.iconst X26.here hx rfl (hb hby at_284) (kt))) ?_
            have J29 : ∀ (T29 : State) (L29 : List Loc) (h29 : Heap) (xs31 : List Int32), Stand p l e room_1 s m args below meth c T29 L29 1 12 → Fr n0 L29 → T29.heap = h29 → n0 ≤ h29.size → own_A Z h29 b1 .byte (12 : Int32) xs31 → xs31 = (if (5 : Int32) < v14 then (xs28.set (v4 + (5 : Int32)).toNatClampNeg (nar .byte (XT.ushrL q0 ((8 : Int32) * (v14 - (6 : Int32)))).toInt32.toInt8.toInt32)) else xs28) →  own_Run p e below s room_1.cells room_1.slots (Q0 h0 n0) T29 (mkF m 307 #[.val (.long q0), .second, .val (.long q1), .second, .val (.int p2), .val (.int p3), .val (.int v4), .val (.int v14), .val (.int v21), .val (.ref b1), .unset, .unset] []) := by
              intro T29 L29 h29 xs31 X29 N29 e29 Zh29 A30 hxs31
              refine own_run (g' := (mkF m 311 #[.val (.long q0), .second, .val (.long q1), .second, .val (.int p2), .val (.int p3), .val (.int v4), .val (.int v14), .val (.int v21), .val (.ref b1), .unset, .unset] [(.int (6 : Int32)), (.int v14)])) (fun _ kt => XS.iload X29.here hx rfl (hb hby at_307) rfl (XS.bipush X29.here hx rfl (hb hby at_309) (kt))) ?_
              have J32 : ∀ (T32 : State) (L32 : List Loc) (h32 : Heap) (xs34 : List Int32), Stand p l e room_1 s m args below meth c T32 L32 1 12 → Fr n0 L32 → T32.heap = h32 → n0 ≤ h32.size → own_A Z h32 b1 .byte (12 : Int32) xs34 → xs34 = (if (6 : Int32) < v14 then (xs31.set (v4 + (6 : Int32)).toNatClampNeg (nar .byte (XT.ushrL q0 ((8 : Int32) * (v14 - (7 : Int32)))).toInt32.toInt8.toInt32)) else xs31) →  own_Run p e below s room_1.cells room_1.slots (Q0 h0 n0) T32 (mkF m 334 #[.val (.long q0), .second, .val (.long q1), .second, .val (.int p2), .val (.int p3), .val (.int v4), .val (.int v14), .val (.int v21), .val (.ref b1), .unset, .unset] []) := by
                intro T32 L32 h32 xs34 X32 N32 e32 Zh32 A33 hxs34
                refine own_run (g' := (mkF m 338 #[.val (.long q0), .second, .val (.long q1), .second, .val (.int p2), .val (.int p3), .val (.int v4), .val (.int v14), .val (.int v21), .val (.ref b1), .unset, .unset] [(.int (7 : Int32)), (.int v14)])) (fun _ kt => XS.iload X32.here hx rfl (hb hby at_334) rfl (XS.bipush X32.here hx rfl (hb hby at_336) (kt))) ?_
                have J35 : ∀ (T35 : State) (L35 : List Loc) (h35 : Heap) (xs37 : List Int32), Stand p l e room_1 s m args below meth c T35 L35 1 12 → Fr n0 L35 → T35.heap = h35 → n0 ≤ h35.size → own_A Z h35 b1 .byte (12 : Int32) xs37 → xs37 = (if (7 : Int32) < v14 then (xs34.set (v4 + (7 : Int32)).toNatClampNeg (nar .byte (XT.ushrL q0 ((8 : Int32) * (v14 - (8 : Int32)))).toInt32.toInt8.toInt32)) else xs34) →  own_Run p e below s room_1.cells room_1.slots (Q0 h0 n0) T35 (mkF m 361 #[.val (.long q0), .second, .val (.long q1), .second, .val (.int p2), .val (.int p3), .val (.int v4), .val (.int v14), .val (.int v21), .val (.ref b1), .unset, .unset] []) := by
                  intro T35 L35 h35 xs37 X35 N35 e35 Zh35 A36 hxs37
                  refine own_run (g' := (mkF m 365 #[.val (.long q0), .second, .val (.long q1), .second, .val (.int p2), .val (.int p3), .val (.int v4), .val (.int v14), .val (.int v21), .val (.ref b1), .unset, .unset] [(.int (8 : Int32)), (.int v14)])) (fun _ kt => XS.iload X35.here hx rfl (hb hby at_361) rfl (XS.bipush X35.here hx rfl (hb hby at_363) (kt))) ?_
                  have J38 : ∀ (v38_10 : Int64), v38_10 = (if v14 = (8 : Int32) then q0 else (q0 &&& (((1 : Int64) <<< (((8 : Int32) * v14).toInt64 &&& 63)) - (1 : Int64)))) →  own_Run p e below s room_1.cells room_1.slots (Q0 h0 n0) T35 (mkF m 387 #[.val (.long q0), .second, .val (.long q1), .second, .val (.int p2), .val (.int p3), .val (.int v4), .val (.int v14), .val (.int v21), .val (.ref b1), .val (.long v38_10), .second] []) := by
                    intro v38_10 hv38_10
                    refine own_run (g' := (mkF m 393 #[.val (.long q0), .second, .val (.long q1), .second, .val (.int p2), .val (.int p3), .val (.int v4), .val (.int v14), .val (.int v21), .val (.ref b1), .val (.long v38_10), .second] [(.int v21), (.int v4), (.ref b1)])) (fun _ kt => XS.aload X35.here hx rfl (hb hby at_387) rfl rfl (XS.iload X35.here hx rfl (hb hby at_389) rfl (XS.iload X35.here hx rfl (hb hby at_391) rfl (kt)))) ?_
                    refine own_callS X35 hx hZ hown (hw _ (List.mem_of_getElem? (i := 2) rfl)) (hw _ (List.mem_of_getElem? (i := 3) rfl)) (hw _ (List.mem_of_getElem? (i := 4) rfl)) (hw _ (List.mem_of_getElem? (i := 5) rfl)) (by decide) (rm1 l Z a0 hw [] b1 v4 v21 (12 : Int32) xs37 h35 n0 A36 hq1 hq2 hq3) e35 (by decide) (by decide) (by decide) (by decide) (by rw [hml]; rfl) (argsL := [(.ref b1), (.int v4), (.int v21)]) (rest := []) (lenOf own_pd0 rfl) rfl (W := 0) (Nat.le_of_eq rfl) (hb hby at_393) ?_
                    intro T39 r39 L39 X39 hQ39
                    obtain ⟨rfl, Nq39, e39⟩ := hQ39
                    have N39 := Fr.app N35 Nq39
                    have hd399 : (own_f1 xs37 v4 v21) = v38_10 := own_glue q0 v4 v14 v21 _ xs16 xs19 xs22 xs25 xs28 xs31 xs34 xs37 v38_10 rfl hf3 hl9 hv21 hxs16 hxs19 hxs22 hxs25 hxs28 hxs31 hxs34 hxs37 hv38_10
                    refine own_run (g' := (mkF m 407 #[.val (.long q0), .second, .val (.long q1), .second, .val (.int p2), .val (.int p3), .val (.int v4), .val (.int v14), .val (.int v21), .val (.ref b1), .val (.long v38_10), .second] [(.int (1 : Int32))])) (fun _ kt => XS.lload X39.here hx rfl (hb hby at_396) rfl (XS.lcmp X39.here hx rfl (hb hby at_398) rfl (XS.ifNo X39.here hx rfl (hb hby at_399) rfl ((own_ceq hd399).2) (XS.iconst X39.here hx rfl (hb hby at_402) (XS.goto X39.here hx rfl (pc0 := 403) (pc' := 407) rfl (hb hby at_403) (by decide) (by decide) (kt)))))) ?_
                    exact own_retN (t := .boolean) X39 hx Bd.notSynchronized Bd.returns (by simp) (hb hby at_407) (by decide) (by decide) ⟨rfl, N39⟩
                  by_cases hc365 : v14 = (8 : Int32)
                  · refine own_run (g' := (mkF m 387 #[.val (.long q0), .second, .val (.long q1), .second, .val (.int p2), .val (.int p3), .val (.int v4), .val (.int v14), .val (.int v21), .val (.ref b1), .val (.long q0), .second] [])) (fun _ kt => XS.icmpNo X35.here hx rfl (hb hby at_365) rfl ((teq hc365).2) (XS.lloadN X35.here hx rfl (hb hby at_368) rfl (XS.lstore X35.here hx rfl (hb hby at_369) rfl (l' := #[.val (.long q0), .second, .val (.long q1), .second, .val (.int p2), .val (.int p3), .val (.int v4), .val (.int v14), .val (.int v21), .val (.ref b1), .val (.long q0), .second]) rfl (XS.goto X35.here hx rfl (pc0 := 371) (pc' := 387) rfl (hb hby at_371) (by decide) (by decide) (kt))))) ?_
                    exact J38 q0 (by rw [if_pos hc365])
                  · refine own_run (g' := (mkF m 383 #[.val (.long q0), .second, .val (.long q1), .second, .val (.int p2), .val (.int p3), .val (.int v4), .val (.int v14), .val (.int v21), .val (.ref b1), .unset, .unset] [(.long (1 : Int64)), (.long ((1 : Int64) <<< (((8 : Int32) * v14).toInt64 &&& 63))), (.long q0)])) (fun _ kt => XS.icmpYes X35.here hx rfl (pc0 := 365) (pc' := 374) rfl (hb hby at_365) rfl ((feq hc365).2) (by decide) (by decide) (XS.lloadN X35.here hx rfl (hb hby at_374) rfl (XS.lconst X35.here hx rfl (hb hby at_375) (XS.bipush X35.here hx rfl (hb hby at_376) (XS.iload X35.here hx rfl (hb hby at_378) rfl (XS.imul X35.here hx rfl (hb hby at_380) rfl (XT.lshl X35.here hx rfl (hb hby at_381) rfl (XS.lconst X35.here hx rfl (hb hby at_382) (kt))))))))) ?_
                    refine own_run (g' := (mkF m 387 #[.val (.long q0), .second, .val (.long q1), .second, .val (.int p2), .val (.int p3), .val (.int v4), .val (.int v14), .val (.int v21), .val (.ref b1), .val (.long (q0 &&& (((1 : Int64) <<< (((8 : Int32) * v14).toInt64 &&& 63)) - (1 : Int64)))), .second] [])) (fun _ kt => XS.lsub X35.here hx rfl (hb hby at_383) rfl (XS.land X35.here hx rfl (hb hby at_384) rfl (XS.lstore X35.here hx rfl (hb hby at_385) rfl (l' := #[.val (.long q0), .second, .val (.long q1), .second, .val (.int p2), .val (.int p3), .val (.int v4), .val (.int v14), .val (.int v21), .val (.ref b1), .val (.long (q0 &&& (((1 : Int64) <<< (((8 : Int32) * v14).toInt64 &&& 63)) - (1 : Int64)))), .second]) rfl (kt)))) ?_
                    obtain ⟨v385, hv385⟩ : ∃ z : Int64, z = (q0 &&& (((1 : Int64) <<< (((8 : Int32) * v14).toInt64 &&& 63)) - (1 : Int64))) := ⟨_, rfl⟩
                    rw [← hv385]
                    exact J38 v385 (by subst hv385; rw [if_neg hc365])
                by_cases hc338 : (7 : Int32) < v14
                · refine own_run (g' := (mkF m 353 #[.val (.long q0), .second, .val (.long q1), .second, .val (.int p2), .val (.int p3), .val (.int v4), .val (.int v14), .val (.int v21), .val (.ref b1), .unset, .unset] [(.int v14), (.int (8 : Int32)), (.long q0), (.int (v4 + (7 : Int32))), (.ref b1)])) (fun _ kt => XS.icmpNo X32.here hx rfl (hb hby at_338) rfl ((tlt hc338).2.2.2) (XS.aload X32.here hx rfl (hb hby at_341) rfl rfl (XS.iload X32.here hx rfl (hb hby at_343) rfl (XS.bipush X32.here hx rfl (hb hby at_345) (XS.iadd X32.here hx rfl (hb hby at_347) rfl (XS.lloadN X32.here hx rfl (hb hby at_348) rfl (XS.bipush X32.here hx rfl (hb hby at_349) (XS.iload X32.here hx rfl (hb hby at_351) rfl (kt))))))))) ?_
                  refine own_run (g' := (mkF m 360 #[.val (.long q0), .second, .val (.long q1), .second, .val (.int p2), .val (.int p3), .val (.int v4), .val (.int v14), .val (.int v21), .val (.ref b1), .unset, .unset] [(.int (XT.ushrL q0 ((8 : Int32) * (v14 - (8 : Int32)))).toInt32.toInt8.toInt32), (.int (v4 + (7 : Int32))), (.ref b1)])) (fun _ kt => XS.bipush X32.here hx rfl (hb hby at_353) (XS.isub X32.here hx rfl (hb hby at_355) rfl (XS.imul X32.here hx rfl (hb hby at_356) rfl (XT.lushr X32.here hx rfl (hb hby at_357) rfl (XS.l2i X32.here hx rfl (hb hby at_358) rfl (XS.i2b X32.here hx rfl (hb hby at_359) rfl (kt))))))) ?_
                  refine own_stB X32 hx hZ e32 A33 (j := (v4 + (7 : Int32))) (by rcases hf3 with h | h | h | h <;> rw [h] <;> decide) N32 g_b1 (hb hby at_360) (ys := (xs34.set (v4 + (7 : Int32)).toNatClampNeg (nar .byte (XT.ushrL q0 ((8 : Int32) * (v14 - (8 : Int32)))).toInt32.toInt8.toInt32))) rfl ?_
                  intro T40 h40 L40 X40 N40 e40 W40 A40
                  have ZW40 : n0 ≤ h40.size := Nat.le_trans Zh32 (Keep.of_wr W40).1
                  obtain ⟨xs360, hxs360⟩ : ∃ z : List Int32, z = (xs34.set (v4 + (7 : Int32)).toNatClampNeg (nar .byte (XT.ushrL q0 ((8 : Int32) * (v14 - (8 : Int32)))).toInt32.toInt8.toInt32)) := ⟨_, rfl⟩
                  rw [← hxs360] at A40
                  exact J35 T40 _ h40 xs360 X40 N40 e40 ZW40 A40 (by subst hxs360; rw [if_pos hc338])
                · refine own_run (g' := (mkF m 361 #[.val (.long q0), .second, .val (.long q1), .second, .val (.int p2), .val (.int p3), .val (.int v4), .val (.int v14), .val (.int v21), .val (.ref b1), .unset, .unset] [])) (fun _ kt => XS.icmpYes X32.here hx rfl (pc0 := 338) (pc' := 361) rfl (hb hby at_338) rfl ((flt hc338).2.2.2) (by decide) (by decide) (kt)) ?_
                  exact J35 T32 _ h32 xs34 X32 N32 e32 Zh32 A33 (by rw [if_neg hc338])
              by_cases hc311 : (6 : Int32) < v14
              · refine own_run (g' := (mkF m 326 #[.val (.long q0), .second, .val (.long q1), .second, .val (.int p2), .val (.int p3), .val (.int v4), .val (.int v14), .val (.int v21), .val (.ref b1), .unset, .unset] [(.int v14), (.int (8 : Int32)), (.long q0), (.int (v4 + (6 : Int32))), (.ref b1)])) (fun _ kt => XS.icmpNo X29.here hx rfl (hb hby at_311) rfl ((tlt hc311).2.2.2) (XS.aload X29.here hx rfl (hb hby at_314) rfl rfl (XS.iload X29.here hx rfl (hb hby at_316) rfl (XS.bipush X29.here hx rfl (hb hby at_318) (XS.iadd X29.here hx rfl (hb hby at_320) rfl (XS.lloadN X29.here hx rfl (hb hby at_321) rfl (XS.bipush X29.here hx rfl (hb hby at_322) (XS.iload X29.here hx rfl (hb hby at_324) rfl (kt))))))))) ?_
                refine own_run (g' := (mkF m 333 #[.val (.long q0), .second, .val (.long q1), .second, .val (.int p2), .val (.int p3), .val (.int v4), .val (.int v14), .val (.int v21), .val (.ref b1), .unset, .unset] [(.int (XT.ushrL q0 ((8 : Int32) * (v14 - (7 : Int32)))).toInt32.toInt8.toInt32), (.int (v4 + (6 : Int32))), (.ref b1)])) (fun _ kt => XS.bipush X29.here hx rfl (hb hby at_326) (XS.isub X29.here hx rfl (hb hby at_328) rfl (XS.imul X29.here hx rfl (hb hby at_329) rfl (XT.lushr X29.here hx rfl (hb hby at_330) rfl (XS.l2i X29.here hx rfl (hb hby at_331) rfl (XS.i2b X29.here hx rfl (hb hby at_332) rfl (kt))))))) ?_
                refine own_stB X29 hx hZ e29 A30 (j := (v4 + (6 : Int32))) (by rcases hf3 with h | h | h | h <;> rw [h] <;> decide) N29 g_b1 (hb hby at_333) (ys := (xs31.set (v4 + (6 : Int32)).toNatClampNeg (nar .byte (XT.ushrL q0 ((8 : Int32) * (v14 - (7 : Int32)))).toInt32.toInt8.toInt32))) rfl ?_
                intro T41 h41 L41 X41 N41 e41 W41 A41
                have ZW41 : n0 ≤ h41.size := Nat.le_trans Zh29 (Keep.of_wr W41).1
                obtain ⟨xs333, hxs333⟩ : ∃ z : List Int32, z = (xs31.set (v4 + (6 : Int32)).toNatClampNeg (nar .byte (XT.ushrL q0 ((8 : Int32) * (v14 - (7 : Int32)))).toInt32.toInt8.toInt32)) := ⟨_, rfl⟩
                rw [← hxs333] at A41
                exact J32 T41 _ h41 xs333 X41 N41 e41 ZW41 A41 (by subst hxs333; rw [if_pos hc311])
              · refine own_run (g' := (mkF m 334 #[.val (.long q0), .second, .val (.long q1), .second, .val (.int p2), .val (.int p3), .val (.int v4), .val (.int v14), .val (.int v21), .val (.ref b1), .unset, .unset] [])) (fun _ kt => XS.icmpYes X29.here hx rfl (pc0 := 311) (pc' := 334) rfl (hb hby at_311) rfl ((flt hc311).2.2.2) (by decide) (by decide) (kt)) ?_
                exact J32 T29 _ h29 xs31 X29 N29 e29 Zh29 A30 (by rw [if_neg hc311])
            by_cases hc285 : (5 : Int32) < v14
            · refine own_run (g' := (mkF m 299 #[.val (.long q0), .second, .val (.long q1), .second, .val (.int p2), .val (.int p3), .val (.int v4), .val (.int v14), .val (.int v21), .val (.ref b1), .unset, .unset] [(.int v14), (.int (8 : Int32)), (.long q0), (.int (v4 + (5 : Int32))), (.ref b1)])) (fun _ kt => XS.icmpNo X26.here hx rfl (hb hby at_285) rfl ((tlt hc285).2.2.2) (XS.aload X26.here hx rfl (hb hby at_288) rfl rfl (XS.iload X26.here hx rfl (hb hby at_290) rfl (XS.iconst X26.here hx rfl (hb hby at_292) (XS.iadd X26.here hx rfl (hb hby at_293) rfl (XS.lloadN X26.here hx rfl (hb hby at_294) rfl (XS.bipush X26.here hx rfl (hb hby at_295) (XS.iload X26.here hx rfl (hb hby at_297) rfl (kt))))))))) ?_
              refine own_run (g' := (mkF m 306 #[.val (.long q0), .second, .val (.long q1), .second, .val (.int p2), .val (.int p3), .val (.int v4), .val (.int v14), .val (.int v21), .val (.ref b1), .unset, .unset] [(.int (XT.ushrL q0 ((8 : Int32) * (v14 - (6 : Int32)))).toInt32.toInt8.toInt32), (.int (v4 + (5 : Int32))), (.ref b1)])) (fun _ kt => XS.bipush X26.here hx rfl (hb hby at_299) (XS.isub X26.here hx rfl (hb hby at_301) rfl (XS.imul X26.here hx rfl (hb hby at_302) rfl (XT.lushr X26.here hx rfl (hb hby at_303) rfl (XS.l2i X26.here hx rfl (hb hby at_304) rfl (XS.i2b X26.here hx rfl (hb hby at_305) rfl (kt))))))) ?_
              refine own_stB X26 hx hZ e26 A27 (j := (v4 + (5 : Int32))) (by rcases hf3 with h | h | h | h <;> rw [h] <;> decide) N26 g_b1 (hb hby at_306) (ys := (xs28.set (v4 + (5 : Int32)).toNatClampNeg (nar .byte (XT.ushrL q0 ((8 : Int32) * (v14 - (6 : Int32)))).toInt32.toInt8.toInt32))) rfl ?_
              intro T42 h42 L42 X42 N42 e42 W42 A42
              have ZW42 : n0 ≤ h42.size := Nat.le_trans Zh26 (Keep.of_wr W42).1
              obtain ⟨xs306, hxs306⟩ : ∃ z : List Int32, z = (xs28.set (v4 + (5 : Int32)).toNatClampNeg (nar .byte (XT.ushrL q0 ((8 : Int32) * (v14 - (6 : Int32)))).toInt32.toInt8.toInt32)) := ⟨_, rfl⟩
              rw [← hxs306] at A42
              exact J29 T42 _ h42 xs306 X42 N42 e42 ZW42 A42 (by subst hxs306; rw [if_pos hc285])
            · refine own_run (g' := (mkF m 307 #[.val (.long q0), .second, .val (.long q1), .second, .val (.int p2), .val (.int p3), .val (.int v4), .val (.int v14), .val (.int v21), .val (.ref b1), .unset, .unset] [])) (fun _ kt => XS.icmpYes X26.here hx rfl (pc0 := 285) (pc' := 307) rfl (hb hby at_285) rfl ((flt hc285).2.2.2) (by decide) (by decide) (kt)) ?_
              exact J29 T26 _ h26 xs28 X26 N26 e26 Zh26 A27 (by rw [if_neg hc285])
          by_cases hc261 : (4 : Int32) < v14
          · refine own_run (g' := (mkF m 275 #[.val (.long q0), .second, .val (.long q1), .second, .val (.int p2), .val (.int p3), .val (.int v4), .val (.int v14), .val (.int v21), .val (.ref b1), .unset, .unset] [(.int v14), (.int (8 : Int32)), (.long q0), (.int (v4 + (4 : Int32))), (.ref b1)])) (fun _ kt => XS.icmpNo X23.here hx rfl (hb hby at_261) rfl ((tlt hc261).2.2.2) (XS.aload X23.here hx rfl (hb hby at_264) rfl rfl (XS.iload X23.here hx rfl (hb hby at_266) rfl (XS.iconst X23.here hx rfl (hb hby at_268) (XS.iadd X23.here hx rfl (hb hby at_269) rfl (XS.lloadN X23.here hx rfl (hb hby at_270) rfl (XS.bipush X23.here hx rfl (hb hby at_271) (XS.iload X23.here hx rfl (hb hby at_273) rfl (kt))))))))) ?_
            refine own_run (g' := (mkF m 281 #[.val (.long q0), .second, .val (.long q1), .second, .val (.int p2), .val (.int p3), .val (.int v4), .val (.int v14), .val (.int v21), .val (.ref b1), .unset, .unset] [(.int (XT.ushrL q0 ((8 : Int32) * (v14 - (5 : Int32)))).toInt32.toInt8.toInt32), (.int (v4 + (4 : Int32))), (.ref b1)])) (fun _ kt => XS.iconst X23.here hx rfl (hb hby at_275) (XS.isub X23.here hx rfl (hb hby at_276) rfl (XS.imul X23.here hx rfl (hb hby at_277) rfl (XT.lushr X23.here hx rfl (hb hby at_278) rfl (XS.l2i X23.here hx rfl (hb hby at_279) rfl (XS.i2b X23.here hx rfl (hb hby at_280) rfl (kt))))))) ?_
            refine own_stB X23 hx hZ e23 A24 (j := (v4 + (4 : Int32))) (by rcases hf3 with h | h | h | h <;> rw [h] <;> decide) N23 g_b1 (hb hby at_281) (ys := (xs25.set (v4 + (4 : Int32)).toNatClampNeg (nar .byte (XT.ushrL q0 ((8 : Int32) * (v14 - (5 : Int32)))).toInt32.toInt8.toInt32))) rfl ?_
            intro T43 h43 L43 X43 N43 e43 W43 A43
            have ZW43 : n0 ≤ h43.size := Nat.le_trans Zh23 (Keep.of_wr W43).1
            obtain ⟨xs281, hxs281⟩ : ∃ z : List Int32, z = (xs25.set (v4 + (4 : Int32)).toNatClampNeg (nar .byte (XT.ushrL q0 ((8 : Int32) * (v14 - (5 : Int32)))).toInt32.toInt8.toInt32)) := ⟨_, rfl⟩
            rw [← hxs281] at A43
            exact J26 T43 _ h43 xs281 X43 N43 e43 ZW43 A43 (by subst hxs281; rw [if_pos hc261])
          · refine own_run (g' := (mkF m 282 #[.val (.long q0), .second, .val (.long q1), .second, .val (.int p2), .val (.int p3), .val (.int v4), .val (.int v14), .val (.int v21), .val (.ref b1), .unset, .unset] [])) (fun _ kt => XS.icmpYes X23.here hx rfl (pc0 := 261) (pc' := 282) rfl (hb hby at_261) rfl ((flt hc261).2.2.2) (by decide) (by decide) (kt)) ?_
            exact J26 T23 _ h23 xs25 X23 N23 e23 Zh23 A24 (by rw [if_neg hc261])
        by_cases hc237 : (3 : Int32) < v14
        · refine own_run (g' := (mkF m 251 #[.val (.long q0), .second, .val (.long q1), .second, .val (.int p2), .val (.int p3), .val (.int v4), .val (.int v14), .val (.int v21), .val (.ref b1), .unset, .unset] [(.int v14), (.int (8 : Int32)), (.long q0), (.int (v4 + (3 : Int32))), (.ref b1)])) (fun _ kt => XS.icmpNo X20.here hx rfl (hb hby at_237) rfl ((tlt hc237).2.2.2) (XS.aload X20.here hx rfl (hb hby at_240) rfl rfl (XS.iload X20.here hx rfl (hb hby at_242) rfl (XS.iconst X20.here hx rfl (hb hby at_244) (XS.iadd X20.here hx rfl (hb hby at_245) rfl (XS.lloadN X20.here hx rfl (hb hby at_246) rfl (XS.bipush X20.here hx rfl (hb hby at_247) (XS.iload X20.here hx rfl (hb hby at_249) rfl (kt))))))))) ?_
          refine own_run (g' := (mkF m 257 #[.val (.long q0), .second, .val (.long q1), .second, .val (.int p2), .val (.int p3), .val (.int v4), .val (.int v14), .val (.int v21), .val (.ref b1), .unset, .unset] [(.int (XT.ushrL q0 ((8 : Int32) * (v14 - (4 : Int32)))).toInt32.toInt8.toInt32), (.int (v4 + (3 : Int32))), (.ref b1)])) (fun _ kt => XS.iconst X20.here hx rfl (hb hby at_251) (XS.isub X20.here hx rfl (hb hby at_252) rfl (XS.imul X20.here hx rfl (hb hby at_253) rfl (XT.lushr X20.here hx rfl (hb hby at_254) rfl (XS.l2i X20.here hx rfl (hb hby at_255) rfl (XS.i2b X20.here hx rfl (hb hby at_256) rfl (kt))))))) ?_
          refine own_stB X20 hx hZ e20 A21 (j := (v4 + (3 : Int32))) (by rcases hf3 with h | h | h | h <;> rw [h] <;> decide) N20 g_b1 (hb hby at_257) (ys := (xs22.set (v4 + (3 : Int32)).toNatClampNeg (nar .byte (XT.ushrL q0 ((8 : Int32) * (v14 - (4 : Int32)))).toInt32.toInt8.toInt32))) rfl ?_
          intro T44 h44 L44 X44 N44 e44 W44 A44
          have ZW44 : n0 ≤ h44.size := Nat.le_trans Zh20 (Keep.of_wr W44).1
          obtain ⟨xs257, hxs257⟩ : ∃ z : List Int32, z = (xs22.set (v4 + (3 : Int32)).toNatClampNeg (nar .byte (XT.ushrL q0 ((8 : Int32) * (v14 - (4 : Int32)))).toInt32.toInt8.toInt32)) := ⟨_, rfl⟩
          rw [← hxs257] at A44
          exact J23 T44 _ h44 xs257 X44 N44 e44 ZW44 A44 (by subst hxs257; rw [if_pos hc237])
        · refine own_run (g' := (mkF m 258 #[.val (.long q0), .second, .val (.long q1), .second, .val (.int p2), .val (.int p3), .val (.int v4), .val (.int v14), .val (.int v21), .val (.ref b1), .unset, .unset] [])) (fun _ kt => XS.icmpYes X20.here hx rfl (pc0 := 237) (pc' := 258) rfl (hb hby at_237) rfl ((flt hc237).2.2.2) (by decide) (by decide) (kt)) ?_
          exact J23 T20 _ h20 xs22 X20 N20 e20 Zh20 A21 (by rw [if_neg hc237])
      by_cases hc213 : (2 : Int32) < v14
      · refine own_run (g' := (mkF m 227 #[.val (.long q0), .second, .val (.long q1), .second, .val (.int p2), .val (.int p3), .val (.int v4), .val (.int v14), .val (.int v21), .val (.ref b1), .unset, .unset] [(.int v14), (.int (8 : Int32)), (.long q0), (.int (v4 + (2 : Int32))), (.ref b1)])) (fun _ kt => XS.icmpNo X17.here hx rfl (hb hby at_213) rfl ((tlt hc213).2.2.2) (XS.aload X17.here hx rfl (hb hby at_216) rfl rfl (XS.iload X17.here hx rfl (hb hby at_218) rfl (XS.iconst X17.here hx rfl (hb hby at_220) (XS.iadd X17.here hx rfl (hb hby at_221) rfl (XS.lloadN X17.here hx rfl (hb hby at_222) rfl (XS.bipush X17.here hx rfl (hb hby at_223) (XS.iload X17.here hx rfl (hb hby at_225) rfl (kt))))))))) ?_
        refine own_run (g' := (mkF m 233 #[.val (.long q0), .second, .val (.long q1), .second, .val (.int p2), .val (.int p3), .val (.int v4), .val (.int v14), .val (.int v21), .val (.ref b1), .unset, .unset] [(.int (XT.ushrL q0 ((8 : Int32) * (v14 - (3 : Int32)))).toInt32.toInt8.toInt32), (.int (v4 + (2 : Int32))), (.ref b1)])) (fun _ kt => XS.iconst X17.here hx rfl (hb hby at_227) (XS.isub X17.here hx rfl (hb hby at_228) rfl (XS.imul X17.here hx rfl (hb hby at_229) rfl (XT.lushr X17.here hx rfl (hb hby at_230) rfl (XS.l2i X17.here hx rfl (hb hby at_231) rfl (XS.i2b X17.here hx rfl (hb hby at_232) rfl (kt))))))) ?_
        refine own_stB X17 hx hZ e17 A18 (j := (v4 + (2 : Int32))) (by rcases hf3 with h | h | h | h <;> rw [h] <;> decide) N17 g_b1 (hb hby at_233) (ys := (xs19.set (v4 + (2 : Int32)).toNatClampNeg (nar .byte (XT.ushrL q0 ((8 : Int32) * (v14 - (3 : Int32)))).toInt32.toInt8.toInt32))) rfl ?_
        intro T45 h45 L45 X45 N45 e45 W45 A45
        have ZW45 : n0 ≤ h45.size := Nat.le_trans Zh17 (Keep.of_wr W45).1
        obtain ⟨xs233, hxs233⟩ : ∃ z : List Int32, z = (xs19.set (v4 + (2 : Int32)).toNatClampNeg (nar .byte (XT.ushrL q0 ((8 : Int32) * (v14 - (3 : Int32)))).toInt32.toInt8.toInt32)) := ⟨_, rfl⟩
        rw [← hxs233] at A45
        exact J20 T45 _ h45 xs233 X45 N45 e45 ZW45 A45 (by subst hxs233; rw [if_pos hc213])
      · refine own_run (g' := (mkF m 234 #[.val (.long q0), .second, .val (.long q1), .second, .val (.int p2), .val (.int p3), .val (.int v4), .val (.int v14), .val (.int v21), .val (.ref b1), .unset, .unset] [])) (fun _ kt => XS.icmpYes X17.here hx rfl (pc0 := 213) (pc' := 234) rfl (hb hby at_213) rfl ((flt hc213).2.2.2) (by decide) (by decide) (kt)) ?_
        exact J20 T17 _ h17 xs19 X17 N17 e17 Zh17 A18 (by rw [if_neg hc213])
    by_cases hc189 : (1 : Int32) < v14
    · refine own_run (g' := (mkF m 203 #[.val (.long q0), .second, .val (.long q1), .second, .val (.int p2), .val (.int p3), .val (.int v4), .val (.int v14), .val (.int v21), .val (.ref b1), .unset, .unset] [(.int v14), (.int (8 : Int32)), (.long q0), (.int (v4 + (1 : Int32))), (.ref b1)])) (fun _ kt => XS.icmpNo X14.here hx rfl (hb hby at_189) rfl ((tlt hc189).2.2.2) (XS.aload X14.here hx rfl (hb hby at_192) rfl rfl (XS.iload X14.here hx rfl (hb hby at_194) rfl (XS.iconst X14.here hx rfl (hb hby at_196) (XS.iadd X14.here hx rfl (hb hby at_197) rfl (XS.lloadN X14.here hx rfl (hb hby at_198) rfl (XS.bipush X14.here hx rfl (hb hby at_199) (XS.iload X14.here hx rfl (hb hby at_201) rfl (kt))))))))) ?_
      refine own_run (g' := (mkF m 209 #[.val (.long q0), .second, .val (.long q1), .second, .val (.int p2), .val (.int p3), .val (.int v4), .val (.int v14), .val (.int v21), .val (.ref b1), .unset, .unset] [(.int (XT.ushrL q0 ((8 : Int32) * (v14 - (2 : Int32)))).toInt32.toInt8.toInt32), (.int (v4 + (1 : Int32))), (.ref b1)])) (fun _ kt => XS.iconst X14.here hx rfl (hb hby at_203) (XS.isub X14.here hx rfl (hb hby at_204) rfl (XS.imul X14.here hx rfl (hb hby at_205) rfl (XT.lushr X14.here hx rfl (hb hby at_206) rfl (XS.l2i X14.here hx rfl (hb hby at_207) rfl (XS.i2b X14.here hx rfl (hb hby at_208) rfl (kt))))))) ?_
      refine own_stB X14 hx hZ e14 A15 (j := (v4 + (1 : Int32))) (by rcases hf3 with h | h | h | h <;> rw [h] <;> decide) N14 g_b1 (hb hby at_209) (ys := (xs16.set (v4 + (1 : Int32)).toNatClampNeg (nar .byte (XT.ushrL q0 ((8 : Int32) * (v14 - (2 : Int32)))).toInt32.toInt8.toInt32))) rfl ?_
      intro T46 h46 L46 X46 N46 e46 W46 A46
      have ZW46 : n0 ≤ h46.size := Nat.le_trans Zh14 (Keep.of_wr W46).1
      obtain ⟨xs209, hxs209⟩ : ∃ z : List Int32, z = (xs16.set (v4 + (1 : Int32)).toNatClampNeg (nar .byte (XT.ushrL q0 ((8 : Int32) * (v14 - (2 : Int32)))).toInt32.toInt8.toInt32)) := ⟨_, rfl⟩
      rw [← hxs209] at A46
      exact J17 T46 _ h46 xs209 X46 N46 e46 ZW46 A46 (by subst hxs209; rw [if_pos hc189])
    · refine own_run (g' := (mkF m 210 #[.val (.long q0), .second, .val (.long q1), .second, .val (.int p2), .val (.int p3), .val (.int v4), .val (.int v14), .val (.int v21), .val (.ref b1), .unset, .unset] [])) (fun _ kt => XS.icmpYes X14.here hx rfl (pc0 := 189) (pc' := 210) rfl (hb hby at_189) rfl ((flt hc189).2.2.2) (by decide) (by decide) (kt)) ?_
      exact J17 T14 _ h14 xs16 X14 N14 e14 Zh14 A15 (by rw [if_neg hc189])
  by_cases hc167 : (0 : Int32) < v14
  · refine own_run (g' := (mkF m 181 #[.val (.long q0), .second, .val (.long q1), .second, .val (.int p2), .val (.int p3), .val (.int v4), .val (.int v14), .val (.int v21), .val (.ref b1), .unset, .unset] [(.int (v14 - (1 : Int32))), (.int (8 : Int32)), (.long q0), (.int v4), (.ref b1)])) (fun _ kt => XS.ifNo X13.here hx rfl (hb hby at_167) rfl ((if0 _ _).trans (tlt hc167).2.2.2) (XS.aload X13.here hx rfl (hb hby at_170) rfl rfl (XS.iload X13.here hx rfl (hb hby at_172) rfl (XS.lloadN X13.here hx rfl (hb hby at_174) rfl (XS.bipush X13.here hx rfl (hb hby at_175) (XS.iload X13.here hx rfl (hb hby at_177) rfl (XS.iconst X13.here hx rfl (hb hby at_179) (XS.isub X13.here hx rfl (hb hby at_180) rfl (kt))))))))) ?_
    refine own_run (g' := (mkF m 185 #[.val (.long q0), .second, .val (.long q1), .second, .val (.int p2), .val (.int p3), .val (.int v4), .val (.int v14), .val (.int v21), .val (.ref b1), .unset, .unset] [(.int (XT.ushrL q0 ((8 : Int32) * (v14 - (1 : Int32)))).toInt32.toInt8.toInt32), (.int v4), (.ref b1)])) (fun _ kt => XS.imul X13.here hx rfl (hb hby at_181) rfl (XT.lushr X13.here hx rfl (hb hby at_182) rfl (XS.l2i X13.here hx rfl (hb hby at_183) rfl (XS.i2b X13.here hx rfl (hb hby at_184) rfl (kt))))) ?_
    refine own_stB X13 hx hZ e13 A13 (j := v4) (by rcases hf3 with h | h | h | h <;> rw [h] <;> decide) N13 g_b1 (hb hby at_185) (ys := ([(nar .byte q1.toInt32.toInt8.toInt32), (nar .byte (XT.ushrL q1 (8 : Int32)).toInt32.toInt8.toInt32), (nar .byte (XT.ushrL q1 (16 : Int32)).toInt32.toInt8.toInt32), (nar .byte (XT.ushrL q1 (24 : Int32)).toInt32.toInt8.toInt32), (nar .byte (XT.ushrL q1 (32 : Int32)).toInt32.toInt8.toInt32), (nar .byte (XT.ushrL q1 (40 : Int32)).toInt32.toInt8.toInt32), (nar .byte (XT.ushrL q1 (48 : Int32)).toInt32.toInt8.toInt32), (nar .byte (XT.ushrL q1 (56 : Int32)).toInt32.toInt8.toInt32), (nar .byte (q1 ^^^ (-1 : Int64)).toInt32.toInt8.toInt32), (nar .byte (XT.ushrL (q1 ^^^ (-1 : Int64)) (8 : Int32)).toInt32.toInt8.toInt32), (nar .byte (XT.ushrL (q1 ^^^ (-1 : Int64)) (16 : Int32)).toInt32.toInt8.toInt32), (nar .byte (XT.ushrL (q1 ^^^ (-1 : Int64)) (24 : Int32)).toInt32.toInt8.toInt32)].set v4.toNatClampNeg (nar .byte (XT.ushrL q0 ((8 : Int32) * (v14 - (1 : Int32)))).toInt32.toInt8.toInt32))) rfl ?_
    intro T47 h47 L47 X47 N47 e47 W47 A47
    have ZW47 : n0 ≤ h47.size := Nat.le_trans ZW13 (Keep.of_wr W47).1
    obtain ⟨xs185, hxs185⟩ : ∃ z : List Int32, z = ([(nar .byte q1.toInt32.toInt8.toInt32), (nar .byte (XT.ushrL q1 (8 : Int32)).toInt32.toInt8.toInt32), (nar .byte (XT.ushrL q1 (16 : Int32)).toInt32.toInt8.toInt32), (nar .byte (XT.ushrL q1 (24 : Int32)).toInt32.toInt8.toInt32), (nar .byte (XT.ushrL q1 (32 : Int32)).toInt32.toInt8.toInt32), (nar .byte (XT.ushrL q1 (40 : Int32)).toInt32.toInt8.toInt32), (nar .byte (XT.ushrL q1 (48 : Int32)).toInt32.toInt8.toInt32), (nar .byte (XT.ushrL q1 (56 : Int32)).toInt32.toInt8.toInt32), (nar .byte (q1 ^^^ (-1 : Int64)).toInt32.toInt8.toInt32), (nar .byte (XT.ushrL (q1 ^^^ (-1 : Int64)) (8 : Int32)).toInt32.toInt8.toInt32), (nar .byte (XT.ushrL (q1 ^^^ (-1 : Int64)) (16 : Int32)).toInt32.toInt8.toInt32), (nar .byte (XT.ushrL (q1 ^^^ (-1 : Int64)) (24 : Int32)).toInt32.toInt8.toInt32)].set v4.toNatClampNeg (nar .byte (XT.ushrL q0 ((8 : Int32) * (v14 - (1 : Int32)))).toInt32.toInt8.toInt32)) := ⟨_, rfl⟩
    rw [← hxs185] at A47
    exact J14 T47 _ h47 xs185 X47 N47 e47 ZW47 A47 (by subst hxs185; rw [if_pos hc167])
  · refine own_run (g' := (mkF m 186 #[.val (.long q0), .second, .val (.long q1), .second, .val (.int p2), .val (.int p3), .val (.int v4), .val (.int v14), .val (.int v21), .val (.ref b1), .unset, .unset] [])) (fun _ kt => XS.ifYes X13.here hx rfl (pc0 := 167) (pc' := 186) rfl (hb hby at_167) rfl ((if0 _ _).trans (flt hc167).2.2.2) (by decide) (by decide) (kt)) ?_
    exact J14 T13 _ h13 [(nar .byte q1.toInt32.toInt8.toInt32), (nar .byte (XT.ushrL q1 (8 : Int32)).toInt32.toInt8.toInt32), (nar .byte (XT.ushrL q1 (16 : Int32)).toInt32.toInt8.toInt32), (nar .byte (XT.ushrL q1 (24 : Int32)).toInt32.toInt8.toInt32), (nar .byte (XT.ushrL q1 (32 : Int32)).toInt32.toInt8.toInt32), (nar .byte (XT.ushrL q1 (40 : Int32)).toInt32.toInt8.toInt32), (nar .byte (XT.ushrL q1 (48 : Int32)).toInt32.toInt8.toInt32), (nar .byte (XT.ushrL q1 (56 : Int32)).toInt32.toInt8.toInt32), (nar .byte (q1 ^^^ (-1 : Int64)).toInt32.toInt8.toInt32), (nar .byte (XT.ushrL (q1 ^^^ (-1 : Int64)) (8 : Int32)).toInt32.toInt8.toInt32), (nar .byte (XT.ushrL (q1 ^^^ (-1 : Int64)) (16 : Int32)).toInt32.toInt8.toInt32), (nar .byte (XT.ushrL (q1 ^^^ (-1 : Int64)) (24 : Int32)).toInt32.toInt8.toInt32)] X13 N13 e13 ZW13 A13 (by rw [if_neg hc167])
set_option maxRecDepth 65536 in
set_option maxHeartbeats 40000000 in
theorem comes_1 {Post : Tables → Env → Array Value → State → Outcome → State → Prop} (hpost : ∀ tb e args s v u, (limb_1_1.after args s (.returned v) u = true ∧ limb_1_2.after args s (.returned v) u = true ∧ True) → FrameEnd s (.returned v) u (Jvm.fieldLocs frame_1_writes args s ++ Jvm.arrayLocs frame_1_arrays args s ++ Jvm.staticLocs frame_1_statics s) 16 128 → Post tb e args s (.returned v) u) :
    ArmFor flags0 classFile x code maxLocals ret World_1 tables_1 room_1 Calls_1 rest_1 Pre_1 Post := by
  intro l hfl _ _ p e ha hc hk s m args below hf hA hF happ hP
  obtain ⟨hcalls, hrest, hpre⟩ := hP
  obtain ⟨-, -, -, hnamed, -, -, -, hat⟩ := (Spec.applies_iff hf).mp happ
  obtain ⟨hg, hn⟩ := and_e (Cond.before_iff.mp (show (Jvm.Cond.and given_1 narrow_1).before args s = true from hpre))
  obtain ⟨hcnt, g0⟩ := and_e hg
  obtain ⟨k0, g1⟩ := and_e g0
  obtain ⟨k1, g2⟩ := and_e g1
  obtain ⟨k2, g3⟩ := and_e g2
  obtain ⟨w0, w1, w2, w3, rfl⟩ : ∃ w0 w1 w2 w3 : Value, args = #[w0, w1, w2, w3] := by
    have hs : args.size = 4 := by simpa [Cond.value, given_1] using hcnt
    obtain ⟨L⟩ := args
    match L, hs with
    | [w0, w1, w2, w3], _ => exact ⟨w0, w1, w2, w3, rfl⟩
  have hw := fun d (hd : d ∈ tables_1) => atoms_spec (ws := Jvm.Cond.code x code maxLocals ret :: tables_1) hat d (List.mem_cons_of_mem _ hd)
  obtain ⟨i0, ei0⟩ := isL_v k0
  obtain rfl : w0 = (.long i0) := Option.some.inj ei0
  obtain ⟨i1, ei1⟩ := isL_v k1
  obtain rfl : w1 = (.long i1) := Option.some.inj ei1
  obtain ⟨i2, ei2⟩ := is_v k2
  obtain rfl : w2 = (.int i2) := Option.some.inj ei2
  obtain ⟨i3, ei3⟩ := is_v g3
  obtain rfl : w3 = (.int i3) := Option.some.inj ei3
  obtain ⟨n, o, h1, h2, h3, _, L, rfl, ⟨rfl, N⟩, hq⟩ := rm0 l s _ hw tables_1 i0 i1 i2 i3 s.heap s.heap.size (Nat.le_refl _) p e ha hc hk s m _ below hf ((Spec.applies_iff_loose hf).mp happ).1 ⟨rfl, State.Warmed39.refl s, rfl⟩ trivial
  refine ⟨n, _, h1, h2, h3, hpost _ _ _ _ _ _ ⟨Cond.after_iff.mpr rfl, Cond.after_iff.mpr (eq_i res_at (Term.int_eval (1)) rfl), trivial⟩ ⟨hq.1, hq.2.1, (hq.2.2.sift fun y hy => Or.inr (N y hy)).mono (by decide) (by decide)⟩⟩
theorem main_1_1 : Claimed_1_1 := comes_1 fun _ _ _ _ _ _ h hF => ⟨h.1, hF⟩
theorem main_1_2 : Claimed_1_2 := comes_1 fun _ _ _ _ _ _ h hF => ⟨h.2.1, hF⟩
end Jvm.Pilot.@@N@@
namespace Jvm.Pilot.@@N@@
open Jvm Jvm.ClassFile Sem Op Lib Jvm.Free Jvm.Stand Jvm.Pilot.@@N@@.Jvm.D
/-! MADE BY PROGRAM (witnessworld.py) out of the Statement's table words and the real class files: 9 classes; the members and pool entries that the words name. The judged class is class 1, her method 1. -/
namespace start1
open Jvm.ClassFile
def u (s : String) : CpInfo := .utf8 (stringToUtf16 s)
/-- a pool by its gaps: so many unusable entries, then the entry; so many at the end -/
def gap : Nat → List CpInfo → List CpInfo
  | 0, r => r
  | n + 1, r => .unusable :: gap n r
def poolList (es : List (Nat × CpInfo)) (last : Nat) : List CpInfo := es.foldr (fun e r => gap e.1 (e.2 :: r)) (gap last [])
def pool (es : List (Nat × CpInfo)) (last : Nat) : Array CpInfo := ⟨poolList es last⟩
def fileOf (pool : Array CpInfo) (this : Nat) (attrs : Array Attribute := #[]) (ms : Array MethodInfo := #[]) (fl : Nat := 33) (sup : Nat := 0) (ifs : Array Nat := #[]) (fds : Array FieldInfo := #[]) : ClassFile where
  minorVersion := 0
  majorVersion := 65
  constantPool := pool
  accessFlags := fl
  thisClass := this
  superClass := sup
  interfaces := ifs
  fields := fds
  methods := ms
  attributes := attrs
def plain (name : String) (sup : Option ClassId) : Class where
  name := name
  kind := .ordinary
  loader := none
  accessFlags := 33
  super := sup
  interfaces := #[]
  cf := none
  fields := #[]
  methods := #[]
  instanceTypes := #[]
  staticTypes := #[]
  resolved := #[]
  callSites := []
  init := .initialized
  statics := none
  mirror := none

def pool0 : Array CpInfo := pool [(5, u "<init>"), (0, u "()V"), (1, .class_ 10), (1, u "java/lang/Object")] 113

def k0m0 : Method := { name := "<init>", desc := "()V", sig := { parameters := [], returnType := none }, accessFlags := 1, code := none }
/-- java/lang/Object -/
def k0 : Class := { plain "java/lang/Object" none with
  accessFlags := 33
  interfaces := #[]
  cf := some (fileOf pool0 8 #[] #[{ accessFlags := 1, nameIndex := 5, descriptorIndex := 6, attributes := #[] }] 33 0 #[] #[])
  fields := #[]
  methods := #[k0m0]
  instanceTypes := #[]
  staticTypes := #[]
  resolved := Array.replicate 124 none
  statics := none }

def pool1 : Array CpInfo := pool [(2, .class_ 4), (1, u "java/lang/Object"), (0, u "<init>"), (0, u "()V"), (0, .long 18446744073709551615), (1, .methodref 10 11), (0, .class_ 12), (0, .nameAndType 13 14), (0, u "com/example/fulgur/fulgur/Bytes"), (0, u "readUnsigned"), (0, u "([BII)J"), (0, .class_ 16), (0, u "com/example/fulgur/fulgur/BytesReadUnsignedPinLaw"), (2, u "law"), (0, u "(JJII)Z")] 5

def k1m0 : Method := { name := "<init>", desc := "()V", sig := { parameters := [], returnType := none }, accessFlags := 2, code := none }
def k1c1 : Code := { maxStack := 7, maxLocals := 12, code := code, exceptionTable := #[], attributes := #[] }
def k1m1 : Method := { name := "law", desc := "(JJII)Z", sig := { parameters := [.long, .long, .int, .int], returnType := some .boolean }, accessFlags := 9, code := some k1c1 }
/-- com/example/fulgur/fulgur/BytesReadUnsignedPinLaw -/
def k1 : Class := { plain "com/example/fulgur/fulgur/BytesReadUnsignedPinLaw" (some 0) with
  accessFlags := 49
  interfaces := #[]
  cf := some (fileOf pool1 15 #[] #[{ accessFlags := 2, nameIndex := 5, descriptorIndex := 6, attributes := #[] }, { accessFlags := 9, nameIndex := 19, descriptorIndex := 20, attributes := #[] }] 49 2 #[] #[])
  fields := #[]
  methods := #[k1m0, k1m1]
  instanceTypes := #[]
  staticTypes := #[]
  resolved := Array.replicate 26 none
  statics := none }

def pool2 : Array CpInfo := pool [(2, .class_ 4), (1, u "java/lang/Object"), (0, u "<init>"), (0, u "()V"), (8, .class_ 16), (0, u "com/example/fulgur/fulgur/Bytes"), (2, u "readUnsigned"), (0, u "([BII)J")] 5

def k2m0 : Method := { name := "<init>", desc := "()V", sig := { parameters := [], returnType := none }, accessFlags := 2, code := none }
def k2c1 : Code := { maxStack := 4, maxLocals := 6, code := prog_4_method_2_code, exceptionTable := #[], attributes := #[] }
def k2m1 : Method := { name := "readUnsigned", desc := "([BII)J", sig := { parameters := [(.array .byte), .int, .int], returnType := some .long }, accessFlags := 8, code := some k2c1 }
/-- com/example/fulgur/fulgur/Bytes -/
def k2 : Class := { plain "com/example/fulgur/fulgur/Bytes" (some 0) with
  accessFlags := 48
  interfaces := #[]
  cf := some (fileOf pool2 15 #[] #[{ accessFlags := 2, nameIndex := 5, descriptorIndex := 6, attributes := #[] }, { accessFlags := 8, nameIndex := 19, descriptorIndex := 20, attributes := #[] }] 48 2 #[] #[])
  fields := #[]
  methods := #[k2m0, k2m1]
  instanceTypes := #[]
  staticTypes := #[]
  resolved := Array.replicate 26 none
  statics := none }

def pool3 : Array CpInfo := pool [(1, u "java/lang/Cloneable"), (0, .class_ 1), (0, u "java/lang/Object"), (0, .class_ 3)] 3

/-- java/lang/Cloneable -/
def k3 : Class := { plain "java/lang/Cloneable" (some 0) with
  accessFlags := 1537
  interfaces := #[]
  cf := some (fileOf pool3 2 #[] #[] 1537 4 #[] #[])
  fields := #[]
  methods := #[]
  instanceTypes := #[]
  staticTypes := #[]
  resolved := Array.replicate 8 none
  statics := none }

def pool4 : Array CpInfo := pool [(1, u "java/io/Serializable"), (0, .class_ 1), (0, u "java/lang/Object"), (0, .class_ 3)] 3

/-- java/io/Serializable -/
def k4 : Class := { plain "java/io/Serializable" (some 0) with
  accessFlags := 1537
  interfaces := #[]
  cf := some (fileOf pool4 2 #[] #[] 1537 4 #[] #[])
  fields := #[]
  methods := #[]
  instanceTypes := #[]
  staticTypes := #[]
  resolved := Array.replicate 8 none
  statics := none }

/-- the primitive byte -/
def k5 : Class := { plain "byte" none with kind := .primitive 'B', accessFlags := 0x411 }
/-- [B -/
def k6 : Class := { plain "[B" (some 0) with kind := .array 5 .byte, interfaces := #[3, 4], accessFlags := 1041 }

/-- the primitive int -/
def k7 : Class := { plain "int" none with kind := .primitive 'I', accessFlags := 0x411 }
/-- [I -/
def k8 : Class := { plain "[I" (some 0) with kind := .array 7 .int, interfaces := #[3, 4], accessFlags := 1041 }

def heap : Heap := #[]
def classes : Array Class := #[k0, k1, k2, k3, k4, k5, k6, k7, k8]
def interned : List (Array UInt16 × Addr) := []
def slotsUsed : Nat := 0
def theMethod : MethodId := ⟨1, 1⟩
def args0 : Array Value := #[.long 7, .long 1, .int 2, .int 3]
def aboutOver (below : List Frame) : State where
  vm := { classes := classes, interned := interned.toArray }
  heap := heap
  slotsUsed := slotsUsed
  threads := #[{ frames := .invoking theMethod args0 :: below }]
def below0 : List Frame := [.native { method := ⟨0, 0⟩, args := #[] }]
def about1 : State := aboutOver below0
def p0 : Program := .bare "" "" ""
def e0 : Env := launch0.env 0 0 0
theorem w_frames : about1.frames = Frame.invoking theMethod args0 :: below0 := rfl
set_option maxRecDepth 65536 in
theorem w_args : argsFit about1.vm theMethod args0 = true := by decide +kernel
set_option maxRecDepth 65536 in
theorem w_heap : heapFits about1 = true := by decide +kernel
set_option maxRecDepth 65536 in
theorem w_runnable : about1.curStatus? = some .runnable := by decide +kernel
set_option maxRecDepth 65536 in
theorem w_alone : about1.alone = true := by decide +kernel
set_option maxRecDepth 65536 in
theorem w_named : about1.methodNamed? x = some theMethod := by decide +kernel
set_option maxRecDepth 65536 in
theorem w_hears : about1.hears theMethod below0 = true := by decide +kernel
set_option maxRecDepth 65536 in
theorem w_ripe : about1.ripe theMethod args0 below0 = true := by decide +kernel
theorem w_running : about1.status = .running := rfl
set_option maxRecDepth 65536 in
theorem w_room : about1.hasRoom e0.platform room_1 = true :=
  launch0.hasRoom_least _ room_1 (by decide +kernel) (by decide +kernel) (by decide +kernel) (by decide +kernel) (by decide +kernel) (by decide +kernel)
theorem allAtoms_all (ts : List Jvm.Cond) (a : Array Jvm.Value) (st : Jvm.State) : (allAtoms ts).before a st = ts.all (fun c => c.before a st) := by
  induction ts with
  | nil => rfl
  | cons c t ih =>
    show (Jvm.Cond.and c (allAtoms t)).before a st = _
    rw [Jvm.Cond.before_and, ih, List.all_cons]
def words1 : List Jvm.Cond := Jvm.Cond.code x code maxLocals ret :: tables_1
/-- a 'code' word, met by the world's own term for the bytes: nothing is compared byte by byte -/
theorem code_word {y : MethodName} {bytes : ByteArray} {mx : Nat} {rt : Option FieldType} {a : Array Value} {s : State} {m : MethodId} {meth : Method} {c : Code} (h1 : s.methodNamed? y = some m) (h2 : s.vm.method? m = some meth) (h3 : meth.code = some c) (h4 : c.code = bytes)
    (h5 : (c.maxLocals == mx && c.exceptionTable.isEmpty && decide (c.maxStack ≤ mostOperands) && decide (meth.sig.returnType = rt) && !meth.locks && decide (parseMethodDescriptor y.desc = some meth.sig)) = true) : (Jvm.Cond.code y bytes mx rt).before a s = true := by
  simp only [Bool.and_eq_true, beq_iff_eq, Bool.not_eq_true', decide_eq_true_eq] at h5
  obtain ⟨⟨⟨⟨⟨g1, g2⟩, g3⟩, g4⟩, g5⟩, g6⟩ := h5
  simp [Cond.before, Cond.holds, Cond.value, h1, h2, h3, h4, g1, g2, g3, g4, g5, g6]
def isCode : Jvm.Cond → Bool
  | .code _ _ _ _ => true
  | _ => false
theorem all_split {L : List Jvm.Cond} {P : Jvm.Cond → Bool} (h1 : L.all (fun c => isCode c || P c) = true) (h2 : ∀ c ∈ L.filter isCode, P c = true) : L.all P = true := by
  refine List.all_eq_true.mpr fun c hc => ?_
  have h := List.all_eq_true.mp h1 c hc
  rcases Bool.eq_false_or_eq_true (isCode c) with hi | hi
  · exact h2 c (List.mem_filter.mpr ⟨hc, hi⟩)
  · simpa [hi] using h
set_option maxRecDepth 65536 in
theorem w_c0 : (Jvm.Cond.code x code maxLocals ret).before args0 about1 = true := code_word (m := ⟨1, 1⟩) (meth := k1m1) (c := k1c1) (by decide +kernel) rfl rfl rfl (by decide +kernel)
set_option maxRecDepth 65536 in
theorem w_c1 : (Jvm.Cond.code ({ cls := "com/example/fulgur/fulgur/Bytes", name := "readUnsigned", desc := "([BII)J" } : Jvm.MethodName) prog_4_method_2_code (6 : Nat) (Option.some Jvm.ClassFile.FieldType.long)).before args0 about1 = true := code_word (m := ⟨2, 1⟩) (meth := k2m1) (c := k2c1) (by decide +kernel) rfl rfl rfl (by decide +kernel)
def codes1 : List Jvm.Cond := [Jvm.Cond.code x code maxLocals ret, Jvm.Cond.code ({ cls := "com/example/fulgur/fulgur/Bytes", name := "readUnsigned", desc := "([BII)J" } : Jvm.MethodName) prog_4_method_2_code (6 : Nat) (Option.some Jvm.ClassFile.FieldType.long)]
set_option maxRecDepth 65536 in
theorem codes_eq : words1.filter isCode = codes1 := rfl
theorem w_codes : ∀ c ∈ words1.filter isCode, c.before args0 about1 = true := by
  rw [codes_eq]
  intro c hc
  simp only [codes1, List.mem_cons, List.not_mem_nil, or_false] at hc
  rcases hc with rfl | rfl
  · exact w_c0
  · exact w_c1
set_option maxRecDepth 65536 in
theorem w_t1 : words1.all (fun c => isCode c || c.before args0 about1) = true := by decide +kernel
theorem w_tables : (allAtoms (Jvm.Cond.code x code maxLocals ret :: tables_1)).before args0 about1 = true := by
  rw [allAtoms_all]
  show words1.all (fun c => c.before args0 about1) = true
  refine all_split ?_ w_codes
  rw [w_t1]
set_option maxRecDepth 65536 in
theorem w_case : (Jvm.Cond.and given_1 narrow_1).before args0 about1 = true := by decide +kernel
theorem w_applies : (headSpec (Jvm.Cond.code x code maxLocals ret :: tables_1) room_1).applies x e0.platform about1 = true :=
  (Spec.applies_iff w_frames).mpr ⟨w_running, w_runnable, w_alone, w_named, w_hears, w_ripe, w_room, w_tables⟩
theorem atStart : AtStart classFile x code maxLocals ret World_1 tables_1 room_1 Calls_1 rest_1 Pre_1 launch0 p0 e0 about1 theMethod args0 below0 :=
  ⟨lists_1, trivial, launch0.admits_env _ _ _, launch0.least_env, fairChoices_fair.cas, fairChoices_fair.clock, w_frames, w_args, w_heap, w_applies, trivial, trivial, w_case⟩
end start1
theorem witness_1 : WitnessClaimed_1 := ⟨start1.p0, start1.e0, start1.about1, start1.theMethod, start1.args0, start1.below0, start1.atStart⟩
end Jvm.Pilot.@@N@@
