import JvmDerived
import JvmDerived.Pilot.@@N@@Statement
import JvmDerived.Pilot.@@N@@Code
set_option linter.unusedVariables false
set_option linter.unusedSimpArgs false
@@BLOCK:NumsL.lean.txt@@
@@BLOCK:Masks.lean.txt@@
@@BLOCK:Nums.lean.txt@@
namespace Jvm.Pilot.@@N@@
open Jvm Jvm.ClassFile Sem Op Lib Jvm.Free Jvm.Stand Jvm.LawKit Jvm.RoadKit Bundle Jvm.Pilot.@@N@@.Jvm.D
section Own
variable {p : Program} {l : Launch} {e : Env} {R : Room} {s : State} {m : MethodId} {args : Array Value} {below : List Frame} {meth : Method} {c : Code} {T T' : State} {locs : List Loc} {cells slots : Nat} {Z : State} {h h' : Heap} {n0 : Nat} {a0 : Array Value} {CC SS : Nat} {Q : Option Value → Heap → List Loc → Prop} {g g' : JFrame} {pc : Nat} {Ls : Array Slot} {rest st : List Value}
/-- from here the run comes to its end, and Q holds there -/
def own_Run (p : Program) (e : Env) (below : List Frame) (s : State) (CC SS : Nat) (Q : Option Value → Heap → List Loc → Prop) (T : State) (g : JFrame) : Prop :=
  ∃ s₂ o, Steps p.tables e below (T.setTop g) s₂ ∧ s₂.status = .running ∧ Ended s₂ below o ∧ ∃ v L, o = .returned v ∧ Q v s₂.heap L ∧ FrameEnd s o s₂ L CC SS
theorem own_run (sp : ∀ t, Steps p.tables e below (T'.setTop g') t → Steps p.tables e below (T.setTop g) t) (r : own_Run p e below s CC SS Q T' g') : own_Run p e below s CC SS Q T g := by
  obtain ⟨s₂, o, h1, r⟩ := r; exact ⟨s₂, o, sp _ h1, r⟩
theorem own_enter {ml : Nat} (q : entryFrame m args ml = g) (r : own_Run p e below s CC SS Q T g) : ∃ s₂ o, Steps p.tables e below (T.setTop (entryFrame m args ml)) s₂ ∧ s₂.status = .running ∧ Ended s₂ below o ∧ ∃ v L, o = .returned v ∧ Q v s₂.heap L ∧ FrameEnd s o s₂ L CC SS := by rw [q]; exact r
theorem own_retN {t : FieldType} {z : Int32} (X : Stand p l e R s m args below meth c T locs cells slots) (hx : p.tables.exec = Jvm.exec) (hlk : meth.locks = false) (hret : meth.sig.returnType = some t) (ht : t = .boolean ∨ t = .byte ∨ t = .char ∨ t = .short) (hd : decode c.code pc = .ok (.ireturn, 1)) (hc : cells ≤ CC) (hs : slots ≤ SS) (q : Q (some (.int (nar t z))) T.heap locs) : own_Run p e below s CC SS Q T (mkF m pc Ls (.int z :: rest)) := by
  obtain ⟨fs, hr, hrun, hended, hW, hsame⟩ := X.leave (v := some (.int (nar t z))) (fun h => by rw [hret] at h; cases h) hlk
  exact ⟨_, _, retN X hx hret ht hd hr, hrun, hended, _, _, rfl, q, ⟨_, rfl⟩, hW, hsame.mono hc hs⟩
theorem own_retI {z : Int32} (X : Stand p l e R s m args below meth c T locs cells slots) (hx : p.tables.exec = Jvm.exec) (hlk : meth.locks = false) (hret : meth.sig.returnType = some .int) (hd : decode c.code pc = .ok (.ireturn, 1)) (hc : cells ≤ CC) (hs : slots ≤ SS) (q : Q (some (.int z)) T.heap locs) : own_Run p e below s CC SS Q T (mkF m pc Ls (.int z :: rest)) := by
  obtain ⟨fs, hr, hrun, hended, hW, hsame⟩ := X.leave (v := some (.int z)) (fun h => by rw [hret] at h; cases h) hlk
  refine ⟨_, _, ?_, hrun, hended, _, _, rfl, q, ⟨_, rfl⟩, hW, hsame.mono hc hs⟩
  have hm' : T.vm.method? m = some meth := X.method'
  have hn : narrow .int (.int z) = .int z := rfl
  show Steps p.tables e below (T.setTop { method := m, pc := pc, locals := Ls, stack := _ :: rest, locked := none }) _
  jvm_step X.here [X.here.top, hx, hd, hm', hret, hn]
  first | (intro acts; rw [hr _ acts rfl rfl rfl]) | rw [hr _ _ rfl rfl rfl]
  exact Steps.refl _
theorem own_retL {z : Int64} (X : Stand p l e R s m args below meth c T locs cells slots) (hx : p.tables.exec = Jvm.exec) (hlk : meth.locks = false) (hret : meth.sig.returnType = some .long) (hd : decode c.code pc = .ok (.lreturn, 1)) (hc : cells ≤ CC) (hs : slots ≤ SS) (q : Q (some (.long z)) T.heap locs) : own_Run p e below s CC SS Q T (mkF m pc Ls [.long z]) := by
  obtain ⟨fs, hr, hrun, hended, hW, hsame⟩ := X.leave (v := some (.long z)) (fun h => by rw [hret] at h; cases h) hlk
  exact ⟨_, _, X.lreturnOut hx hret hd hr, hrun, hended, _, _, rfl, q, ⟨_, rfl⟩, hW, hsame.mono hc hs⟩
theorem own_retV (X : Stand p l e R s m args below meth c T locs cells slots) (hx : p.tables.exec = Jvm.exec) (hlk : meth.locks = false) (hret : meth.sig.returnType = none) (hd : decode c.code pc = .ok (.return_, 1)) (hc : cells ≤ CC) (hs : slots ≤ SS) (q : Q none T.heap locs) : own_Run p e below s CC SS Q T (mkF m pc Ls []) := by
  obtain ⟨fs, hr, hrun, hended, hW, hsame⟩ := X.leave (v := none) (fun _ => rfl) hlk
  exact ⟨_, _, X.returnOut hx hret hd hr, hrun, hended, _, _, rfl, q, ⟨_, rfl⟩, hW, hsame.mono hc hs⟩
theorem own_retR {v : Value} {t : FieldType} (X : Stand p l e R s m args below meth c T locs cells slots) (hx : p.tables.exec = Jvm.exec) (hlk : meth.locks = false) (hret : meth.sig.returnType = some t) (ht : t.isReference = true) (hv : v.isRef = true) (hd : decode c.code pc = .ok (.areturn, 1)) (hc : cells ≤ CC) (hs : slots ≤ SS) (q : Q (some v) T.heap locs) : own_Run p e below s CC SS Q T (mkF m pc Ls (v :: rest)) := by
  obtain ⟨fs, hr, hrun, hended, hW, hsame⟩ := X.leave (v := some v) (fun h => by rw [hret] at h; cases h) hlk
  refine ⟨_, _, ?_, hrun, hended, _, _, rfl, q, ⟨_, rfl⟩, hW, hsame.mono hc hs⟩
  have hm' : T.vm.method? m = some meth := X.method'
  show Steps p.tables e below (T.setTop { method := m, pc := pc, locals := Ls, stack := _ :: rest, locked := none }) _
  jvm_step X.here [X.here.top, hx, hd, hm', hret, ht, hv]
  first | (intro acts; rw [hr _ acts rfl rfl rfl]) | rw [hr _ _ rfl rfl rfl]
  exact Steps.refl _
theorem own_clt {x y : Int64} (q : x < y) : ifCond.holds .lt (XT.cmpL x y) = true ∧ ifCond.holds .ge (XT.cmpL x y) = false := by
  have q' : XT.cmpL x y < 0 := (lw_lt x y).mpr q
  exact ⟨(if0 _ _).trans (tlt q').1, (if0 _ _).trans (tlt q').2.1⟩
theorem own_cnlt {x y : Int64} (q : ¬ x < y) : ifCond.holds .lt (XT.cmpL x y) = false ∧ ifCond.holds .ge (XT.cmpL x y) = true := by
  have q' : ¬ XT.cmpL x y < 0 := fun z => q ((lw_lt x y).mp z)
  exact ⟨(if0 _ _).trans (flt q').1, (if0 _ _).trans (flt q').2.1⟩
theorem own_cgt {x y : Int64} (q : y < x) : ifCond.holds .gt (XT.cmpL x y) = true ∧ ifCond.holds .le (XT.cmpL x y) = false := by
  have q' : 0 < XT.cmpL x y := (lw_gt x y).mpr q
  exact ⟨(if0 _ _).trans (tlt q').2.2.1, (if0 _ _).trans (tlt q').2.2.2⟩
theorem own_cngt {x y : Int64} (q : ¬ y < x) : ifCond.holds .gt (XT.cmpL x y) = false ∧ ifCond.holds .le (XT.cmpL x y) = true := by
  have q' : ¬ 0 < XT.cmpL x y := fun z => q ((lw_gt x y).mp z)
  exact ⟨(if0 _ _).trans (flt q').2.2.1, (if0 _ _).trans (flt q').2.2.2⟩
theorem own_ceq {x y : Int64} (q : x = y) : ifCond.holds .eq (XT.cmpL x y) = true ∧ ifCond.holds .ne (XT.cmpL x y) = false := by
  have q' : XT.cmpL x y = 0 := (lw_eq x y).mpr q
  exact ⟨(if0 _ _).trans (teq q').1, (if0 _ _).trans (teq q').2⟩
theorem own_cneq {x y : Int64} (q : ¬ x = y) : ifCond.holds .eq (XT.cmpL x y) = false ∧ ifCond.holds .ne (XT.cmpL x y) = true := by
  have q' : ¬ XT.cmpL x y = 0 := fun z => q ((lw_eq x y).mp z)
  exact ⟨(if0 _ _).trans (feq q').1, (if0 _ _).trans (feq q').2⟩
theorem own_rem (x y : Int32) : x - (x / y) * y = x % y := by
  have a := (x % y).toInt_lt; have b := (x % y).le_toInt
  rw [Int32.toInt_mod] at a b
  apply Int32.toInt_inj.mp
  rw [Int32.toInt_mod, Int32.toInt_sub, Int32.toInt_mul, Int32.toInt_div, Int.bmod_mul_bmod, Int.sub_bmod_bmod, Int.mul_comm, ← Int.tmod_def]
  exact Jvm.Kit.bmod32 b a
theorem own_irem {tb : Tables} [Ours tb] {e : Env} {below : List Frame} {T target : State} {m : MethodId} {c : Code} {g : JFrame} (h : At T m c below) (hx : tb.exec = Jvm.exec) (hg : g.method = m) {x y : Int32} {rest : List Value} (hd : decode c.code g.pc = .ok (.irem, 1)) (hs : g.stack = .int y :: .int x :: rest) (hy : y ≠ 0)
    (hr : Steps tb e below (T.setTop { g with pc := g.pc + 1, stack := .int (x % y) :: rest }) target) : Steps tb e below (T.setTop g) target := XS.irem h hx hg hd hs hy (by rw [own_rem]; exact hr)
theorem own_ldcI {own : String} {index : Nat} {x : Int32} (X : Stand p l e R s m args below meth c T locs cells slots) (hx : p.tables.exec = Jvm.exec) (hZ : Z.Warmed39 s.vm) (hown : s.vm.findClass own = some m.cls) (w : (Cond.constant own index x).before a0 Z = true) (hd : decode c.code pc = .ok (.ldc index, 2)) (k : own_Run p e below s CC SS Q T (mkF m (pc + 2) Ls (.int x :: rest))) : own_Run p e below s CC SS Q T (mkF m pc Ls rest) :=
  own_run (X.ldcInt hx hown (mvT hZ w) (g := mkF m pc Ls rest) rfl hd) k
theorem own_ldcwI {own : String} {index : Nat} {x : Int32} (X : Stand p l e R s m args below meth c T locs cells slots) (hx : p.tables.exec = Jvm.exec) (hZ : Z.Warmed39 s.vm) (hown : s.vm.findClass own = some m.cls) (w : (Cond.constant own index x).before a0 Z = true) (hd : decode c.code pc = .ok (.ldc_w index, 3)) (k : own_Run p e below s CC SS Q T (mkF m (pc + 3) Ls (.int x :: rest))) : own_Run p e below s CC SS Q T (mkF m pc Ls rest) :=
  own_run (X.ldcwInt hx hown (mvT hZ w) (g := mkF m pc Ls rest) rfl hd) k
theorem own_ldcL {own : String} {index : Nat} {x : Int64} (X : Stand p l e R s m args below meth c T locs cells slots) (hx : p.tables.exec = Jvm.exec) (hZ : Z.Warmed39 s.vm) (hown : s.vm.findClass own = some m.cls) (w : (Cond.constantLong own index x).before a0 Z = true) (hd : decode c.code pc = .ok (.ldc2_w index, 3)) (k : own_Run p e below s CC SS Q T (mkF m (pc + 3) Ls (.long x :: rest))) : own_Run p e below s CC SS Q T (mkF m pc Ls rest) :=
  own_run (X.ldc2Long hx hown (mvT hZ w) (g := mkF m pc Ls rest) rfl hd) k
/-- an array of ints or bytes: its length and what it holds -/
def own_A (Z : State) (h : Heap) (a : Addr) (ty : FieldType) (n : Int32) (xs : List Int32) : Prop :=
  xs.length = n.toNatClampNeg ∧ ∃ k, Arv Z h a k ty n (xs.map Value.int) (.int (0 : Int32))
variable {a b : Addr} {ty : FieldType} {n j x : Int32} {xs ys : List Int32} {sl : Nat} {v : Value} {ws : List Addr}
theorem own_A.lt (A : own_A Z h a ty n xs) : a < h.size := by obtain ⟨-, k, V⟩ := A; exact V.lt
theorem own_A.ext (A : own_A Z h a ty n xs) (E : Ext h h') : own_A Z h' a ty n xs := ⟨A.1, A.2.imp fun _ V => V.ext E⟩
theorem own_A.other (A : own_A Z h b ty n xs) (W : Wr h h' a sl v) (q : b ≠ a) : own_A Z h' b ty n xs := ⟨A.1, A.2.imp fun _ V => V.other W q⟩
theorem own_A.keep (A : own_A Z h a ty n xs) (K : Keep h h' ws) (q : a ∉ ws) : own_A Z h' a ty n xs := ⟨A.1, A.2.imp fun _ V => V.keep K q⟩
theorem own_A.nn (A : own_A Z h a ty n xs) : ¬ n < 0 := by obtain ⟨-, k, cl, -, -, -, q, -⟩ := A; exact q
theorem own_A.to (A : own_A Z h a ty n xs) (q : xs = ys) : own_A Z h a ty n ys := q ▸ A
theorem own_lt_clamp {j n : Int32} (hj : ¬ j < 0 ∧ j < n) : j.toNatClampNeg < n.toNatClampNeg := by
  obtain ⟨q1, q2⟩ := hj
  rw [Int32.lt_iff_toInt_lt] at q1 q2
  have e0 : (0 : Int32).toInt = 0 := rfl
  simp only [Int32.toNatClampNeg] at *; omega
theorem own_newA {aty : ArrayType} {cap : Nat} (X : Stand p l e R s m args below meth c T locs cells slots) (hx : p.tables.exec = Jvm.exec) (hZ : Z.Warmed39 s.vm) (w : (Cond.arrayClass (newarray.typeOf aty)).before a0 Z = true) (hty : newarray.typeOf aty = ty) (hdv : defaultValue ty = .int 0) (eT : T.heap = h) (hd : decode c.code pc = .ok (.newarray aty, 2)) (hn : ¬ n < 0) (hcap : n.toNatClampNeg ≤ cap) (hb : cap * 8 ≤ 536870912) (hc : cells + 1 ≤ R.cells) (hl : slots + cap ≤ R.slots)
    (k : ∀ T' h' b, b = h.size → Stand p l e R s m args below meth c T' locs (cells + 1) (slots + cap) → T'.heap = h' → Ext h h' → own_A Z h' b ty n (List.replicate n.toNatClampNeg 0) → own_Run p e below s CC SS Q T' (mkF m (pc + 2) Ls (.ref b :: rest))) :
    own_Run p e below s CC SS Q T (mkF m pc Ls (.int n :: rest)) := by
  obtain ⟨T', h', cA, X', e', E', A', sp⟩ := newP X hx hZ w eT (g := mkF m pc Ls (.int n :: rest)) rfl hd rfl hn hcap hb hc hl
  subst hty
  refine own_run sp (k T' h' _ rfl X' e' E' ⟨by simp, cA, ?_⟩)
  have V := Arv.new A' hn
  rw [hdv] at V
  have q := V.pad (pad_rep [] (.int 0) n.toNatClampNeg)
  simpa using q
theorem own_len (X : Stand p l e R s m args below meth c T locs cells slots) (hx : p.tables.exec = Jvm.exec) (hZ : Z.Warmed39 s.vm) (eT : T.heap = h) (A : own_A Z h a ty n xs) (hd : decode c.code pc = .ok (.arraylength, 1)) (k : own_Run p e below s CC SS Q T (mkF m (pc + 1) Ls (.int n :: rest))) : own_Run p e below s CC SS Q T (mkF m pc Ls (.ref a :: rest)) := by
  obtain ⟨hl, kk, cl, Ar, q1, Sz, Nn, H, G⟩ := A
  refine own_run (fun t kt => X.arraylength hx (by rw [eT]; exact Ar.1) (State.isArrayOf_alike hZ.alike Ar.2.1) (g := mkF m pc Ls (.ref a :: rest)) rfl rfl hd t (by rw [len_of Sz Nn]; exact kt)) k
theorem own_getD (xs : List Int32) (i : Nat) : (xs.map Value.int).getD i (.int 0) = .int (xs.getD i 0) := by
  simp only [List.getD_eq_getElem?_getD, List.getElem?_map]; cases xs[i]? <;> rfl
theorem own_ldI (X : Stand p l e R s m args below meth c T locs cells slots) (hx : p.tables.exec = Jvm.exec) (hZ : Z.Warmed39 s.vm) (eT : T.heap = h) (A : own_A Z h a .int n xs) (hj : ¬ j < 0 ∧ j < n) (hd : decode c.code pc = .ok (.iaload, 1)) (hv : xs.getD j.toNatClampNeg 0 = x) (k : own_Run p e below s CC SS Q T (mkF m (pc + 1) Ls (.int x :: rest))) : own_Run p e below s CC SS Q T (mkF m pc Ls (.int j :: .ref a :: rest)) := by
  obtain ⟨hl, kk, cl, Ar, q1, Sz, Nn, H, G⟩ := A
  have hin := inb_of Sz hj
  refine own_run (fun t kt => X.iaload hx (j := j) (v := .int x) (by rw [eT]; exact Ar.1) (State.isArrayOf_alike hZ.alike Ar.2.1) Ar.2.2 hin (H.at hin (by rw [own_getD, hv])) (g := mkF m pc Ls (.int j :: .ref a :: rest)) rfl rfl hd t kt) k
theorem own_ldB (X : Stand p l e R s m args below meth c T locs cells slots) (hx : p.tables.exec = Jvm.exec) (hZ : Z.Warmed39 s.vm) (eT : T.heap = h) (A : own_A Z h a .byte n xs) (hj : ¬ j < 0 ∧ j < n) (hd : decode c.code pc = .ok (.baload, 1)) (hv : xs.getD j.toNatClampNeg 0 = x) (k : own_Run p e below s CC SS Q T (mkF m (pc + 1) Ls (.int x :: rest))) : own_Run p e below s CC SS Q T (mkF m pc Ls (.int j :: .ref a :: rest)) := by
  obtain ⟨hl, kk, cl, Ar, q1, Sz, Nn, H, G⟩ := A
  have hin := inb_of Sz hj
  refine own_run (fun t kt => X.baloadBytes hx (j := j) (v := .int x) (by rw [eT]; exact Ar.1) (State.isArrayOf_alike hZ.alike Ar.2.1) Ar.2.2 hin (H.at hin (by rw [own_getD, hv])) (g := mkF m pc Ls (.int j :: .ref a :: rest)) rfl rfl hd t kt) k
theorem own_map_set (xs : List Int32) (i : Nat) (x : Int32) : (xs.map Value.int).set i (.int x) = (xs.set i x).map Value.int := by rw [List.map_set]
theorem own_stI (X : Stand p l e R s m args below meth c T locs cells slots) (hx : p.tables.exec = Jvm.exec) (hZ : Z.Warmed39 s.vm) (eT : T.heap = h) (A : own_A Z h a .int n xs) (hj : ¬ j < 0 ∧ j < n) (N : Fr n0 locs) (ga : n0 ≤ a) (hd : decode c.code pc = .ok (.iastore, 1)) (hys : xs.set j.toNatClampNeg x = ys)
    (k : ∀ T' h' locs', Stand p l e R s m args below meth c T' locs' cells slots → Fr n0 locs' → T'.heap = h' → Wr h h' a j.toNatClampNeg (.int x) → own_A Z h' a .int n ys → own_Run p e below s CC SS Q T' (mkF m (pc + 1) Ls rest)) : own_Run p e below s CC SS Q T (mkF m pc Ls (.int x :: .int j :: .ref a :: rest)) := by
  obtain ⟨hl, kk, cl, Ar, q1, Sz, Nn, H, G⟩ := A
  have hin := inb_of Sz hj
  obtain ⟨T', h', X', e', W, sp⟩ := stI X hx hZ eT Ar (j := j) (x := x) hin (g := mkF m pc Ls (.int x :: .int j :: .ref a :: rest)) rfl rfl hd
  have V := Arv.set Ar q1 Sz Nn H G (show fits .int (.int x) = true from rfl) W _ rfl (by rw [List.length_map, hl]; exact own_lt_clamp hj)
  refine own_run sp (k T' h' _ X' (Fr.snoc X' N ga) e' W ⟨by rw [← hys, List.length_set]; exact hl, kk, ?_⟩)
  rw [← hys, ← own_map_set]; exact V
theorem own_stB (X : Stand p l e R s m args below meth c T locs cells slots) (hx : p.tables.exec = Jvm.exec) (hZ : Z.Warmed39 s.vm) (eT : T.heap = h) (A : own_A Z h a .byte n xs) (hj : ¬ j < 0 ∧ j < n) (N : Fr n0 locs) (ga : n0 ≤ a) (hd : decode c.code pc = .ok (.bastore, 1)) (hys : xs.set j.toNatClampNeg (nar .byte x) = ys)
    (k : ∀ T' h' locs', Stand p l e R s m args below meth c T' locs' cells slots → Fr n0 locs' → T'.heap = h' → Wr h h' a j.toNatClampNeg (.int (nar .byte x)) → own_A Z h' a .byte n ys → own_Run p e below s CC SS Q T' (mkF m (pc + 1) Ls rest)) : own_Run p e below s CC SS Q T (mkF m pc Ls (.int x :: .int j :: .ref a :: rest)) := by
  obtain ⟨hl, kk, cl, Ar, q1, Sz, Nn, H, G⟩ := A
  have hin := inb_of Sz hj
  obtain ⟨T', h', X', e', W, sp⟩ := stB X hx hZ eT Ar (j := j) (x := x) hin (g := mkF m pc Ls (.int x :: .int j :: .ref a :: rest)) rfl rfl hd
  have V := Arv.set Ar q1 Sz Nn H G (fits_nar_byte x) W _ rfl (by rw [List.length_map, hl]; exact own_lt_clamp hj)
  refine own_run sp (k T' h' _ X' (Fr.snoc X' N ga) e' W ⟨by rw [← hys, List.length_set]; exact hl, kk, ?_⟩)
  rw [← hys, ← own_map_set]; exact V
/-- an array of which only the length is said -/
def own_L (Z : State) (h : Heap) (a : Addr) (n : Int32) : Prop := ∃ (ty : FieldType) (k : ClassId) (vs : List Value) (d : Value), Arv Z h a k ty n vs d
theorem own_L.lt (A : own_L Z h a n) : a < h.size := by obtain ⟨_, _, _, _, V⟩ := A; exact V.lt
theorem own_L.ext (A : own_L Z h a n) (E : Ext h h') : own_L Z h' a n := by obtain ⟨_, _, _, _, V⟩ := A; exact ⟨_, _, _, _, V.ext E⟩
theorem own_L.other (A : own_L Z h b n) (W : Wr h h' a sl v) (q : b ≠ a) : own_L Z h' b n := by obtain ⟨_, _, _, _, V⟩ := A; exact ⟨_, _, _, _, V.other W q⟩
theorem own_L.keep (A : own_L Z h a n) (K : Keep h h' ws) (q : a ∉ ws) : own_L Z h' a n := by obtain ⟨_, _, _, _, V⟩ := A; exact ⟨_, _, _, _, V.keep K q⟩
theorem own_A.toL (A : own_A Z h a ty n xs) : own_L Z h a n := by obtain ⟨-, k, V⟩ := A; exact ⟨_, _, _, _, V⟩
theorem own_newL {aty : ArrayType} {cap : Nat} (X : Stand p l e R s m args below meth c T locs cells slots) (hx : p.tables.exec = Jvm.exec) (hZ : Z.Warmed39 s.vm) (w : (Cond.arrayClass (newarray.typeOf aty)).before a0 Z = true) (eT : T.heap = h) (hd : decode c.code pc = .ok (.newarray aty, 2)) (hn : ¬ n < 0) (hcap : n.toNatClampNeg ≤ cap) (hb : cap * 8 ≤ 536870912) (hc : cells + 1 ≤ R.cells) (hl : slots + cap ≤ R.slots)
    (k : ∀ T' h' b, b = h.size → Stand p l e R s m args below meth c T' locs (cells + 1) (slots + cap) → T'.heap = h' → Ext h h' → own_L Z h' b n → own_Run p e below s CC SS Q T' (mkF m (pc + 2) Ls (.ref b :: rest))) :
    own_Run p e below s CC SS Q T (mkF m pc Ls (.int n :: rest)) := by
  obtain ⟨T', h', cA, X', e', E', A', sp⟩ := newP X hx hZ w eT (g := mkF m pc Ls (.int n :: rest)) rfl hd rfl hn hcap hb hc hl
  exact own_run sp (k T' h' _ rfl X' e' E' ⟨_, _, _, _, Arv.new A' hn⟩)
theorem own_lenL (X : Stand p l e R s m args below meth c T locs cells slots) (hx : p.tables.exec = Jvm.exec) (hZ : Z.Warmed39 s.vm) (eT : T.heap = h) (A : own_L Z h a n) (hd : decode c.code pc = .ok (.arraylength, 1)) (k : own_Run p e below s CC SS Q T (mkF m (pc + 1) Ls (.int n :: rest))) : own_Run p e below s CC SS Q T (mkF m pc Ls (.ref a :: rest)) := by
  obtain ⟨ty, kk, vs, d, cl, Ar, q1, Sz, Nn, H, G⟩ := A
  refine own_run (fun t kt => X.arraylength hx (by rw [eT]; exact Ar.1) (State.isArrayOf_alike hZ.alike Ar.2.1) (g := mkF m pc Ls (.ref a :: rest)) rfl rfl hd t (by rw [len_of Sz Nn]; exact kt)) k
/-- an array of references that holds nothing but null -/
def own_U (Z : State) (h : Heap) (a : Addr) (n : Int32) : Prop := ∃ (C : String) (k : ClassId), Arv Z h a k (.object C) n [] .null
theorem own_U.lt (A : own_U Z h a n) : a < h.size := by obtain ⟨_, _, V⟩ := A; exact V.lt
theorem own_U.ext (A : own_U Z h a n) (E : Ext h h') : own_U Z h' a n := by obtain ⟨_, _, V⟩ := A; exact ⟨_, _, V.ext E⟩
theorem own_U.toL (A : own_U Z h a n) : own_L Z h a n := by obtain ⟨_, _, V⟩ := A; exact ⟨_, _, _, _, V⟩
theorem own_newU {own K : String} {index cap : Nat} (X : Stand p l e R s m args below meth c T locs cells slots) (hx : p.tables.exec = Jvm.exec) (hZ : Z.Warmed39 s.vm) (hown : s.vm.findClass own = some m.cls) (w1 : (Cond.classLink own index K).before a0 Z = true) (w2 : (Cond.arrayOver (.object K)).before a0 Z = true) (eT : T.heap = h) (hd : decode c.code pc = .ok (.anewarray index, 3)) (hn : ¬ n < 0) (hcap : n.toNatClampNeg ≤ cap) (hb : cap * 8 ≤ 536870912) (hc : cells + 1 ≤ R.cells) (hl : slots + cap ≤ R.slots)
    (k : ∀ T' h' b, b = h.size → Stand p l e R s m args below meth c T' locs (cells + 1) (slots + cap) → T'.heap = h' → Ext h h' → own_U Z h' b n → own_Run p e below s CC SS Q T' (mkF m (pc + 3) Ls (.ref b :: rest))) :
    own_Run p e below s CC SS Q T (mkF m pc Ls (.int n :: rest)) := by
  obtain ⟨T', h', cA, X', e', E', A', -, sp⟩ := newR X hx hZ hown w1 w2 eT (g := mkF m pc Ls (.int n :: rest)) rfl hd rfl hn hcap hb hc hl
  exact own_run sp (k T' h' _ rfl X' e' E' ⟨_, _, Arv.new A' hn⟩)
theorem own_ldU (X : Stand p l e R s m args below meth c T locs cells slots) (hx : p.tables.exec = Jvm.exec) (hZ : Z.Warmed39 s.vm) (eT : T.heap = h) (A : own_U Z h a n) (hj : ¬ j < 0 ∧ j < n) (hd : decode c.code pc = .ok (.aaload, 1)) (k : own_Run p e below s CC SS Q T (mkF m (pc + 1) Ls (.null :: rest))) : own_Run p e below s CC SS Q T (mkF m pc Ls (.int j :: .ref a :: rest)) := by
  obtain ⟨C, kk, cl, Ar, q1, Sz, Nn, H, G⟩ := A
  have hin := inb_of Sz hj
  refine own_run (fun t kt => X.aaload hx (j := j) (v := .null) (by rw [eT]; exact Ar.1) (State.isArrayOf_alike hZ.alike Ar.2.1) rfl Ar.2.2 hin (H.at hin (by simp)) (g := mkF m pc Ls (.int j :: .ref a :: rest)) rfl rfl hd t kt) k
/-- new -/
theorem own_new {own K : String} {index sz : Nat} (X : Stand p l e R s m args below meth c T locs cells slots) (hx : p.tables.exec = Jvm.exec) (hZ : Z.Warmed39 s.vm) (hown : s.vm.findClass own = some m.cls) (w : (Cond.classLink own index K).before a0 Z = true) (wi : (Cond.instantiable K sz).before a0 Z = true) (wz : (Cond.initialized K).before a0 Z = true) (eT : T.heap = h) (hd : decode c.code pc = .ok (.new index, 3)) (hc : cells + 1 ≤ R.cells) (hl : slots + sz ≤ R.slots)
    (k : ∀ T' h' b, b = h.size → Stand p l e R s m args below meth c T' locs (cells + 1) (slots + sz) → T'.heap = h' → Ext h h' → Exa Z h' b K → (∀ {O nm d : String} {ty : FieldType}, Laid Z a0 K O nm d → parseFieldDescriptor d = some ty → Fld Z h' b O nm d (defaultValue ty)) → own_Run p e below s CC SS Q T' (mkF m (pc + 3) Ls (.ref b :: rest))) :
    own_Run p e below s CC SS Q T (mkF m pc Ls rest) := by
  obtain ⟨T', h', X', e', E', A', D', -, sp⟩ := newO X hx hZ hown w wi wz eT (g := mkF m pc Ls rest) rfl hd hc hl
  exact own_run sp (k T' h' _ rfl X' e' E' A' D')
theorem own_getF {own R0 O nm d host : String} {index : Nat} (X : Stand p l e R s m args below meth c T locs cells slots) (hx : p.tables.exec = Jvm.exec) (hZ : Z.Warmed39 s.vm) (hown : s.vm.findClass own = some m.cls) (w : (Cond.fieldLink own index R0 nm d).before a0 Z = true ∨ (Cond.fieldLinkNest own index R0 nm d host).before a0 Z = true) (via : Via Z R0 O nm d) (eT : T.heap = h) (F : Fld Z h a O nm d v) (hd : decode c.code pc = .ok (.getfield index, 3))
    (k : ∀ T', Stand p l e R s m args below meth c T' locs cells slots → T'.heap = h → own_Run p e below s CC SS Q T' (mkF m (pc + 3) Ls (v :: rest))) : own_Run p e below s CC SS Q T (mkF m pc Ls (.ref a :: rest)) := by
  obtain ⟨T', X', e', sp⟩ := getF X hx hZ hown w via eT F (g := mkF m pc Ls (.ref a :: rest)) rfl rfl hd
  exact own_run sp (k T' X' e')
theorem own_getS {own R0 O nm d : String} {index : Nat} (X : Stand p l e R s m args below meth c T locs cells slots) (hx : p.tables.exec = Jvm.exec) (hZ : Z.Warmed39 s.vm) (hown : s.vm.findClass own = some m.cls) (w : (Cond.fieldLink own index R0 nm d).before a0 Z = true) (via : Via Z R0 O nm d) (eT : T.heap = h) (F : Sta Z h O nm d v) (hd : decode c.code pc = .ok (.getstatic index, 3))
    (k : ∀ T', Stand p l e R s m args below meth c T' locs cells slots → T'.heap = h → own_Run p e below s CC SS Q T' (mkF m (pc + 3) Ls (v :: rest))) : own_Run p e below s CC SS Q T (mkF m pc Ls rest) := by
  obtain ⟨T', X', e', sp⟩ := getS (host := "") X hx hZ hown w via eT F (g := mkF m pc Ls rest) rfl hd
  exact own_run sp (k T' X' e')
theorem own_StaKeep {O nm d K : String} (F : Sta Z h O nm d v) (Kp : Keep h h' [a]) (E : Exa Z h a K) : Sta Z h' O nm d v := by
  obtain ⟨cf, i, k, f, st, cell, h1, h2, h3, h4, h5, h6, h7⟩ := F
  obtain ⟨cell', k', q1, -, -, q4, -⟩ := E
  have ne : st ≠ a := fun e => by subst e; cases h5.symm.trans q1; rw [h6] at q4; cases q4
  exact ⟨cf, i, k, f, st, cell, h1, h2, h3, h4, Kp.2.1 _ _ h5 (ninS ne nin0), h6, h7⟩
theorem own_StaKeepA {O nm d : String} (F : Sta Z h O nm d v) (Kp : Keep h h' [a]) (A : own_A Z h a ty n xs) : Sta Z h' O nm d v := by
  obtain ⟨cf, i, k, f, st, cell, h1, h2, h3, h4, h5, h6, h7⟩ := F
  obtain ⟨-, kk, cl, Ar, -⟩ := A
  have q4 := Ar.plain
  have ne : st ≠ a := fun e => by subst e; cases h5.symm.trans Ar.1; rw [h6] at q4; cases q4
  exact ⟨cf, i, k, f, st, cell, h1, h2, h3, h4, Kp.2.1 _ _ h5 (ninS ne nin0), h6, h7⟩
theorem own_putF {own R0 O nm d host K : String} {index kk : Nat} {old : Value} (X : Stand p l e R s m args below meth c T locs cells slots) (hx : p.tables.exec = Jvm.exec) (hZ : Z.Warmed39 s.vm) (hown : s.vm.findClass own = some m.cls) (w : (Cond.fieldLink own index R0 nm d).before a0 Z = true ∨ (Cond.fieldLinkNest own index R0 nm d host).before a0 Z = true) (via : Via Z R0 O nm d) (eT : T.heap = h) (F : Fld Z h a O nm d old) (E : Exa Z h a K) (L : (Cond.lays K O nm d).before a0 Z = true ∨ ((Cond.laysFinal K O nm d).before a0 Z = true ∧ own = O ∧ meth.name = "<init>")) (wi : (Cond.instantiable K kk).before a0 Z = true) (hty : parseFieldDescriptor d = some ty) (hn : narrow ty v = v) (hf : fits ty v = true) (N : Fr n0 locs) (ga : n0 ≤ a) (hd : decode c.code pc = .ok (.putfield index, 3))
    (k : ∀ T' h' locs', Stand p l e R s m args below meth c T' locs' cells slots → Fr n0 locs' → T'.heap = h' → Wr h h' a (Jvm.RoadKit.slotOf Z O nm d) v → Fld Z h' a O nm d v → own_Run p e below s CC SS Q T' (mkF m (pc + 3) Ls rest)) : own_Run p e below s CC SS Q T (mkF m pc Ls (v :: .ref a :: rest)) := by
  obtain ⟨T', h', X', e', W, sp⟩ := putF X hx hZ hown w via eT F E L wi hty hn hf (g := mkF m pc Ls (v :: .ref a :: rest)) rfl rfl hd
  exact own_run sp (k T' h' _ X' (Fr.snoc X' N ga) e' W (F.same W))
theorem own_initO {own : String} {index W : Nat} (X : Stand p l e R s m args below meth c T locs cells slots) (hx : p.tables.exec = Jvm.exec) (hZ : Z.Warmed39 s.vm) (hown : s.vm.findClass own = some m.cls) (w1 : (Cond.methodLink own index Lib.objectInit).before a0 Z = true) (w2 : (Cond.instanceMethod Lib.objectInit).before a0 Z = true) (w3 : (Cond.code Lib.objectInit ⟨#[0xb1]⟩ 1 none).before a0 Z = true) (eT : T.heap = h) (hsize : Ls.size = c.maxLocals) (hd : decode c.code pc = .ok (.invokespecial index, 3)) (hf : 1 ≤ R.frames) (hW : (rest.map fun v => v.category).sum ≤ W) (hl : W + 12 ≤ R.locals)
    (k : ∀ T', Stand p l e R s m args below meth c T' locs cells slots → T'.heap = h → own_Run p e below s CC SS Q T' (mkF m (pc + 3) Ls rest)) : own_Run p e below s CC SS Q T (mkF m pc Ls (.ref a :: rest)) := by
  obtain ⟨T', X', e', sp⟩ := initO X hx hZ hown w1 w2 w3 eT (g := mkF m pc Ls (.ref a :: rest)) rfl hsize rfl hd hf (W := W) (by show 2 * 0 + _ ≤ _; omega) hl
  exact own_run sp (k T' X' e')
variable {own : String} {index maxL W : Nat} {y z : MethodName} {bytes : ByteArray} {ret : Option FieldType} {rm : Room} {argsL : List Value} {Q' : Option Value → Heap → List Loc → Prop}
/-- a static method by its contract -/
theorem own_callS (X : Stand p l e R s m args below meth c T locs cells slots) (hx : p.tables.exec = Jvm.exec) (hZ : Z.Warmed39 s.vm) (hown : s.vm.findClass own = some m.cls) (w1 : (Cond.methodLink own index y).before a0 Z = true) (w2 : (Cond.static y).before a0 Z = true) (w3 : (Cond.initialized y.cls).before a0 Z = true) (w4 : (Cond.code y bytes maxL ret).before a0 Z = true) (hy : y.cls ≠ "java/lang/invoke/MethodHandle" ∧ y.cls ≠ "java/lang/invoke/VarHandle")
    (hM : MetFree l y (head1 [Cond.code y bytes maxL ret] rm) (fun a U => a = argsL.toArray ∧ Z.Warmed39 U.vm ∧ U.heap = h) (fun _ _ _ _ _ => True) (fun _ U o U' => ∃ v L, o = .returned v ∧ Q' v U'.heap L ∧ FrameEnd U o U' L rm.cells rm.slots)) (eT : T.heap = h) (hf : rm.frames + 1 ≤ R.frames) (hl : W + (maxL + 11) + rm.locals ≤ R.locals) (hcl : cells + rm.cells ≤ R.cells) (hsl : slots + rm.slots ≤ R.slots) (hsize : Ls.size = c.maxLocals)
    (hlen : ∀ sig, parseMethodDescriptor y.desc = some sig → argsL.length = sig.parameters.length) (hs : st = argsL.reverse ++ rest) (hW : (rest.map fun v => v.category).sum ≤ W) (hd : decode c.code pc = .ok (.invokestatic index, 3))
    (k : ∀ T' v L, Stand p l e R s m args below meth c T' (locs ++ L) (cells + rm.cells) (slots + rm.slots) → Q' v T'.heap L → own_Run p e below s CC SS Q T' (mkF m (pc + 3) Ls (v.toList ++ rest))) : own_Run p e below s CC SS Q T (mkF m pc Ls st) := by
  obtain ⟨v, _, ⟨T1, L1, k1, n1⟩, -, X1, ⟨Lc, hQ, l1, y1, z1⟩, sp⟩ := Jvm.LawKit.callS X hx hown (mvT hZ w1) (mvT hZ w2) (mvT hZ w3) (mvT hZ w4) hy (backOf (W := W) hM hZ w4 w3 hf hl) (g := mkF m pc Ls st) rfl hsize (argsL := argsL) (rest := rest) hlen hs (by show 2 * 0 + _ ≤ _; omega) hd (fun _ _ => ⟨rfl, eT, hcl, hsl⟩)
  dsimp only [Pt.U, Pt.locs, Pt.cells, Pt.slots] at X1 l1 y1 z1 sp hQ
  subst l1 y1 z1
  exact own_run sp (k T1 v Lc X1 hQ)
/-- a constructor by its contract -/
theorem own_callI (X : Stand p l e R s m args below meth c T locs cells slots) (hx : p.tables.exec = Jvm.exec) (hZ : Z.Warmed39 s.vm) (hown : s.vm.findClass own = some m.cls) (hy1 : y.name = "<init>") (w1 : (Cond.methodLink own index y).before a0 Z = true) (w2 : (Cond.instanceMethod y).before a0 Z = true) (w3 : (Cond.initialized y.cls).before a0 Z = true) (w4 : (Cond.code y bytes maxL none).before a0 Z = true) (hy : y.cls ≠ "java/lang/invoke/MethodHandle" ∧ y.cls ≠ "java/lang/invoke/VarHandle")
    (hM : MetFree l y (head1 [Cond.code y bytes maxL none] rm) (fun a U => a = (.ref b :: argsL).toArray ∧ Z.Warmed39 U.vm ∧ U.heap = h) (fun _ _ _ _ _ => True) (fun _ U o U' => ∃ v L, o = .returned v ∧ Q' v U'.heap L ∧ FrameEnd U o U' L rm.cells rm.slots)) (eT : T.heap = h) (hf : rm.frames + 1 ≤ R.frames) (hl : W + (maxL + 11) + rm.locals ≤ R.locals) (hcl : cells + rm.cells ≤ R.cells) (hsl : slots + rm.slots ≤ R.slots) (hsize : Ls.size = c.maxLocals)
    (hlen : ∀ sig, parseMethodDescriptor y.desc = some sig → argsL.length = sig.parameters.length) (hs : st = argsL.reverse ++ .ref b :: rest) (hW : (rest.map fun v => v.category).sum ≤ W) (hd : decode c.code pc = .ok (.invokespecial index, 3))
    (k : ∀ T' v L, Stand p l e R s m args below meth c T' (locs ++ L) (cells + rm.cells) (slots + rm.slots) → Q' v T'.heap L → own_Run p e below s CC SS Q T' (mkF m (pc + 3) Ls (v.toList ++ rest))) : own_Run p e below s CC SS Q T (mkF m pc Ls st) := by
  obtain ⟨v, _, ⟨T1, L1, k1, n1⟩, -, X1, ⟨Lc, hQ, l1, y1, z1⟩, sp⟩ := X.specialBack hx (y := y) hy1 hown (mvT hZ w1) (mvT hZ w2) (mvT hZ w4) hy (backOf (W := W) hM hZ w4 w3 hf hl) (g := mkF m pc Ls st) rfl hsize (Steps.refl _) (a := b) (argsL := argsL) (rest := rest) hlen hs (by show 2 * 0 + _ ≤ _; omega) hd (fun _ _ => ⟨rfl, eT, hcl, hsl⟩)
  dsimp only [Pt.U, Pt.locs, Pt.cells, Pt.slots] at X1 l1 y1 z1 sp hQ
  subst l1 y1 z1
  exact own_run (fun t kt => sp.trans kt) (k T1 v Lc X1 hQ)
/-- an instance method by its contract -/
theorem own_callV {K : String} (X : Stand p l e R s m args below meth c T locs cells slots) (hx : p.tables.exec = Jvm.exec) (hZ : Z.Warmed39 s.vm) (hown : s.vm.findClass own = some m.cls) (w1 : (Cond.methodLink own index y).before a0 Z = true) (w2 : (Cond.declares y).before a0 Z = true) (w5 : (Cond.selects K y y).before a0 Z = true) (w6 : (Cond.instanceMethod y).before a0 Z = true) (w3 : (Cond.initialized y.cls).before a0 Z = true) (w4 : (Cond.code y bytes maxL ret).before a0 Z = true) (hy : y.cls ≠ "java/lang/invoke/MethodHandle" ∧ y.cls ≠ "java/lang/invoke/VarHandle") (E : Exa Z h b K)
    (hM : MetFree l y (head1 [Cond.code y bytes maxL ret] rm) (fun a U => a = (.ref b :: argsL).toArray ∧ Z.Warmed39 U.vm ∧ U.heap = h) (fun _ _ _ _ _ => True) (fun _ U o U' => ∃ v L, o = .returned v ∧ Q' v U'.heap L ∧ FrameEnd U o U' L rm.cells rm.slots)) (eT : T.heap = h) (hf : rm.frames + 1 ≤ R.frames) (hl : W + (maxL + 11) + rm.locals ≤ R.locals) (hcl : cells + rm.cells ≤ R.cells) (hsl : slots + rm.slots ≤ R.slots) (hsize : Ls.size = c.maxLocals)
    (hlen : ∀ sig, parseMethodDescriptor y.desc = some sig → argsL.length = sig.parameters.length) (hs : st = argsL.reverse ++ .ref b :: rest) (hW : (rest.map fun v => v.category).sum ≤ W) (hd : decode c.code pc = .ok (.invokevirtual index, 3))
    (k : ∀ T' v L, Stand p l e R s m args below meth c T' (locs ++ L) (cells + rm.cells) (slots + rm.slots) → Q' v T'.heap L → own_Run p e below s CC SS Q T' (mkF m (pc + 3) Ls (v.toList ++ rest))) : own_Run p e below s CC SS Q T (mkF m pc Ls st) := by
  obtain ⟨cq, kq, qa, qb, qc⟩ := isOf hZ eT E
  obtain ⟨v, _, ⟨T1, L1, k1, n1⟩, -, X1, ⟨Lc, hQ, l1, y1, z1⟩, sp⟩ := X.virtualBack hx (y := y) (z := y) hown (mvT hZ w1) (mvT hZ w2) (notFace_of_selects (args := #[]) (mvT hZ w5)) (mvT hZ w5) (mvT hZ w6) hy (backOf (W := W) hM hZ w4 w3 hf hl) qa qc (g := mkF m pc Ls st) rfl hsize (Steps.refl _) (argsL := argsL) (rest := rest) hlen hs (by show 2 * 0 + _ ≤ _; omega) hd (fun _ _ => ⟨rfl, eT, hcl, hsl⟩)
  dsimp only [Pt.U, Pt.locs, Pt.cells, Pt.slots] at X1 l1 y1 z1 sp hQ
  subst l1 y1 z1
  exact own_run (fun t kt => sp.trans kt) (k T1 v Lc X1 hQ)
/-- a private instance method by its contract -/
theorem own_callP {kk : Nat} {K : String} (X : Stand p l e R s m args below meth c T locs cells slots) (hx : p.tables.exec = Jvm.exec) (hZ : Z.Warmed39 s.vm) (hown : s.vm.findClass own = some m.cls) (w1 : (Cond.methodLink own index y).before a0 Z = true) (w2 : (Cond.instanceMethod y).before a0 Z = true) (wi : (Cond.instantiable y.cls kk).before a0 Z = true) (wp : (Cond.privateMethod y).before a0 Z = true) (w3 : (Cond.initialized y.cls).before a0 Z = true) (w4 : (Cond.code y bytes maxL ret).before a0 Z = true) (hy : y.cls ≠ "java/lang/invoke/MethodHandle" ∧ y.cls ≠ "java/lang/invoke/VarHandle") (E : Exa Z h b K)
    (hM : MetFree l y (head1 [Cond.code y bytes maxL ret] rm) (fun a U => a = (.ref b :: argsL).toArray ∧ Z.Warmed39 U.vm ∧ U.heap = h) (fun _ _ _ _ _ => True) (fun _ U o U' => ∃ v L, o = .returned v ∧ Q' v U'.heap L ∧ FrameEnd U o U' L rm.cells rm.slots)) (eT : T.heap = h) (hf : rm.frames + 1 ≤ R.frames) (hl : W + (maxL + 11) + rm.locals ≤ R.locals) (hcl : cells + rm.cells ≤ R.cells) (hsl : slots + rm.slots ≤ R.slots) (hsize : Ls.size = c.maxLocals)
    (hlen : ∀ sig, parseMethodDescriptor y.desc = some sig → argsL.length = sig.parameters.length) (hs : st = argsL.reverse ++ .ref b :: rest) (hW : (rest.map fun v => v.category).sum ≤ W) (hd : decode c.code pc = .ok (.invokevirtual index, 3))
    (k : ∀ T' v L, Stand p l e R s m args below meth c T' (locs ++ L) (cells + rm.cells) (slots + rm.slots) → Q' v T'.heap L → own_Run p e below s CC SS Q T' (mkF m (pc + 3) Ls (v.toList ++ rest))) : own_Run p e below s CC SS Q T (mkF m pc Ls st) := by
  obtain ⟨cq, q1, q2⟩ := E.cell
  obtain ⟨cI, kI, hc, hk, -, hniab, -, -⟩ := Cond.instantiable_spec (mvT (args := args) hZ wi)
  have hni : kI.isInterface = false := (Bool.or_eq_false_iff.mp hniab).1
  have hpriv : s.PrivateAt y := Cond.privateMethod_at (mvP hZ wp (args := #[]))
  have hsel : (Cond.selects y.cls y y).before args s = true := selects_self_of_private hc hk hni hpriv (mvT hZ w2) hy
  obtain ⟨v, _, ⟨T1, L1, k1, n1⟩, -, X1, ⟨Lc, hQ, l1, y1, z1⟩, sp⟩ := X.privateBack hx (y := y) hown (mvT hZ w1) (mvT hZ w2) hsel hpriv (mvT hZ w4) hy (backOf (W := W) hM hZ w4 w3 hf hl) (g := mkF m pc Ls st) rfl hsize (Steps.refl _) (a := b) (by rw [eT]; exact q1) q2 (argsL := argsL) (rest := rest) hlen hs (by show 2 * 0 + _ ≤ _; omega) hd (fun _ _ => ⟨rfl, eT, hcl, hsl⟩)
  dsimp only [Pt.U, Pt.locs, Pt.cells, Pt.slots] at X1 l1 y1 z1 sp hQ
  subst l1 y1 z1
  exact own_run (fun t kt => sp.trans kt) (k T1 v Lc X1 hQ)
end Own
theorem own_pn1 : plainName "com/example/fulgur/fulgur/ShortChannelId" = true := by first | (simp [plainName, overriddenIn]; done) | decide +kernel
theorem own_ef1 (m : MethodId) (o0 : Addr) (p1 : Int32) (p2 : Int32) (p3 : Int32) : entryFrame m #[(.ref o0), (.int p1), (.int p2), (.int p3)] 4 = mkF m 0 #[.val (.ref o0), .val (.int p1), .val (.int p2), .val (.int p3)] [] := by first | (simp [entryFrame, mkF, argsToLocals, Value.category]; done) | rfl
def own_R1 : Room := ({ frames := 1, cells := 0, slots := 0, locals := 13 } : Room)
def Q1 (Z : State) (o0 : Addr) (p1 : Int32) (p2 : Int32) (p3 : Int32) (h0 : Heap) (n0 : Nat) (v : Option Value) (h : Heap) (L : List Loc) : Prop := v = none ∧ Fr n0 L ∧ Keep h0 h [o0] ∧ Fld Z h o0 "com/example/fulgur/fulgur/ShortChannelId" "blockHeight" "I" (.int p1) ∧ Fld Z h o0 "com/example/fulgur/fulgur/ShortChannelId" "transactionIndex" "I" (.int p2) ∧ Fld Z h o0 "com/example/fulgur/fulgur/ShortChannelId" "outputIndex" "I" (.int p3)
theorem d1_0 : decode prog_48_method_1_code 0 = .ok (.aload_n 0, 1) := by decide +kernel
theorem d1_1 : decode prog_48_method_1_code 1 = .ok (.invokespecial 1, 3) := by decide +kernel
theorem d1_4 : decode prog_48_method_1_code 4 = .ok (.iload_n 1, 1) := by decide +kernel
theorem d1_5 : decode prog_48_method_1_code 5 = .ok (.bipush 24, 2) := by decide +kernel
theorem d1_7 : decode prog_48_method_1_code 7 = .ok (.iushr, 1) := by decide +kernel
theorem d1_8 : decode prog_48_method_1_code 8 = .ok (.ifCond .ne 17, 3) := by decide +kernel
theorem d1_11 : decode prog_48_method_1_code 11 = .ok (.iload_n 2, 1) := by decide +kernel
theorem d1_12 : decode prog_48_method_1_code 12 = .ok (.bipush 24, 2) := by decide +kernel
theorem d1_14 : decode prog_48_method_1_code 14 = .ok (.iushr, 1) := by decide +kernel
theorem d1_15 : decode prog_48_method_1_code 15 = .ok (.ifCond .ne 10, 3) := by decide +kernel
theorem d1_18 : decode prog_48_method_1_code 18 = .ok (.iload_n 3, 1) := by decide +kernel
theorem d1_19 : decode prog_48_method_1_code 19 = .ok (.bipush 16, 2) := by decide +kernel
theorem d1_21 : decode prog_48_method_1_code 21 = .ok (.iushr, 1) := by decide +kernel
theorem d1_22 : decode prog_48_method_1_code 22 = .ok (.ifCond .eq 19, 3) := by decide +kernel
theorem d1_41 : decode prog_48_method_1_code 41 = .ok (.aload_n 0, 1) := by decide +kernel
theorem d1_42 : decode prog_48_method_1_code 42 = .ok (.iload_n 1, 1) := by decide +kernel
theorem d1_43 : decode prog_48_method_1_code 43 = .ok (.putfield 16, 3) := by decide +kernel
theorem d1_46 : decode prog_48_method_1_code 46 = .ok (.aload_n 0, 1) := by decide +kernel
theorem d1_47 : decode prog_48_method_1_code 47 = .ok (.iload_n 2, 1) := by decide +kernel
theorem d1_48 : decode prog_48_method_1_code 48 = .ok (.putfield 22, 3) := by decide +kernel
theorem d1_51 : decode prog_48_method_1_code 51 = .ok (.aload_n 0, 1) := by decide +kernel
theorem d1_52 : decode prog_48_method_1_code 52 = .ok (.iload_n 3, 1) := by decide +kernel
theorem d1_53 : decode prog_48_method_1_code 53 = .ok (.putfield 25, 3) := by decide +kernel
theorem d1_56 : decode prog_48_method_1_code 56 = .ok (.return_, 1) := by decide +kernel
set_option maxRecDepth 65536 in
set_option maxHeartbeats 40000000 in
theorem rm1 (l : Launch) (Z : State) (a0 : Array Value) (hw : ∀ d ∈ tables_1, d.before a0 Z = true) (ws : List Jvm.Cond) (o0 : Addr) (p1 : Int32) (p2 : Int32) (p3 : Int32) (h0 : Heap) (n0 : Nat) (Z0 : n0 ≤ h0.size) (K0 : Exa Z h0 o0 "com/example/fulgur/fulgur/ShortChannelId") (F0_0 : Fld Z h0 o0 "com/example/fulgur/fulgur/ShortChannelId" "blockHeight" "I" (.int (0 : Int32))) (F0_1 : Fld Z h0 o0 "com/example/fulgur/fulgur/ShortChannelId" "transactionIndex" "I" (.int (0 : Int32))) (F0_2 : Fld Z h0 o0 "com/example/fulgur/fulgur/ShortChannelId" "outputIndex" "I" (.int (0 : Int32))) (g_o0 : n0 ≤ o0) (c1 : XT.ushr p1 (24 : Int32) = (0 : Int32)) (c2 : XT.ushr p2 (24 : Int32) = (0 : Int32)) (c3 : XT.ushr p3 (16 : Int32) = (0 : Int32)) :
    MetFree l (⟨"com/example/fulgur/fulgur/ShortChannelId", "<init>", "(III)V"⟩ : MethodName) (head1 (Jvm.Cond.code (⟨"com/example/fulgur/fulgur/ShortChannelId", "<init>", "(III)V"⟩ : MethodName) prog_48_method_1_code 4 none :: ws) own_R1) (fun a U => a = #[(.ref o0), (.int p1), (.int p2), (.int p3)] ∧ Z.Warmed39 U.vm ∧ U.heap = h0) (fun _ _ _ _ _ => True) (fun _ U o U' => ∃ v L, o = .returned v ∧ Q1 Z o0 p1 p2 p3 h0 n0 v U'.heap L ∧ FrameEnd U o U' L own_R1.cells own_R1.slots) := by
  refine MetFree.of_bodySF (plainFor_of_name own_pn1) hisR ?_
  intro p e s m args below meth c s₁ Bd hml0 hP hK
  obtain ⟨ha, hZ, hh⟩ := hP
  have hx := Bd.exec
  have hby := Bd.bytes
  have hml : c.maxLocals = 4 := hml0
  have hown : s.vm.findClass "com/example/fulgur/fulgur/ShortChannelId" = some m.cls := findClass_of_methodNamed Bd.named
  have hnm := (name_of_methodNamed Bd.named Bd.method).1
  have X0 : Stand p l e own_R1 s m args below meth c s₁ [] 0 0 := Stand.of_body Bd
  have e0 : s₁.heap = h0 := by rw [← hh, Bd.state]; rfl
  have N0 := Fr.nil n0
  refine own_enter (Q := (Q1 Z o0 p1 p2 p3 h0 n0)) (g := mkF m 0 #[.val (.ref o0), .val (.int p1), .val (.int p2), .val (.int p3)] []) (by rw [ha]; exact own_ef1 m o0 p1 p2 p3) ?_
  refine own_run (g' := (mkF m 1 #[.val (.ref o0), .val (.int p1), .val (.int p2), .val (.int p3)] [(.ref o0)])) (fun _ kt => XS.aloadN X0.here hx rfl (hb hby d1_0) rfl rfl (kt)) ?_
  refine own_initO X0 hx hZ hown (hw _ (List.mem_of_getElem? (i := 8) rfl)) (hw _ (List.mem_of_getElem? (i := 9) rfl)) (hw _ (List.mem_of_getElem? (i := 10) rfl)) e0 (by rw [hml]; rfl) (hb hby d1_1) (by decide) (W := 0) (Nat.le_of_eq rfl) (by decide) ?_
  intro T1 X1 e1
  have hd8 : (XT.ushr p1 (24 : Int32)) = (0 : Int32) := c1
  have hd15 : (XT.ushr p2 (24 : Int32)) = (0 : Int32) := c2
  refine own_run (g' := (mkF m 18 #[.val (.ref o0), .val (.int p1), .val (.int p2), .val (.int p3)] [])) (fun _ kt => XS.iloadN X1.here hx rfl (hb hby d1_4) rfl (XS.bipush X1.here hx rfl (hb hby d1_5) (XS.iushr X1.here hx rfl (hb hby d1_7) rfl (XS.ifNo X1.here hx rfl (hb hby d1_8) rfl ((if0 _ _).trans (teq hd8).2) (XS.iloadN X1.here hx rfl (hb hby d1_11) rfl (XS.bipush X1.here hx rfl (hb hby d1_12) (XS.iushr X1.here hx rfl (hb hby d1_14) rfl (XS.ifNo X1.here hx rfl (hb hby d1_15) rfl ((if0 _ _).trans (teq hd15).2) (kt))))))))) ?_
  have hd22 : (XT.ushr p3 (16 : Int32)) = (0 : Int32) := c3
  refine own_run (g' := (mkF m 43 #[.val (.ref o0), .val (.int p1), .val (.int p2), .val (.int p3)] [(.int p1), (.ref o0)])) (fun _ kt => XS.iloadN X1.here hx rfl (hb hby d1_18) rfl (XS.bipush X1.here hx rfl (hb hby d1_19) (XS.iushr X1.here hx rfl (hb hby d1_21) rfl (XS.ifYes X1.here hx rfl (pc0 := 22) (pc' := 41) rfl (hb hby d1_22) rfl ((if0 _ _).trans (teq hd22).1) (by decide) (by decide) (XS.aloadN X1.here hx rfl (hb hby d1_41) rfl rfl (XS.iloadN X1.here hx rfl (hb hby d1_42) rfl (kt))))))) ?_
  refine own_putF X1 hx hZ hown (host := "") (Or.inl (hw _ (List.mem_of_getElem? (i := 11) rfl))) Via.refl e1 F0_0 K0 (Or.inr ⟨(hw _ (List.mem_of_getElem? (i := 12) rfl)), rfl, hnm⟩) (hw _ (List.mem_of_getElem? (i := 3) rfl)) (ty := .int) (by decide) rfl rfl N0 g_o0 (hb hby d1_43) ?_
  intro T2 h2 L2 X2 N2 e2 W2 F2
  replace K0 := K0.wr W2
  replace F0_1 := F0_1.other W2 (Or.inr (slot_ne (Or.inr (hw _ (List.mem_of_getElem? (i := 14) rfl))) (Or.inr (hw _ (List.mem_of_getElem? (i := 12) rfl))) (by decide) (t := .int) (t' := .int) (by decide) (by decide)))
  replace F0_2 := F0_2.other W2 (Or.inr (slot_ne (Or.inr (hw _ (List.mem_of_getElem? (i := 16) rfl))) (Or.inr (hw _ (List.mem_of_getElem? (i := 12) rfl))) (by decide) (t := .int) (t' := .int) (by decide) (by decide)))
  have KpW2 : Keep h0 h2 [o0] := Keep.wr (Keep.refl h0 [o0]) W2 (Or.inl (List.mem_of_getElem? (i := 0) rfl))
  have ZW2 : n0 ≤ h2.size := Nat.le_trans Z0 (Keep.of_wr W2).1
  refine own_run (g' := (mkF m 48 #[.val (.ref o0), .val (.int p1), .val (.int p2), .val (.int p3)] [(.int p2), (.ref o0)])) (fun _ kt => XS.aloadN X2.here hx rfl (hb hby d1_46) rfl rfl (XS.iloadN X2.here hx rfl (hb hby d1_47) rfl (kt))) ?_
  refine own_putF X2 hx hZ hown (host := "") (Or.inl (hw _ (List.mem_of_getElem? (i := 13) rfl))) Via.refl e2 F0_1 K0 (Or.inr ⟨(hw _ (List.mem_of_getElem? (i := 14) rfl)), rfl, hnm⟩) (hw _ (List.mem_of_getElem? (i := 3) rfl)) (ty := .int) (by decide) rfl rfl N2 g_o0 (hb hby d1_48) ?_
  intro T3 h3 L3 X3 N3 e3 W3 F3
  replace K0 := K0.wr W3
  replace F2 := F2.other W3 (Or.inr (slot_ne (Or.inr (hw _ (List.mem_of_getElem? (i := 12) rfl))) (Or.inr (hw _ (List.mem_of_getElem? (i := 14) rfl))) (by decide) (t := .int) (t' := .int) (by decide) (by decide)))
  replace F0_2 := F0_2.other W3 (Or.inr (slot_ne (Or.inr (hw _ (List.mem_of_getElem? (i := 16) rfl))) (Or.inr (hw _ (List.mem_of_getElem? (i := 14) rfl))) (by decide) (t := .int) (t' := .int) (by decide) (by decide)))
  have KpW3 : Keep h0 h3 [o0] := Keep.wr KpW2 W3 (Or.inl (List.mem_of_getElem? (i := 0) rfl))
  have ZW3 : n0 ≤ h3.size := Nat.le_trans ZW2 (Keep.of_wr W3).1
  refine own_run (g' := (mkF m 53 #[.val (.ref o0), .val (.int p1), .val (.int p2), .val (.int p3)] [(.int p3), (.ref o0)])) (fun _ kt => XS.aloadN X3.here hx rfl (hb hby d1_51) rfl rfl (XS.iloadN X3.here hx rfl (hb hby d1_52) rfl (kt))) ?_
  refine own_putF X3 hx hZ hown (host := "") (Or.inl (hw _ (List.mem_of_getElem? (i := 15) rfl))) Via.refl e3 F0_2 K0 (Or.inr ⟨(hw _ (List.mem_of_getElem? (i := 16) rfl)), rfl, hnm⟩) (hw _ (List.mem_of_getElem? (i := 3) rfl)) (ty := .int) (by decide) rfl rfl N3 g_o0 (hb hby d1_53) ?_
  intro T4 h4 L4 X4 N4 e4 W4 F4
  replace K0 := K0.wr W4
  replace F2 := F2.other W4 (Or.inr (slot_ne (Or.inr (hw _ (List.mem_of_getElem? (i := 12) rfl))) (Or.inr (hw _ (List.mem_of_getElem? (i := 16) rfl))) (by decide) (t := .int) (t' := .int) (by decide) (by decide)))
  replace F3 := F3.other W4 (Or.inr (slot_ne (Or.inr (hw _ (List.mem_of_getElem? (i := 14) rfl))) (Or.inr (hw _ (List.mem_of_getElem? (i := 16) rfl))) (by decide) (t := .int) (t' := .int) (by decide) (by decide)))
  have KpW4 : Keep h0 h4 [o0] := Keep.wr KpW3 W4 (Or.inl (List.mem_of_getElem? (i := 0) rfl))
  have ZW4 : n0 ≤ h4.size := Nat.le_trans ZW3 (Keep.of_wr W4).1
  exact own_retV X4 hx Bd.notSynchronized Bd.returns (hb hby d1_56) (by decide) (by decide) (by rw [e4]; exact ⟨rfl, N4, KpW4, F2, F3, F4⟩)
theorem own_pn3 : plainName "com/example/fulgur/fulgur/ShortChannelId" = true := by first | (simp [plainName, overriddenIn]; done) | decide +kernel
theorem own_ef3 (m : MethodId) (o0 : Addr) : entryFrame m #[(.ref o0)] 1 = mkF m 0 #[.val (.ref o0)] [] := by first | (simp [entryFrame, mkF, argsToLocals, Value.category]; done) | rfl
def own_R3 : Room := ({ frames := 0, cells := 0, slots := 0, locals := 0 } : Room)
def Q3 (z : Int32) (h0 : Heap) (n0 : Nat) (v : Option Value) (h : Heap) (L : List Loc) : Prop := v = some (.int z) ∧ Fr n0 L ∧ h = h0
def own_hash (y0 y1 y2 : Int32) : Int32 := ((((31 : Int32) * y0) + y1) * (31 : Int32)) + y2
theorem d3_0 : decode prog_48_method_8_code 0 = .ok (.bipush 31, 2) := by decide +kernel
theorem d3_2 : decode prog_48_method_8_code 2 = .ok (.aload_n 0, 1) := by decide +kernel
theorem d3_3 : decode prog_48_method_8_code 3 = .ok (.getfield 16, 3) := by decide +kernel
theorem d3_6 : decode prog_48_method_8_code 6 = .ok (.imul, 1) := by decide +kernel
theorem d3_7 : decode prog_48_method_8_code 7 = .ok (.aload_n 0, 1) := by decide +kernel
theorem d3_8 : decode prog_48_method_8_code 8 = .ok (.getfield 22, 3) := by decide +kernel
theorem d3_11 : decode prog_48_method_8_code 11 = .ok (.iadd, 1) := by decide +kernel
theorem d3_12 : decode prog_48_method_8_code 12 = .ok (.bipush 31, 2) := by decide +kernel
theorem d3_14 : decode prog_48_method_8_code 14 = .ok (.imul, 1) := by decide +kernel
theorem d3_15 : decode prog_48_method_8_code 15 = .ok (.aload_n 0, 1) := by decide +kernel
theorem d3_16 : decode prog_48_method_8_code 16 = .ok (.getfield 25, 3) := by decide +kernel
theorem d3_19 : decode prog_48_method_8_code 19 = .ok (.iadd, 1) := by decide +kernel
theorem d3_20 : decode prog_48_method_8_code 20 = .ok (.ireturn, 1) := by decide +kernel
set_option maxRecDepth 65536 in
set_option maxHeartbeats 40000000 in
theorem rm3 (l : Launch) (Z : State) (a0 : Array Value) (hw : ∀ d ∈ tables_1, d.before a0 Z = true) (ws : List Jvm.Cond) (o0 : Addr) (y0 y1 y2 : Int32) (h0 : Heap) (n0 : Nat) (F0_0 : Fld Z h0 o0 "com/example/fulgur/fulgur/ShortChannelId" "blockHeight" "I" (.int y0)) (F0_1 : Fld Z h0 o0 "com/example/fulgur/fulgur/ShortChannelId" "transactionIndex" "I" (.int y1)) (F0_2 : Fld Z h0 o0 "com/example/fulgur/fulgur/ShortChannelId" "outputIndex" "I" (.int y2)) :
    MetFree l (⟨"com/example/fulgur/fulgur/ShortChannelId", "hashCode", "()I"⟩ : MethodName) (head1 (Jvm.Cond.code (⟨"com/example/fulgur/fulgur/ShortChannelId", "hashCode", "()I"⟩ : MethodName) prog_48_method_8_code 1 (some .int) :: ws) own_R3) (fun a U => a = #[(.ref o0)] ∧ Z.Warmed39 U.vm ∧ U.heap = h0) (fun _ _ _ _ _ => True) (fun _ U o U' => ∃ v L, o = .returned v ∧ Q3 (own_hash y0 y1 y2) h0 n0 v U'.heap L ∧ FrameEnd U o U' L own_R3.cells own_R3.slots) := by
  refine MetFree.of_bodySF (plainFor_of_name own_pn3) hisR ?_
  intro p e s m args below meth c s₁ Bd hml0 hP hK
  obtain ⟨ha, hZ, hh⟩ := hP
  have hx := Bd.exec
  have hby := Bd.bytes
  have hml : c.maxLocals = 1 := hml0
  have hown : s.vm.findClass "com/example/fulgur/fulgur/ShortChannelId" = some m.cls := findClass_of_methodNamed Bd.named
  have hnm := (name_of_methodNamed Bd.named Bd.method).1
  have X0 : Stand p l e own_R3 s m args below meth c s₁ [] 0 0 := Stand.of_body Bd
  have e0 : s₁.heap = h0 := by rw [← hh, Bd.state]; rfl
  have N0 := Fr.nil n0
  refine own_enter (Q := (Q3 (own_hash y0 y1 y2) h0 n0)) (g := mkF m 0 #[.val (.ref o0)] []) (by rw [ha]; exact own_ef3 m o0) ?_
  refine own_run (g' := (mkF m 3 #[.val (.ref o0)] [(.ref o0), (.int (31 : Int32))])) (fun _ kt => XS.bipush X0.here hx rfl (hb hby d3_0) (XS.aloadN X0.here hx rfl (hb hby d3_2) rfl rfl (kt))) ?_
  refine own_getF X0 hx hZ hown (host := "") (Or.inl (hw _ (List.mem_of_getElem? (i := 11) rfl))) Via.refl e0 F0_0 (hb hby d3_3) ?_
  intro T1 X1 e1
  refine own_run (g' := (mkF m 8 #[.val (.ref o0)] [(.ref o0), (.int ((31 : Int32) * y0))])) (fun _ kt => XS.imul X1.here hx rfl (hb hby d3_6) rfl (XS.aloadN X1.here hx rfl (hb hby d3_7) rfl rfl (kt))) ?_
  refine own_getF X1 hx hZ hown (host := "") (Or.inl (hw _ (List.mem_of_getElem? (i := 13) rfl))) Via.refl e1 F0_1 (hb hby d3_8) ?_
  intro T2 X2 e2
  refine own_run (g' := (mkF m 16 #[.val (.ref o0)] [(.ref o0), (.int ((((31 : Int32) * y0) + y1) * (31 : Int32)))])) (fun _ kt => XS.iadd X2.here hx rfl (hb hby d3_11) rfl (XS.bipush X2.here hx rfl (hb hby d3_12) (XS.imul X2.here hx rfl (hb hby d3_14) rfl (XS.aloadN X2.here hx rfl (hb hby d3_15) rfl rfl (kt))))) ?_
  refine own_getF X2 hx hZ hown (host := "") (Or.inl (hw _ (List.mem_of_getElem? (i := 15) rfl))) Via.refl e2 F0_2 (hb hby d3_16) ?_
  intro T3 X3 e3
  refine own_run (g' := (mkF m 20 #[.val (.ref o0)] [(.int (((((31 : Int32) * y0) + y1) * (31 : Int32)) + y2))])) (fun _ kt => XS.iadd X3.here hx rfl (hb hby d3_19) rfl (kt)) ?_
  exact own_retI X3 hx Bd.notSynchronized Bd.returns (hb hby d3_20) (by decide) (by decide) ⟨rfl, N0, e3⟩
theorem own_ushr_nat (x y : Int32) {k : Nat} (hk : ((y &&& 31).toUInt32).toNat = k) (h : k < 32) : (XT.ushr x y).toBitVec.toNat = x.toBitVec.toNat / 2 ^ k := by
  have e : (XT.ushr x y).toBitVec = x.toBitVec >>> ((y &&& 31).toUInt32 % 32).toBitVec := rfl
  have e2 : ((y &&& 31).toUInt32 % 32).toBitVec.toNat = k := by
    show ((y &&& 31).toUInt32 % 32).toNat = k
    rw [UInt32.toNat_mod, hk]; exact Nat.mod_eq_of_lt h
  rw [e, BitVec.ushiftRight_eq', BitVec.toNat_ushiftRight, Nat.shiftRight_eq_div_pow, e2]
theorem own_and_nat (x m : Int32) {k : Nat} (hm : m.toBitVec.toNat = 2 ^ k - 1) : (x &&& m).toBitVec.toNat = x.toBitVec.toNat % 2 ^ k := by
  have e : (x &&& m).toBitVec = x.toBitVec &&& m.toBitVec := rfl
  rw [e, BitVec.toNat_and, hm, Nat.and_two_pow_sub_one_eq_mod]
theorem own_nat_inj {x y : Int32} (h : x.toBitVec.toNat = y.toBitVec.toNat) : x = y := Int32.toBitVec_inj.mp (BitVec.eq_of_toNat_eq h)

theorem own_m24 (x : Int32) : XT.ushr (x &&& (16777215 : Int32)) (24 : Int32) = (0 : Int32) := own_nat_inj (by
  rw [own_ushr_nat _ _ (k := 24) (by decide) (by decide), own_and_nat x _ (k := 24) (by decide)]
  have e : (0 : Int32).toBitVec.toNat = 0 := rfl
  rw [e]; omega)
theorem own_m16 (x : Int32) : XT.ushr (x &&& (65535 : Int32)) (16 : Int32) = (0 : Int32) := own_nat_inj (by
  rw [own_ushr_nat _ _ (k := 16) (by decide) (by decide), own_and_nat x _ (k := 16) (by decide)]
  have e : (0 : Int32).toBitVec.toNat = 0 := rfl
  rw [e]; omega)
theorem own_s16 (x : Int32) : XT.ushr (XT.ushr x (16 : Int32)) (16 : Int32) = (0 : Int32) := own_nat_inj (by
  rw [own_ushr_nat _ _ (k := 16) (by decide) (by decide), own_ushr_nat _ _ (k := 16) (by decide) (by decide)]
  have e : (0 : Int32).toBitVec.toNat = 0 := rfl
  have := x.toBitVec.isLt
  rw [e]; omega)
theorem own_pn0 : plainName "com/example/fulgur/fulgur/ShortChannelIdHashCodePinLaw" = true := by first | (simp [plainName, overriddenIn]; done) | decide +kernel
theorem own_ef0 (m : MethodId) (p0 : Int32) (p1 : Int32) (p2 : Int32) (p3 : Int32) (p4 : Int32) (p5 : Int32) : entryFrame m #[(.int p0), (.int p1), (.int p2), (.int p3), (.int p4), (.int p5)] maxLocals = mkF m 0 #[.val (.int p0), .val (.int p1), .val (.int p2), .val (.int p3), .val (.int p4), .val (.int p5), .unset, .unset, .unset, .unset, .unset, .unset, .unset, .unset, .unset, .unset, .unset, .unset] [] := by first | (simp [entryFrame, mkF, argsToLocals, Value.category, maxLocals]; done) | rfl
def Q0 (h0 : Heap) (n0 : Nat) (v : Option Value) (h : Heap) (L : List Loc) : Prop := v = some (.int 1) ∧ Fr n0 L
theorem own_pd0 : parseMethodDescriptor "(III)V" = some ⟨[.int, .int, .int], none⟩ := by decide +kernel
theorem own_pd1 : parseMethodDescriptor "()I" = some ⟨[], some .int⟩ := by decide +kernel
set_option maxRecDepth 65536 in
set_option maxHeartbeats 40000000 in
theorem rm0 (l : Launch) (Z : State) (a0 : Array Value) (hw : ∀ d ∈ tables_1, d.before a0 Z = true) (ws : List Jvm.Cond) (p0 : Int32) (p1 : Int32) (p2 : Int32) (p3 : Int32) (p4 : Int32) (p5 : Int32) (h0 : Heap) (n0 : Nat) (Z0 : n0 ≤ h0.size) :
    MetFree l x (head1 (Jvm.Cond.code x code maxLocals ret :: ws) room_1) (fun a U => a = #[(.int p0), (.int p1), (.int p2), (.int p3), (.int p4), (.int p5)] ∧ Z.Warmed39 U.vm ∧ U.heap = h0) (fun _ _ _ _ _ => True) (fun _ U o U' => ∃ v L, o = .returned v ∧ Q0 h0 n0 v U'.heap L ∧ FrameEnd U o U' L room_1.cells room_1.slots) := by
  refine MetFree.of_bodySF (plainFor_of_name own_pn0) hisR ?_
  intro p e s m args below meth c s₁ Bd hml0 hP hK
  obtain ⟨ha, hZ, hh⟩ := hP
  have hx := Bd.exec
  have hby := Bd.bytes
  have hml : c.maxLocals = 18 := hml0
  have hown : s.vm.findClass "com/example/fulgur/fulgur/ShortChannelIdHashCodePinLaw" = some m.cls := findClass_of_methodNamed Bd.named
  have hnm := (name_of_methodNamed Bd.named Bd.method).1
  have X0 : Stand p l e room_1 s m args below meth c s₁ [] 0 0 := Stand.of_body Bd
  have e0 : s₁.heap = h0 := by rw [← hh, Bd.state]; rfl
  have N0 := Fr.nil n0
  refine own_enter (Q := (Q0 h0 n0)) (g := mkF m 0 #[.val (.int p0), .val (.int p1), .val (.int p2), .val (.int p3), .val (.int p4), .val (.int p5), .unset, .unset, .unset, .unset, .unset, .unset, .unset, .unset, .unset, .unset, .unset, .unset] []) (by rw [ha]; exact own_ef0 m p0 p1 p2 p3 p4 p5) ?_
  refine own_run (g' := (mkF m 1 #[.val (.int p0), .val (.int p1), .val (.int p2), .val (.int p3), .val (.int p4), .val (.int p5), .unset, .unset, .unset, .unset, .unset, .unset, .unset, .unset, .unset, .unset, .unset, .unset] [(.int p0)])) (fun _ kt => XS.iloadN X0.here hx rfl (hb hby at_0) rfl (kt)) ?_
  refine own_ldcI X0 hx hZ hown (hw _ (List.mem_of_getElem? (i := 0) rfl)) (hb hby at_1) ?_
  refine own_run (g' := (mkF m 6 #[.val (.int p0), .val (.int p1), .val (.int p2), .val (.int p3), .val (.int p4), .val (.int p5), .val (.int (p0 &&& (16777215 : Int32))), .unset, .unset, .unset, .unset, .unset, .unset, .unset, .unset, .unset, .unset, .unset] [])) (fun _ kt => XS.iand X0.here hx rfl (hb hby at_3) rfl (XS.istore X0.here hx rfl (hb hby at_4) rfl (l' := #[.val (.int p0), .val (.int p1), .val (.int p2), .val (.int p3), .val (.int p4), .val (.int p5), .val (.int (p0 &&& (16777215 : Int32))), .unset, .unset, .unset, .unset, .unset, .unset, .unset, .unset, .unset, .unset, .unset]) rfl (kt))) ?_
  obtain ⟨v4, hv4⟩ : ∃ z : Int32, z = (p0 &&& (16777215 : Int32)) := ⟨_, rfl⟩
  rw [← hv4]
  refine own_run (g' := (mkF m 7 #[.val (.int p0), .val (.int p1), .val (.int p2), .val (.int p3), .val (.int p4), .val (.int p5), .val (.int v4), .unset, .unset, .unset, .unset, .unset, .unset, .unset, .unset, .unset, .unset, .unset] [(.int p1)])) (fun _ kt => XS.iloadN X0.here hx rfl (hb hby at_6) rfl (kt)) ?_
  refine own_ldcI X0 hx hZ hown (hw _ (List.mem_of_getElem? (i := 0) rfl)) (hb hby at_7) ?_
  refine own_run (g' := (mkF m 12 #[.val (.int p0), .val (.int p1), .val (.int p2), .val (.int p3), .val (.int p4), .val (.int p5), .val (.int v4), .val (.int (p1 &&& (16777215 : Int32))), .unset, .unset, .unset, .unset, .unset, .unset, .unset, .unset, .unset, .unset] [])) (fun _ kt => XS.iand X0.here hx rfl (hb hby at_9) rfl (XS.istore X0.here hx rfl (hb hby at_10) rfl (l' := #[.val (.int p0), .val (.int p1), .val (.int p2), .val (.int p3), .val (.int p4), .val (.int p5), .val (.int v4), .val (.int (p1 &&& (16777215 : Int32))), .unset, .unset, .unset, .unset, .unset, .unset, .unset, .unset, .unset, .unset]) rfl (kt))) ?_
  obtain ⟨v10, hv10⟩ : ∃ z : Int32, z = (p1 &&& (16777215 : Int32)) := ⟨_, rfl⟩
  rw [← hv10]
  refine own_run (g' := (mkF m 13 #[.val (.int p0), .val (.int p1), .val (.int p2), .val (.int p3), .val (.int p4), .val (.int p5), .val (.int v4), .val (.int v10), .unset, .unset, .unset, .unset, .unset, .unset, .unset, .unset, .unset, .unset] [(.int p2)])) (fun _ kt => XS.iloadN X0.here hx rfl (hb hby at_12) rfl (kt)) ?_
  refine own_ldcI X0 hx hZ hown (hw _ (List.mem_of_getElem? (i := 1) rfl)) (hb hby at_13) ?_
  refine own_run (g' := (mkF m 18 #[.val (.int p0), .val (.int p1), .val (.int p2), .val (.int p3), .val (.int p4), .val (.int p5), .val (.int v4), .val (.int v10), .val (.int (p2 &&& (65535 : Int32))), .unset, .unset, .unset, .unset, .unset, .unset, .unset, .unset, .unset] [])) (fun _ kt => XS.iand X0.here hx rfl (hb hby at_15) rfl (XS.istore X0.here hx rfl (hb hby at_16) rfl (l' := #[.val (.int p0), .val (.int p1), .val (.int p2), .val (.int p3), .val (.int p4), .val (.int p5), .val (.int v4), .val (.int v10), .val (.int (p2 &&& (65535 : Int32))), .unset, .unset, .unset, .unset, .unset, .unset, .unset, .unset, .unset]) rfl (kt))) ?_
  obtain ⟨v16, hv16⟩ : ∃ z : Int32, z = (p2 &&& (65535 : Int32)) := ⟨_, rfl⟩
  rw [← hv16]
  refine own_run (g' := (mkF m 22 #[.val (.int p0), .val (.int p1), .val (.int p2), .val (.int p3), .val (.int p4), .val (.int p5), .val (.int v4), .val (.int v10), .val (.int v16), .unset, .unset, .unset, .unset, .unset, .unset, .unset, .unset, .unset] [(.int (p5 &&& (1 : Int32)))])) (fun _ kt => XS.iload X0.here hx rfl (hb hby at_18) rfl (XS.iconst X0.here hx rfl (hb hby at_20) (XS.iand X0.here hx rfl (hb hby at_21) rfl (kt)))) ?_
  have J1 : ∀ (v1_s0 : Int32), v1_s0 = (if (p5 &&& (1 : Int32)) = (0 : Int32) then (p3 &&& (16777215 : Int32)) else v4) →  own_Run p e below s room_1.cells room_1.slots (Q0 h0 n0) s₁ (mkF m 34 #[.val (.int p0), .val (.int p1), .val (.int p2), .val (.int p3), .val (.int p4), .val (.int p5), .val (.int v4), .val (.int v10), .val (.int v16), .unset, .unset, .unset, .unset, .unset, .unset, .unset, .unset, .unset] [(.int v1_s0)]) := by
    intro v1_s0 hv1_s0
    refine own_run (g' := (mkF m 40 #[.val (.int p0), .val (.int p1), .val (.int p2), .val (.int p3), .val (.int p4), .val (.int p5), .val (.int v4), .val (.int v10), .val (.int v16), .val (.int v1_s0), .unset, .unset, .unset, .unset, .unset, .unset, .unset, .unset] [(.int (p5 &&& (2 : Int32)))])) (fun _ kt => XS.istore X0.here hx rfl (hb hby at_34) rfl (l' := #[.val (.int p0), .val (.int p1), .val (.int p2), .val (.int p3), .val (.int p4), .val (.int p5), .val (.int v4), .val (.int v10), .val (.int v16), .val (.int v1_s0), .unset, .unset, .unset, .unset, .unset, .unset, .unset, .unset]) rfl (XS.iload X0.here hx rfl (hb hby at_36) rfl (XS.iconst X0.here hx rfl (hb hby at_38) (XS.iand X0.here hx rfl (hb hby at_39) rfl (kt))))) ?_
    have J2 : ∀ (v2_s0 : Int32), v2_s0 = (if (p5 &&& (2 : Int32)) = (0 : Int32) then (p4 &&& (16777215 : Int32)) else v10) →  own_Run p e below s room_1.cells room_1.slots (Q0 h0 n0) s₁ (mkF m 53 #[.val (.int p0), .val (.int p1), .val (.int p2), .val (.int p3), .val (.int p4), .val (.int p5), .val (.int v4), .val (.int v10), .val (.int v16), .val (.int v1_s0), .unset, .unset, .unset, .unset, .unset, .unset, .unset, .unset] [(.int v2_s0)]) := by
      intro v2_s0 hv2_s0
      refine own_run (g' := (mkF m 59 #[.val (.int p0), .val (.int p1), .val (.int p2), .val (.int p3), .val (.int p4), .val (.int p5), .val (.int v4), .val (.int v10), .val (.int v16), .val (.int v1_s0), .val (.int v2_s0), .unset, .unset, .unset, .unset, .unset, .unset, .unset] [(.int (p5 &&& (4 : Int32)))])) (fun _ kt => XS.istore X0.here hx rfl (hb hby at_53) rfl (l' := #[.val (.int p0), .val (.int p1), .val (.int p2), .val (.int p3), .val (.int p4), .val (.int p5), .val (.int v4), .val (.int v10), .val (.int v16), .val (.int v1_s0), .val (.int v2_s0), .unset, .unset, .unset, .unset, .unset, .unset, .unset]) rfl (XS.iload X0.here hx rfl (hb hby at_55) rfl (XS.iconst X0.here hx rfl (hb hby at_57) (XS.iand X0.here hx rfl (hb hby at_58) rfl (kt))))) ?_
      have J3 : ∀ (v3_s0 : Int32), v3_s0 = (if (p5 &&& (4 : Int32)) = (0 : Int32) then (XT.ushr (p3 ^^^ p4) (16 : Int32)) else v16) →  own_Run p e below s room_1.cells room_1.slots (Q0 h0 n0) s₁ (mkF m 74 #[.val (.int p0), .val (.int p1), .val (.int p2), .val (.int p3), .val (.int p4), .val (.int p5), .val (.int v4), .val (.int v10), .val (.int v16), .val (.int v1_s0), .val (.int v2_s0), .unset, .unset, .unset, .unset, .unset, .unset, .unset] [(.int v3_s0)]) := by
        intro v3_s0 hv3_s0
        refine own_run (g' := (mkF m 76 #[.val (.int p0), .val (.int p1), .val (.int p2), .val (.int p3), .val (.int p4), .val (.int p5), .val (.int v4), .val (.int v10), .val (.int v16), .val (.int v1_s0), .val (.int v2_s0), .val (.int v3_s0), .unset, .unset, .unset, .unset, .unset, .unset] [])) (fun _ kt => XS.istore X0.here hx rfl (hb hby at_74) rfl (l' := #[.val (.int p0), .val (.int p1), .val (.int p2), .val (.int p3), .val (.int p4), .val (.int p5), .val (.int v4), .val (.int v10), .val (.int v16), .val (.int v1_s0), .val (.int v2_s0), .val (.int v3_s0), .unset, .unset, .unset, .unset, .unset, .unset]) rfl (kt)) ?_
        refine own_new X0 hx hZ hown (hw _ (List.mem_of_getElem? (i := 2) rfl)) (hw _ (List.mem_of_getElem? (i := 3) rfl)) (hw _ (List.mem_of_getElem? (i := 4) rfl)) e0 (hb hby at_76) (by decide) (by decide) ?_
        intro T4 h4 b4 qq4 X4 e4 E4 K4 D4
        have g_b4 : n0 ≤ b4 := by rw [qq4]; exact Z0
        have Z4 : n0 ≤ h4.size := Nat.le_trans Z0 E4.1
        have F4_blockHeight : Fld Z h4 b4 "com/example/fulgur/fulgur/ShortChannelId" "blockHeight" "I" (.int (0 : Int32)) := D4 (Or.inr (hw _ (List.mem_of_getElem? (i := 12) rfl))) (ty := .int) (by decide)
        have F4_transactionIndex : Fld Z h4 b4 "com/example/fulgur/fulgur/ShortChannelId" "transactionIndex" "I" (.int (0 : Int32)) := D4 (Or.inr (hw _ (List.mem_of_getElem? (i := 14) rfl))) (ty := .int) (by decide)
        have F4_outputIndex : Fld Z h4 b4 "com/example/fulgur/fulgur/ShortChannelId" "outputIndex" "I" (.int (0 : Int32)) := D4 (Or.inr (hw _ (List.mem_of_getElem? (i := 16) rfl))) (ty := .int) (by decide)
        refine own_run (g' := (mkF m 86 #[.val (.int p0), .val (.int p1), .val (.int p2), .val (.int p3), .val (.int p4), .val (.int p5), .val (.int v4), .val (.int v10), .val (.int v16), .val (.int v1_s0), .val (.int v2_s0), .val (.int v3_s0), .unset, .unset, .unset, .unset, .unset, .unset] [(.int v16), (.int v10), (.int v4), (.ref b4), (.ref b4)])) (fun _ kt => XS.dup X4.here hx rfl (hb hby at_79) rfl rfl (XS.iload X4.here hx rfl (hb hby at_80) rfl (XS.iload X4.here hx rfl (hb hby at_82) rfl (XS.iload X4.here hx rfl (hb hby at_84) rfl (kt))))) ?_
        have own_c1 : XT.ushr v4 (24 : Int32) = (0 : Int32) := by rw [hv4]; exact own_m24 _
        have own_c2 : XT.ushr v10 (24 : Int32) = (0 : Int32) := by rw [hv10]; exact own_m24 _
        have own_c3 : XT.ushr v16 (16 : Int32) = (0 : Int32) := by rw [hv16]; exact own_m16 _
        refine own_callI (b := b4) X4 hx hZ hown rfl (hw _ (List.mem_of_getElem? (i := 5) rfl)) (hw _ (List.mem_of_getElem? (i := 6) rfl)) (hw _ (List.mem_of_getElem? (i := 4) rfl)) (hw _ (List.mem_of_getElem? (i := 7) rfl)) (by decide) (rm1 l Z a0 hw [] b4 v4 v10 v16 h4 n0 Z4 K4 F4_blockHeight F4_transactionIndex F4_outputIndex g_b4 own_c1 own_c2 own_c3) e4 (by decide) (by decide) (by decide) (by decide) (by rw [hml]; rfl) (argsL := [(.int v4), (.int v10), (.int v16)]) (rest := [(.ref b4)]) (lenOf own_pd0 rfl) rfl (W := 1) (Nat.le_of_eq rfl) (hb hby at_86) ?_
        intro T5 r5 L5 X5 hQ5
        obtain ⟨rfl, Nq5, Kc5, F5_0, F5_1, F5_2⟩ := hQ5
        have N5 := Fr.app N0 Nq5
        replace K4 := K4.keep Kc5
        have Z5 : n0 ≤ T5.heap.size := Nat.le_trans Z4 Kc5.1
        refine own_run (g' := (mkF m 91 #[.val (.int p0), .val (.int p1), .val (.int p2), .val (.int p3), .val (.int p4), .val (.int p5), .val (.int v4), .val (.int v10), .val (.int v16), .val (.int v1_s0), .val (.int v2_s0), .val (.int v3_s0), .val (.ref b4), .unset, .unset, .unset, .unset, .unset] [])) (fun _ kt => XS.astore X5.here hx rfl (hb hby at_89) rfl rfl (l' := #[.val (.int p0), .val (.int p1), .val (.int p2), .val (.int p3), .val (.int p4), .val (.int p5), .val (.int v4), .val (.int v10), .val (.int v16), .val (.int v1_s0), .val (.int v2_s0), .val (.int v3_s0), .val (.ref b4), .unset, .unset, .unset, .unset, .unset]) rfl (kt)) ?_
        refine own_new X5 hx hZ hown (hw _ (List.mem_of_getElem? (i := 2) rfl)) (hw _ (List.mem_of_getElem? (i := 3) rfl)) (hw _ (List.mem_of_getElem? (i := 4) rfl)) rfl (hb hby at_91) (by decide) (by decide) ?_
        intro T6 h6 b6 qq6 X6 e6 E6 K6 D6
        have ne_b4_b6 : b4 ≠ b6 := Nat.ne_of_lt (by rw [qq6]; exact K4.lt)
        replace K4 := K4.ext E6
        replace F5_0 := F5_0.ext E6
        replace F5_1 := F5_1.ext E6
        replace F5_2 := F5_2.ext E6
        have g_b6 : n0 ≤ b6 := by rw [qq6]; exact Z5
        have Z6 : n0 ≤ h6.size := Nat.le_trans Z5 E6.1
        have F6_blockHeight : Fld Z h6 b6 "com/example/fulgur/fulgur/ShortChannelId" "blockHeight" "I" (.int (0 : Int32)) := D6 (Or.inr (hw _ (List.mem_of_getElem? (i := 12) rfl))) (ty := .int) (by decide)
        have F6_transactionIndex : Fld Z h6 b6 "com/example/fulgur/fulgur/ShortChannelId" "transactionIndex" "I" (.int (0 : Int32)) := D6 (Or.inr (hw _ (List.mem_of_getElem? (i := 14) rfl))) (ty := .int) (by decide)
        have F6_outputIndex : Fld Z h6 b6 "com/example/fulgur/fulgur/ShortChannelId" "outputIndex" "I" (.int (0 : Int32)) := D6 (Or.inr (hw _ (List.mem_of_getElem? (i := 16) rfl))) (ty := .int) (by decide)
        refine own_run (g' := (mkF m 101 #[.val (.int p0), .val (.int p1), .val (.int p2), .val (.int p3), .val (.int p4), .val (.int p5), .val (.int v4), .val (.int v10), .val (.int v16), .val (.int v1_s0), .val (.int v2_s0), .val (.int v3_s0), .val (.ref b4), .unset, .unset, .unset, .unset, .unset] [(.int v3_s0), (.int v2_s0), (.int v1_s0), (.ref b6), (.ref b6)])) (fun _ kt => XS.dup X6.here hx rfl (hb hby at_94) rfl rfl (XS.iload X6.here hx rfl (hb hby at_95) rfl (XS.iload X6.here hx rfl (hb hby at_97) rfl (XS.iload X6.here hx rfl (hb hby at_99) rfl (kt))))) ?_
        have own_d1 : XT.ushr v1_s0 (24 : Int32) = (0 : Int32) := by rw [hv1_s0]; split; exact own_m24 _; first | exact own_c1 | assumption
        have own_d2 : XT.ushr v2_s0 (24 : Int32) = (0 : Int32) := by rw [hv2_s0]; split; exact own_m24 _; first | exact own_c2 | assumption
        have own_d3 : XT.ushr v3_s0 (16 : Int32) = (0 : Int32) := by rw [hv3_s0]; split; exact own_s16 _; first | exact own_c3 | assumption
        refine own_callI (b := b6) X6 hx hZ hown rfl (hw _ (List.mem_of_getElem? (i := 5) rfl)) (hw _ (List.mem_of_getElem? (i := 6) rfl)) (hw _ (List.mem_of_getElem? (i := 4) rfl)) (hw _ (List.mem_of_getElem? (i := 7) rfl)) (by decide) (rm1 l Z a0 hw [] b6 v1_s0 v2_s0 v3_s0 h6 n0 Z6 K6 F6_blockHeight F6_transactionIndex F6_outputIndex g_b6 own_d1 own_d2 own_d3) e6 (by decide) (by decide) (by decide) (by decide) (by rw [hml]; rfl) (argsL := [(.int v1_s0), (.int v2_s0), (.int v3_s0)]) (rest := [(.ref b6)]) (lenOf own_pd0 rfl) rfl (W := 1) (Nat.le_of_eq rfl) (hb hby at_101) ?_
        intro T7 r7 L7 X7 hQ7
        obtain ⟨rfl, Nq7, Kc7, F7_0, F7_1, F7_2⟩ := hQ7
        have N7 := Fr.app N5 Nq7
        replace K4 := K4.keep Kc7
        replace F5_0 := F5_0.keep Kc7 (ninS ne_b4_b6 nin0)
        replace F5_1 := F5_1.keep Kc7 (ninS ne_b4_b6 nin0)
        replace F5_2 := F5_2.keep Kc7 (ninS ne_b4_b6 nin0)
        replace K6 := K6.keep Kc7
        have Z7 : n0 ≤ T7.heap.size := Nat.le_trans Z6 Kc7.1
        refine own_run (g' := (mkF m 108 #[.val (.int p0), .val (.int p1), .val (.int p2), .val (.int p3), .val (.int p4), .val (.int p5), .val (.int v4), .val (.int v10), .val (.int v16), .val (.int v1_s0), .val (.int v2_s0), .val (.int v3_s0), .val (.ref b4), .val (.ref b6), .unset, .unset, .unset, .unset] [(.ref b4)])) (fun _ kt => XS.astore X7.here hx rfl (hb hby at_104) rfl rfl (l' := #[.val (.int p0), .val (.int p1), .val (.int p2), .val (.int p3), .val (.int p4), .val (.int p5), .val (.int v4), .val (.int v10), .val (.int v16), .val (.int v1_s0), .val (.int v2_s0), .val (.int v3_s0), .val (.ref b4), .val (.ref b6), .unset, .unset, .unset, .unset]) rfl (XS.aload X7.here hx rfl (hb hby at_106) rfl rfl (kt))) ?_
        refine own_callV (b := b4) X7 hx hZ hown (hw _ (List.mem_of_getElem? (i := 17) rfl)) (hw _ (List.mem_of_getElem? (i := 18) rfl)) (hw _ (List.mem_of_getElem? (i := 20) rfl)) (hw _ (List.mem_of_getElem? (i := 19) rfl)) (hw _ (List.mem_of_getElem? (i := 4) rfl)) (hw _ (List.mem_of_getElem? (i := 21) rfl)) (by decide) K4 (rm3 l Z a0 hw [] b4 v4 v10 v16 T7.heap n0 F5_0 F5_1 F5_2) rfl (by decide) (by decide) (by decide) (by decide) (by rw [hml]; rfl) (argsL := []) (rest := []) (lenOf own_pd1 rfl) rfl (W := 0) (Nat.le_of_eq rfl) (hb hby at_108) ?_
        intro T8 r8 L8 X8 hQ8
        obtain ⟨rfl, Nq8, e8⟩ := hQ8
        have N8 := Fr.app N7 Nq8
        refine own_run (g' := (mkF m 113 #[.val (.int p0), .val (.int p1), .val (.int p2), .val (.int p3), .val (.int p4), .val (.int p5), .val (.int v4), .val (.int v10), .val (.int v16), .val (.int v1_s0), .val (.int v2_s0), .val (.int v3_s0), .val (.ref b4), .val (.ref b6), .val (.int (own_hash v4 v10 v16)), .unset, .unset, .unset] [])) (fun _ kt => XS.istore X8.here hx rfl (hb hby at_111) rfl (l' := #[.val (.int p0), .val (.int p1), .val (.int p2), .val (.int p3), .val (.int p4), .val (.int p5), .val (.int v4), .val (.int v10), .val (.int v16), .val (.int v1_s0), .val (.int v2_s0), .val (.int v3_s0), .val (.ref b4), .val (.ref b6), .val (.int (own_hash v4 v10 v16)), .unset, .unset, .unset]) rfl (kt)) ?_
        obtain ⟨v111, hv111⟩ : ∃ z : Int32, z = (own_hash v4 v10 v16) := ⟨_, rfl⟩
        rw [← hv111]
        refine own_run (g' := (mkF m 115 #[.val (.int p0), .val (.int p1), .val (.int p2), .val (.int p3), .val (.int p4), .val (.int p5), .val (.int v4), .val (.int v10), .val (.int v16), .val (.int v1_s0), .val (.int v2_s0), .val (.int v3_s0), .val (.ref b4), .val (.ref b6), .val (.int v111), .unset, .unset, .unset] [(.ref b6)])) (fun _ kt => XS.aload X8.here hx rfl (hb hby at_113) rfl rfl (kt)) ?_
        refine own_callV (b := b6) X8 hx hZ hown (hw _ (List.mem_of_getElem? (i := 17) rfl)) (hw _ (List.mem_of_getElem? (i := 18) rfl)) (hw _ (List.mem_of_getElem? (i := 20) rfl)) (hw _ (List.mem_of_getElem? (i := 19) rfl)) (hw _ (List.mem_of_getElem? (i := 4) rfl)) (hw _ (List.mem_of_getElem? (i := 21) rfl)) (by decide) K6 (rm3 l Z a0 hw [] b6 v1_s0 v2_s0 v3_s0 T7.heap n0 F7_0 F7_1 F7_2) e8 (by decide) (by decide) (by decide) (by decide) (by rw [hml]; rfl) (argsL := []) (rest := []) (lenOf own_pd1 rfl) rfl (W := 0) (Nat.le_of_eq rfl) (hb hby at_115) ?_
        intro T9 r9 L9 X9 hQ9
        obtain ⟨rfl, Nq9, e9⟩ := hQ9
        have N9 := Fr.app N8 Nq9
        refine own_run (g' := (mkF m 120 #[.val (.int p0), .val (.int p1), .val (.int p2), .val (.int p3), .val (.int p4), .val (.int p5), .val (.int v4), .val (.int v10), .val (.int v16), .val (.int v1_s0), .val (.int v2_s0), .val (.int v3_s0), .val (.ref b4), .val (.ref b6), .val (.int v111), .val (.int (own_hash v1_s0 v2_s0 v3_s0)), .unset, .unset] [])) (fun _ kt => XS.istore X9.here hx rfl (hb hby at_118) rfl (l' := #[.val (.int p0), .val (.int p1), .val (.int p2), .val (.int p3), .val (.int p4), .val (.int p5), .val (.int v4), .val (.int v10), .val (.int v16), .val (.int v1_s0), .val (.int v2_s0), .val (.int v3_s0), .val (.ref b4), .val (.ref b6), .val (.int v111), .val (.int (own_hash v1_s0 v2_s0 v3_s0)), .unset, .unset]) rfl (kt)) ?_
        obtain ⟨v118, hv118⟩ : ∃ z : Int32, z = (own_hash v1_s0 v2_s0 v3_s0) := ⟨_, rfl⟩
        rw [← hv118]
        refine own_run (g' := (mkF m 122 #[.val (.int p0), .val (.int p1), .val (.int p2), .val (.int p3), .val (.int p4), .val (.int p5), .val (.int v4), .val (.int v10), .val (.int v16), .val (.int v1_s0), .val (.int v2_s0), .val (.int v3_s0), .val (.ref b4), .val (.ref b6), .val (.int v111), .val (.int v118), .unset, .unset] [(.ref b4)])) (fun _ kt => XS.aload X9.here hx rfl (hb hby at_120) rfl rfl (kt)) ?_
        refine own_callV (b := b4) X9 hx hZ hown (hw _ (List.mem_of_getElem? (i := 17) rfl)) (hw _ (List.mem_of_getElem? (i := 18) rfl)) (hw _ (List.mem_of_getElem? (i := 20) rfl)) (hw _ (List.mem_of_getElem? (i := 19) rfl)) (hw _ (List.mem_of_getElem? (i := 4) rfl)) (hw _ (List.mem_of_getElem? (i := 21) rfl)) (by decide) K4 (rm3 l Z a0 hw [] b4 v4 v10 v16 T7.heap n0 F5_0 F5_1 F5_2) e9 (by decide) (by decide) (by decide) (by decide) (by rw [hml]; rfl) (argsL := []) (rest := []) (lenOf own_pd1 rfl) rfl (W := 0) (Nat.le_of_eq rfl) (hb hby at_122) ?_
        intro T10 r10 L10 X10 hQ10
        obtain ⟨rfl, Nq10, e10⟩ := hQ10
        have N10 := Fr.app N9 Nq10
        have hd127 : (own_hash v4 v10 v16) = v111 := hv111.symm
        refine own_run (g' := (mkF m 141 #[.val (.int p0), .val (.int p1), .val (.int p2), .val (.int p3), .val (.int p4), .val (.int p5), .val (.int v4), .val (.int v10), .val (.int v16), .val (.int v1_s0), .val (.int v2_s0), .val (.int v3_s0), .val (.ref b4), .val (.ref b6), .val (.int v111), .val (.int v118), .val (.int (1 : Int32)), .unset] [(.int v1_s0), (.int v4)])) (fun _ kt => XS.iload X10.here hx rfl (hb hby at_125) rfl (XS.icmpNo X10.here hx rfl (hb hby at_127) rfl ((teq hd127).2) (XS.iconst X10.here hx rfl (hb hby at_130) (XS.goto X10.here hx rfl (pc0 := 131) (pc' := 135) rfl (hb hby at_131) (by decide) (by decide) (XS.istore X10.here hx rfl (hb hby at_135) rfl (l' := #[.val (.int p0), .val (.int p1), .val (.int p2), .val (.int p3), .val (.int p4), .val (.int p5), .val (.int v4), .val (.int v10), .val (.int v16), .val (.int v1_s0), .val (.int v2_s0), .val (.int v3_s0), .val (.ref b4), .val (.ref b6), .val (.int v111), .val (.int v118), .val (.int (1 : Int32)), .unset]) rfl (XS.iload X10.here hx rfl (hb hby at_137) rfl (XS.iload X10.here hx rfl (hb hby at_139) rfl (kt)))))))) ?_
        have J11 : ∀ (v11_s0 : Int32), v11_s0 = (if v4 = v1_s0 then (if v10 = v2_s0 then (if v16 = v3_s0 then (1 : Int32) else (0 : Int32)) else (0 : Int32)) else (0 : Int32)) →  own_Run p e below s room_1.cells room_1.slots (Q0 h0 n0) T10 (mkF m 163 #[.val (.int p0), .val (.int p1), .val (.int p2), .val (.int p3), .val (.int p4), .val (.int p5), .val (.int v4), .val (.int v10), .val (.int v16), .val (.int v1_s0), .val (.int v2_s0), .val (.int v3_s0), .val (.ref b4), .val (.ref b6), .val (.int v111), .val (.int v118), .val (.int (1 : Int32)), .unset] [(.int v11_s0)]) := by
          intro v11_s0 hv11_s0
          have hd167 : ¬ ((1 : Int32) = (0 : Int32)) := by decide
          refine own_run (g' := (mkF m 172 #[.val (.int p0), .val (.int p1), .val (.int p2), .val (.int p3), .val (.int p4), .val (.int p5), .val (.int v4), .val (.int v10), .val (.int v16), .val (.int v1_s0), .val (.int v2_s0), .val (.int v3_s0), .val (.ref b4), .val (.ref b6), .val (.int v111), .val (.int v118), .val (.int (1 : Int32)), .val (.int v11_s0)] [(.int v11_s0)])) (fun _ kt => XS.istore X10.here hx rfl (hb hby at_163) rfl (l' := #[.val (.int p0), .val (.int p1), .val (.int p2), .val (.int p3), .val (.int p4), .val (.int p5), .val (.int v4), .val (.int v10), .val (.int v16), .val (.int v1_s0), .val (.int v2_s0), .val (.int v3_s0), .val (.ref b4), .val (.ref b6), .val (.int v111), .val (.int v118), .val (.int (1 : Int32)), .val (.int v11_s0)]) rfl (XS.iload X10.here hx rfl (hb hby at_165) rfl (XS.ifNo X10.here hx rfl (hb hby at_167) rfl ((if0 _ _).trans (feq hd167).1) (XS.iload X10.here hx rfl (hb hby at_170) rfl (kt))))) ?_
          by_cases hc172 : v11_s0 = (0 : Int32)
          · refine own_run (g' := (mkF m 187 #[.val (.int p0), .val (.int p1), .val (.int p2), .val (.int p3), .val (.int p4), .val (.int p5), .val (.int v4), .val (.int v10), .val (.int v16), .val (.int v1_s0), .val (.int v2_s0), .val (.int v3_s0), .val (.ref b4), .val (.ref b6), .val (.int v111), .val (.int v118), .val (.int (1 : Int32)), .val (.int v11_s0)] [(.int (1 : Int32))])) (fun _ kt => XS.ifYes X10.here hx rfl (pc0 := 172) (pc' := 182) rfl (hb hby at_172) rfl ((if0 _ _).trans (teq hc172).1) (by decide) (by decide) (XS.iconst X10.here hx rfl (hb hby at_182) (XS.goto X10.here hx rfl (pc0 := 183) (pc' := 187) rfl (hb hby at_183) (by decide) (by decide) (kt)))) ?_
            exact own_retN (t := .boolean) X10 hx Bd.notSynchronized Bd.returns (by simp) (hb hby at_187) (by decide) (by decide) ⟨rfl, N10⟩
          · have hd179 : v111 = v118 := by rw [hv11_s0] at hc172; by_cases k1 : v4 = v1_s0 <;> by_cases k2 : v10 = v2_s0 <;> by_cases k3 : v16 = v3_s0 <;> simp [k1, k2, k3] at hc172; rw [hv111, hv118, k1, k2, k3]
            refine own_run (g' := (mkF m 187 #[.val (.int p0), .val (.int p1), .val (.int p2), .val (.int p3), .val (.int p4), .val (.int p5), .val (.int v4), .val (.int v10), .val (.int v16), .val (.int v1_s0), .val (.int v2_s0), .val (.int v3_s0), .val (.ref b4), .val (.ref b6), .val (.int v111), .val (.int v118), .val (.int (1 : Int32)), .val (.int v11_s0)] [(.int (1 : Int32))])) (fun _ kt => XS.ifNo X10.here hx rfl (hb hby at_172) rfl ((if0 _ _).trans (feq hc172).1) (XS.iload X10.here hx rfl (hb hby at_175) rfl (XS.iload X10.here hx rfl (hb hby at_177) rfl (XS.icmpNo X10.here hx rfl (hb hby at_179) rfl ((teq hd179).2) (XS.iconst X10.here hx rfl (hb hby at_182) (XS.goto X10.here hx rfl (pc0 := 183) (pc' := 187) rfl (hb hby at_183) (by decide) (by decide) (kt))))))) ?_
            exact own_retN (t := .boolean) X10 hx Bd.notSynchronized Bd.returns (by simp) (hb hby at_187) (by decide) (by decide) ⟨rfl, N10⟩
        by_cases hc141 : v4 = v1_s0
        · refine own_run (g' := (mkF m 148 #[.val (.int p0), .val (.int p1), .val (.int p2), .val (.int p3), .val (.int p4), .val (.int p5), .val (.int v4), .val (.int v10), .val (.int v16), .val (.int v1_s0), .val (.int v2_s0), .val (.int v3_s0), .val (.ref b4), .val (.ref b6), .val (.int v111), .val (.int v118), .val (.int (1 : Int32)), .unset] [(.int v2_s0), (.int v10)])) (fun _ kt => XS.icmpNo X10.here hx rfl (hb hby at_141) rfl ((teq hc141).2) (XS.iload X10.here hx rfl (hb hby at_144) rfl (XS.iload X10.here hx rfl (hb hby at_146) rfl (kt)))) ?_
          by_cases hc148 : v10 = v2_s0
          · refine own_run (g' := (mkF m 155 #[.val (.int p0), .val (.int p1), .val (.int p2), .val (.int p3), .val (.int p4), .val (.int p5), .val (.int v4), .val (.int v10), .val (.int v16), .val (.int v1_s0), .val (.int v2_s0), .val (.int v3_s0), .val (.ref b4), .val (.ref b6), .val (.int v111), .val (.int v118), .val (.int (1 : Int32)), .unset] [(.int v3_s0), (.int v16)])) (fun _ kt => XS.icmpNo X10.here hx rfl (hb hby at_148) rfl ((teq hc148).2) (XS.iload X10.here hx rfl (hb hby at_151) rfl (XS.iload X10.here hx rfl (hb hby at_153) rfl (kt)))) ?_
            by_cases hc155 : v16 = v3_s0
            · refine own_run (g' := (mkF m 163 #[.val (.int p0), .val (.int p1), .val (.int p2), .val (.int p3), .val (.int p4), .val (.int p5), .val (.int v4), .val (.int v10), .val (.int v16), .val (.int v1_s0), .val (.int v2_s0), .val (.int v3_s0), .val (.ref b4), .val (.ref b6), .val (.int v111), .val (.int v118), .val (.int (1 : Int32)), .unset] [(.int (1 : Int32))])) (fun _ kt => XS.icmpNo X10.here hx rfl (hb hby at_155) rfl ((teq hc155).2) (XS.iconst X10.here hx rfl (hb hby at_158) (XS.goto X10.here hx rfl (pc0 := 159) (pc' := 163) rfl (hb hby at_159) (by decide) (by decide) (kt)))) ?_
              exact J11 (1 : Int32) (by rw [if_pos hc141, if_pos hc148, if_pos hc155])
            · refine own_run (g' := (mkF m 163 #[.val (.int p0), .val (.int p1), .val (.int p2), .val (.int p3), .val (.int p4), .val (.int p5), .val (.int v4), .val (.int v10), .val (.int v16), .val (.int v1_s0), .val (.int v2_s0), .val (.int v3_s0), .val (.ref b4), .val (.ref b6), .val (.int v111), .val (.int v118), .val (.int (1 : Int32)), .unset] [(.int (0 : Int32))])) (fun _ kt => XS.icmpYes X10.here hx rfl (pc0 := 155) (pc' := 162) rfl (hb hby at_155) rfl ((feq hc155).2) (by decide) (by decide) (XS.iconst X10.here hx rfl (hb hby at_162) (kt))) ?_
              exact J11 (0 : Int32) (by rw [if_pos hc141, if_pos hc148, if_neg hc155])
          · refine own_run (g' := (mkF m 163 #[.val (.int p0), .val (.int p1), .val (.int p2), .val (.int p3), .val (.int p4), .val (.int p5), .val (.int v4), .val (.int v10), .val (.int v16), .val (.int v1_s0), .val (.int v2_s0), .val (.int v3_s0), .val (.ref b4), .val (.ref b6), .val (.int v111), .val (.int v118), .val (.int (1 : Int32)), .unset] [(.int (0 : Int32))])) (fun _ kt => XS.icmpYes X10.here hx rfl (pc0 := 148) (pc' := 162) rfl (hb hby at_148) rfl ((feq hc148).2) (by decide) (by decide) (XS.iconst X10.here hx rfl (hb hby at_162) (kt))) ?_
            exact J11 (0 : Int32) (by rw [if_pos hc141, if_neg hc148])
        · refine own_run (g' := (mkF m 163 #[.val (.int p0), .val (.int p1), .val (.int p2), .val (.int p3), .val (.int p4), .val (.int p5), .val (.int v4), .val (.int v10), .val (.int v16), .val (.int v1_s0), .val (.int v2_s0), .val (.int v3_s0), .val (.ref b4), .val (.ref b6), .val (.int v111), .val (.int v118), .val (.int (1 : Int32)), .unset] [(.int (0 : Int32))])) (fun _ kt => XS.icmpYes X10.here hx rfl (pc0 := 141) (pc' := 162) rfl (hb hby at_141) rfl ((feq hc141).2) (by decide) (by decide) (XS.iconst X10.here hx rfl (hb hby at_162) (kt))) ?_
          exact J11 (0 : Int32) (by rw [if_neg hc141])
      by_cases hc59 : (p5 &&& (4 : Int32)) = (0 : Int32)
      · refine own_run (g' := (mkF m 74 #[.val (.int p0), .val (.int p1), .val (.int p2), .val (.int p3), .val (.int p4), .val (.int p5), .val (.int v4), .val (.int v10), .val (.int v16), .val (.int v1_s0), .val (.int v2_s0), .unset, .unset, .unset, .unset, .unset, .unset, .unset] [(.int (XT.ushr (p3 ^^^ p4) (16 : Int32)))])) (fun _ kt => XS.ifYes X0.here hx rfl (pc0 := 59) (pc' := 67) rfl (hb hby at_59) rfl ((if0 _ _).trans (teq hc59).1) (by decide) (by decide) (XS.iloadN X0.here hx rfl (hb hby at_67) rfl (XS.iload X0.here hx rfl (hb hby at_68) rfl (XS.ixor X0.here hx rfl (hb hby at_70) rfl (XS.bipush X0.here hx rfl (hb hby at_71) (XS.iushr X0.here hx rfl (hb hby at_73) rfl (kt))))))) ?_
        exact J3 (XT.ushr (p3 ^^^ p4) (16 : Int32)) (by rw [if_pos hc59])
      · refine own_run (g' := (mkF m 74 #[.val (.int p0), .val (.int p1), .val (.int p2), .val (.int p3), .val (.int p4), .val (.int p5), .val (.int v4), .val (.int v10), .val (.int v16), .val (.int v1_s0), .val (.int v2_s0), .unset, .unset, .unset, .unset, .unset, .unset, .unset] [(.int v16)])) (fun _ kt => XS.ifNo X0.here hx rfl (hb hby at_59) rfl ((if0 _ _).trans (feq hc59).1) (XS.iload X0.here hx rfl (hb hby at_62) rfl (XS.goto X0.here hx rfl (pc0 := 64) (pc' := 74) rfl (hb hby at_64) (by decide) (by decide) (kt)))) ?_
        exact J3 v16 (by rw [if_neg hc59])
    by_cases hc40 : (p5 &&& (2 : Int32)) = (0 : Int32)
    · refine own_run (g' := (mkF m 50 #[.val (.int p0), .val (.int p1), .val (.int p2), .val (.int p3), .val (.int p4), .val (.int p5), .val (.int v4), .val (.int v10), .val (.int v16), .val (.int v1_s0), .unset, .unset, .unset, .unset, .unset, .unset, .unset, .unset] [(.int p4)])) (fun _ kt => XS.ifYes X0.here hx rfl (pc0 := 40) (pc' := 48) rfl (hb hby at_40) rfl ((if0 _ _).trans (teq hc40).1) (by decide) (by decide) (XS.iload X0.here hx rfl (hb hby at_48) rfl (kt))) ?_
      refine own_ldcI X0 hx hZ hown (hw _ (List.mem_of_getElem? (i := 0) rfl)) (hb hby at_50) ?_
      refine own_run (g' := (mkF m 53 #[.val (.int p0), .val (.int p1), .val (.int p2), .val (.int p3), .val (.int p4), .val (.int p5), .val (.int v4), .val (.int v10), .val (.int v16), .val (.int v1_s0), .unset, .unset, .unset, .unset, .unset, .unset, .unset, .unset] [(.int (p4 &&& (16777215 : Int32)))])) (fun _ kt => XS.iand X0.here hx rfl (hb hby at_52) rfl (kt)) ?_
      exact J2 (p4 &&& (16777215 : Int32)) (by rw [if_pos hc40])
    · refine own_run (g' := (mkF m 53 #[.val (.int p0), .val (.int p1), .val (.int p2), .val (.int p3), .val (.int p4), .val (.int p5), .val (.int v4), .val (.int v10), .val (.int v16), .val (.int v1_s0), .unset, .unset, .unset, .unset, .unset, .unset, .unset, .unset] [(.int v10)])) (fun _ kt => XS.ifNo X0.here hx rfl (hb hby at_40) rfl ((if0 _ _).trans (feq hc40).1) (XS.iload X0.here hx rfl (hb hby at_43) rfl (XS.goto X0.here hx rfl (pc0 := 45) (pc' := 53) rfl (hb hby at_45) (by decide) (by decide) (kt)))) ?_
      exact J2 v10 (by rw [if_neg hc40])
  by_cases hc22 : (p5 &&& (1 : Int32)) = (0 : Int32)
  · refine own_run (g' := (mkF m 31 #[.val (.int p0), .val (.int p1), .val (.int p2), .val (.int p3), .val (.int p4), .val (.int p5), .val (.int v4), .val (.int v10), .val (.int v16), .unset, .unset, .unset, .unset, .unset, .unset, .unset, .unset, .unset] [(.int p3)])) (fun _ kt => XS.ifYes X0.here hx rfl (pc0 := 22) (pc' := 30) rfl (hb hby at_22) rfl ((if0 _ _).trans (teq hc22).1) (by decide) (by decide) (XS.iloadN X0.here hx rfl (hb hby at_30) rfl (kt))) ?_
    refine own_ldcI X0 hx hZ hown (hw _ (List.mem_of_getElem? (i := 0) rfl)) (hb hby at_31) ?_
    refine own_run (g' := (mkF m 34 #[.val (.int p0), .val (.int p1), .val (.int p2), .val (.int p3), .val (.int p4), .val (.int p5), .val (.int v4), .val (.int v10), .val (.int v16), .unset, .unset, .unset, .unset, .unset, .unset, .unset, .unset, .unset] [(.int (p3 &&& (16777215 : Int32)))])) (fun _ kt => XS.iand X0.here hx rfl (hb hby at_33) rfl (kt)) ?_
    exact J1 (p3 &&& (16777215 : Int32)) (by rw [if_pos hc22])
  · refine own_run (g' := (mkF m 34 #[.val (.int p0), .val (.int p1), .val (.int p2), .val (.int p3), .val (.int p4), .val (.int p5), .val (.int v4), .val (.int v10), .val (.int v16), .unset, .unset, .unset, .unset, .unset, .unset, .unset, .unset, .unset] [(.int v4)])) (fun _ kt => XS.ifNo X0.here hx rfl (hb hby at_22) rfl ((if0 _ _).trans (feq hc22).1) (XS.iload X0.here hx rfl (hb hby at_25) rfl (XS.goto X0.here hx rfl (pc0 := 27) (pc' := 34) rfl (hb hby at_27) (by decide) (by decide) (kt)))) ?_
    exact J1 v4 (by rw [if_neg hc22])
set_option maxRecDepth 65536 in
set_option maxHeartbeats 40000000 in
theorem comes_1 {Post : Tables → Env → Array Value → State → Outcome → State → Prop} (hpost : ∀ tb e args s v u, (limb_1_1.after args s (.returned v) u = true ∧ limb_1_2.after args s (.returned v) u = true ∧ True) → FrameEnd s (.returned v) u (Jvm.fieldLocs frame_1_writes args s ++ Jvm.arrayLocs frame_1_arrays args s ++ Jvm.staticLocs frame_1_statics s) 16 128 → Post tb e args s (.returned v) u) :
    ArmFor flags0 classFile x code maxLocals ret World_1 tables_1 room_1 Calls_1 rest_1 Pre_1 Post := by
  intro l hfl _ _ p e ha hc hk s m args below hf hA hF happ hP
  obtain ⟨hcalls, hrest, hpre⟩ := hP
  obtain ⟨-, -, -, hnamed, -, -, -, hat⟩ := (Spec.applies_iff hf).mp happ
  obtain ⟨hg, hn⟩ := and_e (Cond.before_iff.mp (show (Jvm.Cond.and given_1 narrow_1).before args s = true from hpre))
  obtain ⟨hcnt, g0⟩ := and_e hg
  obtain ⟨k0, g1⟩ := and_e g0
  obtain ⟨k1, g2⟩ := and_e g1
  obtain ⟨k2, g3⟩ := and_e g2
  obtain ⟨k3, g4⟩ := and_e g3
  obtain ⟨k4, g5⟩ := and_e g4
  obtain ⟨w0, w1, w2, w3, w4, w5, rfl⟩ : ∃ w0 w1 w2 w3 w4 w5 : Value, args = #[w0, w1, w2, w3, w4, w5] := by
    have hs : args.size = 6 := by simpa [Cond.value, given_1] using hcnt
    obtain ⟨L⟩ := args
    match L, hs with
    | [w0, w1, w2, w3, w4, w5], _ => exact ⟨w0, w1, w2, w3, w4, w5, rfl⟩
  have hw := fun d (hd : d ∈ tables_1) => atoms_spec (ws := Jvm.Cond.code x code maxLocals ret :: tables_1) hat d (List.mem_cons_of_mem _ hd)
  obtain ⟨i0, ei0⟩ := is_v k0
  obtain rfl : w0 = (.int i0) := Option.some.inj ei0
  obtain ⟨i1, ei1⟩ := is_v k1
  obtain rfl : w1 = (.int i1) := Option.some.inj ei1
  obtain ⟨i2, ei2⟩ := is_v k2
  obtain rfl : w2 = (.int i2) := Option.some.inj ei2
  obtain ⟨i3, ei3⟩ := is_v k3
  obtain rfl : w3 = (.int i3) := Option.some.inj ei3
  obtain ⟨i4, ei4⟩ := is_v k4
  obtain rfl : w4 = (.int i4) := Option.some.inj ei4
  obtain ⟨i5, ei5⟩ := is_v g5
  obtain rfl : w5 = (.int i5) := Option.some.inj ei5
  obtain ⟨n, o, h1, h2, h3, _, L, rfl, ⟨rfl, N⟩, hq⟩ := rm0 l s _ hw tables_1 i0 i1 i2 i3 i4 i5 s.heap s.heap.size (Nat.le_refl _) p e ha hc hk s m _ below hf ((Spec.applies_iff_loose hf).mp happ).1 ⟨rfl, State.Warmed39.refl s, rfl⟩ trivial
  refine ⟨n, _, h1, h2, h3, hpost _ _ _ _ _ _ ⟨Cond.after_iff.mpr rfl, Cond.after_iff.mpr (eq_i res_at (Term.int_eval (1)) rfl), trivial⟩ ⟨hq.1, hq.2.1, (hq.2.2.sift fun y hy => Or.inr (N y hy)).mono (by decide) (by decide)⟩⟩
theorem main_1_1 : Claimed_1_1 := comes_1 fun _ _ _ _ _ _ h hF => ⟨h.1, hF⟩
theorem main_1_2 : Claimed_1_2 := comes_1 fun _ _ _ _ _ _ h hF => ⟨h.2.1, hF⟩
end Jvm.Pilot.@@N@@
namespace Jvm.Pilot.@@N@@
open Jvm Jvm.ClassFile Sem Op Lib Jvm.Free Jvm.Stand Jvm.Pilot.@@N@@.Jvm.D
/-! MADE BY PROGRAM (witnessworld.py) out of the Statement's table words and the real class files: 9 classes; the members and pool entries that the words name. The judged class is class 1, her method 1. -/
namespace start1
open Jvm.ClassFile
def u (s : String) : CpInfo := .utf8 (stringToUtf16 s)
/-- a pool by its gaps: so many unusable entries, then the entry; so many at the end -/
def gap : Nat → List CpInfo → List CpInfo
  | 0, r => r
  | n + 1, r => .unusable :: gap n r
def poolList (es : List (Nat × CpInfo)) (last : Nat) : List CpInfo := es.foldr (fun e r => gap e.1 (e.2 :: r)) (gap last [])
def pool (es : List (Nat × CpInfo)) (last : Nat) : Array CpInfo := ⟨poolList es last⟩
def fileOf (pool : Array CpInfo) (this : Nat) (attrs : Array Attribute := #[]) (ms : Array MethodInfo := #[]) (fl : Nat := 33) (sup : Nat := 0) (ifs : Array Nat := #[]) (fds : Array FieldInfo := #[]) : ClassFile where
  minorVersion := 0
  majorVersion := 65
  constantPool := pool
  accessFlags := fl
  thisClass := this
  superClass := sup
  interfaces := ifs
  fields := fds
  methods := ms
  attributes := attrs
def plain (name : String) (sup : Option ClassId) : Class where
  name := name
  kind := .ordinary
  loader := none
  accessFlags := 33
  super := sup
  interfaces := #[]
  cf := none
  fields := #[]
  methods := #[]
  instanceTypes := #[]
  staticTypes := #[]
  resolved := #[]
  callSites := []
  init := .initialized
  statics := none
  mirror := none

def pool0 : Array CpInfo := pool [(5, u "<init>"), (0, u "()V"), (1, .class_ 10), (1, u "java/lang/Object")] 113

def k0c0 : Code := { maxStack := 0, maxLocals := 1, code := object_method_1_code, exceptionTable := #[], attributes := #[] }
def k0m0 : Method := { name := "<init>", desc := "()V", sig := { parameters := [], returnType := none }, accessFlags := 1, code := some k0c0 }
/-- java/lang/Object -/
def k0 : Class := { plain "java/lang/Object" none with
  accessFlags := 33
  interfaces := #[]
  cf := some (fileOf pool0 8 #[] #[{ accessFlags := 1, nameIndex := 5, descriptorIndex := 6, attributes := #[] }] 33 0 #[] #[])
  fields := #[]
  methods := #[k0m0]
  instanceTypes := #[]
  staticTypes := #[]
  resolved := Array.replicate 124 none
  statics := none }

def pool1 : Array CpInfo := pool [(2, .class_ 4), (1, u "java/lang/Object"), (0, u "<init>"), (0, u "()V"), (0, .integer 16777215), (0, .integer 65535), (0, .class_ 10), (0, u "com/example/fulgur/fulgur/ShortChannelId"), (0, .methodref 9 12), (0, .nameAndType 5 13), (0, u "(III)V"), (0, .methodref 9 15), (0, .nameAndType 16 17), (0, u "hashCode"), (0, u "()I"), (0, .class_ 19), (0, u "com/example/fulgur/fulgur/ShortChannelIdHashCodePinLaw"), (2, u "law"), (0, u "(IIIIII)Z")] 3

def k1m0 : Method := { name := "<init>", desc := "()V", sig := { parameters := [], returnType := none }, accessFlags := 1, code := none }
def k1c1 : Code := { maxStack := 5, maxLocals := 18, code := code, exceptionTable := #[], attributes := #[] }
def k1m1 : Method := { name := "law", desc := "(IIIIII)Z", sig := { parameters := [.int, .int, .int, .int, .int, .int], returnType := some .boolean }, accessFlags := 9, code := some k1c1 }
/-- com/example/fulgur/fulgur/ShortChannelIdHashCodePinLaw -/
def k1 : Class := { plain "com/example/fulgur/fulgur/ShortChannelIdHashCodePinLaw" (some 0) with
  accessFlags := 49
  interfaces := #[]
  cf := some (fileOf pool1 18 #[] #[{ accessFlags := 1, nameIndex := 5, descriptorIndex := 6, attributes := #[] }, { accessFlags := 9, nameIndex := 22, descriptorIndex := 23, attributes := #[] }] 49 2 #[] #[])
  fields := #[]
  methods := #[k1m0, k1m1]
  instanceTypes := #[]
  staticTypes := #[]
  resolved := Array.replicate 27 none
  statics := none }

def pool2 : Array CpInfo := pool [(1, .methodref 2 3), (0, .class_ 4), (0, .nameAndType 5 6), (0, u "java/lang/Object"), (0, u "<init>"), (0, u "()V"), (9, .fieldref 17 18), (0, .class_ 19), (0, .nameAndType 20 21), (0, u "com/example/fulgur/fulgur/ShortChannelId"), (0, u "blockHeight"), (0, u "I"), (0, .fieldref 17 23), (0, .nameAndType 24 21), (0, u "transactionIndex"), (0, .fieldref 17 26), (0, .nameAndType 27 21), (0, u "outputIndex"), (8, u "(III)V"), (5, u "SIZE"), (9, u "()I"), (2, u "hashCode")] 21

def k2c0 : Code := { maxStack := 5, maxLocals := 4, code := prog_48_method_1_code, exceptionTable := #[], attributes := #[] }
def k2m0 : Method := { name := "<init>", desc := "(III)V", sig := { parameters := [.int, .int, .int], returnType := none }, accessFlags := 1, code := some k2c0 }
def k2c1 : Code := { maxStack := 2, maxLocals := 1, code := prog_48_method_8_code, exceptionTable := #[], attributes := #[] }
def k2m1 : Method := { name := "hashCode", desc := "()I", sig := { parameters := [], returnType := some .int }, accessFlags := 1, code := some k2c1 }
/-- com/example/fulgur/fulgur/ShortChannelId -/
def k2 : Class := { plain "com/example/fulgur/fulgur/ShortChannelId" (some 0) with
  accessFlags := 49
  interfaces := #[]
  cf := some (fileOf pool2 17 #[] #[{ accessFlags := 1, nameIndex := 5, descriptorIndex := 36, attributes := #[] }, { accessFlags := 1, nameIndex := 55, descriptorIndex := 52, attributes := #[] }] 49 2 #[] #[{ accessFlags := 25, nameIndex := 42, descriptorIndex := 21, attributes := #[] }, { accessFlags := 18, nameIndex := 20, descriptorIndex := 21, attributes := #[] }, { accessFlags := 18, nameIndex := 24, descriptorIndex := 21, attributes := #[] }, { accessFlags := 18, nameIndex := 27, descriptorIndex := 21, attributes := #[] }])
  fields := #[{ name := "SIZE", type := .int, accessFlags := 25, slot := 0, constantValue := 0 }, { name := "blockHeight", type := .int, accessFlags := 18, slot := 0, constantValue := 0 }, { name := "transactionIndex", type := .int, accessFlags := 18, slot := 1, constantValue := 0 }, { name := "outputIndex", type := .int, accessFlags := 18, slot := 2, constantValue := 0 }]
  methods := #[k2m0, k2m1]
  instanceTypes := #[.int, .int, .int]
  staticTypes := #[.int]
  resolved := Array.replicate 77 none
  statics := none }

def pool3 : Array CpInfo := pool [(1, u "java/lang/Cloneable"), (0, .class_ 1), (0, u "java/lang/Object"), (0, .class_ 3)] 3

/-- java/lang/Cloneable -/
def k3 : Class := { plain "java/lang/Cloneable" (some 0) with
  accessFlags := 1537
  interfaces := #[]
  cf := some (fileOf pool3 2 #[] #[] 1537 4 #[] #[])
  fields := #[]
  methods := #[]
  instanceTypes := #[]
  staticTypes := #[]
  resolved := Array.replicate 8 none
  statics := none }

def pool4 : Array CpInfo := pool [(1, u "java/io/Serializable"), (0, .class_ 1), (0, u "java/lang/Object"), (0, .class_ 3)] 3

/-- java/io/Serializable -/
def k4 : Class := { plain "java/io/Serializable" (some 0) with
  accessFlags := 1537
  interfaces := #[]
  cf := some (fileOf pool4 2 #[] #[] 1537 4 #[] #[])
  fields := #[]
  methods := #[]
  instanceTypes := #[]
  staticTypes := #[]
  resolved := Array.replicate 8 none
  statics := none }

/-- the primitive byte -/
def k5 : Class := { plain "byte" none with kind := .primitive 'B', accessFlags := 0x411 }
/-- [B -/
def k6 : Class := { plain "[B" (some 0) with kind := .array 5 .byte, interfaces := #[3, 4], accessFlags := 1041 }

/-- the primitive int -/
def k7 : Class := { plain "int" none with kind := .primitive 'I', accessFlags := 0x411 }
/-- [I -/
def k8 : Class := { plain "[I" (some 0) with kind := .array 7 .int, interfaces := #[3, 4], accessFlags := 1041 }

def heap : Heap := #[]
def classes : Array Class := #[k0, k1, k2, k3, k4, k5, k6, k7, k8]
def interned : List (Array UInt16 × Addr) := []
def slotsUsed : Nat := 0
def theMethod : MethodId := ⟨1, 1⟩
def args0 : Array Value := #[.int 7, .int 1, .int 2, .int 3, .int 4, .int 5]
def aboutOver (below : List Frame) : State where
  vm := { classes := classes, interned := interned.toArray }
  heap := heap
  slotsUsed := slotsUsed
  threads := #[{ frames := .invoking theMethod args0 :: below }]
def below0 : List Frame := [.native { method := ⟨0, 0⟩, args := #[] }]
def about1 : State := aboutOver below0
def p0 : Program := .bare "" "" ""
def e0 : Env := launch0.env 0 0 0
theorem w_frames : about1.frames = Frame.invoking theMethod args0 :: below0 := rfl
set_option maxRecDepth 65536 in
theorem w_args : argsFit about1.vm theMethod args0 = true := by decide +kernel
set_option maxRecDepth 65536 in
theorem w_heap : heapFits about1 = true := by decide +kernel
set_option maxRecDepth 65536 in
theorem w_runnable : about1.curStatus? = some .runnable := by decide +kernel
set_option maxRecDepth 65536 in
theorem w_alone : about1.alone = true := by decide +kernel
set_option maxRecDepth 65536 in
theorem w_named : about1.methodNamed? x = some theMethod := by decide +kernel
set_option maxRecDepth 65536 in
theorem w_hears : about1.hears theMethod below0 = true := by decide +kernel
set_option maxRecDepth 65536 in
theorem w_ripe : about1.ripe theMethod args0 below0 = true := by decide +kernel
theorem w_running : about1.status = .running := rfl
set_option maxRecDepth 65536 in
theorem w_room : about1.hasRoom e0.platform room_1 = true :=
  launch0.hasRoom_least _ room_1 (by decide +kernel) (by decide +kernel) (by decide +kernel) (by decide +kernel) (by decide +kernel) (by decide +kernel)
theorem allAtoms_all (ts : List Jvm.Cond) (a : Array Jvm.Value) (st : Jvm.State) : (allAtoms ts).before a st = ts.all (fun c => c.before a st) := by
  induction ts with
  | nil => rfl
  | cons c t ih =>
    show (Jvm.Cond.and c (allAtoms t)).before a st = _
    rw [Jvm.Cond.before_and, ih, List.all_cons]
def words1 : List Jvm.Cond := Jvm.Cond.code x code maxLocals ret :: tables_1
/-- a 'code' word, met by the world's own term for the bytes: nothing is compared byte by byte -/
theorem code_word {y : MethodName} {bytes : ByteArray} {mx : Nat} {rt : Option FieldType} {a : Array Value} {s : State} {m : MethodId} {meth : Method} {c : Code} (h1 : s.methodNamed? y = some m) (h2 : s.vm.method? m = some meth) (h3 : meth.code = some c) (h4 : c.code = bytes)
    (h5 : (c.maxLocals == mx && c.exceptionTable.isEmpty && decide (c.maxStack ≤ mostOperands) && decide (meth.sig.returnType = rt) && !meth.locks && decide (parseMethodDescriptor y.desc = some meth.sig)) = true) : (Jvm.Cond.code y bytes mx rt).before a s = true := by
  simp only [Bool.and_eq_true, beq_iff_eq, Bool.not_eq_true', decide_eq_true_eq] at h5
  obtain ⟨⟨⟨⟨⟨g1, g2⟩, g3⟩, g4⟩, g5⟩, g6⟩ := h5
  simp [Cond.before, Cond.holds, Cond.value, h1, h2, h3, h4, g1, g2, g3, g4, g5, g6]
def isCode : Jvm.Cond → Bool
  | .code _ _ _ _ => true
  | _ => false
theorem all_split {L : List Jvm.Cond} {P : Jvm.Cond → Bool} (h1 : L.all (fun c => isCode c || P c) = true) (h2 : ∀ c ∈ L.filter isCode, P c = true) : L.all P = true := by
  refine List.all_eq_true.mpr fun c hc => ?_
  have h := List.all_eq_true.mp h1 c hc
  rcases Bool.eq_false_or_eq_true (isCode c) with hi | hi
  · exact h2 c (List.mem_filter.mpr ⟨hc, hi⟩)
  · simpa [hi] using h
set_option maxRecDepth 65536 in
theorem w_c0 : (Jvm.Cond.code x code maxLocals ret).before args0 about1 = true := code_word (m := ⟨1, 1⟩) (meth := k1m1) (c := k1c1) (by decide +kernel) rfl rfl rfl (by decide +kernel)
set_option maxRecDepth 65536 in
theorem w_c1 : (Jvm.Cond.code ({ cls := "com/example/fulgur/fulgur/ShortChannelId", name := "<init>", desc := "(III)V" } : Jvm.MethodName) prog_48_method_1_code (4 : Nat) (Option.none : Option Jvm.ClassFile.FieldType)).before args0 about1 = true := code_word (m := ⟨2, 0⟩) (meth := k2m0) (c := k2c0) (by decide +kernel) rfl rfl rfl (by decide +kernel)
set_option maxRecDepth 65536 in
theorem w_c2 : (Jvm.Cond.code ({ cls := "java/lang/Object", name := "<init>", desc := "()V" } : Jvm.MethodName) object_method_1_code (1 : Nat) (Option.none : Option Jvm.ClassFile.FieldType)).before args0 about1 = true := code_word (m := ⟨0, 0⟩) (meth := k0m0) (c := k0c0) (by decide +kernel) rfl rfl rfl (by decide +kernel)
set_option maxRecDepth 65536 in
theorem w_c3 : (Jvm.Cond.code ({ cls := "com/example/fulgur/fulgur/ShortChannelId", name := "hashCode", desc := "()I" } : Jvm.MethodName) prog_48_method_8_code (1 : Nat) (Option.some Jvm.ClassFile.FieldType.int)).before args0 about1 = true := code_word (m := ⟨2, 1⟩) (meth := k2m1) (c := k2c1) (by decide +kernel) rfl rfl rfl (by decide +kernel)
def codes1 : List Jvm.Cond := [Jvm.Cond.code x code maxLocals ret, Jvm.Cond.code ({ cls := "com/example/fulgur/fulgur/ShortChannelId", name := "<init>", desc := "(III)V" } : Jvm.MethodName) prog_48_method_1_code (4 : Nat) (Option.none : Option Jvm.ClassFile.FieldType), Jvm.Cond.code ({ cls := "java/lang/Object", name := "<init>", desc := "()V" } : Jvm.MethodName) object_method_1_code (1 : Nat) (Option.none : Option Jvm.ClassFile.FieldType), Jvm.Cond.code ({ cls := "com/example/fulgur/fulgur/ShortChannelId", name := "hashCode", desc := "()I" } : Jvm.MethodName) prog_48_method_8_code (1 : Nat) (Option.some Jvm.ClassFile.FieldType.int)]
set_option maxRecDepth 65536 in
theorem codes_eq : words1.filter isCode = codes1 := rfl
theorem w_codes : ∀ c ∈ words1.filter isCode, c.before args0 about1 = true := by
  rw [codes_eq]
  intro c hc
  simp only [codes1, List.mem_cons, List.not_mem_nil, or_false] at hc
  rcases hc with rfl | rfl | rfl | rfl
  · exact w_c0
  · exact w_c1
  · exact w_c2
  · exact w_c3
set_option maxRecDepth 65536 in
theorem w_t1 : words1.all (fun c => isCode c || c.before args0 about1) = true := by decide +kernel
theorem w_tables : (allAtoms (Jvm.Cond.code x code maxLocals ret :: tables_1)).before args0 about1 = true := by
  rw [allAtoms_all]
  show words1.all (fun c => c.before args0 about1) = true
  refine all_split ?_ w_codes
  rw [w_t1]
set_option maxRecDepth 65536 in
theorem w_case : (Jvm.Cond.and given_1 narrow_1).before args0 about1 = true := by decide +kernel
theorem w_applies : (headSpec (Jvm.Cond.code x code maxLocals ret :: tables_1) room_1).applies x e0.platform about1 = true :=
  (Spec.applies_iff w_frames).mpr ⟨w_running, w_runnable, w_alone, w_named, w_hears, w_ripe, w_room, w_tables⟩
theorem atStart : AtStart classFile x code maxLocals ret World_1 tables_1 room_1 Calls_1 rest_1 Pre_1 launch0 p0 e0 about1 theMethod args0 below0 :=
  ⟨lists_1, trivial, launch0.admits_env _ _ _, launch0.least_env, fairChoices_fair.cas, fairChoices_fair.clock, w_frames, w_args, w_heap, w_applies, trivial, trivial, w_case⟩
end start1
theorem witness_1 : WitnessClaimed_1 := ⟨start1.p0, start1.e0, start1.about1, start1.theMethod, start1.args0, start1.below0, start1.atStart⟩
end Jvm.Pilot.@@N@@
