import JvmDerived
import JvmDerived.Pilot.@@N@@Statement
import JvmDerived.Pilot.@@N@@Code
set_option linter.unusedVariables false
set_option linter.unusedSimpArgs false
@@BLOCK:NumsL.lean.txt@@
@@BLOCK:Masks.lean.txt@@
@@BLOCK:Nums.lean.txt@@
namespace Jvm.Pilot.@@N@@
open Jvm Jvm.ClassFile Sem Op Lib Jvm.Free Jvm.Stand Jvm.LawKit Jvm.RoadKit Bundle Jvm.Pilot.@@N@@.Jvm.D
section Own
variable {p : Program} {l : Launch} {e : Env} {R : Room} {s : State} {m : MethodId} {args : Array Value} {below : List Frame} {meth : Method} {c : Code} {T T' : State} {locs : List Loc} {cells slots : Nat} {Z : State} {h h' : Heap} {n0 : Nat} {a0 : Array Value} {CC SS : Nat} {Q : Option Value → Heap → List Loc → Prop} {g g' : JFrame} {pc : Nat} {Ls : Array Slot} {rest st : List Value}
/-- from here the run comes to its end, and Q holds there -/
def own_Run (p : Program) (e : Env) (below : List Frame) (s : State) (CC SS : Nat) (Q : Option Value → Heap → List Loc → Prop) (T : State) (g : JFrame) : Prop :=
  ∃ s₂ o, Steps p.tables e below (T.setTop g) s₂ ∧ s₂.status = .running ∧ Ended s₂ below o ∧ ∃ v L, o = .returned v ∧ Q v s₂.heap L ∧ FrameEnd s o s₂ L CC SS
theorem own_run (sp : ∀ t, Steps p.tables e below (T'.setTop g') t → Steps p.tables e below (T.setTop g) t) (r : own_Run p e below s CC SS Q T' g') : own_Run p e below s CC SS Q T g := by
  obtain ⟨s₂, o, h1, r⟩ := r; exact ⟨s₂, o, sp _ h1, r⟩
theorem own_enter {ml : Nat} (q : entryFrame m args ml = g) (r : own_Run p e below s CC SS Q T g) : ∃ s₂ o, Steps p.tables e below (T.setTop (entryFrame m args ml)) s₂ ∧ s₂.status = .running ∧ Ended s₂ below o ∧ ∃ v L, o = .returned v ∧ Q v s₂.heap L ∧ FrameEnd s o s₂ L CC SS := by rw [q]; exact r
theorem own_retN {t : FieldType} {z : Int32} (X : Stand p l e R s m args below meth c T locs cells slots) (hx : p.tables.exec = Jvm.exec) (hlk : meth.locks = false) (hret : meth.sig.returnType = some t) (ht : t = .boolean ∨ t = .byte ∨ t = .char ∨ t = .short) (hd : decode c.code pc = .ok (.ireturn, 1)) (hc : cells ≤ CC) (hs : slots ≤ SS) (q : Q (some (.int (nar t z))) T.heap locs) : own_Run p e below s CC SS Q T (mkF m pc Ls (.int z :: rest)) := by
  obtain ⟨fs, hr, hrun, hended, hW, hsame⟩ := X.leave (v := some (.int (nar t z))) (fun h => by rw [hret] at h; cases h) hlk
  exact ⟨_, _, retN X hx hret ht hd hr, hrun, hended, _, _, rfl, q, ⟨_, rfl⟩, hW, hsame.mono hc hs⟩
theorem own_retI {z : Int32} (X : Stand p l e R s m args below meth c T locs cells slots) (hx : p.tables.exec = Jvm.exec) (hlk : meth.locks = false) (hret : meth.sig.returnType = some .int) (hd : decode c.code pc = .ok (.ireturn, 1)) (hc : cells ≤ CC) (hs : slots ≤ SS) (q : Q (some (.int z)) T.heap locs) : own_Run p e below s CC SS Q T (mkF m pc Ls (.int z :: rest)) := by
  obtain ⟨fs, hr, hrun, hended, hW, hsame⟩ := X.leave (v := some (.int z)) (fun h => by rw [hret] at h; cases h) hlk
  refine ⟨_, _, ?_, hrun, hended, _, _, rfl, q, ⟨_, rfl⟩, hW, hsame.mono hc hs⟩
  have hm' : T.vm.method? m = some meth := X.method'
  have hn : narrow .int (.int z) = .int z := rfl
  show Steps p.tables e below (T.setTop { method := m, pc := pc, locals := Ls, stack := _ :: rest, locked := none }) _
  jvm_step X.here [X.here.top, hx, hd, hm', hret, hn]
  first | (intro acts; rw [hr _ acts rfl rfl rfl]) | rw [hr _ _ rfl rfl rfl]
  exact Steps.refl _
theorem own_retL {z : Int64} (X : Stand p l e R s m args below meth c T locs cells slots) (hx : p.tables.exec = Jvm.exec) (hlk : meth.locks = false) (hret : meth.sig.returnType = some .long) (hd : decode c.code pc = .ok (.lreturn, 1)) (hc : cells ≤ CC) (hs : slots ≤ SS) (q : Q (some (.long z)) T.heap locs) : own_Run p e below s CC SS Q T (mkF m pc Ls [.long z]) := by
  obtain ⟨fs, hr, hrun, hended, hW, hsame⟩ := X.leave (v := some (.long z)) (fun h => by rw [hret] at h; cases h) hlk
  exact ⟨_, _, X.lreturnOut hx hret hd hr, hrun, hended, _, _, rfl, q, ⟨_, rfl⟩, hW, hsame.mono hc hs⟩
theorem own_retV (X : Stand p l e R s m args below meth c T locs cells slots) (hx : p.tables.exec = Jvm.exec) (hlk : meth.locks = false) (hret : meth.sig.returnType = none) (hd : decode c.code pc = .ok (.return_, 1)) (hc : cells ≤ CC) (hs : slots ≤ SS) (q : Q none T.heap locs) : own_Run p e below s CC SS Q T (mkF m pc Ls []) := by
  obtain ⟨fs, hr, hrun, hended, hW, hsame⟩ := X.leave (v := none) (fun _ => rfl) hlk
  exact ⟨_, _, X.returnOut hx hret hd hr, hrun, hended, _, _, rfl, q, ⟨_, rfl⟩, hW, hsame.mono hc hs⟩
theorem own_retR {v : Value} {t : FieldType} (X : Stand p l e R s m args below meth c T locs cells slots) (hx : p.tables.exec = Jvm.exec) (hlk : meth.locks = false) (hret : meth.sig.returnType = some t) (ht : t.isReference = true) (hv : v.isRef = true) (hd : decode c.code pc = .ok (.areturn, 1)) (hc : cells ≤ CC) (hs : slots ≤ SS) (q : Q (some v) T.heap locs) : own_Run p e below s CC SS Q T (mkF m pc Ls (v :: rest)) := by
  obtain ⟨fs, hr, hrun, hended, hW, hsame⟩ := X.leave (v := some v) (fun h => by rw [hret] at h; cases h) hlk
  refine ⟨_, _, ?_, hrun, hended, _, _, rfl, q, ⟨_, rfl⟩, hW, hsame.mono hc hs⟩
  have hm' : T.vm.method? m = some meth := X.method'
  show Steps p.tables e below (T.setTop { method := m, pc := pc, locals := Ls, stack := _ :: rest, locked := none }) _
  jvm_step X.here [X.here.top, hx, hd, hm', hret, ht, hv]
  first | (intro acts; rw [hr _ acts rfl rfl rfl]) | rw [hr _ _ rfl rfl rfl]
  exact Steps.refl _
theorem own_clt {x y : Int64} (q : x < y) : ifCond.holds .lt (XT.cmpL x y) = true ∧ ifCond.holds .ge (XT.cmpL x y) = false := by
  have q' : XT.cmpL x y < 0 := (lw_lt x y).mpr q
  exact ⟨(if0 _ _).trans (tlt q').1, (if0 _ _).trans (tlt q').2.1⟩
theorem own_cnlt {x y : Int64} (q : ¬ x < y) : ifCond.holds .lt (XT.cmpL x y) = false ∧ ifCond.holds .ge (XT.cmpL x y) = true := by
  have q' : ¬ XT.cmpL x y < 0 := fun z => q ((lw_lt x y).mp z)
  exact ⟨(if0 _ _).trans (flt q').1, (if0 _ _).trans (flt q').2.1⟩
theorem own_cgt {x y : Int64} (q : y < x) : ifCond.holds .gt (XT.cmpL x y) = true ∧ ifCond.holds .le (XT.cmpL x y) = false := by
  have q' : 0 < XT.cmpL x y := (lw_gt x y).mpr q
  exact ⟨(if0 _ _).trans (tlt q').2.2.1, (if0 _ _).trans (tlt q').2.2.2⟩
theorem own_cngt {x y : Int64} (q : ¬ y < x) : ifCond.holds .gt (XT.cmpL x y) = false ∧ ifCond.holds .le (XT.cmpL x y) = true := by
  have q' : ¬ 0 < XT.cmpL x y := fun z => q ((lw_gt x y).mp z)
  exact ⟨(if0 _ _).trans (flt q').2.2.1, (if0 _ _).trans (flt q').2.2.2⟩
theorem own_ceq {x y : Int64} (q : x = y) : ifCond.holds .eq (XT.cmpL x y) = true ∧ ifCond.holds .ne (XT.cmpL x y) = false := by
  have q' : XT.cmpL x y = 0 := (lw_eq x y).mpr q
  exact ⟨(if0 _ _).trans (teq q').1, (if0 _ _).trans (teq q').2⟩
theorem own_cneq {x y : Int64} (q : ¬ x = y) : ifCond.holds .eq (XT.cmpL x y) = false ∧ ifCond.holds .ne (XT.cmpL x y) = true := by
  have q' : ¬ XT.cmpL x y = 0 := fun z => q ((lw_eq x y).mp z)
  exact ⟨(if0 _ _).trans (feq q').1, (if0 _ _).trans (feq q').2⟩
theorem own_rem (x y : Int32) : x - (x / y) * y = x % y := by
  have a := (x % y).toInt_lt; have b := (x % y).le_toInt
  rw [Int32.toInt_mod] at a b
  apply Int32.toInt_inj.mp
  rw [Int32.toInt_mod, Int32.toInt_sub, Int32.toInt_mul, Int32.toInt_div, Int.bmod_mul_bmod, Int.sub_bmod_bmod, Int.mul_comm, ← Int.tmod_def]
  exact Jvm.Kit.bmod32 b a
theorem own_irem {tb : Tables} [Ours tb] {e : Env} {below : List Frame} {T target : State} {m : MethodId} {c : Code} {g : JFrame} (h : At T m c below) (hx : tb.exec = Jvm.exec) (hg : g.method = m) {x y : Int32} {rest : List Value} (hd : decode c.code g.pc = .ok (.irem, 1)) (hs : g.stack = .int y :: .int x :: rest) (hy : y ≠ 0)
    (hr : Steps tb e below (T.setTop { g with pc := g.pc + 1, stack := .int (x % y) :: rest }) target) : Steps tb e below (T.setTop g) target := XS.irem h hx hg hd hs hy (by rw [own_rem]; exact hr)
theorem own_ldcI {own : String} {index : Nat} {x : Int32} (X : Stand p l e R s m args below meth c T locs cells slots) (hx : p.tables.exec = Jvm.exec) (hZ : Z.Warmed39 s.vm) (hown : s.vm.findClass own = some m.cls) (w : (Cond.constant own index x).before a0 Z = true) (hd : decode c.code pc = .ok (.ldc index, 2)) (k : own_Run p e below s CC SS Q T (mkF m (pc + 2) Ls (.int x :: rest))) : own_Run p e below s CC SS Q T (mkF m pc Ls rest) :=
  own_run (X.ldcInt hx hown (mvT hZ w) (g := mkF m pc Ls rest) rfl hd) k
theorem own_ldcwI {own : String} {index : Nat} {x : Int32} (X : Stand p l e R s m args below meth c T locs cells slots) (hx : p.tables.exec = Jvm.exec) (hZ : Z.Warmed39 s.vm) (hown : s.vm.findClass own = some m.cls) (w : (Cond.constant own index x).before a0 Z = true) (hd : decode c.code pc = .ok (.ldc_w index, 3)) (k : own_Run p e below s CC SS Q T (mkF m (pc + 3) Ls (.int x :: rest))) : own_Run p e below s CC SS Q T (mkF m pc Ls rest) :=
  own_run (X.ldcwInt hx hown (mvT hZ w) (g := mkF m pc Ls rest) rfl hd) k
theorem own_ldcL {own : String} {index : Nat} {x : Int64} (X : Stand p l e R s m args below meth c T locs cells slots) (hx : p.tables.exec = Jvm.exec) (hZ : Z.Warmed39 s.vm) (hown : s.vm.findClass own = some m.cls) (w : (Cond.constantLong own index x).before a0 Z = true) (hd : decode c.code pc = .ok (.ldc2_w index, 3)) (k : own_Run p e below s CC SS Q T (mkF m (pc + 3) Ls (.long x :: rest))) : own_Run p e below s CC SS Q T (mkF m pc Ls rest) :=
  own_run (X.ldc2Long hx hown (mvT hZ w) (g := mkF m pc Ls rest) rfl hd) k
/-- an array of ints or bytes: its length and what it holds -/
def own_A (Z : State) (h : Heap) (a : Addr) (ty : FieldType) (n : Int32) (xs : List Int32) : Prop :=
  xs.length = n.toNatClampNeg ∧ ∃ k, Arv Z h a k ty n (xs.map Value.int) (.int (0 : Int32))
variable {a b : Addr} {ty : FieldType} {n j x : Int32} {xs ys : List Int32} {sl : Nat} {v : Value} {ws : List Addr}
theorem own_A.lt (A : own_A Z h a ty n xs) : a < h.size := by obtain ⟨-, k, V⟩ := A; exact V.lt
theorem own_A.ext (A : own_A Z h a ty n xs) (E : Ext h h') : own_A Z h' a ty n xs := ⟨A.1, A.2.imp fun _ V => V.ext E⟩
theorem own_A.other (A : own_A Z h b ty n xs) (W : Wr h h' a sl v) (q : b ≠ a) : own_A Z h' b ty n xs := ⟨A.1, A.2.imp fun _ V => V.other W q⟩
theorem own_A.keep (A : own_A Z h a ty n xs) (K : Keep h h' ws) (q : a ∉ ws) : own_A Z h' a ty n xs := ⟨A.1, A.2.imp fun _ V => V.keep K q⟩
theorem own_A.nn (A : own_A Z h a ty n xs) : ¬ n < 0 := by obtain ⟨-, k, cl, -, -, -, q, -⟩ := A; exact q
theorem own_A.to (A : own_A Z h a ty n xs) (q : xs = ys) : own_A Z h a ty n ys := q ▸ A
theorem own_lt_clamp {j n : Int32} (hj : ¬ j < 0 ∧ j < n) : j.toNatClampNeg < n.toNatClampNeg := by
  obtain ⟨q1, q2⟩ := hj
  rw [Int32.lt_iff_toInt_lt] at q1 q2
  have e0 : (0 : Int32).toInt = 0 := rfl
  simp only [Int32.toNatClampNeg] at *; omega
theorem own_newA {aty : ArrayType} {cap : Nat} (X : Stand p l e R s m args below meth c T locs cells slots) (hx : p.tables.exec = Jvm.exec) (hZ : Z.Warmed39 s.vm) (w : (Cond.arrayClass (newarray.typeOf aty)).before a0 Z = true) (hty : newarray.typeOf aty = ty) (hdv : defaultValue ty = .int 0) (eT : T.heap = h) (hd : decode c.code pc = .ok (.newarray aty, 2)) (hn : ¬ n < 0) (hcap : n.toNatClampNeg ≤ cap) (hb : cap * 8 ≤ 536870912) (hc : cells + 1 ≤ R.cells) (hl : slots + cap ≤ R.slots)
    (k : ∀ T' h' b, b = h.size → Stand p l e R s m args below meth c T' locs (cells + 1) (slots + cap) → T'.heap = h' → Ext h h' → own_A Z h' b ty n (List.replicate n.toNatClampNeg 0) → own_Run p e below s CC SS Q T' (mkF m (pc + 2) Ls (.ref b :: rest))) :
    own_Run p e below s CC SS Q T (mkF m pc Ls (.int n :: rest)) := by
  obtain ⟨T', h', cA, X', e', E', A', sp⟩ := newP X hx hZ w eT (g := mkF m pc Ls (.int n :: rest)) rfl hd rfl hn hcap hb hc hl
  subst hty
  refine own_run sp (k T' h' _ rfl X' e' E' ⟨by simp, cA, ?_⟩)
  have V := Arv.new A' hn
  rw [hdv] at V
  have q := V.pad (pad_rep [] (.int 0) n.toNatClampNeg)
  simpa using q
theorem own_len (X : Stand p l e R s m args below meth c T locs cells slots) (hx : p.tables.exec = Jvm.exec) (hZ : Z.Warmed39 s.vm) (eT : T.heap = h) (A : own_A Z h a ty n xs) (hd : decode c.code pc = .ok (.arraylength, 1)) (k : own_Run p e below s CC SS Q T (mkF m (pc + 1) Ls (.int n :: rest))) : own_Run p e below s CC SS Q T (mkF m pc Ls (.ref a :: rest)) := by
  obtain ⟨hl, kk, cl, Ar, q1, Sz, Nn, H, G⟩ := A
  refine own_run (fun t kt => X.arraylength hx (by rw [eT]; exact Ar.1) (State.isArrayOf_alike hZ.alike Ar.2.1) (g := mkF m pc Ls (.ref a :: rest)) rfl rfl hd t (by rw [len_of Sz Nn]; exact kt)) k
theorem own_getD (xs : List Int32) (i : Nat) : (xs.map Value.int).getD i (.int 0) = .int (xs.getD i 0) := by
  simp only [List.getD_eq_getElem?_getD, List.getElem?_map]; cases xs[i]? <;> rfl
theorem own_ldI (X : Stand p l e R s m args below meth c T locs cells slots) (hx : p.tables.exec = Jvm.exec) (hZ : Z.Warmed39 s.vm) (eT : T.heap = h) (A : own_A Z h a .int n xs) (hj : ¬ j < 0 ∧ j < n) (hd : decode c.code pc = .ok (.iaload, 1)) (hv : xs.getD j.toNatClampNeg 0 = x) (k : own_Run p e below s CC SS Q T (mkF m (pc + 1) Ls (.int x :: rest))) : own_Run p e below s CC SS Q T (mkF m pc Ls (.int j :: .ref a :: rest)) := by
  obtain ⟨hl, kk, cl, Ar, q1, Sz, Nn, H, G⟩ := A
  have hin := inb_of Sz hj
  refine own_run (fun t kt => X.iaload hx (j := j) (v := .int x) (by rw [eT]; exact Ar.1) (State.isArrayOf_alike hZ.alike Ar.2.1) Ar.2.2 hin (H.at hin (by rw [own_getD, hv])) (g := mkF m pc Ls (.int j :: .ref a :: rest)) rfl rfl hd t kt) k
theorem own_ldB (X : Stand p l e R s m args below meth c T locs cells slots) (hx : p.tables.exec = Jvm.exec) (hZ : Z.Warmed39 s.vm) (eT : T.heap = h) (A : own_A Z h a .byte n xs) (hj : ¬ j < 0 ∧ j < n) (hd : decode c.code pc = .ok (.baload, 1)) (hv : xs.getD j.toNatClampNeg 0 = x) (k : own_Run p e below s CC SS Q T (mkF m (pc + 1) Ls (.int x :: rest))) : own_Run p e below s CC SS Q T (mkF m pc Ls (.int j :: .ref a :: rest)) := by
  obtain ⟨hl, kk, cl, Ar, q1, Sz, Nn, H, G⟩ := A
  have hin := inb_of Sz hj
  refine own_run (fun t kt => X.baloadBytes hx (j := j) (v := .int x) (by rw [eT]; exact Ar.1) (State.isArrayOf_alike hZ.alike Ar.2.1) Ar.2.2 hin (H.at hin (by rw [own_getD, hv])) (g := mkF m pc Ls (.int j :: .ref a :: rest)) rfl rfl hd t kt) k
theorem own_map_set (xs : List Int32) (i : Nat) (x : Int32) : (xs.map Value.int).set i (.int x) = (xs.set i x).map Value.int := by rw [List.map_set]
theorem own_stI (X : Stand p l e R s m args below meth c T locs cells slots) (hx : p.tables.exec = Jvm.exec) (hZ : Z.Warmed39 s.vm) (eT : T.heap = h) (A : own_A Z h a .int n xs) (hj : ¬ j < 0 ∧ j < n) (N : Fr n0 locs) (ga : n0 ≤ a) (hd : decode c.code pc = .ok (.iastore, 1)) (hys : xs.set j.toNatClampNeg x = ys)
    (k : ∀ T' h' locs', Stand p l e R s m args below meth c T' locs' cells slots → Fr n0 locs' → T'.heap = h' → Wr h h' a j.toNatClampNeg (.int x) → own_A Z h' a .int n ys → own_Run p e below s CC SS Q T' (mkF m (pc + 1) Ls rest)) : own_Run p e below s CC SS Q T (mkF m pc Ls (.int x :: .int j :: .ref a :: rest)) := by
  obtain ⟨hl, kk, cl, Ar, q1, Sz, Nn, H, G⟩ := A
  have hin := inb_of Sz hj
  obtain ⟨T', h', X', e', W, sp⟩ := stI X hx hZ eT Ar (j := j) (x := x) hin (g := mkF m pc Ls (.int x :: .int j :: .ref a :: rest)) rfl rfl hd
  have V := Arv.set Ar q1 Sz Nn H G (show fits .int (.int x) = true from rfl) W _ rfl (by rw [List.length_map, hl]; exact own_lt_clamp hj)
  refine own_run sp (k T' h' _ X' (Fr.snoc X' N ga) e' W ⟨by rw [← hys, List.length_set]; exact hl, kk, ?_⟩)
  rw [← hys, ← own_map_set]; exact V
theorem own_stB (X : Stand p l e R s m args below meth c T locs cells slots) (hx : p.tables.exec = Jvm.exec) (hZ : Z.Warmed39 s.vm) (eT : T.heap = h) (A : own_A Z h a .byte n xs) (hj : ¬ j < 0 ∧ j < n) (N : Fr n0 locs) (ga : n0 ≤ a) (hd : decode c.code pc = .ok (.bastore, 1)) (hys : xs.set j.toNatClampNeg (nar .byte x) = ys)
    (k : ∀ T' h' locs', Stand p l e R s m args below meth c T' locs' cells slots → Fr n0 locs' → T'.heap = h' → Wr h h' a j.toNatClampNeg (.int (nar .byte x)) → own_A Z h' a .byte n ys → own_Run p e below s CC SS Q T' (mkF m (pc + 1) Ls rest)) : own_Run p e below s CC SS Q T (mkF m pc Ls (.int x :: .int j :: .ref a :: rest)) := by
  obtain ⟨hl, kk, cl, Ar, q1, Sz, Nn, H, G⟩ := A
  have hin := inb_of Sz hj
  obtain ⟨T', h', X', e', W, sp⟩ := stB X hx hZ eT Ar (j := j) (x := x) hin (g := mkF m pc Ls (.int x :: .int j :: .ref a :: rest)) rfl rfl hd
  have V := Arv.set Ar q1 Sz Nn H G (fits_nar_byte x) W _ rfl (by rw [List.length_map, hl]; exact own_lt_clamp hj)
  refine own_run sp (k T' h' _ X' (Fr.snoc X' N ga) e' W ⟨by rw [← hys, List.length_set]; exact hl, kk, ?_⟩)
  rw [← hys, ← own_map_set]; exact V
/-- an array of which only the length is said -/
def own_L (Z : State) (h : Heap) (a : Addr) (n : Int32) : Prop := ∃ (ty : FieldType) (k : ClassId) (vs : List Value) (d : Value), Arv Z h a k ty n vs d
theorem own_L.lt (A : own_L Z h a n) : a < h.size := by obtain ⟨_, _, _, _, V⟩ := A; exact V.lt
theorem own_L.ext (A : own_L Z h a n) (E : Ext h h') : own_L Z h' a n := by obtain ⟨_, _, _, _, V⟩ := A; exact ⟨_, _, _, _, V.ext E⟩
theorem own_L.other (A : own_L Z h b n) (W : Wr h h' a sl v) (q : b ≠ a) : own_L Z h' b n := by obtain ⟨_, _, _, _, V⟩ := A; exact ⟨_, _, _, _, V.other W q⟩
theorem own_L.keep (A : own_L Z h a n) (K : Keep h h' ws) (q : a ∉ ws) : own_L Z h' a n := by obtain ⟨_, _, _, _, V⟩ := A; exact ⟨_, _, _, _, V.keep K q⟩
theorem own_A.toL (A : own_A Z h a ty n xs) : own_L Z h a n := by obtain ⟨-, k, V⟩ := A; exact ⟨_, _, _, _, V⟩
theorem own_newL {aty : ArrayType} {cap : Nat} (X : Stand p l e R s m args below meth c T locs cells slots) (hx : p.tables.exec = Jvm.exec) (hZ : Z.Warmed39 s.vm) (w : (Cond.arrayClass (newarray.typeOf aty)).before a0 Z = true) (eT : T.heap = h) (hd : decode c.code pc = .ok (.newarray aty, 2)) (hn : ¬ n < 0) (hcap : n.toNatClampNeg ≤ cap) (hb : cap * 8 ≤ 536870912) (hc : cells + 1 ≤ R.cells) (hl : slots + cap ≤ R.slots)
    (k : ∀ T' h' b, b = h.size → Stand p l e R s m args below meth c T' locs (cells + 1) (slots + cap) → T'.heap = h' → Ext h h' → own_L Z h' b n → own_Run p e below s CC SS Q T' (mkF m (pc + 2) Ls (.ref b :: rest))) :
    own_Run p e below s CC SS Q T (mkF m pc Ls (.int n :: rest)) := by
  obtain ⟨T', h', cA, X', e', E', A', sp⟩ := newP X hx hZ w eT (g := mkF m pc Ls (.int n :: rest)) rfl hd rfl hn hcap hb hc hl
  exact own_run sp (k T' h' _ rfl X' e' E' ⟨_, _, _, _, Arv.new A' hn⟩)
theorem own_lenL (X : Stand p l e R s m args below meth c T locs cells slots) (hx : p.tables.exec = Jvm.exec) (hZ : Z.Warmed39 s.vm) (eT : T.heap = h) (A : own_L Z h a n) (hd : decode c.code pc = .ok (.arraylength, 1)) (k : own_Run p e below s CC SS Q T (mkF m (pc + 1) Ls (.int n :: rest))) : own_Run p e below s CC SS Q T (mkF m pc Ls (.ref a :: rest)) := by
  obtain ⟨ty, kk, vs, d, cl, Ar, q1, Sz, Nn, H, G⟩ := A
  refine own_run (fun t kt => X.arraylength hx (by rw [eT]; exact Ar.1) (State.isArrayOf_alike hZ.alike Ar.2.1) (g := mkF m pc Ls (.ref a :: rest)) rfl rfl hd t (by rw [len_of Sz Nn]; exact kt)) k
/-- an array of references that holds nothing but null -/
def own_U (Z : State) (h : Heap) (a : Addr) (n : Int32) : Prop := ∃ (C : String) (k : ClassId), Arv Z h a k (.object C) n [] .null
theorem own_U.lt (A : own_U Z h a n) : a < h.size := by obtain ⟨_, _, V⟩ := A; exact V.lt
theorem own_U.ext (A : own_U Z h a n) (E : Ext h h') : own_U Z h' a n := by obtain ⟨_, _, V⟩ := A; exact ⟨_, _, V.ext E⟩
theorem own_U.toL (A : own_U Z h a n) : own_L Z h a n := by obtain ⟨_, _, V⟩ := A; exact ⟨_, _, _, _, V⟩
theorem own_newU {own K : String} {index cap : Nat} (X : Stand p l e R s m args below meth c T locs cells slots) (hx : p.tables.exec = Jvm.exec) (hZ : Z.Warmed39 s.vm) (hown : s.vm.findClass own = some m.cls) (w1 : (Cond.classLink own index K).before a0 Z = true) (w2 : (Cond.arrayOver (.object K)).before a0 Z = true) (eT : T.heap = h) (hd : decode c.code pc = .ok (.anewarray index, 3)) (hn : ¬ n < 0) (hcap : n.toNatClampNeg ≤ cap) (hb : cap * 8 ≤ 536870912) (hc : cells + 1 ≤ R.cells) (hl : slots + cap ≤ R.slots)
    (k : ∀ T' h' b, b = h.size → Stand p l e R s m args below meth c T' locs (cells + 1) (slots + cap) → T'.heap = h' → Ext h h' → own_U Z h' b n → own_Run p e below s CC SS Q T' (mkF m (pc + 3) Ls (.ref b :: rest))) :
    own_Run p e below s CC SS Q T (mkF m pc Ls (.int n :: rest)) := by
  obtain ⟨T', h', cA, X', e', E', A', -, sp⟩ := newR X hx hZ hown w1 w2 eT (g := mkF m pc Ls (.int n :: rest)) rfl hd rfl hn hcap hb hc hl
  exact own_run sp (k T' h' _ rfl X' e' E' ⟨_, _, Arv.new A' hn⟩)
theorem own_ldU (X : Stand p l e R s m args below meth c T locs cells slots) (hx : p.tables.exec = Jvm.exec) (hZ : Z.Warmed39 s.vm) (eT : T.heap = h) (A : own_U Z h a n) (hj : ¬ j < 0 ∧ j < n) (hd : decode c.code pc = .ok (.aaload, 1)) (k : own_Run p e below s CC SS Q T (mkF m (pc + 1) Ls (.null :: rest))) : own_Run p e below s CC SS Q T (mkF m pc Ls (.int j :: .ref a :: rest)) := by
  obtain ⟨C, kk, cl, Ar, q1, Sz, Nn, H, G⟩ := A
  have hin := inb_of Sz hj
  refine own_run (fun t kt => X.aaload hx (j := j) (v := .null) (by rw [eT]; exact Ar.1) (State.isArrayOf_alike hZ.alike Ar.2.1) rfl Ar.2.2 hin (H.at hin (by simp)) (g := mkF m pc Ls (.int j :: .ref a :: rest)) rfl rfl hd t kt) k
/-- new -/
theorem own_new {own K : String} {index sz : Nat} (X : Stand p l e R s m args below meth c T locs cells slots) (hx : p.tables.exec = Jvm.exec) (hZ : Z.Warmed39 s.vm) (hown : s.vm.findClass own = some m.cls) (w : (Cond.classLink own index K).before a0 Z = true) (wi : (Cond.instantiable K sz).before a0 Z = true) (wz : (Cond.initialized K).before a0 Z = true) (eT : T.heap = h) (hd : decode c.code pc = .ok (.new index, 3)) (hc : cells + 1 ≤ R.cells) (hl : slots + sz ≤ R.slots)
    (k : ∀ T' h' b, b = h.size → Stand p l e R s m args below meth c T' locs (cells + 1) (slots + sz) → T'.heap = h' → Ext h h' → Exa Z h' b K → (∀ {O nm d : String} {ty : FieldType}, Laid Z a0 K O nm d → parseFieldDescriptor d = some ty → Fld Z h' b O nm d (defaultValue ty)) → own_Run p e below s CC SS Q T' (mkF m (pc + 3) Ls (.ref b :: rest))) :
    own_Run p e below s CC SS Q T (mkF m pc Ls rest) := by
  obtain ⟨T', h', X', e', E', A', D', -, sp⟩ := newO X hx hZ hown w wi wz eT (g := mkF m pc Ls rest) rfl hd hc hl
  exact own_run sp (k T' h' _ rfl X' e' E' A' D')
theorem own_getF {own R0 O nm d host : String} {index : Nat} (X : Stand p l e R s m args below meth c T locs cells slots) (hx : p.tables.exec = Jvm.exec) (hZ : Z.Warmed39 s.vm) (hown : s.vm.findClass own = some m.cls) (w : (Cond.fieldLink own index R0 nm d).before a0 Z = true ∨ (Cond.fieldLinkNest own index R0 nm d host).before a0 Z = true) (via : Via Z R0 O nm d) (eT : T.heap = h) (F : Fld Z h a O nm d v) (hd : decode c.code pc = .ok (.getfield index, 3))
    (k : ∀ T', Stand p l e R s m args below meth c T' locs cells slots → T'.heap = h → own_Run p e below s CC SS Q T' (mkF m (pc + 3) Ls (v :: rest))) : own_Run p e below s CC SS Q T (mkF m pc Ls (.ref a :: rest)) := by
  obtain ⟨T', X', e', sp⟩ := getF X hx hZ hown w via eT F (g := mkF m pc Ls (.ref a :: rest)) rfl rfl hd
  exact own_run sp (k T' X' e')
theorem own_getS {own R0 O nm d : String} {index : Nat} (X : Stand p l e R s m args below meth c T locs cells slots) (hx : p.tables.exec = Jvm.exec) (hZ : Z.Warmed39 s.vm) (hown : s.vm.findClass own = some m.cls) (w : (Cond.fieldLink own index R0 nm d).before a0 Z = true) (via : Via Z R0 O nm d) (eT : T.heap = h) (F : Sta Z h O nm d v) (hd : decode c.code pc = .ok (.getstatic index, 3))
    (k : ∀ T', Stand p l e R s m args below meth c T' locs cells slots → T'.heap = h → own_Run p e below s CC SS Q T' (mkF m (pc + 3) Ls (v :: rest))) : own_Run p e below s CC SS Q T (mkF m pc Ls rest) := by
  obtain ⟨T', X', e', sp⟩ := getS (host := "") X hx hZ hown w via eT F (g := mkF m pc Ls rest) rfl hd
  exact own_run sp (k T' X' e')
theorem own_StaKeep {O nm d K : String} (F : Sta Z h O nm d v) (Kp : Keep h h' [a]) (E : Exa Z h a K) : Sta Z h' O nm d v := by
  obtain ⟨cf, i, k, f, st, cell, h1, h2, h3, h4, h5, h6, h7⟩ := F
  obtain ⟨cell', k', q1, -, -, q4, -⟩ := E
  have ne : st ≠ a := fun e => by subst e; cases h5.symm.trans q1; rw [h6] at q4; cases q4
  exact ⟨cf, i, k, f, st, cell, h1, h2, h3, h4, Kp.2.1 _ _ h5 (ninS ne nin0), h6, h7⟩
theorem own_StaKeepA {O nm d : String} (F : Sta Z h O nm d v) (Kp : Keep h h' [a]) (A : own_A Z h a ty n xs) : Sta Z h' O nm d v := by
  obtain ⟨cf, i, k, f, st, cell, h1, h2, h3, h4, h5, h6, h7⟩ := F
  obtain ⟨-, kk, cl, Ar, -⟩ := A
  have q4 := Ar.plain
  have ne : st ≠ a := fun e => by subst e; cases h5.symm.trans Ar.1; rw [h6] at q4; cases q4
  exact ⟨cf, i, k, f, st, cell, h1, h2, h3, h4, Kp.2.1 _ _ h5 (ninS ne nin0), h6, h7⟩
theorem own_putF {own R0 O nm d host K : String} {index kk : Nat} {old : Value} (X : Stand p l e R s m args below meth c T locs cells slots) (hx : p.tables.exec = Jvm.exec) (hZ : Z.Warmed39 s.vm) (hown : s.vm.findClass own = some m.cls) (w : (Cond.fieldLink own index R0 nm d).before a0 Z = true ∨ (Cond.fieldLinkNest own index R0 nm d host).before a0 Z = true) (via : Via Z R0 O nm d) (eT : T.heap = h) (F : Fld Z h a O nm d old) (E : Exa Z h a K) (L : (Cond.lays K O nm d).before a0 Z = true ∨ ((Cond.laysFinal K O nm d).before a0 Z = true ∧ own = O ∧ meth.name = "<init>")) (wi : (Cond.instantiable K kk).before a0 Z = true) (hty : parseFieldDescriptor d = some ty) (hn : narrow ty v = v) (hf : fits ty v = true) (N : Fr n0 locs) (ga : n0 ≤ a) (hd : decode c.code pc = .ok (.putfield index, 3))
    (k : ∀ T' h' locs', Stand p l e R s m args below meth c T' locs' cells slots → Fr n0 locs' → T'.heap = h' → Wr h h' a (Jvm.RoadKit.slotOf Z O nm d) v → Fld Z h' a O nm d v → own_Run p e below s CC SS Q T' (mkF m (pc + 3) Ls rest)) : own_Run p e below s CC SS Q T (mkF m pc Ls (v :: .ref a :: rest)) := by
  obtain ⟨T', h', X', e', W, sp⟩ := putF X hx hZ hown w via eT F E L wi hty hn hf (g := mkF m pc Ls (v :: .ref a :: rest)) rfl rfl hd
  exact own_run sp (k T' h' _ X' (Fr.snoc X' N ga) e' W (F.same W))
theorem own_initO {own : String} {index W : Nat} (X : Stand p l e R s m args below meth c T locs cells slots) (hx : p.tables.exec = Jvm.exec) (hZ : Z.Warmed39 s.vm) (hown : s.vm.findClass own = some m.cls) (w1 : (Cond.methodLink own index Lib.objectInit).before a0 Z = true) (w2 : (Cond.instanceMethod Lib.objectInit).before a0 Z = true) (w3 : (Cond.code Lib.objectInit ⟨#[0xb1]⟩ 1 none).before a0 Z = true) (eT : T.heap = h) (hsize : Ls.size = c.maxLocals) (hd : decode c.code pc = .ok (.invokespecial index, 3)) (hf : 1 ≤ R.frames) (hW : (rest.map fun v => v.category).sum ≤ W) (hl : W + 12 ≤ R.locals)
    (k : ∀ T', Stand p l e R s m args below meth c T' locs cells slots → T'.heap = h → own_Run p e below s CC SS Q T' (mkF m (pc + 3) Ls rest)) : own_Run p e below s CC SS Q T (mkF m pc Ls (.ref a :: rest)) := by
  obtain ⟨T', X', e', sp⟩ := initO X hx hZ hown w1 w2 w3 eT (g := mkF m pc Ls (.ref a :: rest)) rfl hsize rfl hd hf (W := W) (by show 2 * 0 + _ ≤ _; omega) hl
  exact own_run sp (k T' X' e')
variable {own : String} {index maxL W : Nat} {y z : MethodName} {bytes : ByteArray} {ret : Option FieldType} {rm : Room} {argsL : List Value} {Q' : Option Value → Heap → List Loc → Prop}
/-- a static method by its contract -/
theorem own_callS (X : Stand p l e R s m args below meth c T locs cells slots) (hx : p.tables.exec = Jvm.exec) (hZ : Z.Warmed39 s.vm) (hown : s.vm.findClass own = some m.cls) (w1 : (Cond.methodLink own index y).before a0 Z = true) (w2 : (Cond.static y).before a0 Z = true) (w3 : (Cond.initialized y.cls).before a0 Z = true) (w4 : (Cond.code y bytes maxL ret).before a0 Z = true) (hy : y.cls ≠ "java/lang/invoke/MethodHandle" ∧ y.cls ≠ "java/lang/invoke/VarHandle")
    (hM : MetFree l y (head1 [Cond.code y bytes maxL ret] rm) (fun a U => a = argsL.toArray ∧ Z.Warmed39 U.vm ∧ U.heap = h) (fun _ _ _ _ _ => True) (fun _ U o U' => ∃ v L, o = .returned v ∧ Q' v U'.heap L ∧ FrameEnd U o U' L rm.cells rm.slots)) (eT : T.heap = h) (hf : rm.frames + 1 ≤ R.frames) (hl : W + (maxL + 11) + rm.locals ≤ R.locals) (hcl : cells + rm.cells ≤ R.cells) (hsl : slots + rm.slots ≤ R.slots) (hsize : Ls.size = c.maxLocals)
    (hlen : ∀ sig, parseMethodDescriptor y.desc = some sig → argsL.length = sig.parameters.length) (hs : st = argsL.reverse ++ rest) (hW : (rest.map fun v => v.category).sum ≤ W) (hd : decode c.code pc = .ok (.invokestatic index, 3))
    (k : ∀ T' v L, Stand p l e R s m args below meth c T' (locs ++ L) (cells + rm.cells) (slots + rm.slots) → Q' v T'.heap L → own_Run p e below s CC SS Q T' (mkF m (pc + 3) Ls (v.toList ++ rest))) : own_Run p e below s CC SS Q T (mkF m pc Ls st) := by
  obtain ⟨v, _, ⟨T1, L1, k1, n1⟩, -, X1, ⟨Lc, hQ, l1, y1, z1⟩, sp⟩ := Jvm.LawKit.callS X hx hown (mvT hZ w1) (mvT hZ w2) (mvT hZ w3) (mvT hZ w4) hy (backOf (W := W) hM hZ w4 w3 hf hl) (g := mkF m pc Ls st) rfl hsize (argsL := argsL) (rest := rest) hlen hs (by show 2 * 0 + _ ≤ _; omega) hd (fun _ _ => ⟨rfl, eT, hcl, hsl⟩)
  dsimp only [Pt.U, Pt.locs, Pt.cells, Pt.slots] at X1 l1 y1 z1 sp hQ
  subst l1 y1 z1
  exact own_run sp (k T1 v Lc X1 hQ)
/-- a constructor by its contract -/
theorem own_callI (X : Stand p l e R s m args below meth c T locs cells slots) (hx : p.tables.exec = Jvm.exec) (hZ : Z.Warmed39 s.vm) (hown : s.vm.findClass own = some m.cls) (hy1 : y.name = "<init>") (w1 : (Cond.methodLink own index y).before a0 Z = true) (w2 : (Cond.instanceMethod y).before a0 Z = true) (w3 : (Cond.initialized y.cls).before a0 Z = true) (w4 : (Cond.code y bytes maxL none).before a0 Z = true) (hy : y.cls ≠ "java/lang/invoke/MethodHandle" ∧ y.cls ≠ "java/lang/invoke/VarHandle")
    (hM : MetFree l y (head1 [Cond.code y bytes maxL none] rm) (fun a U => a = (.ref b :: argsL).toArray ∧ Z.Warmed39 U.vm ∧ U.heap = h) (fun _ _ _ _ _ => True) (fun _ U o U' => ∃ v L, o = .returned v ∧ Q' v U'.heap L ∧ FrameEnd U o U' L rm.cells rm.slots)) (eT : T.heap = h) (hf : rm.frames + 1 ≤ R.frames) (hl : W + (maxL + 11) + rm.locals ≤ R.locals) (hcl : cells + rm.cells ≤ R.cells) (hsl : slots + rm.slots ≤ R.slots) (hsize : Ls.size = c.maxLocals)
    (hlen : ∀ sig, parseMethodDescriptor y.desc = some sig → argsL.length = sig.parameters.length) (hs : st = argsL.reverse ++ .ref b :: rest) (hW : (rest.map fun v => v.category).sum ≤ W) (hd : decode c.code pc = .ok (.invokespecial index, 3))
    (k : ∀ T' v L, Stand p l e R s m args below meth c T' (locs ++ L) (cells + rm.cells) (slots + rm.slots) → Q' v T'.heap L → own_Run p e below s CC SS Q T' (mkF m (pc + 3) Ls (v.toList ++ rest))) : own_Run p e below s CC SS Q T (mkF m pc Ls st) := by
  obtain ⟨v, _, ⟨T1, L1, k1, n1⟩, -, X1, ⟨Lc, hQ, l1, y1, z1⟩, sp⟩ := X.specialBack hx (y := y) hy1 hown (mvT hZ w1) (mvT hZ w2) (mvT hZ w4) hy (backOf (W := W) hM hZ w4 w3 hf hl) (g := mkF m pc Ls st) rfl hsize (Steps.refl _) (a := b) (argsL := argsL) (rest := rest) hlen hs (by show 2 * 0 + _ ≤ _; omega) hd (fun _ _ => ⟨rfl, eT, hcl, hsl⟩)
  dsimp only [Pt.U, Pt.locs, Pt.cells, Pt.slots] at X1 l1 y1 z1 sp hQ
  subst l1 y1 z1
  exact own_run (fun t kt => sp.trans kt) (k T1 v Lc X1 hQ)
/-- an instance method by its contract -/
theorem own_callV {K : String} (X : Stand p l e R s m args below meth c T locs cells slots) (hx : p.tables.exec = Jvm.exec) (hZ : Z.Warmed39 s.vm) (hown : s.vm.findClass own = some m.cls) (w1 : (Cond.methodLink own index y).before a0 Z = true) (w2 : (Cond.declares y).before a0 Z = true) (w5 : (Cond.selects K y y).before a0 Z = true) (w6 : (Cond.instanceMethod y).before a0 Z = true) (w3 : (Cond.initialized y.cls).before a0 Z = true) (w4 : (Cond.code y bytes maxL ret).before a0 Z = true) (hy : y.cls ≠ "java/lang/invoke/MethodHandle" ∧ y.cls ≠ "java/lang/invoke/VarHandle") (E : Exa Z h b K)
    (hM : MetFree l y (head1 [Cond.code y bytes maxL ret] rm) (fun a U => a = (.ref b :: argsL).toArray ∧ Z.Warmed39 U.vm ∧ U.heap = h) (fun _ _ _ _ _ => True) (fun _ U o U' => ∃ v L, o = .returned v ∧ Q' v U'.heap L ∧ FrameEnd U o U' L rm.cells rm.slots)) (eT : T.heap = h) (hf : rm.frames + 1 ≤ R.frames) (hl : W + (maxL + 11) + rm.locals ≤ R.locals) (hcl : cells + rm.cells ≤ R.cells) (hsl : slots + rm.slots ≤ R.slots) (hsize : Ls.size = c.maxLocals)
    (hlen : ∀ sig, parseMethodDescriptor y.desc = some sig → argsL.length = sig.parameters.length) (hs : st = argsL.reverse ++ .ref b :: rest) (hW : (rest.map fun v => v.category).sum ≤ W) (hd : decode c.code pc = .ok (.invokevirtual index, 3))
    (k : ∀ T' v L, Stand p l e R s m args below meth c T' (locs ++ L) (cells + rm.cells) (slots + rm.slots) → Q' v T'.heap L → own_Run p e below s CC SS Q T' (mkF m (pc + 3) Ls (v.toList ++ rest))) : own_Run p e below s CC SS Q T (mkF m pc Ls st) := by
  obtain ⟨cq, kq, qa, qb, qc⟩ := isOf hZ eT E
  obtain ⟨v, _, ⟨T1, L1, k1, n1⟩, -, X1, ⟨Lc, hQ, l1, y1, z1⟩, sp⟩ := X.virtualBack hx (y := y) (z := y) hown (mvT hZ w1) (mvT hZ w2) (notFace_of_selects (args := #[]) (mvT hZ w5)) (mvT hZ w5) (mvT hZ w6) hy (backOf (W := W) hM hZ w4 w3 hf hl) qa qc (g := mkF m pc Ls st) rfl hsize (Steps.refl _) (argsL := argsL) (rest := rest) hlen hs (by show 2 * 0 + _ ≤ _; omega) hd (fun _ _ => ⟨rfl, eT, hcl, hsl⟩)
  dsimp only [Pt.U, Pt.locs, Pt.cells, Pt.slots] at X1 l1 y1 z1 sp hQ
  subst l1 y1 z1
  exact own_run (fun t kt => sp.trans kt) (k T1 v Lc X1 hQ)
/-- a private instance method by its contract -/
theorem own_callP {kk : Nat} {K : String} (X : Stand p l e R s m args below meth c T locs cells slots) (hx : p.tables.exec = Jvm.exec) (hZ : Z.Warmed39 s.vm) (hown : s.vm.findClass own = some m.cls) (w1 : (Cond.methodLink own index y).before a0 Z = true) (w2 : (Cond.instanceMethod y).before a0 Z = true) (wi : (Cond.instantiable y.cls kk).before a0 Z = true) (wp : (Cond.privateMethod y).before a0 Z = true) (w3 : (Cond.initialized y.cls).before a0 Z = true) (w4 : (Cond.code y bytes maxL ret).before a0 Z = true) (hy : y.cls ≠ "java/lang/invoke/MethodHandle" ∧ y.cls ≠ "java/lang/invoke/VarHandle") (E : Exa Z h b K)
    (hM : MetFree l y (head1 [Cond.code y bytes maxL ret] rm) (fun a U => a = (.ref b :: argsL).toArray ∧ Z.Warmed39 U.vm ∧ U.heap = h) (fun _ _ _ _ _ => True) (fun _ U o U' => ∃ v L, o = .returned v ∧ Q' v U'.heap L ∧ FrameEnd U o U' L rm.cells rm.slots)) (eT : T.heap = h) (hf : rm.frames + 1 ≤ R.frames) (hl : W + (maxL + 11) + rm.locals ≤ R.locals) (hcl : cells + rm.cells ≤ R.cells) (hsl : slots + rm.slots ≤ R.slots) (hsize : Ls.size = c.maxLocals)
    (hlen : ∀ sig, parseMethodDescriptor y.desc = some sig → argsL.length = sig.parameters.length) (hs : st = argsL.reverse ++ .ref b :: rest) (hW : (rest.map fun v => v.category).sum ≤ W) (hd : decode c.code pc = .ok (.invokevirtual index, 3))
    (k : ∀ T' v L, Stand p l e R s m args below meth c T' (locs ++ L) (cells + rm.cells) (slots + rm.slots) → Q' v T'.heap L → own_Run p e below s CC SS Q T' (mkF m (pc + 3) Ls (v.toList ++ rest))) : own_Run p e below s CC SS Q T (mkF m pc Ls st) := by
  obtain ⟨cq, q1, q2⟩ := E.cell
  obtain ⟨cI, kI, hc, hk, -, hniab, -, -⟩ := Cond.instantiable_spec (mvT (args := args) hZ wi)
  have hni : kI.isInterface = false := (Bool.or_eq_false_iff.mp hniab).1
  have hpriv : s.PrivateAt y := Cond.privateMethod_at (mvP hZ wp (args := #[]))
  have hsel : (Cond.selects y.cls y y).before args s = true := selects_self_of_private hc hk hni hpriv (mvT hZ w2) hy
  obtain ⟨v, _, ⟨T1, L1, k1, n1⟩, -, X1, ⟨Lc, hQ, l1, y1, z1⟩, sp⟩ := X.privateBack hx (y := y) hown (mvT hZ w1) (mvT hZ w2) hsel hpriv (mvT hZ w4) hy (backOf (W := W) hM hZ w4 w3 hf hl) (g := mkF m pc Ls st) rfl hsize (Steps.refl _) (a := b) (by rw [eT]; exact q1) q2 (argsL := argsL) (rest := rest) hlen hs (by show 2 * 0 + _ ≤ _; omega) hd (fun _ _ => ⟨rfl, eT, hcl, hsl⟩)
  dsimp only [Pt.U, Pt.locs, Pt.cells, Pt.slots] at X1 l1 y1 z1 sp hQ
  subst l1 y1 z1
  exact own_run (fun t kt => sp.trans kt) (k T1 v Lc X1 hQ)
end Own
theorem own_clamp {n : Nat} (h : n < 2147483648) : (Int32.ofNat n).toNatClampNeg = n := by
  have e1 : (Int32.ofNat n).toInt = n := len_toInt h
  simp only [Int32.toNatClampNeg, e1]; omega
theorem own_one (i : Nat) : Int32.ofNat i + (1 : Int32) = Int32.ofNat (i + 1) := (Int32.ofNat_add i 1).symm
theorem own_ofnat_lt {j : Nat} {n : Int32} (h : j < 2147483648) : Int32.ofNat j < n ↔ j < n.toNatClampNeg := by
  have e1 : (Int32.ofNat j).toInt = j := len_toInt h
  rw [Int32.lt_iff_toInt_lt, e1]; simp only [Int32.toNatClampNeg]; omega
theorem own_clamp_lt (n : Int32) : n.toNatClampNeg < 2147483648 := by
  have := n.toInt_lt; simp only [Int32.toNatClampNeg]; omega
theorem own_ofnat_nn {j : Nat} (h : j < 2147483648) : ¬ Int32.ofNat j < 0 := by
  have e1 : (Int32.ofNat j).toInt = j := len_toInt h
  rw [Int32.lt_iff_toInt_lt, e1]; simp
theorem own_back {p : Int32} (h : ¬ p < 0) : Int32.ofNat p.toNatClampNeg = p := by
  have e1 : (Int32.ofNat p.toNatClampNeg).toInt = p.toNatClampNeg := len_toInt (own_clamp_lt p)
  rw [← Int32.toInt_inj, e1]
  rw [Int32.lt_iff_toInt_lt] at h
  simp only [Int32.toNatClampNeg]; simp at h; omega
theorem own_i32 {x k : Int32} (h : x.toInt = k.toInt) : x = k := Int32.toInt_inj.mp h
theorem own_and3 (x : Int32) : (x &&& (3 : Int32)) = 0 ∨ (x &&& (3 : Int32)) = 1 ∨ (x &&& (3 : Int32)) = 2 ∨ (x &&& (3 : Int32)) = 3 := by
  have e := Jvm.Kit.i32_mask x 3 (k := 2) (by decide) (by decide)
  have hb : x.toInt % 2 ^ 2 = 0 ∨ x.toInt % 2 ^ 2 = 1 ∨ x.toInt % 2 ^ 2 = 2 ∨ x.toInt % 2 ^ 2 = 3 := by omega
  rcases hb with h | h | h | h
  · exact Or.inl (own_i32 (k := 0) (e.trans h))
  · exact Or.inr (Or.inl (own_i32 (k := 1) (e.trans h)))
  · exact Or.inr (Or.inr (Or.inl (own_i32 (k := 2) (e.trans h))))
  · exact Or.inr (Or.inr (Or.inr (own_i32 (k := 3) (e.trans h))))

section OwnS
variable {p : Program} {l : Launch} {e : Env} {R : Room} {s : State} {m : MethodId} {args : Array Value} {below : List Frame} {meth : Method} {c : Code} {T T' : State} {locs : List Loc} {cells slots : Nat} {Z : State} {h h' : Heap} {n0 : Nat} {a0 : Array Value} {CC SS : Nat} {Q : Option Value → Heap → List Loc → Prop} {g g' : JFrame} {pc : Nat} {Ls : Array Slot} {rest st : List Value} {a b : Addr}
theorem own_instY {own K : String} {index : Nat} (X : Stand p l e R s m args below meth c T locs cells slots) (hx : p.tables.exec = Jvm.exec) (hZ : Z.Warmed39 s.vm) (hown : s.vm.findClass own = some m.cls) (w : (Cond.classLink own index K).before a0 Z = true) (eT : T.heap = h) (F : Ins Z h a K true) (hd : decode c.code pc = .ok (.instanceof index, 3))
    (k : ∀ T', Stand p l e R s m args below meth c T' locs cells slots → T'.heap = h → own_Run p e below s CC SS Q T' (mkF m (pc + 3) Ls (.int 1 :: rest))) : own_Run p e below s CC SS Q T (mkF m pc Ls (.ref a :: rest)) := by
  obtain ⟨T', X', e', sp⟩ := instY X hx hZ hown w eT F (g := mkF m pc Ls (.ref a :: rest)) rfl rfl hd
  exact own_run sp (k T' X' e')
theorem own_castY {own K : String} {index : Nat} (X : Stand p l e R s m args below meth c T locs cells slots) (hx : p.tables.exec = Jvm.exec) (hZ : Z.Warmed39 s.vm) (hown : s.vm.findClass own = some m.cls) (w : (Cond.classLink own index K).before a0 Z = true) (eT : T.heap = h) (F : Ins Z h a K true) (hd : decode c.code pc = .ok (.checkcast index, 3))
    (k : ∀ T', Stand p l e R s m args below meth c T' locs cells slots → T'.heap = h → own_Run p e below s CC SS Q T' (mkF m (pc + 3) Ls (.ref a :: rest))) : own_Run p e below s CC SS Q T (mkF m pc Ls (.ref a :: rest)) := by
  obtain ⟨T', X', e', sp⟩ := castY X hx hZ hown w eT F (g := mkF m pc Ls (.ref a :: rest)) rfl rfl hd
  exact own_run sp (k T' X' e')
theorem own_neY {a b : Addr} (h : ¬ a = b) : if_acmp.holds .ne (some a) (some b) = true := by simp [if_acmp.holds, h]
theorem own_neN {a b : Addr} (h : a = b) : if_acmp.holds .ne (some a) (some b) = false := by simp [if_acmp.holds, h]
theorem own_Fld_fun {C n d : String} {v w : Value} (F : Fld Z h a C n d v) (G : Fld Z h a C n d w) : v = w := by
  refine Classical.byContradiction fun q => Fld.ne F G q rfl
theorem own_A_fun {n n' : Int32} {xs ys : List Int32} {ty ty' : FieldType} (A : own_A Z h a ty n xs) (B : own_A Z h a ty' n' ys) : xs = ys := by
  obtain ⟨hl, k, cl, Ar, q1, Sz, Nn, H, G⟩ := A
  obtain ⟨hl', k', cl', Ar', q1', Sz', Nn', H', G'⟩ := B
  cases Ar.1.symm.trans Ar'.1
  have el : xs.length = ys.length := by rw [hl, hl', ← Sz, ← Sz']
  apply List.ext_getElem? 
  intro i
  by_cases hi : i < cl.slots.size
  · have e1 := H i hi
    have e2 := H' i hi
    rw [own_getD] at e1 e2
    have e3 := Option.some.inj (e1.symm.trans e2)
    have e4 : xs.getD i 0 = ys.getD i 0 := by injection e3
    have x1 : i < xs.length := by rw [hl, ← Sz]; exact hi
    have y1 : i < ys.length := by rw [← el]; exact x1
    simp only [List.getD_eq_getElem?_getD, List.getElem?_eq_getElem x1, List.getElem?_eq_getElem y1, Option.getD_some] at e4
    rw [List.getElem?_eq_getElem x1, List.getElem?_eq_getElem y1, e4]
  · rw [List.getElem?_eq_none (by rw [hl, ← Sz]; omega), List.getElem?_eq_none (by rw [hl', ← Sz']; omega)]
def own_eqv (xs ys : List Int32) : Int32 := if xs = ys then (1 : Int32) else (0 : Int32)
theorem own_lext {xs ys : List Int32} (hl : xs.length = ys.length) (h : ∀ k, k < xs.length → xs.getD k 0 = ys.getD k 0) : xs = ys := by
  apply List.ext_getElem? 
  intro i
  by_cases x1 : i < xs.length
  · have y1 : i < ys.length := by rw [← hl]; exact x1
    have e4 := h i x1
    simp only [List.getD_eq_getElem?_getD, List.getElem?_eq_getElem x1, List.getElem?_eq_getElem y1, Option.getD_some] at e4
    rw [List.getElem?_eq_getElem x1, List.getElem?_eq_getElem y1, e4]
  · rw [List.getElem?_eq_none (by omega), List.getElem?_eq_none (by omega)]
theorem own_eq1 {xs ys : List Int32} (h : xs = ys) : own_eqv xs ys = 1 := if_pos h
theorem own_eq0 {xs ys : List Int32} (h : ¬ xs = ys) : own_eqv xs ys = 0 := if_neg h
end OwnS

theorem own_pn3 : plainName "java/lang/StringLatin1" = true := by first | (simp [plainName, overriddenIn]; done) | decide +kernel
theorem own_ef3 (m : MethodId) (o0 : Addr) (o1 : Addr) : entryFrame m #[(.ref o0), (.ref o1)] 3 = mkF m 0 #[.val (.ref o0), .val (.ref o1), .unset] [] := by first | (simp [entryFrame, mkF, argsToLocals, Value.category]; done) | rfl
def own_R3 : Room := ({ frames := 0, cells := 0, slots := 0, locals := 0 } : Room)
def Q3 (xs ys : List Int32) (h0 : Heap) (n0 : Nat) (v : Option Value) (h : Heap) (L : List Loc) : Prop := v = some (.int (own_eqv xs ys)) ∧ Fr n0 L ∧ h = h0
theorem d3_0 : decode jdk_43_method_13_code 0 = .ok (.aload_n 0, 1) := by decide +kernel
theorem d3_1 : decode jdk_43_method_13_code 1 = .ok (.arraylength, 1) := by decide +kernel
theorem d3_2 : decode jdk_43_method_13_code 2 = .ok (.aload_n 1, 1) := by decide +kernel
theorem d3_3 : decode jdk_43_method_13_code 3 = .ok (.arraylength, 1) := by decide +kernel
theorem d3_4 : decode jdk_43_method_13_code 4 = .ok (.if_icmp .ne 30, 3) := by decide +kernel
theorem d3_7 : decode jdk_43_method_13_code 7 = .ok (.iconst 0, 1) := by decide +kernel
theorem d3_8 : decode jdk_43_method_13_code 8 = .ok (.istore_n 2, 1) := by decide +kernel
theorem d3_9 : decode jdk_43_method_13_code 9 = .ok (.iload_n 2, 1) := by decide +kernel
theorem d3_10 : decode jdk_43_method_13_code 10 = .ok (.aload_n 0, 1) := by decide +kernel
theorem d3_11 : decode jdk_43_method_13_code 11 = .ok (.arraylength, 1) := by decide +kernel
theorem d3_12 : decode jdk_43_method_13_code 12 = .ok (.if_icmp .ge 20, 3) := by decide +kernel
theorem d3_15 : decode jdk_43_method_13_code 15 = .ok (.aload_n 0, 1) := by decide +kernel
theorem d3_16 : decode jdk_43_method_13_code 16 = .ok (.iload_n 2, 1) := by decide +kernel
theorem d3_17 : decode jdk_43_method_13_code 17 = .ok (.baload, 1) := by decide +kernel
theorem d3_18 : decode jdk_43_method_13_code 18 = .ok (.aload_n 1, 1) := by decide +kernel
theorem d3_19 : decode jdk_43_method_13_code 19 = .ok (.iload_n 2, 1) := by decide +kernel
theorem d3_20 : decode jdk_43_method_13_code 20 = .ok (.baload, 1) := by decide +kernel
theorem d3_21 : decode jdk_43_method_13_code 21 = .ok (.if_icmp .eq 5, 3) := by decide +kernel
theorem d3_24 : decode jdk_43_method_13_code 24 = .ok (.iconst 0, 1) := by decide +kernel
theorem d3_25 : decode jdk_43_method_13_code 25 = .ok (.ireturn, 1) := by decide +kernel
theorem d3_26 : decode jdk_43_method_13_code 26 = .ok (.iinc 2 1, 3) := by decide +kernel
theorem d3_29 : decode jdk_43_method_13_code 29 = .ok (.goto (-20), 3) := by decide +kernel
theorem d3_32 : decode jdk_43_method_13_code 32 = .ok (.iconst 1, 1) := by decide +kernel
theorem d3_33 : decode jdk_43_method_13_code 33 = .ok (.ireturn, 1) := by decide +kernel
theorem d3_34 : decode jdk_43_method_13_code 34 = .ok (.iconst 0, 1) := by decide +kernel
theorem d3_35 : decode jdk_43_method_13_code 35 = .ok (.ireturn, 1) := by decide +kernel
set_option maxRecDepth 65536 in
set_option maxHeartbeats 40000000 in
theorem rm3 (l : Launch) (Z : State) (a0 : Array Value) (hw : ∀ d ∈ tables_1, d.before a0 Z = true) (ws : List Jvm.Cond) (o0 : Addr) (o1 : Addr) (n1 n2 : Int32) (xs ys : List Int32) (h0 : Heap) (n0 : Nat) (A1 : own_A Z h0 o0 .byte n1 xs) (A2 : own_A Z h0 o1 .byte n2 ys) :
    MetFree l (⟨"java/lang/StringLatin1", "equals", "([B[B)Z"⟩ : MethodName) (head1 (Jvm.Cond.code (⟨"java/lang/StringLatin1", "equals", "([B[B)Z"⟩ : MethodName) jdk_43_method_13_code 3 (some .boolean) :: ws) own_R3) (fun a U => a = #[(.ref o0), (.ref o1)] ∧ Z.Warmed39 U.vm ∧ U.heap = h0) (fun _ _ _ _ _ => True) (fun _ U o U' => ∃ v L, o = .returned v ∧ Q3 xs ys h0 n0 v U'.heap L ∧ FrameEnd U o U' L own_R3.cells own_R3.slots) := by
  refine MetFree.of_bodySF (plainFor_of_name own_pn3) hisR ?_
  intro p e s m args below meth c s₁ Bd hml0 hP hK
  obtain ⟨ha, hZ, hh⟩ := hP
  have hx := Bd.exec
  have hby := Bd.bytes
  have hml : c.maxLocals = 3 := hml0
  have hown : s.vm.findClass "java/lang/StringLatin1" = some m.cls := findClass_of_methodNamed Bd.named
  have hnm := (name_of_methodNamed Bd.named Bd.method).1
  have X0 : Stand p l e own_R3 s m args below meth c s₁ [] 0 0 := Stand.of_body Bd
  have e0 : s₁.heap = h0 := by rw [← hh, Bd.state]; rfl
  have N0 := Fr.nil n0
  refine own_enter (Q := (Q3 xs ys h0 n0)) (g := mkF m 0 #[.val (.ref o0), .val (.ref o1), .unset] []) (by rw [ha]; exact own_ef3 m o0 o1) ?_
  refine own_run (g' := (mkF m 1 #[.val (.ref o0), .val (.ref o1), .unset] [(.ref o0)])) (fun _ kt => XS.aloadN X0.here hx rfl (hb hby d3_0) rfl rfl (kt)) ?_
  refine own_len X0 hx hZ e0 A1 (hb hby d3_1) ?_
  refine own_run (g' := (mkF m 3 #[.val (.ref o0), .val (.ref o1), .unset] [(.ref o1), (.int n1)])) (fun _ kt => XS.aloadN X0.here hx rfl (hb hby d3_2) rfl rfl (kt)) ?_
  refine own_len X0 hx hZ e0 A2 (hb hby d3_3) ?_
  by_cases hc4 : n1 = n2
  · refine own_run (g' := (mkF m 9 #[.val (.ref o0), .val (.ref o1), .val (.int (0 : Int32))] [])) (fun _ kt => XS.icmpNo X0.here hx rfl (hb hby d3_4) rfl ((teq hc4).2) (XS.iconst X0.here hx rfl (hb hby d3_7) (XS.istoreN X0.here hx rfl (hb hby d3_8) rfl (l' := #[.val (.ref o0), .val (.ref o1), .val (.int (0 : Int32))]) rfl (kt)))) ?_
    have loop1 : ∀ (mz : Nat) (T1 : State) (L1 : List Loc) (i : Int32) (j : Nat), Stand p l e own_R3 s m args below meth c T1 L1 0 0 → Fr n0 L1 → T1.heap = h0 → (i = Int32.ofNat j) → (j ≤ n1.toNatClampNeg) → (∀ k, k < j → xs.getD k 0 = ys.getD k 0) → n1.toNatClampNeg - j = mz → own_Run p e below s own_R3.cells own_R3.slots (Q3 xs ys h0 n0) T1 (mkF m 9 #[.val (.ref o0), .val (.ref o1), .val (.int i)] []) := by
      intro mz
      induction mz using Nat.strongRecOn with
      | _ mz ih1 =>
        intro T1 L1 i j X1 N1 e1 hij hj hall hmz
        refine own_run (g' := (mkF m 11 #[.val (.ref o0), .val (.ref o1), .val (.int i)] [(.ref o0), (.int i)])) (fun _ kt => XS.iloadN X1.here hx rfl (hb hby d3_9) rfl (XS.aloadN X1.here hx rfl (hb hby d3_10) rfl rfl (kt))) ?_
        refine own_len X1 hx hZ e1 A1 (hb hby d3_11) ?_
        have hnl := own_clamp_lt n1
        have hjc : i.toNatClampNeg = j := by rw [hij]; exact own_clamp (by omega)
        have hcc : i < n1 ↔ j < n1.toNatClampNeg := by rw [hij]; exact own_ofnat_lt (by omega)
        by_cases hc12 : i < n1
        · refine own_run (g' := (mkF m 15 #[.val (.ref o0), .val (.ref o1), .val (.int i)] [])) (fun _ kt => XS.icmpNo X1.here hx rfl (hb hby d3_12) rfl ((tlt hc12).2.1) (kt)) ?_
          have hjn : j < n1.toNatClampNeg := hcc.mp hc12
          have hin : ¬ i < 0 ∧ i < n1 := ⟨by rw [hij]; exact own_ofnat_nn (by omega), hc12⟩
          refine own_run (g' := (mkF m 17 #[.val (.ref o0), .val (.ref o1), .val (.int i)] [(.int i), (.ref o0)])) (fun _ kt => XS.aloadN X1.here hx rfl (hb hby d3_15) rfl rfl (XS.iloadN X1.here hx rfl (hb hby d3_16) rfl (kt))) ?_
          refine own_ldB X1 hx hZ e1 A1 (j := i) hin (hb hby d3_17) (x := (xs.getD i.toNatClampNeg 0)) rfl ?_
          refine own_run (g' := (mkF m 20 #[.val (.ref o0), .val (.ref o1), .val (.int i)] [(.int i), (.ref o1), (.int (xs.getD i.toNatClampNeg 0))])) (fun _ kt => XS.aloadN X1.here hx rfl (hb hby d3_18) rfl rfl (XS.iloadN X1.here hx rfl (hb hby d3_19) rfl (kt))) ?_
          refine own_ldB X1 hx hZ e1 A2 (j := i) (hc4 ▸ hin) (hb hby d3_20) (x := (ys.getD i.toNatClampNeg 0)) rfl ?_
          by_cases hc21 : (xs.getD i.toNatClampNeg 0) = (ys.getD i.toNatClampNeg 0)
          · refine own_run (g' := (mkF m 9 #[.val (.ref o0), .val (.ref o1), .val (.int (i + (1 : Int32)))] [])) (fun _ kt => XS.icmpYes X1.here hx rfl (pc0 := 21) (pc' := 26) rfl (hb hby d3_21) rfl ((teq hc21).1) (by decide) (by decide) (XS.iinc X1.here hx rfl (hb hby d3_26) rfl (l' := #[.val (.ref o0), .val (.ref o1), .val (.int (i + (1 : Int32)))]) rfl (XS.goto X1.here hx rfl (pc0 := 29) (pc' := 9) rfl (hb hby d3_29) (by decide) (by decide) (kt)))) ?_
            exact ih1 _ (by omega) T1 _ (i + (1 : Int32)) (j + 1) X1 N1 e1 (by rw [hij]; exact own_one _) hjn (fun k q => (Nat.lt_succ_iff_lt_or_eq.mp q).elim (hall k) (fun z => by rw [z, ← hjc]; exact hc21)) rfl
          · refine own_run (g' := (mkF m 25 #[.val (.ref o0), .val (.ref o1), .val (.int i)] [(.int (0 : Int32))])) (fun _ kt => XS.icmpNo X1.here hx rfl (hb hby d3_21) rfl ((feq hc21).1) (XS.iconst X1.here hx rfl (hb hby d3_24) (kt))) ?_
            exact own_retN (t := .boolean) X1 hx Bd.notSynchronized Bd.returns (by simp) (hb hby d3_25) (by decide) (by decide) ⟨by rw [own_eq0 (fun q => hc21 (by rw [q]))]; rfl, N1, e1⟩
        · refine own_run (g' := (mkF m 33 #[.val (.ref o0), .val (.ref o1), .val (.int i)] [(.int (1 : Int32))])) (fun _ kt => XS.icmpYes X1.here hx rfl (pc0 := 12) (pc' := 32) rfl (hb hby d3_12) rfl ((flt hc12).2.1) (by decide) (by decide) (XS.iconst X1.here hx rfl (hb hby d3_32) (kt))) ?_
          exact own_retN (t := .boolean) X1 hx Bd.notSynchronized Bd.returns (by simp) (hb hby d3_33) (by decide) (by decide) ⟨by rw [own_eq1 (own_lext (by rw [A1.1, A2.1, hc4]) (fun k q => hall k (by have z : ¬ j < n1.toNatClampNeg := fun z => hc12 (hcc.mpr z); rw [A1.1] at q; omega)))]; rfl, N1, e1⟩
    exact loop1 _ s₁ _ (0 : Int32) 0 X0 N0 e0 rfl (Nat.zero_le _) (fun k q => absurd q (Nat.not_lt_zero _)) rfl
  · refine own_run (g' := (mkF m 35 #[.val (.ref o0), .val (.ref o1), .unset] [(.int (0 : Int32))])) (fun _ kt => XS.icmpYes X0.here hx rfl (pc0 := 4) (pc' := 34) rfl (hb hby d3_4) rfl ((feq hc4).2) (by decide) (by decide) (XS.iconst X0.here hx rfl (hb hby d3_34) (kt))) ?_
    exact own_retN (t := .boolean) X0 hx Bd.notSynchronized Bd.returns (by simp) (hb hby d3_35) (by decide) (by decide) ⟨by rw [own_eq0 (fun q => hc4 (by have h1 := A1.1; have h2 := A2.1; rw [q] at h1; rw [← own_back A1.nn, ← own_back A2.nn, ← h1, ← h2]))]; rfl, N0, e0⟩
theorem own_pn2 : plainName "java/lang/String" = true := by first | (simp [plainName, overriddenIn]; done) | decide +kernel
theorem own_ef2 (m : MethodId) (o0 : Addr) (o1 : Addr) : entryFrame m #[(.ref o0), (.ref o1)] 3 = mkF m 0 #[.val (.ref o0), .val (.ref o1), .unset] [] := by first | (simp [entryFrame, mkF, argsToLocals, Value.category]; done) | rfl
def own_R2 : Room := ({ frames := 1, cells := 0, slots := 0, locals := 14 } : Room)
def Q2 (xs ys : List Int32) (h0 : Heap) (n0 : Nat) (v : Option Value) (h : Heap) (L : List Loc) : Prop := v = some (.int (own_eqv xs ys)) ∧ Fr n0 L ∧ h = h0
theorem own_pd0 : parseMethodDescriptor "([B[B)Z" = some ⟨[(.array .byte), (.array .byte)], some .boolean⟩ := by decide +kernel
theorem d2_0 : decode jdk_42_method_66_code 0 = .ok (.aload_n 0, 1) := by decide +kernel
theorem d2_1 : decode jdk_42_method_66_code 1 = .ok (.aload_n 1, 1) := by decide +kernel
theorem d2_2 : decode jdk_42_method_66_code 2 = .ok (.if_acmp .ne 5, 3) := by decide +kernel
theorem d2_5 : decode jdk_42_method_66_code 5 = .ok (.iconst 1, 1) := by decide +kernel
theorem d2_6 : decode jdk_42_method_66_code 6 = .ok (.ireturn, 1) := by decide +kernel
theorem d2_7 : decode jdk_42_method_66_code 7 = .ok (.aload_n 1, 1) := by decide +kernel
theorem d2_8 : decode jdk_42_method_66_code 8 = .ok (.instanceof 10, 3) := by decide +kernel
theorem d2_11 : decode jdk_42_method_66_code 11 = .ok (.ifCond .eq 43, 3) := by decide +kernel
theorem d2_14 : decode jdk_42_method_66_code 14 = .ok (.aload_n 1, 1) := by decide +kernel
theorem d2_15 : decode jdk_42_method_66_code 15 = .ok (.checkcast 10, 3) := by decide +kernel
theorem d2_18 : decode jdk_42_method_66_code 18 = .ok (.astore_n 2, 1) := by decide +kernel
theorem d2_19 : decode jdk_42_method_66_code 19 = .ok (.getstatic 38, 3) := by decide +kernel
theorem d2_22 : decode jdk_42_method_66_code 22 = .ok (.ifCond .eq 14, 3) := by decide +kernel
theorem d2_25 : decode jdk_42_method_66_code 25 = .ok (.aload_n 0, 1) := by decide +kernel
theorem d2_26 : decode jdk_42_method_66_code 26 = .ok (.getfield 15, 3) := by decide +kernel
theorem d2_29 : decode jdk_42_method_66_code 29 = .ok (.aload_n 2, 1) := by decide +kernel
theorem d2_30 : decode jdk_42_method_66_code 30 = .ok (.getfield 15, 3) := by decide +kernel
theorem d2_33 : decode jdk_42_method_66_code 33 = .ok (.if_icmp .ne 21, 3) := by decide +kernel
theorem d2_36 : decode jdk_42_method_66_code 36 = .ok (.aload_n 0, 1) := by decide +kernel
theorem d2_37 : decode jdk_42_method_66_code 37 = .ok (.getfield 9, 3) := by decide +kernel
theorem d2_40 : decode jdk_42_method_66_code 40 = .ok (.aload_n 2, 1) := by decide +kernel
theorem d2_41 : decode jdk_42_method_66_code 41 = .ok (.getfield 9, 3) := by decide +kernel
theorem d2_44 : decode jdk_42_method_66_code 44 = .ok (.invokestatic 541, 3) := by decide +kernel
theorem d2_47 : decode jdk_42_method_66_code 47 = .ok (.ifCond .eq 7, 3) := by decide +kernel
theorem d2_50 : decode jdk_42_method_66_code 50 = .ok (.iconst 1, 1) := by decide +kernel
theorem d2_51 : decode jdk_42_method_66_code 51 = .ok (.goto 4, 3) := by decide +kernel
theorem d2_54 : decode jdk_42_method_66_code 54 = .ok (.iconst 0, 1) := by decide +kernel
theorem d2_55 : decode jdk_42_method_66_code 55 = .ok (.ireturn, 1) := by decide +kernel
set_option maxRecDepth 65536 in
set_option maxHeartbeats 40000000 in
theorem rm2 (l : Launch) (Z : State) (a0 : Array Value) (hw : ∀ d ∈ tables_1, d.before a0 Z = true) (ws : List Jvm.Cond) (o0 : Addr) (o1 : Addr) (x y : Addr) (n1 n2 cs : Int32) (xs ys : List Int32) (h0 : Heap) (n0 : Nat) (K1 : Exa Z h0 o1 "java/lang/String") (F1 : Fld Z h0 o0 "java/lang/String" "coder" "B" (.int (0 : Int32))) (F2 : Fld Z h0 o0 "java/lang/String" "value" "[B" (.ref x)) (F3 : Fld Z h0 o1 "java/lang/String" "coder" "B" (.int (0 : Int32))) (F4 : Fld Z h0 o1 "java/lang/String" "value" "[B" (.ref y)) (A1 : own_A Z h0 x .byte n1 xs) (A2 : own_A Z h0 y .byte n2 ys) (S0 : Sta Z h0 "java/lang/String" "COMPACT_STRINGS" "Z" (.int cs)) (hcs : ¬ cs = (0 : Int32)) :
    MetFree l (⟨"java/lang/String", "equals", "(Ljava/lang/Object;)Z"⟩ : MethodName) (head1 (Jvm.Cond.code (⟨"java/lang/String", "equals", "(Ljava/lang/Object;)Z"⟩ : MethodName) jdk_42_method_66_code 3 (some .boolean) :: ws) own_R2) (fun a U => a = #[(.ref o0), (.ref o1)] ∧ Z.Warmed39 U.vm ∧ U.heap = h0) (fun _ _ _ _ _ => True) (fun _ U o U' => ∃ v L, o = .returned v ∧ Q2 xs ys h0 n0 v U'.heap L ∧ FrameEnd U o U' L own_R2.cells own_R2.slots) := by
  refine MetFree.of_bodySF (plainFor_of_name own_pn2) hisR ?_
  intro p e s m args below meth c s₁ Bd hml0 hP hK
  obtain ⟨ha, hZ, hh⟩ := hP
  have hx := Bd.exec
  have hby := Bd.bytes
  have hml : c.maxLocals = 3 := hml0
  have hown : s.vm.findClass "java/lang/String" = some m.cls := findClass_of_methodNamed Bd.named
  have hnm := (name_of_methodNamed Bd.named Bd.method).1
  have X0 : Stand p l e own_R2 s m args below meth c s₁ [] 0 0 := Stand.of_body Bd
  have e0 : s₁.heap = h0 := by rw [← hh, Bd.state]; rfl
  have N0 := Fr.nil n0
  refine own_enter (Q := (Q2 xs ys h0 n0)) (g := mkF m 0 #[.val (.ref o0), .val (.ref o1), .unset] []) (by rw [ha]; exact own_ef2 m o0 o1) ?_
  refine own_run (g' := (mkF m 2 #[.val (.ref o0), .val (.ref o1), .unset] [(.ref o1), (.ref o0)])) (fun _ kt => XS.aloadN X0.here hx rfl (hb hby d2_0) rfl rfl (XS.aloadN X0.here hx rfl (hb hby d2_1) rfl rfl (kt))) ?_
  by_cases hq : o0 = o1
  · refine own_run (g' := (mkF m 6 #[.val (.ref o0), .val (.ref o1), .unset] [(.int (1 : Int32))])) (fun _ kt => XS.acmpNo X0.here hx rfl (hb hby d2_2) rfl (own_neN hq) (XS.iconst X0.here hx rfl (hb hby d2_5) (kt))) ?_
    exact own_retN (t := .boolean) X0 hx Bd.notSynchronized Bd.returns (by simp) (hb hby d2_6) (by decide) (by decide) ⟨by rw [own_eq1 (own_A_fun A1 (by have z := own_Fld_fun F2 (hq ▸ F4); injection z with z; rw [z]; exact A2))]; rfl, N0, e0⟩
  · refine own_run (g' := (mkF m 8 #[.val (.ref o0), .val (.ref o1), .unset] [(.ref o1)])) (fun _ kt => XS.acmpYes X0.here hx rfl (pc0 := 2) (pc' := 7) rfl (hb hby d2_2) rfl (own_neY hq) (by decide) (by decide) (XS.aloadN X0.here hx rfl (hb hby d2_7) rfl rfl (kt))) ?_
    refine own_instY X0 hx hZ hown (hw _ (List.mem_of_getElem? (i := 23) rfl)) e0 (Ins.of_exa K1 (hw _ (List.mem_of_getElem? (i := 24) rfl))) (hb hby d2_8) ?_
    intro T1 X1 e1
    have hd11 : ¬ ((1 : Int32) = (0 : Int32)) := by decide
    refine own_run (g' := (mkF m 15 #[.val (.ref o0), .val (.ref o1), .unset] [(.ref o1)])) (fun _ kt => XS.ifNo X1.here hx rfl (hb hby d2_11) rfl ((if0 _ _).trans (feq hd11).1) (XS.aloadN X1.here hx rfl (hb hby d2_14) rfl rfl (kt))) ?_
    refine own_castY X1 hx hZ hown (hw _ (List.mem_of_getElem? (i := 23) rfl)) e1 (Ins.of_exa K1 (hw _ (List.mem_of_getElem? (i := 24) rfl))) (hb hby d2_15) ?_
    intro T2 X2 e2
    refine own_run (g' := (mkF m 19 #[.val (.ref o0), .val (.ref o1), .val (.ref o1)] [])) (fun _ kt => XS.astoreN X2.here hx rfl (hb hby d2_18) rfl rfl (l' := #[.val (.ref o0), .val (.ref o1), .val (.ref o1)]) rfl (kt)) ?_
    refine own_getS X2 hx hZ hown (hw _ (List.mem_of_getElem? (i := 25) rfl)) Via.refl e2 S0 (hb hby d2_19) ?_
    intro T3 X3 e3
    have hd22 : ¬ (cs = (0 : Int32)) := hcs
    refine own_run (g' := (mkF m 26 #[.val (.ref o0), .val (.ref o1), .val (.ref o1)] [(.ref o0)])) (fun _ kt => XS.ifNo X3.here hx rfl (hb hby d2_22) rfl ((if0 _ _).trans (feq hd22).1) (XS.aloadN X3.here hx rfl (hb hby d2_25) rfl rfl (kt))) ?_
    refine own_getF X3 hx hZ hown (host := "") (Or.inl (hw _ (List.mem_of_getElem? (i := 26) rfl))) Via.refl e3 F1 (hb hby d2_26) ?_
    intro T4 X4 e4
    refine own_run (g' := (mkF m 30 #[.val (.ref o0), .val (.ref o1), .val (.ref o1)] [(.ref o1), (.int (0 : Int32))])) (fun _ kt => XS.aloadN X4.here hx rfl (hb hby d2_29) rfl rfl (kt)) ?_
    refine own_getF X4 hx hZ hown (host := "") (Or.inl (hw _ (List.mem_of_getElem? (i := 26) rfl))) Via.refl e4 F3 (hb hby d2_30) ?_
    intro T5 X5 e5
    have hd33 : (0 : Int32) = (0 : Int32) := by decide
    refine own_run (g' := (mkF m 37 #[.val (.ref o0), .val (.ref o1), .val (.ref o1)] [(.ref o0)])) (fun _ kt => XS.icmpNo X5.here hx rfl (hb hby d2_33) rfl ((teq hd33).2) (XS.aloadN X5.here hx rfl (hb hby d2_36) rfl rfl (kt))) ?_
    refine own_getF X5 hx hZ hown (host := "") (Or.inl (hw _ (List.mem_of_getElem? (i := 27) rfl))) Via.refl e5 F2 (hb hby d2_37) ?_
    intro T6 X6 e6
    refine own_run (g' := (mkF m 41 #[.val (.ref o0), .val (.ref o1), .val (.ref o1)] [(.ref o1), (.ref x)])) (fun _ kt => XS.aloadN X6.here hx rfl (hb hby d2_40) rfl rfl (kt)) ?_
    refine own_getF X6 hx hZ hown (host := "") (Or.inl (hw _ (List.mem_of_getElem? (i := 27) rfl))) Via.refl e6 F4 (hb hby d2_41) ?_
    intro T7 X7 e7
    refine own_callS X7 hx hZ hown (hw _ (List.mem_of_getElem? (i := 28) rfl)) (hw _ (List.mem_of_getElem? (i := 29) rfl)) (hw _ (List.mem_of_getElem? (i := 30) rfl)) (hw _ (List.mem_of_getElem? (i := 31) rfl)) (by decide) (rm3 l Z a0 hw [] x y n1 n2 xs ys h0 n0 A1 A2) e7 (by decide) (by decide) (by decide) (by decide) (by rw [hml]; rfl) (argsL := [(.ref x), (.ref y)]) (rest := []) (lenOf own_pd0 rfl) rfl (W := 0) (Nat.le_of_eq rfl) (hb hby d2_44) ?_
    intro T8 r8 L8 X8 hQ8
    obtain ⟨rfl, Nq8, e8⟩ := hQ8
    have N8 := Fr.app N0 Nq8
    by_cases hc47 : (own_eqv xs ys) = (0 : Int32)
    · refine own_run (g' := (mkF m 55 #[.val (.ref o0), .val (.ref o1), .val (.ref o1)] [(.int (0 : Int32))])) (fun _ kt => XS.ifYes X8.here hx rfl (pc0 := 47) (pc' := 54) rfl (hb hby d2_47) rfl ((if0 _ _).trans (teq hc47).1) (by decide) (by decide) (XS.iconst X8.here hx rfl (hb hby d2_54) (kt))) ?_
      exact own_retN (t := .boolean) X8 hx Bd.notSynchronized Bd.returns (by simp) (hb hby d2_55) (by decide) (by decide) ⟨by rw [hc47]; rfl, N8, e8⟩
    · refine own_run (g' := (mkF m 55 #[.val (.ref o0), .val (.ref o1), .val (.ref o1)] [(.int (1 : Int32))])) (fun _ kt => XS.ifNo X8.here hx rfl (hb hby d2_47) rfl ((if0 _ _).trans (feq hc47).1) (XS.iconst X8.here hx rfl (hb hby d2_50) (XS.goto X8.here hx rfl (pc0 := 51) (pc' := 55) rfl (hb hby d2_51) (by decide) (by decide) (kt)))) ?_
      exact own_retN (t := .boolean) X8 hx Bd.notSynchronized Bd.returns (by simp) (hb hby d2_55) (by decide) (by decide) ⟨by rw [own_eq1 (Classical.byContradiction fun z => hc47 (own_eq0 z))]; rfl, N8, e8⟩
theorem own_pn4 : plainName "com/example/output_under_guard/outputunderguard/PrinterPath" = true := by first | (simp [plainName, overriddenIn]; done) | decide +kernel
theorem own_ef4 (m : MethodId) (o0 : Addr) : entryFrame m #[(.ref o0)] 1 = mkF m 0 #[.val (.ref o0)] [] := by first | (simp [entryFrame, mkF, argsToLocals, Value.category]; done) | rfl
def own_R4 : Room := ({ frames := 0, cells := 0, slots := 0, locals := 0 } : Room)
def Q4 (z : Addr) (h0 : Heap) (n0 : Nat) (v : Option Value) (h : Heap) (L : List Loc) : Prop := v = some (.ref z) ∧ Fr n0 L ∧ h = h0
theorem d4_0 : decode prog_39_method_5_code 0 = .ok (.aload_n 0, 1) := by decide +kernel
theorem d4_1 : decode prog_39_method_5_code 1 = .ok (.getfield 33, 3) := by decide +kernel
theorem d4_4 : decode prog_39_method_5_code 4 = .ok (.areturn, 1) := by decide +kernel
set_option maxRecDepth 65536 in
set_option maxHeartbeats 40000000 in
theorem rm4 (l : Launch) (Z : State) (a0 : Array Value) (hw : ∀ d ∈ tables_1, d.before a0 Z = true) (ws : List Jvm.Cond) (o0 : Addr) (x : Addr) (h0 : Heap) (n0 : Nat) (F1 : Fld Z h0 o0 "com/example/output_under_guard/outputunderguard/PrinterPath" "authentication" "Ljava/lang/String;" (.ref x)) :
    MetFree l (⟨"com/example/output_under_guard/outputunderguard/PrinterPath", "authentication", "()Ljava/lang/String;"⟩ : MethodName) (head1 (Jvm.Cond.code (⟨"com/example/output_under_guard/outputunderguard/PrinterPath", "authentication", "()Ljava/lang/String;"⟩ : MethodName) prog_39_method_5_code 1 (some (.object "java/lang/String")) :: ws) own_R4) (fun a U => a = #[(.ref o0)] ∧ Z.Warmed39 U.vm ∧ U.heap = h0) (fun _ _ _ _ _ => True) (fun _ U o U' => ∃ v L, o = .returned v ∧ Q4 x h0 n0 v U'.heap L ∧ FrameEnd U o U' L own_R4.cells own_R4.slots) := by
  refine MetFree.of_bodySF (plainFor_of_name own_pn4) hisR ?_
  intro p e s m args below meth c s₁ Bd hml0 hP hK
  obtain ⟨ha, hZ, hh⟩ := hP
  have hx := Bd.exec
  have hby := Bd.bytes
  have hml : c.maxLocals = 1 := hml0
  have hown : s.vm.findClass "com/example/output_under_guard/outputunderguard/PrinterPath" = some m.cls := findClass_of_methodNamed Bd.named
  have hnm := (name_of_methodNamed Bd.named Bd.method).1
  have X0 : Stand p l e own_R4 s m args below meth c s₁ [] 0 0 := Stand.of_body Bd
  have e0 : s₁.heap = h0 := by rw [← hh, Bd.state]; rfl
  have N0 := Fr.nil n0
  refine own_enter (Q := (Q4 x h0 n0)) (g := mkF m 0 #[.val (.ref o0)] []) (by rw [ha]; exact own_ef4 m o0) ?_
  refine own_run (g' := (mkF m 1 #[.val (.ref o0)] [(.ref o0)])) (fun _ kt => XS.aloadN X0.here hx rfl (hb hby d4_0) rfl rfl (kt)) ?_
  refine own_getF X0 hx hZ hown (host := "") (Or.inl (hw _ (List.mem_of_getElem? (i := 8) rfl))) Via.refl e0 F1 (hb hby d4_1) ?_
  intro T1 X1 e1
  exact own_retR X1 hx Bd.notSynchronized Bd.returns rfl rfl (hb hby d4_4) (by decide) (by decide) ⟨rfl, N0, e1⟩
section OwnW
variable {p : Program} {l : Launch} {e : Env} {R : Room} {s : State} {m : MethodId} {args : Array Value} {below : List Frame} {meth : Method} {c : Code} {T T' : State} {locs : List Loc} {cells slots : Nat} {Z : State} {h h' : Heap} {n0 : Nat} {a0 : Array Value} {CC SS : Nat} {Q : Option Value → Heap → List Loc → Prop} {g g' : JFrame} {pc : Nat} {Ls : Array Slot} {rest st : List Value} {P : State → Outcome → Prop}
variable {a b : Addr} {v : Value} {own : String} {index maxL W : Nat} {y z : MethodName} {bytes : ByteArray} {ret : Option FieldType} {rm : Room} {argsL : List Value} {Q' : Option Value → Heap → List Loc → Prop}
def own_RunW (p : Program) (e : Env) (below : List Frame) (P : State → Outcome → Prop) (T : State) (g : JFrame) : Prop :=
  ∃ s₂ o, Steps p.tables e below (T.setTop g) s₂ ∧ s₂.status = .running ∧ Ended s₂ below o ∧ P s₂ o
theorem own_runW (sp : ∀ t, Steps p.tables e below (T'.setTop g') t → Steps p.tables e below (T.setTop g) t) (r : own_RunW p e below P T' g') : own_RunW p e below P T g := by
  obtain ⟨s₂, o, h1, r⟩ := r; exact ⟨s₂, o, sp _ h1, r⟩
theorem own_getFW {own R0 O nm d host : String} {index : Nat} (X : Stand p l e R s m args below meth c T locs cells slots) (hx : p.tables.exec = Jvm.exec) (hZ : Z.Warmed39 s.vm) (hown : s.vm.findClass own = some m.cls) (w : (Cond.fieldLink own index R0 nm d).before a0 Z = true ∨ (Cond.fieldLinkNest own index R0 nm d host).before a0 Z = true) (via : Via Z R0 O nm d) (eT : T.heap = h) (F : Fld Z h a O nm d v) (hd : decode c.code pc = .ok (.getfield index, 3))
    (k : ∀ T', Stand p l e R s m args below meth c T' locs cells slots → T'.heap = h → own_RunW p e below P T' (mkF m (pc + 3) Ls (v :: rest))) : own_RunW p e below P T (mkF m pc Ls (.ref a :: rest)) := by
  obtain ⟨T', X', e', sp⟩ := getF X hx hZ hown w via eT F (g := mkF m pc Ls (.ref a :: rest)) rfl rfl hd
  exact own_runW sp (k T' X' e')
theorem own_getSW {own R0 O nm d : String} {index : Nat} (X : Stand p l e R s m args below meth c T locs cells slots) (hx : p.tables.exec = Jvm.exec) (hZ : Z.Warmed39 s.vm) (hown : s.vm.findClass own = some m.cls) (w : (Cond.fieldLink own index R0 nm d).before a0 Z = true) (via : Via Z R0 O nm d) (eT : T.heap = h) (F : Sta Z h O nm d v) (hd : decode c.code pc = .ok (.getstatic index, 3))
    (k : ∀ T', Stand p l e R s m args below meth c T' locs cells slots → T'.heap = h → own_RunW p e below P T' (mkF m (pc + 3) Ls (v :: rest))) : own_RunW p e below P T (mkF m pc Ls rest) := by
  obtain ⟨T', X', e', sp⟩ := getS (host := "") X hx hZ hown w via eT F (g := mkF m pc Ls rest) rfl hd
  exact own_runW sp (k T' X' e')
theorem own_callVW {K : String} (X : Stand p l e R s m args below meth c T locs cells slots) (hx : p.tables.exec = Jvm.exec) (hZ : Z.Warmed39 s.vm) (hown : s.vm.findClass own = some m.cls) (w1 : (Cond.methodLink own index y).before a0 Z = true) (w2 : (Cond.declares y).before a0 Z = true) (w5 : (Cond.selects K y y).before a0 Z = true) (w6 : (Cond.instanceMethod y).before a0 Z = true) (w3 : (Cond.initialized y.cls).before a0 Z = true) (w4 : (Cond.code y bytes maxL ret).before a0 Z = true) (hy : y.cls ≠ "java/lang/invoke/MethodHandle" ∧ y.cls ≠ "java/lang/invoke/VarHandle") (E : Exa Z h b K)
    (hM : MetFree l y (head1 [Cond.code y bytes maxL ret] rm) (fun a U => a = (.ref b :: argsL).toArray ∧ Z.Warmed39 U.vm ∧ U.heap = h) (fun _ _ _ _ _ => True) (fun _ U o U' => ∃ v L, o = .returned v ∧ Q' v U'.heap L ∧ FrameEnd U o U' L rm.cells rm.slots)) (eT : T.heap = h) (hf : rm.frames + 1 ≤ R.frames) (hl : W + (maxL + 11) + rm.locals ≤ R.locals) (hcl : cells + rm.cells ≤ R.cells) (hsl : slots + rm.slots ≤ R.slots) (hsize : Ls.size = c.maxLocals)
    (hlen : ∀ sig, parseMethodDescriptor y.desc = some sig → argsL.length = sig.parameters.length) (hs : st = argsL.reverse ++ .ref b :: rest) (hW : (rest.map fun v => v.category).sum ≤ W) (hd : decode c.code pc = .ok (.invokevirtual index, 3))
    (k : ∀ T' v L, Stand p l e R s m args below meth c T' (locs ++ L) (cells + rm.cells) (slots + rm.slots) → Q' v T'.heap L → own_RunW p e below P T' (mkF m (pc + 3) Ls (v.toList ++ rest))) : own_RunW p e below P T (mkF m pc Ls st) := by
  obtain ⟨cq, kq, qa, qb, qc⟩ := isOf hZ eT E
  obtain ⟨v, _, ⟨T1, L1, k1, n1⟩, -, X1, ⟨Lc, hQ, l1, y1, z1⟩, sp⟩ := X.virtualBack hx (y := y) (z := y) hown (mvT hZ w1) (mvT hZ w2) (notFace_of_selects (args := #[]) (mvT hZ w5)) (mvT hZ w5) (mvT hZ w6) hy (backOf (W := W) hM hZ w4 w3 hf hl) qa qc (g := mkF m pc Ls st) rfl hsize (Steps.refl _) (argsL := argsL) (rest := rest) hlen hs (by show 2 * 0 + _ ≤ _; omega) hd (fun _ _ => ⟨rfl, eT, hcl, hsl⟩)
  dsimp only [Pt.U, Pt.locs, Pt.cells, Pt.slots] at X1 l1 y1 z1 sp hQ
  subst l1 y1 z1
  exact own_runW (fun t kt => sp.trans kt) (k T1 v Lc X1 hQ)
theorem own_enterW {ml : Nat} (q : entryFrame m args ml = g) (r : own_RunW p e below P T g) : ∃ s₂ o, Steps p.tables e below (T.setTop (entryFrame m args ml)) s₂ ∧ s₂.status = .running ∧ Ended s₂ below o ∧ P s₂ o := by rw [q]; exact r
theorem own_retNW {t : FieldType} {z : Int32} {vm0 : Vm} {k0 : Nat} (X : Stand p l e R (s.setVm vm0) m args below meth c T locs cells slots) (hx : p.tables.exec = Jvm.exec) (hS : s.Since vm0 k0) (hk : k0 ≤ T.heap.size) (hlk : meth.locks = false) (hret : meth.sig.returnType = some t) (ht : t = .boolean ∨ t = .byte ∨ t = .char ∨ t = .short) (hd : decode c.code pc = .ok (.ireturn, 1)) (hc : cells ≤ CC) (hs : slots ≤ SS)
    (q : ∀ U : State, U.vm = T.vm → U.heap = T.heap → ReturnedEndW s (.returned (some (.int (nar t z)))) U locs CC SS → P U (.returned (some (.int (nar t z))))) : own_RunW p e below P T (mkF m pc Ls (.int z :: rest)) := by
  obtain ⟨fs, hr, hrun, hended, a, b, c', d⟩ := X.leaveW hS hk (v := some (.int (nar t z))) (fun h => by rw [hret] at h; cases h) hlk
  exact ⟨_, _, retN X hx hret ht hd hr, hrun, hended, q _ rfl rfl ⟨a, b, c', d.mono hc hs⟩⟩
theorem own_ldcW {text : String} {vm0 : Vm} {k0 n : Nat} {EL : List (String × Nat)} {xs : List Int32} {z : Int32} (X : Stand p l e R (s.setVm vm0) m args below meth c T locs cells slots) (hx : p.tables.exec = Jvm.exec) (hZ : Z.Warmed39 vm0) (hown : vm0.findClass own = some m.cls) (w : (Cond.stringLink own index text).before a0 Z = true) (wS : ∀ a ∈ Bundle.stringAtoms, a.before a0 Z = true)
    (eT : T.heap = h) (hS : s.Since vm0 k0) (hk : k0 ≤ h.size) (hEL : EW Z a0 EL) (hmem : (own, index) ∈ EL) (H : CHv Z EL vm0 h) (ht : (∀ c ∈ text.toList, c.toNat < 256) ∧ text.toList.map (fun c => Value.int (Jvm.Lit.byteI c.toNat.toUInt16)) = xs.map Value.int) (hz : ¬ z < 0) (hl : xs.length = z.toNatClampNeg)
    (hd : decode c.code pc = .ok (.ldc index, 2)) (hn : 4 * text.toList.length ≤ n) (hbig : n ≤ 536870912) (hc : cells + 2 ≤ R.cells) (hl' : slots + (n + 4) ≤ R.slots)
    (k : ∀ T' h' a b k1, Stand p l e R (s.setVm T'.vm) m args below meth c T' locs (cells + 2) (slots + (n + 4)) → T'.heap = h' → Ext h h' → s.Since T'.vm k1 → k1 ≤ h'.size → Z.Warmed39 (s.setVm T'.vm).vm → (s.setVm T'.vm).vm.findClass own = some m.cls → Exa Z h' a "java/lang/String" → Fld Z h' a "java/lang/String" "coder" "B" (.int 0) → Fld Z h' a "java/lang/String" "value" "[B" (.ref b) → own_A Z h' b .byte z xs → CHr Z EL vm0 h T'.vm h' → own_RunW p e below P T' (mkF m (pc + 2) Ls (.ref a :: rest))) :
    own_RunW p e below P T (mkF m pc Ls rest) := by
  obtain ⟨a, T', h', k1, b, kc, X', e', E, hS', hk', hZ', hown', F1, F2, F3, A, -, -, hC, -, -, sp⟩ := ldcCH X hx hZ hown w wS eT hS hk hEL hmem H ht hz (by rw [List.length_map]; exact hl.symm) (g := mkF m pc Ls rest) rfl hd hn hbig hc hl'
  exact own_runW sp (k T' h' a b k1 X' e' E hS' hk' hZ' hown' F1 F2 F3 ⟨hl, kc, A⟩ hC)
/-- an instance method that may intern, by its contract -/
theorem own_callVH {K : String} {vm0 : Vm} {k0 : Nat} {EL : List (String × Nat)} (X : Stand p l e R (s.setVm vm0) m args below meth c T locs cells slots) (hx : p.tables.exec = Jvm.exec) (hZ : Z.Warmed39 (s.setVm vm0).vm) (hown : (s.setVm vm0).vm.findClass own = some m.cls) (w1 : (Cond.methodLink own index y).before a0 Z = true) (w2 : (Cond.declares y).before a0 Z = true) (w5 : (Cond.selects K y y).before a0 Z = true) (w6 : (Cond.instanceMethod y).before a0 Z = true) (w3 : (Cond.initialized y.cls).before a0 Z = true) (w4 : (Cond.code y bytes maxL ret).before a0 Z = true) (hy : y.cls ≠ "java/lang/invoke/MethodHandle" ∧ y.cls ≠ "java/lang/invoke/VarHandle") (E : Exa Z h b K)
    (hM : MetFree l y (head1 [Cond.code y bytes maxL ret] rm) (fun a U => a = (.ref b :: argsL).toArray ∧ Z.Warmed39 U.vm ∧ U.heap = h ∧ CHv Z EL U.vm h) (fun _ _ _ _ _ => True) (fun _ U o U' => ∃ v L, o = .returned v ∧ Q' v U'.heap L ∧ CHr Z EL U.vm U.heap U'.vm U'.heap ∧ ReturnedEndW U o U' L rm.cells rm.slots)) (eT : T.heap = h) (hS : s.Since vm0 k0) (hk : k0 ≤ h.size) (hEL : EW Z a0 EL) (H : CHv Z EL vm0 h) (hf : rm.frames + 1 ≤ R.frames) (hl : W + (maxL + 11) + rm.locals ≤ R.locals) (hcl : cells + rm.cells ≤ R.cells) (hsl : slots + rm.slots ≤ R.slots) (hsize : Ls.size = c.maxLocals)
    (hlen : ∀ sig, parseMethodDescriptor y.desc = some sig → argsL.length = sig.parameters.length) (hs : st = argsL.reverse ++ .ref b :: rest) (hW : (rest.map fun v => v.category).sum ≤ W) (hd : decode c.code pc = .ok (.invokevirtual index, 3))
    (k : ∀ T' v L k1, Stand p l e R (s.setVm T'.vm) m args below meth c T' (locs ++ L) (cells + rm.cells) (slots + rm.slots) → Q' v T'.heap L → s.Since T'.vm k1 → k1 ≤ T'.heap.size → Z.Warmed39 (s.setVm T'.vm).vm → (s.setVm T'.vm).vm.findClass own = some m.cls → CHr Z EL vm0 h T'.vm T'.heap → own_RunW p e below P T' (mkF m (pc + 3) Ls (v.toList ++ rest))) : own_RunW p e below P T (mkF m pc Ls st) := by
  obtain ⟨cq, kq, qa, qb, qc⟩ := isOf hZ eT E
  obtain ⟨v, _, ⟨T1, L1, k1, n1⟩, -, X1, hS1, hg, ⟨Lc, hQ, l1, y1, z1, hC⟩, sp⟩ := X.virtualBackS hx (y := y) (z := y) hown (mvT hZ w1) (mvT hZ w2) (notFace_of_selects (args := #[]) (mvT hZ w5)) (mvT hZ w5) (mvT hZ w6) hy (backOfSH (W := W) hM hZ w4 w3 hf hl hEL H) qa qc (g := mkF m pc Ls st) rfl hsize (Steps.refl _) (argsL := argsL) (rest := rest) hlen hs (by show 2 * 0 + _ ≤ _; omega) hd (fun _ _ => ⟨rfl, eT, hcl, hsl⟩)
  dsimp only [Pt.U, Pt.locs, Pt.cells, Pt.slots] at X1 l1 y1 z1 sp hQ hS1 hg hC
  subst l1 y1 z1
  subst eT
  exact own_runW (fun t kt => sp.trans kt) (k T1 v Lc _ X1 hQ (foldS hS hk hS1 hg) (Nat.le_refl _) (State.Warmed39.trans (t := s.setVm vm0) hZ hS1.1) (by rw [show (s.setVm T1.vm).vm = T1.vm from rfl, hS1.1.alike.findClass]; exact hown) hC)
theorem own_since (s : State) : s.Since s.vm s.heap.size := ⟨State.Warmed39.refl s, fun j p hj hp => absurd (Array.getElem?_eq_some_iff.mp hp).1 (Nat.not_lt.mpr hj)⟩
theorem own_ext2 {h h' h2 : Heap} (A : Ext h h') (B : Ext h' h2) : Ext h h2 := ⟨Nat.le_trans A.1 B.1, fun a c q => B.2 a c (A.2 a c q)⟩

end OwnW
def own_lit : List Int32 := [(110 : Int32), (111 : Int32), (110 : Int32), (101 : Int32)]
def own_req (xs : List Int32) : Int32 := if (own_eqv xs own_lit) = (0 : Int32) then (1 : Int32) else (0 : Int32)
theorem own_litT : (∀ c ∈ ("none" : String).toList, c.toNat < 256) ∧ ("none" : String).toList.map (fun c => Value.int (Jvm.Lit.byteI c.toNat.toUInt16)) = own_lit.map Value.int := by decide +kernel
theorem own_pn1 : plainName "com/example/output_under_guard/outputunderguard/PrinterPath" = true := by first | (simp [plainName, overriddenIn]; done) | decide +kernel
theorem own_ef1 (m : MethodId) (o0 : Addr) : entryFrame m #[(.ref o0)] 1 = mkF m 0 #[.val (.ref o0)] [] := by first | (simp [entryFrame, mkF, argsToLocals, Value.category]; done) | rfl
def own_R1 : Room := ({ frames := 2, cells := 2, slots := 20, locals := 28 } : Room)
def Q1 (xs : List Int32) (h0 : Heap) (n0 : Nat) (v : Option Value) (h : Heap) (L : List Loc) : Prop := v = some (.int (own_req xs)) ∧ Fr n0 L ∧ Ext h0 h
theorem own_pd1 : parseMethodDescriptor "(Ljava/lang/Object;)Z" = some ⟨[(.object "java/lang/Object")], some .boolean⟩ := by decide +kernel
theorem d1_0 : decode prog_39_method_6_code 0 = .ok (.aload_n 0, 1) := by decide +kernel
theorem d1_1 : decode prog_39_method_6_code 1 = .ok (.getfield 33, 3) := by decide +kernel
theorem d1_4 : decode prog_39_method_6_code 4 = .ok (.ldc 36, 2) := by decide +kernel
theorem d1_6 : decode prog_39_method_6_code 6 = .ok (.invokevirtual 38, 3) := by decide +kernel
theorem d1_9 : decode prog_39_method_6_code 9 = .ok (.ifCond .ne 7, 3) := by decide +kernel
theorem d1_12 : decode prog_39_method_6_code 12 = .ok (.iconst 1, 1) := by decide +kernel
theorem d1_13 : decode prog_39_method_6_code 13 = .ok (.goto 4, 3) := by decide +kernel
theorem d1_16 : decode prog_39_method_6_code 16 = .ok (.iconst 0, 1) := by decide +kernel
theorem d1_17 : decode prog_39_method_6_code 17 = .ok (.ireturn, 1) := by decide +kernel
set_option maxRecDepth 65536 in
set_option maxHeartbeats 40000000 in
theorem rm1 (l : Launch) (Z : State) (a0 : Array Value) (hw : ∀ d ∈ tables_1, d.before a0 Z = true) (ws : List Jvm.Cond) (o0 : Addr) (x y : Addr) (n1 cs : Int32) (xs : List Int32) (h0 : Heap) (n0 : Nat) (F0 : Fld Z h0 o0 "com/example/output_under_guard/outputunderguard/PrinterPath" "authentication" "Ljava/lang/String;" (.ref x)) (K1 : Exa Z h0 x "java/lang/String") (F1 : Fld Z h0 x "java/lang/String" "coder" "B" (.int (0 : Int32))) (F2 : Fld Z h0 x "java/lang/String" "value" "[B" (.ref y)) (A1 : own_A Z h0 y .byte n1 xs) (S0 : Sta Z h0 "java/lang/String" "COMPACT_STRINGS" "Z" (.int cs)) (hcs : ¬ cs = (0 : Int32)) (wS : ∀ a ∈ Bundle.stringAtoms, a.before a0 Z = true) (hEL : EW Z a0 consts_1) :
    MetFree l (⟨"com/example/output_under_guard/outputunderguard/PrinterPath", "requiresLogin", "()Z"⟩ : MethodName) (head1 (Jvm.Cond.code (⟨"com/example/output_under_guard/outputunderguard/PrinterPath", "requiresLogin", "()Z"⟩ : MethodName) prog_39_method_6_code 1 (some .boolean) :: ws) own_R1) (fun a U => a = #[(.ref o0)] ∧ Z.Warmed39 U.vm ∧ U.heap = h0 ∧ CHv Z consts_1 U.vm h0) (fun _ _ _ _ _ => True) (fun _ U o U' => ∃ v L, o = .returned v ∧ Q1 xs h0 n0 v U'.heap L ∧ CHr Z consts_1 U.vm U.heap U'.vm U'.heap ∧ ReturnedEndW U o U' L own_R1.cells own_R1.slots) := by
  refine MetFree.of_bodySF (plainFor_of_name own_pn1) hisR ?_
  intro p e s m args below meth c s₁ Bd hml0 hP hK
  obtain ⟨ha, hZ, hh, hC0⟩ := hP
  have hx := Bd.exec
  have hby := Bd.bytes
  have hml : c.maxLocals = 1 := hml0
  have hown : (s.setVm s.vm).vm.findClass "com/example/output_under_guard/outputunderguard/PrinterPath" = some m.cls := findClass_of_methodNamed Bd.named
  have hnm := (name_of_methodNamed Bd.named Bd.method).1
  have X0 : Stand p l e own_R1 (s.setVm s.vm) m args below meth c s₁ [] 0 0 := Stand.of_body Bd
  have e0 : s₁.heap = h0 := by rw [← hh, Bd.state]; rfl
  have N0 := Fr.nil n0
  replace hZ : Z.Warmed39 (s.setVm s.vm).vm := hZ
  have hS : s.Since s.vm s.heap.size := own_since s
  have hk : s.heap.size ≤ h0.size := by rw [hh]; exact Nat.le_refl _
  have hC : CHr Z consts_1 s.vm h0 s.vm h0 := CHr.refl hC0
  have hX : Ext h0 h0 := ⟨Nat.le_refl _, fun _ _ q => q⟩
  refine own_enterW (P := fun U' o => ∃ v L, o = .returned v ∧ Q1 xs h0 n0 v U'.heap L ∧ CHr Z consts_1 s.vm s.heap U'.vm U'.heap ∧ ReturnedEndW s o U' L own_R1.cells own_R1.slots) (g := mkF m 0 #[.val (.ref o0)] []) (by rw [ha]; exact own_ef1 m o0) ?_
  refine own_runW (g' := (mkF m 1 #[.val (.ref o0)] [(.ref o0)])) (fun _ kt => XS.aloadN X0.here hx rfl (hb hby d1_0) rfl rfl (kt)) ?_
  refine own_getFW X0 hx hZ hown (host := "") (Or.inl (hw _ (List.mem_of_getElem? (i := 8) rfl))) Via.refl e0 F0 (hb hby d1_1) ?_
  intro T1 X1 e1
  refine own_ldcW (EL := consts_1) (n := 16) (z := (4 : Int32)) (xs := own_lit) X1 hx hZ hown (hw _ (List.mem_of_getElem? (i := 10) rfl)) wS e1 hS hk hEL (List.mem_of_getElem? (i := 0) rfl) hC.1 own_litT (by decide) rfl (hb hby d1_4) (by decide) (by decide) (by decide) (by decide) ?_
  intro T2 h2 a2 b2 k2 X2 e2 E2 hS2 hk2 hZ2 hown2 K2 F2_c F2_v A2 hC2
  replace hS := hS2; replace hk := hk2; replace hZ := hZ2; replace hown := hown2; replace hC := hC.trans hC2; replace hX := own_ext2 hX E2
  replace F0 := F0.ext E2
  replace K1 := K1.ext E2
  replace F1 := F1.ext E2
  replace F2 := F2.ext E2
  replace A1 := A1.ext E2
  replace S0 := S0.ext E2
  refine own_callVW (b := x) X2 hx hZ hown (hw _ (List.mem_of_getElem? (i := 18) rfl)) (hw _ (List.mem_of_getElem? (i := 19) rfl)) (hw _ (List.mem_of_getElem? (i := 21) rfl)) (hw _ (List.mem_of_getElem? (i := 20) rfl)) (hw _ (List.mem_of_getElem? (i := 11) rfl)) (hw _ (List.mem_of_getElem? (i := 22) rfl)) (by decide) K1 (rm2 l Z a0 hw [] x a2 y b2 n1 (4 : Int32) cs xs own_lit h2 n0 K2 F1 F2 F2_c F2_v A1 A2 S0 hcs) e2 (by decide) (by decide) (by decide) (by decide) (by rw [hml]; rfl) (argsL := [(.ref a2)]) (rest := []) (lenOf own_pd1 rfl) rfl (W := 0) (Nat.le_of_eq rfl) (hb hby d1_6) ?_
  intro T3 r3 L3 X3 hQ3
  obtain ⟨rfl, Nq3, e3⟩ := hQ3
  have N3 := Fr.app N0 Nq3
  by_cases hc9 : (own_eqv xs own_lit) = (0 : Int32)
  · refine own_runW (g' := (mkF m 17 #[.val (.ref o0)] [(.int (1 : Int32))])) (fun _ kt => XS.ifNo X3.here hx rfl (hb hby d1_9) rfl ((if0 _ _).trans (teq hc9).2) (XS.iconst X3.here hx rfl (hb hby d1_12) (XS.goto X3.here hx rfl (pc0 := 13) (pc' := 17) rfl (hb hby d1_13) (by decide) (by decide) (kt)))) ?_
    exact own_retNW (t := .boolean) X3 hx hS (by rw [e3]; exact hk) Bd.notSynchronized Bd.returns (by simp) (hb hby d1_17) (by decide) (by decide) (fun U hv hu hE => ⟨_, _, rfl, ⟨by rw [own_req, if_pos hc9]; rfl, N3, by rw [hu, e3]; exact hX⟩, by rw [hv, hu, e3, hh]; exact hC.trans (CHv.at X3 hZ hEL hC.1), hE⟩)
  · refine own_runW (g' := (mkF m 17 #[.val (.ref o0)] [(.int (0 : Int32))])) (fun _ kt => XS.ifYes X3.here hx rfl (pc0 := 9) (pc' := 16) rfl (hb hby d1_9) rfl ((if0 _ _).trans (feq hc9).2) (by decide) (by decide) (XS.iconst X3.here hx rfl (hb hby d1_16) (kt))) ?_
    exact own_retNW (t := .boolean) X3 hx hS (by rw [e3]; exact hk) Bd.notSynchronized Bd.returns (by simp) (hb hby d1_17) (by decide) (by decide) (fun U hv hu hE => ⟨_, _, rfl, ⟨by rw [own_req, if_neg hc9]; rfl, N3, by rw [hu, e3]; exact hX⟩, by rw [hv, hu, e3, hh]; exact hC.trans (CHv.at X3 hZ hEL hC.1), hE⟩)
def own_bas : List Int32 := [(98 : Int32), (97 : Int32), (115 : Int32), (105 : Int32), (99 : Int32)]
theorem own_pn0 : plainName "com/example/output_under_guard/outputunderguard/PrinterPathRequiresLoginPinLaw" = true := by first | (simp [plainName, overriddenIn]; done) | decide +kernel
theorem own_ef0 (m : MethodId) (p0 : Int32) : entryFrame m #[(.int p0)] maxLocals = mkF m 0 #[.val (.int p0), .unset, .unset, .unset, .unset] [] := by first | (simp [entryFrame, mkF, argsToLocals, Value.category, maxLocals]; done) | rfl
def Q0 (h0 : Heap) (n0 : Nat) (v : Option Value) (h : Heap) (L : List Loc) : Prop := v = some (.int 1) ∧ Fr n0 L
theorem own_pd2 : parseMethodDescriptor "()Z" = some ⟨[], some .boolean⟩ := by decide +kernel
theorem own_pd3 : parseMethodDescriptor "()Ljava/lang/String;" = some ⟨[], some (.object "java/lang/String")⟩ := by decide +kernel
set_option maxRecDepth 65536 in
set_option maxHeartbeats 40000000 in
theorem rm0 (l : Launch) (Z : State) (a0 : Array Value) (hw : ∀ d ∈ tables_1, d.before a0 Z = true) (ws : List Jvm.Cond) (p0 : Int32) (u1 x1 y1 u2 x2 y2 : Addr) (cs : Int32) (h0 : Heap) (n0 : Nat) (S1 : Sta Z h0 "com/example/output_under_guard/outputunderguard/PrinterPath" "PRINT" "Lcom/example/output_under_guard/outputunderguard/PrinterPath;" (.ref u1)) (KU1 : Exa Z h0 u1 "com/example/output_under_guard/outputunderguard/PrinterPath") (FU1 : Fld Z h0 u1 "com/example/output_under_guard/outputunderguard/PrinterPath" "authentication" "Ljava/lang/String;" (.ref x1)) (KX1 : Exa Z h0 x1 "java/lang/String") (FC1 : Fld Z h0 x1 "java/lang/String" "coder" "B" (.int (0 : Int32))) (FV1 : Fld Z h0 x1 "java/lang/String" "value" "[B" (.ref y1)) (AY1 : own_A Z h0 y1 .byte (4 : Int32) own_lit) (S2 : Sta Z h0 "com/example/output_under_guard/outputunderguard/PrinterPath" "SECURE" "Lcom/example/output_under_guard/outputunderguard/PrinterPath;" (.ref u2)) (KU2 : Exa Z h0 u2 "com/example/output_under_guard/outputunderguard/PrinterPath") (FU2 : Fld Z h0 u2 "com/example/output_under_guard/outputunderguard/PrinterPath" "authentication" "Ljava/lang/String;" (.ref x2)) (KX2 : Exa Z h0 x2 "java/lang/String") (FC2 : Fld Z h0 x2 "java/lang/String" "coder" "B" (.int (0 : Int32))) (FV2 : Fld Z h0 x2 "java/lang/String" "value" "[B" (.ref y2)) (AY2 : own_A Z h0 y2 .byte (5 : Int32) own_bas) (S0 : Sta Z h0 "java/lang/String" "COMPACT_STRINGS" "Z" (.int cs)) (hne : ¬ u1 = u2) (hcs : ¬ cs = (0 : Int32)) (wS : ∀ a ∈ Bundle.stringAtoms, a.before a0 Z = true) (hEL : EW Z a0 consts_1) :
    MetFree l x (head1 (Jvm.Cond.code x code maxLocals ret :: ws) room_1) (fun a U => a = #[(.int p0)] ∧ Z.Warmed39 U.vm ∧ U.heap = h0 ∧ CHv Z consts_1 U.vm h0) (fun _ _ _ _ _ => True) (fun _ U o U' => ∃ v L, o = .returned v ∧ Q0 h0 n0 v U'.heap L ∧ ReturnedEndW U o U' L room_1.cells room_1.slots) := by
  refine MetFree.of_bodySF (plainFor_of_name own_pn0) hisR ?_
  intro p e s m args below meth c s₁ Bd hml0 hP hK
  obtain ⟨ha, hZ, hh, hC0⟩ := hP
  have hx := Bd.exec
  have hby := Bd.bytes
  have hml : c.maxLocals = 5 := hml0
  have hown : (s.setVm s.vm).vm.findClass "com/example/output_under_guard/outputunderguard/PrinterPathRequiresLoginPinLaw" = some m.cls := findClass_of_methodNamed Bd.named
  have hnm := (name_of_methodNamed Bd.named Bd.method).1
  have X0 : Stand p l e room_1 (s.setVm s.vm) m args below meth c s₁ [] 0 0 := Stand.of_body Bd
  have e0 : s₁.heap = h0 := by rw [← hh, Bd.state]; rfl
  have N0 := Fr.nil n0
  replace hZ : Z.Warmed39 (s.setVm s.vm).vm := hZ
  have hS : s.Since s.vm s.heap.size := own_since s
  have hk : s.heap.size ≤ h0.size := by rw [hh]; exact Nat.le_refl _
  have hC : CHr Z consts_1 s.vm h0 s.vm h0 := CHr.refl hC0
  have hX : Ext h0 h0 := ⟨Nat.le_refl _, fun _ _ q => q⟩
  refine own_enterW (P := fun U' o => ∃ v L, o = .returned v ∧ Q0 h0 n0 v U'.heap L ∧ ReturnedEndW s o U' L room_1.cells room_1.slots) (g := mkF m 0 #[.val (.int p0), .unset, .unset, .unset, .unset] []) (by rw [ha]; exact own_ef0 m p0) ?_
  refine own_runW (g' := (mkF m 3 #[.val (.int p0), .unset, .unset, .unset, .unset] [(.int (p0 &&& (1 : Int32)))])) (fun _ kt => XS.iloadN X0.here hx rfl (hb hby at_0) rfl (XS.iconst X0.here hx rfl (hb hby at_1) (XS.iand X0.here hx rfl (hb hby at_2) rfl (kt)))) ?_
  by_cases hc3 : (p0 &&& (1 : Int32)) = (0 : Int32)
  · refine own_runW (g' := (mkF m 6 #[.val (.int p0), .unset, .unset, .unset, .unset] [])) (fun _ kt => XS.ifNo X0.here hx rfl (hb hby at_3) rfl ((if0 _ _).trans (teq hc3).2) (kt)) ?_
    refine own_getSW X0 hx hZ hown (hw _ (List.mem_of_getElem? (i := 0) rfl)) Via.refl e0 S1 (hb hby at_6) ?_
    intro T1 X1 e1
    refine own_runW (g' := (mkF m 17 #[.val (.int p0), .val (.ref u1), .unset, .unset, .unset] [(.ref u1)])) (fun _ kt => XS.goto X1.here hx rfl (pc0 := 9) (pc' := 15) rfl (hb hby at_9) (by decide) (by decide) (XS.astoreN X1.here hx rfl (hb hby at_15) rfl rfl (l' := #[.val (.int p0), .val (.ref u1), .unset, .unset, .unset]) rfl (XS.aloadN X1.here hx rfl (hb hby at_16) rfl rfl (kt)))) ?_
    refine own_callVH (b := u1) X1 hx hZ hown (hw _ (List.mem_of_getElem? (i := 3) rfl)) (hw _ (List.mem_of_getElem? (i := 4) rfl)) (hw _ (List.mem_of_getElem? (i := 6) rfl)) (hw _ (List.mem_of_getElem? (i := 5) rfl)) (hw _ (List.mem_of_getElem? (i := 1) rfl)) (hw _ (List.mem_of_getElem? (i := 7) rfl)) (by decide) KU1 (rm1 l Z a0 hw [] u1 x1 y1 (4 : Int32) cs own_lit h0 n0 FU1 KX1 FC1 FV1 AY1 S0 hcs wS hEL) e1 hS hk hEL hC.1 (by decide) (by decide) (by decide) (by decide) (by rw [hml]; rfl) (argsL := []) (rest := []) (lenOf own_pd2 rfl) rfl (W := 0) (Nat.le_of_eq rfl) (hb hby at_17) ?_
    intro T2 r2 L2 k2 X2 hQ2 hS2 hk2 hZ2 hown2 hC2
    obtain ⟨rfl, Nq2, E2⟩ := hQ2
    have N2 := Fr.app N0 Nq2
    replace hS := hS2; replace hk := hk2; replace hZ := hZ2; replace hown := hown2; replace hC := hC.trans hC2; replace hX := own_ext2 hX E2
    replace S1 := S1.ext E2
    replace KU1 := KU1.ext E2
    replace FU1 := FU1.ext E2
    replace KX1 := KX1.ext E2
    replace FC1 := FC1.ext E2
    replace FV1 := FV1.ext E2
    replace AY1 := AY1.ext E2
    replace S2 := S2.ext E2
    replace KU2 := KU2.ext E2
    replace FU2 := FU2.ext E2
    replace KX2 := KX2.ext E2
    replace FC2 := FC2.ext E2
    replace FV2 := FV2.ext E2
    replace AY2 := AY2.ext E2
    replace S0 := S0.ext E2
    refine own_runW (g' := (mkF m 22 #[.val (.int p0), .val (.ref u1), .val (.int (own_req own_lit)), .unset, .unset] [(.ref u1)])) (fun _ kt => XS.istoreN X2.here hx rfl (hb hby at_20) rfl (l' := #[.val (.int p0), .val (.ref u1), .val (.int (own_req own_lit)), .unset, .unset]) rfl (XS.aloadN X2.here hx rfl (hb hby at_21) rfl rfl (kt))) ?_
    refine own_getSW X2 hx hZ hown (hw _ (List.mem_of_getElem? (i := 32) rfl)) Via.refl rfl S2 (hb hby at_22) ?_
    intro T3 X3 e3
    refine own_runW (g' := (mkF m 35 #[.val (.int p0), .val (.ref u1), .val (.int (own_req own_lit)), .val (.int (0 : Int32)), .unset] [(.ref u1)])) (fun _ kt => XS.acmpYes X3.here hx rfl (pc0 := 25) (pc' := 32) rfl (hb hby at_25) rfl (own_neY hne) (by decide) (by decide) (XS.iconst X3.here hx rfl (hb hby at_32) (XS.istoreN X3.here hx rfl (hb hby at_33) rfl (l' := #[.val (.int p0), .val (.ref u1), .val (.int (own_req own_lit)), .val (.int (0 : Int32)), .unset]) rfl (XS.aloadN X3.here hx rfl (hb hby at_34) rfl rfl (kt))))) ?_
    refine own_callVW (b := u1) X3 hx hZ hown (hw _ (List.mem_of_getElem? (i := 34) rfl)) (hw _ (List.mem_of_getElem? (i := 35) rfl)) (hw _ (List.mem_of_getElem? (i := 37) rfl)) (hw _ (List.mem_of_getElem? (i := 36) rfl)) (hw _ (List.mem_of_getElem? (i := 1) rfl)) (hw _ (List.mem_of_getElem? (i := 38) rfl)) (by decide) KU1 (rm4 l Z a0 hw [] u1 x1 T2.heap n0 FU1) e3 (by decide) (by decide) (by decide) (by decide) (by rw [hml]; rfl) (argsL := []) (rest := []) (lenOf own_pd3 rfl) rfl (W := 0) (Nat.le_of_eq rfl) (hb hby at_35) ?_
    intro T4 r4 L4 X4 hQ4
    obtain ⟨rfl, Nq4, e4⟩ := hQ4
    have N4 := Fr.app N2 Nq4
    refine own_ldcW (EL := consts_1) (n := 16) (z := (4 : Int32)) (xs := own_lit) X4 hx hZ hown (hw _ (List.mem_of_getElem? (i := 39) rfl)) wS e4 hS hk hEL (List.mem_of_getElem? (i := 1) rfl) hC.1 own_litT (by decide) rfl (hb hby at_38) (by decide) (by decide) (by decide) (by decide) ?_
    intro T5 h5 a5 b5 k5 X5 e5 E5 hS5 hk5 hZ5 hown5 K5 F5_c F5_v A5 hC5
    replace hS := hS5; replace hk := hk5; replace hZ := hZ5; replace hown := hown5; replace hC := hC.trans hC5; replace hX := own_ext2 hX E5
    replace S1 := S1.ext E5
    replace KU1 := KU1.ext E5
    replace FU1 := FU1.ext E5
    replace KX1 := KX1.ext E5
    replace FC1 := FC1.ext E5
    replace FV1 := FV1.ext E5
    replace AY1 := AY1.ext E5
    replace S2 := S2.ext E5
    replace KU2 := KU2.ext E5
    replace FU2 := FU2.ext E5
    replace KX2 := KX2.ext E5
    replace FC2 := FC2.ext E5
    replace FV2 := FV2.ext E5
    replace AY2 := AY2.ext E5
    replace S0 := S0.ext E5
    refine own_callVW (b := x1) X5 hx hZ hown (hw _ (List.mem_of_getElem? (i := 40) rfl)) (hw _ (List.mem_of_getElem? (i := 19) rfl)) (hw _ (List.mem_of_getElem? (i := 21) rfl)) (hw _ (List.mem_of_getElem? (i := 20) rfl)) (hw _ (List.mem_of_getElem? (i := 11) rfl)) (hw _ (List.mem_of_getElem? (i := 22) rfl)) (by decide) KX1 (rm2 l Z a0 hw [] x1 a5 y1 b5 (4 : Int32) (4 : Int32) cs own_lit own_lit h5 n0 K5 FC1 FV1 F5_c F5_v AY1 A5 S0 hcs) e5 (by decide) (by decide) (by decide) (by decide) (by rw [hml]; rfl) (argsL := [(.ref a5)]) (rest := []) (lenOf own_pd1 rfl) rfl (W := 0) (Nat.le_of_eq rfl) (hb hby at_40) ?_
    intro T6 r6 L6 X6 hQ6
    obtain ⟨rfl, Nq6, e6⟩ := hQ6
    have N6 := Fr.app N4 Nq6
    have hd47 : (own_req own_lit) = (0 : Int32) := by decide
    have hd53 : ¬ ((own_eqv own_lit own_lit) = (0 : Int32)) := by decide
    refine own_runW (g' := (mkF m 61 #[.val (.int p0), .val (.ref u1), .val (.int (own_req own_lit)), .val (.int (0 : Int32)), .val (.int (own_eqv own_lit own_lit))] [(.int (0 : Int32)), (.int (own_req own_lit))])) (fun _ kt => XS.istore X6.here hx rfl (hb hby at_43) rfl (l' := #[.val (.int p0), .val (.ref u1), .val (.int (own_req own_lit)), .val (.int (0 : Int32)), .val (.int (own_eqv own_lit own_lit))]) rfl (XS.iloadN X6.here hx rfl (hb hby at_45) rfl (XS.iloadN X6.here hx rfl (hb hby at_46) rfl (XS.icmpNo X6.here hx rfl (hb hby at_47) rfl ((teq hd47).2) (XS.iloadN X6.here hx rfl (hb hby at_50) rfl (XS.iload X6.here hx rfl (hb hby at_51) rfl (XS.ifYes X6.here hx rfl (pc0 := 53) (pc' := 60) rfl (hb hby at_53) rfl ((if0 _ _).trans (feq hd53).2) (by decide) (by decide) (XS.iconst X6.here hx rfl (hb hby at_60) (kt))))))))) ?_
    have hd61 : (own_req own_lit) = (0 : Int32) := by decide
    refine own_runW (g' := (mkF m 69 #[.val (.int p0), .val (.ref u1), .val (.int (own_req own_lit)), .val (.int (0 : Int32)), .val (.int (own_eqv own_lit own_lit))] [(.int (1 : Int32))])) (fun _ kt => XS.icmpNo X6.here hx rfl (hb hby at_61) rfl ((teq hd61).2) (XS.iconst X6.here hx rfl (hb hby at_64) (XS.goto X6.here hx rfl (pc0 := 65) (pc' := 69) rfl (hb hby at_65) (by decide) (by decide) (kt)))) ?_
    exact own_retNW (t := .boolean) X6 hx hS (by rw [e6]; exact hk) Bd.notSynchronized Bd.returns (by simp) (hb hby at_69) (by decide) (by decide) (fun U hv hu hE => ⟨_, _, rfl, ⟨rfl, N6⟩, hE⟩)
  · refine own_runW (g' := (mkF m 12 #[.val (.int p0), .unset, .unset, .unset, .unset] [])) (fun _ kt => XS.ifYes X0.here hx rfl (pc0 := 3) (pc' := 12) rfl (hb hby at_3) rfl ((if0 _ _).trans (feq hc3).2) (by decide) (by decide) (kt)) ?_
    refine own_getSW X0 hx hZ hown (hw _ (List.mem_of_getElem? (i := 32) rfl)) Via.refl e0 S2 (hb hby at_12) ?_
    intro T7 X7 e7
    refine own_runW (g' := (mkF m 17 #[.val (.int p0), .val (.ref u2), .unset, .unset, .unset] [(.ref u2)])) (fun _ kt => XS.astoreN X7.here hx rfl (hb hby at_15) rfl rfl (l' := #[.val (.int p0), .val (.ref u2), .unset, .unset, .unset]) rfl (XS.aloadN X7.here hx rfl (hb hby at_16) rfl rfl (kt))) ?_
    refine own_callVH (b := u2) X7 hx hZ hown (hw _ (List.mem_of_getElem? (i := 3) rfl)) (hw _ (List.mem_of_getElem? (i := 4) rfl)) (hw _ (List.mem_of_getElem? (i := 6) rfl)) (hw _ (List.mem_of_getElem? (i := 5) rfl)) (hw _ (List.mem_of_getElem? (i := 1) rfl)) (hw _ (List.mem_of_getElem? (i := 7) rfl)) (by decide) KU2 (rm1 l Z a0 hw [] u2 x2 y2 (5 : Int32) cs own_bas h0 n0 FU2 KX2 FC2 FV2 AY2 S0 hcs wS hEL) e7 hS hk hEL hC.1 (by decide) (by decide) (by decide) (by decide) (by rw [hml]; rfl) (argsL := []) (rest := []) (lenOf own_pd2 rfl) rfl (W := 0) (Nat.le_of_eq rfl) (hb hby at_17) ?_
    intro T8 r8 L8 k8 X8 hQ8 hS8 hk8 hZ8 hown8 hC8
    obtain ⟨rfl, Nq8, E8⟩ := hQ8
    have N8 := Fr.app N0 Nq8
    replace hS := hS8; replace hk := hk8; replace hZ := hZ8; replace hown := hown8; replace hC := hC.trans hC8; replace hX := own_ext2 hX E8
    replace S1 := S1.ext E8
    replace KU1 := KU1.ext E8
    replace FU1 := FU1.ext E8
    replace KX1 := KX1.ext E8
    replace FC1 := FC1.ext E8
    replace FV1 := FV1.ext E8
    replace AY1 := AY1.ext E8
    replace S2 := S2.ext E8
    replace KU2 := KU2.ext E8
    replace FU2 := FU2.ext E8
    replace KX2 := KX2.ext E8
    replace FC2 := FC2.ext E8
    replace FV2 := FV2.ext E8
    replace AY2 := AY2.ext E8
    replace S0 := S0.ext E8
    refine own_runW (g' := (mkF m 22 #[.val (.int p0), .val (.ref u2), .val (.int (own_req own_bas)), .unset, .unset] [(.ref u2)])) (fun _ kt => XS.istoreN X8.here hx rfl (hb hby at_20) rfl (l' := #[.val (.int p0), .val (.ref u2), .val (.int (own_req own_bas)), .unset, .unset]) rfl (XS.aloadN X8.here hx rfl (hb hby at_21) rfl rfl (kt))) ?_
    refine own_getSW X8 hx hZ hown (hw _ (List.mem_of_getElem? (i := 32) rfl)) Via.refl rfl S2 (hb hby at_22) ?_
    intro T9 X9 e9
    refine own_runW (g' := (mkF m 35 #[.val (.int p0), .val (.ref u2), .val (.int (own_req own_bas)), .val (.int (1 : Int32)), .unset] [(.ref u2)])) (fun _ kt => XS.acmpNo X9.here hx rfl (hb hby at_25) rfl (own_neN rfl) (XS.iconst X9.here hx rfl (hb hby at_28) (XS.goto X9.here hx rfl (pc0 := 29) (pc' := 33) rfl (hb hby at_29) (by decide) (by decide) (XS.istoreN X9.here hx rfl (hb hby at_33) rfl (l' := #[.val (.int p0), .val (.ref u2), .val (.int (own_req own_bas)), .val (.int (1 : Int32)), .unset]) rfl (XS.aloadN X9.here hx rfl (hb hby at_34) rfl rfl (kt)))))) ?_
    refine own_callVW (b := u2) X9 hx hZ hown (hw _ (List.mem_of_getElem? (i := 34) rfl)) (hw _ (List.mem_of_getElem? (i := 35) rfl)) (hw _ (List.mem_of_getElem? (i := 37) rfl)) (hw _ (List.mem_of_getElem? (i := 36) rfl)) (hw _ (List.mem_of_getElem? (i := 1) rfl)) (hw _ (List.mem_of_getElem? (i := 38) rfl)) (by decide) KU2 (rm4 l Z a0 hw [] u2 x2 T8.heap n0 FU2) e9 (by decide) (by decide) (by decide) (by decide) (by rw [hml]; rfl) (argsL := []) (rest := []) (lenOf own_pd3 rfl) rfl (W := 0) (Nat.le_of_eq rfl) (hb hby at_35) ?_
    intro T10 r10 L10 X10 hQ10
    obtain ⟨rfl, Nq10, e10⟩ := hQ10
    have N10 := Fr.app N8 Nq10
    refine own_ldcW (EL := consts_1) (n := 16) (z := (4 : Int32)) (xs := own_lit) X10 hx hZ hown (hw _ (List.mem_of_getElem? (i := 39) rfl)) wS e10 hS hk hEL (List.mem_of_getElem? (i := 1) rfl) hC.1 own_litT (by decide) rfl (hb hby at_38) (by decide) (by decide) (by decide) (by decide) ?_
    intro T11 h11 a11 b11 k11 X11 e11 E11 hS11 hk11 hZ11 hown11 K11 F11_c F11_v A11 hC11
    replace hS := hS11; replace hk := hk11; replace hZ := hZ11; replace hown := hown11; replace hC := hC.trans hC11; replace hX := own_ext2 hX E11
    replace S1 := S1.ext E11
    replace KU1 := KU1.ext E11
    replace FU1 := FU1.ext E11
    replace KX1 := KX1.ext E11
    replace FC1 := FC1.ext E11
    replace FV1 := FV1.ext E11
    replace AY1 := AY1.ext E11
    replace S2 := S2.ext E11
    replace KU2 := KU2.ext E11
    replace FU2 := FU2.ext E11
    replace KX2 := KX2.ext E11
    replace FC2 := FC2.ext E11
    replace FV2 := FV2.ext E11
    replace AY2 := AY2.ext E11
    replace S0 := S0.ext E11
    refine own_callVW (b := x2) X11 hx hZ hown (hw _ (List.mem_of_getElem? (i := 40) rfl)) (hw _ (List.mem_of_getElem? (i := 19) rfl)) (hw _ (List.mem_of_getElem? (i := 21) rfl)) (hw _ (List.mem_of_getElem? (i := 20) rfl)) (hw _ (List.mem_of_getElem? (i := 11) rfl)) (hw _ (List.mem_of_getElem? (i := 22) rfl)) (by decide) KX2 (rm2 l Z a0 hw [] x2 a11 y2 b11 (5 : Int32) (4 : Int32) cs own_bas own_lit h11 n0 K11 FC2 FV2 F11_c F11_v AY2 A11 S0 hcs) e11 (by decide) (by decide) (by decide) (by decide) (by rw [hml]; rfl) (argsL := [(.ref a11)]) (rest := []) (lenOf own_pd1 rfl) rfl (W := 0) (Nat.le_of_eq rfl) (hb hby at_40) ?_
    intro T12 r12 L12 X12 hQ12
    obtain ⟨rfl, Nq12, e12⟩ := hQ12
    have N12 := Fr.app N10 Nq12
    have hd47 : (own_req own_bas) = (1 : Int32) := by decide
    have hd53 : (own_eqv own_bas own_lit) = (0 : Int32) := by decide
    refine own_runW (g' := (mkF m 57 #[.val (.int p0), .val (.ref u2), .val (.int (own_req own_bas)), .val (.int (1 : Int32)), .val (.int (own_eqv own_bas own_lit))] [(.int (1 : Int32)), (.int (own_req own_bas))])) (fun _ kt => XS.istore X12.here hx rfl (hb hby at_43) rfl (l' := #[.val (.int p0), .val (.ref u2), .val (.int (own_req own_bas)), .val (.int (1 : Int32)), .val (.int (own_eqv own_bas own_lit))]) rfl (XS.iloadN X12.here hx rfl (hb hby at_45) rfl (XS.iloadN X12.here hx rfl (hb hby at_46) rfl (XS.icmpNo X12.here hx rfl (hb hby at_47) rfl ((teq hd47).2) (XS.iloadN X12.here hx rfl (hb hby at_50) rfl (XS.iload X12.here hx rfl (hb hby at_51) rfl (XS.ifNo X12.here hx rfl (hb hby at_53) rfl ((if0 _ _).trans (teq hd53).2) (XS.iconst X12.here hx rfl (hb hby at_56) (kt))))))))) ?_
    have hd61 : (own_req own_bas) = (1 : Int32) := by decide
    refine own_runW (g' := (mkF m 69 #[.val (.int p0), .val (.ref u2), .val (.int (own_req own_bas)), .val (.int (1 : Int32)), .val (.int (own_eqv own_bas own_lit))] [(.int (1 : Int32))])) (fun _ kt => XS.goto X12.here hx rfl (pc0 := 57) (pc' := 61) rfl (hb hby at_57) (by decide) (by decide) (XS.icmpNo X12.here hx rfl (hb hby at_61) rfl ((teq hd61).2) (XS.iconst X12.here hx rfl (hb hby at_64) (XS.goto X12.here hx rfl (pc0 := 65) (pc' := 69) rfl (hb hby at_65) (by decide) (by decide) (kt))))) ?_
    exact own_retNW (t := .boolean) X12 hx hS (by rw [e12]; exact hk) Bd.notSynchronized Bd.returns (by simp) (hb hby at_69) (by decide) (by decide) (fun U hv hu hE => ⟨_, _, rfl, ⟨rfl, N12⟩, hE⟩)
section OwnT
variable {Z : State} {args : Array Value} {t : Term} {a : Addr} {n : Int32} {xs : List Int32}
theorem own_eqint {k : Int32} (h : (Cond.eq t (.int k)).value args Z none Z [] = some true) : t.eval args Z none [] Z = some (.int k) := by
  simp only [Cond.value, Term.eval] at h
  cases ht : t.eval args Z none [] Z with
  | none => simp [ht] at h
  | some x => cases x <;> simp [ht] at h ⊢ <;> exact h
theorem own_len31 {cell : Cell} {v : Value} (ht : t.eval args Z none [] Z = some (.ref a)) (ha : Z.arrayAt? a = some cell) (h : (Term.length t).eval args Z none [] Z = some v) : cell.slots.size < 2 ^ 31 := by
  simp only [Term.eval, ht, ha, Option.bind_eq_bind, Option.bind_some] at h
  split at h
  · assumption
  · cases h
theorem own_hasL {c : Cell} : ∀ (vs : List Value) (i : Nat), (∀ j, j < vs.length → c.slots[i + j]? = some (vs.getD j (.int 0))) → HasL c i vs
  | [], _, _ => trivial
  | v :: r, i, h => ⟨h 0 (Nat.succ_pos _), own_hasL r (i + 1) fun j hj => by have := h (j + 1) (Nat.succ_lt_succ hj); rw [Nat.add_right_comm]; exact this⟩
theorem own_Astart (hf : Fit Z) (ev : t.eval args Z none [] Z = some (.ref a)) (har : (Cond.arrayOf t .byte).value args Z none Z [] = some true) (hlen : (Cond.eq (.length t) (.int n)).value args Z none Z [] = some true) (hn : ¬ n < 0) (hl : xs.length = n.toNatClampNeg) (hs : xs.length < 1000)
    (hel : ∀ j, j < xs.length → (Cond.eq (.elem t (.int (Int32.ofNat j))) (.int (xs.getD j 0))).value args Z none Z [] = some true) : own_A Z Z.heap a .byte n xs := by
  obtain ⟨cl, A⟩ := Arr.start ev har
  have ha : Z.arrayAt? a = some cl := A.fin (Vm.Alike.refl _)
  have e1 := own_eqint hlen
  have h31 := own_len31 ev ha e1
  obtain ⟨a', c', q1, q2, q3⟩ := Term.length_spec e1
  cases ev.symm.trans q1
  cases ha.symm.trans q2
  have q4 : cl.slots.size.toInt32 = n := by injection q3 with q3; exact q3.symm
  refine ⟨hl, cl.cls, Arv.start hf A h31 q4 hn (by rw [List.length_map]; exact hl.symm) (own_hasL _ 0 fun j hj => ?_)⟩
  rw [List.length_map] at hj
  have e2 := own_eqint (hel j hj)
  rw [elem_f ev rfl ha (own_ofnat_nn (by omega)), own_clamp (by omega)] at e2
  rw [Nat.zero_add, own_getD]; exact e2
theorem own_Fstart {C nm d : String} {v : Value} (ev : t.eval args Z none [] Z = some (.ref a)) (h : (Term.field t C nm d).eval args Z none [] Z = some v) : Fld Z Z.heap a C nm d v := by
  refine Fld.start ?_
  simpa [Term.eval, ev] using h
theorem own_fit (h : heapFits Z = true) : Fit Z := by
  intro x c hc i hi
  simp only [heapFits, Array.all_eq_true] at h
  obtain ⟨hx, rfl⟩ := Array.getElem?_eq_some_iff.mp hc
  have := h x hx
  simp only [cellFits, List.all_eq_true, List.mem_range] at this
  have q := this i hi
  simpa [Array.getElem?_eq_getElem hi] using q
end OwnT

set_option maxRecDepth 65536 in
set_option maxHeartbeats 40000000 in
theorem comes_1 {Post : Tables → Env → Array Value → State → Outcome → State → Prop} (hpost : ∀ tb e args s v u, (limb_1_1.after args s (.returned v) u = true ∧ limb_1_2.after args s (.returned v) u = true ∧ True) → Jvm.D.FramedW s (.returned v) u (Jvm.fieldLocs frame_1_writes args s ++ Jvm.arrayLocs frame_1_arrays args s ++ Jvm.staticLocs frame_1_statics s) 8 2112 → Post tb e args s (.returned v) u) :
    ArmFor flags0 classFile x code maxLocals ret World_1 tables_1 room_1 Calls_1 rest_1 Pre_1 Post := by
  intro l hfl _ _ p e ha hc hk s m args below hf hA hF happ hP
  obtain ⟨hcalls, hrest, hpre⟩ := hP
  obtain ⟨-, -, -, hnamed, -, -, -, hat⟩ := (Spec.applies_iff hf).mp happ
  obtain ⟨hg, hn⟩ := and_e (Cond.before_iff.mp (show (Jvm.Cond.and given_1 narrow_1).before args s = true from hpre))
  obtain ⟨hcnt, g0⟩ := and_e hg
  obtain ⟨w0, rfl⟩ : ∃ w0 : Value, args = #[w0] := by
    have hs : args.size = 1 := by simpa [Cond.value, given_1] using hcnt
    obtain ⟨L⟩ := args
    match L, hs with
    | [w0], _ => exact ⟨w0, rfl⟩
  have hw := fun d (hd : d ∈ tables_1) => atoms_spec (ws := Jvm.Cond.code x code maxLocals ret :: tables_1) hat d (List.mem_cons_of_mem _ hd)
  obtain ⟨hsets, hown0⟩ := atoms_of _ (rest_1_c_eq ▸ (show rest_1_c.before _ s = true from hrest))
  obtain ⟨b1, t1⟩ := and_e hn
  obtain ⟨b2, t2⟩ := and_e t1
  obtain ⟨b3, t3⟩ := and_e t2
  obtain ⟨b4, t4⟩ := and_e t3
  obtain ⟨b5, t5⟩ := and_e t4
  obtain ⟨b6, t6⟩ := and_e t5
  obtain ⟨b7, t7⟩ := and_e t6
  obtain ⟨b8, t8⟩ := and_e t7
  obtain ⟨b9, t9⟩ := and_e t8
  obtain ⟨b10, t10⟩ := and_e t9
  obtain ⟨b11, t11⟩ := and_e t10
  obtain ⟨b12, t12⟩ := and_e t11
  obtain ⟨b13, t13⟩ := and_e t12
  obtain ⟨b14, t14⟩ := and_e t13
  obtain ⟨b15, t15⟩ := and_e t14
  obtain ⟨b16, t16⟩ := and_e t15
  obtain ⟨b17, t17⟩ := and_e t16
  obtain ⟨b18, t18⟩ := and_e t17
  obtain ⟨b19, t19⟩ := and_e t18
  obtain ⟨b20, t20⟩ := and_e t19
  obtain ⟨u1, p1⟩ := exa_v b1
  obtain ⟨x1, q1⟩ := exa_v b2
  obtain ⟨y1, z1⟩ := arr_v b4
  have KU1 := Exa.start p1 b1
  have KX1 := Exa.start q1 b2
  have S1 : Sta s s.heap "com/example/output_under_guard/outputunderguard/PrinterPath" "PRINT" "Lcom/example/output_under_guard/outputunderguard/PrinterPath;" (.ref u1) := Sta.start p1 (Or.inr ⟨(hw _ (List.mem_of_getElem? (i := 1) rfl)), (hw _ (List.mem_of_getElem? (i := 2) rfl))⟩)
  have FU1 := own_Fstart p1 q1
  have FC1 := own_Fstart q1 (own_eqint b3)
  have FV1 := own_Fstart q1 z1
  have AY1 : own_A s s.heap y1 .byte (4 : Int32) own_lit := own_Astart (own_fit hF) z1 b4 b5 (by decide) rfl (by decide) (fun j hj => match j, hj with | 0, _ => b6 | 1, _ => b7 | 2, _ => b8 | 3, _ => b9)
  obtain ⟨u2, p2⟩ := exa_v b10
  obtain ⟨x2, q2⟩ := exa_v b13
  obtain ⟨y2, z2⟩ := arr_v b15
  have KU2 := Exa.start p2 b10
  have KX2 := Exa.start q2 b13
  have S2 : Sta s s.heap "com/example/output_under_guard/outputunderguard/PrinterPath" "SECURE" "Lcom/example/output_under_guard/outputunderguard/PrinterPath;" (.ref u2) := Sta.start p2 (Or.inr ⟨(hw _ (List.mem_of_getElem? (i := 1) rfl)), (hw _ (List.mem_of_getElem? (i := 33) rfl))⟩)
  have FU2 := own_Fstart p2 q2
  have FC2 := own_Fstart q2 (own_eqint b14)
  have FV2 := own_Fstart q2 z2
  have AY2 : own_A s s.heap y2 .byte (5 : Int32) own_bas := own_Astart (own_fit hF) z2 b15 b16 (by decide) rfl (by decide) (fun j hj => match j, hj with | 0, _ => b17 | 1, _ => b18 | 2, _ => b19 | 3, _ => b20 | 4, _ => t20)
  have hne : ¬ u1 = u2 := Fld.ne (own_Fstart p1 (own_eqint b11)) (own_Fstart p2 (own_eqint b12)) (by decide)
  obtain ⟨cs, ecs⟩ := is_v (Cond.before_iff.mp (hsets _ (List.mem_of_getElem? (i := 1) rfl)))
  have S0 := Sta.start ecs (Or.inl (hsets _ (List.mem_of_getElem? (i := 0) rfl)))
  have hcs : ¬ cs = (0 : Int32) := fun q => by
    have z := Cond.before_iff.mp (hsets _ (List.mem_of_getElem? (i := 2) rfl))
    have e2 := eq_i ecs (Term.int_eval (0)) (by rw [q])
    simp only [Cond.value] at z e2
    simp [e2] at z
  have wS : ∀ d ∈ Bundle.stringAtoms, d.before _ s = true := fun d hd => by
    simp only [Bundle.stringAtoms, List.mem_cons, List.not_mem_nil, or_false] at hd
    rcases hd with rfl | rfl | rfl | rfl | rfl | rfl | rfl
    · exact (hw _ (List.mem_of_getElem? (i := 11) rfl))
    · exact (hw _ (List.mem_of_getElem? (i := 12) rfl))
    · exact (hw _ (List.mem_of_getElem? (i := 13) rfl))
    · exact (hw _ (List.mem_of_getElem? (i := 14) rfl))
    · exact (hw _ (List.mem_of_getElem? (i := 15) rfl))
    · exact (hw _ (List.mem_of_getElem? (i := 16) rfl))
    · exact (hw _ (List.mem_of_getElem? (i := 17) rfl))
  have hEL : EW s _ consts_1 := EW.cons (hw _ (List.mem_of_getElem? (i := 10) rfl)) own_litT.1 (EW.cons (hw _ (List.mem_of_getElem? (i := 39) rfl)) own_litT.1 EW.nil)
  have hCH := CHv.start hEL (fun p hp => hcalls.1 p hp) (hsets _ (List.mem_of_getElem? (i := 2) rfl)) (hw _ (List.mem_of_getElem? (i := 13) rfl)) (hw _ (List.mem_of_getElem? (i := 12) rfl))
  obtain ⟨i0, ei0⟩ := is_v g0
  obtain rfl : w0 = (.int i0) := Option.some.inj ei0
  obtain ⟨n, o, h1, h2, h3, _, L, rfl, ⟨rfl, N⟩, hq⟩ := rm0 l s _ hw tables_1 i0 u1 x1 y1 u2 x2 y2 cs s.heap s.heap.size S1 KU1 FU1 KX1 FC1 FV1 AY1 S2 KU2 FU2 KX2 FC2 FV2 AY2 S0 hne hcs wS hEL p e ha hc hk s m _ below hf ((Spec.applies_iff_loose hf).mp happ).1 ⟨rfl, State.Warmed39.refl s, rfl, hCH⟩ trivial
  refine ⟨n, _, h1, h2, h3, hpost _ _ _ _ _ _ ⟨Cond.after_iff.mpr rfl, Cond.after_iff.mpr (eq_i res_at (Term.int_eval (1)) rfl), trivial⟩ ⟨hq.1, hq.2.1, hq.2.2.1, (hq.2.2.2.sift fun y hy => Or.inr (N y hy)).mono (by decide) (by decide)⟩⟩
theorem main_1_1 : Claimed_1_1 := comes_1 fun _ _ _ _ _ _ h hF => ⟨h.1, hF⟩
theorem main_1_2 : Claimed_1_2 := comes_1 fun _ _ _ _ _ _ h hF => ⟨h.2.1, hF⟩
end Jvm.Pilot.@@N@@
namespace Jvm.Pilot.@@N@@
open Jvm Jvm.ClassFile Sem Op Lib Jvm.Free Jvm.Stand Jvm.Pilot.@@N@@.Jvm.D
/-! MADE BY PROGRAM (witnessworld.py) out of the Statement's table words and the real class files: 18 classes; the members and pool entries that the words name. The judged class is class 1, her method 1. -/
namespace start1
open Jvm.ClassFile
def u (s : String) : CpInfo := .utf8 (stringToUtf16 s)
/-- a pool by its gaps: so many unusable entries, then the entry; so many at the end -/
def gap : Nat → List CpInfo → List CpInfo
  | 0, r => r
  | n + 1, r => .unusable :: gap n r
def poolList (es : List (Nat × CpInfo)) (last : Nat) : List CpInfo := es.foldr (fun e r => gap e.1 (e.2 :: r)) (gap last [])
def pool (es : List (Nat × CpInfo)) (last : Nat) : Array CpInfo := ⟨poolList es last⟩
def fileOf (pool : Array CpInfo) (this : Nat) (attrs : Array Attribute := #[]) (ms : Array MethodInfo := #[]) (fl : Nat := 33) (sup : Nat := 0) (ifs : Array Nat := #[]) (fds : Array FieldInfo := #[]) : ClassFile where
  minorVersion := 0
  majorVersion := 65
  constantPool := pool
  accessFlags := fl
  thisClass := this
  superClass := sup
  interfaces := ifs
  fields := fds
  methods := ms
  attributes := attrs
def plain (name : String) (sup : Option ClassId) : Class where
  name := name
  kind := .ordinary
  loader := none
  accessFlags := 33
  super := sup
  interfaces := #[]
  cf := none
  fields := #[]
  methods := #[]
  instanceTypes := #[]
  staticTypes := #[]
  resolved := #[]
  callSites := []
  init := .initialized
  statics := none
  mirror := none

def pool0 : Array CpInfo := pool [(5, u "<init>"), (0, u "()V"), (1, .class_ 10), (1, u "java/lang/Object")] 113

def k0m0 : Method := { name := "<init>", desc := "()V", sig := { parameters := [], returnType := none }, accessFlags := 1, code := none }
/-- java/lang/Object -/
def k0 : Class := { plain "java/lang/Object" none with
  accessFlags := 33
  interfaces := #[]
  cf := some (fileOf pool0 8 #[] #[{ accessFlags := 1, nameIndex := 5, descriptorIndex := 6, attributes := #[] }] 33 0 #[] #[])
  fields := #[]
  methods := #[k0m0]
  instanceTypes := #[]
  staticTypes := #[]
  resolved := Array.replicate 124 none
  statics := none }

def pool1 : Array CpInfo := pool [(2, .class_ 4), (1, u "java/lang/Object"), (0, u "<init>"), (0, u "()V"), (0, .fieldref 8 9), (0, .class_ 10), (0, .nameAndType 11 12), (0, u "com/example/output_under_guard/outputunderguard/PrinterPath"), (0, u "PRINT"), (0, u "Lcom/example/output_under_guard/outputunderguard/PrinterPath;"), (0, .fieldref 8 14), (0, .nameAndType 15 12), (0, u "SECURE"), (0, .methodref 8 17), (0, .nameAndType 18 19), (0, u "requiresLogin"), (0, u "()Z"), (0, .methodref 8 21), (0, .nameAndType 22 23), (0, u "authentication"), (0, u "()Ljava/lang/String;"), (0, .string 25), (0, u "none"), (0, .methodref 27 28), (0, .class_ 29), (0, .nameAndType 30 31), (0, u "java/lang/String"), (0, u "equals"), (0, u "(Ljava/lang/Object;)Z"), (0, .class_ 33), (0, u "com/example/output_under_guard/outputunderguard/PrinterPathRequiresLoginPinLaw"), (2, u "law"), (0, u "(I)Z")] 3

def k1m0 : Method := { name := "<init>", desc := "()V", sig := { parameters := [], returnType := none }, accessFlags := 2, code := none }
def k1c1 : Code := { maxStack := 2, maxLocals := 5, code := code, exceptionTable := #[], attributes := #[] }
def k1m1 : Method := { name := "law", desc := "(I)Z", sig := { parameters := [.int], returnType := some .boolean }, accessFlags := 9, code := some k1c1 }
/-- com/example/output_under_guard/outputunderguard/PrinterPathRequiresLoginPinLaw -/
def k1 : Class := { plain "com/example/output_under_guard/outputunderguard/PrinterPathRequiresLoginPinLaw" (some 0) with
  accessFlags := 49
  interfaces := #[]
  cf := some (fileOf pool1 32 #[] #[{ accessFlags := 2, nameIndex := 5, descriptorIndex := 6, attributes := #[] }, { accessFlags := 9, nameIndex := 36, descriptorIndex := 37, attributes := #[] }] 49 2 #[] #[])
  fields := #[]
  methods := #[k1m0, k1m1]
  instanceTypes := #[]
  staticTypes := #[]
  resolved := Array.replicate 41 none
  statics := none }

def pool2 : Array CpInfo := pool [(1, .class_ 2), (0, u "java/lang/constant/Constable"), (0, .class_ 4), (0, u "java/lang/Object")] 6

/-- java/lang/constant/Constable -/
def k2 : Class := { plain "java/lang/constant/Constable" (some 0) with
  accessFlags := 1537
  interfaces := #[]
  cf := some (fileOf pool2 1 #[] #[] 1537 3 #[] #[])
  fields := #[]
  methods := #[]
  instanceTypes := #[]
  staticTypes := #[]
  resolved := Array.replicate 11 none
  statics := none }

def pool3 : Array CpInfo := pool [(1, .class_ 2), (0, u "java/lang/Comparable"), (0, .class_ 4), (0, u "java/lang/Object")] 7

/-- java/lang/Comparable -/
def k3 : Class := { plain "java/lang/Comparable" (some 0) with
  accessFlags := 1537
  interfaces := #[]
  cf := some (fileOf pool3 1 #[] #[] 1537 3 #[] #[])
  fields := #[]
  methods := #[]
  instanceTypes := #[]
  staticTypes := #[]
  resolved := Array.replicate 12 none
  statics := none }

def pool4 : Array CpInfo := pool [(1, .class_ 2), (0, u "java/io/Serializable"), (0, .class_ 4), (0, u "java/lang/Object")] 2

/-- java/io/Serializable -/
def k4 : Class := { plain "java/io/Serializable" (some 0) with
  accessFlags := 1537
  interfaces := #[]
  cf := some (fileOf pool4 1 #[] #[] 1537 3 #[] #[])
  fields := #[]
  methods := #[]
  instanceTypes := #[]
  staticTypes := #[]
  resolved := Array.replicate 7 none
  statics := none }

def pool5 : Array CpInfo := pool [(2, .class_ 4), (1, u "java/lang/Enum"), (0, u "name"), (0, u "Ljava/lang/String;"), (2, u "ordinal"), (0, u "I"), (1, .class_ 14), (1, u "java/lang/Object"), (4, u "hash"), (86, .class_ 108), (1, u "java/lang/Enum$EnumDesc"), (2, .class_ 112), (0, u "java/lang/constant/Constable"), (0, .class_ 114), (0, u "java/lang/Comparable"), (0, .class_ 116), (0, u "java/io/Serializable")] 87

/-- java/lang/Enum -/
def k5 : Class := { plain "java/lang/Enum" (some 0) with
  accessFlags := 1057
  interfaces := #[2, 3, 4]
  cf := some (fileOf pool5 2 #[.nestMembers #[106]] #[] 1057 12 #[111, 113, 115] #[{ accessFlags := 18, nameIndex := 5, descriptorIndex := 6, attributes := #[] }, { accessFlags := 18, nameIndex := 9, descriptorIndex := 10, attributes := #[] }, { accessFlags := 2, nameIndex := 19, descriptorIndex := 10, attributes := #[] }])
  fields := #[{ name := "name", type := (.object "java/lang/String"), accessFlags := 18, slot := 0, constantValue := 0 }, { name := "ordinal", type := .int, accessFlags := 18, slot := 1, constantValue := 0 }, { name := "hash", type := .int, accessFlags := 2, slot := 2, constantValue := 0 }]
  methods := #[]
  instanceTypes := #[(.object "java/lang/String"), .int, .int]
  staticTypes := #[]
  resolved := Array.replicate 204 none
  statics := none }

def pool6 : Array CpInfo := pool [(1, .class_ 2), (0, u "com/example/output_under_guard/outputunderguard/PrinterPath"), (2, u "PRINT"), (0, u "Lcom/example/output_under_guard/outputunderguard/PrinterPath;"), (2, u "SECURE"), (2, u "$VALUES"), (0, u "[Lcom/example/output_under_guard/outputunderguard/PrinterPath;"), (6, .class_ 22), (1, u "java/lang/Enum"), (8, u "path"), (0, u "Ljava/lang/String;"), (0, .fieldref 1 34), (0, .nameAndType 35 32), (0, u "authentication"), (0, .string 37), (0, u "none"), (0, .methodref 39 40), (0, .class_ 41), (0, .nameAndType 42 43), (0, u "java/lang/String"), (0, u "equals"), (0, u "(Ljava/lang/Object;)Z"), (22, u "()Ljava/lang/String;"), (0, u "requiresLogin"), (0, u "()Z")] 6

def k6c0 : Code := { maxStack := 1, maxLocals := 1, code := prog_39_method_5_code, exceptionTable := #[], attributes := #[] }
def k6m0 : Method := { name := "authentication", desc := "()Ljava/lang/String;", sig := { parameters := [], returnType := some (.object "java/lang/String") }, accessFlags := 0, code := some k6c0 }
def k6c1 : Code := { maxStack := 2, maxLocals := 1, code := prog_39_method_6_code, exceptionTable := #[], attributes := #[] }
def k6m1 : Method := { name := "requiresLogin", desc := "()Z", sig := { parameters := [], returnType := some .boolean }, accessFlags := 0, code := some k6c1 }
/-- com/example/output_under_guard/outputunderguard/PrinterPath -/
def k6 : Class := { plain "com/example/output_under_guard/outputunderguard/PrinterPath" (some 5) with
  accessFlags := 16432
  interfaces := #[]
  cf := some (fileOf pool6 1 #[] #[{ accessFlags := 0, nameIndex := 35, descriptorIndex := 66, attributes := #[] }, { accessFlags := 0, nameIndex := 67, descriptorIndex := 68, attributes := #[] }] 16432 20 #[] #[{ accessFlags := 16409, nameIndex := 5, descriptorIndex := 6, attributes := #[] }, { accessFlags := 16409, nameIndex := 9, descriptorIndex := 6, attributes := #[] }, { accessFlags := 18, nameIndex := 31, descriptorIndex := 32, attributes := #[] }, { accessFlags := 18, nameIndex := 35, descriptorIndex := 32, attributes := #[] }, { accessFlags := 4122, nameIndex := 12, descriptorIndex := 13, attributes := #[] }])
  fields := #[{ name := "PRINT", type := (.object "com/example/output_under_guard/outputunderguard/PrinterPath"), accessFlags := 16409, slot := 0, constantValue := 0 }, { name := "SECURE", type := (.object "com/example/output_under_guard/outputunderguard/PrinterPath"), accessFlags := 16409, slot := 1, constantValue := 0 }, { name := "path", type := (.object "java/lang/String"), accessFlags := 18, slot := 3, constantValue := 0 }, { name := "authentication", type := (.object "java/lang/String"), accessFlags := 18, slot := 4, constantValue := 0 }, { name := "$VALUES", type := (.array (.object "com/example/output_under_guard/outputunderguard/PrinterPath")), accessFlags := 4122, slot := 2, constantValue := 0 }]
  methods := #[k6m0, k6m1]
  instanceTypes := #[(.object "java/lang/String"), .int, .int, (.object "java/lang/String"), (.object "java/lang/String")]
  staticTypes := #[(.object "com/example/output_under_guard/outputunderguard/PrinterPath"), (.object "com/example/output_under_guard/outputunderguard/PrinterPath"), (.array (.object "com/example/output_under_guard/outputunderguard/PrinterPath"))]
  resolved := Array.replicate 75 none
  statics := some 2 }

def pool7 : Array CpInfo := pool [(2, .class_ 4), (1, u "java/lang/CharSequence"), (42, .class_ 48), (0, u "java/lang/CharSequence$1CodePointIterator"), (10, .class_ 60), (0, u "java/lang/CharSequence$1CharIterator"), (5, .class_ 67), (0, u "java/lang/Object")] 63

/-- java/lang/CharSequence -/
def k7 : Class := { plain "java/lang/CharSequence" (some 0) with
  accessFlags := 1537
  interfaces := #[]
  cf := some (fileOf pool7 2 #[.nestMembers #[47, 59]] #[] 1537 66 #[] #[])
  fields := #[]
  methods := #[]
  instanceTypes := #[]
  staticTypes := #[]
  resolved := Array.replicate 131 none
  statics := none }

def pool8 : Array CpInfo := pool [(1, .class_ 2), (0, u "java/lang/constant/ConstantDesc"), (0, .class_ 4), (0, u "java/lang/Object")] 32

/-- java/lang/constant/ConstantDesc -/
def k8 : Class := { plain "java/lang/constant/ConstantDesc" (some 0) with
  accessFlags := 1537
  interfaces := #[]
  cf := some (fileOf pool8 1 #[] #[] 1537 3 #[] #[])
  fields := #[]
  methods := #[]
  instanceTypes := #[]
  staticTypes := #[]
  resolved := Array.replicate 37 none
  statics := none }

def pool9 : Array CpInfo := pool [(2, .class_ 4), (1, u "java/lang/Object"), (0, u "<init>"), (0, u "()V"), (2, .fieldref 10 11), (0, .class_ 12), (0, .nameAndType 13 14), (0, u "java/lang/String"), (0, u "value"), (0, u "[B"), (0, .fieldref 10 16), (0, .nameAndType 17 18), (0, u "coder"), (0, u "B"), (2, u "hash"), (0, u "I"), (2, u "hashIsZero"), (0, u "Z"), (11, .fieldref 10 39), (0, .nameAndType 40 26), (0, u "COMPACT_STRINGS"), (66, .class_ 109), (1, u "java/lang/StringLatin1"), (431, .methodref 107 542), (0, .nameAndType 543 544), (0, u "equals"), (0, u "([B[B)Z"), (28, u "(Ljava/lang/Object;)Z"), (1, .class_ 576), (0, u "java/lang/CharSequence"), (22, u "CASE_INSENSITIVE_ORDER"), (0, u "Ljava/util/Comparator;"), (500, u "serialPersistentFields"), (0, u "[Ljava/io/ObjectStreamField;"), (0, .class_ 1104), (0, u "java/lang/String$CaseInsensitiveComparator"), (1, .class_ 1107), (0, u "java/io/Serializable"), (0, .class_ 1109), (0, u "java/lang/Comparable"), (0, .class_ 1111), (0, u "java/lang/constant/Constable"), (0, .class_ 1113), (0, u "java/lang/constant/ConstantDesc"), (2, u "serialVersionUID"), (0, u "J"), (3, u "REPL"), (0, u "C"), (2, u "LATIN1"), (1, u "UTF16")] 323

def k9m0 : Method := { name := "<init>", desc := "()V", sig := { parameters := [], returnType := none }, accessFlags := 1, code := none }
def k9c1 : Code := { maxStack := 2, maxLocals := 3, code := jdk_42_method_66_code, exceptionTable := #[], attributes := #[] }
def k9m1 : Method := { name := "equals", desc := "(Ljava/lang/Object;)Z", sig := { parameters := [(.object "java/lang/Object")], returnType := some .boolean }, accessFlags := 1, code := some k9c1 }
/-- java/lang/String -/
def k9 : Class := { plain "java/lang/String" (some 0) with
  accessFlags := 49
  interfaces := #[4, 3, 7, 2, 8]
  cf := some (fileOf pool9 10 #[.nestMembers #[1103]] #[{ accessFlags := 1, nameIndex := 5, descriptorIndex := 6, attributes := #[] }, { accessFlags := 1, nameIndex := 543, descriptorIndex := 573, attributes := #[] }] 49 2 #[1106, 1108, 575, 1110, 1112] #[{ accessFlags := 18, nameIndex := 13, descriptorIndex := 14, attributes := #[] }, { accessFlags := 18, nameIndex := 17, descriptorIndex := 18, attributes := #[] }, { accessFlags := 2, nameIndex := 21, descriptorIndex := 22, attributes := #[] }, { accessFlags := 2, nameIndex := 25, descriptorIndex := 26, attributes := #[] }, { accessFlags := 26, nameIndex := 1116, descriptorIndex := 1117, attributes := #[] }, { accessFlags := 24, nameIndex := 40, descriptorIndex := 26, attributes := #[] }, { accessFlags := 26, nameIndex := 1101, descriptorIndex := 1102, attributes := #[] }, { accessFlags := 26, nameIndex := 1121, descriptorIndex := 1122, attributes := #[] }, { accessFlags := 25, nameIndex := 599, descriptorIndex := 600, attributes := #[] }, { accessFlags := 24, nameIndex := 1125, descriptorIndex := 18, attributes := #[] }, { accessFlags := 24, nameIndex := 1127, descriptorIndex := 18, attributes := #[] }])
  fields := #[{ name := "value", type := (.array .byte), accessFlags := 18, slot := 0, constantValue := 0 }, { name := "coder", type := .byte, accessFlags := 18, slot := 1, constantValue := 0 }, { name := "hash", type := .int, accessFlags := 2, slot := 2, constantValue := 0 }, { name := "hashIsZero", type := .boolean, accessFlags := 2, slot := 3, constantValue := 0 }, { name := "serialVersionUID", type := .long, accessFlags := 26, slot := 0, constantValue := 0 }, { name := "COMPACT_STRINGS", type := .boolean, accessFlags := 24, slot := 1, constantValue := 0 }, { name := "serialPersistentFields", type := (.array (.object "java/io/ObjectStreamField")), accessFlags := 26, slot := 2, constantValue := 0 }, { name := "REPL", type := .char, accessFlags := 26, slot := 3, constantValue := 0 }, { name := "CASE_INSENSITIVE_ORDER", type := (.object "java/util/Comparator"), accessFlags := 25, slot := 4, constantValue := 0 }, { name := "LATIN1", type := .byte, accessFlags := 24, slot := 5, constantValue := 0 }, { name := "UTF16", type := .byte, accessFlags := 24, slot := 6, constantValue := 0 }]
  methods := #[k9m0, k9m1]
  instanceTypes := #[(.array .byte), .byte, .int, .boolean]
  staticTypes := #[.long, .boolean, (.array (.object "java/io/ObjectStreamField")), .char, (.object "java/util/Comparator"), .byte, .byte]
  resolved := Array.replicate 1451 none
  statics := some 0 }

def pool10 : Array CpInfo := pool [(4, .class_ 6), (1, u "java/lang/Object"), (0, u "<init>"), (0, u "()V"), (5, .class_ 16), (1, u "java/lang/StringLatin1"), (104, u "$assertionsDisabled"), (0, u "Z"), (98, .class_ 223), (1, u "java/lang/StringLatin1$LinesSpliterator"), (57, u "equals"), (0, u "([B[B)Z"), (107, .class_ 391), (0, u "java/lang/StringLatin1$CharsSpliterator")] 3

def k10m0 : Method := { name := "<init>", desc := "()V", sig := { parameters := [], returnType := none }, accessFlags := 0, code := none }
def k10c1 : Code := { maxStack := 3, maxLocals := 3, code := jdk_43_method_13_code, exceptionTable := #[], attributes := #[] }
def k10m1 : Method := { name := "equals", desc := "([B[B)Z", sig := { parameters := [(.array .byte), (.array .byte)], returnType := some .boolean }, accessFlags := 9, code := some k10c1 }
/-- java/lang/StringLatin1 -/
def k10 : Class := { plain "java/lang/StringLatin1" (some 0) with
  accessFlags := 48
  interfaces := #[]
  cf := some (fileOf pool10 14 #[.nestMembers #[390, 221]] #[{ accessFlags := 0, nameIndex := 7, descriptorIndex := 8, attributes := #[] }, { accessFlags := 9, nameIndex := 281, descriptorIndex := 282, attributes := #[] }] 48 4 #[] #[{ accessFlags := 4120, nameIndex := 121, descriptorIndex := 122, attributes := #[] }])
  fields := #[{ name := "$assertionsDisabled", type := .boolean, accessFlags := 4120, slot := 0, constantValue := 0 }]
  methods := #[k10m0, k10m1]
  instanceTypes := #[]
  staticTypes := #[.boolean]
  resolved := Array.replicate 395 none
  statics := none }

def pool11 : Array CpInfo := pool [(2, .class_ 4), (1, u "java/lang/Object"), (0, u "<init>"), (0, u "()V"), (17, .class_ 26), (1, u "jdk/internal/util/Preconditions"), (28, .class_ 56), (0, u "jdk/internal/util/Preconditions$4"), (57, .class_ 115), (0, u "jdk/internal/util/Preconditions$1"), (7, u "SIOOBE_FORMATTER"), (0, u "Ljava/util/function/BiFunction;"), (0, .class_ 126), (0, u "jdk/internal/util/Preconditions$2"), (3, u "AIOOBE_FORMATTER"), (0, .class_ 132), (0, u "jdk/internal/util/Preconditions$3"), (3, u "IOOBE_FORMATTER")] 57

def k11m0 : Method := { name := "<init>", desc := "()V", sig := { parameters := [], returnType := none }, accessFlags := 1, code := none }
/-- jdk/internal/util/Preconditions -/
def k11 : Class := { plain "jdk/internal/util/Preconditions" (some 0) with
  accessFlags := 33
  interfaces := #[]
  cf := some (fileOf pool11 24 #[.nestMembers #[55, 131, 125, 114]] #[{ accessFlags := 1, nameIndex := 5, descriptorIndex := 6, attributes := #[] }] 33 2 #[] #[{ accessFlags := 25, nameIndex := 123, descriptorIndex := 124, attributes := #[] }, { accessFlags := 25, nameIndex := 130, descriptorIndex := 124, attributes := #[] }, { accessFlags := 25, nameIndex := 136, descriptorIndex := 124, attributes := #[] }])
  fields := #[{ name := "SIOOBE_FORMATTER", type := (.object "java/util/function/BiFunction"), accessFlags := 25, slot := 0, constantValue := 0 }, { name := "AIOOBE_FORMATTER", type := (.object "java/util/function/BiFunction"), accessFlags := 25, slot := 1, constantValue := 0 }, { name := "IOOBE_FORMATTER", type := (.object "java/util/function/BiFunction"), accessFlags := 25, slot := 2, constantValue := 0 }]
  methods := #[k11m0]
  instanceTypes := #[]
  staticTypes := #[(.object "java/util/function/BiFunction"), (.object "java/util/function/BiFunction"), (.object "java/util/function/BiFunction")]
  resolved := Array.replicate 194 none
  statics := some 1 }

def pool12 : Array CpInfo := pool [(9, u "<init>"), (6, .class_ 18), (1, u "java/lang/Object"), (0, u "()V"), (1, .class_ 23), (1, u "jdk/internal/util/ArraysSupport"), (0, u "LOG2_ARRAY_LONG_INDEX_SCALE"), (0, u "I"), (2, u "U"), (0, u "Ljdk/internal/misc/Unsafe;"), (8, u "BIG_ENDIAN"), (0, u "Z"), (8, u "LOG2_BYTE_BIT_SIZE"), (4, u "LOG2_ARRAY_INT_INDEX_SCALE"), (54, u "JLA"), (0, u "Ljdk/internal/access/JavaLangAccess;"), (11, u "LOG2_ARRAY_BOOLEAN_INDEX_SCALE"), (9, u "LOG2_ARRAY_BYTE_INDEX_SCALE"), (5, u "LOG2_ARRAY_CHAR_INDEX_SCALE"), (5, u "LOG2_ARRAY_SHORT_INDEX_SCALE"), (18, u "LOG2_ARRAY_FLOAT_INDEX_SCALE"), (24, u "LOG2_ARRAY_DOUBLE_INDEX_SCALE"), (89, u "T_BOOLEAN"), (2, u "T_CHAR"), (1, u "T_FLOAT"), (1, u "T_DOUBLE"), (1, u "T_BYTE"), (1, u "T_SHORT"), (1, u "T_INT"), (1, u "T_LONG"), (1, u "SOFT_MAX_ARRAY_LENGTH")] 83

def k12m0 : Method := { name := "<init>", desc := "()V", sig := { parameters := [], returnType := none }, accessFlags := 2, code := none }
/-- jdk/internal/util/ArraysSupport -/
def k12 : Class := { plain "jdk/internal/util/ArraysSupport" (some 0) with
  accessFlags := 33
  interfaces := #[]
  cf := some (fileOf pool12 21 #[] #[{ accessFlags := 2, nameIndex := 9, descriptorIndex := 19, attributes := #[] }] 33 16 #[] #[{ accessFlags := 24, nameIndex := 28, descriptorIndex := 29, attributes := #[] }, { accessFlags := 26, nameIndex := 38, descriptorIndex := 39, attributes := #[] }, { accessFlags := 25, nameIndex := 121, descriptorIndex := 25, attributes := #[] }, { accessFlags := 25, nameIndex := 131, descriptorIndex := 25, attributes := #[] }, { accessFlags := 25, nameIndex := 137, descriptorIndex := 25, attributes := #[] }, { accessFlags := 25, nameIndex := 143, descriptorIndex := 25, attributes := #[] }, { accessFlags := 25, nameIndex := 53, descriptorIndex := 25, attributes := #[] }, { accessFlags := 25, nameIndex := 24, descriptorIndex := 25, attributes := #[] }, { accessFlags := 25, nameIndex := 162, descriptorIndex := 25, attributes := #[] }, { accessFlags := 25, nameIndex := 187, descriptorIndex := 25, attributes := #[] }, { accessFlags := 26, nameIndex := 48, descriptorIndex := 25, attributes := #[] }, { accessFlags := 25, nameIndex := 277, descriptorIndex := 25, attributes := #[] }, { accessFlags := 25, nameIndex := 280, descriptorIndex := 25, attributes := #[] }, { accessFlags := 25, nameIndex := 282, descriptorIndex := 25, attributes := #[] }, { accessFlags := 25, nameIndex := 284, descriptorIndex := 25, attributes := #[] }, { accessFlags := 25, nameIndex := 286, descriptorIndex := 25, attributes := #[] }, { accessFlags := 25, nameIndex := 288, descriptorIndex := 25, attributes := #[] }, { accessFlags := 25, nameIndex := 290, descriptorIndex := 25, attributes := #[] }, { accessFlags := 25, nameIndex := 292, descriptorIndex := 25, attributes := #[] }, { accessFlags := 26, nameIndex := 108, descriptorIndex := 109, attributes := #[] }, { accessFlags := 25, nameIndex := 294, descriptorIndex := 25, attributes := #[] }])
  fields := #[{ name := "U", type := (.object "jdk/internal/misc/Unsafe"), accessFlags := 24, slot := 0, constantValue := 0 }, { name := "BIG_ENDIAN", type := .boolean, accessFlags := 26, slot := 1, constantValue := 0 }, { name := "LOG2_ARRAY_BOOLEAN_INDEX_SCALE", type := .int, accessFlags := 25, slot := 2, constantValue := 0 }, { name := "LOG2_ARRAY_BYTE_INDEX_SCALE", type := .int, accessFlags := 25, slot := 3, constantValue := 0 }, { name := "LOG2_ARRAY_CHAR_INDEX_SCALE", type := .int, accessFlags := 25, slot := 4, constantValue := 0 }, { name := "LOG2_ARRAY_SHORT_INDEX_SCALE", type := .int, accessFlags := 25, slot := 5, constantValue := 0 }, { name := "LOG2_ARRAY_INT_INDEX_SCALE", type := .int, accessFlags := 25, slot := 6, constantValue := 0 }, { name := "LOG2_ARRAY_LONG_INDEX_SCALE", type := .int, accessFlags := 25, slot := 7, constantValue := 0 }, { name := "LOG2_ARRAY_FLOAT_INDEX_SCALE", type := .int, accessFlags := 25, slot := 8, constantValue := 0 }, { name := "LOG2_ARRAY_DOUBLE_INDEX_SCALE", type := .int, accessFlags := 25, slot := 9, constantValue := 0 }, { name := "LOG2_BYTE_BIT_SIZE", type := .int, accessFlags := 26, slot := 10, constantValue := 0 }, { name := "T_BOOLEAN", type := .int, accessFlags := 25, slot := 11, constantValue := 0 }, { name := "T_CHAR", type := .int, accessFlags := 25, slot := 12, constantValue := 0 }, { name := "T_FLOAT", type := .int, accessFlags := 25, slot := 13, constantValue := 0 }, { name := "T_DOUBLE", type := .int, accessFlags := 25, slot := 14, constantValue := 0 }, { name := "T_BYTE", type := .int, accessFlags := 25, slot := 15, constantValue := 0 }, { name := "T_SHORT", type := .int, accessFlags := 25, slot := 16, constantValue := 0 }, { name := "T_INT", type := .int, accessFlags := 25, slot := 17, constantValue := 0 }, { name := "T_LONG", type := .int, accessFlags := 25, slot := 18, constantValue := 0 }, { name := "JLA", type := (.object "jdk/internal/access/JavaLangAccess"), accessFlags := 26, slot := 19, constantValue := 0 }, { name := "SOFT_MAX_ARRAY_LENGTH", type := .int, accessFlags := 25, slot := 20, constantValue := 0 }]
  methods := #[k12m0]
  instanceTypes := #[]
  staticTypes := #[(.object "jdk/internal/misc/Unsafe"), .boolean, .int, .int, .int, .int, .int, .int, .int, .int, .int, .int, .int, .int, .int, .int, .int, .int, .int, (.object "jdk/internal/access/JavaLangAccess"), .int]
  resolved := Array.replicate 378 none
  statics := none }

def pool13 : Array CpInfo := pool [(1, u "java/lang/Cloneable"), (0, .class_ 1), (0, u "java/lang/Object"), (0, .class_ 3)] 3

/-- java/lang/Cloneable -/
def k13 : Class := { plain "java/lang/Cloneable" (some 0) with
  accessFlags := 1537
  interfaces := #[]
  cf := some (fileOf pool13 2 #[] #[] 1537 4 #[] #[])
  fields := #[]
  methods := #[]
  instanceTypes := #[]
  staticTypes := #[]
  resolved := Array.replicate 8 none
  statics := none }

/-- the primitive byte -/
def k14 : Class := { plain "byte" none with kind := .primitive 'B', accessFlags := 0x411 }
/-- [B -/
def k15 : Class := { plain "[B" (some 0) with kind := .array 14 .byte, interfaces := #[13, 4], accessFlags := 1041 }

/-- the primitive int -/
def k16 : Class := { plain "int" none with kind := .primitive 'I', accessFlags := 0x411 }
/-- [I -/
def k17 : Class := { plain "[I" (some 0) with kind := .array 16 .int, interfaces := #[13, 4], accessFlags := 1041 }

def heap : Heap := #[{ cls := 9, slots := #[.long 0, .int 1, .null, .int 0, .null, .int 0, .int 0], vm := .statics 9 },
  { cls := 11, slots := #[.null, .null, .null], vm := .statics 11 },
  { cls := 6, slots := #[.ref 3, .ref 4, .null], vm := .statics 6 },
  { cls := 6, slots := #[.null, .int 0, .int 0, .null, .ref 5], vm := .none },
  { cls := 6, slots := #[.null, .int 1, .int 0, .null, .ref 7], vm := .none },
  { cls := 9, slots := #[.ref 6, .int 0, .int 0, .int 0], vm := .none },
  { cls := 15, slots := #[.int 110, .int 111, .int 110, .int 101], vm := .none },
  { cls := 9, slots := #[.ref 8, .int 0, .int 0, .int 0], vm := .none },
  { cls := 15, slots := #[.int 98, .int 97, .int 115, .int 105, .int 99], vm := .none }]
def classes : Array Class := #[k0, k1, k2, k3, k4, k5, k6, k7, k8, k9, k10, k11, k12, k13, k14, k15, k16, k17]
def interned : List (Array UInt16 × Addr) := []
def slotsUsed : Nat := 40
def theMethod : MethodId := ⟨1, 1⟩
def args0 : Array Value := #[.int 7]
def aboutOver (below : List Frame) : State where
  vm := { classes := classes, interned := interned.toArray }
  heap := heap
  slotsUsed := slotsUsed
  threads := #[{ frames := .invoking theMethod args0 :: below }]
def below0 : List Frame := [.native { method := ⟨0, 0⟩, args := #[] }]
def about1 : State := aboutOver below0
def p0 : Program := .bare "" "" ""
def e0 : Env := launch0.env 0 0 0
theorem w_frames : about1.frames = Frame.invoking theMethod args0 :: below0 := rfl
set_option maxRecDepth 65536 in
theorem w_args : argsFit about1.vm theMethod args0 = true := by decide +kernel
set_option maxRecDepth 65536 in
theorem w_heap : heapFits about1 = true := by decide +kernel
set_option maxRecDepth 65536 in
theorem w_runnable : about1.curStatus? = some .runnable := by decide +kernel
set_option maxRecDepth 65536 in
theorem w_alone : about1.alone = true := by decide +kernel
set_option maxRecDepth 65536 in
theorem w_named : about1.methodNamed? x = some theMethod := by decide +kernel
set_option maxRecDepth 65536 in
theorem w_hears : about1.hears theMethod below0 = true := by decide +kernel
set_option maxRecDepth 65536 in
theorem w_ripe : about1.ripe theMethod args0 below0 = true := by decide +kernel
theorem w_running : about1.status = .running := rfl
set_option maxRecDepth 65536 in
theorem w_room : about1.hasRoom e0.platform room_1 = true :=
  launch0.hasRoom_least _ room_1 (by decide +kernel) (by decide +kernel) (by decide +kernel) (by decide +kernel) (by decide +kernel) (by decide +kernel)
theorem allAtoms_all (ts : List Jvm.Cond) (a : Array Jvm.Value) (st : Jvm.State) : (allAtoms ts).before a st = ts.all (fun c => c.before a st) := by
  induction ts with
  | nil => rfl
  | cons c t ih =>
    show (Jvm.Cond.and c (allAtoms t)).before a st = _
    rw [Jvm.Cond.before_and, ih, List.all_cons]
def words1 : List Jvm.Cond := Jvm.Cond.code x code maxLocals ret :: tables_1
/-- a 'code' word, met by the world's own term for the bytes: nothing is compared byte by byte -/
theorem code_word {y : MethodName} {bytes : ByteArray} {mx : Nat} {rt : Option FieldType} {a : Array Value} {s : State} {m : MethodId} {meth : Method} {c : Code} (h1 : s.methodNamed? y = some m) (h2 : s.vm.method? m = some meth) (h3 : meth.code = some c) (h4 : c.code = bytes)
    (h5 : (c.maxLocals == mx && c.exceptionTable.isEmpty && decide (c.maxStack ≤ mostOperands) && decide (meth.sig.returnType = rt) && !meth.locks && decide (parseMethodDescriptor y.desc = some meth.sig)) = true) : (Jvm.Cond.code y bytes mx rt).before a s = true := by
  simp only [Bool.and_eq_true, beq_iff_eq, Bool.not_eq_true', decide_eq_true_eq] at h5
  obtain ⟨⟨⟨⟨⟨g1, g2⟩, g3⟩, g4⟩, g5⟩, g6⟩ := h5
  simp [Cond.before, Cond.holds, Cond.value, h1, h2, h3, h4, g1, g2, g3, g4, g5, g6]
def isCode : Jvm.Cond → Bool
  | .code _ _ _ _ => true
  | _ => false
theorem all_split {L : List Jvm.Cond} {P : Jvm.Cond → Bool} (h1 : L.all (fun c => isCode c || P c) = true) (h2 : ∀ c ∈ L.filter isCode, P c = true) : L.all P = true := by
  refine List.all_eq_true.mpr fun c hc => ?_
  have h := List.all_eq_true.mp h1 c hc
  rcases Bool.eq_false_or_eq_true (isCode c) with hi | hi
  · exact h2 c (List.mem_filter.mpr ⟨hc, hi⟩)
  · simpa [hi] using h
set_option maxRecDepth 65536 in
theorem w_c0 : (Jvm.Cond.code x code maxLocals ret).before args0 about1 = true := code_word (m := ⟨1, 1⟩) (meth := k1m1) (c := k1c1) (by decide +kernel) rfl rfl rfl (by decide +kernel)
set_option maxRecDepth 65536 in
theorem w_c1 : (Jvm.Cond.code ({ cls := "com/example/output_under_guard/outputunderguard/PrinterPath", name := "requiresLogin", desc := "()Z" } : Jvm.MethodName) prog_39_method_6_code (1 : Nat) (Option.some Jvm.ClassFile.FieldType.boolean)).before args0 about1 = true := code_word (m := ⟨6, 1⟩) (meth := k6m1) (c := k6c1) (by decide +kernel) rfl rfl rfl (by decide +kernel)
set_option maxRecDepth 65536 in
theorem w_c2 : (Jvm.Cond.code ({ cls := "java/lang/String", name := "equals", desc := "(Ljava/lang/Object;)Z" } : Jvm.MethodName) jdk_42_method_66_code (3 : Nat) (Option.some Jvm.ClassFile.FieldType.boolean)).before args0 about1 = true := code_word (m := ⟨9, 1⟩) (meth := k9m1) (c := k9c1) (by decide +kernel) rfl rfl rfl (by decide +kernel)
set_option maxRecDepth 65536 in
theorem w_c3 : (Jvm.Cond.code ({ cls := "java/lang/StringLatin1", name := "equals", desc := "([B[B)Z" } : Jvm.MethodName) jdk_43_method_13_code (3 : Nat) (Option.some Jvm.ClassFile.FieldType.boolean)).before args0 about1 = true := code_word (m := ⟨10, 1⟩) (meth := k10m1) (c := k10c1) (by decide +kernel) rfl rfl rfl (by decide +kernel)
set_option maxRecDepth 65536 in
theorem w_c4 : (Jvm.Cond.code ({ cls := "com/example/output_under_guard/outputunderguard/PrinterPath", name := "authentication", desc := "()Ljava/lang/String;" } : Jvm.MethodName) prog_39_method_5_code (1 : Nat) (Option.some (Jvm.ClassFile.FieldType.object "java/lang/String"))).before args0 about1 = true := code_word (m := ⟨6, 0⟩) (meth := k6m0) (c := k6c0) (by decide +kernel) rfl rfl rfl (by decide +kernel)
def codes1 : List Jvm.Cond := [Jvm.Cond.code x code maxLocals ret, Jvm.Cond.code ({ cls := "com/example/output_under_guard/outputunderguard/PrinterPath", name := "requiresLogin", desc := "()Z" } : Jvm.MethodName) prog_39_method_6_code (1 : Nat) (Option.some Jvm.ClassFile.FieldType.boolean), Jvm.Cond.code ({ cls := "java/lang/String", name := "equals", desc := "(Ljava/lang/Object;)Z" } : Jvm.MethodName) jdk_42_method_66_code (3 : Nat) (Option.some Jvm.ClassFile.FieldType.boolean), Jvm.Cond.code ({ cls := "java/lang/StringLatin1", name := "equals", desc := "([B[B)Z" } : Jvm.MethodName) jdk_43_method_13_code (3 : Nat) (Option.some Jvm.ClassFile.FieldType.boolean), Jvm.Cond.code ({ cls := "com/example/output_under_guard/outputunderguard/PrinterPath", name := "authentication", desc := "()Ljava/lang/String;" } : Jvm.MethodName) prog_39_method_5_code (1 : Nat) (Option.some (Jvm.ClassFile.FieldType.object "java/lang/String"))]
set_option maxRecDepth 65536 in
theorem codes_eq : words1.filter isCode = codes1 := rfl
theorem w_codes : ∀ c ∈ words1.filter isCode, c.before args0 about1 = true := by
  rw [codes_eq]
  intro c hc
  simp only [codes1, List.mem_cons, List.not_mem_nil, or_false] at hc
  rcases hc with rfl | rfl | rfl | rfl | rfl
  · exact w_c0
  · exact w_c1
  · exact w_c2
  · exact w_c3
  · exact w_c4
set_option maxRecDepth 65536 in
theorem w_t1 : (words1.take 24).all (fun c => isCode c || c.before args0 about1) = true := by decide +kernel
set_option maxRecDepth 65536 in
theorem w_t2 : (words1.drop 24).all (fun c => isCode c || c.before args0 about1) = true := by decide +kernel
theorem w_tables : (allAtoms (Jvm.Cond.code x code maxLocals ret :: tables_1)).before args0 about1 = true := by
  rw [allAtoms_all]
  show words1.all (fun c => c.before args0 about1) = true
  refine all_split ?_ w_codes
  rw [← List.take_append_drop 24 words1, List.all_append, w_t1, w_t2]
  rfl
set_option maxRecDepth 65536 in
theorem w_rest : rest_1_c.before args0 about1 = true := by decide +kernel
set_option maxRecDepth 65536 in
theorem w_case : (Jvm.Cond.and given_1 narrow_1).before args0 about1 = true := by decide +kernel
set_option maxRecDepth 65536 in
theorem w_consts : constsHeld consts_1 about1 := Jvm.Lit.constsHeldB_iff.mp (by decide +kernel)
theorem w_applies : (headSpec (Jvm.Cond.code x code maxLocals ret :: tables_1) room_1).applies x e0.platform about1 = true :=
  (Spec.applies_iff w_frames).mpr ⟨w_running, w_runnable, w_alone, w_named, w_hears, w_ripe, w_room, w_tables⟩
theorem atStart : AtStart classFile x code maxLocals ret World_1 tables_1 room_1 Calls_1 rest_1 Pre_1 launch0 p0 e0 about1 theMethod args0 below0 :=
  ⟨lists_1, trivial, launch0.admits_env _ _ _, launch0.least_env, fairChoices_fair.cas, fairChoices_fair.clock, w_frames, w_args, w_heap, w_applies, ⟨w_consts, trivial⟩, w_rest, w_case⟩
end start1
theorem witness_1 : WitnessClaimed_1 := ⟨start1.p0, start1.e0, start1.about1, start1.theMethod, start1.args0, start1.below0, start1.atStart⟩
end Jvm.Pilot.@@N@@
