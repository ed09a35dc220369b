import PyProof.Rows.All
import Wide.All
import OpenK.AllK
import Wide.FinOn
import PyProof.ExcBaseAll.ValueError
import Lean
import PySem.Challenge.RW_rx0146_01
open PySem PySem.W PyProof.Rows
set_option Elab.async false
set_option maxRecDepth 1000000
set_option maxHeartbeats 4000000
namespace Mine
noncomputable abbrev PP : Program := PySem.Challenge.rw_rx0146_01.row.prog
/-- statement i of the text; statement j of a class statement -/
noncomputable def stm (i : Nat) : Stmt := PP.main.body.getD i (.Pass ⟨0, 0, 0, 0⟩)
noncomputable def inCls (s : Stmt) (j : Nat) : Stmt := match s with
  | .ClassDef _ _ _ body _ _ _ _ _ _ _ => body.getD j (.Pass ⟨0, 0, 0, 0⟩)
  | s => s
/-- the function object that a def of the text leaves -/
noncomputable def fdAt (s : Stmt) (q md : Str) (t : Nat) (dv : Value) (a : Addr) : FuncData := match s with
  | .FunctionDef name args body _ _ _ scope _ _ _ => { name, qualname := q, params := args, body := .stmts body, scope, globals := mainGlobals, closure := [], defaults := dv, kwdefaults := .none, pyModule := .str md t, code := .ref (a - 1), builtins := builtinsNs }
  | _ => default
noncomputable def fd229 : FuncData := fdAt (stm 23) "_law_bare" "law_rx0146_01" 721 .none 229
noncomputable def fd45 : FuncData := fdAt (stm 3) "_iter_escaped_chars" "cpy313.email.utils" 289 .none 45
noncomputable def fd215 : FuncData := fdAt (stm 21) "_law_fits" "law_rx0146_01" 721 .none 215
noncomputable def fd69 : FuncData := fdAt (stm 9) "escape" "re" 350 .none 69
noncomputable def fd76 : FuncData := fdAt (stm 11) "_translate" "cpy313.fnmatch" 505 .none 76
noncomputable def fd83 : FuncData := fdAt (stm 12) "_join_translated_parts" "cpy313.fnmatch" 505 .none 83
noncomputable def fd57 : FuncData := fdAt (stm 6) "translate" "cpy313.fnmatch" 301 .none 57
noncomputable def fd98 : FuncData := fdAt (inCls (stm 16) 1) "_NodeInfo.__init__" "cpy313.graphlib" 539 .none 98
noncomputable def fd142 : FuncData := fdAt (inCls (stm 18) 1) "TopologicalSorter._get_nodeinfo" "cpy313.graphlib" 539 .none 142
noncomputable def fd149 : FuncData := fdAt (inCls (stm 18) 2) "TopologicalSorter.add" "cpy313.graphlib" 539 .none 149
noncomputable def fd135 : FuncData := fdAt (inCls (stm 18) 0) "TopologicalSorter.__init__" "cpy313.graphlib" 539 (.ref 128) 135
noncomputable def fd189 : FuncData := fdAt (inCls (stm 18) 8) "TopologicalSorter._find_cycle" "cpy313.graphlib" 539 .none 189
noncomputable def fd154 : FuncData := fdAt (inCls (stm 18) 3) "TopologicalSorter.prepare" "cpy313.graphlib" 539 .none 154
noncomputable def fd222 : FuncData := fdAt (stm 22) "_law_ring" "law_rx0146_01" 721 .none 222
noncomputable def fd239 : FuncData := fdAt (stm 25) "law" "law_rx0146_01" 721 .none 239
noncomputable def fd234 : FuncData := fdAt (stm 24) "_law_takes" "law_rx0146_01" 721 .none 234
noncomputable def fd210 : FuncData := fdAt (stm 20) "_law_units" "law_rx0146_01" 721 .none 210
/-- a function stands, its code too -/
structure Fn (K : Frag) (a : Addr) (fd : FuncData) : Prop where
  look : ∃ c dd sl, K.lookup a = some ⟨c, dd, .func fd, sl⟩
  code : codeIn K fd.code fd.qualname = true
/-- what a class of the text's own must say that its instances are plain -/
structure PlainC (K : Frag) (C : Addr) : Prop where
  ga : findIn K (.ref C) "__getattribute__" = some (some (.builtin "object.__getattribute__"))
  gt : findIn K (.ref C) "__getattr__" = some none
  sa : findIn K (.ref C) "__setattr__" = some (some (.builtin "object.__setattr__"))
  po : plainOver K C = true
/-- an exception class of the text's own -/
noncomputable def ExcAt (K : Frag) (C : Addr) (bmB : List Value) (newId : String) : Prop := ∃ bm ns nm qn bs hd sn sub ab col dd k0 k1 k2 k3 k5,
  K.lookup C = some ⟨.type "type", dd, .cls ⟨nm, bs, .ref C :: bm, ns, qn, hd, sn, sub, ab, col, false⟩, #[k0, k1, k2, k3, some (.builtin newId), k5]⟩ ∧ nsOkIn K ns = true ∧ nsIn K ns "__init__" = some none ∧ tailIn K bmB bm = true
/-- the entries of the dict at an address -/
noncomputable def entriesAt (K : Frag) (a : Addr) : Array DictEntry := match K.lookup a with | some ⟨_, _, .dict es _, _⟩ => es | _ => #[]
noncomputable def PlainD (K : Frag) (a : Addr) : Prop := ∃ es ep, K.lookup a = some { cls := .type "dict", data := .dict es ep } ∧ es.all (fun e => match e.key with | .int i _ => e.hash == hashInt i | _ => false) = true
noncomputable def strOf : Option Value → Option Str
  | some (.str x _) => some x
  | _ => none
/-- the engine's turns, as a plain function -/
noncomputable def turns : Nat → Sre.M → Option Sre.M
  | 0, _ => none
  | n + 1, m => if (m.runFor Builtin.Re.reTurnSteps).outcome.isSome then some (m.runFor Builtin.Re.reTurnSteps) else turns n (m.runFor Builtin.Re.reTurnSteps)
noncomputable def isFailed : Option Sre.Outcome → Bool
  | some .failed => true
  | _ => false
/-- the fields of the pattern, the items of its code -/
noncomputable def fieldsAt (K : Frag) (a : Addr) : Array Value := match K.lookup a with | some ⟨_, _, .fields fs, _⟩ => fs | _ => #[]
noncomputable def itemsAt (K : Frag) (a : Addr) : Array Value := match K.lookup a with | some ⟨_, _, .seq xs _, _⟩ => xs | _ => #[]
noncomputable def PatAt (K : Frag) : Prop := ∃ fs, K.lookup 50 = some { cls := .type "re.Pattern", data := .fields fs } ∧ fs.getD 5 .none = .ref 49 ∧ (Builtin.Re.reRawNat (fs.getD 6 .none) == 0) = true
noncomputable def CodeAt (K : Frag) : Prop := ∃ c d xs n sl, K.lookup 49 = some ⟨c, d, .seq xs n, sl⟩
noncomputable def codeOf (K : Frag) : Array Nat := (((itemsAt K 49).map Builtin.Re.reRawOf).map (·.toNat))
noncomputable def groupsOf (K : Frag) : Nat := Builtin.Re.reRawNat ((fieldsAt K 50).getD 2 .none)
/-- what the heap's written part says of the text's own things -/
structure Need (K : Frag) : Prop where
  f229 : Fn K 229 fd229
  f45 : Fn K 45 fd45
  f215 : Fn K 215 fd215
  f69 : Fn K 69 fd69
  f76 : Fn K 76 fd76
  f83 : Fn K 83 fd83
  f57 : Fn K 57 fd57
  f98 : Fn K 98 fd98
  f142 : Fn K 142 fd142
  f149 : Fn K 149 fd149
  f135 : Fn K 135 fd135
  f189 : Fn K 189 fd189
  f154 : Fn K 154 fd154
  f222 : Fn K 222 fd222
  f239 : Fn K 239 fd239
  f234 : Fn K 234 fd234
  f210 : Fn K 210 fd210
  t128 : K.lookup 128 = some { cls := .type "tuple", data := .seq #[.none] }
  v_len : nsIn K mainGlobals (Str.ofString "len") = some none
  v_range : nsIn K mainGlobals (Str.ofString "range") = some none
  v_list : nsIn K mainGlobals (Str.ofString "list") = some none
  v_law_bare : nsIn K mainGlobals (Str.ofString "_law_bare") = some (some (.ref 229))
  v_law_fits : nsIn K mainGlobals (Str.ofString "_law_fits") = some (some (.ref 215))
  v_law_takes : nsIn K mainGlobals (Str.ofString "_law_takes") = some (some (.ref 234))
  v_law_ring : nsIn K mainGlobals (Str.ofString "_law_ring") = some (some (.ref 222))
  v_law_units : nsIn K mainGlobals (Str.ofString "_law_units") = some (some (.ref 210))
  v_iter_escaped_chars : nsIn K mainGlobals (Str.ofString "_iter_escaped_chars") = some (some (.ref 45))
  v_translate : nsIn K mainGlobals (Str.ofString "translate") = some (some (.ref 57))
  v_translate2 : nsIn K mainGlobals (Str.ofString "_translate") = some (some (.ref 76))
  v_join_translated_parts : nsIn K mainGlobals (Str.ofString "_join_translated_parts") = some (some (.ref 83))
  v_escape : nsIn K mainGlobals (Str.ofString "escape") = some (some (.ref 69))
  v_twin_re_1 : nsIn K mainGlobals (Str.ofString "_twin_re_1") = some (some (.ref 50))
  v_special_chars_map : nsIn K mainGlobals (Str.ofString "_special_chars_map") = some (some (.ref 59))
  v_NodeInfo : nsIn K mainGlobals (Str.ofString "_NodeInfo") = some (some (.ref 102))
  v_CycleError : nsIn K mainGlobals (Str.ofString "CycleError") = some (some (.ref 117))
  v_TopologicalSorter : nsIn K mainGlobals (Str.ofString "TopologicalSorter") = some (some (.ref 199))
  v_enumerate : nsIn K mainGlobals (Str.ofString "enumerate") = some none
  v_object : nsIn K mainGlobals (Str.ofString "object") = some none
  v_set : nsIn K mainGlobals (Str.ofString "set") = some none
  v_iter : nsIn K mainGlobals (Str.ofString "iter") = some none
  v_StopIteration : nsIn K mainGlobals (Str.ofString "StopIteration") = some none
  v_isinstance : nsIn K mainGlobals (Str.ofString "isinstance") = some none
  v_str : nsIn K mainGlobals (Str.ofString "str") = some none
  v_type : nsIn K mainGlobals (Str.ofString "type") = some none
  v_tuple : nsIn K mainGlobals (Str.ofString "tuple") = some none
  pd59 : PlainD K 59
  sp97 : ∀ w : World, findBy (intKind PP w).is (entriesAt K 59) 97 = none
  sp98 : ∀ w : World, findBy (intKind PP w).is (entriesAt K 59) 98 = none
  sp92 : ∀ w : World, strOf (findBy (intKind PP w).is (entriesAt K 59) 92) = some ⟨#[92, 92]⟩
  pat : PatAt K
  cod : CodeAt K
  fs42 : ((turns 50 (Sre.forSearch (codeOf K) #[42] (groupsOf K) 0 1 false)).elim false fun m => isFailed m.outcome) = true
  fs63 : ((turns 50 (Sre.forSearch (codeOf K) #[63] (groupsOf K) 0 1 false)).elim false fun m => isFailed m.outcome) = true
  fs91 : ((turns 50 (Sre.forSearch (codeOf K) #[91] (groupsOf K) 0 1 false)).elim false fun m => isFailed m.outcome) = true
  no71 : K.lookup 71 = none
  hd75 : codeHdIn K 75 71 = true
  pc199 : PlainC K 199
  pc102 : PlainC K 102
  mk199 : makesIn K 199 = true
  mk102 : makesIn K 102 = true
  hd199 : (clsIn K 199).any (·.hasDict) = true
  an0 : findIn K (.ref 199) "_node2info" = some none
  an1 : findIn K (.ref 199) "_ready_nodes" = some none
  an2 : findIn K (.ref 199) "_npassedout" = some none
  an3 : findIn K (.ref 199) "_nfinished" = some none
  fo0 : findObj K 102 (some { cls := .type "dict", data := .dict #[] }) "node" = some (.bind (.builtin "member_descriptor.__get__") (.ref 103))
  fo1 : findObj K 102 (some { cls := .type "dict", data := .dict #[] }) "npredecessors" = some (.bind (.builtin "member_descriptor.__get__") (.ref 104))
  fo2 : findObj K 102 (some { cls := .type "dict", data := .dict #[] }) "successors" = some (.bind (.builtin "member_descriptor.__get__") (.ref 105))
  sl0 : slotIn K 103 102 = some 0
  sl1 : slotIn K 104 102 = some 1
  sl2 : slotIn K 105 102 = some 2
  tk0 : takerIn K 102 "node" = some (some (.ref 103))
  tk1 : takerIn K 102 "npredecessors" = some (some (.ref 104))
  tk2 : takerIn K 102 "successors" = some (some (.ref 105))
  ty103 : typeIn K (.ref 103) = some (.type "member_descriptor")
  ty104 : typeIn K (.ref 104) = some (.type "member_descriptor")
  ty105 : typeIn K (.ref 105) = some (.type "member_descriptor")
  fi102 : findIn K (.ref 102) "__init__" = some (some (.ref 98))
  fi199 : findIn K (.ref 199) "__init__" = some (some (.ref 135))
  fm142 : findIn K (.ref 199) "_get_nodeinfo" = some (some (.ref 142))
  fm189 : findIn K (.ref 199) "_find_cycle" = some (some (.ref 189))
  fm149 : findIn K (.ref 199) "add" = some (some (.ref 149))
  fm154 : findIn K (.ref 199) "prepare" = some (some (.ref 154))
  ty98 : typeIn K (.ref 98) = some (.type "function")
  ty135 : typeIn K (.ref 135) = some (.type "function")
  ty142 : typeIn K (.ref 142) = some (.type "function")
  ty189 : typeIn K (.ref 189) = some (.type "function")
  ty149 : typeIn K (.ref 149) = some (.type "function")
  ty154 : typeIn K (.ref 154) = some (.type "function")
  ex117 : ExcAt K 117 [.type "ValueError", .type "Exception", .type "BaseException", .type "object"] "ValueError.__new__"
/-- a world, a written part of the heap that says this -/
structure WK where
  w : World
  K : Frag
  need : Need K
noncomputable abbrev KK (w : WK) : Frag := w.K
end Mine
set_option maxRecDepth 100000
set_option maxHeartbeats 400000
namespace Mine


/-- a text from the list of its signs -/
noncomputable def S (l : List Nat) : Str := ⟨l.toArray⟩
theorem S_inj {a b : List Nat} (h : S a = S b) : a = b := by simpa [S] using h
theorem S_len (l : List Nat) : (S l).length = l.length := by simp [S, Str.length]
theorem S_app (a b : List Nat) : S a ++ S b = S (a ++ b) := by
  show Str.append (S a) (S b) = _; simp [Str.append, S]
theorem S_beq (a b : List Nat) : (S a == S b) = (a == b) := by
  by_cases h : a = b
  · subst h; simp
  · have : S a ≠ S b := fun e => h (S_inj e)
    rw [beq_eq_false_iff_ne.mpr this, beq_eq_false_iff_ne.mpr h]

theorem nxt {n j : Nat} (h : j < n) : n - (j + 1) < n - j := Nat.sub_lt_sub_left h (Nat.lt_succ_self j)
theorem atEnd {n i : Nat} (hle : i ≤ n) (h : ¬ i < n) : i = n := Nat.le_antisymm hle (Nat.le_of_not_lt h)
/-- the heap grows only -/
noncomputable def Keep (h h' : Heap) : Prop := ∀ b o, h.get? b = some o → h'.get? b = some o
theorem Keep.refl (h : Heap) : Keep h h := fun _ _ e => e
theorem Keep.trans {a b c : Heap} (x : Keep a b) (y : Keep b c) : Keep a c := fun p o e => y p o (x p o e)

/-- what stands of the text's own things -/
structure G (w : WK) (h : Heap) : Prop where
  K : (KK w).In h
  b : ∃ mb, h.Ns builtinsNs mb ∧ ∀ x : Str, x ≠ "__name__" → mb x = bootBuiltins x
  lim : h.NoLimit
theorem G.keep {w : WK} {h h' : Heap} (x : G w h) (k : Keep h h') : G w h' :=
  ⟨x.K.keeps k, let ⟨mb, a, b⟩ := x.b; ⟨mb, a.keeps k, b⟩, x.lim.keeps k⟩

/-- room around a call -/
structure AG (n : Nat) (A : Around) : Prop where
  hh : A.handled = none
  dp : A.depth + n ≤ 900
  un : A.units + 10 * n ≤ 9000
theorem AG.down {n : Nat} {A : Around} (x : AG (n + 1) A) : AG n A := ⟨x.hh, by have := x.dp; lia, by have := x.un; lia⟩
theorem AG.deeper {n : Nat} {A : Around} (x : AG (n + 1) A) (env : Env) : AG n (A.deeper env) :=
  ⟨x.hh, by have := x.dp; show A.depth + 1 + n ≤ 900; lia, by have := x.un; show A.units + 3 + 10 * n ≤ 9000; lia⟩
theorem AG.in1 {n : Nat} {A : Around} (x : AG (n + 1) A) : AG n A.in1 :=
  ⟨x.hh, by have := x.dp; show A.depth + n ≤ 900; lia, by have := x.un; show A.units + 1 + 10 * n ≤ 9000; lia⟩
theorem AG.room {n : Nat} {A : Around} (x : AG n A) : A.depth < recursionLimit := by
  have := x.dp; show A.depth < 1000; lia
theorem AG.units {n : Nat} {A : Around} (x : AG n A) : A.units < cLine := by
  have := x.un; show A.units < 9900; lia

/-- the names of a frame and what stands at them -/
noncomputable def fr (names : List Str) (vals : List (Option Value)) : Str → Option Value
  | y => match names, vals with
    | x :: xs, v :: vs => if y = x then v else fr xs vs y
    | _, _ => none
theorem fr_at {names : List Str} {vals : List (Option Value)} (nd : names.Nodup) : ∀ {i : Nat} {x : Str} {v : Option Value}, names[i]? = some x → vals[i]? = some v → fr names vals x = v := by
  induction names generalizing vals with
  | nil => intro i x v h; simp at h
  | cons y ys ih =>
    intro i x v hx hv
    cases vals with
    | nil => simp at hv
    | cons u us =>
      cases i with
      | zero =>
        simp at hx hv; subst hx hv; simp [fr]
      | succ i =>
        simp at hx hv
        have hm : x ∈ ys := List.mem_of_getElem? hx
        have hne : x ≠ y := fun e => (List.nodup_cons.mp nd).1 (e ▸ hm)
        simp only [fr, if_neg hne]
        exact ih (List.nodup_cons.mp nd).2 hx hv
theorem fr_set {names : List Str} {vals : List (Option Value)} (nd : names.Nodup) : ∀ {i : Nat} {x : Str} {v : Option Value}, names[i]? = some x → i < vals.length →
    (fun y => if y = x then v else fr names vals y) = fr names (vals.set i v) := by
  induction names generalizing vals with
  | nil => intro i x v h; simp at h
  | cons z zs ih =>
    intro i x v hx hi
    cases vals with
    | nil => simp at hi
    | cons u us =>
      cases i with
      | zero =>
        simp at hx; subst hx
        funext y
        by_cases h : y = z
        · simp [fr, h]
        · simp [fr, h]
      | succ i =>
        simp at hx hi
        have hm : x ∈ zs := List.mem_of_getElem? hx
        have hne : x ≠ z := fun e => (List.nodup_cons.mp nd).1 (e ▸ hm)
        have q := ih (v := v) (List.nodup_cons.mp nd).2 hx hi
        funext y
        have qy := congrFun q y
        by_cases h : y = z
        · subst h
          simp [fr, Ne.symm hne]
        · simp only [List.set, fr, if_neg h]
          exact qy
theorem fr_nil (vals : List (Option Value)) (x : Str) : fr [] vals x = none := by simp [fr]
theorem fr_cons (x : Str) (xs : List Str) (v : Option Value) (vs : List (Option Value)) (y : Str) : fr (x :: xs) (v :: vs) y = if y = x then v else fr xs vs y := by simp [fr]

noncomputable abbrev Led := List (Addr × (Obj → Prop))
/-- the state of a frame: what stays (B), the frame's own dict (L), its names (m), the ledger of things it knows (n) -/
structure Z (B : Addr → Obj → Prop) (L : Addr) (m : Str → Option Value) (n : List (Addr × (Obj → Prop))) (h : Heap) : Prop where
  ns : h.Ns L m
  keep : ∀ b o, B b o → h.get? b = some o
  apart : ∀ o, ¬ B L o
  led : ∀ p ∈ n, ∃ o, h.get? p.1 = some o ∧ p.2 o
  off : ∀ p ∈ n, p.1 ≠ L ∧ ∀ o, ¬ B p.1 o
  nd : (n.map (·.1)).Nodup

section
variable {B : Addr → Obj → Prop} {L : Addr} {m : Str → Option Value} {n : List (Addr × (Obj → Prop))} {h h' : Heap}
theorem Z.get (z : Z B L m n h) (i : Nat) {a : Addr} {P : Obj → Prop} (hi : n[i]? = some (a, P)) : ∃ o, h.get? a = some o ∧ P o := z.led _ (List.mem_of_getElem? hi)
theorem Z.keepAll (z : Z B L m n h) (k : Keep h h') : Z B L m n h' :=
  ⟨z.ns.keeps k, fun b o e => k _ _ (z.keep b o e), z.apart, fun p hp => let ⟨o, e, q⟩ := z.led p hp; ⟨o, k _ _ e, q⟩, z.off, z.nd⟩
theorem Z.store {m' : Str → Option Value} (z : Z B L m n h) (hn : h'.Ns L m') (hs : Heap.SameBut L h h') : Z B L m' n h' :=
  ⟨hn, fun b o e => (hs.2 b fun q => z.apart o (q ▸ e)).trans (z.keep b o e), z.apart,
   fun p hp => let ⟨o, e, q⟩ := z.led p hp; ⟨o, (hs.2 _ (z.off p hp).1).trans e, q⟩, z.off, z.nd⟩
theorem Keep.push (h : Heap) (o : Obj) : Keep h (h.push o) := fun _ _ e => Heap.get?_push_of_some _ e
theorem Z.fresh (z : Z B L m n h) {a : Addr} (ha : h.get? a = none) : a ≠ L ∧ (∀ o, ¬ B a o) ∧ a ∉ n.map (·.1) := by
  refine ⟨fun e => ?_, fun o hb => ?_, fun hm => ?_⟩
  · obtain ⟨o, _, _, e', _⟩ := z.ns; rw [e] at ha; rw [ha] at e'; cases e'
  · have := z.keep a o hb; rw [ha] at this; cases this
  · obtain ⟨p, hp, rfl⟩ := List.mem_map.mp hm
    obtain ⟨o, e, _⟩ := z.led p hp; rw [ha] at e; cases e
theorem Z.add (z : Z B L m n h) (k : Keep h h') {a : Addr} {P : Obj → Prop} {o : Obj} (ha : h.get? a = none) (ho : h'.get? a = some o) (hP : P o) : Z B L m ((a, P) :: n) h' := by
  obtain ⟨f1, f2, f3⟩ := z.fresh ha
  have z' := z.keepAll k
  refine ⟨z'.ns, z'.keep, z'.apart, fun p hp => ?_, fun p hp => ?_, List.nodup_cons.mpr ⟨f3, z.nd⟩⟩
  · rcases List.mem_cons.mp hp with rfl | hp
    · exact ⟨o, ho, hP⟩
    · exact z'.led p hp
  · rcases List.mem_cons.mp hp with rfl | hp
    · exact ⟨f1, f2⟩
    · exact z'.off p hp
theorem get_size (h : Heap) : h.get? h.objs.size = none := by
  cases e : h.get? h.objs.size with
  | none => rfl
  | some o => exact absurd (Heap.lt_size e) (Nat.lt_irrefl _)
theorem Z.push (z : Z B L m n h) (o : Obj) {P : Obj → Prop} (hP : P o) (hf : o.isFreed = false := by rfl) : Z B L m ((h.objs.size, P) :: n) (h.push o) :=
  z.add (Keep.push h o) (get_size h) (Heap.get?_push_size h hf) hP
theorem Z.push0 (z : Z B L m n h) (o : Obj) : Z B L m n (h.push o) := z.keepAll (Keep.push h o)
theorem Z.sub {n' : List (Addr × (Obj → Prop))} (z : Z B L m n h) (s : n'.Sublist n) : Z B L m n' h :=
  ⟨z.ns, z.keep, z.apart, fun p hp => z.led p (s.subset hp), fun p hp => z.off p (s.subset hp), (s.map (·.1)).nodup z.nd⟩
/-- a thing of the ledger is turned -/
theorem Z.upd (z : Z B L m n h) (i : Nat) {a : Addr} {P P' : Obj → Prop} (hi : n[i]? = some (a, P)) (hs : Heap.SameBut a h h') {o' : Obj} (ho : h'.get? a = some o') (hP : P' o') :
    Z B L m (n.set i (a, P')) h' := by
  have hm : (a, P) ∈ n := List.mem_of_getElem? hi
  have off := z.off _ hm
  have hlt : i < n.length := by
    rcases Nat.lt_or_ge i n.length with h1 | h1
    · exact h1
    · rw [List.getElem?_eq_none h1] at hi; cases hi
  have hmap : (n.set i (a, P')).map (·.1) = n.map (·.1) := by
    apply List.ext_getElem?
    intro j
    simp only [List.getElem?_map, List.getElem?_set]
    by_cases hj : i = j
    · subst hj
      have e := congrArg (Option.map (·.1)) hi
      simp only [if_true, if_pos hlt]
      exact e.symm
    · simp [hj]
  refine ⟨z.ns.sameBut hs (Ne.symm off.1), fun b o e => (hs.2 b fun q => off.2 o (q ▸ e)).trans (z.keep b o e), z.apart, fun p hp => ?_, fun p hp => ?_, by rw [hmap]; exact z.nd⟩
  · obtain ⟨j, hj⟩ := List.mem_iff_getElem?.mp hp
    rw [List.getElem?_set] at hj
    by_cases hij : i = j
    · subst hij
      simp [hlt] at hj
      subst hj
      exact ⟨o', ho, hP⟩
    · simp [hij] at hj
      have hpm : p ∈ n := List.mem_of_getElem? hj
      obtain ⟨o, e, q⟩ := z.led p hpm
      refine ⟨o, (hs.2 p.1 fun hpa => ?_).trans e, q⟩
      -- two places with one address
      have h1 : (n.map (·.1))[i]? = some a := by rw [List.getElem?_map, hi]; rfl
      have h2 : (n.map (·.1))[j]? = some a := by rw [List.getElem?_map, hj]; exact congrArg some hpa
      have hjl : j < (n.map (·.1)).length := by
        rcases Nat.lt_or_ge j (n.map (·.1)).length with h3 | h3
        · exact h3
        · rw [List.getElem?_eq_none h3] at h2; cases h2
      exact hij ((List.getElem?_inj (by simpa using hlt) z.nd).mp (h1.trans h2.symm))
  · obtain ⟨j, hj⟩ := List.mem_iff_getElem?.mp hp
    rw [List.getElem?_set] at hj
    by_cases hij : i = j
    · subst hij
      simp [hlt] at hj
      subst hj
      exact off
    · simp [hij] at hj
      exact z.off p (List.mem_of_getElem? hj)
theorem Z.mono (z : Z B L m n h) (i : Nat) {a : Addr} {P P' : Obj → Prop} (hi : n[i]? = some (a, P)) (hP : ∀ o, P o → P' o) : Z B L m (n.set i (a, P')) h :=
  let ⟨_, e, q⟩ := z.get i hi
  z.upd i hi (Heap.SameBut.refl _ _) e (hP _ q)
end

/-- plain lists, tuples -/
noncomputable def LstO (vs : List Value) : Obj → Prop := fun o => ∃ n, o = { cls := .type "list", data := .seq vs.toArray n }
noncomputable def TupO (vs : List Value) : Obj → Prop := fun o => o = { cls := .type "tuple", data := .seq vs.toArray }
noncomputable def Lst (h : Heap) (a : Addr) (vs : List Value) : Prop := ∃ o, h.get? a = some o ∧ LstO vs o
noncomputable def Tup (h : Heap) (a : Addr) (vs : List Value) : Prop := ∃ o, h.get? a = some o ∧ TupO vs o
theorem Lst.isList {h : Heap} {a : Addr} {vs : List Value} (x : Lst h a vs) : h.IsList a vs.toArray := let ⟨_, e, n, q⟩ := x; ⟨_, e, by rw [q], n, by rw [q]⟩
theorem Lst.plain {h : Heap} {a : Addr} {vs : List Value} (x : Lst h a vs) : h.PlainList a vs.toArray := let ⟨_, e, n, q⟩ := x; ⟨n, by rw [e, q]⟩
theorem Lst.of {h : Heap} {a : Addr} {vs : List Value} (x : h.PlainList a vs.toArray) : Lst h a vs := let ⟨n, e⟩ := x; ⟨_, e, n, rfl⟩
theorem Tup.isTuple {h : Heap} {a : Addr} {vs : List Value} (x : Tup h a vs) : h.IsTuple a vs.toArray := let ⟨_, e, q⟩ := x; ⟨_, e, by rw [q], 0, by rw [q]⟩
theorem Lst.keep {h h' : Heap} {a : Addr} {vs : List Value} (x : Lst h a vs) (k : Keep h h') : Lst h' a vs := let ⟨_, e, q⟩ := x; ⟨_, k _ _ e, q⟩
theorem Tup.keep {h h' : Heap} {a : Addr} {vs : List Value} (x : Tup h a vs) (k : Keep h h') : Tup h' a vs := let ⟨_, e, q⟩ := x; ⟨_, k _ _ e, q⟩
section
/-! what comes behind, by name (small terms) -/
noncomputable def QN (M : Model) (A : Around) (E : Value → Shared → Prop) (env : Env) (rest : List Stmt) (Q : Flow → Shared → Prop) (f : Flow) (s : Shared) : Prop := match f with
  | .next => wpAny M A (execs rest env) Q E s
  | f => Q f s
noncomputable def QI (M : Model) (A : Around) (E : Value → Shared → Prop) (env : Env) (x y : List Stmt) (Q : Flow → Shared → Prop) (b : Bool) (s : Shared) : Prop := if b = true then wpAny M A (execs x env) Q E s else wpAny M A (execs y env) Q E s
noncomputable def QX (M : Model) (A : Around) (E : Value → Shared → Prop) (env : Env) (x y : Expr) (Q : Value → Shared → Prop) (b : Bool) (s : Shared) : Prop := if b = true then wpAny M A (eval x env) Q E s else wpAny M A (eval y env) Q E s
noncomputable def QT (M : Model) (A : Around) (E : Value → Shared → Prop) (Q : Bool → Shared → Prop) (c : Value) (s : Shared) : Prop := wpAny M A (truthy c) Q E s
noncomputable def Q2 (M : Model) (A : Around) (E : Value → Shared → Prop) (env : Env) (e : Expr) (P : Value → Value → Shared → Prop) (a : Value) (s : Shared) : Prop := wpAny M A (eval e env) (P a) E s
noncomputable def Q3 (M : Model) (A : Around) (E : Value → Shared → Prop) (env : Env) (e e' : Expr) (P : Value → Value → Value → Shared → Prop) (a : Value) (s : Shared) : Prop := wpAny M A (eval e env) (Q2 M A E env e' (P a)) E s
noncomputable def QCo (M : Model) (A : Around) (E : Value → Shared → Prop) (op : CmpOp) (Q : Value → Shared → Prop) (a b : Value) (s : Shared) : Prop := wpAny M A (compareOp op a b) Q E s
noncomputable def QBi (M : Model) (A : Around) (E : Value → Shared → Prop) (op : Operator) (Q : Value → Shared → Prop) (a b : Value) (s : Shared) : Prop := wpAny M A (binaryOp op a b) Q E s
noncomputable def QUn (M : Model) (A : Around) (E : Value → Shared → Prop) (op : UnaryOp) (Q : Value → Shared → Prop) (a : Value) (s : Shared) : Prop := wpAny M A (unaryOp op a) Q E s
noncomputable def QSu (M : Model) (A : Around) (E : Value → Shared → Prop) (x y : Expr) (Q : Value → Shared → Prop) (a b : Value) (s : Shared) : Prop := wpAny M A (subscriptTail x y a b) Q E s
noncomputable def QAn (M : Model) (A : Around) (E : Value → Shared → Prop) (env : Env) (rest : List Expr) (Q : Bool → Shared → Prop) (b : Bool) (s : Shared) : Prop := if b = true then wpAny M A (allTrue .And rest env) Q E s else Q false s
noncomputable def QOr (M : Model) (A : Around) (E : Value → Shared → Prop) (env : Env) (rest : List Expr) (Q : Bool → Shared → Prop) (b : Bool) (s : Shared) : Prop := if b = true then Q true s else wpAny M A (allTrue .Or rest env) Q E s
noncomputable def QR (Q : Flow → Shared → Prop) (v : Value) (s : Shared) : Prop := Q (.ret v) s
noncomputable def QS (M : Model) (A : Around) (E : Value → Shared → Prop) (env : Env) (x : Str) (Q : Flow → Shared → Prop) (v : Value) (s : Shared) : Prop := wpAny M A (storeName env x v) (fun _ => Q .next) E s
noncomputable def QF (Q : Value → Shared → Prop) (f : Flow) (s : Shared) : Prop := Q (match f with | .ret v => v | _ => .none) s
noncomputable def ELv (M : Model) (A : Around) (env : Env) (E : Value → Shared → Prop) (v : Value) (s : Shared) : Prop := wpAny M A (leaving env v) (fun _ => E v) E s
/-- what is behind, out of sight -/
theorem absQ {M : Model} {A : Around} {E : Value → Shared → Prop} {s : Shared} {α : Type} {m : Sem α} {Q : α → Shared → Prop} (k : ∀ Qn : α → Shared → Prop, (∀ a s, Q a s → Qn a s) → wpAny M A m Qn E s) : wpAny M A m Q E s := k Q fun _ _ q => q
variable {M : Model} {A : Around} {E : Value → Shared → Prop} {env : Env}
variable {s : Shared}
theorem y_cons {st : Stmt} {rest : List Stmt} {Q : Flow → Shared → Prop} (k : wpAny M A (exec st env) (QN M A E env rest Q) E s) : wpAny M A (execs (st :: rest) env) Q E s := wpAny_execs_cons k
theorem y_if {test : Expr} {x y : List Stmt} {pos : Pos} {Q : Flow → Shared → Prop} (k : wpAny M A (PySem.isTrue test env (eval test env)) (QI M A E env x y Q) E s) : wpAny M A (exec (.If test x y pos) env) Q E s := wpAny_If k
theorem y_ifx {test x y : Expr} {pos : Pos} {Q : Value → Shared → Prop} (k : wpAny M A (PySem.isTrue test env (eval test env)) (QX M A E env x y Q) E s) : wpAny M A (eval (.IfExp test x y pos) env) Q E s := wpAny_IfExp k
theorem y_tcmp {l r : Expr} {op : CmpOp} {pos : Pos} {whole : Sem Value} {Q : Bool → Shared → Prop} (k : wpAny M A (eval l env) (Q2 M A E env r (QCo M A E op (QT M A E Q))) E s) (hb : behindInMarks op r = false := by rfl) :
    wpAny M A (PySem.isTrue (.Compare l [op] [r] pos) env whole) Q E s := wpAny_isTrue_Compare1 k hb
theorem y_cmp {l r : Expr} {op : CmpOp} {pos : Pos} {Q : Value → Shared → Prop} (k : wpAny M A (eval l env) (Q2 M A E env r (QCo M A E op Q)) E s) (hb : behindInMarks op r = false := by rfl) :
    wpAny M A (eval (.Compare l [op] [r] pos) env) Q E s := wpAny_Compare1 k hb
theorem y_bin {l r : Expr} {op : Operator} {pos : Pos} {Q : Value → Shared → Prop} (k : wpAny M A (eval l env) (Q2 M A E env r (QBi M A E op Q)) E s) : wpAny M A (eval (.BinOp l op r pos) env) Q E s := wpAny_BinOp k
theorem y_un {x : Expr} {op : UnaryOp} {pos : Pos} {Q : Value → Shared → Prop} (k : wpAny M A (eval x env) (QUn M A E op Q) E s) : wpAny M A (eval (.UnaryOp op x pos) env) Q E s := wpAny_UnaryOp k
theorem y_sub {value slice : Expr} {pos : Pos} {Q : Value → Shared → Prop} (k : wpAny M A (eval value env) (Q2 M A E env slice (QSu M A E value slice Q)) E s) : wpAny M A (eval (.Subscript value slice pos) env) Q E s := Subscript_ k
theorem y_and {x : Expr} {rest : List Expr} {Q : Bool → Shared → Prop} (k : wpAny M A (PySem.isTrue x env (eval x env)) (QAn M A E env rest Q) E s) : wpAny M A (allTrue .And (x :: rest) env) Q E s := wpAny_allTrue_And_cons k
theorem y_or {x : Expr} {rest : List Expr} {Q : Bool → Shared → Prop} (k : wpAny M A (PySem.isTrue x env (eval x env)) (QOr M A E env rest Q) E s) : wpAny M A (allTrue .Or (x :: rest) env) Q E s := wpAny_allTrue_Or_cons k
theorem y_ret {e : Expr} {pos : Pos} {Q : Flow → Shared → Prop} (k : wpAny M A (eval e env) (QR Q) E s) : wpAny M A (exec (.Return (some e) pos) env) Q E s := wpAny_Return_some k
theorem y_val {e : Expr} {whole : Sem Value} {Q : Bool → Shared → Prop} (k : wpAny M A whole (QT M A E Q) E s) (h : PySem.isTrue e env whole = (do let v ← whole; standAt e.pos; holding [v] (truthy v)) := by rfl) : wpAny M A (PySem.isTrue e env whole) Q E s := wpAny_isTrue_value k h
theorem y_asg {x : Str} {p pos : Pos} {value : Expr} {Q : Flow → Shared → Prop} (k : wpAny M A (eval value env) (QS M A E env x Q) E s) (h : swapsWith value (some (.Name x p)) pos.line env = pure false := by rfl) :
    wpAny M A (exec (.Assign [.Name x p] value pos) env) Q E s := wpAny_Assign_Name k h
end
end Mine
namespace Mine

/-- an environment: its own names, the names of the text that it reads -/
structure EnvL (env : Env) (L : Addr) (names gl : List Str) : Prop where
  kind : env.scope.kind = .function
  lc : env.locals = L
  nd : names.Nodup
  loc : ∀ x ∈ names, env.kindOf x = some .local ∧ (x == ("__debug__" : Str)) = false
  glo : ∀ x ∈ gl, env.kindOf x = some .globalImplicit ∧ (x == ("__debug__" : Str)) = false
  eg : env.globals = mainGlobals
  eb : env.builtins = builtinsNs

/-- what stands at a global name -/
noncomputable def GV (w : WK) (x : Str) (v : Value) : Prop :=
  nsIn (KK w) mainGlobals x = some (some v) ∨ (nsIn (KK w) mainGlobals x = some none ∧ x ≠ ("__name__" : Str) ∧ bootBuiltins x = some v)

section
variable {prog : Program} {w : WK} {A : Around} {E : Value → Shared → Prop} {env : Env} {g : Array GenState} {d : Drawn} {os : OsState} {B : Addr → Obj → Prop} {L : Addr} {names gl : List Str}
variable {h : Heap} {tk : Nat} {vals : List (Option Value)} {n : List (Addr × (Obj → Prop))}

theorem x_locn {x : Str} {v : Value} {Q : Value → Shared → Prop} (e : EnvL env L names gl) (z : Z B L (fr names vals) n h) (i : Nat) (hx : names[i]? = some x) (hv : vals[i]? = some (some v))
    (k : Q v ⟨h, g, d, tk, os⟩) : wpAny (model prog w.w) A (loadName env x) Q E ⟨h, g, d, tk, os⟩ :=
  wpAny_loadName_local (m := fr names vals) e.kind (e.loc x (List.mem_of_getElem? hx)).1 (by rw [e.lc]; exact z.ns) (fr_at e.nd hx hv) k
theorem x_loc {x : Str} {v : Value} {pos : Pos} {Q : Value → Shared → Prop} (e : EnvL env L names gl) (z : Z B L (fr names vals) n h) (i : Nat) (hx : names[i]? = some x) (hv : vals[i]? = some (some v))
    (k : Q v ⟨h, g, d, tk, os⟩) : wpAny (model prog w.w) A (eval (.Name x pos) env) Q E ⟨h, g, d, tk, os⟩ :=
  wpAny_Name (x_locn e z i hx hv k) (e.loc x (List.mem_of_getElem? hx)).2

theorem x_sto {x : Str} {v : Value} {Q : Unit → Shared → Prop} (e : EnvL env L names gl) (z : Z B L (fr names vals) n h) (i : Nat) (hx : names[i]? = some x) (hi : i < vals.length)
    (k : ∀ h' tk', Z B L (fr names (vals.set i (some v))) n h' → Heap.SameBut L h h' → Q () ⟨h', g, d, tk', os⟩) : wpAny (model prog w.w) A (storeName env x v) Q E ⟨h, g, d, tk, os⟩ :=
  wpAny_storeName_local (m := fr names vals) (e.loc x (List.mem_of_getElem? hx)).1 (by rw [e.lc]; exact z.ns)
    (fun h' hn hs => by
      rw [e.lc] at hn hs
      rw [fr_set (v := some v) e.nd hx hi] at hn
      exact k h' _ (z.store hn hs) hs) (by rw [e.kind]; rfl)
theorem x_stoName {x : Str} {v : Value} {pos : Pos} {Q : Unit → Shared → Prop} (e : EnvL env L names gl) (z : Z B L (fr names vals) n h) (i : Nat) (hx : names[i]? = some x) (hi : i < vals.length)
    (k : ∀ h' tk', Z B L (fr names (vals.set i (some v))) n h' → Heap.SameBut L h h' → Q () ⟨h', g, d, tk', os⟩) : wpAny (model prog w.w) A (assign (.Name x pos) env v) Q E ⟨h, g, d, tk, os⟩ :=
  wpAny_assign_Name (x_sto e z i hx hi k)

theorem nsIn_ns {K : Frag} {hh : Heap} {a : Addr} {x : Str} {r : Option Value} {m : Str → Option Value} (X : K.In hh) (hn : hh.Ns a m) (e : nsIn K a x = some r) : m x = r := by
  obtain ⟨o, es, ep, ho, hd, _, hm⟩ := hn
  unfold nsIn at e
  split at e
  · rename_i c dd es' n' sl hl
    have := X _ _ hl
    rw [this] at ho
    injection ho with ho
    subst ho
    injection hd with hd hd2
    subst hd
    rw [← hm]
    unfold nsFind findBy
    rw [← Array.find?_toList]
    split at e
    · rename_i en he; injection e with e; rw [he, ← e]; rfl
    · rename_i he
      rw [he]
      split at e
      · cases e
      · injection e
  · cases e

theorem x_globn {x : Str} {v : Value} {Q : Value → Shared → Prop} (gw : G w h) (hv : GV w x v) (eg : env.globals = mainGlobals) (eb : env.builtins = builtinsNs)
    (k : Q v ⟨h, g, d, tk, os⟩) : wpAny (model prog w.w) A (loadGlobal env x) Q E ⟨h, g, d, tk, os⟩ := by
  unfold loadGlobal
  rcases hv with e | ⟨e, hx, hb⟩
  · exact wpAny_bind (looks_nsIn (M := model prog w.w) (gw.K) (by rw [eg]; exact e) _ _ _ ⟨h, g, d, tk, os⟩ (fun _ _ e => e) (wpAny_pure k))
  · obtain ⟨mb, n1, n2⟩ := gw.b
    refine wpAny_bind (looks_nsIn (M := model prog w.w) (gw.K) (by rw [eg]; exact e) _ _ _ ⟨h, g, d, tk, os⟩ (fun _ _ e => e) ?_)
    refine wpAny_bind (wpAny_nsGet (m := mb) (by rw [eb]; exact n1) ?_)
    rw [n2 x hx, hb]
    exact wpAny_pure k
theorem x_glob {x : Str} {v : Value} {pos : Pos} {Q : Value → Shared → Prop} (e : EnvL env L names gl) (gw : G w h) (i : Nat) (hx : gl[i]? = some x) (hv : GV w x v)
    (k : Q v ⟨h, g, d, tk, os⟩) : wpAny (model prog w.w) A (eval (.Name x pos) env) Q E ⟨h, g, d, tk, os⟩ := by
  have hm := e.glo x (List.mem_of_getElem? hx)
  refine wpAny_Name ?_ hm.2
  unfold loadName
  simp only [Env.blockKind, e.kind, hm.1, ScopeKind.isAnnotationScope, Bool.false_and, Bool.false_eq_true, if_false]
  exact x_globn gw hv e.eg e.eb k

theorem x_int {i : Int} {kk : Nat} {pos : Pos} {Q : Value → Shared → Prop} (k : ∀ t tk', Q (.int i t) ⟨h, g, d, tk', os⟩) : wpAny (model prog w.w) A (eval (.Constant (.int i) kk pos) env) Q E ⟨h, g, d, tk, os⟩ :=
  wpAny_Constant_int (k _ _)
theorem x_str {x : Str} {kk : Nat} {pos : Pos} {Q : Value → Shared → Prop} (l : List Nat) (hx : x = S l) (k : ∀ t tk', Q (.str (S l) t) ⟨h, g, d, tk', os⟩) : wpAny (model prog w.w) A (eval (.Constant (.str x) kk pos) env) Q E ⟨h, g, d, tk, os⟩ := by
  subst hx; exact Calls.Constant_str (k _ _)
theorem x_none {kk : Nat} {pos : Pos} {Q : Value → Shared → Prop} (k : Q .none ⟨h, g, d, tk, os⟩) : wpAny (model prog w.w) A (eval (.Constant .none kk pos) env) Q E ⟨h, g, d, tk, os⟩ := wpAny_Constant_none k
theorem x_bool {b : Bool} {kk : Nat} {pos : Pos} {Q : Value → Shared → Prop} (k : Q (.bool b) ⟨h, g, d, tk, os⟩) : wpAny (model prog w.w) A (eval (.Constant (.bool b) kk pos) env) Q E ⟨h, g, d, tk, os⟩ := wpAny_Constant_bool k

theorem x_add {a b : Int} {t u : Tok} {Q : Value → Shared → Prop} (k : ∀ t' tk', Q (.int (a + b) t') ⟨h, g, d, tk', os⟩) : wpAny (model prog w.w) A (binaryOp .Add (.int a t) (.int b u)) Q E ⟨h, g, d, tk, os⟩ := add_int (k _ _)
theorem x_sub {a b : Int} {t u : Tok} {Q : Value → Shared → Prop} (k : ∀ t' tk', Q (.int (a - b) t') ⟨h, g, d, tk', os⟩) : wpAny (model prog w.w) A (binaryOp .Sub (.int a t) (.int b u)) Q E ⟨h, g, d, tk, os⟩ := sub_int (k _ _)
theorem x_mod {a b : Int} {t u : Tok} {Q : Value → Shared → Prop} (hb : b ≠ 0) (k : ∀ t' tk', Q (.int (Int.fmod a b) t') ⟨h, g, d, tk', os⟩) : wpAny (model prog w.w) A (binaryOp .Mod (.int a t) (.int b u)) Q E ⟨h, g, d, tk, os⟩ := mod_int hb (k _ _)
theorem x_mul {a b : Int} {t u : Tok} {Q : Value → Shared → Prop} (hb : IntMulOk a b) (k : ∀ t' tk', Q (.int (a * b) t') ⟨h, g, d, tk', os⟩) : wpAny (model prog w.w) A (binaryOp .Mult (.int a t) (.int b u)) Q E ⟨h, g, d, tk, os⟩ := mul_int (k _ _) hb
theorem x_cat {a b : List Nat} {t u : Tok} {Q : Value → Shared → Prop} (hl : a.length + b.length ≤ 100000) (k : ∀ t' tk', Q (.str (S (a ++ b)) t') ⟨h, g, d, tk', os⟩) :
    wpAny (model prog w.w) A (binaryOp .Add (.str (S a) t) (.str (S b) u)) Q E ⟨h, g, d, tk, os⟩ :=
  add_str (by rw [S_app]; exact fun t' tk' => k t' tk') (by rw [S_len, S_len, sizeLine_eq]; lia)

theorem x_eqs {a b : List Nat} {t u : Tok} {Q : Value → Shared → Prop} (k : Q (.bool (a == b)) ⟨h, g, d, tk, os⟩) : wpAny (model prog w.w) A (compareOp .Eq (.str (S a) t) (.str (S b) u)) Q E ⟨h, g, d, tk, os⟩ :=
  eq_str (by rw [S_beq]; exact k)
theorem x_eqi {a b : Int} {t u : Tok} {Q : Value → Shared → Prop} (k : Q (.bool (a == b)) ⟨h, g, d, tk, os⟩) : wpAny (model prog w.w) A (compareOp .Eq (.int a t) (.int b u)) Q E ⟨h, g, d, tk, os⟩ := eq_int k
theorem x_lti {a b : Int} {t u : Tok} {Q : Value → Shared → Prop} (k : Q (.bool (decide (a < b))) ⟨h, g, d, tk, os⟩) : wpAny (model prog w.w) A (compareOp .Lt (.int a t) (.int b u)) Q E ⟨h, g, d, tk, os⟩ := lt_int k
theorem x_nei {a b : Int} {t u : Tok} {Q : Value → Shared → Prop} (k : Q (.bool (a != b)) ⟨h, g, d, tk, os⟩) : wpAny (model prog w.w) A (compareOp .NotEq (.int a t) (.int b u)) Q E ⟨h, g, d, tk, os⟩ := ne_int k
theorem x_truthy {b : Bool} {Q : Bool → Shared → Prop} (k : Q b ⟨h, g, d, tk, os⟩) : wpAny (model prog w.w) A (truthy (.bool b)) Q E ⟨h, g, d, tk, os⟩ := wpAny_truthy_bool k

/-- a sign of a text -/
theorem x_sign {l : List Nat} {t u : Tok} {i : Int} {c : Nat} {Q : Value → Shared → Prop} {value slice : Expr} (hl : l.length ≤ 100000) (hc : (seqIndex? i l.length).bind (l[·]?) = some c)
    (hs : subscripted slice false (.str (S l) t) (.int i u) = operate [.str (S l) t, .int i u] (getItem (.str (S l) t) (.int i u)))
    (k : ∀ t' tk', Q (.str (S [c]) t') ⟨h, g, d, tk', os⟩) : wpAny (model prog w.w) A (subscriptTail value slice (.str (S l) t) (.int i u)) Q E ⟨h, g, d, tk, os⟩ := by
  have hr : (decide (i < -2 ^ 63) || decide (i ≥ 2 ^ 63)) = false := by
    have hj : ∃ j, seqIndex? i l.length = some j := by
      cases hq : seqIndex? i l.length with
      | none => rw [hq] at hc; cases hc
      | some j => exact ⟨j, rfl⟩
    obtain ⟨j, hj⟩ := hj
    unfold seqIndex? at hj
    dsimp only at hj
    have : -(l.length : Int) ≤ i ∧ i < l.length := by
      by_cases h0 : i < 0
      · rw [if_pos h0] at hj
        split at hj
        · rename_i hh; simp only [Bool.and_eq_true, decide_eq_true_eq] at hh; lia
        · cases hj
      · rw [if_neg h0] at hj
        split at hj
        · rename_i hh; simp only [Bool.and_eq_true, decide_eq_true_eq] at hh; lia
        · cases hj
    simp only [Bool.or_eq_false_iff, decide_eq_false_iff_not]
    constructor <;> lia
  refine tail_any (typeIs_str _ _ _) F.slot_str_getitem.lookup (getItem_str hr ?_ (k _ _)) hs
  rw [S_len]; simpa [S] using hc
end
end Mine
namespace Mine

noncomputable def clipI (n : Nat) (v : Int) : Nat := (max 0 (min (if v < 0 then v + n else v) n)).toNat
/-- l[lo:hi] -/
noncomputable def cut (l : List Nat) (lo hi : Option Int) : List Nat := (l.take (hi.elim l.length (clipI l.length))).drop (lo.elim 0 (clipI l.length))
theorem clip_le (n : Nat) (v : Int) : clipI n v ≤ n := Int.toNat_le.mpr (Int.max_le.mpr ⟨Int.natCast_nonneg n, Int.min_le_right _ _⟩)
theorem clip_cast (n : Nat) (v : Int) : max 0 (min (if v < 0 then v + (n : Int) else v) (n : Int)) = ((clipI n v : Nat) : Int) := (Int.toNat_of_nonneg (Int.le_max_left _ _)).symm
theorem clip_nat (n k : Nat) : clipI n (k : Int) = min k n := by
  unfold clipI
  rw [if_neg (Int.not_lt.mpr (Int.natCast_nonneg k))]
  rcases Nat.le_total k n with q | q
  · rw [Int.min_eq_left (Int.ofNat_le.mpr q), Nat.min_eq_left q, Int.max_eq_right (Int.natCast_nonneg _), Int.toNat_natCast]
  · rw [Int.min_eq_right (Int.ofNat_le.mpr q), Nat.min_eq_right q, Int.max_eq_right (Int.natCast_nonneg _), Int.toNat_natCast]
theorem drop_min {α : Type} {x : List α} {n : Nat} (i : Nat) (h : x.length ≤ n) : x.drop (min i n) = x.drop i := by
  rcases Nat.le_total i n with q | q
  · rw [Nat.min_eq_left q]
  · rw [Nat.min_eq_right q, List.drop_eq_nil_of_le h, List.drop_eq_nil_of_le (Nat.le_trans h q)]
theorem take_min {α : Type} (l : List α) (j : Nat) : l.take (min j l.length) = l.take j := by
  rcases Nat.le_total j l.length with q | q
  · rw [Nat.min_eq_left q]
  · rw [Nat.min_eq_right q, List.take_length, List.take_of_length_le q]
theorem cut_nn (l : List Nat) (i j : Nat) : cut l (some (i : Int)) (some (j : Int)) = (l.take j).drop i := by
  show (l.take (clipI l.length j)).drop (clipI l.length i) = _
  rw [clip_nat, clip_nat, take_min, drop_min i (List.length_take_le' _ _)]
theorem cut_n (l : List Nat) (i : Nat) : cut l (some (i : Int)) none = l.drop i := by
  show (l.take l.length).drop (clipI l.length i) = _
  rw [clip_nat, List.take_length, drop_min i (Nat.le_refl _)]
theorem cut_0n (l : List Nat) (j : Nat) : cut l none (some (j : Int)) = l.take j := by
  show (l.take (clipI l.length j)).drop 0 = _
  rw [clip_nat, take_min]; rfl

theorem range_pick (l : List Nat) (a : Nat) : ∀ c, a + c ≤ l.length ∨ c = 0 → ((List.range c).map fun (k : Nat) => a + k).filterMap (l[·]?) = (l.drop a).take c
  | 0, _ => rfl
  | c + 1, h => by
    have h1 : a + c < l.length := h.resolve_right (Nat.succ_ne_zero c)
    have h2 : c < (l.drop a).length := by rw [List.length_drop]; exact Nat.lt_sub_of_add_lt (Nat.add_comm a c ▸ h1)
    rw [List.range_succ, List.map_append, List.filterMap_append, range_pick l a c (.inl (Nat.le_of_lt h1)), List.take_succ_eq_append_getElem h2]
    simp [List.getElem?_eq_getElem h1]
theorem range_nn (a b : Nat) : sliceRange (a : Int) (b : Int) 1 = (List.range (b - a)).map fun (k : Nat) => a + k := by
  unfold sliceRange
  rw [if_pos (by decide)]
  by_cases h : a < b
  · have e1 : (((b : Int) - a + 1 - 1) / 1).toNat = b - a := by rw [Int.ediv_one, Int.add_sub_cancel, Int.toNat_sub]
    rw [if_pos (Int.ofNat_lt.mpr h)]
    show List.map _ (List.range (((b : Int) - a + 1 - 1) / 1).toNat) = _
    rw [e1]
    refine List.map_congr_left fun k _ => ?_
    show ((a : Int) + 1 * (k : Int)).toNat = _
    rw [Int.one_mul, ← Int.natCast_add, Int.toNat_natCast]
  · rw [if_neg (fun q => h (Int.ofNat_lt.mp q)), Nat.sub_eq_zero_of_le (Nat.le_of_not_lt h)]; rfl
theorem picked_eq (l : List Nat) (lo hi : Option (Int × Tok)) : slicePicked (S l) lo hi none =
    (List.range ((hi.map (·.1)).elim l.length (clipI l.length) - (lo.map (·.1)).elim 0 (clipI l.length))).map fun (k : Nat) => (lo.map (·.1)).elim 0 (clipI l.length) + k := by
  have c1 : ((match lo.map (·.1) with | none => (0 : Int) | some i => max 0 (min (if i < 0 then i + (l.length : Int) else i) (l.length : Int))) : Int) = (((lo.map (·.1)).elim 0 (clipI l.length) : Nat) : Int) := by
    cases lo with
    | none => rfl
    | some p => exact clip_cast _ _
  have c2 : ((match hi.map (·.1) with | none => (l.length : Int) | some i => max 0 (min (if i < 0 then i + (l.length : Int) else i) (l.length : Int))) : Int) = (((hi.map (·.1)).elim l.length (clipI l.length) : Nat) : Int) := by
    cases hi with
    | none => rfl
    | some p => exact clip_cast _ _
  rw [← range_nn, ← c1, ← c2]
  unfold slicePicked Builtin.Str.strSliceIndices
  simp only [Option.map_none, Option.getD_none]
  rw [S_len]
  rfl
theorem elim_le (l : List Nat) (hi : Option Int) : hi.elim l.length (clipI l.length) ≤ l.length := by
  cases hi with
  | none => exact Nat.le_refl _
  | some p => exact clip_le _ _
theorem slice_picks (l : List Nat) (lo hi : Option (Int × Tok)) : (slicePicked (S l) lo hi none).filterMap ((S l).cps[·]?) = cut l (lo.map (·.1)) (hi.map (·.1)) := by
  have hfun : (fun k : Nat => (S l).cps[k]?) = fun k => l[k]? := funext fun k => List.getElem?_toArray
  show List.filterMap (fun k : Nat => (S l).cps[k]?) _ = _
  rw [hfun, picked_eq]
  unfold cut
  rw [List.drop_take]
  refine range_pick l _ _ ?_
  rcases Nat.le_total ((lo.map (·.1)).elim 0 (clipI l.length)) ((hi.map (·.1)).elim l.length (clipI l.length)) with q | q
  · exact .inl (by rw [Nat.add_sub_cancel' q]; exact elim_le l _)
  · exact .inr (Nat.sub_eq_zero_of_le q)

theorem cut_sub (l : List Nat) (lo hi : Option Int) : (cut l lo hi).Sublist l := (List.drop_sublist _ _).trans (List.take_sublist _ _)
theorem cut_len (l : List Nat) (lo hi : Option Int) : (cut l lo hi).length ≤ l.length := (cut_sub l lo hi).length_le

section
variable {prog : Program} {w : WK} {A : Around} {E : Value → Shared → Prop} {env : Env} {g : Array GenState} {d : Drawn} {os : OsState} {B : Addr → Obj → Prop} {L : Addr} {names gl : List Str}
variable {h : Heap} {tk : Nat} {vals : List (Option Value)} {n : List (Addr × (Obj → Prop))}

/-- value[lo:hi] of a text -/
inductive PSl (g : Array GenState) (d : Drawn) (os : OsState) (Q : Value → Shared → Prop) (o vl vu : Value) (s₃ : Shared) : Prop
  | mk (h₃ : Heap) (tk₃ : Nat) (l : List Nat) (t : Tok) (lo hi : Option (Int × Tok)) (e : s₃ = ⟨h₃, g, d, tk₃, os⟩) (e1 : o = .str (S l) t) (e2 : vl = partValue lo) (e3 : vu = partValue hi) (hl : l.length ≤ 100000)
      (q : ∀ h' tk' t', Keep h₃ h' → Q (.str (S (cut l (lo.map (·.1)) (hi.map (·.1)))) t') ⟨h', g, d, tk', os⟩)
theorem x_slice {value : Expr} {lower upper : Option Expr} {p pos : Pos} {Q : Value → Shared → Prop} {s : Shared}
    (k : wpAny (model prog w.w) A (eval value env) (fun o s₁ => wpAny (model prog w.w) A (evalPart lower env) (fun vl s₂ => wpAny (model prog w.w) A (evalPart upper env) (PSl g d os Q o vl) E s₂) E s₁) E s)
    (ht : ∀ o r, letTemporaryGo value o r = pure () := by intro _ _; rfl) :
    wpAny (model prog w.w) A (eval (.Subscript value (.Slice lower upper none p) pos) env) Q E s := by
  refine wpAny_Subscript_str_slice (wpAny_mono k (fun o s₁ h₁ => wpAny_mono h₁ (fun vl s₂ h₂ => wpAny_mono h₂ (fun vu s₃ h₃ => ?_) fun _ _ e => e) fun _ _ e => e) fun _ _ e => e) ht
  obtain ⟨h₃, tk₃, l, t, lo, hi, rfl, rfl, rfl, rfl, hl, hq⟩ := h₃
  refine ⟨S l, t, lo, hi, rfl, rfl, rfl, ?_⟩
  have e := slice_picks l lo hi
  unfold sliceMade
  by_cases hc : (((none : Option (Int × Tok)).map (·.1)).getD 1 == 1 && (slicePicked (S l) lo hi none).length == (S l).length) = true
  · rw [if_pos hc]
    simp only [Option.map_none, Option.getD_none, Bool.and_eq_true, beq_iff_eq] at hc
    have : cut l (lo.map (·.1)) (hi.map (·.1)) = l := cut_whole l _ _ (by rw [← e, filterMap_len fun k hk => slice_in l lo hi k hk, hc.2, S_len])
    show Q (.str (S l) t) _
    have q := hq (h₃.push { cls := .type "slice", data := .fields #[partValue lo, partValue hi, .none] }) tk₃ t (Keep.push _ _)
    rw [this] at q
    exact q
  · rw [if_neg hc]
    refine ⟨?_, ?_⟩
    · show ((slicePicked (S l) lo hi none).filterMap ((S l).cps[·]?)).toArray.size ≤ sizeLine
      rw [e, List.size_toArray, sizeLine_eq]
      exact Nat.le_trans (cut_len l _ _) (Nat.le_trans hl (by decide))
    · have q := hq (h₃.push { cls := .type "slice", data := .fields #[partValue lo, partValue hi, .none] }) (tk₃ + 1) tk₃ (Keep.push _ _)
      have : (⟨((slicePicked (S l) lo hi none).filterMap ((S l).cps[·]?)).toArray⟩ : Str) = S (cut l (lo.map (·.1)) (hi.map (·.1))) := by rw [e]; rfl
      rw [this]
      exact q
where
  filterMap_len {α β : Type} {f : α → Option β} {xs : List α} (hall : ∀ x ∈ xs, (f x).isSome = true) : (xs.filterMap f).length = xs.length := by
    induction xs with
    | nil => rfl
    | cons x xs ih =>
      obtain ⟨y, hy⟩ := Option.isSome_iff_exists.mp (hall x List.mem_cons_self)
      rw [List.filterMap_cons, hy]
      simp [ih fun z hz => hall z (List.mem_cons_of_mem _ hz)]
  slice_in (l : List Nat) (lo hi : Option (Int × Tok)) (k : Nat) (hk : k ∈ slicePicked (S l) lo hi none) : ((S l).cps[k]?).isSome = true := by
    rw [picked_eq] at hk
    obtain ⟨j, hj, rfl⟩ := List.mem_map.mp hk
    have hlt : (lo.map (·.1)).elim 0 (clipI l.length) + j < (S l).cps.size := Nat.lt_of_lt_of_le (Nat.add_lt_of_lt_sub' (List.mem_range.mp hj)) (elim_le l _)
    rw [Array.getElem?_eq_getElem hlt, Option.isSome_some]
  cut_whole (l : List Nat) (lo hi : Option Int) (hl : (cut l lo hi).length = l.length) : cut l lo hi = l := (cut_sub l lo hi).eq_of_length hl
end
end Mine
namespace Mine
section
variable {prog : Program} {w : WK} {A : Around} {E : Value → Shared → Prop} {env : Env} {g : Array GenState} {d : Drawn} {os : OsState} {B : Addr → Obj → Prop} {L : Addr} {names gl : List Str}
variable {h : Heap} {tk : Nat} {s : Shared} {vals : List (Option Value)} {n : List (Addr × (Obj → Prop))}

theorem Keep.ext {h h' : Heap} (x : Heap.ExtBut h.objs.size h h') : Keep h h' := fun b o e => x b o (Nat.ne_of_lt (Heap.lt_size e)) e

/-- the elements of a display or a call, one by one -/
noncomputable def evs (env : Env) (es : List Expr) : Sem (List Value) := spliced (es.map fun e => (false, eval e env))
theorem evs_nil {Q : List Value → Shared → Prop} {M : Model} (k : Q [] s) : wpAny M A (evs env []) Q E s := Calls.spliced_nil k
noncomputable def QV' (Q : List Value → Shared → Prop) (v : Value) (vs : List Value) (s : Shared) : Prop := Q (v :: vs) s
noncomputable def QV (M : Model) (A : Around) (E : Value → Shared → Prop) (env : Env) (es : List Expr) (Q : List Value → Shared → Prop) (v : Value) (s : Shared) : Prop := wpAny M A (evs env es) (QV' Q v) E s
theorem evs_cons {e : Expr} {es : List Expr} {Q : List Value → Shared → Prop} {M : Model} (k : wpAny M A (eval e env) (QV M A E env es Q) E s) : wpAny M A (evs env (e :: es)) Q E s :=
  Calls.spliced_cons k

/-- a new thing is made of values -/
inductive PMk (g : Array GenState) (d : Drawn) (os : OsState) (O : List Value → Obj → Prop) (Q : Value → Shared → Prop) (vs : List Value) (s₂ : Shared) : Prop
  | mk (h₂ : Heap) (tk₂ : Nat) (e : s₂ = ⟨h₂, g, d, tk₂, os⟩) (hl : vs.length ≤ 1000) (q : ∀ a h', Keep h₂ h' → h₂.get? a = none → (∃ o, h'.get? a = some o ∧ O vs o) → Q (.ref a) ⟨h', g, d, tk₂, os⟩)
theorem x_tuple {es : List Expr} {kk : Nat} {pos : Pos} {Q : Value → Shared → Prop}
    (k : wpAny (model prog w.w) A (evs env es) (PMk g d os TupO Q) E s)
    (hs : backTo pos (starEach es env) = es.map fun e => (false, eval e env) := by rfl) : wpAny (model prog w.w) A (eval (.Tuple es kk pos) env) Q E s := by
  refine Tuple_ ?_
  rw [hs]
  refine wpAny_mono k (fun vs s₂ hh => ?_) fun _ _ e => e
  obtain ⟨h₂, tk₂, rfl, hl, q⟩ := hh
  exact wpAny_newTuple (q _ _ (Keep.push _ _) (get_size _) ⟨_, Heap.get?_push_size _ rfl, rfl⟩) (by rw [sizeLine_eq]; lia)
theorem x_list {es : List Expr} {pos : Pos} {Q : Value → Shared → Prop}
    (k : wpAny (model prog w.w) A (evs env es) (PMk g d os LstO Q) E s)
    (hs : backTo pos (starEach es env) = es.map fun e => (false, eval e env) := by rfl) : wpAny (model prog w.w) A (eval (.List es pos) env) Q E s := by
  refine List_ ?_
  rw [hs]
  refine wpAny_mono k (fun vs s₂ hh => ?_) fun _ _ e => e
  obtain ⟨h₂, tk₂, rfl, hl, q⟩ := hh
  exact wpAny_newList (q _ _ (Keep.push _ _) (get_size _) ⟨_, Heap.get?_push_size _ rfl, 0, rfl⟩) (by rw [sizeLine_eq]; lia)

/-- then the arguments, then the call -/
noncomputable def QA' (M : Model) (A : Around) (E : Value → Shared → Prop) (f : Value) (Q : Value → Shared → Prop) (vs : List Value) (s : Shared) : Prop := wpAny M A (call f vs) Q E s
/-- a method's owner -/
inductive PMeth (M : Model) (A : Around) (E : Value → Shared → Prop) (env : Env) (T id : String) (es : List Expr) (Q : Value → Shared → Prop) (ov : Value) (s₁ : Shared) : Prop
  | mk (ht : s₁.TypeIs ov T ∧ ∀ a, ov = .ref a → ∃ ob, s₁.heap.get? a = some ob ∧ ob.dict = none) (k : wpAny M A (evs env es) (fun vs s₂ => wpAny M A (call (.builtin id) (ov :: vs)) Q E s₂) E s₁)
/-- what is called, then its arguments -/
inductive PCal (M : Model) (A : Around) (E : Value → Shared → Prop) (env : Env) (v : Value) (es : List Expr) (P : List Value → Shared → Prop) (f : Value) (s₁ : Shared) : Prop
  | mk (e : f = v) (k : wpAny M A (evs env es) P E s₁)
theorem evalArgs_all {M : Model} {f : Value} {env : Env} {es : List Expr} {Q : Args → Shared → Prop} (k : wpAny M A (evs env es) (fun vs s' => Q ⟨vs, []⟩ s') E s) : wpAny M A (evalArgs f true (es.map fun e => (false, eval e env)) []) Q E s := by
  cases es with
  | nil =>
    unfold evalArgs
    show wpAny M A (spliced [] >>= _) Q E s
    refine wpAny_bind (wpAny_mono k (fun vs s₂ q => ?_) fun _ _ e => e)
    exact wpAny_bind (wpAny_pure (wpAny_holding (wpAny_bind (wpAny_pure (wpAny_bind (wpAny_pure (wpAny_pure q)))))))
  | cons e es => exact Calls.evalArgs_plain k
/-- a call, its keeper known -/
inductive PGo (M : Model) (A : Around) (E : Value → Shared → Prop) (f : Value) (pre : List Value) (Q : Value → Shared → Prop) (vs : List Value) (s₂ : Shared) : Prop
  | mk (kp : Keeper) (hk : kp = .frame ∨ kp = .machine) (kk : ∀ Q' : Keeper → Shared → Prop, Q' kp s₂ → wpAny M A (keeperOf f) Q' E s₂) (k : wpAny M A (call f (pre ++ vs)) Q E s₂)
theorem callWith_go {M : Model} {es : List Expr} {pos : Pos} {f : Value} {pre : List Value} {Q : Value → Shared → Prop} (k : wpAny M A (evs env es) (PGo M A E f pre Q) E s) : wpAny M A (callWith pos f pre (es.map fun e => (false, eval e env)) []) Q E s := by
  unfold callWith
  refine wpAny_bind (wpAny_holding (evalArgs_all (wpAny_mono k (fun vs s₁ h₁ => wpAny_bind (wpAny_standAt ?_)) fun _ _ x => x)))
  obtain ⟨kp, hk, kk, k⟩ := h₁
  have hst : (((es.map fun e => (false, eval e env)).any (·.1)) || ([] : List (Option Str × Sem Value)).any (·.1.isNone)) = false := by simp
  rw [hst]
  have tail : ∀ {t : Sem Value}, wpAny M A t Q E s₁ → wpAny M A (t >>= fun r => holding [r] point >>= fun _ => pure r) Q E s₁ :=
    fun ht => wpAny_bind (wpAny_mono ht (fun r s₂ hr => wpAny_bind (wpAny_holding (wpAny_point (wpAny_pure hr)))) fun _ _ x => x)
  refine wpAny_bind (m := keeperOf f) (kk _ ?_)
  rcases hk with rfl | rfl
  · show wpAny M A (if (es.map fun e => ((false, eval e env) : Bool × Sem Value)).length + 2 * ([] : List (Option Str × Sem Value)).length > 30 then (call f (pre ++ vs) [] >>= fun r => holding [r] point >>= fun _ => pure r) else (callMarked plainCall f (pre ++ vs) [] >>= fun r => holding [r] point >>= fun _ => pure r)) Q E s₁
    split
    · exact tail k
    · exact tail (by unfold callMarked; exact Calls.wpAny_keep k)
  · exact tail k
theorem keeper_fn {M : Model} {a : Addr} {o : Obj} {fd : FuncData} (ho : s.heap.get? a = some o) (hd : o.data = .func fd) (Q' : Keeper → Shared → Prop) (q : Q' .frame s) : wpAny M A (keeperOf (.ref a)) Q' E s := by
  unfold keeperOf
  refine wpAny_bind (wpAny_load ho ?_)
  rw [hd]
  exact wpAny_pure q
/-- a def of the text is called -/
inductive PDef (M : Model) (A : Around) (E : Value → Shared → Prop) (a : Addr) (Q : Value → Shared → Prop) (vs : List Value) (s₂ : Shared) : Prop
  | mk (hf : ∃ o fd, s₂.heap.get? a = some o ∧ o.data = .func fd) (k : wpAny M A (call (.ref a) vs) Q E s₂)
/-- a method of a built-in type, called by its name -/
theorem x_meth0 {o : Expr} {name : Str} {apos pos : Pos} {T id : String} {Q : Value → Shared → Prop}
    (pl : PlainAttrs T) (sl : Slot T name id) (ty : typeOf (.builtin id) = pure (.type "method_descriptor"))
    (k : wpAny (model prog w.w) A (eval o env) (fun ov s₁ => (s₁.TypeIs ov T ∧ ∀ a, ov = .ref a → ∃ ob, s₁.heap.get? a = some ob ∧ ob.dict = none) ∧ wpAny (model prog w.w) A (call (.builtin id) [ov]) Q E s₁) E s)
    (ha : attributeBase o name env (eval o env) = eval o env := by rfl) (hp : (apos.endLine == pos.line) = true := by rfl) :
    wpAny (model prog w.w) A (eval (.Call (.Attribute o name apos) [] [] pos) env) Q E s := by
  refine wpAny_Call_method ha rfl hp pl sl ty (wpAny_mono k (fun ov s₁ hh => ⟨hh.1.1, hh.1.2, ?_⟩) fun _ _ e => e)
  exact Calls.callWith_builtin rfl (PySem.evalArgs_none hh.2)
theorem x_meth {o e : Expr} {es : List Expr} {name : Str} {apos pos : Pos} {T id : String} {Q : Value → Shared → Prop}
    (pl : PlainAttrs T) (sl : Slot T name id) (ty : typeOf (.builtin id) = pure (.type "method_descriptor"))
    (k : wpAny (model prog w.w) A (eval o env) (PMeth (model prog w.w) A E env T id (e :: es) Q) E s)
    (hs : backTo pos (starEach (e :: es) env) = (e :: es).map fun e => (false, eval e env) := by rfl)
    (hn : (decide (es.length + 1 < 30)) = true := by rfl)
    (ha : attributeBase o name env (eval o env) = eval o env := by rfl) (hp : (apos.endLine == pos.line) = true := by rfl) :
    wpAny (model prog w.w) A (eval (.Call (.Attribute o name apos) (e :: es) [] pos) env) Q E s := by
  refine wpAny_Call_method ha ?_ hp pl sl ty (wpAny_mono k (fun ov s₁ ⟨hh, hk⟩ => ⟨hh.1, hh.2, ?_⟩) fun _ _ e => e)
  · rw [hs]
    have h1 : (((e :: es).map fun e => (false, eval e env)).all fun x => !x.1) = true := by simp
    have h2 : backToKw pos (keywordEach [] env) = [] := rfl
    rw [h1, h2]
    simpa using of_decide_eq_true hn
  · rw [hs]
    refine Calls.callWith_builtin (by simp) ?_
    exact Calls.evalArgs_plain (wpAny_mono hk (fun vs s₂ q => q) fun _ _ e => e)

/-- a built-in function, called -/
theorem x_bcall {e : Expr} {es : List Expr} {x : Str} {np pos : Pos} {id : String} {Q : Value → Shared → Prop}
    (k : wpAny (model prog w.w) A (eval (.Name x np) env) (PCal (model prog w.w) A E env (.builtin id) (e :: es) (QA' (model prog w.w) A E (.builtin id) Q)) E s)
    (hs : backTo pos (starEach (e :: es) env) = (e :: es).map fun e => (false, eval e env) := by rfl) :
    wpAny (model prog w.w) A (eval (.Call (.Name x np) (e :: es) [] pos) env) Q E s := by
  refine wpAny_Call_NameR (wpAny_mono k (fun f s₁ hh => ?_) fun _ _ e => e)
  obtain ⟨rfl, k⟩ := hh
  rw [hs]
  refine Calls.callWith_builtin (by simp) ?_
  exact Calls.evalArgs_plain (wpAny_mono k (fun vs s₂ q => q) fun _ _ e => e)
/-- a def of the text, called -/
theorem x_dcall {e : Expr} {es : List Expr} {x : Str} {np pos : Pos} {a : Addr} {Q : Value → Shared → Prop}
    (k : wpAny (model prog w.w) A (eval (.Name x np) env) (PCal (model prog w.w) A E env (.ref a) (e :: es) (PDef (model prog w.w) A E a Q)) E s)
    (hs : backTo pos (starEach (e :: es) env) = (e :: es).map fun e => (false, eval e env) := by rfl) :
    wpAny (model prog w.w) A (eval (.Call (.Name x np) (e :: es) [] pos) env) Q E s := by
  refine wpAny_Call_NameR (wpAny_mono k (fun f s₁ hh => ?_) fun _ _ e => e)
  obtain ⟨rfl, k⟩ := hh
  rw [hs]
  exact callWith_go (es := e :: es) (wpAny_mono k (fun vs s₂ ⟨⟨o, fd, ho, hd⟩, k⟩ => ⟨_, .inl rfl, keeper_fn ho hd, k⟩) fun _ _ e => e)
end
end Mine
namespace Mine
section
variable {prog : Program} {w : WK} {A : Around} {E : Value → Shared → Prop} {env : Env} {g : Array GenState} {d : Drawn} {os : OsState} {B : Addr → Obj → Prop} {L : Addr} {names gl : List Str}
variable {h : Heap} {tk : Nat} {s : Shared} {vals : List (Option Value)} {n : List (Addr × (Obj → Prop))}

theorem blockKind_fn (hk : env.scope.kind = .function) : env.blockKind = .function := by
  unfold Env.blockKind; rw [hk]; rfl

/-- not folded by the compiler -/
noncomputable def litAll (es : List Expr) : Bool := es.all (constantsAlone 8) || es.all (foldedForSure 8) || es.any fun e => match e with | .Starred .. => true | _ => false

theorem swapped2 {x y : Str} {px py tp vp : Pos} {k₁ k₂ : Nat} {e₁ e₂ : Expr} (hk : env.scope.kind = .function) (hx : env.kindOf x = some .local) (hy : env.kindOf y = some .local) (hne : (x == y) = false)
    (hl : (px.line == py.line) = true) (hlit : litAll [e₁, e₂] = false) :
    swappedStores [.Tuple [.Name x px, .Name y py] k₁ tp] (.Tuple [e₁, e₂] k₂ vp) env = pure (some [x, y]) := by
  unfold litAll at hlit
  simp only [Bool.or_eq_false_iff] at hlit
  obtain ⟨⟨h1, h2⟩, h3⟩ := hlit
  unfold swappedStores
  simp only [List.length_cons, List.length_nil, List.head?_cons, Option.map_some, Option.getD_some, List.filterMap_cons, List.filterMap_nil, Expr.pos]
  rw [if_neg (by rw [blockKind_fn hk]; decide), if_neg (by rw [Bool.not_eq_true]; exact h3)]
  have hl' : py.line = px.line := (beq_iff_eq.mp hl).symm
  have n0 : ¬ y = x := fun e => by rw [e] at hne; simp at hne
  have m0 : ¬ x = y := fun e => n0 e.symm
  simp only [h1, h2, Bool.false_eq_true, if_false]
  have b0 : (y == x) = false := beq_eq_false_iff_ne.mpr n0
  simp [hx, hy, hl', List.eraseDups, List.eraseDupsBy, List.eraseDupsBy.loop, b0]
theorem swapped3 {x y z : Str} {px py pz tp vp : Pos} {k₁ k₂ : Nat} {e₁ e₂ e₃ : Expr} (hk : env.scope.kind = .function) (hx : env.kindOf x = some .local) (hy : env.kindOf y = some .local) (hz : env.kindOf z = some .local) (hne : (x == y) = false) (hne2 : (x == z) = false) (hne3 : (y == z) = false)
    (hl : (px.line == py.line && px.line == pz.line) = true) (hlit : litAll [e₁, e₂, e₃] = false) :
    swappedStores [.Tuple [.Name x px, .Name y py, .Name z pz] k₁ tp] (.Tuple [e₁, e₂, e₃] k₂ vp) env = pure (some [x, y, z]) := by
  unfold litAll at hlit
  simp only [Bool.or_eq_false_iff] at hlit
  obtain ⟨⟨h1, h2⟩, h3⟩ := hlit
  unfold swappedStores
  simp only [List.length_cons, List.length_nil, List.head?_cons, Option.map_some, Option.getD_some, List.filterMap_cons, List.filterMap_nil, Expr.pos]
  rw [if_neg (by rw [blockKind_fn hk]; decide), if_neg (by rw [Bool.not_eq_true]; exact h3)]
  rw [Bool.and_eq_true] at hl
  have hl' : py.line = px.line := (beq_iff_eq.mp hl.1).symm
  have hl'' : pz.line = px.line := (beq_iff_eq.mp hl.2).symm
  have n0 : ¬ y = x := fun e => by rw [e] at hne; simp at hne
  have m0 : ¬ x = y := fun e => n0 e.symm
  have n1 : ¬ z = x := fun e => by rw [e] at hne2; simp at hne2
  have m1 : ¬ x = z := fun e => n1 e.symm
  have n2 : ¬ z = y := fun e => by rw [e] at hne3; simp at hne3
  have m2 : ¬ y = z := fun e => n2 e.symm
  simp only [h1, h2, Bool.false_eq_true, if_false]
  have b0 : (y == x) = false := beq_eq_false_iff_ne.mpr n0
  have b1 : (z == x) = false := beq_eq_false_iff_ne.mpr n1
  have b2 : (z == y) = false := beq_eq_false_iff_ne.mpr n2
  simp [hx, hy, hz, hl', hl'', List.eraseDups, List.eraseDupsBy, List.eraseDupsBy.loop, b0, b1, b2]

theorem x_assign_sw {ns : List Str} {t : Expr} {value : Expr} {pos : Pos} {Q : Flow → Shared → Prop} (hsw : swappedStores [t] value env = pure (some ns))
    (k : wpAny (model prog w.w) A (eval value env) (fun v s₁ => wpAny (model prog w.w) A (unpackItems v ns.length none) (fun items s₂ => wpAny (model prog w.w) A (assignInOrder (ns.reverse.map fun n => bindName env n) items.reverse) (fun _ => Q .next) E s₂) E s₁) E s)
    (h0 : swapsWithSole [t] value pos.line env = pure false := by rfl) : wpAny (model prog w.w) A (exec (.Assign [t] value pos) env) Q E s := by
  rw [arm_exec_Assign, h0, hsw]
  refine wpAny_bind (wpAny_standAt (wpAny_bind (wpAny_pure ?_)))
  simp only [Bool.false_eq_true, if_false]
  refine wpAny_bind (wpAny_mono k (fun v s₁ h₁ => wpAny_bind (wpAny_pure ?_)) fun _ _ e => e)
  show wpAny (model prog w.w) A (do rule "assign.swapped-stores"; let items ← unpackItems v ns.length none; assignInOrder (ns.reverse.map fun n => bindName env n) items.reverse; pure .next) Q E s₁
  exact wpAny_bind (wpAny_rule (wpAny_bind (wpAny_mono h₁ (fun items s₂ h₂ => wpAny_bind (wpAny_mono h₂ (fun _ _ q => wpAny_pure q) fun _ _ e => e)) fun _ _ e => e)))

theorem unpack_tup {a : Addr} {vs : List Value} {m : Nat} {Q : List Value → Shared → Prop} (hm : m = vs.length) (hh : A.handled = none) (ht : Tup h a vs) (k : ∀ h', Keep h h' → Q vs ⟨h', g, d, tk, os⟩) :
    wpAny (model prog w.w) A (unpackItems (.ref a) m none) Q E ⟨h, g, d, tk, os⟩ := by
  have e : m = vs.toArray.size := by simp [hm]
  rw [e]
  refine wpAny_unpackItems_tuple hh ht.isTuple fun h' hx => ?_
  have := k h' (Keep.ext hx)
  simpa using this

/-- x, y = e₁, e₂ -/
inductive PAs2 (g : Array GenState) (d : Drawn) (os : OsState) (B : Addr → Obj → Prop) (L : Addr) (names : List Str) (ix iy : Nat) (Q : Flow → Shared → Prop) (vs : List Value) (s₂ : Shared) : Prop
  | mk (h₂ : Heap) (tk₂ : Nat) (vals : List (Option Value)) (n : Led) (v₁ v₂ : Value) (e : s₂ = ⟨h₂, g, d, tk₂, os⟩) (e1 : vs = [v₁, v₂]) (z : Z B L (fr names vals) n h₂) (i : ix < vals.length) (j : iy < vals.length)
      (q : ∀ h' tk', Z B L (fr names ((vals.set iy (some v₂)).set ix (some v₁))) n h' → Q .next ⟨h', g, d, tk', os⟩)
theorem x_asg2 {x y : Str} {px py tp vp pos : Pos} {k₁ k₂ : Nat} {e₁ e₂ : Expr} {Q : Flow → Shared → Prop} (e : EnvL env L names gl) (hh : A.handled = none) (ix iy : Nat) (hx : names[ix]? = some x) (hy : names[iy]? = some y)
    (hne : (x == y) = false) (hlit : litAll [e₁, e₂] = false)
    (k : wpAny (model prog w.w) A (evs env [e₁, e₂]) (PAs2 g d os B L names ix iy Q) E s)
    (hl : (px.line == py.line) = true := by rfl)
    (hs : backTo vp (starEach [e₁, e₂] env) = [e₁, e₂].map fun e => (false, eval e env) := by rfl) (h0 : swapsWithSole [.Tuple [.Name x px, .Name y py] k₁ tp] (.Tuple [e₁, e₂] k₂ vp) pos.line env = pure false := by rfl) :
    wpAny (model prog w.w) A (exec (.Assign [.Tuple [.Name x px, .Name y py] k₁ tp] (.Tuple [e₁, e₂] k₂ vp) pos) env) Q E s := by
  refine x_assign_sw (swapped2 e.kind (e.loc x (List.mem_of_getElem? hx)).1 (e.loc y (List.mem_of_getElem? hy)).1 hne hl hlit) ?_ h0
  refine x_tuple (g := g) (d := d) (os := os) (wpAny_mono k (fun vs s₂ hh₂ => ?_) fun _ _ e => e) hs
  obtain ⟨h₂, tk₂, vals, n, v₁, v₂, rfl, rfl, z, i1, i2, q⟩ := hh₂
  refine ⟨h₂, tk₂, rfl, by simp, fun a h₃ k₃ hn ht => ?_⟩
  refine unpack_tup rfl hh ht fun h₄ k₄ => ?_
  have z₄ := (z.keepAll k₃).keepAll k₄
  refine wpAny_assignInOrder_more (wpAny_bindName (x_sto e z₄ iy hy i2 fun h₅ tk₅ z₅ _ => ?_))
  refine wpAny_assignInOrder_more (wpAny_bindName (x_sto e z₅ ix hx (by simpa using i1) fun h₆ tk₆ z₆ _ => ?_))
  exact wpAny_assignInOrder_none (q h₆ tk₆ z₆)
inductive PAs3 (g : Array GenState) (d : Drawn) (os : OsState) (B : Addr → Obj → Prop) (L : Addr) (names : List Str) (ix iy iu : Nat) (Q : Flow → Shared → Prop) (vs : List Value) (s₂ : Shared) : Prop
  | mk (h₂ : Heap) (tk₂ : Nat) (vals : List (Option Value)) (n : Led) (v₁ v₂ v₃ : Value) (e : s₂ = ⟨h₂, g, d, tk₂, os⟩) (e1 : vs = [v₁, v₂, v₃]) (z : Z B L (fr names vals) n h₂) (i : ix < vals.length) (j : iy < vals.length) (k : iu < vals.length)
      (q : ∀ h' tk', Z B L (fr names (((vals.set iu (some v₃)).set iy (some v₂)).set ix (some v₁))) n h' → Q .next ⟨h', g, d, tk', os⟩)
theorem x_asg3 {x y u : Str} {px py pu tp vp pos : Pos} {k₁ k₂ : Nat} {e₁ e₂ e₃ : Expr} {Q : Flow → Shared → Prop} (e : EnvL env L names gl) (hh : A.handled = none) (ix iy iu : Nat) (hx : names[ix]? = some x) (hy : names[iy]? = some y) (hu : names[iu]? = some u)
    (hne : (x == y) = false) (hne2 : (x == u) = false) (hne3 : (y == u) = false) (hlit : litAll [e₁, e₂, e₃] = false)
    (k : wpAny (model prog w.w) A (evs env [e₁, e₂, e₃]) (PAs3 g d os B L names ix iy iu Q) E s)
    (hl : (px.line == py.line && px.line == pu.line) = true := by rfl)
    (hs : backTo vp (starEach [e₁, e₂, e₃] env) = [e₁, e₂, e₃].map fun e => (false, eval e env) := by rfl) (h0 : swapsWithSole [.Tuple [.Name x px, .Name y py, .Name u pu] k₁ tp] (.Tuple [e₁, e₂, e₃] k₂ vp) pos.line env = pure false := by rfl) :
    wpAny (model prog w.w) A (exec (.Assign [.Tuple [.Name x px, .Name y py, .Name u pu] k₁ tp] (.Tuple [e₁, e₂, e₃] k₂ vp) pos) env) Q E s := by
  refine x_assign_sw (swapped3 e.kind (e.loc x (List.mem_of_getElem? hx)).1 (e.loc y (List.mem_of_getElem? hy)).1 (e.loc u (List.mem_of_getElem? hu)).1 hne hne2 hne3 hl hlit) ?_ h0
  refine x_tuple (g := g) (d := d) (os := os) (wpAny_mono k (fun vs s₂ hh₂ => ?_) fun _ _ e => e) hs
  obtain ⟨h₂, tk₂, vals, n, v₁, v₂, v₃, rfl, rfl, z, i1, i2, i3, q⟩ := hh₂
  refine ⟨h₂, tk₂, rfl, by simp, fun a h₃ k₃ hn ht => ?_⟩
  refine unpack_tup rfl hh ht fun h₄ k₄ => ?_
  have z₄ := (z.keepAll k₃).keepAll k₄
  refine wpAny_assignInOrder_more (wpAny_bindName (x_sto e z₄ iu hu i3 fun h₅ tk₅ z₅ _ => ?_))
  refine wpAny_assignInOrder_more (wpAny_bindName (x_sto e z₅ iy hy (by simpa using i2) fun h₆ tk₆ z₆ _ => ?_))
  refine wpAny_assignInOrder_more (wpAny_bindName (x_sto e z₆ ix hx (by simpa using i1) fun h₇ tk₇ z₇ _ => ?_))
  exact wpAny_assignInOrder_none (q h₇ tk₇ z₇)
/-- x = e -/
inductive PAs1 (g : Array GenState) (d : Drawn) (os : OsState) (B : Addr → Obj → Prop) (L : Addr) (names : List Str) (ix : Nat) (Q : Flow → Shared → Prop) (v : Value) (s₂ : Shared) : Prop
  | mk (h₂ : Heap) (tk₂ : Nat) (vals : List (Option Value)) (n : Led) (e : s₂ = ⟨h₂, g, d, tk₂, os⟩) (z : Z B L (fr names vals) n h₂) (i : ix < vals.length)
      (q : ∀ h' tk', Z B L (fr names (vals.set ix (some v))) n h' → Q .next ⟨h', g, d, tk', os⟩)
theorem x_asg {x : Str} {px pos : Pos} {value : Expr} {Q : Flow → Shared → Prop} (e : EnvL env L names gl) (ix : Nat) (hx : names[ix]? = some x)
    (k : wpAny (model prog w.w) A (eval value env) (PAs1 g d os B L names ix Q) E s)
    (h0 : swapsWith value (some (.Name x px)) pos.line env = pure false := by rfl) : wpAny (model prog w.w) A (exec (.Assign [.Name x px] value pos) env) Q E s := by
  refine y_asg (wpAny_mono k (fun v s₁ hh => ?_) fun _ _ e => e) h0
  obtain ⟨h₂, tk₂, vals, n, rfl, z, i, q⟩ := hh
  exact x_sto e z ix hx i fun h' tk' z' _ => q h' tk' z'
end

/-- what stands ahead of a call stays -/
noncomputable def Sb (h : Heap) : Addr → Obj → Prop := fun b o => h.get? b = some o

/-- the first names of a frame hold the arguments -/
theorem fr_binds : ∀ (ks rest : List Str) (args : List Value), (ks ++ rest).Nodup → ks.length = args.length →
    (fun x => List.lookup x (ks.zip args).reverse) = fr (ks ++ rest) (args.map some ++ rest.map fun _ => none) := by
  have none_rest : ∀ (rest : List Str) (y : Str), fr rest (rest.map fun _ => (none : Option Value)) y = none := by
    intro rest
    induction rest with
    | nil => intro y; rfl
    | cons x xs ih => intro y; rw [List.map_cons, fr_cons]; split; rfl; exact ih y
  intro ks rest args nd hl
  funext y
  have step : ∀ (l : List (Str × Value)), (l.map (·.1)).Nodup → List.lookup y l.reverse = List.lookup y l := by
    intro l hl
    induction l with
    | nil => rfl
    | cons p l ih =>
      obtain ⟨k, v⟩ := p
      rw [List.map_cons, List.nodup_cons] at hl
      rw [List.reverse_cons, List.lookup_append, ih hl.2]
      by_cases hk : y = k
      · subst hk
        have : List.lookup y l = none := by
          rw [List.lookup_eq_none_iff]
          intro p hp
          rw [bne_iff_ne]
          intro e
          exact hl.1 (List.mem_map.mpr ⟨p, hp, e.symm⟩)
        rw [this]
        simp
      · have hb : (y == k) = false := by simpa using hk
        have e1 : List.lookup y ((k, v) :: l) = List.lookup y l := by rw [List.lookup_cons, hb]
        have e2 : List.lookup y [(k, v)] = none := by rw [List.lookup_cons, hb]; rfl
        rw [e1, e2]
        cases List.lookup y l <;> rfl
  have hnd : ((ks.zip args).map (·.1)).Nodup := by
    rw [List.map_fst_zip (by lia)]
    exact (List.nodup_append.mp nd).1
  rw [step _ hnd]
  clear step hnd
  induction ks generalizing args with
  | nil =>
    cases args with
    | nil => simp [none_rest]
    | cons => simp at hl
  | cons k ks ih =>
    cases args with
    | nil => simp at hl
    | cons v args =>
      rw [List.zip_cons_cons, List.lookup_cons, List.cons_append, List.map_cons, List.cons_append, fr_cons]
      by_cases hk : y = k
      · subst hk; simp
      · have hb : (y == k) = false := by simpa using hk
        rw [hb, if_neg hk]
        exact ih args (by rw [List.cons_append] at nd; exact (List.nodup_cons.mp nd).2) (by simpa using hl)
end Mine
namespace Mine
/-- a plain def of the text: what a call of it needs to know -/
structure DefAt (w : WK) (a : Addr) (fd : FuncData) (body : List Stmt) (ks rest gl : List Str) : Prop where
  look : ∃ c dd sl, (KK w).lookup a = some ⟨c, dd, .func fd, sl⟩
  code : codeIn (KK w) fd.code fd.qualname = true
  body : fd.body = .stmts body
  co : fd.scope.isCoroutine = false
  gen : fd.scope.isGenerator = false
  kind : fd.scope.kind = .function
  cell : fd.scope.names.all (fun x => x.2 != .cell) = true
  nd : (ks ++ rest).Nodup
  loc : (ks ++ rest).all (fun x => fd.scope.names.lookup x == some .local && !(x == ("__debug__" : Str))) = true
  glo : gl.all (fun x => fd.scope.names.lookup x == some .globalImplicit && !(x == ("__debug__" : Str))) = true
  eg : fd.globals = mainGlobals
  eb : fd.builtins = builtinsNs

section
variable {prog : Program} {w : WK} {A : Around} {E : Value → Shared → Prop} {g : Array GenState} {d : Drawn} {os : OsState}
variable {h : Heap} {tk : Nat}

theorem DefAt.envL {w : WK} {a : Addr} {fd : FuncData} {body : List Stmt} {ks rest gl : List Str} (D : DefAt w a fd body ks rest gl) (L : Addr) : EnvL (callEnv fd L a) L (ks ++ rest) gl where
  kind := D.kind
  lc := rfl
  nd := D.nd
  loc := fun x hx => by
    have := List.all_eq_true.mp D.loc x hx
    rw [Bool.and_eq_true, Bool.not_eq_true'] at this
    exact ⟨eq_of_beq this.1, this.2⟩
  glo := fun x hx => by
    have := List.all_eq_true.mp D.glo x hx
    rw [Bool.and_eq_true, Bool.not_eq_true'] at this
    exact ⟨eq_of_beq this.1, this.2⟩
  eg := D.eg
  eb := D.eb

theorem Sb.Z_enter {h h₁ : Heap} {m : Str → Option Value} (hn : h₁.Ns h.objs.size m) (k : Keep h h₁) : Z (Sb h) h.objs.size m [] h₁ :=
  ⟨hn, fun b o e => k b o e, (fun o e => by unfold Sb at e; rw [get_size] at e; cases e), (by intro p hp; cases hp), (by intro p hp; cases hp), List.nodup_nil⟩

/-- a call of a plain def, nothing raised -/
theorem x_call {a : Addr} {fd : FuncData} {body : List Stmt} {ks rest gl : List Str} {args : List Value} {Q : Value → Shared → Prop} {N : Nat}
    (D : DefAt w a fd body ks rest gl) (gw : G w h) (ag : AG (N + 1) A) (hb : bindArgs fd ⟨args, []⟩ = pure (ks.zip args)) (hl : ks.length = args.length)
    (k : ∀ env L h₁ tk₁, EnvL env L (ks ++ rest) gl → env.frame = some L → AG N (A.deeper env) → Z (Sb h) L (fr (ks ++ rest) (args.map some ++ rest.map fun _ => none)) [] h₁ →
      wpAny (model prog w.w) (A.deeper env) (execs body env) (QF Q) (fun _ _ => False) ⟨h₁, g, d, tk₁, os⟩) :
    wpAny (model prog w.w) A (call (.ref a) args) Q E ⟨h, g, d, tk, os⟩ := by
  obtain ⟨c, dd, sl, hk⟩ := D.look
  have ho := gw.K _ _ hk
  refine wpAny_call (codeAny_call_def (binds := ks.zip args) ag.room ho rfl gw.lim (codeRec_of gw.K D.code) D.body (BindsTo.of_eq hb) ?_ ?_ (fun h₁ hns hk₁ => ?_) D.co D.gen D.kind)
  · intro x hx
    have := List.all_eq_true.mp D.cell x hx
    simpa using this
  · intro x hx
    have hm : x.1 ∈ ks ++ rest := List.mem_append_left _ (List.of_mem_zip hx).1
    have := List.all_eq_true.mp D.loc x.1 hm
    rw [Bool.and_eq_true] at this
    exact eq_of_beq this.1
  · have hns' : h₁.Ns h.objs.size (fr (ks ++ rest) (args.map some ++ rest.map fun _ => none)) := by
      rw [← fr_binds ks rest args D.nd hl]; exact hns
    refine wpAny_mono (k _ h.objs.size h₁ _ (D.envL _) rfl (ag.deeper _) (Sb.Z_enter hns' hk₁)) (fun f s' q => q) (fun _ _ q => q.elim)
end
end Mine
namespace Mine
theorem ite_b {b : Bool} {P R : Prop} (h1 : b = true → P) (h2 : b = false → R) : if b = true then P else R := by
  cases b with
  | true => exact h1 rfl
  | false => exact h2 rfl

noncomputable def ILst (ns : List Int) : Obj → Prop := fun o => ∃ vs, IntsAre vs ns ∧ LstO vs o
noncomputable def SLst (ls : List (List Nat)) : Obj → Prop := fun o => ∃ vs, StrsAre vs (ls.map S) ∧ LstO vs o
theorem strs_len {vs : List Value} {ys : List Str} (h : StrsAre vs ys) : vs.length = ys.length := by
  induction h with
  | nil => rfl
  | cons y t _ ih => simp [ih]
theorem strs_get {vs : List Value} {ys : List Str} (h : StrsAre vs ys) : ∀ {i : Nat} {y : Str}, ys[i]? = some y → ∃ t, vs[i]? = some (.str y t) := by
  induction h with
  | nil => intro i y hy; simp at hy
  | cons z t _ ih =>
    intro i y hy
    cases i with
    | zero => simp at hy; exact ⟨t, by simp [hy]⟩
    | succ i => simp at hy; obtain ⟨t', e⟩ := ih hy; exact ⟨t', by simpa using e⟩
theorem ints_get {vs : List Value} {ys : List Int} (h : IntsAre vs ys) : ∀ {i : Nat} {y : Int}, ys[i]? = some y → ∃ t, vs[i]? = some (.int y t) := by
  induction h with
  | nil => intro i y hy; simp at hy
  | cons z t _ ih =>
    intro i y hy
    cases i with
    | zero => simp at hy; exact ⟨t, by simp [hy]⟩
    | succ i => simp at hy; obtain ⟨t', e⟩ := ih hy; exact ⟨t', by simpa using e⟩

section
variable {prog : Program} {w : WK} {A : Around} {E : Value → Shared → Prop} {env : Env} {g : Array GenState} {d : Drawn} {os : OsState} {B : Addr → Obj → Prop} {L : Addr} {names gl : List Str}
variable {h : Heap} {tk : Nat} {s : Shared} {vals : List (Option Value)} {n : List (Addr × (Obj → Prop))}

inductive PSs (g : Array GenState) (d : Drawn) (os : OsState) (Q : Value → Shared → Prop) (o vl vu : Value) (s₃ : Shared) : Prop
  | mk (h₃ : Heap) (tk₃ : Nat) (l : List Nat) (t : Tok) (i : Int) (ti : Tok) (j : Int) (tj : Tok) (e : s₃ = ⟨h₃, g, d, tk₃, os⟩) (e1 : o = .str (S l) t) (e2 : vl = .int i ti) (e3 : vu = .int j tj) (hl : l.length ≤ 100000)
      (q : ∀ h' tk' t', Keep h₃ h' → Q (.str (S (cut l (some i) (some j))) t') ⟨h', g, d, tk', os⟩)
theorem x_slice_ss {value lo up : Expr} {p pos : Pos} {Q : Value → Shared → Prop}
    (k : wpAny (model prog w.w) A (eval value env) (Q3 (model prog w.w) A E env lo up (PSs g d os Q)) E s)
    (ht : ∀ o r, letTemporaryGo value o r = pure () := by intro _ _; rfl) :
    wpAny (model prog w.w) A (eval (.Subscript value (.Slice (some lo) (some up) none p) pos) env) Q E s :=
  x_slice (wpAny_mono k (fun _ _ h₁ => wpAny_evalPart_some (wpAny_mono h₁ (fun _ _ h₂ => wpAny_evalPart_some (wpAny_mono h₂ (fun _ _ h₃ =>
    let ⟨h₃, tk₃, l, t, i, ti, j, tj, e, a, b, c, hl, q⟩ := h₃; ⟨h₃, tk₃, l, t, some (i, ti), some (j, tj), e, a, b, c, hl, q⟩) fun _ _ e => e)) fun _ _ e => e)) fun _ _ e => e) ht
inductive PSn (g : Array GenState) (d : Drawn) (os : OsState) (Q : Value → Shared → Prop) (o vu : Value) (s₃ : Shared) : Prop
  | mk (h₃ : Heap) (tk₃ : Nat) (l : List Nat) (t : Tok) (j : Int) (tj : Tok) (e : s₃ = ⟨h₃, g, d, tk₃, os⟩) (e1 : o = .str (S l) t) (e3 : vu = .int j tj) (hl : l.length ≤ 100000)
      (q : ∀ h' tk' t', Keep h₃ h' → Q (.str (S (cut l none (some j))) t') ⟨h', g, d, tk', os⟩)
theorem x_slice_ns {value up : Expr} {p pos : Pos} {Q : Value → Shared → Prop}
    (k : wpAny (model prog w.w) A (eval value env) (Q2 (model prog w.w) A E env up (PSn g d os Q)) E s)
    (ht : ∀ o r, letTemporaryGo value o r = pure () := by intro _ _; rfl) :
    wpAny (model prog w.w) A (eval (.Subscript value (.Slice none (some up) none p) pos) env) Q E s :=
  x_slice (wpAny_mono k (fun _ _ h₁ => wpAny_evalPart_none (wpAny_evalPart_some (wpAny_mono h₁ (fun _ _ h₃ =>
    let ⟨h₃, tk₃, l, t, j, tj, e, a, c, hl, q⟩ := h₃; ⟨h₃, tk₃, l, t, none, some (j, tj), e, a, rfl, c, hl, q⟩) fun _ _ e => e))) fun _ _ e => e) ht

theorem x_neg1 {a : Int} {t : Tok} {Q : Value → Shared → Prop} (k : ∀ t' tk', Q (.int (-a) t') ⟨h, g, d, tk', os⟩) : wpAny (model prog w.w) A (unaryOp .USub (.int a t)) Q E ⟨h, g, d, tk, os⟩ := neg_int (k _ _)
theorem x_nes {a b : List Nat} {t u : Tok} {Q : Value → Shared → Prop} (k : Q (.bool (a != b)) ⟨h, g, d, tk, os⟩) : wpAny (model prog w.w) A (compareOp .NotEq (.str (S a) t) (.str (S b) u)) Q E ⟨h, g, d, tk, os⟩ :=
  ne_str (by have : (S a != S b) = (a != b) := by show (!(S a == S b)) = !(a == b); rw [S_beq]
             rw [this]; exact k)

theorem any_S {k : List Nat} {ls : List (List Nat)} : ((ls.map S).any (· == S k)) = ls.any (fun x => x == k) := by
  rw [List.any_map]
  congr 1
  funext x
  exact S_beq x k
theorem x_in_strs {a : Addr} {k : List Nat} {ls : List (List Nat)} {t : Tok} {Q : Value → Shared → Prop} (hs : ∃ o, h.get? a = some o ∧ SLst ls o)
    (kq : Q (.bool (ls.any fun x => x == k)) ⟨h, g, d, tk, os⟩) : wpAny (model prog w.w) A (compareOp .In (.str (S k) t) (.ref a)) Q E ⟨h, g, d, tk, os⟩ := by
  obtain ⟨o, ho, vs, hv, hl⟩ := hs
  exact in_list_strs (Lst.isList (h := h) ⟨o, ho, hl⟩) hv (by rw [any_S]; exact kq)
theorem x_in_ints {a : Addr} {k : Int} {ns : List Int} {t : Tok} {Q : Value → Shared → Prop} (hs : ∃ o, h.get? a = some o ∧ ILst ns o)
    (kq : Q (.bool (ns.any fun x => x == k)) ⟨h, g, d, tk, os⟩) : wpAny (model prog w.w) A (compareOp .In (.int k t) (.ref a)) Q E ⟨h, g, d, tk, os⟩ := by
  obtain ⟨o, ho, vs, hv, hl⟩ := hs
  exact in_list_ints (Lst.isList (h := h) ⟨o, ho, hl⟩) hv kq
/-- an item of a list -/
theorem x_item {a : Addr} {vs : List Value} {i : Int} {u : Tok} {v : Value} {Q : Value → Shared → Prop} {value slice : Expr} (hl : ∃ o, h.get? a = some o ∧ LstO vs o) (h0 : 0 ≤ i) (h1 : i < 2 ^ 63) (hv : vs[i.toNat]? = some v)
    (hs : subscripted slice false (.ref a) (.int i u) = operate [.ref a, .int i u] (getItem (.ref a) (.int i u)))
    (k : Q v ⟨h, g, d, tk, os⟩) : wpAny (model prog w.w) A (subscriptTail value slice (.ref a) (.int i u)) Q E ⟨h, g, d, tk, os⟩ :=
  have hL : (⟨h, g, d, tk, os⟩ : Shared).heap.IsList a vs.toArray := Lst.isList (h := h) hl
  tail_any hL.typeIs slot_list_getitem.lookup (wpAny_getItem_list hL h0 h1 (by simpa using hv) k) hs
theorem x_len_str {l : List Nat} {t : Tok} {Q : Value → Shared → Prop} (hl : l.length ≤ 100000) (k : ∀ t' tk', Q (.int (l.length : Int) t') ⟨h, g, d, tk', os⟩) : wpAny (model prog w.w) A (call (.builtin "len") [.str (S l) t]) Q E ⟨h, g, d, tk, os⟩ :=
  len_str (by rw [S_len]; lia) (by rw [S_len]; exact k _ _)
theorem x_len_list {a : Addr} {vs : List Value} {Q : Value → Shared → Prop} (hl : ∃ o, h.get? a = some o ∧ LstO vs o) (hn : vs.length ≤ 100000) (k : ∀ t' tk', Q (.int (vs.length : Int) t') ⟨h, g, d, tk', os⟩) : wpAny (model prog w.w) A (call (.builtin "len") [.ref a]) Q E ⟨h, g, d, tk, os⟩ := by
  have hL : (⟨h, g, d, tk, os⟩ : Shared).heap.IsList a vs.toArray := Lst.isList (h := h) hl
  refine len_list hL (by rw [List.size_toArray]; lia) ?_
  have := k tk (tk + 1)
  first
    | (rw [List.size_toArray]; exact k _ _)
    | exact k _ _
end
end Mine
namespace Mine
theorem ite_t {P R : Prop} (h : P) : if true = true then P else R := h
theorem ite_f {P R : Prop} (h : R) : if false = true then P else R := h
/-- x in y, two texts -/
noncomputable def subIn (x y : List Nat) : Bool := !List.isEmpty (Builtin.Str.occurrences (S y) (S x) 0 (Str.length (S y)) 1)
theorem x_in_str {prog : Program} {w : WK} {A : Around} {E : Value → Shared → Prop} {s : Shared} {a b : List Nat} {t u : Tok} {Q : Value → Shared → Prop} (k : Q (.bool (subIn a b)) s) :
    wpAny (model prog w.w) A (compareOp .In (.str (S a) t) (.str (S b) u)) Q E s := in_str k
end Mine
namespace Mine
noncomputable def CellO (v : Option Value) : Obj → Prop := fun o => o.data = .cell v

/-- an environment with cells -/
structure EnvC (env : Env) (L : Addr) (names gl cn : List Str) (ca : List Addr) : Prop extends EnvL env L names gl where
  cel : ∀ (i : Nat) (x : Str) (c : Addr), cn[i]? = some x → ca[i]? = some c → env.kindOf x = some .cell ∧ env.cells.lookup x = some c ∧ (x == ("__debug__" : Str)) = false

section
variable {prog : Program} {w : WK} {A : Around} {E : Value → Shared → Prop} {env : Env} {g : Array GenState} {d : Drawn} {os : OsState} {B : Addr → Obj → Prop} {L : Addr} {names gl cn : List Str} {ca : List Addr}
variable {h : Heap} {tk : Nat} {vals : List (Option Value)} {n : List (Addr × (Obj → Prop))} {m : Str → Option Value}

/-- a name that is a cell -/
theorem x_cel {x : Str} {v : Value} {c : Addr} {pos : Pos} {Q : Value → Shared → Prop} (e : EnvC env L names gl cn ca) (z : Z B L m n h) (i : Nat) (hx : cn[i]? = some x) (hc : ca[i]? = some c) (j : Nat) (hj : n[j]? = some (c, CellO (some v)))
    (k : Q v ⟨h, g, d, tk, os⟩) : wpAny (model prog w.w) A (eval (.Name x pos) env) Q E ⟨h, g, d, tk, os⟩ :=
  have q := e.cel i x c hx hc
  wpAny_Name (wpAny_loadName_cell e.kind q.1 q.2.1 (z.get j hj) k) q.2.2
theorem x_cst {x : Str} {v : Value} {c : Addr} {v₀ : Option Value} {Q : Unit → Shared → Prop} (e : EnvC env L names gl cn ca) (z : Z B L m n h) (i : Nat) (hx : cn[i]? = some x) (hc : ca[i]? = some c) (j : Nat) (hj : n[j]? = some (c, CellO v₀))
    (k : ∀ h', Z B L m (n.set j (c, CellO (some v))) h' → Heap.SameBut c h h' → Q () ⟨h', g, d, tk, os⟩) : wpAny (model prog w.w) A (storeName env x v) Q E ⟨h, g, d, tk, os⟩ :=
  have q := e.cel i x c hx hc
  wpAny_storeName_cell e.kind q.1 q.2.1 (z.get j hj) fun h' ⟨o, ho, hd⟩ hs => k h' (z.upd j hj hs ho hd) hs
end

theorem bindL_eq (kf : Str → Option NameKind) : ∀ (binds : List (Str × Value)) (m : Str → Option Value),
    bindL kf binds m = fun x => (((binds.filter fun b => kf b.1 == some .local).reverse).lookup x).or (m x) := by
  intro binds
  induction binds with
  | nil => intro m; rfl
  | cons b r ih =>
    obtain ⟨y, v⟩ := b
    intro m
    unfold bindL
    rw [ih]
    funext x
    by_cases hk : kf y = some .local
    · rw [if_pos hk]
      have : ((y, v) :: r).filter (fun b => kf b.1 == some .local) = (y, v) :: r.filter (fun b => kf b.1 == some .local) := by
        rw [List.filter_cons_of_pos (by simp [hk])]
      rw [this, List.reverse_cons, List.lookup_append]
      by_cases hx : x = y
      · subst hx
        cases List.lookup x (r.filter fun b => kf b.1 == some .local).reverse <;> simp
      · have hb : (x == y) = false := by simpa using hx
        have e2 : List.lookup x [(y, v)] = none := by rw [List.lookup_cons, hb]; rfl
        rw [e2, if_neg hx]
        cases List.lookup x (r.filter fun b => kf b.1 == some .local).reverse <;> simp
    · rw [if_neg hk]
      have : ((y, v) :: r).filter (fun b => kf b.1 == some .local) = r.filter (fun b => kf b.1 == some .local) := by
        rw [List.filter_cons_of_neg (by simp [hk])]
      rw [this]

/-- the cells of a frame, by their order -/
noncomputable def cellsAt (L : Addr) (cn : List Str) : List (Str × Addr) := (cn.zipIdx.map fun p => (p.1, L + p.2)).reverse
theorem lookup_cells {cn : List Str} (nd : cn.Nodup) (L : Addr) {i : Nat} {x : Str} (hx : cn[i]? = some x) : (cellsAt L cn).lookup x = some (L + i) := by
  unfold cellsAt
  have step : ∀ (l : List (Str × Addr)) (y : Str) (v : Addr), (l.map (·.1)).Nodup → (y, v) ∈ l → List.lookup y l = some v := by
    intro l
    induction l with
    | nil => intro y v _ h; cases h
    | cons p l ih =>
      obtain ⟨k, u⟩ := p
      intro y v hnd hm
      rw [List.map_cons, List.nodup_cons] at hnd
      rw [List.lookup_cons]
      rcases List.mem_cons.mp hm with e | hm
      · cases e; simp
      · have : (y == k) = false := by
          rw [beq_eq_false_iff_ne]
          intro e
          exact hnd.1 (List.mem_map.mpr ⟨(y, v), hm, e⟩)
        rw [this]
        exact ih y v hnd.2 hm
  refine step _ _ _ ?_ ?_
  · rw [List.map_reverse, List.map_map]
    have e : (cn.zipIdx.map ((fun x : Str × Addr => x.1) ∘ fun p => (p.1, L + p.2))) = cn := by
      have : ((fun x : Str × Addr => x.1) ∘ fun p : Str × Nat => (p.1, L + p.2)) = Prod.fst := rfl
      rw [this, List.zipIdx_map_fst]
    rw [e]
    exact (List.Perm.nodup_iff (List.reverse_perm _)).mpr nd
  · rw [List.mem_reverse]
    refine List.mem_map.mpr ⟨(x, i), ?_, rfl⟩
    rw [List.mem_zipIdx_iff_getElem?]
    exact hx

theorem nodup_add (k : Nat) {l : List Nat} (h : l.Nodup) : (l.map (k + ·)).Nodup := by
  unfold List.Nodup at h ⊢
  rw [List.pairwise_map]
  exact h.imp fun hne e => hne (by lia)

structure DefAtC (w : WK) (a : Addr) (fd : FuncData) (body : List Stmt) (ks rest gl cn : List Str) : Prop where
  look : ∃ c dd sl, (KK w).lookup a = some ⟨c, dd, .func fd, sl⟩
  code : codeIn (KK w) fd.code fd.qualname = true
  body : fd.body = .stmts body
  co : fd.scope.isCoroutine = false
  gen : fd.scope.isGenerator = false
  kind : fd.scope.kind = .function
  clo : fd.closure = []
  nd : (ks ++ rest).Nodup
  cnd : cn.Nodup
  loc : (ks ++ rest).all (fun x => fd.scope.names.lookup x == some .local && !(x == ("__debug__" : Str))) = true
  glo : gl.all (fun x => fd.scope.names.lookup x == some .globalImplicit && !(x == ("__debug__" : Str))) = true
  cel : cn.all (fun x => fd.scope.names.lookup x == some .cell && !(x == ("__debug__" : Str))) = true
  cells : ∀ k, cellsFrom k fd.scope.names [] = cellsAt k cn
  eg : fd.globals = mainGlobals
  eb : fd.builtins = builtinsNs

section
variable {prog : Program} {w : WK} {A : Around} {E : Value → Shared → Prop} {g : Array GenState} {d : Drawn} {os : OsState}
variable {h : Heap} {tk : Nat}
theorem x_callC {a : Addr} {fd : FuncData} {body : List Stmt} {ks rest gl cn : List Str} {args largs : List Value} {cvals : List (Option Value)} {binds : List (Str × Value)} {Q : Value → Shared → Prop} {N : Nat}
    (D : DefAtC w a fd body ks rest gl cn) (gw : G w h) (ag : AG (N + 1) A) (hb : bindArgs fd ⟨args, []⟩ = pure binds)
    (hk : (binds.all fun b => fd.scope.names.lookup b.1 == some .local || cn.contains b.1) = true)
    (hfl : (binds.filter fun b => fd.scope.names.lookup b.1 == some .local) = ks.zip largs) (hl : ks.length = largs.length)
    (hcv : cn.map (bindC (fun x => fd.scope.names.lookup x) binds fun _ => none) = cvals)
    (k : ∀ env L h₁ tk₁, EnvC env L (ks ++ rest) gl cn ((List.range cn.length).map (L + 1 + ·)) → env.frame = some L → AG N (A.deeper env) →
      Z (Sb h) L (fr (ks ++ rest) (largs.map some ++ rest.map fun _ => none)) (cvals.zipIdx.map fun p => (L + 1 + p.2, CellO p.1)) h₁ →
      wpAny (model prog w.w) (A.deeper env) (execs body env) (QF Q) (fun _ _ => False) ⟨h₁, g, d, tk₁, os⟩) :
    wpAny (model prog w.w) A (call (.ref a) args) Q E ⟨h, g, d, tk, os⟩ := by
  obtain ⟨c, dd, sl, hlk⟩ := D.look
  have ho := gw.K _ _ hlk
  have celOf : ∀ x ∈ cn, fd.scope.names.lookup x = some .cell ∧ (x == ("__debug__" : Str)) = false := fun x hx => by
    have := List.all_eq_true.mp D.cel x hx
    rw [Bool.and_eq_true, Bool.not_eq_true'] at this
    exact ⟨eq_of_beq this.1, this.2⟩
  refine wpAny_call (codeAny_call_function ag.room ho rfl D.co D.gen D.body (codeRec_of gw.K D.code) ?_)
  rw [hb]
  refine wpAny_pure ?_
  rw [D.clo]
  refine wpAny_newFunctionEnv_cells D.kind (fun x hx => ?_) fun env he s' x => ?_
  · have := List.all_eq_true.mp hk x hx
    rw [Bool.or_eq_true] at this
    rcases this with q | q
    · exact .inl (eq_of_beq q)
    · have hm : x.1 ∈ cn := by simpa using q
      refine .inr ⟨(celOf _ hm).1, ?_⟩
      rw [D.cells]
      obtain ⟨i, hi⟩ := List.mem_iff_getElem?.mp hm
      rw [lookup_cells D.cnd _ hi]; rfl
  · subst he
    refine ⟨gw.lim.keeps x.toInCall.keep, codeAny_func ?_⟩
    obtain ⟨h₁, tk₁, rfl, _⟩ := x.done
    have hk₁ : Keep h h₁ := x.toInCall.keep
    let env : Env := newEnv fd.scope h.objs.size fd.globals (cellsFrom (h.objs.size + 1) fd.scope.names []) (fd.qualname ++ ".<locals>.") (some a) fd.code none fd.builtins
    have ek : ∀ y, env.kindOf y = fd.scope.names.lookup y := fun y => rfl
    have hlocs : ∀ y ∈ ks ++ rest, env.kindOf y = some .local ∧ (y == ("__debug__" : Str)) = false := fun y hy => by
      have := List.all_eq_true.mp D.loc y hy
      rw [Bool.and_eq_true, Bool.not_eq_true'] at this
      exact ⟨eq_of_beq this.1, this.2⟩
    have hgls : ∀ y ∈ gl, env.kindOf y = some .globalImplicit ∧ (y == ("__debug__" : Str)) = false := fun y hy => by
      have := List.all_eq_true.mp D.glo y hy
      rw [Bool.and_eq_true, Bool.not_eq_true'] at this
      exact ⟨eq_of_beq this.1, this.2⟩
    have hlen : cvals.length = cn.length := by rw [← hcv, List.length_map]
    have eC : EnvC env h.objs.size (ks ++ rest) gl cn ((List.range cn.length).map (h.objs.size + 1 + ·)) :=
      { kind := D.kind, lc := rfl, nd := D.nd, loc := hlocs, glo := hgls, eg := D.eg, eb := D.eb,
        cel := fun i y cc hy hc => by
          have hm : y ∈ cn := List.mem_of_getElem? hy
          refine ⟨(celOf y hm).1, ?_, (celOf y hm).2⟩
          show List.lookup y (cellsFrom (h.objs.size + 1) fd.scope.names []) = _
          rw [D.cells, lookup_cells D.cnd _ hy]
          have hlt : i < cn.length := by
            rcases Nat.lt_or_ge i cn.length with q | q
            · exact q
            · rw [List.getElem?_eq_none q] at hy; cases hy
          rw [List.getElem?_map, List.getElem?_range hlt] at hc
          simpa using hc }
    refine wpAny_mono (k env h.objs.size h₁ tk₁ eC rfl (ag.deeper _) ?_) (fun _ _ q => q) (fun _ _ q => q.elim)
    have hm : bindL (env.kindOf) binds (fun _ => none) = fr (ks ++ rest) (largs.map some ++ rest.map fun _ => none) := by
      rw [← fr_binds ks rest largs D.nd hl, bindL_eq]
      funext y
      show Option.or (List.lookup y (binds.filter fun b => fd.scope.names.lookup b.1 == some .local).reverse) none = _
      rw [hfl]; simp
    have hcell : ∀ i v, cvals[i]? = some v → ∃ o, h₁.get? (h.objs.size + 1 + i) = some o ∧ CellO v o := fun i v hv => by
      have hlt : i < cn.length := by
        rcases Nat.lt_or_ge i cvals.length with q | q
        · rw [← hlen]; exact q
        · rw [List.getElem?_eq_none q] at hv; cases hv
      have hx : cn[i]? = some cn[i] := List.getElem?_eq_getElem hlt
      have := x.cell cn[i] (h.objs.size + 1 + i) (by
        show List.lookup cn[i] (cellsFrom (h.objs.size + 1) fd.scope.names []) = _
        rw [D.cells, lookup_cells D.cnd _ hx])
      obtain ⟨o, ho, hd⟩ := this
      refine ⟨o, ho, ?_⟩
      have e1 : cvals[i]? = some (bindC (fun x => fd.scope.names.lookup x) binds (fun _ => none) cn[i]) := by
        rw [← hcv, List.getElem?_map, hx]; rfl
      rw [hv] at e1
      injection e1 with e1
      rw [e1]; exact hd
    refine ⟨by rw [← hm]; exact x.toInCall.ns, fun b o q => hk₁ b o q, (fun o q => by unfold Sb at q; rw [get_size] at q; cases q), fun p hp => ?_, fun p hp => ?_, ?_⟩
    · obtain ⟨q, hq, rfl⟩ := List.mem_map.mp hp
      exact hcell q.2 q.1 (List.mem_zipIdx_iff_getElem?.mp hq)
    · obtain ⟨q, hq, rfl⟩ := List.mem_map.mp hp
      refine ⟨by show h.objs.size + 1 + q.2 ≠ h.objs.size; lia, fun o e => ?_⟩
      have := Heap.lt_size e
      show False
      have : h.objs.size + 1 + q.2 < h.objs.size := this
      lia
    · rw [List.map_map]
      have e : (cvals.zipIdx.map ((fun x : Addr × (Obj → Prop) => x.1) ∘ fun p => (h.objs.size + 1 + p.2, CellO p.1))) = (cvals.zipIdx.map Prod.snd).map (h.objs.size + 1 + ·) := by
        rw [List.map_map]; rfl
      rw [e, List.zipIdx_map_snd]
      refine nodup_add _ ?_
      rw [← List.range_eq_range']; exact List.nodup_range
end
end Mine
namespace Mine
section
variable {B : Addr → Obj → Prop} {L : Addr} {m : Str → Option Value} {n : List (Addr × (Obj → Prop))} {h h' : Heap}
/-- a thing of the ledger is turned, the heap grows beside -/
theorem Z.updE (z : Z B L m n h) (i : Nat) {a : Addr} {P P' : Obj → Prop} (hi : n[i]? = some (a, P)) (hs : Heap.ExtBut a h h') {o' : Obj} (ho : h'.get? a = some o') (hP : P' o') :
    Z B L m (n.set i (a, P')) h' := by
  have hm : (a, P) ∈ n := List.mem_of_getElem? hi
  have off := z.off _ hm
  have hlt : i < n.length := by
    rcases Nat.lt_or_ge i n.length with h1 | h1
    · exact h1
    · rw [List.getElem?_eq_none h1] at hi; cases hi
  have hmap : (n.set i (a, P')).map (·.1) = n.map (·.1) := by
    apply List.ext_getElem?
    intro j
    simp only [List.getElem?_map, List.getElem?_set]
    by_cases hj : i = j
    · subst hj
      have e := congrArg (Option.map (·.1)) hi
      simp only [if_true, if_pos hlt]
      exact e.symm
    · simp [hj]
  refine ⟨z.ns.extBut hs (Ne.symm off.1), fun b o e => hs b o (fun q => off.2 o (q ▸ e)) (z.keep b o e), z.apart, fun p hp => ?_, fun p hp => ?_, by rw [hmap]; exact z.nd⟩
  · obtain ⟨j, hj⟩ := List.mem_iff_getElem?.mp hp
    rw [List.getElem?_set] at hj
    by_cases hij : i = j
    · subst hij
      simp [hlt] at hj
      subst hj
      exact ⟨o', ho, hP⟩
    · simp [hij] at hj
      have hpm : p ∈ n := List.mem_of_getElem? hj
      obtain ⟨o, e, q⟩ := z.led p hpm
      refine ⟨o, hs p.1 o (fun hpa => ?_) e, q⟩
      have h1 : (n.map (·.1))[i]? = some a := by rw [List.getElem?_map, hi]; rfl
      have h2 : (n.map (·.1))[j]? = some a := by rw [List.getElem?_map, hj]; exact congrArg some hpa
      exact hij ((List.getElem?_inj (by simpa using hlt) z.nd).mp (h1.trans h2.symm))
  · obtain ⟨j, hj⟩ := List.mem_iff_getElem?.mp hp
    rw [List.getElem?_set] at hj
    by_cases hij : i = j
    · subst hij
      simp [hlt] at hj
      subst hj
      exact off
    · simp [hij] at hj
      exact z.off p (List.mem_of_getElem? hj)
/-- the ledger of an inner frame goes over to the outer one -/
theorem Z.merge {C : Addr} {m' : Str → Option Value} {n' : List (Addr × (Obj → Prop))} (z : Z B L m n h) (z' : Z (Sb h) C m' n' h') : Z B L m (n' ++ n) h' := by
  have k : Keep h h' := fun b o e => z'.keep b o e
  have z1 := z.keepAll k
  have fresh : ∀ p ∈ n', h.get? p.1 = none := fun p hp => by
    cases e : h.get? p.1 with
    | none => rfl
    | some o => exact absurd e ((z'.off p hp).2 o)
  refine ⟨z1.ns, z1.keep, z1.apart, fun p hp => ?_, fun p hp => ?_, ?_⟩
  · rcases List.mem_append.mp hp with hp | hp
    · exact z'.led p hp
    · exact z1.led p hp
  · rcases List.mem_append.mp hp with hp | hp
    · have f := z.fresh (fresh p hp)
      exact ⟨f.1, f.2.1⟩
    · exact z1.off p hp
  · rw [List.map_append, List.nodup_append]
    refine ⟨z'.nd, z.nd, fun a ha b hb e => ?_⟩
    subst e
    obtain ⟨p, hp, rfl⟩ := List.mem_map.mp ha
    exact (z.fresh (fresh p hp)).2.2 hb
noncomputable def NsO (m : Str → Option Value) : Obj → Prop := fun o => ∃ es ep, o.data = .dict es ep ∧ StrKeys es ∧ ∀ name, nsFind es name = m name
/-- with the inner frame's own dict -/
theorem Z.mergeC {C : Addr} {m' : Str → Option Value} {n' : List (Addr × (Obj → Prop))} (z : Z B L m n h) (z' : Z (Sb h) C m' n' h') : Z B L m ((C, NsO m') :: (n' ++ n)) h' := by
  have z1 := z.merge z'
  have hC : h.get? C = none := by
    cases e : h.get? C with
    | none => rfl
    | some o => exact absurd e (z'.apart o)
  have f := z.fresh hC
  obtain ⟨o, es, ep, ho, hd, hk, hm⟩ := z'.ns
  refine ⟨z1.ns, z1.keep, z1.apart, fun p hp => ?_, fun p hp => ?_, ?_⟩
  · rcases List.mem_cons.mp hp with rfl | hp
    · exact ⟨o, ho, es, ep, hd, hk, hm⟩
    · exact z1.led p hp
  · rcases List.mem_cons.mp hp with rfl | hp
    · exact ⟨f.1, f.2.1⟩
    · exact z1.off p hp
  · rw [List.map_cons, List.nodup_cons]
    refine ⟨fun hm => ?_, z1.nd⟩
    rw [List.map_append] at hm
    rcases List.mem_append.mp hm with hm | hm
    · obtain ⟨p, hp, e⟩ := List.mem_map.mp hm
      exact (z'.off p hp).1 e
    · exact f.2.2 hm
end

/-- a walker: what it is before item i, what it hands on -/
structure Iter (prog : Program) (w : WK) (A : Around) (I : Addr) (It : Nat → Obj → Prop) (cnt : Nat) (item : Nat → Value → Prop) (ok : Heap → Prop) : Prop where
  next : ∀ (i : Nat) (s : Shared) (Q : Option Value → Shared → Prop) (E : Value → Shared → Prop), i < cnt → (∃ o, s.heap.get? I = some o ∧ It i o) → ok s.heap →
    (∀ v h' tk', item i v → Heap.ExtBut I s.heap h' → (∃ o, h'.get? I = some o ∧ It (i + 1) o) → Q (some v) ⟨h', s.gens, s.drawn, tk', s.os⟩) → wpAny (model prog w.w) A (pyNext (.ref I)) Q E s
  stop : ∀ (s : Shared) (Q : Option Value → Shared → Prop) (E : Value → Shared → Prop), (∃ o, s.heap.get? I = some o ∧ It cnt o) → ok s.heap →
    (∀ h' tk', Heap.ExtBut I s.heap h' → Q none ⟨h', s.gens, s.drawn, tk', s.os⟩) → wpAny (model prog w.w) A (pyNext (.ref I)) Q E s
  again : ∀ (s : Shared) (Q : Value → Shared → Prop) (E : Value → Shared → Prop), (∃ o, s.heap.get? I = some o ∧ It 0 o) → Q (.ref I) s → wpAny (model prog w.w) A (pyIter (.ref I)) Q E s

noncomputable def ListIt (ax : Addr) (i : Nat) : Obj → Prop := fun o => o.cls = .type "list_iterator" ∧ o.data = .fields #[.ref ax, .int i 0]
theorem iter_list {prog : Program} {w : WK} {A : Around} (hh : A.handled = none) (I ax : Addr) (vs : List Value) :
    Iter prog w A I (ListIt ax) vs.length (fun i v => vs[i]? = some v) (fun h => h.IsList ax vs.toArray) where
  next := fun i s Q E hi ⟨o, ho, hc, hd⟩ hl k => by
    refine wpAny_pyNext_list_item (it := I) (l := ax) (i := i) (x := vs[i]) ⟨o, ho, hc, hd⟩ hl (by simp [hi]) fun h' hit hs => ?_
    obtain ⟨o', ho', hc', hd'⟩ := hit
    exact k _ h' _ (by simp [hi]) hs.extBut ⟨o', ho', hc', hd'⟩
  stop := fun s Q E ⟨o, ho, hc, hd⟩ hl k => wpAny_pyNext_list_end hh (it := I) (l := ax) (i := vs.length) ⟨o, ho, hc, hd⟩ hl (by simp) fun h' hs => k h' _ hs
  again := fun s Q E ⟨o, ho, hc, hd⟩ k => wpAny_pyIter_listiter (it := I) (l := ax) (i := 0) ⟨o, ho, hc, hd⟩ k
noncomputable def RangeIt (a : Int) (cnt : Nat) (i : Nat) : Obj → Prop := fun o => o = { cls := .type "range_iterator", dict := none, data := .fields #[rawInt (a + i), rawInt ((cnt : Int) - i), rawInt 1], slots := #[] }
theorem iter_range {prog : Program} {w : WK} {A : Around} (hh : A.handled = none) (I : Addr) (a : Int) (cnt : Nat) :
    Iter prog w A I (RangeIt a cnt) cnt (fun i v => ∃ t, v = .int (a + i) t) (fun _ => True) where
  next := fun i s Q E hi ⟨o, ho, hd⟩ _ k => by
    have hit : IsRangeIter s.heap I (a + i) ((cnt : Int) - i) 1 := by rw [IsRangeIter, ho, hd]
    refine wpAny_pyNext_range_item hit (by lia) fun h' hit' hs => ?_
    refine k _ h' _ ⟨_, rfl⟩ hs.extBut ⟨_, hit', ?_⟩
    unfold RangeIt
    have e1 : a + (i : Int) + 1 = a + ((i + 1 : Nat) : Int) := by lia
    have e2 : (cnt : Int) - i - 1 = (cnt : Int) - ((i + 1 : Nat) : Int) := by lia
    rw [e1, e2]
  stop := fun s Q E ⟨o, ho, hd⟩ _ k => by
    have hit : IsRangeIter s.heap I (a + cnt) ((cnt : Int) - cnt) 1 := by rw [IsRangeIter, ho, hd]
    exact wpAny_pyNext_range_end hh hit (by lia) fun h' hs => k h' _ hs
  again := fun s Q E ⟨o, ho, hd⟩ k => wpAny_pyIter_rangeiter (x := a + ((0 : Nat) : Int)) (left := (cnt : Int) - ((0 : Nat) : Int)) (step := 1) (by rw [IsRangeIter, ho, hd]) k

section
variable {prog : Program} {w : WK} {A : Around} {E : Value → Shared → Prop} {env : Env} {d : Drawn} {os : OsState}
variable {B : Addr → Obj → Prop} {L : Addr} {names gl : List Str}

/-- a state behind a turn -/
inductive PSt {σ : Type} (Bf : σ → Addr → Obj → Prop) (L : Addr) (names : List Str) (d : Drawn) (os : OsState) (J : σ → Prop) (vals : σ → List (Option Value)) (led : σ → Led) (gs : σ → Array GenState) (s' : Shared) : Prop
  | mk (st : σ) (h' : Heap) (tk' : Nat) (e : s' = ⟨h', gs st, d, tk', os⟩) (j : J st) (z : Z (Bf st) L (fr names (vals st)) (led st) h')
/-- a state ahead of turn i -/
inductive PLp {σ : Type} (Bf : σ → Addr → Obj → Prop) (L : Addr) (names : List Str) (d : Drawn) (os : OsState) (cnt : Nat) (J : Nat → σ → Prop) (vals : Nat → σ → List (Option Value)) (led : Nat → σ → Led) (gs : Nat → σ → Array GenState) (k : Nat) (s' : Shared) : Prop
  | mk (i : Nat) (st : σ) (h' : Heap) (tk' : Nat) (e : s' = ⟨h', gs i st, d, tk', os⟩) (hi : i ≤ cnt) (hk : k = cnt - i) (j : J i st) (z : Z (Bf st) L (fr names (vals i st)) (led i st) h')
theorem PSt.lp {σ : Type} {Bf : σ → Addr → Obj → Prop} {L : Addr} {names : List Str} {d : Drawn} {os : OsState} {cnt i : Nat} {J : Nat → σ → Prop} {vals : Nat → σ → List (Option Value)} {led : Nat → σ → Led} {gs : Nat → σ → Array GenState} {s' : Shared}
    (x : PSt Bf L names d os (J (i + 1)) (vals (i + 1)) (led (i + 1)) (gs (i + 1)) s') (hi : i < cnt) : ∃ m, m < cnt - i ∧ PLp Bf L names d os cnt J vals led gs m s' :=
  let ⟨st, h', tk', e, j, z⟩ := x; ⟨cnt - (i + 1), Nat.sub_lt_sub_left hi (Nat.lt_succ_self i), i + 1, st, h', tk', e, hi, rfl, j, z⟩
/-- what a turn of a loop leaves; what stays may grow -/
noncomputable def TurnB {σ : Type} (Bf : σ → Addr → Obj → Prop) (L : Addr) (names : List Str) (d : Drawn) (os : OsState) (J : σ → Prop) (vals : σ → List (Option Value)) (led : σ → Led) (gs : σ → Array GenState) (I : Addr) (P : Obj → Prop)
    (Rb : Shared → Prop) (Rr : Value → Shared → Prop) (f : Flow) (s' : Shared) : Prop :=
  match f with
  | .brk => Rb s'
  | .ret v => Rr v s'
  | _ => PSt Bf L names d os J vals (fun st => (I, P) :: led st) gs s'
theorem Z.perm {B : Addr → Obj → Prop} {L : Addr} {m : Str → Option Value} {n n' : Led} {h : Heap} (z : Z B L m n h) (pm : n'.Perm n) : Z B L m n' h :=
  ⟨z.ns, z.keep, z.apart, fun p hp => z.led p (pm.mem_iff.mp hp), fun p hp => z.off p (pm.mem_iff.mp hp), ((pm.map (·.1)).nodup_iff).mpr z.nd⟩
theorem Z.dropIt {B : Addr → Obj → Prop} {L I : Addr} {m : Str → Option Value} {P : Obj → Prop} {n : List (Addr × (Obj → Prop))} {h h' : Heap} (z : Z B L m ((I, P) :: n) h) (hs : Heap.ExtBut I h h') : Z B L m n h' := by
  have off := z.off _ (List.mem_cons_self (a := (I, P)))
  have nd := z.nd
  rw [List.map_cons, List.nodup_cons] at nd
  exact ⟨z.ns.extBut hs (Ne.symm off.1), fun b o q => hs b o (fun c => off.2 o (c ▸ q)) (z.keep b o q), z.apart,
    fun p hp => let ⟨o, q, r⟩ := z.led p (List.mem_cons_of_mem _ hp); ⟨o, hs p.1 o (fun c => nd.1 (List.mem_map.mpr ⟨p, hp, c⟩)) q, r⟩,
    fun p hp => z.off p (List.mem_cons_of_mem _ hp), nd.2⟩
/-- the target is stored, then the body -/
noncomputable def QBd (M : Model) (A : Around) (env : Env) (body : List Stmt) (Q : Flow → Shared → Prop) (_ : Unit) (s : Shared) : Prop := wpAny M A (execs body env) Q (fun _ _ => False) s
theorem x_forB {R : Result → Shared → Prop} {target : Expr} {body : List Stmt} {I : Addr} {It : Nat → Obj → Prop} {cnt : Nat} {item : Nat → Value → Prop} {ok : Heap → Prop} {h₀ : Heap} {tk₀ : Nat} {σ : Type}
    (Bf : σ → Addr → Obj → Prop) (it : Iter prog w A I It cnt item ok)
    (J : Nat → σ → Prop) (vals : Nat → σ → List (Option Value)) (led : Nat → σ → List (Addr × (Obj → Prop))) (gs : Nat → σ → Array GenState) (st₀ : σ)
    (j0 : J 0 st₀) (z0 : Z (Bf st₀) L (fr names (vals 0 st₀)) ((I, It 0) :: led 0 st₀) h₀)
    (hok : ∀ i st h, J i st → Z (Bf st) L (fr names (vals i st)) ((I, It i) :: led i st) h → ok h)
    (turn : ∀ i st v h tk, i < cnt → item i v → J i st → Z (Bf st) L (fr names (vals i st)) ((I, It (i + 1)) :: led i st) h →
      wpAny (model prog w.w) A (assign target env v) (QBd (model prog w.w) A env body (TurnB Bf L names d os (J (i + 1)) (vals (i + 1)) (led (i + 1)) (gs (i + 1)) I (It (i + 1)) (R (.ok .next)) (fun v => R (.ok (.ret v))))) (fun _ _ => False) ⟨h, gs i st, d, tk, os⟩)
    (done : ∀ st h tk, J cnt st → Z (Bf st) L (fr names (vals cnt st)) (led cnt st) h → R (.ok .next) ⟨h, gs cnt st, d, tk, os⟩)
    (hlo : ∀ v, letOwnedTupleGo target (.ref I) v = pure () := by intro _; rfl) :
    codeAny (model prog w.w) A (.forLoop target (.ref I) body [] env) R ⟨h₀, gs 0 st₀, d, tk₀, os⟩ := by
  refine codeAny_forLoop (PLp Bf L names d os cnt J vals (fun i st => (I, It i) :: led i st) gs) ?_ cnt
    ⟨0, st₀, h₀, tk₀, rfl, Nat.zero_le _, rfl, j0, z0⟩ hlo
  intro k s' q
  obtain ⟨i, st, h, tk, rfl, hi, rfl, hJ, z⟩ := q
  have hI := z.get 0 rfl
  have hokh := hok i st h hJ z
  by_cases hlt : i < cnt
  · refine it.next i _ _ _ hlt hI hokh fun v h' tk' hv hs hI' => ?_
    have z1 := z.updE 0 rfl hs hI'.choose_spec.1 hI'.choose_spec.2
    refine wpAny_mono (turn i st v h' tk' hlt hv hJ z1) (fun _ s₁ q1 => wpAny_mono q1 (fun f s₃ q => ?_) (fun _ _ q => q.elim)) (fun _ _ q => q.elim)
    cases f with
    | next => exact PSt.lp q hlt
    | cont => exact PSt.lp q hlt
    | brk => exact q
    | ret v => exact q
  · obtain rfl : i = cnt := Nat.le_antisymm hi (Nat.not_lt.mp hlt)
    exact it.stop _ _ _ hI hokh fun h' tk' hs => wpAny_execs_nil (done st h' tk' hJ (z.dropIt hs))
/-- the loop, its target any -/
theorem x_forG {R : Result → Shared → Prop} {target : Expr} {body : List Stmt} {I : Addr} {It : Nat → Obj → Prop} {cnt : Nat} {item : Nat → Value → Prop} {ok : Heap → Prop} {h₀ : Heap} {tk₀ : Nat} {σ : Type}
    (it : Iter prog w A I It cnt item ok)
    (J : Nat → σ → Prop) (vals : Nat → σ → List (Option Value)) (led : Nat → σ → List (Addr × (Obj → Prop))) (gs : Nat → σ → Array GenState) (st₀ : σ)
    (j0 : J 0 st₀) (z0 : Z B L (fr names (vals 0 st₀)) ((I, It 0) :: led 0 st₀) h₀)
    (hok : ∀ i st h, J i st → Z B L (fr names (vals i st)) ((I, It i) :: led i st) h → ok h)
    (turn : ∀ i st v h tk, i < cnt → item i v → J i st → Z B L (fr names (vals i st)) ((I, It (i + 1)) :: led i st) h →
      wpAny (model prog w.w) A (assign target env v) (QBd (model prog w.w) A env body (TurnB (fun _ => B) L names d os (J (i + 1)) (vals (i + 1)) (led (i + 1)) (gs (i + 1)) I (It (i + 1)) (R (.ok .next)) (fun v => R (.ok (.ret v))))) (fun _ _ => False) ⟨h, gs i st, d, tk, os⟩)
    (done : ∀ st h tk, J cnt st → Z B L (fr names (vals cnt st)) (led cnt st) h → R (.ok .next) ⟨h, gs cnt st, d, tk, os⟩)
    (hlo : ∀ v, letOwnedTupleGo target (.ref I) v = pure () := by intro _; rfl) :
    codeAny (model prog w.w) A (.forLoop target (.ref I) body [] env) R ⟨h₀, gs 0 st₀, d, tk₀, os⟩ :=
  x_forB (fun _ => B) it J vals led gs st₀ j0 z0 hok turn done hlo
end
end Mine
namespace Mine
/-- a ledger without a frame -/
structure ZN (B : Addr → Obj → Prop) (n : List (Addr × (Obj → Prop))) (h : Heap) : Prop where
  keep : ∀ b o, B b o → h.get? b = some o
  led : ∀ p ∈ n, ∃ o, h.get? p.1 = some o ∧ p.2 o
  off : ∀ p ∈ n, ∀ o, ¬ B p.1 o
  nd : (n.map (·.1)).Nodup
section
variable {B : Addr → Obj → Prop} {L : Addr} {m : Str → Option Value} {n : List (Addr × (Obj → Prop))} {h h' : Heap}
theorem Z.toN (z : Z B L m n h) : ZN B n h := ⟨z.keep, z.led, fun p hp => (z.off p hp).2, z.nd⟩
theorem Z.toN_same (z : Z B L m n h) (hs : Heap.SameBut L h h') : ZN B n h' :=
  ⟨fun b o e => (hs.2 b fun q => z.apart o (q ▸ e)).trans (z.keep b o e), fun p hp => let ⟨o, e, q⟩ := z.led p hp; ⟨o, (hs.2 _ (z.off p hp).1).trans e, q⟩, fun p hp => (z.off p hp).2, z.nd⟩
theorem ZN.sub {n' : List (Addr × (Obj → Prop))} (z : ZN B n h) (s : n'.Sublist n) : ZN B n' h :=
  ⟨z.keep, fun p hp => z.led p (s.subset hp), fun p hp => z.off p (s.subset hp), (s.map (·.1)).nodup z.nd⟩
theorem Z.mergeN {n' : List (Addr × (Obj → Prop))} (z : Z B L m n h) (z' : ZN (Sb h) n' h') : Z B L m (n' ++ n) h' := by
  have k : Keep h h' := fun b o e => z'.keep b o e
  have z1 := z.keepAll k
  have fresh : ∀ p ∈ n', h.get? p.1 = none := fun p hp => by
    cases e : h.get? p.1 with
    | none => rfl
    | some o => exact absurd e (z'.off p hp o)
  refine ⟨z1.ns, z1.keep, z1.apart, fun p hp => ?_, fun p hp => ?_, ?_⟩
  · rcases List.mem_append.mp hp with hp | hp
    · exact z'.led p hp
    · exact z1.led p hp
  · rcases List.mem_append.mp hp with hp | hp
    · have f := z.fresh (fresh p hp)
      exact ⟨f.1, f.2.1⟩
    · exact z1.off p hp
  · rw [List.map_append, List.nodup_append]
    refine ⟨z'.nd, z.nd, fun a ha b hb e => ?_⟩
    subst e
    obtain ⟨p, hp, rfl⟩ := List.mem_map.mp ha
    exact (z.fresh (fresh p hp)).2.2 hb
end

/-- the tests of a comprehension -/
noncomputable abbrev tests (ifs : List Expr) (env : Env) : Sem Bool := forIn ifs true fun c r => if r = true then do let ok ← isTrue c env (eval c env); pure (ForInStep.yield ok) else pure (ForInStep.yield r)
theorem tests_nil {M : Model} {A : Around} {env : Env} {s : Shared} {Q : Bool → Shared → Prop} {E : Value → Shared → Prop} (k : Q true s) : wpAny M A (tests [] env) Q E s := by
  unfold tests; rw [List.forIn_nil]; exact wpAny_pure k
theorem tests_one {M : Model} {A : Around} {env : Env} {s : Shared} {c : Expr} {Q : Bool → Shared → Prop} {E : Value → Shared → Prop} (k : wpAny M A (isTrue c env (eval c env)) Q E s) : wpAny M A (tests [c] env) Q E s := by
  unfold tests
  rw [List.forIn_cons]
  simp only [if_true]
  refine wpAny_bind (wpAny_bind (wpAny_mono k (fun b s' q => wpAny_pure ?_) fun _ _ e => e))
  show wpAny M A (forIn [] b _) Q E s'
  rw [List.forIn_nil]; exact wpAny_pure q

section
variable {prog : Program} {w : WK} {A : Around} {E : Value → Shared → Prop} {env cenv : Env} {d : Drawn} {os : OsState}
variable {B : Addr → Obj → Prop} {L C D I : Addr} {names gl : List Str}

/-- a state behind a turn of a comprehension -/
inductive PCy {σ : Type} (Bf : σ → Addr → Obj → Prop) (C : Addr) (names : List Str) (d : Drawn) (os : OsState) (J : σ → Prop) (vals : σ → List (Option Value)) (acc : σ → List Value) (led : σ → Led) (gs : σ → Array GenState) (D : Addr) (ac0 : List Value) (I : Addr) (P : Obj → Prop) (ac : List Value) (s' : Shared) : Prop
  | mk (st' : σ) (h' : Heap) (tk' : Nat) (e : s' = ⟨h', gs st', d, tk', os⟩) (j : J st') (ea : acc st' = ac) (z : Z (Bf st') C (fr names (vals st')) ((D, LstO ac0) :: (I, P) :: led st') h')
/-- the tests, then the element -/
noncomputable def QTe (M : Model) (A : Around) (env : Env) (elt : Expr) (P : Value → Shared → Prop) (Pn : Shared → Prop) (ok : Bool) (s : Shared) : Prop := if ok = true then wpAny M A (eval elt env) P (fun _ _ => False) s else Pn s
noncomputable def QTs (M : Model) (A : Around) (env : Env) (ifs : List Expr) (P : Bool → Shared → Prop) (_ : Unit) (s : Shared) : Prop := wpAny M A (tests ifs env) P (fun _ _ => False) s
theorem x_comploopB {R : Result → Shared → Prop} {elt iter target : Expr} {ifs : List Expr} {scope : Scope} {pos : Pos} {It : Nat → Obj → Prop} {cnt : Nat} {item : Nat → Value → Prop} {ok : Heap → Prop} {h₀ : Heap} {tk₀ : Nat} {σ : Type}
    (Bf : σ → Addr → Obj → Prop) (it : Iter prog w A I It cnt item ok)
    (J : Nat → σ → Prop) (vals : Nat → σ → List (Option Value)) (acc : Nat → σ → List Value) (led : Nat → σ → List (Addr × (Obj → Prop))) (gs : Nat → σ → Array GenState) (st₀ : σ)
    (j0 : J 0 st₀) (z0 : Z (Bf st₀) C (fr names (vals 0 st₀)) ((D, LstO (acc 0 st₀)) :: (I, It 0) :: led 0 st₀) h₀)
    (hok : ∀ i st h, J i st → Z (Bf st) C (fr names (vals i st)) ((D, LstO (acc i st)) :: (I, It i) :: led i st) h → ok h)
    (hal : ∀ i st, J i st → (acc i st).length ≤ 100000)
    (turn : ∀ i st v h tk, i < cnt → item i v → J i st → Z (Bf st) C (fr names (vals i st)) ((D, LstO (acc i st)) :: (I, It (i + 1)) :: led i st) h →
      wpAny (model prog w.w) A (assign target cenv v) (QTs (model prog w.w) A cenv ifs (QTe (model prog w.w) A cenv elt
        (fun y => PCy Bf C names d os (J (i + 1)) (vals (i + 1)) (acc (i + 1)) (led (i + 1)) (gs (i + 1)) D (acc i st) I (It (i + 1)) (acc i st ++ [y]))
        (PCy Bf C names d os (J (i + 1)) (vals (i + 1)) (acc (i + 1)) (led (i + 1)) (gs (i + 1)) D (acc i st) I (It (i + 1)) (acc i st)))) (fun _ _ => False) ⟨h, gs i st, d, tk, os⟩)
    (done : ∀ st h tk, J cnt st → Z (Bf st) C (fr names (vals cnt st)) ((D, LstO (acc cnt st)) :: led cnt st) h → R (.ok .next) ⟨h, gs cnt st, d, tk, os⟩)
    (hlo : ∀ v, letOwnedTupleGo target (.ref I) v = pure () := by intro _; rfl) :
    codeAny (model prog w.w) A (.compLoop (.ListComp elt [⟨target, iter, ifs, 0⟩] scope pos) 0 (.ref I) (.ref D) cenv) R ⟨h₀, gs 0 st₀, d, tk₀, os⟩ := by
  refine codeAny_compLoop_tests (PLp Bf C names d os cnt J vals (fun i st => (D, LstO (acc i st)) :: (I, It i) :: led i st) gs) ?_ cnt
    ⟨0, st₀, h₀, tk₀, rfl, Nat.zero_le _, rfl, j0, z0⟩ hlo
  intro k s' q
  obtain ⟨i, st, h, tk, rfl, hi, rfl, hJ, z⟩ := q
  have hI := z.get 1 rfl
  have hokh := hok i st h hJ z
  by_cases hlt : i < cnt
  · have hlt' : cnt - (i + 1) < cnt - i := Nat.sub_lt_sub_left hlt (Nat.lt_succ_self i)
    refine it.next i _ _ _ hlt hI hokh fun v h' tk' hv hs hI' => ?_
    have z1 := z.updE 1 rfl hs hI'.choose_spec.1 hI'.choose_spec.2
    refine wpAny_mono (turn i st v h' tk' hlt hv hJ z1) (fun _ s₁ q1 => wpAny_mono q1 (fun ok s₂ q2 => ?_) (fun _ _ q => q.elim)) (fun _ _ q => q.elim)
    cases ok with
    | true =>
      refine wpAny_mono (show wpAny _ _ (eval elt cenv) _ _ _ from q2) (fun y s₃ q3 => ?_) (fun _ _ q => q.elim)
      obtain ⟨st', h₃, tk₃, rfl, j', ea, z3⟩ := q3
      refine wpAny_list_append_plain (hsz := by rw [List.size_toArray, sizeLine_eq]; have := hal i st hJ; lia) (Lst.plain (z3.get 0 rfl)) fun h₄ hl₄ hs₄ => ?_
      obtain ⟨nn, e4⟩ := hl₄
      exact ⟨cnt - (i + 1), hlt', i + 1, st', h₄, tk₃, rfl, hlt, rfl, j', z3.upd 0 rfl hs₄ e4 ⟨nn, by rw [ea]; simp⟩⟩
    | false =>
      obtain ⟨st', h₃, tk₃, rfl, j', ea, z3⟩ := q2
      exact ⟨cnt - (i + 1), hlt', i + 1, st', h₃, tk₃, rfl, hlt, rfl, j', by rw [ea]; exact z3⟩
  · obtain rfl : i = cnt := Nat.le_antisymm hi (Nat.not_lt.mp hlt)
    exact it.stop _ _ _ hI hokh fun h' tk' hs => done st h' tk' hJ ((z.perm (List.Perm.swap ..)).dropIt hs)
theorem x_comploop {R : Result → Shared → Prop} {elt iter target : Expr} {ifs : List Expr} {scope : Scope} {pos : Pos} {It : Nat → Obj → Prop} {cnt : Nat} {item : Nat → Value → Prop} {ok : Heap → Prop} {h₀ : Heap} {tk₀ : Nat} {σ : Type}
    (it : Iter prog w A I It cnt item ok)
    (J : Nat → σ → Prop) (vals : Nat → σ → List (Option Value)) (acc : Nat → σ → List Value) (led : Nat → σ → List (Addr × (Obj → Prop))) (gs : Nat → σ → Array GenState) (st₀ : σ)
    (j0 : J 0 st₀) (z0 : Z B C (fr names (vals 0 st₀)) ((D, LstO (acc 0 st₀)) :: (I, It 0) :: led 0 st₀) h₀)
    (hok : ∀ i st h, J i st → Z B C (fr names (vals i st)) ((D, LstO (acc i st)) :: (I, It i) :: led i st) h → ok h)
    (hal : ∀ i st, J i st → (acc i st).length ≤ 100000)
    (turn : ∀ i st v h tk, i < cnt → item i v → J i st → Z B C (fr names (vals i st)) ((D, LstO (acc i st)) :: (I, It (i + 1)) :: led i st) h →
      wpAny (model prog w.w) A (assign target cenv v) (QTs (model prog w.w) A cenv ifs (QTe (model prog w.w) A cenv elt
        (fun y => PCy (fun _ => B) C names d os (J (i + 1)) (vals (i + 1)) (acc (i + 1)) (led (i + 1)) (gs (i + 1)) D (acc i st) I (It (i + 1)) (acc i st ++ [y]))
        (PCy (fun _ => B) C names d os (J (i + 1)) (vals (i + 1)) (acc (i + 1)) (led (i + 1)) (gs (i + 1)) D (acc i st) I (It (i + 1)) (acc i st)))) (fun _ _ => False) ⟨h, gs i st, d, tk, os⟩)
    (done : ∀ st h tk, J cnt st → Z B C (fr names (vals cnt st)) ((D, LstO (acc cnt st)) :: led cnt st) h → R (.ok .next) ⟨h, gs cnt st, d, tk, os⟩)
    (hlo : ∀ v, letOwnedTupleGo target (.ref I) v = pure () := by intro _; rfl) :
    codeAny (model prog w.w) A (.compLoop (.ListComp elt [⟨target, iter, ifs, 0⟩] scope pos) 0 (.ref I) (.ref D) cenv) R ⟨h₀, gs 0 st₀, d, tk₀, os⟩ :=
  x_comploopB (fun _ => B) it J vals acc led gs st₀ j0 z0 hok hal turn done hlo

/-- the walker of a comprehension -/
inductive PIt (prog : Program) (w : WK) (A : Around) (d : Drawn) (os : OsState) (h₁ : Heap) (g₁ : Array GenState) (R : Addr → (Nat → Obj → Prop) → Nat → (Nat → Value → Prop) → (Heap → Prop) → Prop) (itv : Value) (s₂ : Shared) : Prop
  | mk (I : Addr) (h₂ : Heap) (tk₂ : Nat) (It : Nat → Obj → Prop) (cnt : Nat) (item : Nat → Value → Prop) (ok : Heap → Prop) (e1 : itv = .ref I) (e2 : s₂ = ⟨h₂, g₁, d, tk₂, os⟩) (kp : Keep h₁ h₂) (hn : h₁.get? I = none) (hi : ∃ o, h₂.get? I = some o ∧ It 0 o)
      (it : Iter prog w A I It cnt item ok) (r : R I It cnt item ok)
/-- its source -/
inductive PSrc (M : Model) (A : Around) (E : Value → Shared → Prop) (d : Drawn) (os : OsState) (P : Heap → Array GenState → Value → Shared → Prop) (xv : Value) (s₁ : Shared) : Prop
  | mk (h₁ : Heap) (tk₁ : Nat) (g₁ : Array GenState) (e : s₁ = ⟨h₁, g₁, d, tk₁, os⟩) (k : wpAny M A (pyIter xv) (P h₁ g₁) E s₁)
/-- its end -/
inductive PEn (h₁ : Heap) (C D : Addr) (d : Drawn) (os : OsState) (K : List Value → Led → Array GenState → Nat → Prop) (r : Result) (s' : Shared) : Prop
  | mk (er : r = .ok .next) (acc : List Value) (led : Led) (h₄ : Heap) (tk₄ : Nat) (g₄ : Array GenState) (m₄ : Str → Option Value) (e : s' = ⟨h₄, g₄, d, tk₄, os⟩) (z : Z (Sb h₁) C m₄ ((D, LstO acc) :: led) h₄) (k : K acc led g₄ tk₄)
/-- the run-up of a comprehension: the frame, the list, the walker -/
theorem x_comp {e elt iter target : Expr} {ifs : List Expr} {rest : List Comprehension} {scope : Scope} {pos ppos : Pos} {cl : List (Str × Addr)} {use : Option (Value → Sem Unit)} {Q : Value → Shared → Prop} {s : Shared}
    (he : e = .ListComp elt (⟨target, iter, ifs, 0⟩ :: rest) scope pos) (hs : ∀ x, foldedSetIterable iter env x = pure x) (hcl : closureFor scope env = pure cl) (hk : scope.kind = .function) (hcell : ∀ y ∈ scope.names, y.2 ≠ .cell)
    (hnames : scope.names.all (fun x => x.2 != .local || scope.names.lookup x.1 == some .local) = true)
    (k : wpAny (model prog w.w) A (eval iter env) (PSrc (model prog w.w) A E d os fun h₁ g₁ => PIt prog w A d os h₁ g₁ fun I It _ _ _ =>
        ∀ C D h₃ tk₃, Z (Sb h₁) C (fr names (names.map fun _ => none)) [(D, LstO []), (I, It 0)] h₃ →
          codeAny (model prog w.w) A (.compLoop e 0 (.ref I) (.ref D) (compEnvC scope cl C env)) (fun r s' => r = .ok .next ∧ compPost (model prog w.w) A E use Q (.ref D) C r s') ⟨h₃, g₁, d, tk₃, os⟩) E s) :
    wpAny (model prog w.w) A (comprehension e scope env ppos (newList []) false (eval iter env) use) Q E s := by
  subst he
  have hn : ∀ x ∈ scope.names, x.2 = .local → scope.names.lookup x.1 = some .local := fun x hx hl => by
    have := List.all_eq_true.mp hnames x hx
    rw [Bool.or_eq_true] at this
    rcases this with q | q
    · rw [hl] at q; cases q
    · exact eq_of_beq q
  refine wpAny_comprehension_free rfl hs hcl hk hn (wpAny_mono k (fun xv s₁ q1 => ?_) fun _ _ e => e)
  obtain ⟨h₁, tk₁, g₁, rfl, q1⟩ := q1
  refine wpAny_mono q1 (fun itv s₂ q2 => ?_) fun _ _ e => e
  obtain ⟨I, h₂, tk₂, It, cnt, item, ok, rfl, rfl, k₂, hI, hIt, it, q2⟩ := q2
  refine wpAny_newObj_type ?_
  refine wpAny_newFunctionEnv hcell (by intro y hy; cases hy) (fun h₃ hn₃ hs₃ => ?_) hk
  -- the list D, the frame C
  have hsz : (h₂.push { cls := .type "list", data := .seq ([] : List Value).toArray }).objs.size = h₂.objs.size + 1 := Heap.size_push ..
  have hCD : h₂.objs.size ≠ (h₂.push { cls := .type "list", data := .seq ([] : List Value).toArray }).objs.size := by rw [hsz]; lia
  have z0 : Z (Sb h₁) (h₂.push { cls := .type "list", data := .seq ([] : List Value).toArray }).objs.size (fr names (names.map fun _ => none)) [(h₂.objs.size, LstO []), (I, It 0)] h₃ := by
    have hI2 : I ≠ (h₂.push { cls := .type "list", data := .seq ([] : List Value).toArray }).objs.size := by
      obtain ⟨o, ho, _⟩ := hIt
      have := Heap.lt_size (h := h₂) ho
      rw [hsz]; exact Nat.ne_of_lt (Nat.lt_succ_of_lt this)
    have hID : I ≠ h₂.objs.size := by
      obtain ⟨o, ho, _⟩ := hIt
      have := Heap.lt_size (h := h₂) ho
      exact Nat.ne_of_lt this
    have up : ∀ b o, h₂.get? b = some o → h₃.get? b = some o := fun b o q => by
      have hlt := Heap.lt_size (h := h₂) q
      exact hs₃.extBut b o (by rw [hsz]; exact Nat.ne_of_lt (Nat.lt_succ_of_lt hlt)) (Heap.get?_push_of_some _ (show (h₂.push { cls := .type "list", data := .seq ([] : List Value).toArray }).get? b = some o from Heap.get?_push_of_some _ q))
    refine ⟨?_, fun b o q => up b o (k₂ b o q), fun o q => ?_, ?_, ?_, ?_⟩
    · have : (fun x => List.lookup x ([] : List (Str × Value)).reverse) = fr names (names.map fun _ => none) := by
        funext y
        have none_rest : ∀ (rest : List Str) (y : Str), fr rest (rest.map fun _ => (none : Option Value)) y = none := by
          intro rest
          induction rest with
          | nil => intro y; rfl
          | cons x xs ih => intro y; rw [List.map_cons, fr_cons]; split; rfl; exact ih y
        rw [none_rest]; rfl
      rw [← this]; exact hn₃
    · have := Heap.lt_size (h := h₂) (k₂ _ _ q)
      rw [hsz] at this; exact absurd (Nat.lt_of_succ_lt this) (Nat.lt_irrefl _)
    · intro p hp
      rcases List.mem_cons.mp hp with rfl | hp
      · exact ⟨_, hs₃.extBut _ _ hCD (Heap.get?_push_of_some _ (Heap.get?_push_size _ rfl)), 0, rfl⟩
      · rcases List.mem_singleton.mp hp with rfl
        obtain ⟨o, ho, hP⟩ := hIt
        exact ⟨o, up _ _ ho, hP⟩
    · intro p hp
      rcases List.mem_cons.mp hp with rfl | hp
      · refine ⟨hCD, fun o q => ?_⟩
        have := Heap.lt_size (h := h₂) (k₂ _ _ q)
        exact absurd this (Nat.lt_irrefl _)
      · rcases List.mem_singleton.mp hp with rfl
        exact ⟨hI2, fun o q => by unfold Sb at q; rw [hI] at q; cases q⟩
    · simp only [List.map_cons, List.map_nil]
      refine List.nodup_cons.mpr ⟨fun q => hID (List.mem_singleton.mp q).symm, List.nodup_cons.mpr ⟨by simp, List.nodup_nil⟩⟩
  have hI3 : ∃ o, h₃.get? I = some o ∧ It 0 o := z0.get 1 rfl
  have loop := fun tk₃ => q2 _ h₂.objs.size h₃ tk₃ z0
  refine codeAny_compStart_list ?_ ?_
  · exact codeAny_mono (loop _) fun r s q => q.2
  · exact it.again _ _ _ hI3 (codeAny_mono (loop _) fun r s q => q.2)
end
end Mine
namespace Mine
theorem small_ok {a b : Int} (ha : -1000000 ≤ a ∧ a ≤ 1000000) (hb : -1000000 ≤ b ∧ b ≤ 1000000) : Builtin.Range.small a b 1 = true := by
  have fit : ∀ x : Int, -4000000 ≤ x → x ≤ 4000000 → Builtin.Range.rangeFitsLong x = true := fun x h1 h2 => by
    unfold Builtin.Range.rangeFitsLong
    simp only [Bool.and_eq_true, decide_eq_true_eq]
    first | exact ⟨Int.le_trans (by decide) h1, Int.lt_of_le_of_lt h2 (by decide)⟩ | exact ⟨Int.le_trans (by decide) h1, Int.le_trans h2 (by decide)⟩ | (constructor <;> lia)
  have sz : 0 ≤ Builtin.Range.rangeSize a b 1 ∧ Builtin.Range.rangeSize a b 1 ≤ 2000000 := by
    unfold Builtin.Range.rangeSize
    simp only [show (1 : Int) > 0 from by decide, if_true, Int.ediv_one]
    split <;> lia
  unfold Builtin.Range.small
  rw [fit a (by lia) (by lia), fit b (by lia) (by lia), fit 1 (by lia) (by lia), fit _ (by lia) (by lia)]
  simp only [show (1 : Int) > 0 from by decide, if_true, Bool.and_self, Bool.true_and]
  rw [fit (b + (1 - 1)) (by lia) (by lia)]
  simp
theorem size_ok (a b : Int) : Builtin.Range.rangeSize a b 1 = (((b - a).toNat : Nat) : Int) := by
  unfold Builtin.Range.rangeSize
  simp only [show (1 : Int) > 0 from by decide, if_true, Int.ediv_one]
  split <;> lia

noncomputable def rangeL (a b : Int) : List Int := (List.range (b - a).toNat).map fun (k : Nat) => a + k

section
variable {prog : Program} {w : WK} {A : Around} {E : Value → Shared → Prop} {env : Env} {g : Array GenState} {d : Drawn} {os : OsState} {B : Addr → Obj → Prop} {L : Addr} {names gl : List Str}
variable {h : Heap} {tk : Nat} {s : Shared} {vals : List (Option Value)} {n : List (Addr × (Obj → Prop))}

/-- a built-in type, called -/
theorem x_tcall {e : Expr} {es : List Expr} {x : Str} {np pos : Pos} {T : String} {Q : Value → Shared → Prop}
    (k : wpAny (model prog w.w) A (eval (.Name x np) env) (PCal (model prog w.w) A E env (.type T) (e :: es) (QA' (model prog w.w) A E (.type T) Q)) E s)
    (hs : backTo pos (starEach (e :: es) env) = (e :: es).map fun e => (false, eval e env) := by rfl) :
    wpAny (model prog w.w) A (eval (.Call (.Name x np) (e :: es) [] pos) env) Q E s := by
  refine wpAny_Call_NameR (wpAny_mono k (fun f s₁ hh => ?_) fun _ _ e => e)
  obtain ⟨rfl, k⟩ := hh
  rw [hs]
  refine PySem.callWith_type (by simp) ?_
  exact Calls.evalArgs_plain (wpAny_mono k (fun vs s₂ q => q) fun _ _ e => e)

noncomputable def RangeO (a b : Int) : Obj → Prop := fun o => ∃ t u v, o = { cls := .type "range", dict := none, data := .fields #[.int a t, .int b u, .int 1 v], slots := #[] }
theorem x_range1 {b : Int} {t : Tok} {Q : Value → Shared → Prop} (k : ∀ r h' tk', Keep h h' → h.get? r = none → (∃ o, h'.get? r = some o ∧ RangeO 0 b o) → Q (.ref r) ⟨h', g, d, tk', os⟩) :
    wpAny (model prog w.w) A (call (.type "range") [.int b t]) Q E ⟨h, g, d, tk, os⟩ :=
  call_range_1 (k _ _ _ (Keep.push _ _) (get_size _) ⟨_, Heap.get?_push_size _ rfl, _, _, _, rfl⟩)
theorem x_range2 {a b : Int} {t u : Tok} {Q : Value → Shared → Prop} (k : ∀ r h' tk', Keep h h' → h.get? r = none → (∃ o, h'.get? r = some o ∧ RangeO a b o) → Q (.ref r) ⟨h', g, d, tk', os⟩) :
    wpAny (model prog w.w) A (call (.type "range") [.int a t, .int b u]) Q E ⟨h, g, d, tk, os⟩ :=
  call_range_2 (k _ _ _ (Keep.push _ _) (get_size _) ⟨_, Heap.get?_push_size _ rfl, _, _, _, rfl⟩)
theorem x_iter_range {r : Addr} {a b : Int} {Q : Value → Shared → Prop} (hr : ∃ o, h.get? r = some o ∧ RangeO a b o) (ha : -1000000 ≤ a ∧ a ≤ 1000000) (hb : -1000000 ≤ b ∧ b ≤ 1000000)
    (k : ∀ I h', Keep h h' → h.get? I = none → (∃ o, h'.get? I = some o ∧ RangeIt a (b - a).toNat 0 o) → Q (.ref I) ⟨h', g, d, tk, os⟩) : wpAny (model prog w.w) A (pyIter (.ref r)) Q E ⟨h, g, d, tk, os⟩ := by
  obtain ⟨o, ho, t, u, v, rfl⟩ := hr
  refine wpAny_pyIter_range (s := ⟨h, g, d, tk, os⟩) ho (small_ok ha hb) ?_
  refine k _ _ (Keep.push _ _) (get_size _) ⟨_, Heap.get?_push_size _ rfl, ?_⟩
  unfold RangeIt
  rw [size_ok]
  simp
theorem x_iter_list {a : Addr} {vs : List Value} {Q : Value → Shared → Prop} (hl : h.IsList a vs.toArray)
    (k : ∀ I h', Keep h h' → h.get? I = none → (∃ o, h'.get? I = some o ∧ ListIt a 0 o) → Q (.ref I) ⟨h', g, d, tk, os⟩) : wpAny (model prog w.w) A (pyIter (.ref a)) Q E ⟨h, g, d, tk, os⟩ :=
  wpAny_pyIter_list (s := ⟨h, g, d, tk, os⟩) hl (k _ _ (Keep.push _ _) (get_size _) ⟨_, Heap.get?_push_size _ rfl, rfl, rfl⟩)

theorem ints_of {vs : List Value} {ns : List Int} (hl : vs.length = ns.length) (h : ∀ (i : Nat) (v : Value), vs[i]? = some v → ∃ (n : Int) (t : Tok), ns[i]? = some n ∧ v = Value.int n t) : IntsAre vs ns := by
  induction vs generalizing ns with
  | nil => cases ns with
    | nil => exact .nil
    | cons => simp at hl
  | cons v vs ih =>
    cases ns with
    | nil => simp at hl
    | cons n ns =>
      obtain ⟨n', t, e1, e2⟩ := h 0 v (by simp)
      simp at e1
      subst e1 e2
      exact .cons _ _ (ih (by simpa using hl) fun i v hv => by simpa using h (i + 1) v (by simpa using hv))
theorem rangeL_get (a b : Int) (i : Nat) : (rangeL a b)[i]? = if i < (b - a).toNat then some (a + i) else none := by
  unfold rangeL
  rw [List.getElem?_map]
  by_cases h : i < (b - a).toNat
  · rw [List.getElem?_range h, if_pos h]; rfl
  · rw [if_neg h, List.getElem?_eq_none (by simpa using h)]; rfl
theorem rangeL_len (a b : Int) : (rangeL a b).length = (b - a).toNat := by simp [rangeL]
/-- list(range(a, b)) -/
theorem x_list_range {r : Addr} {a b : Int} {Q : Value → Shared → Prop} (hh : A.handled = none) (hr : ∃ o, h.get? r = some o ∧ RangeO a b o) (ha : -1000000 ≤ a ∧ a ≤ 1000000) (hb : -1000000 ≤ b ∧ b ≤ 1000000)
    (k : ∀ l h' tk', Keep h h' → h.get? l = none → (∃ o, h'.get? l = some o ∧ ILst (rangeL a b) o) → Q (.ref l) ⟨h', g, d, tk', os⟩) : wpAny (model prog w.w) A (call (.type "list") [.ref r]) Q E ⟨h, g, d, tk, os⟩ := by
  obtain ⟨o, ho, t, u, v, rfl⟩ := hr
  refine call_list_range (s := ⟨h, g, d, tk, os⟩) hh ho (small_ok ha hb) (size_ok a b) (by lia) fun h' tk' acc c' hk hS hacc => ?_
  refine k _ h' tk' hk (get_size _) ⟨_, hS, acc.toList, ?_, c', by simp⟩
  refine ints_of (by rw [rangeL_len]; simpa using hacc.1) fun i v hv => ?_
  have hv' : acc[i]? = some v := by simpa using hv
  obtain ⟨t, e⟩ := hacc.2 i v hv'
  have hi : i < acc.size := (Array.getElem?_eq_some_iff.mp hv').1
  rw [hacc.1] at hi
  refine ⟨a + i, t, ?_, ?_⟩
  · rw [rangeL_get, if_pos hi]
  · rw [e]; simp
theorem x_ne_ints {a b : Addr} {ns ms : List Int} {Q : Value → Shared → Prop} (ha : ∃ o, h.get? a = some o ∧ ILst ns o) (hb : ∃ o, h.get? b = some o ∧ ILst ms o) (hu : A.units + 64 < cLine) (k : Q (.bool (!decide (ns = ms))) ⟨h, g, d, tk, os⟩) :
    wpAny (model prog w.w) A (compareOp .NotEq (.ref a) (.ref b)) Q E ⟨h, g, d, tk, os⟩ := by
  obtain ⟨o1, h1, vs, i1, l1⟩ := ha
  obtain ⟨o2, h2, us, i2, l2⟩ := hb
  exact ne_intsK (Lst.isList (h := h) ⟨o1, h1, l1⟩) i1 (Lst.isList (h := h) ⟨o2, h2, l2⟩) i2 hu k
theorem AG.eq_room {N : Nat} {A : Around} (x : AG N A) : A.units + 64 < cLine := by
  have := x.un; show A.units + 64 < 9900; lia

/-- the source of a comprehension that is stored -/
inductive PSrZ (M : Model) (A : Around) (E : Value → Shared → Prop) (d : Drawn) (os : OsState) (B : Addr → Obj → Prop) (L : Addr) (names : List Str) (ix : Nat) (P : Heap → Array GenState → List (Option Value) → Led → Value → Shared → Prop) (xv : Value) (s₁ : Shared) : Prop
  | mk (h₁ : Heap) (tk₁ : Nat) (g₁ : Array GenState) (vals : List (Option Value)) (n : Led) (e : s₁ = ⟨h₁, g₁, d, tk₁, os⟩) (z : Z B L (fr names vals) n h₁) (i : ix < vals.length) (k : wpAny M A (pyIter xv) (P h₁ g₁ vals n) E s₁)
/-- what holds when it is stored -/
noncomputable def RAs (d : Drawn) (os : OsState) (B : Addr → Obj → Prop) (L : Addr) (names : List Str) (ix : Nat) (vals : List (Option Value)) (n : Led) (D : Addr) (Q : Flow → Shared → Prop) (acc : List Value) (led : Led) (g₄ : Array GenState) (_ : Nat) : Prop :=
  ∀ h' tk', Z B L (fr names (vals.set ix (some (.ref D)))) ((D, LstO acc) :: led ++ n) h' → Q .next ⟨h', g₄, d, tk', os⟩
/-- x = [.. for ..], the stores exchanged -/
theorem x_asgComp {x : Str} {px pos : Pos} {elt iter target : Expr} {ifs : List Expr} {rest : List Comprehension} {scope : Scope} {cpos : Pos} {cl : List (Str × Addr)} {cnames : List Str} {Q : Flow → Shared → Prop}
    (e : EnvL env L names gl) (ix : Nat) (hx : names[ix]? = some x)
    (hs : ∀ x, foldedSetIterable iter env x = pure x) (hcl : closureFor scope env = pure cl) (hk : scope.kind = .function) (hcell : ∀ y ∈ scope.names, y.2 ≠ .cell)
    (hnames : scope.names.all (fun x => x.2 != .local || scope.names.lookup x.1 == some .local) = true)
    (k : wpAny (model prog w.w) A (eval iter env) (PSrZ (model prog w.w) A E d os B L names ix fun h₁ g₁ vals n => PIt prog w A d os h₁ g₁ fun I It _ _ _ =>
        ∀ C D h₃ tk₃, Z (Sb h₁) C (fr cnames (cnames.map fun _ => none)) [(D, LstO []), (I, It 0)] h₃ →
          codeAny (model prog w.w) A (.compLoop (.ListComp elt (⟨target, iter, ifs, 0⟩ :: rest) scope cpos) 0 (.ref I) (.ref D) (compEnvC scope cl C env)) (PEn h₁ C D d os (RAs d os B L names ix vals n D Q)) ⟨h₃, g₁, d, tk₃, os⟩) E s)
    (hsw : swapsWith (.ListComp elt (⟨target, iter, ifs, 0⟩ :: rest) scope cpos) (some (.Name x px)) pos.line env = pure true) :
    wpAny (model prog w.w) A (exec (.Assign [.Name x px] (.ListComp elt (⟨target, iter, ifs, 0⟩ :: rest) scope cpos) pos) env) Q E s := by
  rw [exec_Assign_Name_used _ _ _ _ hsw]
  refine wpAny_bind (wpAny_standAt (wpAny_bind ?_))
  show wpAny _ A (do let _ ← comprehension (.ListComp elt (⟨target, iter, ifs, 0⟩ :: rest) scope cpos) scope env _ (newList []) false (eval iter env) (some (assign (.Name x px) env))) _ _ s
  refine wpAny_bind (wpAny_mono (x_comp (d := d) (os := os) (names := cnames) (Q := fun _ s' => Q .next s') rfl hs hcl hk hcell hnames (wpAny_mono k (fun xv s₁ q1 => ?_) fun _ _ e => e))
    (fun _ s' hq => wpAny_pure (wpAny_pure hq)) fun _ _ e => e)
  obtain ⟨h₁, tk₁, g₁, vals, n, rfl, zo, hi, q1⟩ := q1
  refine ⟨h₁, tk₁, g₁, rfl, wpAny_mono q1 (fun itv s₂ q2 => ?_) fun _ _ e => e⟩
  obtain ⟨I, h₂, tk₂, It, cnt, item, ok, rfl, rfl, kp, hI, hIt, it, q2⟩ := q2
  refine ⟨I, h₂, tk₂, It, cnt, item, ok, rfl, rfl, kp, hI, hIt, it, fun C D h₃ tk₃ z₃ => ?_⟩
  refine codeAny_mono (q2 C D h₃ tk₃ z₃) fun r s' q => ?_
  obtain ⟨rfl, acc, led, h₄, tk₄, g₄, m₄, rfl, z₄, fin⟩ := q
  refine ⟨rfl, ?_⟩
  have zm := zo.mergeC z₄
  show wpAny (model prog w.w) A (assign (.Name x px) env (.ref D)) _ _ _
  refine x_stoName e zm ix hx hi fun h₅ tk₅ z₅ _ => ?_
  obtain ⟨o, ho, es, ep, hd, hkk, hm⟩ := z₅.get 0 rfl
  exact ⟨m₄, ⟨o, es, ep, ho, hd, hkk, hm⟩, fun h₆ hs₆ => fin h₆ tk₅ (z₅.dropIt hs₆.extBut)⟩
end
end Mine
namespace Mine
section
variable {B : Addr → Obj → Prop} {L : Addr} {m : Str → Option Value} {n : List (Addr × (Obj → Prop))} {h h' : Heap}
/-- the ledger, its things picked by their places -/
theorem Z.pick (z : Z B L m n h) (ixs : List Nat) (hn : ixs.Nodup) : Z B L m (ixs.filterMap (n[·]?)) h := by
  have hmem : ∀ p ∈ ixs.filterMap (n[·]?), p ∈ n := fun p hp => by
    obtain ⟨i, _, e⟩ := List.mem_filterMap.mp hp
    exact List.mem_of_getElem? e
  refine ⟨z.ns, z.keep, z.apart, fun p hp => z.led p (hmem p hp), fun p hp => z.off p (hmem p hp), ?_⟩
  have inj : ∀ (i j : Nat) (p q : Addr × (Obj → Prop)), n[i]? = some p → n[j]? = some q → p.1 = q.1 → i = j := fun i j p q hi hj e => by
    have h1 : (n.map (·.1))[i]? = some p.1 := by rw [List.getElem?_map, hi]; rfl
    have h2 : (n.map (·.1))[j]? = some p.1 := by rw [List.getElem?_map, hj, e]; rfl
    have hlt : i < (n.map (·.1)).length := by
      rcases Nat.lt_or_ge i (n.map (·.1)).length with q | q
      · exact q
      · rw [List.getElem?_eq_none q] at h1; cases h1
    exact (List.getElem?_inj hlt z.nd).mp (h1.trans h2.symm)
  induction ixs with
  | nil => exact List.nodup_nil
  | cons i r ih =>
    have hr := List.nodup_cons.mp hn
    rw [List.filterMap_cons]
    cases e : n[i]? with
    | none => exact ih hr.2 fun p hp => hmem p (by rw [List.filterMap_cons, e]; exact hp)
    | some p =>
      show ((p :: r.filterMap (n[·]?)).map (·.1)).Nodup
      rw [List.map_cons, List.nodup_cons]
      refine ⟨fun hm => ?_, ih hr.2 fun q hq => hmem q (by rw [List.filterMap_cons, e]; exact List.mem_cons_of_mem _ hq)⟩
      obtain ⟨q, hq, e'⟩ := List.mem_map.mp hm
      obtain ⟨j, hj, e2⟩ := List.mem_filterMap.mp hq
      have : j = i := inj j i q p e2 e e'
      exact hr.1 (this ▸ hj)
end

theorem relabel_free {env : Env} (hk : env.scope.kind = .function) : ∀ {names : List (Str × NameKind)} {x : Str}, names.lookup x = some .free → env.kindOf x = some .cell →
    (names.map fun (n, k) => if (k == .free && env.scope.kind == .function && env.kindOf n == some .cell) then (n, NameKind.cell) else (n, k)).lookup x = some .cell
  | [], _, h, _ => by cases h
  | (y, k) :: r, x, h, hx => by
    rw [List.map_cons]
    by_cases e : x = y
    · subst e
      rw [List.lookup_cons] at h
      simp only [beq_self_eq_true, Option.some.injEq] at h
      subst h
      simp only [hk, hx]
      rw [List.lookup_cons]; simp
    · have hb : (x == y) = false := by simpa using e
      rw [List.lookup_cons, hb] at h
      have ih := relabel_free hk h hx
      dsimp only
      split
      · rw [List.lookup_cons, hb]; exact ih
      · rw [List.lookup_cons, hb]; exact ih
theorem relabel_same {env : Env} {kd : NameKind} (hn : kd ≠ .free) : ∀ {names : List (Str × NameKind)} {x : Str}, names.lookup x = some kd →
    (names.map fun (n, k) => if (k == .free && env.scope.kind == .function && env.kindOf n == some .cell) then (n, NameKind.cell) else (n, k)).lookup x = some kd
  | [], _, h => by cases h
  | (y, k) :: r, x, h => by
    rw [List.map_cons]
    by_cases e : x = y
    · subst e
      rw [List.lookup_cons] at h
      simp only [beq_self_eq_true, Option.some.injEq] at h
      subst h
      have : (k == NameKind.free) = false := by simpa using hn
      simp only [this, Bool.false_and, Bool.false_eq_true, if_false]
      rw [List.lookup_cons]; simp
    · have hb : (x == y) = false := by simpa using e
      rw [List.lookup_cons, hb] at h
      have ih := relabel_same (env := env) hn h
      dsimp only
      split
      · rw [List.lookup_cons, hb]; exact ih
      · rw [List.lookup_cons, hb]; exact ih

theorem closure_go (env : Env) (ad : Str → Addr) : ∀ (l : List (Str × NameKind)) (cs : List (Str × Addr)), (∀ p ∈ l, p.2 = .free → env.cells.lookup p.1 = some (ad p.1)) →
    (forIn l cs fun (p : Str × NameKind) (cs : List (Str × Addr)) => (if p.2 == .free then do let __do_lift ← cellOf env p.1; pure (ForInStep.yield ((p.1, __do_lift) :: cs)) else pure (ForInStep.yield cs) : Sem (ForInStep (List (Str × Addr))))) =
      pure (((l.filter fun p => p.2 == .free).map fun p => (p.1, ad p.1)).reverse ++ cs) := by
  intro l
  induction l with
  | nil => intro cs _; rfl
  | cons p l ih =>
    intro cs h
    rw [List.forIn_cons]
    by_cases hp : (p.2 == .free) = true
    · have hc := h p List.mem_cons_self (eq_of_beq hp)
      rw [if_pos hp]
      have e : cellOf env p.1 = pure (ad p.1) := by unfold cellOf; rw [hc]
      rw [e]
      show (forIn l ((p.1, ad p.1) :: cs) _ : Sem (List (Str × Addr))) = _
      rw [ih _ fun q hq => h q (List.mem_cons_of_mem _ hq), List.filter_cons_of_pos (p := fun p : Str × NameKind => p.2 == .free) hp]
      simp
    · rw [if_neg hp]
      show (forIn l cs _ : Sem (List (Str × Addr))) = _
      rw [ih _ fun q hq => h q (List.mem_cons_of_mem _ hq), List.filter_cons_of_neg (p := fun p : Str × NameKind => p.2 == .free) hp]
theorem closure_eq {scope : Scope} {env : Env} (ad : Str → Addr) (h : ∀ p ∈ scope.names, p.2 = .free → env.cells.lookup p.1 = some (ad p.1)) :
    closureFor scope env = pure (((scope.names.filter fun p => p.2 == .free).map fun p => (p.1, ad p.1)).reverse) := by
  have this := closure_go env ad scope.names [] h
  rw [List.append_nil] at this
  show ((forIn scope.names ([] : List (Str × Addr)) fun (p : Str × NameKind) (cs : List (Str × Addr)) => (if p.2 == .free then do let __do_lift ← cellOf env p.1; pure (ForInStep.yield ((p.1, __do_lift) :: cs)) else pure (ForInStep.yield cs) : Sem (ForInStep (List (Str × Addr))))) >>= fun s => pure s) = _
  rw [this]
  rfl

/-- the environment of a comprehension -/
theorem comp_env {env : Env} {L : Addr} {names₀ gl₀ cn₀ : List Str} {ca₀ : List Addr} (e : EnvC env L names₀ gl₀ cn₀ ca₀) (scope : Scope) (names gl cn : List Str) (ca : List Addr)
    (hk : scope.kind = .function) (nd : names.Nodup) (hcn : cn.Nodup) (hlen : ca.length = cn.length)
    (hloc : names.all (fun x => scope.names.lookup x == some .local && !(x == ("__debug__" : Str))) = true)
    (hglo : gl.all (fun x => scope.names.lookup x == some .globalImplicit && !(x == ("__debug__" : Str))) = true)
    (hfree : cn.all (fun x => scope.names.lookup x == some .free && !(x == ("__debug__" : Str))) = true)
    (honly : scope.names.all (fun p => p.2 != .free || cn.contains p.1) = true)
    (hold : ∀ (i : Nat) (x : Str) (c : Addr), cn[i]? = some x → ca[i]? = some c → ∃ j : Nat, cn₀[j]? = some x ∧ ca₀[j]? = some c) :
    ∃ cl, closureFor scope env = pure cl ∧ ∀ C, EnvC (compEnvC scope cl C env) C names gl cn ca := by
  have caOf : ∀ x ∈ cn, ∃ (i : Nat) (c : Addr), cn[i]? = some x ∧ ca[i]? = some c := fun x hx => by
    obtain ⟨i, hi⟩ := List.mem_iff_getElem?.mp hx
    have hlt : i < ca.length := by
      rcases Nat.lt_or_ge i cn.length with q | q
      · rw [hlen]; exact q
      · rw [List.getElem?_eq_none q] at hi; cases hi
    exact ⟨i, ca[i], hi, List.getElem?_eq_getElem hlt⟩
  have celOf : ∀ (i : Nat) (x : Str) (c : Addr), cn[i]? = some x → ca[i]? = some c → env.kindOf x = some .cell ∧ env.cells.lookup x = some c := fun i x c hx hc => by
    obtain ⟨j, h1, h2⟩ := hold i x c hx hc
    have := e.cel j x c h1 h2
    exact ⟨this.1, this.2.1⟩
  let ad : Str → Addr := fun x => (env.cells.lookup x).getD 0
  have had : ∀ p ∈ scope.names, p.2 = .free → env.cells.lookup p.1 = some (ad p.1) := fun p hp hf => by
    have := List.all_eq_true.mp honly p hp
    rw [hf] at this
    have hm : p.1 ∈ cn := by simpa using this
    obtain ⟨i, c, h1, h2⟩ := caOf _ hm
    show _ = some ((env.cells.lookup p.1).getD 0)
    rw [(celOf i _ c h1 h2).2]; rfl
  refine ⟨_, closure_eq ad had, fun C => ?_⟩
  have lookL : ∀ x ∈ names, scope.names.lookup x = some .local ∧ (x == ("__debug__" : Str)) = false := fun x hx => by
    have := List.all_eq_true.mp hloc x hx
    rw [Bool.and_eq_true, Bool.not_eq_true'] at this
    exact ⟨eq_of_beq this.1, this.2⟩
  have lookG : ∀ x ∈ gl, scope.names.lookup x = some .globalImplicit ∧ (x == ("__debug__" : Str)) = false := fun x hx => by
    have := List.all_eq_true.mp hglo x hx
    rw [Bool.and_eq_true, Bool.not_eq_true'] at this
    exact ⟨eq_of_beq this.1, this.2⟩
  have lookF : ∀ x ∈ cn, scope.names.lookup x = some .free ∧ (x == ("__debug__" : Str)) = false := fun x hx => by
    have := List.all_eq_true.mp hfree x hx
    rw [Bool.and_eq_true, Bool.not_eq_true'] at this
    exact ⟨eq_of_beq this.1, this.2⟩
  refine { kind := hk, lc := rfl, nd := nd, loc := fun x hx => ⟨relabel_same (by decide) (lookL x hx).1, (lookL x hx).2⟩, glo := fun x hx => ⟨relabel_same (by decide) (lookG x hx).1, (lookG x hx).2⟩, eg := e.eg, eb := e.eb, cel := fun i x c hx hc => ?_ }
  have hm : x ∈ cn := List.mem_of_getElem? hx
  have q := celOf i x c hx hc
  refine ⟨relabel_free e.kind (lookF x hm).1 q.1, ?_, (lookF x hm).2⟩
  show List.lookup x (((scope.names.filter fun p => p.2 == .free).map fun p => (p.1, ad p.1)).reverse) = some c
  have hadx : ad x = c := by show (env.cells.lookup x).getD 0 = c; rw [q.2]; rfl
  have key : ∀ l : List (Str × Addr), (∀ p ∈ l, p.2 = ad p.1) → (∃ p ∈ l, p.1 = x) → List.lookup x l = some (ad x) := by
    intro l hl hx
    induction l with
    | nil => obtain ⟨p, hp, _⟩ := hx; cases hp
    | cons p l ih =>
      obtain ⟨y, u⟩ := p
      rw [List.lookup_cons]
      by_cases hy : x = y
      · subst hy
        rw [beq_self_eq_true]
        exact congrArg some (hl (x, u) List.mem_cons_self)
      · have hb : (x == y) = false := by simpa using hy
        rw [hb]
        refine ih (fun p hp => hl p (List.mem_cons_of_mem _ hp)) ?_
        obtain ⟨p, hp, e'⟩ := hx
        rcases List.mem_cons.mp hp with rfl | hp
        · exact absurd e'.symm hy
        · exact ⟨p, hp, e'⟩
  rw [key, hadx]
  · intro p hp
    rw [List.mem_reverse] at hp
    obtain ⟨r, _, rfl⟩ := List.mem_map.mp hp
    rfl
  · have hl := (lookF x hm).1
    have : ∃ p ∈ scope.names, p.1 = x ∧ p.2 = .free := by
      have step : ∀ l : List (Str × NameKind), List.lookup x l = some .free → ∃ p ∈ l, p.1 = x ∧ p.2 = .free := by
        intro l
        induction l with
        | nil => intro h; cases h
        | cons p l ih =>
          obtain ⟨y, k⟩ := p
          intro h
          rw [List.lookup_cons] at h
          by_cases hy : x = y
          · subst hy
            rw [beq_self_eq_true] at h
            injection h with h
            exact ⟨(x, k), List.mem_cons_self, rfl, h⟩
          · have hb : (x == y) = false := by simpa using hy
            rw [hb] at h
            obtain ⟨p, hp, e'⟩ := ih h
            exact ⟨p, List.mem_cons_of_mem _ hp, e'⟩
      exact step _ hl
    obtain ⟨p, hp, h1, h2⟩ := this
    refine ⟨(p.1, ad p.1), ?_, h1⟩
    rw [List.mem_reverse]
    exact List.mem_map.mpr ⟨p, List.mem_filter.mpr ⟨hp, by rw [h2]; rfl⟩, rfl⟩

theorem EnvL.toC {env : Env} {L : Addr} {names gl : List Str} (e : EnvL env L names gl) : EnvC env L names gl [] [] := { e with cel := fun i x c h _ => by simp at h }

/-- what a comprehension's scope has to say -/
structure CompOk (scope : Scope) (names gl cn : List Str) : Prop where
  kind : scope.kind = .function
  cell : scope.names.all (fun y => y.2 != .cell) = true
  nms : scope.names.all (fun x => x.2 != .local || scope.names.lookup x.1 == some .local) = true
  nd : names.Nodup
  cnd : cn.Nodup
  loc : names.all (fun x => scope.names.lookup x == some .local && !(x == ("__debug__" : Str))) = true
  glo : gl.all (fun x => scope.names.lookup x == some .globalImplicit && !(x == ("__debug__" : Str))) = true
  free : cn.all (fun x => scope.names.lookup x == some .free && !(x == ("__debug__" : Str))) = true
  only : scope.names.all (fun p => p.2 != .free || cn.contains p.1) = true

section
variable {prog : Program} {w : WK} {A : Around} {E : Value → Shared → Prop} {env : Env} {d : Drawn} {os : OsState} {B : Addr → Obj → Prop} {L : Addr} {names gl cn : List Str} {ca : List Addr}
variable {s : Shared}
/-- the loop of a comprehension in a frame of its own -/
noncomputable def RCm (prog : Program) (w : WK) (A : Around) (d : Drawn) (os : OsState) (c : Expr) (cnames cgl ccn : List Str) (cca : List Addr) (h₁ : Heap) (g₁ : Array GenState) (K : Addr → List Value → Led → Array GenState → Nat → Prop)
    (I : Addr) (It : Nat → Obj → Prop) (_ : Nat) (_ : Nat → Value → Prop) (_ : Heap → Prop) : Prop :=
  ∀ C D h₃ tk₃ cenv, EnvC cenv C cnames cgl ccn cca → Z (Sb h₁) C (fr cnames (cnames.map fun _ => none)) [(D, LstO []), (I, It 0)] h₃ → codeAny (model prog w.w) A (.compLoop c 0 (.ref I) (.ref D) cenv) (PEn h₁ C D d os (K D)) ⟨h₃, g₁, d, tk₃, os⟩
theorem x_asgCompC {x : Str} {px pos : Pos} {elt iter target : Expr} {ifs : List Expr} {rest : List Comprehension} {scope : Scope} {cpos : Pos} {Q : Flow → Shared → Prop}
    (e : EnvC env L names gl cn ca) (ix : Nat) (hx : names[ix]? = some x) (cnames cgl ccn : List Str) (cca : List Addr) (co : CompOk scope cnames cgl ccn) (hlen : cca.length = ccn.length)
    (hold : ∀ (i : Nat) (x : Str) (c : Addr), ccn[i]? = some x → cca[i]? = some c → ∃ j : Nat, cn[j]? = some x ∧ ca[j]? = some c)
    (k : wpAny (model prog w.w) A (eval iter env) (PSrZ (model prog w.w) A E d os B L names ix fun h₁ g₁ vals n => PIt prog w A d os h₁ g₁
        (RCm prog w A d os (.ListComp elt (⟨target, iter, ifs, 0⟩ :: rest) scope cpos) cnames cgl ccn cca h₁ g₁ fun D => RAs d os B L names ix vals n D Q)) E s)
    (hs : ∀ x, foldedSetIterable iter env x = pure x := by intro _; rfl)
    (hsw : swapsWith (.ListComp elt (⟨target, iter, ifs, 0⟩ :: rest) scope cpos) (some (.Name x px)) pos.line env = pure true) :
    wpAny (model prog w.w) A (exec (.Assign [.Name x px] (.ListComp elt (⟨target, iter, ifs, 0⟩ :: rest) scope cpos) pos) env) Q E s := by
  obtain ⟨cl, hcl, hce⟩ := comp_env e scope cnames cgl ccn cca co.kind co.nd co.cnd hlen co.loc co.glo co.free co.only hold
  refine x_asgComp (B := B) (d := d) (os := os) (cnames := cnames) e.toEnvL ix hx hs hcl co.kind (fun y hy => by have := List.all_eq_true.mp co.cell y hy; simpa using this) co.nms (wpAny_mono k (fun xv s₁ q1 => ?_) fun _ _ e => e) hsw
  obtain ⟨h₁, tk₁, g₁, vals, n, rfl, zo, hi, q1⟩ := q1
  refine ⟨h₁, tk₁, g₁, vals, n, rfl, zo, hi, wpAny_mono q1 (fun itv s₂ q2 => ?_) fun _ _ e => e⟩
  obtain ⟨I, h₂, tk₂, It, cnt, item, ok, rfl, rfl, kp, hI, hIt, it, q2⟩ := q2
  exact ⟨I, h₂, tk₂, It, cnt, item, ok, rfl, rfl, kp, hI, hIt, it, fun C D h₃ tk₃ z₃ => q2 C D h₃ tk₃ _ (hce C) z₃⟩

noncomputable def RVl (d : Drawn) (os : OsState) (h₁ : Heap) (D : Addr) (Q : Value → Shared → Prop) (acc : List Value) (led : Led) (g₄ : Array GenState) (tk₄ : Nat) : Prop :=
  ∀ h', ZN (Sb h₁) ((D, LstO acc) :: led) h' → Q (.ref D) ⟨h', g₄, d, tk₄, os⟩
/-- [.. for ..] as a value -/
theorem x_compC {elt iter target : Expr} {ifs : List Expr} {rest : List Comprehension} {scope : Scope} {cpos : Pos} {Q : Value → Shared → Prop}
    (e : EnvC env L names gl cn ca) (cnames cgl ccn : List Str) (cca : List Addr) (co : CompOk scope cnames cgl ccn) (hlen : cca.length = ccn.length)
    (hold : ∀ (i : Nat) (x : Str) (c : Addr), ccn[i]? = some x → cca[i]? = some c → ∃ j : Nat, cn[j]? = some x ∧ ca[j]? = some c)
    (k : wpAny (model prog w.w) A (eval iter env) (PSrc (model prog w.w) A E d os fun h₁ g₁ => PIt prog w A d os h₁ g₁
        (RCm prog w A d os (.ListComp elt (⟨target, iter, ifs, 0⟩ :: rest) scope cpos) cnames cgl ccn cca h₁ g₁ fun D => RVl d os h₁ D Q)) E s)
    (hs : ∀ x, foldedSetIterable iter env x = pure x := by intro _; rfl) :
    wpAny (model prog w.w) A (eval (.ListComp elt (⟨target, iter, ifs, 0⟩ :: rest) scope cpos) env) Q E s := by
  obtain ⟨cl, hcl, hce⟩ := comp_env e scope cnames cgl ccn cca co.kind co.nd co.cnd hlen co.loc co.glo co.free co.only hold
  show wpAny _ A (comprehension (.ListComp elt (⟨target, iter, ifs, 0⟩ :: rest) scope cpos) scope env _ (newList []) false (eval iter env)) _ _ s
  refine x_comp (d := d) (os := os) (names := cnames) rfl hs hcl co.kind (fun y hy => by have := List.all_eq_true.mp co.cell y hy; simpa using this) co.nms (wpAny_mono k (fun xv s₁ q1 => ?_) fun _ _ e => e)
  obtain ⟨h₁, tk₁, g₁, rfl, q1⟩ := q1
  refine ⟨h₁, tk₁, g₁, rfl, wpAny_mono q1 (fun itv s₂ q2 => ?_) fun _ _ e => e⟩
  obtain ⟨I, h₂, tk₂, It, cnt, item, ok, rfl, rfl, kp, hI, hIt, it, q2⟩ := q2
  refine ⟨I, h₂, tk₂, It, cnt, item, ok, rfl, rfl, kp, hI, hIt, it, fun C D h₃ tk₃ z₃ => ?_⟩
  refine codeAny_mono (q2 C D h₃ tk₃ _ (hce C) z₃) fun r s' q => ?_
  obtain ⟨rfl, acc, led, h₄, tk₄, g₄, m₄, rfl, z₄, fin⟩ := q
  exact ⟨rfl, m₄, z₄.ns, fun h' hs' => fin h' (z₄.toN_same hs')⟩

theorem x_item_int {h : Heap} {g : Array GenState} {tk : Nat} {a : Addr} {ns : List Int} {i : Int} {u : Tok} {y : Int} {Q : Value → Shared → Prop} {value slice : Expr} (hl : ∃ o, h.get? a = some o ∧ ILst ns o) (h0 : 0 ≤ i) (h1 : i < 2 ^ 63) (hv : ns[i.toNat]? = some y)
    (hs : subscripted slice false (.ref a) (.int i u) = operate [.ref a, .int i u] (getItem (.ref a) (.int i u)))
    (k : ∀ t, Q (.int y t) ⟨h, g, d, tk, os⟩) : wpAny (model prog w.w) A (subscriptTail value slice (.ref a) (.int i u)) Q E ⟨h, g, d, tk, os⟩ :=
  let ⟨o, ho, _, hi, hl⟩ := hl
  let ⟨t, e⟩ := ints_get hi hv
  x_item ⟨o, ho, hl⟩ h0 h1 e hs (k t)
theorem x_item_str {h : Heap} {g : Array GenState} {tk : Nat} {a : Addr} {ns : List (List Nat)} {i : Int} {u : Tok} {y : List Nat} {Q : Value → Shared → Prop} {value slice : Expr} (hl : ∃ o, h.get? a = some o ∧ SLst ns o) (h0 : 0 ≤ i) (h1 : i < 2 ^ 63) (hv : ns[i.toNat]? = some y)
    (hs : subscripted slice false (.ref a) (.int i u) = operate [.ref a, .int i u] (getItem (.ref a) (.int i u)))
    (k : ∀ t, Q (.str (S y) t) ⟨h, g, d, tk, os⟩) : wpAny (model prog w.w) A (subscriptTail value slice (.ref a) (.int i u)) Q E ⟨h, g, d, tk, os⟩ :=
  let ⟨o, ho, _, hi, hl⟩ := hl
  let ⟨t, e⟩ := strs_get hi (i := i.toNat) (y := S y) (by rw [List.getElem?_map, hv]; rfl)
  x_item ⟨o, ho, hl⟩ h0 h1 e hs (k t)
theorem ints_snoc {vs : List Value} {ns : List Int} (h : IntsAre vs ns) (k : Int) (t : Tok) : IntsAre (vs ++ [.int k t]) (ns ++ [k]) := by
  induction h with
  | nil => exact .cons k t .nil
  | cons n u _ ih => exact .cons n u ih
theorem strs_snoc {vs : List Value} {ns : List Str} (h : StrsAre vs ns) (k : Str) (t : Tok) : StrsAre (vs ++ [.str k t]) (ns ++ [k]) := by
  induction h with
  | nil => exact .cons k t .nil
  | cons n u _ ih => exact .cons n u ih
theorem ints_len {vs : List Value} {ys : List Int} (h : IntsAre vs ys) : vs.length = ys.length := by
  induction h with
  | nil => rfl
  | cons y t _ ih => simp [ih]
end
end Mine
namespace Mine
theorem gv_len (w : WK) : GV w (Str.ofString "len") (.builtin "len") := .inr ⟨w.need.v_len, by decide +kernel, by kernel_rfl⟩
theorem gv_range (w : WK) : GV w (Str.ofString "range") (.type "range") := .inr ⟨w.need.v_range, by decide +kernel, by kernel_rfl⟩
theorem gv_list (w : WK) : GV w (Str.ofString "list") (.type "list") := .inr ⟨w.need.v_list, by decide +kernel, by kernel_rfl⟩
theorem gv_law_bare (w : WK) : GV w (Str.ofString "_law_bare") (.ref 229) := .inl w.need.v_law_bare
theorem gv_law_fits (w : WK) : GV w (Str.ofString "_law_fits") (.ref 215) := .inl w.need.v_law_fits
theorem gv_law_takes (w : WK) : GV w (Str.ofString "_law_takes") (.ref 234) := .inl w.need.v_law_takes
theorem gv_law_ring (w : WK) : GV w (Str.ofString "_law_ring") (.ref 222) := .inl w.need.v_law_ring
theorem gv_law_units (w : WK) : GV w (Str.ofString "_law_units") (.ref 210) := .inl w.need.v_law_units
theorem gv_iter_escaped_chars (w : WK) : GV w (Str.ofString "_iter_escaped_chars") (.ref 45) := .inl w.need.v_iter_escaped_chars
theorem gv_translate (w : WK) : GV w (Str.ofString "translate") (.ref 57) := .inl w.need.v_translate
theorem gv_translate2 (w : WK) : GV w (Str.ofString "_translate") (.ref 76) := .inl w.need.v_translate2
theorem gv_join_translated_parts (w : WK) : GV w (Str.ofString "_join_translated_parts") (.ref 83) := .inl w.need.v_join_translated_parts
theorem gv_escape (w : WK) : GV w (Str.ofString "escape") (.ref 69) := .inl w.need.v_escape
theorem gv_twin_re_1 (w : WK) : GV w (Str.ofString "_twin_re_1") (.ref 50) := .inl w.need.v_twin_re_1
theorem gv_special_chars_map (w : WK) : GV w (Str.ofString "_special_chars_map") (.ref 59) := .inl w.need.v_special_chars_map
theorem gv_NodeInfo (w : WK) : GV w (Str.ofString "_NodeInfo") (.ref 102) := .inl w.need.v_NodeInfo
theorem gv_CycleError (w : WK) : GV w (Str.ofString "CycleError") (.ref 117) := .inl w.need.v_CycleError
theorem gv_TopologicalSorter (w : WK) : GV w (Str.ofString "TopologicalSorter") (.ref 199) := .inl w.need.v_TopologicalSorter
theorem gv_enumerate (w : WK) : GV w (Str.ofString "enumerate") (.type "enumerate") := .inr ⟨w.need.v_enumerate, by decide +kernel, by kernel_rfl⟩
theorem gv_object (w : WK) : GV w (Str.ofString "object") (.type "object") := .inr ⟨w.need.v_object, by decide +kernel, by kernel_rfl⟩
theorem gv_set (w : WK) : GV w (Str.ofString "set") (.type "set") := .inr ⟨w.need.v_set, by decide +kernel, by kernel_rfl⟩
theorem gv_iter (w : WK) : GV w (Str.ofString "iter") (.builtin "iter") := .inr ⟨w.need.v_iter, by decide +kernel, by kernel_rfl⟩
theorem gv_StopIteration (w : WK) : GV w (Str.ofString "StopIteration") (.type "StopIteration") := .inr ⟨w.need.v_StopIteration, by decide +kernel, by kernel_rfl⟩
theorem gv_isinstance (w : WK) : GV w (Str.ofString "isinstance") (.builtin "isinstance") := .inr ⟨w.need.v_isinstance, by decide +kernel, by kernel_rfl⟩
theorem gv_str (w : WK) : GV w (Str.ofString "str") (.type "str") := .inr ⟨w.need.v_str, by decide +kernel, by kernel_rfl⟩
theorem gv_type (w : WK) : GV w (Str.ofString "type") (.type "type") := .inr ⟨w.need.v_type, by decide +kernel, by kernel_rfl⟩
theorem gv_tuple (w : WK) : GV w (Str.ofString "tuple") (.type "tuple") := .inr ⟨w.need.v_tuple, by decide +kernel, by kernel_rfl⟩
end Mine
namespace Mine
theorem cells_two {cn : List Str} {ca : List Addr} {x y : Str} {c c' : Addr} (h1 : cn[1]? = some x) (h2 : ca[1]? = some c) (h3 : cn[0]? = some y) (h4 : ca[0]? = some c') :
    ∀ (i : Nat) (z : Str) (b : Addr), [x, y][i]? = some z → [c, c'][i]? = some b → ∃ j : Nat, cn[j]? = some z ∧ ca[j]? = some b := by
  intro i z b hz hb
  match i with
  | 0 => simp at hz hb; exact ⟨1, by rw [h1, hz], by rw [h2, hb]⟩
  | 1 => simp at hz hb; exact ⟨0, by rw [h3, hz], by rw [h4, hb]⟩
  | i + 2 => simp at hz
/-- a name that is a cell, its cell among what stays -/
theorem x_celB {prog : Program} {w : WK} {A : Around} {E : Value → Shared → Prop} {env : Env} {h : Heap} {g : Array GenState} {d : Drawn} {tk : Nat} {os : OsState} {L : Addr} {names gl cn : List Str} {ca : List Addr}
    {x : Str} {v : Value} {c : Addr} {pos : Pos} {Q : Value → Shared → Prop} (e : EnvC env L names gl cn ca) (i : Nat) (hx : cn[i]? = some x) (hc : ca[i]? = some c) (hcell : ∃ o, h.get? c = some o ∧ CellO (some v) o)
    (k : Q v ⟨h, g, d, tk, os⟩) : wpAny (model prog w.w) A (eval (.Name x pos) env) Q E ⟨h, g, d, tk, os⟩ :=
  have q := e.cel i x c hx hc
  wpAny_Name (wpAny_loadName_cell e.kind q.1 q.2.1 hcell k) q.2.2
theorem cellK {h h' : Heap} {c : Addr} {P : Obj → Prop} (x : ∃ o, h.get? c = some o ∧ P o) (k : Keep h h') : ∃ o, h'.get? c = some o ∧ P o := let ⟨o, e, q⟩ := x; ⟨o, k _ _ e, q⟩
theorem last_sign {l : List Nat} (h : l ≠ []) : (seqIndex? (-1) l.length).bind (l[·]?) = some (l.getLastD 0) := by
  have hp := List.length_pos_iff.mpr h
  unfold seqIndex?
  simp only [show (-1 : Int) < 0 from by decide, if_true]
  have e0 : -1 + (l.length : Int) = ((l.length - 1 : Nat) : Int) := by rw [Int.ofNat_sub hp, Int.add_comm]; rfl
  rw [e0, if_pos (by rw [Bool.and_eq_true]; exact ⟨decide_eq_true (Int.natCast_nonneg _), decide_eq_true (Int.ofNat_lt.mpr (Nat.sub_lt hp Nat.one_pos))⟩), Int.toNat_natCast]
  show l[l.length - 1]? = _
  rw [← List.getLast?_eq_getElem?, List.getLast?_eq_getLast h]
  simp [List.getLastD_eq_getLast?, List.getLast?_eq_getLast h]
theorem at_sign {l : List Nat} {k : Int} (h0 : 0 ≤ k) (h1 : k < (l.length : Int)) : (seqIndex? k l.length).bind (l[·]?) = some (l.getD k.toNat 0) := by
  unfold seqIndex?
  have hn : ¬ k < 0 := by lia
  simp only [if_neg hn]
  have e1 : (decide (0 ≤ k) && decide (k < (l.length : Int))) = true := by simp; lia
  rw [if_pos e1]
  show l[k.toNat]? = _
  have hlt : k.toNat < l.length := by lia
  rw [List.getElem?_eq_getElem hlt]; simp [List.getD, List.getElem?_eq_getElem hlt]
theorem swaps_local {elt : Expr} {gens : List Comprehension} {scope : Scope} {cpos px pos : Pos} {x : Str} {env : Env} (hk : env.scope.kind = .function) (hx : env.kindOf x = some .local)
    (hl : (px.line == cpos.line) = true) (hn : (!(scope.names.any fun p => p.1 == x && (p.2 == .local || p.2 == .cell))) = true) :
    swapsWith (.ListComp elt gens scope cpos) (some (.Name x px)) pos.line env = pure true := by
  unfold swapsWith
  simp only [blockKind_fn hk, hx, Expr.pos, hl, beq_self_eq_true, Bool.true_and]
  show (pure (!(scope.names.any fun p => p.1 == x && (p.2 == .local || p.2 == .cell))) : Sem Bool) = _
  rw [hn]
end Mine
namespace Mine
section
variable {prog : Program} {w : WK} {A : Around} {E : Value → Shared → Prop} {env : Env} {d : Drawn} {os : OsState} {g : Array GenState} {B : Addr → Obj → Prop} {L : Addr} {names gl : List Str}
variable {s : Shared}
inductive PLn (g : Array GenState) (d : Drawn) (os : OsState) (Q : Value → Shared → Prop) (o vu : Value) (s₃ : Shared) : Prop
  | mk (h₃ : Heap) (tk₃ : Nat) (l : Addr) (ns : List Int) (j : Int) (tj : Tok) (e : s₃ = ⟨h₃, g, d, tk₃, os⟩) (e1 : o = .ref l) (e3 : vu = .int j tj) (hj : 0 ≤ j) (ho : ∃ ob, h₃.get? l = some ob ∧ ILst ns ob) (hl : ns.length ≤ 100000)
      (q : ∀ l' h', Keep h₃ h' → h₃.get? l' = none → (∃ ob, h'.get? l' = some ob ∧ ILst (ns.take j.toNat) ob) → Q (.ref l') ⟨h', g, d, tk₃, os⟩)
/-- value[:j] of a list of ints -/
theorem x_lslice_ns {value up : Expr} {p pos : Pos} {Q : Value → Shared → Prop}
    (k : wpAny (model prog w.w) A (eval value env) (Q2 (model prog w.w) A E env up (PLn g d os Q)) E s)
    (ht : ∀ o r, letTemporaryGo value o r = pure () := by intro _ _; rfl) :
    wpAny (model prog w.w) A (eval (.Subscript value (.Slice none (some up) none p) pos) env) Q E s := by
  refine wpAny_Subscript_list_slice (wpAny_mono k (fun o s₁ h₁ => wpAny_evalPart_none (wpAny_evalPart_some (wpAny_mono h₁ (fun vu s₃ h₃ => ?_) fun _ _ e => e))) fun _ _ e => e) ht
  obtain ⟨h₃, tk₃, l, ns, j, tj, rfl, rfl, rfl, hj, ⟨ob, hob, vs, hvi, hvl⟩, hlen, q⟩ := h₃
  have hL : h₃.IsList l vs.toArray := Lst.isList (h := h₃) ⟨ob, hob, hvl⟩
  have hvlen := ints_len hvi
  refine ⟨l, vs.toArray, none, some j, rfl, hL, by rw [List.size_toArray, sizeLine_eq]; lia, IsPart.none, IsPart.int _ _, ?_⟩
  have hsz : (h₃.push { cls := .type "slice", data := .fields #[.none, .int j tj, .none] }).objs.size = h₃.objs.size + 1 := Heap.size_push ..
  refine q _ _ (fun b o e => Heap.get?_push_of_some _ (Heap.get?_push_of_some _ e)) ?_ ?_
  · cases e : h₃.get? (h₃.objs.size + 1) with
    | none => rfl
    | some o => exact absurd (Heap.lt_size e) (Nat.not_lt.mpr (Nat.le_succ _))
  · have g0 := Heap.get?_push_size (h₃.push { cls := .type "slice", data := .fields #[.none, .int j tj, .none] }) (o := { cls := .type "list", data := .seq (slicePick vs.toArray none (some j) none) }) rfl
    rw [hsz] at g0
    exact ⟨_, g0, (slicePick vs.toArray none (some j) none).toList, slice_ints_uptoW hvi hj, 0, by simp⟩

theorem x_is_none_t {Q : Value → Shared → Prop} {s : Shared} (k : Q (.bool true) s) : wpAny (model prog w.w) A (compareOp .Is .none .none) Q E s := wpAny_is_plain rfl (by exact k)
theorem x_is_none_f {a : Addr} {Q : Value → Shared → Prop} {s : Shared} (k : Q (.bool false) s) : wpAny (model prog w.w) A (compareOp .Is (.ref a) .none) Q E s := wpAny_is_other rfl (by intro h; cases h) k

/-- a state behind a turn of a while -/
inductive PWh {σ : Type} (B : Addr → Obj → Prop) (L : Addr) (names : List Str) (d : Drawn) (os : OsState) (n : Nat) (J : Nat → σ → Prop) (vals : σ → List (Option Value)) (led : σ → Led) (gs : σ → Array GenState) (s' : Shared) : Prop
  | mk (st : σ) (h' : Heap) (tk' : Nat) (m : Nat) (e : s' = ⟨h', gs st, d, tk', os⟩) (hm : m < n) (j : J m st) (z : Z B L (fr names (vals st)) (led st) h')
/-- what a turn of a while leaves -/
noncomputable def WTurn (B : Addr → Obj → Prop) (L : Addr) (names : List Str) (d : Drawn) (os : OsState) {σ : Type} (n : Nat) (J : Nat → σ → Prop) (vals : σ → List (Option Value)) (led : σ → Led) (gs : σ → Array GenState)
    (Rb : Shared → Prop) (Rr : Value → Shared → Prop) (f : Flow) (s' : Shared) : Prop :=
  match f with
  | .brk => Rb s'
  | .ret v => Rr v s'
  | _ => PWh B L names d os n J vals led gs s'
/-- the test of a while, then its turn or what is behind -/
noncomputable def QWh (M : Model) (A : Around) (env : Env) (body orelse : List Stmt) (P : Flow → Shared → Prop) (R : Result → Shared → Prop) (b : Bool) (s : Shared) : Prop :=
  if b = true then wpAny M A (execs body env) P (fun _ _ => False) s else wpAny M A (execs orelse env) (fun f => R (.ok f)) (fun _ _ => False) s
theorem x_while {R : Result → Shared → Prop} {test : Expr} {body orelse : List Stmt} {h₀ : Heap} {tk₀ : Nat} {σ : Type}
    (J : Nat → σ → Prop) (vals : σ → List (Option Value)) (led : σ → Led) (gs : σ → Array GenState) (n₀ : Nat) (st₀ : σ)
    (j0 : J n₀ st₀) (z0 : Z B L (fr names (vals st₀)) (led st₀) h₀)
    (turn : ∀ n st h tk, J n st → Z B L (fr names (vals st)) (led st) h →
      wpAny (model prog w.w) A (isTrue test env (eval test env)) (QWh (model prog w.w) A env body orelse (WTurn B L names d os n J vals led gs (R (.ok .next)) (fun v => R (.ok (.ret v)))) R) (fun _ _ => False) ⟨h, gs st, d, tk, os⟩) :
    codeAny (model prog w.w) A (.whileLoop test body orelse env) R ⟨h₀, gs st₀, d, tk₀, os⟩ := by
  refine codeAny_whileLoop (fun n s' => PWh B L names d os (n + 1) (fun m st => m = n ∧ J m st) vals led gs s') ?_ n₀ ⟨st₀, h₀, tk₀, n₀, rfl, Nat.lt_succ_self _, ⟨rfl, j0⟩, z0⟩
  intro n s' q
  obtain ⟨st, h, tk, m, rfl, _, ⟨rfl, hJ⟩, z⟩ := q
  refine wpAny_mono (turn m st h tk hJ z) (fun b s₂ q => ?_) (fun _ _ q => q.elim)
  cases b with
  | true =>
    refine wpAny_mono (show wpAny _ _ (execs body env) _ _ _ from q) (fun f s₃ q => ?_) (fun _ _ q => q.elim)
    have fin : PWh B L names d os m J vals led gs s₃ → ∃ k, k < m ∧ PWh B L names d os (k + 1) (fun m st => m = k ∧ J m st) vals led gs s₃ :=
      fun ⟨st', h', tk', k, e', hm, j', z'⟩ => ⟨k, hm, st', h', tk', k, e', Nat.lt_succ_self _, ⟨rfl, j'⟩, z'⟩
    cases f with
    | next => exact fin q
    | cont => exact fin q
    | brk => exact q
    | ret v => exact q
  | false => exact wpAny_mono (show wpAny _ _ (execs orelse env) _ _ _ from q) (fun f s₃ q => q) (fun _ _ q => q.elim)

inductive PAs4 (g : Array GenState) (d : Drawn) (os : OsState) (B : Addr → Obj → Prop) (L : Addr) (names : List Str) (ix iy iu iv : Nat) (Q : Flow → Shared → Prop) (vs : List Value) (s₂ : Shared) : Prop
  | mk (h₂ : Heap) (tk₂ : Nat) (vals : List (Option Value)) (n : Led) (v₁ v₂ v₃ v₄ : Value) (e : s₂ = ⟨h₂, g, d, tk₂, os⟩) (e1 : vs = [v₁, v₂, v₃, v₄]) (z : Z B L (fr names vals) n h₂) (i : ix < vals.length) (j : iy < vals.length) (k : iu < vals.length) (l : iv < vals.length)
      (q : ∀ h' tk', Z B L (fr names ((((vals.set ix (some v₁)).set iy (some v₂)).set iu (some v₃)).set iv (some v₄))) n h' → Q .next ⟨h', g, d, tk', os⟩)
/-- a, b, c, d = e₁, e₂, e₃, e₄: the stores in their order -/
theorem x_asg4 {x y u v : Str} {px py pu pv tp vp pos : Pos} {k₁ k₂ : Nat} {e₁ e₂ e₃ e₄ : Expr} {Q : Flow → Shared → Prop} (e : EnvL env L names gl) (hh : A.handled = none) (ix iy iu iv : Nat) (hx : names[ix]? = some x) (hy : names[iy]? = some y) (hu : names[iu]? = some u) (hv : names[iv]? = some v)
    (k : wpAny (model prog w.w) A (evs env [e₁, e₂, e₃, e₄]) (PAs4 g d os B L names ix iy iu iv Q) E s)
    (hs : backTo vp (starEach [e₁, e₂, e₃, e₄] env) = [e₁, e₂, e₃, e₄].map fun e => (false, eval e env) := by rfl)
    (h0 : swapsWithSole [.Tuple [.Name x px, .Name y py, .Name u pu, .Name v pv] k₁ tp] (.Tuple [e₁, e₂, e₃, e₄] k₂ vp) pos.line env = pure false := by rfl)
    (h1 : swappedStores [.Tuple [.Name x px, .Name y py, .Name u pu, .Name v pv] k₁ tp] (.Tuple [e₁, e₂, e₃, e₄] k₂ vp) env = pure none := by rfl) :
    wpAny (model prog w.w) A (exec (.Assign [.Tuple [.Name x px, .Name y py, .Name u pu, .Name v pv] k₁ tp] (.Tuple [e₁, e₂, e₃, e₄] k₂ vp) pos) env) Q E s := by
  refine Assign_Tuple ?_ h0 h1
  refine x_tuple (g := g) (d := d) (os := os) (wpAny_mono k (fun vs s₂ hh₂ => ?_) fun _ _ e => e) hs
  obtain ⟨h₂, tk₂, vals, n, v₁, v₂, v₃, v₄, rfl, rfl, z, i1, i2, i3, i4, q⟩ := hh₂
  refine ⟨h₂, tk₂, rfl, by simp, fun a h₃ k₃ hn ht => ?_⟩
  have z₃ := z.keepAll k₃
  refine wpAny_assign_Tuple hh (Tup.isTuple (h := h₃) ht) rfl rfl fun h₄ hx₄ => ?_
  have z₄ := z₃.keepAll (Keep.ext hx₄)
  show wpAny (model prog w.w) A (assignInOrder [assign (.Name x px) env, assign (.Name y py) env, assign (.Name u pu) env, assign (.Name v pv) env] [v₁, v₂, v₃, v₄]) _ E ⟨h₄, g, d, tk₂, os⟩
  refine wpAny_assignInOrder_more (x_stoName e z₄ ix hx i1 fun h₅ tk₅ z₅ _ => ?_)
  refine wpAny_assignInOrder_more (x_stoName e z₅ iy hy (by simpa using i2) fun h₆ tk₆ z₆ _ => ?_)
  refine wpAny_assignInOrder_more (x_stoName e z₆ iu hu (by simpa using i3) fun h₇ tk₇ z₇ _ => ?_)
  refine wpAny_assignInOrder_more (x_stoName e z₇ iv hv (by simpa using i4) fun h₈ tk₈ z₈ _ => ?_)
  exact wpAny_assignInOrder_none (q h₈ tk₈ z₈)
end
/-- a pure step: the heap grows at most -/
noncomputable def Gv {α : Type} (M : Model) (A : Around) (E : Value → Shared → Prop) (g : Array GenState) (d : Drawn) (os : OsState) (m : Sem α) (h : Heap) (v : α) : Prop :=
  ∀ (Q : α → Shared → Prop) (tk : Nat), (∀ h' tk', Keep h h' → Q v ⟨h', g, d, tk', os⟩) → wpAny M A m Q E ⟨h, g, d, tk, os⟩
section
variable {M : Model} {A : Around} {E : Value → Shared → Prop} {g : Array GenState} {d : Drawn} {os : OsState} {env : Env}
variable {h : Heap} {tk : Nat}
/-- x and y, as a test, in one -/
theorem y_and2 {x y : Expr} {pos : Pos} {whole : Sem Value} {a b : Bool} {Q : Bool → Shared → Prop} (kx : Gv M A E g d os (PySem.isTrue x env (eval x env)) h a)
    (ky : a = true → ∀ h1, Keep h h1 → Gv M A E g d os (PySem.isTrue y env (eval y env)) h1 b) (k : ∀ h' tk', Keep h h' → Q (a && b) ⟨h', g, d, tk', os⟩) :
    wpAny M A (PySem.isTrue (.BoolOp .And [x, y] pos) env whole) Q E ⟨h, g, d, tk, os⟩ := by
  refine wpAny_isTrue_BoolOp (y_and (kx _ tk fun h1 tk1 k1 => ?_))
  cases a with
  | true =>
    refine y_and (ky rfl h1 k1 _ _ fun h2 tk2 k2 => ?_)
    cases b with
    | true => exact wpAny_allTrue_And_nil (k h2 tk2 (k1.trans k2))
    | false => exact k h2 tk2 (k1.trans k2)
  | false => exact k h1 tk1 k1
/-- x or y, as a test, in one -/
theorem y_or2 {x y : Expr} {pos : Pos} {whole : Sem Value} {a b : Bool} {Q : Bool → Shared → Prop} (kx : Gv M A E g d os (PySem.isTrue x env (eval x env)) h a)
    (ky : a = false → ∀ h1, Keep h h1 → Gv M A E g d os (PySem.isTrue y env (eval y env)) h1 b) (k : ∀ h' tk', Keep h h' → Q (a || b) ⟨h', g, d, tk', os⟩) :
    wpAny M A (PySem.isTrue (.BoolOp .Or [x, y] pos) env whole) Q E ⟨h, g, d, tk, os⟩ := by
  refine wpAny_isTrue_BoolOp (y_or (kx _ tk fun h1 tk1 k1 => ?_))
  cases a with
  | true => exact k h1 tk1 k1
  | false =>
    refine y_or (ky rfl h1 k1 _ _ fun h2 tk2 k2 => ?_)
    cases b with
    | true => exact k h2 tk2 (k1.trans k2)
    | false => exact wpAny_allTrue_Or_nil (k h2 tk2 (k1.trans k2))
end
theorem ite_y {b : Bool} {P R : Prop} (h : b = true) (k : P) : if b = true then P else R := by subst h; exact k
theorem ite_n {b : Bool} {P R : Prop} (h : b = false) (k : R) : if b = true then P else R := by subst h; exact k
theorem le_big {n : Nat} (h : n ≤ 1000) : n ≤ 100000 := Nat.le_trans h (by decide)
theorem le_trans' {n : Nat} (h : n ≤ 5000) : n ≤ 100000 := Nat.le_trans h (by decide)
theorem cat_big {a b : List Nat} {m n : Nat} (ha : a.length ≤ m) (hb : b.length ≤ n) (h : m + n ≤ 100000 := by decide) : a.length + b.length ≤ 100000 := Nat.le_trans (Nat.add_le_add ha hb) h
theorem cat_le {a b : List Nat} {m n : Nat} (ha : a.length ≤ m) (hb : b.length ≤ n) : (a ++ b).length ≤ m + n := by rw [List.length_append]; exact Nat.add_le_add ha hb
theorem and_l {a b : Bool} (h : (a && b) = true) : a = true := (Bool.and_eq_true_iff.mp h).1
theorem and_r {a b : Bool} (h : (a && b) = true) : b = true := (Bool.and_eq_true_iff.mp h).2
end Mine
set_option maxHeartbeats 1000000
namespace Mine
local macro_rules | `(tactic| walk_at "len") => `(tactic| first | lia | (simp only [List.length_append, List.length_cons, List.length_nil]; lia))

/-- what _law_bare reads at k: a sign and how many places it takes -/
noncomputable def bareH (l : List Nat) (k : Int) (behind h : List Nat) (n : Int) : Option (List Nat × Int) :=
  if ([[], [93]] : List (List Nat)).any (fun x => x == h) then none else if behind == [94] then none else if (cut l (some (k + n - 1)) (some (k + n)) != [93]) then none else some (h, n)
noncomputable def bareP (l : List Nat) (k : Int) : Option (List Nat × Int) :=
  if cut l (some k) (some (k + 1)) == [92] then (if cut l (some (k + 1)) (some (k + 2)) == [] then none else if Txt.isalnum (S (cut l (some (k + 1)) (some (k + 2)))) then none else some (cut l (some (k + 1)) (some (k + 2)), 2))
  else if cut l (some k) (some (k + 1)) == [91] then
    (if cut l (some (k + 1)) (some (k + 2)) == [92] then bareH l k (cut l (some (k + 1)) (some (k + 2))) (cut l (some (k + 2)) (some (k + 3))) 4 else bareH l k (cut l (some (k + 1)) (some (k + 2))) (cut l (some (k + 1)) (some (k + 2))) 3)
  else if subIn (cut l (some k) (some (k + 1))) [93, 40, 41, 42, 43, 63, 123, 125, 124, 94, 36] then none
  else if cut l (some k) (some (k + 1)) == [46] then some ([], 1) else some (cut l (some k) (some (k + 1)), 1)
noncomputable def BareIs (r : Option (List Nat × Int)) (v : Value) (h₀ h : Heap) : Prop := match r with
  | none => v = .none
  | some (b, n) => ∃ a t u, v = .ref a ∧ h₀.get? a = none ∧ ∃ o, h.get? a = some o ∧ LstO [.str (S b) t, .int n u] o
theorem bare_new {h₀ h h' : Heap} {L : Addr} {m : Str → Option Value} {n : List (Addr × (Obj → Prop))} {a : Addr} {b : List Nat} {k : Int} {t u : Tok} (z : Z (Sb h₀) L m n h) (hn : h.get? a = none)
    (ho : ∃ o, h'.get? a = some o ∧ LstO [.str (S b) t, .int k u] o) : BareIs (some (b, k)) (.ref a) h₀ h' := by
  refine ⟨a, t, u, rfl, ?_, ho⟩
  cases e : h₀.get? a with
  | none => rfl
  | some o => have := z.keep a o e; rw [hn] at this; cases this
theorem bare_old {h₀ h : Heap} {L : Addr} {m : Str → Option Value} {n : List (Addr × (Obj → Prop))} {a : Addr} {b : List Nat} {k : Int} {t u : Tok} (z : Z (Sb h₀) L m n h) (i : Nat)
    (hi : n[i]? = some (a, LstO [.str (S b) t, .int k u])) : BareIs (some (b, k)) (.ref a) h₀ h := by
  refine ⟨a, t, u, rfl, ?_, z.get i hi⟩
  have := (z.off _ (List.mem_of_getElem? hi)).2
  cases e : h₀.get? a with
  | none => rfl
  | some o => exact absurd e (this o)
theorem strs2 (t u : Tok) (x y : List Nat) : StrsAre [.str (S x) t, .str (S y) u] ([x, y].map S) := .cons _ _ (.cons _ _ .nil)
theorem strsOf2 {h : Heap} {a : Addr} {t u : Tok} {x y : List Nat} (ho : ∃ o, h.get? a = some o ∧ LstO [.str (S x) t, .str (S y) u] o) : ∃ o, h.get? a = some o ∧ SLst [x, y] o :=
  let ⟨o, h1, h2⟩ := ho; ⟨o, h1, _, strs2 _ _ _ _, h2⟩
section
variable {w : WK} {A : Around} {E : Value → Shared → Prop} {h₀ : Heap} {g : Array GenState} {d : Drawn} {os : OsState}
variable {tk : Nat}
theorem bare_call (gw : G w h₀) (ag : AG 3 A) (l : List Nat) (i : Int) (t u : Tok) (hl : l.length ≤ 1000) {Q : Value → Shared → Prop}
    (hQ : ∀ v h' tk', Keep h₀ h' → BareIs (bareP l i) v h₀ h' → Q v ⟨h', g, d, tk', os⟩) :
    wpAny (model PP w.w) A (call (.ref 229) [.str (S l) t, .int i u]) Q E ⟨h₀, g, d, tk, os⟩ := by
  refine x_call (a := 229) (ks := [Str.ofString "inner", Str.ofString "k"]) (rest := [Str.ofString "sign", Str.ofString "behind", Str.ofString "held"]) (gl := [])
    ⟨w.need.f229.look, w.need.f229.code, rfl, rfl, rfl, rfl, by decide +kernel, by decide +kernel, by decide +kernel, by decide +kernel, rfl, rfl⟩ gw ag rfl rfl fun env L h₁ tk₁ e hf ag' z => ?_
  refine y_cons ?_
  refine x_asg2 (B := Sb h₀) (g := g) (d := d) (os := os) e ag'.hh 2 3 rfl rfl (by decide +kernel) (by rfl) ?_
  refine evs_cons ?_
  refine x_slice_ss (g := g) (d := d) (os := os) ?_
  refine x_loc e z 0 rfl rfl ?_
  refine x_loc e z 1 rfl rfl ?_
  refine y_bin ?_
  refine x_loc e z 1 rfl rfl ?_
  refine x_int fun _ _ => ?_
  refine x_add fun _ _ => ?_
  refine ⟨_, _, _, _, _, _, _, _, rfl, rfl, rfl, rfl, by walk_at "len", fun h tk t kp => ?_⟩
  replace z := z.keepAll kp
  refine evs_cons ?_
  refine x_slice_ss (g := g) (d := d) (os := os) ?_
  refine x_loc e z 0 rfl rfl ?_
  refine y_bin ?_
  refine x_loc e z 1 rfl rfl ?_
  refine x_int fun _ _ => ?_
  refine x_add fun _ _ => ?_
  refine y_bin ?_
  refine x_loc e z 1 rfl rfl ?_
  refine x_int fun _ _ => ?_
  refine x_add fun _ _ => ?_
  refine ⟨_, _, _, _, _, _, _, _, rfl, rfl, rfl, rfl, by walk_at "len", fun h tk t kp => ?_⟩
  replace z := z.keepAll kp
  refine evs_nil ?_
  refine ⟨_, _, _, _, _, _, rfl, rfl, z, Nat.le_of_ble_eq_true rfl, Nat.le_of_ble_eq_true rfl, fun h tk z₁ => ?_⟩
  clear z; rename Z _ _ _ _ _ => z
  refine y_cons ?_
  refine y_if ?_
  refine y_tcmp ?_
  refine x_loc e z 2 rfl rfl ?_
  refine x_str [92] (by decide +kernel) fun _ _ => ?_
  refine x_eqs ?_
  refine x_truthy ?_
  refine ite_b (fun hb => ?_) fun hb => ?_
  · refine y_cons ?_
    refine y_ret ?_
    refine y_ifx ?_
    refine wpAny_isTrue_BoolOp ?_
    refine y_or ?_
    refine y_tcmp ?_
    refine x_loc e z 3 rfl rfl ?_
    refine x_str [] (by decide +kernel) fun _ _ => ?_
    refine x_eqs ?_
    refine x_truthy ?_
    refine ite_b (fun hb => ?_) fun hb => ?_
    · refine ite_t ?_
      refine x_none ?_
      exact hQ _ _ _ z.keep (by simp only [bareP, bareH, *, if_true, Bool.false_eq_true, if_false]; exact rfl)
    · refine y_or ?_
      refine y_val ?_
      refine x_meth0 F.plainAttrs_str F.slot_str_isalnum F.type_str_isalnum ?_
      refine x_loc e z 3 rfl rfl ?_
      refine ⟨⟨typeIs_str _ _ _, fun _ q => by cases q⟩, ?_⟩
      refine SC.isalnum ?_
      refine x_truthy ?_
      refine ite_b (fun hb => ?_) fun hb => ?_
      · refine ite_t ?_
        refine x_none ?_
        exact hQ _ _ _ z.keep (by simp only [bareP, bareH, *, if_true, Bool.false_eq_true, if_false]; exact rfl)
      · refine wpAny_allTrue_Or_nil ?_
        refine ite_f ?_
        refine x_list (g := g) (d := d) (os := os) ?_
        refine evs_cons ?_
        refine x_loc e z 3 rfl rfl ?_
        refine evs_cons ?_
        refine x_int fun _ _ => ?_
        refine evs_nil ?_
        refine ⟨_, _, rfl, Nat.le_of_ble_eq_true rfl, fun a h ka hn ho => ?_⟩
        have z₀ := z
        replace z := z.keepAll ka
        exact hQ _ _ _ z.keep (by simp only [bareP, bareH, *, if_true, Bool.false_eq_true, if_false]; exact bare_new z₀ hn ho)
  · refine wpAny_execs_nil ?_
    refine y_cons ?_
    refine y_if ?_
    refine y_tcmp ?_
    refine x_loc e z 2 rfl rfl ?_
    refine x_str [91] (by decide +kernel) fun _ _ => ?_
    refine x_eqs ?_
    refine x_truthy ?_
    refine ite_b (fun hb => ?_) fun hb => ?_
    · refine y_cons ?_
      refine x_asg (B := Sb h₀) (g := g) (d := d) (os := os) e 4 rfl ?_
      refine y_ifx ?_
      refine y_tcmp ?_
      refine x_loc e z 3 rfl rfl ?_
      refine x_str [92] (by decide +kernel) fun _ _ => ?_
      refine x_eqs ?_
      refine x_truthy ?_
      refine ite_b (fun hb => ?_) fun hb => ?_
      · refine x_list (g := g) (d := d) (os := os) ?_
        refine evs_cons ?_
        refine x_slice_ss (g := g) (d := d) (os := os) ?_
        refine x_loc e z 0 rfl rfl ?_
        refine y_bin ?_
        refine x_loc e z 1 rfl rfl ?_
        refine x_int fun _ _ => ?_
        refine x_add fun _ _ => ?_
        refine y_bin ?_
        refine x_loc e z 1 rfl rfl ?_
        refine x_int fun _ _ => ?_
        refine x_add fun _ _ => ?_
        refine ⟨_, _, _, _, _, _, _, _, rfl, rfl, rfl, rfl, by walk_at "len", fun h tk t kp => ?_⟩
        replace z := z.keepAll kp
        refine evs_cons ?_
        refine x_int fun _ _ => ?_
        refine evs_nil ?_
        refine ⟨_, _, rfl, Nat.le_of_ble_eq_true rfl, fun a h ka hn ho => ?_⟩
        replace z := z.add ka hn ho.choose_spec.1 ho.choose_spec.2
        refine ⟨_, _, _, _, rfl, z, Nat.le_of_ble_eq_true rfl, fun h tk z₁ => ?_⟩
        clear z; rename Z _ _ _ _ _ => z
        refine y_cons ?_
        refine y_ret ?_
        refine y_ifx ?_
        refine wpAny_isTrue_BoolOp ?_
        refine y_or ?_
        refine y_tcmp ?_
        refine y_sub ?_
        refine x_loc e z 4 rfl rfl ?_
        refine x_int fun _ _ => ?_
        refine x_item (z.get 0 rfl) (by decide) (by decide) rfl (by with_unfolding_all rfl) ?_
        refine x_list (g := g) (d := d) (os := os) ?_
        refine evs_cons ?_
        refine x_str [] (by decide +kernel) fun _ _ => ?_
        refine evs_cons ?_
        refine x_str [93] (by decide +kernel) fun _ _ => ?_
        refine evs_nil ?_
        refine ⟨_, _, rfl, Nat.le_of_ble_eq_true rfl, fun a h ka hn ho => ?_⟩
        have z₀ := z
        replace z := z.keepAll ka
        refine x_in_strs (ls := [[], [93]]) (strsOf2 ho) ?_
        refine x_truthy ?_
        refine ite_b (fun hb => ?_) fun hb => ?_
        · refine ite_t ?_
          refine x_none ?_
          exact hQ _ _ _ z.keep (by simp only [bareP, bareH, *, if_true, Bool.false_eq_true, if_false]; exact rfl)
        · refine y_or ?_
          refine y_tcmp ?_
          refine x_loc e z 3 rfl rfl ?_
          refine x_str [94] (by decide +kernel) fun _ _ => ?_
          refine x_eqs ?_
          refine x_truthy ?_
          refine ite_b (fun hb => ?_) fun hb => ?_
          · refine ite_t ?_
            refine x_none ?_
            exact hQ _ _ _ z.keep (by simp only [bareP, bareH, *, if_true, Bool.false_eq_true, if_false]; exact rfl)
          · refine y_or ?_
            refine y_tcmp ?_
            refine x_slice_ss (g := g) (d := d) (os := os) ?_
            refine x_loc e z 0 rfl rfl ?_
            refine y_bin ?_
            refine y_bin ?_
            refine x_loc e z 1 rfl rfl ?_
            refine y_sub ?_
            refine x_loc e z 4 rfl rfl ?_
            refine x_int fun _ _ => ?_
            refine x_item (z.get 0 rfl) (by decide) (by decide) rfl (by with_unfolding_all rfl) ?_
            refine x_add fun _ _ => ?_
            refine x_int fun _ _ => ?_
            refine x_sub fun _ _ => ?_
            refine y_bin ?_
            refine x_loc e z 1 rfl rfl ?_
            refine y_sub ?_
            refine x_loc e z 4 rfl rfl ?_
            refine x_int fun _ _ => ?_
            refine x_item (z.get 0 rfl) (by decide) (by decide) rfl (by with_unfolding_all rfl) ?_
            refine x_add fun _ _ => ?_
            refine ⟨_, _, _, _, _, _, _, _, rfl, rfl, rfl, rfl, by walk_at "len", fun h tk t kp => ?_⟩
            replace z := z.keepAll kp
            refine x_str [93] (by decide +kernel) fun _ _ => ?_
            refine x_nes ?_
            refine x_truthy ?_
            refine ite_b (fun hb => ?_) fun hb => ?_
            · refine ite_t ?_
              refine x_none ?_
              exact hQ _ _ _ z.keep (by simp only [bareP, bareH, *, if_true, Bool.false_eq_true, if_false]; exact rfl)
            · refine wpAny_allTrue_Or_nil ?_
              refine ite_f ?_
              refine x_loc e z 4 rfl rfl ?_
              exact hQ _ _ _ z.keep (by simp only [bareP, bareH, *, if_true, Bool.false_eq_true, if_false]; exact bare_old z 0 rfl)
      · refine x_list (g := g) (d := d) (os := os) ?_
        refine evs_cons ?_
        refine x_loc e z 3 rfl rfl ?_
        refine evs_cons ?_
        refine x_int fun _ _ => ?_
        refine evs_nil ?_
        refine ⟨_, _, rfl, Nat.le_of_ble_eq_true rfl, fun a h ka hn ho => ?_⟩
        replace z := z.add ka hn ho.choose_spec.1 ho.choose_spec.2
        refine ⟨_, _, _, _, rfl, z, Nat.le_of_ble_eq_true rfl, fun h tk z₁ => ?_⟩
        clear z; rename Z _ _ _ _ _ => z
        refine y_cons ?_
        refine y_ret ?_
        refine y_ifx ?_
        refine wpAny_isTrue_BoolOp ?_
        refine y_or ?_
        refine y_tcmp ?_
        refine y_sub ?_
        refine x_loc e z 4 rfl rfl ?_
        refine x_int fun _ _ => ?_
        refine x_item (z.get 0 rfl) (by decide) (by decide) rfl (by with_unfolding_all rfl) ?_
        refine x_list (g := g) (d := d) (os := os) ?_
        refine evs_cons ?_
        refine x_str [] (by decide +kernel) fun _ _ => ?_
        refine evs_cons ?_
        refine x_str [93] (by decide +kernel) fun _ _ => ?_
        refine evs_nil ?_
        refine ⟨_, _, rfl, Nat.le_of_ble_eq_true rfl, fun a h ka hn ho => ?_⟩
        have z₀ := z
        replace z := z.keepAll ka
        refine x_in_strs (ls := [[], [93]]) (strsOf2 ho) ?_
        refine x_truthy ?_
        refine ite_b (fun hb => ?_) fun hb => ?_
        · refine ite_t ?_
          refine x_none ?_
          exact hQ _ _ _ z.keep (by simp only [bareP, bareH, *, if_true, Bool.false_eq_true, if_false]; exact rfl)
        · refine y_or ?_
          refine y_tcmp ?_
          refine x_loc e z 3 rfl rfl ?_
          refine x_str [94] (by decide +kernel) fun _ _ => ?_
          refine x_eqs ?_
          refine x_truthy ?_
          refine ite_b (fun hb => ?_) fun hb => ?_
          · refine ite_t ?_
            refine x_none ?_
            exact hQ _ _ _ z.keep (by simp only [bareP, bareH, *, if_true, Bool.false_eq_true, if_false]; exact rfl)
          · refine y_or ?_
            refine y_tcmp ?_
            refine x_slice_ss (g := g) (d := d) (os := os) ?_
            refine x_loc e z 0 rfl rfl ?_
            refine y_bin ?_
            refine y_bin ?_
            refine x_loc e z 1 rfl rfl ?_
            refine y_sub ?_
            refine x_loc e z 4 rfl rfl ?_
            refine x_int fun _ _ => ?_
            refine x_item (z.get 0 rfl) (by decide) (by decide) rfl (by with_unfolding_all rfl) ?_
            refine x_add fun _ _ => ?_
            refine x_int fun _ _ => ?_
            refine x_sub fun _ _ => ?_
            refine y_bin ?_
            refine x_loc e z 1 rfl rfl ?_
            refine y_sub ?_
            refine x_loc e z 4 rfl rfl ?_
            refine x_int fun _ _ => ?_
            refine x_item (z.get 0 rfl) (by decide) (by decide) rfl (by with_unfolding_all rfl) ?_
            refine x_add fun _ _ => ?_
            refine ⟨_, _, _, _, _, _, _, _, rfl, rfl, rfl, rfl, by walk_at "len", fun h tk t kp => ?_⟩
            replace z := z.keepAll kp
            refine x_str [93] (by decide +kernel) fun _ _ => ?_
            refine x_nes ?_
            refine x_truthy ?_
            refine ite_b (fun hb => ?_) fun hb => ?_
            · refine ite_t ?_
              refine x_none ?_
              exact hQ _ _ _ z.keep (by simp only [bareP, bareH, *, if_true, Bool.false_eq_true, if_false]; exact rfl)
            · refine wpAny_allTrue_Or_nil ?_
              refine ite_f ?_
              refine x_loc e z 4 rfl rfl ?_
              exact hQ _ _ _ z.keep (by simp only [bareP, bareH, *, if_true, Bool.false_eq_true, if_false]; exact bare_old z 0 rfl)
    · refine wpAny_execs_nil ?_
      refine y_cons ?_
      refine y_ret ?_
      refine y_ifx ?_
      refine y_tcmp ?_
      refine x_loc e z 2 rfl rfl ?_
      refine x_str [93, 40, 41, 42, 43, 63, 123, 125, 124, 94, 36] (by decide +kernel) fun _ _ => ?_
      refine x_in_str ?_
      refine x_truthy ?_
      refine ite_b (fun hb => ?_) fun hb => ?_
      · refine x_none ?_
        exact hQ _ _ _ z.keep (by simp only [bareP, bareH, *, if_true, Bool.false_eq_true, if_false]; exact rfl)
      · refine x_list (g := g) (d := d) (os := os) ?_
        refine evs_cons ?_
        refine y_ifx ?_
        refine y_tcmp ?_
        refine x_loc e z 2 rfl rfl ?_
        refine x_str [46] (by decide +kernel) fun _ _ => ?_
        refine x_eqs ?_
        refine x_truthy ?_
        refine ite_b (fun hb => ?_) fun hb => ?_
        · refine x_str [] (by decide +kernel) fun _ _ => ?_
          refine evs_cons ?_
          refine x_int fun _ _ => ?_
          refine evs_nil ?_
          refine ⟨_, _, rfl, Nat.le_of_ble_eq_true rfl, fun a h ka hn ho => ?_⟩
          have z₀ := z
          replace z := z.keepAll ka
          exact hQ _ _ _ z.keep (by simp only [bareP, bareH, *, if_true, Bool.false_eq_true, if_false]; exact bare_new z₀ hn ho)
        · refine x_loc e z 2 rfl rfl ?_
          refine evs_cons ?_
          refine x_int fun _ _ => ?_
          refine evs_nil ?_
          refine ⟨_, _, rfl, Nat.le_of_ble_eq_true rfl, fun a h ka hn ho => ?_⟩
          have z₀ := z
          replace z := z.keepAll ka
          exact hQ _ _ _ z.keep (by simp only [bareP, bareH, *, if_true, Bool.false_eq_true, if_false]; exact bare_new z₀ hn ho)
end
end Mine
namespace Mine

/-- a place that a unit lets on -/
noncomputable def fitsHit (word unit : List Nat) (k : Int) : Bool := decide (k < word.length) && (unit == [63] || [unit.getLastD 0] == [word.getD k.toNat 0])
noncomputable def fitsStep (word unit : List Nat) (ps : List Int) : List Int :=
  if unit == [42] then (if !decide (ps = []) then rangeL (ps.headD 0) (word.length + 1) else []) else (ps.filter (fitsHit word unit)).map (· + 1)
noncomputable def fitsAt (word : List Nat) (units : List (List Nat)) (i : Nat) : List Int := (units.take i).foldl (fun ps u => fitsStep word u ps) [0]
/-- the units fit the word -/
noncomputable def fitsP (units : List (List Nat)) (word : List Nat) : Bool := (fitsAt word units units.length).any (fun x => x == (word.length : Int))
theorem fitsAt_succ (word : List Nat) (units : List (List Nat)) {i : Nat} (hi : i < units.length) : fitsAt word units (i + 1) = fitsStep word units[i] (fitsAt word units i) := by
  unfold fitsAt
  rw [List.take_succ_eq_append_getElem hi, List.foldl_append]; rfl
theorem rangeL_mem {a b x : Int} (h : x ∈ rangeL a b) : a ≤ x ∧ x < b := by
  unfold rangeL at h
  obtain ⟨k, hk, rfl⟩ := List.mem_map.mp h
  exact ⟨Int.le_add_of_nonneg_right (Int.natCast_nonneg k), Int.add_lt_of_lt_sub_left (Int.lt_toNat.mp (List.mem_range.mp hk))⟩
theorem fitsStep_nonneg {word unit : List Nat} {ps : List Int} (h : ∀ k ∈ ps, 0 ≤ k ∧ k ≤ word.length) : ∀ k ∈ fitsStep word unit ps, 0 ≤ k ∧ k ≤ word.length := by
  intro k hk
  unfold fitsStep at hk
  split at hk
  · split at hk
    · have := rangeL_mem hk
      cases ps with
      | nil => exact ⟨this.1, Int.le_of_lt_add_one this.2⟩
      | cons p ps => exact ⟨Int.le_trans (h p List.mem_cons_self).1 this.1, Int.le_of_lt_add_one this.2⟩
    · cases hk
  · obtain ⟨j, hj, rfl⟩ := List.mem_map.mp hk
    have h1 := h j (List.mem_filter.mp hj).1
    have h2 := (List.mem_filter.mp hj).2
    unfold fitsHit at h2
    rw [Bool.and_eq_true, decide_eq_true_eq] at h2
    exact ⟨Int.le_trans h1.1 (Int.le_add_of_nonneg_right (by decide)), h2.1⟩
theorem fitsAt_nonneg (word : List Nat) (units : List (List Nat)) (i : Nat) : ∀ k ∈ fitsAt word units i, 0 ≤ k ∧ k ≤ word.length := by
  unfold fitsAt
  have step : ∀ (us : List (List Nat)) (ps : List Int), (∀ k ∈ ps, 0 ≤ k ∧ k ≤ word.length) → ∀ k ∈ us.foldl (fun ps u => fitsStep word u ps) ps, 0 ≤ k ∧ k ≤ word.length := by
    intro us
    induction us with
    | nil => intro ps h; exact h
    | cons u us ih => intro ps h; exact ih _ (fitsStep_nonneg h)
  exact step _ _ (by intro k hk; simp at hk; lia)
theorem fitsStep_len {word unit : List Nat} {ps : List Int} (hn : ∀ k ∈ ps, 0 ≤ k ∧ k ≤ word.length) (hw : word.length ≤ 1000) (h : ps.length ≤ 5000) : (fitsStep word unit ps).length ≤ 5000 := by
  unfold fitsStep
  split
  · split
    · rw [rangeL_len]
      have : 0 ≤ ps.headD 0 := by
        cases ps with
        | nil => simp
        | cons p ps => exact (hn p List.mem_cons_self).1
      lia
    · simp
  · rw [List.length_map]
    exact Nat.le_trans (List.length_filter_le _ _) h
theorem fitsAt_len (word : List Nat) (units : List (List Nat)) (hw : word.length ≤ 1000) (i : Nat) : (fitsAt word units i).length ≤ 5000 := by
  unfold fitsAt
  have step : ∀ (us : List (List Nat)) (ps : List Int), (∀ k ∈ ps, 0 ≤ k ∧ k ≤ word.length) → ps.length ≤ 5000 → (us.foldl (fun ps u => fitsStep word u ps) ps).length ≤ 5000 := by
    intro us
    induction us with
    | nil => intro ps _ h; exact h
    | cons u us ih => intro ps h h'; exact ih _ (fitsStep_nonneg h) (fitsStep_len h hw h')
  exact step _ _ (by intro k hk; simp at hk; lia) (by simp)
theorem ints0 {o : Obj} (h : LstO [] o) : ILst [] o := ⟨_, .nil, h⟩
theorem ints1 {o : Obj} {k : Int} (t : Tok) (h : LstO [.int k t] o) : ILst [k] o := ⟨_, .cons k t .nil, h⟩
theorem rng_lo {p0 : Int} {n : Nat} (h : 0 ≤ p0 ∧ p0 ≤ (n : Int)) (hw : n ≤ 1000) : -1000000 ≤ p0 ∧ p0 ≤ 1000000 := by lia
theorem rng_hi {n : Nat} (hw : n ≤ 1000) : -1000000 ≤ (n : Int) + 1 ∧ (n : Int) + 1 ≤ 1000000 := by lia
theorem filter_yes {p : Int → Bool} {ps : List Int} {i : Nat} {acc : List Value} (hi : i < ps.length) (hh : p ps[i] = true) (hJ : IntsAre acc (((ps.take i).filter p).map (· + 1))) (t : Tok) :
    IntsAre (acc ++ [.int (ps[i] + 1) t]) (((ps.take (i + 1)).filter p).map (· + 1)) := by
  rw [List.take_succ_eq_append_getElem hi, List.filter_append, List.filter_cons_of_pos hh, List.map_append]
  exact ints_snoc hJ _ _
theorem filter_no {p : Int → Bool} {ps : List Int} {i : Nat} {acc : List Value} (hi : i < ps.length) (hh : p ps[i] = false) (hJ : IntsAre acc (((ps.take i).filter p).map (· + 1))) : IntsAre acc (((ps.take (i + 1)).filter p).map (· + 1)) := by
  rw [List.take_succ_eq_append_getElem hi, List.filter_append, List.filter_cons_of_neg (ne_true_of_eq_false hh), List.filter_nil, List.append_nil]
  exact hJ
theorem filter_all {p : Int → Bool} {ps : List Int} {n : Nat} {acc : List Value} (hn : n = ps.length) (hJ : IntsAre acc (((ps.take n).filter p).map (· + 1))) : IntsAre acc ((ps.filter p).map (· + 1)) := by
  rw [hn, List.take_length] at hJ; exact hJ
section
variable {w : WK} {A : Around} {E : Value → Shared → Prop} {h₀ : Heap} {g : Array GenState} {d : Drawn} {os : OsState}
variable {tk : Nat}
theorem fits_call (gw : G w h₀) (ag : AG 3 A) (units : List (List Nat)) (word : List Nat) (au : Addr) (tw : Tok) (hu : ∃ o, h₀.get? au = some o ∧ SLst units o) (hul : units.length ≤ 1000) (hw : word.length ≤ 1000) (hne₀ : ∀ u ∈ units, u ≠ [])
    (hul2 : ∀ u ∈ units, u.length ≤ 1000) {Q : Value → Shared → Prop}
    (hQ : ∀ h' tk', Keep h₀ h' → Q (.bool (fitsP units word)) ⟨h', g, d, tk', os⟩) :
    wpAny (model PP w.w) A (call (.ref 215) [.ref au, .str (S word) tw]) Q E ⟨h₀, g, d, tk, os⟩ := by
  refine x_callC (a := 215) (ks := [Str.ofString "units"]) (rest := [Str.ofString "places"]) (gl := [Str.ofString "list", Str.ofString "range", Str.ofString "len"]) (cn := [Str.ofString "word", Str.ofString "unit"]) (largs := [.ref au]) (cvals := [some (.str (S word) tw), none])
    ⟨w.need.f215.look, w.need.f215.code, rfl, rfl, rfl, rfl, rfl, by decide +kernel, by decide +kernel, by decide +kernel, by decide +kernel, by decide +kernel, fun _ => rfl, rfl, rfl⟩ gw ag rfl (by rfl) (by rfl) rfl (by rfl) fun env L h₁ tk₁ e hf ag' z => ?_
  refine y_cons ?_
  refine x_asg (B := Sb h₀) (g := g) (d := d) (os := os) e.toEnvL 1 rfl ?_
  refine x_list (g := g) (d := d) (os := os) ?_
  refine evs_cons ?_
  refine x_int fun _ _ => ?_
  refine evs_nil ?_
  refine ⟨_, _, rfl, Nat.le_of_ble_eq_true rfl, fun a h ka hn ho => ?_⟩
  replace z := z.add ka hn ho.choose_spec.1 (ints1 _ ho.choose_spec.2)
  refine ⟨_, _, _, _, rfl, z, Nat.le_of_ble_eq_true rfl, fun h tk z₁ => ?_⟩
  clear z; rename Z _ _ _ _ _ => z
  refine y_cons ?_
  refine wpAny_For ?_
  refine x_loc e.toEnvL z 0 rfl rfl ?_
  obtain ⟨ou, hou, us, husA, husL⟩ := hu
  have hlist : ∀ h, Keep h₀ h → h.IsList au us.toArray := fun h k => Lst.isList (h := h) ⟨ou, k _ _ hou, husL⟩
  refine x_iter_list (hlist _ z.keep) fun I h' kI hI hIt => ?_
  replace z := z.add kI hI hIt.choose_spec.1 hIt.choose_spec.2
  have hlen : us.length = units.length := by rw [strs_len husA, List.length_map]
  refine x_forG (R := fun r s' => match r with | .ok f => _ | .error e => _) (A := A.deeper env) (names := [Str.ofString "units"] ++ [Str.ofString "places"]) (iter_list ag'.hh I au us) (σ := Addr × Option Value)
    (fun i _ => True) (fun i st => [some (.ref au), some (.ref st.1)]) (fun i st => [(L + 1, CellO (some (.str (S word) tw))), (L + 2, CellO st.2), (st.1, ILst (fitsAt word units i))]) (fun _ _ => g) (a, none)
    trivial (z.pick [0, 2, 3, 1] (by decide)) (fun i st h _ z => hlist h z.keep) ?_ ?_
  · intro i st v h tk hi hv _ z
    obtain ⟨p, cv⟩ := st
    have hiu : i < units.length := hlen ▸ hi
    obtain ⟨tu, hv'⟩ := strs_get husA (i := i) (y := S units[i]) (by rw [List.getElem?_map, List.getElem?_eq_getElem hiu]; rfl)
    obtain rfl : Value.str (S units[i]) tu = v := Option.some.inj (hv'.symm.trans hv)
    refine wpAny_assign_Name (x_cst e z 1 rfl rfl 2 rfl fun h z _ => ?_)
    refine absQ fun Qb hb0 => ?_
    have hne : units[i] ≠ [] := hne₀ _ (List.getElem_mem hiu)
    have hu1 : units[i].length ≤ 1000 := hul2 _ (List.getElem_mem hiu)
    have hstep : fitsAt word units (i + 1) = fitsStep word units[i] (fitsAt word units i) := fitsAt_succ word units hiu
    have hnn : ∀ k ∈ fitsAt word units i, 0 ≤ k ∧ k ≤ word.length := fitsAt_nonneg word units i
    have hpl : (fitsAt word units i).length ≤ 5000 := fitsAt_len word units hw i
    clear hv hv'
    have nxt : ∀ {l : Addr} {ps : List Int} {h : Heap} {tk : Nat}, fitsStep word units[i] (fitsAt word units i) = ps → Z (Sb h₀) L (fr ([Str.ofString "units"] ++ [Str.ofString "places"]) [some (.ref au), some (.ref l)]) [(I, ListIt au (i + 1)), (L + 1, CellO (some (.str (S word) tw))), (L + 2, CellO (some (.str (S units[i]) tu))), (l, ILst ps)] h → Qb .next ⟨h, g, d, tk, os⟩ :=
      fun {l ps h tk} e1 z => hb0 .next _ ⟨(l, some (.str (S units[i]) tu)), h, tk, rfl, trivial, by rw [hstep, e1]; exact z⟩
    clear hb0 hstep
    generalize units[i] = unit at z hne hu1 nxt
    generalize fitsAt word units i = ps at z hnn hpl nxt
    refine y_cons ?_
    refine y_if ?_
    refine y_tcmp ?_
    refine x_cel e z 1 rfl rfl 2 rfl ?_
    refine x_str [42] (by decide +kernel) fun _ _ => ?_
    refine x_eqs ?_
    refine x_truthy ?_
    refine ite_b (fun hb => ?_) fun hb => ?_
    · refine y_cons ?_
      refine x_asg (B := Sb h₀) (g := g) (d := d) (os := os) e.toEnvL 1 rfl ?_
      refine y_ifx ?_
      refine y_tcmp ?_
      refine x_loc e.toEnvL z 1 rfl rfl ?_
      refine x_list (g := g) (d := d) (os := os) ?_
      refine evs_nil ?_
      refine ⟨_, _, rfl, Nat.le_of_ble_eq_true rfl, fun a h ka hn ho => ?_⟩
      replace z := z.keepAll ka
      refine x_ne_ints (z.get 3 rfl) (let ⟨o, e, q⟩ := ho; ⟨o, e, ints0 q⟩) ag'.eq_room ?_
      refine x_truthy ?_
      cases ps with
      | cons p0 pr =>
        have hp0 := hnn p0 List.mem_cons_self
        refine ite_t ?_
        refine x_tcall (T := "list") ?_
        refine x_glob e.toEnvL (gw.keep z.keep) 0 rfl (gv_list w) ?_
        refine ⟨rfl, ?_⟩
        refine evs_cons ?_
        refine x_tcall (T := "range") ?_
        refine x_glob e.toEnvL (gw.keep z.keep) 1 rfl (gv_range w) ?_
        refine ⟨rfl, ?_⟩
        refine evs_cons ?_
        refine y_sub ?_
        refine x_loc e.toEnvL z 1 rfl rfl ?_
        refine x_int fun _ _ => ?_
        refine x_item_int (y := p0) (z.get 3 rfl) (by decide) (by decide) rfl (by with_unfolding_all rfl) fun _ => ?_
        refine evs_cons ?_
        refine y_bin ?_
        refine x_bcall (id := "len") ?_
        refine x_glob e.toEnvL (gw.keep z.keep) 2 rfl (gv_len w) ?_
        refine ⟨rfl, ?_⟩
        refine evs_cons ?_
        refine x_cel e z 0 rfl rfl 1 rfl ?_
        refine evs_nil ?_
        refine x_len_str (le_big hw) fun _ _ => ?_
        refine x_int fun _ _ => ?_
        refine x_add fun _ _ => ?_
        refine evs_nil ?_
        refine x_range2 fun r h tk kr hr hro => ?_
        replace z := z.keepAll kr
        refine evs_nil ?_
        refine x_list_range ag'.hh hro (rng_lo hp0 hw) (rng_hi hw) fun l h tk kl hl hlo => ?_
        replace z := z.add kl hl hlo.choose_spec.1 hlo.choose_spec.2
        refine ⟨_, _, _, _, rfl, z, Nat.le_of_ble_eq_true rfl, fun h tk z₁ => ?_⟩
        refine wpAny_execs_nil ?_
        refine wpAny_execs_nil ?_
        exact nxt (by unfold fitsStep; rw [if_pos hb]; rfl) (z₁.pick [1, 2, 3, 0] (by decide))
      | nil =>
        refine ite_f ?_
        refine x_list (g := g) (d := d) (os := os) ?_
        refine evs_nil ?_
        refine ⟨_, _, rfl, Nat.le_of_ble_eq_true rfl, fun a h ka hn ho => ?_⟩
        replace z := z.add ka hn ho.choose_spec.1 (ints0 ho.choose_spec.2)
        refine ⟨_, _, _, _, rfl, z, Nat.le_of_ble_eq_true rfl, fun h tk z₁ => ?_⟩
        refine wpAny_execs_nil ?_
        refine wpAny_execs_nil ?_
        exact nxt (by unfold fitsStep; rw [if_pos hb]; rfl) (z₁.pick [1, 2, 3, 0] (by decide))
    · refine y_cons ?_
      refine x_asgCompC (B := Sb h₀) (d := d) (os := os) e 1 rfl [Str.ofString "k"] [Str.ofString "len"] [Str.ofString "unit", Str.ofString "word"] [L + 2, L + 1]
        ⟨rfl, by decide +kernel, by decide +kernel, by decide +kernel, by decide +kernel, by decide +kernel, by decide +kernel, by decide +kernel, by decide +kernel⟩ rfl (cells_two rfl rfl rfl rfl) ?_ (hsw := by exact swaps_local e.kind (e.loc _ (List.mem_of_getElem? (i := 1) rfl)).1 rfl (by decide +kernel))
      refine x_loc e.toEnvL z 1 rfl rfl ?_
      obtain ⟨op, hop, pv, hpv, hpl2⟩ := z.get 3 rfl
      refine ⟨_, _, _, _, _, rfl, z, Nat.le_of_ble_eq_true rfl, ?_⟩
      refine x_iter_list (Lst.isList (h := h) ⟨op, hop, hpl2⟩) fun I₂ h₂ k₂ hI₂ hIt₂ => ?_
      refine ⟨I₂, h₂, _, _, _, _, _, rfl, rfl, k₂, hI₂, hIt₂, iter_list ag'.hh I₂ p pv, fun C D h₃ tk₃ cenv ce zc => ?_⟩
      have hpvl : pv.length = ps.length := ints_len hpv
      have hcu : ∃ o, h.get? (L + 2) = some o ∧ CellO (some (.str (S unit) tu)) o := z.get 2 rfl
      have hcw : ∃ o, h.get? (L + 1) = some o ∧ CellO (some (.str (S word) tw)) o := z.get 1 rfl
      have gwh : G w h := gw.keep z.keep
      clear z
      refine x_comploop (A := A.deeper env) (names := [Str.ofString "k"]) (iter_list ag'.hh I₂ p pv) (σ := List Value × Option Value)
        (fun i st => IntsAre st.1 (((ps.take i).filter (fitsHit word unit)).map (· + 1))) (fun _ st => [st.2]) (fun _ st => st.1) (fun _ _ => []) (fun _ _ => g) ([], none)
        .nil zc (fun i st h' _ z => Lst.isList (h := h') ⟨op, z.keep _ _ hop, hpl2⟩) (fun i st hJ => ?_) ?_ ?_
      · rw [ints_len hJ, List.length_map]
        exact Nat.le_trans (List.length_filter_le _ _) (Nat.le_trans (List.length_take_le' _ _) (le_trans' hpl))
      · intro i st v h' tk' hi hv hJ z
        obtain ⟨acc, kv⟩ := st
        have hi' : i < ps.length := hpvl ▸ hi
        obtain ⟨t, e1⟩ := ints_get hpv (i := i) (y := ps[i]) (List.getElem?_eq_getElem hi')
        obtain rfl : Value.int ps[i] t = v := Option.some.inj (e1.symm.trans hv)
        have hk0 : 0 ≤ ps[i] := (hnn _ (List.getElem_mem hi')).1
        refine x_stoName ce.toEnvL z 0 rfl Nat.one_pos fun h' tk' z _ => ?_
        refine tests_one ?_
        refine y_and2 (a := decide (ps[i] < word.length)) (b := unit == [63] || [unit.getLastD 0] == [word.getD (ps[i]).toNat 0]) (g := g) (fun Q1 tk q => ?_) (fun hlw h1 k1 Q1 tk q => ?_) fun h' tk kp => ?_
        · refine y_tcmp ?_
          refine x_loc ce.toEnvL z 0 rfl rfl ?_
          refine x_bcall (id := "len") ?_
          refine x_glob ce.toEnvL (gwh.keep z.keep) 0 rfl (gv_len w) ?_
          refine ⟨rfl, ?_⟩
          refine evs_cons ?_
          refine x_celB ce 1 rfl rfl (cellK hcw z.keep) ?_
          refine evs_nil ?_
          refine x_len_str (le_big hw) fun _ _ => ?_
          refine x_lti ?_
          refine x_truthy ?_
          exact q _ _ (Keep.refl _)
        · replace z := z.keepAll k1
          refine y_or2 (g := g) (fun Q1 tk q => ?_) (fun _ h1 k1 Q1 tk q => ?_) q
          · refine y_tcmp ?_
            refine x_celB ce 0 rfl rfl (cellK hcu z.keep) ?_
            refine x_str [63] (by decide +kernel) fun _ _ => ?_
            refine x_eqs ?_
            refine x_truthy ?_
            exact q _ _ (Keep.refl _)
          · replace z := z.keepAll k1
            refine y_tcmp ?_
            refine y_sub ?_
            refine x_celB ce 0 rfl rfl (cellK hcu z.keep) ?_
            refine y_un ?_
            refine x_int fun _ _ => ?_
            refine x_neg1 fun _ _ => ?_
            refine x_sign (le_big hu1) (last_sign hne) (by with_unfolding_all rfl) fun _ _ => ?_
            refine y_sub ?_
            refine x_celB ce 1 rfl rfl (cellK hcw z.keep) ?_
            refine x_loc ce.toEnvL z 0 rfl rfl ?_
            refine x_sign (le_big hw) (at_sign hk0 (of_decide_eq_true hlw)) (by with_unfolding_all rfl) fun _ _ => ?_
            refine x_eqs ?_
            refine x_truthy ?_
            exact q _ _ (Keep.refl _)
        replace z := z.keepAll kp
        refine ite_b (fun hh => ?_) fun hh => ?_
        · refine y_bin ?_
          refine x_loc ce.toEnvL z 0 rfl rfl ?_
          refine x_int fun _ _ => ?_
          refine x_add fun _ _ => ?_
          exact ⟨(acc ++ [_], some _), _, _, rfl, filter_yes (p := fitsHit word unit) hi' hh hJ _, rfl, z⟩
        · exact ⟨(acc, some _), _, _, rfl, filter_no (p := fitsHit word unit) hi' hh hJ, rfl, z⟩
      · intro st h' tk' hJ z
        obtain ⟨acc, kv⟩ := st
        refine ⟨rfl, acc, [], h', tk', g, _, rfl, z, fun h tk z => wpAny_execs_nil (wpAny_execs_nil ?_)⟩
        have hJ' : IntsAre acc ((ps.filter (fitsHit word unit)).map (· + 1)) := filter_all hpvl hJ
        exact nxt (by unfold fitsStep; rw [if_neg (ne_true_of_eq_false hb)]) ((z.mono 0 rfl (fun o (ho : LstO acc o) => (⟨acc, hJ', ho⟩ : ILst _ o))).pick [1, 2, 3, 0] (by decide))
  · intro st h tk _ z
    obtain ⟨p, cv⟩ := st
    refine y_cons ?_
    refine y_ret ?_
    refine y_cmp ?_
    refine x_bcall (id := "len") ?_
    refine x_glob e.toEnvL (gw.keep z.keep) 2 rfl (gv_len w) ?_
    refine ⟨rfl, ?_⟩
    refine evs_cons ?_
    refine x_cel e z 0 rfl rfl 0 rfl ?_
    refine evs_nil ?_
    refine x_len_str (le_big hw) fun _ _ => ?_
    refine x_loc e.toEnvL z 1 rfl rfl ?_
    refine x_in_ints (z.get 2 rfl) ?_
    have e3 : us.length = units.length := hlen
    rw [e3]
    exact hQ _ _ z.keep
end
end Mine
namespace Mine

theorem AG.le {n m : Nat} {A : Around} (x : AG n A) (h : m ≤ n) : AG m A := ⟨x.hh, by have := x.dp; lia, by have := x.un; lia⟩
noncomputable def takesHit (word b : List Nat) (p : Int) : Bool := decide (p < word.length) && ([[], [word.getD p.toNat 0]] : List (List Nat)).any (fun x => x == b)
noncomputable def takesStep (inner word : List Nat) (k : Int) (ps : List Int) (deep : Int) : Option (Int × List Int × Int) :=
  if (cut inner (some k) (some (k + 6)) == [40, 63, 62, 46, 42, 63]) && deep == 0 then some (k + 6, rangeL (ps.headD 0) (word.length + 1), 1)
  else if ([inner.getD k.toNat 0] == [41]) && deep == 1 then some (k + 1, ps.take 1, 0)
  else if (cut inner (some k) (some (k + 2)) == [46, 42]) && deep == 0 then some (k + 2, rangeL (ps.headD 0) (word.length + 1), 2)
  else match bareP inner k with
    | none => none
    | some (b, n) => some (k + n, (ps.filter (takesHit word b)).map (· + 1), deep)
noncomputable def takesGo (inner word : List Nat) : Nat → Int → List Int → Int → Bool
  | 0, _, _, _ => false
  | f + 1, k, ps, deep => if decide (k < inner.length) && !decide (ps = []) then (match takesStep inner word k ps deep with
      | none => false
      | some s => takesGo inner word f s.1 s.2.1 s.2.2) else (deep != 1 && ps.any (fun x => x == (word.length : Int)))
noncomputable def takesP (text word : List Nat) : Bool :=
  if text != [40, 63, 115, 58] ++ cut text (some 4) (some (-3)) ++ [41, 92, 90] then false else takesGo (cut text (some 4) (some (-3))) word ((cut text (some 4) (some (-3))).length + 1) 0 [0] 0
theorem takesGo_end {inner word : List Nat} {fu : Nat} {k : Int} {ps : List Int} {deep : Int} (hf : 0 < fu) (h : (decide (k < inner.length) && !decide (ps = [])) = false) :
    takesGo inner word fu k ps deep = (deep != 1 && ps.any (fun x => x == (word.length : Int))) := by
  cases fu with
  | zero => lia
  | succ f => simp only [takesGo, h, Bool.false_eq_true, if_false]
theorem takesGo_step {inner word : List Nat} {fu : Nat} {k : Int} {ps : List Int} {deep : Int} {s : Int × List Int × Int} (hk : k < inner.length) (hp : ps ≠ []) (hs : takesStep inner word k ps deep = some s) :
    0 < fu → ∃ fu', fu = fu' + 1 ∧ takesGo inner word fu k ps deep = takesGo inner word fu' s.1 s.2.1 s.2.2 := by
  intro hf
  cases fu with
  | zero => lia
  | succ f =>
    refine ⟨f, rfl, ?_⟩
    have : (decide (k < inner.length) && !decide (ps = [])) = true := by simp [hk, hp]
    simp only [takesGo, this, if_true, hs]
theorem takesGo_none {inner word : List Nat} {fu : Nat} {k : Int} {ps : List Int} {deep : Int} (hk : k < inner.length) (hp : ps ≠ []) (hs : takesStep inner word k ps deep = none) : takesGo inner word fu k ps deep = false := by
  cases fu with
  | zero => rfl
  | succ f =>
    have : (decide (k < inner.length) && !decide (ps = [])) = true := by simp [hk, hp]
    simp only [takesGo, this, if_true, hs]
noncomputable def Few (r : Option (List Nat × Int)) : Prop := ∀ b n, r = some (b, n) → 1 ≤ n ∧ n ≤ 4
theorem few_ite {c : Prop} [Decidable c] {x y : Option (List Nat × Int)} (hx : Few x) (hy : Few y) : Few (if c then x else y) := by
  split
  · exact hx
  · exact hy
theorem few_none : Few none := fun _ _ q => by cases q
theorem few_some {b : List Nat} {n : Int} (h : 1 ≤ n ∧ n ≤ 4) : Few (some (b, n)) := fun _ _ q => by cases q; exact h
theorem few_H (l : List Nat) (k : Int) (behind h : List Nat) {n : Int} (q : 1 ≤ n ∧ n ≤ 4) : Few (bareH l k behind h n) := few_ite few_none (few_ite few_none (few_ite few_none (few_some q)))
theorem bareP_pos {l : List Nat} {k : Int} {b : List Nat} {n : Int} (h : bareP l k = some (b, n)) : 1 ≤ n ∧ n ≤ 4 :=
  (few_ite (few_ite few_none (few_ite few_none (few_some (by decide)))) (few_ite (few_ite (few_H _ _ _ _ (by decide)) (few_H _ _ _ _ (by decide))) (few_ite few_none (few_ite (few_some (by decide)) (few_some (by decide))))) : Few (bareP l k)) b n h
theorem takes_bounds {inner word : List Nat} {k : Int} {ps : List Int} {deep : Int} {s : Int × List Int × Int} (hb : ∀ p ∈ ps, 0 ≤ p ∧ p ≤ (word.length : Int)) (hl : ps.length ≤ 5000) (hw : word.length ≤ 1000) (hs : takesStep inner word k ps deep = some s) :
    k < s.1 ∧ s.2.1.length ≤ 5000 ∧ ∀ p ∈ s.2.1, 0 ≤ p ∧ p ≤ word.length := by
  have h0 : 0 ≤ ps.headD 0 ∧ ps.headD 0 ≤ word.length := by
    cases ps with
    | nil => simp
    | cons p ps => exact hb p List.mem_cons_self
  have hr : (rangeL (ps.headD 0) (word.length + 1)).length ≤ 5000 ∧ ∀ p ∈ rangeL (ps.headD 0) (word.length + 1), 0 ≤ p ∧ p ≤ word.length := by
    refine ⟨by rw [rangeL_len]; lia, fun p hp => ?_⟩
    have := rangeL_mem hp
    exact ⟨Int.le_trans h0.1 this.1, Int.le_of_lt_add_one this.2⟩
  unfold takesStep at hs
  split at hs
  · injection hs with hs; subst hs; exact ⟨Int.lt_add_of_pos_right _ (by decide), hr.1, hr.2⟩
  · split at hs
    · injection hs with hs; subst hs
      exact ⟨Int.lt_add_of_pos_right _ (by decide), Nat.le_trans (List.length_take_le _ _) (by decide), fun p hp => hb p (List.mem_of_mem_take hp)⟩
    · split at hs
      · injection hs with hs; subst hs; exact ⟨Int.lt_add_of_pos_right _ (by decide), hr.1, hr.2⟩
      · split at hs
        · cases hs
        · rename_i b n hbare
          injection hs with hs; subst hs
          have := bareP_pos hbare
          refine ⟨Int.lt_add_of_pos_right _ (Int.lt_of_lt_of_le (by decide) this.1), ?_, fun p hp => ?_⟩
          · dsimp only; rw [List.length_map]; exact Nat.le_trans (List.length_filter_le _ _) hl
          · obtain ⟨j, hj, rfl⟩ := List.mem_map.mp hp
            have h1 := hb j (List.mem_filter.mp hj).1
            have h2 := (List.mem_filter.mp hj).2
            unfold takesHit at h2
            rw [Bool.and_eq_true, decide_eq_true_eq] at h2
            exact ⟨Int.le_trans h1.1 (Int.le_add_of_nonneg_right (by decide)), h2.1⟩
theorem fn_at {w : WK} {h : Heap} {a : Addr} {fd : FuncData} (gw : G w h) (f : Fn (KK w) a fd) : ∃ o fd, h.get? a = some o ∧ o.data = .func fd :=
  let ⟨_, _, _, q⟩ := f.look
  ⟨_, _, gw.K _ _ q, rfl⟩
section
variable {inner word : List Nat} {k : Int} {ps : List Int} {deep : Int}
theorem takesStep_1 (h : ((cut inner (some k) (some (k + 6)) == [40, 63, 62, 46, 42, 63]) && deep == 0) = true) : takesStep inner word k ps deep = some (k + 6, rangeL (ps.headD 0) (word.length + 1), 1) := by
  unfold takesStep; rw [if_pos h]
variable (h1 : ((cut inner (some k) (some (k + 6)) == [40, 63, 62, 46, 42, 63]) && deep == 0) = false)
include h1
theorem takesStep_2 (h2 : (([inner.getD k.toNat 0] == [41]) && deep == 1) = true) : takesStep inner word k ps deep = some (k + 1, ps.take 1, 0) := by
  unfold takesStep; rw [if_neg (ne_true_of_eq_false h1), if_pos h2]
variable (h2 : (([inner.getD k.toNat 0] == [41]) && deep == 1) = false)
include h2
theorem takesStep_3 (h3 : ((cut inner (some k) (some (k + 2)) == [46, 42]) && deep == 0) = true) : takesStep inner word k ps deep = some (k + 2, rangeL (ps.headD 0) (word.length + 1), 2) := by
  unfold takesStep; rw [if_neg (ne_true_of_eq_false h1), if_neg (ne_true_of_eq_false h2), if_pos h3]
variable (h3 : ((cut inner (some k) (some (k + 2)) == [46, 42]) && deep == 0) = false)
include h3
theorem takesStep_4 (h4 : bareP inner k = none) : takesStep inner word k ps deep = none := by
  unfold takesStep; rw [if_neg (ne_true_of_eq_false h1), if_neg (ne_true_of_eq_false h2), if_neg (ne_true_of_eq_false h3), h4]
theorem takesStep_5 {b : List Nat} {n : Int} (h4 : bareP inner k = some (b, n)) : takesStep inner word k ps deep = some (k + n, (ps.filter (takesHit word b)).map (· + 1), deep) := by
  unfold takesStep; rw [if_neg (ne_true_of_eq_false h1), if_neg (ne_true_of_eq_false h2), if_neg (ne_true_of_eq_false h3), h4]
end
/-- what _law_bare hands on, as a part of the ledger -/
inductive BareL (r : Option (List Nat × Int)) (v : Value) (n : Led) : Prop
  | none (e : r = .none) (e1 : v = .none) (e2 : n = [])
  | some (b : List Nat) (k : Int) (a : Addr) (t u : Tok) (e : r = some (b, k)) (e1 : v = .ref a) (e2 : n = [(a, LstO [.str (S b) t, .int k u])])
theorem bare_led {r : Option (List Nat × Int)} {v : Value} {h h' : Heap} {B : Addr → Obj → Prop} {L : Addr} {m : Str → Option Value} {n : Led} {G : Prop} (hv : BareIs r v h h') (z : Z B L m n h) (kp : Keep h h')
    (k : ∀ n', BareL r v n' → Z B L m (n ++ n') h' → G) : G := by
  match r, hv with
  | .none, hv => exact k [] (.none rfl hv rfl) (by rw [List.append_nil]; exact z.keepAll kp)
  | .some (b, i), hv =>
    obtain ⟨a, t, u, e, hn, o, ho, hl⟩ := hv
    exact k _ (.some b i a t u rfl e rfl) ((z.add kp hn ho hl).perm List.perm_append_comm)
theorem is_bare {M : Model} {A : Around} {E : Value → Shared → Prop} {s : Shared} {r : Option (List Nat × Int)} {v : Value} {n : Led} {Q : Value → Shared → Prop} (hv : BareL r v n) (k : Q (.bool r.isNone) s) : wpAny M A (compareOp .Is v .none) Q E s := by
  cases hv with
  | none e e1 _ => subst e e1; exact wpAny_is_plain rfl (by exact k)
  | some b k' a t u e e1 _ => subst e e1; exact wpAny_is_other rfl (by intro h; cases h) k
theorem Keep.ints0 {h : Heap} {a : Addr} (x : ∃ o, h.get? a = some o ∧ LstO [] o) : ∃ o, h.get? a = some o ∧ ILst [] o := let ⟨o, e, q⟩ := x; ⟨o, e, Mine.ints0 q⟩
/-- a turn of _law_takes -/
noncomputable abbrev TkS := Addr × Option Value × Int × List Int × Int × Tok × Tok × Tok
inductive TkJ (inner word text : List Nat) (n : Nat) (st : TkS) : Prop
  | mk (fu : Nat) (hk0 : 0 ≤ st.2.2.1) (hfu : n < fu) (hn : n = ((inner.length : Int) - st.2.2.1).toNat) (hgo : takesGo inner word fu st.2.2.1 st.2.2.2.1 st.2.2.2.2.1 = takesP text word)
      (hpl : st.2.2.2.1.length ≤ 5000) (hpb : ∀ p ∈ st.2.2.2.1, 0 ≤ p ∧ p ≤ (word.length : Int))
noncomputable def tkV (text inner : List Nat) (tt : Tok) (st : TkS) : List (Option Value) := [some (.str (S text) tt), some (.str (S inner) st.2.2.2.2.2.1), some (.ref st.1), some (.int st.2.2.1 st.2.2.2.2.2.2.1), some (.int st.2.2.2.2.1 st.2.2.2.2.2.2.2)]
noncomputable def tkL (L : Addr) (word : List Nat) (tw : Tok) (st : TkS) : Led := [(L + 1, CellO (some (.str (S word) tw))), (L + 2, CellO st.2.1), (st.1, ILst st.2.2.2.1)]
theorem tk_next {inner word text : List Nat} {n : Nat} {p l : Addr} {bv bv' : Option Value} {k nk deep nd : Int} {ps nps : List Int} {t1 t2 t3 u1 u2 u3 tt tw : Tok} {B : Addr → Obj → Prop} {L : Addr} {names : List Str} {g : Array GenState} {d : Drawn} {os : OsState} {h : Heap} {tk : Nat}
    (j : TkJ inner word text n (p, bv, k, ps, deep, t1, t2, t3)) (hw : word.length ≤ 1000) (hlt : k < inner.length) (hps : ps ≠ []) (hst : takesStep inner word k ps deep = some (nk, nps, nd))
    (z : Z B L (fr names (tkV text inner tt (l, bv', nk, nps, nd, u1, u2, u3))) (tkL L word tw (l, bv', nk, nps, nd, u1, u2, u3)) h) :
    PWh B L names d os n (TkJ inner word text) (tkV text inner tt) (tkL L word tw) (fun _ => g) ⟨h, g, d, tk, os⟩ := by
  obtain ⟨fu, hk0, hfu, hn, hgo, hpl, hpb⟩ := j
  dsimp only at hk0 hfu hn hgo hpl hpb
  obtain ⟨fu', rfl, hg⟩ := takesGo_step (fu := fu) hlt hps hst (Nat.lt_of_le_of_lt (Nat.zero_le _) hfu)
  have hb' := takes_bounds hpb hpl hw hst
  have hnn : ((inner.length : Int) - nk).toNat < n := hn ▸ (Int.toNat_lt_toNat (Int.sub_pos_of_lt hlt)).mpr (Int.sub_lt_sub_left hb'.1 _)
  exact ⟨(l, bv', nk, nps, nd, u1, u2, u3), h, tk, _, rfl, hnn, ⟨fu', Int.le_trans hk0 (Int.le_of_lt hb'.1), Nat.lt_of_lt_of_le hnn (Nat.le_of_lt_succ hfu), rfl, hg.symm.trans hgo, hb'.2.1, hb'.2.2⟩, z⟩
theorem TkJ.hk0 {inner word text : List Nat} {n : Nat} {st : TkS} (j : TkJ inner word text n st) : 0 ≤ st.2.2.1 := let ⟨_, a, _, _, _, _, _⟩ := j; a
theorem TkJ.hgo {inner word text : List Nat} {n : Nat} {st : TkS} (j : TkJ inner word text n st) : ∃ fu, takesGo inner word fu st.2.2.1 st.2.2.2.1 st.2.2.2.2.1 = takesP text word := let ⟨f, _, _, _, a, _, _⟩ := j; ⟨f, a⟩
theorem TkJ.hpl {inner word text : List Nat} {n : Nat} {st : TkS} (j : TkJ inner word text n st) : st.2.2.2.1.length ≤ 5000 := let ⟨_, _, _, _, _, a, _⟩ := j; a
theorem TkJ.hpb {inner word text : List Nat} {n : Nat} {st : TkS} (j : TkJ inner word text n st) : ∀ p ∈ st.2.2.2.1, 0 ≤ p ∧ p ≤ (word.length : Int) := let ⟨_, _, _, _, _, _, a⟩ := j; a
theorem tk_end {inner word text : List Nat} {n : Nat} {p : Addr} {bv : Option Value} {k deep : Int} {ps : List Int} {t1 t2 t3 : Tok} (j : TkJ inner word text n (p, bv, k, ps, deep, t1, t2, t3)) (hb : (decide (k < inner.length) && !decide (ps = [])) = false) :
    takesP text word = (deep != 1 && ps.any (fun x => x == (word.length : Int))) := by
  obtain ⟨fu, hk0, hfu, hn, hgo, _, _⟩ := j
  exact hgo.symm.trans (takesGo_end (Nat.lt_of_le_of_lt (Nat.zero_le _) hfu) hb)
section
variable {w : WK} {A : Around} {E : Value → Shared → Prop} {h₀ : Heap} {g : Array GenState} {d : Drawn} {os : OsState}
variable {tk : Nat}
theorem takes_call (gw : G w h₀) (ag : AG 6 A) (text word : List Nat) (tt tw : Tok) (ht : text.length ≤ 1000) (hw : word.length ≤ 1000) {Q : Value → Shared → Prop}
    (hQ : ∀ h' tk', Keep h₀ h' → Q (.bool (takesP text word)) ⟨h', g, d, tk', os⟩) :
    wpAny (model PP w.w) A (call (.ref 234) [.str (S text) tt, .str (S word) tw]) Q E ⟨h₀, g, d, tk, os⟩ := by
  obtain ⟨inner, hinner⟩ : ∃ inner, cut text (some 4) (some (-3)) = inner := ⟨_, rfl⟩
  refine x_callC (a := 234) (ks := [Str.ofString "text"]) (rest := [Str.ofString "inner", Str.ofString "places", Str.ofString "k", Str.ofString "deep"]) (gl := [Str.ofString "len", Str.ofString "_law_bare", Str.ofString "list", Str.ofString "range"]) (cn := [Str.ofString "word", Str.ofString "bare"]) (largs := [.str (S text) tt]) (cvals := [some (.str (S word) tw), none])
    ⟨w.need.f234.look, w.need.f234.code, rfl, rfl, rfl, rfl, rfl, by decide +kernel, by decide +kernel, by decide +kernel, by decide +kernel, by decide +kernel, fun _ => rfl, rfl, rfl⟩ gw ag rfl (by rfl) (by rfl) rfl (by rfl) fun env L h₁ tk₁ e hf ag' z => ?_
  refine y_cons ?_
  refine x_asg4 (B := Sb h₀) (g := g) (d := d) (os := os) e.toEnvL ag'.hh 1 2 3 4 rfl rfl rfl rfl ?_
  refine evs_cons ?_
  refine x_slice_ss (g := g) (d := d) (os := os) ?_
  refine x_loc e.toEnvL z 0 rfl rfl ?_
  refine x_int fun _ _ => ?_
  refine y_un ?_
  refine x_int fun _ _ => ?_
  refine x_neg1 fun _ _ => ?_
  refine ⟨_, _, _, _, _, _, _, _, rfl, rfl, rfl, rfl, le_big ht, fun h tk t kp => ?_⟩
  replace z := z.keepAll kp
  refine evs_cons ?_
  refine x_list (g := g) (d := d) (os := os) ?_
  refine evs_cons ?_
  refine x_int fun _ _ => ?_
  refine evs_nil ?_
  refine ⟨_, _, rfl, Nat.le_of_ble_eq_true rfl, fun a h ka hn ho => ?_⟩
  replace z := z.add ka hn ho.choose_spec.1 (ints1 _ ho.choose_spec.2)
  refine evs_cons ?_
  refine x_int fun t1 _ => ?_
  refine evs_cons ?_
  refine x_int fun t2 _ => ?_
  refine evs_nil ?_
  refine ⟨_, _, _, _, _, _, _, _, rfl, rfl, z, Nat.le_of_ble_eq_true rfl, Nat.le_of_ble_eq_true rfl, Nat.le_of_ble_eq_true rfl, Nat.le_of_ble_eq_true rfl, fun h tk z₁ => ?_⟩
  clear z; rename Z _ _ _ _ _ => z
  have hil : (cut text (some 4) (some (-3))).length ≤ 1000 := Nat.le_trans (cut_len _ _ _) ht
  have hr : takesP text word = if text != [40, 63, 115, 58] ++ cut text (some 4) (some (-3)) ++ [41, 92, 90] then false else takesGo (cut text (some 4) (some (-3))) word ((cut text (some 4) (some (-3))).length + 1) 0 [0] 0 := rfl
  rw [hinner] at hil z hr
  clear hinner
  refine y_cons ?_
  refine y_if ?_
  refine y_tcmp ?_
  refine x_loc e.toEnvL z 0 rfl rfl ?_
  refine y_bin ?_
  refine y_bin ?_
  refine x_str [40, 63, 115, 58] (by decide +kernel) fun _ _ => ?_
  refine x_loc e.toEnvL z 1 rfl rfl ?_
  refine x_cat (cat_big (Nat.le_refl _) hil) fun _ _ => ?_
  refine x_str [41, 92, 90] (by decide +kernel) fun _ _ => ?_
  refine x_cat (cat_big (cat_le (Nat.le_refl _) hil) (Nat.le_refl _)) fun _ _ => ?_
  refine x_nes ?_
  refine x_truthy ?_
  refine ite_b (fun hb => ?_) fun hb => ?_
  · refine y_cons ?_
    refine y_ret ?_
    refine x_bool ?_
    rw [if_pos hb] at hr
    exact hr ▸ hQ _ _ z.keep
  · rw [if_neg (ne_true_of_eq_false hb)] at hr
    refine wpAny_execs_nil ?_
    refine y_cons ?_
    refine wpAny_While ?_
    refine x_while (B := Sb h₀) (L := L) (names := [Str.ofString "text"] ++ [Str.ofString "inner", Str.ofString "places", Str.ofString "k", Str.ofString "deep"]) (TkJ inner word text) (tkV text inner tt) (tkL L word tw) (fun _ => g) inner.length (a, none, 0, [0], 0, t, t1, t2)
      ⟨inner.length + 1, Int.le_refl 0, Nat.lt_succ_self _, by simp, hr.symm, Nat.le_of_ble_eq_true rfl, fun p hp => by rw [List.mem_singleton.mp hp]; exact ⟨Int.le_refl 0, Int.natCast_nonneg _⟩⟩
      (z.pick [1, 2, 0] (by decide)) ?_
    clear z hr hb
    intro n st h tk j z
    obtain ⟨p, bv, k, ps, deep, t1, t2, t3⟩ := st
    refine y_and2 (a := decide (k < inner.length)) (b := !decide (ps = [])) (g := g) (fun Q1 tk q => ?_) (fun _ h1 k1 Q1 tk q => ?_) fun h tk kp => ?_
    · refine y_tcmp ?_
      refine x_loc e.toEnvL z 3 rfl rfl ?_
      refine x_bcall (id := "len") ?_
      refine x_glob e.toEnvL (gw.keep z.keep) 0 rfl (gv_len w) ?_
      refine ⟨rfl, ?_⟩
      refine evs_cons ?_
      refine x_loc e.toEnvL z 1 rfl rfl ?_
      refine evs_nil ?_
      refine x_len_str (le_big hil) fun _ _ => ?_
      refine x_lti ?_
      refine x_truthy ?_
      exact q _ _ (Keep.refl _)
    · replace z := z.keepAll k1
      refine y_tcmp ?_
      refine x_loc e.toEnvL z 2 rfl rfl ?_
      refine x_list (g := g) (d := d) (os := os) ?_
      refine evs_nil ?_
      refine ⟨_, _, rfl, Nat.le_of_ble_eq_true rfl, fun b h kb hnb hob => ?_⟩
      replace z := z.keepAll kb
      refine x_ne_ints (z.get 2 rfl) (Keep.ints0 hob) ag'.eq_room ?_
      refine x_truthy ?_
      exact q _ _ kb
    replace z := z.keepAll kp
    refine ite_b (fun hb => ?_) fun hb => ?_
    · have hlt : k < (inner.length : Int) := of_decide_eq_true (and_l hb)
      have hps : ps ≠ [] := of_decide_eq_false (Bool.not_eq_true' _ ▸ and_r hb)
      obtain ⟨p0, pr, hpe⟩ := List.exists_cons_of_ne_nil hps
      have hhead : ps.headD 0 = p0 := by rw [hpe]; rfl
      have hp0 : 0 ≤ p0 ∧ p0 ≤ (word.length : Int) := j.hpb p0 (by dsimp only; rw [hpe]; exact List.mem_cons_self)
      have hk0 : 0 ≤ k := j.hk0
      refine y_cons ?_
      refine y_asg ?_
      refine x_dcall (a := 229) ?_
      refine x_glob e.toEnvL (gw.keep z.keep) 1 rfl (gv_law_bare w) ?_
      refine ⟨rfl, ?_⟩
      refine evs_cons ?_
      refine x_loc e.toEnvL z 1 rfl rfl ?_
      refine evs_cons ?_
      refine x_loc e.toEnvL z 3 rfl rfl ?_
      refine evs_nil ?_
      refine ⟨fn_at (gw.keep z.keep) w.need.f229, ?_⟩
      refine bare_call (gw.keep z.keep) (ag'.le (by decide)) inner k _ _ hil fun v h tk kp hv => ?_
      refine bare_led hv z kp fun n' hbl z₁ => ?_
      clear z hv; rename Z _ _ _ _ _ => z
      refine x_cst e z 1 rfl rfl 1 rfl fun h z₁ _ => ?_
      clear z; rename Z _ _ _ _ _ => z
      have z₁ : Z (Sb h₀) L (fr ([Str.ofString "text"] ++ [Str.ofString "inner", Str.ofString "places", Str.ofString "k", Str.ofString "deep"]) (tkV text inner tt (p, some v, k, ps, deep, t1, t2, t3))) (tkL L word tw (p, some v, k, ps, deep, t1, t2, t3) ++ n') h := z
      clear z; rename Z _ _ _ _ _ => z
      refine y_cons ?_
      refine y_if ?_
      refine y_and2 (a := cut inner (some k) (some (k + 6)) == [40, 63, 62, 46, 42, 63]) (b := deep == 0) (g := g) (fun Q1 tk q => ?_) (fun _ h1 k1 Q1 tk q => ?_) fun h tk kp => ?_
      · refine y_tcmp ?_
        refine x_slice_ss (g := g) (d := d) (os := os) ?_
        refine x_loc e.toEnvL z 1 rfl rfl ?_
        refine x_loc e.toEnvL z 3 rfl rfl ?_
        refine y_bin ?_
        refine x_loc e.toEnvL z 3 rfl rfl ?_
        refine x_int fun _ _ => ?_
        refine x_add fun _ _ => ?_
        refine ⟨_, _, _, _, _, _, _, _, rfl, rfl, rfl, rfl, le_big hil, fun h tk t kp => ?_⟩
        refine x_str [40, 63, 62, 46, 42, 63] (by decide +kernel) fun _ _ => ?_
        refine x_eqs ?_
        refine x_truthy ?_
        exact q _ _ kp
      · refine y_tcmp ?_
        refine x_loc e.toEnvL (z.keepAll k1) 4 rfl rfl ?_
        refine x_int fun _ _ => ?_
        refine x_eqi ?_
        refine x_truthy ?_
        exact q _ _ (Keep.refl _)
      replace z := z.keepAll kp
      refine ite_b (fun hb1 => ?_) fun hb1 => ?_
      · refine y_cons ?_
        refine x_asg3 (B := Sb h₀) (g := g) (d := d) (os := os) e.toEnvL ag'.hh 2 3 4 rfl rfl rfl (by decide +kernel) (by decide +kernel) (by decide +kernel) (by rfl) ?_
        refine evs_cons ?_
        refine x_tcall (T := "list") ?_
        refine x_glob e.toEnvL (gw.keep z.keep) 2 rfl (gv_list w) ?_
        refine ⟨rfl, ?_⟩
        refine evs_cons ?_
        refine x_tcall (T := "range") ?_
        refine x_glob e.toEnvL (gw.keep z.keep) 3 rfl (gv_range w) ?_
        refine ⟨rfl, ?_⟩
        refine evs_cons ?_
        refine y_sub ?_
        refine x_loc e.toEnvL z 2 rfl rfl ?_
        refine x_int fun _ _ => ?_
        refine x_item_int (y := p0) (z.get 2 rfl) (by decide) (by decide) (by rw [hpe]; rfl) (by with_unfolding_all rfl) fun _ => ?_
        refine evs_cons ?_
        refine y_bin ?_
        refine x_bcall (id := "len") ?_
        refine x_glob e.toEnvL (gw.keep z.keep) 0 rfl (gv_len w) ?_
        refine ⟨rfl, ?_⟩
        refine evs_cons ?_
        refine x_cel e z 0 rfl rfl 0 rfl ?_
        refine evs_nil ?_
        refine x_len_str (le_big hw) fun _ _ => ?_
        refine x_int fun _ _ => ?_
        refine x_add fun _ _ => ?_
        refine evs_nil ?_
        refine x_range2 fun r h tk kr hr hro => ?_
        replace z := z.keepAll kr
        refine evs_nil ?_
        refine x_list_range ag'.hh hro (rng_lo hp0 hw) (rng_hi hw) fun l h tk kl hl hlo => ?_
        replace z := z.add kl hl hlo.choose_spec.1 hlo.choose_spec.2
        refine evs_cons ?_
        refine y_bin ?_
        refine x_loc e.toEnvL z 3 rfl rfl ?_
        refine x_int fun _ _ => ?_
        refine x_add fun _ _ => ?_
        refine evs_cons ?_
        refine x_int fun _ _ => ?_
        refine evs_nil ?_
        refine ⟨_, _, _, _, _, _, _, rfl, rfl, z, Nat.le_of_ble_eq_true rfl, Nat.le_of_ble_eq_true rfl, Nat.le_of_ble_eq_true rfl, fun h tk z₁ => ?_⟩
        refine wpAny_execs_nil ?_
        refine wpAny_execs_nil ?_
        exact tk_next (l := l) (bv' := some v) j hw hlt hps (takesStep_1 hb1) (hhead.symm ▸ z₁.pick [1, 2, 0] (by decide))
      · refine y_cons ?_
        refine y_if ?_
        refine y_and2 (a := [inner.getD k.toNat 0] == [41]) (b := deep == 1) (g := g) (fun Q1 tk q => ?_) (fun _ h1 k1 Q1 tk q => ?_) fun h tk kp => ?_
        · refine y_tcmp ?_
          refine y_sub ?_
          refine x_loc e.toEnvL z 1 rfl rfl ?_
          refine x_loc e.toEnvL z 3 rfl rfl ?_
          refine x_sign (le_big hil) (at_sign hk0 hlt) (by with_unfolding_all rfl) fun _ _ => ?_
          refine x_str [41] (by decide +kernel) fun _ _ => ?_
          refine x_eqs ?_
          refine x_truthy ?_
          exact q _ _ (Keep.refl _)
        · refine y_tcmp ?_
          refine x_loc e.toEnvL (z.keepAll k1) 4 rfl rfl ?_
          refine x_int fun _ _ => ?_
          refine x_eqi ?_
          refine x_truthy ?_
          exact q _ _ (Keep.refl _)
        replace z := z.keepAll kp
        refine ite_b (fun hb2 => ?_) fun hb2 => ?_
        · refine y_cons ?_
          refine x_asg3 (B := Sb h₀) (g := g) (d := d) (os := os) e.toEnvL ag'.hh 2 3 4 rfl rfl rfl (by decide +kernel) (by decide +kernel) (by decide +kernel) (by rfl) ?_
          refine evs_cons ?_
          refine x_lslice_ns (g := g) (d := d) (os := os) ?_
          refine x_loc e.toEnvL z 2 rfl rfl ?_
          refine x_int fun _ _ => ?_
          refine ⟨_, _, _, _, _, _, rfl, rfl, rfl, by decide, z.get 2 rfl, le_trans' j.hpl, fun l h kl hl hlo => ?_⟩
          replace z := z.add kl hl hlo.choose_spec.1 hlo.choose_spec.2
          refine evs_cons ?_
          refine y_bin ?_
          refine x_loc e.toEnvL z 3 rfl rfl ?_
          refine x_int fun _ _ => ?_
          refine x_add fun _ _ => ?_
          refine evs_cons ?_
          refine x_int fun _ _ => ?_
          refine evs_nil ?_
          refine ⟨_, _, _, _, _, _, _, rfl, rfl, z, Nat.le_of_ble_eq_true rfl, Nat.le_of_ble_eq_true rfl, Nat.le_of_ble_eq_true rfl, fun h tk z₁ => ?_⟩
          refine wpAny_execs_nil ?_
          refine wpAny_execs_nil ?_
          refine wpAny_execs_nil ?_
          exact tk_next (l := l) (bv' := some v) j hw hlt hps (takesStep_2 hb1 hb2) (z₁.pick [1, 2, 0] (by decide))
        · refine y_cons ?_
          refine y_if ?_
          refine y_and2 (a := cut inner (some k) (some (k + 2)) == [46, 42]) (b := deep == 0) (g := g) (fun Q1 tk q => ?_) (fun _ h1 k1 Q1 tk q => ?_) fun h tk kp => ?_
          · refine y_tcmp ?_
            refine x_slice_ss (g := g) (d := d) (os := os) ?_
            refine x_loc e.toEnvL z 1 rfl rfl ?_
            refine x_loc e.toEnvL z 3 rfl rfl ?_
            refine y_bin ?_
            refine x_loc e.toEnvL z 3 rfl rfl ?_
            refine x_int fun _ _ => ?_
            refine x_add fun _ _ => ?_
            refine ⟨_, _, _, _, _, _, _, _, rfl, rfl, rfl, rfl, le_big hil, fun h tk t kp => ?_⟩
            refine x_str [46, 42] (by decide +kernel) fun _ _ => ?_
            refine x_eqs ?_
            refine x_truthy ?_
            exact q _ _ kp
          · refine y_tcmp ?_
            refine x_loc e.toEnvL (z.keepAll k1) 4 rfl rfl ?_
            refine x_int fun _ _ => ?_
            refine x_eqi ?_
            refine x_truthy ?_
            exact q _ _ (Keep.refl _)
          replace z := z.keepAll kp
          refine ite_b (fun hb3 => ?_) fun hb3 => ?_
          · refine y_cons ?_
            refine x_asg3 (B := Sb h₀) (g := g) (d := d) (os := os) e.toEnvL ag'.hh 2 3 4 rfl rfl rfl (by decide +kernel) (by decide +kernel) (by decide +kernel) (by rfl) ?_
            refine evs_cons ?_
            refine x_tcall (T := "list") ?_
            refine x_glob e.toEnvL (gw.keep z.keep) 2 rfl (gv_list w) ?_
            refine ⟨rfl, ?_⟩
            refine evs_cons ?_
            refine x_tcall (T := "range") ?_
            refine x_glob e.toEnvL (gw.keep z.keep) 3 rfl (gv_range w) ?_
            refine ⟨rfl, ?_⟩
            refine evs_cons ?_
            refine y_sub ?_
            refine x_loc e.toEnvL z 2 rfl rfl ?_
            refine x_int fun _ _ => ?_
            refine x_item_int (y := p0) (z.get 2 rfl) (by decide) (by decide) (by rw [hpe]; rfl) (by with_unfolding_all rfl) fun _ => ?_
            refine evs_cons ?_
            refine y_bin ?_
            refine x_bcall (id := "len") ?_
            refine x_glob e.toEnvL (gw.keep z.keep) 0 rfl (gv_len w) ?_
            refine ⟨rfl, ?_⟩
            refine evs_cons ?_
            refine x_cel e z 0 rfl rfl 0 rfl ?_
            refine evs_nil ?_
            refine x_len_str (le_big hw) fun _ _ => ?_
            refine x_int fun _ _ => ?_
            refine x_add fun _ _ => ?_
            refine evs_nil ?_
            refine x_range2 fun r h tk kr hr hro => ?_
            replace z := z.keepAll kr
            refine evs_nil ?_
            refine x_list_range ag'.hh hro (rng_lo hp0 hw) (rng_hi hw) fun l h tk kl hl hlo => ?_
            replace z := z.add kl hl hlo.choose_spec.1 hlo.choose_spec.2
            refine evs_cons ?_
            refine y_bin ?_
            refine x_loc e.toEnvL z 3 rfl rfl ?_
            refine x_int fun _ _ => ?_
            refine x_add fun _ _ => ?_
            refine evs_cons ?_
            refine x_int fun _ _ => ?_
            refine evs_nil ?_
            refine ⟨_, _, _, _, _, _, _, rfl, rfl, z, Nat.le_of_ble_eq_true rfl, Nat.le_of_ble_eq_true rfl, Nat.le_of_ble_eq_true rfl, fun h tk z₁ => ?_⟩
            refine wpAny_execs_nil ?_
            refine wpAny_execs_nil ?_
            refine wpAny_execs_nil ?_
            refine wpAny_execs_nil ?_
            exact tk_next (l := l) (bv' := some v) j hw hlt hps (takesStep_3 hb1 hb2 hb3) (hhead.symm ▸ z₁.pick [1, 2, 0] (by decide))
          · refine y_cons ?_
            refine y_if ?_
            refine y_tcmp ?_
            refine x_cel e z 1 rfl rfl 1 rfl ?_
            refine x_none ?_
            refine is_bare hbl ?_
            refine x_truthy ?_
            cases hbl with
            | none e1 e2 e3 =>
              rw [e1]
              refine ite_t ?_
              refine y_cons ?_
              refine y_ret ?_
              refine x_bool ?_
              obtain ⟨fu, hgo⟩ := j.hgo
              dsimp only at hgo
              rw [takesGo_none hlt hps (takesStep_4 hb1 hb2 hb3 e1)] at hgo
              exact hgo ▸ hQ _ _ z.keep
            | some b nb ab tb ub e1 e2 e3 =>
              subst e2 e3
              rw [e1]
              refine ite_f ?_
              refine y_cons ?_
              refine x_asgCompC (B := Sb h₀) (d := d) (os := os) e 2 rfl [Str.ofString "p"] [Str.ofString "len"] [Str.ofString "bare", Str.ofString "word"] [L + 2, L + 1]
                ⟨rfl, by decide +kernel, by decide +kernel, by decide +kernel, by decide +kernel, by decide +kernel, by decide +kernel, by decide +kernel, by decide +kernel⟩ rfl (cells_two rfl rfl rfl rfl) ?_ (hsw := by exact swaps_local e.kind (e.loc _ (List.mem_of_getElem? (i := 2) rfl)).1 rfl (by decide +kernel))
              refine x_loc e.toEnvL z 2 rfl rfl ?_
              obtain ⟨op, hop, pv, hpv, hpl2⟩ := z.get 2 rfl
              refine ⟨_, _, _, _, _, rfl, z, Nat.le_of_ble_eq_true rfl, ?_⟩
              refine x_iter_list (Lst.isList (h := h) ⟨op, hop, hpl2⟩) fun I₂ h₂ k₂ hI₂ hIt₂ => ?_
              refine ⟨I₂, h₂, _, _, _, _, _, rfl, rfl, k₂, hI₂, hIt₂, iter_list ag'.hh I₂ p pv, fun C D h₃ tk₃ cenv ce zc => ?_⟩
              have hpvl : pv.length = ps.length := ints_len hpv
              have hcb : ∃ o, h.get? (L + 2) = some o ∧ CellO (some (.ref ab)) o := z.get 1 rfl
              have hcw : ∃ o, h.get? (L + 1) = some o ∧ CellO (some (.str (S word) tw)) o := z.get 0 rfl
              have hcl : ∃ o, h.get? ab = some o ∧ LstO [.str (S b) tb, .int nb ub] o := z.get 3 rfl
              have gwh : G w h := gw.keep z.keep
              clear z
              refine x_comploop (A := A.deeper env) (names := [Str.ofString "p"]) (iter_list ag'.hh I₂ p pv) (σ := List Value × Option Value)
                (fun i st => IntsAre st.1 (((ps.take i).filter (takesHit word b)).map (· + 1))) (fun _ st => [st.2]) (fun _ st => st.1) (fun _ _ => []) (fun _ _ => g) ([], none)
                .nil zc (fun i st h' _ z => Lst.isList (h := h') ⟨op, z.keep _ _ hop, hpl2⟩) (fun i st hJ => ?_) ?_ ?_
              · rw [ints_len hJ, List.length_map]
                exact Nat.le_trans (List.length_filter_le _ _) (Nat.le_trans (List.length_take_le' _ _) (le_trans' j.hpl))
              · intro i st v h' tk' hi hv hJ z
                obtain ⟨acc, kv⟩ := st
                have hi' : i < ps.length := hpvl ▸ hi
                obtain ⟨t, e1⟩ := ints_get hpv (i := i) (y := ps[i]) (List.getElem?_eq_getElem hi')
                obtain rfl : Value.int ps[i] t = v := Option.some.inj (e1.symm.trans hv)
                have hq0 : 0 ≤ ps[i] := (j.hpb _ (List.getElem_mem hi')).1
                refine x_stoName ce.toEnvL z 0 rfl Nat.one_pos fun h' tk' z _ => ?_
                refine tests_one ?_
                refine y_and2 (a := decide (ps[i] < word.length)) (b := ([[], [word.getD (ps[i]).toNat 0]] : List (List Nat)).any fun x => x == b) (g := g) (fun Q1 tk q => ?_) (fun hlw h1 k1 Q1 tk q => ?_) fun h' tk kp => ?_
                · refine y_tcmp ?_
                  refine x_loc ce.toEnvL z 0 rfl rfl ?_
                  refine x_bcall (id := "len") ?_
                  refine x_glob ce.toEnvL (gwh.keep z.keep) 0 rfl (gv_len w) ?_
                  refine ⟨rfl, ?_⟩
                  refine evs_cons ?_
                  refine x_celB ce 1 rfl rfl (cellK hcw z.keep) ?_
                  refine evs_nil ?_
                  refine x_len_str (le_big hw) fun _ _ => ?_
                  refine x_lti ?_
                  refine x_truthy ?_
                  exact q _ _ (Keep.refl _)
                · replace z := z.keepAll k1
                  refine y_tcmp ?_
                  refine y_sub ?_
                  refine x_celB ce 0 rfl rfl (cellK hcb z.keep) ?_
                  refine x_int fun _ _ => ?_
                  refine x_item (cellK hcl z.keep) (by decide) (by decide) rfl (by with_unfolding_all rfl) ?_
                  refine x_list (g := g) (d := d) (os := os) ?_
                  refine evs_cons ?_
                  refine x_str [] (by decide +kernel) fun _ _ => ?_
                  refine evs_cons ?_
                  refine y_sub ?_
                  refine x_celB ce 1 rfl rfl (cellK hcw z.keep) ?_
                  refine x_loc ce.toEnvL z 0 rfl rfl ?_
                  refine x_sign (le_big hw) (at_sign hq0 (of_decide_eq_true hlw)) (by with_unfolding_all rfl) fun _ _ => ?_
                  refine evs_nil ?_
                  refine ⟨_, _, rfl, Nat.le_of_ble_eq_true rfl, fun a h ka hn ho => ?_⟩
                  refine x_in_strs (ls := [[], [word.getD (ps[i]).toNat 0]]) (strsOf2 ho) ?_
                  refine x_truthy ?_
                  exact q _ _ ka
                replace z := z.keepAll kp
                refine ite_b (fun hh => ?_) fun hh => ?_
                · refine y_bin ?_
                  refine x_loc ce.toEnvL z 0 rfl rfl ?_
                  refine x_int fun _ _ => ?_
                  refine x_add fun _ _ => ?_
                  exact ⟨(acc ++ [_], some _), _, _, rfl, filter_yes (p := takesHit word b) hi' hh hJ _, rfl, z⟩
                · exact ⟨(acc, some _), _, _, rfl, filter_no (p := takesHit word b) hi' hh hJ, rfl, z⟩
              · intro st h' tk' hJ z
                obtain ⟨acc, kv⟩ := st
                refine ⟨rfl, acc, [], h', tk', g, _, rfl, z, fun h tk z => ?_⟩
                have hJ' : IntsAre acc ((ps.filter (takesHit word b)).map (· + 1)) := filter_all hpvl hJ
                replace z := z.mono 0 rfl (fun o (ho : LstO acc o) => (⟨acc, hJ', ho⟩ : ILst _ o))
                refine y_cons ?_
                refine x_asg (B := Sb h₀) (g := g) (d := d) (os := os) e.toEnvL 3 rfl ?_
                refine y_bin ?_
                refine x_loc e.toEnvL z 3 rfl rfl ?_
                refine y_sub ?_
                refine x_cel e z 1 rfl rfl 2 rfl ?_
                refine x_int fun _ _ => ?_
                refine x_item (z.get 4 rfl) (by decide) (by decide) rfl (by with_unfolding_all rfl) ?_
                refine x_add fun _ _ => ?_
                refine ⟨_, _, _, _, rfl, z, Nat.le_of_ble_eq_true rfl, fun h tk z₁ => ?_⟩
                refine wpAny_execs_nil ?_
                refine wpAny_execs_nil ?_
                refine wpAny_execs_nil ?_
                refine wpAny_execs_nil ?_
                refine wpAny_execs_nil ?_
                exact tk_next (l := D) (bv' := some (.ref ab)) j hw hlt hps (takesStep_5 hb1 hb2 hb3 e1) (z₁.pick [1, 2, 0] (by decide))
    · refine wpAny_execs_nil ?_
      refine y_cons ?_
      have hg : takesP text word = (deep != 1 && ps.any (fun x => x == (word.length : Int))) := tk_end j hb
      refine y_ret ?_
      refine wpAny_And2 ?_
      refine y_cmp ?_
      refine x_loc e.toEnvL z 4 rfl rfl ?_
      refine x_int fun _ _ => ?_
      refine x_nei ?_
      refine x_truthy ?_
      refine ite_b (fun hd => ?_) fun hd => ?_
      · refine y_cmp ?_
        refine x_bcall (id := "len") ?_
        refine x_glob e.toEnvL (gw.keep z.keep) 0 rfl (gv_len w) ?_
        refine ⟨rfl, ?_⟩
        refine evs_cons ?_
        refine x_cel e z 0 rfl rfl 0 rfl ?_
        refine evs_nil ?_
        refine x_len_str (le_big hw) fun _ _ => ?_
        refine x_loc e.toEnvL z 2 rfl rfl ?_
        refine x_in_ints (z.get 2 rfl) ?_
        rw [hd, Bool.true_and] at hg
        exact hg ▸ hQ _ _ z.keep
      · rw [hd, Bool.false_and] at hg
        rw [hd]
        exact hg ▸ hQ _ _ z.keep
end
end Mine
set_option maxHeartbeats 400000
namespace Mine
/-- what was made between two heaps -/
noncomputable def New (h h' : Heap) : Addr → Obj → Prop := fun b o => h'.get? b = some o ∧ h.get? b = none
noncomputable def Gr (B : Addr → Obj → Prop) (N : Addr → Obj → Prop) : Addr → Obj → Prop := fun b o => B b o ∨ N b o
section
variable {B B' : Addr → Obj → Prop} {L : Addr} {m : Str → Option Value} {n : List (Addr × (Obj → Prop))} {h h' : Heap}
theorem Z.subB (z : Z B L m n h) (s : ∀ b o, B' b o → B b o) : Z B' L m n h :=
  ⟨z.ns, fun b o e => z.keep b o (s b o e), fun o q => z.apart o (s _ _ q), z.led, fun p hp => ⟨(z.off p hp).1, fun o q => (z.off p hp).2 o (s _ _ q)⟩, z.nd⟩
theorem Z.grow (z : Z B L m n h) (k : Keep h h') : Z (Gr B (New h h')) L m n h' := by
  have z1 := z.keepAll k
  refine ⟨z1.ns, fun b o e => ?_, fun o q => ?_, z1.led, fun p hp => ⟨(z1.off p hp).1, fun o q => ?_⟩, z1.nd⟩
  · rcases e with e | e
    · exact z1.keep b o e
    · exact e.1
  · rcases q with q | q
    · exact z1.apart o q
    · obtain ⟨o', _, _, e, _⟩ := z.ns; rw [q.2] at e; cases e
  · rcases q with q | q
    · exact (z1.off p hp).2 o q
    · obtain ⟨o', e, _⟩ := z.led p hp; rw [q.2] at e; cases e
theorem Gr.l {N : Addr → Obj → Prop} {b : Addr} {o : Obj} (e : B b o) : Gr B N b o := .inl e
theorem Gr.r {N : Addr → Obj → Prop} {b : Addr} {o : Obj} (e : N b o) : Gr B N b o := .inr e
theorem ZN.subB (z : ZN B n h) (s : ∀ b o, B' b o → B b o) : ZN B' n h :=
  ⟨fun b o e => z.keep b o (s b o e), z.led, fun p hp o q => z.off p hp o (s _ _ q), z.nd⟩
theorem New.grow {h₁ h₂ h₃ : Heap} (k : Keep h₁ h₂) {b : Addr} {o : Obj} (e : New h₂ h₃ b o) : New h₁ h₃ b o := by
  refine ⟨e.1, ?_⟩
  cases q : h₁.get? b with
  | none => rfl
  | some o' => have := k _ _ q; rw [e.2] at this; cases this
theorem New.later {h₁ h₂ h₃ : Heap} (k : Keep h₂ h₃) {b : Addr} {o : Obj} (e : New h₁ h₂ b o) : New h₁ h₃ b o := ⟨k _ _ e.1, e.2⟩
end

/-- a list of tuples, an int and a text each; where they lie -/
noncomputable def PairV (N : Addr → Obj → Prop) (v : Value) (p : Int × List Nat) : Prop := ∃ (a : Addr) (o : Obj) (t u : Tok), v = .ref a ∧ N a o ∧ TupO [.int p.1 t, .str (S p.2) u] o
inductive PairsV (N : Addr → Obj → Prop) : List Value → List (Int × List Nat) → Prop
  | nil : PairsV N [] []
  | cons {v : Value} {p : Int × List Nat} {vs : List Value} {ps : List (Int × List Nat)} (y : PairV N v p) (r : PairsV N vs ps) : PairsV N (v :: vs) (p :: ps)
noncomputable def Pairs (N : Addr → Obj → Prop) (a : Addr) (ps : List (Int × List Nat)) : Prop := ∃ o vs, N a o ∧ LstO vs o ∧ PairsV N vs ps
theorem PairV.mono {N N' : Addr → Obj → Prop} (s : ∀ b o, N b o → N' b o) {v : Value} {p : Int × List Nat} (x : PairV N v p) : PairV N' v p :=
  let ⟨a, o, t, u, e, q, r⟩ := x; ⟨a, o, t, u, e, s _ _ q, r⟩
theorem PairsV.mono {N N' : Addr → Obj → Prop} (s : ∀ b o, N b o → N' b o) {vs : List Value} {ps : List (Int × List Nat)} (x : PairsV N vs ps) : PairsV N' vs ps := by
  induction x with
  | nil => exact .nil
  | cons y _ ih => exact .cons (y.mono s) ih
theorem PairsV.snoc {N : Addr → Obj → Prop} {vs : List Value} {ps : List (Int × List Nat)} (x : PairsV N vs ps) {v : Value} {p : Int × List Nat} (y : PairV N v p) : PairsV N (vs ++ [v]) (ps ++ [p]) := by
  induction x with
  | nil => exact .cons y .nil
  | cons z _ ih => exact .cons z ih
theorem PairsV.len {N : Addr → Obj → Prop} {vs : List Value} {ps : List (Int × List Nat)} (x : PairsV N vs ps) : vs.length = ps.length := by
  induction x with
  | nil => rfl
  | cons _ _ ih => simp [ih]
theorem Pairs.mono {N N' : Addr → Obj → Prop} (s : ∀ b o, N b o → N' b o) {a : Addr} {ps : List (Int × List Nat)} (x : Pairs N a ps) : Pairs N' a ps :=
  let ⟨o, vs, q, r, t⟩ := x; ⟨o, vs, s _ _ q, r, t.mono s⟩

section
variable {prog : Program} {w : WK} {A : Around} {E : Value → Shared → Prop} {env cenv : Env} {d : Drawn} {os : OsState}
variable {L C D I : Addr} {names gl : List Str}
variable {gl cn : List Str} {ca : List Addr}
inductive PAp2 (d : Drawn) (os : OsState) (a : Addr) (Q : Flow → Shared → Prop) (vs : List Value) (s₂ : Shared) : Prop
  | mk (h₂ : Heap) (tk₂ : Nat) (g₂ : Array GenState) (v : Value) (B : Addr → Obj → Prop) (L : Addr) (m : Str → Option Value) (n : Led) (i : Nat) (xs : List Value) (e : s₂ = ⟨h₂, g₂, d, tk₂, os⟩) (ev : vs = [v]) (z : Z B L m n h₂) (hi : n[i]? = some (a, LstO xs)) (hl : xs.length ≤ 100000)
      (q : ∀ h', Z B L m (n.set i (a, LstO (xs ++ [v]))) h' → Q .next ⟨h', g₂, d, tk₂, os⟩)
inductive PAp1 (M : Model) (A : Around) (E : Value → Shared → Prop) (env : Env) (e : Expr) (d : Drawn) (os : OsState) (Q : Flow → Shared → Prop) (ov : Value) (s₁ : Shared) : Prop
  | mk (a : Addr) (xs : List Value) (e1 : ov = .ref a) (ho : ∃ ob, s₁.heap.get? a = some ob ∧ LstO xs ob) (k : wpAny M A (evs env [e]) (PAp2 d os a Q) E s₁)
/-- xs.append(e), as a statement -/
theorem x_append {o e : Expr} {apos cpos pos : Pos} {Q : Flow → Shared → Prop} {s : Shared} (hk : env.scope.kind = .function)
    (k : wpAny (model prog w.w) A (eval o env) (PAp1 (model prog w.w) A E env e d os Q) E s)
    (hs : backTo cpos (starEach [e] env) = [e].map fun e => (false, eval e env) := by rfl)
    (ha : attributeBase o (Str.ofString "append") env (eval o env) = eval o env := by rfl) (hp : (apos.endLine == cpos.line) = true := by rfl)
    (hsw : swapsWith (.Call (.Attribute o (Str.ofString "append") apos) [e] [] cpos) none pos.line env = pure false := by rfl) :
    wpAny (model prog w.w) A (exec (.Expr (.Call (.Attribute o (Str.ofString "append") apos) [e] [] cpos) pos) env) Q E s := by
  refine wpAny_Expr ?_ (by unfold interactive; rw [hk]; rfl) hsw
  refine x_meth F.plainAttrs_list F.slot_list_append F.type_list_append ?_ hs rfl ha hp
  refine wpAny_mono k (fun ov s₁ q => ?_) fun _ _ e => e
  obtain ⟨a, xs, rfl, ho, q⟩ := q
  have hL : s₁.heap.IsList a xs.toArray := Lst.isList (h := s₁.heap) ho
  refine ⟨⟨hL.typeIs, fun b hb => ?_⟩, wpAny_mono q (fun vs s₂ q2 => ?_) fun _ _ e => e⟩
  · cases hb
    obtain ⟨ob, h1, nn, h2⟩ := ho
    exact ⟨ob, h1, by rw [h2]⟩
  · obtain ⟨h₂, tk₂, g₂, v, B, L, m, n, i, ys, rfl, rfl, z, hi, hl, fin⟩ := q2
    refine wpAny_list_append_plain (s := ⟨h₂, g₂, d, tk₂, os⟩) (hsz := by rw [List.size_toArray, sizeLine_eq]; lia) (Lst.plain (h := h₂) (z.get i hi)) fun h₄ hl₄ hs₄ => ?_
    obtain ⟨nn, e4⟩ := hl₄
    exact fin h₄ (z.upd i hi hs₄ e4 ⟨nn, by simp⟩)
end

/-- the backslashes at the end -/
noncomputable def trail (l : List Nat) : Nat := (l.reverse.takeWhile (· == 92)).length
noncomputable def rstripB (l : List Nat) : List Nat := l.take (l.length - trail l)
theorem rstrip_S (l : List Nat) : Txt.rstripChars (S l) (S [92]) = S (rstripB l) := by
  unfold Txt.rstripChars
  rw [W.stripBy_eq]
  unfold W.stripped rstripB trail
  simp only [Bool.false_eq_true, if_false, if_true, List.drop_zero, S_len]
  rw [strSub_mk, Nat.sub_zero, List.drop_zero]
  have e1 : (S l).cps.toList = l := by simp [S]
  rw [e1]
  have e2 : ((S [92]).cps.contains : Nat → Bool) = fun x => x == 92 := by
    funext x
    show Array.contains #[92] x = _
    simp [Array.contains, eq_comm]
  rw [e2]
  rfl
theorem x_rstrip {prog : Program} {w : WK} {A : Around} {E : Value → Shared → Prop} {h : Heap} {g : Array GenState} {d : Drawn} {tk : Nat} {os : OsState} {l : List Nat} {t u : Tok} {Q : Value → Shared → Prop} (hl : l.length ≤ 100000)
    (k : ∀ t' tk', Q (.str (S (rstripB l)) t') ⟨h, g, d, tk', os⟩) : wpAny (model prog w.w) A (call (.builtin "str.rstrip") [.str (S l) t, .str (S [92]) u]) Q E ⟨h, g, d, tk, os⟩ :=
  SC.rstripChars (s := ⟨h, g, d, tk, os⟩) (fun t' tk' => by rw [rstrip_S]; exact k t' tk') (by rw [S_len, sizeLine_eq]; lia)
end Mine
set_option maxHeartbeats 1000000
namespace Mine

/-- what _law_units tells of place k -/
noncomputable def unitOf (text : List Nat) (k : Nat) : Option (Int × List Nat) :=
  if Int.fmod ((k : Int) - ((rstripB (cut text none (some (k : Int)))).length : Int)) 2 == 1 then some ((k : Int), [92] ++ [text.getD (k : Int).toNat 0])
  else if ([text.getD (k : Int).toNat 0] != [92]) || ((k : Int) == (text.length : Int) - 1) then some ((k : Int), [text.getD (k : Int).toNat 0]) else none
noncomputable def unitsAt (text : List Nat) (i : Nat) : List (Int × List Nat) := (List.range i).flatMap fun k => (unitOf text k).toList
noncomputable def unitsP (text : List Nat) : List (Int × List Nat) := unitsAt text text.length
theorem unitsAt_succ (text : List Nat) (i : Nat) : unitsAt text (i + 1) = unitsAt text i ++ (unitOf text i).toList := by
  unfold unitsAt
  rw [List.range_succ, List.flatMap_append]; simp
theorem unitsAt_len (text : List Nat) (i : Nat) : (unitsAt text i).length ≤ i := by
  induction i with
  | zero => simp [unitsAt]
  | succ i ih =>
    rw [unitsAt_succ, List.length_append]
    have : (unitOf text i).toList.length ≤ 1 := by cases unitOf text i <;> simp
    exact Nat.add_le_add ih this
theorem rstripB_len (l : List Nat) : (rstripB l).length ≤ l.length := by unfold rstripB; exact List.length_take_le' _ _
/-- a turn of _law_units -/
inductive UJ (text : List Nat) (h₀ : Heap) (i : Nat) (vs : List Value) (N : Addr → Obj → Prop) : Prop
  | mk (hJ : PairsV N vs (unitsAt text i)) (hN : ∀ b o, N b o → h₀.get? b = none)
theorem UJ.add {text : List Nat} {h₀ h h' : Heap} {i : Nat} {vs : List Value} {N : Addr → Obj → Prop} (j : UJ text h₀ i vs N) {p : Int × List Nat} (hu : unitOf text i = some p) (kk : Keep h₀ h) {a : Addr} {o : Obj} {t u : Tok} (ho : h'.get? a = some o) (hn : h.get? a = none) (ht : TupO [.int p.1 t, .str (S p.2) u] o) :
    UJ text h₀ (i + 1) (vs ++ [.ref a]) (Gr N (New h h')) := by
  obtain ⟨hJ, hN⟩ := j
  refine ⟨?_, fun b o q => q.elim (hN b o) fun q => (New.grow kk q).2⟩
  rw [unitsAt_succ, hu]
  exact (hJ.mono fun b o q => .inl q).snoc ⟨a, o, t, u, rfl, .inr ⟨ho, hn⟩, ht⟩
theorem UJ.skip {text : List Nat} {h₀ : Heap} {i : Nat} {vs : List Value} {N : Addr → Obj → Prop} (j : UJ text h₀ i vs N) (hu : unitOf text i = none) : UJ text h₀ (i + 1) vs N := by
  obtain ⟨hJ, hN⟩ := j
  refine ⟨?_, hN⟩
  rw [unitsAt_succ, hu, Option.toList_none, List.append_nil]
  exact hJ
theorem UJ.len {text : List Nat} {h₀ : Heap} {i : Nat} {vs : List Value} {N : Addr → Obj → Prop} (j : UJ text h₀ i vs N) : vs.length ≤ i := by
  obtain ⟨hJ, _⟩ := j
  rw [hJ.len]; exact unitsAt_len text i
theorem Gr.three {h₀ : Heap} {N M : Addr → Obj → Prop} (b : Addr) (o : Obj) (q : Gr (Sb h₀) (Gr N M) b o) : Gr (Gr (Sb h₀) N) M b o := q.elim (fun q => .inl (.inl q)) fun q => q.elim (fun q => .inl (.inr q)) .inr
section
variable {w : WK} {A : Around} {E : Value → Shared → Prop} {h₀ : Heap} {g : Array GenState} {d : Drawn} {os : OsState}
variable {tk : Nat}
theorem units_call (gw : G w h₀) (ag : AG 3 A) (text : List Nat) (t : Tok) (ht : text.length ≤ 1000) {Q : Value → Shared → Prop}
    (hQ : ∀ a h' tk', Keep h₀ h' → Pairs (New h₀ h') a (unitsP text) → Q (.ref a) ⟨h', g, d, tk', os⟩) :
    wpAny (model PP w.w) A (call (.ref 210) [.str (S text) t]) Q E ⟨h₀, g, d, tk, os⟩ := by
  refine x_call (a := 210) (ks := [Str.ofString "text"]) (rest := [Str.ofString "pairs", Str.ofString "k", Str.ofString "ahead"]) (gl := [Str.ofString "range", Str.ofString "len"])
    ⟨w.need.f210.look, w.need.f210.code, rfl, rfl, rfl, rfl, by decide +kernel, by decide +kernel, by decide +kernel, by decide +kernel, rfl, rfl⟩ gw ag rfl rfl fun env L h₁ tk₁ e hf ag' z => ?_
  refine y_cons ?_
  refine x_asg (B := Sb h₀) (g := g) (d := d) (os := os) e 1 rfl ?_
  refine x_list (g := g) (d := d) (os := os) ?_
  refine evs_nil ?_
  refine ⟨_, _, rfl, Nat.le_of_ble_eq_true rfl, fun a h ka hn ho => ?_⟩
  replace z := z.add ka hn ho.choose_spec.1 ho.choose_spec.2
  refine ⟨_, _, _, _, rfl, z, Nat.le_of_ble_eq_true rfl, fun h tk z₁ => ?_⟩
  clear z; rename Z _ _ _ _ _ => z
  refine y_cons ?_
  refine wpAny_For ?_
  refine x_tcall (T := "range") ?_
  refine x_glob e (gw.keep z.keep) 0 rfl (gv_range w) ?_
  refine ⟨rfl, ?_⟩
  refine evs_cons ?_
  refine x_bcall (id := "len") ?_
  refine x_glob e (gw.keep z.keep) 1 rfl (gv_len w) ?_
  refine ⟨rfl, ?_⟩
  refine evs_cons ?_
  refine x_loc e z 0 rfl rfl ?_
  refine evs_nil ?_
  refine x_len_str (le_big ht) fun _ _ => ?_
  refine evs_nil ?_
  refine x_range1 fun r h tk kr hr hro => ?_
  replace z := z.keepAll kr
  refine x_iter_range hro (by decide) (by lia) fun I h kI hI hIt => ?_
  replace z := z.add kI hI hIt.choose_spec.1 hIt.choose_spec.2
  rw [Int.sub_zero, Int.toNat_natCast] at z
  refine x_forB (R := fun r s' => match r with | .ok f => _ | .error e => _) (L := L) (A := A.deeper env) (names := [Str.ofString "text"] ++ [Str.ofString "pairs", Str.ofString "k", Str.ofString "ahead"]) (σ := List Value × (Addr → Obj → Prop) × Option Value × Option Value)
    (fun st => Gr (Sb h₀) st.2.1) (iter_range ag'.hh I 0 text.length)
    (fun i st => UJ text h₀ i st.1 st.2.1) (fun i st => [some (.str (S text) t), some (.ref a), st.2.2.1, st.2.2.2]) (fun i st => [(a, LstO st.1)]) (fun _ _ => g) ([], (fun _ _ => False), none, none)
    ⟨.nil, fun _ _ q => q.elim⟩ ((z.pick [0, 1] (by decide)).subB fun b o q => q.elim id False.elim) (fun _ _ _ _ _ => trivial) ?_ ?_
  · intro i st v h tk hi hv j z
    obtain ⟨vs, N, kv, av⟩ := st
    obtain ⟨tq, rfl⟩ := hv
    dsimp only at j
    rw [Int.zero_add]
    refine x_stoName e z 2 rfl (Nat.le_of_ble_eq_true rfl) fun h tk z₁ _ => ?_
    clear z; rename Z _ _ _ _ _ => z
    refine absQ fun Qb hb0 => ?_
    have hvl : vs.length ≤ 100000 := Nat.le_trans j.len (Nat.le_trans (Nat.le_of_lt hi) (le_big ht))
    have hti : (i : Int) < (text.length : Int) := Int.ofNat_lt.mpr hi
    have hcl : (cut text none (some (i : Int))).length ≤ 100000 := Nat.le_trans (cut_len _ _ _) (le_big ht)
    have nxt : ∀ {vs' : List Value} {N' : Addr → Obj → Prop} {kv av : Value} {h : Heap} {tk : Nat}, UJ text h₀ (i + 1) vs' N' → Z (Gr (Sb h₀) N') L (fr ([Str.ofString "text"] ++ [Str.ofString "pairs", Str.ofString "k", Str.ofString "ahead"]) [some (.str (S text) t), some (.ref a), some kv, some av]) [(I, RangeIt 0 text.length (i + 1)), (a, LstO vs')] h → Qb .next ⟨h, g, d, tk, os⟩ :=
      fun {vs' N' kv av h tk} j z => hb0 .next _ ⟨(vs', N', some kv, some av), h, tk, rfl, j, z⟩
    clear hb0
    refine y_cons ?_
    refine x_asg (B := Gr (Sb h₀) N) (g := g) (d := d) (os := os) e 3 rfl ?_
    refine y_bin ?_
    refine x_loc e z 2 rfl rfl ?_
    refine x_bcall (id := "len") ?_
    refine x_glob e (gw.keep fun b o e => z.keep b o (.inl e)) 1 rfl (gv_len w) ?_
    refine ⟨rfl, ?_⟩
    refine evs_cons ?_
    refine x_meth F.plainAttrs_str F.slot_str_rstrip F.type_str_rstrip ?_
    refine x_slice_ns (g := g) (d := d) (os := os) ?_
    refine x_loc e z 0 rfl rfl ?_
    refine x_loc e z 2 rfl rfl ?_
    refine ⟨_, _, _, _, _, _, rfl, rfl, rfl, le_big ht, fun h tk t kp => ?_⟩
    replace z := z.keepAll kp
    refine ⟨⟨typeIs_str _ _ _, fun _ q => by cases q⟩, ?_⟩
    refine evs_cons ?_
    refine x_str [92] (by decide +kernel) fun _ _ => ?_
    refine evs_nil ?_
    refine x_rstrip hcl fun _ _ => ?_
    refine evs_nil ?_
    refine x_len_str (Nat.le_trans (rstripB_len _) hcl) fun _ _ => ?_
    refine x_sub fun _ _ => ?_
    refine ⟨_, _, _, _, rfl, z, Nat.le_of_ble_eq_true rfl, fun h tk z₁ => ?_⟩
    clear z; rename Z _ _ _ _ _ => z
    have kk : Keep h₀ h := fun b o q => z.keep b o (.inl q)
    refine y_cons ?_
    refine y_if ?_
    refine y_tcmp ?_
    refine y_bin ?_
    refine x_loc e z 3 rfl rfl ?_
    refine x_int fun _ _ => ?_
    refine x_mod (by decide) fun _ _ => ?_
    refine x_int fun _ _ => ?_
    refine x_eqi ?_
    refine x_truthy ?_
    refine ite_b (fun hb => ?_) fun hb => ?_
    · refine y_cons ?_
      refine x_append (d := d) (os := os) e.kind ?_
      refine x_loc e z 1 rfl rfl ?_
      refine ⟨_, vs, rfl, z.get 1 rfl, ?_⟩
      refine evs_cons ?_
      refine x_tuple (g := g) (d := d) (os := os) ?_
      refine evs_cons ?_
      refine x_loc e z 2 rfl rfl ?_
      refine evs_cons ?_
      refine y_bin ?_
      refine x_str [92] (by decide +kernel) fun _ _ => ?_
      refine y_sub ?_
      refine x_loc e z 0 rfl rfl ?_
      refine x_loc e z 2 rfl rfl ?_
      refine x_sign (le_big ht) (at_sign (Int.natCast_nonneg i) hti) (by with_unfolding_all rfl) fun _ _ => ?_
      refine x_cat (Nat.le_of_ble_eq_true rfl) fun _ _ => ?_
      refine evs_nil ?_
      refine ⟨_, _, rfl, Nat.le_of_ble_eq_true rfl, fun a h ka hn ho => ?_⟩
      obtain ⟨ot, hot, htt⟩ := ho
      replace z := z.grow ka
      refine evs_nil ?_
      refine ⟨_, _, _, _, _, _, _, _, 1, _, rfl, rfl, z, rfl, hvl, fun h z₁ => ?_⟩
      refine wpAny_execs_nil ?_
      refine wpAny_execs_nil ?_
      exact nxt (j.add (by unfold unitOf; rw [if_pos hb]) kk hot hn htt) (z₁.subB Gr.three)
    · refine y_cons ?_
      refine y_if ?_
      refine y_or2 (a := [text.getD (i : Int).toNat 0] != [92]) (b := (i : Int) == (text.length : Int) - 1) (g := g) (fun Q1 tk q => ?_) (fun _ h1 k1 Q1 tk q => ?_) fun h tk kp => ?_
      · refine y_tcmp ?_
        refine y_sub ?_
        refine x_loc e z 0 rfl rfl ?_
        refine x_loc e z 2 rfl rfl ?_
        refine x_sign (le_big ht) (at_sign (Int.natCast_nonneg i) hti) (by with_unfolding_all rfl) fun _ _ => ?_
        refine x_str [92] (by decide +kernel) fun _ _ => ?_
        refine x_nes ?_
        refine x_truthy ?_
        exact q _ _ (Keep.refl _)
      · replace z := z.keepAll k1
        refine y_tcmp ?_
        refine x_loc e z 2 rfl rfl ?_
        refine y_bin ?_
        refine x_bcall (id := "len") ?_
        refine x_glob e (gw.keep fun b o e => z.keep b o (.inl e)) 1 rfl (gv_len w) ?_
        refine ⟨rfl, ?_⟩
        refine evs_cons ?_
        refine x_loc e z 0 rfl rfl ?_
        refine evs_nil ?_
        refine x_len_str (le_big ht) fun _ _ => ?_
        refine x_int fun _ _ => ?_
        refine x_sub fun _ _ => ?_
        refine x_eqi ?_
        refine x_truthy ?_
        exact q _ _ (Keep.refl _)
      replace z := z.keepAll kp
      replace kk := kk.trans kp
      refine ite_b (fun hc => ?_) fun hc => ?_
      · refine y_cons ?_
        refine x_append (d := d) (os := os) e.kind ?_
        refine x_loc e z 1 rfl rfl ?_
        refine ⟨_, vs, rfl, z.get 1 rfl, ?_⟩
        refine evs_cons ?_
        refine x_tuple (g := g) (d := d) (os := os) ?_
        refine evs_cons ?_
        refine x_loc e z 2 rfl rfl ?_
        refine evs_cons ?_
        refine y_sub ?_
        refine x_loc e z 0 rfl rfl ?_
        refine x_loc e z 2 rfl rfl ?_
        refine x_sign (le_big ht) (at_sign (Int.natCast_nonneg i) hti) (by with_unfolding_all rfl) fun _ _ => ?_
        refine evs_nil ?_
        refine ⟨_, _, rfl, Nat.le_of_ble_eq_true rfl, fun a h ka hn ho => ?_⟩
        obtain ⟨ot, hot, htt⟩ := ho
        replace z := z.grow ka
        refine evs_nil ?_
        refine ⟨_, _, _, _, _, _, _, _, 1, _, rfl, rfl, z, rfl, hvl, fun h z₁ => ?_⟩
        refine wpAny_execs_nil ?_
        refine wpAny_execs_nil ?_
        refine wpAny_execs_nil ?_
        exact nxt (j.add (by unfold unitOf; rw [if_neg (ne_true_of_eq_false hb), if_pos hc]) kk hot hn htt) (z₁.subB Gr.three)
      · refine wpAny_execs_nil ?_
        refine wpAny_execs_nil ?_
        refine wpAny_execs_nil ?_
        exact nxt (j.skip (by unfold unitOf; rw [if_neg (ne_true_of_eq_false hb), if_neg (ne_true_of_eq_false hc)])) z
  · intro st h tk j z
    obtain ⟨vs, N, kv, av⟩ := st
    obtain ⟨hJ, hN⟩ := j
    refine y_cons ?_
    refine y_ret ?_
    refine x_loc e z 1 rfl rfl ?_
    obtain ⟨o, ho, hl⟩ := z.get 0 rfl
    refine hQ _ _ _ (fun b o q => z.keep b o (.inl q)) ⟨o, vs, ⟨ho, ?_⟩, hl, hJ.mono fun b o q => ⟨z.keep b o (.inr q), hN b o q⟩⟩
    cases e : h₀.get? a with
    | none => rfl
    | some o' => exact absurd (Or.inl e) ((z.off _ (List.mem_cons_self)).2 o')
end
end Mine
set_option maxHeartbeats 400000
namespace Mine
noncomputable def EnumP (it : Addr) (i : Int) : Obj → Prop := fun o => ∃ old, o = { cls := .type "enumerate", dict := none, data := .fields #[.none, .bool false, .ref it, rawInt i, .none, old], slots := #[] }
noncomputable def EnumOutP (it : Addr) (i : Int) (tup : Addr) : Obj → Prop := fun o => ∃ x, o = { cls := .type "enumerate", dict := none, data := .fields #[rawInt tup, .bool false, .ref it, rawInt i, .none, x], slots := #[] }
noncomputable def SItP (x : Str) (t : Tok) (i : Nat) : Obj → Prop := fun o => o.cls = .type (strIterType x) ∧ o.data = .fields #[.str x t, .int i 0]
section
variable {prog : Program} {w : WK} {A : Around} {E : Value → Shared → Prop} {env : Env} {g : Array GenState} {d : Drawn} {os : OsState} {B : Addr → Obj → Prop} {L : Addr} {names gl : List Str}
variable {h : Heap} {tk : Nat} {m : Str → Option Value} {n : List (Addr × (Obj → Prop))} {vals : List (Option Value)}
/-- two things of the ledger are turned -/
theorem Z.two {a b : Addr} {P Q P' Q' : Obj → Prop} {h' : Heap} (z : Z B L m ((a, P) :: (b, Q) :: n) h) (hk : ∀ c o, c ≠ a → c ≠ b → h.get? c = some o → h'.get? c = some o)
    (ha : ∃ o, h'.get? a = some o ∧ P' o) (hb : ∃ o, h'.get? b = some o ∧ Q' o) : Z B L m ((a, P') :: (b, Q') :: n) h' := by
  have oa := z.off (a, P) (by simp)
  have ob := z.off (b, Q) (by simp)
  have nd := z.nd
  simp only [List.map_cons, List.nodup_cons, List.mem_cons, not_or] at nd
  refine ⟨z.ns.at' fun o e => hk L o (Ne.symm oa.1) (Ne.symm ob.1) e, fun c o e => hk c o (fun q => oa.2 o (q ▸ e)) (fun q => ob.2 o (q ▸ e)) (z.keep c o e), z.apart, ?_, ?_, ?_⟩
  · intro p hp
    rcases List.mem_cons.mp hp with rfl | hp
    · exact ha
    · rcases List.mem_cons.mp hp with rfl | hp
      · exact hb
      · obtain ⟨o, e, q⟩ := z.led p (by simp [hp])
        exact ⟨o, hk _ o (fun c => nd.1.2 (List.mem_map.mpr ⟨p, hp, c⟩)) (fun c => nd.2.1 (List.mem_map.mpr ⟨p, hp, c⟩)) e, q⟩
  · intro p hp
    rcases List.mem_cons.mp hp with rfl | hp
    · exact oa
    · rcases List.mem_cons.mp hp with rfl | hp
      · exact ob
      · exact z.off p (by simp [hp])
  · simp only [List.map_cons, List.nodup_cons, List.mem_cons, not_or]; exact nd

theorem draws_str (hh : A.handled = none) (it : Addr) (x : Str) (t : Tok) :
    Draws prog w.w A it [it] x.cps.size (fun i v => ∃ c u, x.cps[i]? = some c ∧ v = .str ⟨#[c]⟩ u) (fun i h => h.IsStrIter it (strIterType x) x t i) := by
  unfold strIterType
  split
  · exact Draws.strAscii hh it x t
  · exact Draws.strWide hh it x t

/-- the next pair of enumerate(text) -/
theorem x_enum_next (hh : A.handled = none) {text : List Nat} {t : Tok} {e it : Addr} {i : Nat} (z : Z B L m ((e, EnumP it i) :: (it, SItP (S text) t i) :: n) h) (hi : i < text.length) {Q : Option Value → Shared → Prop}
    (k : ∀ tup h' tk' u1 u2, Z B L m ((tup, TupO [.int i u1, .str (S [text.getD i 0]) u2]) :: (e, EnumOutP it ((i + 1 : Nat) : Int) tup) :: (it, SItP (S text) t (i + 1)) :: n) h' → h.get? tup = none →
      (∀ b o, b ≠ e → b ≠ it → h.get? b = some o → h'.get? b = some o) → Q (some (.ref tup)) ⟨h', g, d, tk', os⟩) : wpAny (model prog w.w) A (pyNext (.ref e)) Q E ⟨h, g, d, tk, os⟩ := by
  obtain ⟨oe, hoe, old, rfl⟩ := z.get 0 rfl
  obtain ⟨oi, hoi, hc, hd⟩ := z.get 1 rfl
  have nd := z.nd
  simp only [List.map_cons, List.nodup_cons, List.mem_cons, not_or] at nd
  have hei : e ≠ it := nd.1.1
  have D := draws_str (prog := prog) (w := w) (A := A.in1) hh it (S text) t
  have hst₀ : h.IsStrIter it (strIterType (S text)) (S text) t i := ⟨oi, hoi, hc, hd⟩
  refine wpAny_pyNext_enum_itemD (s := ⟨h, g, d, tk, os⟩) D hoe hst₀ (by rw [show (S text).cps.size = text.length from S_len text]; exact hi) hei (by simp [hei]) fun x h' tk' hP hout hst htup hsz hk => ?_
  obtain ⟨c, u, hc1, rfl⟩ := hP
  have hcc : c = text.getD i 0 := by
    have : text[i]? = some c := by simpa [S] using hc1
    simp [List.getD, this]
  subst hcc
  obtain ⟨oi', hoi', hst'⟩ := hst
  have z1 := z.two (h' := h') (P' := EnumOutP it ((i + 1 : Nat) : Int) h.objs.size) (Q' := SItP (S text) t (i + 1)) hk ⟨_, hout, _, rfl⟩ ⟨oi', hoi', hst'⟩
  have f := z.fresh (get_size h)
  refine k h.objs.size h' _ tk' u ?_ (get_size h) hk
  refine ⟨z1.ns, z1.keep, z1.apart, ?_, ?_, ?_⟩
  · intro p hp
    rcases List.mem_cons.mp hp with rfl | hp
    · exact ⟨_, htup, rfl⟩
    · exact z1.led p hp
  · intro p hp
    rcases List.mem_cons.mp hp with rfl | hp
    · exact ⟨f.1, f.2.1⟩
    · exact z1.off p hp
  · rw [List.map_cons, List.nodup_cons]; exact ⟨f.2.2, z1.nd⟩
theorem x_enum_end (hh : A.handled = none) {text : List Nat} {t : Tok} {e it : Addr} (z : Z B L m ((e, EnumP it (text.length : Nat)) :: (it, SItP (S text) t text.length) :: n) h) {Q : Option Value → Shared → Prop}
    (k : ∀ h', Heap.ExtBut it h h' → Q none ⟨h', g, d, tk, os⟩) : wpAny (model prog w.w) A (pyNext (.ref e)) Q E ⟨h, g, d, tk, os⟩ := by
  obtain ⟨oe, hoe, old, rfl⟩ := z.get 0 rfl
  obtain ⟨oi, hoi, hc, hd⟩ := z.get 1 rfl
  have D := draws_str (prog := prog) (w := w) (A := A.in1) hh it (S text) t
  exact wpAny_pyNext_enum_endD (s := ⟨h, g, d, tk, os⟩) D hoe (by
    show Heap.IsStrIter h it (strIterType (S text)) (S text) t (S text).cps.size
    rw [show (S text).cps.size = text.length from S_len text]
    exact ⟨oi, hoi, hc, hd⟩) k
theorem x_enum_go {elts : List Expr} {x1 : Nat} {pos : Pos} {e it tup : Addr} {i : Int} {P : Obj → Prop} {Q : Unit → Shared → Prop} (z : Z B L m ((tup, P) :: (e, EnumOutP it i tup) :: n) h)
    (k : ∀ h', Z B L m ((tup, P) :: (e, EnumP it i) :: n) h' → Heap.SameBut e h h' → Q () ⟨h', g, d, tk, os⟩) : wpAny (model prog w.w) A (letOwnedTupleGo (.Tuple elts x1 pos) (.ref e) (.ref tup)) Q E ⟨h, g, d, tk, os⟩ := by
  obtain ⟨oe, hoe, x, rfl⟩ := z.get 1 rfl
  exact wpAny_letOwnedTupleGo_enum (s := ⟨h, g, d, tk, os⟩) hoe fun h' he hs => k h' (z.upd 1 rfl hs he ⟨_, rfl⟩) hs
/-- x, y = a tuple -/
theorem x_asgTup2 {x y : Str} {px py pos : Pos} {kk : Nat} {t : Addr} {v₁ v₂ : Value} {Q : Unit → Shared → Prop} (e : EnvL env L names gl) (hh : A.handled = none) (z : Z B L (fr names vals) n h) (ix iy : Nat) (hx : names[ix]? = some x) (hy : names[iy]? = some y)
    (i1 : ix < vals.length) (i2 : iy < vals.length) (ht : Tup h t [v₁, v₂])
    (k : ∀ h' tk', Z B L (fr names ((vals.set ix (some v₁)).set iy (some v₂))) n h' → Heap.ExtBut L h h' → Q () ⟨h', g, d, tk', os⟩) :
    wpAny (model prog w.w) A (assign (.Tuple [.Name x px, .Name y py] kk pos) env (.ref t)) Q E ⟨h, g, d, tk, os⟩ := by
  refine wpAny_assign_Tuple (s := ⟨h, g, d, tk, os⟩) hh (Tup.isTuple (h := h) ht) rfl rfl fun h₄ hx₄ => ?_
  have k₄ : Keep h h₄ := Keep.ext hx₄
  have z₄ := z.keepAll k₄
  show wpAny (model prog w.w) A (assignInOrder [assign (.Name x px) env, assign (.Name y py) env] [v₁, v₂]) _ E ⟨h₄, g, d, tk, os⟩
  refine wpAny_assignInOrder_more (x_stoName e z₄ ix hx i1 fun h₅ tk₅ z₅ s₅ => ?_)
  refine wpAny_assignInOrder_more (x_stoName e z₅ iy hy (by simpa using i2) fun h₆ tk₆ z₆ s₆ => ?_)
  exact wpAny_assignInOrder_none (k h₆ tk₆ z₆ fun b o hb q => s₆.extBut b o hb (s₅.extBut b o hb (k₄ b o q)))
end

section
variable {M : Model} {A : Around} {R : GenEnd} {Y : Protocol} {s₀ : Shared} {c : Code} {fs : List Frame} {env : Env}
variable {n : Nat} {s : Shared}
  {K : Flow → Sem Fin} {H : Value → Sem Fin} {gd : Bool → Bool} {lv : List Value → List Value}
/-- behind a statement of a generator -/
inductive PSg (M : Model) (A : Around) (R : GenEnd) (Y : Protocol) (n : Nat) (s₀ : Shared) (c : Code) (rest : List Stmt) (env : Env) (K : Flow → Sem Fin) (H : Value → Sem Fin) (gd : Bool → Bool) (lv : List Value → List Value) (fs : List Frame) (f : Flow) (s' : Shared) : Prop
  | mk (e : f = .next) (k : Seg M A R Y n s₀ c ((execs rest env).wrap K H gd lv) fs s')
noncomputable def QSi (M : Model) (A : Around) (R : GenEnd) (Y : Protocol) (n : Nat) (s₀ : Shared) (c : Code) (x y : List Stmt) (env : Env) (K : Flow → Sem Fin) (H : Value → Sem Fin) (gd : Bool → Bool) (lv : List Value → List Value) (fs : List Frame) (b : Bool) (s' : Shared) : Prop :=
  if b = true then Seg M A R Y n s₀ c ((execs x env).wrap K H gd lv) fs s' else Seg M A R Y n s₀ c ((execs y env).wrap K H gd lv) fs s'
noncomputable def FF (env : Env) (K : Flow → Sem Fin) (H : Value → Sem Fin) (gd : Bool → Bool) (lv : List Value → List Value) (c : Code) (p : Pos) : Frame :=
  .ret (fun r => ((match r with | .ok f => (.pure f : Sem Flow) | .error e => .raise e).onRaise fun (x : Value) => do
        if (← field x 1) == Value.none then unsupported "frame.own-activation:exception-without-traceback"
        setFlight x env.frame).wrap K H gd lv) none (gd false) (lv []) c p []
noncomputable def KF (target : Expr) (it : Value) (body : List Stmt) (env : Env) (f : Flow) : Sem Fin := match f with
  | .next | .cont => .pure (.again (.forLoop target it body [] env))
  | .brk => .pure (.done .next)
  | .ret v => .pure (.done (.ret v))
noncomputable def HF (env : Env) (e : Value) : Sem Fin := (do noteFrame e env; theTreesLotGoes e : Sem Unit).wrap (fun _ => .raise e) .raise id id
/-- a plain statement inside a generator -/
theorem seg_stmt {st : Stmt} {rest : List Stmt}
    (h : wpAny M (A.over c fs) (exec st env) (PSg M A R Y n s₀ c rest env K H gd lv fs) (fun _ _ => False) s) :
    Seg M A R Y n s₀ c ((execs (st :: rest) env).wrap K H gd lv) fs s := by
  refine seg_execs_cons (seg_wrap (wpAny_mono h (fun f s' q => ?_) fun _ _ q => q.elim))
  obtain ⟨rfl, q⟩ := q
  exact q
theorem seg_If {test : Expr} {body orelse : List Stmt} {pos : Pos}
    (h : wpAny M (A.over c fs) (isTrue test env (eval test env)) (QSi M A R Y n s₀ c body orelse env K H gd lv fs) (fun _ _ => False) s) :
    Seg M A R Y n s₀ c ((exec (.If test body orelse pos) env).wrap K H gd lv) fs s := by
  rw [arm_exec_If]
  refine seg_bind_wrap (wpAny_standAt (seg_bind_wrap (wpAny_mono h (fun b s' q => ?_) fun _ _ q => q.elim)))
  cases b with
  | true => exact q
  | false => exact q
theorem seg_For {target iter : Expr} {body orelse : List Stmt} {pos : Pos}
    (h : wpAny M (A.over c fs) (eval iter env) (fun x s₁ => wpAny M (A.over c fs) (pyIter x) (fun it s₂ => ∀ p,
      Seg M A R Y n s₀ (.forLoop target it body orelse env) (M.den (.forLoop target it body orelse env))
      (FF env K H gd lv c p :: fs) s₂) (fun _ _ => False) s₁) (fun _ _ => False) s)
    (hs : ∀ x, foldedSetIterable iter env x = pure x := by intro _; rfl) :
    Seg M A R Y n s₀ c ((exec (.For target iter body orelse pos) env).wrap K H gd lv) fs s := by
  rw [exec_For]
  refine seg_bind_wrap (wpAny_standAt (seg_bind_wrap (wpAny_mono h (fun x s₁ q => ?_) fun _ _ q => q.elim)))
  refine seg_bind_wrap (wpAny_of_eq (hs x) (seg_bind_wrap (wpAny_standAt (seg_bind_wrap (wpAny_holding (wpAny_mono q (fun it s₂ q => ?_) fun _ _ q => q.elim))))))
  exact seg_call q
theorem seg_forLoop {prog : Program} {w : WK} {target : Expr} {it : Value} {body : List Stmt}
    (h : wpAny (model prog w.w) (A.over (.forLoop target it body [] env) fs) (pyNext it) (fun r s₁ => match r with
      | none => Seg (model prog w.w) A R Y n s₀ (.forLoop target it body [] env) (.pure (.again (.block [] env))) fs s₁
      | some v => wpAny (model prog w.w) (A.over (.forLoop target it body [] env) fs) (letOwnedTupleGo target it v) (fun _ s₂ => wpAny (model prog w.w) (A.over (.forLoop target it body [] env) fs) (assign target env v) (fun _ s₃ =>
          Seg (model prog w.w) A R Y n s₀ (.forLoop target it body [] env) ((execs body env).wrap (KF target it body env) (HF env) id id) fs s₃) (fun _ _ => False) s₂) (fun _ _ => False) s₁) (fun _ _ => False) s) :
    Seg (model prog w.w) A R Y n s₀ (.forLoop target it body [] env) ((model prog w.w).den (.forLoop target it body [] env)) fs s := by
  show Seg _ A R Y n s₀ _ ((forTurn target it body [] env).onRaise (fun x => do noteFrame x env; theTreesLotGoes x)) fs s
  unfold forTurn
  rw [Sem.onRaise_eq_wrap]
  refine seg_bind_wrap (wpAny_standAt (seg_bind_wrap (wpAny_onRaise (wpAny_mono h (fun r s₁ q => ?_) fun _ _ q => q.elim))))
  cases r with
  | none => exact q
  | some v =>
    refine seg_bind_wrap (wpAny_mono q (fun _ s₂ q => seg_bind_wrap (wpAny_mono q (fun _ s₃ q => ?_) fun _ _ q => q.elim)) fun _ _ q => q.elim)
    rw [Sem.bind_eq_wrap', Sem.wrap_wrap]
    rw [Sem.wrap_congr (execs body env) _ _ (K' := fun f => match f with
            | .next | .cont => .pure (.again (.forLoop target it body [] env))
            | .brk => .pure (.done .next)
            | .ret v => .pure (.done (.ret v))) (H' := (fun e => (do noteFrame e env; theTreesLotGoes e : Sem Unit).wrap (fun _ => .raise e) .raise id id))
        (fun f => by cases f <;> rfl)
        (fun e => by first | exact Sem.bind_eq_wrap _ _ | (show (do noteFrame e env; theTreesLotGoes e : Sem Unit).bind (fun _ => .raise e) = _; rw [Sem.bind_eq_wrap]))]
    exact q
/-- the end of a loop without an else -/
theorem seg_block_nil {prog : Program} {w : WK} {c₀ : Code} {r} {h₁ g l} {c₁ : Code} {p₁ : Pos} {kp}
    (h : Seg (model prog w.w) A R Y n s₀ c₁ (r (.ok .next)) fs s) : Seg (model prog w.w) A R Y n s₀ c₀ (.pure (.again (.block [] env))) (.ret r h₁ g l c₁ p₁ kp :: fs) s := by
  refine seg_again rfl ?_
  exact seg_leaf (.ok .next) h
/-- a loop by its measure -/
theorem seg_loop {prog : Program} {w : WK} (I : Nat → Nat → Shared → Shared → Prop) (hq : c.quiet = true)
    (turn : ∀ n k s₀ s, I n k s₀ s → (∀ n' k' s₀' s', k' < k → I n' k' s₀' s' → Seg (model prog w.w) A R Y n' s₀' c (.pure (.again c)) fs s') → Seg (model prog w.w) A R Y n s₀ c ((model prog w.w).den c) fs s) :
    ∀ k n s₀ s, I n k s₀ s → Seg (model prog w.w) A R Y n s₀ c ((model prog w.w).den c) fs s := by
  intro k
  induction k using Nat.strongRecOn with
  | _ k ih =>
    intro n s₀ s hI
    exact turn n k s₀ s hI fun n' k' s₀' s' hk hI' => seg_again hq (ih k' hk n' s₀' s' hI')
end
end Mine
namespace Mine
/-- a def with yield -/
structure DefAtG (w : WK) (a : Addr) (fd : FuncData) (body : List Stmt) (ks rest gl : List Str) : Prop where
  look : ∃ c dd sl, (KK w).lookup a = some ⟨c, dd, .func fd, sl⟩
  code : codeIn (KK w) fd.code fd.qualname = true
  body : fd.body = .stmts body
  co : fd.scope.isCoroutine = false
  gen : fd.scope.isGenerator = true
  kind : fd.scope.kind = .function
  cell : fd.scope.names.all (fun x => x.2 != .cell) = true
  nd : (ks ++ rest).Nodup
  loc : (ks ++ rest).all (fun x => fd.scope.names.lookup x == some .local && !(x == ("__debug__" : Str))) = true
  glo : gl.all (fun x => fd.scope.names.lookup x == some .globalImplicit && !(x == ("__debug__" : Str))) = true
  eg : fd.globals = mainGlobals
  eb : fd.builtins = builtinsNs
section
variable {prog : Program} {w : WK} {A : Around} {E : Value → Shared → Prop} {g : Array GenState} {d : Drawn} {os : OsState}
variable {h : Heap} {tk : Nat}
theorem x_gcall {a : Addr} {fd : FuncData} {body : List Stmt} {ks rest gl : List Str} {args : List Value} {Q : Value → Shared → Prop} {N : Nat}
    (D : DefAtG w a fd body ks rest gl) (gw : G w h) (ag : AG (N + 1) A) (hb : bindArgs fd ⟨args, []⟩ = pure (ks.zip args)) (hl : ks.length = args.length)
    (k : ∀ env L h₁ gen tk₁, EnvL env L (ks ++ rest) gl → env.scope.isCoroutine = false → Z (Sb h) L (fr (ks ++ rest) (args.map some ++ rest.map fun _ => none)) [] h₁ → h.get? gen = none → gen ≠ L → h₁.IsGen gen g.size →
      Q (.ref gen) ⟨h₁, g.push (.fresh (.func body env)), d, tk₁, os⟩) :
    wpAny (model prog w.w) A (call (.ref a) args) Q E ⟨h, g, d, tk, os⟩ := by
  obtain ⟨c, dd, sl, hk⟩ := D.look
  have ho := gw.K _ _ hk
  refine wpAny_call (codeAny_call_generator (s := ⟨h, g, d, tk, os⟩) ag.room ho rfl D.co D.gen D.body (codeRec_of gw.K D.code) (wpAny_of_eq hb ?_))
  have hloc : ∀ y ∈ ks, fd.scope.names.lookup y = some .local := fun y hy => by
    have := List.all_eq_true.mp D.loc y (List.mem_append_left _ hy)
    rw [Bool.and_eq_true] at this
    exact eq_of_beq this.1
  refine wpAny_newFunctionEnv (fun y hy => by have := List.all_eq_true.mp D.cell y hy; simpa using this) (fun y hy => hloc _ (List.of_mem_zip hy).1) (fun h₁ hn hs => ?_) D.kind
  have hns : h₁.Ns h.objs.size (fr (ks ++ rest) (args.map some ++ rest.map fun _ => none)) := by
    rw [← fr_binds ks rest args D.nd hl]; exact hn
  have hsz : h₁.objs.size = h.objs.size + 1 := by rw [hs.1, Heap.size_push]
  have hk₁ : Keep h h₁ := fun b o e => hs.extBut b o (Nat.ne_of_lt (Heap.lt_size e)) (Heap.get?_push_of_some _ e)
  refine ⟨gw.lim.keeps hk₁, ?_⟩
  have z := Sb.Z_enter hns hk₁
  have z2 := z.keepAll (Keep.push h₁ { cls := .type "generator", data := .fields #[.int g.size 0, .str fd.name (tk + (ks.zip args).length), .str fd.qualname (tk + (ks.zip args).length + 1)] })
  refine k _ _ _ _ _ ⟨D.kind, rfl, D.nd, fun y hy => ?_, fun y hy => ?_, D.eg, D.eb⟩ D.co z2 ?_ ?_ ?_
  · have := List.all_eq_true.mp D.loc y hy
    rw [Bool.and_eq_true, Bool.not_eq_true'] at this
    exact ⟨eq_of_beq this.1, this.2⟩
  · have := List.all_eq_true.mp D.glo y hy
    rw [Bool.and_eq_true, Bool.not_eq_true'] at this
    exact ⟨eq_of_beq this.1, this.2⟩
  · cases e : h.get? h₁.objs.size with
    | none => rfl
    | some o => have := Heap.lt_size e; rw [hsz] at this; exact absurd (Nat.lt_of_succ_lt this) (Nat.lt_irrefl _)
  · rw [hsz]; exact Nat.succ_ne_self _
  · exact ⟨_, _, _, Heap.get?_push_size _ rfl, rfl, rfl, rfl⟩
end

/-- what belongs to the generator -/
noncomputable def OwnO (o : Obj) : Prop := o.cls = .type "enumerate" ∨ o.cls = .type "str_ascii_iterator" ∨ o.cls = .type "str_iterator"
noncomputable def OwnG (n : List (Addr × (Obj → Prop))) : Prop := ∀ p ∈ n, ∀ o, p.2 o → OwnO o
noncomputable def KeepG (C : Addr) (h h' : Heap) : Prop := ∀ b o, b ≠ C → ¬ OwnO o → h.get? b = some o → h'.get? b = some o
theorem KeepG.refl (C : Addr) (h : Heap) : KeepG C h h := fun _ _ _ _ e => e
theorem KeepG.trans {C : Addr} {a b c : Heap} (x : KeepG C a b) (y : KeepG C b c) : KeepG C a c := fun p o hp ho e => y p o hp ho (x p o hp ho e)
theorem KeepG.ofKeep {C : Addr} {h h' : Heap} (k : Keep h h') : KeepG C h h' := fun b o _ _ e => k b o e
theorem KeepG.ofExt {C : Addr} {h h' : Heap} (k : Heap.ExtBut C h h') : KeepG C h h' := fun b o hb _ e => k b o hb e
theorem KeepG.ofOwn {C : Addr} {B : Addr → Obj → Prop} {m : Str → Option Value} {n : List (Addr × (Obj → Prop))} {h h' : Heap} {e it : Addr} {P Q : Obj → Prop} (z : Z B C m ((e, P) :: (it, Q) :: n) h) (hP : ∀ o, P o → OwnO o) (hQ : ∀ o, Q o → OwnO o)
    (k : ∀ b o, b ≠ e → b ≠ it → h.get? b = some o → h'.get? b = some o) : KeepG C h h' := by
  refine fun b o hb ho q => k b o (fun c => ?_) (fun c => ?_) q
  · obtain ⟨o', q', p'⟩ := z.get 0 rfl
    subst c; rw [q] at q'; cases q'; exact ho (hP _ p')
  · obtain ⟨o', q', p'⟩ := z.get 1 rfl
    subst c; rw [q] at q'; cases q'; exact ho (hQ _ p')
theorem Z.not0 {h₀ : Heap} {L : Addr} {m : Str → Option Value} {n : List (Addr × (Obj → Prop))} {h : Heap} (z : Z (Sb h₀) L m n h) {a : Addr} (hn : h.get? a = none) : h₀.get? a = none := by
  cases e : h₀.get? a with
  | none => rfl
  | some o => have := z.keep a o e; rw [hn] at this; cases this
theorem Z.here {B : Addr → Obj → Prop} {L : Addr} {m : Str → Option Value} {n : List (Addr × (Obj → Prop))} {h : Heap} (z : Z B L m n h) : h.get? L ≠ none := by
  obtain ⟨o, _, _, e, _⟩ := z.ns; rw [e]; simp
theorem Z.there {B : Addr → Obj → Prop} {L : Addr} {m : Str → Option Value} {n : List (Addr × (Obj → Prop))} {h : Heap} (z : Z B L m n h) (i : Nat) {a : Addr} {P : Obj → Prop} (hi : n[i]? = some (a, P)) : h.get? a ≠ none := by
  obtain ⟨o, e, _⟩ := z.get i hi; rw [e]; simp
theorem own_enum {it : Addr} {i : Int} : ∀ o, EnumP it i o → OwnO o := by rintro o ⟨_, rfl⟩; exact .inl rfl
theorem own_enumOut {it tup : Addr} {i : Int} : ∀ o, EnumOutP it i tup o → OwnO o := by rintro o ⟨_, rfl⟩; exact .inl rfl
theorem own_sit {x : Str} {t : Tok} {i : Nat} : ∀ o, SItP x t i o → OwnO o := by
  rintro o ⟨hc, _⟩
  unfold strIterType at hc
  split at hc
  · exact .inr (.inl hc)
  · exact .inr (.inr hc)

/-- what _iter_escaped_chars tells -/
noncomputable def escP : List Nat → Nat → Bool → List (Int × List Nat)
  | [], i, esc => if esc then [((i : Int) - 1, [92])] else []
  | c :: r, i, esc => if esc then ((i : Int), [92] ++ [c]) :: escP r (i + 1) false else if [c] == [92] then escP r (i + 1) true else ((i : Int), [c]) :: escP r (i + 1) false

inductive EscYI (h₀ : Heap) (C : Addr) (ps : List (Int × List Nat)) (m : Nat) (s₀ : Shared) (v : Value) (s : Shared) (kap : Resume → Shared → Prop) : Prop
  | mk (h' : Heap) (tk : Nat) (t : Addr) (o : Obj) (p : Int × List Nat) (u1 u2 : Tok) (m' : Str → Option Value) (n' : Led) (e : s = ⟨h', s₀.gens, s₀.drawn, tk, s₀.os⟩) (e1 : v = .ref t) (hn : h₀.get? t = none) (ho : h'.get? t = some o) (ht : TupO [.int p.1 u1, .str (S p.2) u2] o)
      (hp : ps[ps.length - 1 - m]? = some p) (kg : KeepG C s₀.heap h') (z : Z (Sb h₀) C m' n' h') (og : OwnG n') (k : ∀ s'' : Shared, Z (Sb h₀) C m' n' s''.heap → kap (.send .none) s'')
noncomputable def EscY (h₀ : Heap) (C : Addr) (ps : List (Int × List Nat)) : Protocol := EscYI h₀ C ps
noncomputable def EscE (h₀ : Heap) (C : Addr) (n : Nat) (s₀ s₁ : Shared) : Prop := n = 0 ∧ ∃ h' tk, s₁ = ⟨h', s₀.gens, s₀.drawn, tk, s₀.os⟩ ∧ KeepG C s₀.heap h' ∧ Keep h₀ h'
noncomputable def EscR (h₀ : Heap) (C : Addr) : GenEnd := fun n s₀ r s₁ => r = .ok (.ret .none) ∧ EscE h₀ C n s₀ s₁
/-- the generator ahead of its j-th pair -/
structure EscAt (w : WK) (A : Around) (h₀ : Heap) (C a : Addr) (gi : Nat) (ps : List (Int × List Nat)) (j : Nat) (s : Shared) : Prop where
  isgen : s.heap.IsGen a gi
  ne : a ≠ C
  fresh : h₀.get? a = none
  st : ∃ gs m n, s.gens[gi]? = some gs ∧ Z (Sb h₀) C m n s.heap ∧ OwnG n ∧ ∀ s'' : Shared, Z (Sb h₀) C m n s''.heap →
    gs.Goes (model PP w.w) A.in1 (EscR h₀ C) (EscY h₀ C ps) (ps.length - j) (.send .none) s''
section
variable {prog : Program} {w : WK} {A : Around} {E : Value → Shared → Prop} {g : Array GenState} {d : Drawn} {os : OsState} {B : Addr → Obj → Prop} {L : Addr}
variable {h : Heap} {tk : Nat} {m : Str → Option Value} {n : List (Addr × (Obj → Prop))}
theorem x_enum_str {x : Str} {t : Tok} {Q : Value → Shared → Prop} (z : Z B L m n h)
    (k : ∀ e it h', Keep h h' → Z B L m ((e, EnumP it (0 : Nat)) :: (it, SItP x t 0) :: n) h' → Q (.ref e) ⟨h', g, d, tk, os⟩) : wpAny (model prog w.w) A (call (.type "enumerate") [.str x t]) Q E ⟨h, g, d, tk, os⟩ := by
  refine call_enumerate_str (s := ⟨h, g, d, tk, os⟩) fun h' he hi hsz hk => ?_
  obtain ⟨oi, hoi, hst⟩ := hi
  refine k _ h.objs.size h' hk ?_
  have z1 := z.add (P := SItP x t 0) hk (get_size h) hoi hst
  have f := z.fresh (get_size h)
  have hn : h.get? (h.objs.size + 1) = none := by
    cases e : h.get? (h.objs.size + 1) with
    | none => rfl
    | some o => exact absurd (Heap.lt_size e) (Nat.not_lt.mpr (Nat.le_succ _))
  have f2 := z.fresh hn
  refine ⟨z1.ns, z1.keep, z1.apart, ?_, ?_, ?_⟩
  · intro p hp
    rcases List.mem_cons.mp hp with rfl | hp
    · exact ⟨_, he, _, rfl⟩
    · exact z1.led p hp
  · intro p hp
    rcases List.mem_cons.mp hp with rfl | hp
    · exact ⟨f2.1, f2.2.1⟩
    · exact z1.off p hp
  · rw [List.map_cons, List.nodup_cons]
    refine ⟨fun q => ?_, z1.nd⟩
    rw [List.map_cons] at q
    rcases List.mem_cons.mp q with q | q
    · exact absurd q (Nat.succ_ne_self _)
    · exact f2.2.2 q
theorem x_iter_enum {e it : Addr} {i : Int} {Q : Value → Shared → Prop} (h1 : ∃ o, h.get? e = some o ∧ EnumP it i o) (k : Q (.ref e) ⟨h, g, d, tk, os⟩) : wpAny (model prog w.w) A (pyIter (.ref e)) Q E ⟨h, g, d, tk, os⟩ := by
  obtain ⟨o, ho, old, rfl⟩ := h1
  exact wpAny_pyIter_enum (s := ⟨h, g, d, tk, os⟩) ho k
end
end Mine
set_option maxHeartbeats 1000000
namespace Mine
theorem escP_cons_t {text : List Nat} {i : Nat} (hi : i < text.length) : escP (text.drop i) i true = ((i : Int), [92] ++ [text.getD i 0]) :: escP (text.drop (i + 1)) (i + 1) false := by
  rw [List.drop_eq_getElem_cons hi]
  simp [escP, List.getD, List.getElem?_eq_getElem hi]
theorem escP_cons_f {text : List Nat} {i : Nat} (hi : i < text.length) (h : ([text.getD i 0] == [92]) = false) : escP (text.drop i) i false = ((i : Int), [text.getD i 0]) :: escP (text.drop (i + 1)) (i + 1) false := by
  rw [List.drop_eq_getElem_cons hi]
  have e : text.getD i 0 = text[i] := by simp [List.getD, List.getElem?_eq_getElem hi]
  rw [e] at h ⊢
  simp only [escP, h, Bool.false_eq_true, if_false]
theorem escP_cons_b {text : List Nat} {i : Nat} (hi : i < text.length) (h : ([text.getD i 0] == [92]) = true) : escP (text.drop i) i false = escP (text.drop (i + 1)) (i + 1) true := by
  rw [List.drop_eq_getElem_cons hi]
  have e : text.getD i 0 = text[i] := by simp [List.getD, List.getElem?_eq_getElem hi]
  rw [e] at h
  simp only [escP, h, Bool.false_eq_true, if_false, if_true]
theorem seg_eta {M : Model} {A : Around} {R : GenEnd} {Y : Protocol} {n : Nat} {s₀ : Shared} {c : Code} {t : Sem Fin} {fs : List Frame} (h : Seg M A R Y n s₀ c t fs ⟨s₀.heap, s₀.gens, s₀.drawn, s₀.toks, s₀.os⟩) : Seg M A R Y n s₀ c t fs s₀ := h
theorem esc_idx {ps front rest : List (Int × List Nat)} {p : Int × List Nat} (h : ps = front ++ p :: rest) : ps[ps.length - 1 - rest.length]? = some p := by
  subst h
  have : (front ++ p :: rest).length - 1 - rest.length = front.length := by rw [List.length_append]; exact Nat.add_sub_cancel _ _
  rw [this, List.getElem?_append_right (Nat.le_refl _), Nat.sub_self]; rfl
section
variable {w : WK} {A : Around} {E : Value → Shared → Prop} {h₀ : Heap} {g : Array GenState} {d : Drawn} {os : OsState}
variable {tk : Nat}
/-- ahead of a turn -/
inductive EI (h₀ : Heap) (C : Addr) (text : List Nat) (t : Tok) (en it : Addr) (ps : List (Int × List Nat)) (n k : Nat) (s₀ s : Shared) : Prop
  | mk (i : Nat) (esc : Bool) (pos : Int) (chv : Option Value) (h : Heap) (tk : Nat) (tp : Tok) (front : List (Int × List Nat)) (e : s = ⟨h, s₀.gens, s₀.drawn, tk, s₀.os⟩) (hi : i ≤ text.length) (hk : k = text.length - i)
      (hn : n = (escP (text.drop i) i esc).length) (hp : ps = front ++ escP (text.drop i) i esc) (kg : KeepG C s₀.heap h) (hpos : esc = true → pos = (i : Int) - 1)
      (z : Z (Sb h₀) C (fr ([Str.ofString "addr"] ++ [Str.ofString "pos", Str.ofString "escape", Str.ofString "ch"]) [some (.str (S text) t), some (.int pos tp), some (.bool esc), chv]) [(en, EnumP it i), (it, SItP (S text) t i)] h)
theorem own_two {en it : Addr} {x : Str} {t : Tok} {i : Nat} : OwnG [(en, EnumP it i), (it, SItP x t i)] := by
  intro p hp
  rcases List.mem_cons.mp hp with rfl | hp
  · exact own_enum
  · rcases List.mem_singleton.mp hp with rfl; exact own_sit
theorem esc_call (gw : G w h₀) (ag : AG 6 A) (text : List Nat) (t : Tok) (ht : text.length ≤ 1000) {Q : Value → Shared → Prop}
    (hQ : ∀ a C h' tk' gs, Keep h₀ h' → (∀ A₁, AG 5 A₁ → EscAt w A₁ h₀ C a g.size (escP text 0 false) 0 ⟨h', g.push gs, d, tk', os⟩) → Q (.ref a) ⟨h', g.push gs, d, tk', os⟩) :
    wpAny (model PP w.w) A (call (.ref 45) [.str (S text) t]) Q E ⟨h₀, g, d, tk, os⟩ := by
  refine x_gcall (a := 45) (ks := [Str.ofString "addr"]) (rest := [Str.ofString "pos", Str.ofString "escape", Str.ofString "ch"]) (gl := [Str.ofString "enumerate"])
    ⟨w.need.f45.look, w.need.f45.code, rfl, rfl, rfl, rfl, by decide +kernel, by decide +kernel, by decide +kernel, by decide +kernel, rfl, rfl⟩ gw ag rfl rfl fun env C h₁ gen tk₁ e hco z hgen hgC hig => ?_
  refine hQ gen C h₁ tk₁ _ z.keep fun A₁ ag₁ => ⟨hig, hgC, hgen, .fresh _, _, [], Array.getElem?_push_size, z, (by intro p hp; cases hp), fun s₀ z₂ => ⟨rfl, ?_⟩⟩
  clear hQ z hig
  rename Z _ _ _ _ _ => z
  have kg : KeepG C s₀.heap s₀.heap := KeepG.refl _ _
  rw [Nat.sub_zero]
  obtain ⟨ps, hps⟩ : ∃ ps, ps = escP text 0 false := ⟨_, rfl⟩
  rw [← hps]
  refine seg_func ?_
  refine seg_eta ?_
  -- pos = 0
  refine seg_stmt ?_
  refine y_asg ?_
  refine x_int fun t0 _ => ?_
  refine x_sto e z 1 rfl (Nat.le_of_ble_eq_true rfl) fun h₂ tk₂ z₂ s₂ => ?_
  refine ⟨rfl, ?_⟩
  replace kg := kg.trans (KeepG.ofExt s₂.extBut)
  clear z; rename Z _ _ _ _ _ => z
  refine seg_stmt ?_
  refine y_asg ?_
  refine x_bool ?_
  refine x_sto e z 2 rfl (Nat.le_of_ble_eq_true rfl) fun h₃ tk₃ z₃ s₃ => ?_
  refine ⟨rfl, ?_⟩
  replace kg := kg.trans (KeepG.ofExt s₃.extBut)
  clear z; rename Z _ _ _ _ _ => z
  refine seg_execs_cons (seg_For ?_)
  refine x_tcall (T := "enumerate") ?_
  refine x_glob e (gw.keep z.keep) 0 rfl (gv_enumerate w) ?_
  refine ⟨rfl, ?_⟩
  refine evs_cons ?_
  refine x_loc e z 0 rfl rfl ?_
  refine evs_nil ?_
  refine x_enum_str z fun en it h₄ k₄ z₄ => ?_
  replace kg := kg.trans (KeepG.ofKeep k₄)
  clear z; rename Z _ _ _ _ _ => z
  refine x_iter_enum (z.get 0 rfl) fun p => ?_
  refine seg_loop (I := EI h₀ C text t en it ps) rfl ?_ (text.length - 0) _ _ _
    ⟨0, false, 0, none, h₄, _, t0, [], rfl, Nat.zero_le _, rfl, by rw [hps]; rfl, by rw [hps]; rfl, kg, (by intro q; cases q), z⟩
  clear kg z s₃ s₂ k₄
  intro n k s₀ s q again
  obtain ⟨i, esc, pos, chv, h, tk, tp, front, rfl, hi, rfl, rfl, hfr, kg, hpos, z⟩ := q
  by_cases hlt : i < text.length
  · refine seg_forLoop ?_
    refine x_enum_next (by exact ag₁.hh) z hlt fun tup h tk u1 u2 z₁ hfresh hk => ?_
    replace kg := kg.trans (KeepG.ofOwn z own_enum own_sit hk)
    clear hk hfresh z; rename Z _ _ _ _ _ => z
    refine x_enum_go z fun h z₁ s₁ => ?_
    replace kg := kg.trans (KeepG.ofOwn (z.pick [1, 2] (by decide)) own_enumOut own_sit fun b o hb _ q => s₁.extBut b o hb q)
    clear s₁ z; rename Z _ _ _ _ _ => z
    refine x_asgTup2 e (by exact ag₁.hh) z 1 3 rfl rfl (Nat.le_of_ble_eq_true rfl) (Nat.le_of_ble_eq_true rfl) (z.get 0 rfl) fun h tk z₁ s₁ => ?_
    replace kg := kg.trans (KeepG.ofExt s₁)
    clear s₁ z; rename Z _ _ _ _ _ => z
    replace z := z.pick [1, 2] (by decide)
    refine seg_execs_cons (seg_If ?_)
    refine y_val ?_
    refine x_loc e z 2 rfl rfl ?_
    refine x_truthy ?_
    cases esc with
    | true =>
      refine ite_t ?_
      rw [escP_cons_t hlt] at hfr ⊢
      refine seg_execs_cons (seg_Expr_Yield rfl rfl rfl ?_ hco (by unfold interactive; rw [e.kind]; rfl))
      refine x_tuple (g := s₀.gens) (d := s₀.drawn) (os := s₀.os) ?_
      refine evs_cons ?_
      refine x_loc e z 1 rfl rfl ?_
      refine evs_cons ?_
      refine y_bin ?_
      refine x_str [92] (by decide +kernel) fun _ _ => ?_
      refine x_loc e z 3 rfl rfl ?_
      refine x_cat (by simp only [List.length_cons, List.length_nil]; lia) fun _ _ => ?_
      refine evs_nil ?_
      refine ⟨_, _, rfl, Nat.le_of_ble_eq_true rfl, fun t' h ka hn ho => ?_⟩
      intro kap hkap
      obtain ⟨ot, hot, htt⟩ := ho
      refine ⟨h, _, t', ot, _, _, _, _, _, rfl, rfl, z.not0 hn, hot, htt, esc_idx hfr, kg.trans (KeepG.ofKeep ka), z.keepAll ka, own_two, fun s'' z' => hkap .none s'' ?_⟩
      clear hkap z kg
      rename Z _ _ _ _ _ => z
      have kg : KeepG C s''.heap s''.heap := KeepG.refl _ _
      refine seg_eta ?_
      refine seg_stmt ?_
      refine y_asg ?_
      refine x_bool ?_
      refine x_sto e z 2 rfl (Nat.le_of_ble_eq_true rfl) fun h₂ tk₂ z₂ s₂ => ?_
      refine ⟨rfl, ?_⟩
      replace kg := kg.trans (KeepG.ofExt s₂.extBut)
      refine seg_execs_nil ?_
      refine seg_execs_nil ?_
      refine again _ (text.length - (i + 1)) _ _ (nxt hlt) ⟨i + 1, false, i, _, h₂, tk₂, _, front ++ [_], rfl, hlt, rfl, rfl, by rw [hfr]; exact List.append_cons _ _ _, kg, (by intro q; cases q), z₂⟩
    | false =>
      refine ite_f ?_
      refine seg_execs_cons (seg_If ?_)
      refine y_tcmp ?_
      refine x_loc e z 3 rfl rfl ?_
      refine x_str [92] (by decide +kernel) fun _ _ => ?_
      refine x_eqs ?_
      refine x_truthy ?_
      refine ite_b (fun hb => ?_) fun hb => ?_
      · rw [escP_cons_b hlt hb] at hfr ⊢
        refine seg_stmt ?_
        refine y_asg ?_
        refine x_bool ?_
        refine x_sto e z 2 rfl (Nat.le_of_ble_eq_true rfl) fun h₂ tk₂ z₂ s₂ => ?_
        refine ⟨rfl, ?_⟩
        replace kg := kg.trans (KeepG.ofExt s₂.extBut)
        refine seg_execs_nil ?_
        refine seg_execs_nil ?_
        refine seg_execs_nil ?_
        refine again _ (text.length - (i + 1)) _ _ (nxt hlt) ⟨i + 1, true, i, _, h₂, tk₂, _, front, rfl, hlt, rfl, rfl, hfr, kg, (by intro q; lia), z₂⟩
      · rw [escP_cons_f hlt hb] at hfr ⊢
        refine seg_execs_cons (seg_Expr_Yield rfl rfl rfl ?_ hco (by unfold interactive; rw [e.kind]; rfl))
        refine x_tuple (g := s₀.gens) (d := s₀.drawn) (os := s₀.os) ?_
        refine evs_cons ?_
        refine x_loc e z 1 rfl rfl ?_
        refine evs_cons ?_
        refine x_loc e z 3 rfl rfl ?_
        refine evs_nil ?_
        refine ⟨_, _, rfl, Nat.le_of_ble_eq_true rfl, fun t' h ka hn ho => ?_⟩
        intro kap hkap
        obtain ⟨ot, hot, htt⟩ := ho
        refine ⟨h, _, t', ot, _, _, _, _, _, rfl, rfl, z.not0 hn, hot, htt, esc_idx hfr, kg.trans (KeepG.ofKeep ka), z.keepAll ka, own_two, fun s'' z' => hkap .none s'' ?_⟩
        clear hkap z kg
        rename Z _ _ _ _ _ => z
        have kg : KeepG C s''.heap s''.heap := KeepG.refl _ _
        refine seg_eta ?_
        refine seg_execs_nil ?_
        refine seg_execs_nil ?_
        refine seg_execs_nil ?_
        refine again _ (text.length - (i + 1)) _ _ (nxt hlt) ⟨i + 1, false, i, _, s''.heap, s''.toks, _, front ++ [_], rfl, hlt, rfl, rfl, by rw [hfr]; exact List.append_cons _ _ _, kg, (by intro q; cases q), z⟩
  · have hin : i = text.length := atEnd hi hlt
    subst hin
    refine seg_forLoop ?_
    refine x_enum_end (by exact ag₁.hh) z fun h' hs => ?_
    refine seg_block_nil ?_
    have z₁ := (z.pick [1, 0] (by decide)).dropIt hs
    replace kg := kg.trans (KeepG.ofOwn z own_enum own_sit fun b o _ hb q => hs b o hb q)
    clear z; rename Z _ _ _ _ _ => z
    refine seg_execs_cons (seg_If ?_)
    refine y_val ?_
    refine x_loc e z 2 rfl rfl ?_
    refine x_truthy ?_
    have hd : text.drop text.length = [] := List.drop_length
    rw [hd] at hfr ⊢
    cases esc with
    | true =>
      refine ite_t ?_
      have hp := hpos rfl
      subst hp
      refine seg_execs_cons (seg_Expr_Yield rfl rfl rfl ?_ hco (by unfold interactive; rw [e.kind]; rfl))
      refine x_tuple (g := s₀.gens) (d := s₀.drawn) (os := s₀.os) ?_
      refine evs_cons ?_
      refine x_loc e z 1 rfl rfl ?_
      refine evs_cons ?_
      refine x_str [92] (by decide +kernel) fun _ _ => ?_
      refine evs_nil ?_
      refine ⟨_, _, rfl, Nat.le_of_ble_eq_true rfl, fun t' h ka hn ho => ?_⟩
      intro kap hkap
      obtain ⟨ot, hot, htt⟩ := ho
      refine ⟨h, _, t', ot, ((text.length : Int) - 1, [92]), _, _, _, _, rfl, rfl, z.not0 hn, hot, htt, esc_idx (rest := []) hfr, kg.trans (KeepG.ofKeep ka), z.keepAll ka, (by
        intro p hp
        rcases List.mem_singleton.mp hp with rfl; exact own_enum), fun s'' z' => hkap .none s'' ?_⟩
      clear hkap z kg
      rename Z _ _ _ _ _ => z
      refine seg_execs_nil ?_
      refine seg_execs_nil ?_
      exact seg_end (.ok (.ret .none)) ⟨rfl, rfl, _, _, rfl, KeepG.refl _ _, z.keep⟩
    | false =>
      refine ite_f ?_
      refine seg_execs_nil ?_
      refine seg_execs_nil ?_
      exact seg_end (.ok (.ret .none)) ⟨rfl, rfl, _, _, rfl, kg, z.keep⟩
end
end Mine
namespace Mine
theorem setGen_push {h : Heap} {g : Array GenState} {x y : GenState} {d : Drawn} {tk : Nat} {os : OsState} : (⟨h, g.push x, d, tk, os⟩ : Shared).setGen g.size y = ⟨h, g.push y, d, tk, os⟩ := by
  simp only [Shared.setGen]
  congr 1
  apply Array.ext'
  simp
/-- the tuples told so far -/
noncomputable def TupN (h₀ h : Heap) (C S : Addr) : Addr → Obj → Prop := fun b o => h.get? b = some o ∧ h₀.get? b = none ∧ b ≠ C ∧ b ≠ S ∧ ¬ OwnO o
theorem own_not_tuple {vs : List Value} {o : Obj} (h : TupO vs o) : ¬ OwnO o := by
  rw [h]; rintro (q | q | q) <;> (injection q with q; exact absurd q (by decide))
theorem own_not_list {acc : Array Value} {c : Nat} : ¬ OwnO { cls := .type "list", dict := none, data := .seq acc c, slots := #[] } := by
  rintro (q | q | q) <;> (injection q with q; exact absurd q (by decide))
theorem Z.other {B : Addr → Obj → Prop} {L : Addr} {m : Str → Option Value} {n : List (Addr × (Obj → Prop))} {h h' : Heap} {a : Addr} (z : Z B L m n h) (hs : Heap.SameBut a h h') (hB : ∀ o, ¬ B a o) (hL : a ≠ L) (hn : a ∉ n.map (·.1)) : Z B L m n h' :=
  ⟨z.ns.sameBut hs (Ne.symm hL), fun b o e => (hs.2 b fun q => hB o (q ▸ e)).trans (z.keep b o e), z.apart,
   fun p hp => let ⟨o, e, q⟩ := z.led p hp; ⟨o, (hs.2 _ fun c => hn (List.mem_map.mpr ⟨p, hp, c⟩)).trans e, q⟩, z.off, z.nd⟩
section
variable {w : WK} {A : Around} {E : Value → Shared → Prop} {h₀ : Heap} {g : Array GenState} {d : Drawn} {os : OsState} {R : Result → Shared → Prop}
theorem esc_loop_list (gw : G w h₀) (ag : AG 5 A.in1) {C a S : Addr} {ps : List (Int × List Nat)} (hps : ps.length ≤ 1000) (hS0 : h₀.get? S = none) (hSC : S ≠ C) 
    (hR : ∀ h' tk' acc c', Keep h₀ h' → h'.get? S = some { cls := .type "list", dict := none, data := .seq acc c', slots := #[] } → PairsV (TupN h₀ h' C S) acc.toList ps → R (.ok (.ret .none)) ⟨h', g.push .finished, d, tk', os⟩) :
    ∀ (k j : Nat) (h : Heap) (tk : Nat) (gs : GenState) (acc : Array Value) (c : Nat), ps.length = j + k → EscAt w A.in1 h₀ C a g.size ps j ⟨h, g.push gs, d, tk, os⟩ →
      h.get? S = some { cls := .type "list", dict := none, data := .seq acc c, slots := #[] } → PairsV (TupN h₀ h C S) acc.toList (ps.take j) →
      codeAny (model PP w.w) A (.builtin "list.extend.loop" ⟨[.ref S, .ref a, .none], []⟩) R ⟨h, g.push gs, d, tk, os⟩ := by
  intro k
  induction k with
  | zero =>
    intro j h tk gs acc c hk ⟨hig, hne, hfr, gs', m, n, hgs, z, ho, hgo⟩ hS hacc
    cases (show ps.length = j from hk)
    refine codeAny_builtin F.entry_extend_loop ?_
    rw [Around.under_plainId F.plain_extend_loop _]
    show wpAny _ A.in1 (pyNext (.ref a) >>= _) _ _ _
    have hgo' := hgo (Shared.setGen ⟨h, g.push gs, d, tk, os⟩ g.size .running) (by rw [setGen_push]; exact z)
    rw [Nat.sub_self] at hgo'
    refine wpAny_bind (wpAny_pyNext_gen (P := EscE h₀ C) ag.hh (gw.keep z.keep).lim ag.room hig hgs hgo' (fun v s₁ gs₁ hv => ?_) (fun s₁ hp h' hk' => ?_))
    · obtain ⟨h', tk', t, o, p, u1, u2, m', n', rfl, _, _, _, _, _, _, z', _, hkap⟩ := hv
      exact (hkap ⟨h', g, d, 0, os⟩ z').elim
    · obtain ⟨_, h₁, tk₁, rfl, hkg, hk0⟩ := hp
      rw [setGen_push] at hkg ⊢
      have hkg : KeepG C h h₁ := hkg
      have kS := hk' _ _ (hkg S _ hSC own_not_list hS)
      refine wpAny_pure ?_
      show R _ _
      have e : (⟨h₁, g.push .running, d, tk₁, os⟩ : Shared).setGen g.size .finished = ⟨h₁, g.push .finished, d, tk₁, os⟩ := setGen_push
      rw [e]
      rw [List.take_length] at hacc
      exact hR h' tk₁ acc c (hk0.trans hk') kS (hacc.mono fun b o q => ⟨hk' _ _ (hkg b o q.2.2.1 q.2.2.2.2 q.1), q.2⟩)
  | succ k ih =>
    intro j h tk gs acc c hk ⟨hig, hne, hfr, gs', m, n, hgs, z, ho, hgo⟩ hS hacc
    have hjl : j < ps.length := hk ▸ Nat.lt_add_of_pos_right (Nat.succ_pos k)
    have hsz : acc.size ≤ 1000 := Nat.le_trans (Nat.le_of_eq hacc.len) (Nat.le_trans (List.length_take_le' _ _) hps)
    refine codeAny_builtin F.entry_extend_loop ?_
    rw [Around.under_plainId F.plain_extend_loop _]
    show wpAny _ A.in1 (pyNext (.ref a) >>= _) _ _ _
    have hgo' := hgo (Shared.setGen ⟨h, g.push gs, d, tk, os⟩ g.size .running) (by rw [setGen_push]; exact z)
    rw [hk, Nat.add_sub_cancel_left] at hgo'
    refine wpAny_bind (wpAny_pyNext_gen (P := EscE h₀ C) ag.hh (gw.keep z.keep).lim ag.room hig hgs hgo' (fun v s₁ gs₁ hv => ?_) (fun s₁ hp h' hk' => ?_))
    · obtain ⟨h', tk', t, o, p, u1, u2, m', n', rfl, rfl, ht0, hto, htt, hp, hkg, z', ho', hkap⟩ := hv
      rw [setGen_push] at hkg ⊢
      have hkg : KeepG C h h' := hkg
      have e : (⟨h', g.push .running, d, tk', os⟩ : Shared).setGen g.size gs₁ = ⟨h', g.push gs₁, d, tk', os⟩ := setGen_push
      show wpAny _ A.in1 _ _ _ ((⟨h', g.push .running, d, tk', os⟩ : Shared).setGen g.size gs₁)
      rw [e]
      have hS' := hkg S _ hSC own_not_list hS
      have idx : ps.length - 1 - (k + 1 - 1) = j := by rw [hk]; exact Nat.add_sub_cancel j k
      rw [idx] at hp
      show wpAny _ A.in1 (updateSeq S (·.push (.ref t)) >>= _) _ _ _
      refine wpAny_bind ?_
      refine wpAny_updateSeq (s := ⟨h', g.push gs₁, d, tk', os⟩) hS' rfl (wpAny_pure ⟨plainId_quiet F.plain_extend_loop _, ?_⟩)
        (by rw [sizeLine_eq]; exact Nat.le_trans hsz (by decide)) (by show (acc.push _).size ≤ _; rw [Array.size_push, sizeLine_eq]; exact Nat.le_trans (Nat.succ_le_succ hsz) (by decide))
      have hs : Heap.SameBut S h' (h'.update S (Obj.mapSeq (·.push (.ref t)))) := Heap.SameBut.update ..
      have tS : t ≠ S := fun q => by subst q; rw [hto] at hS'; injection hS' with q; rw [htt] at q; injection q with q1; injection q1 with q1; exact absurd q1 (by decide)
      have tC : t ≠ C := fun q => by
        subst q
        obtain ⟨o', es, ep, q1, q2, _⟩ := z'.ns
        rw [hto] at q1; injection q1 with q1; rw [← q1, htt] at q2; cases q2
      have oth : ∀ b o, b ≠ S → h'.get? b = some o → (h'.update S (Obj.mapSeq (·.push (.ref t)))).get? b = some o := fun b o hb q => (hs.2 b hb).trans q
      have zz : Z (Sb h₀) C m' n' (h'.update S (Obj.mapSeq (·.push (.ref t)))) := by
        refine z'.other hs (fun o q => by unfold Sb at q; rw [hS0] at q; cases q) hSC fun q => ?_
        obtain ⟨p', hp', rfl⟩ := List.mem_map.mp q
        obtain ⟨o', q1, q2⟩ := z'.led p' hp'
        rw [hS'] at q1; injection q1 with q1
        exact own_not_list (q1 ▸ ho' p' hp' o' q2)
      have hig' : Heap.IsGen (h'.update S (Obj.mapSeq (·.push (.ref t)))) a g.size := by
        obtain ⟨og, nm, qn, q1, q2, q3, q4⟩ := hig
        have hog : ¬ OwnO og := by rintro (q | q | q) <;> (rw [q2] at q; injection q with q; exact absurd q (by decide))
        refine ⟨og, nm, qn, oth a og (fun q => ?_) (hkg a og hne hog q1), q2, q3, q4⟩
        subst q
        rw [hS] at q1; injection q1 with q1; rw [← q1] at q2; injection q2 with q2; exact absurd q2 (by decide)
      refine ih (j + 1) _ _ gs₁ (acc.push (.ref t)) _ (hk.trans (Nat.add_right_comm j k 1)) ⟨hig', hne, hfr, gs₁, m', n', by simp, zz, ho', fun s'' q => ?_⟩ (Heap.get?_update_self _ hS' rfl) ?_
      · have e2 : ps.length - (j + 1) = k := by rw [hk]; exact (Nat.add_sub_add_right (j + k) 1 j).trans (Nat.add_sub_cancel_left j k)
        rw [e2]
        exact hkap s'' q
      · rw [Array.toList_push, List.take_succ_eq_append_getElem hjl]
        have hpj : ps[j] = p := by rw [List.getElem?_eq_getElem hjl] at hp; exact Option.some.inj hp
        rw [hpj]
        exact (hacc.mono fun b o q => ⟨oth b o q.2.2.2.1 (hkg b o q.2.2.1 q.2.2.2.2 q.1), q.2⟩).snoc ⟨t, o, u1, u2, rfl, ⟨oth t o tS hto, ht0, tC, tS, own_not_tuple htt⟩, htt⟩
    · exact absurd hp.1 (Nat.succ_ne_zero k)

theorem EscAt.moved {A₁ : Around} {C a : Addr} {gi : Nat} {ps : List (Int × List Nat)} {j : Nat} {s s' : Shared} (x : EscAt w A₁ h₀ C a gi ps j s) (hg : s'.gens = s.gens) (hk : ∀ b o, s.heap.get? b = some o → s'.heap.get? b = some o) : EscAt w A₁ h₀ C a gi ps j s' :=
  ⟨x.isgen.keeps hk, x.ne, x.fresh, let ⟨gs, m, n, h1, z, ho, hgo⟩ := x.st; ⟨gs, m, n, by rw [hg]; exact h1, z.keepAll hk, ho, hgo⟩⟩
theorem EscAt.put {A₁ : Around} {C a S : Addr} {gi : Nat} {ps : List (Int × List Nat)} {j : Nat} {h h' : Heap} {g : Array GenState} {d d' : Drawn} {tk tk' : Nat} {os os' : OsState} (x : EscAt w A₁ h₀ C a gi ps j ⟨h, g, d, tk, os⟩) {o₁ : Obj} (hS : h.get? S = some o₁) (hc : o₁.cls = .type "list") (hd : ∃ a n, o₁.data = .seq a n) (hS0 : h₀.get? S = none)
    (hs : Heap.SameBut S h h') : EscAt w A₁ h₀ C a gi ps j ⟨h', g, d', tk', os'⟩ := by
  have oS : ¬ OwnO o₁ := by rintro (q | q | q) <;> (rw [hc] at q; injection q with q; exact absurd q (by decide))
  refine ⟨?_, x.ne, x.fresh, ?_⟩
  · obtain ⟨og, nm, qn, q1, q2, q3, q4⟩ := x.isgen
    refine ⟨og, nm, qn, (hs.2 a fun q => ?_).trans q1, q2, q3, q4⟩
    subst q
    have q1 : h.get? a = some og := q1
    rw [hS] at q1; injection q1 with q1; rw [← q1, hc] at q2; injection q2 with q2; exact absurd q2 (by decide)
  · obtain ⟨gs, m, n, h1, z, ho, hgo⟩ := x.st
    refine ⟨gs, m, n, h1, z.other hs (fun o q => by unfold Sb at q; rw [hS0] at q; cases q) (fun q => ?_) fun q => ?_, ho, hgo⟩
    · subst q
      obtain ⟨o', es, ep, q1, q2, _⟩ := z.ns
      have q1 : h.get? S = some o' := q1
      obtain ⟨aa, nn, hd⟩ := hd
      rw [hS] at q1; injection q1 with q1; rw [← q1, hd] at q2; cases q2
    · obtain ⟨p', hp', rfl⟩ := List.mem_map.mp q
      obtain ⟨o', q1, q2⟩ := z.led p' hp'
      have q1 : h.get? p'.1 = some o' := q1
      rw [hS] at q1; injection q1 with q1
      exact oS (q1 ▸ ho p' hp' o' q2)
theorem esc_list {h : Heap} {gs : GenState} {tk : Nat} (gw : G w h₀) (ag : AG 7 A) {C a : Addr} {ps : List (Int × List Nat)} (hps : ps.length ≤ 1000) (kh : Keep h₀ h)
    (he : ∀ A₁, AG 5 A₁ → EscAt w A₁ h₀ C a g.size ps 0 ⟨h, g.push gs, d, tk, os⟩) {Q : Value → Shared → Prop}
    (hQ : ∀ l h' tk', Keep h₀ h' → Pairs (New h₀ h') l ps → Q (.ref l) ⟨h', g.push .finished, d, tk', os⟩) : wpAny (model PP w.w) A (call (.type "list") [.ref a]) Q E ⟨h, g.push gs, d, tk, os⟩ := by
  have ag₁ : AG 5 A.in1.in1 := ag.in1.in1
  have x := he _ ag₁
  have hS : (h.push { cls := .type "list", data := .seq #[] }).get? h.objs.size = some { cls := .type "list", data := .seq #[] } := Heap.get?_push_size _ rfl
  refine callType_codes (Q₁ := fun obj s₁ => obj = .ref h.objs.size ∧ s₁ = ⟨h.push { cls := .type "list", data := .seq #[] }, g.push gs, d, tk, os⟩) F.called_list (F.typeCall_list_1 _) F.entry_list_init
    (code_list_new _ ⟨rfl, rfl⟩) fun obj s₁ h₁ => ?_
  obtain ⟨rfl, rfl⟩ := h₁
  refine ⟨⟨_, hS, rfl⟩, F.args_list_init_2 _ _, ?_⟩
  have hS0 : h₀.get? h.objs.size = none := by
    cases e : h₀.get? h.objs.size with
    | none => rfl
    | some o => have := kh _ _ e; rw [get_size] at this; cases this
  have x₁ : EscAt w A.in1.in1 h₀ C a g.size ps 0 ⟨h.push { cls := .type "list", data := .seq #[] }, g.push gs, d, tk, os⟩ := x.moved rfl fun b o e => Heap.get?_push_of_some _ e
  generalize hSS : h.objs.size = S at hS hS0 ⊢
  generalize h.push { cls := .type "list", data := .seq #[] } = h₁ at hS x₁ ⊢
  have hSC : S ≠ C := fun q => by
    subst q
    obtain ⟨gs', m, n, _, z, _⟩ := x₁.st
    obtain ⟨o', es, ep, q1, q2, _⟩ := z.ns
    have q1 : h₁.get? S = some o' := q1
    rw [hS] at q1; injection q1 with q1; rw [← q1] at q2; cases q2
  have hSa : S ≠ a := fun q => by
    subst q
    obtain ⟨og, nm, qn, q1, q2, q3, q4⟩ := x₁.isgen
    have q1 : h₁.get? S = some og := q1
    rw [hS] at q1; injection q1 with q1; rw [← q1] at q2; injection q2 with q2; exact absurd q2 (by decide)
  show wpAny _ A.in1.in1 (do let old ← Builtin.List.listItems (.ref S); Builtin.List.listUpdate (.ref S) (fun _ => #[]); letGo old.toList.reverse; Builtin.List.listExtendWith (.ref S) (.ref a) .none) _ _ _
  refine wpAny_bind ?_
  unfold Builtin.List.listItems
  refine wpAny_bind (wpAny_seqItems hS rfl (wpAny_pure ?_))
  show wpAny _ A.in1.in1 (updateSeq S (fun _ => #[]) >>= fun _ => letGo (#[] : Array Value).toList.reverse >>= fun _ => Builtin.List.listExtendWith (.ref S) (.ref a) .none) _ _ _
  refine wpAny_bind (wpAny_updateSeq hS rfl ?_)
  have hS₂ := Heap.get?_update_self (Obj.mapSeq (fun _ => (#[] : Array Value))) hS rfl
  have x₂ := x₁.put (d' := d) (tk' := tk) (os' := os) hS rfl ⟨_, _, rfl⟩ hS0 (Heap.SameBut.update (h := h₁) (a := S) (f := Obj.mapSeq (fun _ => (#[] : Array Value))))
  refine wpAny_bind (wpAny_letGo ?_)
  show wpAny _ _ _ _ _ ⟨h₁.update S (Obj.mapSeq (fun _ => (#[] : Array Value))), g.push gs, d, tk, os⟩
  generalize h₁.update S (Obj.mapSeq (fun _ => (#[] : Array Value))) = h₂ at hS₂ x₂ ⊢
  unfold Builtin.List.listExtendWith
  have hT : Shared.TypeIs ⟨h₂, g.push gs, d, tk, os⟩ (.ref a) "generator" := x₂.isgen.typeIs
  refine wpAny_bind (wpAny_typeOf hT ?_)
  have h1 : Builtin.List.listSameRef (.ref S) (.ref a) = false := by simp [Builtin.List.listSameRef, hSa]
  have h2 : (Value.type "generator" == Value.type "list") = false := by decide
  have h3 : (Value.type "generator" == Value.type "tuple") = false := by decide
  simp only [h1, h2, h3, Bool.or_false, Bool.false_eq_true, if_false]
  refine wpAny_bind (wpAny_pyIter_gen x₂.isgen ?_)
  refine wpAny_bind (wpAny_holding ?_)
  unfold Builtin.List.listLengthHint
  refine wpAny_bind (wpAny_specialOf hT F.gen_no_len ?_)
  show wpAny _ A.in1.in1 (specialOf (Value.ref a) (Str.ofString "__length_hint__") >>= _) _ _ _
  refine wpAny_bind (wpAny_specialOf hT F.gen_no_hint ?_)
  refine wpAny_pure ?_
  show wpAny _ A.in1.in1 (rule "list.extend.makes-room" >>= fun _ => Builtin.List.listTouch (.ref S) >>= fun _ =>
    again (.builtin "list.extend.loop" ⟨[.ref S, .ref a, .none], []⟩)) _ _ _
  refine wpAny_bind (wpAny_rule ?_)
  refine wpAny_bind ?_
  show wpAny _ A.in1.in1 (updateSeq S (·.push .none) >>= fun _ => updateSeq S (·.pop)) _ _ _
  refine wpAny_bind (wpAny_updateSeq hS₂ rfl ?_)
  have hS₃ := Heap.get?_update_self (Obj.mapSeq (·.push Value.none)) hS₂ rfl
  have x₃ := x₂.put (d' := d) (tk' := tk) (os' := os) hS₂ rfl ⟨_, _, rfl⟩ hS0 (Heap.SameBut.update (h := h₂) (a := S) (f := Obj.mapSeq (·.push Value.none)))
  refine wpAny_updateSeq (hz := by seq_fits) hS₃ rfl ?_
  have hS₄ := Heap.get?_update_self (Obj.mapSeq (·.pop)) hS₃ rfl
  have x₄ := x₃.put (d' := d) (tk' := tk) (os' := os) hS₃ rfl ⟨_, _, rfl⟩ hS0 (Heap.SameBut.update (h := h₂.update S (Obj.mapSeq (·.push Value.none))) (a := S) (f := Obj.mapSeq (·.pop)))
  refine wpAny_pure ⟨plainId_quiet F.plain_extend_loop _, ?_⟩
  refine esc_loop_list gw ag₁ hps hS0 hSC (fun h' tk' acc c' k' hSn hacc => ?_) _ 0 _ _ gs #[] _ (Nat.zero_add _).symm x₄ hS₄ .nil
  exact ⟨rfl, hQ S h' tk' k' ⟨_, acc.toList, ⟨hSn, hS0⟩, ⟨c', by simp⟩, hacc.mono fun b o q => ⟨q.1, q.2.1⟩⟩⟩
end
end Mine
set_option maxRecDepth 1000000
set_option maxHeartbeats 4000000
namespace Mine
theorem mro_object : mroOf (.type "object") = pure [.type "object"] := by rw [mroOf_type]; kernel_rfl
theorem lookup_object_new : typeLookup (.type "object") "__new__" = pure (some (.builtin "object.__new__")) := by rw [typeLookup_type, builtinLookup_eq_fast]; kernel_rfl
theorem called_object : TypeCalled "object" "object.__new__" "object.__init__" :=
  ⟨by decide +kernel, by decide +kernel, ⟨_, _, mro_object⟩, madeBy_type mro_object lookup_object_new (by decide +kernel), by decide +kernel, by rw [isSubtype_type]; kernel_rfl, F.slot_object_init⟩
theorem typeCall_object : checkTypeCall "object" ⟨[], []⟩ = pure () := by kernel_rfl
theorem newCall_object : checkBuiltinCall "object.__new__" ⟨[.type "object"], []⟩ = pure () := by kernel_rfl
theorem madeHere_object : Bind.madeHere "object.__new__" (.type "object") = pure () := by kernel_rfl
theorem refuses_object : ((Manifest.find? "object").elim false (·.mro.any fun t => (Manifest.find? t).elim false (·.noNew))) = false := by decide +kernel
theorem noDict_object : typeHasDict (.type "object") = false := by decide +kernel
theorem meets_object_new : Meets (Builtin.«object.__new__» ⟨[.type "object"], []⟩) (fun _ R s => R (.ok (.ret (.ref s.heap.objs.size))) { s with heap := s.heap.push { cls := .type "object", data := .plain } }) :=
  .of_wp fun prog w A R s h => by
    obtain ⟨hp, g, d, tk, os⟩ := s
    have h1 := madeHere_object
    have h2 := refuses_object
    have h3 := noDict_object
    unfold Builtin.«object.__new__»
    wp_walk
    exact ⟨_, rfl, h⟩
section
variable {prog : Program} {w : WK} {A : Around} {E : Value → Shared → Prop} {g : Array GenState} {d : Drawn} {os : OsState}
variable {h : Heap} {tk : Nat}
theorem x_object {Q : Value → Shared → Prop} (k : ∀ a h', Keep h h' → h.get? a = none → (∃ o, h'.get? a = some o ∧ o = { cls := .type "object", data := .plain }) → Q (.ref a) ⟨h', g, d, tk, os⟩) :
    wpAny (model prog w.w) A (call (.type "object") []) Q E ⟨h, g, d, tk, os⟩ := by
  refine callType_meets (Q₁ := fun obj s₁ => s₁.TypeIs obj "object" ∧ Q obj s₁) called_object typeCall_object newCall_object F.entry_object_new F.entry_object_init meets_object_new ?_ fun obj s₁ hq => ?_
  · exact ⟨⟨_, Heap.get?_push_size _ rfl, rfl⟩, k _ _ (Keep.push _ _) (get_size _) ⟨_, Heap.get?_push_size _ rfl, rfl⟩⟩
  · refine ⟨hq.1, F.args_object_init_1 _, _, Meets.of_wp (S := fun _ R s => R (.ok (.ret .none)) s) fun prog w A R s hs => ?_, rfl, hq.2⟩
    exact wpAny_pure ⟨_, rfl, hs⟩
end
end Mine
namespace Mine
theorem map_at {w : WK} {h : Heap} (gw : G w h) {a : Addr} (e : PlainD (KK w) a) : h.MapOf (intKind PP w.w) a (fun k => findBy (intKind PP w.w).is (entriesAt (KK w) a) k) := by
  obtain ⟨es, ep, hl, e⟩ := e
  have ee : entriesAt (KK w) a = es := by unfold entriesAt; rw [hl]
  rw [ee]
  refine ⟨_, es, ep, gw.K _ _ hl, ⟨rfl, rfl, rfl⟩, rfl, fun en hen => ?_, fun k => rfl⟩
  have := Array.all_eq_true_iff_forall_mem.mp e en hen
  split at this
  · rename_i i t hk
    refine ⟨i, ?_, eq_of_beq this⟩
    rw [hk]; show Value.isInt i (.int i t) = true; simp [Value.isInt]
  · cases this
theorem special_a (w : WK) : findBy (intKind PP w.w).is (entriesAt (KK w) 59) 97 = none := w.need.sp97 w.w
theorem special_b (w : WK) : findBy (intKind PP w.w).is (entriesAt (KK w) 59) 98 = none := w.need.sp98 w.w
theorem special_c (w : WK) : strOf (findBy (intKind PP w.w).is (entriesAt (KK w) 59) 92) = some (S [92, 92]) := w.need.sp92 w.w
theorem special_c' (w : WK) : ∃ t, findBy (intKind PP w.w).is (entriesAt (KK w) 59) 92 = some (.str (S [92, 92]) t) := by
  have := special_c w
  unfold strOf at this
  split at this
  · rename_i x t e
    injection this with this
    subst this
    exact ⟨t, e⟩
  · cases this
theorem isInt_self {w : WK} (i : Int) (t : Tok) : (intKind PP w.w).is i (.int i t) = true := by unfold intKind; simp [Value.isInt]
theorem sub_lookup : isSubtype (.type "KeyError") (.type "LookupError") = pure true := by rw [isSubtype_type]; kernel_rfl
section
variable {w : WK} {A : Around} {E : Value → Shared → Prop} {g : Array GenState} {d : Drawn} {os : OsState}
variable {h : Heap} {tk : Nat}
open Builtin.Str in
theorem look_keep {c : Nat} {f : Int → Option Value} {dd : Addr} (hd : (dd == sysModules) = false) (hh : A.handled = none) (hm : h.MapOf (intKind PP w.w) dd f) (hv : f c = none) {Q : Mapped → Shared → Prop} (k : ∀ h' tk', Keep h h' → Q .keep ⟨h', g, d, tk', os⟩) :
    wpAny (model PP w.w) A (tableLookup (.ref dd) c) Q E ⟨h, g, d, tk, os⟩ := by
  unfold tableLookup
  refine wpAny_bind (wpAny_attempt (wpAny_bind (wpAny_mkInt ?_)))
  refine wpAny_getItem_missing_of (s := ⟨h, g, d, tk + 1, os⟩) (knd := intKind PP w.w) (k := (c : Int)) (f := f) (isInt_self _ _) hd hh hm hv fun h' e hx => ?_
  obtain ⟨ob, tt, e1, e2, _⟩ := hx.there
  refine wpAny_bind (wpAny_isInstance (T := "KeyError") (b := true) ⟨ob, e1, e2⟩ sub_lookup ?_)
  show wpAny _ _ (rule _ >>= _) _ _ _
  exact wpAny_bind (wpAny_rule (wpAny_pure (k h' _ hx.keeps)))
open Builtin.Str in
theorem look_text {c : Nat} {f : Int → Option Value} {dd : Addr} {x : Str} {t : Tok} (hm : h.MapOf (intKind PP w.w) dd f) (hv : f c = some (.str x t)) {Q : Mapped → Shared → Prop} (k : ∀ tk', Q (.text x) ⟨h, g, d, tk', os⟩) :
    wpAny (model PP w.w) A (tableLookup (.ref dd) c) Q E ⟨h, g, d, tk, os⟩ := by
  unfold tableLookup
  refine wpAny_bind (wpAny_attempt (wpAny_bind (wpAny_mkInt ?_)))
  refine wpAny_getItem_of (s := ⟨h, g, d, tk + 1, os⟩) (knd := intKind PP w.w) (k := (c : Int)) (f := f) (isInt_self _ _) hm hv ?_
  show wpAny _ _ (asInt? (.str x t) >>= _) _ _ _
  refine wpAny_bind (wpAny_of_eq rfl ?_)
  show wpAny _ _ (asStr? (.str x t) >>= _) _ _ _
  refine wpAny_bind (wpAny_of_eq rfl ?_)
  exact wpAny_pure (k _)
/-- what is found for the one sign: nothing, or a text (twice) -/
inductive PTr (M : Model) (A : Around) (E : Value → Shared → Prop) (Q : Value → Shared → Prop) (dd : Addr) (c : Nat) : Builtin.Str.Mapped → Shared → Prop
  | keep (h : Heap) (g : Array GenState) (d : Drawn) (tk : Nat) (os : OsState) (k : ∀ tk' t', Q (.str (S [c]) t') ⟨h, g, d, tk', os⟩) : PTr M A E Q dd c .keep ⟨h, g, d, tk, os⟩
  | text (x : List Nat) (s : Shared) (hx : 2 ≤ x.length) (hx2 : x.length ≤ 1000)
      (k : wpAny M A (Builtin.Str.tableLookup (.ref dd) c) (fun m s' => m = .text (S x) ∧ ∀ tk' t', Q (.str (S x) t') ⟨s'.heap, s'.gens, s'.drawn, tk', s'.os⟩) E s) : PTr M A E Q dd c (.text (S x)) s
theorem x_tr {c : Nat} (hc : c < 128) {dd : Addr} {t : Tok} {Q : Value → Shared → Prop} (k : wpAny (model PP w.w) A.in1 (Builtin.Str.tableLookup (.ref dd) c) (PTr (model PP w.w) A.in1 E Q dd c) E ⟨h, g, d, tk, os⟩) :
    wpAny (model PP w.w) A (call (.builtin "str.translate") [.str (S [c]) t, .ref dd]) Q E ⟨h, g, d, tk, os⟩ := by
  refine wpAny_call_entry F.slot_str_translate (typeIs_str _ _ _) F.entry_str_translate ?_ (F.args_str_translate_2 _ _)
  unfold Builtin.«str.translate»
  refine wpAny_bind (wpAny_of_eq (a := (Value.str (S [c]) t, S [c], Value.ref dd)) rfl ?_)
  have hall : ((S [c]).cps.all fun x => decide (x < 128)) = true := by simp [S, hc]
  have hcps : (S [c]).cps = #[c] := rfl
  dsimp only
  rw [hall]
  simp only [S_len, List.length_cons, List.length_nil, hcps]
  rw [if_neg (by decide)]
  show wpAny _ _ (forIn [c].toArray _ _ >>= _) _ _ _
  rw [List.forIn_toArray, List.forIn_cons]
  have h0 : Builtin.Str.tooLong 0 = false := rfl
  simp only [h0, Bool.false_eq_true, if_false, if_true, List.lookup]
  refine wpAny_bind (wpAny_bind (wpAny_bind ?_))
  refine wpAny_mono k (fun m s₁ q => ?_) fun _ _ e => ?_
  · cases q with
    | keep h g d tk os k =>
      refine wpAny_bind (wpAny_pure ?_)
      refine wpAny_pure ?_
      show wpAny _ _ (forIn [] _ _) _ _ _
      rw [List.forIn_nil]
      refine wpAny_pure ?_
      show wpAny _ _ (if Builtin.Str.tooLong 1 = true then _ else _) _ _ _
      rw [if_neg (by decide)]
      show wpAny _ _ (mkStr (S [c]) >>= fun v => ret v) _ _ _
      exact wpAny_bind (wpAny_mkStr (wpAny_pure ⟨_, rfl, k _ _⟩) (by rw [S_len]; exact Nat.le_of_ble_eq_true rfl))
    | text x s hx hx2 k =>
      have hlen : ((S x).length == 1 && (S x).cps.all fun x => decide (x < 128)) = false := by rw [S_len]; simp; lia
      simp only [S_len] at hlen
      simp only [S_len, hlen, Bool.false_eq_true, if_false]
      refine wpAny_bind (wpAny_pure ?_)
      show wpAny _ _ (rule _ >>= _) _ _ _
      refine wpAny_bind (wpAny_rule ?_)
      refine wpAny_bind ?_
      refine wpAny_mono k (fun m s₂ q => ?_) fun _ _ e => ?_
      · obtain ⟨rfl, q⟩ := q
        refine wpAny_pure ?_
        show wpAny _ _ (forIn [] _ _) _ _ _
        rw [List.forIn_nil]
        refine wpAny_pure ?_
        have ht : Builtin.Str.tooLong (0 + (S x).length) = false := by rw [S_len]; unfold Builtin.Str.tooLong; rw [sizeLine_eq]; simp; lia
        show wpAny _ _ (if Builtin.Str.tooLong (0 + (S x).length) = true then _ else _) _ _ _
        rw [ht, if_neg Bool.false_ne_true]
        have e : (⟨#[] ++ (S x).cps⟩ : Str) = S x := by simp [S]
        show wpAny _ _ (mkStr ⟨#[] ++ (S x).cps⟩ >>= fun v => ret v) _ _ _
        rw [e]
        exact wpAny_bind (wpAny_mkStr (wpAny_pure ⟨_, rfl, q _ _⟩) (by rw [S_len, sizeLine_eq]; lia))
      · exact e
  · exact e
theorem x_translate_text {c : Nat} (hc : c < 128) {f : Int → Option Value} {dd : Addr} {t u : Tok} {x : List Nat} (hx : 2 ≤ x.length) (hx2 : x.length ≤ 1000) (hm : h.MapOf (intKind PP w.w) dd f) (hv : f c = some (.str (S x) u)) {Q : Value → Shared → Prop}
    (k : ∀ tk' t', Q (.str (S x) t') ⟨h, g, d, tk', os⟩) : wpAny (model PP w.w) A (call (.builtin "str.translate") [.str (S [c]) t, .ref dd]) Q E ⟨h, g, d, tk, os⟩ :=
  x_tr hc (look_text hm hv fun _ => .text x _ hx hx2 (look_text hm hv fun _ => ⟨rfl, k⟩))
theorem x_translate_keep {c : Nat} (hc : c < 128) {f : Int → Option Value} {dd : Addr} {t : Tok} (hd : (dd == sysModules) = false) (hh : A.handled = none) (hm : h.MapOf (intKind PP w.w) dd f) (hv : f c = none) {Q : Value → Shared → Prop}
    (k : ∀ h' tk' t', Keep h h' → Q (.str (S [c]) t') ⟨h', g, d, tk', os⟩) : wpAny (model PP w.w) A (call (.builtin "str.translate") [.str (S [c]) t, .ref dd]) Q E ⟨h, g, d, tk, os⟩ :=
  x_tr hc (look_keep hd (by exact hh) hm hv fun h' tk' kp => .keep h' _ _ tk' _ fun tk' t' => k h' tk' t' kp)
end
/-- what escape gives for one sign -/
noncomputable def escOf (c : Nat) : List Nat := if c = 92 then [92, 92] else [c]
section
variable {w : WK} {A : Around} {E : Value → Shared → Prop} {h₀ : Heap} {g : Array GenState} {d : Drawn} {os : OsState}
variable {tk : Nat}
theorem escape_call (gw : G w h₀) (ag : AG 3 A) (c : Nat) (hc : c = 97 ∨ c = 98 ∨ c = 92) (t : Tok) {Q : Value → Shared → Prop}
    (hQ : ∀ t' h' tk', Keep h₀ h' → Q (.str (S (escOf c)) t') ⟨h', g, d, tk', os⟩) : wpAny (model PP w.w) A (call (.ref 69) [.str (S [c]) t]) Q E ⟨h₀, g, d, tk, os⟩ := by
  refine x_call (a := 69) (ks := [Str.ofString "pattern"]) (rest := []) (gl := [Str.ofString "isinstance", Str.ofString "str", Str.ofString "_special_chars_map"])
    ⟨w.need.f69.look, w.need.f69.code, rfl, rfl, rfl, rfl, by decide +kernel, by decide +kernel, by decide +kernel, by decide +kernel, rfl, rfl⟩ gw ag rfl rfl fun env L h₁ tk₁ e hf ag' z => ?_
  refine y_cons ?_
  refine y_if ?_
  refine y_val ?_
  refine x_bcall (id := "isinstance") ?_
  refine x_glob e (gw.keep z.keep) 0 rfl (gv_isinstance w) ?_
  refine ⟨rfl, ?_⟩
  refine evs_cons ?_
  refine x_loc e z 0 rfl rfl ?_
  refine evs_cons ?_
  refine x_glob e (gw.keep z.keep) 1 rfl (gv_str w) ?_
  refine evs_nil ?_
  refine IsiPair.str_str ?_
  refine x_truthy ?_
  refine ite_t ?_
  refine y_cons ?_
  refine y_ret ?_
  refine x_meth F.plainAttrs_str F.slot_str_translate F.type_str_translate ?_
  refine x_loc e z 0 rfl rfl ?_
  refine ⟨⟨typeIs_str _ _ _, fun _ q => by cases q⟩, ?_⟩
  refine evs_cons ?_
  refine x_glob e (gw.keep z.keep) 2 rfl (gv_special_chars_map w) ?_
  refine evs_nil ?_
  have hm := map_at (gw.keep z.keep) (a := 59) w.need.pd59
  rcases hc with rfl | rfl | rfl
  · exact x_translate_keep (by decide) (by decide) ag'.hh hm (special_a w) fun h' tk' t' kp => hQ t' h' tk' (z.keepAll kp).keep
  · exact x_translate_keep (by decide) (by decide) ag'.hh hm (special_b w) fun h' tk' t' kp => hQ t' h' tk' (z.keepAll kp).keep
  · obtain ⟨u, hu⟩ := special_c' w
    exact x_translate_text (by decide) (by decide) (by decide) hm hu fun tk' t' => hQ t' h₁ tk' z.keep
end
end Mine
namespace Mine
theorem slot_sub : Slot "re.Pattern" "sub" "re.Pattern.sub" :=
  .of (owner := "re.Pattern") (n := "sub") (by rw [typeLookup_type, builtinLookup_eq_fast]; kernel_rfl) (by decide +kernel) (by decide +kernel) (by decide +kernel)
    (by first | exact .inl (by decide +kernel) | exact .inr (by decide +kernel)) (by rw [isSubtype_type]; kernel_rfl)
theorem type_sub : typeOf (.builtin "re.Pattern.sub") = pure (.type "method_descriptor") := by show builtinType _ = _; rw [builtinType_eq_fast]; kernel_rfl
theorem entry_sub : entryFor table "re.Pattern.sub" = some Builtin.«re.Pattern.sub» := entryFor_of_tree (by kernel_rfl)
theorem entry_sub_loop : entryFor table "re.Pattern.sub.loop" = some Builtin.«re.Pattern.sub.loop» := entryFor_of_fast (by kernel_rfl)
theorem plain_sub_loop : plainId "re.Pattern.sub.loop" = true := by decide +kernel
theorem args_sub (a b c : Value) : argsOk "re.Pattern.sub" ⟨[a, b, c], []⟩ := by
  unfold argsOk; kernel_rfl
section
variable {prog : Program} {w : WK} {A : Around} {E : Value → Shared → Prop} {M : Model}
variable {s : Shared}
theorem x_drive {n k : Nat} : ∀ {m m' : Sre.M} {s : Shared} {Q : Sre.M → Shared → Prop}, turns n m = some m' → Q m' s → wpAny M A (Builtin.Re.reDrive (k + n) m) Q E s := by
  induction n with
  | zero => intro m m' s Q h; cases h
  | succ n ih =>
    intro m m' s Q h hq
    show wpAny M A (Builtin.Re.reDrive ((k + n) + 1) m) Q E s
    unfold Builtin.Re.reDrive
    unfold turns at h
    dsimp only
    split at h
    · rename_i ho
      injection h with h
      rw [if_pos ho]
      subst h
      exact wpAny_pure hq
    · rename_i ho
      rw [if_neg ho]
      exact wpAny_bind (wpAny_rule (ih h hq))
theorem x_rules {β : Type} {l : List β} {c : β → Bool} {t : β → String} {Q : PUnit → Shared → Prop} (hq : Q ⟨⟩ s) :
    wpAny M A (forIn l PUnit.unit fun i _ => (if c i = true then (rule (t i) >>= fun _ => pure (ForInStep.yield PUnit.unit)) else pure (ForInStep.yield PUnit.unit) : Sem (ForInStep PUnit))) Q E s := by
  induction l with
  | nil => rw [List.forIn_nil]; exact wpAny_pure hq
  | cons x l ih =>
    rw [List.forIn_cons]
    refine wpAny_bind ?_
    split
    · exact wpAny_bind (wpAny_rule (wpAny_pure ih))
    · exact wpAny_pure ih
theorem x_notFound {t : Builtin.Re.ReTarget} {start : Nat} {must : Bool} {n : Nat} {Q : Option Sre.M → Shared → Prop} (hn : n ≤ 1000) (h : ((turns n (Sre.forSearch t.code t.text t.groups start t.lim must)).elim false fun m => isFailed m.outcome) = true) (hq : Q none s) :
    wpAny M A (Builtin.Re.reNextFound t start must) Q E s := by
  obtain ⟨m', hm, hf⟩ : ∃ m', turns n (Sre.forSearch t.code t.text t.groups start t.lim must) = some m' ∧ isFailed m'.outcome = true := by
    cases e : turns n (Sre.forSearch t.code t.text t.groups start t.lim must) with
    | none => rw [e] at h; cases h
    | some m' => rw [e] at h; exact ⟨m', rfl, h⟩
  unfold Builtin.Re.reNextFound Builtin.Re.reRunToEnd
  have e : (2 ^ 64 : Nat) = (2 ^ 64 - n) + n := by lia
  rw [e]
  refine wpAny_bind (x_drive hm ?_)
  refine wpAny_bind (x_rules ?_)
  cases ho : m'.outcome with
  | none => rw [ho] at hf; cases hf
  | some o =>
    rw [ho] at hf
    cases o with
    | failed => exact wpAny_pure hq
    | matched => cases hf
    | stuck _ => cases hf
end
end Mine
namespace Mine
theorem join_nil (ls : List (List Nat)) : Txt.join (S []) (ls.map S) = S ls.flatten := by
  show Builtin.Str.glued _ _ = _
  rw [StrLaws.glued_eq_join]
  induction ls with
  | nil => rfl
  | cons x ls ih =>
    cases ls with
    | nil => show S x = _; simp
    | cons y r =>
      show S x ++ S [] ++ Str.join (S []) ((y :: r).map S) = _
      rw [ih, S_app, S_app]
      simp
theorem fn_callable : ∃ v, typeLookup (.type "function") "__call__" = pure (some v) := ⟨.builtin "function.__call__", by rw [typeLookup_type, builtinLookup_eq_fast]; kernel_rfl⟩
theorem sub_bytearray : isSubtype (.type "str") (.type "bytearray") = pure false := by rw [isSubtype_type]; kernel_rfl
section
variable {w : WK} {A : Around} {E : Value → Shared → Prop} {g : Array GenState} {d : Drawn} {os : OsState}
variable {h : Heap} {tk : Nat}
theorem x_join0 {prog : Program} {a : Addr} {ls : List (List Nat)} {t : Tok} (hl : ∃ o, h.get? a = some o ∧ SLst ls o) (hn : ls.flatten.length ≤ 100000) {Q : Value → Shared → Prop}
    (k : ∀ t' tk', Q (.str (S ls.flatten) t') ⟨h, g, d, tk', os⟩) : wpAny (model prog w.w) A (call (.builtin "str.join") [.str (S []) t, .ref a]) Q E ⟨h, g, d, tk, os⟩ := by
  obtain ⟨o, ho, vs, hv, hl⟩ := hl
  refine join_list (s := ⟨h, g, d, tk, os⟩) (Lst.isList (h := h) ⟨o, ho, hl⟩) (by simpa using hv) ?_ fun t' tk' => ?_
  · have e1 : ((ls.map S).map (·.length)).sum = ls.flatten.length := by
      rw [List.map_map, List.length_flatten]
      congr 1
    rw [e1, S_len]
    simp only [List.length_nil, Nat.mul_zero]
    lia
  · have e : Txt.join (S []) (ls.map S) = S ls.flatten := join_nil ls
    rw [e]; exact k _ _
theorem x_target (gw : G w h) {c : Nat} {t : Tok} {Q : Builtin.Re.ReTarget → Shared → Prop}
    (k : Q { pattern := .ref 50, string := .str (S [c]) t, code := codeOf (KK w), text := #[c], kind := 0, groups := groupsOf (KK w), pos := 0, lim := 1 } ⟨h, g, d, tk, os⟩) :
    wpAny (model PP w.w) A (Builtin.Re.reWholeTarget (.ref 50) (.str (S [c]) t)) Q E ⟨h, g, d, tk, os⟩ := by
  obtain ⟨fs, hl, h5, h6⟩ := w.need.pat
  obtain ⟨cc, dd, xs, n, sl', hl'⟩ := w.need.cod
  have ec : codeOf (KK w) = ((xs.map Builtin.Re.reRawOf).map (·.toNat)) := by unfold codeOf itemsAt; rw [hl']
  have eg : groupsOf (KK w) = Builtin.Re.reRawNat (fs.getD 2 .none) := by unfold groupsOf fieldsAt; rw [hl]
  rw [ec, eg] at k
  unfold Builtin.Re.reWholeTarget
  refine wpAny_bind (wpAny_fieldsOf (s := ⟨h, g, d, tk, os⟩) (gw.K _ _ hl) rfl ?_)
  refine wpAny_bind (wpAny_of_eq (a := (#[c], 0)) rfl ?_)
  dsimp only
  rw [eq_of_beq h6, h5]
  rw [if_neg (by decide), if_neg (by decide)]
  refine wpAny_bind (wpAny_of_eq (a := ()) rfl ?_)
  unfold Builtin.Re.reRawItems
  exact wpAny_bind (wpAny_bind (wpAny_seqItems (s := ⟨h, g, d, tk, os⟩) (gw.K _ _ hl') rfl (wpAny_pure (wpAny_pure k))))
/-- the pattern finds nothing in one sign -/
theorem x_sub1 (gw : G w h) (ag : AG 3 A) {lam : Addr} (hlam : ∃ o, h.get? lam = some o ∧ o.cls = .type "function") {c : Nat} (hc : c = 42 ∨ c = 63 ∨ c = 91) {t : Tok} {Q : Value → Shared → Prop}
    (k : ∀ h' tk' t', Keep h h' → Q (.str (S [c]) t') ⟨h', g, d, tk', os⟩) : wpAny (model PP w.w) A (call (.builtin "re.Pattern.sub") [.ref 50, .ref lam, .str (S [c]) t]) Q E ⟨h, g, d, tk, os⟩ := by
  obtain ⟨fs, hl, _⟩ := w.need.pat
  have hT : Shared.TypeIs ⟨h, g, d, tk, os⟩ (.ref 50) "re.Pattern" := ⟨_, gw.K _ _ hl, rfl⟩
  obtain ⟨fv, hfv⟩ := fn_callable
  refine wpAny_call (codeAny_call_builtin slot_sub.plain entry_sub (slot_sub.check _ _ _ _ _ _ _ _ hT (args_sub _ _ _) ?_))
  show wpAny _ A.in1 (Builtin.Re.reSubstitute "re.Pattern.sub" "sub" false ⟨[.ref 50, .ref lam, .str (S [c]) t], []⟩) _ _ _
  unfold Builtin.Re.reSubstitute
  dsimp only
  refine wpAny_bind (wpAny_of_eq (a := [some (.ref lam), some (.str (S [c]) t), none]) rfl ?_)
  dsimp only
  refine wpAny_bind (wpAny_pure ?_)
  refine wpAny_bind (wpAny_specialOf (T := "function") hlam hfv ?_)
  simp only [Option.isSome_some, if_true]
  refine wpAny_bind (wpAny_pure ?_)
  refine wpAny_bind (wpAny_pure ?_)
  refine wpAny_bind (wpAny_holding (x_target gw ?_))
  simp only [beq_self_eq_true, if_true]
  refine wpAny_bind ?_
  unfold Builtin.Re.reNotHeld
  refine wpAny_bind (wpAny_isInstance (T := "str") (b := false) (typeIs_str _ _ _) sub_bytearray ?_)
  refine wpAny_pure ?_
  refine wpAny_bind ?_
  refine wpAny_newObj_type ?_ (by size_fits)
  refine wpAny_pure ⟨plainId_quiet plain_sub_loop _, codeAny_builtin entry_sub_loop ?_⟩
  rw [Around.under_plainId plain_sub_loop _]
  have hL : (h.push { cls := .type "list", data := .seq ([] : List Value).toArray }).get? h.objs.size = some { cls := .type "list", data := .seq ([] : List Value).toArray } := Heap.get?_push_size _ rfl
  have kp : Keep h (h.push { cls := .type "list", data := .seq ([] : List Value).toArray }) := Keep.push _ _
  have hfr := get_size h
  show wpAny _ A.in1 _ _ _ ⟨h.push { cls := .type "list", data := .seq ([] : List Value).toArray }, g, d, tk, os⟩
  generalize h.objs.size = l at hL hfr ⊢
  generalize h.push { cls := .type "list", data := .seq ([] : List Value).toArray } = h₁ at hL kp ⊢
  have gw₁ := gw.keep kp
  unfold Builtin.«re.Pattern.sub.loop»
  dsimp only [rawInt]
  refine wpAny_bind (x_target gw₁ ?_)
  simp only [show ((1 : Int) == 0) = false from rfl, show ((0 : Int) != 0) = false from rfl, Bool.false_and, Bool.false_eq_true, if_false]
  refine wpAny_bind (x_notFound (n := 50) (by decide) ?_ ?_)
  · rcases hc with rfl | rfl | rfl
    · exact w.need.fs42
    · exact w.need.fs63
    · exact w.need.fs91
  dsimp only
  rw [if_pos (by decide)]
  have e : (⟨(#[c] : Array Nat).extract 0 1⟩ : Str) = S [c] := by simp [S]
  show wpAny _ _ (mkStr ⟨(#[c] : Array Nat).extract 0 1⟩ >>= _) _ _ _
  rw [e]
  refine wpAny_bind (wpAny_mkStr ?_ (by rw [S_len, sizeLine_eq]; exact Nat.le_of_ble_eq_true rfl))
  refine wpAny_bind (wpAny_updateSeq hL rfl ?_)
  have hL₂ := Heap.get?_update_self (Obj.mapSeq (·.push (Value.str (S [c]) tk))) hL rfl
  have k₂ : Keep h (h₁.update l (Obj.mapSeq (·.push (Value.str (S [c]) tk)))) := fun b o q => by
    have hb : l ≠ b := fun e => by subst e; rw [hfr] at q; cases q
    exact (Heap.get?_update_other _ _ hb).trans (kp b o q)
  show wpAny _ A.in1 _ _ _ ⟨h₁.update l (Obj.mapSeq (·.push (Value.str (S [c]) tk))), g, d, tk + 1, os⟩
  generalize h₁.update l (Obj.mapSeq (·.push (Value.str (S [c]) tk))) = h₂ at hL₂ k₂ ⊢
  have e0 : (⟨(#[c] : Array Nat).extract 0 0⟩ : Str) = S [] := by simp [S]
  show wpAny _ _ (mkStr ⟨(#[c] : Array Nat).extract 0 0⟩ >>= _) _ _ _
  rw [e0]
  refine wpAny_bind (wpAny_mkStr ?_ (by rw [S_len, sizeLine_eq]; exact Nat.le_of_ble_eq_true rfl))
  refine wpAny_bind (wpAny_seqItems hL₂ rfl ?_)
  show wpAny _ _ (if (Array.isEmpty #[Value.str (S [c]) tk]) = true then _ else _) _ _ _
  rw [if_neg (by simp)]
  show wpAny _ A.in1 (call (.builtin "str.join") [.str (S []) (tk + 1), .ref l] >>= _) _ _ ⟨h₂, g, d, tk + 1 + 1, os⟩
  refine wpAny_bind (x_join0 (ls := [[c]]) ⟨_, hL₂, _, .cons _ _ .nil, _, rfl⟩ (by simp) fun t' tk' => ?_)
  refine wpAny_pure ?_
  exact k h₂ tk' t' k₂
end
end Mine
namespace Mine
theorem lk_append : typeLookup (.type "list") "append" = pure (some (.builtin "list.append")) := by rw [typeLookup_type, builtinLookup_eq_fast]; kernel_rfl
theorem entry_list_ga : entryFor table "list.__getattribute__" = some Builtin.«object.__getattribute__» :=
  entryFor_alias (id' := "object.__getattribute__") (by kernel_rfl) (by first | rfl | decide +kernel | (unfold String.splitOn; simp +decide [String.splitOnAux])) (by decide +kernel) (by kernel_rfl)
theorem md_get : typeLookup (.type "method_descriptor") "__get__" = pure (some (.builtin "method_descriptor.__get__")) := by rw [typeLookup_type, builtinLookup_eq_fast]; kernel_rfl
theorem md_set : typeLookup (.type "method_descriptor") "__set__" = pure none := by rw [typeLookup_type, builtinLookup_eq_fast]; kernel_rfl
theorem md_del : typeLookup (.type "method_descriptor") "__delete__" = pure none := by rw [typeLookup_type, builtinLookup_eq_fast]; kernel_rfl
theorem entry_md_get : entryFor table "method_descriptor.__get__" = some Builtin.«method_descriptor.__get__» := entryFor_of_tree (by kernel_rfl)
theorem slot_md_get : Slot "method_descriptor" "__get__" "method_descriptor.__get__" :=
  .of (owner := "method_descriptor") (n := "__get__") (by rw [typeLookup_type, builtinLookup_eq_fast]; kernel_rfl) (by decide +kernel) (by decide +kernel) (by decide +kernel)
    (by first | exact .inl (by decide +kernel) | exact .inr (by decide +kernel)) (by rw [isSubtype_type]; kernel_rfl)
theorem args_md_get (a b c : Value) : argsOk "method_descriptor.__get__" ⟨[a, b, c], []⟩ := by unfold argsOk; kernel_rfl
section
variable {prog : Program} {w : WK} {A : Around} {E : Value → Shared → Prop} {g : Array GenState} {d : Drawn} {os : OsState}
variable {h : Heap} {tk : Nat}
open Builtin.ObjectAttr in
theorem find_append {x : Addr} {vs : List Value} (hx : ∃ o, h.get? x = some o ∧ LstO vs o) {Q : Builtin.ObjectAttr.Found → Shared → Prop} (k : Q (.bind (.builtin "method_descriptor.__get__") (.builtin "list.append")) ⟨h, g, d, tk, os⟩) :
    wpAny (model prog w.w) A (find (.ref x) (.type "list") (Str.ofString "append")) Q E ⟨h, g, d, tk, os⟩ := by
  have h1 := lk_append
  have h2 := F.type_list_append
  have h3 := md_get
  have h4 := md_set
  have h5 := md_del
  obtain ⟨o, ho, n, rfl⟩ := hx
  unfold find
  wp_walk
  exact k
theorem sub_list : isSubtype (.type "list") (.type "list") = pure true := by rw [isSubtype_type]; kernel_rfl
theorem md_call {x : Addr} {vs : List Value} (hx : ∃ o, h.get? x = some o ∧ LstO vs o) {Q : Value → Shared → Prop}
    (k : Q (.ref h.objs.size) ⟨h.push { cls := .type "builtin_function_or_method", data := .fields #[.builtin "list.append", .ref x] }, g, d, tk, os⟩) :
    wpAny (model prog w.w) A (call (.builtin "method_descriptor.__get__") [.builtin "list.append", .ref x, .type "list"]) Q E ⟨h, g, d, tk, os⟩ := by
  have hT : Shared.TypeIs ⟨h, g, d, tk, os⟩ (.builtin "list.append") "method_descriptor" := F.type_list_append
  refine wpAny_call_entry slot_md_get hT entry_md_get ?_ (args_md_get _ _ _)
  have h1 := sub_list
  obtain ⟨o, ho, n, rfl⟩ := hx
  wp_walk
  have e : (".".intercalate ("list.append".cutAt '.').dropLast) = "list" := by decide +kernel
  refine wpAny_of_eq (a := true) (by rw [e]; exact sub_list) ?_
  refine wpAny_pure ?_
  unfold newFields
  refine wpAny_bind (wpAny_newObj_type ?_ (by size_fits))
  exact wpAny_pure ⟨_, rfl, k⟩
/-- what res.append is -/
noncomputable def BoundO (id : String) (x : Addr) : Obj → Prop := fun o => o = { cls := .type "builtin_function_or_method", data := .fields #[.builtin id, .ref x] }
theorem list_ga : typeLookup (.type "list") "__getattribute__" = pure (some (.builtin "list.__getattribute__")) := by rw [typeLookup_type, builtinLookup_eq_fast]; kernel_rfl
theorem x_get_append {x : Addr} {vs : List Value} (hx : ∃ o, h.get? x = some o ∧ LstO vs o) {Q : Value → Shared → Prop}
    (k : ∀ a h' tk', Keep h h' → h.get? a = none → (∃ o, h'.get? a = some o ∧ BoundO "list.append" x o) → Q (.ref a) ⟨h', g, d, tk', os⟩) : wpAny (model prog w.w) A (getAttr (.ref x) (Str.ofString "append") true) Q E ⟨h, g, d, tk, os⟩ := by
  have hL : Shared.TypeIs ⟨h, g, d, tk + 1, os⟩ (.ref x) "list" := (Lst.isList (h := h) hx).typeIs
  unfold getAttr getAttrBy
  refine wpAny_bind (wpAny_mkText (wpAny_holding (wpAny_bind (wpAny_typeOf hL (wpAny_bind (wpAny_of_eq list_ga ?_))))))
  show wpAny _ _ (getAttrByItsOwn (.ref x) (.str (Str.ofString "append") tk) (.type "list") (.builtin "list.__getattribute__") true true) _ _ ⟨h, g, d, tk + 1, os⟩
  unfold getAttrByItsOwn
  refine wpAny_bind (wpAny_of_eq (a := none) rfl ?_)
  refine wpAny_bind (wpAny_attempt (wpAny_holding ?_))
  show wpAny _ _ (boundAndCalled (.builtin "list.__getattribute__") (.ref x) (.str (Str.ofString "append") tk)) _ _ _
  unfold boundAndCalled
  refine wpAny_bind (wpAny_of_eq (F.slot_list_getattribute.bind _) ?_)
  show wpAny _ _ (call (.builtin "list.__getattribute__") [.ref x, .str (Str.ofString "append") tk]) _ _ _
  refine wpAny_call_entry F.slot_list_getattribute hL entry_list_ga ?_ (F.args_list_getattribute_2 _ _)
  unfold Builtin.«object.__getattribute__»
  refine wpAny_bind (wpAny_of_eq (a := (Value.ref x, [Value.str (Str.ofString "append") tk])) rfl ?_)
  dsimp only
  refine wpAny_bind (wpAny_of_eq (a := Str.ofString "append") rfl ?_)
  refine wpAny_bind (wpAny_typeOf hL ?_)
  refine wpAny_bind (find_append hx ?_)
  show wpAny _ _ (Builtin.ObjectAttr.bindTo (.builtin "method_descriptor.__get__") (.builtin "list.append") (.ref x) (.type "list")) _ _ _
  unfold Builtin.ObjectAttr.bindTo
  dsimp only
  refine wpAny_bind (wpAny_holding (md_call hx ?_))
  refine wpAny_pure ⟨_, rfl, ?_⟩
  show wpAny _ _ (handedOut (.ref h.objs.size)) _ _ _
  exact wpAny_of_eq rfl (k _ _ _ (Keep.push _ _) (get_size _) ⟨_, Heap.get?_push_size _ rfl, rfl⟩)
theorem x_attr {o : Expr} {env : Env} {name : Str} {pos : Pos} {s : Shared} {Q : Value → Shared → Prop}
    (k : wpAny (model prog w.w) A (eval o env) (fun ov s₁ => wpAny (model prog w.w) A (getAttr ov name true) (fun r s₂ => Q r s₂) E s₁) E s)
    (ha : attributeBase o name env (eval o env) = eval o env := by rfl) (ht : ∀ ov r, letTemporaryGo o ov r = pure () := by intro _ _; rfl) : wpAny (model prog w.w) A (eval (.Attribute o name pos) env) Q E s := by
  show wpAny _ _ (do let ov ← attributeBase o name env (eval o env); standAt pos.atName; let r ← holding [ov] (getAttr ov name true); letTemporaryGo o ov r; pure r) _ _ _
  rw [ha]
  refine wpAny_bind (wpAny_mono k (fun ov s₁ q => wpAny_bind (wpAny_standAt (wpAny_bind (wpAny_holding (wpAny_mono q (fun r s₂ q => ?_) fun _ _ e => e))))) fun _ _ e => e)
  exact wpAny_bind (wpAny_of_eq (ht ov r) (wpAny_pure q))
end
end Mine
namespace Mine
section
variable {prog : Program} {w : WK} {A : Around} {E : Value → Shared → Prop} {g : Array GenState} {d : Drawn} {os : OsState}
variable {h : Heap} {tk : Nat}
theorem sub_module : isSubtype (.type "list") (.type "module") = pure false := by rw [isSubtype_type]; kernel_rfl
theorem boundCall_append {x : Addr} {v : Value} {vs : List Value} (hx : ∃ o, h.get? x = some o ∧ LstO vs o) {Q : Unit → Shared → Prop} (k : Q () ⟨h, g, d, tk, os⟩) : wpAny (model prog w.w) A (checkBoundCall "list.append" ⟨[.ref x, v], []⟩) Q E ⟨h, g, d, tk, os⟩ := by
  have hL : Shared.TypeIs ⟨h, g, d, tk, os⟩ (.ref x) "list" := (Lst.isList (h := h) hx).typeIs
  have hk : builtinKind "list.append" = some .method := by decide +kernel
  unfold checkBoundCall
  rw [signature?_of (id := "list.append") (n := ['d', 'n', 'e', 'p', 'p', 'a']) (o := ['t', 's', 'i', 'l']) (by kernel_rfl) F.owner_list, hk]
  obtain ⟨sig, hs, hc⟩ : ∃ sig : Manifest.Signature, List.lookup (String.ofList ['d', 'n', 'e', 'p', 'p', 'a'].reverse) Manifest.sig_list = some sig ∧
      Bind.checkArgs "list.append" { machinery := sig.machinery, full := toString (Bind.lastOf "list") ++ toString "." ++ toString (Bind.lastOf "list.append"), short := sig.short, receiver := sig.receiver, params := sig.params } ⟨[.ref x, v], []⟩ = pure () :=
    ⟨⟨.oneArg, "list.append", "append", .self, [⟨"object", .posOnly, true⟩]⟩, by kernel_rfl, by kernel_rfl⟩
  rw [hs]
  dsimp only
  rw [if_neg (by decide)]
  refine wpAny_bind (wpAny_isInstance (T := "list") (b := false) hL sub_module ?_)
  have hv : Manifest.varargsMethods.contains "list.append" = false := by decide +kernel
  rw [hv]
  simp only [Bool.false_or, Bool.false_eq_true, if_false]
  refine wpAny_bind ?_
  obtain ⟨o, ho, n, rfl⟩ := hx
  wp_walk
  exact k
/-- add(v), where add is xs.append -/
theorem x_bcall_append {a x : Addr} {v : Value} {vs : List Value} {Q : Value → Shared → Prop} (hx : ∃ o, h.get? x = some o ∧ LstO vs o) (hb : ∃ o, h.get? a = some o ∧ BoundO "list.append" x o) (hn : vs.length ≤ 100000)
    (k : ∀ h', Heap.SameBut x h h' → (∃ o, h'.get? x = some o ∧ LstO (vs ++ [v]) o) → Q .none ⟨h', g, d, tk, os⟩) :
    wpAny (model prog w.w) A (call (.ref a) [v]) Q E ⟨h, g, d, tk, os⟩ := by
  obtain ⟨ob, hob, rfl⟩ := hb
  refine wpAny_call (codeAny_of_tree ?_)
  show wpAny _ A.in1 (callAny (.ref a) ⟨[v], []⟩) _ _ _
  unfold callAny
  refine wpAny_bind (wpAny_load hob ?_)
  show wpAny _ A.in1 (checkBoundCall "list.append" ⟨[.ref x, v], []⟩ >>= fun _ => again (.builtin "list.append" ⟨[.ref x, v], []⟩)) _ _ _
  refine wpAny_bind (boundCall_append hx ?_)
  obtain ⟨o, ho, n, rfl⟩ := hx
  refine wpAny_pure ⟨plainId_quiet F.slot_list_append.plain _, codeAny_builtin F.entry_list_append ?_⟩
  show wpAny _ _ (updateSeq x (·.push v) >>= fun _ => ret .none) _ _ _
  refine wpAny_bind ?_
  refine wpAny_updateSeq (s := ⟨h, g, d, tk, os⟩) ho rfl (wpAny_pure ?_) (by rw [List.size_toArray, sizeLine_eq]; lia) (by rw [Array.size_push, List.size_toArray, sizeLine_eq]; lia)
  refine k _ (Heap.SameBut.update ..) ⟨_, Heap.get?_update_self _ ho rfl, n + 1, ?_⟩
  rw [Obj.mapSeq_push_plain]
  simp
end
end Mine
set_option maxRecDepth 100000
set_option maxHeartbeats 1000000
namespace Mine
/-- what the making of a function reads beside -/
noncomputable def GT (h : Heap) : Prop := ∃ mg bm ob, h.Ns mainGlobals mg ∧ mg "__builtins__" = some (.ref bm) ∧ bm ≠ builtinsNs ∧ bm ≠ mainGlobals ∧ h.get? bm = some ob ∧ ob.cls = .type "module" ∧ ob.dict = some builtinsNs ∧ ob.data = .plain
theorem GT.keep {h h' : Heap} (x : GT h) (k : Keep h h') : GT h' :=
  let ⟨mg, bm, ob, n, a, b, c, d, r⟩ := x; ⟨mg, bm, ob, n.keeps k, a, b, c, k _ _ d, r⟩
/-- the table of nested codes -/
noncomputable def TabP : Obj → Prop := fun o => ∃ ps, o = tabObj ps ∧ TriplesOk ps.toList
theorem code75 {w : WK} {h : Heap} (gw : G w h) : CodeHd h 75 71 := codeHd_of_K gw.K w.need.hd75
section
variable {prog : Program} {w : WK} {A : Around} {E : Value → Shared → Prop} {env : Env} {g : Array GenState} {d : Drawn} {os : OsState} {B : Addr → Obj → Prop} {L : Addr} {names gl : List Str}
variable {h : Heap} {tk : Nat} {m : Str → Option Value} {n : List (Addr × (Obj → Prop))} {vals : List (Option Value)}
theorem x_lambda {params : Arguments} {body : Expr} {scope : Scope} {pos : Pos} {Q : Value → Shared → Prop} (z : Z B L m n h) (i : Nat) (hi : n[i]? = some (71, TabP)) (gw : G w h) (gt : GT h) (hc : env.code = .ref 75) (hge : env.globals = mainGlobals)
    (k : ∀ f h' tk', Z B L m n h' → (∃ o, h'.get? f = some o ∧ o.cls = .type "function") → Q (.ref f) ⟨h', g, d, tk', os⟩)
    (hdef : defaultsOf params env = ([], []) := by rfl) (hcl : closureFor scope env = pure [] := by rfl) :
    wpAny (model prog w.w) A (eval (.Lambda params body scope pos) env) Q E ⟨h, g, d, tk, os⟩ := by
  obtain ⟨o, ho, ps, rfl, ht⟩ := z.get i hi
  obtain ⟨mg, bm, ob, hn, b1, b2, b3, b4, b5, b6, b7⟩ := gt
  have hbP : bm ≠ 71 := fun q => by subst q; rw [ho] at b4; cases b4; cases b7
  have hgP : mainGlobals ≠ 71 := by decide
  refine kla_eval hdef ?_
  cases hq : codeAmong pos ps.toList with
  | none =>
    refine kla_makeFunction (s := ⟨h, g, d, tk, os⟩) hcl hge hn hc (code75 gw) ho ht hq hgP ⟨bm, ob, b1, b2, b3, hbP, b4, b5, b6, b7⟩ fun c' ctv h' tk' hx _ _ _ htb => ?_
    have htp : TabP (tabObj (ps ++ #[rawInt pos.line, rawInt pos.col, .ref c'])) := ⟨_, rfl, by rw [Array.toList_append]; exact TriplesOk_snoc _ _ _ _ ht⟩
    have z1 := z.updE i hi hx htb htp
    have hlt : i < n.length := by
      rcases Nat.lt_or_ge i n.length with q | q
      · exact q
      · rw [List.getElem?_eq_none q] at hi; cases hi
    have e : n.set i (71, TabP) = n := by
      apply List.ext_getElem?
      intro j
      rw [List.getElem?_set]
      by_cases hj : i = j
      · subst hj; rw [if_pos rfl, if_pos hlt, hi]
      · rw [if_neg hj]
    rw [e] at z1
    exact k _ _ _ (z1.push0 _) ⟨_, Heap.get?_push_size _ rfl, rfl⟩
  | some cv =>
    refine kla_makeFunctionHit (s := ⟨h, g, d, tk, os⟩) hcl hge hn hc (code75 gw) ho ht hq ⟨bm, ob, b1, b2, b3, hbP, b4, b5, b6, b7⟩ fun ctv h' tk' hk hsz => ?_
    exact k _ _ _ ((z.keepAll hk).push0 _) ⟨_, Heap.get?_push_size _ rfl, rfl⟩

/-- a def, its environment told -/
theorem x_callK {a : Addr} {fd : FuncData} {body : List Stmt} {ks rest gl : List Str} {args : List Value} {Q : Value → Shared → Prop} {N : Nat}
    (D : DefAt w a fd body ks rest gl) (gw : G w h) (ag : AG (N + 1) A) (hb : bindArgs fd ⟨args, []⟩ = pure (ks.zip args)) (hl : ks.length = args.length)
    (k : ∀ env L h₁ tk₁, EnvL env L (ks ++ rest) gl → env.frame = some L → env.code = fd.code → AG N (A.deeper env) → Z (Sb h) L (fr (ks ++ rest) (args.map some ++ rest.map fun _ => none)) [] h₁ →
      wpAny (model prog w.w) (A.deeper env) (execs body env) (QF Q) (fun _ _ => False) ⟨h₁, g, d, tk₁, os⟩) :
    wpAny (model prog w.w) A (call (.ref a) args) Q E ⟨h, g, d, tk, os⟩ := by
  obtain ⟨c, dd, sl, hk⟩ := D.look
  have ho := gw.K _ _ hk
  have hloc : ∀ y ∈ ks, fd.scope.names.lookup y = some .local := fun y hy => by
    have := List.all_eq_true.mp D.loc y (List.mem_append_left _ hy)
    rw [Bool.and_eq_true] at this
    exact eq_of_beq this.1
  refine wpAny_call (codeAny_call_def (binds := ks.zip args) ag.room ho rfl gw.lim (codeRec_of gw.K D.code) D.body (BindsTo.of_eq hb) (fun y hy => by have := List.all_eq_true.mp D.cell y hy; simpa using this) (fun y hy => hloc _ (List.of_mem_zip hy).1) (fun h₁ hns hk₁ => ?_) D.co D.gen D.kind)
  have hns' : h₁.Ns h.objs.size (fr (ks ++ rest) (args.map some ++ rest.map fun _ => none)) := by
    rw [← fr_binds ks rest args D.nd hl]; exact hns
  exact wpAny_mono (k _ h.objs.size h₁ _ (D.envL _) rfl rfl (ag.deeper _) (Sb.Z_enter hns' hk₁)) (fun f s' q => q) (fun _ _ q => q.elim)

/-- a thing of the heap goes into the ledger, out of what stays -/
theorem Z.claim {B' : Addr → Obj → Prop} (z : Z B L m n h) {a : Addr} {P : Obj → Prop} (ha : ∃ o, h.get? a = some o ∧ P o) (hs : ∀ b o, B' b o → B b o) (hB : ∀ o, ¬ B' a o) (hL : a ≠ L) (hn : a ∉ n.map (·.1)) : Z B' L m ((a, P) :: n) h := by
  have z1 := z.subB hs
  refine ⟨z1.ns, z1.keep, z1.apart, fun p hp => ?_, fun p hp => ?_, by rw [List.map_cons, List.nodup_cons]; exact ⟨hn, z1.nd⟩⟩
  · rcases List.mem_cons.mp hp with rfl | hp
    · exact ha
    · exact z1.led p hp
  · rcases List.mem_cons.mp hp with rfl | hp
    · exact ⟨hL, hB⟩
    · exact z1.off p hp
inductive PNc (M : Model) (A : Around) (E : Value → Shared → Prop) (id : String) (a : Addr) (Q : Value → Shared → Prop) (vs : List Value) (s₂ : Shared) : Prop
  | mk (y : Addr) (hb : ∃ o, s₂.heap.get? a = some o ∧ BoundO id y o) (k : wpAny M A (call (.ref a) vs) Q E s₂)
/-- a bound method of a built-in type that stands at a name, called -/
theorem x_ncall {e : Expr} {es : List Expr} {x : Str} {np pos : Pos} {a : Addr} {id : String} {s : Shared} {Q : Value → Shared → Prop}
    (k : wpAny (model prog w.w) A (eval (.Name x np) env) (PCal (model prog w.w) A E env (.ref a) (e :: es) (PNc (model prog w.w) A E id a Q)) E s)
    (hs : backTo pos (starEach (e :: es) env) = (e :: es).map fun e => (false, eval e env) := by rfl) :
    wpAny (model prog w.w) A (eval (.Call (.Name x np) (e :: es) [] pos) env) Q E s := by
  refine wpAny_Call_NameR (wpAny_mono k (fun f s₁ hh => ?_) fun _ _ e => e)
  obtain ⟨rfl, k⟩ := hh
  rw [hs]
  refine callWith_go (es := e :: es) (wpAny_mono k (fun vs s₂ ⟨y, ⟨o, ho, hb⟩, k⟩ => ⟨.machine, .inr rfl, fun Q' q => ?_, k⟩) fun _ _ e => e)
  subst hb
  unfold keeperOf
  exact wpAny_bind (wpAny_load ho (wpAny_pure q))
inductive PAd (d : Drawn) (os : OsState) (ad : Addr) (Q : Flow → Shared → Prop) (v : Value) (s₂ : Shared) : Prop
  | mk (h₂ : Heap) (tk₂ : Nat) (g₂ : Array GenState) (B : Addr → Obj → Prop) (L : Addr) (m : Str → Option Value) (n : Led) (i j : Nat) (xs : List Value) (a : Addr) (e : s₂ = ⟨h₂, g₂, d, tk₂, os⟩) (z : Z B L m n h₂) (hi : n[i]? = some (ad, BoundO "list.append" a)) (hj : n[j]? = some (a, LstO xs)) (hl : xs.length ≤ 100000)
      (q : ∀ h', Z B L m (n.set j (a, LstO (xs ++ [v]))) h' → Q .next ⟨h', g₂, d, tk₂, os⟩)
/-- add(e), add a list's append, as a statement -/
theorem x_addS {e : Expr} {x : Str} {np cpos pos : Pos} {ad : Addr} {names gl : List Str} {vals : List (Option Value)} {g : Array GenState} {d : Drawn} {os : OsState} {tk : Nat} {Q : Flow → Shared → Prop} (en : EnvL env L names gl) (z : Z B L (fr names vals) n h) (ix : Nat) (hx : names[ix]? = some x) (hv : vals[ix]? = some (some (.ref ad)))
    (k : wpAny (model prog w.w) A (eval e env) (PAd d os ad Q) E ⟨h, g, d, tk, os⟩)
    (hs : backTo cpos (starEach [e] env) = [e].map fun e => (false, eval e env) := by rfl)
    (hsw : swapsWith (.Call (.Name x np) [e] [] cpos) none pos.line env = pure false := by rfl) :
    wpAny (model prog w.w) A (exec (.Expr (.Call (.Name x np) [e] [] cpos) pos) env) Q E ⟨h, g, d, tk, os⟩ := by
  refine wpAny_Expr ?_ (by unfold interactive; rw [en.kind]; rfl) hsw
  refine x_ncall (a := ad) (id := "list.append") (x_loc en z ix hx hv ⟨rfl, evs_cons (wpAny_mono k (fun v s₂ q => evs_nil ?_) fun _ _ e => e)⟩) hs
  obtain ⟨h₂, tk₂, g₂, B, L, m, n, i, j, xs, a, rfl, z, hi, hj, hl, q⟩ := q
  exact ⟨a, z.get i hi, x_bcall_append (z.get j hj) (z.get i hi) hl fun h hs ho => q h (z.upd j hj hs ho.choose_spec.1 ho.choose_spec.2)⟩
end
end Mine
namespace Mine
section
variable {prog : Program} {w : WK} {A : Around} {E : Value → Shared → Prop} {env : Env} {g : Array GenState} {d : Drawn} {os : OsState}
variable {h : Heap} {tk : Nat}
theorem x_truthy_list {a : Addr} {vs : List Value} {Q : Bool → Shared → Prop} (hl : ∃ o, h.get? a = some o ∧ LstO vs o) (hn : vs.length ≤ 100000) (k : ∀ tk', Q (!vs.isEmpty) ⟨h, g, d, tk', os⟩) : wpAny (model prog w.w) A (truthy (.ref a)) Q E ⟨h, g, d, tk, os⟩ := by
  have hL : (⟨h, g, d, tk, os⟩ : Shared).heap.IsList a vs.toArray := Lst.isList (h := h) hl
  refine wpAny_truthy_list hL (by rw [List.size_toArray]; lia) ?_
  have e : vs.toArray.isEmpty = vs.isEmpty := by cases vs <;> rfl
  rw [e]
  exact k _
/-- the last item of a list -/
theorem x_item_last {a : Addr} {vs : List Value} {u : Tok} {v : Value} {Q : Value → Shared → Prop} {value slice : Expr} (hl : ∃ o, h.get? a = some o ∧ LstO vs o) (hv : vs.getLast? = some v) (hn : vs.length ≤ 100000)
    (hs : subscripted slice false (.ref a) (.int (-1) u) = operate [.ref a, .int (-1) u] (getItem (.ref a) (.int (-1) u)))
    (k : Q v ⟨h, g, d, tk, os⟩) : wpAny (model prog w.w) A (subscriptTail value slice (.ref a) (.int (-1) u)) Q E ⟨h, g, d, tk, os⟩ := by
  have hL : (⟨h, g, d, tk, os⟩ : Shared).heap.IsList a vs.toArray := Lst.isList (h := h) hl
  have hp : 0 < vs.length := by
    cases vs with
    | nil => simp at hv
    | cons _ _ => simp
  refine tail_any hL.typeIs slot_list_getitem.lookup (wpAny_getItem_list_neg hL (by decide) (by rw [List.size_toArray]; lia) (by decide) ?_ k) hs
  have e : ((-1 : Int) + (vs.toArray.size : Int)).toNat = vs.length - 1 := by rw [List.size_toArray, Int.add_comm]; exact Int.toNat_sub vs.length 1
  rw [e]
  rw [List.getLast?_eq_getElem?] at hv
  simpa using hv
theorem x_isnot_self {a : Addr} {Q : Value → Shared → Prop} (k : Q (.bool false) ⟨h, g, d, tk, os⟩) : wpAny (model prog w.w) A (compareOp .IsNot (.ref a) (.ref a)) Q E ⟨h, g, d, tk, os⟩ := wpAny_isNot_ref_self k
theorem x_isnot_str {a : Addr} {x : Str} {t : Tok} {Q : Value → Shared → Prop} (k : Q (.bool true) ⟨h, g, d, tk, os⟩) : wpAny (model prog w.w) A (compareOp .IsNot (.str x t) (.ref a)) Q E ⟨h, g, d, tk, os⟩ :=
  wpAny_isNot_other rfl (by intro q; cases q) k
theorem x_is_self {a : Addr} {Q : Value → Shared → Prop} (k : Q (.bool true) ⟨h, g, d, tk, os⟩) : wpAny (model prog w.w) A (compareOp .Is (.ref a) (.ref a)) Q E ⟨h, g, d, tk, os⟩ := wpAny_is_ref_self k
theorem x_notin_str {a b : List Nat} {t u : Tok} {Q : Value → Shared → Prop} (k : Q (.bool (!subIn a b)) ⟨h, g, d, tk, os⟩) : wpAny (model prog w.w) A (compareOp .NotIn (.str (S a) t) (.str (S b) u)) Q E ⟨h, g, d, tk, os⟩ :=
  notIn_str k
theorem x_replace1 {c : Nat} (hc : c = 42 ∨ c = 63 ∨ c = 91) {t u v : Tok} {Q : Value → Shared → Prop} (k : Q (.str (S [c]) t) ⟨h, g, d, tk, os⟩) :
    wpAny (model prog w.w) A (call (.builtin "str.replace") [.str (S [c]) t, .str (S [92]) u, .str (S [92, 92]) v]) Q E ⟨h, g, d, tk, os⟩ := by
  have ho : ((Builtin.Str.occurrences (S [c]) (S [92]) 0 (S [c]).length ((S [c]).length + 1)).isEmpty || ((S [92]).length == 0 && (S [92, 92]).length == 0)) = true := by
    rcases hc with rfl | rfl | rfl <;> decide +kernel
  refine call_gives F.slot_str_replace (typeIs_str _ _ _) F.entry_str_replace (F.args_str_replace_3 _ _ _) (gives_str_replace (S [c]) (S [92]) (S [92, 92]) t u v fun q => by rw [ho] at q; cases q) ?_
  rw [if_pos ho]
  exact k
inductive PFs (g : Array GenState) (d : Drawn) (os : OsState) (a b : List Nat) (Q : Value → Shared → Prop) (v : Value) (s₂ : Shared) : Prop
  | mk (h₂ : Heap) (tk₂ : Nat) (l : List Nat) (t : Tok) (e : s₂ = ⟨h₂, g, d, tk₂, os⟩) (e1 : v = .str (S l) t) (hl : a.length + l.length + b.length ≤ 100000) (q : ∀ t' tk', Q (.str (S (a ++ l ++ b)) t') ⟨h₂, g, d, tk', os⟩)
/-- a text, a value, a text -/
theorem x_fstr3 {x y : Str} {k₁ k₂ : Nat} {p₁ p₂ p pos : Pos} {e : Expr} (a b : List Nat) {Q : Value → Shared → Prop} (hx : x = S a) (hy : y = S b) (ha : a.length ≤ 1000)
    (k : ∀ tk₁, wpAny (model prog w.w) A (eval e env) (PFs g d os a b Q) E ⟨h, g, d, tk₁, os⟩) :
    wpAny (model prog w.w) A (eval (.JoinedStr [.Constant (.str x) k₁ p₁, .FormattedValue e (-1) none p, .Constant (.str y) k₂ p₂] pos) env) Q E ⟨h, g, d, tk, os⟩ := by
  subst hx hy
  refine JoinedStr_many (joinParts_cons (Calls.Constant_str ?_))
  have e0 : Str.empty ++ S a = S a := by show Str.append Str.empty (S a) = _; simp [Str.append, Str.empty, S]
  refine ⟨?_, joinParts_cons (wpAny_FormattedValue_plain (wpAny_mono (k _) (fun v s₂ q => ?_) fun _ _ e => e))⟩
  · rw [e0, S_len, sizeLine_eq]; lia
  · obtain ⟨h₂, tk₂, l, t, rfl, rfl, hlen, q⟩ := q
    refine formatField_str (fun t' tk' => ⟨?_, ?_⟩) (by rw [S_len, sizeLine_eq]; lia)
    · rw [e0, S_app, S_len, sizeLine_eq, List.length_append]; lia
    · show wpAny _ _ (joinParts _ [eval _ env]) _ _ _
      refine joinParts_cons (Calls.Constant_str ⟨?_, joinParts_nil ?_ ?_⟩)
      · rw [e0, S_app, S_app, S_len, sizeLine_eq, List.length_append, List.length_append]; lia
      · rw [e0, S_app, S_app]; exact q _ _
      · rw [e0, S_app, S_app, S_len, sizeLine_eq, List.length_append, List.length_append]; lia
end
end Mine
namespace Mine
/-- a sign of the pattern -/
inductive Sg where
  | star | ask | br (c : Nat) | lit (c : Nat)
noncomputable def Sg.text : Sg → List Nat
  | .star => [42] | .ask => [63] | .br c => [91, c, 93] | .lit c => [c]
noncomputable def Sg.Ok : Sg → Prop
  | .star => True | .ask => True | .br c => c = 42 ∨ c = 63 ∨ c = 91 | .lit c => c = 97 ∨ c = 98 ∨ c = 92
noncomputable def flat (sgs : List Sg) : List Nat := (sgs.map Sg.text).flatten
/-- what _translate adds for a sign; none: the star -/
noncomputable def addPiece (ps : List (Option (List Nat))) : Sg → List (Option (List Nat))
  | .star => if ps.getLast? = some none then ps else ps ++ [none]
  | .ask => ps ++ [some [46]]
  | .br c => ps ++ [some ([91] ++ (if c = 91 then [92] ++ [c] else [c]) ++ [93])]
  | .lit c => ps ++ [some (escOf c)]
noncomputable def piecesOf (sgs : List Sg) : List (Option (List Nat)) := sgs.foldl addPiece []
noncomputable def PieceV (star : Addr) (v : Value) : Option (List Nat) → Prop
  | none => v = .ref star
  | some l => ∃ t, v = .str (S l) t
inductive PiecesV (star : Addr) : List Value → List (Option (List Nat)) → Prop
  | nil : PiecesV star [] []
  | cons {v : Value} {p : Option (List Nat)} {vs : List Value} {ps : List (Option (List Nat))} (y : PieceV star v p) (r : PiecesV star vs ps) : PiecesV star (v :: vs) (p :: ps)
theorem PiecesV.snoc {star : Addr} {vs : List Value} {ps : List (Option (List Nat))} (x : PiecesV star vs ps) {v : Value} {p : Option (List Nat)} (y : PieceV star v p) : PiecesV star (vs ++ [v]) (ps ++ [p]) := by
  induction x with
  | nil => exact .cons y .nil
  | cons z _ ih => exact .cons z ih
theorem PiecesV.len {star : Addr} {vs : List Value} {ps : List (Option (List Nat))} (x : PiecesV star vs ps) : vs.length = ps.length := by
  induction x with
  | nil => rfl
  | cons _ _ ih => simp [ih]
theorem PiecesV.get {star : Addr} {vs : List Value} {ps : List (Option (List Nat))} (x : PiecesV star vs ps) : ∀ {i : Nat} {p : Option (List Nat)}, ps[i]? = some p → ∃ v, vs[i]? = some v ∧ PieceV star v p := by
  induction x with
  | nil => intro i p h; simp at h
  | cons y _ ih =>
    intro i p h
    cases i with
    | zero => simp at h; subst h; exact ⟨_, rfl, y⟩
    | succ i => simp at h ⊢; exact ih h
theorem PiecesV.last {star : Addr} {vs : List Value} {ps : List (Option (List Nat))} (x : PiecesV star vs ps) {p : Option (List Nat)} (h : ps.getLast? = some p) : ∃ v, vs.getLast? = some v ∧ PieceV star v p := by
  rw [List.getLast?_eq_getElem?] at h ⊢
  rw [x.len]
  exact x.get h
noncomputable def Keep71 (h h' : Heap) : Prop := ∀ b o, b ≠ 71 → h.get? b = some o → h'.get? b = some o
noncomputable def B71 (h : Heap) : Addr → Obj → Prop := fun b o => b ≠ 71 ∧ h.get? b = some o
theorem G.keep71 {w : WK} {h h' : Heap} (x : G w h) (k : Keep71 h h') : G w h' := by
  refine ⟨fun a o e => k a o (fun q => ?_) (x.K a o e), let ⟨mb, a, b⟩ := x.b; ⟨mb, a.at' fun o e => k _ o (by decide) e, b⟩, let ⟨mc, hns, hnn⟩ := x.lim; ⟨mc, hns.at' fun o e => k _ o (by decide) e, hnn⟩⟩
  subst q
  have : (KK w).lookup 71 = none := w.need.no71
  rw [this] at e; cases e
theorem GT.keep71 {h h' : Heap} (x : GT h) (tb : ∃ o, h.get? 71 = some o ∧ TabP o) (k : Keep71 h h') : GT h' := by
  obtain ⟨mg, bm, ob, n, a, b, c, d, e1, e2, e3⟩ := x
  refine ⟨mg, bm, ob, n.at' fun o e => k _ o (by decide) e, a, b, c, k _ _ (fun q => ?_) d, e1, e2, e3⟩
  obtain ⟨o, ho, ps, rfl, _⟩ := tb
  subst q; rw [d] at ho; cases ho; cases e3
theorem sign_at {l pre suf : List Nat} {x : Nat} {k : Int} (h : l = pre ++ x :: suf) (hk : k = (pre.length : Int)) : (seqIndex? k l.length).bind (l[·]?) = some x := by
  subst h hk
  rw [at_sign (Int.natCast_nonneg _) (by simp only [List.length_append, List.length_cons]; lia)]
  simp [List.getD]
theorem cut_mid {l pre suf mid : List Nat} {i j : Int} (h : l = pre ++ mid ++ suf) (hi : i = (pre.length : Int)) (hj : j = (pre.length : Int) + mid.length) : cut l (some i) (some j) = mid := by
  subst h hi
  have e : j = ((pre.length + mid.length : Nat) : Int) := by lia
  rw [e, cut_nn]
  rw [List.take_append_of_le_length (by simp), List.take_of_length_le (by simp)]
  simp
theorem piecesOf_snoc (sgs : List Sg) (s : Sg) : piecesOf (sgs ++ [s]) = addPiece (piecesOf sgs) s := by simp [piecesOf]
theorem flat_snoc (sgs : List Sg) (s : Sg) : flat (sgs ++ [s]) = flat sgs ++ s.text := by simp [flat]
theorem piecesOf_len (sgs : List Sg) : (piecesOf sgs).length ≤ sgs.length := by
  have step : ∀ (l : List Sg) (ps : List (Option (List Nat))), (l.foldl addPiece ps).length ≤ ps.length + l.length := by
    intro l
    induction l with
    | nil => intro ps; simp
    | cons s l ih =>
      intro ps
      have h1 := ih (addPiece ps s)
      have h2 : (addPiece ps s).length ≤ ps.length + 1 := by
        cases s <;> simp only [addPiece] <;> (try split) <;> simp
      simp only [List.foldl_cons, List.length_cons]; lia
  simpa [piecesOf] using step sgs []
end Mine
set_option maxHeartbeats 4000000
namespace Mine
theorem plainAttrs_pattern : PlainAttrs "re.Pattern" :=
  ⟨⟨"object.__getattribute__", by rw [typeLookup_type, builtinLookup_eq_fast]; kernel_rfl, by decide +kernel⟩, by rw [typeLookup_type, builtinLookup_eq_fast]; kernel_rfl⟩
section
variable {prog : Program} {w : WK} {A : Around} {E : Value → Shared → Prop} {g : Array GenState} {d : Drawn} {os : OsState}
variable {h : Heap} {tk : Nat}
theorem x_gei {a b : Int} {t u : Tok} {Q : Value → Shared → Prop} (k : Q (.bool (decide (b ≤ a))) ⟨h, g, d, tk, os⟩) : wpAny (model prog w.w) A (compareOp .GtE (.int a t) (.int b u)) Q E ⟨h, g, d, tk, os⟩ := ge_int k
theorem x_truthy_str {c : Nat} {l : List Nat} {t : Tok} {Q : Bool → Shared → Prop} (k : ∀ tk', Q true ⟨h, g, d, tk', os⟩) (hl : l.length ≤ 1000 := by decide) : wpAny (model prog w.w) A (truthy (.str (S (c :: l)) t)) Q E ⟨h, g, d, tk, os⟩ := by
  refine PySem.P.truthy_str (by rw [S_len, List.length_cons]; lia) ?_
  have e : (((S (c :: l)).length : Int) != 0) = true := by rw [S_len, List.length_cons]; simp; lia
  rw [e]; exact k _
theorem x_in_tup2 {a : Addr} {k x y : List Nat} {t u v : Tok} {Q : Value → Shared → Prop} (ho : ∃ o, h.get? a = some o ∧ TupO [.str (S x) u, .str (S y) v] o)
    (kq : Q (.bool (([x, y] : List (List Nat)).any fun z => z == k)) ⟨h, g, d, tk, os⟩) : wpAny (model prog w.w) A (compareOp .In (.str (S k) t) (.ref a)) Q E ⟨h, g, d, tk, os⟩ := by
  obtain ⟨o, ho, rfl⟩ := ho
  exact in_tuple_strs (s := ⟨h, g, d, tk, os⟩) ⟨_, ho, rfl, _, rfl⟩ (.cons _ _ (.cons _ _ .nil)) (by rw [show [S x, S y] = [x, y].map S from rfl, any_S]; exact kq)
theorem pattern_type (gw : G w h) : Shared.TypeIs ⟨h, g, d, tk, os⟩ (.ref 50) "re.Pattern" ∧ ∀ a, Value.ref 50 = .ref a → ∃ ob, h.get? a = some ob ∧ ob.dict = none := by
  obtain ⟨fs, hl, _⟩ := w.need.pat
  have ho := gw.K _ _ hl
  exact ⟨⟨_, ho, rfl⟩, fun a q => by cases q; exact ⟨_, ho, rfl⟩⟩
end
end Mine
namespace Mine
theorem Z.k71 {h₀ h : Heap} {L : Addr} {m : Str → Option Value} {n : List (Addr × (Obj → Prop))} (z : Z (B71 h₀) L m n h) : Keep71 h₀ h := fun b o hb e => z.keep b o ⟨hb, e⟩
theorem text_len {s : Sg} (h : s.Ok) : s.text.length ≤ 3 := by cases s <;> simp [Sg.text]
theorem flat_len (sgs : List Sg) (h : ∀ s ∈ sgs, s.Ok) : (flat sgs).length ≤ 3 * sgs.length := by
  induction sgs with
  | nil => simp [flat]
  | cons s r ih =>
    have h1 := ih fun s hs => h s (List.mem_cons_of_mem _ hs)
    have h2 := text_len (h s List.mem_cons_self)
    have e : flat (s :: r) = s.text ++ flat r := by simp [flat]
    rw [e, List.length_append, List.length_cons]; lia
theorem flat_split (sgs : List Sg) {j : Nat} (h : j < sgs.length) : flat sgs = flat (sgs.take j) ++ (sgs[j]).text ++ flat (sgs.drop (j + 1)) := by
  have e : sgs = sgs.take j ++ sgs[j] :: sgs.drop (j + 1) := by rw [← List.drop_eq_getElem_cons h, List.take_append_drop]
  have e2 : ∀ a b : List Sg, flat (a ++ b) = flat a ++ flat b := fun a b => by simp [flat]
  have e3 : ∀ (s : Sg) (r : List Sg), flat (s :: r) = s.text ++ flat r := fun s r => by simp [flat]
  calc flat sgs = flat (sgs.take j ++ sgs[j] :: sgs.drop (j + 1)) := by rw [← e]
    _ = _ := by rw [e2, e3, List.append_assoc]
/-- a turn of _translate -/
noncomputable abbrev NdS := Nat × List Value × Tok × Tok × Option Value × Option Value × Option Value
inductive NdJ (star : Addr) (sgs : List Sg) (n : Nat) (st : NdS) : Prop
  | mk (hj : st.1 ≤ sgs.length) (hn : n = sgs.length - st.1) (hp : PiecesV star st.2.1 (piecesOf (sgs.take st.1)))
noncomputable def ndV (pat : List Nat) (sgs : List Sg) (star a ad : Addr) (t t2 : Tok) (st : NdS) : List (Option Value) :=
  [some (.str (S pat) t), some (.ref star), some (.str (S [46]) t2), some (.ref a), some (.ref ad), some (.int ((flat (sgs.take st.1)).length : Nat) st.2.2.1), some (.int pat.length st.2.2.2.1), st.2.2.2.2.1, st.2.2.2.2.2.1, st.2.2.2.2.2.2]
noncomputable def ndL (a ad : Addr) (st : NdS) : Led := [(ad, BoundO "list.append" a), (a, LstO st.2.1), (71, TabP)]
theorem nd_next {star a ad L : Addr} {sgs : List Sg} {pat : List Nat} {t t2 tn ti : Tok} {j : Nat} {sg : Sg} {vs : List Value} {iv : Int} {cv jv sv : Option Value} {B : Addr → Obj → Prop} {names : List Str} {g : Array GenState} {d : Drawn} {os : OsState} {h : Heap} {tk : Nat}
    (hj : j < sgs.length) (hsg : sgs[j] = sg) (hi : iv = ((flat (sgs.take j)).length : Int) + sg.text.length) (hp : PiecesV star vs (addPiece (piecesOf (sgs.take j)) sg))
    (z : Z B L (fr names [some (.str (S pat) t), some (.ref star), some (.str (S [46]) t2), some (.ref a), some (.ref ad), some (.int iv ti), some (.int pat.length tn), cv, jv, sv]) [(ad, BoundO "list.append" a), (a, LstO vs), (71, TabP)] h) :
    PWh B L names d os (sgs.length - j) (NdJ star sgs) (ndV pat sgs star a ad t t2) (ndL a ad) (fun _ => g) ⟨h, g, d, tk, os⟩ := by
  have htake : sgs.take (j + 1) = sgs.take j ++ [sg] := hsg ▸ List.take_succ_eq_append_getElem hj
  have e : iv = ((flat (sgs.take (j + 1))).length : Nat) := by rw [htake, flat_snoc, List.length_append, hi]; rfl
  subst e
  exact ⟨(j + 1, vs, ti, tn, cv, jv, sv), h, tk, sgs.length - (j + 1), rfl, Nat.sub_lt_sub_left hj (Nat.lt_succ_self j), ⟨hj, rfl, by dsimp only; rw [htake, piecesOf_snoc]; exact hp⟩, z⟩
theorem head_of {sg : Sg} {x : Nat} {tl : List Nat} (hx : sg.text = x :: tl) (ok : sg.Ok) : (x = 42 → sg = .star) ∧ (x = 63 → sg = .ask) ∧ (x = 91 → ∃ c, sg = .br c) ∧ (x ≠ 42 → x ≠ 63 → x ≠ 91 → (x = 97 ∨ x = 98 ∨ x = 92) ∧ sg = .lit x) := by
  cases sg <;> cases hx
  · exact ⟨fun _ => rfl, fun q => absurd q (by decide), fun q => absurd q (by decide), fun q => absurd rfl q⟩
  · exact ⟨fun q => absurd q (by decide), fun _ => rfl, fun q => absurd q (by decide), fun _ q => absurd rfl q⟩
  · exact ⟨fun q => absurd q (by decide), fun q => absurd q (by decide), fun _ => ⟨_, rfl⟩, fun _ _ q => absurd rfl q⟩
  · rcases ok with rfl | rfl | rfl <;> exact ⟨fun q => absurd q (by decide), fun q => absurd q (by decide), fun q => absurd q (by decide), fun _ _ _ => ⟨by first | exact .inl rfl | exact .inr (.inl rfl) | exact .inr (.inr rfl), rfl⟩⟩
theorem sign_ne {x y : Nat} (h : x ≠ y) : ([x] == [y]) = false := by simpa using h
theorem br_ne {c y : Nat} (hc : c = 42 ∨ c = 63 ∨ c = 91) (hy : y ≠ 42 ∧ y ≠ 63 ∧ y ≠ 91) : ([c] == [y]) = false := by
  rcases hc with rfl | rfl | rfl
  · exact sign_ne hy.1.symm
  · exact sign_ne hy.2.1.symm
  · exact sign_ne hy.2.2.symm
theorem PiecesV.last_some {star : Addr} {vs : List Value} {ps : List (Option (List Nat))} (x : PiecesV star vs ps) (h : vs.isEmpty = false) : ∃ p, ps.getLast? = some p := by
  cases x with
  | nil => cases h
  | cons y r => exact ⟨_, List.getLast?_cons⟩
theorem star_new {star : Addr} {vs : List Value} {ps : List (Option (List Nat))} (x : PiecesV star vs ps) (h : (!!vs.isEmpty || !decide (ps.getLast? = some none)) = true) : addPiece ps .star = ps ++ [none] := by
  have : ps.getLast? ≠ some none := fun q => by
    rw [q] at h
    cases x with
    | nil => cases q
    | cons _ _ => cases h
  simp only [addPiece, if_neg this]
theorem star_old {ps : List (Option (List Nat))} {b : Bool} (h : (b || !decide (ps.getLast? = some none)) = false) : addPiece ps .star = ps := by
  have h2 := (Bool.or_eq_false_iff.mp h).2
  have : ps.getLast? = some none := by simpa using h2
  simp only [addPiece, if_pos this]
/-- a sign's text, its first sign apart -/
theorem text_head (s : Sg) : ∃ x tl, s.text = x :: tl := by cases s <;> exact ⟨_, _, rfl⟩
theorem len3 {pat pre suf : List Nat} {x : Nat} {tl : List Nat} (h : pat = pre ++ x :: tl ++ suf) : pre.length < pat.length := by rw [h]; simp only [List.length_append, List.length_cons]; lia
section
variable {w : WK} {A : Around} {E : Value → Shared → Prop} {h₀ : Heap} {g : Array GenState} {d : Drawn} {os : OsState}
variable {tk : Nat}
theorem translate1_call (gw : G w h₀) (gt : GT h₀) (tb : ∃ o, h₀.get? 71 = some o ∧ TabP o) (ag : AG 6 A) (sgs : List Sg) (hok : ∀ s ∈ sgs, s.Ok) (hlen : sgs.length ≤ 100) (star : Addr) (t t2 : Tok) {Q : Value → Shared → Prop}
    (hQ : ∀ a h' tk', Keep71 h₀ h' → (∃ o, h'.get? 71 = some o ∧ TabP o) → (∃ o vs, h'.get? a = some o ∧ h₀.get? a = none ∧ LstO vs o ∧ PiecesV star vs (piecesOf sgs)) → Q (.ref a) ⟨h', g, d, tk', os⟩) :
    wpAny (model PP w.w) A (call (.ref 76) [.str (S (flat sgs)) t, .ref star, .str (S [46]) t2]) Q E ⟨h₀, g, d, tk, os⟩ := by
  refine x_callK (a := 76) (ks := [Str.ofString "pat", Str.ofString "STAR", Str.ofString "QUESTION_MARK"]) (rest := [Str.ofString "res", Str.ofString "add", Str.ofString "i", Str.ofString "n", Str.ofString "c", Str.ofString "j", Str.ofString "stuff"]) (gl := [Str.ofString "len", Str.ofString "escape", Str.ofString "_twin_re_1"])
    ⟨w.need.f76.look, w.need.f76.code, rfl, rfl, rfl, rfl, by decide +kernel, by decide +kernel, by decide +kernel, by decide +kernel, rfl, rfl⟩ gw ag rfl rfl fun env L h₁ tk₁ e hf hcode ag' z => ?_
  have hL71 : (71 : Addr) ≠ L := by
    obtain ⟨o, ho, _⟩ := tb
    intro q; subst q; exact z.apart o ho
  replace z := z.claim (a := 71) (P := TabP) (B' := B71 h₀) (let ⟨o, ho, hp⟩ := tb; ⟨o, z.keep _ _ ho, hp⟩) (fun b o q => q.2) (fun o q => q.1 rfl) hL71 (by simp)
  obtain ⟨pat, hpat⟩ : ∃ p, p = flat sgs := ⟨_, rfl⟩
  have hpl : pat.length ≤ 300 := by rw [hpat]; have := flat_len sgs hok; lia
  rw [← hpat] at z
  refine y_cons ?_
  refine x_asg (B := B71 h₀) (g := g) (d := d) (os := os) e 3 rfl ?_
  refine x_list (g := g) (d := d) (os := os) ?_
  refine evs_nil ?_
  refine ⟨_, _, rfl, Nat.le_of_ble_eq_true rfl, fun a h ka hn ho => ?_⟩
  replace z := z.add ka hn ho.choose_spec.1 ho.choose_spec.2
  refine ⟨_, _, _, _, rfl, z, Nat.le_of_ble_eq_true rfl, fun h tk z₁ => ?_⟩
  clear z; rename Z _ _ _ _ _ => z
  refine y_cons ?_
  refine x_asg (B := B71 h₀) (g := g) (d := d) (os := os) e 4 rfl ?_
  refine x_attr ?_
  refine x_loc e z 3 rfl rfl ?_
  refine x_get_append (z.get 0 rfl) fun ad h tk kb hn ho => ?_
  replace z := z.add kb hn ho.choose_spec.1 ho.choose_spec.2
  refine ⟨_, _, _, _, rfl, z, Nat.le_of_ble_eq_true rfl, fun h tk z₁ => ?_⟩
  clear z; rename Z _ _ _ _ _ => z
  refine y_cons ?_
  refine x_asg2 (B := B71 h₀) (g := g) (d := d) (os := os) e ag'.hh 5 6 rfl rfl (by decide +kernel) (by rfl) ?_
  refine evs_cons ?_
  refine x_int fun ti _ => ?_
  refine evs_cons ?_
  refine x_bcall (id := "len") ?_
  refine x_glob e (gw.keep71 z.k71) 0 rfl (gv_len w) ?_
  refine ⟨rfl, ?_⟩
  refine evs_cons ?_
  refine x_loc e z 0 rfl rfl ?_
  refine evs_nil ?_
  refine x_len_str (le_big (Nat.le_trans hpl (by decide))) fun tn _ => ?_
  refine evs_nil ?_
  refine ⟨_, _, _, _, _, _, rfl, rfl, z, Nat.le_of_ble_eq_true rfl, Nat.le_of_ble_eq_true rfl, fun h tk z₁ => ?_⟩
  clear z; rename Z _ _ _ _ _ => z
  refine y_cons ?_
  refine wpAny_While ?_
  refine x_while (B := B71 h₀) (L := L) (names := [Str.ofString "pat", Str.ofString "STAR", Str.ofString "QUESTION_MARK"] ++ [Str.ofString "res", Str.ofString "add", Str.ofString "i", Str.ofString "n", Str.ofString "c", Str.ofString "j", Str.ofString "stuff"]) (NdJ star sgs) (ndV pat sgs star a ad t t2) (ndL a ad) (fun _ => g) sgs.length (0, [], ti, tn, none, none, none) ⟨Nat.zero_le _, rfl, .nil⟩ z ?_
  clear z
  intro n st h tk hJ z
  obtain ⟨j, vs, ti, tn, cv, jv, sv⟩ := st
  obtain ⟨hj, hn, hps⟩ := hJ
  dsimp only at hj hn hps
  subst hn
  have hvl : vs.length ≤ 100000 := by
    rw [hps.len]
    exact Nat.le_trans (piecesOf_len _) (Nat.le_trans (List.length_take_le' _ _) (Nat.le_trans hlen (by decide)))
  refine y_tcmp ?_
  refine x_loc e z 5 rfl rfl ?_
  refine x_loc e z 6 rfl rfl ?_
  refine x_lti ?_
  refine x_truthy ?_
  rcases Nat.lt_or_ge j sgs.length with hjl | hjl
  · have hsp : pat = flat (sgs.take j) ++ (sgs[j]).text ++ flat (sgs.drop (j + 1)) := by rw [hpat]; exact flat_split sgs hjl
    have hokj : (sgs[j]).Ok := hok _ (List.getElem_mem hjl)
    have nxt : ∀ {sg : Sg} {vs : List Value} {iv : Int} {cv jv sv : Option Value} {ti : Tok} {h : Heap} {tk : Nat}, sgs[j] = sg → iv = ((flat (sgs.take j)).length : Int) + sg.text.length → PiecesV star vs (addPiece (piecesOf (sgs.take j)) sg) → _ :=
      fun {sg vs iv cv jv sv ti h tk} a1 a2 a3 => nd_next (tn := tn) (t := t) (t2 := t2) (pat := pat) (a := a) (ad := ad) (L := L) (B := B71 h₀) (g := g) (d := d) (os := os) (ti := ti) (cv := cv) (jv := jv) (sv := sv) (h := h) (tk := tk)
        (names := [Str.ofString "pat", Str.ofString "STAR", Str.ofString "QUESTION_MARK"] ++ [Str.ofString "res", Str.ofString "add", Str.ofString "i", Str.ofString "n", Str.ofString "c", Str.ofString "j", Str.ofString "stuff"]) hjl a1 a2 a3
    obtain ⟨x, tl, hx⟩ := text_head sgs[j]
    have hl3 : pat.length = (flat (sgs.take j)).length + (tl.length + 1) + (flat (sgs.drop (j + 1))).length := by rw [hsp, hx]; simp only [List.length_append, List.length_cons]
    generalize hsuf : flat (sgs.drop (j + 1)) = suf at hsp hl3
    generalize hpre : flat (sgs.take j) = pre at hsp nxt hl3
    have z₁ : Z (B71 h₀) L (fr ([Str.ofString "pat", Str.ofString "STAR", Str.ofString "QUESTION_MARK"] ++ [Str.ofString "res", Str.ofString "add", Str.ofString "i", Str.ofString "n", Str.ofString "c", Str.ofString "j", Str.ofString "stuff"])
      [some (.str (S pat) t), some (.ref star), some (.str (S [46]) t2), some (.ref a), some (.ref ad), some (.int pre.length ti), some (.int pat.length tn), cv, jv, sv]) [(ad, BoundO "list.append" a), (a, LstO vs), (71, TabP)] h := hpre ▸ z
    clear z hsuf; rename Z _ _ _ _ _ => z
    rw [hx] at hsp
    refine ite_y (decide_eq_true (Int.ofNat_lt.mpr (len3 hsp))) ?_
    clear hpre
    generalize hsg : sgs[j] = sg at hx hokj nxt
    -- c, i
    refine y_cons ?_
    refine x_asg (B := B71 h₀) (g := g) (d := d) (os := os) e 7 rfl ?_
    refine y_sub ?_
    refine x_loc e z 0 rfl rfl ?_
    refine x_loc e z 5 rfl rfl ?_
    refine x_sign (le_big (Nat.le_trans hpl (by decide))) (sign_at (x := x) (pre := pre) (suf := tl ++ suf) (by rw [hsp]; simp) rfl) (by with_unfolding_all rfl) fun tC _ => ?_
    refine ⟨_, _, _, _, rfl, z, Nat.le_of_ble_eq_true rfl, fun h tk z₁ => ?_⟩
    clear z; rename Z _ _ _ _ _ => z
    refine y_cons ?_
    refine x_asg (B := B71 h₀) (g := g) (d := d) (os := os) e 5 rfl ?_
    refine y_bin ?_
    refine x_loc e z 5 rfl rfl ?_
    refine x_int fun _ _ => ?_
    refine x_add fun tI _ => ?_
    refine ⟨_, _, _, _, rfl, z, Nat.le_of_ble_eq_true rfl, fun h tk z₁ => ?_⟩
    clear z; rename Z _ _ _ _ _ => z
    have z₁ : Z (B71 h₀) L (fr ([Str.ofString "pat", Str.ofString "STAR", Str.ofString "QUESTION_MARK"] ++ [Str.ofString "res", Str.ofString "add", Str.ofString "i", Str.ofString "n", Str.ofString "c", Str.ofString "j", Str.ofString "stuff"])
      [some (.str (S pat) t), some (.ref star), some (.str (S [46]) t2), some (.ref a), some (.ref ad), some (.int (pre.length + 1) tI), some (.int pat.length tn), some (.str (S [x]) tC), jv, sv]) [(ad, BoundO "list.append" a), (a, LstO vs), (71, TabP)] h := z
    clear z; rename Z _ _ _ _ _ => z
    refine y_cons ?_
    refine y_if ?_
    refine y_tcmp ?_
    refine x_loc e z 7 rfl rfl ?_
    refine x_str [42] (by decide +kernel) fun _ _ => ?_
    refine x_eqs ?_
    refine x_truthy ?_
    by_cases hx1 : x = 42
    · subst hx1
      obtain rfl : sg = .star := (head_of hx hokj).1 rfl
      refine ite_t ?_
      refine y_cons ?_
      refine y_if ?_
      refine y_or2 (a := !!vs.isEmpty) (b := !decide ((piecesOf (sgs.take j)).getLast? = some none)) (g := g) (fun Q1 tk q => ?_) (fun hne h1 k1 Q1 tk q => ?_) fun h tk kp => ?_
      · refine wpAny_isTrue_Not ?_
        refine y_val ?_
        refine x_loc e z 3 rfl rfl ?_
        exact x_truthy_list (z.get 1 rfl) hvl fun _ => q _ _ (Keep.refl _)
      · obtain ⟨p, hp⟩ := hps.last_some (by simpa using hne)
        obtain ⟨v, hv, hpv⟩ := hps.last hp
        replace z := z.keepAll k1
        refine y_tcmp ?_
        refine y_sub ?_
        refine x_loc e z 3 rfl rfl ?_
        refine y_un ?_
        refine x_int fun _ _ => ?_
        refine x_neg1 fun _ _ => ?_
        refine x_item_last (z.get 1 rfl) hv hvl (by with_unfolding_all rfl) ?_
        refine x_loc e z 1 rfl rfl ?_
        rw [hp] at q
        cases p with
        | none =>
          obtain rfl : v = .ref star := hpv
          exact x_isnot_self (x_truthy (q _ _ (Keep.refl _)))
        | some l =>
          obtain ⟨tl, rfl⟩ := hpv
          exact x_isnot_str (x_truthy (q _ _ (Keep.refl _)))
      replace z := z.keepAll kp
      refine ite_b (fun hb => ?_) fun hb => ?_
      · refine y_cons ?_
        refine x_addS e z 4 rfl rfl ?_
        refine x_loc e z 1 rfl rfl ?_
        refine ⟨_, _, _, _, _, _, _, 0, 1, _, _, rfl, z, rfl, rfl, hvl, fun h z => ?_⟩
        refine wpAny_execs_nil ?_
        refine wpAny_execs_nil ?_
        refine wpAny_execs_nil ?_
        exact nxt rfl rfl (by rw [star_new hps hb]; exact hps.snoc rfl) z
      · refine wpAny_execs_nil ?_
        refine wpAny_execs_nil ?_
        refine wpAny_execs_nil ?_
        exact nxt rfl rfl (by rw [star_old hb]; exact hps) z
    refine ite_n (sign_ne hx1) ?_
    refine y_cons ?_
    refine y_if ?_
    refine y_tcmp ?_
    refine x_loc e z 7 rfl rfl ?_
    refine x_str [63] (by decide +kernel) fun _ _ => ?_
    refine x_eqs ?_
    refine x_truthy ?_
    by_cases hx2 : x = 63
    · subst hx2
      obtain rfl : sg = .ask := (head_of hx hokj).2.1 rfl
      refine ite_t ?_
      refine y_cons ?_
      refine x_addS e z 4 rfl rfl ?_
      refine x_loc e z 2 rfl rfl ?_
      refine ⟨_, _, _, _, _, _, _, 0, 1, _, _, rfl, z, rfl, rfl, hvl, fun h z => ?_⟩
      refine wpAny_execs_nil ?_
      refine wpAny_execs_nil ?_
      refine wpAny_execs_nil ?_
      exact nxt rfl rfl (hps.snoc ⟨t2, rfl⟩) z
    refine ite_n (sign_ne hx2) ?_
    refine y_cons ?_
    refine y_if ?_
    refine y_tcmp ?_
    refine x_loc e z 7 rfl rfl ?_
    refine x_str [91] (by decide +kernel) fun _ _ => ?_
    refine x_eqs ?_
    refine x_truthy ?_
    by_cases hx3 : x = 91
    · subst hx3
      obtain ⟨c, rfl⟩ : ∃ c, sg = .br c := (head_of hx hokj).2.2.1 rfl
      obtain rfl : [c, 93] = tl := by simpa [Sg.text] using hx
      have hc : c = 42 ∨ c = 63 ∨ c = 91 := hokj
      refine ite_t ?_
      have hn0 : ((pre.length : Int) + 1 : Int) < (pat.length : Int) := by rw [hl3]; simp only [List.length_cons, List.length_nil]; lia
      have s0 : (seqIndex? ((pre.length : Int) + 1) pat.length).bind (pat[·]?) = some c := sign_at (x := c) (pre := pre ++ [91]) (suf := [93] ++ suf) (by rw [hsp]; simp) (by simp)
      have hpl' : pat.length ≤ 100000 := le_big (Nat.le_trans hpl (by decide))
      -- j
      refine y_cons ?_
      refine x_asg (B := B71 h₀) (g := g) (d := d) (os := os) e 8 rfl ?_
      refine x_loc e z 5 rfl rfl ?_
      refine ⟨_, _, _, _, rfl, z, Nat.le_of_ble_eq_true rfl, fun h tk z₁ => ?_⟩
      clear z; rename Z _ _ _ _ _ => z
      refine y_cons ?_
      refine y_if ?_
      refine wpAny_isTrue_BoolOp ?_
      refine y_and ?_
      refine y_tcmp ?_
      refine x_loc e z 8 rfl rfl ?_
      refine x_loc e z 6 rfl rfl ?_
      refine x_lti ?_
      refine x_truthy ?_
      refine ite_y (decide_eq_true hn0) ?_
      refine y_and ?_
      refine y_tcmp ?_
      refine y_sub ?_
      refine x_loc e z 0 rfl rfl ?_
      refine x_loc e z 8 rfl rfl ?_
      refine x_sign hpl' s0 (by with_unfolding_all rfl) fun _ _ => ?_
      refine x_str [33] (by decide +kernel) fun _ _ => ?_
      refine x_eqs ?_
      refine x_truthy ?_
      refine ite_n (br_ne hc (by decide)) ?_
      refine ite_f ?_
      refine wpAny_execs_nil ?_
      refine y_cons ?_
      refine y_if ?_
      refine wpAny_isTrue_BoolOp ?_
      refine y_and ?_
      refine y_tcmp ?_
      refine x_loc e z 8 rfl rfl ?_
      refine x_loc e z 6 rfl rfl ?_
      refine x_lti ?_
      refine x_truthy ?_
      refine ite_y (decide_eq_true hn0) ?_
      refine y_and ?_
      refine y_tcmp ?_
      refine y_sub ?_
      refine x_loc e z 0 rfl rfl ?_
      refine x_loc e z 8 rfl rfl ?_
      refine x_sign hpl' s0 (by with_unfolding_all rfl) fun _ _ => ?_
      refine x_str [93] (by decide +kernel) fun _ _ => ?_
      refine x_eqs ?_
      refine x_truthy ?_
      refine ite_n (br_ne hc (by decide)) ?_
      refine ite_f ?_
      refine wpAny_execs_nil ?_
      refine y_cons ?_
      refine wpAny_While ?_
      refine x_while (B := B71 h₀) (L := L) (names := [Str.ofString "pat", Str.ofString "STAR", Str.ofString "QUESTION_MARK"] ++ [Str.ofString "res", Str.ofString "add", Str.ofString "i", Str.ofString "n", Str.ofString "c", Str.ofString "j", Str.ofString "stuff"]) (σ := Bool × Tok)
        (fun n st => n = (!st.1).toNat)
        (fun st => [some (.str (S pat) t), some (.ref star), some (.str (S [46]) t2), some (.ref a), some (.ref ad), some (.int ((pre.length : Int) + 1) tI), some (.int pat.length tn), some (.str (S [91]) tC), some (.int ((pre.length : Int) + 1 + (st.1.toNat : Int)) st.2), sv])
        (fun _ => [(ad, BoundO "list.append" a), (a, LstO vs), (71, TabP)]) (fun _ => g) 1 (false, tI) rfl (by rw [show ((pre.length : Int) + 1 + ((((false, tI) : Bool × Tok).1.toNat : Nat) : Int)) = (pre.length : Int) + 1 from Int.add_zero _]; exact z) ?_
      clear z
      intro n st h tk hn z
      obtain ⟨q, tq⟩ := st
      dsimp only at hn z
      have sq : (seqIndex? ((pre.length : Int) + 1 + (q.toNat : Int)) pat.length).bind (pat[·]?) = some (if q then 93 else c) := by
        cases q with
        | false => rw [show ((pre.length : Int) + 1 + ((false.toNat : Nat) : Int)) = (pre.length : Int) + 1 from Int.add_zero _]; exact s0
        | true => exact sign_at (x := 93) (pre := pre ++ [91, c]) (suf := suf) (by rw [hsp]; simp) (by simp only [List.length_append, List.length_cons, List.length_nil, Bool.toNat_true]; lia)
      have hnq : ((pre.length : Int) + 1 + (q.toNat : Int)) < (pat.length : Int) := by
        have : q.toNat ≤ 1 := Bool.toNat_le q
        rw [hl3]; simp only [List.length_cons, List.length_nil]; lia
      refine wpAny_isTrue_BoolOp ?_
      refine y_and ?_
      refine y_tcmp ?_
      refine x_loc e z 8 rfl rfl ?_
      refine x_loc e z 6 rfl rfl ?_
      refine x_lti ?_
      refine x_truthy ?_
      refine ite_y (decide_eq_true hnq) ?_
      refine y_and ?_
      refine y_tcmp ?_
      refine y_sub ?_
      refine x_loc e z 0 rfl rfl ?_
      refine x_loc e z 8 rfl rfl ?_
      refine x_sign hpl' sq (by with_unfolding_all rfl) fun _ _ => ?_
      refine x_str [93] (by decide +kernel) fun _ _ => ?_
      refine x_nes ?_
      refine x_truthy ?_
      cases q with
      | false =>
        refine ite_y (bne_iff_ne.mpr (by rcases hc with rfl | rfl | rfl <;> decide)) ?_
        refine wpAny_allTrue_And_nil ?_
        refine ite_t ?_
        refine y_cons ?_
        refine x_asg (B := B71 h₀) (g := g) (d := d) (os := os) e 8 rfl ?_
        refine y_bin ?_
        refine x_loc e z 8 rfl rfl ?_
        refine x_int fun _ _ => ?_
        refine x_add fun tJ _ => ?_
        refine ⟨_, _, _, _, rfl, z, Nat.le_of_ble_eq_true rfl, fun h tk z₁ => ?_⟩
        refine wpAny_execs_nil ?_
        exact ⟨(true, tJ), h, _, 0, rfl, hn ▸ Nat.one_pos, rfl, z₁⟩
      | true =>
        refine ite_f ?_
        refine ite_f ?_
        refine wpAny_execs_nil ?_
        refine y_cons ?_
        refine y_if ?_
        refine y_tcmp ?_
        refine x_loc e z 8 rfl rfl ?_
        refine x_loc e z 6 rfl rfl ?_
        refine x_gei ?_
        refine x_truthy ?_
        refine ite_n (decide_eq_false (Int.not_le.mpr hnq)) ?_
        refine y_cons ?_
        refine x_asg (B := B71 h₀) (g := g) (d := d) (os := os) e 9 rfl ?_
        refine x_slice_ss (g := g) (d := d) (os := os) ?_
        refine x_loc e z 0 rfl rfl ?_
        refine x_loc e z 5 rfl rfl ?_
        refine x_loc e z 8 rfl rfl ?_
        refine ⟨_, _, _, _, _, _, _, _, rfl, rfl, rfl, rfl, hpl', fun h tk tS kp => ?_⟩
        replace z := z.keepAll kp
        have hcut : cut pat (some ((pre.length : Int) + 1)) (some ((pre.length : Int) + 1 + ((true.toNat : Nat) : Int))) = [c] := cut_mid (pre := pre ++ [91]) (suf := [93] ++ suf) (by rw [hsp]; simp) (by simp) (by simp)
        rw [hcut]
        refine ⟨_, _, _, _, rfl, z, Nat.le_of_ble_eq_true rfl, fun h tk z₁ => ?_⟩
        clear z; rename Z _ _ _ _ _ => z
        refine y_cons ?_
        refine y_if ?_
        refine y_tcmp ?_
        refine x_str [45] (by decide +kernel) fun _ _ => ?_
        refine x_loc e z 9 rfl rfl ?_
        refine x_notin_str ?_
        refine x_truthy ?_
        refine ite_y (by rcases hc with rfl | rfl | rfl <;> decide +kernel) ?_
        refine y_cons ?_
        refine x_asg (B := B71 h₀) (g := g) (d := d) (os := os) e 9 rfl ?_
        refine x_meth F.plainAttrs_str F.slot_str_replace F.type_str_replace ?_
        refine x_loc e z 9 rfl rfl ?_
        refine ⟨⟨typeIs_str _ _ _, fun _ q => by cases q⟩, ?_⟩
        refine evs_cons ?_
        refine x_str [92] (by decide +kernel) fun _ _ => ?_
        refine evs_cons ?_
        refine x_str [92, 92] (by decide +kernel) fun _ _ => ?_
        refine evs_nil ?_
        refine x_replace1 hc ?_
        refine ⟨_, _, _, _, rfl, z, Nat.le_of_ble_eq_true rfl, fun h tk z₁ => ?_⟩
        clear z; rename Z _ _ _ _ _ => z
        refine wpAny_execs_nil ?_
        refine y_cons ?_
        refine x_asg (B := B71 h₀) (g := g) (d := d) (os := os) e 9 rfl ?_
        refine x_meth plainAttrs_pattern slot_sub type_sub ?_
        refine x_glob e (gw.keep71 z.k71) 2 rfl (gv_twin_re_1 w) ?_
        refine ⟨pattern_type (gw.keep71 z.k71), ?_⟩
        refine evs_cons ?_
        refine x_lambda z 2 rfl (gw.keep71 z.k71) (gt.keep71 tb z.k71) hcode e.eg (fun fl h tk z₁ hfl => ?_)
        clear z; rename Z _ _ _ _ _ => z
        refine evs_cons ?_
        refine x_loc e z 9 rfl rfl ?_
        refine evs_nil ?_
        refine x_sub1 (gw.keep71 z.k71) (ag'.le (by decide)) hfl hc fun h tk tsub kp => ?_
        replace z := z.keepAll kp
        refine ⟨_, _, _, _, rfl, z, Nat.le_of_ble_eq_true rfl, fun h tk z₁ => ?_⟩
        clear z; rename Z _ _ _ _ _ => z
        refine y_cons ?_
        refine x_asg (B := B71 h₀) (g := g) (d := d) (os := os) e 5 rfl ?_
        refine y_bin ?_
        refine x_loc e z 8 rfl rfl ?_
        refine x_int fun _ _ => ?_
        refine x_add fun tI2 _ => ?_
        refine ⟨_, _, _, _, rfl, z, Nat.le_of_ble_eq_true rfl, fun h tk z₁ => ?_⟩
        clear z; rename Z _ _ _ _ _ => z
        have z₁ : Z (B71 h₀) L (fr ([Str.ofString "pat", Str.ofString "STAR", Str.ofString "QUESTION_MARK"] ++ [Str.ofString "res", Str.ofString "add", Str.ofString "i", Str.ofString "n", Str.ofString "c", Str.ofString "j", Str.ofString "stuff"])
          [some (.str (S pat) t), some (.ref star), some (.str (S [46]) t2), some (.ref a), some (.ref ad), some (.int ((pre.length : Int) + 1 + ((true.toNat : Nat) : Int) + 1) tI2), some (.int pat.length tn), some (.str (S [91]) tC), some (.int ((pre.length : Int) + 1 + ((true.toNat : Nat) : Int)) tq), some (.str (S [c]) tsub)]) [(ad, BoundO "list.append" a), (a, LstO vs), (71, TabP)] h := z
        clear z; rename Z _ _ _ _ _ => z
        refine y_cons ?_
        refine y_if ?_
        refine wpAny_isTrue_Not ?_
        refine y_val ?_
        refine x_loc e z 9 rfl rfl ?_
        refine x_truthy_str fun _ => ?_
        refine ite_f ?_
        refine y_cons ?_
        refine y_if ?_
        refine y_tcmp ?_
        refine x_loc e z 9 rfl rfl ?_
        refine x_str [33] (by decide +kernel) fun _ _ => ?_
        refine x_eqs ?_
        refine x_truthy ?_
        refine ite_n (br_ne hc (by decide)) ?_
        refine y_cons ?_
        refine y_if ?_
        refine y_tcmp ?_
        refine y_sub ?_
        refine x_loc e z 9 rfl rfl ?_
        refine x_int fun _ _ => ?_
        refine x_sign (show [c].length ≤ 100000 from Nat.le_of_ble_eq_true rfl) (at_sign (l := [c]) (k := 0) (by decide) (show (0 : Int) < 1 from by decide)) (by with_unfolding_all rfl) fun _ _ => ?_
        refine x_str [33] (by decide +kernel) fun _ _ => ?_
        refine x_eqs ?_
        refine x_truthy ?_
        refine ite_n (br_ne hc (by decide)) ?_
        refine y_cons ?_
        refine y_if ?_
        refine y_tcmp ?_
        refine y_sub ?_
        refine x_loc e z 9 rfl rfl ?_
        refine x_int fun _ _ => ?_
        refine x_sign (show [c].length ≤ 100000 from Nat.le_of_ble_eq_true rfl) (at_sign (l := [c]) (k := 0) (by decide) (show (0 : Int) < 1 from by decide)) (by with_unfolding_all rfl) fun _ _ => ?_
        refine x_tuple (g := g) (d := d) (os := os) ?_
        refine evs_cons ?_
        refine x_str [94] (by decide +kernel) fun _ _ => ?_
        refine evs_cons ?_
        refine x_str [91] (by decide +kernel) fun _ _ => ?_
        refine evs_nil ?_
        refine ⟨_, _, rfl, Nat.le_of_ble_eq_true rfl, fun tu h ka hn ho => ?_⟩
        replace z := z.keepAll ka
        refine x_in_tup2 ho ?_
        refine x_truthy ?_
        clear ho hn ka
        rcases hc with rfl | rfl | rfl
        · refine ite_f ?_
          refine wpAny_execs_nil ?_
          refine wpAny_execs_nil ?_
          refine y_cons ?_
          refine x_addS e z 4 rfl rfl ?_
          refine x_fstr3 [91] [93] (by decide +kernel) (by decide +kernel) (by decide) fun _ => ?_
          refine x_loc e z 9 rfl rfl ?_
          refine ⟨_, _, _, _, rfl, rfl, by decide, fun tf _ => ?_⟩
          refine ⟨_, _, _, _, _, _, _, 0, 1, _, _, rfl, z, rfl, rfl, hvl, fun h z => ?_⟩
          refine wpAny_execs_nil ?_
          refine wpAny_execs_nil ?_
          refine wpAny_execs_nil ?_
          refine wpAny_execs_nil ?_
          refine wpAny_execs_nil ?_
          refine wpAny_execs_nil ?_
          refine wpAny_execs_nil ?_
          exact nxt rfl (by simp only [Sg.text, List.length_cons, List.length_nil, Bool.toNat_true]; lia) (hps.snoc ⟨tf, rfl⟩) z
        · refine ite_f ?_
          refine wpAny_execs_nil ?_
          refine wpAny_execs_nil ?_
          refine y_cons ?_
          refine x_addS e z 4 rfl rfl ?_
          refine x_fstr3 [91] [93] (by decide +kernel) (by decide +kernel) (by decide) fun _ => ?_
          refine x_loc e z 9 rfl rfl ?_
          refine ⟨_, _, _, _, rfl, rfl, by decide, fun tf _ => ?_⟩
          refine ⟨_, _, _, _, _, _, _, 0, 1, _, _, rfl, z, rfl, rfl, hvl, fun h z => ?_⟩
          refine wpAny_execs_nil ?_
          refine wpAny_execs_nil ?_
          refine wpAny_execs_nil ?_
          refine wpAny_execs_nil ?_
          refine wpAny_execs_nil ?_
          refine wpAny_execs_nil ?_
          refine wpAny_execs_nil ?_
          exact nxt rfl (by simp only [Sg.text, List.length_cons, List.length_nil, Bool.toNat_true]; lia) (hps.snoc ⟨tf, rfl⟩) z
        · refine ite_t ?_
          refine y_cons ?_
          refine x_asg (B := B71 h₀) (g := g) (d := d) (os := os) e 9 rfl ?_
          refine y_bin ?_
          refine x_str [92] (by decide +kernel) fun _ _ => ?_
          refine x_loc e z 9 rfl rfl ?_
          refine x_cat (by decide) fun tE _ => ?_
          refine ⟨_, _, _, _, rfl, z, Nat.le_of_ble_eq_true rfl, fun h tk z₁ => ?_⟩
          clear z; rename Z _ _ _ _ _ => z
          refine wpAny_execs_nil ?_
          refine wpAny_execs_nil ?_
          refine y_cons ?_
          refine x_addS e z 4 rfl rfl ?_
          refine x_fstr3 [91] [93] (by decide +kernel) (by decide +kernel) (by decide) fun _ => ?_
          refine x_loc e z 9 rfl rfl ?_
          refine ⟨_, _, _, _, rfl, rfl, by decide, fun tf _ => ?_⟩
          refine ⟨_, _, _, _, _, _, _, 0, 1, _, _, rfl, z, rfl, rfl, hvl, fun h z => ?_⟩
          refine wpAny_execs_nil ?_
          refine wpAny_execs_nil ?_
          refine wpAny_execs_nil ?_
          refine wpAny_execs_nil ?_
          refine wpAny_execs_nil ?_
          refine wpAny_execs_nil ?_
          refine wpAny_execs_nil ?_
          exact nxt rfl (by simp only [Sg.text, List.length_cons, List.length_nil, Bool.toNat_true]; lia) (hps.snoc ⟨tf, rfl⟩) z
    refine ite_n (sign_ne hx3) ?_
    obtain ⟨hc, rfl⟩ : (x = 97 ∨ x = 98 ∨ x = 92) ∧ sg = .lit x := (head_of hx hokj).2.2.2 hx1 hx2 hx3
    refine y_cons ?_
    refine x_addS e z 4 rfl rfl ?_
    refine x_dcall (a := 69) ?_
    refine x_glob e (gw.keep71 z.k71) 1 rfl (gv_escape w) ?_
    refine ⟨rfl, ?_⟩
    refine evs_cons ?_
    refine x_loc e z 7 rfl rfl ?_
    refine evs_nil ?_
    refine ⟨fn_at (gw.keep71 z.k71) w.need.f69, ?_⟩
    refine escape_call (gw.keep71 z.k71) (ag'.le (by decide)) x hc _ fun te h tk kp => ?_
    replace z := z.keepAll kp
    refine ⟨_, _, _, _, _, _, _, 0, 1, _, _, rfl, z, rfl, rfl, hvl, fun h z => ?_⟩
    refine wpAny_execs_nil ?_
    refine wpAny_execs_nil ?_
    refine wpAny_execs_nil ?_
    refine wpAny_execs_nil ?_
    exact nxt rfl rfl (hps.snoc ⟨te, rfl⟩) z
  · have hje : j = sgs.length := Nat.le_antisymm hj hjl
    subst hje
    rw [List.take_length] at hps
    refine ite_n (decide_eq_false (by rw [List.take_length, ← hpat]; exact Int.lt_irrefl _)) ?_
    refine wpAny_execs_nil ?_
    refine y_cons ?_
    refine wpAny_Assert_holds ?_
    refine y_tcmp ?_
    refine x_loc e z 5 rfl rfl ?_
    refine x_loc e z 6 rfl rfl ?_
    refine x_eqi ?_
    refine x_truthy ?_
    refine ⟨by simp [← hpat], ?_⟩
    refine y_cons ?_
    refine y_ret ?_
    refine x_loc e z 3 rfl rfl ?_
    obtain ⟨o, ho, hl⟩ := z.get 1 rfl
    refine hQ _ _ _ z.k71 (z.get 2 rfl) ⟨o, vs, ho, ?_, hl, hps⟩
    cases e : h₀.get? a with
    | none => rfl
    | some o' =>
      by_cases ha : a = 71
      · subst ha
        have nd := z.nd
        simp [ndL] at nd
      · exact absurd ⟨ha, e⟩ ((z.off (a, LstO vs) (List.mem_of_getElem? (i := 1) rfl)).2 o')
end
end Mine
set_option maxHeartbeats 1000000
namespace Mine
section
variable {prog : Program} {w : WK} {A : Around} {E : Value → Shared → Prop} {env : Env} {g : Array GenState} {d : Drawn} {os : OsState} {B : Addr → Obj → Prop} {L : Addr} {names gl : List Str}
variable {h : Heap} {tk : Nat} {vals : List (Option Value)} {n : List (Addr × (Obj → Prop))}
/-- x += k, an int by a written int -/
theorem x_augint {x : Str} {px pos p : Pos} {i k : Int} {t : Tok} {kk : Nat} {Q : Flow → Shared → Prop} (e : EnvL env L names gl) (z : Z B L (fr names vals) n h) (ix : Nat) (hx : names[ix]? = some x) (hv : vals[ix]? = some (some (.int i t)))
    (q : ∀ t' h' tk', Z B L (fr names (vals.set ix (some (.int (i + k) t')))) n h' → Q .next ⟨h', g, d, tk', os⟩) :
    wpAny (model prog w.w) A (exec (.AugAssign (.Name x px) .Add (.Constant (.int k) kk p) pos) env) Q E ⟨h, g, d, tk, os⟩ := by
  have hi : ix < vals.length := by
    rcases Nat.lt_or_ge ix vals.length with q | q
    · exact q
    · rw [List.getElem?_eq_none q] at hv; cases hv
  refine wpAny_AugAssign_Name (x_locn e z ix hx hv (x_int fun u tk₂ => ?_))
  refine iadd_int ?_
  exact x_sto e z ix hx hi fun h' tk' z' _ => q _ h' tk' z'
end
/-- from a star on -/
noncomputable def joinGo : Nat → List (Option (List Nat)) → List Nat
  | 0, _ => []
  | _ + 1, [] => []
  | f + 1, _ :: rest => if rest = [] then [46, 42]
    else if rest.dropWhile Option.isSome = [] then [46, 42] ++ ((rest.takeWhile Option.isSome).map (·.getD [])).flatten
    else [40, 63, 62, 46, 42, 63] ++ ((rest.takeWhile Option.isSome).map (·.getD [])).flatten ++ [41] ++ joinGo f (rest.dropWhile Option.isSome)
noncomputable def joinP (ps : List (Option (List Nat))) : List Nat :=
  [40, 63, 115, 58] ++ (((ps.takeWhile Option.isSome).map (·.getD [])).flatten ++ joinGo ps.length (ps.dropWhile Option.isSome)) ++ [41, 92, 90]
end Mine
set_option maxHeartbeats 4000000
namespace Mine
theorem take_while_eq {l : List (Option (List Nat))} {q : Nat} (h : ∀ p ∈ l.take q, p.isSome = true) (hx : l.length ≤ q ∨ l[q]? = some none) (hq : q ≤ l.length) : l.takeWhile Option.isSome = l.take q ∧ l.dropWhile Option.isSome = l.drop q := by
  induction l generalizing q with
  | nil => simp
  | cons p l ih =>
    cases q with
    | zero =>
      rcases hx with q | q
      · simp at q
      · simp at q; subst q; simp
    | succ q =>
      have hp := h p (by simp)
      have := ih (q := q) (fun x hx => h x (by simp [hx])) (hx.elim (fun q => .inl (by simpa using q)) fun q => .inr (by simpa using q)) (by simpa using hq)
      simp [List.takeWhile_cons, List.dropWhile_cons, hp, this.1, this.2]
theorem flat4 (l : List (Option (List Nat))) (h : ∀ p ∈ l, (p.getD []).length ≤ 4) : ((l.map (·.getD [])).flatten).length ≤ 4 * l.length := by
  induction l with
  | nil => simp
  | cons p l ih =>
    have h1 := ih fun x hx => h x (List.mem_cons_of_mem _ hx)
    have h2 := h p List.mem_cons_self
    simp only [List.map_cons, List.flatten_cons, List.length_append, List.length_cons]; lia
theorem joinGo_nil (f : Nat) : joinGo f [] = [] := by cases f <;> rfl
theorem jg_last {fu q : Nat} {rest : List (Option (List Nat))} (hne : rest ≠ []) (hs : ∀ p ∈ rest.take q, p.isSome = true) (hq : q = rest.length) : joinGo (fu + 1) (none :: rest) = [46, 42] ++ ((rest.take q).map (·.getD [])).flatten := by
  obtain ⟨htw, hdw⟩ := take_while_eq hs (.inl (Nat.le_of_eq hq.symm)) (Nat.le_of_eq hq)
  show (if rest = [] then _ else _) = _
  rw [if_neg hne, hdw, if_pos (List.drop_of_length_le (Nat.le_of_eq hq.symm)), htw]
theorem jg_more {fu q : Nat} {rest : List (Option (List Nat))} (hs : ∀ p ∈ rest.take q, p.isSome = true) (hq : q < rest.length) (hx : rest[q]? = some none) :
    joinGo (fu + 1) (none :: rest) = [40, 63, 62, 46, 42, 63] ++ ((rest.take q).map (·.getD [])).flatten ++ [41] ++ joinGo fu (rest.drop q) := by
  obtain ⟨htw, hdw⟩ := take_while_eq hs (.inr hx) (Nat.le_of_lt hq)
  have hne : rest ≠ [] := fun e => by rw [e] at hq; cases hq
  have hd : rest.drop q ≠ [] := fun e => Nat.lt_irrefl _ (Nat.lt_of_lt_of_le hq (List.drop_eq_nil_iff.mp e))
  show (if rest = [] then _ else _) = _
  rw [if_neg hne, hdw, if_neg hd, htw]
theorem flat_take {l : List (Option (List Nat))} (h : ∀ p ∈ l, (p.getD []).length ≤ 4) (q : Nat) : (((l.take q).map (·.getD [])).flatten).length ≤ 4 * q := by
  have := flat4 (l.take q) fun p hp => h p (List.mem_of_mem_take hp)
  exact Nat.le_trans this (Nat.mul_le_mul_left 4 (List.length_take_le _ _))
/-- does a piece with a text stand at k -/
noncomputable def runs (ps : List (Option (List Nat))) (k : Nat) : Bool := (ps[k]?.getD none).isSome
theorem runs_end {ps : List (Option (List Nat))} {k : Nat} (h : (decide ((k : Int) < (ps.length : Int)) && runs ps k) = false) : ps.length ≤ k ∨ ps[k]? = some none := by
  rcases Nat.lt_or_ge k ps.length with q | q
  · refine .inr ?_
    rw [decide_eq_true (Int.ofNat_lt.mpr q), Bool.true_and, runs, List.getElem?_eq_getElem q, Option.getD_some] at h
    rw [List.getElem?_eq_getElem q]
    cases e : ps[k] with
    | none => rfl
    | some l => rw [e] at h; cases h
  · exact .inl q
theorem runs_on {ps : List (Option (List Nat))} {k : Nat} (h : (decide ((k : Int) < (ps.length : Int)) && runs ps k) = true) : ∃ l, ps[k]? = some (some l) := by
  have h1 := Int.ofNat_lt.mp (of_decide_eq_true (and_l h))
  have h2 := and_r h
  rw [runs, List.getElem?_eq_getElem h1, Option.getD_some] at h2
  obtain ⟨l, hl⟩ := Option.isSome_iff_exists.mp h2
  exact ⟨l, by rw [List.getElem?_eq_getElem h1, hl]⟩
theorem all_some_snoc {ps : List (Option (List Nat))} {k : Nat} {l : List Nat} (h : ∀ p ∈ ps.take k, p.isSome = true) (hl : ps[k]? = some (some l)) : ∀ p ∈ ps.take (k + 1), p.isSome = true := by
  intro p hp
  rw [List.take_add_one, hl] at hp
  rcases List.mem_append.mp hp with hp | hp
  · exact h p hp
  · rw [List.mem_singleton.mp hp]; rfl
theorem strs_step {ps : List (Option (List Nat))} {k : Nat} {l : List Nat} {rv : List Value} (hl : ps[k]? = some (some l)) (h : StrsAre rv (((ps.take k).map (·.getD [])).map S)) (t : Tok) : StrsAre (rv ++ [.str (S l) t]) (((ps.take (k + 1)).map (·.getD [])).map S) := by
  rw [List.take_add_one, hl, List.map_append, List.map_append]
  exact strs_snoc h _ _
theorem strs_add {rv : List Value} {tx : List (List Nat)} (h : StrsAre rv (tx.map S)) (l : List Nat) (t : Tok) : StrsAre (rv ++ [.str (S l) t]) ((tx ++ [l]).map S) := by
  rw [List.map_append]; exact strs_snoc h _ _
section
variable {prog : Program} {w : WK} {A : Around} {E : Value → Shared → Prop} {env : Env} {g : Array GenState} {d : Drawn} {os : OsState}
variable {h : Heap} {tk : Nat}
theorem x_itemN {a : Addr} {vs : List Value} {k : Nat} {u : Tok} {v : Value} {Q : Value → Shared → Prop} {value slice : Expr} (hl : ∃ o, h.get? a = some o ∧ LstO vs o) (hk : k ≤ 100000) (hv : vs[k]? = some v)
    (hs : subscripted slice false (.ref a) (.int (k : Nat) u) = operate [.ref a, .int (k : Nat) u] (getItem (.ref a) (.int (k : Nat) u))) (q : Q v ⟨h, g, d, tk, os⟩) : wpAny (model prog w.w) A (subscriptTail value slice (.ref a) (.int (k : Nat) u)) Q E ⟨h, g, d, tk, os⟩ :=
  x_item hl (Int.natCast_nonneg k) (by lia) (by rw [Int.toNat_natCast]; exact hv) hs q
/-- what is behind a statement, cut off -/
noncomputable def QCu (P : Shared → Prop) (Q : Flow → Shared → Prop) (f : Flow) (s : Shared) : Prop := match f with
  | .next => P s
  | f => Q f s
theorem y_cut {M : Model} {s : Shared} {st : Stmt} {rest : List Stmt} {Q : Flow → Shared → Prop} (P : Shared → Prop) (tail : ∀ s, P s → wpAny M A (execs rest env) Q E s) (k : wpAny M A (exec st env) (QCu P Q) E s) : wpAny M A (execs (st :: rest) env) Q E s :=
  y_cons (wpAny_mono k (fun f s q => by cases f with | next => exact tail s q | _ => exact q) fun _ _ e => e)
end
/-- the end of the join -/
inductive JEnd (total : List Nat) (B : Addr → Obj → Prop) (L a ad : Addr) (names : List Str) (v0 v1 : Value) (n : Nat) (g : Array GenState) (d : Drawn) (os : OsState) (s : Shared) : Prop
  | mk (h : Heap) (tk : Nat) (rv : List Value) (tx : List (List Nat)) (fx : Option Value) (t tn : Tok) (e : s = ⟨h, g, d, tk, os⟩) (hrv : StrsAre rv (tx.map S)) (hs : tx.flatten = total) (hl : tx.flatten.length ≤ 10000)
      (z : Z B L (fr names [some v0, some v1, some (.ref a), some (.ref ad), some (.int n t), some (.int n tn), fx]) [(ad, BoundO "list.append" a), (a, LstO rv)] h)
noncomputable abbrev JS := Nat × List Value × List (List Nat) × Option Value × Tok
inductive JJ (ps : List (Option (List Nat))) (total : List Nat) (n : Nat) (st : JS) : Prop
  | mk (hk : st.1 ≤ ps.length) (hn : n = ps.length - st.1) (hrv : StrsAre st.2.1 (st.2.2.1.map S)) (hend : ps.length ≤ st.1 ∨ ps[st.1]? = some none) (fu : Nat) (hfu : (ps.drop st.1).length ≤ fu) (hsum : st.2.2.1.flatten ++ joinGo fu (ps.drop st.1) = total) (htl : st.2.2.1.length ≤ 2 * st.1) (htf : st.2.2.1.flatten.length ≤ 12 * st.1)
inductive J1 (ps : List (Option (List Nat))) (n : Nat) (st : Nat × List Value × Tok) : Prop
  | mk (hk : st.1 ≤ ps.length) (hn : n = ps.length - st.1) (hs : ∀ p ∈ ps.take st.1, p.isSome = true) (hrv : StrsAre st.2.1 (((ps.take st.1).map (·.getD [])).map S))
theorem J1.next {ps : List (Option (List Nat))} {n k : Nat} {l : List Nat} {rv : List Value} {t t' u : Tok} (j : J1 ps n (k, rv, t)) (hl : ps[k]? = some (some l)) : ps.length - (k + 1) < n ∧ J1 ps (ps.length - (k + 1)) (k + 1, rv ++ [.str (S l) u], t') := by
  obtain ⟨hk, hn, hs, hrv⟩ := j
  have hkl := (List.getElem?_eq_some_iff.mp hl).1
  exact ⟨hn ▸ Nat.sub_lt_sub_left hkl (Nat.lt_succ_self k), hkl, rfl, all_some_snoc hs hl, strs_step hl hrv u⟩
theorem J1.len {ps : List (Option (List Nat))} {n k : Nat} {rv : List Value} {t : Tok} (j : J1 ps n (k, rv, t)) : rv.length ≤ ps.length := by
  obtain ⟨hk, hn, hs, hrv⟩ := j
  rw [strs_len hrv, List.length_map, List.length_map]; exact List.length_take_le' _ _
theorem pos_pred {a b fu : Nat} (h : a - b ≤ fu) (hb : b < a) : ∃ x, fu = x + 1 := ⟨fu - 1, (Nat.succ_pred_eq_of_pos (Nat.lt_of_lt_of_le (Nat.sub_pos_of_lt hb) h)).symm⟩
theorem sub_step {n k q : Nat} (h : k < n) : n - (k + 1 + q) < n - k := Nat.sub_lt_sub_left h (Nat.lt_of_lt_of_le (Nat.lt_succ_self k) (Nat.le_add_right _ _))
theorem tl_up {x k q c : Nat} (h : x ≤ 2 * k) (hc : c ≤ 2) : x + c ≤ 2 * (k + 1 + q) := Nat.le_trans (Nat.add_le_add h hc) (Nat.mul_le_mul_left 2 (Nat.le_add_right (k + 1) q))
theorem tf_up {x k q F : Nat} (h : x ≤ 12 * k) (hF : F ≤ 4 * q) : x + (6 + F + 1) ≤ 12 * (k + 1 + q) := by lia
theorem JJ.more {ps : List (Option (List Nat))} {total : List Nat} {n k q : Nat} {rv fv : List Value} {tx : List (List Nat)} {fx fx' : Option Value} {t t' u t3 : Tok} (j : JJ ps total n (k, rv, tx, fx, t)) (hkl : k < ps.length) (hp4 : ∀ p ∈ ps, (p.getD []).length ≤ 4)
    (j1 : J1 (ps.drop (k + 1)) t3 (q, fv, t')) (hq : q < (ps.drop (k + 1)).length) (hx : (ps.drop (k + 1))[q]? = some none) :
    ps.length - (k + 1 + q) < n ∧ JJ ps total (ps.length - (k + 1 + q)) (k + 1 + q, rv ++ [.str (S ([40, 63, 62, 46, 42, 63] ++ (((ps.drop (k + 1)).take q).map (·.getD [])).flatten ++ [41])) u], tx ++ [[40, 63, 62, 46, 42, 63] ++ (((ps.drop (k + 1)).take q).map (·.getD [])).flatten ++ [41]], fx', t') := by
  obtain ⟨hk, hn, hrv, hend, fu, hfu, hsum, htl, htf⟩ := j
  obtain ⟨_, _, hs, _⟩ := j1
  have hpk : ps[k] = none := by
    rcases hend with q | q
    · exact absurd hkl (Nat.not_lt.mpr q)
    · exact Option.some.inj ((List.getElem?_eq_getElem hkl).symm.trans q)
  have hF := flat_take (l := ps.drop (k + 1)) (fun p hp => hp4 p (List.mem_of_mem_drop hp)) q
  dsimp only at hk hn hrv hfu hsum htl htf hs
  rw [List.drop_eq_getElem_cons hkl, hpk] at hsum
  rw [List.length_drop] at hfu hq
  obtain ⟨fu, rfl⟩ := pos_pred hfu hkl
  rw [jg_more hs (by rw [List.length_drop]; exact hq) hx, List.drop_drop] at hsum
  refine ⟨hn ▸ sub_step hkl, Nat.le_of_lt (Nat.add_lt_of_lt_sub' hq), rfl, strs_add hrv _ u, .inr (by dsimp only; rw [← List.getElem?_drop]; exact hx), fu, by dsimp only; rw [List.length_drop]; exact Nat.le_of_lt_succ (Nat.lt_of_lt_of_le (sub_step hkl) hfu), ?_, ?_, ?_⟩
  · dsimp only; rw [← hsum]; simp
  · dsimp only; rw [List.length_append]; exact tl_up htl (by decide : 1 ≤ 2)
  · dsimp only; rw [List.flatten_concat, List.length_append, List.length_append, List.length_append]; exact tf_up htf hF
theorem JJ.last {ps : List (Option (List Nat))} {total : List Nat} {n k q : Nat} {rv fv : List Value} {tx : List (List Nat)} {fx fx' : Option Value} {t t' u u' t3 : Tok} (j : JJ ps total n (k, rv, tx, fx, t)) (hkl : k < ps.length) (hne : ps.drop (k + 1) ≠ []) (hp4 : ∀ p ∈ ps, (p.getD []).length ≤ 4)
    (j1 : J1 (ps.drop (k + 1)) t3 (q, fv, t')) (hq : q = (ps.drop (k + 1)).length) :
    ps.length - (k + 1 + q) < n ∧ JJ ps total (ps.length - (k + 1 + q)) (k + 1 + q, rv ++ [.str (S [46, 42]) u] ++ [.str (S (((ps.drop (k + 1)).take q).map (·.getD [])).flatten) u'], tx ++ [[46, 42]] ++ [(((ps.drop (k + 1)).take q).map (·.getD [])).flatten], fx', t') := by
  obtain ⟨hk, hn, hrv, hend, fu, hfu, hsum, htl, htf⟩ := j
  obtain ⟨_, _, hs, _⟩ := j1
  have hpk : ps[k] = none := by
    rcases hend with q | q
    · exact absurd hkl (Nat.not_lt.mpr q)
    · exact Option.some.inj ((List.getElem?_eq_getElem hkl).symm.trans q)
  have hF := flat_take (l := ps.drop (k + 1)) (fun p hp => hp4 p (List.mem_of_mem_drop hp)) q
  dsimp only at hk hn hrv hfu hsum htl htf hs
  rw [List.drop_eq_getElem_cons hkl, hpk] at hsum
  rw [List.length_drop] at hfu
  obtain ⟨fu, rfl⟩ := pos_pred hfu hkl
  rw [jg_last hne hs hq] at hsum
  rw [List.length_drop] at hq
  have hq' : k + 1 + q = ps.length := hq ▸ Nat.add_sub_cancel' hkl
  have hd : ps.drop (k + 1 + q) = [] := List.drop_of_length_le (Nat.le_of_eq hq'.symm)
  refine ⟨hn ▸ sub_step hkl, Nat.le_of_eq hq', rfl, strs_add (strs_add hrv _ u) _ u', .inl (Nat.le_of_eq hq'.symm), ps.length, by dsimp only; rw [List.length_drop]; exact Nat.sub_le _ _, ?_, ?_, ?_⟩
  · dsimp only; rw [hd, joinGo_nil, ← hsum]; simp
  · dsimp only; rw [List.length_append, List.length_append, Nat.add_assoc]; exact tl_up htl (Nat.le_refl 2)
  · dsimp only; rw [List.flatten_concat, List.flatten_concat, List.length_append, List.length_append, Nat.add_assoc]; exact Nat.le_trans (Nat.add_le_add_left (Nat.le_succ_of_le (Nat.add_le_add_right (by decide : 2 ≤ 6) _)) _) (tf_up htf hF)
theorem idx_ok {k n : Nat} (hn : n ≤ 100) (h : k < n) : k ≤ 100000 := Nat.le_trans (Nat.le_of_lt h) (Nat.le_trans hn (by decide))
theorem runs_get {ps : List (Option (List Nat))} {k : Nat} (h : k < ps.length) : runs ps k = ps[k].isSome := by rw [runs, List.getElem?_eq_getElem h]; rfl
theorem not_star {M : Model} {A : Around} {E : Value → Shared → Prop} {star : Addr} {v : Value} {p : Option (List Nat)} {h : Heap} {g : Array GenState} {d : Drawn} {tk : Nat} {os : OsState} {Q : Value → Shared → Prop} (hp : PieceV star v p) (k : ∀ b, b = p.isSome → Q (.bool b) ⟨h, g, d, tk, os⟩) : wpAny M A (compareOp .IsNot v (.ref star)) Q E ⟨h, g, d, tk, os⟩ := by
  cases p with
  | none => obtain rfl : v = .ref star := hp; exact wpAny_isNot_ref_self (k _ rfl)
  | some l => obtain ⟨t, rfl⟩ := hp; exact wpAny_isNot_other rfl (by intro q; cases q) (k _ rfl)
theorem J1.hk {ps : List (Option (List Nat))} {n : Nat} {st : Nat × List Value × Tok} (j : J1 ps n st) : st.1 ≤ ps.length := let ⟨a, _, _, _⟩ := j; a
theorem J1.hrv {ps : List (Option (List Nat))} {n : Nat} {st : Nat × List Value × Tok} (j : J1 ps n st) : StrsAre st.2.1 (((ps.take st.1).map (·.getD [])).map S) := let ⟨_, _, _, a⟩ := j; a
section
variable {ps : List (Option (List Nat))} {total : List Nat} {n k : Nat} {rv : List Value} {tx : List (List Nat)} {fx : Option Value} {t : Tok}
theorem JJ.hk (j : JJ ps total n (k, rv, tx, fx, t)) : k ≤ ps.length := let ⟨a, _, _, _, _, _, _, _, _⟩ := j; a
theorem JJ.strs (j : JJ ps total n (k, rv, tx, fx, t)) : StrsAre rv (tx.map S) := let ⟨_, _, a, _, _, _, _, _, _⟩ := j; a
theorem JJ.star (j : JJ ps total n (k, rv, tx, fx, t)) (h : k < ps.length) : ps[k]? = some none := let ⟨_, _, _, a, _, _, _, _, _⟩ := j; a.resolve_left (Nat.not_le.mpr h)
theorem JJ.len (j : JJ ps total n (k, rv, tx, fx, t)) (h : ps.length ≤ 100) : rv.length ≤ 1000 := by
  obtain ⟨hk, _, hrv, _, _, _, _, htl, _⟩ := j
  have := strs_len hrv
  rw [List.length_map] at this
  dsimp only at this hk htl
  lia
theorem JJ.len0 (j : JJ ps total n (k, rv, tx, fx, t)) (h : ps.length ≤ 100) : tx.flatten.length ≤ 10000 := by
  obtain ⟨hk, _, _, _, _, _, _, _, htf⟩ := j
  dsimp only at hk htf
  lia
theorem JJ.len1 (j : JJ ps total n (k, rv, tx, fx, t)) (h : ps.length ≤ 100) : (tx ++ [[46, 42]]).flatten.length ≤ 10000 := by
  obtain ⟨hk, _, _, _, _, _, _, _, htf⟩ := j
  dsimp only at hk htf
  simp only [List.flatten_append, List.length_append, List.flatten_cons, List.flatten_nil, List.length_cons, List.length_nil]; lia
theorem JJ.sum0 (j : JJ ps total n (ps.length, rv, tx, fx, t)) : tx.flatten = total := by
  obtain ⟨_, _, _, _, _, _, hsum, _, _⟩ := j
  dsimp only at hsum
  rw [List.drop_length, joinGo_nil, List.append_nil] at hsum
  exact hsum
theorem JJ.sum1 (j : JJ ps total n (k, rv, tx, fx, t)) (hkl : k < ps.length) (hk : k + 1 = ps.length) : (tx ++ [[46, 42]]).flatten = total := by
  have hp := (List.getElem?_eq_some_iff.mp (j.star hkl)).2
  obtain ⟨_, _, _, _, fu, hfu, hsum, _, _⟩ := j
  dsimp only at hsum hfu
  rw [List.drop_eq_getElem_cons hkl, hp, hk, List.drop_length] at hsum
  rw [List.length_drop] at hfu
  obtain ⟨fu, rfl⟩ := pos_pred hfu hkl
  rw [← hsum]; simp [joinGo]
end
section
variable {w : WK} {A : Around} {E : Value → Shared → Prop} {h₀ : Heap} {g : Array GenState} {d : Drawn} {os : OsState}
variable {tk : Nat}
theorem join_call (gw : G w h₀) (ag : AG 3 A) (ai star : Addr) (ps : List (Option (List Nat))) (pv : List Value) (hinp : ∃ o, h₀.get? ai = some o ∧ LstO pv o) (hps : PiecesV star pv ps) (hlen : ps.length ≤ 100) (hp4 : ∀ p ∈ ps, (p.getD []).length ≤ 4)
    (hwf : ∀ k : Nat, ps[k]? = some none → ps[k + 1]? ≠ some none) {Q : Value → Shared → Prop}
    (hQ : ∀ t h' tk', Keep h₀ h' → Q (.str (S (joinP ps)) t) ⟨h', g, d, tk', os⟩) :
    wpAny (model PP w.w) A (call (.ref 83) [.ref ai, .ref star]) Q E ⟨h₀, g, d, tk, os⟩ := by
  have hpl : pv.length = ps.length := hps.len
  refine x_call (a := 83) (ks := [Str.ofString "inp", Str.ofString "STAR"]) (rest := [Str.ofString "res", Str.ofString "add", Str.ofString "i", Str.ofString "n", Str.ofString "fixed"]) (gl := [Str.ofString "len"])
    ⟨w.need.f83.look, w.need.f83.code, rfl, rfl, rfl, rfl, by decide +kernel, by decide +kernel, by decide +kernel, by decide +kernel, rfl, rfl⟩ gw ag rfl rfl fun env L h₁ tk₁ e hf ag' z => ?_
  refine y_cons ?_
  refine x_asg (B := Sb h₀) (g := g) (d := d) (os := os) e 2 rfl ?_
  refine x_list (g := g) (d := d) (os := os) ?_
  refine evs_nil ?_
  refine ⟨_, _, rfl, Nat.le_of_ble_eq_true rfl, fun a h ka hn ho => ?_⟩
  replace z := z.add ka hn ho.choose_spec.1 ho.choose_spec.2
  refine ⟨_, _, _, _, rfl, z, Nat.le_of_ble_eq_true rfl, fun h tk z₁ => ?_⟩
  clear z; rename Z _ _ _ _ _ => z
  refine y_cons ?_
  refine x_asg (B := Sb h₀) (g := g) (d := d) (os := os) e 3 rfl ?_
  refine x_attr ?_
  refine x_loc e z 2 rfl rfl ?_
  refine x_get_append (z.get 0 rfl) fun ad h tk kb hn ho => ?_
  replace z := z.add kb hn ho.choose_spec.1 ho.choose_spec.2
  refine ⟨_, _, _, _, rfl, z, Nat.le_of_ble_eq_true rfl, fun h tk z₁ => ?_⟩
  clear z; rename Z _ _ _ _ _ => z
  refine y_cons ?_
  refine x_asg2 (B := Sb h₀) (g := g) (d := d) (os := os) e ag'.hh 4 5 rfl rfl (by decide +kernel) (by rfl) ?_
  refine evs_cons ?_
  refine x_int fun ti _ => ?_
  refine evs_cons ?_
  refine x_bcall (id := "len") ?_
  refine x_glob e (gw.keep z.keep) 0 rfl (gv_len w) ?_
  refine ⟨rfl, ?_⟩
  refine evs_cons ?_
  refine x_loc e z 0 rfl rfl ?_
  refine evs_nil ?_
  refine x_len_list (cellK hinp z.keep) (hpl ▸ Nat.le_trans hlen (by decide)) fun tn _ => ?_
  refine evs_nil ?_
  refine ⟨_, _, _, _, _, _, rfl, rfl, z, Nat.le_of_ble_eq_true rfl, Nat.le_of_ble_eq_true rfl, fun h tk z₁ => ?_⟩
  clear z; rename Z _ _ _ _ _ => z
  rw [hpl] at z
  refine y_cons ?_
  refine wpAny_While ?_
  refine x_while (B := Sb h₀) (L := L) (names := [Str.ofString "inp", Str.ofString "STAR"] ++ [Str.ofString "res", Str.ofString "add", Str.ofString "i", Str.ofString "n", Str.ofString "fixed"]) (σ := Nat × List Value × Tok) (J1 ps)
    (fun st => [some (.ref ai), some (.ref star), some (.ref a), some (.ref ad), some (.int (st.1 : Nat) st.2.2), some (.int (ps.length : Nat) tn), none])
    (fun st => [(ad, BoundO "list.append" a), (a, LstO st.2.1)]) (fun _ => g) ps.length (0, [], ti) ⟨Nat.zero_le _, rfl, by simp, .nil⟩ z ?_
  clear z
  intro n st h tk j1 z
  obtain ⟨k, rv, t1⟩ := st
  refine y_and2 (a := decide (((k : Nat) : Int) < (ps.length : Int))) (b := runs ps (k)) (g := g) (fun Q1 tk q => ?_) (fun hlt h1 k1 Q1 tk q => ?_) fun h tk kp => ?_
  · refine y_tcmp ?_
    refine x_loc e z 4 rfl rfl ?_
    refine x_loc e z 5 rfl rfl ?_
    refine x_lti ?_
    refine x_truthy ?_
    exact q _ _ (Keep.refl _)
  · have hlt := Int.ofNat_lt.mp (of_decide_eq_true hlt)
    obtain ⟨v, hv, hpv⟩ := hps.get (List.getElem?_eq_getElem hlt)
    replace z := z.keepAll k1
    refine y_tcmp ?_
    refine y_sub ?_
    refine x_loc e z 0 rfl rfl ?_
    refine x_loc e z 4 rfl rfl ?_
    refine x_itemN (cellK hinp z.keep) (idx_ok hlen hlt) hv (by with_unfolding_all rfl) ?_
    refine x_loc e z 1 rfl rfl ?_
    exact not_star hpv fun b hb => x_truthy (hb ▸ runs_get hlt ▸ q _ _ (Keep.refl _))
  replace z := z.keepAll kp
  refine ite_b (fun hb => ?_) fun hb => ?_
  · obtain ⟨l, hl⟩ := runs_on hb
    obtain ⟨v, hv, tl, rfl⟩ := hps.get hl
    refine y_cons ?_
    refine x_addS e z 3 rfl rfl ?_
    refine y_sub ?_
    refine x_loc e z 0 rfl rfl ?_
    refine x_loc e z 4 rfl rfl ?_
    refine x_itemN (cellK hinp z.keep) (idx_ok hlen (List.getElem?_eq_some_iff.mp hl).1) hv (by with_unfolding_all rfl) ?_
    refine ⟨_, _, _, _, _, _, _, 0, 1, _, _, rfl, z, rfl, rfl, Nat.le_trans j1.len (Nat.le_trans hlen (by decide)), fun h z => ?_⟩
    refine y_cons ?_
    refine x_augint e z 4 rfl rfl fun tA h tk z₁ => ?_
    refine wpAny_execs_nil ?_
    exact ⟨(k + 1, _, tA), h, _, ps.length - (k + 1), rfl, (j1.next hl (u := tl) (t' := tA)).1, (j1.next hl).2, z₁⟩
  have hend := runs_end hb
  refine wpAny_execs_nil ?_
  obtain ⟨total, htot⟩ : ∃ x, x = ((ps.takeWhile Option.isSome).map (·.getD [])).flatten ++ joinGo ps.length (ps.dropWhile Option.isSome) := ⟨_, rfl⟩
  refine y_cut (JEnd total (Sb h₀) L a ad ([Str.ofString "inp", Str.ofString "STAR"] ++ [Str.ofString "res", Str.ofString "add", Str.ofString "i", Str.ofString "n", Str.ofString "fixed"]) (.ref ai) (.ref star) ps.length g d os) ?_ ?_
  · clear z hb hend j1
    intro s q
    obtain ⟨h, tk, rv, tx, fx, t, tn, rfl, hrv, hs, hl, z⟩ := q
    refine y_cons ?_
    refine wpAny_Assert_holds ?_
    refine y_tcmp ?_
    refine x_loc e z 4 rfl rfl ?_
    refine x_loc e z 5 rfl rfl ?_
    refine x_eqi ?_
    refine x_truthy ?_
    refine ⟨beq_self_eq_true _, ?_⟩
    refine y_cons ?_
    refine x_asg (B := Sb h₀) (g := g) (d := d) (os := os) e 2 rfl ?_
    refine x_meth F.plainAttrs_str F.slot_str_join F.type_str_join ?_
    refine x_str [] (by decide +kernel) fun _ _ => ?_
    refine ⟨⟨typeIs_str _ _ _, fun _ q => by cases q⟩, ?_⟩
    refine evs_cons ?_
    refine x_loc e z 2 rfl rfl ?_
    refine evs_nil ?_
    refine x_join0 (let ⟨o, ho, hl⟩ := z.get 1 rfl; ⟨o, ho, _, hrv, hl⟩) (Nat.le_trans hl (by decide)) fun _ _ => ?_
    rw [hs]
    refine ⟨_, _, _, _, rfl, z, Nat.le_of_ble_eq_true rfl, fun h tk z₁ => ?_⟩
    clear z; rename Z _ _ _ _ _ => z
    refine y_cons ?_
    refine y_ret ?_
    refine x_fstr3 [40, 63, 115, 58] [41, 92, 90] (by decide +kernel) (by decide +kernel) (by decide) fun _ => ?_
    refine x_loc e z 2 rfl rfl ?_
    refine ⟨_, _, _, _, rfl, rfl, Nat.le_trans (Nat.add_le_add (Nat.add_le_add (Nat.le_refl 4) (hs ▸ hl)) (Nat.le_refl 3)) (by decide), fun tf tk' => ?_⟩
    rw [htot]
    exact hQ tf _ tk' z.keep
  have jj : JJ ps total (ps.length - k) (k, rv, (ps.take k).map (·.getD []), none, t1) := by
    obtain ⟨hk, hn, hs, hrv⟩ := j1
    dsimp only at hk hs hrv
    obtain ⟨htw, hdw⟩ := take_while_eq hs hend hk
    refine ⟨hk, rfl, hrv, hend, ps.length, by simp, by rw [htot, htw, hdw], ?_, ?_⟩
    · dsimp only; rw [List.length_map]; exact Nat.le_trans (List.length_take_le _ _) (Nat.le_mul_of_pos_left k (by decide))
    · exact Nat.le_trans (flat_take hp4 k) (Nat.mul_le_mul_right k (by decide))
  clear hend hb htot j1
  refine wpAny_While ?_
  refine x_while (B := Sb h₀) (L := L) (names := [Str.ofString "inp", Str.ofString "STAR"] ++ [Str.ofString "res", Str.ofString "add", Str.ofString "i", Str.ofString "n", Str.ofString "fixed"]) (σ := JS) (JJ ps total)
    (fun st => [some (.ref ai), some (.ref star), some (.ref a), some (.ref ad), some (.int (st.1 : Nat) st.2.2.2.2), some (.int (ps.length : Nat) tn), st.2.2.2.1])
    (fun st => [(ad, BoundO "list.append" a), (a, LstO st.2.1)]) (fun _ => g) (ps.length - k) (k, rv, (ps.take k).map (·.getD []), none, t1) jj z ?_
  clear z jj
  intro n st h tk jj z
  obtain ⟨k, rv, tx, fxv, t1⟩ := st
  have hrl : rv.length ≤ 1000 := jj.len hlen
  refine y_tcmp ?_
  refine x_loc e z 4 rfl rfl ?_
  refine x_loc e z 5 rfl rfl ?_
  refine x_lti ?_
  refine x_truthy ?_
  refine ite_b (fun hb => ?_) fun hb => ?_
  · have hkl : k < ps.length := Int.ofNat_lt.mp (of_decide_eq_true hb)
    have hpk : ps[k]? = some none := jj.star hkl
    obtain ⟨v, hv, hpv⟩ := hps.get hpk
    obtain rfl : v = .ref star := hpv
    refine y_cons ?_
    refine wpAny_Assert_holds ?_
    refine y_tcmp ?_
    refine y_sub ?_
    refine x_loc e z 0 rfl rfl ?_
    refine x_loc e z 4 rfl rfl ?_
    refine x_itemN (cellK hinp z.keep) (idx_ok hlen hkl) hv (by with_unfolding_all rfl) ?_
    refine x_loc e z 1 rfl rfl ?_
    refine x_is_self ?_
    refine x_truthy ?_
    refine ⟨rfl, ?_⟩
    refine y_cons ?_
    refine x_augint e z 4 rfl rfl fun tA h tk z₁ => ?_
    clear z; rename Z _ _ _ _ _ => z
    have z₁ : Z (Sb h₀) L (fr ([Str.ofString "inp", Str.ofString "STAR"] ++ [Str.ofString "res", Str.ofString "add", Str.ofString "i", Str.ofString "n", Str.ofString "fixed"]) [some (.ref ai), some (.ref star), some (.ref a), some (.ref ad), some (.int (k + 1 : Nat) tA), some (.int (ps.length : Nat) tn), fxv]) [(ad, BoundO "list.append" a), (a, LstO rv)] h := z
    clear z; rename Z _ _ _ _ _ => z
    refine y_cons ?_
    refine y_if ?_
    refine y_tcmp ?_
    refine x_loc e z 4 rfl rfl ?_
    refine x_loc e z 5 rfl rfl ?_
    refine x_eqi ?_
    refine x_truthy ?_
    refine ite_b (fun hb => ?_) fun hb => ?_
    · have hke : k + 1 = ps.length := Int.ofNat.inj (eq_of_beq hb)
      refine y_cons ?_
      refine x_addS e z 3 rfl rfl ?_
      refine x_str [46, 42] (by decide +kernel) fun tS _ => ?_
      refine ⟨_, _, _, _, _, _, _, 0, 1, _, _, rfl, z, rfl, rfl, le_big hrl, fun h z => ?_⟩
      refine y_cons ?_
      refine wpAny_Break ?_
      rw [hke] at z
      exact ⟨h, _, _, _, _, _, _, rfl, strs_add jj.strs _ tS, jj.sum1 hkl hke, jj.len1 hlen, z⟩
    · have hne : k + 1 ≠ ps.length := fun q => by rw [q] at hb; simp at hb
      have hk2 : k + 1 < ps.length := Nat.lt_of_le_of_ne hkl hne
      have hn2 : ps[k + 1] ≠ none := fun q => hwf k hpk (by rw [List.getElem?_eq_getElem hk2, q])
      obtain ⟨l0, hl0⟩ : ∃ l, ps[k + 1] = some l := Option.ne_none_iff_exists'.mp hn2
      obtain ⟨v2, hv2, tl0, rfl⟩ := hps.get (i := k + 1) (p := some l0) (by rw [List.getElem?_eq_getElem hk2, hl0])
      refine wpAny_execs_nil ?_
      refine y_cons ?_
      refine wpAny_Assert_holds ?_
      refine y_tcmp ?_
      refine y_sub ?_
      refine x_loc e z 0 rfl rfl ?_
      refine x_loc e z 4 rfl rfl ?_
      refine x_itemN (cellK hinp z.keep) (idx_ok hlen hk2) hv2 (by with_unfolding_all rfl) ?_
      refine x_loc e z 1 rfl rfl ?_
      refine x_isnot_str ?_
      refine x_truthy ?_
      refine ⟨rfl, ?_⟩
      refine y_cons ?_
      refine x_asg (B := Sb h₀) (g := g) (d := d) (os := os) e 6 rfl ?_
      refine x_list (g := g) (d := d) (os := os) ?_
      refine evs_nil ?_
      refine ⟨_, _, rfl, Nat.le_of_ble_eq_true rfl, fun fx h ka hn ho => ?_⟩
      replace z := z.add ka hn ho.choose_spec.1 ho.choose_spec.2
      clear hn ho ka
      refine ⟨_, _, _, _, rfl, z, Nat.le_of_ble_eq_true rfl, fun h tk z₁ => ?_⟩
      clear z; rename Z _ _ _ _ _ => z
      refine y_cons ?_
      refine wpAny_While ?_
      refine x_while (B := Sb h₀) (L := L) (names := [Str.ofString "inp", Str.ofString "STAR"] ++ [Str.ofString "res", Str.ofString "add", Str.ofString "i", Str.ofString "n", Str.ofString "fixed"]) (σ := Nat × List Value × Tok) (J1 (ps.drop (k + 1)))
        (fun st => [some (.ref ai), some (.ref star), some (.ref a), some (.ref ad), some (.int (k + 1 + st.1 : Nat) st.2.2), some (.int (ps.length : Nat) tn), some (.ref fx)])
        (fun st => [(fx, LstO st.2.1), (ad, BoundO "list.append" a), (a, LstO rv)]) (fun _ => g) (ps.drop (k + 1)).length (0, [], tA) ⟨Nat.zero_le _, rfl, by simp, .nil⟩ z ?_
      clear z hv2 hl0 hb
      intro n' st h tk j1 z
      obtain ⟨q, fv, t3⟩ := st
      refine y_and2 (a := decide (((k + 1 + q : Nat) : Int) < (ps.length : Int))) (b := runs ps (k + 1 + q)) (g := g) (fun Q1 tk q => ?_) (fun hlt h1 k1 Q1 tk q => ?_) fun h tk kp => ?_
      · refine y_tcmp ?_
        refine x_loc e z 4 rfl rfl ?_
        refine x_loc e z 5 rfl rfl ?_
        refine x_lti ?_
        refine x_truthy ?_
        exact q _ _ (Keep.refl _)
      · have hlt := Int.ofNat_lt.mp (of_decide_eq_true hlt)
        obtain ⟨v, hv, hpv⟩ := hps.get (List.getElem?_eq_getElem hlt)
        replace z := z.keepAll k1
        refine y_tcmp ?_
        refine y_sub ?_
        refine x_loc e z 0 rfl rfl ?_
        refine x_loc e z 4 rfl rfl ?_
        refine x_itemN (cellK hinp z.keep) (idx_ok hlen hlt) hv (by with_unfolding_all rfl) ?_
        refine x_loc e z 1 rfl rfl ?_
        exact not_star hpv fun b hb => x_truthy (hb ▸ runs_get hlt ▸ q _ _ (Keep.refl _))
      replace z := z.keepAll kp
      refine ite_b (fun hb => ?_) fun hb => ?_
      · obtain ⟨l, hl⟩ := runs_on hb
        obtain ⟨v, hv, tl, rfl⟩ := hps.get hl
        refine y_cons ?_
        refine x_append (d := d) (os := os) e.kind ?_
        refine x_loc e z 6 rfl rfl ?_
        refine ⟨_, fv, rfl, z.get 0 rfl, ?_⟩
        refine evs_cons ?_
        refine y_sub ?_
        refine x_loc e z 0 rfl rfl ?_
        refine x_loc e z 4 rfl rfl ?_
        refine x_itemN (cellK hinp z.keep) (idx_ok hlen (List.getElem?_eq_some_iff.mp hl).1) hv (by with_unfolding_all rfl) ?_
        refine evs_nil ?_
        refine ⟨_, _, _, _, _, _, _, _, 0, _, rfl, rfl, z, rfl, Nat.le_trans j1.len (Nat.le_trans (by rw [List.length_drop]; exact Nat.sub_le _ _) (Nat.le_trans hlen (by decide))), fun h z₁ => ?_⟩
        clear z; rename Z _ _ _ _ _ => z
        refine y_cons ?_
        refine x_augint e z 4 rfl rfl fun tA h tk z₁ => ?_
        refine wpAny_execs_nil ?_
        have hl' : (ps.drop (k + 1))[q]? = some (some l) := by rw [List.getElem?_drop]; exact hl
        exact ⟨(q + 1, _, tA), h, _, (ps.drop (k + 1)).length - (q + 1), rfl, (j1.next hl' (u := tl) (t' := tA)).1, (j1.next hl').2, z₁⟩
      have hend := runs_end hb
      have hF := flat_take (l := ps.drop (k + 1)) (fun p hp => hp4 p (List.mem_of_mem_drop hp)) q
      have hqr : q ≤ 100 := Nat.le_trans j1.hk (Nat.le_trans (by rw [List.length_drop]; exact Nat.sub_le _ _) hlen)
      have hF9 : ((((ps.drop (k + 1)).take q).map (·.getD [])).flatten).length ≤ 400 := Nat.le_trans hF (Nat.mul_le_mul_left 4 hqr)
      refine wpAny_execs_nil ?_
      refine y_cons ?_
      refine x_asg (B := Sb h₀) (g := g) (d := d) (os := os) e 6 rfl ?_
      refine x_meth F.plainAttrs_str F.slot_str_join F.type_str_join ?_
      refine x_str [] (by decide +kernel) fun _ _ => ?_
      refine ⟨⟨typeIs_str _ _ _, fun _ q => by cases q⟩, ?_⟩
      refine evs_cons ?_
      refine x_loc e z 6 rfl rfl ?_
      refine evs_nil ?_
      refine x_join0 (ls := ((ps.drop (k + 1)).take q).map (·.getD [])) (let ⟨o, ho, hl⟩ := z.get 0 rfl; ⟨o, ho, _, j1.hrv, hl⟩) (Nat.le_trans hF9 (by decide)) fun tj _ => ?_
      refine ⟨_, _, _, _, rfl, z, Nat.le_of_ble_eq_true rfl, fun h tk z₁ => ?_⟩
      clear z
      have z := z₁.pick [1, 2] (by decide)
      clear z₁
      refine y_cons ?_
      refine y_if ?_
      refine y_tcmp ?_
      refine x_loc e z 4 rfl rfl ?_
      refine x_loc e z 5 rfl rfl ?_
      refine x_eqi ?_
      refine x_truthy ?_
      refine ite_b (fun hb2 => ?_) fun hb2 => ?_
      · have hke : k + 1 + q = ps.length := Int.ofNat.inj (eq_of_beq hb2)
        have nx := fun u => jj.last (u := u) (u' := tj) (fx' := some (.str (S (((ps.drop (k + 1)).take q).map (·.getD [])).flatten) tj)) hkl (fun q => absurd (List.drop_eq_nil_iff.mp q) (Nat.not_le.mpr hk2)) hp4 j1 (by rw [List.length_drop, ← hke, Nat.add_sub_cancel_left])
        refine y_cons ?_
        refine x_addS e z 3 rfl rfl ?_
        refine x_str [46, 42] (by decide +kernel) fun tS _ => ?_
        refine ⟨_, _, _, _, _, _, _, 0, 1, _, _, rfl, z, rfl, rfl, le_big hrl, fun h z₁ => ?_⟩
        clear z; rename Z _ _ _ _ _ => z
        refine y_cons ?_
        refine x_addS e z 3 rfl rfl ?_
        refine x_loc e z 6 rfl rfl ?_
        refine ⟨_, _, _, _, _, _, _, 0, 1, _, _, rfl, z, rfl, rfl, by rw [List.length_append]; exact Nat.le_trans (Nat.add_le_add hrl (Nat.le_refl 1)) (by decide), fun h z₁ => ?_⟩
        refine wpAny_execs_nil ?_
        refine wpAny_execs_nil ?_
        exact ⟨_, h, _, _, rfl, (nx tS).1, (nx tS).2, z₁⟩
      · have hx : (ps.drop (k + 1))[q]? = some none := by
          rw [List.getElem?_drop]
          refine hend.resolve_left fun hle => ?_
          have : k + 1 + q = ps.length := Nat.le_antisymm (Nat.add_le_of_le_sub' (Nat.le_of_lt hk2) (Nat.le_trans j1.hk (Nat.le_of_eq List.length_drop))) hle
          rw [this] at hb2; simp at hb2
        have nx := fun u => jj.more (u := u) (fx' := some (.str (S (((ps.drop (k + 1)).take q).map (·.getD [])).flatten) tj)) hkl hp4 j1 (List.getElem?_eq_some_iff.mp hx).1 hx
        refine y_cons ?_
        refine x_addS e z 3 rfl rfl ?_
        refine x_fstr3 [40, 63, 62, 46, 42, 63] [41] (by decide +kernel) (by decide +kernel) (by decide) fun _ => ?_
        refine x_loc e z 6 rfl rfl ?_
        refine ⟨_, _, _, _, rfl, rfl, Nat.le_trans (Nat.add_le_add (Nat.add_le_add (Nat.le_refl 6) hF9) (Nat.le_refl 1)) (by decide), fun tf _ => ?_⟩
        refine ⟨_, _, _, _, _, _, _, 0, 1, _, _, rfl, z, rfl, rfl, le_big hrl, fun h z₁ => ?_⟩
        refine wpAny_execs_nil ?_
        refine wpAny_execs_nil ?_
        exact ⟨_, h, _, _, rfl, (nx tf).1, (nx tf).2, z₁⟩
  · have hke : k = ps.length := Nat.le_antisymm jj.hk (Nat.not_lt.mp fun q => absurd (Int.ofNat_lt.mpr q) (of_decide_eq_false hb))
    subst hke
    refine wpAny_execs_nil ?_
    exact ⟨h, _, _, _, _, _, _, rfl, jj.strs, jj.sum0, jj.len0 hlen, z⟩
end
end Mine
set_option maxHeartbeats 1000000
namespace Mine
theorem pieces_small (sgs : List Sg) (hok : ∀ s ∈ sgs, s.Ok) : ∀ p ∈ piecesOf sgs, (p.getD []).length ≤ 4 := by
  have step : ∀ (l : List Sg) (ps : List (Option (List Nat))), (∀ s ∈ l, s.Ok) → (∀ p ∈ ps, (p.getD []).length ≤ 4) → ∀ p ∈ l.foldl addPiece ps, (p.getD []).length ≤ 4 := by
    intro l
    induction l with
    | nil => intro ps _ h; exact h
    | cons s l ih =>
      intro ps hl h
      refine ih _ (fun s hs => hl s (List.mem_cons_of_mem _ hs)) fun p hp => ?_
      have hs := hl s List.mem_cons_self
      cases s with
      | star =>
        simp only [addPiece] at hp
        split at hp
        · exact h p hp
        · rcases List.mem_append.mp hp with hp | hp
          · exact h p hp
          · rw [List.mem_singleton.mp hp]; simp
      | ask =>
        rcases List.mem_append.mp hp with hp | hp
        · exact h p hp
        · rw [List.mem_singleton.mp hp]; simp
      | br c =>
        rcases List.mem_append.mp hp with hp | hp
        · exact h p hp
        · rw [List.mem_singleton.mp hp]; rcases hs with rfl | rfl | rfl <;> decide
      | lit c =>
        rcases List.mem_append.mp hp with hp | hp
        · exact h p hp
        · rw [List.mem_singleton.mp hp]; rcases hs with rfl | rfl | rfl <;> decide
  exact step sgs [] hok (by simp)
theorem pieces_wf (sgs : List Sg) : ∀ k : Nat, (piecesOf sgs)[k]? = some none → (piecesOf sgs)[k + 1]? ≠ some none := by
  have key : ∀ (ps : List (Option (List Nat))) (p : Option (List Nat)), (∀ k : Nat, ps[k]? = some none → ps[k + 1]? ≠ some none) → (p = none → ps.getLast? ≠ some none) → ∀ k : Nat, (ps ++ [p])[k]? = some none → (ps ++ [p])[k + 1]? ≠ some none := by
    intro ps p h hp k h1 h2
    rcases Nat.lt_or_ge (k + 1) ps.length with hk | hk
    · rw [List.getElem?_append_left (by lia)] at h1
      rw [List.getElem?_append_left hk] at h2
      exact h k h1 h2
    · rcases Nat.lt_or_ge ps.length (k + 1) with hk2 | hk2
      · rw [List.getElem?_eq_none (by simp; lia)] at h2; cases h2
      · have hke : k + 1 = ps.length := by lia
        rw [List.getElem?_append_left (by lia)] at h1
        rw [hke, List.getElem?_append_right (Nat.le_refl _), Nat.sub_self] at h2
        have hpn : p = none := by simpa using h2
        refine hp hpn ?_
        rw [List.getLast?_eq_getElem?, ← hke]
        exact h1
  have step : ∀ (l : List Sg) (ps : List (Option (List Nat))), (∀ k : Nat, ps[k]? = some none → ps[k + 1]? ≠ some none) → ∀ k : Nat, (l.foldl addPiece ps)[k]? = some none → (l.foldl addPiece ps)[k + 1]? ≠ some none := by
    intro l
    induction l with
    | nil => intro ps h; exact h
    | cons s l ih =>
      intro ps h
      refine ih _ ?_
      cases s with
      | star =>
        simp only [addPiece]
        split
        · exact h
        · rename_i hl; exact key ps none h fun _ => hl
      | ask => exact key ps _ h fun q => by cases q
      | br c => exact key ps _ h fun q => by cases q
      | lit c => exact key ps _ h fun q => by cases q
  exact step sgs [] (by simp)
section
variable {prog : Program} {w : WK} {A : Around} {E : Value → Shared → Prop} {env : Env} {g : Array GenState} {d : Drawn} {os : OsState}
variable {h : Heap} {tk : Nat}
/-- a built-in type, called with nothing -/
theorem x_tcall0 {x : Str} {np pos : Pos} {T : String} {s : Shared} {Q : Value → Shared → Prop}
    (k : wpAny (model prog w.w) A (eval (.Name x np) env) (fun f s₁ => f = .type T ∧ wpAny (model prog w.w) A (call (.type T) []) Q E s₁) E s)
    (hs : backTo pos (starEach [] env) = [] := by rfl) :
    wpAny (model prog w.w) A (eval (.Call (.Name x np) [] [] pos) env) Q E s := by
  refine wpAny_Call_NameR (wpAny_mono k (fun f s₁ hh => ?_) fun _ _ e => e)
  obtain ⟨rfl, k⟩ := hh
  rw [hs]
  refine PySem.callWith_type (by simp) ?_
  exact PySem.evalArgs_none k
theorem Z.step71 {h₀ h' : Heap} {L a : Addr} {m : Str → Option Value} {P P' : Obj → Prop} {n : List (Addr × (Obj → Prop))} (z : Z (B71 h₀) L m ((71, P) :: n) h) (k : Keep71 h h') (tb : ∃ o, h'.get? 71 = some o ∧ P o) (ha : h.get? a = none) (ho : ∃ o, h'.get? a = some o ∧ P' o) :
    Z (B71 h₀) L m ((a, P') :: (71, P) :: n) h' := by
  have f := z.fresh ha
  have o71 := z.off (71, P) (by simp)
  have nd := z.nd
  rw [List.map_cons, List.nodup_cons] at nd
  refine ⟨z.ns.at' fun o e => k L o (Ne.symm o71.1) e, fun b o e => k b o e.1 (z.keep b o e), z.apart, ?_, ?_, ?_⟩
  · intro p hp
    rcases List.mem_cons.mp hp with rfl | hp
    · exact ho
    · rcases List.mem_cons.mp hp with rfl | hp
      · exact tb
      · obtain ⟨o, e, q⟩ := z.led p (by simp [hp])
        exact ⟨o, k _ o (fun c => nd.1 (List.mem_map.mpr ⟨p, hp, c⟩)) e, q⟩
  · intro p hp
    rcases List.mem_cons.mp hp with rfl | hp
    · exact ⟨f.1, f.2.1⟩
    · exact z.off p hp
  · rw [List.map_cons, List.nodup_cons]
    exact ⟨f.2.2, z.nd⟩
end
section
variable {w : WK} {A : Around} {E : Value → Shared → Prop} {h₀ : Heap} {g : Array GenState} {d : Drawn} {os : OsState}
variable {tk : Nat}
theorem translate_call (gw : G w h₀) (gt : GT h₀) (tb : ∃ o, h₀.get? 71 = some o ∧ TabP o) (ag : AG 8 A) (sgs : List Sg) (hok : ∀ s ∈ sgs, s.Ok) (hlen : sgs.length ≤ 100) (t : Tok) {Q : Value → Shared → Prop}
    (hQ : ∀ t' h' tk', Keep71 h₀ h' → (∃ o, h'.get? 71 = some o ∧ TabP o) → Q (.str (S (joinP (piecesOf sgs))) t') ⟨h', g, d, tk', os⟩) :
    wpAny (model PP w.w) A (call (.ref 57) [.str (S (flat sgs)) t]) Q E ⟨h₀, g, d, tk, os⟩ := by
  refine x_call (a := 57) (ks := [Str.ofString "pat"]) (rest := [Str.ofString "STAR", Str.ofString "parts"]) (gl := [Str.ofString "object", Str.ofString "_translate", Str.ofString "_join_translated_parts"])
    ⟨w.need.f57.look, w.need.f57.code, rfl, rfl, rfl, rfl, by decide +kernel, by decide +kernel, by decide +kernel, by decide +kernel, rfl, rfl⟩ gw ag rfl rfl fun env L h₁ tk₁ e hf ag' z => ?_
  have hL71 : (71 : Addr) ≠ L := by
    obtain ⟨o, ho, _⟩ := tb
    intro q; subst q; exact z.apart o ho
  refine y_cons ?_
  refine x_asg (B := Sb h₀) (g := g) (d := d) (os := os) e 1 rfl ?_
  refine x_tcall0 (T := "object") ?_
  refine x_glob e (gw.keep z.keep) 0 rfl (gv_object w) ?_
  refine ⟨rfl, ?_⟩
  refine x_object fun st h kp hn ho => ?_
  replace z := z.keepAll kp
  refine ⟨_, _, _, _, rfl, z, Nat.le_of_ble_eq_true rfl, fun h tk z₁ => ?_⟩
  clear z; rename Z _ _ _ _ _ => z
  replace z := z.claim (a := 71) (P := TabP) (B' := B71 h₀) (let ⟨o, ho, hp⟩ := tb; ⟨o, z.keep _ _ ho, hp⟩) (fun b o q => q.2) (fun o q => q.1 rfl) hL71 (by simp)
  refine y_cons ?_
  refine x_asg (B := B71 h₀) (g := g) (d := d) (os := os) e 2 rfl ?_
  refine x_dcall (a := 76) ?_
  refine x_glob e (gw.keep71 z.k71) 1 rfl (gv_translate2 w) ?_
  refine ⟨rfl, ?_⟩
  refine evs_cons ?_
  refine x_loc e z 0 rfl rfl ?_
  refine evs_cons ?_
  refine x_loc e z 1 rfl rfl ?_
  refine evs_cons ?_
  refine x_str [46] (by decide +kernel) fun _ _ => ?_
  refine evs_nil ?_
  refine ⟨fn_at (gw.keep71 z.k71) w.need.f76, ?_⟩
  refine translate1_call (gw.keep71 z.k71) (gt.keep71 tb z.k71) (z.get 0 rfl) (ag'.le (by decide)) sgs hok hlen st _ _ fun a h tk k71 tb' hres => ?_
  obtain ⟨o, vs, ho, hna, hlv, hpv⟩ := hres
  replace z := z.step71 k71 tb' hna ⟨o, ho, hlv⟩
  refine ⟨_, _, _, _, rfl, z, Nat.le_of_ble_eq_true rfl, fun h tk z₁ => ?_⟩
  clear z; rename Z _ _ _ _ _ => z
  refine y_cons ?_
  refine y_ret ?_
  refine x_dcall (a := 83) ?_
  refine x_glob e (gw.keep71 z.k71) 2 rfl (gv_join_translated_parts w) ?_
  refine ⟨rfl, ?_⟩
  refine evs_cons ?_
  refine x_loc e z 2 rfl rfl ?_
  refine evs_cons ?_
  refine x_loc e z 1 rfl rfl ?_
  refine evs_nil ?_
  refine ⟨fn_at (gw.keep71 z.k71) w.need.f83, ?_⟩
  refine join_call (gw.keep71 z.k71) (ag'.le (by decide)) a st (piecesOf sgs) vs (z.get 0 rfl) hpv (Nat.le_trans (piecesOf_len sgs) hlen) (pieces_small sgs hok) (pieces_wf sgs) fun t' h tk kp => ?_
  replace z := z.keepAll kp
  exact hQ t' h tk z.k71 (z.get 1 rfl)
end
end Mine
namespace Mine
theorem trail_le (l : List Nat) : trail l ≤ l.length := by
  unfold trail
  have := (List.takeWhile_sublist (p := (· == 92)) (l := l.reverse)).length_le
  simpa using this
theorem trail_snoc (l : List Nat) (c : Nat) : trail (l ++ [c]) = if c = 92 then trail l + 1 else 0 := by
  unfold trail
  rw [List.reverse_append, List.reverse_singleton, List.singleton_append, List.takeWhile_cons]
  by_cases h : c = 92
  · subst h; simp
  · have : (c == 92) = false := by simpa using h
    rw [this, if_neg h]; rfl
theorem unit_eq (text : List Nat) {k : Nat} (hk : k < text.length) : unitOf text k =
    if trail (text.take k) % 2 = 1 then some ((k : Int), [92] ++ [text.getD k 0]) else if text.getD k 0 ≠ 92 ∨ k + 1 = text.length then some ((k : Int), [text.getD k 0]) else none := by
  have h1 : cut text none (some (k : Int)) = text.take k := cut_0n text k
  have h2 : (rstripB (text.take k)).length = k - trail (text.take k) := by
    unfold rstripB
    rw [List.length_take, List.length_take, Nat.min_eq_left (Nat.le_of_lt hk), Nat.min_eq_left (Nat.sub_le _ _)]
  have h3 := trail_le (text.take k)
  rw [List.length_take, Nat.min_eq_left (Nat.le_of_lt hk)] at h3
  have h4 : ((k : Int) - ((k - trail (text.take k) : Nat) : Int)) = (trail (text.take k) : Int) := by rw [Int.ofNat_sub h3, Int.sub_sub_self]
  unfold unitOf
  rw [h1, h2, h4, Int.toNat_natCast]
  have h5 : Int.fmod ((trail (text.take k) : Nat) : Int) 2 = ((trail (text.take k) % 2 : Nat) : Int) := by
    rw [Int.fmod_eq_emod_of_nonneg _ (by decide)]; rfl
  rw [h5]
  by_cases h : trail (text.take k) % 2 = 1
  · rw [h, if_pos rfl]; exact if_pos rfl
  · rw [if_neg h]
    have h0 : trail (text.take k) % 2 = 0 := (Nat.mod_two_eq_zero_or_one _).resolve_right h
    rw [h0]
    rw [if_neg (by decide)]
    by_cases hc : text.getD k 0 = 92
    · rw [hc]
      by_cases he : k + 1 = text.length
      · have e : ((k : Int) == (text.length : Int) - 1) = true := by rw [← he]; exact beq_iff_eq.mpr (Int.add_sub_cancel (k : Int) 1).symm
        rw [e, if_pos (by simp), if_pos (.inr he)]
      · have e : ((k : Int) == (text.length : Int) - 1) = false := beq_eq_false_iff_ne.mpr fun q => he (Int.ofNat_inj.mp ((congrArg (· + 1) q).trans (Int.sub_add_cancel _ _)))
        rw [e, if_neg (by simp), if_neg (fun q => q.elim (fun q => q rfl) he)]
    · have hb : ([text.getD k 0] != [92]) = true := by
        rw [bne_iff_ne]; intro q; injection q with q; exact hc q
      rw [hb, Bool.true_or, if_pos rfl, if_pos (.inl hc)]
noncomputable def tailU (text : List Nat) (i : Nat) : List (Int × List Nat) := (List.range (text.length - i)).flatMap fun j => (unitOf text (i + j)).toList
theorem tailU_cons (text : List Nat) {i : Nat} (h : i < text.length) : tailU text i = (unitOf text i).toList ++ tailU text (i + 1) := by
  unfold tailU
  rw [← Nat.succ_pred_eq_of_pos (Nat.sub_pos_of_lt h), Nat.sub_succ, List.range_succ_eq_map, List.flatMap_cons, Nat.add_zero, List.flatMap_map]
  congr 1
  apply congrArg (fun f => List.flatMap f (List.range (text.length - i).pred))
  funext j
  rw [show i + j.succ = i + 1 + j from Nat.add_right_comm i j 1]
theorem esc_tail (text : List Nat) : ∀ (n i : Nat), text.length - i = n → i < text.length → escP (text.drop i) i (decide (trail (text.take i) % 2 = 1)) = tailU text i := by
  intro n
  induction n with
  | zero => intro i h1 h2; exact absurd h1 (Nat.sub_ne_zero_of_lt h2)
  | succ n ih =>
    intro i hn hi
    have hd : text.drop i = text.getD i 0 :: text.drop (i + 1) := by rw [List.drop_eq_getElem_cons hi]; simp [List.getD, List.getElem?_eq_getElem hi]
    have ht : text.take (i + 1) = text.take i ++ [text.getD i 0] := by rw [List.take_succ_eq_append_getElem hi]; simp [List.getD, List.getElem?_eq_getElem hi]
    have hs := trail_snoc (text.take i) (text.getD i 0)
    rw [← ht] at hs
    rw [tailU_cons text hi, unit_eq text hi, hd]
    rcases Nat.lt_or_ge (i + 1) text.length with hl | hl
    · have ihh := ih (i + 1) (by rw [Nat.sub_succ, hn]; rfl) hl
      by_cases ho : trail (text.take i) % 2 = 1
      · have hn0 : decide (trail (text.take (i + 1)) % 2 = 1) = false := by
          rw [hs]; by_cases hc : text.getD i 0 = 92
          · rw [if_pos hc]; exact decide_eq_false (by rw [Nat.add_mod, ho]; decide)
          · rw [if_neg hc]; decide
        rw [hn0] at ihh
        simp only [escP, ho, decide_true, if_true, ihh, Option.toList_some, List.singleton_append]
      · by_cases hc : text.getD i 0 = 92
        · have hn1 : decide (trail (text.take (i + 1)) % 2 = 1) = true := by rw [hs, if_pos hc]; exact decide_eq_true (by rw [Nat.add_mod, (Nat.mod_two_eq_zero_or_one _).resolve_right ho])
          rw [hn1] at ihh
          have hx : ¬ (text.getD i 0 ≠ 92 ∨ i + 1 = text.length) := fun q => q.elim (fun q => q hc) (Nat.ne_of_lt hl)
          simp only [escP, ho, decide_false, Bool.false_eq_true, if_false, hc, beq_self_eq_true, if_true, ihh]
          rw [hc] at hx
          rw [if_neg hx]; rfl
        · have hn0 : decide (trail (text.take (i + 1)) % 2 = 1) = false := by rw [hs, if_neg hc]; decide
          rw [hn0] at ihh
          have hb : ([text.getD i 0] == [92]) = false := by simpa using hc
          simp only [escP, ho, decide_false, Bool.false_eq_true, if_false, hb, ihh]
          rw [if_pos (.inl hc)]; rfl
    · have hle : i + 1 = text.length := Nat.le_antisymm hi hl
      have hd0 : text.drop (i + 1) = [] := List.drop_of_length_le hl
      have ht0 : tailU text (i + 1) = [] := by unfold tailU; rw [Nat.sub_eq_zero_of_le hl]; rfl
      rw [hd0, ht0]
      by_cases ho : trail (text.take i) % 2 = 1
      · simp [escP, ho]
      · by_cases hc : text.getD i 0 = 92
        · simp only [escP, ho, decide_false, Bool.false_eq_true, if_false, hc, beq_self_eq_true, if_true]
          rw [if_pos (.inr hle)]
          rw [show (((i + 1 : Nat) : Int) - 1) = (i : Int) from Int.add_sub_cancel (i : Int) 1]; rfl
        · have hb : ([text.getD i 0] == [92]) = false := by simpa using hc
          simp only [escP, ho, decide_false, Bool.false_eq_true, if_false, hb]
          rw [if_pos (.inl hc)]; rfl
/-- the units told are the units due -/
theorem esc_units (text : List Nat) : escP text 0 false = unitsP text := by
  rcases Nat.eq_zero_or_pos text.length with h | h
  · have : text = [] := List.eq_nil_of_length_eq_zero h
    subst this; rfl
  · have := esc_tail text text.length 0 (by lia) h
    have ht : trail (text.take 0) = 0 := by simp [trail]
    rw [ht] at this
    rw [List.drop_zero] at this
    have e : tailU text 0 = unitsP text := by unfold tailU unitsP unitsAt; simp
    rw [← e, ← this]; rfl
end Mine
namespace Mine
theorem cut_drop (l : List Nat) (k m n : Nat) (i j : Int) (hi : i = ((k + m : Nat) : Int)) (hj : j = ((k + m + n : Nat) : Int)) : cut l (some i) (some j) = ((l.drop k).drop m).take n := by
  subst hi hj
  rw [cut_nn, List.drop_drop, List.take_drop]
/-- what a piece's text lets on: the sign, how long it is -/
noncomputable def PieceIs (l : List Nat) (b : List Nat) : Prop := (l = [46] ∧ b = []) ∨ (l = [97] ∧ b = [97]) ∨ (l = [98] ∧ b = [98]) ∨ (l = [92, 92] ∧ b = [92]) ∨ (l = [91, 42, 93] ∧ b = [42]) ∨ (l = [91, 63, 93] ∧ b = [63]) ∨ (l = [91, 92, 91, 93] ∧ b = [91])
theorem bare_piece {inner rest l b : List Nat} {k : Nat} (h : inner.drop k = l ++ rest) (hl : PieceIs l b) : bareP inner k = some (b, (l.length : Int)) := by
  have c0 : cut inner (some (k : Int)) (some ((k : Int) + 1)) = ((inner.drop k).drop 0).take 1 := cut_drop inner k 0 1 _ _ rfl rfl
  have c1 : cut inner (some ((k : Int) + 1)) (some ((k : Int) + 2)) = ((inner.drop k).drop 1).take 1 := cut_drop inner k 1 1 _ _ rfl rfl
  have c2 : cut inner (some ((k : Int) + 2)) (some ((k : Int) + 3)) = ((inner.drop k).drop 2).take 1 := cut_drop inner k 2 1 _ _ rfl rfl
  have c3 : cut inner (some ((k : Int) + 3)) (some ((k : Int) + 4)) = ((inner.drop k).drop 3).take 1 := cut_drop inner k 3 1 _ _ rfl rfl
  have e3 : ((k : Int) + 3 - 1) = (k : Int) + 2 := Int.add_sub_assoc (k : Int) 3 1
  have e4 : ((k : Int) + 4 - 1) = (k : Int) + 3 := Int.add_sub_assoc (k : Int) 4 1
  rw [h] at c0 c1 c2 c3
  unfold bareP bareH
  rw [c0, c1, c2, e3, e4, c2, c3]
  rcases hl with ⟨rfl, rfl⟩ | ⟨rfl, rfl⟩ | ⟨rfl, rfl⟩ | ⟨rfl, rfl⟩ | ⟨rfl, rfl⟩ | ⟨rfl, rfl⟩ | ⟨rfl, rfl⟩
  all_goals kernel_rfl
end Mine
namespace Mine
theorem getD_drop {l t : List Nat} {k x : Nat} (h : l.drop k = x :: t) : l.getD k 0 = x := by
  have : (l.drop k)[0]? = some x := by rw [h]; rfl
  rw [List.getElem?_drop, Nat.add_zero] at this
  simp [List.getD, this]
/-- a piece is taken -/
theorem takes_piece {inner rest l b word : List Nat} {k : Nat} (h : inner.drop k = l ++ rest) (hl : PieceIs l b) (hr : rest.head? ≠ some 42) (ps : List Int) (deep : Int) :
    takesStep inner word k ps deep = some ((k : Int) + l.length, (ps.filter (takesHit word b)).map (· + 1), deep) := by
  have hb := bare_piece h hl
  have c6 : cut inner (some (k : Int)) (some ((k : Int) + 6)) = ((inner.drop k).drop 0).take 6 := cut_drop inner k 0 6 _ _ rfl rfl
  have c2 : cut inner (some (k : Int)) (some ((k : Int) + 2)) = ((inner.drop k).drop 0).take 2 := cut_drop inner k 0 2 _ _ rfl rfl
  rw [h] at c6 c2
  unfold takesStep
  rw [hb, c6, c2, Int.toNat_natCast]
  have fin : ∀ (p q r : Bool), p = false → q = false → r = false → (if p && deep == 0 then some ((k : Int) + 6, rangeL (ps.headD 0) (word.length + 1), 1) else if q && deep == 1 then some ((k : Int) + 1, ps.take 1, 0)
      else if r && deep == 0 then some ((k : Int) + 2, rangeL (ps.headD 0) (word.length + 1), 2) else some ((k : Int) + l.length, (ps.filter (takesHit word b)).map (· + 1), deep)) = some ((k : Int) + l.length, (ps.filter (takesHit word b)).map (· + 1), deep) := by
    intro p q r hp hq hr; subst hp hq hr; rfl
  rcases hl with ⟨rfl, rfl⟩ | ⟨rfl, rfl⟩ | ⟨rfl, rfl⟩ | ⟨rfl, rfl⟩ | ⟨rfl, rfl⟩ | ⟨rfl, rfl⟩ | ⟨rfl, rfl⟩
  · refine fin _ _ _ (by kernel_rfl) (by rw [getD_drop h]; rfl) ?_
    cases rest with
    | nil => simp
    | cons x t =>
      have : x ≠ 42 := fun q => hr (by rw [q]; rfl)
      simp [this]
  all_goals exact fin _ _ _ (by kernel_rfl) (by rw [getD_drop h]; rfl) (by kernel_rfl)
theorem takes_open {inner rest word : List Nat} {k : Nat} (h : inner.drop k = [40, 63, 62, 46, 42, 63] ++ rest) (ps : List Int) :
    takesStep inner word k ps 0 = some ((k : Int) + 6, rangeL (ps.headD 0) (word.length + 1), 1) := by
  have c6 : cut inner (some (k : Int)) (some ((k : Int) + 6)) = ((inner.drop k).drop 0).take 6 := cut_drop inner k 0 6 _ _ rfl rfl
  rw [h] at c6
  unfold takesStep
  rw [c6]
  rfl
theorem takes_close {inner rest word : List Nat} {k : Nat} (h : inner.drop k = 41 :: rest) (ps : List Int) :
    takesStep inner word k ps 1 = some ((k : Int) + 1, ps.take 1, 0) := by
  have c6 : cut inner (some (k : Int)) (some ((k : Int) + 6)) = ((inner.drop k).drop 0).take 6 := cut_drop inner k 0 6 _ _ rfl rfl
  rw [h] at c6
  unfold takesStep
  rw [c6, Int.toNat_natCast, getD_drop h]
  kernel_rfl
theorem takes_star {inner rest word : List Nat} {k : Nat} (h : inner.drop k = [46, 42] ++ rest) (ps : List Int) :
    takesStep inner word k ps 0 = some ((k : Int) + 2, rangeL (ps.headD 0) (word.length + 1), 2) := by
  have c6 : cut inner (some (k : Int)) (some ((k : Int) + 6)) = ((inner.drop k).drop 0).take 6 := cut_drop inner k 0 6 _ _ rfl rfl
  have c2 : cut inner (some (k : Int)) (some ((k : Int) + 2)) = ((inner.drop k).drop 0).take 2 := cut_drop inner k 0 2 _ _ rfl rfl
  rw [h] at c6 c2
  unfold takesStep
  rw [c6, c2, Int.toNat_natCast, getD_drop h]
  kernel_rfl
end Mine
namespace Mine
theorem takesStep_pos {inner word : List Nat} {k : Int} {ps : List Int} {deep : Int} {s : Int × List Int × Int} (hs : takesStep inner word k ps deep = some s) : k < s.1 := by
  unfold takesStep at hs
  split at hs
  · injection hs with hs; subst hs; dsimp only; lia
  · split at hs
    · injection hs with hs; subst hs; dsimp only; lia
    · split at hs
      · injection hs with hs; subst hs; dsimp only; lia
      · split at hs
        · cases hs
        · rename_i b n hbare
          injection hs with hs; subst hs
          have := bareP_pos hbare
          dsimp only; lia
theorem min_no {n : Nat} {k : Int} (h : (n : Int) < ((0 : Nat) : Int) + min k n) : False :=
  Int.not_le.mpr h (by rw [Int.natCast_zero, Int.zero_add]; exact Int.min_le_right _ _)
theorem min_up {n f : Nat} {k j : Int} (hk : k < n) (hj : k < j) (h : (n : Int) < ((f + 1 : Nat) : Int) + min k n) : (n : Int) < f + min j n := by
  rw [Int.min_eq_left (Int.le_of_lt hk)] at h
  rcases Int.le_total j n with q | q
  · rw [Int.min_eq_left q]; lia
  · rw [Int.min_eq_right q]; lia
theorem takesGo_fuel (inner word : List Nat) : ∀ (f1 f2 : Nat) (k : Int) (ps : List Int) (d : Int), (inner.length : Int) < f1 + min k inner.length → (inner.length : Int) < f2 + min k inner.length → takesGo inner word f1 k ps d = takesGo inner word f2 k ps d := by
  intro f1
  induction f1 with
  | zero => intro f2 k ps d h1 h2; exact (min_no h1).elim
  | succ f1 ih =>
    intro f2 k ps d h1 h2
    cases f2 with
    | zero => exact (min_no h2).elim
    | succ f2 =>
      simp only [takesGo]
      cases hc : (decide (k < (inner.length : Int)) && !decide (ps = [])) with
      | false => simp
      | true =>
        simp only [if_true]
        have hk : k < inner.length := by
          rw [Bool.and_eq_true] at hc; exact of_decide_eq_true hc.1
        cases hs : takesStep inner word k ps d with
        | none => rfl
        | some s =>
          have := takesStep_pos hs
          exact ih f2 s.1 s.2.1 s.2.2 (min_up hk this h1) (min_up hk this h2)
/-- from place k on -/
noncomputable def takesAt (inner word : List Nat) (k : Nat) (ps : List Int) (d : Int) : Bool := takesGo inner word (inner.length + 1) k ps d
theorem takesAt_step {inner word : List Nat} {k k' : Nat} {ps ps' : List Int} {d d' : Int} (hk : k < inner.length) (hp : ps ≠ []) (hs : takesStep inner word k ps d = some ((k' : Int), ps', d')) : takesAt inner word k ps d = takesAt inner word k' ps' d' := by
  unfold takesAt
  have hpos := takesStep_pos hs
  obtain ⟨fu', e, h⟩ := takesGo_step (fu := inner.length + 1) (by lia) hp hs (by lia)
  rw [h]
  have : fu' = inner.length := by lia
  subst this
  refine takesGo_fuel inner word _ _ _ _ _ ?_ ?_
  · dsimp only at hpos ⊢; lia
  · lia
theorem takesAt_none {inner word : List Nat} {k : Nat} {d : Int} : takesAt inner word k [] d = false := by
  unfold takesAt
  rw [takesGo_end (by lia) (by simp)]
  simp
theorem takesAt_end {inner word : List Nat} {ps : List Int} {d : Int} : takesAt inner word inner.length ps d = (d != 1 && ps.any (fun x => x == (word.length : Int))) := by
  unfold takesAt
  exact takesGo_end (by lia) (by simp)
/-- one sign more, all places -/
noncomputable def stepB (word b : List Nat) (ps : List Int) : List Int := (ps.filter (takesHit word b)).map (· + 1)
theorem stepB_nil (word b : List Nat) : stepB word b [] = [] := rfl
/-- a run of pieces -/
theorem PieceIs.head {l b : List Nat} (h : PieceIs l b) : ∃ x t, l = x :: t ∧ x ≠ 42 := by
  rcases h with h | h | h | h | h | h | h <;> exact ⟨_, _, h.1, by decide⟩
theorem takesAt_run {inner word : List Nat} : ∀ (bs : List (List Nat × List Nat)) (rest : List Nat) (k : Nat) (ps : List Int) (d : Int), (∀ p ∈ bs, PieceIs p.1 p.2) → rest.head? ≠ some 42 → inner.drop k = (bs.map (·.1)).flatten ++ rest →
    takesAt inner word k ps d = takesAt inner word (k + ((bs.map (·.1)).flatten).length) (bs.foldl (fun ps p => stepB word p.2 ps) ps) d := by
  intro bs
  induction bs with
  | nil => intro rest k ps d _ _ _; rfl
  | cons p bs ih =>
    intro rest k ps d hb hr h
    have hp := hb p List.mem_cons_self
    have hne : p.1 ≠ [] := by obtain ⟨x, t, e, _⟩ := hp.head; rw [e]; exact List.cons_ne_nil _ _
    have h' : inner.drop k = p.1 ++ ((bs.map (·.1)).flatten ++ rest) := by rw [h, List.map_cons, List.flatten_cons, List.append_assoc]
    have hr' : ((bs.map (·.1)).flatten ++ rest).head? ≠ some 42 := by
      cases bs with
      | nil => exact hr
      | cons q bs =>
        obtain ⟨x, t, e, hx⟩ := (hb q (List.mem_cons_of_mem _ List.mem_cons_self)).head
        rw [List.map_cons, List.flatten_cons, e]
        exact fun c => hx (Option.some.inj c)
    have hkl : k < inner.length := by
      rcases Nat.lt_or_ge k inner.length with q | q
      · exact q
      · exact absurd (List.append_eq_nil_iff.mp (h'.symm.trans (List.drop_of_length_le q))).1 hne
    have hd : inner.drop (k + p.1.length) = (bs.map (·.1)).flatten ++ rest := by rw [← List.drop_drop, h', List.drop_left]
    have ihh := fun ps => ih rest (k + p.1.length) ps d (fun q hq => hb q (List.mem_cons_of_mem _ hq)) hr hd
    have hlen : k + (((p :: bs).map (·.1)).flatten).length = k + p.1.length + ((bs.map (·.1)).flatten).length := by rw [List.map_cons, List.flatten_cons, List.length_append, Nat.add_assoc]
    rw [hlen, List.foldl_cons, ← ihh]
    by_cases hps : ps = []
    · subst hps; rw [stepB_nil, takesAt_none, takesAt_none]
    · refine takesAt_step hkl hps ?_
      rw [takes_piece h' hp hr' ps d]
      rfl
end Mine
namespace Mine
/-- a piece with its sign; none: the star -/
noncomputable abbrev Pc := Option (List Nat × List Nat)
noncomputable def Pc.txt : Pc → Option (List Nat) := Option.map (·.1)
noncomputable def pieceStep (word : List Nat) (ps : List Int) : Pc → List Int
  | none => if ps = [] then [] else rangeL (ps.headD 0) (word.length + 1)
  | some p => stepB word p.2 ps
noncomputable def runOf (l : List Pc) : List (List Nat × List Nat) := l.filterMap id
theorem fold_nil (word : List Nat) (l : List Pc) : l.foldl (pieceStep word) [] = [] := by
  induction l with
  | nil => rfl
  | cons p l ih =>
    rw [List.foldl_cons]
    have : pieceStep word [] p = [] := by cases p <;> rfl
    rw [this]; exact ih
theorem fold_run (word : List Nat) (l : List Pc) (h : ∀ p ∈ l, p.isSome = true) (ps : List Int) : l.foldl (pieceStep word) ps = (runOf l).foldl (fun ps p => stepB word p.2 ps) ps := by
  induction l generalizing ps with
  | nil => rfl
  | cons p l ih =>
    have hp := h p List.mem_cons_self
    obtain ⟨q, rfl⟩ := Option.isSome_iff_exists.mp hp
    rw [List.foldl_cons, ih fun x hx => h x (List.mem_cons_of_mem _ hx)]
    rfl
theorem run_txt (l : List Pc) (h : ∀ p ∈ l, p.isSome = true) : (((l.map Pc.txt).map (·.getD [])).flatten) = ((runOf l).map (·.1)).flatten := by
  induction l with
  | nil => rfl
  | cons p l ih =>
    have hp := h p List.mem_cons_self
    obtain ⟨q, rfl⟩ := Option.isSome_iff_exists.mp hp
    have := ih fun x hx => h x (List.mem_cons_of_mem _ hx)
    simp only [List.map_cons, List.flatten_cons, this]
    rfl
theorem txt_some (p : Pc) : (Pc.txt p).isSome = p.isSome := by cases p <;> rfl
theorem drop_txt (l : List Pc) : (l.map Pc.txt).dropWhile Option.isSome = (l.dropWhile Option.isSome).map Pc.txt ∧ (l.map Pc.txt).takeWhile Option.isSome = (l.takeWhile Option.isSome).map Pc.txt := by
  induction l with
  | nil => exact ⟨rfl, rfl⟩
  | cons p l ih =>
    cases p with
    | none => exact ⟨rfl, rfl⟩
    | some q => simp only [List.map_cons, List.dropWhile_cons, List.takeWhile_cons, txt_some, Option.isSome_some, if_true, ih.1, ih.2]; exact ⟨trivial, trivial⟩
theorem tw_some (l : List Pc) : ∀ p ∈ l.takeWhile Option.isSome, p.isSome = true := by
  intro p hp
  induction l with
  | nil => cases hp
  | cons q l ih =>
    rw [List.takeWhile_cons] at hp
    split at hp
    · rename_i hq
      rcases List.mem_cons.mp hp with rfl | hp
      · exact hq
      · exact ih hp
    · cases hp
theorem mem_run {l : List Pc} {p : List Nat × List Nat} (h : p ∈ runOf l) : some p ∈ l := by
  unfold runOf at h
  obtain ⟨q, hq, e⟩ := List.mem_filterMap.mp h
  have : q = some p := e
  rw [← this]; exact hq
theorem takes_go {inner word : List Nat} : ∀ (f : Nat) (r' : List Pc) (k : Nat) (pt pf : List Int), r'.length + 1 ≤ f → (∀ p : List Nat × List Nat, some p ∈ r' → PieceIs p.1 p.2) → pt.head? = pf.head? → inner.drop k = joinGo f (none :: r'.map Pc.txt) →
    takesAt inner word k pt 0 = ((none :: r').foldl (pieceStep word) pf).any (fun x => x == (word.length : Int)) := by
  intro f
  induction f with
  | zero => intro r' k pt pf h; exact absurd h (Nat.not_succ_le_zero _)
  | succ f ih =>
    intro r' k pt pf hl hpc hh hd
    cases pt with
    | nil =>
      cases pf with
      | nil => rw [takesAt_none, fold_nil]; rfl
      | cons _ _ => simp at hh
    | cons a pt =>
      cases pf with
      | nil => simp at hh
      | cons b pf =>
        have hab : a = b := by simpa using hh
        subst hab
        have hfold : (none :: r').foldl (pieceStep word) (a :: pf) = r'.foldl (pieceStep word) (rangeL a (word.length + 1)) := rfl
        rw [hfold]
        have kl : ∀ {j x : Nat} {t : List Nat}, inner.drop j = x :: t → j < inner.length := fun {j x t} e => by
          rcases Nat.lt_or_ge j inner.length with q | q
          · exact q
          · rw [List.drop_of_length_le q] at e; cases e
        have hdt := drop_txt r'
        have hsplit : r' = r'.takeWhile Option.isSome ++ r'.dropWhile Option.isSome := (List.takeWhile_append_dropWhile).symm
        by_cases h0 : r' = []
        · subst h0
          have hd1 : inner.drop k = [46, 42] ++ [] := hd
          have hlen : k + 2 = inner.length := by have := congrArg List.length hd1; have := kl hd1; simp at *; lia
          rw [takesAt_step (kl hd1) (by simp) (takes_star hd1 (a :: pt)), hlen, takesAt_end]
          rfl
        · have hm0 : r'.map Pc.txt ≠ [] := by simpa using h0
          have hT : (((r'.map Pc.txt).takeWhile Option.isSome).map (·.getD [])).flatten = ((runOf (r'.takeWhile Option.isSome)).map (·.1)).flatten := by
            rw [hdt.2]; exact run_txt _ (tw_some r')
          have hpcs : ∀ p ∈ runOf (r'.takeWhile Option.isSome), PieceIs p.1 p.2 := fun p hp => hpc p ((List.takeWhile_sublist _).subset (mem_run hp))
          by_cases h1 : r'.dropWhile Option.isSome = []
          · have hj : joinGo (f + 1) (none :: r'.map Pc.txt) = [46, 42] ++ ((runOf (r'.takeWhile Option.isSome)).map (·.1)).flatten := by
              show (if r'.map Pc.txt = [] then _ else if (r'.map Pc.txt).dropWhile Option.isSome = [] then _ else _) = _
              rw [if_neg hm0, hdt.1, h1, if_pos List.map_nil, hT]
            rw [hj] at hd
            have hd2 : inner.drop (k + 2) = ((runOf (r'.takeWhile Option.isSome)).map (·.1)).flatten ++ [] := by
              rw [← List.drop_drop, hd]; simp
            have hlen : k + 2 + (((runOf (r'.takeWhile Option.isSome)).map (·.1)).flatten).length = inner.length := by
              have := congrArg List.length hd
              have hk := kl (x := 46) hd
              rw [List.length_drop, List.length_append] at this
              simp only [List.length_cons, List.length_nil] at this
              lia
            have hr : r' = r'.takeWhile Option.isSome := by rw [h1, List.append_nil] at hsplit; exact hsplit
            rw [takesAt_step (kl (x := 46) hd) (by simp) (takes_star hd (a :: pt))]
            show takesAt inner word (k + 2) (rangeL a (word.length + 1)) 2 = _
            rw [takesAt_run _ [] (k + 2) _ 2 hpcs (by simp) hd2, hlen, takesAt_end, ← fold_run word _ (tw_some r'), ← hr]
            rfl
          · obtain ⟨r2, hr2⟩ : ∃ r2, r'.dropWhile Option.isSome = none :: r2 := by
              cases hq : r'.dropWhile Option.isSome with
              | nil => exact absurd hq h1
              | cons p r2 =>
                cases p with
                | none => exact ⟨r2, rfl⟩
                | some q =>
                  have := List.head_dropWhile_not Option.isSome (l := r') (by rw [hq]; simp)
                  simp only [hq, List.head_cons, Option.isSome_some] at this
                  cases this
            have hj : joinGo (f + 1) (none :: r'.map Pc.txt) = [40, 63, 62, 46, 42, 63] ++ ((runOf (r'.takeWhile Option.isSome)).map (·.1)).flatten ++ [41] ++ joinGo f (none :: r2.map Pc.txt) := by
              show (if r'.map Pc.txt = [] then _ else if (r'.map Pc.txt).dropWhile Option.isSome = [] then _ else _) = _
              rw [if_neg hm0, hdt.1, hr2, if_neg (by simp), hT]
              rfl
            rw [hj, List.append_assoc, List.append_assoc] at hd
            have hd2 : inner.drop (k + 6) = ((runOf (r'.takeWhile Option.isSome)).map (·.1)).flatten ++ ([41] ++ joinGo f (none :: r2.map Pc.txt)) := by
              rw [← List.drop_drop, hd]; simp
            have hd3 : inner.drop (k + 6 + (((runOf (r'.takeWhile Option.isSome)).map (·.1)).flatten).length) = 41 :: joinGo f (none :: r2.map Pc.txt) := by
              rw [← List.drop_drop, hd2, List.drop_left]; rfl
            have hd4 : inner.drop (k + 6 + (((runOf (r'.takeWhile Option.isSome)).map (·.1)).flatten).length + 1) = joinGo f (none :: r2.map Pc.txt) := by
              rw [← List.drop_drop, hd3]; rfl
            have hl2 : r2.length + 1 ≤ f := by
              have := congrArg List.length hsplit
              rw [hr2, List.length_append, List.length_cons] at this
              lia
            have hpc2 : ∀ p : List Nat × List Nat, some p ∈ r2 → PieceIs p.1 p.2 := fun p hp => hpc p (by rw [hsplit, hr2]; simp [hp])
            rw [takesAt_step (kl (x := 40) hd) (by simp) (takes_open hd (a :: pt))]
            show takesAt inner word (k + 6) (rangeL a (word.length + 1)) 1 = _
            rw [takesAt_run _ _ (k + 6) _ 1 hpcs (by simp) hd2]
            obtain ⟨X, hX⟩ : ∃ X, X = (runOf (r'.takeWhile Option.isSome)).foldl (fun ps p => stepB word p.2 ps) (rangeL a (word.length + 1)) := ⟨_, rfl⟩
            rw [← hX]
            have hfr : r'.foldl (pieceStep word) (rangeL a (word.length + 1)) = (none :: r2).foldl (pieceStep word) X := by
              rw [hsplit, List.foldl_append, fold_run word _ (tw_some r'), hr2, hX]
            rw [hfr]
            cases hXc : X with
            | nil => rw [takesAt_none, fold_nil]; rfl
            | cons x X' =>
              rw [takesAt_step (kl (x := 41) hd3) (by simp) (takes_close hd3 (x :: X'))]
              exact ih r2 _ _ _ hl2 hpc2 rfl hd4
end Mine
namespace Mine
theorem frame_cut (X : List Nat) : cut ([40, 63, 115, 58] ++ X ++ [41, 92, 90]) (some 4) (some (-3)) = X := by
  have hl : ([40, 63, 115, 58] ++ X ++ [41, 92, 90]).length = ([40, 63, 115, 58] ++ X).length + 3 := List.length_append
  have hx : ([40, 63, 115, 58] ++ X).length = 4 + X.length := List.length_append
  have e1 : clipI ([40, 63, 115, 58] ++ X ++ [41, 92, 90]).length (-3) = ([40, 63, 115, 58] ++ X).length := by
    unfold clipI
    rw [if_pos (by decide), hl, Int.natCast_add, Int.add_comm, Int.add_assoc, Int.min_eq_left (Int.add_le_add_left (by decide) _), show (((3 : Nat) : Int) + -3) = 0 from rfl, Int.add_zero, Int.max_eq_right (Int.natCast_nonneg _), Int.toNat_natCast]
  have e2 : clipI ([40, 63, 115, 58] ++ X ++ [41, 92, 90]).length ((4 : Nat) : Int) = 4 := by rw [clip_nat, hl, hx]; exact Nat.min_eq_left (Nat.le_add_right_of_le (Nat.le_add_right_of_le (Nat.le_refl 4)))
  show (([40, 63, 115, 58] ++ X ++ [41, 92, 90]).take (clipI _ (-3))).drop (clipI _ ((4 : Nat) : Int)) = X
  rw [e1, e2, List.take_left' rfl]
  rfl
theorem takesP_frame (X word : List Nat) : takesP ([40, 63, 115, 58] ++ X ++ [41, 92, 90]) word = takesAt X word 0 [0] 0 := by
  unfold takesP
  rw [frame_cut]
  rw [if_neg (by simp)]
  rfl
end Mine
namespace Mine
theorem joinGo_head (f : Nat) (l : List (Option (List Nat))) : (joinGo f l).head? ≠ some 42 := by
  cases f with
  | zero => simp [joinGo]
  | succ f =>
    cases l with
    | nil => simp [joinGo]
    | cons p l =>
      unfold joinGo
      split
      · simp
      · split <;> simp
/-- the reader takes what the pieces say -/
theorem takes_law (r : List Pc) (word : List Nat) (hpc : ∀ p : List Nat × List Nat, some p ∈ r → PieceIs p.1 p.2) :
    takesP (joinP (r.map Pc.txt)) word = (r.foldl (pieceStep word) [0]).any (fun x => x == (word.length : Int)) := by
  have hdt := drop_txt r
  have hsplit : r = r.takeWhile Option.isSome ++ r.dropWhile Option.isSome := (List.takeWhile_append_dropWhile).symm
  have hT : (((r.map Pc.txt).takeWhile Option.isSome).map (·.getD [])).flatten = ((runOf (r.takeWhile Option.isSome)).map (·.1)).flatten := by
    rw [hdt.2]; exact run_txt _ (tw_some r)
  have hpcs : ∀ p ∈ runOf (r.takeWhile Option.isSome), PieceIs p.1 p.2 := fun p hp => hpc p ((List.takeWhile_sublist _).subset (mem_run hp))
  unfold joinP
  rw [takesP_frame, hT, hdt.1, List.length_map]
  obtain ⟨inner, hin⟩ : ∃ i, i = ((runOf (r.takeWhile Option.isSome)).map (·.1)).flatten ++ joinGo r.length ((r.dropWhile Option.isSome).map Pc.txt) := ⟨_, rfl⟩
  rw [← hin]
  rw [takesAt_run _ (joinGo r.length ((r.dropWhile Option.isSome).map Pc.txt)) 0 [0] 0 hpcs (joinGo_head _ _) (by rw [List.drop_zero]; exact hin), Nat.zero_add]
  have hd : inner.drop (((runOf (r.takeWhile Option.isSome)).map (·.1)).flatten).length = joinGo r.length ((r.dropWhile Option.isSome).map Pc.txt) := by rw [hin, List.drop_left]
  have hf : r.foldl (pieceStep word) [0] = (r.dropWhile Option.isSome).foldl (pieceStep word) ((runOf (r.takeWhile Option.isSome)).foldl (fun ps p => stepB word p.2 ps) [0]) := by
    conv => lhs; rw [hsplit]
    rw [List.foldl_append, fold_run word _ (tw_some r)]
  rw [hf]
  cases hq : r.dropWhile Option.isSome with
  | nil =>
    rw [hq] at hd hin
    have hz : joinGo r.length (([] : List Pc).map Pc.txt) = [] := by cases r.length <;> rfl
    rw [hz, List.append_nil] at hin
    rw [← hin, takesAt_end]; rfl
  | cons p r2 =>
    cases p with
    | some q =>
      have := List.head_dropWhile_not Option.isSome (l := r) (by rw [hq]; simp)
      simp only [hq, List.head_cons, Option.isSome_some] at this
      cases this
    | none =>
      rw [hq] at hd
      refine takes_go r.length r2 _ _ _ ?_ (fun p hp => hpc p (by rw [hsplit, hq]; simp [hp])) rfl hd
      have := congrArg List.length hsplit
      rw [hq, List.length_append, List.length_cons] at this
      lia
end Mine
namespace Mine
noncomputable def pcOf : Sg → Pc
  | .star => none
  | .ask => some ([46], [])
  | .br c => some ([91] ++ (if c = 91 then [92] ++ [c] else [c]) ++ [93], [c])
  | .lit c => some (escOf c, [c])
noncomputable def addPc (r : List Pc) (s : Sg) : List Pc := match s with
  | .star => if r.getLast? = some none then r else r ++ [none]
  | s => r ++ [pcOf s]
noncomputable def pcsOf (sgs : List Sg) : List Pc := sgs.foldl addPc []
theorem pcs_txt (sgs : List Sg) : (pcsOf sgs).map Pc.txt = piecesOf sgs := by
  have step : ∀ (l : List Sg) (r : List Pc), (l.foldl addPc r).map Pc.txt = l.foldl addPiece (r.map Pc.txt) := by
    intro l
    induction l with
    | nil => intro r; rfl
    | cons s l ih =>
      intro r
      rw [List.foldl_cons, List.foldl_cons, ih]
      congr 1
      cases s with
      | star =>
        simp only [addPc, addPiece]
        have e : ((r.map Pc.txt).getLast? = some none) ↔ (r.getLast? = some none) := by
          rw [List.getLast?_map]
          cases r.getLast? with
          | none => simp
          | some p => cases p <;> simp [Pc.txt]
        by_cases h : r.getLast? = some none
        · rw [if_pos h, if_pos (e.mpr h)]
        · rw [if_neg h, if_neg (fun q => h (e.mp q))]; simp [Pc.txt]
      | ask => simp [addPc, addPiece, pcOf, Pc.txt]
      | br c => simp [addPc, addPiece, pcOf, Pc.txt]
      | lit c => simp [addPc, addPiece, pcOf, Pc.txt]
  exact step sgs []
theorem pcs_is (sgs : List Sg) (hok : ∀ s ∈ sgs, s.Ok) : ∀ p : List Nat × List Nat, some p ∈ pcsOf sgs → PieceIs p.1 p.2 := by
  have step : ∀ (l : List Sg) (r : List Pc), (∀ s ∈ l, s.Ok) → (∀ p : List Nat × List Nat, some p ∈ r → PieceIs p.1 p.2) → ∀ p : List Nat × List Nat, some p ∈ l.foldl addPc r → PieceIs p.1 p.2 := by
    intro l
    induction l with
    | nil => intro r _ h; exact h
    | cons s l ih =>
      intro r hl h
      refine ih _ (fun s hs => hl s (List.mem_cons_of_mem _ hs)) fun p hp => ?_
      have hs := hl s List.mem_cons_self
      cases s with
      | star =>
        simp only [addPc] at hp
        split at hp
        · exact h p hp
        · rcases List.mem_append.mp hp with hp | hp
          · exact h p hp
          · cases List.mem_singleton.mp hp
      | ask =>
        rcases List.mem_append.mp hp with hp | hp
        · exact h p hp
        · have e := List.mem_singleton.mp hp
          cases e; exact .inl ⟨rfl, rfl⟩
      | br c =>
        rcases List.mem_append.mp hp with hp | hp
        · exact h p hp
        · rcases hs with rfl | rfl | rfl <;> (cases List.mem_singleton.mp hp; exact (by first | exact .inl ⟨rfl, rfl⟩ | exact .inr (.inl ⟨rfl, rfl⟩) | exact .inr (.inr (.inl ⟨rfl, rfl⟩)) | exact .inr (.inr (.inr (.inl ⟨rfl, rfl⟩))) | exact .inr (.inr (.inr (.inr (.inl ⟨rfl, rfl⟩)))) | exact .inr (.inr (.inr (.inr (.inr (.inl ⟨rfl, rfl⟩))))) | exact .inr (.inr (.inr (.inr (.inr (.inr ⟨rfl, rfl⟩)))))))
      | lit c =>
        rcases List.mem_append.mp hp with hp | hp
        · exact h p hp
        · rcases hs with rfl | rfl | rfl <;> (cases List.mem_singleton.mp hp; exact (by first | exact .inl ⟨rfl, rfl⟩ | exact .inr (.inl ⟨rfl, rfl⟩) | exact .inr (.inr (.inl ⟨rfl, rfl⟩)) | exact .inr (.inr (.inr (.inl ⟨rfl, rfl⟩))) | exact .inr (.inr (.inr (.inr (.inl ⟨rfl, rfl⟩)))) | exact .inr (.inr (.inr (.inr (.inr (.inl ⟨rfl, rfl⟩))))) | exact .inr (.inr (.inr (.inr (.inr (.inr ⟨rfl, rfl⟩)))))))
  exact step sgs [] hok (fun _ q => by cases q)
end Mine
namespace Mine
theorem star_idem (word : List Nat) (ps : List Int) : pieceStep word (pieceStep word ps none) none = pieceStep word ps none := by
  unfold pieceStep
  by_cases h : ps = []
  · subst h; rfl
  · rw [if_neg h]
    obtain ⟨a, ha⟩ : ∃ a, ps.headD 0 = a := ⟨_, rfl⟩
    rw [ha]
    by_cases h2 : rangeL a (word.length + 1) = []
    · rw [if_pos h2, h2]
    · rw [if_neg h2]
      congr 1
      unfold rangeL at h2 ⊢
      cases hn : ((word.length : Int) + 1 - a).toNat with
      | zero => rw [hn] at h2; simp at h2
      | succ n => simp [hn, List.range_succ_eq_map]
theorem fold_pcs (word : List Nat) (sgs : List Sg) (ps0 : List Int) : (pcsOf sgs).foldl (pieceStep word) ps0 = sgs.foldl (fun ps s => pieceStep word ps (pcOf s)) ps0 := by
  have step : ∀ (l : List Sg) (r : List Pc), (l.foldl addPc r).foldl (pieceStep word) ps0 = l.foldl (fun ps s => pieceStep word ps (pcOf s)) (r.foldl (pieceStep word) ps0) := by
    intro l
    induction l with
    | nil => intro r; rfl
    | cons s l ih =>
      intro r
      rw [List.foldl_cons, List.foldl_cons, ih]
      congr 1
      cases s with
      | star =>
        simp only [addPc, pcOf]
        split
        · rename_i h
          obtain ⟨r0, rfl⟩ : ∃ r0, r = r0 ++ [none] := by
            have hne : r ≠ [] := fun q => by rw [q] at h; simp at h
            refine ⟨r.dropLast, ?_⟩
            have e := List.dropLast_concat_getLast hne
            have g := List.getLast?_eq_getLast hne
            rw [h] at g
            injection g with g
            rw [← g] at e
            exact e.symm
          rw [List.foldl_append]
          exact (star_idem word _).symm
        · rw [List.foldl_append]; rfl
      | ask => simp only [addPc]; rw [List.foldl_append]; rfl
      | br c => simp only [addPc]; rw [List.foldl_append]; rfl
      | lit c => simp only [addPc]; rw [List.foldl_append]; rfl
  exact step sgs []
/-- a unit and the sign that stands for it -/
noncomputable def UnitSg (u : List Nat) : Sg → Prop
  | .star => u = [42]
  | .ask => u = [63]
  | .br c => u ≠ [42] ∧ u ≠ [63] ∧ u.getLastD 0 = c
  | .lit c => u ≠ [42] ∧ u ≠ [63] ∧ u.getLastD 0 = c
theorem hit_eq (word u : List Nat) (c : Nat) (h1 : u ≠ [63]) (h2 : u.getLastD 0 = c) : fitsHit word u = takesHit word [c] := by
  funext k
  unfold fitsHit takesHit
  have e : (u == [63]) = false := beq_eq_false_iff_ne.mpr h1
  rw [e, h2]
  simp [Bool.beq_comm]
theorem fits_piece (word u : List Nat) (s : Sg) (h : UnitSg u s) (ps : List Int) : fitsStep word u ps = pieceStep word ps (pcOf s) := by
  unfold fitsStep
  cases s with
  | star =>
    have h : u = [42] := h
    subst h
    simp only [beq_self_eq_true, if_true, pcOf, pieceStep]
    by_cases hp : ps = []
    · simp [hp]
    · simp [hp]
  | ask =>
    have h : u = [63] := h
    subst h
    have e : (([63] : List Nat) == [42]) = false := rfl
    rw [e]
    simp only [Bool.false_eq_true, if_false, pcOf, pieceStep, stepB]
    have eh : fitsHit word [63] = takesHit word [] := by funext k; unfold fitsHit takesHit; simp
    rw [eh]
  | br c =>
    have e : (u == [42]) = false := beq_eq_false_iff_ne.mpr h.1
    rw [e]
    simp only [Bool.false_eq_true, if_false, pcOf, pieceStep, stepB]
    rw [hit_eq word u c h.2.1 h.2.2]
  | lit c =>
    have e : (u == [42]) = false := beq_eq_false_iff_ne.mpr h.1
    rw [e]
    simp only [Bool.false_eq_true, if_false, pcOf, pieceStep, stepB]
    rw [hit_eq word u c h.2.1 h.2.2]
end Mine
namespace Mine
/-- units and the signs that stand for them -/
inductive UnitSgs : List (List Nat) → List Sg → Prop
  | nil : UnitSgs [] []
  | cons {u : List Nat} {s : Sg} {us : List (List Nat)} {ss : List Sg} (h : UnitSg u s) (r : UnitSgs us ss) : UnitSgs (u :: us) (s :: ss)
theorem fits_fold (word : List Nat) {us : List (List Nat)} {ss : List Sg} (h : UnitSgs us ss) : ∀ ps : List Int, us.foldl (fun ps u => fitsStep word u ps) ps = ss.foldl (fun ps s => pieceStep word ps (pcOf s)) ps := by
  induction h with
  | nil => intro ps; rfl
  | cons h r ih => intro ps; rw [List.foldl_cons, List.foldl_cons, fits_piece word _ _ h, ih]
/-- what the reader takes are the words that the units fit -/
theorem takes_fits {us : List (List Nat)} {ss : List Sg} (h : UnitSgs us ss) (hok : ∀ s ∈ ss, s.Ok) (word : List Nat) : takesP (joinP (piecesOf ss)) word = fitsP us word := by
  rw [← pcs_txt, takes_law _ _ (pcs_is ss hok), fold_pcs, ← fits_fold word h]
  unfold fitsP fitsAt
  rw [List.take_length]
end Mine
namespace Mine
/-- the addresses of frames -/
noncomputable def fa (l : List Env) : List Addr := l.filterMap (·.frame)
/-- a frame whose dict stands -/
noncomputable def FrD (h : Heap) (env : Env) : Prop := env.scope.kind = .function ∧ ∃ L o es ep, env.frame = some L ∧ h.get? L = some o ∧ o.data = .dict es ep
/-- the frames that stand, from the inmost on -/
structure Frs (l : List Env) (h : Heap) : Prop where
  st : ∀ env ∈ l, FrD h env
  nd : (fa l).Nodup
/-- all but X stays; of X no more than the slots turn -/
structure KeepF (X : List Addr) (h h' : Heap) : Prop where
  off : ∀ b o, b ∉ X → h.get? b = some o → h'.get? b = some o
  on : ∀ b o, b ∈ X → h.get? b = some o → ∃ sl, h'.get? b = some { o with slots := sl }
theorem KeepF.refl (X : List Addr) (h : Heap) : KeepF X h h := ⟨fun _ _ _ e => e, fun _ o _ e => ⟨o.slots, e⟩⟩
theorem KeepF.trans {X : List Addr} {a b c : Heap} (x : KeepF X a b) (y : KeepF X b c) : KeepF X a c :=
  ⟨fun p o hp e => y.off p o hp (x.off p o hp e), fun p o hp e => let ⟨_, e1⟩ := x.on p o hp e; let ⟨sl, e2⟩ := y.on p _ hp e1; ⟨sl, e2⟩⟩
theorem KeepF.ofKeep (X : List Addr) {a b : Heap} (k : Keep a b) : KeepF X a b := ⟨fun p o _ e => k p o e, fun p o _ e => ⟨o.slots, k p o e⟩⟩
theorem KeepF.up {X : List Addr} {h h' : Heap} (k : KeepF X h h') : h.UpToSlots h' := fun b o e _ => by
  by_cases hb : b ∈ X
  · exact k.on b o hb e
  · exact ⟨o.slots, k.off b o hb e⟩
theorem KeepF.ns {X : List Addr} {h h' : Heap} (k : KeepF X h h') {a : Addr} {m : Str → Option Value} (hn : h.Ns a m) : h'.Ns a m := k.up.ns hn
theorem KeepF.mono {X Y : List Addr} {h h' : Heap} (k : KeepF X h h') (s : ∀ b ∈ X, b ∈ Y) : KeepF Y h h' :=
  ⟨fun b o hb e => k.off b o (fun q => hb (s b q)) e, fun b o _ e => by
    by_cases hb : b ∈ X
    · exact k.on b o hb e
    · exact ⟨o.slots, k.off b o hb e⟩⟩
theorem FrD.up {h h' : Heap} (u : h.UpToSlots h') {env : Env} (x : FrD h env) : FrD h' env :=
  let ⟨hk, L, o, es, ep, hf, ho, hd⟩ := x
  let ⟨sl, e⟩ := u L o ho (fun vs q => by rw [hd] at q; cases q)
  ⟨hk, L, _, es, ep, hf, e, hd⟩
theorem Frs.up {h h' : Heap} (u : h.UpToSlots h') {l : List Env} (x : Frs l h) : Frs l h' := ⟨fun env he => (x.st env he).up u, x.nd⟩
theorem Frs.keep {h h' : Heap} (k : Keep h h') {l : List Env} (x : Frs l h) : Frs l h' := x.up (Heap.UpToSlots.of_keeps k)
theorem G.keepF {w : WK} {X : List Addr} {h h' : Heap} (x : G w h) (k : KeepF X h h') (hX : ∀ b ∈ X, (KK w).lookup b = none) : G w h' :=
  ⟨fun a o e => k.off a o (fun q => by rw [hX a q] at e; cases e) (x.K a o e), let ⟨mb, a, b⟩ := x.b; ⟨mb, k.ns a, b⟩, let ⟨mc, a, b⟩ := x.lim; ⟨mc, k.ns a, b⟩⟩

/-- an exception just made, no traceback yet -/
structure Thrown (cls : Value) (h h' : Heap) (e : Addr) : Prop where
  keep : Keep h h'
  new : h.get? e = none
  there : ∃ ob vs a0, h'.get? e = some ob ∧ ob.cls = cls ∧ ob.data = .fields vs ∧ vs[0]? = some a0 ∧ vs[1]? = some .none
/-- an exception that has been noted, on its way -/
structure Fly (X : List Addr) (l : List Env) (cls : Value) (h : Heap) (e : Addr) (h' : Heap) : Prop where
  fl : ∃ a0, Heap.FlyingW (hideAll h X) l e cls a0 h'
  up : h.UpToSlots h'

theorem funF {X : List Addr} {h h' : Heap} {l : List Env} (hk : h.UpToSlots h') (hs : ∀ env ∈ l, FrD h env) (hX : ∀ b ∈ fa l, b ∈ X) : h'.FunFrames (hideAll h X) l := by
  induction l with
  | nil => trivial
  | cons env l ih =>
    obtain ⟨hkd, L, o, es, ep, hf, ho, hd⟩ := hs env List.mem_cons_self
    have hL : L ∈ X := hX L (by unfold fa; rw [List.filterMap_cons, hf]; exact List.mem_cons_self)
    obtain ⟨sl, e⟩ := hk L o ho (fun vs q => by rw [hd] at q; cases q)
    refine ⟨by rw [hkd]; decide, ⟨L, _, hf, hideAll_none _ hL, e, fun vs q => ?_⟩, ih (fun env he => hs env (List.mem_cons_of_mem _ he)) fun b hb => hX b ?_⟩
    · have q : o.data = .fields vs := q
      rw [hd] at q; cases q
    · unfold fa at hb ⊢
      rw [List.filterMap_cons, hf]
      exact List.mem_cons_of_mem _ hb
theorem stays_hide {X : List Addr} {h h' : Heap} (k : Keep h h') : (hideAll h X).StaysIn h' := fun b o e => k b o (of_hideAll _ e)
theorem Fly.keepF {X : List Addr} {l : List Env} {cls : Value} {h h' : Heap} {e : Addr} (x : Fly X l cls h e h') (hX : ∀ b ∈ X, ∀ o, h.get? b = some o → ∃ es ep, o.data = .dict es ep) : KeepF X h h' := by
  obtain ⟨a0, f⟩ := x.fl
  refine ⟨fun b o hb e => f.1 b o (hideAll_get _ e hb), fun b o hb e => ?_⟩
  obtain ⟨es, ep, hd⟩ := hX b hb o e
  exact x.up b o e (fun vs q => by rw [hd] at q; cases q)
theorem Frs.dicts {l : List Env} {h : Heap} (x : Frs l h) : ∀ b ∈ fa l, ∀ o, h.get? b = some o → ∃ es ep, o.data = .dict es ep := by
  intro b hb o ho
  obtain ⟨env, he, hf⟩ := List.mem_filterMap.mp hb
  obtain ⟨_, L, o', es, ep, hf', ho', hd⟩ := x.st env he
  rw [hf] at hf'; injection hf' with hf'; subst hf'
  rw [ho] at ho'; injection ho' with ho'; subst ho'
  exact ⟨es, ep, hd⟩

section
variable {M : Model} {A : Around} {E : Value → Shared → Prop} {env : Env} {outer : List Env} {g : Array GenState} {d : Drawn} {os : OsState} {cls : Value} {e : Addr}
variable {tk : Nat} {h h' : Heap}
theorem Thrown.new0 (t : Thrown cls h h' e) (X : List Addr) : (hideAll h X).get? e = none := by
  cases q : (hideAll h X).get? e with
  | none => rfl
  | some o => have := of_hideAll _ q; rw [t.new] at this; cases this
theorem FrD.frame {h : Heap} {env : Env} (x : FrD h env) : ∃ L, env.frame = some L := let ⟨_, L, _, _, _, hf, _⟩ := x; ⟨L, hf⟩
/-- the first frame that an exception goes through: noted, and held there -/
theorem note_first {Q : Unit → Shared → Prop} (hfr : A.frames = some (env :: outer)) (fs : Frs (env :: outer) h) (t : Thrown cls h h' e)
    (k : ∀ h₂, Fly (fa (env :: outer)) (env :: outer) cls h e h₂ → Q () ⟨h₂, g, d, tk, os⟩) :
    wpAny M A (noteFrame (.ref e) env) (fun _ s₂ => wpAny M A (setFlight (.ref e) none) Q E s₂) E ⟨h', g, d, tk, os⟩ := by
  obtain ⟨ob, vs, a0, he, rfl, hd, h0, h1⟩ := t.there
  obtain ⟨L, hf⟩ := (fs.st env List.mem_cons_self).frame
  unfold noteFrame
  simp only [hf]
  refine wpAny_bind (wpAny_field (s := ⟨h', g, d, tk, os⟩) he hd h1 ?_)
  rw [if_neg (by decide)]
  refine wpAny_entryW (s := ⟨h', g, d, tk, os⟩) (base := hideAll h (fa (env :: outer))) hfr (funF (Heap.UpToSlots.of_keeps t.keep) fs.st fun _ q => q) hf he (stays_hide t.keep) (t.new0 _) hd (Array.getElem?_eq_some_iff.mp h1).1 h0 fun h₂ hN => ?_
  obtain ⟨n1, n2, n3, n4⟩ := hN
  refine wpAny_landsW (s := ⟨h₂, g, d, tk, os⟩) (L := L) ⟨n1, t.new0 _, n2, n3⟩ fun h₃ fl u => ?_
  exact k h₃ ⟨⟨a0, fl⟩, ((Heap.UpToSlots.of_keeps t.keep).trans n4).trans u⟩
/-- an exception that comes out of a call -/
theorem note_on {X : List Addr} {Q : Unit → Shared → Prop} (hfr : A.frames = some (env :: outer)) {L : Addr} (hf : env.frame = some L) (f : Fly X (env :: outer) cls h e h')
    (k : ∀ h₂, Fly X (env :: outer) cls h e h₂ → Q () ⟨h₂, g, d, tk, os⟩) :
    wpAny M A (noteFrame (.ref e) env) (fun _ s₂ => wpAny M A (setFlight (.ref e) none) Q E s₂) E ⟨h', g, d, tk, os⟩ := by
  obtain ⟨a0, f0⟩ := f.fl
  refine wpAny_looks_onW (s := ⟨h', g, d, tk, os⟩) hfr hf f0 fun h₂ hh u => ?_
  exact wpAny_landsW (s := ⟨h₂, g, d, tk, os⟩) hh fun h₃ fl u' => k h₃ ⟨⟨a0, fl⟩, (f.up.trans u).trans u'⟩
/-- an exception leaves the frame in which it was raised -/
theorem leave_first {Q : Unit → Shared → Prop} (hfr : A.frames = some (env :: outer)) (fs : Frs (env :: outer) h) (t : Thrown cls h h' e)
    (k : ∀ h₂, Fly (fa (env :: outer)) outer cls h e h₂ → Q () ⟨h₂, g, d, tk, os⟩) : wpAny M A (leaving env (.ref e)) Q E ⟨h', g, d, tk, os⟩ := by
  unfold leaving
  refine wpAny_bind (note_first hfr fs t fun h₂ f => ?_)
  obtain ⟨a0, f1, f2, ⟨_, _, f3⟩, f4⟩ := f.fl
  exact k h₂ ⟨⟨a0, f1, f2, f3, f4⟩, f.up⟩
end
end Mine
namespace Mine
/-- what stands at the frames is none of the text's own -/
noncomputable def Apt (w : WK) (l : List Env) : Prop := ∀ b ∈ fa l, (KK w).lookup b = none
section
variable {prog : Program} {w : WK} {A : Around} {E : Value → Shared → Prop} {env : Env} {outer : List Env} {L : Addr} {names gl : List Str}
theorem Fly.last {X : List Addr} {cls : Value} {e : Addr} {h h' : Heap} {l : List Env} {g : Array GenState} {d : Drawn} {tk : Nat} {os : OsState} (f : Fly X l cls h e h') {M : Model} {Q : Unit → Shared → Prop} (k : ∀ h₂, Fly X l cls h e h₂ → Q () ⟨h₂, g, d, tk, os⟩) :
    wpAny M A (setFlight (.ref e) none) Q E ⟨h', g, d, tk, os⟩ :=
  let ⟨a0, f0⟩ := f.fl
  lands_againW (s := ⟨h', g, d, tk, os⟩) f0 fun h₂ fl u => k h₂ ⟨⟨a0, fl⟩, f.up.trans u⟩
inductive PTrB (M : Model) (w : WK) (A : Around) (env : Env) (outer : List Env) (X : String) (suite : List Stmt) (Q : Flow → Shared → Prop) (v : Value) (s₁ : Shared) : Prop
  | mk (e : Addr) (h h' : Heap) (g : Array GenState) (d : Drawn) (tk : Nat) (os : OsState) (e1 : v = .ref e) (e2 : s₁ = ⟨h', g, d, tk, os⟩) (t : Thrown (.type X) h h' e) (f : Frs (env :: outer) h) (gw : G w h)
      (k : ∀ h₂ tk₂, KeepF (fa (env :: outer)) h h₂ → G w h₂ → wpAny M (A.mark (some (.ref e))) (execs suite env) Q (fun _ _ => False) ⟨h₂, g, d, tk₂, os⟩)
/-- try .. except T, T a built-in class; what is raised comes out of the frame itself -/
theorem x_tryB {body : List Stmt} {x : Str} {np hpos pos : Pos} {b₀ : Stmt} {suite : List Stmt} {T X' : String} {Q : Flow → Shared → Prop} {s : Shared} (ev : EnvL env L names gl) (i : Nat) (hx : gl[i]? = some x) (gv : GV w x (.type T)) (hfr : A.frames = some (env :: outer))
    (hexc : isSubtype (.type T) (.type "BaseException") = pure true) (hnt : isSubtype (.type ((Manifest.find? T).elim "type" fun y => y.metatype)) (.type "tuple") = pure false) (hsub : isSubtype (.type X') (.type T) = pure true) (apt : Apt w (env :: outer))
    (k : wpAny (model prog w.w) A (execs body env) Q (PTrB (model prog w.w) w A env outer X' (b₀ :: suite) Q) s) :
    wpAny (model prog w.w) A (exec (.Try body [.ExceptHandler (some (.Name x np)) none (b₀ :: suite) hpos] [] [] pos) env) Q E s := by
  refine wpAny_Try_except (wpAny_mono k (fun f s₁ q => ?_) fun v s₁ q => ?_)
  · cases f with
    | next => exact wpAny_execs_nil q
    | cont => exact q
    | brk => exact q
    | ret v => exact q
  · obtain ⟨e, h, h', g, d, tk, os, rfl, rfl, t, fs, gw, k⟩ := q
    refine note_first hfr fs t fun h₂ f => ?_
    have kf := f.keepF fs.dicts
    refine wpAny_handleBy_builtin (X := X') (T := T) (b := true) hexc hnt hsub (x_glob ev (gw.keepF kf apt) i hx gv ⟨rfl, ?_, ?_⟩)
    · obtain ⟨a0, f0⟩ := f.fl
      exact f0.there
    · rw [if_pos rfl]
      refine f.last fun h₃ f => ?_
      have kf := f.keepF fs.dicts
      exact wpAny_mono (k h₃ tk kf (gw.keepF kf apt)) (fun _ _ q => q) fun _ _ q => q.elim
end
/-- a class of the text's own, derived of the built-in ones -/
theorem own_at {w : WK} {h : Heap} (gw : G w h) {C : Addr} {bmB : List Value} {newId : String} (q : ExcAt (KK w) C bmB newId) (x : Str) : OwnCls x C bmB newId (fun _ => some (.ref C)) h := by
  obtain ⟨bm, ns, nm, qn, bs, hd, sn, sub, ab, col, dd, k0, k1, k2, k3, k5, ho, hok, hni, ht⟩ := q
  exact ⟨rfl, bm, ns, nm, qn, bs, hd, sn, sub, ab, col, dd, k0, k1, k2, k3, k5, _, gw.K _ _ ho, .of_isNs (isNs_of_in gw.K hok), nsMap_none_of_in gw.K hok hni, tail_of_in gw.K ht⟩
section
variable {prog : Program} {w : WK} {A : Around} {E : Value → Shared → Prop} {env : Env} {outer : List Env} {L : Addr} {names gl : List Str}
inductive PTrC (M : Model) (w : WK) (A : Around) (env : Env) (outer : List Env) (C : Addr) (suite : List Stmt) (Q : Flow → Shared → Prop) (v : Value) (s₁ : Shared) : Prop
  | mk (X : List Addr) (e : Addr) (h h' : Heap) (g : Array GenState) (d : Drawn) (tk : Nat) (os : OsState) (e1 : v = .ref e) (e2 : s₁ = ⟨h', g, d, tk, os⟩) (f : Fly X (env :: outer) (.ref C) h e h') (gw : ∀ h₂, Fly X (env :: outer) (.ref C) h e h₂ → G w h₂)
      (k : ∀ h₂ tk₂, Fly X (env :: outer) (.ref C) h e h₂ → wpAny M (A.mark (some (.ref e))) (execs suite env) Q (fun _ _ => False) ⟨h₂, g, d, tk₂, os⟩)
/-- try .. except C, C a class of the text's own; what is raised comes out of a call -/
theorem x_tryC {body : List Stmt} {x : Str} {np hpos pos : Pos} {b₀ : Stmt} {suite : List Stmt} {C : Addr} {bmB : List Value} {newId : String} {Q : Flow → Shared → Prop} {s : Shared} (ev : EnvL env L names gl) (hfL : env.frame = some L) (i : Nat) (hx : gl[i]? = some x) (gv : GV w x (.ref C)) (hfr : A.frames = some (env :: outer))
    (qc : ExcAt (KK w) C bmB newId) (hbase : bmB.contains (.type "BaseException") = true)
    (k : wpAny (model prog w.w) A (execs body env) Q (PTrC (model prog w.w) w A env outer C (b₀ :: suite) Q) s) :
    wpAny (model prog w.w) A (exec (.Try body [.ExceptHandler (some (.Name x np)) none (b₀ :: suite) hpos] [] [] pos) env) Q E s := by
  refine wpAny_Try_except (wpAny_mono k (fun f s₁ q => ?_) fun v s₁ q => ?_)
  · cases f with
    | next => exact wpAny_execs_nil q
    | cont => exact q
    | brk => exact q
    | ret v => exact q
  · obtain ⟨X, e, h, h', g, d, tk, os, rfl, rfl, f, hgw, k⟩ := q
    refine note_on hfr hfL f fun h₂ f => ?_
    refine wpAny_handleBy_cons (codeAny_handlers_test (x_glob ev (hgw h₂ f) i hx gv ?_)) (by intro q; cases q)
    obtain ⟨a0, f0⟩ := f.fl
    obtain ⟨oe, hoe, hcls⟩ := f0.there
    obtain ⟨bm, N, nm, q, bs, hdct, sn, sub, ab, col, dd, k0, k1, k2, k3, k5, mN, hC, hN, hq, T⟩ := (own_at (hgw h₂ f) qc x).obj
    refine wpAny_excMatches_sub_self hC hoe hcls (T.hasType hbase) ?_
    refine codeAny_handlers_suite ?_
    refine f.last fun h₃ f => ?_
    exact wpAny_mono (k h₃ tk f) (fun _ _ q => q) fun _ _ q => q.elim
end
end Mine
namespace Mine
section
variable {prog : Program} {w : WK} {A : Around} {E : Value → Shared → Prop} {g : Array GenState} {d : Drawn} {os : OsState}
variable {h : Heap} {tk : Nat}
/-- the arguments are bound -/
inductive PBi (prog : Program) (w : WK) (A : Around) (E : Value → Shared → Prop) (g : Array GenState) (d : Drawn) (os : OsState) (N : Nat) (body : List Stmt) (ks rest gl : List Str) (h : Heap) (Q : Value → Shared → Prop) (binds : List (Str × Value)) (s₁ : Shared) : Prop
  | mk (h₁ : Heap) (tk₁ : Nat) (vs : List Value) (e : s₁ = ⟨h₁, g, d, tk₁, os⟩) (kp : Keep h h₁) (e1 : binds = ks.zip vs) (hl : ks.length = vs.length)
      (k : ∀ env L h₂ tk₂, EnvL env L (ks ++ rest) gl → env.frame = some L → AG N (A.deeper env) → Z (Sb h₁) L (fr (ks ++ rest) (vs.map some ++ rest.map fun _ => none)) [] h₂ →
        wpAny (model prog w.w) (A.deeper env) (execs body env) (QF Q) (ELv (model prog w.w) (A.deeper env) env E) ⟨h₂, g, d, tk₂, os⟩)
theorem c_callG {a : Addr} {fd : FuncData} {body : List Stmt} {ks rest gl : List Str} {args : List Value} {R : Result → Shared → Prop} {N : Nat} (D : DefAt w a fd body ks rest gl) (gw : G w h) (ag : AG (N + 1) A)
    (hb : wpAny (model prog w.w) A.in1 (bindArgs fd ⟨args, []⟩) (PBi prog w A (fun v => R (.error v)) g d os N body ks rest gl h (fun v => R (.ok (.ret v)))) (fun _ _ => False) ⟨h, g, d, tk, os⟩) :
    codeAny (model prog w.w) A (.call (.ref a) ⟨args, []⟩) R ⟨h, g, d, tk, os⟩ := by
  obtain ⟨c, dd, sl, hk⟩ := D.look
  have ho := gw.K _ _ hk
  have hloc : ∀ y ∈ ks, fd.scope.names.lookup y = some .local := fun y hy => by
    have := List.all_eq_true.mp D.loc y (List.mem_append_left _ hy)
    rw [Bool.and_eq_true] at this
    exact eq_of_beq this.1
  refine codeAny_call_function ag.room ho rfl D.co D.gen D.body (codeRec_of gw.K D.code) (wpAny_mono hb (fun binds s₁ q => ?_) fun _ _ q => q.elim)
  obtain ⟨h₁, tk₁, vs, rfl, k₁, rfl, hl, q⟩ := q
  refine wpAny_newFunctionEnv (s := ⟨h₁, g, d, tk₁, os⟩) (fun y hy => by have := List.all_eq_true.mp D.cell y hy; simpa using this) (fun y hy => hloc _ (List.of_mem_zip hy).1) (fun h₂ hns hsb => ⟨(gw.lim.keeps k₁).fresh _ hsb, codeAny_func ?_⟩) D.kind
  have hns' : h₂.Ns h₁.objs.size (fr (ks ++ rest) (vs.map some ++ rest.map fun _ => none)) := by
    rw [← fr_binds ks rest vs D.nd hl]; exact hns
  have k₂ : Keep h₁ h₂ := fun b o e => hsb.extBut b o (Nat.ne_of_lt (Heap.lt_size e)) (Heap.get?_push_of_some _ e)
  exact q _ h₁.objs.size h₂ _ (D.envL _) rfl (ag.deeper _) (Sb.Z_enter hns' k₂)
/-- a call of a def: its arguments bound in their own way, what it raises told -/
theorem x_callG {a : Addr} {fd : FuncData} {body : List Stmt} {ks rest gl : List Str} {args : List Value} {Q : Value → Shared → Prop} {N : Nat} (D : DefAt w a fd body ks rest gl) (gw : G w h) (ag : AG (N + 1) A)
    (hb : wpAny (model prog w.w) A.in1 (bindArgs fd ⟨args, []⟩) (PBi prog w A E g d os N body ks rest gl h Q) (fun _ _ => False) ⟨h, g, d, tk, os⟩) :
    wpAny (model prog w.w) A (call (.ref a) args) Q E ⟨h, g, d, tk, os⟩ := wpAny_call (c_callG D gw ag hb)
end
end Mine
namespace Mine
theorem Z.frs {env : Env} {L : Addr} {ks gl : List Str} {h₁ h₂ : Heap} {m : Str → Option Value} {n : List (Addr × (Obj → Prop))} {l : List Env} (e : EnvL env L ks gl) (hf : env.frame = some L) (z : Z (Sb h₁) L m n h₂) (fs : Frs l h₁) : Frs (env :: l) h₂ := by
  have k : Keep h₁ h₂ := fun b o q => z.keep b o q
  have f2 := fs.keep k
  obtain ⟨o, es, ep, ho, hd, _⟩ := z.ns
  refine ⟨fun env' he => ?_, ?_⟩
  · rcases List.mem_cons.mp he with rfl | he
    · exact ⟨e.kind, L, o, es, ep, hf, ho, hd⟩
    · exact f2.st env' he
  · unfold fa
    rw [List.filterMap_cons, hf]
    refine List.nodup_cons.mpr ⟨fun q => ?_, fs.nd⟩
    obtain ⟨env', he, hf'⟩ := List.mem_filterMap.mp q
    obtain ⟨_, L', o', _, _, hf'', ho', _⟩ := fs.st env' he
    rw [hf'] at hf''; injection hf'' with hf''; subst hf''
    exact z.apart o' ho'
theorem Z.apt {w : WK} {env : Env} {L : Addr} {h₁ h₂ : Heap} {m : Str → Option Value} {n : List (Addr × (Obj → Prop))} {l : List Env} (hf : env.frame = some L) (z : Z (Sb h₁) L m n h₂) (gw : G w h₁) (ap : Apt w l) : Apt w (env :: l) := by
  intro b hb
  unfold fa at hb
  rw [List.filterMap_cons, hf] at hb
  rcases List.mem_cons.mp hb with rfl | hb
  · cases q : (KK w).lookup b with
    | none => rfl
    | some o => exact absurd (gw.K _ _ q) (z.apart o)
  · exact ap b hb

/-- an instance's own dict -/
noncomputable def NsU (m : Str → Option Value) : Obj → Prop := fun o => ∃ es ep, o.data = .dict es ep ∧ StrKeys es ∧ UniqKeys es ∧ ∀ name, nsFind es name = m name
theorem NsU.at {h : Heap} {a : Addr} {m : Str → Option Value} (x : ∃ o, h.get? a = some o ∧ NsU m o) : h.Ns1 a m := let ⟨o, ho, es, ep, r⟩ := x; ⟨o, es, ep, ho, r⟩
theorem NsU.of {h : Heap} {a : Addr} {m : Str → Option Value} (x : h.Ns1 a m) : ∃ o, h.get? a = some o ∧ NsU m o := let ⟨o, es, ep, ho, r⟩ := x; ⟨o, ho, es, ep, r⟩
theorem within_fr (names : List Str) (vals : List (Option Value)) : Within (fr names vals) names := by
  induction names generalizing vals with
  | nil => intro x hx; simp [fr] at hx
  | cons y ys ih =>
    intro x hx
    cases vals with
    | nil => simp [fr] at hx
    | cons v vs =>
      rw [fr_cons] at hx
      by_cases hxy : x = y
      · subst hxy; exact List.mem_cons_self
      · rw [if_neg hxy] at hx; exact List.mem_cons_of_mem _ (ih vs x hx)
theorem lookIn_ns {o : Obj} {m : Str → Option Value} (hn : NsU m o) (name : Str) : lookIn name o = some (m name) := by
  obtain ⟨es, ep, hd, hk, _, hm⟩ := hn
  unfold lookIn
  rw [hd, ← hm name]
  unfold nsFind findBy
  rw [← Array.find?_toList]
  dsimp only
  cases e : es.toList.find? (fun x => x.key.isStr name) with
  | some en => rfl
  | none =>
    have hany : es.toList.any (·.refKey) = false := by
      rw [List.any_eq_false]
      intro x hx
      obtain ⟨n, t, h⟩ := hk x (Array.mem_toList_iff.mp hx)
      simp [DictEntry.refKey, h]
    simp [hany]

theorem InstAt.of {h : Heap} {x C dx : Addr} {sl : Array (Option Value)} {od : Obj} (hx : h.get? x = some { cls := .ref C, dict := some dx, data := .plain, slots := sl }) (hd : h.get? dx = some od) :
    InstAt h x { cls := .ref C, dict := some dx, data := .plain, slots := sl } C (some od) := ⟨hx, rfl, rfl, hd⟩

section
variable {prog : Program} {w : WK} {A : Around} {E : Value → Shared → Prop} {g : Array GenState} {d : Drawn} {os : OsState} {x dx C : Addr} {sl : Array (Option Value)} {name : Str} {v : Value}
variable {h : Heap} {tk : Nat} {m : Str → Option Value}
/-- an attribute in an instance's own dict -/
theorem x_getown {Q : Value → Shared → Prop} {expr : Bool} (pc : PlainC (KK w) C) (gw : G w h) (hx : h.get? x = some { cls := .ref C, dict := some dx, data := .plain, slots := sl }) (hd : ∃ o, h.get? dx = some o ∧ NsU m o) (hm : m name = some v)
    (hc : findIn (KK w) (.ref C) name = some none) (hh : (clsIn (KK w) C).any (·.hasDict) = true) (hv : handedIn v = true) (k : ∀ tk', Q v ⟨h, g, d, tk', os⟩) : wpAny (model prog w.w) A (getAttr (.ref x) name expr) Q E ⟨h, g, d, tk, os⟩ := by
  obtain ⟨od, hod, hn⟩ := hd
  obtain ⟨cd, hcd, hhd⟩ := any_some hh
  refine get_value (s := ⟨h, g, d, tk, os⟩) (v := v) gw.K (InstAt.of hx hod) pc.ga ?_ hv (k _)
  have hl := lookIn_ns hn name
  rw [hm] at hl
  unfold findObj W.ownOf
  simp only [hcd, hc, hhd, hl, Option.bind_some, if_true]
/-- a store into an instance's own dict -/
theorem x_setown {Q : Unit → Shared → Prop} (pc : PlainC (KK w) C) (gw : G w h) (hx : h.get? x = some { cls := .ref C, dict := some dx, data := .plain, slots := sl }) (hd : h.Ns1 dx m) {ns : List Str} (hw : Within m ns) (hsz : ns.length ≤ 1000)
    (ht : takerIn (KK w) C name = some none) (hh : (clsIn (KK w) C).any (·.hasDict) = true)
    (k : ∀ h' tk', h'.Ns1 dx (fun y => if y = name then some v else m y) → Heap.SameBut dx h h' → Q () ⟨h', g, d, tk', os⟩) : wpAny (model prog w.w) A (setAttr (.ref x) name v) Q E ⟨h, g, d, tk, os⟩ := by
  obtain ⟨od, es, ep, hod, hdd, _⟩ := id hd
  obtain ⟨cd, hcd, hhd⟩ := any_some hh
  refine set_plain (s := ⟨h, g, d, tk, os⟩) gw.K (InstAt.of hx hod) pc.sa ?_
  refine osa_open (s := ⟨h, g, d, tk + 1, os⟩) gw.K (InstAt.of hx hod) pc.po ht fun b => ?_
  refine wpAny_bind (wpAny_pure (wpAny_bind (wpAny_bind (wpAny_loadPart hx (wpAny_bind ((looks_clsIn gw.K hcd).here ?_))))))
  rw [hhd]
  refine wpAny_pure (a := some dx) (wpAny_bind (wpAny_pure (wpAny_bind ?_)))
  refine wpAny_nsSet1 (s := ⟨h, g, d, tk + 1, os⟩) hd fun h' hn hs => ?_
  obtain ⟨oD, esD, epD, hoD, hdD, hcD⟩ := hn.count (Within.cons name v hw)
  refine wpAny_bind (wpAny_lookBehind (s := ⟨h', g, d, tk + 1 + 1, os⟩) hoD (by rw [hdD]; exact pastItsLine_dict (Nat.le_trans hcD (by rw [List.length_cons, sizeLine_eq]; lia))) ?_)
  exact wpAny_pure (k h' _ hn hs)
/-- an attribute that is a slot -/
theorem x_getslot {Q : Value → Shared → Prop} {expr : Bool} {od : Obj} {p i : Nat} (pc : PlainC (KK w) C) (gw : G w h) (hx : h.get? x = some { cls := .ref C, dict := some dx, data := .plain, slots := sl }) (hd : h.get? dx = some od)
    (hf : findObj (KK w) C (some od) name = some (.bind (.builtin "member_descriptor.__get__") (.ref p))) (hp : slotIn (KK w) p C = some i) (hv : (sl[i]?).join = some v) (hh : handedIn v = true)
    (k : ∀ tk', Q v ⟨h, g, d, tk', os⟩) : wpAny (model prog w.w) A (getAttr (.ref x) name expr) Q E ⟨h, g, d, tk, os⟩ := by
  refine get_bind (s := ⟨h, g, d, tk, os⟩) gw.K (InstAt.of hx hd) pc.ga hf pc.gt ?_
  refine wpAny_call ?_
  refine slot_get (s := ⟨h, g, d, tk + 1, os⟩) gw.K (InstAt.of hx hd) hp hv ?_
  exact handed_on hh (k _)
/-- a store into a slot -/
theorem x_setslot {Q : Unit → Shared → Prop} {od : Obj} {p i : Nat} (pc : PlainC (KK w) C) (gw : G w h) (hx : h.get? x = some { cls := .ref C, dict := some dx, data := .plain, slots := sl }) (hd : h.get? dx = some od)
    (ht : takerIn (KK w) C name = some (some (.ref p))) (hT : typeIn (KK w) (.ref p) = some (.type "member_descriptor")) (hp : slotIn (KK w) p C = some i) (hi : i < 1000)
    (k : ∀ h' tk', h'.get? x = some { cls := .ref C, dict := some dx, data := .plain, slots := (sl ++ Array.replicate (i + 1 - sl.size) none).setIfInBounds i (some v) } → Heap.SameBut x h h' → Q () ⟨h', g, d, tk', os⟩) :
    wpAny (model prog w.w) A (setAttr (.ref x) name v) Q E ⟨h, g, d, tk, os⟩ := by
  have I := InstAt.of hx hd
  refine set_plain (s := ⟨h, g, d, tk, os⟩) gw.K I pc.sa ?_
  refine osa_descr (s := ⟨h, g, d, tk + 1, os⟩) KF.slot_mset gw.K I pc.po ht hT ?_
  obtain ⟨n, tn, owner, behind, tb, dd, sl', cd, ho, hc, hm, hb, rfl⟩ := slot_of gw.K hp
  have f3 := looks_field (M := model prog w.w) ho 3 (v := .builtin "proto.slot#set") rfl
  have f0 := looks_field (M := model prog w.w) ho 0 (v := .str n tn) rfl
  have f1 := looks_field (M := model prog w.w) ho 1 (v := owner) rfl
  have f4 := looks_field (M := model prog w.w) ho 4 (v := .int behind tb) rfl
  have c1 := I.type (M := model prog w.w)
  have c2 := looks_mroIn (M := model prog w.w) gw.K hm
  have c3 : Looks (model prog w.w) h (Builtin.Slots.slotNamesOf (.ref C)) cd.slotNames := (looks_clsIn gw.K hc).andThen .now
  have f5 : Looks (model prog w.w) h (Builtin.Getset_descriptor.descrItself (.ref p)) [.ref p] := ((Looks.ld (part := none) ho).andThen .now).andThen (Looks.of_pure (by kernel_rfl))
  refine codeAny_call_builtin KF.slot_mset.plain KF.entry_mset (KF.slot_mset.check _ _ _ _ _ _ _ _ ⟨_, ho, rfl⟩ (KF.args_mset _ _ _) ?_)
  unfold Builtin.«member_descriptor.__set__» Builtin.Getset_descriptor.descrSet Builtin.Getset_descriptor.descrStoreThrough Builtin.Getset_descriptor.descrCheckInstance Builtin.Getset_descriptor.descrNameAndClass isInstance
  repeat lk
  refine ⟨Code.quiet_builtin _ (by decide +kernel), codeAny_builtin KF.entry_slotset ?_⟩
  unfold Builtin.«proto.slot#set» Builtin.Slots.target
  repeat lk
  rw [if_neg hb]
  refine wpAny_pure (wpAny_bind ?_)
  unfold setSlotAt
  dsimp only
  rw [if_neg (by rw [sizeLine_eq]; lia)]
  refine wpAny_updatePart hx (wpAny_pure ?_)
  exact k _ _ (Heap.get?_update_self _ hx rfl) (Heap.SameBut.update ..)
end
end Mine
namespace Mine
section
variable {prog : Program} {w : WK} {A : Around} {E : Value → Shared → Prop} {g : Array GenState} {d : Drawn} {os : OsState}
variable {h : Heap} {tk : Nat} {s : Shared}
/-- arguments bound without more ado -/
theorem bind_eq {fd : FuncData} {args : List Value} {bs : List (Str × Value)} {M : Model} {Q : List (Str × Value) → Shared → Prop} (hb : bindArgs fd ⟨args, []⟩ = pure bs) (k : Q bs s) : wpAny M A (bindArgs fd ⟨args, []⟩) Q E s := by
  rw [hb]; exact wpAny_pure k
theorem tc_weight (C : Addr) (r : List Value) (k : List (Str × Value)) : (Code.builtin "type.__call__" ⟨.ref C :: r, k⟩).weight = 1 := by kernel_rfl
theorem tc_units (C : Addr) (r : List Value) (k : List (Str × Value)) : (Code.builtin "type.__call__" ⟨.ref C :: r, k⟩).cUnits = 1 := by kernel_rfl
theorem AG.make {n : Nat} {A : Around} (x : AG (n + 1) A) (C : Addr) (r : List Value) (k : List (Str × Value)) : AG n (A.under (.builtin "type.__call__" ⟨.ref C :: r, k⟩)) := by
  refine ⟨x.hh, ?_, ?_⟩
  · have := x.dp; show A.depth + (Code.builtin "type.__call__" ⟨.ref C :: r, k⟩).weight + n ≤ 900; rw [tc_weight]; lia
  · have := x.un; show A.units + (Code.builtin "type.__call__" ⟨.ref C :: r, k⟩).cUnits + 10 * n ≤ 9000; rw [tc_units]; lia
/-- a class of the text's own, called: a fresh instance, then its __init__ -/
theorem x_make {C fI : Addr} {rest : List Value} {Q : Value → Shared → Prop} (gw : G w h) (hm : makesIn (KK w) C = true) (hi : findIn (KK w) (.ref C) "__init__" = some (some (.ref fI))) (hf : typeIn (KK w) (.ref fI) = some (.type "function"))
    (k : ∀ x dx h₁, Keep h h₁ → h.get? x = none → h.get? dx = none → dx ≠ x → h₁.get? x = some { cls := .ref C, dict := some dx, data := .plain } → h₁.get? dx = some { cls := .type "dict", data := .dict #[] } →
      codeAny (model prog w.w) (A.under (.builtin "type.__call__" ⟨.ref C :: rest, []⟩)) (.call (.ref fI) ⟨.ref x :: rest, []⟩) (fun r s' => match r with | .ok (.ret v) => v = .none ∧ Q (.ref x) s' | .ok _ => False | .error e => E e s') ⟨h₁, g, d, tk, os⟩) :
    wpAny (model prog w.w) A (call (.ref C) rest) Q E ⟨h, g, d, tk, os⟩ := by
  refine wpAny_call ?_
  refine make_core (makes_of gw.K hm) (looks_findIn gw.K hi) (fun self => bind_fn gw.K self hf) (.inl rfl) ?_
  have hsz : (h.push emptyDict).objs.size = h.objs.size + 1 := Heap.size_push ..
  have g1 : ((h.push emptyDict).push (instObj C h.objs.size)).get? (h.objs.size + 1) = some (instObj C h.objs.size) := by
    have := Heap.get?_push_size (h.push emptyDict) (o := instObj C h.objs.size) rfl
    rw [hsz] at this; exact this
  have g2 : ((h.push emptyDict).push (instObj C h.objs.size)).get? h.objs.size = some emptyDict := Heap.get?_push_of_some _ (Heap.get?_push_size _ rfl)
  have n1 : h.get? (h.objs.size + 1) = none := by
    cases e : h.get? (h.objs.size + 1) with
    | none => rfl
    | some o => exact absurd (Heap.lt_size e) (Nat.not_lt.mpr (Nat.le_succ _))
  refine codeAny_mono (k _ _ _ (fun b o e => Heap.get?_push_of_some _ (Heap.get?_push_of_some _ e)) n1 (get_size h) (Nat.ne_of_lt (Nat.lt_succ_self _)) g1 g2) fun r s' q => ?_
  rcases r with e | (v | _ | _ | _) <;> exact q
/-- a method of an instance is called -/
inductive PFn (M : Model) (A : Around) (E : Value → Shared → Prop) (f x : Addr) (Q : Value → Shared → Prop) (vs : List Value) (s₂ : Shared) : Prop
  | mk (hf : ∃ o fd, s₂.heap.get? f = some o ∧ o.data = .func fd) (k : wpAny M A (call (.ref f) (.ref x :: vs)) Q E s₂)
inductive POm (prog : Program) (w : WK) (A : Around) (E : Value → Shared → Prop) (env : Env) (es : List Expr) (name : Str) (Q : Value → Shared → Prop) (ov : Value) (s₁ : Shared) : Prop
  | mk (x C dx : Addr) (sl : Array (Option Value)) (m : Str → Option Value) (f : Addr) (h : Heap) (g : Array GenState) (d : Drawn) (tk : Nat) (os : OsState) (e1 : ov = .ref x) (e2 : s₁ = ⟨h, g, d, tk, os⟩) (gw : G w h) (pc : PlainC (KK w) C) (hx : h.get? x = some { cls := .ref C, dict := some dx, data := .plain, slots := sl })
      (hd : ∃ o, h.get? dx = some o ∧ NsU m o) (hm : m name = none) (hf : findIn (KK w) (.ref C) name = some (some (.ref f))) (ht : typeIn (KK w) (.ref f) = some (.type "function")) (k : wpAny (model prog w.w) A (evs env es) (PFn (model prog w.w) A E f x Q) E ⟨h, g, d, tk, os⟩)
/-- the call of a method of an instance -/
theorem x_ometh {o : Expr} {es : List Expr} {name : Str} {apos pos : Pos} {env : Env} {Q : Value → Shared → Prop}
    (k : wpAny (model prog w.w) A (eval o env) (POm prog w A E env es name Q) E s)
    (hs : backTo pos (starEach es env) = es.map fun e => (false, eval e env) := by rfl) (hn : (decide (es.length < 30)) = true := by rfl)
    (ha : attributeBase o name env (eval o env) = eval o env := by rfl) (hp : (apos.endLine == pos.line) = true := by rfl) :
    wpAny (model prog w.w) A (eval (.Call (.Attribute o name apos) es [] pos) env) Q E s := by
  rw [arm_eval_Call, ha]
  refine wpAny_bind (wpAny_mono k (fun ov s₁ q => ?_) fun _ _ e => e)
  obtain ⟨x, C, dx, sl, m, f, h, g, d, tk, os, rfl, rfl, gw, pc, hx, ⟨od, hod, hnu⟩, hmn, hf, ht, q⟩ := q
  refine wpAny_bind (wpAny_standAt ?_)
  have hform : methodCallForm (es.length + ([] : List Keyword).length) (backTo pos (starEach es env)) (backToKw pos (keywordEach [] env)) = true := by
    unfold methodCallForm
    rw [hs]
    have h1 : ((es.map fun e => (false, eval e env)).all fun x => !x.1) = true := by simp
    have h2 : backToKw pos (keywordEach [] env) = [] := rfl
    rw [h1, h2]
    simpa using of_decide_eq_true hn
  have hpos : methodCallPos true o env apos pos = pure pos := by unfold methodCallPos; simp [hp]
  unfold methodCall
  rw [hform]
  refine wpAny_bind (wpAny_holding (method_fn (s := ⟨h, g, d, tk, os⟩) gw.K (InstAt.of hx hod) pc.ga pc.gt hf ht (by unfold shadowIn; dsimp only; rw [lookIn_ns hnu, hmn]; rfl) ?_))
  refine wpAny_bind (wpAny_of_eq hpos ?_)
  show wpAny (model prog w.w) A (callWith pos (.ref f) [.ref x] (backTo pos (starEach es env)) []) Q E _
  rw [hs]
  exact callWith_go (wpAny_mono q (fun vs s₂ ⟨⟨o, fd, ho, hd⟩, k⟩ => ⟨_, .inl rfl, keeper_fn ho hd, k⟩) fun _ _ e => e)
/-- a class of the text's own, called by its name -/
theorem x_ccall {x : Str} {es : List Expr} {np pos : Pos} {a : Addr} {env : Env} {Q : Value → Shared → Prop} (hm : makesIn (KK w) a = true)
    (k : wpAny (model prog w.w) A (eval (.Name x np) env) (fun f s₁ => f = .ref a ∧ wpAny (model prog w.w) A (evs env es) (fun vs s₂ => (KK w).In s₂.heap ∧ wpAny (model prog w.w) A (call (.ref a) vs) Q E s₂) E s₁) E s)
    (hs : backTo pos (starEach es env) = es.map fun e => (false, eval e env) := by rfl) :
    wpAny (model prog w.w) A (eval (.Call (.Name x np) es [] pos) env) Q E s := by
  refine wpAny_Call_NameR (wpAny_mono k (fun f s₁ hh => ?_) fun _ _ e => e)
  obtain ⟨rfl, k⟩ := hh
  rw [hs]
  refine callWith_go (wpAny_mono k (fun vs s₂ ⟨X, k⟩ => ⟨.machine, .inr rfl, fun Q' q => ?_, k⟩) fun _ _ e => e)
  have Y := makes_of (M := model prog w.w) X hm
  obtain ⟨oc, od, cd, sl, hC, _⟩ := Y.obj
  unfold keeperOf
  refine wpAny_bind (wpAny_load hC ?_)
  refine wpAny_bind (Y.call.at (h := s₂.heap) (g := s₂.gens) (d := s₂.drawn) (tk := s₂.toks) (os := s₂.os) ?_)
  exact wpAny_pure q
end
end Mine
namespace Mine
/-- what stood ahead of a call stays, but for X -/
noncomputable def SbX (X : List Addr) (h : Heap) : Addr → Obj → Prop := fun b o => b ∉ X ∧ h.get? b = some o
/-- the frames below: no more than their slots turn -/
noncomputable def frLed (l : List Env) (h : Heap) : Led := (fa l).map fun b => (b, fun o => ∃ o₀ sl, h.get? b = some o₀ ∧ o = { o₀ with slots := sl })
theorem frLed_map (l : List Env) (h : Heap) : (frLed l h).map (·.1) = fa l := by
  unfold frLed
  rw [List.map_map]
  have : ((fun x : Addr × (Obj → Prop) => x.1) ∘ fun b => (b, fun o => ∃ o₀ sl, h.get? b = some o₀ ∧ o = { o₀ with slots := sl })) = id := rfl
  rw [this, List.map_id]
theorem frLed_slots {l : List Env} {h : Heap} {p : Addr × (Obj → Prop)} (hp : p ∈ frLed l h) {o : Obj} (ho : p.2 o) (sl : Array (Option Value)) : p.2 { o with slots := sl } := by
  unfold frLed at hp
  obtain ⟨b, _, rfl⟩ := List.mem_map.mp hp
  obtain ⟨o₀, sl', e, rfl⟩ := ho
  exact ⟨o₀, sl, e, rfl⟩
/-- a ledger holds -/
noncomputable def Holds (g : Led) (h : Heap) : Prop := ∀ p ∈ g, ∃ o, h.get? p.1 = some o ∧ p.2 o
theorem Holds.keep {g : Led} {h h' : Heap} (x : Holds g h) (k : Keep h h') : Holds g h' := fun p hp => let ⟨o, e, q⟩ := x p hp; ⟨o, k _ _ e, q⟩
theorem frLed_holds {l : List Env} {h : Heap} (fs : Frs l h) : Holds (frLed l h) h := by
  intro p hp
  unfold frLed at hp
  obtain ⟨b, hb, rfl⟩ := List.mem_map.mp hp
  obtain ⟨env, he, hf⟩ := List.mem_filterMap.mp hb
  obtain ⟨_, L, o, _, _, hf', ho, _⟩ := fs.st env he
  rw [hf] at hf'; injection hf' with hf'; subst hf'
  exact ⟨o, ho, o, o.slots, ho, rfl⟩
section
variable {B : Addr → Obj → Prop} {L : Addr} {m : Str → Option Value} {n g g' n₀ : Led} {h h' h₀ : Heap}
/-- things that a call is to turn, taken into its ledger -/
theorem Z.claims (z : Z (Sb h₀) L m [] h) (hg : Holds g h₀) (nd : (g.map (·.1)).Nodup) : Z (SbX (g.map (·.1)) h₀) L m g h := by
  refine ⟨z.ns, fun b o e => z.keep b o e.2, fun o e => z.apart o e.2, fun p hp => ?_, fun p hp => ⟨fun q => ?_, fun o e => e.1 (List.mem_map_of_mem hp)⟩, nd⟩
  · obtain ⟨o, e, q⟩ := hg p hp
    exact ⟨o, z.keep _ _ e, q⟩
  · obtain ⟨o, e, _⟩ := hg p hp
    rw [q] at e
    exact z.apart o e
/-- a call that turns g (into g') and the slots of X -/
theorem Z.called {X : List Addr} (z : Z B L m (g ++ n₀) h) (hk : ∀ b o, b ∉ g.map (·.1) → b ∉ X → h.get? b = some o → h'.get? b = some o)
    (hx : ∀ b o, b ∈ X → h.get? b = some o → ∃ sl, h'.get? b = some { o with slots := sl }) (hg : Holds g' h') (nd : (g'.map (·.1)).Nodup) (hn : ∀ p ∈ g', p.1 ∈ g.map (·.1) ∨ h.get? p.1 = none)
    (hB : ∀ b o, B b o → b ∉ X) (hsl : ∀ p ∈ n₀, p.1 ∈ X → ∀ o sl, p.2 o → p.2 { o with slots := sl }) : Z B L m (g' ++ n₀) h' := by
  have nd0 := z.nd
  rw [List.map_append, List.nodup_append] at nd0
  have offg : ∀ b, b ∈ g.map (·.1) → b ≠ L ∧ (∀ o, ¬ B b o) ∧ b ∉ n₀.map (·.1) := fun b hb => by
    obtain ⟨p, hp, rfl⟩ := List.mem_map.mp hb
    have := z.off p (List.mem_append_left _ hp)
    exact ⟨this.1, this.2, fun q => nd0.2.2 _ hb _ q rfl⟩
  have offg' : ∀ p ∈ g', p.1 ≠ L ∧ (∀ o, ¬ B p.1 o) ∧ p.1 ∉ n₀.map (·.1) := fun p hp => by
    rcases hn p hp with q | q
    · exact offg _ q
    · have f := z.fresh q
      exact ⟨f.1, f.2.1, fun c => f.2.2 (by rw [List.map_append]; exact List.mem_append_right _ c)⟩
  refine ⟨?_, fun b o e => ?_, z.apart, fun p hp => ?_, fun p hp => ?_, ?_⟩
  · obtain ⟨o, es, ep, ho, r⟩ := z.ns
    by_cases hL : L ∈ X
    · obtain ⟨sl, e⟩ := hx L o hL ho
      exact ⟨_, es, ep, e, r⟩
    · exact ⟨o, es, ep, hk L o (fun q => (offg L q).1 rfl) hL ho, r⟩
  · exact hk b o (fun q => (offg b q).2.1 o e) (hB b o e) (z.keep b o e)
  · rcases List.mem_append.mp hp with hp | hp
    · exact hg p hp
    · obtain ⟨o, e, q⟩ := z.led p (List.mem_append_right _ hp)
      by_cases hb : p.1 ∈ X
      · obtain ⟨sl, e'⟩ := hx p.1 o hb e
        exact ⟨_, e', hsl p hp hb o sl q⟩
      · exact ⟨o, hk p.1 o (fun c => (offg _ c).2.2 (List.mem_map_of_mem hp)) hb e, q⟩
  · rcases List.mem_append.mp hp with hp | hp
    · exact ⟨(offg' p hp).1, (offg' p hp).2.1⟩
    · exact z.off p (List.mem_append_right _ hp)
  · rw [List.map_append, List.nodup_append]
    refine ⟨nd, nd0.2.1, fun a ha b hb e => ?_⟩
    subst e
    obtain ⟨p, hp, rfl⟩ := List.mem_map.mp ha
    exact (offg' p hp).2.2 hb
/-- a call that turns g alone -/
theorem Z.swap (z : Z B L m (g ++ n₀) h) (hk : ∀ b o, b ∉ g.map (·.1) → h.get? b = some o → h'.get? b = some o)
    (hg : Holds g' h') (nd : (g'.map (·.1)).Nodup) (hn : ∀ p ∈ g', p.1 ∈ g.map (·.1) ∨ h.get? p.1 = none) : Z B L m (g' ++ n₀) h' :=
  z.called (X := []) (fun b o hb _ => hk b o hb) (fun b o hb => by cases hb) hg nd hn (fun _ _ _ hb => by cases hb) (fun _ _ hb => by cases hb)
/-- one thing of the ledger turned, told by membership -/
theorem Z.turn (z : Z B L m n h) {n' : Led} {a : Addr} (hs : Heap.ExtBut a h h') (ha : ∃ P, (a, P) ∈ n) (hg : ∀ p ∈ n', (p.1 = a ∧ ∃ o, h'.get? a = some o ∧ p.2 o) ∨ (p.1 ≠ a ∧ p ∈ n)) (nd : (n'.map (·.1)).Nodup) : Z B L m n' h' := by
  obtain ⟨P, hP⟩ := ha
  have off := z.off _ hP
  refine ⟨z.ns.extBut hs (Ne.symm off.1), fun b o e => hs b o (fun q => off.2 o (q ▸ e)) (z.keep b o e), z.apart, fun p hp => ?_, fun p hp => ?_, nd⟩
  · rcases hg p hp with ⟨q, o, e, r⟩ | ⟨q, hp⟩
    · exact ⟨o, q ▸ e, r⟩
    · obtain ⟨o, e, r⟩ := z.led p hp
      exact ⟨o, hs _ _ q e, r⟩
  · rcases hg p hp with ⟨q, _⟩ | ⟨_, hp⟩
    · rw [q]; exact off
    · exact z.off p hp
theorem Z.getM (z : Z B L m n h) {a : Addr} {P : Obj → Prop} (hm : (a, P) ∈ n) : ∃ o, h.get? a = some o ∧ P o := z.led _ hm
theorem Z.toX (z : Z (SbX (g.map (·.1)) h₀) L m n h) : ∀ b o, b ∉ g.map (·.1) → h₀.get? b = some o → h.get? b = some o := fun b o hb e => z.keep b o ⟨hb, e⟩
/-- the text's own things stay -/
theorem G.keepX {w : WK} {X : List Addr} (x : G w h) (k : ∀ b o, b ∉ X → h.get? b = some o → h'.get? b = some o) (hX : ∀ b ∈ X, (KK w).lookup b = none) (hb : builtinsNs ∉ X) (hc : cStatics ∉ X) : G w h' :=
  ⟨fun a o e => k a o (fun q => by rw [hX a q] at e; cases e) (x.K a o e), let ⟨mb, a, b⟩ := x.b; ⟨mb, a.at' fun o e => k _ o hb e, b⟩, let ⟨mc, a, b⟩ := x.lim; ⟨mc, a.at' fun o e => k _ o hc e, b⟩⟩
end
end Mine
namespace Mine
theorem pc199 (w : WK) : PlainC (KK w) 199 := w.need.pc199
theorem pc102 (w : WK) : PlainC (KK w) 102 := w.need.pc102
theorem mk199 (w : WK) : makesIn (KK w) 199 = true := w.need.mk199
theorem mk102 (w : WK) : makesIn (KK w) 102 = true := w.need.mk102
theorem hd199 (w : WK) : (clsIn (KK w) 199).any (·.hasDict) = true := w.need.hd199
/-- the names of a sorter's own dict -/
noncomputable def AN : List Str := [Str.ofString "_node2info", Str.ofString "_ready_nodes", Str.ofString "_npassedout", Str.ofString "_nfinished"]
theorem an_nd : AN.Nodup := by decide +kernel
theorem an_cls (w : WK) (i : Nat) {x : Str} (hx : AN[i]? = some x) : findIn (KK w) (.ref 199) x = some none := by
  match i with
  | 0 => cases hx; exact w.need.an0
  | 1 => cases hx; exact w.need.an1
  | 2 => cases hx; exact w.need.an2
  | 3 => cases hx; exact w.need.an3
  | i + 4 => cases hx
theorem an_tak (w : WK) (i : Nat) {x : Str} (hx : AN[i]? = some x) : takerIn (KK w) 199 x = some none := by
  unfold takerIn
  rw [an_cls w i hx]; rfl
noncomputable def SortO (sd : Addr) : Obj → Prop := fun o => o = { cls := .ref 199, dict := some sd, data := .plain }
noncomputable def InfoO (ix : Addr) (nd np : Int) (la : Addr) : Obj → Prop := fun o => ∃ t u, o = { cls := .ref 102, dict := some ix, data := .plain, slots := #[some (.int nd t), some (.int np u), some (.ref la)] }
noncomputable def EmpO : Obj → Prop := fun o => o = { cls := .type "dict", data := .dict #[] }
noncomputable def DictI (w : WK) (kvs : List (Int × Value)) : Obj → Prop := fun o => o.IsDictOf (intKind PP w.w) kvs
theorem DictI.of {w : WK} {h : Heap} {a : Addr} {kvs : List (Int × Value)} (x : ∃ o, h.get? a = some o ∧ DictI w kvs o) : h.DictOf (intKind PP w.w) a kvs := Heap.dictOf_iff.mpr x
section
variable {w : WK} {A : Around} {E : Value → Shared → Prop} {g : Array GenState} {d : Drawn} {os : OsState} {x sd : Addr} {name : Str} {v : Value}
variable {h : Heap} {tk : Nat} {vals : List (Option Value)}
theorem x_sget {Q : Value → Shared → Prop} {expr : Bool} (gw : G w h) (hx : ∃ o, h.get? x = some o ∧ SortO sd o) (hd : ∃ o, h.get? sd = some o ∧ NsU (fr AN vals) o) (i : Nat) (hn : AN[i]? = some name) (hv : vals[i]? = some (some v)) (hh : handedIn v = true)
    (k : ∀ tk', Q v ⟨h, g, d, tk', os⟩) : wpAny (model PP w.w) A (getAttr (.ref x) name expr) Q E ⟨h, g, d, tk, os⟩ := by
  obtain ⟨o, ho, rfl⟩ := hx
  exact x_getown (pc199 w) gw ho hd (fr_at an_nd hn hv) (an_cls w i hn) (hd199 w) hh k
theorem x_sset {Q : Unit → Shared → Prop} (gw : G w h) (hx : ∃ o, h.get? x = some o ∧ SortO sd o) (hd : ∃ o, h.get? sd = some o ∧ NsU (fr AN vals) o) (i : Nat) (hn : AN[i]? = some name) (hi : i < vals.length)
    (k : ∀ h' tk', (∃ o, h'.get? sd = some o ∧ NsU (fr AN (vals.set i (some v))) o) → Heap.SameBut sd h h' → Q () ⟨h', g, d, tk', os⟩) : wpAny (model PP w.w) A (setAttr (.ref x) name v) Q E ⟨h, g, d, tk, os⟩ := by
  obtain ⟨o, ho, rfl⟩ := hx
  refine x_setown (pc199 w) gw ho (NsU.at hd) (within_fr AN vals) (by decide) (an_tak w i hn) (hd199 w) fun h' tk' hn' hs => k h' tk' (NsU.of ?_) hs
  rw [fr_set (v := some v) an_nd hn hi] at hn'
  exact hn'
inductive PSm (w : WK) (A : Around) (E : Value → Shared → Prop) (env : Env) (es : List Expr) (f : Addr) (Q : Value → Shared → Prop) (ov : Value) (s₁ : Shared) : Prop
  | mk (x sd : Addr) (vals : List (Option Value)) (h : Heap) (g : Array GenState) (d : Drawn) (tk : Nat) (os : OsState) (e1 : ov = .ref x) (e2 : s₁ = ⟨h, g, d, tk, os⟩) (gw : G w h) (hx : ∃ o, h.get? x = some o ∧ SortO sd o) (hd : ∃ o, h.get? sd = some o ∧ NsU (fr AN vals) o)
      (k : wpAny (model PP w.w) A (evs env es) (PFn (model PP w.w) A E f x Q) E ⟨h, g, d, tk, os⟩)
theorem x_smeth {o : Expr} {es : List Expr} {apos pos : Pos} {env : Env} {f : Addr} {s : Shared} {Q : Value → Shared → Prop} (hf : findIn (KK w) (.ref 199) name = some (some (.ref f))) (ht : typeIn (KK w) (.ref f) = some (.type "function")) (hnn : name ∉ AN)
    (k : wpAny (model PP w.w) A (eval o env) (PSm w A E env es f Q) E s)
    (hs : backTo pos (starEach es env) = es.map fun e => (false, eval e env) := by rfl) (hn : (decide (es.length < 30)) = true := by rfl)
    (ha : attributeBase o name env (eval o env) = eval o env := by rfl) (hp : (apos.endLine == pos.line) = true := by rfl) :
    wpAny (model PP w.w) A (eval (.Call (.Attribute o name apos) es [] pos) env) Q E s := by
  refine x_ometh (w := w) (wpAny_mono k (fun ov s₁ q => ?_) fun _ _ e => e) hs hn ha hp
  obtain ⟨x, sd, vals, h, g, d, tk, os, rfl, rfl, gw, ⟨o, ho, rfl⟩, hd, q⟩ := q
  refine ⟨x, 199, sd, #[], fr AN vals, f, h, g, d, tk, os, rfl, rfl, gw, pc199 w, ho, hd, ?_, hf, ht, q⟩
  cases e : fr AN vals name with
  | none => rfl
  | some v => exact absurd (within_fr AN vals name (by rw [e]; simp)) hnn
variable {ix la : Addr} {nd np : Int}
theorem find102_node (w : WK) : findObj (KK w) 102 (some { cls := .type "dict", data := .dict #[] }) "node" = some (.bind (.builtin "member_descriptor.__get__") (.ref 103)) := w.need.fo0
theorem find102_np (w : WK) : findObj (KK w) 102 (some { cls := .type "dict", data := .dict #[] }) "npredecessors" = some (.bind (.builtin "member_descriptor.__get__") (.ref 104)) := w.need.fo1
theorem find102_succ (w : WK) : findObj (KK w) 102 (some { cls := .type "dict", data := .dict #[] }) "successors" = some (.bind (.builtin "member_descriptor.__get__") (.ref 105)) := w.need.fo2
theorem slot102_node (w : WK) : slotIn (KK w) 103 102 = some 0 := w.need.sl0
theorem slot102_np (w : WK) : slotIn (KK w) 104 102 = some 1 := w.need.sl1
theorem slot102_succ (w : WK) : slotIn (KK w) 105 102 = some 2 := w.need.sl2
theorem x_iget_node {Q : Value → Shared → Prop} {expr : Bool} (gw : G w h) (hx : ∃ o, h.get? x = some o ∧ InfoO ix nd np la o) (hd : ∃ o, h.get? ix = some o ∧ EmpO o) (k : ∀ t tk', Q (.int nd t) ⟨h, g, d, tk', os⟩) :
    wpAny (model PP w.w) A (getAttr (.ref x) (Str.ofString "node") expr) Q E ⟨h, g, d, tk, os⟩ := by
  obtain ⟨o, ho, t, u, rfl⟩ := hx
  obtain ⟨od, hod, rfl⟩ := hd
  exact x_getslot (pc102 w) gw ho hod (find102_node w) (slot102_node w) rfl rfl (k t)
theorem x_iget_np {Q : Value → Shared → Prop} {expr : Bool} (gw : G w h) (hx : ∃ o, h.get? x = some o ∧ InfoO ix nd np la o) (hd : ∃ o, h.get? ix = some o ∧ EmpO o) (k : ∀ t tk', Q (.int np t) ⟨h, g, d, tk', os⟩) :
    wpAny (model PP w.w) A (getAttr (.ref x) (Str.ofString "npredecessors") expr) Q E ⟨h, g, d, tk, os⟩ := by
  obtain ⟨o, ho, t, u, rfl⟩ := hx
  obtain ⟨od, hod, rfl⟩ := hd
  exact x_getslot (pc102 w) gw ho hod (find102_np w) (slot102_np w) rfl rfl (k u)
theorem x_iget_succ {Q : Value → Shared → Prop} {expr : Bool} (gw : G w h) (hx : ∃ o, h.get? x = some o ∧ InfoO ix nd np la o) (hd : ∃ o, h.get? ix = some o ∧ EmpO o) (k : ∀ tk', Q (.ref la) ⟨h, g, d, tk', os⟩) :
    wpAny (model PP w.w) A (getAttr (.ref x) (Str.ofString "successors") expr) Q E ⟨h, g, d, tk, os⟩ := by
  obtain ⟨o, ho, t, u, rfl⟩ := hx
  obtain ⟨od, hod, rfl⟩ := hd
  exact x_getslot (pc102 w) gw ho hod (find102_succ w) (slot102_succ w) rfl rfl k
theorem x_iset_np {Q : Unit → Shared → Prop} {np' : Int} {t' : Tok} (gw : G w h) (hx : ∃ o, h.get? x = some o ∧ InfoO ix nd np la o) (hd : ∃ o, h.get? ix = some o ∧ EmpO o)
    (k : ∀ h' tk', (∃ o, h'.get? x = some o ∧ InfoO ix nd np' la o) → Heap.SameBut x h h' → Q () ⟨h', g, d, tk', os⟩) :
    wpAny (model PP w.w) A (setAttr (.ref x) (Str.ofString "npredecessors") (.int np' t')) Q E ⟨h, g, d, tk, os⟩ := by
  obtain ⟨o, ho, t, u, rfl⟩ := hx
  obtain ⟨od, hod, rfl⟩ := hd
  exact x_setslot (p := 104) (i := 1) (pc102 w) gw ho hod w.need.tk1 w.need.ty104 (slot102_np w) (by decide) fun h' tk' hx' hs => k h' tk' ⟨_, hx', t, t', rfl⟩ hs
end
end Mine
namespace Mine
/-- a dict of the call's own, its epoch told -/
noncomputable def DictE (w : WK) (kvs : List (Int × Value)) (ep : Nat) : Obj → Prop := fun o => ∃ es, o.ExactDict ∧ o.data = .dict es ep ∧ KeysOf (intKind PP w.w) es ∧ PySem.Pairs (intKind PP w.w) es.toList kvs ∧ (kvs.map (·.1)).Nodup
theorem DictE.at {w : WK} {h : Heap} {a : Addr} {kvs : List (Int × Value)} {ep : Nat} (x : ∃ o, h.get? a = some o ∧ DictE w kvs ep o) : h.DictAt (intKind PP w.w) a kvs ep := let ⟨o, ho, es, r⟩ := x; ⟨o, es, ho, r⟩
theorem DictI.epoch {w : WK} {o : Obj} {kvs : List (Int × Value)} (x : DictI w kvs o) : ∃ ep, DictE w kvs ep o := let ⟨es, ep, r⟩ := x; ⟨ep, es, r⟩
theorem DictE.toI {w : WK} {o : Obj} {kvs : List (Int × Value)} {ep : Nat} (x : DictE w kvs ep o) : DictI w kvs o := let ⟨es, r⟩ := x; ⟨es, ep, r⟩
noncomputable def NotMod (a : Addr) : Prop := (a == sysModules) = false
/-- a set of ints -/
noncomputable def SetI (w : WK) (S : Int → Bool) (n : Nat) : Obj → Prop := fun o => ∃ es ep t, o.ExactSet ∧ o.data = .set es ep t ∧ ElemsOf (intKind PP w.w) es.toList ∧ (∀ k, S k = true ↔ ∃ e ∈ es.toList, (intKind PP w.w).is k e.2 = true) ∧ es.size < scanBound ∧ t.fits es.size = true ∧ es.size = n
theorem SetI.at {w : WK} {h : Heap} {a : Addr} {S : Int → Bool} {n : Nat} (x : ∃ o, h.get? a = some o ∧ SetI w S n o) : h.SetOf (intKind PP w.w) a S n := let ⟨o, ho, es, ep, t, r⟩ := x; ⟨o, es, ep, t, ho, r⟩
theorem SetI.of {w : WK} {h : Heap} {a : Addr} {S : Int → Bool} {n : Nat} (x : h.SetOf (intKind PP w.w) a S n) : ∃ o, h.get? a = some o ∧ SetI w S n o := let ⟨o, es, ep, t, ho, r⟩ := x; ⟨o, ho, es, ep, t, r⟩
section
variable {w : WK} {A : Around} {E : Value → Shared → Prop} {env : Env} {g : Array GenState} {d : Drawn} {os : OsState} {a : Addr} {kvs : List (Int × Value)} {k : Int} {t : Tok} {v : Value}
variable {s : Shared} {h : Heap} {tk : Nat}
/-- {} -/
theorem x_dict0 {pos : Pos} {Q : Value → Shared → Prop} (gw : G w h) (q : ∀ a h', Keep h h' → h.get? a = none → NotMod a → (∃ o, h'.get? a = some o ∧ DictI w [] o) → Q (.ref a) ⟨h', g, d, tk, os⟩) : wpAny (model PP w.w) A (eval (.Dict [] [] pos) env) Q E ⟨h, g, d, tk, os⟩ := by
  refine wpAny_Dict_empty (q _ _ (Keep.push _ _) (get_size _) ?_ ⟨_, Heap.get?_push_size _ rfl, #[], 0, ⟨rfl, rfl, rfl⟩, rfl, fun e he => by simp at he, .nil, List.nodup_nil⟩)
  exact beq_eq_false_iff_ne.mpr (Nat.ne_of_gt (modules_low gw.lim))
theorem x_dget {Q : Value → Shared → Prop} (hd : ∃ o, h.get? a = some o ∧ DictI w kvs o) (lo : NotMod a) (q : ∀ tk', Q ((valueAt kvs k).getD .none) ⟨h, g, d, tk', os⟩) :
    wpAny (model PP w.w) A (call (.builtin "dict.get") [.ref a, .int k t]) Q E ⟨h, g, d, tk, os⟩ :=
  have hD := DictI.of hd
  call_meetsIn (s := ⟨h, g, d, tk, os⟩) PySem.F.slot_dict_get hD.typeIs PySem.F.entry_dict_get (PySem.F.args_dict_get_2 _ _) (meets_dict_get (intKind PP w.w) a (isInt_self k t) lo) ⟨_, hD.mapOf, q _⟩
theorem x_ditem {value slice : Expr} {Q : Value → Shared → Prop} (hd : ∃ o, h.get? a = some o ∧ DictI w kvs o) (hv : valueAt kvs k = some v) (q : ∀ tk', Q v ⟨h, g, d, tk', os⟩)
    (hs : subscripted slice false (.ref a) (.int k t) = operate [.ref a, .int k t] (getItem (.ref a) (.int k t))) (hg : ∀ r, letTemporaryGo value (.ref a) r = pure ()) :
    wpAny (model PP w.w) A (subscriptTail value slice (.ref a) (.int k t)) Q E ⟨h, g, d, tk, os⟩ :=
  have hD := DictI.of hd
  subscriptTail_builtin (s := ⟨h, g, d, tk, os⟩) hD.typeIs slot_dict_getitem.lookup (wpAny_getItem_of (s := ⟨h, g, d, tk, os⟩) (isInt_self k t) hD.mapOf hv (q _)) hs hg
theorem x_din {Q : Value → Shared → Prop} (hd : ∃ o, h.get? a = some o ∧ DictI w kvs o) (lo : NotMod a) (q : ∀ tk', Q (.bool (valueAt kvs k).isSome) ⟨h, g, d, tk', os⟩) :
    wpAny (model PP w.w) A (compareOp .In (.int k t) (.ref a)) Q E ⟨h, g, d, tk, os⟩ :=
  wpAny_in_of (s := ⟨h, g, d, tk, os⟩) (isInt_self k t) lo (DictI.of hd).mapOf (q _)
theorem x_dset {Q : Unit → Shared → Prop} (hd : ∃ o, h.get? a = some o ∧ DictI w kvs o) (hsz : kvs.length ≤ 100000) (q : ∀ h' tk', (∃ o, h'.get? a = some o ∧ DictI w (stored kvs k v) o) → Heap.SameBut a h h' → Q () ⟨h', g, d, tk', os⟩) :
    wpAny (model PP w.w) A (setItem (.ref a) (.int k t) v) Q E ⟨h, g, d, tk, os⟩ :=
  wpAny_setItem_pairs (s := ⟨h, g, d, tk, os⟩) (hsz := by rw [sizeLine_eq]; lia) (isInt_self k t) (DictI.of hd) fun h' hm hs => q h' _ (Heap.dictOf_iff.mp hm) hs
theorem x_ddel {Q : Unit → Shared → Prop} (hd : ∃ o, h.get? a = some o ∧ DictI w kvs o) (hl : (valueAt kvs k).isSome = true) (hsz : kvs.length ≤ 100000) (q : ∀ h' tk', (∃ o, h'.get? a = some o ∧ DictI w (without kvs k) o) → Heap.SameBut a h h' → Q () ⟨h', g, d, tk', os⟩) :
    wpAny (model PP w.w) A (delItem (.ref a) (.int k t)) Q E ⟨h, g, d, tk, os⟩ := by
  have hD := DictI.of hd
  unfold delItem
  try with_reducible refine wpAny_holding ?_
  refine wpAny_bind (wpAny_sequenceKey (s := ⟨h, g, d, tk, os⟩) hD.typeIs (by decide) ?_)
  refine wpAny_bind (wpAny_callSpecial?_slot (s := ⟨h, g, d, tk, os⟩) (name := Str.ofString "__delitem__") hD.typeIs PySem.F.slot_dict_delitem
    (call_meetsIn (s := ⟨h, g, d, tk, os⟩) PySem.F.slot_dict_delitem hD.typeIs PySem.F.entry_dict_delitem (PySem.F.args_dict_delitem_2 _ _) (meets_dict_delitem_pairs (intKind PP w.w) a (isInt_self k t)) ⟨kvs, hD, by rw [sizeLine_eq]; lia, hl, fun h' hm hs => ?_⟩))
  exact wpAny_pure (q h' _ (Heap.dictOf_iff.mp hm) hs)
/-- o[i] = v -/
theorem x_asgSub {o i : Expr} {pos : Pos} {Q : Unit → Shared → Prop} (q : wpAny (model PP w.w) A (eval o env) (fun ov s₁ => wpAny (model PP w.w) A (eval i env) (fun iv s₂ => wpAny (model PP w.w) A (setItem ov iv v) Q E s₂) E s₁) E s) :
    wpAny (model PP w.w) A (assign (.Subscript o i pos) env v) Q E s := by
  rw [arm_assign_Subscript]
  refine wpAny_bind (wpAny_holding (wpAny_mono q (fun ov s₁ q => ?_) fun _ _ e => e))
  refine wpAny_bind (wpAny_holding (wpAny_mono q (fun iv s₂ q => ?_) fun _ _ e => e))
  exact wpAny_bind (wpAny_standAt (wpAny_bind (wpAny_holding (wpAny_mono q (fun _ s₃ q => wpAny_release q) fun _ _ e => e))))
/-- del o[i] -/
theorem x_delSub {o i : Expr} {dpos pos : Pos} {Q : Flow → Shared → Prop} (q : wpAny (model PP w.w) A (eval o env) (fun ov s₁ => wpAny (model PP w.w) A (eval i env) (fun iv s₂ => wpAny (model PP w.w) A (delItem ov iv) (fun _ => Q .next) E s₂) E s₁) E s) :
    wpAny (model PP w.w) A (exec (.Delete [.Subscript o i dpos] pos) env) Q E s := by
  refine wpAny_Delete (wpAny_deleteEach_cons ?_)
  rw [arm_delete_Subscript]
  refine wpAny_bind (wpAny_mono q (fun ov s₁ q => ?_) fun _ _ e => e)
  refine wpAny_bind (wpAny_holding (wpAny_mono q (fun iv s₂ q => ?_) fun _ _ e => e))
  exact wpAny_bind (wpAny_standAt (wpAny_bind (wpAny_holding (wpAny_mono q (fun _ s₃ q => wpAny_release (wpAny_deleteEach_nil q)) fun _ _ e => e))))
/-- set() -/
theorem x_set0 {Q : Value → Shared → Prop} (q : ∀ a h', Keep h h' → h.get? a = none → (∃ o, h'.get? a = some o ∧ SetI w (fun _ => false) 0 o) → Q (.ref a) ⟨h', g, d, tk, os⟩) : wpAny (model PP w.w) A (call (.type "set") []) Q E ⟨h, g, d, tk, os⟩ :=
  call_set_0 (s := ⟨h, g, d, tk, os⟩) fun led => q _ _ (Keep.push _ _) (get_size _) ⟨_, Heap.get?_push_size _ rfl, #[], 0, _, ⟨rfl, rfl, rfl⟩, rfl, fun e he => by simp at he, fun k => by simp, by decide, rfl, rfl⟩
theorem x_sin {S : Int → Bool} {n : Nat} {Q : Value → Shared → Prop} (hS : ∃ o, h.get? a = some o ∧ SetI w S n o) (q : ∀ tk', Q (.bool (S k)) ⟨h, g, d, tk', os⟩) : wpAny (model PP w.w) A (compareOp .In (.int k t) (.ref a)) Q E ⟨h, g, d, tk, os⟩ :=
  wpAny_inSet_of (s := ⟨h, g, d, tk, os⟩) (isInt_self k t) rfl (SetI.at hS) (q _)
theorem x_sadd {S : Int → Bool} {n : Nat} {Q : Value → Shared → Prop} (hS : ∃ o, h.get? a = some o ∧ SetI w S n o) (hn : n < 4000) (q : ∀ h' tk', (∃ o, h'.get? a = some o ∧ SetI w (fun j => S j || decide (j = k)) (if S k then n else n + 1) o) → Heap.SameBut a h h' → Q .none ⟨h', g, d, tk', os⟩) :
    wpAny (model PP w.w) A (call (.builtin "set.add") [.ref a, .int k t]) Q E ⟨h, g, d, tk, os⟩ :=
  call_set_add (s := ⟨h, g, d, tk, os⟩) (isInt_self k t) rfl (SetI.at hS) (by have : scanBound = 4096 := rfl; lia) fun h' hs hS' => q h' _ (SetI.of hS') hs
theorem SetI.type {S : Int → Bool} {n : Nat} (hS : ∃ o, h.get? a = some o ∧ SetI w S n o) : Shared.TypeIs ⟨h, g, d, tk, os⟩ (.ref a) "set" ∧ ∀ b, Value.ref a = .ref b → ∃ ob, h.get? b = some ob ∧ ob.dict = none := by
  obtain ⟨o, ho, es, ep, t, hx, _⟩ := hS
  exact ⟨⟨o, ho, hx.1⟩, fun b q => by cases q; exact ⟨o, ho, hx.2.1⟩⟩
theorem DictI.type (hd : ∃ o, h.get? a = some o ∧ DictI w kvs o) : Shared.TypeIs ⟨h, g, d, tk, os⟩ (.ref a) "dict" ∧ ∀ b, Value.ref a = .ref b → ∃ ob, h.get? b = some ob ∧ ob.dict = none := by
  obtain ⟨o, ho, es, ep, hx, _⟩ := hd
  exact ⟨⟨o, ho, hx.1⟩, fun b q => by cases q; exact ⟨o, ho, hx.2.1⟩⟩
/-- the walk over a dict's keys -/
noncomputable def KeyIt (da : Addr) (n ep : Nat) (i : Nat) : Obj → Prop := fun o => o.cls = .type "dict_keyiterator" ∧ o.data = .fields #[.ref da, .int i 0, .int n 0, .int ep 0]
theorem x_iter_dict {ep : Nat} {Q : Value → Shared → Prop} (hd : ∃ o, h.get? a = some o ∧ DictE w kvs ep o) (lo : NotMod a) (q : ∀ I h', Keep h h' → h.get? I = none → (∃ o, h'.get? I = some o ∧ KeyIt a kvs.length ep 0 o) → Q (.ref I) ⟨h', g, d, tk, os⟩) :
    wpAny (model PP w.w) A (pyIter (.ref a)) Q E ⟨h, g, d, tk, os⟩ :=
  wpAny_pyIter_dict (s := ⟨h, g, d, tk, os⟩) lo (DictE.at hd) (q _ _ (Keep.push _ _) (get_size _) ⟨_, Heap.get?_push_size _ rfl, rfl, rfl⟩)
theorem iter_dict (hh : A.handled = none) (I da : Addr) (kvs : List (Int × Value)) (ep : Nat) :
    Iter PP w A I (KeyIt da kvs.length ep) kvs.length (fun i v => ∃ k x t, kvs[i]? = some (k, x) ∧ v = .int k t) (fun h => ∃ o, h.get? da = some o ∧ DictE w kvs ep o) where
  next := fun i s Q E hi ⟨o, ho, hc, hd⟩ hok k => by
    refine wpAny_pyNext_dict_item (knd := intKind PP w.w) (k := kvs[i].1) (v := kvs[i].2) (it := I) (i := i) ⟨o, ho, hc, hd⟩ (DictE.at hok) (List.getElem?_eq_getElem hi) fun key h' hkey hit hs => ?_
    obtain ⟨o', ho', hc', hd'⟩ := hit
    obtain ⟨t, rfl⟩ := PySem.Value.isInt_shape hkey
    exact k _ h' _ ⟨kvs[i].1, kvs[i].2, t, List.getElem?_eq_getElem hi, rfl⟩ hs.extBut ⟨o', ho', hc', hd'⟩
  stop := fun s Q E ⟨o, ho, hc, hd⟩ hok k => wpAny_pyNext_dict_end (knd := intKind PP w.w) hh (it := I) (i := kvs.length) ⟨o, ho, hc, hd⟩ (DictE.at hok) (by simp) fun h' hs => k h' _ hs
  again := fun s Q E ⟨o, ho, hc, hd⟩ k => wpAny_pyIter_keyiter (it := I) (i := 0) ⟨o, ho, hc, hd⟩ k
/-- the view of its values, the walk over them -/
noncomputable def ViewO (da : Addr) : Obj → Prop := fun o => o.cls = .type "dict_values" ∧ o.data = .fields #[.ref da]
noncomputable def ValIt (da : Addr) (n ep : Nat) (i : Nat) : Obj → Prop := fun o => o.cls = .type "dict_valueiterator" ∧ o.data = .fields #[.ref da, .int i 0, .int n 0, .int ep 0]
theorem x_values {Q : Value → Shared → Prop} (hd : ∃ o, h.get? a = some o ∧ DictI w kvs o) (lo : NotMod a) (q : ∀ v h', Keep h h' → h.get? v = none → (∃ o, h'.get? v = some o ∧ ViewO a o) → Q (.ref v) ⟨h', g, d, tk, os⟩) :
    wpAny (model PP w.w) A (call (.builtin "dict.values") [.ref a]) Q E ⟨h, g, d, tk, os⟩ :=
  have hD := DictI.of hd
  call_meetsIn (s := ⟨h, g, d, tk, os⟩) PySem.F.slot_dict_values hD.typeIs PySem.F.entry_dict_values (PySem.F.args_dict_values_1 _) (meets_dict_values (intKind PP w.w) a lo) ⟨⟨kvs, hD⟩, q _ _ (Keep.push _ _) (get_size _) ⟨_, Heap.get?_push_size _ rfl, rfl, rfl⟩⟩
theorem x_iter_values {va : Addr} {ep : Nat} {Q : Value → Shared → Prop} (hv : ∃ o, h.get? va = some o ∧ ViewO a o) (hd : ∃ o, h.get? a = some o ∧ DictE w kvs ep o) (q : ∀ I h', Keep h h' → h.get? I = none → (∃ o, h'.get? I = some o ∧ ValIt a kvs.length ep 0 o) → Q (.ref I) ⟨h', g, d, tk, os⟩) :
    wpAny (model PP w.w) A (pyIter (.ref va)) Q E ⟨h, g, d, tk, os⟩ :=
  wpAny_pyIter_values (s := ⟨h, g, d, tk, os⟩) hv (DictE.at hd) (q _ _ (Keep.push _ _) (get_size _) ⟨_, Heap.get?_push_size _ rfl, rfl, rfl⟩)
theorem iter_values (hh : A.handled = none) (I da : Addr) (kvs : List (Int × Value)) (ep : Nat) :
    Iter PP w A I (ValIt da kvs.length ep) kvs.length (fun i v => ∃ k, kvs[i]? = some (k, v)) (fun h => ∃ o, h.get? da = some o ∧ DictE w kvs ep o) where
  next := fun i s Q E hi ⟨o, ho, hc, hd⟩ hok k => by
    refine wpAny_pyNext_values_item (knd := intKind PP w.w) (k := kvs[i].1) (v := kvs[i].2) (it := I) (i := i) ⟨o, ho, hc, hd⟩ (DictE.at hok) (List.getElem?_eq_getElem hi) fun h' hit hs => ?_
    obtain ⟨o', ho', hc', hd'⟩ := hit
    exact k _ h' _ ⟨kvs[i].1, List.getElem?_eq_getElem hi⟩ hs.extBut ⟨o', ho', hc', hd'⟩
  stop := fun s Q E ⟨o, ho, hc, hd⟩ hok k => wpAny_pyNext_values_end (knd := intKind PP w.w) hh (it := I) (i := kvs.length) ⟨o, ho, hc, hd⟩ (DictE.at hok) (by simp) fun h' hs => k h' _ hs
  again := fun s Q E ⟨o, ho, hc, hd⟩ k => wpAny_pyIter_valiter (it := I) (i := 0) ⟨o, ho, hc, hd⟩ k
end
end Mine
namespace Mine
/-- an address that holds none of the text's own things -/
noncomputable def Free (w : WK) (b : Addr) : Prop := (KK w).lookup b = none ∧ b ≠ builtinsNs ∧ b ≠ cStatics
theorem G.free {w : WK} {h : Heap} (gw : G w h) {b : Addr} (hb : h.get? b = none) : Free w b := by
  refine ⟨?_, fun q => ?_, fun q => ?_⟩
  · cases e : (KK w).lookup b with
    | none => rfl
    | some o => have := gw.K _ _ e; rw [hb] at this; cases this
  · obtain ⟨mb, ⟨o, _, _, e, _⟩, _⟩ := gw.b
    rw [← q, hb] at e; cases e
  · obtain ⟨mc, ⟨o, _, _, e, _⟩, _⟩ := gw.lim
    rw [← q, hb] at e; cases e
theorem G.keepFree {w : WK} {X : List Addr} {h h' : Heap} (x : G w h) (k : ∀ b o, b ∉ X → h.get? b = some o → h'.get? b = some o) (hX : ∀ b ∈ X, Free w b) : G w h' :=
  x.keepX k (fun b hb => (hX b hb).1) (fun q => (hX _ q).2.1 rfl) fun q => (hX _ q).2.2 rfl
section
variable {w : WK} {A : Around} {h₀ : Heap} {g : Array GenState} {d : Drawn} {os : OsState}
variable {tk : Nat}
/-- _NodeInfo.__init__ -/
theorem ninit_call (gw : G w h₀) (ag : AG 2 A) {x dx : Addr} (fx : Free w x) (fdx : Free w dx) (hne : dx ≠ x) (hx : h₀.get? x = some { cls := .ref 102, dict := some dx, data := .plain }) (hd : h₀.get? dx = some { cls := .type "dict", data := .dict #[] }) (n : Int) (t : Tok)
    {R : Result → Shared → Prop}
    (hR : ∀ h' tk' la, (∃ o, h'.get? x = some o ∧ InfoO dx n 0 la o) → (∃ o, h'.get? dx = some o ∧ EmpO o) → (∃ o, h'.get? la = some o ∧ ILst [] o) → h₀.get? la = none → (∀ b o, b ≠ x → h₀.get? b = some o → h'.get? b = some o) → R (.ok (.ret .none)) ⟨h', g, d, tk', os⟩) :
    codeAny (model PP w.w) A (.call (.ref 98) ⟨[.ref x, .int n t], []⟩) R ⟨h₀, g, d, tk, os⟩ := by
  refine c_callG (a := 98) (ks := [Str.ofString "self", Str.ofString "node"]) (rest := []) (gl := [])
    ⟨w.need.f98.look, w.need.f98.code, rfl, rfl, rfl, rfl, by decide +kernel, by decide +kernel, by decide +kernel, by decide +kernel, rfl, rfl⟩ gw ag (bind_eq rfl ⟨h₀, tk, [.ref x, .int n t], rfl, Keep.refl _, rfl, rfl, fun env L h₁ tk₁ e hf ag' z => ?_⟩)
  have z0 := z.claims (g := [(x, fun o => o = { cls := .ref 102, dict := some dx, data := .plain }), (dx, EmpO)]) (fun p hp => by
    rcases List.mem_cons.mp hp with rfl | hp
    · exact ⟨_, hx, rfl⟩
    · rcases List.mem_singleton.mp hp with rfl
      exact ⟨_, hd, rfl⟩) (by simp [Ne.symm hne])
  clear z
  have z := z0
  have fr : ∀ b ∈ [x, dx], Free w b := by
    intro b hb
    rcases List.mem_cons.mp hb with rfl | hb
    · exact fx
    · rcases List.mem_singleton.mp hb with rfl; exact fdx
  clear z0
  refine y_cons ?_
  refine plainObj_wpAny_Assign_Attribute ?_
  refine x_loc e z 1 rfl rfl ?_
  refine x_loc e z 0 rfl rfl ?_
  obtain ⟨o, ho, rfl⟩ := z.get 0 rfl
  obtain ⟨od, hod, rfl⟩ := z.get 1 rfl
  refine x_setslot (p := 103) (i := 0) (pc102 w) (gw.keepFree z.toX fr) ho hod w.need.tk0 w.need.ty103 (slot102_node w) (by decide) fun h tk hx' hs => ?_
  replace z := z.upd (P' := fun o => o = { cls := .ref 102, dict := some dx, data := .plain, slots := #[some (.int n t)] }) 0 rfl hs hx' rfl
  clear ho hod hs hx'
  refine y_cons ?_
  refine plainObj_wpAny_Assign_Attribute ?_
  refine x_int fun t2 _ => ?_
  refine x_loc e z 0 rfl rfl ?_
  obtain ⟨o, ho, rfl⟩ := z.get 0 rfl
  obtain ⟨od, hod, rfl⟩ := z.get 1 rfl
  refine x_setslot (p := 104) (i := 1) (pc102 w) (gw.keepFree z.toX fr) ho hod w.need.tk1 w.need.ty104 (slot102_np w) (by decide) fun h tk hx' hs => ?_
  replace z := z.upd (P' := fun o => o = { cls := .ref 102, dict := some dx, data := .plain, slots := #[some (.int n t), some (.int 0 t2)] }) 0 rfl hs hx' rfl
  clear ho hod hs hx'
  refine y_cons ?_
  refine plainObj_wpAny_Assign_Attribute ?_
  refine x_list (g := g) (d := d) (os := os) ?_
  refine evs_nil ?_
  refine ⟨_, _, rfl, Nat.le_of_ble_eq_true rfl, fun la h ka hn hl => ?_⟩
  replace z := z.add ka hn hl.choose_spec.1 (ints0 hl.choose_spec.2)
  refine x_loc e z 0 rfl rfl ?_
  obtain ⟨o, ho, rfl⟩ := z.get 1 rfl
  obtain ⟨od, hod, rfl⟩ := z.get 2 rfl
  refine x_setslot (p := 105) (i := 2) (pc102 w) (gw.keepFree z.toX fr) ho hod w.need.tk2 w.need.ty105 (slot102_succ w) (by decide) fun h tk hx' hs => ?_
  replace z := z.upd (P' := InfoO dx n 0 la) 1 rfl hs hx' ⟨t, t2, rfl⟩
  clear ho hod hs hx'
  refine wpAny_execs_nil ?_
  have hxl : x ≠ la := fun q => by
    have nd := z.nd
    simp only [List.set, List.map_cons, List.map_nil, List.nodup_cons, List.mem_cons, not_or] at nd
    exact nd.1.1 q.symm
  refine hR h _ la (z.get 1 rfl) (z.get 2 rfl) (z.get 0 rfl) ?_ fun b o hb e => ?_
  · cases e : h₀.get? la with
    | none => rfl
    | some o =>
      have hlm : la ∉ [x, dx] := by
        have nd := z.nd
        simp only [List.set, List.map_cons, List.map_nil, List.nodup_cons, List.mem_cons, not_or] at nd
        simp only [List.mem_cons, List.not_mem_nil, or_false, not_or]
        exact ⟨nd.1.1, nd.1.2.1⟩
      exact absurd ⟨hlm, e⟩ ((z.off _ (List.mem_cons_self)).2 o)
  · by_cases hbd : b = dx
    · subst hbd
      obtain ⟨od, hod, rfl⟩ := z.get 2 rfl
      rw [hd] at e; cases e; exact hod
    · exact z.toX b o (by simp [hb, hbd]) e
end
end Mine
namespace Mine
/-- a node of a sorter's graph: its info, the info's own dict, the list of its successors -/
structure GN where
  node : Int
  ia : Addr
  ix : Addr
  la : Addr
  np : Int
  succ : List Int
/-- a sorter: its dict, the dict of its nodes -/
structure GS where
  s : Addr
  sd : Addr
  nd : Addr
  ready : Value
  po : Option Value
  fi : Option Value
  nodes : List GN
noncomputable def GN.led (x : GN) : Led := [(x.ia, InfoO x.ix x.node x.np x.la), (x.ix, EmpO), (x.la, ILst x.succ)]
noncomputable def nled (l : List GN) : Led := l.flatMap GN.led
noncomputable def kvsOf (l : List GN) : List (Int × Value) := l.map fun x => (x.node, .ref x.ia)
noncomputable def GS.top (w : WK) (q : GS) : Led := [(q.s, SortO q.sd), (q.sd, NsU (fr AN [some (.ref q.nd), some q.ready, q.po, q.fi])), (q.nd, DictI w (kvsOf q.nodes))]
noncomputable def GS.led (w : WK) (q : GS) : Led := q.top w ++ nled q.nodes
noncomputable def GS.ads (w : WK) (q : GS) : List Addr := (q.led w).map (·.1)
structure GOK (w : WK) (q : GS) (h : Heap) : Prop where
  hold : Holds (q.led w) h
  nd : (q.ads w).Nodup
  free : ∀ b ∈ q.ads w, Free w b
  lo : NotMod q.nd
  rdy : handedIn q.ready = true
/-- how a call leaves the sorter -/
structure Moved (w : WK) (q : GS) (h : Heap) (q' : GS) (h' : Heap) : Prop where
  ok : GOK w q' h'
  keep : ∀ b o, b ∉ q.ads w → h.get? b = some o → h'.get? b = some o
  new : ∀ p ∈ q'.led w, p.1 ∈ q.ads w ∨ h.get? p.1 = none
/-- the node asked for: there, or made -/
noncomputable def GetN (q : GS) (n : Int) (x : GN) (q' : GS) : Prop :=
  (x ∈ q.nodes ∧ x.node = n ∧ q' = q) ∨ ((∀ y ∈ q.nodes, y.node ≠ n) ∧ x.node = n ∧ x.np = 0 ∧ x.succ = [] ∧ q' = { q with nodes := q.nodes ++ [x] })
theorem nled_mem {l : List GN} {x : GN} (hx : x ∈ l) {p : Addr × (Obj → Prop)} (hp : p ∈ x.led) : p ∈ nled l := List.mem_flatMap.mpr ⟨x, hx, hp⟩
theorem GS.mem_node {w : WK} {q : GS} {x : GN} (hx : x ∈ q.nodes) {p : Addr × (Obj → Prop)} (hp : p ∈ x.led) : p ∈ q.led w := List.mem_append_right _ (nled_mem hx hp)
theorem nled_append (a b : List GN) : nled (a ++ b) = nled a ++ nled b := by unfold nled; rw [List.flatMap_append]
theorem kvs_find (l : List GN) (n : Int) : (∃ x ∈ l, x.node = n ∧ valueAt (kvsOf l) n = some (.ref x.ia)) ∨ ((∀ y ∈ l, y.node ≠ n) ∧ valueAt (kvsOf l) n = none) := by
  induction l with
  | nil => exact .inr ⟨by simp, rfl⟩
  | cons y l ih =>
    by_cases hy : y.node = n
    · refine .inl ⟨y, List.mem_cons_self, hy, ?_⟩
      simp [kvsOf, valueAt, hy]
    · have e : valueAt (kvsOf (y :: l)) n = valueAt (kvsOf l) n := by simp [kvsOf, valueAt, hy]
      rcases ih with ⟨x, hx, h1, h2⟩ | ⟨h1, h2⟩
      · exact .inl ⟨x, List.mem_cons_of_mem _ hx, h1, e.trans h2⟩
      · refine .inr ⟨fun z hz => ?_, e.trans h2⟩
        rcases List.mem_cons.mp hz with rfl | hz
        · exact hy
        · exact h1 z hz
theorem kvs_store {l : List GN} {n : Int} (hn : ∀ y ∈ l, y.node ≠ n) (x : GN) (hx : x.node = n) : stored (kvsOf l) n (.ref x.ia) = kvsOf (l ++ [x]) := by
  unfold stored
  rw [if_neg]
  · simp [kvsOf, hx]
  · rw [Bool.not_eq_true, List.any_eq_false]
    intro p hp
    obtain ⟨y, hy, rfl⟩ := List.mem_map.mp hp
    simpa using hn y hy
section
variable {w : WK} {L : Addr} {m : Str → Option Value} {q q' : GS} {h h₀ : Heap} {n : Led}
theorem Z.nil {B : Addr → Obj → Prop} (z : Z B L m n h) : Z B L m (n ++ []) h := by rw [List.append_nil]; exact z
/-- fresh things -/
theorem Z.adds {B : Addr → Obj → Prop} {n' : Led} {h' : Heap} (z : Z B L m n h) (k : Keep h h') (hg : Holds n' h') (nd : (n'.map (·.1)).Nodup) (hn : ∀ p ∈ n', h.get? p.1 = none) : Z B L m (n' ++ n) h' :=
  Z.swap (g := []) (n₀ := n) z (fun b o _ e => k b o e) hg nd fun p hp => .inr (hn p hp)
/-- what a frame's ledger says at its end -/
theorem Z.moved (z : Z (SbX (q.ads w) h₀) L m (q'.led w ++ n) h) (ok : GOK w q h₀) (gw : G w h₀) (lo : NotMod q'.nd) (rdy : handedIn q'.ready = true) : Moved w q h₀ q' h := by
  have new : ∀ p ∈ q'.led w, p.1 ∈ q.ads w ∨ h₀.get? p.1 = none := fun p hp => by
    by_cases hb : p.1 ∈ q.ads w
    · exact .inl hb
    · refine .inr ?_
      cases e : h₀.get? p.1 with
      | none => rfl
      | some o => exact absurd ⟨hb, e⟩ ((z.off p (List.mem_append_left _ hp)).2 o)
  refine ⟨⟨fun p hp => z.led p (List.mem_append_left _ hp), ?_, fun b hb => ?_, lo, rdy⟩, fun b o hb e => z.keep b o ⟨hb, e⟩, new⟩
  · have nd := z.nd
    rw [List.map_append] at nd
    exact (List.nodup_append.mp nd).1
  · obtain ⟨p, hp, rfl⟩ := List.mem_map.mp hb
    rcases new p hp with c | c
    · exact ok.free _ c
    · exact gw.free c
/-- the caller's ledger behind such a call -/
theorem Z.after (z : Z (B) L m (q.led w ++ n) h) {h' : Heap} (mv : Moved w q h q' h') : Z B L m (q'.led w ++ n) h' := z.swap mv.keep mv.ok.hold mv.ok.nd mv.new
theorem Moved.trans {q'' : GS} {h' h'' : Heap} (a : Moved w q h q' h') (b : Moved w q' h' q'' h'') : Moved w q h q'' h'' := by
  refine ⟨b.ok, fun c o hc e => b.keep c o (fun x => ?_) (a.keep c o hc e), fun p hp => ?_⟩
  · obtain ⟨p, hp, rfl⟩ := List.mem_map.mp x
    rcases a.new p hp with y | y
    · exact hc y
    · rw [y] at e; cases e
  · rcases b.new p hp with y | y
    · obtain ⟨p', hp', e⟩ := List.mem_map.mp y
      rw [← e]; exact a.new p' hp'
    · by_cases hb : p.1 ∈ q.ads w
      · exact .inl hb
      · refine .inr ?_
        cases e : h.get? p.1 with
        | none => rfl
        | some o => have := a.keep _ o hb e; rw [y] at this; cases this
end
section
variable {w : WK} {A : Around} {E : Value → Shared → Prop} {h₀ : Heap} {g : Array GenState} {d : Drawn} {os : OsState}
variable {tk : Nat}
theorem getinfo_call (gw : G w h₀) (ag : AG 5 A) (q : GS) (ok : GOK w q h₀) (hlen : q.nodes.length ≤ 3000) (n : Int) (t : Tok) {Q : Value → Shared → Prop}
    (hQ : ∀ h' tk' x q', GetN q n x q' → Moved w q h₀ q' h' → Q (.ref x.ia) ⟨h', g, d, tk', os⟩) :
    wpAny (model PP w.w) A (call (.ref 142) [.ref q.s, .int n t]) Q E ⟨h₀, g, d, tk, os⟩ := by
  refine x_callG (a := 142) (ks := [Str.ofString "self", Str.ofString "node"]) (rest := [Str.ofString "result"]) (gl := [Str.ofString "_NodeInfo"])
    ⟨w.need.f142.look, w.need.f142.code, rfl, rfl, rfl, rfl, by decide +kernel, by decide +kernel, by decide +kernel, by decide +kernel, rfl, rfl⟩ gw ag (bind_eq rfl ⟨h₀, tk, [.ref q.s, .int n t], rfl, Keep.refl _, rfl, rfl, fun env L h₁ tk₁ e hf ag' z => ?_⟩)
  replace z := (z.claims (g := q.led w) ok.hold ok.nd).nil
  have gw' : ∀ {h}, (∀ b o, b ∉ q.ads w → h₀.get? b = some o → h.get? b = some o) → G w h := fun k => gw.keepFree k ok.free
  have keepOf : ∀ {m n h}, Z (SbX (q.ads w) h₀) L m n h → ∀ b o, b ∉ q.ads w → h₀.get? b = some o → h.get? b = some o := fun z b o hb e => z.keep b o ⟨hb, e⟩
  refine y_cons ?_
  refine y_if ?_
  refine y_tcmp ?_
  refine wpAny_NamedExpr ?_
  refine x_meth F.plainAttrs_dict F.slot_dict_get F.type_dict_get ?_
  refine x_attr ?_
  refine x_loc e z 0 rfl rfl ?_
  refine x_sget (gw' (keepOf z)) (z.get 0 rfl) (z.get 1 rfl) 0 rfl rfl rfl fun tk => ?_
  refine ⟨DictI.type (z.get 2 rfl), ?_⟩
  refine evs_cons ?_
  refine x_loc e z 1 rfl rfl ?_
  refine evs_nil ?_
  refine x_dget (z.get 2 rfl) ok.lo fun tk => ?_
  refine x_stoName e z 2 rfl (Nat.le_of_ble_eq_true rfl) fun h tk z₁ _ => ?_
  clear z; rename Z _ _ _ _ _ => z
  refine x_none ?_
  rcases kvs_find q.nodes n with ⟨x, hx, hxn, hv⟩ | ⟨hno, hv⟩
  · rw [hv]
    refine x_is_none_f ?_
    refine x_truthy ?_
    refine ite_f ?_
    refine wpAny_execs_nil ?_
    refine y_cons ?_
    refine y_ret ?_
    rw [hv] at z
    refine x_loc e z 2 rfl rfl ?_
    exact hQ h tk x q (.inl ⟨hx, hxn, rfl⟩) (z.moved ok gw ok.lo ok.rdy)
  · rw [hv] at z ⊢
    refine x_is_none_t ?_
    refine x_truthy ?_
    refine ite_t ?_
    refine y_cons ?_
    refine wpAny_Assign_two ?_
    refine x_ccall (mk102 w) ?_
    refine x_glob e (gw' (keepOf z)) 0 rfl (gv_NodeInfo w) ?_
    refine ⟨rfl, ?_⟩
    refine evs_cons ?_
    refine x_loc e z 1 rfl rfl ?_
    refine evs_nil ?_
    refine ⟨(gw' (keepOf z)).K, ?_⟩
    refine x_make (gw' (keepOf z)) (mk102 w) (fI := 98) w.need.fi102 w.need.ty98 fun x dx h₂ k₂ hx0 hdx0 hne hx hdx => ?_
    have gz := gw' (keepOf z)
    refine ninit_call (gz.keep k₂) (ag'.make _ _ _).down (gz.free hx0) (gz.free hdx0) hne hx hdx n t fun h₃ tk₃ la hi hd hl hla0 kx => ?_
    refine ⟨rfl, ?_⟩
    have hlx : la ≠ x := fun c => by subst c; rw [hla0] at hx; cases hx
    have hld : la ≠ dx := fun c => by subst c; rw [hla0] at hdx; cases hdx
    have hl0 : h.get? la = none := by
      cases c : h.get? la with
      | none => rfl
      | some o => have := k₂ _ _ c; rw [hla0] at this; cases this
    have kk : Keep h h₃ := fun b o c => kx b o (fun c' => by subst c'; rw [hx0] at c; cases c) (k₂ b o c)
    let X : GN := ⟨n, x, dx, la, 0, []⟩
    replace z := z.adds (n' := X.led) kk (fun p hp => by
      simp only [GN.led, List.mem_cons, List.not_mem_nil, or_false] at hp
      rcases hp with rfl | rfl | rfl
      · exact hi
      · exact hd
      · exact hl) (by simp [GN.led, X, Ne.symm hne, Ne.symm hlx, Ne.symm hld]) (fun p hp => by
      simp only [GN.led, List.mem_cons, List.not_mem_nil, or_false] at hp
      rcases hp with rfl | rfl | rfl
      · exact hx0
      · exact hdx0
      · exact hl0)
    refine x_asgSub (w := w) ?_
    refine x_attr ?_
    refine x_loc e z 0 rfl rfl ?_
    refine x_sget (gw' (keepOf z)) (z.get 3 rfl) (z.get 4 rfl) 0 rfl rfl rfl fun tk => ?_
    refine x_loc e z 1 rfl rfl ?_
    refine x_dset (z.get 5 rfl) (by unfold kvsOf; rw [List.length_map]; lia) fun h tk hd' hs => ?_
    obtain ⟨od, hod, hdi⟩ := hd'
    replace z := z.upd 5 rfl hs hod hdi
    refine x_stoName e z 2 rfl (Nat.le_of_ble_eq_true rfl) fun h tk z₁ _ => ?_
    clear z; rename Z _ _ _ _ _ => z
    refine wpAny_execs_nil ?_
    refine y_cons ?_
    refine y_ret ?_
    refine x_loc e z 2 rfl rfl ?_
    rw [kvs_store hno X rfl] at z
    refine hQ h tk X { q with nodes := q.nodes ++ [X] } (.inr ⟨hno, rfl, rfl, rfl, rfl⟩) (Z.moved (n := []) (z.perm ?_) ok gw ok.lo ok.rdy)
    have e1 : (({ q with nodes := q.nodes ++ [X] } : GS).led w ++ []) = ({ q with nodes := q.nodes ++ [X] } : GS).top w ++ nled q.nodes ++ X.led := by
      unfold GS.led
      rw [nled_append, List.append_nil, List.append_assoc]
      simp [nled]
    rw [e1]
    have e2 : ((X.led ++ (q.led w ++ [])).set 5 (q.nd, DictI w (kvsOf (q.nodes ++ [X])))) = X.led ++ (({ q with nodes := q.nodes ++ [X] } : GS).top w ++ nled q.nodes) := by
      unfold GS.led
      rw [List.append_nil]
      rfl
    rw [e2]
    exact List.perm_append_comm
end
end Mine
namespace Mine
section
variable {prog : Program} {w : WK} {A : Around} {E : Value → Shared → Prop} {env : Env} {g : Array GenState} {d : Drawn} {os : OsState}
variable {s : Shared} {h : Heap} {tk : Nat}
theorem x_isnot_none {Q : Value → Shared → Prop} (k : Q (.bool false) s) : wpAny (model prog w.w) A (compareOp .IsNot .none .none) Q E s := by
  have e : (!(Value.none == Value.none)) = false := by simp
  exact wpAny_pure (a := Value.bool (!(Value.none == Value.none))) (by rw [e]; exact k)
inductive PAh2 (a : Addr) (Q : Flow → Shared → Prop) (vs : List Value) (s₂ : Shared) : Prop
  | mk (h₂ : Heap) (tk₂ : Nat) (g₂ : Array GenState) (d₂ : Drawn) (os₂ : OsState) (v : Value) (xs : List Value) (e1 : s₂ = ⟨h₂, g₂, d₂, tk₂, os₂⟩) (e2 : vs = [v]) (ho : ∃ ob, h₂.get? a = some ob ∧ LstO xs ob) (hl : xs.length ≤ 100000)
      (q : ∀ h', Heap.SameBut a h₂ h' → (∃ ob, h'.get? a = some ob ∧ LstO (xs ++ [v]) ob) → Q .next ⟨h', g₂, d₂, tk₂, os₂⟩)
inductive PAh1 (M : Model) (A : Around) (E : Value → Shared → Prop) (env : Env) (e : Expr) (Q : Flow → Shared → Prop) (ov : Value) (s₁ : Shared) : Prop
  | mk (a : Addr) (e1 : ov = .ref a) (ho : ∃ xs ob, s₁.heap.get? a = some ob ∧ LstO xs ob) (k : wpAny M A (evs env [e]) (PAh2 a Q) E s₁)
/-- o.append(e), as a statement -/
theorem x_appendH {o e : Expr} {apos cpos pos : Pos} {Q : Flow → Shared → Prop} (hk : env.scope.kind = .function)
    (k : wpAny (model prog w.w) A (eval o env) (PAh1 (model prog w.w) A E env e Q) E s)
    (hs : backTo cpos (starEach [e] env) = [e].map fun e => (false, eval e env) := by rfl)
    (ha : attributeBase o (Str.ofString "append") env (eval o env) = eval o env := by rfl) (hp : (apos.endLine == cpos.line) = true := by rfl)
    (hsw : swapsWith (.Call (.Attribute o (Str.ofString "append") apos) [e] [] cpos) none pos.line env = pure false := by rfl) :
    wpAny (model prog w.w) A (exec (.Expr (.Call (.Attribute o (Str.ofString "append") apos) [e] [] cpos) pos) env) Q E s := by
  refine wpAny_Expr ?_ (by unfold interactive; rw [hk]; rfl) hsw
  refine x_meth F.plainAttrs_list F.slot_list_append F.type_list_append ?_ hs rfl ha hp
  refine wpAny_mono k (fun ov s₁ q => ?_) fun _ _ e => e
  obtain ⟨a, rfl, ⟨xs, ob, ho, hl⟩, q⟩ := q
  have hL : s₁.heap.IsList a xs.toArray := Lst.isList (h := s₁.heap) ⟨ob, ho, hl⟩
  refine ⟨⟨hL.typeIs, fun b hb => ?_⟩, wpAny_mono q (fun vs s₂ q2 => ?_) fun _ _ e => e⟩
  · cases hb
    obtain ⟨nn, h2⟩ := hl
    exact ⟨ob, ho, by rw [h2]⟩
  · obtain ⟨h₂, tk₂, g₂, d₂, os₂, v, ys, rfl, rfl, hl2, hlen, fin⟩ := q2
    refine wpAny_list_append_plain (s := ⟨h₂, g₂, d₂, tk₂, os₂⟩) (hsz := by rw [List.size_toArray, sizeLine_eq]; lia) (Lst.plain (h := h₂) hl2) fun h₄ hl₄ hs₄ => ?_
    obtain ⟨nn, e4⟩ := hl₄
    exact fin h₄ hs₄ ⟨_, e4, nn, by simp⟩
/-- the walk over a tuple -/
noncomputable def TupIt (ax : Addr) (i : Nat) : Obj → Prop := fun o => o.cls = .type "tuple_iterator" ∧ o.data = .fields #[.ref ax, .int i 0]
theorem iter_tup (hh : A.handled = none) (I ax : Addr) (vs : List Value) :
    Iter prog w A I (TupIt ax) vs.length (fun i v => vs[i]? = some v) (fun h => h.IsTuple ax vs.toArray) where
  next := fun i s Q E hi ⟨o, ho, hc, hd⟩ hl k => by
    refine wpAny_pyNext_tuple_item (it := I) (t := ax) (i := i) (x := vs[i]) ⟨o, ho, hc, hd⟩ hl (by simp [hi]) fun h' hit hs => ?_
    obtain ⟨o', ho', hc', hd'⟩ := hit
    exact k _ h' _ (by simp [hi]) hs.extBut ⟨o', ho', hc', hd'⟩
  stop := fun s Q E ⟨o, ho, hc, hd⟩ hl k => wpAny_pyNext_tuple_end hh (it := I) (t := ax) (i := vs.length) ⟨o, ho, hc, hd⟩ hl (by simp) fun h' hs => k h' _ hs
  again := fun s Q E ⟨o, ho, hc, hd⟩ k => wpAny_pyIter_tupleiter (it := I) (t := ax) (i := 0) ⟨o, ho, hc, hd⟩ k
theorem x_iter_tup {a : Addr} {vs : List Value} {Q : Value → Shared → Prop} (hl : h.IsTuple a vs.toArray)
    (k : ∀ I h', Keep h h' → h.get? I = none → (∃ o, h'.get? I = some o ∧ TupIt a 0 o) → Q (.ref I) ⟨h', g, d, tk, os⟩) : wpAny (model prog w.w) A (pyIter (.ref a)) Q E ⟨h, g, d, tk, os⟩ :=
  wpAny_pyIter_tuple (s := ⟨h, g, d, tk, os⟩) hl (k _ _ (Keep.push _ _) (get_size _) ⟨_, Heap.get?_push_size _ rfl, rfl, rfl⟩)
theorem x_len_tup {a : Addr} {vs : List Value} {Q : Value → Shared → Prop} (hl : ∃ o, h.get? a = some o ∧ TupO vs o) (hn : vs.length ≤ 1000) (k : ∀ t tk', Q (.int (vs.length : Int) t) ⟨h, g, d, tk', os⟩) : wpAny (model prog w.w) A (call (.builtin "len") [.ref a]) Q E ⟨h, g, d, tk, os⟩ := by
  obtain ⟨o, ho, rfl⟩ := hl
  refine len_tuple (s := ⟨h, g, d, tk, os⟩) (items := vs.toArray) ⟨_, ho, rfl, _, rfl⟩ (by rw [List.size_toArray]; lia) ?_
  rw [List.size_toArray]
  exact k _ _
end
/-- what a graph's nodes say, without addresses -/
noncomputable def cont (l : List GN) : List (Int × List Int) := l.map fun x => (x.node, x.succ)
noncomputable def ensureC (c : List (Int × List Int)) (k : Int) : List (Int × List Int) := if c.any (fun e => e.1 == k) then c else c ++ [(k, [])]
noncomputable def addC (c : List (Int × List Int)) (n p : Int) : List (Int × List Int) := (ensureC (ensureC c n) p).map fun e => if e.1 = p then (e.1, e.2 ++ [n]) else e
theorem GetN.cont {q q' : GS} {n : Int} {x : GN} (y : GetN q n x q') : Mine.cont q'.nodes = ensureC (Mine.cont q.nodes) n := by
  rcases y with ⟨hx, hn, rfl⟩ | ⟨hno, hn, _, hs, rfl⟩
  · unfold ensureC
    rw [if_pos]
    rw [List.any_eq_true]
    exact ⟨(x.node, x.succ), List.mem_map_of_mem hx, by simp [hn]⟩
  · unfold ensureC
    rw [if_neg]
    · unfold Mine.cont; simp [hn, hs]
    · rw [Bool.not_eq_true, List.any_eq_false]
      intro e he
      obtain ⟨y, hy, rfl⟩ := List.mem_map.mp he
      simpa using hno y hy
theorem GetN.mem {q q' : GS} {n : Int} {x : GN} (y : GetN q n x q') : x ∈ q'.nodes ∧ x.node = n := by
  rcases y with ⟨hx, hn, rfl⟩ | ⟨hno, hn, _, hs, rfl⟩
  · exact ⟨hx, hn⟩
  · exact ⟨by simp, hn⟩
theorem GetN.same {q q' : GS} {n : Int} {x : GN} (y : GetN q n x q') : q'.s = q.s ∧ q'.ready = q.ready := by
  rcases y with ⟨_, _, rfl⟩ | ⟨_, _, _, _, rfl⟩ <;> exact ⟨rfl, rfl⟩
theorem GetN.len {q q' : GS} {n : Int} {x : GN} (y : GetN q n x q') : q'.nodes.length ≤ q.nodes.length + 1 := by
  rcases y with ⟨_, _, rfl⟩ | ⟨_, _, _, _, rfl⟩
  · lia
  · simp
theorem GOK.keys {w : WK} {q : GS} {h : Heap} (x : GOK w q h) : (q.nodes.map (·.node)).Nodup := by
  obtain ⟨o, _, es, ep, _, _, _, _, hn⟩ := x.hold (q.nd, DictI w (kvsOf q.nodes)) (List.mem_append_left _ (by simp [GS.top]))
  unfold kvsOf at hn
  rw [List.map_map] at hn
  exact hn
/-- a list of the ledger's one thing turned -/
theorem Z.updA {B : Addr → Obj → Prop} {L : Addr} {m : Str → Option Value} {n1 n2 : Led} {h h' : Heap} {a : Addr} {P P' : Obj → Prop} (z : Z B L m (n1 ++ (a, P) :: n2) h) (hs : Heap.SameBut a h h') (ho : ∃ o, h'.get? a = some o ∧ P' o) : Z B L m (n1 ++ (a, P') :: n2) h' := by
  obtain ⟨o, ho, hP⟩ := ho
  have := z.upd (P := P) (P' := P') n1.length (by simp) hs ho hP
  simpa using this
theorem Z.getA {B : Addr → Obj → Prop} {L : Addr} {m : Str → Option Value} {n1 n2 : Led} {h : Heap} {a : Addr} {P : Obj → Prop} (z : Z B L m (n1 ++ (a, P) :: n2) h) : ∃ o, h.get? a = some o ∧ P o := z.led (a, P) (by simp)
end Mine
namespace Mine
theorem GN.led_i (x : GN) : (x.ia, InfoO x.ix x.node x.np x.la) ∈ x.led := by simp [GN.led]
theorem GN.led_e (x : GN) : (x.ix, EmpO) ∈ x.led := by simp [GN.led]
theorem GN.led_s (x : GN) : (x.la, ILst x.succ) ∈ x.led := by simp [GN.led]
theorem GOK.keepK {w : WK} {q : GS} {h h' : Heap} (x : GOK w q h) (k : Keep h h') : GOK w q h' := ⟨x.hold.keep k, x.nd, x.free, x.lo, x.rdy⟩
theorem GOK.there {w : WK} {q : GS} {h : Heap} (x : GOK w q h) {b : Addr} (hb : b ∈ q.ads w) : h.get? b ≠ none := by
  obtain ⟨p, hp, rfl⟩ := List.mem_map.mp hb
  obtain ⟨o, e, _⟩ := x.hold p hp
  rw [e]; simp
theorem Moved.pre {w : WK} {q q' : GS} {h₀ h h' : Heap} (k : Keep h₀ h) (a : Moved w q h q' h') : Moved w q h₀ q' h' :=
  ⟨a.ok, fun b o hb e => a.keep b o hb (k _ _ e), fun p hp => (a.new p hp).imp id fun c => by
    cases e : h₀.get? p.1 with
    | none => rfl
    | some o => have := k _ _ e; rw [c] at this; cases this⟩
section
variable {w : WK} {B : Addr → Obj → Prop} {L : Addr} {m : Str → Option Value} {q : GS} {n : Led} {h h' : Heap} {x : GN} {s1 s2 : List GN}
theorem nled_cons (x : GN) (l : List GN) : nled (x :: l) = x.led ++ nled l := by simp [nled]
theorem kvs_same {x x' : GN} (h1 : x'.node = x.node) (h2 : x'.ia = x.ia) : kvsOf (s1 ++ x' :: s2) = kvsOf (s1 ++ x :: s2) := by simp [kvsOf, h1, h2]
theorem led_split (hs : q.nodes = s1 ++ x :: s2) : q.led w ++ n = (q.top w ++ nled s1) ++ (x.ia, InfoO x.ix x.node x.np x.la) :: ((x.ix, EmpO) :: (x.la, ILst x.succ) :: (nled s2 ++ n)) := by
  unfold GS.led
  rw [hs, nled_append, nled_cons]
  simp [GN.led]
theorem led_split2 (hs : q.nodes = s1 ++ x :: s2) : q.led w ++ n = (q.top w ++ nled s1 ++ [(x.ia, InfoO x.ix x.node x.np x.la), (x.ix, EmpO)]) ++ (x.la, ILst x.succ) :: (nled s2 ++ n) := by
  rw [led_split hs]; simp
theorem top_same {x' : GN} (hs : q.nodes = s1 ++ x :: s2) (h1 : x'.node = x.node) (h2 : x'.ia = x.ia) : ({ q with nodes := s1 ++ x' :: s2 } : GS).top w = q.top w := by
  unfold GS.top
  dsimp only
  rw [kvs_same h1 h2, ← hs]
theorem Z.setnp (z : Z B L m (q.led w ++ n) h) (hs : q.nodes = s1 ++ x :: s2) (np' : Int) (hb : Heap.SameBut x.ia h h') (ho : ∃ o, h'.get? x.ia = some o ∧ InfoO x.ix x.node np' x.la o) :
    Z B L m (({ q with nodes := s1 ++ { x with np := np' } :: s2 } : GS).led w ++ n) h' := by
  rw [led_split hs] at z
  rw [led_split (q := { q with nodes := s1 ++ { x with np := np' } :: s2 }) (x := { x with np := np' }) (s1 := s1) (s2 := s2) rfl, top_same (x' := { x with np := np' }) hs rfl rfl]
  exact z.updA hb ho
theorem Z.setsucc (z : Z B L m (q.led w ++ n) h) (hs : q.nodes = s1 ++ x :: s2) (l : List Int) (hb : Heap.SameBut x.la h h') (ho : ∃ o, h'.get? x.la = some o ∧ ILst l o) :
    Z B L m (({ q with nodes := s1 ++ { x with succ := l } :: s2 } : GS).led w ++ n) h' := by
  rw [led_split2 hs] at z
  rw [led_split2 (q := { q with nodes := s1 ++ { x with succ := l } :: s2 }) (x := { x with succ := l }) (s1 := s1) (s2 := s2) rfl, top_same (x' := { x with succ := l }) hs rfl rfl]
  exact z.updA hb ho
end
theorem cont_np {s1 s2 : List GN} {x : GN} (np' : Int) : cont (s1 ++ { x with np := np' } :: s2) = cont (s1 ++ x :: s2) := by simp [cont]
theorem cont_succ {s1 s2 : List GN} {x : GN} {p n : Int} (hx : x.node = p) (nd : ((s1 ++ x :: s2).map (·.node)).Nodup) :
    cont (s1 ++ { x with succ := x.succ ++ [n] } :: s2) = (cont (s1 ++ x :: s2)).map fun e => if e.1 = p then (e.1, e.2 ++ [n]) else e := by
  rw [List.map_append, List.map_cons, List.nodup_append] at nd
  obtain ⟨_, n2, n3⟩ := nd
  rw [List.nodup_cons] at n2
  have h1 : ∀ y ∈ s1, y.node ≠ p := fun y hy c => n3 y.node (List.mem_map_of_mem hy) x.node (List.mem_cons_self) (by rw [c, hx])
  have h2 : ∀ y ∈ s2, y.node ≠ p := fun y hy c => n2.1 (by rw [hx, ← c]; exact List.mem_map_of_mem hy)
  have same : ∀ l : List GN, (∀ y ∈ l, y.node ≠ p) → (cont l).map (fun e => if e.1 = p then (e.1, e.2 ++ [n]) else e) = cont l := by
    intro l hl
    unfold cont
    rw [List.map_map]
    refine List.map_congr_left fun y hy => ?_
    show (if y.node = p then _ else _) = _
    rw [if_neg (hl y hy)]
  have e1 : cont (s1 ++ x :: s2) = cont s1 ++ (x.node, x.succ) :: cont s2 := by simp [cont]
  have e2 : cont (s1 ++ { x with succ := x.succ ++ [n] } :: s2) = cont s1 ++ (x.node, x.succ ++ [n]) :: cont s2 := by simp [cont]
  rw [e1, e2, List.map_append, List.map_cons, same s1 h1, same s2 h2, if_pos hx]
section
variable {w : WK} {A : Around} {E : Value → Shared → Prop} {h₀ : Heap} {g : Array GenState} {d : Drawn} {os : OsState}
variable {tk : Nat}
/-- arguments bound, the rest of them as a tuple -/
theorem wpAny_of_bind {fd : FuncData} {args ts : List Value} {bs : Value → List (Str × Value)} {A : Around} {h : Heap} {M : Model} {Q : List (Str × Value) → Shared → Prop} (hb : bindArgs fd ⟨args, []⟩ = (newTuple ts >>= fun v => pure (bs v)))
    (k : ∀ T h', Keep h h' → h.get? T = none → (∃ o, h'.get? T = some o ∧ TupO ts o) → Q (bs (.ref T)) ⟨h', g, d, tk, os⟩) (hl : (decide (ts.length ≤ 1000)) = true := by rfl) : wpAny M A (bindArgs fd ⟨args, []⟩) Q E ⟨h, g, d, tk, os⟩ := by
  rw [hb]
  refine wpAny_bind (wpAny_newTuple (wpAny_pure (k _ _ (Keep.push _ _) (get_size _) ⟨_, Heap.get?_push_size _ rfl, rfl⟩)) ?_)
  have := of_decide_eq_true hl
  rw [sizeLine_eq]; lia
theorem add_call (gw : G w h₀) (ag : AG 7 A) (q : GS) (ok : GOK w q h₀) (hr : q.ready = .none) (hlen : q.nodes.length ≤ 2900) (hsl : ∀ x ∈ q.nodes, x.succ.length ≤ 3000) (n p : Int) (t u : Tok) {Q : Value → Shared → Prop}
    (hQ : ∀ h' tk' q', cont q'.nodes = addC (cont q.nodes) n p → q'.s = q.s → q'.ready = .none → Moved w q h₀ q' h' → Q .none ⟨h', g, d, tk', os⟩) :
    wpAny (model PP w.w) A (call (.ref 149) [.ref q.s, .int n t, .int p u]) Q E ⟨h₀, g, d, tk, os⟩ := by
  refine x_callG (a := 149) (ks := [Str.ofString "self", Str.ofString "node", Str.ofString "predecessors"]) (rest := [Str.ofString "nodeinfo", Str.ofString "pred", Str.ofString "pred_info"]) (gl := [Str.ofString "ValueError", Str.ofString "len"])
    ⟨w.need.f149.look, w.need.f149.code, rfl, rfl, rfl, rfl, by decide +kernel, by decide +kernel, by decide +kernel, by decide +kernel, rfl, rfl⟩ gw ag ?_
  refine wpAny_of_bind (ts := [.int p u]) (bs := fun v => [(Str.ofString "self", .ref q.s), (Str.ofString "node", .int n t), (Str.ofString "predecessors", v)]) (by rfl) fun T hT kT hT0 hTo => ?_
  refine ⟨hT, tk, [.ref q.s, .int n t, .ref T], rfl, kT, rfl, rfl, fun env L h₁ tk₁ e hf ag' z => ?_⟩
  have ok' := ok.keepK kT
  have gwT := gw.keep kT
  replace z := (z.claims (g := q.led w) ok'.hold ok'.nd).nil
  have hTads : T ∉ q.ads w := fun c => ok.there c hT0
  have gw' : ∀ {h}, (∀ b o, b ∉ q.ads w → hT.get? b = some o → h.get? b = some o) → G w h := fun k => gwT.keepFree k ok.free
  have keepOf : ∀ {m n h}, Z (SbX (q.ads w) hT) L m n h → ∀ b o, b ∉ q.ads w → hT.get? b = some o → h.get? b = some o := fun z b o hb e => z.keep b o ⟨hb, e⟩
  have tupOf : ∀ {m n h}, Z (SbX (q.ads w) hT) L m n h → ∃ o, h.get? T = some o ∧ TupO [.int p u] o := fun z => let ⟨o, ho, hp⟩ := hTo; ⟨o, keepOf z _ _ hTads ho, hp⟩
  refine y_cons ?_
  refine y_if ?_
  refine y_tcmp ?_
  refine x_attr ?_
  refine x_loc e z 0 rfl rfl ?_
  refine x_sget (gw' (keepOf z)) (z.get 0 rfl) (z.get 1 rfl) 1 rfl (by rw [hr]; rfl) rfl fun tk => ?_
  refine x_none ?_
  refine x_isnot_none ?_
  refine x_truthy ?_
  refine ite_f ?_
  refine wpAny_execs_nil ?_
  refine y_cons ?_
  refine x_asg (B := SbX (q.ads w) hT) (g := g) (d := d) (os := os) e 3 rfl ?_
  refine x_smeth (w := w) (f := 142) w.need.fm142 w.need.ty142 (by decide +kernel) ?_
  refine x_loc e z 0 rfl rfl ?_
  refine ⟨_, _, _, _, _, _, _, _, rfl, rfl, gw' (keepOf z), z.get 0 rfl, z.get 1 rfl, ?_⟩
  refine evs_cons ?_
  refine x_loc e z 1 rfl rfl ?_
  refine evs_nil ?_
  refine ⟨fn_at (gw' (keepOf z)) w.need.f142, ?_⟩
  refine getinfo_call (gw' (keepOf z)) (ag'.down) q (z.moved ok' gwT ok.lo ok.rdy).ok (by lia) n t fun h tk x q1 gx mv => ?_
  replace z := z.after mv
  refine ⟨_, _, _, _, rfl, z, Nat.le_of_ble_eq_true rfl, fun h tk z₁ => ?_⟩
  clear z; rename Z _ _ _ _ _ => z
  have mv1 : Moved w q hT q1 h := z.moved ok' gwT mv.ok.lo mv.ok.rdy
  clear mv
  obtain ⟨hx, hxn⟩ := gx.mem
  obtain ⟨s1, s2, hs⟩ := List.append_of_mem hx
  refine y_cons ?_
  refine wpAny_AugAssign_AttributeAny ?_
  refine x_loc e z 3 rfl rfl ?_
  refine x_iget_np (gw' (keepOf z)) (z.getM (List.mem_append_left _ (GS.mem_node hx x.led_i))) (z.getM (List.mem_append_left _ (GS.mem_node hx x.led_e))) fun t3 tk => ?_
  refine x_bcall (id := "len") ?_
  refine x_glob e (gw' (keepOf z)) 1 rfl (gv_len w) ?_
  refine ⟨rfl, ?_⟩
  refine evs_cons ?_
  refine x_loc e z 2 rfl rfl ?_
  refine evs_nil ?_
  refine x_len_tup (tupOf z) (Nat.le_of_ble_eq_true rfl) fun t4 tk => ?_
  refine iadd_int ?_
  refine x_iset_np (gw' (keepOf z)) (z.getM (List.mem_append_left _ (GS.mem_node hx x.led_i))) (z.getM (List.mem_append_left _ (GS.mem_node hx x.led_e))) fun h tk hx' hsb => ?_
  replace z := z.setnp hs _ hsb hx'
  generalize hnp : x.np + _ = np' at z
  refine y_cons ?_
  refine wpAny_For ?_
  refine x_loc e z 2 rfl rfl ?_
  have htT : ∀ {h : Heap}, (∃ o, h.get? T = some o ∧ TupO [.int p u] o) → h.IsTuple T [Value.int p u].toArray := fun x => Tup.isTuple x
  refine x_iter_tup (htT (tupOf z)) fun I h kI hI hIt => ?_
  replace z := z.add kI hI hIt.choose_spec.1 hIt.choose_spec.2
  let q2 : GS := { q1 with nodes := s1 ++ { x with np := np' } :: s2 }
  have c2 : cont q2.nodes = ensureC (cont q.nodes) n := by
    show cont (s1 ++ { x with np := np' } :: s2) = _
    rw [cont_np, ← hs]; exact gx.cont
  have l2 : q2.nodes.length ≤ q.nodes.length + 1 := by
    have := gx.len
    rw [hs] at this
    simpa [q2] using this
  have sd2 : q2.s = q.s ∧ q2.ready = .none := ⟨gx.same.1, gx.same.2.trans hr⟩
  have sl2 : ∀ y ∈ q2.nodes, y.succ.length ≤ 3000 := by
    intro y hy
    have hc : (y.node, y.succ) ∈ cont q2.nodes := List.mem_map_of_mem (f := fun x : GN => (x.node, x.succ)) hy
    rw [c2] at hc
    unfold ensureC at hc
    split at hc
    · obtain ⟨y', hy', e'⟩ := List.mem_map.mp hc
      injection e' with e1 e2
      rw [← e2]; exact hsl y' hy'
    · rcases List.mem_append.mp hc with hc | hc
      · obtain ⟨y', hy', e'⟩ := List.mem_map.mp hc
        injection e' with e1 e2
        rw [← e2]; exact hsl y' hy'
      · rw [List.mem_singleton] at hc
        injection hc with e1 e2
        rw [e2]; simp
  refine x_forG (R := fun r s' => match r with | .ok f => _ | .error e => _) (A := A.deeper env) (names := [Str.ofString "self", Str.ofString "node", Str.ofString "predecessors"] ++ [Str.ofString "nodeinfo", Str.ofString "pred", Str.ofString "pred_info"]) (iter_tup ag'.hh I T [.int p u]) (σ := GS × Option Value × Option Value)
    (fun i st => st.1.s = q.s ∧ st.1.ready = .none ∧ NotMod st.1.nd ∧ (i = 0 → st.1 = q2) ∧ (i = 1 → cont st.1.nodes = addC (cont q.nodes) n p)) (fun i st => [some (.ref q.s), some (.int n t), some (.ref T), some (.ref x.ia), st.2.1, st.2.2]) (fun i st => st.1.led w ++ []) (fun _ _ => g) (q2, none, none)
    ⟨sd2.1, sd2.2, mv1.ok.lo, fun _ => rfl, fun c => by cases c⟩ z (fun i st h _ z => htT (tupOf z)) ?_ ?_
  · rintro i ⟨qi, v1, v2⟩ v h tk hi hv ⟨i1, i2, i3, i4, _⟩ z
    have hi0 : i = 0 := by simp at hi; lia
    subst hi0
    obtain rfl := i4 rfl
    obtain rfl : Value.int p u = v := by simpa using hv
    replace z := z.perm (n' := q2.led w ++ [(I, TupIt T 1)]) (by rw [List.append_nil]; exact List.perm_append_comm)
    refine x_stoName e z 4 rfl (Nat.le_of_ble_eq_true rfl) fun h tk z₁ _ => ?_
    clear z; rename Z _ _ _ _ _ => z
    have rdy2 : handedIn q2.ready = true := by rw [sd2.2]; rfl
    refine y_cons ?_
    refine x_asg (B := SbX (q.ads w) hT) (g := g) (d := d) (os := os) e 5 rfl ?_
    refine x_smeth (w := w) (f := 142) w.need.fm142 w.need.ty142 (by decide +kernel) ?_
    refine x_loc e z 0 rfl rfl ?_
    rw [← sd2.1] at z ⊢
    refine ⟨_, _, _, _, _, _, _, _, rfl, rfl, gw' (keepOf z), z.get 0 rfl, z.get 1 rfl, ?_⟩
    refine evs_cons ?_
    refine x_loc e z 4 rfl rfl ?_
    refine evs_nil ?_
    refine ⟨fn_at (gw' (keepOf z)) w.need.f142, ?_⟩
    refine getinfo_call (gw' (keepOf z)) (ag'.down) q2 (z.moved ok' gwT i3 rdy2).ok (by lia) p u fun h tk y q3 gy mv => ?_
    replace z := z.after mv
    refine ⟨_, _, _, _, rfl, z, Nat.le_of_ble_eq_true rfl, fun h tk z₁ => ?_⟩
    clear z; rename Z _ _ _ _ _ => z
    obtain ⟨hy, hyn⟩ := gy.mem
    obtain ⟨s3, s4, hs3⟩ := List.append_of_mem hy
    refine y_cons ?_
    have sl3 : y.succ.length ≤ 3000 := by
      rcases gy with ⟨hm, _, rfl⟩ | ⟨_, _, _, e0, _⟩
      · exact sl2 y hm
      · rw [e0]; simp
    refine x_appendH e.kind ?_
    refine x_attr ?_
    refine x_loc e z 5 rfl rfl ?_
    refine x_iget_succ (gw' (keepOf z)) (z.getM (List.mem_append_left _ (GS.mem_node hy y.led_i))) (z.getM (List.mem_append_left _ (GS.mem_node hy y.led_e))) fun tk => ?_
    obtain ⟨ol, hol, xs, hxs, hxl⟩ := z.getM (List.mem_append_left _ (GS.mem_node hy y.led_s))
    refine ⟨_, rfl, ⟨xs, ol, hol, hxl⟩, ?_⟩
    refine evs_cons ?_
    refine x_loc e z 1 rfl rfl ?_
    refine evs_nil ?_
    refine ⟨_, _, _, _, _, _, xs, rfl, rfl, ⟨ol, hol, hxl⟩, by rw [ints_len hxs]; lia, fun h hsb hl => ?_⟩
    obtain ⟨ol', hol', hxl'⟩ := hl
    replace z := z.setsucc hs3 (y.succ ++ [n]) hsb ⟨ol', hol', _, ints_snoc hxs n t, hxl'⟩
    refine wpAny_execs_nil ?_
    have sd3 := gy.same
    refine ⟨({ q3 with nodes := s3 ++ { y with succ := y.succ ++ [n] } :: s4 }, _, _), h, _, rfl, ⟨sd3.1, sd3.2.trans sd2.2, mv.ok.lo, fun c => absurd c (by decide), fun _ => ?_⟩, z.perm ?_⟩
    · show cont (s3 ++ { y with succ := y.succ ++ [n] } :: s4) = _
      have kn := mv.ok.keys
      rw [hs3] at kn
      rw [cont_succ hyn kn, ← hs3, gy.cont, c2]
      rfl
    · dsimp only
      rw [List.append_nil]
      exact List.perm_append_comm (l₁ := [(I, TupIt T 1)])
  · rintro ⟨qi, v1, v2⟩ h tk ⟨i1, i2, i3, _, i5⟩ z
    refine wpAny_execs_nil ?_
    exact hQ h tk qi (i5 rfl) i1 i2 ((z.moved ok' gwT i3 (by rw [i2]; rfl)).pre kT)
end
end Mine
namespace Mine
theorem nsU_empty : NsU (fr AN [none, none, none, none]) { cls := .type "dict", data := .dict #[] } := by
  refine ⟨#[], 0, rfl, fun e he => absurd he (by simp), .nil, fun name => ?_⟩
  show nsFind #[] name = _
  have : fr AN [none, none, none, none] name = none := by
    unfold AN
    repeat (rw [fr_cons]; split; rfl)
    rfl
  rw [this]; rfl
section
variable {w : WK} {A : Around} {E : Value → Shared → Prop} {h₀ : Heap} {g : Array GenState} {d : Drawn} {os : OsState}
variable {tk : Nat}
/-- TopologicalSorter.__init__ -/
theorem sinit_call (gw : G w h₀) (ag : AG 2 A) {x dx : Addr} (fx : Free w x) (fdx : Free w dx) (hne : dx ≠ x) (hx : h₀.get? x = some { cls := .ref 199, dict := some dx, data := .plain }) (hd : h₀.get? dx = some { cls := .type "dict", data := .dict #[] })
    {R : Result → Shared → Prop}
    (hR : ∀ h' tk' q, q.nodes = [] → q.s = x → q.ready = .none → GOK w q h' → (∀ b o, b ≠ x → b ≠ dx → h₀.get? b = some o → h'.get? b = some o) → (∀ p ∈ q.led w, p.1 = x ∨ p.1 = dx ∨ h₀.get? p.1 = none) → R (.ok (.ret .none)) ⟨h', g, d, tk', os⟩) :
    codeAny (model PP w.w) A (.call (.ref 135) ⟨[.ref x], []⟩) R ⟨h₀, g, d, tk, os⟩ := by
  refine c_callG (a := 135) (ks := [Str.ofString "self", Str.ofString "graph"]) (rest := [Str.ofString "node", Str.ofString "predecessors"]) (gl := [])
    ⟨w.need.f135.look, w.need.f135.code, rfl, rfl, rfl, rfl, by decide +kernel, by decide +kernel, by decide +kernel, by decide +kernel, rfl, rfl⟩ gw ag ?_
  refine BindsTo.of_defaults (T := 128) (binds := [(Str.ofString "self", .ref x), (Str.ofString "graph", .none)]) rfl (gw.K 128 _ w.need.t128) rfl rfl rfl _ _ _ _ ⟨h₀, tk, [.ref x, .none], rfl, Keep.refl _, rfl, rfl, fun env L h₁ tk₁ e hf ag' z => ?_⟩
  replace z := z.claims (g := [(x, SortO dx), (dx, NsU (fr AN [none, none, none, none]))]) (fun p hp => by
    rcases List.mem_cons.mp hp with rfl | hp
    · exact ⟨_, hx, rfl⟩
    · rcases List.mem_singleton.mp hp with rfl
      exact ⟨_, hd, nsU_empty⟩) (by simp [Ne.symm hne])
  have frx : ∀ b ∈ [x, dx], Free w b := by
    intro b hb
    rcases List.mem_cons.mp hb with rfl | hb
    · exact fx
    · rcases List.mem_singleton.mp hb with rfl; exact fdx
  refine y_cons ?_
  refine plainObj_wpAny_Assign_Attribute ?_
  refine x_dict0 (gw.keepFree z.toX frx) fun nd h ka hn lo hdi => ?_
  replace z := z.add ka hn hdi.choose_spec.1 hdi.choose_spec.2
  refine x_loc e z 0 rfl rfl ?_
  refine x_sset (gw.keepFree z.toX frx) (z.get 1 rfl) (z.get 2 rfl) 0 rfl (Nat.le_of_ble_eq_true rfl) fun h tk hx' hs => ?_
  replace z := z.upd 2 rfl hs hx'.choose_spec.1 hx'.choose_spec.2
  refine y_cons ?_
  refine plainObj_wpAny_Assign_Attribute ?_
  refine x_none ?_
  refine x_loc e z 0 rfl rfl ?_
  refine x_sset (gw.keepFree z.toX frx) (z.get 1 rfl) (z.get 2 rfl) 1 rfl (Nat.le_of_ble_eq_true rfl) fun h tk hx' hs => ?_
  replace z := z.upd 2 rfl hs hx'.choose_spec.1 hx'.choose_spec.2
  refine y_cons ?_
  refine plainObj_wpAny_Assign_Attribute ?_
  refine x_int fun t1 _ => ?_
  refine x_loc e z 0 rfl rfl ?_
  refine x_sset (gw.keepFree z.toX frx) (z.get 1 rfl) (z.get 2 rfl) 2 rfl (Nat.le_of_ble_eq_true rfl) fun h tk hx' hs => ?_
  replace z := z.upd 2 rfl hs hx'.choose_spec.1 hx'.choose_spec.2
  refine y_cons ?_
  refine plainObj_wpAny_Assign_Attribute ?_
  refine x_int fun t2 _ => ?_
  refine x_loc e z 0 rfl rfl ?_
  refine x_sset (gw.keepFree z.toX frx) (z.get 1 rfl) (z.get 2 rfl) 3 rfl (Nat.le_of_ble_eq_true rfl) fun h tk hx' hs => ?_
  replace z := z.upd 2 rfl hs hx'.choose_spec.1 hx'.choose_spec.2
  refine y_cons ?_
  refine y_if ?_
  refine y_tcmp ?_
  refine x_loc e z 1 rfl rfl ?_
  refine x_none ?_
  refine x_isnot_none ?_
  refine x_truthy ?_
  refine ite_f ?_
  refine wpAny_execs_nil ?_
  refine wpAny_execs_nil ?_
  let q : GS := ⟨x, dx, nd, .none, some (.int 0 t1), some (.int 0 t2), []⟩
  have zq : Z (SbX (([(x, SortO dx), (dx, NsU (fr AN [none, none, none, none]))] : Led).map (·.1)) h₀) L _ (q.led w) h := z.pick [1, 2, 0] (by decide)
  have fresh : ∀ p ∈ q.led w, p.1 = x ∨ p.1 = dx ∨ h₀.get? p.1 = none := by
    intro p hp
    by_cases hb : p.1 ∈ [x, dx]
    · simp only [List.mem_cons, List.not_mem_nil, or_false] at hb
      exact hb.elim .inl fun c => .inr (.inl c)
    · refine .inr (.inr ?_)
      cases c : h₀.get? p.1 with
      | none => rfl
      | some o => exact absurd ⟨hb, c⟩ ((zq.off p hp).2 o)
  refine hR h _ q rfl rfl rfl ⟨zq.led, zq.nd, fun b hb => ?_, lo, rfl⟩ (fun b o h1 h2 c => zq.toX b o (by simp [h1, h2]) c) fresh
  obtain ⟨p, hp, rfl⟩ := List.mem_map.mp hb
  rcases fresh p hp with c | c | c
  · rw [c]; exact fx
  · rw [c]; exact fdx
  · exact gw.free c
/-- TopologicalSorter() -/
theorem snew_call (gw : G w h₀) (ag : AG 4 A) {Q : Value → Shared → Prop}
    (hQ : ∀ h' tk' q, q.nodes = [] → q.ready = .none → GOK w q h' → Keep h₀ h' → (∀ p ∈ q.led w, h₀.get? p.1 = none) → Q (.ref q.s) ⟨h', g, d, tk', os⟩) :
    wpAny (model PP w.w) A (call (.ref 199) []) Q E ⟨h₀, g, d, tk, os⟩ := by
  refine x_make gw (mk199 w) (fI := 135) w.need.fi199 w.need.ty135 fun x dx h₁ k₁ hx0 hdx0 hne hx hdx => ?_
  refine sinit_call (gw.keep k₁) ((ag.make _ _ _).down) (gw.free hx0) (gw.free hdx0) hne hx hdx fun h' tk' q e1 e2 e3 ok kp new => ?_
  refine ⟨rfl, ?_⟩
  rw [← e2]
  refine hQ h' tk' q e1 e3 ok (fun b o c => kp b o (fun c' => by subst c'; rw [hx0] at c; cases c) (fun c' => by subst c'; rw [hdx0] at c; cases c) (k₁ b o c)) fun p hp => ?_
  rcases new p hp with c | c | c
  · rw [c]; exact hx0
  · rw [c]; exact hdx0
  · cases c' : h₀.get? p.1 with
    | none => rfl
    | some o => have := k₁ _ _ c'; rw [c] at this; cases this
end
end Mine
set_option maxRecDepth 1000000
set_option maxHeartbeats 4000000
namespace Mine
theorem li_ga : typeLookup (.type "list_iterator") "__getattribute__" = pure (some (.builtin "object.__getattribute__")) := by rw [typeLookup_type, builtinLookup_eq_fast]; kernel_rfl
theorem lk_next : typeLookup (.type "list_iterator") "__next__" = pure (some (.builtin "list_iterator.__next__")) := by rw [typeLookup_type, builtinLookup_eq_fast]; kernel_rfl
theorem ty_next : typeOf (.builtin "list_iterator.__next__") = pure (.type "wrapper_descriptor") := by show builtinType _ = _; rw [builtinType_eq_fast]; kernel_rfl
theorem wd_get : typeLookup (.type "wrapper_descriptor") "__get__" = pure (some (.builtin "wrapper_descriptor.__get__")) := by rw [typeLookup_type, builtinLookup_eq_fast]; kernel_rfl
theorem wd_set : typeLookup (.type "wrapper_descriptor") "__set__" = pure none := by rw [typeLookup_type, builtinLookup_eq_fast]; kernel_rfl
theorem wd_del : typeLookup (.type "wrapper_descriptor") "__delete__" = pure none := by rw [typeLookup_type, builtinLookup_eq_fast]; kernel_rfl
theorem entry_wd_get : entryFor table "wrapper_descriptor.__get__" = some Builtin.«wrapper_descriptor.__get__» := entryFor_of_tree (by kernel_rfl)
theorem slot_wd_get : Slot "wrapper_descriptor" "__get__" "wrapper_descriptor.__get__" :=
  .of (owner := "wrapper_descriptor") (n := "__get__") (by rw [typeLookup_type, builtinLookup_eq_fast]; kernel_rfl) (by decide +kernel) (by decide +kernel) (by decide +kernel)
    (by first | exact .inl (by decide +kernel) | exact .inr (by decide +kernel)) (by rw [isSubtype_type]; kernel_rfl)
theorem args_wd_get (a b c : Value) : argsOk "wrapper_descriptor.__get__" ⟨[a, b, c], []⟩ := by unfold argsOk; kernel_rfl
theorem sub_li : isSubtype (.type "list_iterator") (.type "list_iterator") = pure true := by rw [isSubtype_type]; kernel_rfl
theorem slot_li_ga : Slot "list_iterator" "__getattribute__" "object.__getattribute__" :=
  .of (owner := "object") (n := "__getattribute__") (by rw [typeLookup_type, builtinLookup_eq_fast]; kernel_rfl) (by decide +kernel) (by decide +kernel) (by decide +kernel)
    (by first | exact .inl (by decide +kernel) | exact .inr (by decide +kernel)) (by rw [isSubtype_type]; kernel_rfl)
theorem entry_obj_ga : entryFor table "object.__getattribute__" = some Builtin.«object.__getattribute__» := by first | exact entryFor_of_tree (by kernel_rfl) | exact entryFor_of_fast (by kernel_rfl)
theorem args_obj_ga (a b : Value) : argsOk "object.__getattribute__" ⟨[a, b], []⟩ := by unfold argsOk; kernel_rfl
/-- a walker over a list, as it is made -/
noncomputable def LItO (ax : Addr) (i : Nat) : Obj → Prop := fun o => o = { cls := .type "list_iterator", data := .fields #[.ref ax, .int i 0] }
/-- a bound slot of a built-in type -/
noncomputable def WrapO (id : String) (x : Addr) : Obj → Prop := fun o => o = { cls := .type "method-wrapper", data := .fields #[.builtin id, .ref x] }
section
variable {prog : Program} {w : WK} {A : Around} {E : Value → Shared → Prop} {env : Env} {g : Array GenState} {d : Drawn} {os : OsState}
variable {s : Shared} {h : Heap} {tk : Nat}
open Builtin.ObjectAttr in
theorem find_next {x ax : Addr} {i : Nat} (hx : ∃ o, h.get? x = some o ∧ LItO ax i o) {Q : Builtin.ObjectAttr.Found → Shared → Prop} (k : Q (.bind (.builtin "wrapper_descriptor.__get__") (.builtin "list_iterator.__next__")) ⟨h, g, d, tk, os⟩) :
    wpAny (model prog w.w) A (find (.ref x) (.type "list_iterator") (Str.ofString "__next__")) Q E ⟨h, g, d, tk, os⟩ := by
  have h1 := lk_next
  have h2 := ty_next
  have h3 := wd_get
  have h4 := wd_set
  have h5 := wd_del
  obtain ⟨o, ho, rfl⟩ := hx
  unfold find
  wp_walk
  exact k
theorem wd_call {x ax : Addr} {i : Nat} (hx : ∃ o, h.get? x = some o ∧ LItO ax i o) {Q : Value → Shared → Prop}
    (k : Q (.ref h.objs.size) ⟨h.push { cls := .type "method-wrapper", data := .fields #[.builtin "list_iterator.__next__", .ref x] }, g, d, tk, os⟩) :
    wpAny (model prog w.w) A (call (.builtin "wrapper_descriptor.__get__") [.builtin "list_iterator.__next__", .ref x, .type "list_iterator"]) Q E ⟨h, g, d, tk, os⟩ := by
  have hT : Shared.TypeIs ⟨h, g, d, tk, os⟩ (.builtin "list_iterator.__next__") "wrapper_descriptor" := ty_next
  refine wpAny_call_entry slot_wd_get hT entry_wd_get ?_ (args_wd_get _ _ _)
  have h1 := sub_li
  obtain ⟨o, ho, rfl⟩ := hx
  wp_walk
  have e : (".".intercalate ("list_iterator.__next__".cutAt '.').dropLast) = "list_iterator" := by decide +kernel
  refine wpAny_of_eq (a := true) (by rw [e]; exact sub_li) ?_
  refine wpAny_pure ?_
  unfold newFields
  refine wpAny_bind (wpAny_newObj_type ?_ (by size_fits))
  exact wpAny_pure ⟨_, rfl, k⟩
theorem x_get_next {x ax : Addr} {i : Nat} (hx : ∃ o, h.get? x = some o ∧ LItO ax i o) {Q : Value → Shared → Prop}
    (k : ∀ a h' tk', Keep h h' → h.get? a = none → (∃ o, h'.get? a = some o ∧ WrapO "list_iterator.__next__" x o) → Q (.ref a) ⟨h', g, d, tk', os⟩) : wpAny (model prog w.w) A (getAttr (.ref x) (Str.ofString "__next__") true) Q E ⟨h, g, d, tk, os⟩ := by
  have hL : Shared.TypeIs ⟨h, g, d, tk + 1, os⟩ (.ref x) "list_iterator" := by obtain ⟨o, ho, rfl⟩ := hx; exact ⟨_, ho, rfl⟩
  unfold getAttr getAttrBy
  refine wpAny_bind (wpAny_mkText (wpAny_holding (wpAny_bind (wpAny_typeOf hL (wpAny_bind (wpAny_of_eq li_ga ?_))))))
  show wpAny _ _ (getAttrByItsOwn (.ref x) (.str (Str.ofString "__next__") tk) (.type "list_iterator") (.builtin "object.__getattribute__") true true) _ _ ⟨h, g, d, tk + 1, os⟩
  unfold getAttrByItsOwn
  refine wpAny_bind (wpAny_of_eq (a := none) rfl ?_)
  refine wpAny_bind (wpAny_attempt (wpAny_holding ?_))
  show wpAny _ _ (boundAndCalled (.builtin "object.__getattribute__") (.ref x) (.str (Str.ofString "__next__") tk)) _ _ _
  unfold boundAndCalled
  refine wpAny_bind (wpAny_of_eq (slot_li_ga.bind _) ?_)
  show wpAny _ _ (call (.builtin "object.__getattribute__") [.ref x, .str (Str.ofString "__next__") tk]) _ _ _
  refine wpAny_call_entry slot_li_ga hL entry_obj_ga ?_ (args_obj_ga _ _)
  unfold Builtin.«object.__getattribute__»
  refine wpAny_bind (wpAny_of_eq (a := (Value.ref x, [Value.str (Str.ofString "__next__") tk])) rfl ?_)
  dsimp only
  refine wpAny_bind (wpAny_of_eq (a := Str.ofString "__next__") rfl ?_)
  refine wpAny_bind (wpAny_typeOf hL ?_)
  refine wpAny_bind (find_next hx ?_)
  show wpAny _ _ (Builtin.ObjectAttr.bindTo (.builtin "wrapper_descriptor.__get__") (.builtin "list_iterator.__next__") (.ref x) (.type "list_iterator")) _ _ _
  unfold Builtin.ObjectAttr.bindTo
  dsimp only
  refine wpAny_bind (wpAny_holding (wd_call hx ?_))
  refine wpAny_pure ⟨_, rfl, ?_⟩
  show wpAny _ _ (handedOut (.ref h.objs.size)) _ _ _
  exact wpAny_of_eq rfl (k _ _ _ (Keep.push _ _) (get_size _) ⟨_, Heap.get?_push_size _ rfl, rfl⟩)
theorem boundCall_next {x : Addr} {Q : Unit → Shared → Prop} (k : Q () s) : wpAny (model prog w.w) A (checkBoundCall "list_iterator.__next__" ⟨[.ref x], []⟩) Q E s := by
  have hk : builtinKind "list_iterator.__next__" = some .slot := by decide +kernel
  unfold checkBoundCall
  rw [hk]
  have := args_listiter_next (.ref x)
  unfold argsOk at this
  cases hs : Manifest.signature? "list_iterator.__next__" with
  | none => exact wpAny_pure k
  | some sig =>
    rw [hs] at this
    dsimp only at this ⊢
    rw [if_pos (by decide)]
    rw [this]
    exact wpAny_pure k
/-- the call of a bound __next__: one more item -/
theorem x_bnext_item {b x ax : Addr} {i : Nat} {vs : List Value} {v : Value} {Q : Value → Shared → Prop} (hb : ∃ o, h.get? b = some o ∧ WrapO "list_iterator.__next__" x o) (hx : ∃ o, h.get? x = some o ∧ LItO ax i o) (hl : ∃ o, h.get? ax = some o ∧ LstO vs o) (hv : vs[i]? = some v)
    (k : ∀ h', Heap.SameBut x h h' → (∃ o, h'.get? x = some o ∧ LItO ax (i + 1) o) → Q v ⟨h', g, d, tk, os⟩) : wpAny (model prog w.w) A (call (.ref b) []) Q E ⟨h, g, d, tk, os⟩ := by
  obtain ⟨ob, hob, rfl⟩ := hb
  obtain ⟨ox, hox, rfl⟩ := hx
  obtain ⟨ol, hol, n, rfl⟩ := hl
  refine wpAny_call (codeAny_of_tree ?_)
  show wpAny _ A.in1 (callAny (.ref b) ⟨[], []⟩) _ _ _
  unfold callAny
  refine wpAny_bind (wpAny_load hob ?_)
  show wpAny _ A.in1 (checkBoundCall "list_iterator.__next__" ⟨[.ref x], []⟩ >>= fun _ => again (.builtin "list_iterator.__next__" ⟨[.ref x], []⟩)) _ _ _
  refine wpAny_bind (boundCall_next ?_)
  refine wpAny_pure ⟨plainId_quiet slot_listiter_next.plain _, codeAny_builtin entry_listiter_next ?_⟩
  show wpAny _ _ (field (.ref x) 0 >>= _) _ _ _
  refine wpAny_bind (wpAny_field (s := ⟨h, g, d, tk, os⟩) hox rfl (x := .ref ax) rfl ?_)
  rw [if_neg (show ¬ ((Value.ref ax == Value.none) = true) from Bool.false_ne_true)]
  refine wpAny_bind (wpAny_field (s := ⟨h, g, d, tk, os⟩) hox rfl (x := .int i 0) rfl ?_)
  refine wpAny_bind (wpAny_seqItems (s := ⟨h, g, d, tk, os⟩) hol rfl ?_)
  have hv' : vs.toArray[i]? = some v := by simpa using hv
  simp only [Int.toNat_natCast, hv']
  refine wpAny_bind (wpAny_setField (s := ⟨h, g, d, tk, os⟩) hox rfl (Nat.le_of_ble_eq_true rfl) ?_)
  refine wpAny_pure ?_
  refine k _ (Heap.SameBut.update ..) ⟨_, Heap.get?_update_self _ hox rfl, ?_⟩
  rfl
/-- .. and none: StopIteration -/
theorem x_bnext_stop {b x ax : Addr} {i : Nat} {vs : List Value} {Q : Value → Shared → Prop} (hh : A.handled = none) (hb : ∃ o, h.get? b = some o ∧ WrapO "list_iterator.__next__" x o) (hx : ∃ o, h.get? x = some o ∧ LItO ax i o) (hl : ∃ o, h.get? ax = some o ∧ LstO vs o) (hv : vs[i]? = none)
    (k : ∀ h₁ h₂ e, Heap.SameBut x h h₁ → Thrown (.type "StopIteration") h₁ h₂ e → E (.ref e) ⟨h₂, g, d, tk, os⟩) : wpAny (model prog w.w) A (call (.ref b) []) Q E ⟨h, g, d, tk, os⟩ := by
  obtain ⟨ob, hob, rfl⟩ := hb
  obtain ⟨ox, hox, rfl⟩ := hx
  obtain ⟨ol, hol, n, rfl⟩ := hl
  refine wpAny_call (codeAny_of_tree ?_)
  show wpAny _ A.in1 (callAny (.ref b) ⟨[], []⟩) _ _ _
  unfold callAny
  refine wpAny_bind (wpAny_load hob ?_)
  show wpAny _ A.in1 (checkBoundCall "list_iterator.__next__" ⟨[.ref x], []⟩ >>= fun _ => again (.builtin "list_iterator.__next__" ⟨[.ref x], []⟩)) _ _ _
  refine wpAny_bind (boundCall_next ?_)
  refine wpAny_pure ⟨plainId_quiet slot_listiter_next.plain _, codeAny_builtin entry_listiter_next ?_⟩
  show wpAny _ _ (field (.ref x) 0 >>= _) _ _ _
  refine wpAny_bind (wpAny_field (s := ⟨h, g, d, tk, os⟩) hox rfl (x := .ref ax) rfl ?_)
  rw [if_neg (show ¬ ((Value.ref ax == Value.none) = true) from Bool.false_ne_true)]
  refine wpAny_bind (wpAny_field (s := ⟨h, g, d, tk, os⟩) hox rfl (x := .int i 0) rfl ?_)
  refine wpAny_bind (wpAny_seqItems (s := ⟨h, g, d, tk, os⟩) hol rfl ?_)
  have hv' : vs.toArray[i]? = none := by simpa using hv
  simp only [Int.toNat_natCast, hv']
  refine wpAny_bind (wpAny_rule (wpAny_bind (wpAny_setField (s := ⟨h, g, d, tk, os⟩) hox rfl (Nat.le_of_ble_eq_true rfl) ?_)))
  show wpAny _ _ (newExc (.type "StopIteration") [] >>= _) _ _ _
  generalize hh₁ : h.update x (Obj.mapFields (·.setIfInBounds 0 Value.none)) = h₁
  have hs : Heap.SameBut x h h₁ := by rw [← hh₁]; exact Heap.SameBut.update ..
  refine wpAny_bind ?_
  simp only [newExc, newTuple]
  refine wpAny_bind (wpAny_newObj_type ?_ (by size_fits))
  refine wpAny_bind (m := firstArgMember _ _) (wpAny_of_eq (a := Value.none) (by first | rfl | (simp only [firstArgMember]; rfl)) ?_)
  refine wpAny_newObj_type ?_ (by size_fits)
  simp only [raiseNew]
  refine wpAny_bind (wpAny_handled ?_)
  rw [show (A.under (Code.builtin "list_iterator.__next__" { pos := [Value.ref x] })).handled = none from hh]
  refine wpAny_throw ?_
  have hsz : (h₁.push { cls := Value.type "tuple", data := Data.seq #[] }).objs.size = h₁.objs.size + 1 := Heap.size_push ..
  have hn : h₁.get? (h₁.objs.size + 1) = none := by
    cases e : h₁.get? (h₁.objs.size + 1) with
    | none => rfl
    | some o => exact absurd (Heap.lt_size e) (Nat.not_lt.mpr (Nat.le_succ _))
  have t : Thrown (.type "StopIteration") h₁ ((h₁.push { cls := Value.type "tuple", data := Data.seq #[] }).push { cls := Value.type "StopIteration", data := Data.fields (#[Value.ref h₁.objs.size, Value.none, Value.none, Value.none, Value.bool false, Value.none] ++ ownMembersOf (Value.type "StopIteration") []) })
      (h₁.push { cls := Value.type "tuple", data := Data.seq #[] }).objs.size :=
    ⟨fun b o e => Heap.get?_push_of_some _ (Heap.get?_push_of_some _ e), by rw [hsz]; exact hn, _, _, .ref h₁.objs.size, Heap.get?_push_size _ rfl, rfl, rfl, by kernel_rfl, by kernel_rfl⟩
  exact k h₁ _ _ hs t
end
end Mine
set_option maxRecDepth 100000
set_option maxHeartbeats 1000000
namespace Mine
section
variable {prog : Program} {w : WK} {A : Around} {E : Value → Shared → Prop} {env : Env} {g : Array GenState} {d : Drawn} {os : OsState}
variable {s : Shared} {h : Heap} {tk : Nat}
/-- an attribute of what is no name -/
theorem x_attrT {o : Expr} {name : Str} {pos : Pos} {Q : Value → Shared → Prop}
    (k : wpAny (model prog w.w) A (eval o env) (fun ov s₁ => wpAny (model prog w.w) A (getAttr ov name true) Q E s₁) E s)
    (ha : attributeBase o name env (eval o env) = eval o env := by rfl) : wpAny (model prog w.w) A (eval (.Attribute o name pos) env) Q E s := by
  rw [arm_eval_Attribute, ha]
  exact wpAny_bind (wpAny_mono k (fun ov s₁ q => wpAny_bind (wpAny_standAt (wpAny_bind (wpAny_holding (wpAny_mono q (fun r s₂ q => wpAny_bind (wpAny_letTemporaryGo (wpAny_pure q))) fun _ _ e => e))))) fun _ _ e => e)
/-- iter(xs) -/
theorem x_iter {a : Addr} {vs : List Value} {Q : Value → Shared → Prop} (hl : ∃ o, h.get? a = some o ∧ LstO vs o) (k : ∀ I h', Keep h h' → h.get? I = none → (∃ o, h'.get? I = some o ∧ LItO a 0 o) → Q (.ref I) ⟨h', g, d, tk, os⟩) :
    wpAny (model prog w.w) A (call (.builtin "iter") [.ref a]) Q E ⟨h, g, d, tk, os⟩ := by
  refine Calls.call_function_entry (by decide +kernel) (by decide +kernel) kdk_entry_iter (kdk_args_iter _) ?_
  unfold Builtin.«iter»
  refine wpAny_bind (m := someArgs "iter" 1 2 _) (wpAny_of_eq (a := [Value.ref a]) (by first | rfl | kernel_rfl) ?_)
  show wpAny _ _ (pyIter (.ref a) >>= _) _ _ _
  refine wpAny_bind (wpAny_pyIter_list (s := ⟨h, g, d, tk, os⟩) (Lst.isList (h := h) hl) ?_)
  exact wpAny_pure ⟨_, rfl, k _ _ (Keep.push _ _) (get_size _) ⟨_, Heap.get?_push_size _ rfl, rfl⟩⟩
inductive PCs (M : Model) (A : Around) (E : Value → Shared → Prop) (Q : Value → Shared → Prop) (f : Value) (s₁ : Shared) : Prop
  | mk (b : Addr) (id : String) (x : Addr) (e : f = .ref b) (ho : ∃ ob, s₁.heap.get? b = some ob ∧ WrapO id x ob) (k : wpAny M A (call (.ref b) []) Q E s₁)
/-- xs[i]() -/
theorem x_callSub {o i : Expr} {spos pos : Pos} {Q : Value → Shared → Prop}
    (k : wpAny (model prog w.w) A (eval (.Subscript o i spos) env) (PCs (model prog w.w) A E Q) E s)
    (hs : backTo pos (starEach [] env) = [] := by rfl) : wpAny (model prog w.w) A (eval (.Call (.Subscript o i spos) [] [] pos) env) Q E s := by
  show wpAny _ A (do callWith pos (← eval (.Subscript o i spos) env) [] (backTo pos (starEach [] env)) (backToKw pos (keywordEach [] env))) Q E s
  refine wpAny_bind (wpAny_mono k (fun f s₁ q => ?_) fun _ _ e => e)
  obtain ⟨b, id, x, rfl, ⟨ob, hob, rfl⟩, q⟩ := q
  rw [hs]
  unfold callWith
  refine wpAny_bind (wpAny_holding (PySem.evalArgs_none (wpAny_bind (wpAny_standAt ?_))))
  refine wpAny_bind (m := keeperOf (.ref b)) ?_
  unfold keeperOf
  refine wpAny_bind (wpAny_load hob ?_)
  refine wpAny_pure ?_
  exact wpAny_bind (wpAny_mono q (fun r s₂ hr => wpAny_bind (wpAny_holding (wpAny_point (wpAny_pure hr)))) fun _ _ x => x)
/-- xs.pop() -/
theorem x_pop {a : Addr} {vs : List Value} {v : Value} {Q : Value → Shared → Prop} (hl : ∃ o, h.get? a = some o ∧ LstO vs o) (hv : vs.getLast? = some v) (hn : vs.length ≤ 100000)
    (k : ∀ h', Heap.SameBut a h h' → (∃ o, h'.get? a = some o ∧ LstO vs.dropLast o) → Q v ⟨h', g, d, tk, os⟩) :
    wpAny (model prog w.w) A (call (.builtin "list.pop") [.ref a]) Q E ⟨h, g, d, tk, os⟩ := by
  have hL : Shared.TypeIs ⟨h, g, d, tk, os⟩ (.ref a) "list" := (Lst.isList (h := h) hl).typeIs
  obtain ⟨o, ho, n, rfl⟩ := hl
  have hlast : vs.toArray[vs.toArray.size - 1]? = some v := by
    rw [List.getLast?_eq_getElem?] at hv
    simpa using hv
  refine call_meets (s := ⟨h, g, d, tk, os⟩) F.slot_list_pop hL F.entry_list_pop (F.args_list_pop_1 _) (PySem.MeetsSeq.list_pop_last a vs.toArray n v hlast (by rw [List.size_toArray, sizeLine_eq]; lia)) ⟨ho, ?_⟩
  refine k _ (Heap.SameBut.update ..) ⟨_, Heap.get?_update_self _ ho rfl, ?_⟩
  have e : vs.toArray.eraseIdxIfInBounds (vs.toArray.size - 1) = vs.dropLast.toArray := by
    rw [List.eraseIdxIfInBounds_toArray, List.size_toArray]
    congr 1
    exact List.eraseIdx_length_sub_one
  unfold LstO
  simp only [Obj.mapSeq, e]
  exact ⟨_, rfl⟩
theorem list_pair {a b : Addr} {vs ws : List Value} {Q : Value → Shared → Prop} (ha : ∃ o, h.get? a = some o ∧ LstO vs o) (hb : ∃ o, h.get? b = some o ∧ LstO ws o) (hn : vs.length + ws.length ≤ 100000)
    (k : ∀ r h', Keep h h' → h.get? r = none → (∃ o, h'.get? r = some o ∧ LstO (vs ++ ws) o) → Q (.ref r) ⟨h', g, d, tk, os⟩) : wpAny (model prog w.w) A (binaryOp .Add (.ref a) (.ref b)) Q E ⟨h, g, d, tk, os⟩ := by
  obtain ⟨o, ho, n, rfl⟩ := ha
  obtain ⟨o2, ho2, n2, rfl⟩ := hb
  refine concat_meets (s := ⟨h, g, d, tk, os⟩) ⟨_, ho, rfl⟩ ⟨_, ho2, rfl⟩ noFill_list_add seq_list_add PySem.F.slot_list_add PySem.F.entry_list_add (PySem.F.args_list_add_2 _ _) (list_addW a b vs.toArray ws.toArray n n2 none none #[] #[] (by rw [List.size_toArray, List.size_toArray, sizeLine_eq]; lia)) ⟨ho, ho2, ?_⟩
  refine k _ _ (Keep.push _ _) (get_size _) ⟨_, Heap.get?_push_size _ rfl, 0, by simp⟩
inductive PLv (g : Array GenState) (d : Drawn) (os : OsState) (Q : Value → Shared → Prop) (o vl : Value) (s₂ : Shared) : Prop
  | mk (h₃ : Heap) (tk₃ : Nat) (l : Addr) (vs : List Value) (i : Int) (ti : Tok) (e : s₂ = ⟨h₃, g, d, tk₃, os⟩) (e1 : o = .ref l) (e2 : vl = .int i ti) (ho : ∃ ob, h₃.get? l = some ob ∧ LstO vs ob) (hl : vs.length ≤ 100000)
      (q : ∀ l' h' ws, Keep h₃ h' → h₃.get? l' = none → ws.length ≤ vs.length → (∃ ob, h'.get? l' = some ob ∧ LstO ws ob) → Q (.ref l') ⟨h', g, d, tk₃, os⟩)
/-- xs[i:] -/
theorem x_lslice_sn {value lo : Expr} {p pos : Pos} {Q : Value → Shared → Prop}
    (k : wpAny (model prog w.w) A (eval value env) (Q2 (model prog w.w) A E env lo (PLv g d os Q)) E s)
    (ht : ∀ o r, letTemporaryGo value o r = pure () := by intro _ _; rfl) :
    wpAny (model prog w.w) A (eval (.Subscript value (.Slice (some lo) none none p) pos) env) Q E s := by
  refine wpAny_Subscript_list_slice (wpAny_mono k (fun o s₁ h₁ => wpAny_evalPart_some (wpAny_mono h₁ (fun vl s₂ h₂ => wpAny_evalPart_none ?_) fun _ _ e => e)) fun _ _ e => e) ht
  obtain ⟨h₃, tk₃, l, vs, i, ti, rfl, rfl, rfl, hl, hlen, q⟩ := h₂
  refine ⟨l, vs.toArray, some i, none, rfl, Lst.isList (h := h₃) hl, by rw [List.size_toArray, sizeLine_eq]; lia, IsPart.int _ _, IsPart.none, ?_⟩
  have hsz : (h₃.push { cls := .type "slice", data := .fields #[.int i ti, .none, .none] }).objs.size = h₃.objs.size + 1 := Heap.size_push ..
  refine q _ _ (slicePick vs.toArray (some i) none none).toList (fun b o e => Heap.get?_push_of_some _ (Heap.get?_push_of_some _ e)) ?_ ?_ ?_
  · cases e : h₃.get? (h₃.objs.size + 1) with
    | none => rfl
    | some o => exact absurd (Heap.lt_size e) (Nat.not_lt.mpr (Nat.le_succ _))
  · have := slicePick_size_le vs.toArray (some i) none none
    simpa using this
  · have g0 := Heap.get?_push_size (h₃.push { cls := .type "slice", data := .fields #[.int i ti, .none, .none] }) (o := { cls := .type "list", data := .seq (slicePick vs.toArray (some i) none none) }) rfl
    rw [hsz] at g0
    exact ⟨_, g0, 0, by simp⟩
end
end Mine
namespace Mine
/-- an entry of the search's stack: its node, the bound __next__, the walker, the list it walks, how far, the token of its place -/
structure SE where
  v : Int
  bw : Addr
  it : Addr
  la : Addr
  p : Nat
  t : Tok
/-- the successors of a node -/
noncomputable def scC (c : List (Int × List Int)) (k : Int) : List Int := (c.lookup k).getD []
theorem scC_mem {c : List (Int × List Int)} (nd : (c.map (·.1)).Nodup) {k : Int} {l : List Int} (h : (k, l) ∈ c) : scC c k = l := by
  unfold scC
  induction c with
  | nil => cases h
  | cons e c ih =>
    obtain ⟨a, b⟩ := e
    rw [List.map_cons, List.nodup_cons] at nd
    rw [List.lookup_cons]
    rcases List.mem_cons.mp h with q | q
    · injection q with q1 q2; subst q1 q2
      simp
    · have : (k == a) = false := by
        rw [beq_eq_false_iff_ne]
        intro c'
        subst c'
        exact nd.1 (List.mem_map.mpr ⟨(k, l), q, rfl⟩)
      rw [this]
      exact ih nd.2 q
noncomputable def Chain (sc : Int → List Int) (fin : List Int) : Int → List SE → Prop
  | _, [] => True
  | v, e :: r => 1 ≤ e.p ∧ (sc e.v)[e.p - 1]? = some v ∧ (∀ j y, j < e.p - 1 → (sc e.v)[j]? = some y → y ∈ fin) ∧ Chain sc fin e.v r
noncomputable def Inner (sc : Int → List Int) (fin : List Int) : List SE → Prop
  | [] => True
  | e :: r => e.p ≤ (sc e.v).length ∧ (∀ j y, j < e.p → (sc e.v)[j]? = some y → y ∈ fin) ∧ Chain sc fin e.v r
noncomputable def Ranked (sc : Int → List Int) : List Int → Prop
  | [] => True
  | x :: f => Ranked sc f ∧ ∀ y ∈ sc x, y ∈ f
structure DI (sc : Int → List Int) (keys : List Int) (S : Int → Bool) (fin : List Int) (stk : List SE) : Prop where
  seen : ∀ k, S k = true ↔ k ∈ fin ∨ k ∈ stk.map (·.v)
  nd : (fin ++ stk.map (·.v)).Nodup
  sub : ∀ k ∈ fin ++ stk.map (·.v), k ∈ keys
  rank : Ranked sc fin
theorem Chain.mono {sc : Int → List Int} {f f' : List Int} (s : ∀ x ∈ f, x ∈ f') : ∀ {v : Int} {l : List SE}, Chain sc f v l → Chain sc f' v l
  | _, [], _ => trivial
  | _, _ :: _, ⟨a, b, c, d⟩ => ⟨a, b, fun j y hj hy => s y (c j y hj hy), Chain.mono s d⟩
section
variable {sc : Int → List Int} {keys : List Int} {S : Int → Bool} {fin : List Int} {stk : List SE} {v : Int}
theorem DI.push (d : DI sc keys S fin stk) (hk : v ∈ keys) (hS : S v = false) (c : Chain sc fin v stk) (e : SE) (he : e.v = v) (hp : e.p = 0) :
    DI sc keys (fun j => S j || decide (j = v)) fin (e :: stk) ∧ Inner sc fin (e :: stk) := by
  have hn : v ∉ fin ∧ v ∉ stk.map (·.v) := by
    constructor
    · intro q; have := (d.seen v).mpr (.inl q); rw [hS] at this; cases this
    · intro q; have := (d.seen v).mpr (.inr q); rw [hS] at this; cases this
  refine ⟨⟨fun k => ?_, ?_, fun k hk' => ?_, d.rank⟩, ⟨by rw [hp]; exact Nat.zero_le _, fun j y hj => by rw [hp] at hj; lia, by rw [he]; exact c⟩⟩
  · rw [Bool.or_eq_true, d.seen k, decide_eq_true_eq, List.map_cons, List.mem_cons, he]
    constructor
    · rintro ((q | q) | q)
      · exact .inl q
      · exact .inr (.inr q)
      · exact .inr (.inl q)
    · rintro (q | q | q)
      · exact .inl (.inl q)
      · exact .inr q
      · exact .inl (.inr q)
  · rw [List.map_cons, he]
    have := d.nd
    rw [List.nodup_append] at this ⊢
    refine ⟨this.1, List.nodup_cons.mpr ⟨hn.2, this.2.1⟩, fun a ha b hb q => ?_⟩
    rcases List.mem_cons.mp hb with rfl | hb
    · subst q; exact hn.1 ha
    · exact this.2.2 a ha b hb q
  · rw [List.map_cons, he] at hk'
    rcases List.mem_append.mp hk' with q | q
    · exact d.sub k (List.mem_append_left _ q)
    · rcases List.mem_cons.mp q with rfl | q
      · exact hk
      · exact d.sub k (List.mem_append_right _ q)
theorem DI.back (d : DI sc keys S fin stk) (hS : S v = true) (hv : v ∉ stk.map (·.v)) (c : Chain sc fin v stk) : Inner sc fin stk := by
  have hf : v ∈ fin := ((d.seen v).mp hS).resolve_right hv
  cases stk with
  | nil => trivial
  | cons e r =>
    obtain ⟨c1, c2, c3, c4⟩ := c
    refine ⟨?_, fun j y hj hy => ?_, c4⟩
    · exact Nat.le_of_pred_lt (List.getElem?_eq_some_iff.mp c2).1
    · by_cases q : j = e.p - 1
      · subst q; rw [c2] at hy; cases hy; exact hf
      · exact c3 j y (by lia) hy
theorem Inner.next {e : SE} {r : List SE} {y : Int} (c : Inner sc fin (e :: r)) (hy : (sc e.v)[e.p]? = some y) (e' : SE) (h1 : e'.v = e.v) (h2 : e'.p = e.p + 1) : Chain sc fin y (e' :: r) := by
  obtain ⟨c1, c2, c3⟩ := c
  refine ⟨h2 ▸ Nat.succ_pos _, by rw [h1, h2, Nat.add_sub_cancel]; exact hy, fun j z hj hz => ?_, by rw [h1]; exact c3⟩
  rw [h1] at hz
  exact c2 j z (Nat.lt_of_lt_of_le hj (Nat.le_of_eq (by rw [h2, Nat.add_sub_cancel]))) hz
theorem DI.pop {e : SE} {r : List SE} (d : DI sc keys S fin (e :: r)) (c : Inner sc fin (e :: r)) (hy : (sc e.v)[e.p]? = none) : DI sc keys S (e.v :: fin) r ∧ Inner sc (e.v :: fin) r := by
  obtain ⟨c1, c2, c3⟩ := c
  have hl : e.p = (sc e.v).length := by
    exact Nat.le_antisymm c1 (List.getElem?_eq_none_iff.mp hy)
  have all : ∀ y ∈ sc e.v, y ∈ fin := fun y hy => by
    obtain ⟨j, hj⟩ := List.mem_iff_getElem?.mp hy
    exact c2 j y (by rw [hl]; exact (List.getElem?_eq_some_iff.mp hj).1) hj
  have nd := d.nd
  rw [List.map_cons] at nd
  refine ⟨⟨fun k => ?_, ?_, fun k hk => ?_, d.rank, all⟩, ?_⟩
  · rw [d.seen k, List.map_cons, List.mem_cons, List.mem_cons]
    constructor
    · rintro (q | q | q)
      · exact .inl (.inr q)
      · exact .inl (.inl q)
      · exact .inr q
    · rintro ((q | q) | q)
      · exact .inr (.inl q)
      · exact .inl q
      · exact .inr (.inr q)
  · exact (List.perm_middle.nodup_iff).mp nd
  · refine d.sub k ?_
    rw [List.map_cons]
    rw [List.cons_append] at hk
    rcases List.mem_cons.mp hk with rfl | q
    · simp
    · rcases List.mem_append.mp q with q | q <;> simp [q]
  · cases r with
    | nil => trivial
    | cons e2 r2 =>
      obtain ⟨a1, a2, a3, a4⟩ := c3
      have hlt := (List.getElem?_eq_some_iff.mp a2).1
      refine ⟨by lia, fun j y hj hy => ?_, a4.mono fun x hx => List.mem_cons_of_mem _ hx⟩
      by_cases q : j = e2.p - 1
      · subst q; rw [a2] at hy; cases hy; exact List.mem_cons_self
      · exact List.mem_cons_of_mem _ (a3 j y (by lia) hy)
/-- one edge or more -/
inductive Path (sc : Int → List Int) : Int → Int → Prop
  | one {a b : Int} (h : b ∈ sc a) : Path sc a b
  | step {a b c : Int} (h : b ∈ sc a) (p : Path sc b c) : Path sc a c
theorem Path.trans {a b c : Int} (x : Path sc a b) (y : Path sc b c) : Path sc a c := by
  induction x with
  | one h => exact .step h y
  | step h _ ih => exact .step h (ih y)
theorem Chain.path : ∀ {v : Int} {l : List SE}, Chain sc fin v l → ∀ e ∈ l, Path sc e.v v
  | _, [], _, _, h => by cases h
  | _, e :: r, ⟨_, b, _, d⟩, e', h => by
    have h1 : Path sc e.v _ := .one (List.mem_of_getElem? b)
    rcases List.mem_cons.mp h with rfl | h
    · exact h1
    · exact (Chain.path d e' h).trans h1
theorem Chain.cycle {v : Int} {l : List SE} (c : Chain sc fin v l) (h : v ∈ l.map (·.v)) : Path sc v v := by
  obtain ⟨e, he, q⟩ := List.mem_map.mp h
  have := c.path e he
  rw [q] at this; exact this
theorem Ranked.closed : ∀ {f : List Int}, Ranked sc f → ∀ {a b : Int}, Path sc a b → a ∈ f → b ∈ f := by
  intro f hr a b p
  have step : ∀ {f : List Int}, Ranked sc f → ∀ {a b : Int}, a ∈ f → b ∈ sc a → b ∈ f := by
    intro f
    induction f with
    | nil => intro _ a b h; cases h
    | cons x f ih =>
      rintro ⟨h1, h2⟩ a b ha hb
      rcases List.mem_cons.mp ha with rfl | ha
      · exact List.mem_cons_of_mem _ (h2 b hb)
      · exact List.mem_cons_of_mem _ (ih h1 ha hb)
  induction p with
  | one h => exact fun ha => step hr ha h
  | step h _ ih => exact fun ha => ih (step hr ha h)
theorem Ranked.acyclic : ∀ {f : List Int}, Ranked sc f → f.Nodup → ∀ {a : Int}, a ∈ f → ¬ Path sc a a
  | [], _, _, _, h, _ => by cases h
  | x :: f, ⟨h1, h2⟩, nd, a, ha, p => by
    rw [List.nodup_cons] at nd
    rcases List.mem_cons.mp ha with rfl | ha
    · have : a ∈ f := by
        cases p with
        | one h => exact h2 a h
        | step h q => exact Ranked.closed h1 q (h2 _ h)
      exact nd.1 this
    · exact Ranked.acyclic h1 nd.2 ha p
/-- what is left to do -/
noncomputable def unseen (sc : Int → List Int) (keys : List Int) (S : Int → Bool) : Nat := (keys.map fun k => if S k then 0 else 2 + (sc k).length).sum
noncomputable def onStk (sc : Int → List Int) (stk : List SE) : Nat := (stk.map fun e => 1 + ((sc e.v).length - e.p)).sum
noncomputable def work (sc : Int → List Int) (keys : List Int) (S : Int → Bool) (stk : List SE) : Nat := unseen sc keys S + onStk sc stk
theorem unseen_push {sc : Int → List Int} {S : Int → Bool} {v : Int} : ∀ {keys : List Int}, keys.Nodup → v ∈ keys → S v = false → unseen sc keys (fun j => S j || decide (j = v)) + (2 + (sc v).length) = unseen sc keys S := by
  intro keys
  induction keys with
  | nil => intro _ h; cases h
  | cons x l ih =>
    intro nd hv hS
    rw [List.nodup_cons] at nd
    have e0 : ∀ S : Int → Bool, unseen sc (x :: l) S = (if S x then 0 else 2 + (sc x).length) + unseen sc l S := fun S => by simp [unseen]
    rw [e0, e0]
    by_cases hx : v = x
    · subst hx
      have same : unseen sc l (fun j => S j || decide (j = v)) = unseen sc l S := by
        unfold unseen
        congr 1
        refine List.map_congr_left fun k hk => ?_
        have : k ≠ v := fun c => nd.1 (c ▸ hk)
        simp [this]
      rw [same, hS]
      simp
      lia
    · have hvl : v ∈ l := (List.mem_cons.mp hv).resolve_left hx
      have := ih nd.2 hvl hS
      have e1 : (S x || decide (x = v)) = S x := by
        have : ¬ x = v := fun c => hx c.symm
        simp [this]
      rw [e1]
      lia
theorem work_push (nd : keys.Nodup) (hk : v ∈ keys) (hS : S v = false) (e : SE) (he : e.v = v) (hp : e.p = 0) : work sc keys (fun j => S j || decide (j = v)) (e :: stk) + 1 = work sc keys S stk := by
  have := unseen_push (sc := sc) nd hk hS
  have e1 : onStk sc (e :: stk) = 1 + ((sc e.v).length - e.p) + onStk sc stk := by simp [onStk]
  unfold work
  rw [e1, he, hp]
  lia
theorem work_pop (e : SE) (r : List SE) : work sc keys S r ≤ work sc keys S (e :: r) := by
  have e1 : onStk sc (e :: r) = 1 + ((sc e.v).length - e.p) + onStk sc r := by simp [onStk]
  unfold work
  lia
theorem work_next {e e' : SE} (r : List SE) (h1 : e'.v = e.v) (h2 : e'.p = e.p + 1) {y : Int} (hy : (sc e.v)[e.p]? = some y) : work sc keys S (e' :: r) + 1 = work sc keys S (e :: r) := by
  have hlt := (List.getElem?_eq_some_iff.mp hy).1
  have e1 : onStk sc (e :: r) = 1 + ((sc e.v).length - e.p) + onStk sc r := by simp [onStk]
  have e2 : onStk sc (e' :: r) = 1 + ((sc e'.v).length - e'.p) + onStk sc r := by simp [onStk]
  unfold work
  rw [e1, e2, h1, h2]
  lia
end
end Mine
set_option maxHeartbeats 2000000
namespace Mine
section
variable {w : WK} {B : Addr → Obj → Prop} {L : Addr} {m : Str → Option Value} {n n1 : Led} {h h' h₀ : Heap} {l : List Env}
/-- a frame whose callers' slots may turn: what it leaves -/
theorem Z.kf (z : Z (SbX (fa l) h₀) L m n h) (hm : ∀ p ∈ frLed l h₀, p ∈ n) : KeepF (fa l) h₀ h := by
  refine ⟨fun b o hb e => z.keep b o ⟨hb, e⟩, fun b o hb e => ?_⟩
  obtain ⟨o', e', o₀, sl, e₀, rfl⟩ := z.led _ (hm (b, fun o => ∃ o₀ sl, h₀.get? b = some o₀ ∧ o = { o₀ with slots := sl }) (List.mem_map_of_mem hb))
  rw [e] at e₀; injection e₀ with e₀; subst e₀
  exact ⟨sl, e'⟩
/-- an exception caught in the frame (or a call that turned the frames' slots) -/
theorem Z.slots {X0 : List Addr} (z : Z (SbX X0 h₀) L m (n1 ++ frLed l h₀) h) (hX : ∀ b ∈ fa l, b ∈ X0) (k : KeepF (L :: fa l) h h') : Z (SbX X0 h₀) L m (n1 ++ frLed l h₀) h' := by
  refine Z.called (g := []) (g' := []) (X := L :: fa l) (n₀ := n1 ++ frLed l h₀) z (fun b o _ hb e => k.off b o hb e) k.on (by intro p hp; cases hp) List.nodup_nil (by intro p hp; cases hp) (fun b o hb hq => ?_) fun p hp hq o sl ho => ?_
  · rcases List.mem_cons.mp hq with rfl | hq
    · exact z.apart o hb
    · exact hb.1 (hX b hq)
  · rcases List.mem_cons.mp hq with q | hq
    · exact absurd q (z.off p hp).1
    · rcases List.mem_append.mp hp with hp | hp
      · have nd := z.nd
        rw [List.map_append, List.nodup_append] at nd
        exact absurd rfl (nd.2.2 p.1 (List.mem_map_of_mem hp) p.1 (by rw [frLed_map]; exact hq))
      · exact frLed_slots hp ho sl
theorem Z.frsNow {env : Env} {ks gl : List Str} (e : EnvL env L ks gl) (hf : env.frame = some L) (z : Z B L m n h) (fs : Frs l h₀) (hm : ∀ p ∈ frLed l h₀, p ∈ n) (nd : (fa (env :: l)).Nodup) : Frs (env :: l) h := by
  refine ⟨fun env' he => ?_, nd⟩
  rcases List.mem_cons.mp he with rfl | he
  · obtain ⟨o, es, ep, ho, hd, _⟩ := z.ns
    exact ⟨e.kind, L, o, es, ep, hf, ho, hd⟩
  · obtain ⟨hk, L', o, es, ep, hf', ho, hd⟩ := fs.st env' he
    have hb : L' ∈ fa l := List.mem_filterMap.mpr ⟨env', he, hf'⟩
    obtain ⟨o', e', o₀, sl, e₀, rfl⟩ := z.led _ (hm (L', fun o => ∃ o₀ sl, h₀.get? L' = some o₀ ∧ o = { o₀ with slots := sl }) (List.mem_map_of_mem hb))
    rw [ho] at e₀; injection e₀ with e₀; subst e₀
    exact ⟨hk, L', _, es, ep, hf', e', hd⟩
end
theorem GS.led_s (w : WK) (q : GS) : (q.s, SortO q.sd) ∈ q.led w := List.mem_append_left _ List.mem_cons_self
theorem GS.led_d (w : WK) (q : GS) : (q.sd, NsU (fr AN [some (.ref q.nd), some q.ready, q.po, q.fi])) ∈ q.led w := List.mem_append_left _ (List.mem_cons_of_mem _ List.mem_cons_self)
theorem GS.led_n (w : WK) (q : GS) : (q.nd, DictI w (kvsOf q.nodes)) ∈ q.led w := List.mem_append_left _ (List.mem_cons_of_mem _ (List.mem_cons_of_mem _ List.mem_cons_self))
theorem Z.drop {B : Addr → Obj → Prop} {L : Addr} {m : Str → Option Value} {n1 n2 : Led} {h h' : Heap} {a : Addr} {P : Obj → Prop} (z : Z B L m (n1 ++ (a, P) :: n2) h) (hs : Heap.ExtBut a h h') : Z B L m (n1 ++ n2) h' := by
  have nd := z.nd
  rw [List.map_append, List.map_cons] at nd
  have nd2 := (List.perm_middle.nodup_iff).mp nd
  rw [List.nodup_cons] at nd2
  refine z.turn hs ⟨P, by simp⟩ (fun p hp => .inr ⟨fun q => nd2.1 ?_, ?_⟩) (by rw [List.map_append]; exact nd2.2)
  · rw [← List.map_append]; exact List.mem_map.mpr ⟨p, hp, q⟩
  · rcases List.mem_append.mp hp with q | q
    · exact List.mem_append_left _ q
    · exact List.mem_append_right _ (List.mem_cons_of_mem _ q)
theorem ints_rev_last {vs : List Value} {x : Int} {ns : List Int} (h : IntsAre vs (ns ++ [x])) : ∃ t, vs.getLast? = some (.int x t) ∧ IntsAre vs.dropLast ns := by
  induction ns generalizing vs with
  | nil =>
    cases h with
    | cons k t r => cases r; exact ⟨t, rfl, .nil⟩
  | cons n ns ih =>
    cases h with
    | @cons k t vs' ys r =>
      obtain ⟨t', h1, h2⟩ := ih r
      cases vs' with
      | nil => cases h1
      | cons v' vs'' => exact ⟨t', by rw [List.getLast?_cons_cons]; exact h1, by rw [List.dropLast_cons_cons]; exact .cons _ _ h2⟩
noncomputable def SE.led (e : SE) : Led := [(e.bw, WrapO "list_iterator.__next__" e.it), (e.it, LItO e.la e.p)]
noncomputable def n2s : List SE → List (Int × Value)
  | [] => []
  | e :: r => n2s r ++ [(e.v, .int (r.length : Nat) e.t)]
noncomputable def fbase (w : WK) (sA iA eA mA : Addr) (fin : List Int) (S : Int → Bool) (stk : List SE) : Led :=
  [(sA, ILst (stk.map (·.v)).reverse), (iA, LstO (stk.map fun e => Value.ref e.bw).reverse), (eA, SetI w S (fin.length + stk.length)), (mA, DictI w (n2s stk))] ++ stk.flatMap SE.led
noncomputable def FN : List Str := [Str.ofString "self"] ++ [Str.ofString "n2i", Str.ofString "stack", Str.ofString "itstack", Str.ofString "seen", Str.ofString "node2stacki", Str.ofString "node"]
noncomputable def fvals (q : GS) (sA iA eA mA : Addr) (nv : Option Value) : List (Option Value) := [some (.ref q.s), some (.ref q.nd), some (.ref sA), some (.ref iA), some (.ref eA), some (.ref mA), nv]
/-- a search's stack over the sorter's nodes -/
noncomputable def LaOk (q : GS) (stk : List SE) : Prop := ∀ e ∈ stk, ∃ x ∈ q.nodes, x.node = e.v ∧ x.la = e.la
theorem nodup_len : ∀ {a b : List Int}, a.Nodup → (∀ x ∈ a, x ∈ b) → a.length ≤ b.length := by
  intro a
  induction a with
  | nil => intro b _ _; simp
  | cons x a ih =>
    intro b nd sub
    rw [List.nodup_cons] at nd
    have hx : x ∈ b := sub x List.mem_cons_self
    have h1 : ∀ y ∈ a, y ∈ b.erase x := fun y hy => (List.mem_erase_of_ne (fun c : y = x => nd.1 (by rw [← c]; exact hy))).mpr (sub y (List.mem_cons_of_mem _ hy))
    have h2 := ih nd.2 h1
    have h3 := List.length_erase_of_mem hx
    have h4 : 0 < b.length := List.length_pos_of_mem hx
    simp only [List.length_cons]
    lia
theorem DI.len {sc : Int → List Int} {keys : List Int} {S : Int → Bool} {fin : List Int} {stk : List SE} (d : DI sc keys S fin stk) : fin.length + stk.length ≤ keys.length := by
  have := nodup_len d.nd d.sub
  simpa using this
theorem KeepF.none0 {X : List Addr} {h h' : Heap} (k : KeepF X h h') {r : Addr} (hr : h'.get? r = none) : h.get? r = none := by
  cases c : h.get? r with
  | none => rfl
  | some o =>
    by_cases hb : r ∈ X
    · obtain ⟨sl, e⟩ := k.on r o hb c
      rw [hr] at e; cases e
    · have := k.off r o hb c
      rw [hr] at this; cases this
theorem fbase_push (w : WK) (sA iA eA mA : Addr) (fin : List Int) (S : Int → Bool) (stk : List SE) (e : SE) : fbase w sA iA eA mA fin S (e :: stk) =
    [(sA, ILst ((stk.map (·.v)).reverse ++ [e.v])), (iA, LstO ((stk.map fun e => Value.ref e.bw).reverse ++ [.ref e.bw])), (eA, SetI w S (fin.length + stk.length + 1)), (mA, DictI w (n2s (e :: stk)))] ++ (e.led ++ stk.flatMap SE.led) := by
  simp [fbase, Nat.add_assoc]
theorem LstO.type {h : Heap} {g : Array GenState} {d : Drawn} {tk : Nat} {os : OsState} {a : Addr} {vs : List Value} (hl : ∃ o, h.get? a = some o ∧ LstO vs o) : Shared.TypeIs ⟨h, g, d, tk, os⟩ (.ref a) "list" ∧ ∀ b, Value.ref a = .ref b → ∃ ob, h.get? b = some ob ∧ ob.dict = none := by
  obtain ⟨o, ho, n, rfl⟩ := hl
  exact ⟨⟨_, ho, rfl⟩, fun b q => by cases q; exact ⟨_, ho, rfl⟩⟩
theorem exc_stop : isSubtype (.type "StopIteration") (.type "BaseException") = pure true := by rw [isSubtype_type]; kernel_rfl
theorem meta_stop : isSubtype (.type ((Manifest.find? "StopIteration").elim "type" fun y => y.metatype)) (.type "tuple") = pure false := by kernel_rfl
theorem self_stop : isSubtype (.type "StopIteration") (.type "StopIteration") = pure true := by rw [isSubtype_type]; kernel_rfl
theorem LaOk.nil (q : GS) : LaOk q [] := fun e he => by cases he
theorem n2s_keys (stk : List SE) : (n2s stk).map (·.1) = (stk.map (·.v)).reverse := by
  induction stk with
  | nil => rfl
  | cons e r ih => simp [n2s, ih]
theorem n2s_some {stk : List SE} {k : Int} : (valueAt (n2s stk) k).isSome = decide (k ∈ stk.map (·.v)) := by
  have iff : (valueAt (n2s stk) k).isSome = true ↔ k ∈ stk.map (·.v) := by
    unfold valueAt
    rw [Option.isSome_map, List.find?_isSome, ← List.mem_reverse, ← n2s_keys, List.mem_map]
    simp
  by_cases hk : k ∈ stk.map (·.v)
  · rw [decide_eq_true hk]; exact iff.mpr hk
  · rw [decide_eq_false hk]
    cases e : (valueAt (n2s stk) k).isSome with
    | false => rfl
    | true => exact absurd (iff.mp e) hk
theorem n2s_store {stk : List SE} {e : SE} (h : e.v ∉ stk.map (·.v)) : stored (n2s stk) e.v (.int (stk.length : Nat) e.t) = n2s (e :: stk) := by
  unfold stored
  rw [if_neg]
  · rfl
  · rw [Bool.not_eq_true, List.any_eq_false]
    intro p hp c
    have hp' : p.1 ∈ (n2s stk).map (·.1) := List.mem_map_of_mem hp
    rw [n2s_keys, List.mem_reverse] at hp'
    exact h (by rw [← of_decide_eq_true c]; exact hp')
theorem n2s_without {r : List SE} {e : SE} (h : e.v ∉ r.map (·.v)) : without (n2s (e :: r)) e.v = n2s r := by
  show ((n2s r ++ [(e.v, _)]).filter _) = _
  rw [List.filter_append]
  have h1 : (n2s r).filter (fun kv => decide (kv.1 ≠ e.v)) = n2s r := by
    rw [List.filter_eq_self]
    intro p hp
    have hp' : p.1 ∈ (n2s r).map (·.1) := List.mem_map_of_mem hp
    rw [n2s_keys, List.mem_reverse] at hp'
    exact decide_eq_true fun c => h (c ▸ hp')
  rw [h1]
  simp
theorem n2s_len (stk : List SE) : (n2s stk).length = stk.length := by
  have := congrArg List.length (n2s_keys stk)
  simpa using this
theorem n2s_val {stk : List SE} {k : Int} (h : k ∈ stk.map (·.v)) : ∃ i t, valueAt (n2s stk) k = some (.int i t) := by
  have hs : (valueAt (n2s stk) k).isSome = true := by rw [n2s_some]; exact decide_eq_true h
  obtain ⟨v, hv⟩ := Option.isSome_iff_exists.mp hs
  unfold valueAt at hv
  obtain ⟨p, hp, rfl⟩ := Option.map_eq_some_iff.mp hv
  have hm := List.mem_of_find?_eq_some hp
  have all : ∀ (l : List SE), ∀ p ∈ n2s l, ∃ i t, p.2 = .int i t := by
    intro l
    induction l with
    | nil => intro p hp; cases hp
    | cons e r ih =>
      intro p hp
      rcases List.mem_append.mp hp with q | q
      · exact ih p q
      · rw [List.mem_singleton] at q; subst q; exact ⟨_, _, rfl⟩
  obtain ⟨i, t, e⟩ := all stk p hm
  refine ⟨i, t, ?_⟩
  unfold valueAt
  rw [hp]
  exact congrArg some e
end Mine
namespace Mine
section
variable {w : WK} {A : Around} {E : Value → Shared → Prop} {h₀ : Heap} {g : Array GenState} {d : Drawn} {os : OsState}
variable {tk : Nat}
/-- what the search tells -/
noncomputable def Found (q : GS) (h₀ h' : Heap) (v : Value) : Prop :=
  (v = .none ∧ ∀ k ∈ q.nodes.map (·.node), ¬ Path (scC (cont q.nodes)) k k) ∨
  (∃ r vs, v = .ref r ∧ (∃ o, h'.get? r = some o ∧ LstO vs o) ∧ vs ≠ [] ∧ vs.length ≤ 90000 ∧ h₀.get? r = none ∧ ∃ k, Path (scC (cont q.nodes)) k k)
theorem find_call (gw : G w h₀) (ag : AG 5 A) (q : GS) (ok : GOK w q h₀) (l : List Env) (hfr : A.frames = some l) (fs : Frs l h₀) (apt : Apt w l) (dis : ∀ b ∈ q.ads w, b ∉ fa l) (hlen : q.nodes.length ≤ 3000) (hsl : ∀ x ∈ q.nodes, x.succ.length ≤ 3000)
    (clo : ∀ x ∈ q.nodes, ∀ y ∈ x.succ, y ∈ q.nodes.map (·.node)) {Q : Value → Shared → Prop}
    (hQ : ∀ h' tk' v, KeepF (fa l) h₀ h' → Found q h₀ h' v → Q v ⟨h', g, d, tk', os⟩) :
    wpAny (model PP w.w) A (call (.ref 189) [.ref q.s]) Q E ⟨h₀, g, d, tk, os⟩ := by
  refine x_callG (a := 189) (ks := [Str.ofString "self"]) (rest := [Str.ofString "n2i", Str.ofString "stack", Str.ofString "itstack", Str.ofString "seen", Str.ofString "node2stacki", Str.ofString "node"]) (gl := [Str.ofString "set", Str.ofString "iter", Str.ofString "len", Str.ofString "StopIteration"])
    ⟨w.need.f189.look, w.need.f189.code, rfl, rfl, rfl, rfl, by decide +kernel, by decide +kernel, by decide +kernel, by decide +kernel, rfl, rfl⟩ gw ag (bind_eq rfl ⟨h₀, tk, [.ref q.s], rfl, Keep.refl _, rfl, rfl, fun env L h₁ tk₁ e hf ag' z => ?_⟩)
  have fs1 := z.frs e hf fs
  have apt1 := z.apt hf gw apt
  have hfr' : (A.deeper env).frames = some (env :: l) := Around.frames_deeper hfr
  have hfa : fa (env :: l) = L :: fa l := by unfold fa; rw [List.filterMap_cons, hf]
  replace z := (z.claims (g := frLed l h₀) (frLed_holds fs) (by rw [frLed_map]; exact fs.nd))
  rw [frLed_map] at z
  have gwOf : ∀ {m n h}, Z (SbX (fa l) h₀) L m n h → (∀ p ∈ frLed l h₀, p ∈ n) → G w h := fun z hm => gw.keepF (z.kf hm) apt
  have grOf : ∀ {m n h}, Z (SbX (fa l) h₀) L m n h → Holds (q.led w) h := fun z p hp => by
    obtain ⟨o, e, P⟩ := ok.hold p hp
    exact ⟨o, z.keep _ _ ⟨dis _ (List.mem_map_of_mem hp), e⟩, P⟩
  have sOf : ∀ {m n h}, Z (SbX (fa l) h₀) L m n h → (∃ o, h.get? q.s = some o ∧ SortO q.sd o) ∧ (∃ o, h.get? q.sd = some o ∧ NsU (fr AN [some (.ref q.nd), some q.ready, q.po, q.fi]) o) ∧ (∃ o, h.get? q.nd = some o ∧ DictI w (kvsOf q.nodes) o) := fun z =>
    ⟨grOf z _ (q.led_s w), grOf z _ (q.led_d w), grOf z _ (q.led_n w)⟩
  -- n2i, stack, itstack, seen, node2stacki
  refine y_cons ?_
  refine x_asg (B := SbX (fa l) h₀) (g := g) (d := d) (os := os) e 1 rfl ?_
  refine x_attr ?_
  refine x_loc e z 0 rfl rfl ?_
  refine x_sget (gwOf z (fun p hp => hp)) (sOf z).1 (sOf z).2.1 0 rfl rfl rfl fun tk => ?_
  refine ⟨_, _, _, _, rfl, z, Nat.le_of_ble_eq_true rfl, fun h tk z₁ => ?_⟩
  clear z; rename Z _ _ _ _ _ => z
  refine y_cons ?_
  refine x_asg (B := SbX (fa l) h₀) (g := g) (d := d) (os := os) e 2 rfl ?_
  refine x_list (g := g) (d := d) (os := os) ?_
  refine evs_nil ?_
  refine ⟨_, _, rfl, Nat.le_of_ble_eq_true rfl, fun sA h ka hn ho => ?_⟩
  replace z := z.add ka hn ho.choose_spec.1 (ints0 ho.choose_spec.2)
  refine ⟨_, _, _, _, rfl, z, Nat.le_of_ble_eq_true rfl, fun h tk z₁ => ?_⟩
  clear z ka hn ho; rename Z _ _ _ _ _ => z
  refine y_cons ?_
  refine x_asg (B := SbX (fa l) h₀) (g := g) (d := d) (os := os) e 3 rfl ?_
  refine x_list (g := g) (d := d) (os := os) ?_
  refine evs_nil ?_
  refine ⟨_, _, rfl, Nat.le_of_ble_eq_true rfl, fun iA h ka hn ho => ?_⟩
  replace z := z.add ka hn ho.choose_spec.1 ho.choose_spec.2
  refine ⟨_, _, _, _, rfl, z, Nat.le_of_ble_eq_true rfl, fun h tk z₁ => ?_⟩
  clear z ka hn ho; rename Z _ _ _ _ _ => z
  refine y_cons ?_
  refine x_asg (B := SbX (fa l) h₀) (g := g) (d := d) (os := os) e 4 rfl ?_
  refine x_tcall0 (T := "set") ?_
  refine x_glob e (gwOf z (fun p hp => by simp [hp])) 0 rfl (gv_set w) ?_
  refine ⟨rfl, ?_⟩
  refine x_set0 (w := w) fun eA h ka hn ho => ?_
  replace z := z.add ka hn ho.choose_spec.1 ho.choose_spec.2
  refine ⟨_, _, _, _, rfl, z, Nat.le_of_ble_eq_true rfl, fun h tk z₁ => ?_⟩
  clear z ka hn ho; rename Z _ _ _ _ _ => z
  refine y_cons ?_
  refine x_asg (B := SbX (fa l) h₀) (g := g) (d := d) (os := os) e 5 rfl ?_
  refine x_dict0 (w := w) (gwOf z (fun p hp => by simp [hp])) fun mA h ka hn lo ho => ?_
  replace z := z.add ka hn ho.choose_spec.1 ho.choose_spec.2
  refine ⟨_, _, _, _, rfl, z, Nat.le_of_ble_eq_true rfl, fun h tk z₁ => ?_⟩
  clear z ka hn ho; rename Z _ _ _ _ _ => z
  replace z := z.perm (n' := fbase w sA iA eA mA [] (fun _ => false) [] ++ frLed l h₀) (by
    show ([(sA, _), (iA, _), (eA, _), (mA, _)] ++ [] ++ frLed l h₀).Perm ([(mA, _), (eA, _), (iA, _), (sA, _)] ++ frLed l h₀)
    rw [List.append_nil]
    exact (List.reverse_perm [(sA, ILst []), (iA, LstO []), (eA, SetI w (fun _ => false) 0), (mA, DictI w [])]).symm.append_right _)
  have z0 : Z (SbX (fa l) h₀) L (fr FN (fvals q sA iA eA mA none)) (fbase w sA iA eA mA [] (fun _ => false) [] ++ frLed l h₀) h := z
  clear z
  refine y_cons ?_
  refine wpAny_For ?_
  refine x_loc e z0 1 rfl rfl ?_
  obtain ⟨od, hod, hdi⟩ := ok.hold _ (q.led_n w)
  obtain ⟨ep, hde⟩ := DictI.epoch hdi
  have hndX : q.nd ∉ fa l := dis _ (List.mem_map_of_mem (q.led_n w))
  have deOf : ∀ {m n h}, Z (SbX (fa l) h₀) L m n h → ∃ o, h.get? q.nd = some o ∧ DictE w (kvsOf q.nodes) ep o := fun z => ⟨od, z.keep _ _ ⟨hndX, hod⟩, hde⟩
  refine x_iter_dict (w := w) (ep := ep) (deOf z0) ok.lo fun I h kI hI hIt => ?_
  replace z0 := z0.add kI hI hIt.choose_spec.1 hIt.choose_spec.2
  have ndk : (q.nodes.map (·.node)).Nodup := ok.keys
  have ndc : ((cont q.nodes).map (·.1)).Nodup := by unfold cont; rw [List.map_map]; exact ndk
  have scx : ∀ x ∈ q.nodes, scC (cont q.nodes) x.node = x.succ := fun x hx => scC_mem ndc (List.mem_map_of_mem (f := fun x : GN => (x.node, x.succ)) hx)
  have hkl : (kvsOf q.nodes).length = (q.nodes.map (·.node)).length := by simp [kvsOf]
  have hkk : ∀ {i : Nat} {k : Int} {x : Value}, (kvsOf q.nodes)[i]? = some (k, x) → (q.nodes.map (·.node))[i]? = some k := by
    intro i k x h
    unfold kvsOf at h
    rw [List.getElem?_map] at h ⊢
    obtain ⟨y, hy, e⟩ := Option.map_eq_some_iff.mp h
    injection e with e1 e2
    rw [hy]; exact congrArg some e1
  generalize hsc : scC (cont q.nodes) = sc at *
  generalize hkeys : q.nodes.map (·.node) = keys at *
  have hkl3 : keys.length ≤ 3000 := by rw [← hkeys, List.length_map]; exact hlen
  refine x_forG (R := fun r s' => match r with | .ok f => _ | .error e => _) (A := A.deeper env) (names := FN) (iter_dict ag'.hh I q.nd (kvsOf q.nodes) ep) (σ := List Int × (Int → Bool) × Option Value)
    (fun i st => DI sc keys st.2.1 st.1 [] ∧ ∀ j < i, ∀ k, keys[j]? = some k → k ∈ st.1) (fun i st => fvals q sA iA eA mA st.2.2) (fun i st => fbase w sA iA eA mA st.1 st.2.1 [] ++ frLed l h₀) (fun _ _ => g) ([], fun _ => false, none)
    ⟨⟨fun k => by simp, by simp, by simp, trivial⟩, fun j hj => absurd hj (Nat.not_lt_zero _)⟩ z0 (fun i st h _ z => deOf z) ?_ ?_
  · clear z0 hI hIt kI
    rintro i ⟨fin, S, nv⟩ v h tk hi hv ⟨hDI, hfin⟩ z
    obtain ⟨k, xv, t, hk, rfl⟩ := hv
    have hki := hkk hk
    dsimp only at hDI hfin z
    refine x_stoName e z 6 rfl (Nat.le_of_ble_eq_true rfl) fun h tk z₁ _ => ?_
    clear z; rename Z _ _ _ _ _ => z
    refine absQ fun Qb0 hb0 => ?_
    refine y_cons ?_
    refine y_if ?_
    refine y_tcmp ?_
    refine x_loc e z 6 rfl rfl ?_
    refine x_loc e z 4 rfl rfl ?_
    refine x_sin (w := w) (z.get 3 rfl) fun tk => ?_
    refine x_truthy ?_
    refine ite_b (fun hS => ?_) fun hS => ?_
    · refine y_cons ?_
      refine wpAny_Continue ?_
      refine hb0 .cont _ ⟨(fin, S, some (.int k t)), h, tk, rfl, ⟨hDI, fun j hj k' hk' => ?_⟩, z⟩
      by_cases q1 : j = i
      · subst q1; rw [hki] at hk'; cases hk'
        exact ((hDI.seen k).mp hS).resolve_right (by simp)
      · exact hfin j (by lia) k' hk'
    · refine wpAny_execs_nil ?_
      refine y_cons ?_
      refine wpAny_While ?_
      refine x_while (B := SbX (fa l) h₀) (L := L) (names := FN) (σ := List Int × (Int → Bool) × List SE × Int × Tok)
        (fun n st => DI sc keys st.2.1 st.1 st.2.2.1 ∧ Chain sc st.1 st.2.2.2.1 st.2.2.1 ∧ st.2.2.2.1 ∈ keys ∧ LaOk q st.2.2.1 ∧ (st.2.1 k = true ∨ st.2.2.2.1 = k) ∧ (∀ x ∈ fin, x ∈ st.1) ∧ n = work sc keys st.2.1 st.2.2.1)
        (fun st => fvals q sA iA eA mA (some (.int st.2.2.2.1 st.2.2.2.2)))
        (fun st => (I, KeyIt q.nd (kvsOf q.nodes).length ep (i + 1)) :: (fbase w sA iA eA mA st.1 st.2.1 st.2.2.1 ++ frLed l h₀)) (fun _ => g) (work sc keys S []) (fin, S, [], k, t)
        ⟨hDI, trivial, List.mem_of_getElem? hki, LaOk.nil q, Or.inr rfl, fun x hx => hx, rfl⟩ z ?_
      clear z hDI hS
      rintro n ⟨fin1, S1, stk, v, t1⟩ h tk ⟨d1, c1, hv1, la1, rt1, sub1, hn⟩ z
      dsimp only at d1 c1 hv1 la1 rt1 sub1 hn z ⊢
      refine y_val ?_
      refine x_bool ?_
      refine x_truthy ?_
      refine ite_t ?_
      refine absQ fun Qw hw => ?_
      refine y_cons ?_
      refine wpAny_mono (Q := fun f s => match f with
        | .next => ∃ stk2 S2 h tk, s = ⟨h, g, d, tk, os⟩ ∧ DI sc keys S2 fin1 stk2 ∧ Inner sc fin1 stk2 ∧ LaOk q stk2 ∧ S2 k = true ∧ work sc keys S2 stk2 ≤ n ∧
            Z (SbX (fa l) h₀) L (fr FN (fvals q sA iA eA mA (some (.int v t1)))) ((I, KeyIt q.nd (kvsOf q.nodes).length ep (i + 1)) :: (fbase w sA iA eA mA fin1 S2 stk2 ++ frLed l h₀)) h
        | .ret r => ∃ h tk, s = ⟨h, g, d, tk, os⟩ ∧ KeepF (fa l) h₀ h ∧ Found q h₀ h r
        | _ => False) ?_ (fun f s₁ qf => ?_) (fun _ _ x => x)
      · clear hb0 hw
        refine absQ fun Qc hc => ?_
        refine y_if ?_
        refine y_tcmp ?_
        refine x_loc e z 6 rfl rfl ?_
        refine x_loc e z 4 rfl rfl ?_
        refine x_sin (w := w) (z.get 3 rfl) fun tk => ?_
        refine x_truthy ?_
        refine ite_b (fun hS => ?_) fun hS => ?_
        · refine y_cons ?_
          refine y_if ?_
          refine y_tcmp ?_
          refine x_loc e z 6 rfl rfl ?_
          refine x_loc e z 5 rfl rfl ?_
          refine x_din (w := w) (z.get 4 rfl) lo fun tk => ?_
          rw [n2s_some]
          refine x_truthy ?_
          refine ite_b (fun hb => ?_) fun hb => ?_
          · have hmem := of_decide_eq_true hb
            obtain ⟨ni, nt, hnv⟩ := n2s_val hmem
            refine y_cons ?_
            refine y_ret ?_
            refine y_bin ?_
            refine x_lslice_sn (g := g) (d := d) (os := os) ?_
            refine x_loc e z 2 rfl rfl ?_
            refine y_sub ?_
            refine x_loc e z 5 rfl rfl ?_
            refine x_loc e z 6 rfl rfl ?_
            refine x_ditem (w := w) (z.get 4 rfl) hnv (fun tk => ?_) (by with_unfolding_all rfl) (by intro _; rfl)
            obtain ⟨so, hso, xs, hxs, hxl⟩ := z.get 1 rfl
            have hxlen : xs.length ≤ 3000 := by
              have h1 := ints_len hxs
              rw [List.length_reverse, List.length_map] at h1
              have := d1.len
              lia
            refine ⟨_, _, _, xs, _, _, rfl, rfl, rfl, ⟨so, hso, hxl⟩, by lia, fun l1 h ws k1 hn1 hwl hl1 => ?_⟩
            replace z := z.add k1 hn1 hl1.choose_spec.1 hl1.choose_spec.2
            refine x_list (g := g) (d := d) (os := os) ?_
            refine evs_cons ?_
            refine x_loc e z 6 rfl rfl ?_
            refine evs_nil ?_
            refine ⟨_, _, rfl, Nat.le_of_ble_eq_true rfl, fun l2 h k2 hn2 hl2 => ?_⟩
            replace z := z.add k2 hn2 hl2.choose_spec.1 hl2.choose_spec.2
            refine list_pair (z.get 1 rfl) (z.get 0 rfl) (by simp; lia) fun r h k3 hn3 hl3 => ?_
            have kz := z.kf (l := l) (fun p hp => by simp [hp])
            refine hc (.ret _) _ ⟨h, _, rfl, kz.trans (KeepF.ofKeep _ k3), .inr ⟨r, _, rfl, hl3, by simp, by simp; lia, ?_, v, by rw [hsc]; exact c1.cycle hmem⟩⟩
            exact kz.none0 hn3
          · refine wpAny_execs_nil ?_
            refine wpAny_execs_nil ?_
            exact hc .next _ ⟨stk, S1, h, tk, rfl, d1, d1.back hS (of_decide_eq_false hb) c1, la1, rt1.elim id (fun c => by rw [← c]; exact hS), by lia, z⟩
        · have hlen1 := d1.len
          have hnm : v ∉ stk.map (·.v) := fun c => by have := (d1.seen v).mpr (.inr c); rw [hS] at this; cases this
          obtain ⟨x, hx, hxv, hvx⟩ : ∃ x ∈ q.nodes, x.node = v ∧ valueAt (kvsOf q.nodes) v = some (.ref x.ia) := by
            rcases kvs_find q.nodes v with c | ⟨c, _⟩
            · exact c
            · rw [← hkeys] at hv1
              obtain ⟨y, hy, hyv⟩ := List.mem_map.mp hv1
              exact absurd hyv (c y hy)
          refine y_cons ?_
          refine wpAny_Expr ?_ (by unfold interactive; rw [e.kind]; rfl) (by rfl)
          refine x_meth F.plainAttrs_set F.slot_set_add F.type_set_add ?_
          refine x_loc e z 4 rfl rfl ?_
          refine ⟨SetI.type (w := w) (z.get 3 rfl), ?_⟩
          refine evs_cons ?_
          refine x_loc e z 6 rfl rfl ?_
          refine evs_nil ?_
          refine x_sadd (w := w) (z.get 3 rfl) (by lia) fun h tk hs' hsb => ?_
          replace z := z.upd 3 rfl hsb hs'.choose_spec.1 hs'.choose_spec.2
          clear hs' hsb
          rw [hS] at z
          refine y_cons ?_
          refine x_appendH e.kind ?_
          refine x_loc e z 3 rfl rfl ?_
          obtain ⟨io, hio, hil⟩ := z.get 2 rfl
          refine ⟨_, rfl, ⟨_, io, hio, hil⟩, ?_⟩
          refine evs_cons ?_
          refine x_attrT ?_
          refine x_bcall (id := "iter") ?_
          refine x_glob e (gwOf z (fun p hp => by simp [hp, fbase])) 1 rfl (gv_iter w) ?_
          refine ⟨rfl, ?_⟩
          refine evs_cons ?_
          refine x_attrT ?_
          refine y_sub ?_
          refine x_loc e z 1 rfl rfl ?_
          refine x_loc e z 6 rfl rfl ?_
          refine x_ditem (w := w) (sOf z).2.2 hvx (fun tk => ?_) (by with_unfolding_all rfl) (by intro _; rfl)
          refine x_iget_succ (gwOf z (fun p hp => by simp [hp, fbase])) (grOf z _ (GS.mem_node hx x.led_i)) (grOf z _ (GS.mem_node hx x.led_e)) fun tk => ?_
          refine evs_nil ?_
          obtain ⟨xo, hxo, xs, hxs, hxl⟩ := grOf z _ (GS.mem_node hx x.led_s)
          refine x_iter ⟨xo, hxo, hxl⟩ fun it h k1 hn1 hit => ?_
          replace z := z.add k1 hn1 hit.choose_spec.1 hit.choose_spec.2
          refine x_get_next (z.get 0 rfl) fun bw h tk k2 hn2 hbw => ?_
          replace z := z.add k2 hn2 hbw.choose_spec.1 hbw.choose_spec.2
          clear hio hil hn1 hit hn2 hbw k1 k2
          refine evs_nil ?_
          refine ⟨_, _, _, _, _, _, _, rfl, rfl, z.get 4 rfl, by simp; lia, fun h hsb hl => ?_⟩
          replace z := z.upd 4 rfl hsb hl.choose_spec.1 hl.choose_spec.2
          clear hsb hl
          refine y_cons ?_
          refine wpAny_Assign_Subscript ?_
          refine x_bcall (id := "len") ?_
          refine x_glob e (gwOf z (fun p hp => by simp [hp, fbase])) 2 rfl (gv_len w) ?_
          refine ⟨rfl, ?_⟩
          refine evs_cons ?_
          refine x_loc e z 2 rfl rfl ?_
          refine evs_nil ?_
          obtain ⟨so, hso, ys, hys, hyl⟩ := z.get 3 rfl
          have hyn : ys.length = stk.length := by have := ints_len hys; simpa using this
          refine x_len_list ⟨so, hso, hyl⟩ (by lia) fun t5 tk => ?_
          rw [hyn]
          refine x_loc e z 5 rfl rfl ?_
          refine x_loc e z 6 rfl rfl ?_
          refine x_dset (w := w) (z.get 6 rfl) (by rw [n2s_len]; lia) fun h tk hd' hsb => ?_
          replace z := z.upd 6 rfl hsb hd'.choose_spec.1 hd'.choose_spec.2
          clear hso hyl hd' hsb
          refine y_cons ?_
          refine x_appendH e.kind ?_
          refine x_loc e z 2 rfl rfl ?_
          obtain ⟨so, hso, ys, hys, hyl⟩ := z.get 3 rfl
          have hyn : ys.length = stk.length := by have := ints_len hys; simpa using this
          refine ⟨_, rfl, ⟨_, so, hso, hyl⟩, ?_⟩
          refine evs_cons ?_
          refine x_loc e z 6 rfl rfl ?_
          refine evs_nil ?_
          refine ⟨_, _, _, _, _, _, _, rfl, rfl, ⟨so, hso, hyl⟩, by lia, fun h hsb hl => ?_⟩
          replace z := z.upd (P' := ILst ((stk.map (·.v)).reverse ++ [v])) 3 rfl hsb hl.choose_spec.1 ⟨_, ints_snoc hys v t1, hl.choose_spec.2⟩
          clear hso hyl hsb hl
          refine wpAny_execs_nil ?_
          obtain ⟨d2, i2⟩ := d1.push hv1 hS c1 ⟨v, bw, it, x.la, 0, t5⟩ rfl rfl
          have hndk : keys.Nodup := ndk
          have ns : stored (n2s stk) v (.int (stk.length : Nat) t5) = n2s (⟨v, bw, it, x.la, 0, t5⟩ :: stk) := n2s_store (e := ⟨v, bw, it, x.la, 0, t5⟩) hnm
          rw [ns] at z
          have wk := work_push (sc := sc) (stk := stk) hndk hv1 hS ⟨v, bw, it, x.la, 0, t5⟩ rfl rfl
          refine hc .next _ ⟨⟨v, bw, it, x.la, 0, t5⟩ :: stk, _, h, tk, rfl, d2, i2, fun e' he' => ?_, ?_, by lia, z.perm ?_⟩
          · rcases List.mem_cons.mp he' with rfl | he'
            · exact ⟨x, hx, hxv, rfl⟩
            · exact la1 e' he'
          · rcases rt1 with c | c
            · simp [c]
            · simp [c]
          · rw [fbase_push]
            exact List.perm_append_comm_assoc [(I, KeyIt q.nd (kvsOf q.nodes).length ep (i + 1)), (sA, ILst ((stk.map (·.v)).reverse ++ [v])), (iA, LstO ((stk.map fun e => Value.ref e.bw).reverse ++ [.ref bw])), (eA, SetI w (fun j => S1 j || decide (j = v)) (fin1.length + stk.length + 1)), (mA, DictI w (n2s (⟨v, bw, it, x.la, 0, t5⟩ :: stk)))]
              [(bw, WrapO "list_iterator.__next__" it), (it, LItO x.la 0)] (stk.flatMap SE.led ++ frLed l h₀)
      · clear z c1 hv1 la1 rt1 d1
        cases f with
        | brk => exact qf.elim
        | cont => exact qf.elim
        | ret r =>
          obtain ⟨h, tk, rfl, kf, fo⟩ := qf
          exact hw (.ret r) _ (hb0 (.ret r) _ (hQ h tk r kf fo))
        | next =>
          obtain ⟨stk2, S2, h, tk, rfl, d2, i2, la2, sk, wk, z⟩ := qf
          refine y_cons ?_
          refine wpAny_While ?_
          refine x_while (B := SbX (fa l) h₀) (L := L) (names := FN) (σ := List Int × List SE)
            (fun n' st => DI sc keys S2 st.1 st.2 ∧ Inner sc st.1 st.2 ∧ LaOk q st.2 ∧ (∀ x ∈ fin1, x ∈ st.1) ∧ work sc keys S2 st.2 ≤ n ∧ n' = st.2.length)
            (fun st => fvals q sA iA eA mA (some (.int v t1)))
            (fun st => (I, KeyIt q.nd (kvsOf q.nodes).length ep (i + 1)) :: (fbase w sA iA eA mA st.1 S2 st.2 ++ frLed l h₀)) (fun _ => g) stk2.length (fin1, stk2)
            ⟨d2, i2, la2, fun x hx => hx, wk, rfl⟩ z ?_
          clear z d2 i2 la2 wk
          rintro n' ⟨fin2, stk3⟩ h tk ⟨d3, i3, la3, sub3, wk3, hn'⟩ z
          dsimp only at d3 i3 la3 sub3 wk3 hn' z ⊢
          have hlen3 := d3.len
          refine y_val ?_
          refine x_loc e z 2 rfl rfl ?_
          obtain ⟨so, hso, ys, hys, hyl⟩ := z.get 1 rfl
          have hyn : ys.length = stk3.length := by have := ints_len hys; simpa using this
          refine x_truthy_list ⟨so, hso, hyl⟩ (by lia) fun tk => ?_
          clear hso hyl
          cases stk3 with
          | nil =>
            have : ys = [] := List.eq_nil_of_length_eq_zero hyn
            subst this
            refine ite_f ?_
            refine y_cons ?_
            refine wpAny_Break ?_
            refine hw .brk _ ?_
            refine wpAny_execs_nil ?_
            refine hb0 .next _ ⟨(fin2, S2, some (.int v t1)), h, tk, rfl, ⟨d3, fun j hj k' hk' => ?_⟩, z⟩
            by_cases q1 : j = i
            · subst q1; rw [hki] at hk'; cases hk'
              exact ((d3.seen k).mp sk).resolve_right (by simp)
            · exact sub3 _ (sub1 _ (hfin j (by lia) k' hk'))
          | cons en rs =>
            have hne : ys.isEmpty = false := by cases ys with | nil => simp at hyn | cons _ _ => rfl
            rw [hne]
            refine ite_t ?_
            refine absQ fun Q3 h3 => ?_
            refine y_cons ?_
            obtain ⟨x, hx, hxv, hxa⟩ := la3 en List.mem_cons_self
            have hsx : sc en.v = x.succ := by rw [← hxv]; exact scx x hx
            refine x_tryB e 3 rfl (gv_StopIteration w) hfr' exc_stop meta_stop self_stop apt1 ?_
            refine y_cons ?_
            refine x_asg (B := SbX (fa l) h₀) (g := g) (d := d) (os := os) e 6 rfl ?_
            refine x_callSub ?_
            refine y_sub ?_
            refine x_loc e z 3 rfl rfl ?_
            refine y_un ?_
            refine x_int fun _ _ => ?_
            refine x_neg1 fun _ _ => ?_
            refine x_item_last (v := .ref en.bw) (z.get 2 rfl) (by simp) (by simp at hlen3 ⊢; lia) (by with_unfolding_all rfl) ?_
            refine ⟨_, _, _, rfl, z.get 5 rfl, ?_⟩
            obtain ⟨xo, hxo, xs, hxs, hxl⟩ := grOf z _ (GS.mem_node hx x.led_s)
            rw [hxa] at hxo
            rw [← hsx] at hxs
            cases hy : (sc en.v)[en.p]? with
            | some y =>
              obtain ⟨ty, hxy⟩ := ints_get hxs hy
              refine x_bnext_item (z.get 5 rfl) (z.get 6 rfl) ⟨xo, hxo, hxl⟩ hxy fun h hsb hit => ?_
              replace z := z.upd 6 rfl hsb hit.choose_spec.1 hit.choose_spec.2
              refine ⟨_, _, _, _, rfl, z, Nat.le_of_ble_eq_true rfl, fun h tk z₁ => ?_⟩
              clear z; rename Z _ _ _ _ _ => z
              refine y_cons ?_
              refine wpAny_Break ?_
              refine h3 .brk _ ?_
              refine wpAny_execs_nil ?_
              have wn := work_next (sc := sc) (keys := keys) (S := S2) (e := en) (e' := { en with p := en.p + 1 }) rs rfl rfl hy
              refine hw .next _ ⟨(fin2, S2, { en with p := en.p + 1 } :: rs, y, ty), h, tk, _, rfl, ?_, ⟨⟨d3.seen, d3.nd, d3.sub, d3.rank⟩, i3.next hy _ rfl rfl, ?_, ?_, .inl sk, fun x hx => sub3 x (sub1 x hx), rfl⟩, z⟩
              · dsimp only; lia
              · exact clo x hx y (by rw [← hsx]; exact List.mem_of_getElem? hy)
              · intro e' he'
                rcases List.mem_cons.mp he' with rfl | he'
                · exact ⟨x, hx, hxv, hxa⟩
                · exact la3 e' (List.mem_cons_of_mem _ he')
            | none =>
              have hxy : xs[en.p]? = none := by
                rw [List.getElem?_eq_none_iff] at hy ⊢
                rw [ints_len hxs]; exact hy
              refine x_bnext_stop ag'.hh (z.get 5 rfl) (z.get 6 rfl) ⟨xo, hxo, hxl⟩ hxy fun h₂ h₃ ex hsb thr => ?_
              replace z := Z.drop (n1 := [(I, KeyIt q.nd (kvsOf q.nodes).length ep (i + 1)), (sA, ILst ((en :: rs).map (·.v)).reverse), (iA, LstO ((en :: rs).map fun e => Value.ref e.bw).reverse), (eA, SetI w S2 (fin2.length + (en :: rs).length)), (mA, DictI w (n2s (en :: rs))), (en.bw, WrapO "list_iterator.__next__" en.it)])
                (n2 := rs.flatMap SE.led ++ frLed l h₀) z hsb.extBut
              have z1 : Z (SbX (fa l) h₀) L (fr FN (fvals q sA iA eA mA (some (.int v t1)))) (([(I, KeyIt q.nd (kvsOf q.nodes).length ep (i + 1)), (sA, ILst ((en :: rs).map (·.v)).reverse), (iA, LstO ((en :: rs).map fun e => Value.ref e.bw).reverse), (eA, SetI w S2 (fin2.length + (en :: rs).length)), (mA, DictI w (n2s (en :: rs))), (en.bw, WrapO "list_iterator.__next__" en.it)] ++ rs.flatMap SE.led) ++ frLed l h₀) h₂ := z
              clear z
              have hfm : ∀ p ∈ frLed l h₀, p ∈ (([(I, KeyIt q.nd (kvsOf q.nodes).length ep (i + 1)), (sA, ILst ((en :: rs).map (·.v)).reverse), (iA, LstO ((en :: rs).map fun e => Value.ref e.bw).reverse), (eA, SetI w S2 (fin2.length + (en :: rs).length)), (mA, DictI w (n2s (en :: rs))), (en.bw, WrapO "list_iterator.__next__" en.it)] ++ rs.flatMap SE.led) ++ frLed l h₀) := fun p hp => List.mem_append_right _ hp
              refine ⟨ex, h₂, h₃, _, _, _, _, rfl, rfl, thr, z1.frsNow e hf fs hfm fs1.nd, gwOf z1 hfm, fun h tk kf gw₃ => ?_⟩
              rw [hfa] at kf
              have z := z1.slots (fun b hb => hb) kf
              clear z1 hfm
              refine y_cons ?_
              refine x_delSub (w := w) ?_
              refine x_loc e z 5 rfl rfl ?_
              refine x_meth0 F.plainAttrs_list F.slot_list_pop F.type_list_pop ?_
              refine x_loc e z 2 rfl rfl ?_
              obtain ⟨so, hso, zs, hzs, hzl⟩ := z.get 1 rfl
              have hzn : zs.length = (en :: rs).length := by have := ints_len hzs; simpa using this
              rw [List.map_cons, List.reverse_cons] at hzs
              obtain ⟨tp, hlast, hdrop⟩ := ints_rev_last hzs
              refine ⟨LstO.type ⟨so, hso, hzl⟩, ?_⟩
              refine x_pop ⟨so, hso, hzl⟩ hlast (by simp at hzn hlen3; lia) fun h hsb hl => ?_
              replace z := z.upd (P' := ILst (rs.map (·.v)).reverse) 1 rfl hsb hl.choose_spec.1 ⟨_, hdrop, hl.choose_spec.2⟩
              clear hso hzl hsb hl
              have hnm : en.v ∉ rs.map (·.v) := by
                have nd := d3.nd
                rw [List.nodup_append] at nd
                have n2 := nd.2.1
                rw [List.map_cons, List.nodup_cons] at n2
                exact n2.1
              refine x_ddel (w := w) (z.get 4 rfl) (by rw [n2s_some]; simp) (by rw [n2s_len]; simp at hlen3 ⊢; lia) fun h tk hd' hsb => ?_
              replace z := z.upd 4 rfl hsb hd'.choose_spec.1 hd'.choose_spec.2
              clear hd' hsb
              rw [n2s_without hnm] at z
              refine y_cons ?_
              refine wpAny_Expr_any ?_ (by unfold interactive; rw [e.kind]; rfl) (by rfl)
              refine x_meth0 F.plainAttrs_list F.slot_list_pop F.type_list_pop ?_
              refine x_loc e z 3 rfl rfl ?_
              refine ⟨LstO.type (z.get 2 rfl), ?_⟩
              refine x_pop (v := .ref en.bw) (z.get 2 rfl) (by simp) (by simp at hlen3 ⊢; lia) fun h hsb hl => ?_
              replace z := z.upd (P' := LstO (rs.map fun e => Value.ref e.bw).reverse) 2 rfl hsb hl.choose_spec.1 (by have := hl.choose_spec.2; simpa using this)
              clear hsb hl
              refine wpAny_execs_nil ?_
              refine wpAny_execs_nil ?_
              obtain ⟨d4, i4⟩ := d3.pop i3 hy
              have hcnt : fin2.length + (en :: rs).length = (en.v :: fin2).length + rs.length := by simp only [List.length_cons]; lia
              rw [hcnt] at z
              have wp := work_pop (sc := sc) (keys := keys) (S := S2) en rs
              refine h3 .next _ ⟨(en.v :: fin2, rs), h, _, rs.length, rfl, ?_, ⟨d4, i4, fun e' he' => la3 e' (List.mem_cons_of_mem _ he'), fun x hx => List.mem_cons_of_mem _ (sub3 x hx), by dsimp only; lia, rfl⟩, z.sub ?_⟩
              · rw [hn']; simp
              · refine List.Sublist.cons_cons _ (.cons_cons _ (.cons_cons _ (.cons_cons _ (.cons_cons _ (.cons _ ?_)))))
                exact List.Sublist.refl _
  · rintro ⟨fin, S, nv⟩ h tk ⟨hDI, hfin⟩ z
    refine y_cons ?_
    refine y_ret ?_
    refine x_none ?_
    refine hQ h tk .none (z.kf fun p hp => List.mem_append_right _ hp) (.inl ⟨rfl, fun k hk p => ?_⟩)
    rw [hkeys] at hk
    rw [hsc] at p
    obtain ⟨j, hj⟩ := List.mem_iff_getElem?.mp hk
    have hjl : j < (kvsOf q.nodes).length := by rw [hkl]; exact (List.getElem?_eq_some_iff.mp hj).1
    have hm := hfin j hjl k hj
    have nd := hDI.nd
    rw [List.map_nil, List.append_nil] at nd
    exact hDI.rank.acyclic nd hm p
end
end Mine
namespace Mine
theorem qc117 (w : WK) : ExcAt (KK w) 117 [.type "ValueError", .type "Exception", .type "BaseException", .type "object"] "ValueError.__new__" := w.need.ex117
section
variable {prog : Program} {w : WK} {A : Around} {E : Value → Shared → Prop} {env : Env} {L : Addr} {names gl : List Str} {g : Array GenState} {d : Drawn} {os : OsState}
variable {h : Heap} {tk : Nat}
inductive PRc (g : Array GenState) (d : Drawn) (os : OsState) (C : Addr) (h : Heap) (E : Value → Shared → Prop) (vs : List Value) (s₂ : Shared) : Prop
  | mk (tk₂ : Nat) (e : s₂ = ⟨h, g, d, tk₂, os⟩) (hl : vs.length ≤ sizeLine) (q : ∀ e h', Thrown (.ref C) h h' e → E (.ref e) ⟨h', g, d, tk₂, os⟩)
/-- raise C(..), C a class of the text's own -/
theorem x_raiseC {x : Str} {np cpos pos : Pos} {es : List Expr} {C : Addr} {bmB : List Value} {B newId initId : String} {Q : Flow → Shared → Prop} (ev : EnvL env L names gl) (i : Nat) (hx : gl[i]? = some x) (gv : GV w x (.ref C))
    (FB : ExcBaseFacts B newId initId bmB) (qc : ExcAt (KK w) C bmB newId) (hh : A.handled = none) (gw : G w h)
    (k : wpAny (model prog w.w) A (evs env es) (PRc g d os C h E) E ⟨h, g, d, tk, os⟩)
    (hs : backTo cpos (starEach es env) = es.map fun e => (false, eval e env) := by rfl) :
    wpAny (model prog w.w) A (exec (.Raise (some (.Call (.Name x np) es [] cpos)) none pos) env) Q E ⟨h, g, d, tk, os⟩ := by
  obtain ⟨tl, N, nm, q, bs, hdct, sn, sub, ab, col, dd, k0, k1, k2, k3, k5, mN, hC, hN, hni, T⟩ := (own_at gw qc x).obj
  refine wpAny_Raise_call_subT (C := C) (nm := nm) (q := q) (N := N) (bs := bs) (bm := tl) (hdct := hdct) (sn := sn) (sub := sub) (ab := ab) (col := col) (dd := dd) (k0 := k0) (k1 := k1) (k2 := k2) (k3 := k3) (k5 := k5)
    FB (mN := mN) (T.hasType FB.hasBase) hh (by rw [hs]; simp) hni (x_glob ev gw i hx gv ⟨rfl, ?_⟩)
  rw [hs]
  refine evalArgs_all (wpAny_mono k (fun vs s₂ q => ?_) fun _ _ e => e)
  obtain ⟨tk₂, rfl, hl, q⟩ := q
  refine ⟨rfl, hl, hC, hN, T, fun h' e m => q e h' ⟨m.keeps, m.new, ?_⟩⟩
  obtain ⟨t, ht, _⟩ := m.there
  exact ⟨_, _, _, ht, rfl, rfl, rfl, rfl⟩
end
section
variable {w : WK} {A : Around} {E : Value → Shared → Prop} {h₀ : Heap} {g : Array GenState} {d : Drawn} {os : OsState}
variable {tk : Nat}
theorem Z.addF {B : Addr → Obj → Prop} {L : Addr} {m : Str → Option Value} {n : Led} {h h' : Heap} {a : Addr} {o : Obj} {P : Obj → Prop} (z : Z B L m n h) (hn : h.get? a = none) (z' : Z B L m n h') (ho : h'.get? a = some o) (hP : P o) : Z B L m ((a, P) :: n) h' := by
  have f := z.fresh hn
  refine ⟨z'.ns, z'.keep, z'.apart, fun p hp => ?_, fun p hp => ?_, ?_⟩
  · rcases List.mem_cons.mp hp with rfl | hp
    · exact ⟨o, ho, hP⟩
    · exact z'.led p hp
  · rcases List.mem_cons.mp hp with rfl | hp
    · exact ⟨f.1, f.2.1⟩
    · exact z'.off p hp
  · rw [List.map_cons, List.nodup_cons]
    exact ⟨f.2.2, z'.nd⟩
/-- what a call on the sorter leaves of what stood ahead -/
structure Past (w : WK) (q : GS) (l : List Env) (h h' : Heap) : Prop where
  off : ∀ b o, b ∉ q.ads w → b ∉ fa l → h.get? b = some o → h'.get? b = some o
  on : ∀ b o, b ∈ fa l → h.get? b = some o → ∃ sl, h'.get? b = some { o with slots := sl }
theorem Z.past {q : GS} {l : List Env} {L : Addr} {m : Str → Option Value} {n : Led} {h : Heap} (z : Z (SbX (q.ads w ++ fa l) h₀) L m n h) (hm : ∀ p ∈ frLed l h₀, p ∈ n) : Past w q l h₀ h := by
  refine ⟨fun b o h1 h2 e => z.keep b o ⟨fun q => (List.mem_append.mp q).elim h1 h2, e⟩, fun b o hb e => ?_⟩
  obtain ⟨o', e', o₀, sl, e₀, rfl⟩ := z.led _ (hm (b, fun o => ∃ o₀ sl, h₀.get? b = some o₀ ∧ o = { o₀ with slots := sl }) (List.mem_map_of_mem hb))
  rw [e] at e₀; injection e₀ with e₀; subst e₀
  exact ⟨sl, e'⟩
theorem Past.kf {q : GS} {l : List Env} {L : Addr} {h h' h'' : Heap} (p : Past w q l h h') (k : KeepF (L :: fa l) h' h'') (hL : h.get? L = none) : Past w q l h h'' := by
  refine ⟨fun b o h1 h2 e => k.off b o (fun c => ?_) (p.off b o h1 h2 e), fun b o hb e => ?_⟩
  · rcases List.mem_cons.mp c with rfl | c
    · rw [hL] at e; cases e
    · exact h2 c
  · obtain ⟨sl, e1⟩ := p.on b o hb e
    obtain ⟨sl', e2⟩ := k.on b _ (List.mem_cons_of_mem _ hb) e1
    exact ⟨sl', e2⟩
theorem Past.gw {q : GS} {l : List Env} {h h' : Heap} (p : Past w q l h h') (gw : G w h) (fr : ∀ b ∈ q.ads w, Free w b) (apt : Apt w l) : G w h' := by
  have ns : ∀ {a : Addr} {m : Str → Option Value}, a ∉ q.ads w → h.Ns a m → h'.Ns a m := by
    rintro a m ha ⟨o, es, ep, ho, r⟩
    by_cases hb : a ∈ fa l
    · obtain ⟨sl, e⟩ := p.on a o hb ho
      exact ⟨_, es, ep, e, r⟩
    · exact ⟨o, es, ep, p.off a o ha hb ho, r⟩
  refine ⟨fun a o e => p.off a o (fun q => ?_) (fun q => ?_) (gw.K a o e), ?_, ?_⟩
  · rw [(fr a q).1] at e; cases e
  · rw [apt a q] at e; cases e
  · obtain ⟨mb, a, b⟩ := gw.b
    exact ⟨mb, ns (fun q => (fr _ q).2.1 rfl) a, b⟩
  · obtain ⟨mc, a, b⟩ := gw.lim
    exact ⟨mc, ns (fun q => (fr _ q).2.2 rfl) a, b⟩
theorem prepare_call (gw : G w h₀) (ag : AG 7 A) (q : GS) (hr : q.ready = .none) (ok : GOK w q h₀) (l : List Env) (hfr : A.frames = some l) (fs : Frs l h₀) (apt : Apt w l) (dis : ∀ b ∈ q.ads w, b ∉ fa l) (hlen : q.nodes.length ≤ 3000) (hsl : ∀ x ∈ q.nodes, x.succ.length ≤ 3000)
    (clo : ∀ x ∈ q.nodes, ∀ y ∈ x.succ, y ∈ q.nodes.map (·.node)) {Q : Value → Shared → Prop}
    (hQ : ∀ h' tk', Past w q l h₀ h' → (∀ k ∈ q.nodes.map (·.node), ¬ Path (scC (cont q.nodes)) k k) → Q .none ⟨h', g, d, tk', os⟩)
    (hE : ∀ X h e h' tk', Fly X l (.ref 117) h e h' → (∀ h₂, Fly X l (.ref 117) h e h₂ → Past w q l h₀ h₂) → (∃ k, Path (scC (cont q.nodes)) k k) → E (.ref e) ⟨h', g, d, tk', os⟩) :
    wpAny (model PP w.w) A (call (.ref 154) [.ref q.s]) Q E ⟨h₀, g, d, tk, os⟩ := by
  refine x_callG (a := 154) (ks := [Str.ofString "self"]) (rest := [Str.ofString "cycle"]) (gl := [Str.ofString "ValueError", Str.ofString "CycleError"])
    ⟨w.need.f154.look, w.need.f154.code, rfl, rfl, rfl, rfl, by decide +kernel, by decide +kernel, by decide +kernel, by decide +kernel, rfl, rfl⟩ gw ag (bind_eq rfl ⟨h₀, tk, [.ref q.s], rfl, Keep.refl _, rfl, rfl, fun env L h₁ tk₁ e hf ag' z => ?_⟩)
  have fs1 := z.frs e hf fs
  have apt1 := z.apt hf gw apt
  have hfr' : (A.deeper env).frames = some (env :: l) := Around.frames_deeper hfr
  have hfa : fa (env :: l) = L :: fa l := by unfold fa; rw [List.filterMap_cons, hf]
  have hLn : h₀.get? L = none := by
    cases q1 : h₀.get? L with
    | none => rfl
    | some o => exact absurd q1 (z.apart o)
  have mapeq : (q.led w ++ frLed l h₀).map (·.1) = q.ads w ++ fa l := by rw [List.map_append, frLed_map]; rfl
  replace z := (z.claims (g := q.led w ++ frLed l h₀) (fun p hp => (List.mem_append.mp hp).elim (ok.hold p) (frLed_holds fs p)) (by rw [mapeq, List.nodup_append]; exact ⟨ok.nd, fs.nd, fun a ha b hb c => dis a ha (c ▸ hb)⟩))
  rw [mapeq] at z
  have gwOf : ∀ {m n h}, Z (SbX (q.ads w ++ fa l) h₀) L m n h → (∀ p ∈ frLed l h₀, p ∈ n) → G w h := fun z hm => (z.past hm).gw gw ok.free apt
  have hfl : ∀ p ∈ frLed l h₀, p ∈ q.led w ++ frLed l h₀ := fun p hp => List.mem_append_right _ hp
  refine y_cons ?_
  refine y_if ?_
  refine y_tcmp ?_
  refine x_attr ?_
  refine x_loc e z 0 rfl rfl ?_
  refine x_sget (gwOf z hfl) (z.get 0 rfl) (z.get 1 rfl) 1 rfl rfl ok.rdy fun tk => ?_
  rw [hr]
  refine x_none ?_
  refine x_isnot_none ?_
  refine x_truthy ?_
  refine ite_f ?_
  refine wpAny_execs_nil ?_
  refine y_cons ?_
  refine plainObj_wpAny_Assign_Attribute ?_
  refine x_compC (d := d) (os := os) (cn := []) (ca := []) ⟨e, fun i x c hx => by simp at hx⟩ [Str.ofString "i"] [] [] []
    ⟨rfl, by decide +kernel, by decide +kernel, by decide +kernel, by decide +kernel, by decide +kernel, by decide +kernel, by decide +kernel, by decide +kernel⟩ rfl (fun i x c hx => by simp at hx) ?_
  refine x_meth0 F.plainAttrs_dict F.slot_dict_values F.type_dict_values ?_
  refine x_attr ?_
  refine x_loc e z 0 rfl rfl ?_
  refine x_sget (gwOf z hfl) (z.get 0 rfl) (z.get 1 rfl) 0 rfl rfl rfl fun tk => ?_
  refine ⟨DictI.type (z.get 2 rfl), ?_⟩
  refine x_values (w := w) (z.get 2 rfl) ok.lo fun va h kv hv hvo => ?_
  replace z := z.add kv hv hvo.choose_spec.1 hvo.choose_spec.2
  have gw1 := gwOf z fun p hp => List.mem_cons_of_mem _ (hfl p hp)
  have hold1 : Holds (q.led w) h := fun p hp => z.led p (List.mem_cons_of_mem _ (List.mem_append_left _ hp))
  obtain ⟨od, hod, hdi⟩ := hold1 _ (q.led_n w)
  obtain ⟨ep, hde⟩ := DictI.epoch hdi
  refine ⟨h, _, g, rfl, x_iter_values (w := w) (kvs := kvsOf q.nodes) (ep := ep) hvo ⟨od, hod, hde⟩ fun I h₂ k₂ hI hIt => ?_⟩
  refine ⟨I, h₂, _, _, _, _, _, rfl, rfl, k₂, hI, hIt, iter_values ag'.hh I q.nd (kvsOf q.nodes) ep, fun C D h₃ tk₃ cenv ce zc => ?_⟩
  refine x_comploop (A := A.deeper env) (names := [Str.ofString "i"]) (iter_values ag'.hh I q.nd (kvsOf q.nodes) ep) (σ := List Value × Option Value)
    (fun i st => st.1.length ≤ i ∧ i ≤ (kvsOf q.nodes).length) (fun _ st => [st.2]) (fun _ st => st.1) (fun _ _ => []) (fun _ _ => g) ([], none)
    ⟨Nat.le_refl _, Nat.zero_le _⟩ zc (fun i st h' _ z => ⟨od, z.keep _ _ hod, hde⟩) (fun i st hJ => ?_) ?_ ?_
  · have : (kvsOf q.nodes).length = q.nodes.length := by simp [kvsOf]
    lia
  · rintro i ⟨acc, iv⟩ v h' tk' hi hv ⟨hJ, _⟩ z
    obtain ⟨k, hk⟩ := hv
    have hx : ∃ x ∈ q.nodes, v = .ref x.ia := by
      unfold kvsOf at hk
      rw [List.getElem?_map] at hk
      obtain ⟨y, hy, e⟩ := Option.map_eq_some_iff.mp hk
      injection e with e1 e2
      exact ⟨y, List.mem_of_getElem? hy, e2.symm⟩
    obtain ⟨x, hx, rfl⟩ := hx
    refine x_stoName ce.toEnvL z 0 rfl Nat.one_pos fun h' tk' z₁ _ => ?_
    clear z; rename Z _ _ _ _ _ => z
    have gi : ∃ o, h'.get? x.ia = some o ∧ InfoO x.ix x.node x.np x.la o := (hold1.keep z.keep) _ (GS.mem_node hx List.mem_cons_self)
    have gx : ∃ o, h'.get? x.ix = some o ∧ EmpO o := (hold1.keep z.keep) _ (GS.mem_node hx (List.mem_cons_of_mem _ List.mem_cons_self))
    refine tests_one ?_
    refine y_tcmp ?_
    refine x_attr ?_
    refine x_loc ce.toEnvL z 0 rfl rfl ?_
    refine x_iget_np (gw1.keep z.keep) gi gx fun t tk => ?_
    refine x_int fun _ _ => ?_
    refine x_eqi ?_
    refine x_truthy ?_
    refine ite_b (fun hb => ?_) fun hb => ?_
    · refine x_attr ?_
      refine x_loc ce.toEnvL z 0 rfl rfl ?_
      refine x_iget_node (gw1.keep z.keep) gi gx fun t tk => ?_
      exact ⟨(acc ++ [.int x.node t], some (.ref x.ia)), _, _, rfl, ⟨by simpa using hJ, hi⟩, rfl, z⟩
    · exact ⟨(acc, some (.ref x.ia)), _, _, rfl, ⟨by dsimp only at hJ ⊢; lia, hi⟩, rfl, z⟩
  rintro ⟨acc, iv⟩ h₄ tk₄ - z4
  refine ⟨rfl, acc, [], h₄, tk₄, g, _, rfl, z4, fun h₅ zn => ?_⟩
  clear z4 zc
  have hDn : h.get? D = none := by
    cases e : h.get? D with
    | none => rfl
    | some o' => exact absurd e (zn.off _ (List.mem_cons_self) o')
  obtain ⟨oD, hoD, hlD⟩ := zn.led _ List.mem_cons_self
  replace z := z.add zn.keep hDn hoD hlD
  refine x_loc e z 0 rfl rfl ?_
  refine x_sset (gwOf z fun p hp => List.mem_cons_of_mem _ (List.mem_cons_of_mem _ (hfl p hp))) (z.get 2 rfl) (z.get 3 rfl) 1 rfl (Nat.le_of_ble_eq_true rfl) fun h tk hx' hs => ?_
  replace z := z.upd 3 rfl hs hx'.choose_spec.1 hx'.choose_spec.2
  have z2 : Z (SbX (q.ads w ++ fa l) h₀) L (fr ([Str.ofString "self"] ++ [Str.ofString "cycle"]) [some (.ref q.s), none]) ((D, LstO acc) :: (va, ViewO q.nd) :: (GS.led w { q with ready := .ref D } ++ frLed l h₀)) h := z
  clear z
  have hm2 : ∀ p ∈ frLed l h₀, p ∈ (D, LstO acc) :: (va, ViewO q.nd) :: (GS.led w { q with ready := .ref D } ++ frLed l h₀) := fun p hp => List.mem_cons_of_mem _ (List.mem_cons_of_mem _ (List.mem_append_right _ hp))
  have ok2 : GOK w { q with ready := .ref D } h := ⟨fun p hp => z2.led p (List.mem_cons_of_mem _ (List.mem_cons_of_mem _ (List.mem_append_left _ hp))), ok.nd, ok.free, ok.lo, rfl⟩
  have fs2 := z2.frsNow e hf fs hm2 fs1.nd
  have dis2 : ∀ b ∈ GS.ads w { q with ready := .ref D }, b ∉ fa (env :: l) := by
    intro b hb hc
    rw [hfa] at hc
    rcases List.mem_cons.mp hc with rfl | hc
    · obtain ⟨p, hp, rfl⟩ := List.mem_map.mp hb
      exact (z2.off p (List.mem_cons_of_mem _ (List.mem_cons_of_mem _ (List.mem_append_left _ hp)))).1 rfl
    · exact dis b hb hc
  refine y_cons ?_
  refine x_asg (B := SbX (q.ads w ++ fa l) h₀) (g := g) (d := d) (os := os) e 1 rfl ?_
  refine x_smeth (w := w) (f := 189) w.need.fm189 w.need.ty189 (by decide +kernel) ?_
  refine x_loc e z2 0 rfl rfl ?_
  refine ⟨_, _, _, _, _, _, _, _, rfl, rfl, gwOf z2 hm2, z2.get 2 rfl, z2.get 3 rfl, ?_⟩
  refine evs_nil ?_
  refine ⟨fn_at (gwOf z2 hm2) w.need.f189, ?_⟩
  refine find_call (gwOf z2 hm2) (ag'.le (by lia)) { q with ready := .ref D } ok2 (env :: l) hfr' fs2 apt1 dis2 hlen hsl clo fun h₆ tk₆ v kf fo => ?_
  rw [hfa] at kf
  have z3 := Z.slots (n1 := (D, LstO acc) :: (va, ViewO q.nd) :: GS.led w { q with ready := .ref D }) z2 (fun b hb => List.mem_append_right _ hb) kf
  rcases fo with ⟨rfl, hno⟩ | ⟨r, vs, rfl, hr1, hne, hvl, hrn, hcyc⟩
  · refine ⟨_, _, _, _, rfl, z3, Nat.le_of_ble_eq_true rfl, fun h tk z => ?_⟩
    refine y_cons ?_
    refine y_if ?_
    refine y_val ?_
    refine x_loc e z 1 rfl rfl ?_
    refine truthy_none ?_
    refine ite_f ?_
    refine wpAny_execs_nil ?_
    refine wpAny_execs_nil ?_
    exact hQ h tk (z.past hm2) hno
  · replace z3 := Z.addF z2 hrn z3 hr1.choose_spec.1 hr1.choose_spec.2
    refine ⟨_, _, _, _, rfl, z3, Nat.le_of_ble_eq_true rfl, fun h tk z => ?_⟩
    have hm4 : ∀ p ∈ frLed l h₀, p ∈ (r, LstO vs) :: (D, LstO acc) :: (va, ViewO q.nd) :: (GS.led w { q with ready := .ref D } ++ frLed l h₀) := fun p hp => List.mem_cons_of_mem _ (hm2 p hp)
    refine y_cons ?_
    refine y_if ?_
    refine y_val ?_
    refine x_loc e z 1 rfl rfl ?_
    refine x_truthy_list (z.get 0 rfl) (by lia) fun tk => ?_
    have hve : (!vs.isEmpty) = true := by cases vs with | nil => exact absurd rfl hne | cons _ _ => rfl
    rw [hve]
    refine ite_t ?_
    refine y_cons ?_
    refine x_raiseC e 1 rfl (gv_CycleError w) PySem.F.excBase_ValueError (qc117 w) ag'.hh (gwOf z hm4) ?_
    refine evs_cons ?_
    refine wpAny_JoinedStr_one ?_
    refine x_str [110,111,100,101,115,32,97,114,101,32,105,110,32,97,32,99,121,99,108,101] (by decide +kernel) fun _ _ => ?_
    refine evs_cons ?_
    refine x_loc e z 1 rfl rfl ?_
    refine evs_nil ?_
    refine ⟨_, rfl, by rw [sizeLine_eq]; exact Nat.le_of_ble_eq_true rfl, fun ex h' thr => ?_⟩
    have fs4 := z.frsNow e hf fs hm4 fs1.nd
    refine leave_first hfr' fs4 thr fun h₂ f => hE _ h ex h₂ _ f (fun h₃ f' => ?_) hcyc
    have kf' := f'.keepF fs4.dicts
    rw [hfa] at kf'
    exact (z.past hm4).kf kf' hLn
end
end Mine
namespace Mine
/-- adds, one after the other -/
noncomputable def addsC (c : List (Int × List Int)) (es : List (Int × Int)) : List (Int × List Int) := es.foldl (fun c e => addC c e.1 e.2) c
theorem addsC_append (c : List (Int × List Int)) (a b : List (Int × Int)) : addsC c (a ++ b) = addsC (addsC c a) b := List.foldl_append ..
structure AddsOk (c : List (Int × List Int)) (k : Nat) : Prop where
  len : c.length ≤ 2 * k
  succ : ∀ e ∈ c, e.2.length ≤ k
  clo : ∀ e ∈ c, ∀ y ∈ e.2, y ∈ c.map (·.1)
theorem ensureC_mem {c : List (Int × List Int)} {k : Int} {e : Int × List Int} (h : e ∈ ensureC c k) : e ∈ c ∨ e = (k, []) := by
  unfold ensureC at h
  split at h
  · exact .inl h
  · rcases List.mem_append.mp h with h | h
    · exact .inl h
    · exact .inr (List.mem_singleton.mp h)
theorem ensureC_len (c : List (Int × List Int)) (k : Int) : (ensureC c k).length ≤ c.length + 1 := by
  unfold ensureC
  split
  · lia
  · simp
theorem ensureC_sub {c : List (Int × List Int)} {k : Int} {e : Int × List Int} (h : e ∈ c) : e ∈ ensureC c k := by
  unfold ensureC
  split
  · exact h
  · exact List.mem_append_left _ h
theorem ensureC_key (c : List (Int × List Int)) (k : Int) : k ∈ (ensureC c k).map (·.1) := by
  unfold ensureC
  split
  · rename_i h
    obtain ⟨e, he, hk⟩ := List.any_eq_true.mp h
    exact List.mem_map.mpr ⟨e, he, eq_of_beq hk⟩
  · simp
theorem addC_keys (c : List (Int × List Int)) (n p : Int) : (addC c n p).map (·.1) = (ensureC (ensureC c n) p).map (·.1) := by
  unfold addC
  rw [List.map_map]
  refine List.map_congr_left fun e _ => ?_
  show (if e.1 = p then (e.1, e.2 ++ [n]) else e).1 = e.1
  split <;> rfl
theorem AddsOk.step {c : List (Int × List Int)} {k : Nat} (x : AddsOk c k) (n p : Int) : AddsOk (addC c n p) (k + 1) := by
  have old : ∀ e ∈ ensureC (ensureC c n) p, e ∈ c ∨ e.2 = [] := fun e he => by
    rcases ensureC_mem he with he | rfl
    · rcases ensureC_mem he with he | rfl
      · exact .inl he
      · exact .inr rfl
    · exact .inr rfl
  have keyc : ∀ y ∈ c.map (·.1), y ∈ (addC c n p).map (·.1) := fun y hy => by
    rw [addC_keys]
    obtain ⟨e, he, rfl⟩ := List.mem_map.mp hy
    exact List.mem_map_of_mem (ensureC_sub (ensureC_sub he))
  have keyn : n ∈ (addC c n p).map (·.1) := by
    rw [addC_keys]
    obtain ⟨e, he, hk⟩ := List.mem_map.mp (ensureC_key c n)
    exact List.mem_map.mpr ⟨e, ensureC_sub he, hk⟩
  refine ⟨?_, fun e he => ?_, fun e he y hy => ?_⟩
  · have h1 := ensureC_len c n
    have h2 := ensureC_len (ensureC c n) p
    have h3 := x.len
    unfold addC
    rw [List.length_map]; lia
  · unfold addC at he
    obtain ⟨e', he', rfl⟩ := List.mem_map.mp he
    have : e'.2.length ≤ k := by
      rcases old e' he' with q | q
      · exact x.succ _ q
      · rw [q]; exact Nat.zero_le _
    split
    · simp; lia
    · lia
  · unfold addC at he
    obtain ⟨e', he', rfl⟩ := List.mem_map.mp he
    have hold : ∀ z ∈ e'.2, z ∈ (addC c n p).map (·.1) := fun z hz => by
      rcases old e' he' with q | q
      · exact keyc z (x.clo _ q z hz)
      · rw [q] at hz; cases hz
    split at hy
    · rcases List.mem_append.mp hy with hy | hy
      · exact hold y hy
      · rw [List.mem_singleton] at hy; subst hy; exact keyn
    · exact hold y hy
theorem addsOk (es : List (Int × Int)) : AddsOk (addsC [] es) es.length := by
  have gen : ∀ (es : List (Int × Int)) c k, AddsOk c k → AddsOk (addsC c es) (k + es.length) := by
    intro es
    induction es with
    | nil => intro c k h; exact h
    | cons e es ih =>
      intro c k h
      have := ih _ _ (h.step e.1 e.2)
      rw [List.length_cons]
      rw [Nat.add_assoc, Nat.add_comm 1] at this
      exact this
  have := gen es [] 0 ⟨Nat.le_refl _, (fun e he => by cases he), (fun e he => by cases he)⟩
  rw [Nat.zero_add] at this
  exact this
/-- the edges that the ring adds at unit i, place j: (to, from) -/
noncomputable def stepE (units : List (List Nat)) (word : List Nat) (i j : Nat) : List (Int × Int) :=
  (if units.getD i [] == [42] then [(20 * (i : Int) + 20 + j, 20 * (i : Int) + j)] else []) ++
  (if units.getD i [] == [42] && decide ((j : Int) < (word.length : Int)) then [(20 * (i : Int) + j + 1, 20 * (i : Int) + j)] else []) ++
  (if (units.getD i [] != [42]) && fitsHit word (units.getD i []) j then [(20 * (i : Int) + 21 + j, 20 * (i : Int) + j)] else [])
noncomputable def rowE (units : List (List Nat)) (word : List Nat) (i n : Nat) : List (Int × Int) := (List.range n).flatMap fun j => stepE units word i j
noncomputable def someE (units : List (List Nat)) (word : List Nat) (n : Nat) : List (Int × Int) := (List.range n).flatMap fun i => rowE units word i (word.length + 1)
noncomputable def allE (units : List (List Nat)) (word : List Nat) : List (Int × Int) := someE units word units.length ++ [(0, 20 * (units.length : Int) + (word.length : Int))]
theorem rowE_succ (units : List (List Nat)) (word : List Nat) (i n : Nat) : rowE units word i (n + 1) = rowE units word i n ++ stepE units word i n := by
  unfold rowE
  rw [List.range_succ, List.flatMap_append, List.flatMap_singleton]
theorem someE_succ (units : List (List Nat)) (word : List Nat) (n : Nat) : someE units word (n + 1) = someE units word n ++ rowE units word n (word.length + 1) := by
  unfold someE
  rw [List.range_succ, List.flatMap_append, List.flatMap_singleton]
theorem stepE_len (units : List (List Nat)) (word : List Nat) (i j : Nat) : (stepE units word i j).length ≤ 3 := by
  unfold stepE
  simp only [List.length_append]
  have h1 : ∀ (b : Bool) (x : Int × Int), (if b then [x] else []).length ≤ 1 := by intro b x; cases b <;> simp
  exact Nat.add_le_add (Nat.add_le_add (h1 _ _) (h1 _ _)) (h1 _ _)
theorem rowE_len (units : List (List Nat)) (word : List Nat) (i n : Nat) : (rowE units word i n).length ≤ 3 * n := by
  induction n with
  | zero => simp [rowE]
  | succ n ih => rw [rowE_succ, List.length_append]; have := stepE_len units word i n; lia
theorem someE_len (units : List (List Nat)) (word : List Nat) (n : Nat) (hw : word.length ≤ 19) : (someE units word n).length ≤ 60 * n := by
  induction n with
  | zero => simp [someE]
  | succ n ih => rw [someE_succ, List.length_append]; have := rowE_len units word n (word.length + 1); lia
theorem cont_len {l : List GN} {es : List (Int × Int)} (h : cont l = addsC [] es) : l.length ≤ 2 * es.length := by
  have := (addsOk es).len
  rw [← h] at this
  simpa [cont] using this
theorem cont_succ_len {l : List GN} {es : List (Int × Int)} (h : cont l = addsC [] es) : ∀ x ∈ l, x.succ.length ≤ es.length := by
  intro x hx
  have hc : (x.node, x.succ) ∈ cont l := List.mem_map_of_mem (f := fun x : GN => (x.node, x.succ)) hx
  rw [h] at hc
  exact (addsOk es).succ _ hc
theorem cont_clo {l : List GN} {es : List (Int × Int)} (h : cont l = addsC [] es) : ∀ x ∈ l, ∀ y ∈ x.succ, y ∈ l.map (·.node) := by
  intro x hx y hy
  have hc : (x.node, x.succ) ∈ cont l := List.mem_map_of_mem (f := fun x : GN => (x.node, x.succ)) hx
  rw [h] at hc
  have := (addsOk es).clo _ hc y hy
  rw [← h] at this
  unfold cont at this
  rw [List.map_map] at this
  exact this
section
variable {w : WK} {A : Around} {E : Value → Shared → Prop} {h₀ : Heap} {g : Array GenState} {d : Drawn} {os : OsState} {l : List Env} {L : Addr} {q : GS}
variable {tk : Nat} {m : Str → Option Value} {n : Led} {h h' : Heap}
theorem Z.notFr {B : Addr → Obj → Prop} (z : Z B L m (q.led w ++ (n ++ frLed l h₀)) h) {b : Addr} (hb : b ∈ q.ads w) : b ∉ fa l := by
  intro hc
  have nd := z.nd
  rw [List.map_append, List.nodup_append] at nd
  exact nd.2.2 b hb b (by rw [List.map_append]; exact List.mem_append_right _ (by rw [frLed_map]; exact hc)) rfl
theorem Z.newAd (z : Z (SbX (fa l) h₀) L m (q.led w ++ (n ++ frLed l h₀)) h) {b : Addr} (hb : b ∈ q.ads w) : h₀.get? b = none := by
  cases e : h₀.get? b with
  | none => rfl
  | some o =>
    obtain ⟨p, hp, rfl⟩ := List.mem_map.mp hb
    exact absurd ⟨z.notFr hb, e⟩ ((z.off p (List.mem_append_left _ hp)).2 o)
theorem Z.gok (z : Z (SbX (fa l) h₀) L m (q.led w ++ (n ++ frLed l h₀)) h) (gw : G w h₀) (lo : NotMod q.nd) (rdy : handedIn q.ready = true) : GOK w q h := by
  refine ⟨fun p hp => z.led p (List.mem_append_left _ hp), ?_, fun b hb => gw.free (z.newAd hb), lo, rdy⟩
  have nd := z.nd
  rw [List.map_append, List.nodup_append] at nd
  exact nd.1
theorem Z.gwF {n' : Led} (z : Z (SbX (fa l) h₀) L m n' h) (hm : ∀ p ∈ frLed l h₀, p ∈ n') (gw : G w h₀) (apt : Apt w l) : G w h := gw.keepF (z.kf hm) apt
inductive PI2 (g : Array GenState) (d : Drawn) (os : OsState) (h : Heap) (v₁ v₂ : Int) (vs : List Value) (s : Shared) : Prop
  | mk (t u : Tok) (tk : Nat) (e1 : vs = [.int v₁ t, .int v₂ u]) (e : s = ⟨h, g, d, tk, os⟩)
/-- sorter.add(e₁, e₂), as a statement -/
theorem x_radd {env : Env} {names gl : List Str} {vals : List (Option Value)} {e₁ e₂ : Expr} {x : Str} {px apos cpos pos : Pos} {Q : Flow → Shared → Prop} (e : EnvL env L names gl) (z : Z (SbX (fa l) h₀) L (fr names vals) (q.led w ++ (n ++ frLed l h₀)) h) (gw : G w h₀) (apt : Apt w l) (ag : AG 7 A)
    (ix : Nat) (hx : names[ix]? = some x) (hv : vals[ix]? = some (some (.ref q.s))) (lo : NotMod q.nd) (hr : q.ready = .none) (hlen : q.nodes.length ≤ 2900) (hsl : ∀ x ∈ q.nodes, x.succ.length ≤ 3000) (v₁ v₂ : Int)
    (k : wpAny (model PP w.w) A (evs env [e₁, e₂]) (PI2 g d os h v₁ v₂) E ⟨h, g, d, tk, os⟩)
    (kk : ∀ h' tk' (q' : GS), cont q'.nodes = addC (cont q.nodes) v₁ v₂ → q'.s = q.s → q'.ready = .none → NotMod q'.nd → Z (SbX (fa l) h₀) L (fr names vals) (q'.led w ++ (n ++ frLed l h₀)) h' → Q .next ⟨h', g, d, tk', os⟩)
    (h0 : swapsWith (.Call (.Attribute (.Name x px) (Str.ofString "add") apos) [e₁, e₂] [] cpos) none pos.line env = pure false := by rfl)
    (hs : backTo cpos (starEach [e₁, e₂] env) = [e₁, e₂].map fun e => (false, eval e env) := by rfl)
    (hp : (apos.endLine == cpos.line) = true := by rfl) :
    wpAny (model PP w.w) A (exec (.Expr (.Call (.Attribute (.Name x px) (Str.ofString "add") apos) [e₁, e₂] [] cpos) pos) env) Q E ⟨h, g, d, tk, os⟩ := by
  have hfl : ∀ p ∈ frLed l h₀, p ∈ q.led w ++ (n ++ frLed l h₀) := fun p hp => List.mem_append_right _ (List.mem_append_right _ hp)
  refine wpAny_Expr_any ?_ (by unfold interactive; rw [e.kind]; rfl) h0
  refine x_smeth (w := w) (f := 149) w.need.fm149 w.need.ty149 (by decide +kernel) ?_ hs rfl rfl hp
  refine x_loc e z ix hx hv ?_
  refine ⟨_, _, _, _, _, _, _, _, rfl, rfl, z.gwF hfl gw apt, z.get 0 rfl, z.get 1 rfl, ?_⟩
  refine wpAny_mono k (fun vs s q1 => ?_) fun _ _ e => e
  obtain ⟨t, u, tk₂, rfl, rfl⟩ := q1
  refine ⟨fn_at (z.gwF hfl gw apt) w.need.f149, ?_⟩
  refine add_call (z.gwF hfl gw apt) ag q (z.gok gw lo (by rw [hr]; rfl)) hr hlen hsl v₁ v₂ t u fun h' tk' q' c s r mv => ?_
  exact kk h' tk' q' c s r mv.ok.lo (z.after mv)
theorem Z.thenPast {env : Env} {h'' : Heap} (z : Z (SbX (fa l) h₀) L m (q.led w ++ (n ++ frLed l h₀)) h) (hfa : fa (env :: l) = L :: fa l) (p : Past w q (env :: l) h h'') : KeepF (fa l) h₀ h'' := by
  refine ⟨fun b o hb e => p.off b o (fun c => ?_) (fun c => ?_) (z.keep b o ⟨hb, e⟩), fun b o hb e => ?_⟩
  · rw [z.newAd c] at e; cases e
  · rw [hfa] at c
    rcases List.mem_cons.mp c with rfl | c
    · exact z.apart o ⟨hb, e⟩
    · exact hb c
  · obtain ⟨sl, e1⟩ := (z.kf fun p hp => List.mem_append_right _ (List.mem_append_right _ hp)).on b o hb e
    obtain ⟨sl', e2⟩ := p.on b _ (by rw [hfa]; exact List.mem_cons_of_mem _ hb) e1
    exact ⟨sl', e2⟩
end
end Mine
namespace Mine
section
variable {w : WK} {A : Around} {E : Value → Shared → Prop} {h₀ : Heap} {g : Array GenState} {d : Drawn} {os : OsState}
variable {tk : Nat}
noncomputable def RN : List Str := [Str.ofString "units", Str.ofString "word"] ++ [Str.ofString "sorter", Str.ofString "i", Str.ofString "j"]
theorem scC_key {c : List (Int × List Int)} {a b : Int} (h : b ∈ scC c a) : a ∈ c.map (·.1) := by
  unfold scC at h
  induction c with
  | nil => cases h
  | cons e c ih =>
    rw [List.lookup_cons] at h
    rw [List.map_cons]
    split at h
    · rename_i hq
      exact List.mem_cons.mpr (.inl (eq_of_beq hq))
    · exact List.mem_cons_of_mem _ (ih h)
theorem path_key {c : List (Int × List Int)} {a b : Int} (p : Path (scC c) a b) : a ∈ c.map (·.1) := by
  cases p with
  | one h => exact scC_key h
  | step h _ => exact scC_key h
section
variable {M : Model} {A : Around} {E : Value → Shared → Prop} {g : Array GenState} {d : Drawn} {os : OsState} {env : Env}
variable {h : Heap} {tk : Nat}
/-- x and y and z, as a test, in one -/
theorem y_and3 {x y z : Expr} {pos : Pos} {whole : Sem Value} {a b c : Bool} {Q : Bool → Shared → Prop} (kx : Gv M A E g d os (PySem.isTrue x env (eval x env)) h a)
    (ky : a = true → ∀ h1, Keep h h1 → Gv M A E g d os (PySem.isTrue y env (eval y env)) h1 b) (kz : b = true → ∀ h1, Keep h h1 → Gv M A E g d os (PySem.isTrue z env (eval z env)) h1 c) (k : ∀ h' tk', Keep h h' → Q (a && (b && c)) ⟨h', g, d, tk', os⟩) :
    wpAny M A (PySem.isTrue (.BoolOp .And [x, y, z] pos) env whole) Q E ⟨h, g, d, tk, os⟩ := by
  refine wpAny_isTrue_BoolOp (y_and (kx _ tk fun h1 tk1 k1 => ?_))
  cases a with
  | true =>
    refine y_and (ky rfl h1 k1 _ _ fun h2 tk2 k2 => ?_)
    cases b with
    | true =>
      refine y_and (kz rfl h2 (k1.trans k2) _ _ fun h3 tk3 k3 => ?_)
      cases c with
      | true => exact wpAny_allTrue_And_nil (k h3 tk3 ((k1.trans k2).trans k3))
      | false => exact k h3 tk3 ((k1.trans k2).trans k3)
    | false => exact k h2 tk2 (k1.trans k2)
  | false => exact k h1 tk1 k1
end
/-- what a turn of the ring keeps -/
inductive RJ (s0 : Addr) (c : List (Int × List Int)) (q : GS) : Prop
  | mk (j1 : q.s = s0) (j2 : q.ready = .none) (j3 : NotMod q.nd) (j4 : cont q.nodes = c)
inductive Rs (w : WK) (l : List Env) (h₀ : Heap) (L s0 : Addr) (vals : List (Option Value)) (n : Led) (es : List (Int × Int)) (h : Heap) : Prop
  | mk (q : GS) (j : RJ s0 (addsC [] es) q) (z : Z (SbX (fa l) h₀) L (fr RN vals) (q.led w ++ (n ++ frLed l h₀)) h)
noncomputable def addIf (b : Bool) (v₁ v₂ : Int) : List (Int × Int) := if b then [(v₁, v₂)] else []
theorem addIf_len (b : Bool) (v₁ v₂ : Int) : (addIf b v₁ v₂).length ≤ 1 := by cases b <;> simp [addIf]
/-- if test: sorter.add(e₁, e₂) -/
theorem ring_if {env : Env} {gl : List Str} {L s0 : Addr} {l : List Env} (e : EnvL env L RN gl) (gw : G w h₀) (apt : Apt w l) (ag : AG 7 A) {vals : List (Option Value)} (hv : vals[2]? = some (some (.ref s0))) {n : Led} {es : List (Int × Int)} {h : Heap} (r : Rs w l h₀ L s0 vals n es h) (hlen : es.length ≤ 1300)
    {test e₁ e₂ : Expr} {px apos cpos pos pos' : Pos} {rest : List Stmt} {Q : Flow → Shared → Prop} (b : Bool) (v₁ v₂ : Int)
    (kt : ∀ n', Z (SbX (fa l) h₀) L (fr RN vals) n' h → (∀ p ∈ frLed l h₀, p ∈ n') → Gv (model PP w.w) A E g d os (PySem.isTrue test env (eval test env)) h b)
    (ke : ∀ n' h' tk', Z (SbX (fa l) h₀) L (fr RN vals) n' h' → wpAny (model PP w.w) A (evs env [e₁, e₂]) (PI2 g d os h' v₁ v₂) E ⟨h', g, d, tk', os⟩)
    (k : ∀ h' tk', Rs w l h₀ L s0 vals n (es ++ addIf b v₁ v₂) h' → wpAny (model PP w.w) A (execs rest env) Q E ⟨h', g, d, tk', os⟩)
    (h0 : swapsWith (.Call (.Attribute (.Name (Str.ofString "sorter") px) (Str.ofString "add") apos) [e₁, e₂] [] cpos) none pos'.line env = pure false := by rfl)
    (hs : backTo cpos (starEach [e₁, e₂] env) = [e₁, e₂].map fun e => (false, eval e env) := by rfl)
    (hp : (apos.endLine == cpos.line) = true := by rfl) :
    wpAny (model PP w.w) A (execs (.If test [.Expr (.Call (.Attribute (.Name (Str.ofString "sorter") px) (Str.ofString "add") apos) [e₁, e₂] [] cpos) pos'] [] pos :: rest) env) Q E ⟨h, g, d, tk, os⟩ := by
  obtain ⟨q, ⟨j1, j2, j3, j4⟩, z⟩ := r
  have hm : ∀ p ∈ frLed l h₀, p ∈ q.led w ++ (n ++ frLed l h₀) := fun p hp => List.mem_append_right _ (List.mem_append_right _ hp)
  have c1 := cont_len j4
  have c2 := cont_succ_len j4
  refine y_cons (y_if (kt _ z hm _ _ fun h' tk' kp => ?_))
  replace z := z.keepAll kp
  cases b with
  | true =>
    refine ite_t (y_cons (x_radd e z gw apt ag 2 rfl (by rw [j1]; exact hv) j3 j2 (by lia) (fun x hx => Nat.le_trans (c2 x hx) (by lia)) v₁ v₂ (ke _ _ _ z) (fun h tk q' c s r lo z => ?_) h0 hs hp))
    exact wpAny_execs_nil (k _ _ ⟨q', ⟨s.trans j1, r, lo, by rw [c, j4]; exact (addsC_append [] es [(v₁, v₂)]).symm⟩, z⟩)
  | false => exact ite_f (wpAny_execs_nil (k _ _ ⟨q, ⟨j1, j2, j3, by rw [j4]; exact congrArg _ (List.append_nil _).symm⟩, z⟩))
theorem stepE_is (units : List (List Nat)) (word : List Nat) (i j : Nat) : stepE units word i j = addIf (units.getD i [] == [42]) (20 * (i : Int) + 20 + j) (20 * (i : Int) + j) ++ (addIf (units.getD i [] == [42] && decide ((j : Int) < (word.length : Int))) (20 * (i : Int) + j + 1) (20 * (i : Int) + j) ++
    addIf ((units.getD i [] != [42]) && (decide ((j : Int) < (word.length : Int)) && (units.getD i [] == [63] || [(units.getD i []).getLastD 0] == [word.getD (j : Int).toNat 0]))) (20 * (i : Int) + 21 + j) (20 * (i : Int) + j)) := by
  unfold stepE addIf fitsHit
  rw [List.append_assoc]
/-- the ring's graph -/
noncomputable def ringC (units : List (List Nat)) (word : List Nat) : List (Int × List Int) := addsC [] (allE units word)
theorem ring_call (gw : G w h₀) (ag : AG 9 A) (units : List (List Nat)) (word : List Nat) (au : Addr) (tw : Tok) (hu : ∃ o, h₀.get? au = some o ∧ SLst units o) (hul : units.length ≤ 20) (hw : word.length ≤ 19) (hne₀ : ∀ u ∈ units, u ≠ [])
    (hul2 : ∀ u ∈ units, u.length ≤ 1000) (l : List Env) (hfr : A.frames = some l) (fs : Frs l h₀) (apt : Apt w l) {Q : Value → Shared → Prop}
    (hQ : ∀ h' tk' b, KeepF (fa l) h₀ h' → (b = true ↔ ∃ k, Path (scC (ringC units word)) k k) → Q (.bool b) ⟨h', g, d, tk', os⟩) :
    wpAny (model PP w.w) A (call (.ref 222) [.ref au, .str (S word) tw]) Q E ⟨h₀, g, d, tk, os⟩ := by
  refine x_callG (a := 222) (ks := [Str.ofString "units", Str.ofString "word"]) (rest := [Str.ofString "sorter", Str.ofString "i", Str.ofString "j"]) (gl := [Str.ofString "TopologicalSorter", Str.ofString "range", Str.ofString "len", Str.ofString "CycleError"])
    ⟨w.need.f222.look, w.need.f222.code, rfl, rfl, rfl, rfl, by decide +kernel, by decide +kernel, by decide +kernel, by decide +kernel, rfl, rfl⟩ gw ag (bind_eq rfl ⟨h₀, tk, [.ref au, .str (S word) tw], rfl, Keep.refl _, rfl, rfl, fun env L h₁ tk₁ e hf ag' z => ?_⟩)
  have fs1 := z.frs e hf fs
  have apt1 := z.apt hf gw apt
  have hfr' : (A.deeper env).frames = some (env :: l) := Around.frames_deeper hfr
  have hfa : fa (env :: l) = L :: fa l := by unfold fa; rw [List.filterMap_cons, hf]
  obtain ⟨ou, hou, us, husA, husL⟩ := hu
  have hau : au ∉ fa l := by
    intro hc
    obtain ⟨es, ep, hd⟩ := fs.dicts au hc ou hou
    obtain ⟨n, rfl⟩ := husL
    cases hd
  have husl : us.length = units.length := by rw [strs_len husA, List.length_map]
  replace z := (z.claims (g := frLed l h₀) (frLed_holds fs) (by rw [frLed_map]; exact fs.nd))
  rw [frLed_map] at z
  have hw5 : word.length ≤ 100000 := Nat.le_trans hw (by decide)
  have usOf : ∀ {m n h}, Z (SbX (fa l) h₀) L m n h → ∃ o, h.get? au = some o ∧ LstO us o := fun z => ⟨ou, z.keep _ _ ⟨hau, hou⟩, husL⟩
  refine y_cons ?_
  refine x_asg (B := SbX (fa l) h₀) (g := g) (d := d) (os := os) e 2 rfl ?_
  refine x_ccall (mk199 w) ?_
  refine x_glob e (z.gwF (fun p hp => hp) gw apt) 0 rfl (gv_TopologicalSorter w) ?_
  refine ⟨rfl, ?_⟩
  refine evs_nil ?_
  refine ⟨(z.gwF (fun p hp => hp) gw apt).K, ?_⟩
  refine snew_call (z.gwF (fun p hp => hp) gw apt) (ag'.le (by lia)) fun h tk q0 hq0 hr0 ok0 k0 new0 => ?_
  replace z := z.adds k0 ok0.hold ok0.nd new0
  refine ⟨_, _, _, _, rfl, z, Nat.le_of_ble_eq_true rfl, fun h tk z₁ => ?_⟩
  clear z; rename Z _ _ _ _ _ => z
  have hc0 : cont q0.nodes = addsC [] (someE units word 0) := by rw [hq0]; rfl
  have lo0 := ok0.lo
  clear ok0 new0 k0
  generalize hs0 : q0.s = s0 at z
  have z0 : Z (SbX (fa l) h₀) L (fr RN [some (.ref au), some (.str (S word) tw), some (.ref s0), none, none]) (q0.led w ++ frLed l h₀) h := z
  clear z
  have z := z0
  clear z0
  refine y_cons ?_
  refine wpAny_For ?_
  refine x_tcall (T := "range") ?_
  refine x_glob e (z.gwF (fun p hp => List.mem_append_right _ hp) gw apt) 1 rfl (gv_range w) ?_
  refine ⟨rfl, ?_⟩
  refine evs_cons ?_
  refine x_bcall (id := "len") ?_
  refine x_glob e (z.gwF (fun p hp => List.mem_append_right _ hp) gw apt) 2 rfl (gv_len w) ?_
  refine ⟨rfl, ?_⟩
  refine evs_cons ?_
  refine x_loc e z 0 rfl rfl ?_
  refine evs_nil ?_
  refine x_len_list (usOf z) (by lia) fun _ _ => ?_
  rw [husl]
  refine evs_nil ?_
  refine x_range1 fun r h tk kr hr hro => ?_
  replace z := z.keepAll kr
  refine x_iter_range hro (by lia) (by lia) fun I h kI hI hIt => ?_
  replace z := z.add kI hI hIt.choose_spec.1 hIt.choose_spec.2
  have hcnt : ((units.length : Int) - 0).toNat = units.length := rfl
  rw [hcnt] at z
  refine x_forG (R := fun r s' => match r with | .ok f => _ | .error e => _) (A := A.deeper env) (names := RN) (iter_range ag'.hh I 0 units.length) (σ := GS × Option Value × Option Value)
    (fun i st => RJ s0 (addsC [] (someE units word i)) st.1) (fun i st => [some (.ref au), some (.str (S word) tw), some (.ref s0), st.2.1, st.2.2]) (fun i st => st.1.led w ++ frLed l h₀) (fun _ _ => g) (q0, none, none)
    ⟨hs0, hr0, lo0, hc0⟩ z (fun _ _ _ _ _ => trivial) ?_ ?_
  · clear z hIt kI hI hro kr hr
    intro i st v h tk hi hv j0 z
    obtain ⟨q, iv, jv⟩ := st
    obtain ⟨ti, rfl⟩ := hv
    rw [Int.zero_add]
    refine x_stoName e z 3 rfl (Nat.le_of_ble_eq_true rfl) fun h tk z₁ _ => ?_
    have z2 : Z (SbX (fa l) h₀) L (fr RN [some (.ref au), some (.str (S word) tw), some (.ref s0), some (.int (i : Int) ti), jv]) ((I, RangeIt 0 units.length (i + 1)) :: (q.led w ++ frLed l h₀)) h := z₁
    clear z z₁
    refine absQ fun Qb0 hb0 => ?_
    have hm2 : ∀ p ∈ frLed l h₀, p ∈ (I, RangeIt 0 units.length (i + 1)) :: (q.led w ++ frLed l h₀) := fun p hp => List.mem_cons_of_mem _ (List.mem_append_right _ hp)
    refine y_cons ?_
    refine wpAny_For ?_
    refine x_tcall (T := "range") ?_
    refine x_glob e (z2.gwF hm2 gw apt) 1 rfl (gv_range w) ?_
    refine ⟨rfl, ?_⟩
    refine evs_cons ?_
    refine y_bin ?_
    refine x_bcall (id := "len") ?_
    refine x_glob e (z2.gwF hm2 gw apt) 2 rfl (gv_len w) ?_
    refine ⟨rfl, ?_⟩
    refine evs_cons ?_
    refine x_loc e z2 1 rfl rfl ?_
    refine evs_nil ?_
    refine x_len_str hw5 fun _ _ => ?_
    refine x_int fun _ _ => ?_
    refine x_add fun _ _ => ?_
    refine evs_nil ?_
    refine x_range1 fun r h tk kr hr hro => ?_
    replace z2 := z2.keepAll kr
    refine x_iter_range hro (by decide) (by lia) fun J h kJ hJ hJt => ?_
    replace z2 := z2.add kJ hJ hJt.choose_spec.1 hJt.choose_spec.2
    have hcnt2 : ((word.length : Int) + 1 - 0).toNat = word.length + 1 := rfl
    rw [hcnt2] at z2
    have hui : ∃ t, us[i]? = some (.str (S (units.getD i [])) t) := strs_get husA (i := i) (by rw [List.getElem?_map, List.getElem?_eq_getElem hi]; simp [List.getD, List.getElem?_eq_getElem hi])
    have hmu : units.getD i [] ∈ units := by rw [show units.getD i [] = units[i] by simp [List.getD, List.getElem?_eq_getElem hi]]; exact List.getElem_mem hi
    have hu0 : units.getD i [] ≠ [] := hne₀ _ hmu
    have hu1 : (units.getD i []).length ≤ 1000 := hul2 _ hmu
    obtain ⟨tu, hui⟩ := hui
    have hi5 : i ≤ 100000 := Nat.le_trans (Nat.le_of_lt hi) (Nat.le_trans hul (by decide))
    have hes : (someE units word i).length ≤ 1200 := Nat.le_trans (someE_len units word i hw) (Nat.le_trans (Nat.mul_le_mul_left 60 (Nat.le_trans (Nat.le_of_lt hi) hul)) (by decide))
    refine x_forG (R := fun r s' => match r with | .ok f => _ | .error e => _) (A := A.deeper env) (names := RN) (iter_range ag'.hh J 0 (word.length + 1)) (σ := GS × Option Value)
      (fun j st => RJ s0 (addsC [] (someE units word i ++ rowE units word i j)) st.1) (fun _ st => [some (.ref au), some (.str (S word) tw), some (.ref s0), some (.int (i : Int) ti), st.2]) (fun _ st => (I, RangeIt 0 units.length (i + 1)) :: (st.1.led w ++ frLed l h₀)) (fun _ _ => g) (q, jv)
      (by rw [show rowE units word i 0 = [] from rfl, List.append_nil]; exact j0) z2 (fun _ _ _ _ _ => trivial) ?_ ?_
    · clear z2 hJt kJ hJ hro kr hr hm2 j0 q hb0
      intro j st v h tk hj hv j0 z
      obtain ⟨q, jv⟩ := st
      obtain ⟨tj, rfl⟩ := hv
      rw [Int.zero_add]
      refine x_stoName e z 4 rfl (Nat.le_of_ble_eq_true rfl) fun h tk z₁ _ => ?_
      refine absQ fun Qb1 hb1 => ?_
      have r0 : Rs w l h₀ L s0 [some (.ref au), some (.str (S word) tw), some (.ref s0), some (.int (i : Int) ti), some (.int (j : Int) tj)] [(J, RangeIt 0 (word.length + 1) (j + 1)), (I, RangeIt 0 units.length (i + 1))] (someE units word i ++ rowE units word i j) h := ⟨q, j0, z₁.perm (List.perm_append_comm_assoc ..)⟩
      clear z z₁ j0
      have hb : (someE units word i ++ rowE units word i j).length ≤ 1260 := by
        have := rowE_len units word i j
        rw [List.length_append]; lia
      refine ring_if e gw apt (ag'.le (by decide)) rfl r0 (Nat.le_trans hb (by decide)) (units.getD i [] == [42]) (20 * (i : Int) + 20 + j) (20 * (i : Int) + j) (fun n' z hm Q1 tk q => ?_) (fun n' h' tk' z => ?_) fun h tk r1 => ?_
      · refine y_tcmp ?_
        refine y_sub ?_
        refine x_loc e z 0 rfl rfl ?_
        refine x_loc e z 3 rfl rfl ?_
        refine x_itemN (usOf z) hi5 hui (by with_unfolding_all rfl) ?_
        refine x_str [42] (by decide +kernel) fun _ _ => ?_
        refine x_eqs ?_
        refine x_truthy ?_
        exact q _ _ (Keep.refl _)
      · refine evs_cons ?_
        refine y_bin ?_
        refine y_bin ?_
        refine y_bin ?_
        refine x_int fun _ _ => ?_
        refine x_loc e z 3 rfl rfl ?_
        refine x_mul (.of_left (by decide +kernel)) fun _ _ => ?_
        refine x_int fun _ _ => ?_
        refine x_add fun _ _ => ?_
        refine x_loc e z 4 rfl rfl ?_
        refine x_add fun _ _ => ?_
        refine evs_cons ?_
        refine y_bin ?_
        refine y_bin ?_
        refine x_int fun _ _ => ?_
        refine x_loc e z 3 rfl rfl ?_
        refine x_mul (.of_left (by decide +kernel)) fun _ _ => ?_
        refine x_loc e z 4 rfl rfl ?_
        refine x_add fun _ _ => ?_
        refine evs_nil ?_
        exact ⟨_, _, _, rfl, rfl⟩
      clear r0
      refine ring_if e gw apt (ag'.le (by decide)) rfl r1 (by rw [List.length_append]; exact Nat.le_trans (Nat.add_le_add hb (addIf_len _ _ _)) (by decide)) (units.getD i [] == [42] && decide ((j : Int) < (word.length : Int))) (20 * (i : Int) + j + 1) (20 * (i : Int) + j) (fun n' z hm Q1 tk q => ?_) (fun n' h' tk' z => ?_) fun h tk r2 => ?_
      · refine y_and2 (g := g) (fun Q1 tk q => ?_) (fun _ h1 k1 Q1 tk q => ?_) q
        · refine y_tcmp ?_
          refine y_sub ?_
          refine x_loc e z 0 rfl rfl ?_
          refine x_loc e z 3 rfl rfl ?_
          refine x_itemN (usOf z) hi5 hui (by with_unfolding_all rfl) ?_
          refine x_str [42] (by decide +kernel) fun _ _ => ?_
          refine x_eqs ?_
          refine x_truthy ?_
          exact q _ _ (Keep.refl _)
        · replace z := z.keepAll k1
          refine y_tcmp ?_
          refine x_loc e z 4 rfl rfl ?_
          refine x_bcall (id := "len") ?_
          refine x_glob e (z.gwF hm gw apt) 2 rfl (gv_len w) ?_
          refine ⟨rfl, ?_⟩
          refine evs_cons ?_
          refine x_loc e z 1 rfl rfl ?_
          refine evs_nil ?_
          refine x_len_str hw5 fun _ _ => ?_
          refine x_lti ?_
          refine x_truthy ?_
          exact q _ _ (Keep.refl _)
      · refine evs_cons ?_
        refine y_bin ?_
        refine y_bin ?_
        refine y_bin ?_
        refine x_int fun _ _ => ?_
        refine x_loc e z 3 rfl rfl ?_
        refine x_mul (.of_left (by decide +kernel)) fun _ _ => ?_
        refine x_loc e z 4 rfl rfl ?_
        refine x_add fun _ _ => ?_
        refine x_int fun _ _ => ?_
        refine x_add fun _ _ => ?_
        refine evs_cons ?_
        refine y_bin ?_
        refine y_bin ?_
        refine x_int fun _ _ => ?_
        refine x_loc e z 3 rfl rfl ?_
        refine x_mul (.of_left (by decide +kernel)) fun _ _ => ?_
        refine x_loc e z 4 rfl rfl ?_
        refine x_add fun _ _ => ?_
        refine evs_nil ?_
        exact ⟨_, _, _, rfl, rfl⟩
      clear r1
      refine ring_if e gw apt (ag'.le (by decide)) rfl r2 (by rw [List.length_append, List.length_append]; exact Nat.le_trans (Nat.add_le_add (Nat.add_le_add hb (addIf_len _ _ _)) (addIf_len _ _ _)) (by decide))
        ((units.getD i [] != [42]) && (decide ((j : Int) < (word.length : Int)) && (units.getD i [] == [63] || [(units.getD i []).getLastD 0] == [word.getD (j : Int).toNat 0]))) (20 * (i : Int) + 21 + j) (20 * (i : Int) + j) (fun n' z hm Q1 tk q => ?_) (fun n' h' tk' z => ?_) fun h tk r3 => ?_
      · refine y_and3 (g := g) (fun Q1 tk q => ?_) (fun _ h1 k1 Q1 tk q => ?_) (fun hjw h1 k1 Q1 tk q => ?_) q
        · refine y_tcmp ?_
          refine y_sub ?_
          refine x_loc e z 0 rfl rfl ?_
          refine x_loc e z 3 rfl rfl ?_
          refine x_itemN (usOf z) hi5 hui (by with_unfolding_all rfl) ?_
          refine x_str [42] (by decide +kernel) fun _ _ => ?_
          refine x_nes ?_
          refine x_truthy ?_
          exact q _ _ (Keep.refl _)
        · replace z := z.keepAll k1
          refine y_tcmp ?_
          refine x_loc e z 4 rfl rfl ?_
          refine x_bcall (id := "len") ?_
          refine x_glob e (z.gwF hm gw apt) 2 rfl (gv_len w) ?_
          refine ⟨rfl, ?_⟩
          refine evs_cons ?_
          refine x_loc e z 1 rfl rfl ?_
          refine evs_nil ?_
          refine x_len_str hw5 fun _ _ => ?_
          refine x_lti ?_
          refine x_truthy ?_
          exact q _ _ (Keep.refl _)
        · replace z := z.keepAll k1
          refine y_or2 (g := g) (fun Q1 tk q => ?_) (fun _ h1 k1 Q1 tk q => ?_) q
          · refine y_tcmp ?_
            refine y_sub ?_
            refine x_loc e z 0 rfl rfl ?_
            refine x_loc e z 3 rfl rfl ?_
            refine x_itemN (usOf z) hi5 hui (by with_unfolding_all rfl) ?_
            refine x_str [63] (by decide +kernel) fun _ _ => ?_
            refine x_eqs ?_
            refine x_truthy ?_
            exact q _ _ (Keep.refl _)
          · replace z := z.keepAll k1
            refine y_tcmp ?_
            refine y_sub ?_
            refine y_sub ?_
            refine x_loc e z 0 rfl rfl ?_
            refine x_loc e z 3 rfl rfl ?_
            refine x_itemN (usOf z) hi5 hui (by with_unfolding_all rfl) ?_
            refine y_un ?_
            refine x_int fun _ _ => ?_
            refine x_neg1 fun _ _ => ?_
            refine x_sign (le_big hu1) (last_sign hu0) (by with_unfolding_all rfl) fun _ _ => ?_
            refine y_sub ?_
            refine x_loc e z 1 rfl rfl ?_
            refine x_loc e z 4 rfl rfl ?_
            refine x_sign hw5 (at_sign (Int.natCast_nonneg j) (of_decide_eq_true hjw)) (by with_unfolding_all rfl) fun _ _ => ?_
            refine x_eqs ?_
            refine x_truthy ?_
            exact q _ _ (Keep.refl _)
      · refine evs_cons ?_
        refine y_bin ?_
        refine y_bin ?_
        refine y_bin ?_
        refine x_int fun _ _ => ?_
        refine x_loc e z 3 rfl rfl ?_
        refine x_mul (.of_left (by decide +kernel)) fun _ _ => ?_
        refine x_int fun _ _ => ?_
        refine x_add fun _ _ => ?_
        refine x_loc e z 4 rfl rfl ?_
        refine x_add fun _ _ => ?_
        refine evs_cons ?_
        refine y_bin ?_
        refine y_bin ?_
        refine x_int fun _ _ => ?_
        refine x_loc e z 3 rfl rfl ?_
        refine x_mul (.of_left (by decide +kernel)) fun _ _ => ?_
        refine x_loc e z 4 rfl rfl ?_
        refine x_add fun _ _ => ?_
        refine evs_nil ?_
        exact ⟨_, _, _, rfl, rfl⟩
      clear r2
      refine wpAny_execs_nil ?_
      obtain ⟨q3, ⟨a1, a2, a3, a4⟩, z5⟩ := r3
      refine hb1 .next _ ⟨(q3, some (.int (j : Int) tj)), h, tk, rfl, ⟨a1, a2, a3, ?_⟩, z5.perm (List.perm_append_comm_assoc [(J, RangeIt 0 (word.length + 1) (j + 1)), (I, RangeIt 0 units.length (i + 1))] (q3.led w) (frLed l h₀))⟩
      rw [a4, rowE_succ, stepE_is, List.append_assoc, List.append_assoc, List.append_assoc]
    · intro st h tk j0 z
      obtain ⟨q', jv'⟩ := st
      refine wpAny_execs_nil ?_
      exact hb0 .next _ ⟨(q', some (.int (i : Int) ti), jv'), h, tk, rfl, by rw [someE_succ]; exact j0, z⟩
  intro st h tk j0 z
  obtain ⟨q, iv, jv⟩ := st
  obtain ⟨j1, j2, j3, j4⟩ := j0
  dsimp only at j1 j2 j3 j4
  have hb0 := someE_len units word units.length hw
  have hfl : ∀ p ∈ frLed l h₀, p ∈ q.led w ++ ([] ++ frLed l h₀) := fun p hp => List.mem_append_right _ hp
  have z2 : Z (SbX (fa l) h₀) L (fr RN [some (.ref au), some (.str (S word) tw), some (.ref s0), iv, jv]) (q.led w ++ ([] ++ frLed l h₀)) h := z
  clear z
  refine y_cons ?_
  refine x_radd e z2 gw apt (ag'.le (by lia)) 2 rfl (by rw [j1]; rfl) j3 j2 (by have := cont_len j4; lia) (fun x hx => by have := cont_succ_len j4 x hx; lia) 0 (20 * (units.length : Int) + (word.length : Int)) ?_ fun h tk q1 c1 s1 r1 lo1 z3 => ?_
  · refine evs_cons ?_
    refine x_int fun _ _ => ?_
    refine evs_cons ?_
    refine y_bin ?_
    refine y_bin ?_
    refine x_int fun _ _ => ?_
    refine x_bcall (id := "len") ?_
    refine x_glob e (z2.gwF hfl gw apt) 2 rfl (gv_len w) ?_
    refine ⟨rfl, ?_⟩
    refine evs_cons ?_
    refine x_loc e z2 0 rfl rfl ?_
    refine evs_nil ?_
    refine x_len_list (usOf z2) (by lia) fun _ _ => ?_
    rw [husl]
    refine x_mul (.of_left (by decide +kernel)) fun _ _ => ?_
    refine x_bcall (id := "len") ?_
    refine x_glob e (z2.gwF hfl gw apt) 2 rfl (gv_len w) ?_
    refine ⟨rfl, ?_⟩
    refine evs_cons ?_
    refine x_loc e z2 1 rfl rfl ?_
    refine evs_nil ?_
    refine x_len_str (by lia) fun _ _ => ?_
    refine x_add fun _ _ => ?_
    refine evs_nil ?_
    exact ⟨_, _, _, rfl, rfl⟩
  clear z2
  have c2 : cont q1.nodes = ringC units word := by
    rw [c1, j4]
    unfold ringC allE
    rw [addsC_append]; rfl
  have hal : (allE units word).length ≤ 1201 := by unfold allE; rw [List.length_append, List.length_cons, List.length_nil]; lia
  have hfl1 : ∀ p ∈ frLed l h₀, p ∈ q1.led w ++ ([] ++ frLed l h₀) := fun p hp => List.mem_append_right _ hp
  have gw3 := z3.gwF hfl1 gw apt
  have fs3 := z3.frsNow e hf fs hfl1 fs1.nd
  have dis3 : ∀ b ∈ q1.ads w, b ∉ fa (env :: l) := by
    intro b hb hc
    rw [hfa] at hc
    rcases List.mem_cons.mp hc with rfl | hc
    · obtain ⟨p, hp, rfl⟩ := List.mem_map.mp hb
      exact (z3.off p (List.mem_append_left _ hp)).1 rfl
    · exact z3.notFr hb hc
  refine y_cons ?_
  refine x_tryC (w := w) e hf 3 rfl (gv_CycleError w) hfr' (qc117 w) (by decide +kernel) ?_
  refine y_cons ?_
  refine wpAny_Expr_any ?_ (by unfold interactive; rw [e.kind]; rfl) (by rfl)
  refine x_smeth (w := w) (f := 154) w.need.fm154 w.need.ty154 (by decide +kernel) ?_
  refine x_loc e z3 2 rfl rfl ?_
  have s2 : s0 = q1.s := (s1.trans j1).symm
  rw [s2]
  refine ⟨_, _, _, _, _, _, _, _, rfl, rfl, gw3, z3.get 0 rfl, z3.get 1 rfl, ?_⟩
  refine evs_nil ?_
  refine ⟨fn_at gw3 w.need.f154, ?_⟩
  refine prepare_call gw3 (ag'.le (by lia)) q1 r1 (z3.gok gw lo1 (by rw [r1]; rfl)) (env :: l) hfr' fs3 apt1 dis3 (by have := cont_len c2; lia) (fun x hx => by have := cont_succ_len c2 x hx; lia) (cont_clo c2) (fun h₂ tk₂ past hno => ?_) fun X hx ex h₂ tk₂ fly past hcyc => ?_
  · skip
    refine wpAny_execs_nil ?_
    refine y_cons ?_
    refine y_ret ?_
    refine x_bool ?_
    refine hQ h₂ _ false (z3.thenPast hfa past) ⟨fun c => (Bool.false_ne_true c).elim, ?_⟩
    rintro ⟨k, p⟩
    rw [← c2] at p
    have hk := path_key p
    unfold cont at hk
    rw [List.map_map] at hk
    exact (hno k hk p).elim
  · refine ⟨X, ex, hx, h₂, g, d, tk₂, os, rfl, rfl, fly, fun h₃ f => ?_, fun h₃ tk₃ f => ?_⟩
    · exact (past h₃ f).gw gw3 (z3.gok gw lo1 (by rw [r1]; rfl)).free apt1
    · refine y_cons ?_
      refine y_ret ?_
      refine x_bool ?_
      refine hQ h₃ _ true (z3.thenPast hfa (past h₃ f)) ⟨fun _ => ?_, fun _ => rfl⟩
      rw [← c2]; exact hcyc
end
end Mine
set_option maxHeartbeats 1000000
namespace Mine
theorem lookup_some_key {c : List (Int × List Int)} {k : Int} {l : List Int} (h : c.lookup k = some l) : k ∈ c.map (·.1) := by
  induction c with
  | nil => cases h
  | cons e c ih =>
    rw [List.lookup_cons] at h
    rw [List.map_cons]
    split at h
    · rename_i hq; exact List.mem_cons.mpr (.inl (eq_of_beq hq))
    · exact List.mem_cons_of_mem _ (ih h)
theorem lookup_key {c : List (Int × List Int)} {k : Int} (h : k ∈ c.map (·.1)) : ∃ l, c.lookup k = some l := by
  induction c with
  | nil => cases h
  | cons e c ih =>
    rw [List.lookup_cons]
    rw [List.map_cons] at h
    cases hq : (k == e.1) with
    | true => exact ⟨_, rfl⟩
    | false =>
      rcases List.mem_cons.mp h with q | q
      · rw [q, beq_self_eq_true] at hq; cases hq
      · exact ih q
theorem scC_ensure (c : List (Int × List Int)) (k a : Int) : scC (ensureC c k) a = scC c a := by
  unfold ensureC
  split
  · rfl
  · unfold scC
    rw [List.lookup_append]
    cases h : c.lookup a with
    | some l => rfl
    | none =>
      show ((List.lookup a [(k, ([] : List Int))]).getD []) = []
      rw [List.lookup_cons]
      split <;> rfl
theorem lookup_upd (c : List (Int × List Int)) (n p a : Int) : (c.map fun e => if e.1 = p then (e.1, e.2 ++ [n]) else e).lookup a = (c.lookup a).map fun l => if a = p then l ++ [n] else l := by
  induction c with
  | nil => rfl
  | cons e c ih =>
    rw [List.map_cons, List.lookup_cons, List.lookup_cons]
    have e1 : (if e.1 = p then (e.1, e.2 ++ [n]) else e).1 = e.1 := by split <;> rfl
    rw [e1]
    cases hq : (a == e.1) with
    | true =>
      have := eq_of_beq hq
      subst this
      show some _ = some _
      split <;> rfl
    | false => exact ih
theorem scC_add (c : List (Int × List Int)) (n p a b : Int) : b ∈ scC (addC c n p) a ↔ b ∈ scC c a ∨ (a = p ∧ b = n) := by
  have h1 : scC (ensureC (ensureC c n) p) a = scC c a := by rw [scC_ensure, scC_ensure]
  unfold addC
  unfold scC at h1 ⊢
  rw [lookup_upd]
  by_cases ha : a = p
  · subst ha
    obtain ⟨l, hl⟩ := lookup_key (ensureC_key (ensureC c n) a)
    rw [hl] at h1 ⊢
    rw [← h1]
    simp
  · rw [show (fun l : List Int => if a = p then l ++ [n] else l) = id from funext fun l => if_neg ha, Option.map_id, id, h1]
    simp [ha]
theorem scC_adds (es : List (Int × Int)) (a b : Int) : b ∈ scC (addsC [] es) a ↔ (b, a) ∈ es := by
  have gen : ∀ (es : List (Int × Int)) c, b ∈ scC (addsC c es) a ↔ b ∈ scC c a ∨ (b, a) ∈ es := by
    intro es
    induction es with
    | nil => intro c; simp [addsC]
    | cons e es ih =>
      intro c
      have := ih (addC c e.1 e.2)
      show b ∈ scC (addsC (addC c e.1 e.2) es) a ↔ _
      rw [this, scC_add, List.mem_cons]
      constructor
      · rintro ((h | ⟨rfl, rfl⟩) | h)
        · exact .inl h
        · exact .inr (.inl rfl)
        · exact .inr (.inr h)
      · rintro (h | h | h)
        · exact .inl (.inl h)
        · exact .inl (.inr ⟨by rw [← h], by rw [← h]⟩)
        · exact .inr h
  rw [gen]
  exact ⟨fun h => h.resolve_left (by unfold scC; simp), .inr⟩
/-- reached along the edges -/
inductive Reach (es : List (Int × Int)) : Int → Int → Prop
  | refl (a : Int) : Reach es a a
  | snoc {a b c : Int} (p : Reach es a b) (h : (c, b) ∈ es) : Reach es a c
theorem Reach.cons {es : List (Int × Int)} {a b c : Int} (h : (b, a) ∈ es) (p : Reach es b c) : Reach es a c := by
  induction p with
  | refl => exact .snoc (.refl _) h
  | snoc _ h' ih => exact .snoc ih h'
theorem Reach.trans {es : List (Int × Int)} {a b c : Int} (p : Reach es a b) (q : Reach es b c) : Reach es a c := by
  induction q with
  | refl => exact p
  | snoc _ h' ih => exact .snoc ih h'
theorem Path.up {es : List (Int × Int)} {t : Int} (up : ∀ a b, (b, a) ∈ es → a < b) {a c : Int} (p : Path (scC (addsC [] (es ++ [(0, t)]))) a c) : (Reach es a c ∧ a < c) ∨ (Reach es a t ∧ Reach es 0 c) := by
  have sp : ∀ {a b : Int}, b ∈ scC (addsC [] (es ++ [(0, t)])) a → (b, a) ∈ es ∨ (a = t ∧ b = 0) := fun h => by
    rw [scC_adds, List.mem_append, List.mem_singleton] at h
    rcases h with h | h
    · exact .inl h
    · injection h with h1 h2
      exact .inr ⟨h2, h1⟩
  induction p with
  | one h =>
    rcases sp h with h | ⟨rfl, rfl⟩
    · exact .inl ⟨.snoc (.refl _) h, up _ _ h⟩
    · exact .inr ⟨.refl _, .refl _⟩
  | step h _ ih =>
    rcases sp h with h | ⟨rfl, rfl⟩
    · rcases ih with ⟨r, l⟩ | ⟨r, s⟩
      · exact .inl ⟨.cons h r, Int.lt_trans (up _ _ h) l⟩
      · exact .inr ⟨.cons h r, s⟩
    · rcases ih with ⟨r, l⟩ | ⟨r, s⟩
      · exact .inr ⟨.refl _, r⟩
      · exact .inr ⟨.refl _, s⟩
theorem Reach.path {es : List (Int × Int)} {t : Int} {a : Int} (r : Reach es a t) : Path (scC (addsC [] (es ++ [(0, t)]))) a 0 := by
  have gen : ∀ {b}, Reach es a b → Path (scC (addsC [] (es ++ [(0, t)]))) b 0 → Path (scC (addsC [] (es ++ [(0, t)]))) a 0 := by
    intro b r
    induction r with
    | refl => exact id
    | snoc _ h ih => exact fun p => ih (.step ((scC_adds _ _ _).mpr (List.mem_append_left _ h)) p)
  exact gen r (.one ((scC_adds _ _ _).mpr (List.mem_append_right _ (List.mem_singleton.mpr rfl))))
theorem cycle_iff {es : List (Int × Int)} {t : Int} (up : ∀ a b, (b, a) ∈ es → a < b) : (∃ k, Path (scC (addsC [] (es ++ [(0, t)]))) k k) ↔ Reach es 0 t := by
  constructor
  · rintro ⟨k, p⟩
    rcases Path.up up p with ⟨_, l⟩ | ⟨r, s⟩
    · lia
    · exact s.trans r
  · exact fun r => ⟨0, r.path⟩
theorem stepE_mem {units : List (List Nat)} {word : List Nat} {i j : Nat} {b a : Int} : (b, a) ∈ stepE units word i j ↔
    (units.getD i [] = [42] ∧ b = 20 * (i : Int) + 20 + j ∧ a = 20 * (i : Int) + j) ∨ (units.getD i [] = [42] ∧ j < word.length ∧ b = 20 * (i : Int) + j + 1 ∧ a = 20 * (i : Int) + j) ∨
    (units.getD i [] ≠ [42] ∧ fitsHit word (units.getD i []) j = true ∧ b = 20 * (i : Int) + 21 + j ∧ a = 20 * (i : Int) + j) := by
  unfold stepE
  generalize units.getD i [] = u
  rw [List.mem_append, List.mem_append, or_assoc]
  refine or_congr ?_ (or_congr ?_ ?_)
  · by_cases h : u = [42]
    · rw [if_pos (by rw [h]; rfl), List.mem_singleton, Prod.mk.injEq]; simp [h]
    · rw [if_neg (by simpa using h)]; simp [h]
  · by_cases h : u = [42]
    · by_cases hj : j < word.length
      · rw [if_pos (by rw [h]; simp [hj]), List.mem_singleton, Prod.mk.injEq]; simp [h, hj]
      · rw [if_neg (by simp [hj])]; simp [hj]
    · rw [if_neg (by simp [h])]; simp [h]
  · by_cases h : u = [42]
    · rw [if_neg (by rw [h]; simp)]; simp [h]
    · by_cases hj : fitsHit word u j = true
      · rw [if_pos (by rw [hj]; simpa using h), List.mem_singleton, Prod.mk.injEq]; simp [h, hj]
      · rw [if_neg (by simp [hj])]; simp [hj]
theorem someE_mem {units : List (List Nat)} {word : List Nat} {n : Nat} {p : Int × Int} : p ∈ someE units word n ↔ ∃ i j, i < n ∧ j ≤ word.length ∧ p ∈ stepE units word i j := by
  unfold someE rowE
  rw [List.mem_flatMap]
  constructor
  · rintro ⟨i, hi, h⟩
    rw [List.mem_flatMap] at h
    obtain ⟨j, hj, h⟩ := h
    exact ⟨i, j, List.mem_range.mp hi, by have := List.mem_range.mp hj; lia, h⟩
  · rintro ⟨i, j, hi, hj, h⟩
    exact ⟨i, List.mem_range.mpr hi, List.mem_flatMap.mpr ⟨j, List.mem_range.mpr (by lia), h⟩⟩
theorem someE_up {units : List (List Nat)} {word : List Nat} {n : Nat} : ∀ a b, (b, a) ∈ someE units word n → a < b := by
  intro a b h
  obtain ⟨i, j, _, _, h⟩ := someE_mem.mp h
  rcases stepE_mem.mp h with ⟨_, rfl, rfl⟩ | ⟨_, _, rfl, rfl⟩ | ⟨_, _, rfl, rfl⟩ <;> lia
theorem mem_rangeL {a b x : Int} : x ∈ rangeL a b ↔ a ≤ x ∧ x < b := by
  refine ⟨rangeL_mem, fun ⟨h1, h2⟩ => ?_⟩
  unfold rangeL
  exact List.mem_map.mpr ⟨(x - a).toNat, List.mem_range.mpr (by lia), by lia⟩
theorem rangeL_sorted (a b : Int) : (rangeL a b).Pairwise (· ≤ ·) := by
  unfold rangeL
  rw [List.pairwise_map]
  exact List.Pairwise.imp (fun h => by lia) List.pairwise_lt_range
theorem fitsStep_sorted {word unit : List Nat} {ps : List Int} (h : ps.Pairwise (· ≤ ·)) : (fitsStep word unit ps).Pairwise (· ≤ ·) := by
  unfold fitsStep
  split
  · split
    · exact rangeL_sorted _ _
    · exact .nil
  · rw [List.pairwise_map]
    exact (h.filter _).imp fun q => by lia
theorem fitsAt_sorted (word : List Nat) (units : List (List Nat)) (i : Nat) : (fitsAt word units i).Pairwise (· ≤ ·) := by
  unfold fitsAt
  have step : ∀ (us : List (List Nat)) (ps : List Int), ps.Pairwise (· ≤ ·) → (us.foldl (fun ps u => fitsStep word u ps) ps).Pairwise (· ≤ ·) := by
    intro us
    induction us with
    | nil => intro ps h; exact h
    | cons u us ih => intro ps h; exact ih _ (fitsStep_sorted h)
  exact step _ _ (List.pairwise_singleton _ _)
theorem head_le {ps : List Int} (h : ps.Pairwise (· ≤ ·)) {x : Int} (hx : x ∈ ps) : ps.headD 0 ≤ x := by
  cases ps with
  | nil => cases hx
  | cons p ps =>
    rcases List.mem_cons.mp hx with rfl | hx
    · exact Int.le_refl _
    · exact (List.pairwise_cons.mp h).1 x hx
/-- what a star lets on -/
theorem fitsStep_star {word : List Nat} {ps : List Int} (h : ps.Pairwise (· ≤ ·)) (x : Int) : x ∈ fitsStep word [42] ps ↔ x ≤ word.length ∧ ∃ y ∈ ps, y ≤ x := by
  unfold fitsStep
  rw [if_pos (by rfl)]
  cases ps with
  | nil => simp
  | cons p ps =>
    rw [if_pos (by simp), mem_rangeL]
    constructor
    · rintro ⟨h1, h2⟩
      exact ⟨by lia, p, List.mem_cons_self, h1⟩
    · rintro ⟨h1, y, hy, h2⟩
      have := head_le h hy
      exact ⟨by lia, by lia⟩
theorem fitsStep_unit {word unit : List Nat} {ps : List Int} (hu : unit ≠ [42]) (x : Int) : x ∈ fitsStep word unit ps ↔ ∃ y ∈ ps, fitsHit word unit y = true ∧ x = y + 1 := by
  unfold fitsStep
  rw [if_neg (by simpa using hu), List.mem_map]
  constructor
  · rintro ⟨y, hy, rfl⟩
    exact ⟨y, (List.mem_filter.mp hy).1, (List.mem_filter.mp hy).2, rfl⟩
  · rintro ⟨y, hy, h, rfl⟩
    exact ⟨y, List.mem_filter.mpr ⟨hy, h⟩, rfl⟩
theorem getD_get {units : List (List Nat)} {i : Nat} (hi : i < units.length) : units.getD i [] = units[i] := by simp [List.getD, List.getElem?_eq_getElem hi]
theorem reach_of {units : List (List Nat)} {word : List Nat} (i : Nat) (hi : i ≤ units.length) : ∀ j : Nat, (j : Int) ∈ fitsAt word units i → Reach (someE units word units.length) 0 (20 * (i : Int) + j) := by
  induction i with
  | zero =>
    intro j hj
    have : (j : Int) = 0 := by simpa [fitsAt] using hj
    have : j = 0 := by first | exact Int.ofNat_inj.mp this | lia
    subst this
    exact .refl _
  | succ i ih =>
    intro j hj
    have hlt : i < units.length := hi
    have ih := ih (by first | exact Nat.le_of_lt hlt | lia)
    rw [fitsAt_succ word units hlt] at hj
    by_cases hs : units[i] = [42]
    · rw [hs, fitsStep_star (fitsAt_sorted word units i)] at hj
      obtain ⟨hjl, y, hy, hyj⟩ := hj
      have hy0 := (fitsAt_nonneg word units i y hy).1
      obtain ⟨y, rfl⟩ : ∃ n : Nat, y = n := ⟨y.toNat, by first | exact (Int.toNat_of_nonneg hy0).symm | lia⟩
      have hg : units.getD i [] = [42] := by rw [getD_get hlt, hs]
      have along : ∀ k : Nat, y + k ≤ word.length → Reach (someE units word units.length) 0 (20 * (i : Int) + (y + k : Nat)) := by
        intro k
        induction k with
        | zero => intro _; exact ih y hy
        | succ k ihk =>
          intro hk
          refine .snoc (ihk (by first | exact Nat.le_of_succ_le hk | lia)) (someE_mem.mpr ⟨i, y + k, hlt, by first | exact Nat.le_of_succ_le hk | lia, stepE_mem.mpr (.inr (.inl ⟨hg, by first | exact hk | lia, by first | exact (Int.add_assoc _ _ 1).symm | lia, rfl⟩))⟩)
      have hyj' : y + (j - y) = j := Nat.add_sub_cancel' (Int.ofNat_le.mp hyj)
      have r := along (j - y) (by first | exact hyj'.symm ▸ (Int.ofNat_le.mp hjl) | lia)
      rw [hyj'] at r
      exact .snoc r (someE_mem.mpr ⟨i, j, hlt, by lia, stepE_mem.mpr (.inl ⟨hg, by lia, rfl⟩)⟩)
    · rw [fitsStep_unit hs] at hj
      obtain ⟨y, hy, hh, hjy⟩ := hj
      have hy0 := fitsAt_nonneg word units i y hy
      obtain ⟨y, rfl⟩ : ∃ n : Nat, y = n := ⟨y.toNat, by first | exact (Int.toNat_of_nonneg hy0.1).symm | lia⟩
      exact .snoc (ih y hy) (someE_mem.mpr ⟨i, y, hlt, by lia, stepE_mem.mpr (.inr (.inr ⟨by rw [getD_get hlt]; exact hs, by rw [getD_get hlt]; exact hh, by lia, rfl⟩))⟩)
/-- a place that the edges reach -/
noncomputable def Good (units : List (List Nat)) (word : List Nat) (i j : Nat) : Prop := (j : Int) ∈ fitsAt word units i ∨ (units.getD i [] = [42] ∧ ∃ y ∈ fitsAt word units i, y ≤ (j : Int))
theorem good_of {units : List (List Nat)} {word : List Nat} (hw : word.length ≤ 19) {n : Int} (r : Reach (someE units word units.length) 0 n) : ∃ i j : Nat, n = 20 * (i : Int) + j ∧ i ≤ units.length ∧ j ≤ word.length ∧ Good units word i j := by
  induction r with
  | refl => exact ⟨0, 0, rfl, Nat.zero_le _, Nat.zero_le _, .inl (by simp [fitsAt])⟩
  | @snoc b c _ h ih =>
    obtain ⟨i, j, hb, hi, hj, gd⟩ := ih
    obtain ⟨i', j', hi', hj', h⟩ := someE_mem.mp h
    have same : b = 20 * (i' : Int) + j' → i' = i ∧ j' = j := fun q => by lia
    rcases stepE_mem.mp h with ⟨hs, hc, ha⟩ | ⟨hs, hjl, hc, ha⟩ | ⟨hs, hh, hc, ha⟩
    · obtain ⟨rfl, rfl⟩ := same ha
      refine ⟨i' + 1, j', by lia, hi', hj', .inl ?_⟩
      rw [fitsAt_succ word units hi']
      rw [getD_get hi'] at hs
      rw [hs, fitsStep_star (fitsAt_sorted word units i')]
      refine ⟨by lia, ?_⟩
      rcases gd with g | ⟨_, g⟩
      · exact ⟨_, g, Int.le_refl _⟩
      · exact g
    · obtain ⟨rfl, rfl⟩ := same ha
      refine ⟨i', j' + 1, by lia, hi, hjl, .inr ⟨hs, ?_⟩⟩
      rcases gd with g | ⟨_, y, hy, hyj⟩
      · exact ⟨_, g, by lia⟩
      · exact ⟨y, hy, by lia⟩
    · obtain ⟨rfl, rfl⟩ := same ha
      have g : (j' : Int) ∈ fitsAt word units i' := gd.resolve_right fun q => hs q.1
      have hlt : j' < word.length := by
        unfold fitsHit at hh
        rw [Bool.and_eq_true, decide_eq_true_eq] at hh
        lia
      refine ⟨i' + 1, j' + 1, by lia, hi', hlt, .inl ?_⟩
      rw [fitsAt_succ word units hi']
      rw [getD_get hi'] at hs hh
      rw [fitsStep_unit hs]
      exact ⟨_, g, hh, by lia⟩
/-- the ring holds a cycle just where the units fit the word -/
theorem ring_fits {units : List (List Nat)} {word : List Nat} (hw : word.length ≤ 19) : (∃ k, Path (scC (ringC units word)) k k) ↔ fitsP units word = true := by
  unfold ringC allE
  rw [cycle_iff someE_up]
  unfold fitsP
  rw [List.any_eq_true]
  constructor
  · intro r
    obtain ⟨i, j, hn, hi, hj, gd⟩ := good_of hw r
    have hij : i = units.length ∧ j = word.length := by lia
    obtain ⟨rfl, rfl⟩ := hij
    rcases gd with g | ⟨hs, _⟩
    · exact ⟨_, g, beq_self_eq_true _⟩
    · simp [List.getD] at hs
  · rintro ⟨x, hx, he⟩
    have := eq_of_beq he
    subst this
    exact reach_of _ (Nat.le_refl _) _ hx
end Mine
namespace Mine
section
variable {M : Model} {A : Around} {E : Value → Shared → Prop}
variable {s : Shared}
/-- what comes behind a statement, out of sight -/
noncomputable def Nx (Qn : Flow → Shared → Prop) (R : Shared → Prop) : Prop := ∀ s, R s → Qn .next s
theorem Nx.go {Qn : Flow → Shared → Prop} {R : Shared → Prop} {s : Shared} (h : Nx Qn R) (r : R s) : Qn .next s := h s r
noncomputable def Rt (Qn Q : Flow → Shared → Prop) : Prop := ∀ v s, Q (.ret v) s → Qn (.ret v) s
theorem Rt.go {Qn Q : Flow → Shared → Prop} {v : Value} {s : Shared} (h : Rt Qn Q) (r : Q (.ret v) s) : Qn (.ret v) s := h v s r
theorem x_cons {st : Stmt} {rest : List Stmt} {env : Env} {Q : Flow → Shared → Prop}
    (k : ∀ Qn : Flow → Shared → Prop, Nx Qn (fun s => wpAny M A (execs rest env) Q E s) → Rt Qn Q → wpAny M A (exec st env) Qn E s) : wpAny M A (execs (st :: rest) env) Q E s :=
  y_cons (k _ (fun _ r => r) fun _ _ r => r)
end
/-- frames' slots may turn, told by address -/
noncomputable def xLed (X : List Addr) (h : Heap) : Led := X.map fun b => (b, fun o => ∃ o₀ sl, h.get? b = some o₀ ∧ o = { o₀ with slots := sl })
theorem xLed_map (X : List Addr) (h : Heap) : (xLed X h).map (·.1) = X := by
  unfold xLed
  rw [List.map_map]
  exact List.map_id X
theorem frLed_x (l : List Env) (h : Heap) : frLed l h = xLed (fa l) h := rfl
section
variable {X : List Addr} {B : Addr → Obj → Prop} {L : Addr} {m : Str → Option Value} {n n1 : Led} {h h' h₁ : Heap}
theorem xLed_slots {p : Addr × (Obj → Prop)} (hp : p ∈ xLed X h) {o : Obj} (ho : p.2 o) (sl : Array (Option Value)) : p.2 { o with slots := sl } := by
  unfold xLed at hp
  obtain ⟨b, _, rfl⟩ := List.mem_map.mp hp
  obtain ⟨o₀, sl', e, rfl⟩ := ho
  exact ⟨o₀, sl, e, rfl⟩
/-- frames whose slots may turn, taken into the ledger -/
theorem Z.toX' (z : Z (Sb h₁) L m n h) (nd : X.Nodup) (hX : ∀ b ∈ X, ∃ o, h₁.get? b = some o) : Z (SbX X h₁) L m (n ++ xLed X h₁) h := by
  refine ⟨z.ns, fun b o e => z.keep b o e.2, fun o e => z.apart o e.2, fun p hp => ?_, fun p hp => ?_, ?_⟩
  · rcases List.mem_append.mp hp with hp | hp
    · exact z.led p hp
    · unfold xLed at hp
      obtain ⟨b, hb, rfl⟩ := List.mem_map.mp hp
      obtain ⟨o, e⟩ := hX b hb
      exact ⟨o, z.keep _ _ e, o, o.slots, e, rfl⟩
  · rcases List.mem_append.mp hp with hp | hp
    · exact ⟨(z.off p hp).1, fun o e => (z.off p hp).2 o e.2⟩
    · have hb : p.1 ∈ X := by rw [← xLed_map X h₁]; exact List.mem_map_of_mem hp
      obtain ⟨o, e⟩ := hX _ hb
      exact ⟨fun q => z.apart o (q ▸ e), fun o e => e.1 hb⟩
  · rw [List.map_append, xLed_map, List.nodup_append]
    refine ⟨z.nd, nd, fun a ha b hb q => ?_⟩
    subst q
    obtain ⟨o, e⟩ := hX a hb
    obtain ⟨p, hp, rfl⟩ := List.mem_map.mp ha
    exact (z.off p hp).2 o e
/-- new things, and the slots of X turned -/
theorem Z.growF (z : Z B L m (n1 ++ xLed X h₁) h) (k : KeepF X h h') (hB : ∀ b o, B b o → b ∉ X) : Z (Gr B (New h h')) L m (n1 ++ xLed X h₁) h' := by
  have z1 : Z B L m (n1 ++ xLed X h₁) h' := by
    refine Z.called (g := []) (g' := []) (X := X) (n₀ := n1 ++ xLed X h₁) z (fun b o _ hb e => k.off b o hb e) k.on (by intro p hp; cases hp) List.nodup_nil (by intro p hp; cases hp) hB fun p hp hq o sl ho => ?_
    rcases List.mem_append.mp hp with hp | hp
    · have nd := z.nd
      rw [List.map_append, List.nodup_append] at nd
      exact absurd rfl (nd.2.2 p.1 (List.mem_map_of_mem hp) p.1 (by rw [xLed_map]; exact hq))
    · exact xLed_slots hp ho sl
  refine ⟨z1.ns, fun b o e => ?_, fun o q => ?_, z1.led, fun p hp => ⟨(z1.off p hp).1, fun o q => ?_⟩, z1.nd⟩
  · rcases e with e | e
    · exact z1.keep b o e
    · exact e.1
  · rcases q with q | q
    · exact z1.apart o q
    · obtain ⟨o', _, _, e, _⟩ := z.ns
      rw [q.2] at e; cases e
  · rcases q with q | q
    · exact (z1.off p hp).2 o q
    · obtain ⟨o', e, _⟩ := z.led p hp
      rw [q.2] at e; cases e
theorem Z.kfX (z : Z B L m n h) (hB : ∀ b o, SbX X h₁ b o → B b o) (hm : ∀ p ∈ xLed X h₁, p ∈ n) : KeepF X h₁ h := by
  refine ⟨fun b o hb e => z.keep b o (hB b o ⟨hb, e⟩), fun b o hb e => ?_⟩
  obtain ⟨o', e', o₀, sl, e₀, rfl⟩ := z.led _ (hm (b, fun o => ∃ o₀ sl, h₁.get? b = some o₀ ∧ o = { o₀ with slots := sl }) (List.mem_map_of_mem hb))
  rw [e] at e₀; injection e₀ with e₀; subst e₀
  exact ⟨sl, e'⟩
end
section
variable {prog : Program} {w : WK} {A : Around} {E : Value → Shared → Prop} {env : Env} {d : Drawn} {os : OsState}
variable {L : Addr} {names gl cn : List Str} {ca : List Addr}
/-- what an element leaves: new things, the slots of X turned -/
inductive PKp (X : List Addr) (gs : Nat → Array GenState) (d : Drawn) (os : OsState) (J : Nat → List Value → (Addr → Obj → Prop) → Prop) (i : Nat) (h : Heap) (N : Addr → Obj → Prop) (acc : List Value) (s : Shared) : Prop
  | mk (h' : Heap) (tk' : Nat) (e : s = ⟨h', gs i, d, tk', os⟩) (kf : KeepF X h h') (j : J i acc (Gr N (New h h')))
/-- what a comprehension has to say of its turns and its end -/
inductive PLR (prog : Program) (w : WK) (A : Around) (elt : Expr) (ifs : List Expr) (x : Str) (cgl ccn : List Str) (cca : List Addr) (d : Drawn) (os : OsState) (X : List Addr) (gs : Nat → Array GenState) (J : Nat → List Value → (Addr → Obj → Prop) → Prop) (Q : Value → Shared → Prop) (h₁ : Heap)
    (cnt : Nat) (item : Nat → Value → Prop) (ok : Heap → Prop) : Prop
  | mk (nd : X.Nodup) (hX : ∀ b ∈ X, ∃ o, h₁.get? b = some o) (hok : ∀ h, (∀ b o, b ∉ X → h₁.get? b = some o → h.get? b = some o) → ok h) (hc : cnt ≤ 10000) (j0 : J 0 [] (fun _ _ => False)) (jl : ∀ i acc N, J i acc N → acc.length ≤ i)
      (turn : ∀ i v acc N C cenv h tk, i < cnt → item i v → J i acc N → EnvC cenv C [x] cgl ccn cca → Z (Gr (SbX X h₁) N) C (fr [x] [some v]) (xLed X h₁) h →
        wpAny (model prog w.w) A (tests ifs cenv) (QTe (model prog w.w) A cenv elt (fun y => PKp X gs d os J (i + 1) h N (acc ++ [y])) (PKp X gs d os J (i + 1) h N acc)) (fun _ _ => False) ⟨h, gs i, d, tk, os⟩)
      (done : ∀ D acc N h' tk', J cnt acc N → KeepF X h₁ h' → (∃ o, h'.get? D = some o ∧ LstO acc o) → h₁.get? D = none → (∀ b o, N b o → New h₁ h' b o) → Q (.ref D) ⟨h', gs cnt, d, tk', os⟩)
/-- its source -/
inductive PSr0 (M : Model) (A : Around) (E : Value → Shared → Prop) (g : Array GenState) (d : Drawn) (os : OsState) (P : Heap → Value → Shared → Prop) (xv : Value) (s₁ : Shared) : Prop
  | mk (h₁ : Heap) (tk₁ : Nat) (e : s₁ = ⟨h₁, g, d, tk₁, os⟩) (k : wpAny M A (pyIter xv) (P h₁) E s₁)
theorem x_lcomp_go {elt iter : Expr} {x : Str} {px : Pos} {ifs : List Expr} {scope : Scope} {cpos : Pos} {Q : Value → Shared → Prop} {cenv₀ : Env} {cgl ccn : List Str} {cca : List Addr} {X : List Addr} {gs : Nat → Array GenState} {J : Nat → List Value → (Addr → Obj → Prop) → Prop}
    {h₁ : Heap} {I : Addr} {It : Nat → Obj → Prop} {cnt : Nat} {item : Nat → Value → Prop} {ok : Heap → Prop} (C D : Addr) (h₃ : Heap) (tk₃ : Nat) (ce : EnvC cenv₀ C [x] cgl ccn cca)
    (z₃ : Z (Sb h₁) C (fr [x] ([x].map fun _ => none)) [(D, LstO []), (I, It 0)] h₃) (it : Iter prog w A I It cnt item ok) (nd : X.Nodup) (hX : ∀ b ∈ X, ∃ o, h₁.get? b = some o) (hok : ∀ h, (∀ b o, b ∉ X → h₁.get? b = some o → h.get? b = some o) → ok h) (hcnt : cnt ≤ 10000)
    (j0 : J 0 [] (fun _ _ => False)) (jlen : ∀ i acc N, J i acc N → acc.length ≤ i)
    (turn : ∀ i v acc N C cenv h tk, i < cnt → item i v → J i acc N → EnvC cenv C [x] cgl ccn cca → Z (Gr (SbX X h₁) N) C (fr [x] [some v]) (xLed X h₁) h →
        wpAny (model prog w.w) A (tests ifs cenv) (QTe (model prog w.w) A cenv elt (fun y => PKp X gs d os J (i + 1) h N (acc ++ [y])) (PKp X gs d os J (i + 1) h N acc)) (fun _ _ => False) ⟨h, gs i, d, tk, os⟩)
    (done : ∀ D acc N h' tk', J cnt acc N → KeepF X h₁ h' → (∃ o, h'.get? D = some o ∧ LstO acc o) → h₁.get? D = none → (∀ b o, N b o → New h₁ h' b o) → Q (.ref D) ⟨h', gs cnt, d, tk', os⟩)
    {R : Result → Shared → Prop} (hR : ∀ m h tk, h.Ns C m → (∀ h', Heap.SameBut C h h' → Q (.ref D) ⟨h', gs cnt, d, tk, os⟩) → R (.ok .next) ⟨h, gs cnt, d, tk, os⟩) :
    codeAny (model prog w.w) A (.compLoop (.ListComp elt [⟨.Name x px, iter, ifs, 0⟩] scope cpos) 0 (.ref I) (.ref D) cenv₀) R ⟨h₃, gs 0, d, tk₃, os⟩ := by
  have z0 := z₃.toX' nd hX
  have sub : ∀ {N : Addr → Obj → Prop}, ∀ b o, SbX X h₁ b o → Gr (SbX X h₁) N b o := fun b o e => .inl e
  refine x_comploopB (A := A) (names := [x]) (σ := List Value × (Addr → Obj → Prop) × Option Value) (fun st => Gr (SbX X h₁) st.2.1) it
    (fun i st => J i st.1 st.2.1 ∧ (∀ b o, st.2.1 b o → h₁.get? b = none ∧ b ∉ X) ∧ i ≤ cnt) (fun _ st => [st.2.2]) (fun _ st => st.1) (fun _ _ => xLed X h₁) (fun i _ => gs i) ([], (fun _ _ => False), none)
    ⟨j0, fun _ _ q => q.elim, Nat.zero_le _⟩ (z0.subB fun b o q => q.elim id False.elim) (fun i st h _ z => hok h fun b o hb e => z.keep b o (.inl ⟨hb, e⟩)) (fun i st hJ => by have := jlen _ _ _ hJ.1; have := hJ.2.2; lia) ?_ ?_
  · rintro i ⟨acc, N, xv⟩ v h tk hi hv ⟨hJ, hN, _⟩ z
    dsimp only at hJ hN z
    refine x_stoName ce.toEnvL z 0 rfl Nat.one_pos fun h tk z₁ _ => ?_
    clear z; rename Z _ _ _ _ _ => z
    have z2 : Z (Gr (SbX X h₁) N) C (fr [x] [some v]) ([(D, LstO acc), (I, It (i + 1))] ++ xLed X h₁) h := z
    clear z
    have hB : ∀ b o, Gr (SbX X h₁) N b o → b ∉ X := fun b o q => by
      rcases q with q | q
      · exact q.1
      · exact (hN b o q).2
    have fin : ∀ {h'}, KeepF X h h' → Z (Gr (SbX X h₁) (Gr N (New h h'))) C (fr [x] [some v]) ([(D, LstO acc), (I, It (i + 1))] ++ xLed X h₁) h' ∧ ∀ b o, Gr N (New h h') b o → h₁.get? b = none ∧ b ∉ X := fun kf => by
      refine ⟨(z2.growF kf hB).subB fun b o q => ?_, fun b o q => ?_⟩
      · rcases q with q | q | q
        · exact .inl (.inl q)
        · exact .inl (.inr q)
        · exact .inr q
      · rcases q with q | q
        · exact hN b o q
        · have kx := z2.kfX (X := X) (h₁ := h₁) sub (fun p hp => List.mem_append_right _ hp)
          have hnx : b ∉ X := fun c => by
            obtain ⟨o', e'⟩ := hX b c
            obtain ⟨sl, e''⟩ := kx.on b o' c e'
            rw [q.2] at e''; cases e''
          refine ⟨?_, hnx⟩
          cases e' : h₁.get? b with
          | none => rfl
          | some o' => have := kx.off b o' hnx e'; rw [q.2] at this; cases this
    refine wpAny_mono (turn i v acc N C _ h tk hi hv hJ ce (z2.sub (List.sublist_append_right _ _))) (fun ok s₂ q => ?_) fun _ _ q => q
    cases ok with
    | true =>
      refine wpAny_mono (show wpAny _ _ (eval elt cenv₀) _ _ _ from q) (fun y s₃ q => ?_) fun _ _ q => q
      obtain ⟨h', tk', rfl, kf, j⟩ := q
      exact ⟨(acc ++ [y], Gr N (New h h'), some v), h', tk', rfl, ⟨j, (fin kf).2, hi⟩, rfl, (fin kf).1⟩
    | false =>
      obtain ⟨h', tk', rfl, kf, j⟩ := q
      exact ⟨(acc, Gr N (New h h'), some v), h', tk', rfl, ⟨j, (fin kf).2, hi⟩, rfl, (fin kf).1⟩
  · rintro ⟨acc, N, xv⟩ h tk ⟨hJ, hN, _⟩ z
    dsimp only at hJ hN z
    refine hR _ _ _ z.ns fun h' hs' => ?_
    have zn := z.toN_same hs'
    obtain ⟨o, ho, hl⟩ := zn.led _ (List.mem_cons_self)
    have kf : KeepF X h₁ h' := by
      refine ⟨fun b o hb e => zn.keep b o (.inl ⟨hb, e⟩), fun b o hb e => ?_⟩
      obtain ⟨o', e', o₀, sl, e₀, rfl⟩ := zn.led (b, fun o => ∃ o₀ sl, h₁.get? b = some o₀ ∧ o = { o₀ with slots := sl }) (List.mem_cons_of_mem _ (List.mem_map_of_mem hb))
      rw [e] at e₀; injection e₀ with e₀; subst e₀
      exact ⟨sl, e'⟩
    refine done D acc N h' _ hJ kf ⟨o, ho, hl⟩ ?_ fun b o q => ⟨zn.keep b o (.inr q), (hN b o q).1⟩
    cases e' : h₁.get? D with
    | none => rfl
    | some o' =>
      by_cases hb : D ∈ X
      · have nd' := z.nd
        rw [List.map_cons, List.nodup_cons] at nd'
        exact absurd (by rw [xLed_map]; exact hb) nd'.1
      · exact absurd (.inl ⟨hb, e'⟩) (zn.off _ (List.mem_cons_self) o')
/-- [elt for x in iter if ..], the things that its turns make kept -/
theorem x_lcomp {elt iter : Expr} {x : Str} {px : Pos} {ifs : List Expr} {scope : Scope} {cpos : Pos} {Q : Value → Shared → Prop} {s : Shared}
    (e : EnvC env L names gl cn ca) (cgl ccn : List Str) (cca : List Addr) (co : CompOk scope [x] cgl ccn) (hlen : cca.length = ccn.length)
    (hold : ∀ (i : Nat) (x : Str) (c : Addr), ccn[i]? = some x → cca[i]? = some c → ∃ j : Nat, cn[j]? = some x ∧ ca[j]? = some c)
    (X : List Addr) (gs : Nat → Array GenState) (J : Nat → List Value → (Addr → Obj → Prop) → Prop)
    (k : wpAny (model prog w.w) A (eval iter env) (PSr0 (model prog w.w) A E (gs 0) d os fun h₁ => PIt prog w A d os h₁ (gs 0) fun _ _ => PLR prog w A elt ifs x cgl ccn cca d os X gs J Q h₁) E s)
    (hs : ∀ x, foldedSetIterable iter env x = pure x := by intro _; rfl) :
    wpAny (model prog w.w) A (eval (.ListComp elt [⟨.Name x px, iter, ifs, 0⟩] scope cpos) env) Q E s := by
  obtain ⟨cl, hcl, hce⟩ := comp_env e scope [x] cgl ccn cca co.kind co.nd co.cnd hlen co.loc co.glo co.free co.only hold
  show wpAny _ A (comprehension (.ListComp elt [⟨.Name x px, iter, ifs, 0⟩] scope cpos) scope env _ (newList []) false (eval iter env)) _ _ s
  refine x_comp (d := d) (os := os) (names := [x]) rfl hs hcl co.kind (fun y hy => by have := List.all_eq_true.mp co.cell y hy; simpa using this) co.nms (wpAny_mono k (fun xv s₁ q1 => ?_) fun _ _ e => e)
  obtain ⟨h₁, tk₁, rfl, q1⟩ := q1
  refine ⟨h₁, tk₁, gs 0, rfl, wpAny_mono q1 (fun itv s₂ q2 => ?_) fun _ _ e => e⟩
  obtain ⟨I, h₂, tk₂, It, cnt, item, ok, rfl, rfl, kp, hI, hIt, it, nd, hX, hok, hcnt, j0, jlen, turn, done⟩ := q2
  refine ⟨I, h₂, tk₂, It, cnt, item, ok, rfl, rfl, kp, hI, hIt, it, fun C D h₃ tk₃ z₃ => ?_⟩
  exact x_lcomp_go C D h₃ tk₃ (hce C) z₃ it nd hX hok hcnt j0 jlen turn done fun m h tk hn k => ⟨rfl, m, hn, k⟩
end
end Mine
namespace Mine
theorem compTurn20 (elt t1 i1 t2 i2 : Expr) (ifs : List Expr) (scope : Scope) (pos : Pos) (it acc : Value) (env : Env) :
    compTurn (.ListComp elt [⟨t1, i1, [], 0⟩, ⟨t2, i2, ifs, 0⟩] scope pos) 0 it acc env = (do
      standAt i1.pos
      match ← pyNext it with
      | none => pure (.done .next)
      | some v =>
        letOwnedTupleGo t1 it v
        assign t1 env v
        let x ← eval i2 env
        standAt i2.pos
        let x ← foldedSetIterable i2 env x
        let _ ← runOwn (.compStart (.ListComp elt [⟨t1, i1, [], 0⟩, ⟨t2, i2, ifs, 0⟩] scope pos) 1 (← holding [x] (pyIter x)) acc env) env
        again (.compLoop (.ListComp elt [⟨t1, i1, [], 0⟩, ⟨t2, i2, ifs, 0⟩] scope pos) 0 it acc env)) := by rfl
theorem compTurn21 (elt t1 i1 t2 i2 : Expr) (ifs : List Expr) (scope : Scope) (pos : Pos) (it acc : Value) (env : Env) :
    compTurn (.ListComp elt [⟨t1, i1, [], 0⟩, ⟨t2, i2, ifs, 0⟩] scope pos) 1 it acc env = (do
      standAt i2.pos
      match ← pyNext it with
      | none => pure (.done .next)
      | some v =>
        letOwnedTupleGo t2 it v
        assign t2 env v
        let ok ← tests ifs env
        if ok then
          (do let _ ← call (.builtin "list.append") [acc, ← eval elt env])
        again (.compLoop (.ListComp elt [⟨t1, i1, [], 0⟩, ⟨t2, i2, ifs, 0⟩] scope pos) 1 it acc env)) := by rfl
section
variable {prog : Program} {w : WK} {A : Around} {E : Value → Shared → Prop} {R : Result → Shared → Prop}
variable {s : Shared}
/-- the outer walk of a comprehension with two generators -/
theorem codeAny_comp20 {elt t1 i1 t2 i2 : Expr} {ifs : List Expr} {scope : Scope} {pos : Pos} {it acc : Value} {env : Env} (I : Nat → Shared → Prop)
    (turn : ∀ n s, I n s → wpAny (model prog w.w) A (pyNext it) (fun r s₁ => match r with
      | none => R (.ok .next) s₁
      | some v => wpAny (model prog w.w) A (assign t1 env v) (fun _ s₂ => wpAny (model prog w.w) A (eval i2 env) (fun x s₃ => wpAny (model prog w.w) A (pyIter x) (fun it' s₄ =>
          codeAny (model prog w.w) A (.compStart (.ListComp elt [⟨t1, i1, [], 0⟩, ⟨t2, i2, ifs, 0⟩] scope pos) 1 it' acc env) (fun r s₅ => r = .ok .next ∧ ∃ m, m < n ∧ I m s₅) s₄) (fun _ _ => False) s₃) (fun _ _ => False) s₂) (fun _ _ => False) s₁) (fun _ _ => False) s)
    (n : Nat) (h : I n s) (ht : ∀ v, letOwnedTupleGo t1 it v = pure () := by intro _; rfl) (hs : ∀ x, foldedSetIterable i2 env x = pure x := by intro _; rfl) :
    codeAny (model prog w.w) A (.compLoop (.ListComp elt [⟨t1, i1, [], 0⟩, ⟨t2, i2, ifs, 0⟩] scope pos) 0 it acc env) R s := by
  refine codeAny_loop rfl I (fun n s hI => ?_) n h
  show wpAny _ A ((compTurn (.ListComp elt [⟨t1, i1, [], 0⟩, ⟨t2, i2, ifs, 0⟩] scope pos) 0 it acc env).onRaise (fun x => do noteFrame x env; theTreesLotGoes x)) _ _ s
  refine wpAny_noted ?_
  rw [compTurn20]
  refine wpAny_bind (wpAny_standAt (wpAny_bind (wpAny_mono (turn n s hI) (fun r s₁ h₁ => ?_) fun _ _ h' => h'.elim)))
  cases r with
  | none => exact wpAny_pure h₁
  | some v =>
    refine wpAny_bind (wpAny_of_eq (ht v) ?_)
    refine wpAny_bind (wpAny_mono h₁ (fun _ s₂ h₂ => ?_) fun _ _ h' => h'.elim)
    refine wpAny_bind (wpAny_mono h₂ (fun x s₃ h₃ => wpAny_bind (wpAny_standAt (wpAny_bind (wpAny_of_eq (hs x) (wpAny_bind (wpAny_holding (wpAny_mono h₃ (fun it' s₄ h₄ => ?_) fun _ _ h' => h'.elim))))))) fun _ _ h' => h'.elim)
    refine wpAny_bind (wpAny_runOwn (codeAny_mono h₄ fun r s₅ h₅ => ?_))
    obtain ⟨rfl, h₅⟩ := h₅
    exact wpAny_pure ⟨rfl, h₅⟩
theorem codeAny_comp21 {elt t1 i1 t2 i2 : Expr} {ifs : List Expr} {scope : Scope} {pos : Pos} {it acc : Value} {env : Env} (I : Nat → Shared → Prop)
    (turn : ∀ n s, I n s → wpAny (model prog w.w) A (pyNext it) (fun r s₁ => match r with
      | none => R (.ok .next) s₁
      | some v => wpAny (model prog w.w) A (assign t2 env v) (fun _ s₂ => wpAny (model prog w.w) A (tests ifs env) (fun ok s₃ => ok = false ∧ ∃ m, m < n ∧ I m s₃) (fun _ _ => False) s₂) (fun _ _ => False) s₁) (fun _ _ => False) s)
    (n : Nat) (h : I n s) (ht : ∀ v, letOwnedTupleGo t2 it v = pure () := by intro _; rfl) :
    codeAny (model prog w.w) A (.compLoop (.ListComp elt [⟨t1, i1, [], 0⟩, ⟨t2, i2, ifs, 0⟩] scope pos) 1 it acc env) R s := by
  refine codeAny_loop rfl I (fun n s hI => ?_) n h
  show wpAny _ A ((compTurn (.ListComp elt [⟨t1, i1, [], 0⟩, ⟨t2, i2, ifs, 0⟩] scope pos) 1 it acc env).onRaise (fun x => do noteFrame x env; theTreesLotGoes x)) _ _ s
  refine wpAny_noted ?_
  rw [compTurn21]
  refine wpAny_bind (wpAny_standAt (wpAny_bind (wpAny_mono (turn n s hI) (fun r s₁ h₁ => ?_) fun _ _ h' => h'.elim)))
  cases r with
  | none => exact wpAny_pure h₁
  | some v =>
    refine wpAny_bind (wpAny_of_eq (ht v) ?_)
    refine wpAny_bind (wpAny_mono h₁ (fun _ s₂ h₂ => wpAny_bind (wpAny_mono h₂ (fun ok s₃ h₃ => ?_) fun _ _ h' => h'.elim)) fun _ _ h' => h'.elim)
    obtain ⟨rfl, h₃⟩ := h₃
    exact wpAny_pure ⟨rfl, h₃⟩
theorem codeAny_start21 {elt t1 i1 t2 i2 : Expr} {ifs : List Expr} {scope : Scope} {pos : Pos} {it acc : Value} {env : Env}
    (h0 : codeAny (model prog w.w) A (.compLoop (.ListComp elt [⟨t1, i1, [], 0⟩, ⟨t2, i2, ifs, 0⟩] scope pos) 1 it acc env) R s)
    (h : wpAny (model prog w.w) A (pyIter it) (fun it' s' => codeAny (model prog w.w) A (.compLoop (.ListComp elt [⟨t1, i1, [], 0⟩, ⟨t2, i2, ifs, 0⟩] scope pos) 1 it' acc env) R s') (fun _ _ => False) s) :
    codeAny (model prog w.w) A (.compStart (.ListComp elt [⟨t1, i1, [], 0⟩, ⟨t2, i2, ifs, 0⟩] scope pos) 1 it acc env) R s := by
  refine codeAny_of_tree ?_
  show wpAny _ _ ((compStart (.ListComp elt [⟨t1, i1, [], 0⟩, ⟨t2, i2, ifs, 0⟩] scope pos) 1 it acc env).onRaise (fun x => do noteFrame x env; standAt theWindowsPlace)) _ _ s
  refine wpAny_notedAt ?_
  unfold compStart
  show wpAny _ _ (ask >>= _) _ _ s
  refine wpAny_bind (wpAny_askSetting (wpAny_ite ?_))
  split
  · first
      | exact wpAny_bind (wpAny_pure (wpAny_pure (And.intro rfl h0)))
      | exact wpAny_pure (And.intro rfl h0)
  · refine wpAny_bind (wpAny_rule ?_)
    show wpAny _ _ (standAt i2.pos >>= _) _ _ s
    exact wpAny_bind (wpAny_standAt (wpAny_bind (wpAny_mono h (fun it' s' h' => wpAny_pure (And.intro rfl h')) fun _ _ x => x.elim)))
end
end Mine
namespace Mine
section
variable {prog : Program} {w : WK} {A : Around} {E : Value → Shared → Prop} {env : Env} {d : Drawn} {os : OsState} {g : Array GenState}
variable {L : Addr} {names gl cn : List Str} {ca : List Addr}
/-- a test that lets nothing through -/
inductive PNo (g : Array GenState) (d : Drawn) (os : OsState) (h : Heap) (ok : Bool) (s : Shared) : Prop
  | mk (e : ok = false) (tk' : Nat) (e1 : s = ⟨h, g, d, tk', os⟩)
/-- an item, a list -/
inductive PIn (M : Model) (A : Around) (g : Array GenState) (d : Drawn) (os : OsState) (x y : Str) (cgl : List Str) (ifs : List Expr) (h₁ : Heap) (v : Value) : Prop
  | mk (l : Addr) (us : List Value) (e : v = .ref l) (hl : ∃ o, h₁.get? l = some o ∧ LstO us o)
      (k : ∀ (j : Nat) (u : Value) (C : Addr) (cenv : Env) (h : Heap) (tk : Nat), us[j]? = some u → EnvC cenv C [x, y] cgl [] [] → Z (Sb h₁) C (fr [x, y] [some v, some u]) [] h → wpAny M A (tests ifs cenv) (PNo g d os h) (fun _ _ => False) ⟨h, g, d, tk, os⟩)
inductive PL2 (M : Model) (A : Around) (g : Array GenState) (d : Drawn) (os : OsState) (x y : Str) (cgl : List Str) (ifs : List Expr) (Q : Value → Shared → Prop) (xv : Value) (s₁ : Shared) : Prop
  | mk (h₁ : Heap) (tk₁ : Nat) (a : Addr) (vs : List Value) (e : s₁ = ⟨h₁, g, d, tk₁, os⟩) (e1 : xv = .ref a) (hl : ∃ o, h₁.get? a = some o ∧ LstO vs o) (turn : ∀ (i : Nat) (v : Value), vs[i]? = some v → PIn M A g d os x y cgl ifs h₁ v)
      (done : ∀ D h' tk', Keep h₁ h' → (∃ o, h'.get? D = some o ∧ LstO [] o) → h₁.get? D = none → Q (.ref D) ⟨h', g, d, tk', os⟩)
/-- ahead of a turn -/
inductive PO2 (B : Addr → Obj → Prop) (C I D : Addr) (names : List Str) (It : Nat → Obj → Prop) (g : Array GenState) (d : Drawn) (os : OsState) (cnt : Nat) (n : Nat) (s : Shared) : Prop
  | mk (i : Nat) (vals : Option Value × Option Value) (h : Heap) (tk : Nat) (e : s = ⟨h, g, d, tk, os⟩) (hi : i ≤ cnt) (hn : n = cnt - i) (z : Z B C (fr names [vals.1, vals.2]) [(I, It i), (D, LstO [])] h)
inductive PO3 (B : Addr → Obj → Prop) (C I I2 D : Addr) (names : List Str) (u : Value) (P : Obj → Prop) (It : Nat → Obj → Prop) (g : Array GenState) (d : Drawn) (os : OsState) (cnt : Nat) (n : Nat) (s : Shared) : Prop
  | mk (j : Nat) (yv : Option Value) (h : Heap) (tk : Nat) (e : s = ⟨h, g, d, tk, os⟩) (hj : j ≤ cnt) (hn : n = cnt - j) (z : Z B C (fr names [some u, yv]) [(I2, It j), (I, P), (D, LstO [])] h)
/-- [elt for x in iter for y in x if ..], no y let through -/
theorem x_comp2 {elt iter : Expr} {x y : Str} {px py qx : Pos} {ifs : List Expr} {scope : Scope} {cpos : Pos} {Q : Value → Shared → Prop} {s : Shared} (hh : A.handled = none)
    (e : EnvC env L names gl cn ca) (cgl : List Str) (co : CompOk scope [x, y] cgl [])
    (k : wpAny (model prog w.w) A (eval iter env) (PL2 (model prog w.w) A g d os x y cgl ifs Q) E s)
    (hs : ∀ x, foldedSetIterable iter env x = pure x := by intro _; rfl) :
    wpAny (model prog w.w) A (eval (.ListComp elt [⟨.Name x px, iter, [], 0⟩, ⟨.Name y py, .Name x qx, ifs, 0⟩] scope cpos) env) Q E s := by
  obtain ⟨cl, hcl, hce⟩ := comp_env e scope [x, y] cgl [] [] co.kind co.nd co.cnd rfl co.loc co.glo co.free co.only (fun i x c hx => by simp at hx)
  show wpAny _ A (comprehension (.ListComp elt [⟨.Name x px, iter, [], 0⟩, ⟨.Name y py, .Name x qx, ifs, 0⟩] scope cpos) scope env _ (newList []) false (eval iter env)) _ _ s
  refine x_comp (d := d) (os := os) (names := [x, y]) rfl hs hcl co.kind (fun y hy => by have := List.all_eq_true.mp co.cell y hy; simpa using this) co.nms (wpAny_mono k (fun xv s₁ q1 => ?_) fun _ _ e => e)
  obtain ⟨h₁, tk₁, a, vs, rfl, rfl, hl, turn, done⟩ := q1
  have hla : ∀ {m n h C}, Z (Sb h₁) C m n h → h.IsList a vs.toArray := fun z => let ⟨o, ho, hp⟩ := hl; Lst.isList ⟨o, z.keep _ _ ho, hp⟩
  refine ⟨h₁, tk₁, g, rfl, ?_⟩
  refine x_iter_list (Lst.isList (h := h₁) hl) fun I h₂ k₂ hI hIt => ?_
  have it := iter_list (prog := prog) (w := w) hh I a vs
  refine ⟨I, h₂, _, _, _, _, _, rfl, rfl, k₂, hI, hIt, it, fun C D h₃ tk₃ z₃ => ?_⟩
  have ce := hce C
  have nd2 : x ≠ y := by have := co.nd; simp at this; exact this
  refine codeAny_comp20 (PO2 (Sb h₁) C I D [x, y] (ListIt a) g d os vs.length) ?_ vs.length
    ⟨0, (none, none), h₃, tk₃, rfl, Nat.zero_le _, rfl, z₃.perm (List.Perm.swap ..)⟩
  intro n s q
  obtain ⟨i, ⟨xv, yv⟩, h, tk, rfl, hi, rfl, z⟩ := q
  by_cases hlt : i < vs.length
  · refine it.next i _ _ _ hlt (z.get 0 rfl) (hla z) fun v h tk hv hs hI' => ?_
    replace z := z.updE 0 rfl hs hI'.choose_spec.1 hI'.choose_spec.2
    obtain ⟨l, us, rfl, hul, inner⟩ := turn i v hv
    refine x_stoName ce.toEnvL z 0 rfl (by simp) fun h tk z₁ _ => ?_
    clear z; rename Z _ _ _ _ _ => z
    refine x_loc ce.toEnvL z 0 rfl rfl ?_
    have hli : ∀ {m n h C}, Z (Sb h₁) C m n h → h.IsList l us.toArray := fun z => let ⟨o, ho, hp⟩ := hul; Lst.isList ⟨o, z.keep _ _ ho, hp⟩
    refine x_iter_list (hli z) fun I2 h k2 hI2 hIt2 => ?_
    replace z := z.add k2 hI2 hIt2.choose_spec.1 hIt2.choose_spec.2
    have it2 := iter_list (prog := prog) (w := w) hh I2 l us
    have z2 : Z (Sb h₁) C (fr [x, y] [some (.ref l), yv]) [(I2, ListIt l 0), (I, ListIt a (i + 1)), (D, LstO [])] h := z
    clear z
    have loop : ∀ tk, codeAny (model prog w.w) A (.compLoop (.ListComp elt [⟨.Name x px, iter, [], 0⟩, ⟨.Name y py, .Name x qx, ifs, 0⟩] scope cpos) 1 (.ref I2) (.ref D) (compEnvC scope cl C env))
        (fun r s₅ => r = .ok .next ∧ ∃ m, m < vs.length - i ∧ PO2 (Sb h₁) C I D [x, y] (ListIt a) g d os vs.length m s₅) ⟨h, g, d, tk, os⟩ := fun tk => by
      refine codeAny_comp21 (PO3 (Sb h₁) C I I2 D [x, y] (.ref l) (ListIt a (i + 1)) (ListIt l) g d os us.length) ?_ us.length
        ⟨0, yv, h, tk, rfl, Nat.zero_le _, rfl, z2⟩
      clear z2
      intro n s q
      obtain ⟨j, yv, h, tk, rfl, hj, rfl, z⟩ := q
      by_cases hjl : j < us.length
      · refine it2.next j _ _ _ hjl (z.get 0 rfl) (hli z) fun u h tk hu hs hI' => ?_
        replace z := z.updE 0 rfl hs hI'.choose_spec.1 hI'.choose_spec.2
        refine x_stoName ce.toEnvL z 1 rfl (by simp) fun h tk z₁ _ => ?_
        clear z; rename Z _ _ _ _ _ => z
        refine wpAny_mono (inner j u C _ h tk hu ce (z.sub (List.nil_sublist _))) (fun ok s₂ q => ?_) fun _ _ q => q
        obtain ⟨rfl, tk', rfl⟩ := q
        exact ⟨rfl, us.length - (j + 1), nxt hjl, j + 1, some u, h, tk', rfl, hjl, rfl, z⟩
      · have hjn : j = us.length := atEnd hj hjl
        subst hjn
        refine it2.stop _ _ _ (z.get 0 rfl) (hli z) fun h tk hs => ?_
        exact ⟨rfl, vs.length - (i + 1), nxt hlt, i + 1, (some (.ref l), yv), h, tk, rfl, hlt, rfl, z.dropIt hs⟩
    exact codeAny_start21 (loop _) (it2.again _ _ _ (z2.get 0 rfl) (loop _))
  · have hin : i = vs.length := atEnd hi hlt
    subst hin
    refine it.stop _ _ _ (z.get 0 rfl) (hla z) fun h tk hs => ?_
    have z' := z.dropIt hs
    refine ⟨rfl, _, z'.ns, fun h' hs' => ?_⟩
    have zn := z'.toN_same hs'
    refine done D h' _ zn.keep (zn.led _ List.mem_cons_self) ?_
    cases e' : h₁.get? D with
    | none => rfl
    | some o' => exact absurd e' (zn.off _ List.mem_cons_self o')
/-- a list of two, taken apart -/
theorem x_unpack2 {a : Addr} {u v : Value} {h : Heap} {tk : Nat} {Q : List Value → Shared → Prop} (hh : A.handled = none) (hl : ∃ o, h.get? a = some o ∧ LstO [u, v] o) (k : ∀ h' tk', Keep h h' → Q [u, v] ⟨h', g, d, tk', os⟩) :
    wpAny (model prog w.w) A (unpackItems (.ref a) 2 none) Q E ⟨h, g, d, tk, os⟩ := by
  have hL : h.IsList a [u, v].toArray := Lst.isList (h := h) hl
  have hT : Shared.TypeIs ⟨h, g, d, tk, os⟩ (.ref a) "list" := (LstO.type hl).1
  unfold unpackItems
  refine wpAny_bind ?_
  unfold notIterableAtAll
  refine wpAny_bind (wpAny_specialOf hT F.slot_list_iter.lookup ?_)
  refine wpAny_pure ?_
  simp only [Bool.false_eq_true, if_false]
  refine wpAny_bind (wpAny_holding (x_iter_list hL fun I h₁ k₁ hI hIt => ?_))
  have it := iter_list (prog := prog) (w := w) hh I a [u, v]
  have ne : a ≠ I := fun q => by obtain ⟨o, ho, _⟩ := hl; rw [q, hI] at ho; cases ho
  have hL1 : h₁.IsList a [u, v].toArray := let ⟨o, ho, hp⟩ := hl; Lst.isList ⟨o, k₁ _ _ ho, hp⟩
  have up : ∀ {h h' : Heap}, Heap.ExtBut I h h' → h.IsList a [u, v].toArray → h'.IsList a [u, v].toArray := fun hs x => x.extBut hs ne
  have kp : ∀ {h' : Heap}, Heap.ExtBut I h₁ h' → Keep h h' := fun hs b o e => hs b o (fun q => by rw [q, hI] at e; cases e) (k₁ _ _ e)
  refine wpAny_bind (wpAny_holding ?_)
  show wpAny _ _ (pyNext (.ref I) >>= _) _ _ _
  refine wpAny_bind (it.next 0 _ _ _ (by simp) hIt hL1 fun v0 h₂ tk₂ hv0 hs₂ hI₂ => ?_)
  obtain rfl : u = v0 := by simpa using hv0
  refine wpAny_bind (wpAny_holding ?_)
  show wpAny _ _ (pyNext (.ref I) >>= _) _ _ _
  refine wpAny_bind (it.next 1 _ _ _ (by simp) hI₂ (up hs₂ hL1) fun v1 h₃ tk₃ hv1 hs₃ hI₃ => ?_)
  obtain rfl : v = v1 := by simpa using hv1
  refine wpAny_bind (wpAny_holding (wpAny_pure (wpAny_pure (wpAny_pure ?_))))
  simp only [List.length_cons, List.length_nil, Nat.lt_irrefl, if_false]
  refine wpAny_bind (wpAny_holding (it.stop _ _ _ hI₃ (up hs₃ (up hs₂ hL1)) fun h₄ tk₄ hs₄ => ?_))
  simp only [Option.isSome_none, Bool.false_eq_true, if_false]
  exact wpAny_pure (k _ _ (kp fun b o hb e => hs₄ b o hb (hs₃ b o hb (hs₂ b o hb e))))
end
end Mine
namespace Mine
/-- the six signs -/
noncomputable def lets : List Nat := [97, 98, 42, 63, 92, 91]
noncomputable def letter (x : Int) : Nat := lets.getD (Int.fmod x 6).toNat 0
noncomputable def drawnOf (ns : List Int) : List Nat := (ns.take 3).map letter
noncomputable def aheadOf (ns : List Int) : List Nat := ((ns.take 5).drop 3).map letter
noncomputable def text0 (ns : List Int) : List Nat := [42] ++ drawnOf ns ++ [92, 42, 63, 42, 98, 91]
noncomputable def text1 (ns : List Int) : List Nat := aheadOf ns ++ [97] ++ drawnOf ns ++ [42, 97, 98, 91, 98, 91]
noncomputable def text2 (ns : List Int) : List Nat := drawnOf ns ++ [92]
noncomputable def unitsOf (ns : List Int) : List (List Nat) := (unitsP (text0 ns)).map (·.2)
noncomputable def wordOf (ns : List Int) : List Nat := (unitsP (text1 ns)).map fun p => p.2.getLastD 0
theorem letter_mem (x : Int) : letter x ∈ lets := by
  unfold letter
  have h1 := Int.fmod_nonneg_of_pos x (by decide : (0 : Int) < 6)
  have h2 := Int.fmod_lt_of_pos x (by decide : (0 : Int) < 6)
  have : (Int.fmod x 6).toNat < 6 := by lia
  generalize (Int.fmod x 6).toNat = k at this
  have : k = 0 ∨ k = 1 ∨ k = 2 ∨ k = 3 ∨ k = 4 ∨ k = 5 := by lia
  rcases this with rfl | rfl | rfl | rfl | rfl | rfl <;> decide
theorem drawn_len (ns : List Int) : (drawnOf ns).length ≤ 3 := by unfold drawnOf; rw [List.length_map]; exact List.length_take_le _ _
theorem ahead_len (ns : List Int) : (aheadOf ns).length ≤ 2 := by unfold aheadOf; rw [List.length_map, List.drop_take]; exact List.length_take_le _ _
theorem drawn_mem (ns : List Int) : ∀ c ∈ drawnOf ns, c ∈ lets := by
  intro c hc
  unfold drawnOf at hc
  obtain ⟨x, _, rfl⟩ := List.mem_map.mp hc
  exact letter_mem x
theorem ahead_mem (ns : List Int) : ∀ c ∈ aheadOf ns, c ∈ lets := by
  intro c hc
  unfold aheadOf at hc
  obtain ⟨x, _, rfl⟩ := List.mem_map.mp hc
  exact letter_mem x
theorem text0_len (ns : List Int) : (text0 ns).length ≤ 10 := by
  have := drawn_len ns
  unfold text0; simp only [List.length_append, List.length_cons, List.length_nil]; lia
theorem text1_len (ns : List Int) : (text1 ns).length ≤ 12 := by
  have := drawn_len ns
  have := ahead_len ns
  unfold text1; simp only [List.length_append, List.length_cons, List.length_nil]; lia
theorem text2_len (ns : List Int) : (text2 ns).length ≤ 4 := by
  have := drawn_len ns
  unfold text2; simp only [List.length_append, List.length_cons, List.length_nil]; lia
theorem text0_mem (ns : List Int) : ∀ c ∈ text0 ns, c ∈ lets := by
  intro c hc
  unfold text0 at hc
  rcases List.mem_append.mp hc with hc | hc
  · rcases List.mem_append.mp hc with hc | hc
    · rw [List.mem_singleton] at hc; subst hc; decide
    · exact drawn_mem ns c hc
  · simp only [List.mem_cons, List.not_mem_nil, or_false] at hc
    rcases hc with rfl | rfl | rfl | rfl | rfl | rfl <;> decide
theorem text1_mem (ns : List Int) : ∀ c ∈ text1 ns, c ∈ lets := by
  intro c hc
  unfold text1 at hc
  rcases List.mem_append.mp hc with hc | hc
  · rcases List.mem_append.mp hc with hc | hc
    · rcases List.mem_append.mp hc with hc | hc
      · exact ahead_mem ns c hc
      · rw [List.mem_singleton] at hc; subst hc; decide
    · exact drawn_mem ns c hc
  · simp only [List.mem_cons, List.not_mem_nil, or_false] at hc
    rcases hc with rfl | rfl | rfl | rfl | rfl | rfl <;> decide
/-- what a unit is -/
structure UnitOk (u : List Nat) : Prop where
  ne : u ≠ []
  len : u.length ≤ 2
  last : u.getLastD 0 ∈ lets
theorem units_ok {text : List Nat} (h : ∀ c ∈ text, c ∈ lets) : ∀ p ∈ unitsP text, UnitOk p.2 := by
  intro p hp
  unfold unitsP unitsAt at hp
  obtain ⟨k, hk, hp⟩ := List.mem_flatMap.mp hp
  have hk := List.mem_range.mp hk
  have hc : text.getD (k : Int).toNat 0 ∈ lets := by
    have e : (k : Int).toNat = k := rfl
    rw [e, List.getD_eq_getElem?_getD, List.getElem?_eq_getElem hk]
    exact h _ (List.getElem_mem hk)
  unfold unitOf at hp
  split at hp
  · rw [Option.toList_some, List.mem_singleton] at hp; subst hp
    exact ⟨by simp, by simp, by simpa using hc⟩
  · split at hp
    · rw [Option.toList_some, List.mem_singleton] at hp; subst hp
      exact ⟨by simp, by simp, by simpa using hc⟩
    · cases hp
/-- the sign that stands for a unit -/
noncomputable def sgOf (u : List Nat) : Sg := if u = [42] then .star else if u = [63] then .ask else if u.getLastD 0 ∈ [42, 63, 91] then .br (u.getLastD 0) else .lit (u.getLastD 0)
theorem sgOf_ok {u : List Nat} (h : UnitOk u) : (sgOf u).Ok := by
  unfold sgOf
  split
  · trivial
  · split
    · trivial
    · split
      · rename_i hm
        show _ ∨ _ ∨ _
        simpa using hm
      · rename_i hm
        have := h.last
        show _ ∨ _ ∨ _
        simp only [lets, List.mem_cons, List.not_mem_nil, or_false] at this hm
        lia
theorem sgOf_unit (u : List Nat) : UnitSg u (sgOf u) := by
  unfold sgOf
  split
  · assumption
  · split
    · assumption
    · split
      · exact ⟨by assumption, by assumption, rfl⟩
      · exact ⟨by assumption, by assumption, rfl⟩
theorem sgs_units : ∀ us : List (List Nat), UnitSgs us (us.map sgOf)
  | [] => .nil
  | u :: us => .cons (sgOf_unit u) (sgs_units us)
theorem word_len (ns : List Int) : (wordOf ns).length ≤ 12 := by
  unfold wordOf
  rw [List.length_map]
  have := unitsAt_len (text1 ns) (text1 ns).length
  have := text1_len ns
  unfold unitsP; lia
theorem units_len (ns : List Int) : (unitsOf ns).length ≤ 10 := by
  unfold unitsOf
  rw [List.length_map]
  have := unitsAt_len (text0 ns) (text0 ns).length
  have := text0_len ns
  unfold unitsP; lia
theorem unitsOf_ok (ns : List Int) : ∀ u ∈ unitsOf ns, UnitOk u := by
  intro u hu
  unfold unitsOf at hu
  obtain ⟨p, hp, rfl⟩ := List.mem_map.mp hu
  exact units_ok (text0_mem ns) p hp
end Mine
namespace Mine
/-- lists of pairs, one behind the other -/
inductive PLs (N : Addr → Obj → Prop) : List Value → List (List (Int × List Nat)) → Prop
  | nil : PLs N [] []
  | cons {l : Addr} {vs : List Value} {ps : List (Int × List Nat)} {pss : List (List (Int × List Nat))} (h : Pairs N l ps) (r : PLs N vs pss) : PLs N (.ref l :: vs) (ps :: pss)
theorem PLs.mono {N N' : Addr → Obj → Prop} (s : ∀ b o, N b o → N' b o) {vs : List Value} {pss : List (List (Int × List Nat))} (x : PLs N vs pss) : PLs N' vs pss := by
  induction x with
  | nil => exact .nil
  | cons h _ ih => obtain ⟨o, vs, a, b, c⟩ := h; exact .cons ⟨o, vs, s _ _ a, b, c.mono s⟩ ih
theorem PLs.snoc {N : Addr → Obj → Prop} {vs : List Value} {pss : List (List (Int × List Nat))} (x : PLs N vs pss) {l : Addr} {ps : List (Int × List Nat)} (h : Pairs N l ps) : PLs N (vs ++ [.ref l]) (pss ++ [ps]) := by
  induction x with
  | nil => exact .cons h .nil
  | cons h' _ ih => exact .cons h' ih
theorem PLs.len {N : Addr → Obj → Prop} {vs : List Value} {pss : List (List (Int × List Nat))} (x : PLs N vs pss) : vs.length = pss.length := by
  induction x with
  | nil => rfl
  | cons _ _ ih => simp [ih]
theorem PLs.at {N : Addr → Obj → Prop} {vs : List Value} {pss : List (List (Int × List Nat))} (x : PLs N vs pss) {i : Nat} {v : Value} (h : vs[i]? = some v) : ∃ l ps, v = .ref l ∧ pss[i]? = some ps ∧ Pairs N l ps := by
  induction x generalizing i with
  | nil => simp at h
  | @cons l vs ps pss hp _ ih =>
    cases i with
    | zero => obtain rfl : Value.ref l = v := by simpa using h
              exact ⟨l, ps, rfl, rfl, hp⟩
    | succ i => exact ih h
theorem PairsV.at {N : Addr → Obj → Prop} {vs : List Value} {ps : List (Int × List Nat)} (x : PairsV N vs ps) {i : Nat} {v : Value} (h : vs[i]? = some v) : ∃ p, ps[i]? = some p ∧ PairV N v p := by
  induction x generalizing i with
  | nil => simp at h
  | @cons v' p vs ps hp _ ih =>
    cases i with
    | zero => obtain rfl : v' = v := by simpa using h
              exact ⟨p, rfl, hp⟩
    | succ i => exact ih h
noncomputable def pairD (p : Int × List Nat) : PyData := .tuple [.int p.1, .str (S p.2)]
noncomputable def listD (ps : List (Int × List Nat)) : PyData := .list (ps.map pairD)
section
variable {N : Addr → Obj → Prop} {h : Heap}
theorem PairsV.reads (k : ∀ b o, N b o → h.get? b = some o) {vs : List Value} {ps : List (Int × List Nat)} (x : PairsV N vs ps) : ∃ as, ReadsAll h vs (ps.map pairD) as := by
  induction x with
  | nil => exact ⟨_, .nil⟩
  | cons y _ ih =>
    obtain ⟨as, r⟩ := ih
    obtain ⟨a, o, t, u, rfl, q, rfl⟩ := y
    exact ⟨_, .cons (.tuple (k _ _ q) rfl rfl (.cons (.int _ _) (.cons (.str _ _) .nil))) r⟩
theorem PLs.reads (k : ∀ b o, N b o → h.get? b = some o) {vs : List Value} {pss : List (List (Int × List Nat))} (x : PLs N vs pss) : ∃ as, ReadsAll h vs (pss.map listD) as := by
  induction x with
  | nil => exact ⟨_, .nil⟩
  | cons y _ ih =>
    obtain ⟨as, r⟩ := ih
    obtain ⟨o, vs, q, ⟨n, rfl⟩, pv⟩ := y
    obtain ⟨bs, rb⟩ := pv.reads k
    exact ⟨_, .cons (.list (k _ _ q) rfl rfl rb) r⟩
theorem reads_list {a : Addr} {vs : List Value} {ds : List PyData} {as : List Addr} (hl : ∃ o, h.get? a = some o ∧ LstO vs o) (r : ReadsAll h vs ds as) : Reads h (.ref a) (.list ds) (a :: as) := by
  obtain ⟨o, ho, n, rfl⟩ := hl
  exact .list ho rfl rfl r
theorem strs_reads {vs : List Value} {ls : List (List Nat)} (x : StrsAre vs (ls.map S)) : ∃ as, ReadsAll h vs (ls.map fun l => .str (S l)) as := by
  induction ls generalizing vs with
  | nil => cases x; exact ⟨_, .nil⟩
  | cons l ls ih =>
    cases x with
    | cons _ t r =>
      obtain ⟨as, q⟩ := ih r
      exact ⟨_, .cons (.str _ _) q⟩
end
theorem strOk_S {l : List Nat} (h : ∀ c ∈ l, c ∈ lets) : PyData.strOk (S l) = true := by
  unfold PyData.strOk S
  rw [Array.all_eq_true_iff_forall_mem]
  intro c hc
  have := h c (by simpa using hc)
  simp only [lets, List.mem_cons, List.not_mem_nil, or_false] at this
  rcases this with rfl | rfl | rfl | rfl | rfl | rfl <;> decide
theorem lay_list {α : Type} {f : α → PyData} {l : List α} (h : ∀ x ∈ l, (f x).canLay0 = true) : PyData.canLayAll0 (l.map f) = true := by
  induction l with
  | nil => rfl
  | cons x l ih =>
    rw [List.map_cons, PyData.canLayAll0, h x List.mem_cons_self, ih fun y hy => h y (List.mem_cons_of_mem _ hy)]; rfl
theorem units_chars {text : List Nat} (h : ∀ c ∈ text, c ∈ lets) : ∀ p ∈ unitsP text, ∀ c ∈ p.2, c ∈ lets := by
  intro p hp
  unfold unitsP unitsAt at hp
  obtain ⟨k, hk, hp⟩ := List.mem_flatMap.mp hp
  have hk := List.mem_range.mp hk
  have hc : text.getD (k : Int).toNat 0 ∈ lets := by
    have e : (k : Int).toNat = k := rfl
    rw [e, List.getD_eq_getElem?_getD, List.getElem?_eq_getElem hk]
    exact h _ (List.getElem_mem hk)
  unfold unitOf at hp
  split at hp
  · rw [Option.toList_some, List.mem_singleton] at hp; subst hp
    intro c hm
    simp only [List.mem_append, List.mem_singleton] at hm
    rcases hm with rfl | rfl
    · decide
    · exact hc
  · split at hp
    · rw [Option.toList_some, List.mem_singleton] at hp; subst hp
      intro c hm
      rw [List.mem_singleton] at hm; subst hm; exact hc
    · cases hp
theorem text2_mem (ns : List Int) : ∀ c ∈ text2 ns, c ∈ lets := by
  intro c hc
  unfold text2 at hc
  rcases List.mem_append.mp hc with hc | hc
  · exact drawn_mem ns c hc
  · rw [List.mem_singleton] at hc; subst hc; decide
noncomputable def textsOf (ns : List Int) : List (List Nat) := [text0 ns, text1 ns, text2 ns]
noncomputable def toldD (ns : List Int) : List PyData := ((textsOf ns).map unitsP).map listD
theorem lay_pairs {text : List Nat} (h : ∀ c ∈ text, c ∈ lets) : (listD (unitsP text)).canLay0 = true := by
  unfold listD
  rw [PyData.canLay0]
  refine lay_list fun p hp => ?_
  unfold pairD
  rw [PyData.canLay0, PyData.canLayAll0, PyData.canLayAll0, PyData.canLayAll0, PyData.canLay0, PyData.canLay0, strOk_S (units_chars h p hp)]
  rfl
theorem depth_le {k : Nat} {α : Type} {f : α → PyData} {l : List α} (h : ∀ x ∈ l, (f x).depth ≤ k) : PyData.depthAll (l.map f) ≤ k := by
  induction l with
  | nil => exact Nat.zero_le _
  | cons x l ih =>
    rw [List.map_cons, PyData.depthAll]
    exact Nat.max_le.mpr ⟨h x List.mem_cons_self, ih fun y hy => h y (List.mem_cons_of_mem _ hy)⟩
theorem depth_told (ns : List Int) : PyData.depth (.list (toldD ns)) ≤ 3 := by
  rw [PyData.depth]
  refine Nat.succ_le_succ (depth_le fun ps _ => ?_)
  unfold listD
  rw [PyData.depth]
  refine Nat.succ_le_succ (depth_le fun p _ => ?_)
  exact Nat.le_refl _
theorem depth_heads (ls : List (List (List Nat))) : PyData.depth (.list (ls.map fun l => .list (l.map fun t => .str (S t)))) ≤ 2 := by
  rw [PyData.depth]
  refine Nat.succ_le_succ (depth_le fun l _ => ?_)
  rw [PyData.depth]
  exact Nat.succ_le_succ (depth_le fun t _ => Nat.le_refl _)
theorem lay_told (ns : List Int) : PyData.canLay0 (.list (toldD ns)) = true := by
  rw [PyData.canLay0]
  unfold toldD
  refine lay_list fun ps hps => ?_
  obtain ⟨t, ht, rfl⟩ := List.mem_map.mp hps
  refine lay_pairs ?_
  unfold textsOf at ht
  simp only [List.mem_cons, List.not_mem_nil, or_false] at ht
  rcases ht with rfl | rfl | rfl
  · exact text0_mem ns
  · exact text1_mem ns
  · exact text2_mem ns
theorem lay_heads {ls : List (List (List Nat))} (h : ∀ l ∈ ls, ∀ t ∈ l, ∀ c ∈ t, c ∈ lets) : PyData.canLay0 (.list (ls.map fun l => .list (l.map fun t => .str (S t)))) = true := by
  rw [PyData.canLay0]
  refine lay_list fun l hl => ?_
  rw [PyData.canLay0]
  refine lay_list fun t ht => ?_
  rw [PyData.canLay0]
  exact strOk_S (h l hl t ht)
end Mine
namespace Mine
section
variable {prog : Program} {w : WK} {A : Around} {E : Value → Shared → Prop} {env : Env} {d : Drawn} {os : OsState} {g : Array GenState}
variable {L : Addr} {names gl cn : List Str} {ca : List Addr}
theorem owned_list {elts : List Expr} {x1 : Nat} {pos : Pos} {I a T : Addr} {i : Nat} {h : Heap} {tk : Nat} {Q : Unit → Shared → Prop} (hI : ∃ o, h.get? I = some o ∧ ListIt a i o) (k : Q () ⟨h, g, d, tk, os⟩) :
    wpAny (model prog w.w) A (letOwnedTupleGo (.Tuple elts x1 pos) (.ref I) (.ref T)) Q E ⟨h, g, d, tk, os⟩ := by
  obtain ⟨⟨c, dd, da, sl⟩, ho, hc, hd⟩ := hI
  dsimp only at hc hd
  subst hc hd
  unfold letOwnedTupleGo
  refine wpAny_bind (wpAny_load (s := ⟨h, g, d, tk, os⟩) ho ?_)
  exact wpAny_pure k
inductive PPe (g : Array GenState) (d : Drawn) (os : OsState) (h : Heap) (J : List Value → Prop) (acc : List Value) (y : Value) (s : Shared) : Prop
  | mk (tk' : Nat) (e : s = ⟨h, g, d, tk', os⟩) (j : J (acc ++ [y]))
inductive PPr (M : Model) (A : Around) (g : Array GenState) (d : Drawn) (os : OsState) (x y : Str) (cgl : List Str) (elt : Expr) (J : Nat → List Value → Prop) (Q : Value → Shared → Prop) (xv : Value) (s₁ : Shared) : Prop
  | mk (h₁ : Heap) (tk₁ : Nat) (a : Addr) (vs : List Value) (ps : List (Int × List Nat)) (e : s₁ = ⟨h₁, g, d, tk₁, os⟩) (e1 : xv = .ref a) (hl : ∃ o, h₁.get? a = some o ∧ LstO vs o) (pv : PairsV (Sb h₁) vs ps) (hn : ps.length ≤ 1000) (j0 : J 0 []) (jl : ∀ i acc, J i acc → acc.length ≤ i)
      (turn : ∀ (i : Nat) (p : Int × List Nat) (acc : List Value) (C : Addr) (cenv : Env) (h : Heap) (tk : Nat) (t u : Tok), ps[i]? = some p → J i acc → EnvC cenv C [x, y] cgl [] [] →
        Z (Sb h₁) C (fr [x, y] [some (.int p.1 t), some (.str (S p.2) u)]) [] h → wpAny M A (eval elt cenv) (PPe g d os h (J (i + 1)) acc) (fun _ _ => False) ⟨h, g, d, tk, os⟩)
      (done : ∀ D acc h' tk', J ps.length acc → Keep h₁ h' → (∃ o, h'.get? D = some o ∧ LstO acc o) → h₁.get? D = none → Q (.ref D) ⟨h', g, d, tk', os⟩)
inductive PPl (B : Addr → Obj → Prop) (C I D : Addr) (names : List Str) (It : Nat → Obj → Prop) (g : Array GenState) (d : Drawn) (os : OsState) (cnt : Nat) (J : Nat → List Value → Prop) (n : Nat) (s : Shared) : Prop
  | mk (i : Nat) (acc : List Value) (xv yv : Option Value) (h : Heap) (tk : Nat) (e : s = ⟨h, g, d, tk, os⟩) (hi : i ≤ cnt) (hn : n = cnt - i) (j : J i acc) (z : Z B C (fr names [xv, yv]) [(D, LstO acc), (I, It i)] h)
/-- [elt for x, y in a list of pairs], the heap left alone -/
theorem x_pairComp {elt iter : Expr} {x y : Str} {px py tp : Pos} {kk : Nat} {scope : Scope} {cpos : Pos} {Q : Value → Shared → Prop} {s : Shared} (hh : A.handled = none)
    (e : EnvC env L names gl cn ca) (cgl : List Str) (co : CompOk scope [x, y] cgl []) (J : Nat → List Value → Prop)
    (k : wpAny (model prog w.w) A (eval iter env) (PPr (model prog w.w) A g d os x y cgl elt J Q) E s)
    (hs : ∀ x, foldedSetIterable iter env x = pure x := by intro _; rfl) :
    wpAny (model prog w.w) A (eval (.ListComp elt [⟨.Tuple [.Name x px, .Name y py] kk tp, iter, [], 0⟩] scope cpos) env) Q E s := by
  refine x_compC (d := d) (os := os) e [x, y] cgl [] [] co rfl (fun i x c hx => by simp at hx) (wpAny_mono k (fun xv s₁ q => ?_) fun _ _ e => e) hs
  obtain ⟨h₁, tk₁, a, vs, ps, rfl, rfl, hl, pv, hn, j0, jl, turn, done⟩ := q
  have hvl := pv.len
  refine ⟨h₁, tk₁, g, rfl, x_iter_list (Lst.isList (h := h₁) hl) fun I h₂ k₂ hI hIt => ?_⟩
  refine ⟨I, h₂, _, _, _, _, _, rfl, rfl, k₂, hI, hIt, iter_list hh I a vs, fun C D h₃ tk₃ cenv ce zc => ?_⟩
  refine LCp.codeAny_compLoop_pair (PPl (Sb h₁) C I D [x, y] (ListIt a) g d os vs.length J) ?_ vs.length
    ⟨0, [], none, none, h₃, tk₃, rfl, Nat.zero_le _, rfl, j0, zc⟩
  intro n s' q
  obtain ⟨i, acc, xv, yv, h, tk, rfl, hi, rfl, hJ, z⟩ := q
  have it := iter_list (prog := prog) (w := w) hh I a vs
  have hla : ∀ {m n h}, Z (Sb h₁) C m n h → h.IsList a vs.toArray := fun z => let ⟨o, ho, hp⟩ := hl; Lst.isList ⟨o, z.keep _ _ ho, hp⟩
  by_cases hlt : i < vs.length
  · refine it.next i _ _ _ hlt (z.get 1 rfl) (hla z) fun v h tk hv hs hI' => ?_
    replace z := z.updE 1 rfl hs hI'.choose_spec.1 hI'.choose_spec.2
    obtain ⟨p, hp, T, o, t, u, rfl, ho, hT⟩ := pv.at hv
    have hT' : ∃ o, h.get? T = some o ∧ TupO [.int p.1 t, .str (S p.2) u] o := ⟨o, z.keep _ _ ho, hT⟩
    refine owned_list (z.get 1 rfl) ?_
    refine wpAny_assign_Tuple (s := ⟨h, g, d, tk, os⟩) hh (Tup.isTuple (h := h) hT') rfl rfl fun h₄ hx₄ => ?_
    have z₄ := z.keepAll (Keep.ext hx₄)
    show wpAny (model prog w.w) A (assignInOrder [assign (.Name x px) cenv, assign (.Name y py) cenv] [.int p.1 t, .str (S p.2) u]) _ _ ⟨h₄, g, d, tk, os⟩
    refine wpAny_assignInOrder_more (x_stoName ce.toEnvL z₄ 0 rfl (by simp) fun h₅ tk₅ z₅ _ => ?_)
    refine wpAny_assignInOrder_more (x_stoName ce.toEnvL z₅ 1 rfl (by simp) fun h₆ tk₆ z₆ _ => ?_)
    refine wpAny_assignInOrder_none ?_
    refine wpAny_mono (turn i p acc C cenv h₆ _ t u hp hJ ce (z₆.sub (List.nil_sublist _))) (fun y s₃ q => ?_) fun _ _ q => q.elim
    obtain ⟨tk', rfl, j⟩ := q
    refine wpAny_list_append_plain (hsz := by rw [List.size_toArray, sizeLine_eq]; have := jl _ _ hJ; lia) (Lst.plain (z₆.get 0 rfl)) fun h₇ hl₇ hs₇ => ?_
    obtain ⟨nn, e7⟩ := hl₇
    exact ⟨vs.length - (i + 1), nxt hlt, i + 1, acc ++ [y], some _, some _, h₇, tk', rfl, hlt, rfl, j, z₆.upd 0 rfl hs₇ e7 ⟨nn, by simp⟩⟩
  · have hin : i = vs.length := atEnd hi hlt
    subst hin
    refine it.stop _ _ _ (z.get 1 rfl) (hla z) fun h' tk' hs => ?_
    have z' := (z.perm (List.Perm.swap ..)).dropIt hs
    refine ⟨rfl, acc, [], h', tk', g, _, rfl, z', fun h' zn => ?_⟩
    rw [hvl] at hJ
    refine done D acc h' _ hJ zn.keep (zn.led _ List.mem_cons_self) ?_
    cases e' : h₁.get? D with
    | none => rfl
    | some o' => exact absurd e' (zn.off _ List.mem_cons_self o')
end
end Mine
namespace Mine
section
variable {prog : Program} {w : WK} {A : Around} {E : Value → Shared → Prop} {env : Env} {d : Drawn} {os : OsState} {g : Array GenState}
variable {s : Shared}
theorem swapped_cell {x y : Str} {px py tp vp : Pos} {k₁ k₂ : Nat} {e₁ e₂ : Expr} (hx : env.kindOf x = some .cell) :
    swappedStores [.Tuple [.Name x px, .Name y py] k₁ tp] (.Tuple [e₁, e₂] k₂ vp) env = pure none := by
  unfold swappedStores
  have h1 : (some NameKind.cell == some NameKind.local) = false := by decide
  simp only [List.length_cons, List.length_nil, List.head?_cons, Option.map_some, Option.getD_some, List.filterMap_cons, List.filterMap_nil, Expr.pos, hx, h1, Bool.false_and, Bool.false_eq_true, if_false]
  split
  · rfl
  · split
    · rfl
    · rw [if_pos ?_]
      rw [Bool.or_eq_true]
      left
      by_cases hc : (env.kindOf y == some NameKind.local && py.line == px.line) = true
      · simp only [hc, if_true]; rfl
      · simp only [hc, if_false]; rfl
noncomputable def QTw (M : Model) (A : Around) (E : Value → Shared → Prop) (env : Env) (y : Str) (py : Pos) (v : Value) (Q : Flow → Shared → Prop) (_ : Unit) (s : Shared) : Prop := wpAny M A (assign (.Name y py) env v) (fun _ => Q .next) E s
inductive PTwo (M : Model) (A : Around) (E : Value → Shared → Prop) (env : Env) (g : Array GenState) (d : Drawn) (os : OsState) (x y : Str) (px py : Pos) (Q : Flow → Shared → Prop) (vs : List Value) (s₂ : Shared) : Prop
  | mk (h₂ : Heap) (tk₂ : Nat) (v₁ v₂ : Value) (e : s₂ = ⟨h₂, g, d, tk₂, os⟩) (e1 : vs = [v₁, v₂]) (q : ∀ h', Keep h₂ h' → wpAny M A (assign (.Name x px) env v₁) (QTw M A E env y py v₂ Q) E ⟨h', g, d, tk₂, os⟩)
/-- a pair, stored in two names -/
theorem x_two_tup {x y : Str} {px py tp vp pos : Pos} {k₁ k₂ : Nat} {e₁ e₂ : Expr} {Q : Flow → Shared → Prop} (hh : A.handled = none) (hx : env.kindOf x = some .cell)
    (k : wpAny (model prog w.w) A (evs env [e₁, e₂]) (PTwo (model prog w.w) A E env g d os x y px py Q) E s)
    (hs : backTo vp (starEach [e₁, e₂] env) = [e₁, e₂].map fun e => (false, eval e env) := by rfl) (h0 : swapsWithSole [.Tuple [.Name x px, .Name y py] k₁ tp] (.Tuple [e₁, e₂] k₂ vp) pos.line env = pure false := by rfl) :
    wpAny (model prog w.w) A (exec (.Assign [.Tuple [.Name x px, .Name y py] k₁ tp] (.Tuple [e₁, e₂] k₂ vp) pos) env) Q E s := by
  refine Assign_Tuple ?_ h0 (swapped_cell hx)
  refine x_tuple (g := g) (d := d) (os := os) (wpAny_mono k (fun vs s₂ hh₂ => ?_) fun _ _ e => e) hs
  obtain ⟨h₂, tk₂, v₁, v₂, rfl, rfl, q⟩ := hh₂
  refine ⟨h₂, tk₂, rfl, by simp, fun a h₃ k₃ hn ht => ?_⟩
  refine wpAny_assign_Tuple (s := ⟨h₃, g, d, tk₂, os⟩) hh (Tup.isTuple (h := h₃) ht) rfl rfl fun h₄ hx₄ => ?_
  show wpAny (model prog w.w) A (assignInOrder [assign (.Name x px) env, assign (.Name y py) env] [v₁, v₂]) _ E ⟨h₄, g, d, tk₂, os⟩
  refine wpAny_assignInOrder_more (wpAny_mono (q h₄ (k₃.trans (Keep.ext hx₄))) (fun _ s₁ q => ?_) fun _ _ e => e)
  exact wpAny_assignInOrder_more (wpAny_mono q (fun _ s₁ q => wpAny_assignInOrder_none q) fun _ _ e => e)
end
theorem sub_six {c : Nat} (h : c ∈ lets) : subIn [c] [42, 63, 91] = decide (c ∈ [42, 63, 91]) := by
  simp only [lets, List.mem_cons, List.not_mem_nil, or_false] at h
  rcases h with rfl | rfl | rfl | rfl | rfl | rfl <;> decide +kernel
theorem text_sig {u : List Nat} (h : ([[42], [63]].any fun x => x == u) = true) : (sgOf u).text = u := by
  simp only [List.any_cons, List.any_nil, Bool.or_false, Bool.or_eq_true, beq_iff_eq] at h
  rcases h with rfl | rfl <;> rfl
theorem text_br {u : List Nat} (h : ([[42], [63]].any fun x => x == u) = false) (hc : u.getLastD 0 ∈ [42, 63, 91]) : (sgOf u).text = [91] ++ [u.getLastD 0] ++ [93] := by
  simp only [List.any_cons, List.any_nil, Bool.or_false, Bool.or_eq_false_iff, beq_eq_false_iff_ne] at h
  unfold sgOf
  rw [if_neg (Ne.symm h.1), if_neg (Ne.symm h.2), if_pos hc]; rfl
theorem text_lit {u : List Nat} (h : ([[42], [63]].any fun x => x == u) = false) (hc : u.getLastD 0 ∉ [42, 63, 91]) : (sgOf u).text = [u.getLastD 0] := by
  simp only [List.any_cons, List.any_nil, Bool.or_false, Bool.or_eq_false_iff, beq_eq_false_iff_ne] at h
  unfold sgOf
  rw [if_neg (Ne.symm h.1), if_neg (Ne.symm h.2), if_neg hc]; rfl
noncomputable def sgsOf (ns : List Int) : List Sg := (unitsOf ns).map sgOf
noncomputable def headsOf (ns : List Int) : List (List Nat) := (List.range ((wordOf ns).length + 1)).map fun k => (wordOf ns).take k
theorem cut_take (l : List Nat) (k : Nat) : cut l none (some (k : Int)) = l.take k := by
  simp only [cut, Option.elim, clip_nat]
  rw [List.drop_zero]
  exact (List.take_eq_take_iff.mpr (by lia))
theorem heads_at (ns : List Int) {i : Nat} (hi : i < (wordOf ns).length + 1) : (headsOf ns)[i]? = some ((wordOf ns).take i) := by
  unfold headsOf
  rw [List.getElem?_map, List.getElem?_range hi]; rfl
theorem sgsOf_ok (ns : List Int) : ∀ s ∈ sgsOf ns, s.Ok := by
  intro s hs
  unfold sgsOf at hs
  obtain ⟨u, hu, rfl⟩ := List.mem_map.mp hs
  exact sgOf_ok (unitsOf_ok ns u hu)
theorem word_mem (ns : List Int) : ∀ c ∈ wordOf ns, c ∈ lets := by
  intro c hc
  unfold wordOf at hc
  obtain ⟨p, hp, rfl⟩ := List.mem_map.mp hc
  exact (units_ok (text1_mem ns) p hp).last
theorem flat_sgs (ns : List Int) : ((unitsOf ns).map fun u => (sgOf u).text).flatten = flat (sgsOf ns) := by
  unfold flat sgsOf
  rw [List.map_map]; rfl
theorem sgText_len (s : Sg) : s.text.length ≤ 3 := by cases s <;> simp [Sg.text]
theorem sgFlat_len (sgs : List Sg) : (flat sgs).length ≤ 3 * sgs.length := by
  unfold flat
  induction sgs with
  | nil => simp
  | cons s r ih => rw [List.map_cons, List.flatten_cons, List.length_append, List.length_cons]; have := sgText_len s; lia
end Mine
namespace Mine
section
variable {B : Addr → Obj → Prop} {L : Addr} {m : Str → Option Value} {n : Led} {h h' : Heap}
/-- the frame's own slots turned -/
theorem Z.own (z : Z B L m n h) (k : KeepF [L] h h') : Z B L m n h' := by
  refine Z.called (g := []) (g' := []) (X := [L]) (n₀ := n) z (fun b o _ hb e => k.off b o hb e) k.on (by intro p hp; cases hp) List.nodup_nil (by intro p hp; cases hp) (fun b o hb hq => ?_) fun p hp hq o sl ho => ?_
  · rw [List.mem_singleton] at hq; subst hq; exact z.apart o hb
  · rw [List.mem_singleton] at hq; exact absurd hq (z.off p hp).1
end
theorem filter_snoc {ls : List (List Nat)} {i : Nat} {y : List Nat} (p : List Nat → Bool) (h : ls[i]? = some y) : ((ls.take (i + 1)).filter p).map S = ((ls.take i).filter p).map S ++ (if p y = true then [S y] else []) := by
  obtain ⟨hi, rfl⟩ := List.getElem?_eq_some_iff.mp h
  rw [List.take_succ_eq_append_getElem hi, List.filter_append, List.map_append]
  cases hp : p ls[i] <;> simp [hp]
section
variable {prog : Program} {w : WK} {A : Around} {E : Value → Shared → Prop} {d : Drawn} {os : OsState} {g : Array GenState}
variable {h : Heap} {tk : Nat}
/-- a list, twice -/
theorem x_lmul2 {l : Addr} {vs : List Value} {u : Tok} {Q : Value → Shared → Prop} (hl : ∃ o, h.get? l = some o ∧ LstO vs o) (hn : vs.length ≤ 1000) (hne : vs ≠ [])
    (k : ∀ a h', Keep h h' → h.get? a = none → (∃ o, h'.get? a = some o ∧ LstO (vs ++ vs) o) → Q (.ref a) ⟨h', g, d, tk, os⟩) :
    wpAny (model prog w.w) A (binaryOp .Mult (.ref l) (.int 2 u)) Q E ⟨h, g, d, tk, os⟩ := by
  obtain ⟨o, hl, n, rfl⟩ := hl
  refine wpAny_binaryOp_repeat_ref (s := ⟨h, g, d, tk, os⟩) (T := "list") (U := "int") (by decide) ⟨_, hl, rfl⟩ (fun s' => typeIs_int s' 2 u) noFill_list_mul PySem.F.fills_int_mul PySem.F.slot_int_rmul repeat_list PySem.F.slot_int_index.lookup
    (call_meets PySem.F.slot_int_rmul (typeIs_int _ 2 u) PySem.F.entry_int_rmul (PySem.F.args_int_rmul_2 _ _) (int___rmul___int_list 2 u l vs.toArray n)
      ⟨hl, rfl, ⟨_, hl, rfl⟩, call_meets PySem.F.slot_list_mul ⟨_, hl, rfl⟩ PySem.F.entry_list_mul (PySem.F.args_list_mul_2 _ _)
        (AutoListH.list___mul___list_int_3 l vs.toArray n 2 u (by simp [Builtin.List.listFitsIndex]) (by rw [List.size_toArray, show (2 : Int).toNat = 2 from rfl]; lia) (by simp [Builtin.List.listTooLong, sizeLine]; lia))
        ⟨hl, ?_⟩⟩)
  refine k _ _ (Keep.push _ _) (get_size _) ⟨_, Heap.get?_push_size _ rfl, 0, ?_⟩
  have he : vs.toArray.isEmpty = false := by cases vs with | nil => exact absurd rfl hne | cons _ _ => rfl
  rw [he]
  simp [List.replicate]
end
end Mine
namespace Mine
theorem flatP4 {ps : List (Option (List Nat))} (h : ∀ p ∈ ps, (p.getD []).length ≤ 4) : ((ps.map (·.getD [])).flatten).length ≤ 4 * ps.length := by
  induction ps with
  | nil => simp
  | cons p ps ih =>
    rw [List.map_cons, List.flatten_cons, List.length_append, List.length_cons]
    have := h p List.mem_cons_self
    have := ih fun q hq => h q (List.mem_cons_of_mem _ hq)
    lia
theorem tw_dw {α : Type} (p : α → Bool) (l : List α) : (l.takeWhile p).length + (l.dropWhile p).length = l.length := by
  rw [← List.length_append, List.takeWhile_append_dropWhile]
theorem joinGo_len : ∀ (f : Nat) (l : List (Option (List Nat))), (∀ p ∈ l, (p.getD []).length ≤ 4) → (joinGo f l).length ≤ 11 * l.length
  | 0, l, _ => by simp [joinGo]
  | f + 1, [], _ => by simp [joinGo]
  | f + 1, p :: rest, h => by
    have e := tw_dw Option.isSome rest
    have h1 := flatP4 (ps := rest.takeWhile Option.isSome) fun q hq => h q (List.mem_cons_of_mem _ ((List.takeWhile_sublist _).subset hq))
    have h2 := joinGo_len f (rest.dropWhile Option.isSome) fun q hq => h q (List.mem_cons_of_mem _ ((List.dropWhile_sublist _).subset hq))
    rw [joinGo]
    split
    · simp only [List.length_cons, List.length_nil]; lia
    · split
      · simp only [List.length_append, List.length_cons, List.length_nil]; lia
      · simp only [List.length_append, List.length_cons, List.length_nil]; lia
theorem joinP_len {ps : List (Option (List Nat))} (h : ∀ p ∈ ps, (p.getD []).length ≤ 4) : (joinP ps).length ≤ 11 * ps.length + 7 := by
  unfold joinP
  have e := tw_dw Option.isSome ps
  have h1 := flatP4 (ps := ps.takeWhile Option.isSome) fun q hq => h q ((List.takeWhile_sublist _).subset hq)
  have h2 := joinGo_len ps.length (ps.dropWhile Option.isSome) fun q hq => h q ((List.dropWhile_sublist _).subset hq)
  simp only [List.length_append, List.length_cons, List.length_nil]; lia
theorem pieces_len (sgs : List Sg) : (piecesOf sgs).length ≤ sgs.length := by
  have gen : ∀ (sgs : List Sg) ps, (sgs.foldl addPiece ps).length ≤ ps.length + sgs.length := by
    intro sgs
    induction sgs with
    | nil => intro ps; simp
    | cons s r ih =>
      intro ps
      have := ih (addPiece ps s)
      have h1 : (addPiece ps s).length ≤ ps.length + 1 := by
        cases s <;> simp only [addPiece] <;> (try split) <;> simp
      rw [List.foldl_cons, List.length_cons]; lia
  have := gen sgs []
  simpa [piecesOf] using this
theorem made_len (ns : List Int) : (joinP (piecesOf (sgsOf ns))).length ≤ 1000 := by
  have h1 := joinP_len (pieces_small (sgsOf ns) (sgsOf_ok ns))
  have h2 := pieces_len (sgsOf ns)
  have h3 : (sgsOf ns).length ≤ 10 := by unfold sgsOf; rw [List.length_map]; exact units_len ns
  lia
end Mine
set_option maxHeartbeats 2000000
namespace Mine
section
variable {prog : Program} {w : WK} {A : Around} {E : Value → Shared → Prop} {env : Env} {d : Drawn} {os : OsState} {g : Array GenState}
variable {L : Addr} {names gl cn : List Str} {ca : List Addr}
/-- a list as a source -/
inductive PLL (prog : Program) (w : WK) (A : Around) (elt : Expr) (ifs : List Expr) (x : Str) (cgl ccn : List Str) (cca : List Addr) (d : Drawn) (os : OsState) (X : List Addr) (gs : Nat → Array GenState) (J : Nat → List Value → (Addr → Obj → Prop) → Prop) (Q : Value → Shared → Prop) (xv : Value) (s₁ : Shared) : Prop
  | mk (h₁ : Heap) (tk₁ : Nat) (a : Addr) (vs : List Value) (e : s₁ = ⟨h₁, gs 0, d, tk₁, os⟩) (e1 : xv = .ref a) (hl : ∃ o, h₁.get? a = some o ∧ LstO vs o) (haX : a ∉ X) (nd : X.Nodup) (hX : ∀ b ∈ X, ∃ o, h₁.get? b = some o) (hn : vs.length ≤ 10000) (j0 : J 0 [] (fun _ _ => False)) (jl : ∀ i acc N, J i acc N → acc.length ≤ i)
      (turn : ∀ (i : Nat) (v : Value) (acc : List Value) (N : Addr → Obj → Prop) (C : Addr) (cenv : Env) (h : Heap) (tk : Nat), vs[i]? = some v → J i acc N → EnvC cenv C [x] cgl ccn cca → Z (Gr (SbX X h₁) N) C (fr [x] [some v]) (xLed X h₁) h →
        wpAny (model prog w.w) A (tests ifs cenv) (QTe (model prog w.w) A cenv elt (fun y => PKp X gs d os J (i + 1) h N (acc ++ [y])) (PKp X gs d os J (i + 1) h N acc)) (fun _ _ => False) ⟨h, gs i, d, tk, os⟩)
      (done : ∀ D acc N h' tk', J vs.length acc N → KeepF X h₁ h' → (∃ o, h'.get? D = some o ∧ LstO acc o) → h₁.get? D = none → (∀ b o, N b o → New h₁ h' b o) → Q (.ref D) ⟨h', gs vs.length, d, tk', os⟩)
/-- [elt for x in a list if ..] -/
theorem x_lcompL {elt iter : Expr} {x : Str} {px : Pos} {ifs : List Expr} {scope : Scope} {cpos : Pos} {Q : Value → Shared → Prop} {s : Shared} (hh : A.handled = none)
    (e : EnvC env L names gl cn ca) (cgl ccn : List Str) (cca : List Addr) (co : CompOk scope [x] cgl ccn) (hlen : cca.length = ccn.length)
    (hold : ∀ (i : Nat) (x : Str) (c : Addr), ccn[i]? = some x → cca[i]? = some c → ∃ j : Nat, cn[j]? = some x ∧ ca[j]? = some c)
    (X : List Addr) (gs : Nat → Array GenState) (J : Nat → List Value → (Addr → Obj → Prop) → Prop)
    (k : wpAny (model prog w.w) A (eval iter env) (PLL prog w A elt ifs x cgl ccn cca d os X gs J Q) E s)
    (hs : ∀ x, foldedSetIterable iter env x = pure x := by intro _; rfl) :
    wpAny (model prog w.w) A (eval (.ListComp elt [⟨.Name x px, iter, ifs, 0⟩] scope cpos) env) Q E s := by
  refine x_lcomp (d := d) (os := os) e cgl ccn cca co hlen hold X gs J (wpAny_mono k (fun xv s₁ q => ?_) fun _ _ e => e) hs
  obtain ⟨h₁, tk₁, a, vs, rfl, rfl, hl, haX, nd, hX, hn, j0, jl, turn, done⟩ := q
  refine ⟨h₁, tk₁, rfl, x_iter_list (Lst.isList (h := h₁) hl) fun I h₂ k₂ hI hIt => ?_⟩
  exact ⟨I, h₂, _, _, _, _, _, rfl, rfl, k₂, hI, hIt, iter_list hh I a vs, nd, hX, fun h hk => (let ⟨o, ho, hp⟩ := hl; Lst.isList ⟨o, hk _ _ haX ho, hp⟩), hn, j0, jl,
    fun i v acc N C cenv h tk _ hv => turn i v acc N C cenv h tk hv, done⟩
theorem ahead_slice (ns : List Int) : (ns.drop (clipAt ns.length 3)).take (clipAt ns.length 5 - clipAt ns.length 3) = (ns.take 5).drop 3 := by
  have e3 : clipAt ns.length 3 = min 3 ns.length := clipAt_nat ns.length 3
  have e5 : clipAt ns.length 5 = min 5 ns.length := clipAt_nat ns.length 5
  rw [e3, e5]
  rw [drop_min 3 (Nat.le_refl _), List.drop_take]
  rcases Nat.le_total ns.length 3 with q | q
  · rw [List.drop_eq_nil_of_le q, List.take_nil, List.take_nil]
  · rw [Nat.min_eq_left q, ← Nat.sub_min_sub_right, ← List.length_drop, take_min]
inductive PL35 (g : Array GenState) (d : Drawn) (os : OsState) (Q : Value → Shared → Prop) (o vl vu : Value) (s₃ : Shared) : Prop
  | mk (h₃ : Heap) (tk₃ : Nat) (l : Addr) (ns : List Int) (ti tj : Tok) (e : s₃ = ⟨h₃, g, d, tk₃, os⟩) (e1 : o = .ref l) (e2 : vl = .int 3 ti) (e3 : vu = .int 5 tj) (ho : ∃ ob, h₃.get? l = some ob ∧ ILst ns ob) (hl : ns.length ≤ 100000)
      (q : ∀ l' h', Keep h₃ h' → h₃.get? l' = none → (∃ ob, h'.get? l' = some ob ∧ ILst ((ns.take 5).drop 3) ob) → Q (.ref l') ⟨h', g, d, tk₃, os⟩)
/-- xs[3:5] -/
theorem x_lslice_35 {value lo up : Expr} {p pos : Pos} {Q : Value → Shared → Prop} {s : Shared}
    (k : wpAny (model prog w.w) A (eval value env) (Q3 (model prog w.w) A E env lo up (PL35 g d os Q)) E s)
    (ht : ∀ o r, letTemporaryGo value o r = pure () := by intro _ _; rfl) :
    wpAny (model prog w.w) A (eval (.Subscript value (.Slice (some lo) (some up) none p) pos) env) Q E s := by
  refine wpAny_Subscript_list_slice (wpAny_mono k (fun o s₁ h₁ => wpAny_evalPart_some (wpAny_mono h₁ (fun vl s₂ h₂ => wpAny_evalPart_some (wpAny_mono h₂ (fun vu s₃ h₃ => ?_) fun _ _ e => e)) fun _ _ e => e)) fun _ _ e => e) ht
  obtain ⟨h₃, tk₃, l, ns, ti, tj, rfl, rfl, rfl, rfl, ⟨ob, hob, vs, hvi, hvl⟩, hlen, q⟩ := h₃
  have hvlen := ints_len hvi
  refine ⟨l, vs.toArray, some 3, some 5, rfl, Lst.isList (h := h₃) ⟨ob, hob, hvl⟩, by rw [List.size_toArray, sizeLine_eq]; lia, IsPart.int _ _, IsPart.int _ _, ?_⟩
  have hsz : (h₃.push { cls := .type "slice", data := .fields #[.int 3 ti, .int 5 tj, .none] }).objs.size = h₃.objs.size + 1 := Heap.size_push ..
  refine q _ _ (fun b o e => Heap.get?_push_of_some _ (Heap.get?_push_of_some _ e)) ?_ ?_
  · cases e : h₃.get? (h₃.objs.size + 1) with
    | none => rfl
    | some o => exact absurd (Heap.lt_size e) (Nat.not_lt.mpr (Nat.le_succ _))
  · have g0 := Heap.get?_push_size (h₃.push { cls := .type "slice", data := .fields #[.int 3 ti, .int 5 tj, .none] }) (o := { cls := .type "list", data := .seq (slicePick vs.toArray (some 3) (some 5) none) }) rfl
    rw [hsz] at g0
    refine ⟨_, g0, (slicePick vs.toArray (some 3) (some 5) none).toList, ?_, 0, by simp⟩
    rw [← ahead_slice]
    exact slice_ints_plain hvi 3 5
end
section
variable {prog : Program} {w : WK} {A : Around} {E : Value → Shared → Prop} {env : Env} {d : Drawn} {os : OsState} {g : Array GenState}
variable {h : Heap} {tk : Nat}
/-- a list of two, stored in two names -/
theorem x_two_list {x y : Str} {px py pos : Pos} {k : Nat} {D : Addr} {u v : Value} {Q : Unit → Shared → Prop} (hh : A.handled = none) (hl : ∃ o, h.get? D = some o ∧ LstO [u, v] o)
    (q : ∀ h' tk', Keep h h' → wpAny (model prog w.w) A (assign (.Name x px) env u) (fun _ s₁ => wpAny (model prog w.w) A (assign (.Name y py) env v) Q E s₁) E ⟨h', g, d, tk', os⟩) :
    wpAny (model prog w.w) A (assign (.Tuple [.Name x px, .Name y py] k pos) env (.ref D)) Q E ⟨h, g, d, tk, os⟩ := by
  rw [arm_assign_Tuple]
  refine wpAny_bind (wpAny_standAt ?_)
  unfold unpack
  have e1 : (assignEach [.Name x px, .Name y py] env).length = 2 := rfl
  have e2 : (assignEach [.Name x px, .Name y py] env).findIdx? (·.1) = none := rfl
  rw [e1, e2]
  refine wpAny_bind (wpAny_holding (x_unpack2 hh hl fun h' tk' k' => ?_))
  show wpAny (model prog w.w) A (assignInOrder [assign (.Name x px) env, assign (.Name y py) env] [u, v]) _ E _
  refine wpAny_assignInOrder_more (wpAny_mono (q h' tk' k') (fun _ s₁ q => ?_) fun _ _ e => e)
  exact wpAny_assignInOrder_more (wpAny_mono q (fun _ s₁ q => wpAny_assignInOrder_none q) fun _ _ e => e)
end
section
variable {prog : Program} {w : WK} {A : Around} {E : Value → Shared → Prop} {env : Env} {d : Drawn} {os : OsState} {g : Array GenState} {L : Addr} {names gl : List Str}
variable {s : Shared}
inductive PAs2E (g : Array GenState) (d : Drawn) (os : OsState) (L : Addr) (names : List Str) (ix iy : Nat) (Q : Flow → Shared → Prop) (vs : List Value) (s₂ : Shared) : Prop
  | mk (B : Addr → Obj → Prop) (h₂ : Heap) (tk₂ : Nat) (vals : List (Option Value)) (n : Led) (v₁ v₂ : Value) (e : s₂ = ⟨h₂, g, d, tk₂, os⟩) (e1 : vs = [v₁, v₂]) (z : Z B L (fr names vals) n h₂) (i : ix < vals.length) (j : iy < vals.length)
      (q : ∀ h' tk', Z B L (fr names ((vals.set iy (some v₂)).set ix (some v₁))) n h' → Q .next ⟨h', g, d, tk', os⟩)
/-- x, y = e₁, e₂; what stays may have grown -/
theorem x_asg2E {x y : Str} {px py tp vp pos : Pos} {k₁ k₂ : Nat} {e₁ e₂ : Expr} {Q : Flow → Shared → Prop} (e : EnvL env L names gl) (hh : A.handled = none) (ix iy : Nat) (hx : names[ix]? = some x) (hy : names[iy]? = some y)
    (hne : (x == y) = false) (hlit : litAll [e₁, e₂] = false)
    (k : wpAny (model prog w.w) A (evs env [e₁, e₂]) (PAs2E g d os L names ix iy Q) E s)
    (hl : (px.line == py.line) = true := by rfl)
    (hs : backTo vp (starEach [e₁, e₂] env) = [e₁, e₂].map fun e => (false, eval e env) := by rfl) (h0 : swapsWithSole [.Tuple [.Name x px, .Name y py] k₁ tp] (.Tuple [e₁, e₂] k₂ vp) pos.line env = pure false := by rfl) :
    wpAny (model prog w.w) A (exec (.Assign [.Tuple [.Name x px, .Name y py] k₁ tp] (.Tuple [e₁, e₂] k₂ vp) pos) env) Q E s := by
  refine x_assign_sw (swapped2 e.kind (e.loc x (List.mem_of_getElem? hx)).1 (e.loc y (List.mem_of_getElem? hy)).1 hne hl hlit) ?_ h0
  refine x_tuple (g := g) (d := d) (os := os) (wpAny_mono k (fun vs s₂ hh₂ => ?_) fun _ _ e => e) hs
  obtain ⟨B, h₂, tk₂, vals, n, v₁, v₂, rfl, rfl, z, i1, i2, q⟩ := hh₂
  refine ⟨h₂, tk₂, rfl, by simp, fun a h₃ k₃ hn ht => ?_⟩
  refine unpack_tup rfl hh ht fun h₄ k₄ => ?_
  have z₄ := (z.keepAll k₃).keepAll k₄
  refine wpAny_assignInOrder_more (wpAny_bindName (x_sto e z₄ iy hy i2 fun h₅ tk₅ z₅ _ => ?_))
  refine wpAny_assignInOrder_more (wpAny_bindName (x_sto e z₅ ix hx (by simpa using i1) fun h₆ tk₆ z₆ _ => ?_))
  exact wpAny_assignInOrder_none (q h₆ tk₆ z₆)
end
theorem texts_len (ns : List Int) : ∀ t ∈ textsOf ns, t.length ≤ 12 := by
  intro t ht
  have h0 := text0_len ns
  have h1 := text1_len ns
  have h2 := text2_len ns
  unfold textsOf at ht
  simp only [List.mem_cons, List.not_mem_nil, or_false] at ht
  rcases ht with rfl | rfl | rfl <;> lia
/-- finished generators -/
noncomputable def fins (i : Nat) : Array GenState := (List.replicate i GenState.finished).toArray
theorem fins_push (i : Nat) : (fins i).push .finished = fins (i + 1) := by
  unfold fins
  rw [List.push_toArray, ← List.replicate_succ']
/-- the first locals of law -/
noncomputable def LN : List Str := [Str.ofString "script"] ++ [Str.ofString "drawn", Str.ofString "ahead", Str.ofString "texts", Str.ofString "told", Str.ofString "due", Str.ofString "signs", Str.ofString "heads", Str.ofString "rows"]
noncomputable def LG : List Str := [Str.ofString "translate", Str.ofString "range", Str.ofString "len"]
noncomputable def LC : List Str := [Str.ofString "units", Str.ofString "word", Str.ofString "made"]
section
variable {w : WK} {A : Around} {E : Value → Shared → Prop} {h₀ : Heap} {d : Drawn} {os : OsState}
variable {tk : Nat}
theorem KeepF.nil {h h' : Heap} (k : KeepF [] h h') : Keep h h' := fun b o e => k.off b o (by simp) e
theorem flat_single {α : Type} (f : α → Nat) (xs : List α) : (xs.map fun x => [f x]).flatten = xs.map f := by
  induction xs with
  | nil => rfl
  | cons x xs ih => rw [List.map_cons, List.flatten_cons, ih]; rfl
theorem take_snoc {ls : List (List Nat)} {i : Nat} {y : List Nat} (h : ls[i]? = some y) : (ls.take (i + 1)).map S = (ls.take i).map S ++ [S y] := by
  obtain ⟨hi, rfl⟩ := List.getElem?_eq_some_iff.mp h
  rw [List.take_succ_eq_append_getElem hi, List.map_append]; rfl
theorem fins_all (i : Nat) : ∀ x ∈ (fins i).toList, x = .finished := by
  intro x hx
  unfold fins at hx
  exact (List.mem_replicate.mp hx).2
theorem rows_lay (ns : List Int) : PyData.canLay0 (.list [.list (((headsOf ns).filter (fitsP (unitsOf ns))).map fun t => .str (S t)), .list (((headsOf ns).filter (fitsP (unitsOf ns))).map fun t => .str (S t))]) = true := by
  have hm : ∀ t ∈ (headsOf ns).filter (fitsP (unitsOf ns)), ∀ c ∈ t, c ∈ lets := fun t ht c hc => by
    have ht := (List.mem_filter.mp ht).1
    unfold headsOf at ht
    obtain ⟨k, _, rfl⟩ := List.mem_map.mp ht
    exact word_mem ns c (List.mem_of_mem_take hc)
  refine lay_heads (ls := [(headsOf ns).filter (fitsP (unitsOf ns)), (headsOf ns).filter (fitsP (unitsOf ns))]) fun l hl => ?_
  simp only [List.mem_cons, List.not_mem_nil, or_false, or_self] at hl
  subst hl
  exact hm
theorem noHold {cn : List Str} {ca : List Addr} : ∀ (i : Nat) (x : Str) (c : Addr), ([] : List Str)[i]? = some x → ([] : List Addr)[i]? = some c → ∃ j : Nat, cn[j]? = some x ∧ ca[j]? = some c := fun i x c hx => by simp at hx
theorem law_call (gw : G w h₀) (gt : GT h₀) (tb : ∃ o, h₀.get? 71 = some o ∧ TabP o) (ag : AG 12 A) (hfr : A.frames = some []) (ns : List Int) (sc : Addr) (hs : ∃ o, h₀.get? sc = some o ∧ ILst ns o) (hns : ns.length ≤ 100000) {Q : Value → Shared → Prop}
    (hQ : ∀ h' tk' g', Keep71 h₀ h' → (∃ o, h'.get? 71 = some o ∧ TabP o) → (∀ x ∈ g'.toList, x = .finished) → Q (.bool true) ⟨h', g', d, tk', os⟩) :
    wpAny (model PP w.w) A (call (.ref 239) [.ref sc]) Q E ⟨h₀, #[], d, tk, os⟩ := by
  refine x_callC (a := 239) (ks := [Str.ofString "script"]) (rest := [Str.ofString "drawn", Str.ofString "ahead", Str.ofString "texts", Str.ofString "told", Str.ofString "due", Str.ofString "signs", Str.ofString "heads", Str.ofString "rows"]) (gl := LG) (cn := LC) (largs := [.ref sc]) (cvals := [none, none, none])
    ⟨w.need.f239.look, w.need.f239.code, rfl, rfl, rfl, rfl, rfl, by decide +kernel, by decide +kernel, by decide +kernel, by decide +kernel, by decide +kernel, fun _ => rfl, rfl, rfl⟩ gw ag rfl (by rfl) (by rfl) rfl (by rfl) fun env L h₁ tk₁ e hf ag' z => ?_
  have apt1 : Apt w [env] := z.apt hf gw (l := []) (fun b hb => by cases hb)
  have hfr1 : (A.deeper env).frames = some [env] := Around.frames_deeper hfr
  have hfa1 : fa [env] = [L] := by unfold fa; rw [List.filterMap_cons, hf]; rfl
  have z0 : Z (Sb h₀) L (fr LN [some (.ref sc), none, none, none, none, none, none, none, none]) [(L + 1, CellO none), (L + 2, CellO none), (L + 3, CellO none)] h₁ := z
  clear z
  refine x_cons fun Qn nx rt => ?_
  refine Assign_Tuple ?_
  refine x_lcompL (d := d) (os := os) ag'.hh e [] [] [] ⟨rfl, by decide +kernel, by decide +kernel, by decide +kernel, by decide +kernel, by decide +kernel, by decide +kernel, by decide +kernel, by decide +kernel⟩ rfl noHold [] (fun _ => #[])
    (fun i acc _ => StrsAre acc (([drawnOf ns, aheadOf ns].take i).map S)) ?_
  refine x_list (g := #[]) (d := d) (os := os) ?_
  refine evs_cons ?_
  refine x_lslice_ns (g := #[]) (d := d) (os := os) ?_
  refine x_loc e.toEnvL z0 0 rfl rfl ?_
  refine x_int fun _ _ => ?_
  refine ⟨_, _, sc, ns, _, _, rfl, rfl, rfl, by lia, (let ⟨o, ho, hp⟩ := hs; ⟨o, z0.keep _ _ ho, hp⟩), hns, fun l1 h k1 hl1 hlo1 => ?_⟩
  replace z0 := z0.add k1 hl1 hlo1.choose_spec.1 hlo1.choose_spec.2
  refine evs_cons ?_
  refine x_lslice_35 (g := #[]) (d := d) (os := os) ?_
  refine x_loc e.toEnvL z0 0 rfl rfl ?_
  refine x_int fun _ _ => ?_
  refine x_int fun _ _ => ?_
  refine ⟨_, _, sc, ns, _, _, rfl, rfl, rfl, rfl, (let ⟨o, ho, hp⟩ := hs; ⟨o, z0.keep _ _ ho, hp⟩), hns, fun l2 h k2 hl2 hlo2 => ?_⟩
  replace z0 := z0.add k2 hl2 hlo2.choose_spec.1 hlo2.choose_spec.2
  refine evs_nil ?_
  refine ⟨_, _, rfl, Nat.le_of_ble_eq_true rfl, fun a h ka ha hao => ?_⟩
  replace z0 := z0.add ka ha hao.choose_spec.1 hao.choose_spec.2
  refine ⟨_, _, a, _, rfl, rfl, z0.get 0 rfl, by simp, List.nodup_nil, by simp, Nat.le_of_ble_eq_true rfl, .nil, fun i acc N j => ?_, fun i v acc N C cenv hc tk hv hJ ce zc => ?_, fun D acc N h' tk' hJ kf hD hDn _ => ?_⟩
  · have := strs_len j; first | (rw [this, List.length_map]; exact Nat.le_trans (List.length_take_le' _ _) (by first | assumption | lia)) | (rw [this, List.length_map, List.length_take]; lia)
  · have hrow : ∃ l xs y, v = .ref l ∧ (∃ o, h.get? l = some o ∧ ILst xs o) ∧ xs.length ≤ 1000 ∧ [drawnOf ns, aheadOf ns][i]? = some y ∧ xs.map letter = y := by
      match i, hv with
      | 0, hv =>
        obtain rfl : Value.ref l1 = v := by simpa using hv
        exact ⟨l1, ns.take 3, _, rfl, z0.get 2 rfl, by first | exact Nat.le_trans (List.length_take_le _ _) (by decide) | (rw [List.length_take]; lia), rfl, rfl⟩
      | 1, hv =>
        obtain rfl : Value.ref l2 = v := by simpa using hv
        exact ⟨l2, (ns.take 5).drop 3, _, rfl, z0.get 1 rfl, by first | exact Nat.le_trans (Nat.le_trans (Nat.le_of_eq List.length_drop) (Nat.sub_le _ _)) (Nat.le_trans (List.length_take_le _ _) (by decide)) | (rw [List.length_drop, List.length_take]; lia), rfl, rfl⟩
      | i + 2, hv => simp at hv
    obtain ⟨l, xs, y, rfl, hl, hxl, hy, hxy⟩ := hrow
    refine tests_nil ?_
    refine ite_t ?_
    refine x_meth F.plainAttrs_str F.slot_str_join F.type_str_join ?_
    refine x_str [] (by decide +kernel) fun _ _ => ?_
    refine ⟨⟨typeIs_str _ _ _, fun _ q => by cases q⟩, ?_⟩
    refine evs_cons ?_
    obtain ⟨ol, hol, vs, hvs, hvl⟩ := hl
    have hvn := ints_len hvs
    refine x_lcompL (d := d) (os := os) ag'.hh ce [] [] [] ⟨rfl, by decide +kernel, by decide +kernel, by decide +kernel, by decide +kernel, by decide +kernel, by decide +kernel, by decide +kernel, by decide +kernel⟩ rfl noHold [] (fun _ => #[])
      (fun i acc _ => StrsAre acc (((xs.take i).map fun x => [letter x]).map S)) ?_
    refine x_loc ce.toEnvL zc 0 rfl rfl ?_
    refine ⟨_, _, l, vs, rfl, rfl, ⟨ol, zc.keep _ _ (.inl ⟨by simp, hol⟩), hvl⟩, by simp, List.nodup_nil, by simp, by lia, .nil, fun i acc N j => ?_, fun i v acc N C cenv hc tk hv hJ ce zc => ?_, fun D acc N h' tk' hJ kf hD hDn _ => ?_⟩
    · have := strs_len j; first | (rw [this, List.length_map, List.length_map]; exact Nat.le_trans (List.length_take_le' _ _) (by first | assumption | lia)) | (rw [this, List.length_map, List.length_map, List.length_take]; lia)
    · have hi : i < xs.length := by first | exact (List.getElem?_eq_some_iff.mp hv).1 | (have := (List.getElem?_eq_some_iff.mp hv).1; lia)
      obtain ⟨t, e1⟩ := ints_get hvs (i := i) (y := xs[i]) (List.getElem?_eq_getElem hi)
      rw [e1] at hv
      injection hv with hv
      subst hv
      refine tests_nil ?_
      refine ite_t ?_
      refine y_sub ?_
      refine x_str [97, 98, 42, 63, 92, 91] (by decide +kernel) fun _ _ => ?_
      refine y_bin ?_
      refine x_loc ce.toEnvL zc 0 rfl rfl ?_
      refine x_int fun _ _ => ?_
      refine x_mod (by decide) fun _ _ => ?_
      refine x_sign (by decide) (at_sign (Int.fmod_nonneg_of_pos _ (by decide)) (Int.fmod_lt_of_pos _ (by decide))) (by with_unfolding_all rfl) fun _ _ => ?_
      refine ⟨_, _, rfl, KeepF.refl _ _, ?_⟩
      rw [List.take_succ_eq_append_getElem hi, List.map_append, List.map_append]
      exact strs_snoc hJ _ _
    · rw [hvn, List.take_length] at hJ
      refine evs_nil ?_
      refine x_join0 (ls := xs.map fun x => [letter x]) (let ⟨o, ho, hp⟩ := hD; ⟨o, ho, acc, hJ, hp⟩) (by rw [flat_single, List.length_map]; lia) fun _ _ => ?_
      refine ⟨_, _, rfl, kf, ?_⟩
      rw [flat_single, hxy]
      have hi : i < [drawnOf ns, aheadOf ns].length := (List.getElem?_eq_some_iff.mp hy).1
      rw [List.take_succ_eq_append_getElem hi, List.map_append, (List.getElem?_eq_some_iff.mp hy).2]
      exact strs_snoc ‹StrsAre _ (List.map S (List.take i [drawnOf ns, aheadOf ns]))› _ _
  · replace z0 := z0.keepAll kf.nil
    obtain ⟨t1, t2, rfl⟩ : ∃ t1 t2, acc = [.str (S (drawnOf ns)) t1, .str (S (aheadOf ns)) t2] := by
      have hJ : StrsAre acc [S (drawnOf ns), S (aheadOf ns)] := hJ
      cases hJ with
      | cons _ t r => cases r with
        | cons _ t' r => cases r; exact ⟨t, t', rfl⟩
    refine x_two_list (g := #[]) (d := d) (os := os) ag'.hh hD fun h tk kk => ?_
    replace z0 := z0.keepAll kk
    refine x_stoName e.toEnvL z0 1 rfl (Nat.le_of_ble_eq_true rfl) fun h tk z0 _ => ?_
    refine x_stoName e.toEnvL z0 2 rfl (Nat.le_of_ble_eq_true rfl) fun h tk z0 _ => ?_
    refine nx.go ?_
    replace z0 : Z (Sb h₀) L (fr LN [some (.ref sc), some (.str (S (drawnOf ns)) t1), some (.str (S (aheadOf ns)) t2), none, none, none, none, none, none]) [(L + 1, CellO none), (L + 2, CellO none), (L + 3, CellO none)] h := z0.sub (.cons _ (.cons _ (.cons _ (List.Sublist.refl _))))
    clear nx rt
    have dl := drawn_len ns
    have al := ahead_len ns
    -- texts
    refine x_cons fun Qn nx rt => ?_
    refine x_asg (B := Sb h₀) (g := #[]) (d := d) (os := os) e.toEnvL 3 rfl ?_
    refine x_list (g := #[]) (d := d) (os := os) ?_
    refine evs_cons ?_
    refine y_bin ?_
    refine y_bin ?_
    refine x_str [42] (by decide +kernel) fun _ _ => ?_
    refine x_loc e.toEnvL z0 1 rfl rfl ?_
    refine x_cat (by simp only [List.length_cons, List.length_nil]; lia) fun _ _ => ?_
    refine x_str [92, 42, 63, 42, 98, 91] (by decide +kernel) fun _ _ => ?_
    refine x_cat (by simp only [List.length_append, List.length_cons, List.length_nil]; lia) fun u0 _ => ?_
    refine evs_cons ?_
    refine y_bin ?_
    refine y_bin ?_
    refine y_bin ?_
    refine x_loc e.toEnvL z0 2 rfl rfl ?_
    refine x_str [97] (by decide +kernel) fun _ _ => ?_
    refine x_cat (by simp only [List.length_cons, List.length_nil]; lia) fun _ _ => ?_
    refine x_loc e.toEnvL z0 1 rfl rfl ?_
    refine x_cat (by simp only [List.length_append, List.length_cons, List.length_nil]; lia) fun _ _ => ?_
    refine x_str [42, 97, 98, 91, 98, 91] (by decide +kernel) fun _ _ => ?_
    refine x_cat (by simp only [List.length_append, List.length_cons, List.length_nil]; lia) fun u1 _ => ?_
    refine evs_cons ?_
    refine y_bin ?_
    refine x_loc e.toEnvL z0 1 rfl rfl ?_
    refine x_str [92] (by decide +kernel) fun _ _ => ?_
    refine x_cat (by simp only [List.length_cons, List.length_nil]; lia) fun u2 _ => ?_
    refine evs_nil ?_
    refine ⟨_, _, rfl, Nat.le_of_ble_eq_true rfl, fun tx h ka ha hao => ?_⟩
    replace z0 := z0.add (P := LstO [.str (S (text0 ns)) u0, .str (S (text1 ns)) u1, .str (S (text2 ns)) u2]) ka ha hao.choose_spec.1 hao.choose_spec.2
    refine ⟨_, _, _, _, rfl, z0, Nat.le_of_ble_eq_true rfl, fun h tk z => nx.go ?_⟩
    clear z0 nx rt hao ha ka hD hDn kf kk
    have z0 : Z (Sb h₀) L (fr LN [some (.ref sc), some (.str (S (drawnOf ns)) t1), some (.str (S (aheadOf ns)) t2), some (.ref tx), none, none, none, none, none]) [(tx, LstO [.str (S (text0 ns)) u0, .str (S (text1 ns)) u1, .str (S (text2 ns)) u2]), (L + 1, CellO none), (L + 2, CellO none), (L + 3, CellO none)] h := z
    clear z
    have hts : StrsAre [.str (S (text0 ns)) u0, .str (S (text1 ns)) u1, .str (S (text2 ns)) u2] ((textsOf ns).map S) := .cons _ _ (.cons _ _ (.cons _ _ .nil))
    generalize [Value.str (S (text0 ns)) u0, Value.str (S (text1 ns)) u1, Value.str (S (text2 ns)) u2] = tvs at z0 hts
    -- told, due
    refine x_cons fun Qn nx rt => ?_
    refine x_asg2E (g := fins 3) (d := d) (os := os) e.toEnvL ag'.hh 4 5 rfl rfl (by decide +kernel) (by rfl) ?_
    have htl : ∀ (i : Nat) (t : List Nat), (textsOf ns)[i]? = some t → t.length ≤ 12 := fun i t h => texts_len ns t (List.mem_of_getElem? h)
    have htn : tvs.length = 3 := by have := strs_len hts; simpa [textsOf] using this
    have turnAt : ∀ {i : Nat} {v : Value}, tvs[i]? = some v → ∃ t u, (textsOf ns)[i]? = some t ∧ v = .str (S t) u := fun {i v} hv => by
      have hi : i < (textsOf ns).length := by have := (List.getElem?_eq_some_iff.mp hv).1; rw [htn] at this; exact this
      obtain ⟨u, e1⟩ := strs_get hts (i := i) (y := S (textsOf ns)[i]) (by rw [List.getElem?_map, List.getElem?_eq_getElem hi]; rfl)
      rw [e1] at hv
      injection hv with hv
      exact ⟨_, u, List.getElem?_eq_getElem hi, hv.symm⟩
    have stepP : ∀ {i : Nat} {t : List Nat} {acc : List Value} {N N' : Addr → Obj → Prop} {l : Addr}, (textsOf ns)[i]? = some t → PLs N acc (((textsOf ns).take i).map unitsP) → (∀ b o, N b o → N' b o) → Pairs N' l (unitsP t) → PLs N' (acc ++ [.ref l]) (((textsOf ns).take (i + 1)).map unitsP) := fun {i t acc N N' l} ht p s q => by
      obtain ⟨hi, rfl⟩ := List.getElem?_eq_some_iff.mp ht
      rw [List.take_succ_eq_append_getElem hi, List.map_append]
      exact (p.mono s).snoc q
    refine evs_cons ?_
    refine x_lcompL (d := d) (os := os) ag'.hh e [Str.ofString "list", Str.ofString "_iter_escaped_chars"] [] [] ⟨rfl, by decide +kernel, by decide +kernel, by decide +kernel, by decide +kernel, by decide +kernel, by decide +kernel, by decide +kernel, by decide +kernel⟩ rfl noHold [] fins
      (fun i acc N => PLs N acc (((textsOf ns).take i).map unitsP)) ?_
    refine x_loc e.toEnvL z0 3 rfl rfl ?_
    refine ⟨_, _, tx, tvs, rfl, rfl, z0.get 0 rfl, by simp, List.nodup_nil, by simp, by lia, .nil, fun i acc N j => ?_, fun i v acc N C cenv hc tk hv hJ ce zc => ?_, fun D1 tv _ h' tk jn kf hD hDn hNn => ?_⟩
    · have := j.len; first | (rw [this, List.length_map]; exact Nat.le_trans (List.length_take_le' _ _) (by first | assumption | lia)) | (rw [this, List.length_map, List.length_take]; lia)
    · obtain ⟨t, u, ht, rfl⟩ := turnAt hv
      have htk := htl i t ht
      refine tests_nil ?_
      refine ite_t ?_
      have gwc : G w hc := gw.keep fun b o q => zc.keep b o (.inl ⟨by simp, z0.keep b o q⟩)
      refine x_tcall (T := "list") ?_
      refine x_glob ce.toEnvL gwc 0 rfl (gv_list w) ?_
      refine ⟨rfl, ?_⟩
      refine evs_cons ?_
      refine x_dcall (a := 45) ?_
      refine x_glob ce.toEnvL gwc 1 rfl (gv_iter_escaped_chars w) ?_
      refine ⟨rfl, ?_⟩
      refine evs_cons ?_
      refine x_loc ce.toEnvL zc 0 rfl rfl ?_
      refine evs_nil ?_
      refine ⟨fn_at gwc w.need.f45, ?_⟩
      refine esc_call gwc (ag'.le (by decide)) t u (by lia) fun a C' h' tk' gs kh he => ?_
      refine evs_nil ?_
      have hpl : (escP t 0 false).length ≤ 1000 := by rw [esc_units]; have := unitsAt_len t t.length; unfold unitsP; lia
      refine esc_list gwc (ag'.le (by decide)) hpl kh he fun l h' tk' kl pl => ?_
      rw [fins_push]
      refine ⟨h', tk', rfl, KeepF.ofKeep _ kl, stepP ht hJ (fun b o q => .inl q) ?_⟩
      rw [← esc_units]
      obtain ⟨o, vs, a1, a2, a3⟩ := pl
      exact ⟨o, vs, .inr a1, a2, a3.mono fun b o q => .inr q⟩
    · rw [htn] at jn ⊢
      have k1 : Keep h h' := kf.nil
      replace z0 := z0.grow k1
      have jn1 : PLs (New h h') tv ((textsOf ns).map unitsP) := jn.mono hNn
      have hD1 : ∃ o, New h h' D1 o ∧ LstO tv o := let ⟨o, ho, hp⟩ := hD; ⟨o, ⟨ho, hDn⟩, hp⟩
      clear hD hDn hNn jn kf k1
      refine evs_cons ?_
      refine x_lcompL (d := d) (os := os) ag'.hh e [Str.ofString "_law_units"] [] [] ⟨rfl, by decide +kernel, by decide +kernel, by decide +kernel, by decide +kernel, by decide +kernel, by decide +kernel, by decide +kernel, by decide +kernel⟩ rfl noHold [] (fun _ => fins 3)
        (fun i acc N => PLs N acc (((textsOf ns).take i).map unitsP)) ?_
      refine x_loc e.toEnvL z0 3 rfl rfl ?_
      refine ⟨_, _, tx, tvs, rfl, rfl, z0.get 0 rfl, by simp, List.nodup_nil, by simp, by lia, .nil, fun i acc N j => ?_, fun i v acc N C cenv hc tk hv hJ ce zc => ?_, fun D2 dv _ h'' tk jn kf hD hDn hNn => ?_⟩
      · have := j.len; first | (rw [this, List.length_map]; exact Nat.le_trans (List.length_take_le' _ _) (by first | assumption | lia)) | (rw [this, List.length_map, List.length_take]; lia)
      · obtain ⟨t, u, ht, rfl⟩ := turnAt hv
        have htk := htl i t ht
        refine tests_nil ?_
        refine ite_t ?_
        have gwc : G w hc := gw.keep fun b o q => zc.keep b o (.inl ⟨by simp, z0.keep b o (.inl q)⟩)
        refine x_dcall (a := 210) ?_
        refine x_glob ce.toEnvL gwc 0 rfl (gv_law_units w) ?_
        refine ⟨rfl, ?_⟩
        refine evs_cons ?_
        refine x_loc ce.toEnvL zc 0 rfl rfl ?_
        refine evs_nil ?_
        refine ⟨fn_at gwc w.need.f210, ?_⟩
        refine units_call gwc (ag'.le (by decide)) t u (by lia) fun l h' tk' kl pl => ?_
        refine ⟨h', tk', rfl, KeepF.ofKeep _ kl, stepP ht hJ (fun b o q => .inl q) ?_⟩
        obtain ⟨o, vs, a1, a2, a3⟩ := pl
        exact ⟨o, vs, .inr a1, a2, a3.mono fun b o q => .inr q⟩
      · rw [htn] at jn
        replace z0 := z0.grow kf.nil
        obtain ⟨B, hB⟩ : ∃ B, B = Gr (Gr (Sb h₀) (New h h')) (New h' h'') := ⟨_, rfl⟩
        have b0 : ∀ b o, Sb h₀ b o → B b o := fun b o q => hB ▸ .inl (.inl q)
        have p1 : PLs B tv ((textsOf ns).map unitsP) := jn1.mono fun b o q => hB ▸ .inl (.inr q)
        have p2 : PLs B dv ((textsOf ns).map unitsP) := jn.mono fun b o q => hB ▸ .inr (hNn b o q)
        have l1 : ∃ o, B D1 o ∧ LstO tv o := let ⟨o, ho, hp⟩ := hD1; ⟨o, hB ▸ .inl (.inr ho), hp⟩
        have l2 : ∃ o, B D2 o ∧ LstO dv o := let ⟨o, ho, hp⟩ := hD; ⟨o, hB ▸ .inr ⟨ho, hDn⟩, hp⟩
        rw [← hB] at z0
        clear hB jn1 jn hD1 hD hDn hNn kf
        refine evs_nil ?_
        refine ⟨B, _, _, _, _, _, _, rfl, rfl, z0, Nat.le_of_ble_eq_true rfl, Nat.le_of_ble_eq_true rfl, fun h tk z => nx.go ?_⟩
        have z1 : Z B L (fr LN [some (.ref sc), some (.str (S (drawnOf ns)) t1), some (.str (S (aheadOf ns)) t2), some (.ref tx), some (.ref D1), some (.ref D2), none, none, none]) [(L + 1, CellO none), (L + 2, CellO none), (L + 3, CellO none)] h := z.sub (.cons _ (List.Sublist.refl _))
        clear z z0 nx rt turnAt stepP htl htn hts
        have gwB : ∀ {m n h}, Z B L m n h → G w h := fun z => gw.keep fun b o q => z.keep b o (b0 b o q)
        -- told != due, or a pair that is no tuple
        refine x_cons fun Qn nx rt => ?_
        refine y_if ?_
        refine wpAny_isTrue_BoolOp ?_
        refine y_or ?_
        refine y_tcmp ?_
        refine x_loc e.toEnvL z1 4 rfl rfl ?_
        refine x_loc e.toEnvL z1 5 rfl rfl ?_
        have lB : ∀ {a : Addr} {vs : List Value} {m n h}, Z B L m n h → (∃ o, B a o ∧ LstO vs o) → ∃ o, h.get? a = some o ∧ LstO vs o := fun z x => let ⟨o, ho, hp⟩ := x; ⟨o, z.keep _ _ ho, hp⟩
        obtain ⟨as, r1⟩ := p1.reads z1.keep
        obtain ⟨bs, r2⟩ := p2.reads z1.keep
        refine SeqAt.compareNe_reads (s := ⟨h, fins 3, d, tk, os⟩) (reads_list (lB z1 l1) r1) (reads_list (lB z1 l2) r2) (lay_told ns) (lay_told ns) (by have := ag'.un; have dt := depth_told ns; unfold toldD at dt; show _ + min _ _ < 9900; lia) ?_
        rw [show PyData.eqv (.list (((textsOf ns).map unitsP).map listD)) (.list (((textsOf ns).map unitsP).map listD)) = true from SeqAt.eqv_refl _ (lay_told ns)]
        refine x_truthy ?_
        refine ite_f ?_
        refine y_or ?_
        refine y_tcmp ?_
        refine x_comp2 (g := fins 3) (d := d) (os := os) ag'.hh e [Str.ofString "type", Str.ofString "tuple"] ⟨rfl, by decide +kernel, by decide +kernel, by decide +kernel, by decide +kernel, by decide +kernel, by decide +kernel, by decide +kernel, by decide +kernel⟩ ?_
        refine x_loc e.toEnvL z1 4 rfl rfl ?_
        refine ⟨_, _, D1, tv, rfl, rfl, lB z1 l1, fun i v hv => ?_, fun D h' tk' kp hD hDn => ?_⟩
        · obtain ⟨l, ps, rfl, _, o, us, hb, hus, pv⟩ := p1.at hv
          refine ⟨l, us, rfl, ⟨o, z1.keep _ _ hb, hus⟩, fun j u C cenv hc tk hu ce zc => ?_⟩
          obtain ⟨p, _, a, oa, t, u', rfl, ha, hta⟩ := pv.at hu
          have gwc := (gwB z1).keep zc.keep
          have hT : Shared.TypeIs ⟨hc, fins 3, d, tk, os⟩ (.ref a) "tuple" := by rw [hta] at ha; exact ⟨_, zc.keep _ _ (z1.keep _ _ ha), rfl⟩
          refine tests_one ?_
          refine y_tcmp ?_
          refine x_tcall (T := "type") ?_
          refine x_glob ce.toEnvL gwc 0 rfl (gv_type w) ?_
          refine ⟨rfl, ?_⟩
          refine evs_cons ?_
          refine x_loc ce.toEnvL zc 1 rfl rfl ?_
          refine evs_nil ?_
          refine call_type_of hT rfl ?_
          refine x_glob ce.toEnvL gwc 1 rfl (gv_tuple w) ?_
          refine wpAny_isNot_plain rfl ?_
          refine x_truthy ?_
          exact ⟨rfl, _, rfl⟩
        · replace z1 := z1.keepAll kp
          refine x_list (g := fins 3) (d := d) (os := os) ?_
          refine evs_nil ?_
          refine ⟨_, _, rfl, Nat.le_of_ble_eq_true rfl, fun D0 h kd hd0 hdo => ?_⟩
          replace z1 := z1.keepAll kd
          refine SeqAt.compareNe_reads (s := ⟨h, fins 3, d, tk', os⟩) (reads_list (let ⟨o, ho, hp⟩ := hD; ⟨o, kd _ _ ho, hp⟩) .nil) (reads_list hdo .nil) rfl rfl (by have := ag'.un; show _ + min 1 1 < 9900; lia) ?_
          rw [show PyData.eqv (.list []) (.list []) = true from SeqAt.eqv_refl _ rfl]
          refine x_truthy ?_
          refine ite_f ?_
          refine wpAny_allTrue_Or_nil ?_
          refine ite_f ?_
          refine wpAny_execs_nil ?_
          refine nx.go ?_
          clear nx rt hD hDn hdo hd0 kd kp r1 r2
          -- units, word
          have tv3 : tv.length = 3 := by have := p1.len; simpa [textsOf] using this
          refine x_cons fun Qn nx rt => ?_
          refine x_two_tup (g := fins 3) (d := d) (os := os) ag'.hh (e.cel 0 _ _ rfl rfl).1 ?_
          refine evs_cons ?_
          refine x_pairComp (g := fins 3) (d := d) (os := os) ag'.hh e [] ⟨rfl, by decide +kernel, by decide +kernel, by decide +kernel, by decide +kernel, by decide +kernel, by decide +kernel, by decide +kernel, by decide +kernel⟩
            (fun i acc => StrsAre acc (((unitsOf ns).take i).map S)) ?_
          refine y_sub ?_
          refine x_loc e.toEnvL z1 4 rfl rfl ?_
          refine x_int fun _ _ => ?_
          obtain ⟨l0, ps0, hv0, hps0, o0, us0, hb0, hus0, pv0⟩ := p1.at (i := 0) (List.getElem?_eq_getElem (by lia))
          obtain rfl : unitsP (text0 ns) = ps0 := by simpa [textsOf] using hps0
          refine x_item (lB z1 l1) (by lia) (by lia) ((List.getElem?_eq_getElem (by lia)).trans (congrArg some hv0)) (by with_unfolding_all rfl) ?_
          have hu10 := units_len ns
          have hup : (unitsP (text0 ns)).length = (unitsOf ns).length := by unfold unitsOf; rw [List.length_map]
          refine ⟨_, _, l0, us0, _, rfl, rfl, ⟨o0, z1.keep _ _ hb0, hus0⟩, pv0.mono fun b o q => z1.keep b o q, by lia, .nil, fun i acc j => ?_, fun i p acc C cenv hc tk t u hp hJ ce zc => ?_, fun Du acc h tk' jn kp hD hDn => ?_⟩
          · have := strs_len j; first | (rw [this, List.length_map]; exact Nat.le_trans (List.length_take_le' _ _) (by first | assumption | lia)) | (rw [this, List.length_map, List.length_take]; lia)
          · refine x_loc ce.toEnvL zc 1 rfl rfl ?_
            refine ⟨_, rfl, ?_⟩
            rw [take_snoc (y := p.2) (by unfold unitsOf; rw [List.getElem?_map, hp]; rfl)]
            exact strs_snoc hJ _ _
          · rw [hup, List.take_length] at jn
            replace z1 := z1.add (P := SLst (unitsOf ns)) kp hDn hD.choose_spec.1 ⟨acc, jn, hD.choose_spec.2⟩
            clear jn hD hDn kp hb0 hus0 pv0 hps0 hv0
            refine evs_cons ?_
            refine x_meth F.plainAttrs_str F.slot_str_join F.type_str_join ?_
            refine x_str [] (by decide +kernel) fun _ _ => ?_
            refine ⟨⟨typeIs_str _ _ _, fun _ q => by cases q⟩, ?_⟩
            refine evs_cons ?_
            refine x_pairComp (g := fins 3) (d := d) (os := os) ag'.hh e [] ⟨rfl, by decide +kernel, by decide +kernel, by decide +kernel, by decide +kernel, by decide +kernel, by decide +kernel, by decide +kernel, by decide +kernel⟩
              (fun i acc => StrsAre acc ((((wordOf ns).map fun c => [c]).take i).map S)) ?_
            refine y_sub ?_
            refine x_loc e.toEnvL z1 4 rfl rfl ?_
            refine x_int fun _ _ => ?_
            obtain ⟨l0, ps0, hv0, hps0, o0, us0, hb0, hus0, pv0⟩ := p1.at (i := 1) (List.getElem?_eq_getElem (by lia))
            obtain rfl : unitsP (text1 ns) = ps0 := by simpa [textsOf] using hps0
            refine x_item (lB z1 l1) (by lia) (by lia) ((List.getElem?_eq_getElem (by lia)).trans (congrArg some hv0)) (by with_unfolding_all rfl) ?_
            have hw12 := word_len ns
            have hwp : (unitsP (text1 ns)).length = (wordOf ns).length := by unfold wordOf; rw [List.length_map]
            refine ⟨_, _, l0, us0, _, rfl, rfl, ⟨o0, z1.keep _ _ hb0, hus0⟩, pv0.mono fun b o q => z1.keep b o q, by lia, .nil, fun i acc j => ?_, fun i p acc C cenv hc tk t u hp hJ ce zc => ?_, fun Dw acc h tk' jn kp hD hDn => ?_⟩
            · have := strs_len j; first | (rw [this, List.length_map]; refine Nat.le_trans (List.length_take_le' _ _) ?_; rw [List.length_map]; first | assumption | lia) | (rw [this, List.length_map, List.length_take, List.length_map]; lia)
            · have uo := units_ok (text1_mem ns) p (List.mem_of_getElem? hp)
              refine y_sub ?_
              refine x_loc ce.toEnvL zc 1 rfl rfl ?_
              refine y_un ?_
              refine x_int fun _ _ => ?_
              refine x_neg1 fun _ _ => ?_
              refine x_sign (by have := uo.len; lia) (last_sign uo.ne) (by with_unfolding_all rfl) fun _ _ => ?_
              refine ⟨_, rfl, ?_⟩
              rw [take_snoc (y := [p.2.getLastD 0]) (by unfold wordOf; rw [List.getElem?_map, List.getElem?_map, hp]; rfl)]
              exact strs_snoc hJ _ _
            · have hwl : (unitsP (text1 ns)).length = ((wordOf ns).map fun c => [c]).length := by rw [List.length_map]; exact hwp
              rw [hwl, List.take_length] at jn
              refine evs_nil ?_
              refine x_join0 (ls := (wordOf ns).map fun c => [c]) (let ⟨o, ho, hp⟩ := hD; ⟨o, ho, acc, jn, hp⟩) (by rw [flat_single, List.length_map]; lia) fun tw _ => ?_
              have hfl : ((wordOf ns).map fun c => [c]).flatten = wordOf ns := by rw [flat_single (fun c => c)]; simp
              rw [hfl]
              replace z1 := z1.keepAll kp
              clear jn hD hDn kp hb0 hus0 pv0 hps0 hv0
              refine evs_nil ?_
              refine ⟨_, _, _, _, rfl, rfl, fun h kk => ?_⟩
              replace z1 := z1.keepAll kk
              refine wpAny_assign_Name (x_cst e z1 0 rfl rfl 1 rfl fun h z1 _ => ?_)
              refine wpAny_assign_Name (x_cst e z1 1 rfl rfl 2 rfl fun h z1 _ => nx.go ?_)
              have z2 : Z B L (fr LN [some (.ref sc), some (.str (S (drawnOf ns)) t1), some (.str (S (aheadOf ns)) t2), some (.ref tx), some (.ref D1), some (.ref D2), none, none, none])
                [(Du, SLst (unitsOf ns)), (L + 1, CellO (some (.ref Du))), (L + 2, CellO (some (.str (S (wordOf ns)) tw))), (L + 3, CellO none)] h := z1
              clear z1 nx rt kk
              -- signs
              refine x_cons fun Qn nx rt => ?_
              refine x_asgCompC (B := B) (d := d) (os := os) e 6 rfl [Str.ofString "unit"] [] [] [] ⟨rfl, by decide +kernel, by decide +kernel, by decide +kernel, by decide +kernel, by decide +kernel, by decide +kernel, by decide +kernel, by decide +kernel⟩ rfl noHold ?_
                (hsw := by exact swaps_local e.kind (e.loc _ (List.mem_of_getElem? (i := 6) rfl)).1 rfl (by decide +kernel))
              refine x_cel e z2 0 rfl rfl 1 rfl ?_
              obtain ⟨ou, hou, uv, huv, hul⟩ := z2.get 0 rfl
              refine ⟨_, _, _, _, _, rfl, z2, Nat.le_of_ble_eq_true rfl, ?_⟩
              refine x_iter_list (Lst.isList ⟨ou, hou, hul⟩) fun I h₂ k₂ hI hIt => ?_
              refine ⟨I, h₂, _, _, _, _, _, rfl, rfl, k₂, hI, hIt, iter_list ag'.hh I Du uv, fun C D h₃ tk₃ cenv ce zc => ?_⟩
              have uvl : uv.length = (unitsOf ns).length := by have := strs_len huv; simpa using this
              refine x_comploop (A := A.deeper env) (names := [Str.ofString "unit"]) (iter_list ag'.hh I Du uv) (σ := List Value × Option Value)
                (fun i st => StrsAre st.1 ((((unitsOf ns).map fun u => (sgOf u).text).take i).map S) ∧ i ≤ uv.length) (fun _ st => [st.2]) (fun _ st => st.1) (fun _ _ => []) (fun _ _ => fins 3) ([], none)
                ⟨.nil, Nat.zero_le _⟩ zc (fun i st h' _ z => Lst.isList ⟨ou, z.keep _ _ hou, hul⟩) (fun i st hJ => by have := strs_len hJ.1; rw [List.length_map, List.length_take] at this; lia) ?_ ?_
              · rintro i ⟨acc, xv⟩ v hc tk hi hv ⟨hJ, _⟩ z
                have hi' : i < (unitsOf ns).length := by lia
                obtain ⟨t, e1⟩ := strs_get huv (i := i) (y := S (unitsOf ns)[i]) (by rw [List.getElem?_map, List.getElem?_eq_getElem hi']; rfl)
                rw [e1] at hv
                injection hv with hv
                subst hv
                have uo := unitsOf_ok ns _ (List.getElem_mem hi')
                have hsn : ∀ {txt : List Nat} {tt : Tok}, (sgOf (unitsOf ns)[i]).text = txt → StrsAre (acc ++ [.str (S txt) tt]) ((((unitsOf ns).map fun u => (sgOf u).text).take (i + 1)).map S) := fun {txt tt} ht => by
                  rw [take_snoc (y := txt) (by rw [List.getElem?_map, List.getElem?_eq_getElem hi', ← ht]; rfl)]
                  exact strs_snoc hJ _ _
                generalize (unitsOf ns)[i] = unit at uo hsn
                refine x_stoName ce.toEnvL z 0 rfl Nat.one_pos fun hc tk z₁ _ => ?_
                clear z; rename Z _ _ _ _ _ => z
                refine tests_nil ?_
                refine ite_t ?_
                refine y_ifx ?_
                refine y_tcmp ?_
                refine x_loc ce.toEnvL z 0 rfl rfl ?_
                refine x_list (g := fins 3) (d := d) (os := os) ?_
                refine evs_cons ?_
                refine x_str [42] (by decide +kernel) fun _ _ => ?_
                refine evs_cons ?_
                refine x_str [63] (by decide +kernel) fun _ _ => ?_
                refine evs_nil ?_
                refine ⟨_, _, rfl, Nat.le_of_ble_eq_true rfl, fun a hc ka hn ho => ?_⟩
                replace z := z.keepAll ka
                refine x_in_strs (ls := [[42], [63]]) (let ⟨o, ho, hp⟩ := ho; ⟨o, ho, _, .cons _ _ (.cons _ _ .nil), hp⟩) ?_
                refine x_truthy ?_
                refine ite_b (fun hb => ?_) fun hb => ?_
                · refine x_loc ce.toEnvL z 0 rfl rfl ?_
                  exact ⟨(acc ++ [_], some _), _, _, rfl, ⟨hsn (text_sig hb), hi⟩, rfl, z⟩
                · refine y_ifx ?_
                  refine y_tcmp ?_
                  refine y_sub ?_
                  refine x_loc ce.toEnvL z 0 rfl rfl ?_
                  refine y_un ?_
                  refine x_int fun _ _ => ?_
                  refine x_neg1 fun _ _ => ?_
                  refine x_sign (by have := uo.len; lia) (last_sign uo.ne) (by with_unfolding_all rfl) fun _ _ => ?_
                  refine x_str [42, 63, 91] (by decide +kernel) fun _ _ => ?_
                  refine x_in_str ?_
                  rw [sub_six uo.last]
                  refine x_truthy ?_
                  refine ite_b (fun hm => ?_) fun hm => ?_
                  · refine y_bin ?_
                    refine y_bin ?_
                    refine x_str [91] (by decide +kernel) fun _ _ => ?_
                    refine y_sub ?_
                    refine x_loc ce.toEnvL z 0 rfl rfl ?_
                    refine y_un ?_
                    refine x_int fun _ _ => ?_
                    refine x_neg1 fun _ _ => ?_
                    refine x_sign (by have := uo.len; lia) (last_sign uo.ne) (by with_unfolding_all rfl) fun _ _ => ?_
                    refine x_cat (by simp) fun _ _ => ?_
                    refine x_str [93] (by decide +kernel) fun _ _ => ?_
                    refine x_cat (by simp) fun _ _ => ?_
                    exact ⟨(acc ++ [_], some _), _, _, rfl, ⟨hsn (text_br hb (of_decide_eq_true hm)), hi⟩, rfl, z⟩
                  · refine y_sub ?_
                    refine x_loc ce.toEnvL z 0 rfl rfl ?_
                    refine y_un ?_
                    refine x_int fun _ _ => ?_
                    refine x_neg1 fun _ _ => ?_
                    refine x_sign (by have := uo.len; lia) (last_sign uo.ne) (by with_unfolding_all rfl) fun _ _ => ?_
                    exact ⟨(acc ++ [_], some _), _, _, rfl, ⟨hsn (text_lit hb (of_decide_eq_false hm)), hi⟩, rfl, z⟩
              rintro ⟨acc, xv⟩ h tk ⟨hJ, _⟩ z
              refine ⟨rfl, acc, [], h, tk, fins 3, _, rfl, z, fun h tk z => nx.go ?_⟩
              have hsl : uv.length = ((unitsOf ns).map fun u => (sgOf u).text).length := by rw [List.length_map]; exact uvl
              dsimp only at hJ
              rw [hsl, List.take_length] at hJ
              have z3 := z.mono 0 rfl (fun o (ho : LstO acc o) => (⟨acc, hJ, ho⟩ : SLst ((unitsOf ns).map fun u => (sgOf u).text) o))
              clear z z2 nx rt huv hul hou hJ zc
              -- made, heads
              have b71 : ∃ o, B 71 o ∧ TabP o := let ⟨o, ho, hp⟩ := tb; ⟨o, b0 _ _ ho, hp⟩
              have gtB : ∀ {m n h}, Z B L m n h → GT h := fun z => gt.keep fun b o q => z.keep b o (b0 b o q)
              refine x_cons fun Qn nx rt => ?_
              refine x_two_tup (g := fins 3) (d := d) (os := os) ag'.hh (e.cel 2 _ _ rfl rfl).1 ?_
              refine evs_cons ?_
              refine x_dcall (a := 57) ?_
              refine x_glob e.toEnvL (gwB z3) 0 rfl (gv_translate w) ?_
              refine ⟨rfl, ?_⟩
              refine evs_cons ?_
              refine x_meth F.plainAttrs_str F.slot_str_join F.type_str_join ?_
              refine x_str [] (by decide +kernel) fun _ _ => ?_
              refine ⟨⟨typeIs_str _ _ _, fun _ q => by cases q⟩, ?_⟩
              refine evs_cons ?_
              refine x_loc e.toEnvL z3 6 rfl rfl ?_
              refine evs_nil ?_
              have fl := sgFlat_len (sgsOf ns)
              have sl : (sgsOf ns).length ≤ 10 := by unfold sgsOf; rw [List.length_map]; exact units_len ns
              refine x_join0 (z3.get 0 rfl) (by rw [flat_sgs]; lia) fun tj _ => ?_
              rw [flat_sgs]
              refine evs_nil ?_
              refine ⟨fn_at (gwB z3) w.need.f57, ?_⟩
              have n71 : ∀ p ∈ [(D, SLst ((unitsOf ns).map fun u => (sgOf u).text)), (Du, SLst (unitsOf ns)), (L + 1, CellO (some (.ref Du))), (L + 2, CellO (some (.str (S (wordOf ns)) tw))), (L + 3, CellO none)], p.1 ≠ 71 := fun p hp q => by
                obtain ⟨o, ho, _⟩ := b71
                exact (z3.off p hp).2 o (q ▸ ho)
              have z4 := Z.claim (a := 71) (P := TabP) (B' := fun b o => B b o ∧ b ≠ 71) z3 (let ⟨o, ho, hp⟩ := b71; ⟨o, z3.keep _ _ ho, hp⟩) (fun b o q => q.1) (fun o q => q.2 rfl) (fun q => by obtain ⟨o, ho, _⟩ := b71; exact z3.apart o (q ▸ ho))
                (fun q => by obtain ⟨p, hp, e⟩ := List.mem_map.mp q; exact n71 p hp e)
              refine translate_call (gwB z3) (gtB z3) (let ⟨o, ho, hp⟩ := b71; ⟨o, z3.keep _ _ ho, hp⟩) (ag'.le (by decide)) (sgsOf ns) (sgsOf_ok ns) (by lia) tj fun tm h' tk k71 tb' => ?_
              have z5 := Z.swap (g := [(71, TabP)]) (g' := [(71, TabP)]) z4 (fun b o hb q => k71 b o (by simpa using hb) q) (fun p hp => by rw [List.mem_singleton] at hp; subst hp; exact tb') (by simp) (fun p hp => .inl (List.mem_map_of_mem hp))
              clear z3 z4 n71 k71 tb'
              obtain ⟨B5, hB5⟩ : ∃ B5 : Addr → Obj → Prop, B5 = fun b o => B b o ∧ b ≠ 71 := ⟨_, rfl⟩
              rw [← hB5] at z5
              have z6 : Z B5 L (fr LN [some (.ref sc), some (.str (S (drawnOf ns)) t1), some (.str (S (aheadOf ns)) t2), some (.ref tx), some (.ref D1), some (.ref D2), some (.ref D), none, none])
                [(71, TabP), (D, SLst ((unitsOf ns).map fun u => (sgOf u).text)), (Du, SLst (unitsOf ns)), (L + 1, CellO (some (.ref Du))), (L + 2, CellO (some (.str (S (wordOf ns)) tw))), (L + 3, CellO none)] h' := z5
              clear z5
              have k7 : ∀ {m n h}, Z B5 L m n h → Keep71 h₀ h := fun z b o hb q => z.keep b o (by rw [hB5]; exact ⟨b0 b o q, hb⟩)
              refine evs_cons ?_
              have hw12 := word_len ns
              refine x_lcomp (d := d) (os := os) e [] [Str.ofString "word"] [L + 2] ⟨rfl, by decide +kernel, by decide +kernel, by decide +kernel, by decide +kernel, by decide +kernel, by decide +kernel, by decide +kernel, by decide +kernel⟩ rfl
                (fun i x c hx hc => ⟨1, by match i, hx, hc with | 0, hx, hc => exact ⟨hx, hc⟩⟩) [] (fun _ => fins 3) (fun i acc _ => StrsAre acc (((headsOf ns).take i).map S)) ?_
              refine x_tcall (T := "range") ?_
              refine x_glob e.toEnvL (gw.keep71 (k7 z6)) 1 rfl (gv_range w) ?_
              refine ⟨rfl, ?_⟩
              refine evs_cons ?_
              refine y_bin ?_
              refine x_bcall (id := "len") ?_
              refine x_glob e.toEnvL (gw.keep71 (k7 z6)) 2 rfl (gv_len w) ?_
              refine ⟨rfl, ?_⟩
              refine evs_cons ?_
              refine x_cel e z6 1 rfl rfl 4 rfl ?_
              refine evs_nil ?_
              refine x_len_str (by lia) fun _ _ => ?_
              refine x_int fun _ _ => ?_
              refine x_add fun _ _ => ?_
              refine evs_nil ?_
              refine x_range1 fun r h tk kr hr hro => ?_
              replace z6 := z6.keepAll kr
              refine ⟨_, _, rfl, x_iter_range hro (by lia) (by lia) fun I h₂ k₂ hI hIt => ?_⟩
              have hcnt : ((wordOf ns).length + 1 - 0 : Int).toNat = (wordOf ns).length + 1 := rfl
              rw [hcnt] at hIt
              have hcw : ∃ o, h.get? (L + 2) = some o ∧ CellO (some (.str (S (wordOf ns)) tw)) o := z6.get 4 rfl
              have hhl : (headsOf ns).length = (wordOf ns).length + 1 := by unfold headsOf; rw [List.length_map, List.length_range]
              refine ⟨I, h₂, _, _, _, _, _, rfl, rfl, k₂, hI, hIt, iter_range ag'.hh I 0 ((wordOf ns).length + 1), List.nodup_nil, by simp, fun _ _ => trivial, by lia, .nil, fun i acc N j => ?_, fun i v acc N C cenv hc tk hi hv hJ ce zc => ?_, fun D7 acc N h tk jn kf hD hDn _ => ?_⟩
              · have := strs_len j; first | (rw [this, List.length_map]; exact Nat.le_trans (List.length_take_le' _ _) (by first | assumption | lia)) | (rw [this, List.length_map, List.length_take]; lia)
              · obtain ⟨tq, rfl⟩ := hv
                rw [Int.zero_add] at zc
                refine tests_nil ?_
                refine ite_t ?_
                refine x_slice_ns (g := fins 3) (d := d) (os := os) ?_
                refine x_celB ce 0 rfl rfl (cellK hcw fun b o q => zc.keep b o (.inl ⟨by simp, q⟩)) ?_
                refine x_loc ce.toEnvL zc 0 rfl rfl ?_
                refine ⟨_, _, _, _, _, _, rfl, rfl, rfl, by lia, fun h' tk' t' k' => ?_⟩
                rw [cut_take]
                refine ⟨h', tk', rfl, KeepF.ofKeep _ k', ?_⟩
                rw [take_snoc (heads_at ns hi)]
                exact strs_snoc hJ _ _
              · rw [← hhl, List.take_length] at jn
                replace z6 := z6.add (P := SLst (headsOf ns)) kf.nil hDn hD.choose_spec.1 ⟨acc, jn, hD.choose_spec.2⟩
                refine evs_nil ?_
                refine ⟨_, _, _, _, rfl, rfl, fun h kk => ?_⟩
                replace z6 := z6.keepAll kk
                refine wpAny_assign_Name (x_cst e z6 2 rfl rfl 6 rfl fun h z6 _ => ?_)
                refine x_stoName e.toEnvL z6 7 rfl (Nat.le_of_ble_eq_true rfl) fun h tk z6 _ => nx.go ?_
                have z7 : Z B5 L (fr LN [some (.ref sc), some (.str (S (drawnOf ns)) t1), some (.str (S (aheadOf ns)) t2), some (.ref tx), some (.ref D1), some (.ref D2), some (.ref D), some (.ref D7), none])
                  [(D7, SLst (headsOf ns)), (71, TabP), (D, SLst ((unitsOf ns).map fun u => (sgOf u).text)), (Du, SLst (unitsOf ns)), (L + 1, CellO (some (.ref Du))), (L + 2, CellO (some (.str (S (wordOf ns)) tw))), (L + 3, CellO (some (.str (S (joinP (piecesOf (sgsOf ns)))) tm)))] h := z6
                clear z6 nx rt hcw hro hr kr hIt kf hD hDn kk jn
                -- rows
                refine x_cons fun Qn nx rt => ?_
                refine x_asg (B := B5) (g := fins 3) (d := d) (os := os) e.toEnvL 8 rfl ?_
                refine x_list (g := fins 3) (d := d) (os := os) ?_
                refine evs_cons ?_
                have hlen13 : (headsOf ns).length ≤ 13 := by lia
                have headAt : ∀ {hv : List Value} {i : Nat} {v : Value}, StrsAre hv ((headsOf ns).map S) → hv[i]? = some v → ∃ y t, (headsOf ns)[i]? = some y ∧ v = .str (S y) t ∧ y.length ≤ 12 := fun {hv i v} hs q => by
                  have hl := strs_len hs
                  rw [List.length_map] at hl
                  have hi : i < (headsOf ns).length := by rw [← hl]; exact (List.getElem?_eq_some_iff.mp q).1
                  obtain ⟨t, e1⟩ := strs_get hs (i := i) (y := S (headsOf ns)[i]) (by rw [List.getElem?_map, List.getElem?_eq_getElem hi]; rfl)
                  rw [e1] at q
                  injection q with q
                  refine ⟨_, t, List.getElem?_eq_getElem hi, q.symm, ?_⟩
                  have := heads_at ns (i := i) (by lia)
                  rw [List.getElem?_eq_getElem hi] at this
                  injection this with this
                  first | (rw [this]; exact Nat.le_trans (List.length_take_le' _ _) (by first | assumption | lia)) | (rw [this, List.length_take]; lia)
                have hul1 : ∀ u ∈ unitsOf ns, u ≠ [] := fun u hu => (unitsOf_ok ns u hu).ne
                have hul2 : ∀ u ∈ unitsOf ns, u.length ≤ 1000 := fun u hu => by have := (unitsOf_ok ns u hu).len; lia
                have jlen : ∀ (i : Nat) (acc : List Value) (N : Addr → Obj → Prop), StrsAre acc ((((headsOf ns).take i).filter (fitsP (unitsOf ns))).map S) → acc.length ≤ i := fun i acc N j => by
                  have := strs_len j
                  have h1 := List.length_filter_le (fitsP (unitsOf ns)) ((headsOf ns).take i)
                  rw [List.length_map] at this
                  rw [List.length_take] at h1
                  lia
                have yes : ∀ {i : Nat} {y : List Nat} {t : Tok} {acc : List Value}, (headsOf ns)[i]? = some y → fitsP (unitsOf ns) y = true → StrsAre acc ((((headsOf ns).take i).filter (fitsP (unitsOf ns))).map S) → StrsAre (acc ++ [.str (S y) t]) ((((headsOf ns).take (i + 1)).filter (fitsP (unitsOf ns))).map S) := fun {i y t acc} hy hp j => by
                  rw [filter_snoc _ hy, if_pos hp]; exact strs_snoc j _ _
                have noo : ∀ {i : Nat} {y : List Nat} {acc : List Value}, (headsOf ns)[i]? = some y → fitsP (unitsOf ns) y = false → StrsAre acc ((((headsOf ns).take i).filter (fitsP (unitsOf ns))).map S) → StrsAre acc ((((headsOf ns).take (i + 1)).filter (fitsP (unitsOf ns))).map S) := fun {i y acc} hy hp j => by
                  rw [filter_snoc _ hy, if_neg (by rw [hp]; exact Bool.false_ne_true), List.append_nil]; exact j
                have hu10' := units_len ns
                -- by the ring
                refine x_lcompL (d := d) (os := os) ag'.hh e [Str.ofString "_law_ring"] [Str.ofString "units"] [L + 1] ⟨rfl, by decide +kernel, by decide +kernel, by decide +kernel, by decide +kernel, by decide +kernel, by decide +kernel, by decide +kernel, by decide +kernel⟩ rfl
                  (fun i x c hx hc => ⟨0, by match i, hx, hc with | 0, hx, hc => exact ⟨hx, hc⟩⟩) [L] (fun _ => fins 3) (fun i acc _ => StrsAre acc ((((headsOf ns).take i).filter (fitsP (unitsOf ns))).map S)) ?_
                refine x_loc e.toEnvL z7 7 rfl rfl ?_
                obtain ⟨oh, hoh, hv7, hhv, hhl7⟩ := z7.get 0 rfl
                have hvl : hv7.length = (headsOf ns).length := by have := strs_len hhv; simpa using this
                obtain ⟨oL, esL, epL, hoL, hdL, _⟩ := z7.ns
                have offL : ∀ {p : Addr × (Obj → Prop)}, p.1 ≠ L → p.1 ∉ [L] := fun h q => h (List.mem_singleton.mp q)
                refine ⟨_, _, D7, hv7, rfl, rfl, ⟨oh, hoh, hhl7⟩, offL (z7.off _ List.mem_cons_self).1, by simp, (fun b hb => by rw [List.mem_singleton] at hb; subst hb; exact ⟨_, hoL⟩), by lia, .nil, jlen, fun i v acc N C cenv hc tk hv hJ ce zc => ?_, fun D8 acc8 N h' tk jn kf hD hDn _ => ?_⟩
                · obtain ⟨y, t, hy, rfl, hyl⟩ := headAt hhv hv
                  have kx : ∀ b o, b ∉ [L] → h.get? b = some o → hc.get? b = some o := fun b o hb q => zc.keep b o (.inl ⟨hb, q⟩)
                  have gwc : G w hc := gw.keep71 fun b o hb q => kx b o (fun c => by
                    rw [List.mem_singleton] at c; subst c
                    exact z7.apart o (by rw [hB5]; exact ⟨b0 _ _ q, hb⟩)) (k7 z7 b o hb q)
                  have frs : Frs [env] hc := by
                    refine ⟨fun env' he => ?_, by rw [hfa1]; simp⟩
                    rw [List.mem_singleton] at he; subst he
                    obtain ⟨o', e', o₀, sl, e₀, rfl⟩ := zc.led (L, fun o => ∃ o₀ sl, h.get? L = some o₀ ∧ o = { o₀ with slots := sl }) (List.mem_singleton.mpr rfl)
                    rw [hoL] at e₀; injection e₀ with e₀; subst e₀
                    exact ⟨e.kind, L, _, esL, epL, hf, e', hdL⟩
                  obtain ⟨oD, hoD, hpD⟩ := z7.get 3 rfl
                  obtain ⟨oC, hoC, hpC⟩ := z7.get 4 rfl
                  refine tests_one ?_
                  refine y_val ?_
                  refine x_dcall (a := 222) ?_
                  refine x_glob ce.toEnvL gwc 0 rfl (gv_law_ring w) ?_
                  refine ⟨rfl, ?_⟩
                  refine evs_cons ?_
                  refine x_celB ce 0 rfl rfl ⟨oC, kx _ _ (offL (z7.off _ (List.mem_of_getElem? (i := 4) rfl)).1) hoC, hpC⟩ ?_
                  refine evs_cons ?_
                  refine x_loc ce.toEnvL zc 0 rfl rfl ?_
                  refine evs_nil ?_
                  refine ⟨fn_at gwc w.need.f222, ?_⟩
                  refine ring_call gwc (ag'.le (by decide)) (unitsOf ns) y Du t ⟨oD, kx _ _ (offL (z7.off _ (List.mem_of_getElem? (i := 3) rfl)).1) hoD, hpD⟩ (by lia) (by lia) hul1 hul2 [env] hfr1 frs apt1 fun h' tk' b kf hb => ?_
                  rw [hfa1] at kf
                  rw [ring_fits (by lia)] at hb
                  refine x_truthy ?_
                  refine ite_b (fun hbt => ?_) fun hbf => ?_
                  · have zc' := Z.growF (n1 := []) (X := [L]) (h₁ := h) (zc.subB (B' := SbX [L] h) fun b o q => .inl q) kf (fun b o q => q.1)
                    refine x_loc ce.toEnvL zc' 0 rfl rfl ?_
                    exact ⟨h', tk', rfl, kf, yes hy (hb.mp hbt) hJ⟩
                  · exact ⟨h', tk', rfl, kf, noo hy (by cases q : fitsP (unitsOf ns) y with | false => rfl | true => rw [hb.mpr q] at hbf; cases hbf) hJ⟩
                · rw [hvl, List.take_length] at jn
                  have z8 := Z.addF (P := SLst ((headsOf ns).filter (fitsP (unitsOf ns)))) z7 hDn (z7.own kf) hD.choose_spec.1 ⟨acc8, jn, hD.choose_spec.2⟩
                  clear z7 jn hD hDn kf hoh hhv hhl7 hvl hoL hdL offL
                  refine evs_cons ?_
                  -- by the pattern
                  refine x_lcompL (d := d) (os := os) ag'.hh e [Str.ofString "_law_takes"] [Str.ofString "made"] [L + 3] ⟨rfl, by decide +kernel, by decide +kernel, by decide +kernel, by decide +kernel, by decide +kernel, by decide +kernel, by decide +kernel, by decide +kernel⟩ rfl
                    (fun i x c hx hc => ⟨2, by match i, hx, hc with | 0, hx, hc => exact ⟨hx, hc⟩⟩) [] (fun _ => fins 3) (fun i acc _ => StrsAre acc ((((headsOf ns).take i).filter (fitsP (unitsOf ns))).map S)) ?_
                  refine x_loc e.toEnvL z8 7 rfl rfl ?_
                  obtain ⟨oh, hoh, hv7, hhv, hhl7⟩ := z8.get 1 rfl
                  have hvl : hv7.length = (headsOf ns).length := by have := strs_len hhv; simpa using this
                  obtain ⟨oC, hoC, hpC⟩ := z8.get 7 rfl
                  refine ⟨_, _, D7, hv7, rfl, rfl, ⟨oh, hoh, hhl7⟩, by simp, List.nodup_nil, by simp, by lia, .nil, jlen, fun i v acc N C cenv hc tk hv hJ ce zc => ?_, fun D9 acc9 N h' tk jn kf hD hDn _ => ?_⟩
                  · obtain ⟨y, t, hy, rfl, hyl⟩ := headAt hhv hv
                    have gwc : G w hc := (gw.keep71 (k7 z8)).keep fun b o q => zc.keep b o (.inl ⟨by simp, q⟩)
                    have tf : takesP (joinP (piecesOf (sgsOf ns))) y = fitsP (unitsOf ns) y := takes_fits (sgs_units _) (sgsOf_ok ns) y
                    refine tests_one ?_
                    refine y_val ?_
                    refine x_dcall (a := 234) ?_
                    refine x_glob ce.toEnvL gwc 0 rfl (gv_law_takes w) ?_
                    refine ⟨rfl, ?_⟩
                    refine evs_cons ?_
                    refine x_celB ce 0 rfl rfl ⟨oC, zc.keep _ _ (.inl ⟨by simp, hoC⟩), hpC⟩ ?_
                    refine evs_cons ?_
                    refine x_loc ce.toEnvL zc 0 rfl rfl ?_
                    refine evs_nil ?_
                    refine ⟨fn_at gwc w.need.f234, ?_⟩
                    refine takes_call gwc (ag'.le (by decide)) _ y tm t (made_len ns) (by lia) fun h' tk' kt => ?_
                    rw [tf]
                    refine x_truthy ?_
                    refine ite_b (fun hbt => ?_) fun hbf => ?_
                    · refine x_loc ce.toEnvL (zc.keepAll kt) 0 rfl rfl ?_
                      exact ⟨h', tk', rfl, KeepF.ofKeep _ kt, yes hy hbt hJ⟩
                    · exact ⟨h', tk', rfl, KeepF.ofKeep _ kt, noo hy hbf hJ⟩
                  · rw [hvl, List.take_length] at jn
                    have z9 := z8.add (P := SLst ((headsOf ns).filter (fitsP (unitsOf ns)))) kf.nil hDn hD.choose_spec.1 ⟨acc9, jn, hD.choose_spec.2⟩
                    clear z8 jn hD hDn kf hoh hhv hhl7 hvl hoC hpC
                    refine evs_nil ?_
                    refine ⟨_, _, rfl, Nat.le_of_ble_eq_true rfl, fun Dr h ka hn ho => ?_⟩
                    have z10 := z9.add ka hn ho.choose_spec.1 ho.choose_spec.2
                    clear z9 ho hn ka
                    refine ⟨_, _, _, _, rfl, z10, Nat.le_of_ble_eq_true rfl, fun h tk z => nx.go ?_⟩
                    clear z10 nx rt
                    refine y_cons ?_
                    refine y_ret ?_
                    refine y_cmp ?_
                    refine x_loc e.toEnvL z 8 rfl rfl ?_
                    refine y_bin ?_
                    refine x_list (g := fins 3) (d := d) (os := os) ?_
                    refine evs_cons ?_
                    refine x_lcompL (d := d) (os := os) ag'.hh e [Str.ofString "_law_fits"] [Str.ofString "units"] [L + 1] ⟨rfl, by decide +kernel, by decide +kernel, by decide +kernel, by decide +kernel, by decide +kernel, by decide +kernel, by decide +kernel, by decide +kernel⟩ rfl
                      (fun i x c hx hc => ⟨0, by match i, hx, hc with | 0, hx, hc => exact ⟨hx, hc⟩⟩) [] (fun _ => fins 3) (fun i acc _ => StrsAre acc ((((headsOf ns).take i).filter (fitsP (unitsOf ns))).map S)) ?_
                    refine x_loc e.toEnvL z 7 rfl rfl ?_
                    obtain ⟨oh, hoh, hv7, hhv, hhl7⟩ := z.get 3 rfl
                    have hvl : hv7.length = (headsOf ns).length := by have := strs_len hhv; simpa using this
                    obtain ⟨oC, hoC, hpC⟩ := z.get 7 rfl
                    obtain ⟨oD, hoD, hpD⟩ := z.get 6 rfl
                    refine ⟨_, _, D7, hv7, rfl, rfl, ⟨oh, hoh, hhl7⟩, by simp, List.nodup_nil, by simp, by lia, .nil, jlen, fun i v acc N C cenv hc tk hv hJ ce zc => ?_, fun D11 acc11 N h' tk jn kf hD hDn _ => ?_⟩
                    · obtain ⟨y, t, hy, rfl, hyl⟩ := headAt hhv hv
                      have gwc : G w hc := (gw.keep71 (k7 z)).keep fun b o q => zc.keep b o (.inl ⟨by simp, q⟩)
                      refine tests_one ?_
                      refine y_val ?_
                      refine x_dcall (a := 215) ?_
                      refine x_glob ce.toEnvL gwc 0 rfl (gv_law_fits w) ?_
                      refine ⟨rfl, ?_⟩
                      refine evs_cons ?_
                      refine x_celB ce 0 rfl rfl ⟨oC, zc.keep _ _ (.inl ⟨by simp, hoC⟩), hpC⟩ ?_
                      refine evs_cons ?_
                      refine x_loc ce.toEnvL zc 0 rfl rfl ?_
                      refine evs_nil ?_
                      refine ⟨fn_at gwc w.need.f215, ?_⟩
                      refine fits_call gwc (ag'.le (by decide)) (unitsOf ns) y Du t ⟨oD, zc.keep _ _ (.inl ⟨by simp, hoD⟩), hpD⟩ (by lia) (by lia) hul1 hul2 fun h' tk' kt => ?_
                      refine x_truthy ?_
                      refine ite_b (fun hbt => ?_) fun hbf => ?_
                      · refine x_loc ce.toEnvL (zc.keepAll kt) 0 rfl rfl ?_
                        exact ⟨h', tk', rfl, KeepF.ofKeep _ kt, yes hy hbt hJ⟩
                      · exact ⟨h', tk', rfl, KeepF.ofKeep _ kt, noo hy hbf hJ⟩
                    · rw [hvl, List.take_length] at jn
                      have z11 := z.add (P := SLst ((headsOf ns).filter (fitsP (unitsOf ns)))) kf.nil hDn hD.choose_spec.1 ⟨acc11, jn, hD.choose_spec.2⟩
                      clear z jn hD hDn kf hoh hhv hhl7 hvl hoC hpC hoD hpD
                      refine evs_nil ?_
                      refine ⟨_, _, rfl, Nat.le_of_ble_eq_true rfl, fun D12 h ka hn ho => ?_⟩
                      have z12 := z11.add ka hn ho.choose_spec.1 ho.choose_spec.2
                      refine x_int fun _ _ => ?_
                      refine x_lmul2 (z12.get 0 rfl) (Nat.le_of_ble_eq_true rfl) (by simp) fun D13 h km hn ho => ?_
                      have z13 := z12.add km hn ho.choose_spec.1 ho.choose_spec.2
                      clear z11 z12 hn ho km ka
                      obtain ⟨o8, ho8, v8, hv8, hl8⟩ := z13.get 5 rfl
                      obtain ⟨o9, ho9, v9, hv9, hl9⟩ := z13.get 4 rfl
                      obtain ⟨o11, ho11, v11, hv11, hl11⟩ := z13.get 2 rfl
                      obtain ⟨a8, r8⟩ := strs_reads (h := h) hv8
                      obtain ⟨a9, r9⟩ := strs_reads (h := h) hv9
                      obtain ⟨a11, r11⟩ := strs_reads (h := h) hv11
                      have lay := rows_lay ns
                      have dep := depth_heads [(headsOf ns).filter (fitsP (unitsOf ns)), (headsOf ns).filter (fitsP (unitsOf ns))]
                      refine SeqAt.compareEq_reads (s := ⟨h, fins 3, d, _, os⟩)
                        (reads_list (z13.get 3 rfl) (.cons (reads_list ⟨o8, ho8, hl8⟩ r8) (.cons (reads_list ⟨o9, ho9, hl9⟩ r9) .nil)))
                        (reads_list (z13.get 0 rfl) (.cons (reads_list ⟨o11, ho11, hl11⟩ r11) (.cons (reads_list ⟨o11, ho11, hl11⟩ r11) .nil))) lay lay
                        (by have := ag'.un; show _ + min _ _ < 9900; simp only [List.map_cons, List.map_nil] at dep; lia) ?_
                      rw [SeqAt.eqv_refl _ lay]
                      exact hQ _ _ _ (k7 z13) (z13.get 7 rfl) (fins_all 3)
end
end Mine
set_option maxHeartbeats 1000000
namespace Mine
theorem law_any {K : Frag} (nk : Need K) {w : World} {s : Shared} {ns : List Int} {vs : List Value} {sc : Addr} {Q E : Value → Shared → Prop}
    (hK : K.In s.heap) (hb : ∃ mb, s.heap.Ns builtinsNs mb ∧ ∀ x : Str, x ≠ "__name__" → mb x = bootBuiltins x) (hl : s.heap.NoLimit) (gt : GT s.heap) (ht : s.heap.get? 71 = some (tabObj #[])) (hg : s.gens = #[])
    (hI : IntsAre vs ns) (hs : s.heap.get? sc = some { cls := .type "list", data := .seq vs.toArray }) (hn : ns.length ≤ 100000)
    (hQ : ∀ s' : Shared, (∀ b o, b ≠ 71 → s.heap.get? b = some o → s'.heap.get? b = some o) → (∃ ps, s'.heap.get? 71 = some (tabObj ps)) → (∀ x ∈ s'.gens.toList, x = .finished) → s'.os = s.os → Q (.bool true) s') :
    wpAny (model PP w) callerA (call (.ref 239) [.ref sc]) Q E s := by
  obtain ⟨h, g, d, tk, os⟩ := s
  cases hg
  exact law_call (w := ⟨w, K, nk⟩) ⟨hK, hb, hl⟩ gt ⟨_, ht, #[], rfl, trivial⟩ ⟨rfl, by decide, by decide⟩ rfl ns sc ⟨_, hs, vs, hI, 0, rfl⟩ hn fun h' tk' g' kp tb fin =>
    hQ ⟨h', g', d, tk', os⟩ kp (let ⟨_, e, ps, q, _⟩ := tb; ⟨ps, q ▸ e⟩) fin rfl
theorem bm_main {h : Heap} {mg : Str → Option Value} {bm : Addr} {ob : Obj} (hg : h.Ns mainGlobals mg) (ho : h.get? bm = some ob) (hd : ob.data = .plain) : bm ≠ mainGlobals := by
  obtain ⟨o, es, ep, e, q, _⟩ := hg
  intro x; subst x; rw [e] at ho; cases ho; rw [q] at hd; cases hd
theorem gt_top {p : Program} {loose : List Str} {mean : ExcName → Option Value} {mg mb : Str → Option Value} {h : Heap} (T : Top p loose mean mg mb h) : GT h :=
  let ⟨bm, ob, b1, b2, b3, b4, b5, b6⟩ := T.bmain
  ⟨mg, bm, ob, T.g, b1, b2, bm_main T.g b3 b6, b3, b4, b5, b6⟩
theorem list_well {P : Params} {h : Heap} {a : Addr} {vs : List Value} {xs : List WData} (hL : h.IsList a vs.toArray) (x : Well P h (.ref a) (.list xs)) : h.get? a = some { cls := .type "list", data := .seq vs.toArray } := by
  obtain ⟨o, e, hc, n, hd⟩ := hL
  cases x with
  | list e' _ =>
    rw [e] at e'; cases e'
    injection hd with hd1 hd2
    rw [e, hd1]
theorem oldK_71 {h h' : Heap} (ht : TabsAt [(75, 71)] h) (e : h.get? 71 = some (tabObj #[])) (k : ∀ b o, b ≠ 71 → h.get? b = some o → h'.get? b = some o) (t : ∃ ps, h'.get? 71 = some (tabObj ps)) : OldK h h' := by
  obtain ⟨ps, t⟩ := t
  refine ⟨fun b o ho => ?_, fun b o ho => ?_⟩
  · by_cases hb : b = 71
    · subst hb
      rw [e] at ho; cases ho
      have q := ht (75, 71) (List.mem_singleton.mpr rfl)
      exact .inr (.inl ⟨(q.1.tab q.2).isCodeTable, rfl, #[], ps, rfl, by rw [Array.empty_append]; exact t⟩)
    · exact .inl (k b o hb ho)
  · by_cases hb : b = 71
    · subst hb; exact ⟨_, t⟩
    · exact ⟨o, k b o hb ho⟩
theorem fin_bare {g : Array GenState} (h : ∀ x ∈ g.toList, x = .finished) : AllBare g := fun y hy => by rw [h y (by simpa using hy)]; rfl
/-- the law ends well -/
theorem law_good {c : ClaimW} {cl : Str → Option Addr} {mean : ExcName → Option Value} {args : List WData} {s₁ s' : Shared} (hn : ∀ x, c.raises args x = false) (hp : c.post args (.bool true) args = true)
    (ht : TabsAt [(75, 71)] s₁.heap) (e : s₁.heap.get? 71 = some (tabObj #[])) (k : ∀ b o, b ≠ 71 → s₁.heap.get? b = some o → s'.heap.get? b = some o) (t : ∃ ps, s'.heap.get? 71 = some (tabObj ps)) (f : ∀ x ∈ s'.gens.toList, x = .finished) (ho : s'.os = s₁.os) :
    GoodWG c cl mean args s₁ (.ok (.ret (.bool true))) s' :=
  ⟨.inl ⟨_, .bool true, [], rfl, hn, .bool true, hp, fun _ => ⟨List.nodup_nil, fun a ha => by cases ha⟩⟩, oldK_71 ht e k t, ho, fin_bare f⟩
end Mine
open PySem.W.X PySem.W.ZRun
set_option Elab.async true
set_option maxRecDepth 100000
set_option maxHeartbeats 0
namespace Mine
noncomputable def tt.tw687273278653228763 : Unit := ()
noncomputable def tt.tw10266107322730264069 : Unit := ()
noncomputable def tt.tw18049841874240704150 : Unit := ()
noncomputable def tt.tw6705571973224083141 : Unit := ()
noncomputable def tt.tw18056660366236617927 : Unit := ()
noncomputable def tt.tw15918480367474682144 : Unit := ()
noncomputable def tt.tw14835861873784646104 : Unit := ()
noncomputable def tt.tw8322350276384778516 : Unit := ()
noncomputable def tt.tw5054651096558347668 : Unit := ()
noncomputable def tt.tw8617693192996081154 : Unit := ()
noncomputable def tt.tw8826318059684557576 : Unit := ()
noncomputable def tt.tw11012773080278527650 : Unit := ()
noncomputable def tt.tw1583737727474461062 : Unit := ()
noncomputable def tt.tw5204764591320883072 : Unit := ()
noncomputable def tt.tw12880729916085158994 : Unit := ()
noncomputable def tt.tw15070391647534097971 : Unit := ()
noncomputable def tt.tw17908113064763594220 : Unit := ()
noncomputable def tt.tw101621876641111461 : Unit := ()
noncomputable def tt.tw13801391831726240982 : Unit := ()
noncomputable def tt.tw10389120264154872 : Unit := ()
noncomputable def tt.tw10416419149167712238 : Unit := ()
noncomputable def tt.tw13246464067206082590 : Unit := ()
noncomputable def tt.tw16027207107503983373 : Unit := ()
noncomputable def tt.tw2405682107186236090 : Unit := ()
noncomputable def tt.tw6612558474414072537 : Unit := ()
noncomputable def tt.tw729361105795688890 : Unit := ()
noncomputable def tt.tw2958577278430153491 : Unit := ()
noncomputable def tt.tw16910363092186429052 : Unit := ()
noncomputable def tt.tw11120474055120240612 : Unit := ()
noncomputable def tt.tw15291020747821736065 : Unit := ()
noncomputable def tt.tw10041814385178204341 : Unit := ()
noncomputable def tt.tw4786197696887231293 : Unit := ()
noncomputable def tt.tw3737904325616717836 : Unit := ()
noncomputable def tt.tw15743585640554276349 : Unit := ()
noncomputable def tt.tw4434663046854518534 : Unit := ()
noncomputable def tt.tw7192358764564608222 : Unit := ()
noncomputable def tt.tw12378018456475819347 : Unit := ()
noncomputable def tt.tw8972039182469888527 : Unit := ()
noncomputable def tt.tw6711955946186716248 : Unit := ()
noncomputable def tt.tw10691337908268366210 : Unit := ()
noncomputable def tt.tw18357509698804068693 : Unit := ()
noncomputable def tt.tw14672383101896776620 : Unit := ()
noncomputable def tt.tw16127260253158681141 : Unit := ()
noncomputable def tt.tw8529063332205639600 : Unit := ()
noncomputable def tt.tw14658704612233823519 : Unit := ()
noncomputable def tt.tw8826583889775951407 : Unit := ()
noncomputable def tt.tw4297971898121903160 : Unit := ()
noncomputable def tt.tw11121865131217135005 : Unit := ()
noncomputable def tt.tw5016470080598756948 : Unit := ()
noncomputable def tt.tw15703620476833841913 : Unit := ()
noncomputable def tt.tw15308187754424879957 : Unit := ()
noncomputable def tt.tw2682455053756777066 : Unit := ()
noncomputable def tt.tw2079980981525626774 : Unit := ()
noncomputable def tt.tw1053995199388117570 : Unit := ()
noncomputable def tt.tw5446892312539838190 : Unit := ()
noncomputable def tt.tw11586054698724612939 : Unit := ()
noncomputable def tt.tw9579081967040494590 : Unit := ()
noncomputable def tt.tw15757882715109789895 : Unit := ()
noncomputable def tt.tw17215488615755635794 : Unit := ()
noncomputable def tt.tw18236181584517155826 : Unit := ()
noncomputable def tt.tw15938801205111150908 : Unit := ()
noncomputable def tt.tw14013077591252832830 : Unit := ()
noncomputable def tt.tw14571483989159782924 : Unit := ()
noncomputable def tt.tw10053489838484807077 : Unit := ()
noncomputable def tt.tw10151912149230994590 : Unit := ()
noncomputable def tt.tw3553058285414687394 : Unit := ()
noncomputable def tt.tw8692808777061339213 : Unit := ()
noncomputable def tt.tw14119417079500881269 : Unit := ()
noncomputable def tt.tw18021582498410195175 : Unit := ()
noncomputable def tt.tw14299047943255350337 : Unit := ()
noncomputable def tt.tw8080558755254045288 : Unit := ()
noncomputable def tt.tw11776394988237302118 : Unit := ()
noncomputable def tt.tw307756357799075095 : Unit := ()
noncomputable def tt.tw13877288866113686544 : Unit := ()
noncomputable def tt.tw9717537436087612191 : Unit := ()
noncomputable def tt.tw9310852422932115580 : Unit := ()
noncomputable def tt.tw18263439914384001777 : Unit := ()
noncomputable def tt.tw14933812908804159558 : Unit := ()
noncomputable def tt.tw9029294000210967315 : Unit := ()
noncomputable def tt.tw9855094719710387389 : Unit := ()
noncomputable def tt.tw259667189658271362 : Unit := ()
noncomputable def tt.tw17956483917294835655 : Unit := ()
noncomputable def tt.tw13849509896240428146 : Unit := ()
noncomputable def tt.tw12900588249483872694 : Unit := ()
noncomputable def tt.tw11415326093489017527 : Unit := ()
noncomputable def tt.tw2007089010801322306 : Unit := ()
noncomputable def tt.tw11325731318909741107 : Unit := ()
noncomputable def tt.tw8541396834511054786 : Unit := ()
noncomputable def tt.tw7282903817718065239 : Unit := ()
noncomputable def tt.tw7335867412796798814 : Unit := ()
noncomputable def tt.tw8742464382656016849 : Unit := ()
noncomputable def tt.tw1879870789764961992 : Unit := ()
noncomputable def tt.tw15309171744226113058 : Unit := ()
noncomputable def tt.tw3143790322736972414 : Unit := ()
noncomputable def tt.tw7462716387608191855 : Unit := ()
noncomputable def tt.tw10984430644905669868 : Unit := ()
noncomputable def tt.tw7521812330582482410 : Unit := ()
noncomputable def tt.tw13752904909886015992 : Unit := ()
noncomputable def tt.tw11717872324761571774 : Unit := ()
noncomputable def tt.tw2428037419755611530 : Unit := ()
noncomputable def tt.tw4461007205715639879 : Unit := ()
noncomputable def tt.tw13385165270425039802 : Unit := ()
noncomputable def tt.tw8437758405893935906 : Unit := ()
noncomputable def tt.tw16259053796800004289 : Unit := ()
noncomputable def tt.tw10815197037780206555 : Unit := ()
noncomputable def tt.tw14652900696672060778 : Unit := ()
noncomputable def tt.tw3151302607705712083 : Unit := ()
noncomputable def tt.tw2139822451744037065 : Unit := ()
noncomputable def tt.tw389482863744240731 : Unit := ()
noncomputable def tt.tw15577260874676890658 : Unit := ()
noncomputable def tt.tw1929656773919707897 : Unit := ()
noncomputable def tt.tw9454831344361313815 : Unit := ()
noncomputable def tt.tw16785841530122128588 : Unit := ()
noncomputable def tt.tw9739655011919281347 : Unit := ()
noncomputable def tt.tw3136956790219844854 : Unit := ()
noncomputable def tt.tw13757908710222336663 : Unit := ()
noncomputable def tt.tw12896134098843945685 : Unit := ()
noncomputable def tt.tw210226800512482512 : Unit := ()
noncomputable def tt.tw9798709395480823650 : Unit := ()
noncomputable def tt.tw6207121497745694490 : Unit := ()
noncomputable def tt.tw14779837814841084047 : Unit := ()
noncomputable def tt.tw10332848948678564612 : Unit := ()
noncomputable def tt.tw13248900454638320648 : Unit := ()
noncomputable def tt.tw11988996676776332416 : Unit := ()
noncomputable def tt.tw11161434030206719400 : Unit := ()
noncomputable def tt.tw3533268251901176026 : Unit := ()
noncomputable def tt.tw5023204600152440553 : Unit := ()
noncomputable def tt.tw6430020735016961386 : Unit := ()
noncomputable def tt.tw14212120467400786045 : Unit := ()
noncomputable def tt.tw9903676891015034703 : Unit := ()
noncomputable def tt.tw237348795302908326 : Unit := ()
noncomputable def tt.tw15617978657018297946 : Unit := ()
noncomputable def tt.tw6520727084414002827 : Unit := ()
noncomputable def tt.tw10583658582424775907 : Unit := ()
noncomputable def tt.tw14671002741414715385 : Unit := ()
noncomputable def tt.tw3030326091410968822 : Unit := ()
noncomputable def tt.tw5955839580386169252 : Unit := ()
noncomputable def tt.tw2489788169309172581 : Unit := ()
noncomputable def tt.tw7420995801698229625 : Unit := ()
noncomputable def tt.tw6985622525919335999 : Unit := ()
noncomputable def tt.tw16608580336140454190 : Unit := ()
noncomputable def tt.tw8840002355626186484 : Unit := ()
noncomputable def tt.tw7944697682014655517 : Unit := ()
noncomputable def tt.tw1811037573967943174 : Unit := ()
noncomputable def tt.tw14330534386520923528 : Unit := ()
noncomputable def tt.tw4075258712611681840 : Unit := ()
noncomputable def tt.tw3643010467432630910 : Unit := ()
noncomputable def tt.tw16861292110034229834 : Unit := ()
noncomputable def tt.tw2650544537894370291 : Unit := ()
noncomputable def tt.tw12605709964741594971 : Unit := ()
noncomputable def tt.tw3760516798300173486 : Unit := ()
noncomputable def tt.tw10387201315103927647 : Unit := ()
noncomputable def tt.tw768698445151210852 : Unit := ()
noncomputable def tt.tw42113295535214479 : Unit := ()
noncomputable def tt.tw7466746819667624 : Unit := ()
noncomputable def tt.tw14709218066395561808 : Unit := ()
noncomputable def tt.tw13011907873532973152 : Unit := ()
noncomputable def tt.tw8610499417497839482 : Unit := ()
noncomputable def tt.tw3650185338341130220 : Unit := ()
noncomputable def tt.tw4195744490400941814 : Unit := ()
noncomputable def tt.tw15913500381130257414 : Unit := ()
noncomputable def tt.tw10630600121163907758 : Unit := ()
noncomputable def tt.tw17709456397888057165 : Unit := ()
noncomputable def tt.tw8451912328782275924 : Unit := ()
noncomputable def tt.tw10357711282864539473 : Unit := ()
noncomputable def tt.tw18196006184208563647 : Unit := ()
noncomputable def tt.tw9366354429591449390 : Unit := ()
noncomputable def tt.tw14466253205329709781 : Unit := ()
noncomputable def tt.tw3162714026095138574 : Unit := ()
noncomputable def tt.tw15518781902673061959 : Unit := ()
noncomputable def tt.tw10726413051843914406 : Unit := ()
noncomputable def tt.tw9483392835845870266 : Unit := ()
noncomputable def tt.tw18320935608088945740 : Unit := ()
noncomputable def tt.tw14030953181914710835 : Unit := ()
noncomputable def tt.tw13148409978177996202 : Unit := ()
noncomputable def tt.tw10035173257741584639 : Unit := ()
noncomputable def tt.tw189325481100504749 : Unit := ()
noncomputable def tt.tw2390412887822528603 : Unit := ()
noncomputable def tt.tw8591066645956603361 : Unit := ()
noncomputable def tt.tw15216141249059217130 : Unit := ()
noncomputable def tt.tw511859252457507443 : Unit := ()
noncomputable def tt.tw13793238257053813494 : Unit := ()
noncomputable def tt.tw12673345978511517687 : Unit := ()
noncomputable def tt.tw493974445407013868 : Unit := ()
noncomputable def tt.tw4560189833030644395 : Unit := ()
noncomputable def tt.tw12942090739961453499 : Unit := ()
noncomputable def tt.tw13816739986505126549 : Unit := ()
noncomputable def tt.tw5127087993673371560 : Unit := ()
noncomputable def tt.tw7385405900594588585 : Unit := ()
noncomputable def tt.tw44640388258848065 : Unit := ()
noncomputable def tt.tw18413595612983396701 : Unit := ()
noncomputable def tt.tw4070171930509759364 : Unit := ()
noncomputable def tt.tw6065118080855585670 : Unit := ()
noncomputable def tt.tw16411202931413104431 : Unit := ()
noncomputable def tt.tw4728024636517787884 : Unit := ()
noncomputable def tt.tw8409026494806676229 : Unit := ()
noncomputable def tt.tw7008966126358702457 : Unit := ()
noncomputable def tt.tw4286823815950609409 : Unit := ()
noncomputable def tt.tw17716592443370759103 : Unit := ()
noncomputable def tt.tw15456245300666422992 : Unit := ()
noncomputable def tt.tw3600424566676805664 : Unit := ()
noncomputable def tt.tw16066699777535027892 : Unit := ()
noncomputable def tt.tw7537814246441265722 : Unit := ()
noncomputable def tt.tw13304804678901517063 : Unit := ()
noncomputable def tt.tw16191487459441356335 : Unit := ()
noncomputable def tt.tw7366903910387375638 : Unit := ()
noncomputable def tt.tw5140318808976283758 : Unit := ()
noncomputable def tt.tw2918792671600287264 : Unit := ()
noncomputable def tt.tw11610981549366223591 : Unit := ()
noncomputable def tt.tw12036817200159313911 : Unit := ()
noncomputable def tt.tw468680223022672840 : Unit := ()
noncomputable def tt.tw98917910177472595 : Unit := ()
noncomputable def tt.tw15667268325308402099 : Unit := ()
noncomputable def tt.tw12772698279602790751 : Unit := ()
noncomputable def tt.tw2053041835199880826 : Unit := ()
noncomputable def tt.tw1118588304945035457 : Unit := ()
noncomputable def tt.tw5601462813289531361 : Unit := ()
noncomputable def tt.tw2118323437550105417 : Unit := ()
noncomputable def tt.tw6376843055216867131 : Unit := ()
noncomputable def tt.tw16577462561161044872 : Unit := ()
noncomputable def tt.tw18375136339718292351 : Unit := ()
noncomputable def tt.tw10454472638777327160 : Unit := ()
noncomputable def tt.tw16225238944574292675 : Unit := ()
noncomputable def tt.tw319176305387625093 : Unit := ()
noncomputable def tt.tw5638597475745826609 : Unit := ()
noncomputable def tt.tw9133568230962416603 : Unit := ()
noncomputable def tt.tw12822490594133400858 : Unit := ()
noncomputable def tt.tw16564296207161793061 : Unit := ()
noncomputable def tt.tw13344430194911890551 : Unit := ()
noncomputable def tt.tw8640162729500157795 : Unit := ()
noncomputable def tt.tw6528010724877310193 : Unit := ()
noncomputable def tt.tw791041827807431226 : Unit := ()
noncomputable def tt.tw9761099398650248426 : Unit := ()
noncomputable def tt.tw11597418958280270115 : Unit := ()
noncomputable def tt.tw14409551506773978787 : Unit := ()
noncomputable def tt.tw13811872282313037096 : Unit := ()
noncomputable def tt.tw17881977236224200368 : Unit := ()
noncomputable def tt.tw16991198031676029360 : Unit := ()
noncomputable def tt.tw1717514842218654068 : Unit := ()
noncomputable def tt.tw13988781958206063510 : Unit := ()
noncomputable def tt.tw7236079906945872097 : Unit := ()
noncomputable def tt.tw466819072999169939 : Unit := ()
noncomputable def tt.tw2322294220581272214 : Unit := ()
noncomputable def tt.tw10991743933744245632 : Unit := ()
noncomputable def tt.tw3819245626995240412 : Unit := ()
noncomputable def tt.tw1539639394724877141 : Unit := ()
noncomputable def tt.tw15487453339775532938 : Unit := ()
noncomputable def tt.tw17063980697844608380 : Unit := ()
noncomputable def tt.tw11767576039201868253 : Unit := ()
noncomputable def tt.tw4766227094069981178 : Unit := ()
noncomputable def tt.tw13043421075533891208 : Unit := ()
noncomputable def tt.tw13281432678631509647 : Unit := ()
noncomputable def tt.tw6688100710974509039 : Unit := ()
noncomputable def tt.tw4253106939551658057 : Unit := ()
noncomputable def tt.tw8156863900221373583 : Unit := ()
noncomputable def tt.tw10818602805611085047 : Unit := ()
noncomputable def tt.tw2818027444032698068 : Unit := ()
noncomputable def tt.tw13063568975421659890 : Unit := ()
noncomputable def tt.tw17680596047155830574 : Unit := ()
noncomputable def tt.tw9667849692600609869 : Unit := ()
noncomputable def tt.tw1314408471706360702 : Unit := ()
noncomputable def tt.tw10669700825569539119 : Unit := ()
noncomputable def tt.tw6475780728812957013 : Unit := ()
noncomputable def tt.tw1656381807503714928 : Unit := ()
noncomputable def tt.tw15762969935683297041 : Unit := ()
noncomputable def tt.tw10579170321181455958 : Unit := ()
noncomputable def tt.tw4990131638344204226 : Unit := ()
noncomputable def tt.tw12229574005426965851 : Unit := ()
noncomputable def tt.tw1564542245118021518 : Unit := ()
noncomputable def tt.tw17135252956797461266 : Unit := ()
noncomputable def tt.tw6157948155440385951 : Unit := ()
noncomputable def tt.tw6598926995285627079 : Unit := ()
noncomputable def tt.tw3336757525949233082 : Unit := ()
noncomputable def tt.tw10768492824315470779 : Unit := ()
noncomputable def tt.tw11805934429122792038 : Unit := ()
noncomputable def tt.tw7727279649056094764 : Unit := ()
noncomputable def tt.tw3461270877253841574 : Unit := ()
noncomputable def tt.tw10086359938272142751 : Unit := ()
noncomputable def tt.tw7183359638488525470 : Unit := ()
noncomputable def tt.tw9824328201275826246 : Unit := ()
noncomputable def tt.tw10214950478182852282 : Unit := ()
noncomputable def tt.tw16564550525883027280 : Unit := ()
noncomputable def tt.tw15965032552816590660 : Unit := ()
noncomputable def tt.tw10417595904179293294 : Unit := ()
noncomputable def tt.tw15441000965091750335 : Unit := ()
noncomputable def tt.tw4937119970786135676 : Unit := ()
noncomputable def tt.tw15085192646481713117 : Unit := ()
noncomputable def tt.tw17961920246662000822 : Unit := ()
noncomputable def tt.tw17514195119573975245 : Unit := ()
noncomputable def tt.tw16001968196642530612 : Unit := ()
noncomputable def tt.tw15522084042314810309 : Unit := ()
noncomputable def tt.tw9749109612197107379 : Unit := ()
noncomputable def tt.tw845805150174434276 : Unit := ()
noncomputable def tt.tw4217001378479322011 : Unit := ()
noncomputable def tt.tw13907513161203566019 : Unit := ()
noncomputable def tt.tw2007558385215133720 : Unit := ()
noncomputable def tt.tw15785470193820693604 : Unit := ()
noncomputable def tt.tw6985590810900254973 : Unit := ()
noncomputable def tt.tw11428321810494499070 : Unit := ()
noncomputable def tt.tw14332516811909550681 : Unit := ()
noncomputable def tt.tw15139752883323785673 : Unit := ()
noncomputable def tt.tw3667984143994954828 : Unit := ()
noncomputable def tt.tw7403885182143271471 : Unit := ()
noncomputable def tt.tw7152542949175445639 : Unit := ()
noncomputable def tt.tw16592751717575173752 : Unit := ()
noncomputable def tt.tw5512466822766887345 : Unit := ()
noncomputable def tt.tw13833722456906790746 : Unit := ()
noncomputable def tt.tw2691529926591519547 : Unit := ()
noncomputable def tt.tw17770013527049825156 : Unit := ()
noncomputable def tt.tw17865851176486127063 : Unit := ()
noncomputable def tt.tw17457729540164062097 : Unit := ()
noncomputable def tt.tw17688134662242625615 : Unit := ()
noncomputable def tt.tw12278015570639099191 : Unit := ()
noncomputable def tt.tw9673502101297535383 : Unit := ()
noncomputable def tt.tw11801343915815075210 : Unit := ()
noncomputable def tt.tw657964816408855125 : Unit := ()
noncomputable def tt.tw769559321809430226 : Unit := ()
noncomputable def tt.tw11980550960007577144 : Unit := ()
noncomputable def tt.tw18236029226381415777 : Unit := ()
noncomputable def tt.tw4620184940177979433 : Unit := ()
noncomputable def tt.tw1793826769816100259 : Unit := ()
noncomputable def tt.tw8471626167225602783 : Unit := ()
noncomputable def tt.tw9862334231172404068 : Unit := ()
noncomputable def tt.tw9893863272192337692 : Unit := ()
noncomputable def tt.tw6645515896570280834 : Unit := ()
noncomputable def tt.tw11859811974771808206 : Unit := ()
noncomputable def tt.tw5067609637754682035 : Unit := ()
noncomputable def tt.tw3238289115099818646 : Unit := ()
noncomputable def tt.tw13516407644856037998 : Unit := ()
noncomputable def tt.tw4747082947005949996 : Unit := ()
noncomputable def tt.tw3630751397166365855 : Unit := ()
noncomputable def tt.tw4245980411537032867 : Unit := ()
noncomputable def tt.tw14947978567284519060 : Unit := ()
noncomputable def tt.tw17688921120478603464 : Unit := ()
noncomputable def tt.tw4789805618744477125 : Unit := ()
noncomputable def tt.tw9005650025359402661 : Unit := ()
noncomputable def tt.tw9970634275350307660 : Unit := ()
theorem tt : PySem.Challenge.rw_rx0146_01.Holds := by
  w_on; o_law; k_head; (case hw => w_witness2)
  k_fill
  intro w s₀ s₁ mg mb G Y fa o pm cd doc dV kV ho hd hcd hD hmg hg args vals as hpre hlay hrd hwl hlo
  have KX := km_in_of Y
  have hT8 := km_tabs_of Y
  have e1 := nsIn_ns KX G.T.g (x := Str.ofString "law") (r := some (.ref 239)) (by kernel_rfl)
  have hfa : fa = 239 := by
    have q : mg (Str.ofString "law") = some (.ref fa) := hmg
    rw [e1] at q; cases q; rfl
  subst hfa
  have hT9 : TabsAt [(75, 71)] s₁.heap := List.forall_mem_cons.mpr ⟨⟨codeHd_of_K (c := 75) (P := 71) KX (by kernel_rfl), hT8 71 (by k_mem)⟩, fun _ h => nomatch h⟩
  clear hmg ho hd hcd hD
  wrow_args hpre hlay hrd hwl hlo
  rename_i ns _ _ _ _ _ _ _ sc vs _ hL _ hW _ hI _ hlen _
  refine law_any ?nk KX ⟨mb, G.T.b, G.T.builtins⟩ G.T.nolimit (gt_top G.T) (hT8 71 (by k_mem)) hg hI (list_well hL hW) ?hn fun s' kp t f ho => law_good (raisesW_false ?hr) ?hp hT9 (hT8 71 (by k_mem)) kp t f ho
  case hn => omega
  case hr => wrow_none_raised
  case hp => wrow_post
  case nk => exact {
    f229 := ⟨⟨.type "function", none, #[], by kernel_rfl⟩, by kernel_rfl⟩
    f45 := ⟨⟨.type "function", none, #[], by kernel_rfl⟩, by kernel_rfl⟩
    f215 := ⟨⟨.type "function", none, #[], by kernel_rfl⟩, by kernel_rfl⟩
    f69 := ⟨⟨.type "function", none, #[], by kernel_rfl⟩, by kernel_rfl⟩
    f76 := ⟨⟨.type "function", none, #[], by kernel_rfl⟩, by kernel_rfl⟩
    f83 := ⟨⟨.type "function", none, #[], by kernel_rfl⟩, by kernel_rfl⟩
    f57 := ⟨⟨.type "function", none, #[], by kernel_rfl⟩, by kernel_rfl⟩
    f98 := ⟨⟨.type "function", none, #[], by kernel_rfl⟩, by kernel_rfl⟩
    f142 := ⟨⟨.type "function", none, #[], by kernel_rfl⟩, by kernel_rfl⟩
    f149 := ⟨⟨.type "function", none, #[], by kernel_rfl⟩, by kernel_rfl⟩
    f135 := ⟨⟨.type "function", none, #[], by kernel_rfl⟩, by kernel_rfl⟩
    f189 := ⟨⟨.type "function", none, #[], by kernel_rfl⟩, by kernel_rfl⟩
    f154 := ⟨⟨.type "function", none, #[], by kernel_rfl⟩, by kernel_rfl⟩
    f222 := ⟨⟨.type "function", none, #[], by kernel_rfl⟩, by kernel_rfl⟩
    f239 := ⟨⟨.type "function", none, #[], by kernel_rfl⟩, by kernel_rfl⟩
    f234 := ⟨⟨.type "function", none, #[], by kernel_rfl⟩, by kernel_rfl⟩
    f210 := ⟨⟨.type "function", none, #[], by kernel_rfl⟩, by kernel_rfl⟩
    t128 := by kernel_rfl
    v_len := by kernel_rfl
    v_range := by kernel_rfl
    v_list := by kernel_rfl
    v_law_bare := by kernel_rfl
    v_law_fits := by kernel_rfl
    v_law_takes := by kernel_rfl
    v_law_ring := by kernel_rfl
    v_law_units := by kernel_rfl
    v_iter_escaped_chars := by kernel_rfl
    v_translate := by kernel_rfl
    v_translate2 := by kernel_rfl
    v_join_translated_parts := by kernel_rfl
    v_escape := by kernel_rfl
    v_twin_re_1 := by kernel_rfl
    v_special_chars_map := by kernel_rfl
    v_NodeInfo := by kernel_rfl
    v_CycleError := by kernel_rfl
    v_TopologicalSorter := by kernel_rfl
    v_enumerate := by kernel_rfl
    v_object := by kernel_rfl
    v_set := by kernel_rfl
    v_iter := by kernel_rfl
    v_StopIteration := by kernel_rfl
    v_isinstance := by kernel_rfl
    v_str := by kernel_rfl
    v_type := by kernel_rfl
    v_tuple := by kernel_rfl
    pd59 := ⟨_, _, rfl, by kernel_rfl⟩
    sp97 := fun w => by kernel_rfl
    sp98 := fun w => by kernel_rfl
    sp92 := fun w => by kernel_rfl
    pat := ⟨_, rfl, by kernel_rfl, by kernel_rfl⟩
    cod := ⟨_, _, _, _, _, rfl⟩
    fs42 := by kernel_rfl
    fs63 := by kernel_rfl
    fs91 := by kernel_rfl
    no71 := by kernel_rfl
    hd75 := by kernel_rfl
    pc199 := ⟨by kernel_rfl, by kernel_rfl, by kernel_rfl, by kernel_rfl⟩
    pc102 := ⟨by kernel_rfl, by kernel_rfl, by kernel_rfl, by kernel_rfl⟩
    mk199 := by kernel_rfl
    mk102 := by kernel_rfl
    hd199 := by kernel_rfl
    an0 := by kernel_rfl
    an1 := by kernel_rfl
    an2 := by kernel_rfl
    an3 := by kernel_rfl
    fo0 := by kernel_rfl
    fo1 := by kernel_rfl
    fo2 := by kernel_rfl
    sl0 := by kernel_rfl
    sl1 := by kernel_rfl
    sl2 := by kernel_rfl
    tk0 := by kernel_rfl
    tk1 := by kernel_rfl
    tk2 := by kernel_rfl
    ty103 := by kernel_rfl
    ty104 := by kernel_rfl
    ty105 := by kernel_rfl
    fi102 := by kernel_rfl
    fi199 := by kernel_rfl
    fm142 := by kernel_rfl
    fm189 := by kernel_rfl
    fm149 := by kernel_rfl
    fm154 := by kernel_rfl
    ty98 := by kernel_rfl
    ty135 := by kernel_rfl
    ty142 := by kernel_rfl
    ty189 := by kernel_rfl
    ty149 := by kernel_rfl
    ty154 := by kernel_rfl
    ex117 := ⟨_, _, _, _, _, _, _, _, _, _, _, _, _, _, _, _, rfl, by kernel_rfl, by kernel_rfl, by kernel_rfl⟩ }
end Mine
theorem PySem.Challenge.cw_rx0146_01_holds : PySem.Challenge.rw_rx0146_01.Holds :=
  Mine.tt
