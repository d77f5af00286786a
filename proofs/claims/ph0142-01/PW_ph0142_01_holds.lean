import PyProof.Rows.All
import Wide.All
import OpenK.AllK
import Wide.FinOn
import PySem.Challenge.RW_ph0142_01
set_option Elab.async false
section
open PySem PySem.W PyProof.Rows PySem.Calls
set_option maxRecDepth 100000
set_option maxHeartbeats 4000000
namespace Mine
noncomputable abbrev prog : Program := PySem.Challenge.pw_ph0142_01
noncomputable def nthDef (k : Nat) : DefItem := match prog.main.body[k]? with
  | some (.FunctionDef name a b _ _ _ sc _ _ pos) => ⟨name, a, b, sc, pos⟩
  | _ => ⟨"", default, [], default, default⟩
noncomputable def nthSt (k : Nat) : Stmt := (prog.main.body[k]?).getD (.Pass default)
noncomputable section
noncomputable def entE (P : Params) (x : Str) (t : Tok) (v : Value) : DictEntry := ⟨PyData.keyHash P x, .str x t, v⟩
noncomputable def mainBase (P : Params) : List DictEntry := [entE P "__name__" 165 (.str "cpy313.stringprep" 199), entE P "__doc__" 166 .none, entE P "__package__" 167 .none, entE P "__loader__" 168 (.builtin "__main__.__loader__#opaque"),
  entE P "__spec__" 169 .none, entE P "__annotations__" 170 (.ref 6), entE P "__builtins__" 171 (.ref 4), entE P "__file__" 173 (.str "/claim/cut.py" 172), entE P "__cached__" 174 .none, entE P "_iter_escaped_chars" 198 (.ref 21)]
noncomputable def mainObj (P : Params) (more : List DictEntry) (n : Nat) : Obj := { cls := .type "dict", data := .dict (mainBase P ++ more).toArray n }
noncomputable def placesObj (more : List Value) : Obj := { cls := .none, data := .fields ([Value.int 2 0, Value.int 0 0, Value.ref 20] ++ more).toArray }
noncomputable def ob_11 : Obj := { cls := Value.type "tuple", data := Data.seq #[] }
noncomputable def ob_13 : Obj := { cls := Value.type "code", data := Data.fields #[Value.str (Str.ofString "<module>") 182, Value.str (Str.ofString "<module>") 183, Value.str (Str.ofString "/claim/cut.py") 184, Value.int 1 0, Value.int 0 0, Value.int 0 0, Value.int 0 0, Value.int 0 0, Value.ref 11, Value.bool false, Value.int 181 0, Value.ref 12, Value.none, Value.none, Value.none, Value.none, Value.int 185 0, Value.int 1 0, Value.str (Str.ofString "/claim/cut.py") 186] }
noncomputable def ob_14 : Obj := { cls := Value.type "frame", slots := #[some (Value.ref 13), some (Value.ref 3), some (Value.ref 3), none, some (Value.str (Str.ofString "__main__") 164), none, some (Value.ref 0)] }
noncomputable def ob_15 : Obj := { cls := Value.type "tuple", data := Data.seq #[] }
noncomputable def ob_16 : Obj := { cls := Value.none, data := Data.fields #[] }
noncomputable def ob_17 : Obj := { cls := Value.type "tuple", data := Data.seq #[Value.str (Str.ofString "addr") 192, Value.str (Str.ofString "pos") 193, Value.str (Str.ofString "escape") 194, Value.str (Str.ofString "ch") 195] }
noncomputable def ob_18 : Obj := { cls := Value.type "tuple", data := Data.seq #[] }
noncomputable def ob_19 : Obj := { cls := Value.none, data := Data.func { name := (nthDef 1).name, qualname := (nthDef 1).name, params := (nthDef 1).params, body := FuncBody.stmts (nthDef 1).body, scope := (nthDef 1).scope, globals := 0, closure := [], defaults := Value.none, kwdefaults := Value.none } }
noncomputable def ob_20 : Obj := { cls := Value.type "code", data := Data.fields #[Value.str (Str.ofString "_iter_escaped_chars") 189, Value.str (Str.ofString "_iter_escaped_chars") 190, Value.str (Str.ofString "/claim/cut.py") 191, Value.int 2 0, Value.int 1 0, Value.int 0 0, Value.int 0 0, Value.int 35 0, Value.ref 15, Value.bool true, Value.int 181 0, Value.ref 16, Value.none, Value.ref 17, Value.ref 18, Value.ref 19, Value.int 196 0, Value.int 2 0, Value.str (Str.ofString "/claim/cut.py") 197] }
noncomputable def ob_21 : Obj := { cls := Value.type "function", data := Data.func (docDef (nthDef 1).name (nthDef 1).params (nthDef 1).body (nthDef 1).scope (Value.str (Str.ofString "cpy313.email.utils") 187) (Value.ref 20) Value.none) }
noncomputable def ob_22 : Obj := { cls := Value.type "list", data := Data.seq #[Value.int 173 201, Value.int 847 202, Value.int 6150 203, Value.int 6155 204, Value.int 6156 205, Value.int 6157 206, Value.int 8203 207, Value.int 8204 208, Value.int 8205 209, Value.int 8288 210, Value.int 65279 211] }
noncomputable def ob_23 : Obj := { cls := Value.type "range", data := Data.fields #[Value.int 65024 212, Value.int 65040 213, Value.int 1 214] }
noncomputable def ob_24 : Obj := { cls := Value.type "list", data := Data.seq #[Value.int 65024 217, Value.int 65025 218, Value.int 65026 219, Value.int 65027 220, Value.int 65028 221, Value.int 65029 222, Value.int 65030 223, Value.int 65031 224, Value.int 65032 225, Value.int 65033 226, Value.int 65034 227, Value.int 65035 228, Value.int 65036 229, Value.int 65037 230, Value.int 65038 231, Value.int 65039 232] 18 }
noncomputable def ob_25 : Obj := { cls := Value.type "range_iterator", data := Data.fields #[Value.int 65040 0, Value.int 0 0, Value.int 1 0] }
noncomputable def ob_26 : Obj := { cls := Value.type "tuple", data := Data.seq #[] }
noncomputable def ob_27 : Obj := { cls := Value.type "StopIteration", data := Data.fields #[Value.ref 26, Value.none, Value.none, Value.none, Value.bool false, Value.none] }
noncomputable def ob_28 : Obj := { cls := Value.type "list", data := Data.seq #[Value.int 173 201, Value.int 847 202, Value.int 6150 203, Value.int 6155 204, Value.int 6156 205, Value.int 6157 206, Value.int 8203 207, Value.int 8204 208, Value.int 8205 209, Value.int 8288 210, Value.int 65279 211, Value.int 65024 217, Value.int 65025 218, Value.int 65026 219, Value.int 65027 220, Value.int 65028 221, Value.int 65029 222, Value.int 65030 223, Value.int 65031 224, Value.int 65032 225, Value.int 65033 226, Value.int 65034 227, Value.int 65035 228, Value.int 65036 229, Value.int 65037 230, Value.int 65038 231, Value.int 65039 232] }
noncomputable def ob_29 (P : Params) : Obj := { cls := Value.type "set", data := Data.set #[(65024, Value.int 65024 217), (65025, Value.int 65025 218), (65026, Value.int 65026 219), (65027, Value.int 65027 220), (65028, Value.int 65028 221), (65029, Value.int 65029 222), (6150, Value.int 6150 203), (65030, Value.int 65030 223), (65031, Value.int 65031 224), (65032, Value.int 65032 225), (65033, Value.int 65033 226), (6155, Value.int 6155 204), (6156, Value.int 6156 205), (6157, Value.int 6157 206), (8203, Value.int 8203 207), (8204, Value.int 8204 208), (8205, Value.int 8205 209), (65034, Value.int 65034 227), (65035, Value.int 65035 228), (65036, Value.int 65036 229), (65037, Value.int 65037 230), (65038, Value.int 65038 231), (65039, Value.int 65039 232), (173, Value.int 173 201), (847, Value.int 847 202), (8288, Value.int 8288 210), (65279, Value.int 65279 211)] 29 { mask := 127, place := #[0, 1, 2, 3, 4, 5, 6, 7, 8, 9, 10, 11, 12, 13, 14, 15, 16, 17, 18, 19, 20, 21, 22, 45, 79, 96, 127], dummies := #[], finger := 0, led := !(P.followText "set-order"), moves := 2, plain := true } }
noncomputable def ob_30 : Obj := { cls := Value.type "list_iterator", data := Data.fields #[Value.none, Value.int 27 0] }
noncomputable def ob_31 : Obj := { cls := Value.type "tuple", data := Data.seq #[] }
noncomputable def ob_32 : Obj := { cls := Value.type "StopIteration", data := Data.fields #[Value.ref 31, Value.none, Value.none, Value.none, Value.bool false, Value.none] }
noncomputable def ob_33 : Obj := { cls := Value.type "tuple", data := Data.seq #[] }
noncomputable def ob_34 : Obj := { cls := Value.none, data := Data.fields #[] }
noncomputable def ob_35 : Obj := { cls := Value.type "tuple", data := Data.seq #[Value.str (Str.ofString "code") 264] }
noncomputable def ob_36 : Obj := { cls := Value.type "tuple", data := Data.seq #[] }
noncomputable def ob_37 : Obj := { cls := Value.none, data := Data.func { name := (nthDef 4).name, qualname := (nthDef 4).name, params := (nthDef 4).params, body := FuncBody.stmts (nthDef 4).body, scope := (nthDef 4).scope, globals := 0, closure := [], defaults := Value.none, kwdefaults := Value.none } }
noncomputable def ob_38 : Obj := { cls := Value.type "code", data := Data.fields #[Value.str (Str.ofString "in_table_b1") 261, Value.str (Str.ofString "in_table_b1") 262, Value.str (Str.ofString "/claim/cut.py") 263, Value.int 17 0, Value.int 1 0, Value.int 0 0, Value.int 0 0, Value.int 3 0, Value.ref 33, Value.bool true, Value.int 181 0, Value.ref 34, Value.none, Value.ref 35, Value.ref 36, Value.ref 37, Value.int 265 0, Value.int 17 0, Value.str (Str.ofString "/claim/cut.py") 266] }
noncomputable def ob_39 : Obj := { cls := Value.type "function", data := Data.func (docDef (nthDef 4).name (nthDef 4).params (nthDef 4).body (nthDef 4).scope (Value.str (Str.ofString "cpy313.stringprep") 199) (Value.ref 38) Value.none) }
noncomputable def objs3 (P : Params) : List Obj := [PySem.W.boot_o_0 P, PySem.W.boot_o_1 P, PySem.W.boot_o_2 P, mainObj P [] 10, PySem.W.boot_o_4 P, PySem.W.boot_o_5 P, PySem.W.boot_o_6 P, PySem.W.boot_o_7 P, PySem.W.boot_o_8 P, PySem.W.boot_o_9 P, PySem.W.boot_o_10 P, ob_11, placesObj [], ob_13, ob_14, ob_15, ob_16, ob_17, ob_18, ob_19, ob_20, ob_21]
noncomputable def objs4 (P : Params) : List Obj := [PySem.W.boot_o_0 P, PySem.W.boot_o_1 P, PySem.W.boot_o_2 P, mainObj P [entE P "b1_set" 260 (.ref 29)] 11, PySem.W.boot_o_4 P, PySem.W.boot_o_5 P, PySem.W.boot_o_6 P, PySem.W.boot_o_7 P, PySem.W.boot_o_8 P, PySem.W.boot_o_9 P, PySem.W.boot_o_10 P, ob_11, placesObj [], ob_13, ob_14, ob_15, ob_16, ob_17, ob_18, ob_19, ob_20, ob_21, ob_22, ob_23, ob_24, ob_25, ob_26, ob_27, ob_28, ob_29 P, ob_30, ob_31, ob_32]
noncomputable def objs5 (P : Params) : List Obj := [PySem.W.boot_o_0 P, PySem.W.boot_o_1 P, PySem.W.boot_o_2 P, mainObj P [entE P "b1_set" 260 (.ref 29), entE P "in_table_b1" 267 (.ref 39)] 12, PySem.W.boot_o_4 P, PySem.W.boot_o_5 P, PySem.W.boot_o_6 P, PySem.W.boot_o_7 P, PySem.W.boot_o_8 P, PySem.W.boot_o_9 P, PySem.W.boot_o_10 P, ob_11, placesObj [.int 17 0, .int 0 0, .ref 38], ob_13, ob_14, ob_15, ob_16, ob_17, ob_18, ob_19, ob_20, ob_21, ob_22, ob_23, ob_24, ob_25, ob_26, ob_27, ob_28, ob_29 P, ob_30, ob_31, ob_32, ob_33, ob_34, ob_35, ob_36, ob_37, ob_38, ob_39]
noncomputable def objs5b (P : Params) : List Obj := [PySem.W.boot_o_0 P, PySem.W.boot_o_1 P, PySem.W.boot_o_2 P, mainObj P [entE P "b1_set" 260 (.ref 29), entE P "in_table_b1" 267 (.ref 39), entE P "b3_exceptions" 2218 (.ref 40)] 13, PySem.W.boot_o_4 P, PySem.W.boot_o_5 P, PySem.W.boot_o_6 P, PySem.W.boot_o_7 P, PySem.W.boot_o_8 P, PySem.W.boot_o_9 P, PySem.W.boot_o_10 P, ob_11, placesObj [.int 17 0, .int 0 0, .ref 38], ob_13, ob_14, ob_15, ob_16, ob_17, ob_18, ob_19, ob_20, ob_21, ob_22, ob_23, ob_24, ob_25, ob_26, ob_27, ob_28, ob_29 P, ob_30, ob_31, ob_32, ob_33, ob_34, ob_35, ob_36, ob_37, ob_38, ob_39]
noncomputable def S3 (w : World) (os : OsState) : Shared := ⟨⟨(objs3 w.params).toArray, {}⟩, #[], {}, 201, os⟩
noncomputable def S4 (w : World) (os : OsState) : Shared := ⟨⟨(objs4 w.params).toArray, {}⟩, #[], {}, 261, os⟩
noncomputable def S5 (w : World) (os : OsState) : Shared := ⟨⟨(objs5 w.params).toArray, {}⟩, #[], {}, 268, os⟩
end
noncomputable def env0 : Env := { scope := prog.main.scope, locals := mainNs, globals := mainNs, cells := [], code := .ref 13, frame := some 14 }
noncomputable def pos0 : Pos := ⟨0, 0, 0, 0⟩
noncomputable def cE : Code := .body (behindTheImports prog) env0
noncomputable def BB : List Frame := [topFrame pos0]
noncomputable abbrev wf (w : World) (a b : Bool) : World := (w.withFollow "set-order" a).withFollow "special-get-raises" b
end Mine
end
section
open PySem PySem.W PyProof.Rows PySem.Calls
set_option maxRecDepth 100000
set_option maxHeartbeats 4000000
namespace Mine
noncomputable def SetRun (w : World) : Prop := (fun os => segRun treeTable prog w 11 (some (.ref 6)) 1 1000 (S3 w os) (piecesOf [nthSt 3] env0 cE ⟨15, 0, 15, 8⟩ BB)) = fun os => some (.next, S4 w os, cE, ⟨16, 0, 16, 6⟩)
theorem k2ff (w : World) : SetRun (wf w false false) := by
  unfold SetRun
  rw [PySem.W.Fast.te14374325043358763698, PySem.W.Fast.te14364793385576792824]
  kernel_rfl
theorem k2ft (w : World) : SetRun (wf w false true) := by
  unfold SetRun
  rw [PySem.W.Fast.te14374325043358763698, PySem.W.Fast.te14364793385576792824]
  kernel_rfl
theorem k2tf (w : World) : SetRun (wf w true false) := by
  unfold SetRun
  rw [PySem.W.Fast.te14374325043358763698, PySem.W.Fast.te14364793385576792824]
  kernel_rfl
theorem k2tt (w : World) : SetRun (wf w true true) := by
  unfold SetRun
  rw [PySem.W.Fast.te14374325043358763698, PySem.W.Fast.te14364793385576792824]
  kernel_rfl
theorem k2 (w : World) : SetRun w :=
  byRow2 "special-get-raises" (P := SetRun) (byRow2 "set-order" (P := fun w => SetRun (w.withFollow "special-get-raises" false)) k2ff k2tf) (byRow2 "set-order" (P := fun w => SetRun (w.withFollow "special-get-raises" true)) k2ft k2tt) w
end Mine
end
section
open PySem PySem.W PyProof.Rows PySem.Calls
set_option maxRecDepth 100000
set_option maxHeartbeats 4000000
namespace Mine
/-- runs of the top's machine, as segGo tells them -/
noncomputable abbrev sg (w : World) (n : Nat) (s : Shared) (t : Thread) : Option (Shared × Thread) := segGo treeTable prog w 11 (some (.ref 6)) 1 n s t
theorem sg_add {w : World} : ∀ {n m : Nat} {s s₁ : Shared} {t t₁ : Thread} {r : Option (Shared × Thread)}, sg w n s t = some (s₁, t₁) → sg w m s₁ t₁ = r → sg w (n + m) s t = r
  | 0, m, s, s₁, t, t₁, r, h, k => by
    obtain ⟨rfl, rfl⟩ : s = s₁ ∧ t = t₁ := by simpa [segGo] using h
    rw [Nat.zero_add]; exact k
  | n + 1, m, s, s₁, t, t₁, r, h, k => by
    rw [show n + 1 + m = n + m + 1 by omega]
    unfold sg segGo at h ⊢
    cases he : endAt 1 t with
    | some f => rw [he] at h; cases h
    | none =>
      rw [he] at h
      cases hk : stepOk 11 (some (.ref 6)) t with
      | false => rw [hk] at h; cases h
      | true =>
        rw [hk] at h
        cases hs : step (denote treeTable) prog w s t with
        | halt o s₂ => rw [hs] at h; cases h
        | go s₂ t₂ => rw [hs] at h; exact sg_add h k

/-- the tree m runs in n steps from s at p to a, s', p' -/
noncomputable def Tr (w : World) {α : Type} (n : Nat) (m : Sem α) (s : Shared) (p : Pos) (a : α) (s' : Shared) (p' : Pos) : Prop :=
  ∀ (K : α → Sem Fin) (H : Value → Sem Fin) (gd : Bool → Bool) (lv : List Value → List Value),
    sg w n s ⟨m.wrap K H gd lv, cE, p, BB⟩ = some (s', ⟨K a, cE, p', BB⟩)
variable {w : World} {α β : Type} {s s₁ s₂ s' : Shared} {p p₁ p₂ p' : Pos} {n k : Nat}
theorem Tr.pure {a : α} : Tr w 0 (Pure.pure a) s p a s p := fun _ _ _ _ => rfl
theorem Tr.bind {m : Sem α} {f : α → Sem β} {a : α} {b : β} (h : Tr w n m s p a s₁ p₁) (g : Tr w k (f a) s₁ p₁ b s₂ p₂) : Tr w (n + k) (m >>= f) s p b s₂ p₂ := fun K H gd lv => by
  rw [Sem.bind_eq_wrap', Sem.wrap_wrap]
  exact sg_add (h _ _ _ _) (g K H gd lv)
theorem Tr.keep {m : Sem α} {a : α} {vs : List Value} (h : Tr w n m s p a s₁ p₁) : Tr w n (m.keep vs) s p a s₁ p₁ := fun K H gd lv => by
  rw [Sem.keep_eq_wrap, Sem.wrap_wrap]
  exact h _ _ _ _
theorem Tr.holding {m : Sem α} {a : α} {vs : List Value} (h : Tr w n m s p a s₁ p₁) : Tr w n (PySem.holding vs m) s p a s₁ p₁ := by
  unfold PySem.holding
  split
  · exact h
  · exact h.keep
theorem Tr.onRaise {m : Sem α} {a : α} {hd : Value → Sem Unit} (h : Tr w n m s p a s₁ p₁) : Tr w n (m.onRaise hd) s p a s₁ p₁ := fun K H gd lv => by
  rw [Sem.onRaise_eq_wrap, Sem.wrap_wrap]
  exact h _ _ _ _
theorem Tr.rule {tag : String} : Tr w 1 (PySem.rule tag) s p () s p := fun K H gd lv => by obtain ⟨h, g, d, t, o⟩ := s; rfl
theorem Tr.standAt {q : Pos} : Tr w 1 (PySem.standAt q) s p () s q := fun K H gd lv => by obtain ⟨h, g, d, t, o⟩ := s; rfl
theorem Tr.point : Tr w 1 PySem.point s p () s p := fun K H gd lv => by obtain ⟨h, g, d, t, o⟩ := s; rfl
theorem Tr.mkInt {i : Int} : Tr w 1 (PySem.mkInt i) s p (.int i s.toks) { s with toks := s.toks + 1 } p := fun K H gd lv => by obtain ⟨h, g, d, t, o⟩ := s; rfl
theorem Tr.mkText {i : Str} : Tr w 1 (PySem.mkText i) s p (.str i s.toks) { s with toks := s.toks + 1 } p := fun K H gd lv => by obtain ⟨h, g, d, t, o⟩ := s; rfl
theorem Tr.alloc {o : Obj} : Tr w 1 (PySem.alloc o) s p s.heap.objs.size { s with heap := s.heap.push o } p := fun K H gd lv => by obtain ⟨h, g, d, t, o⟩ := s; rfl
theorem Tr.loadPart {a : Addr} {part : Option Value} {o : Obj} (ho : s.heap.get? a = some o) : Tr w 1 (PySem.loadPart a part) s p o s p := fun K H gd lv => by
  obtain ⟨h, g, d, t, os⟩ := s
  show (match step (denote treeTable) prog w ⟨h, g, d, t, os⟩ ⟨.load a part K, cE, p, BB⟩ with | .go s' t' => some (s', t') | .halt _ _ => none) = _
  simp only [step]
  rw [show h.get? a = some o from ho]
theorem Tr.updatePart {a : Addr} {part : Option Value} {o : Obj} {f : Obj → Obj} (ho : s.heap.get? a = some o) (ha : 11 ≤ a) : Tr w 1 (PySem.updatePart a part f) s p () { s with heap := s.heap.update a f } p := fun K H gd lv => by
  obtain ⟨h, g, d, t, os⟩ := s
  have hk : stepOk 11 (some (.ref 6)) ⟨.update a part f K, cE, p, BB⟩ = true := by
    have : Nat.ble 11 a = true := Nat.ble_eq.mpr ha
    simp only [stepOk, this, Bool.true_or, Bool.and_true]
    rfl
  show (match stepOk 11 (some (.ref 6)) ⟨.update a part f K, cE, p, BB⟩ with | false => none | true => match step (denote treeTable) prog w ⟨h, g, d, t, os⟩ ⟨.update a part f K, cE, p, BB⟩ with | .go s' t' => some (s', t') | .halt _ _ => none) = _
  rw [hk]
  simp only [step]
  rw [show h.get? a = some o from ho]
  rfl
end Mine
end
section
open PySem PySem.W PyProof.Rows PySem.Calls
set_option maxRecDepth 100000
set_option maxHeartbeats 4000000
namespace Mine
noncomputable def ihash (x : Int) : Int :=
  let h : Int := x.natAbs % (2 ^ 61 - 1 : Nat)
  let h := if x < 0 then -h else h
  if h == -1 then -2 else h
theorem hash_run0 (b : Bool) (w : World) : (fun (k : Int) (t : Tok) (heap : Heap) (gens : Array GenState) (drawn : Drawn) (toks : Nat) (os : OsState) (p : Pos) (K : Int → Sem PySem.Fin) (H : Value → Sem PySem.Fin) (gd : Bool → Bool) (lv : List Value → List Value) =>
    segGo treeTable prog (w.withFollow "special-get-raises" b) 11 (some (.ref 6)) 1 5 ⟨heap, gens, drawn, toks, os⟩ ⟨(pyHash (.int k t)).wrap K H gd lv, cE, p, BB⟩) =
  fun k _ heap gens drawn toks os p K H gd lv => some (⟨heap, gens, drawn, toks + 1, os⟩, ⟨(pyHashByItsType.reduced (ihash k)).wrap K H gd lv, cE, p, BB⟩) := by
  rw [PySem.W.Fast.te3277212676724774461, PySem.W.Fast.te14364793385576792824]
  cases b
  · kernel_rfl
  · kernel_rfl
theorem ihash_small {k : Int} (h0 : 0 ≤ k) (h1 : k < 2 ^ 60) : ihash k = k := by
  unfold ihash
  obtain ⟨n, rfl⟩ := Int.eq_ofNat_of_zero_le h0
  have hn : n < 2 ^ 60 := by exact_mod_cast h1
  have e : ((Int.natAbs (n : Int) % (2 ^ 61 - 1 : Nat) : Nat) : Int) = n := by
    rw [Int.natAbs_natCast, Nat.mod_eq_of_lt (by omega)]
  simp only [Int.natCast_emod] at e ⊢
  have h2 : ¬ ((n : Int) < 0) := by omega
  have h3 : ((n : Int) == -1) = false := by rw [beq_eq_false_iff_ne]; omega
  rw [e]
  simp only [h2, if_false, h3, Bool.false_eq_true]
variable {w : World} {s : Shared} {p : Pos}
theorem Tr.hash {k : Int} {t : Tok} (h0 : 0 ≤ k) (h1 : k < 2 ^ 60) : Tr w 5 (pyHash (.int k t)) s p k { s with toks := s.toks + 1 } p := fun K H gd lv => by
  obtain ⟨heap, gens, drawn, toks, os⟩ := s
  have hr : pyHashByItsType.reduced k = Pure.pure k := by
    unfold pyHashByItsType.reduced
    have h2 : (decide (-(2 ^ 63 : Int) ≤ k) && decide (k < 2 ^ 63)) = true := by
      rw [Bool.and_eq_true, decide_eq_true_eq, decide_eq_true_eq]; constructor <;> omega
    rw [if_pos h2]
    have h3 : (k == -1) = false := by rw [beq_eq_false_iff_ne]; omega
    rw [h3]; rfl
  have := congrFun (congrFun (congrFun (congrFun (congrFun (congrFun (congrFun (congrFun (congrFun (congrFun (congrFun (congrFun (hash_run0 (w.params.followText "special-get-raises") w) k) t) heap) gens) drawn) toks) os) p) K) H) gd) lv
  rw [World.withFollow_self, ihash_small h0 h1, hr] at this
  exact this
/-- an entry of the table -/
noncomputable abbrev dictO (es : List DictEntry) (n : Nat) : Obj := { cls := .type "dict", data := .dict es.toArray n }
theorem places_nil (es : List DictEntry) (h : Int) (hn : ∀ e ∈ es, e.hash ≠ h) : placesWithHash es.toArray.size (fun i => es.toArray[i]?.map (·.hash)) h = [] := by
  unfold placesWithHash
  rw [List.filter_eq_nil_iff]
  intro i hi
  rw [List.mem_range, List.size_toArray] at hi
  dsimp only
  rw [List.getElem?_toArray, List.getElem?_eq_getElem hi]
  simp only [Option.map_some, beq_iff_eq, Option.some.injEq]
  exact hn _ (List.getElem_mem hi)
theorem Tr.find {d : Addr} {es : List DictEntry} {n : Nat} {k : Int} {t : Tok} (hd : s.heap.get? d = some (dictO es n)) (hn : ∀ e ∈ es, e.hash ≠ k) :
    Tr w 1 (dictFind d (.int k t) k) s p none s p := by
  unfold dictFind
  refine Tr.holding ?_
  refine Tr.bind (n := 1) (k := 0) (a := es.toArray) (s₁ := s) (p₁ := p) ?_ ?_
  · unfold dictEntries
    exact Tr.bind (n := 1) (k := 0) (Tr.loadPart hd) Tr.pure
  · have hp := places_nil es k hn
    show Tr w 0 (if ((Value.int k t) :: ((placesWithHash es.toArray.size (fun i => es.toArray[i]?.map (·.hash)) k).filterMap fun i => es.toArray[i]?.map (·.key))).all carriedByValue then _ else _) s p none s p
    rw [hp]
    simp only [List.filterMap_nil, List.all_cons, List.all_nil, carriedByValue, Bool.and_true, if_true]
    exact Tr.pure

theorem mapKeys_dictO (es : List DictEntry) (n : Nat) (e : DictEntry) : Obj.mapDictKeys (·.push e) (dictO es n) = dictO (es ++ [e]) (n + 1) := by
  simp [Obj.mapDictKeys, dictO]
theorem Tr.pushKey {d : Addr} {es : List DictEntry} {n : Nat} {e : DictEntry} {part : Option Value} (hd : s.heap.get? d = some (dictO es n)) (h11 : 11 ≤ d) (hsz : es.length < 1000) :
    Tr w 3 (updateDictKeys d (·.push e) part) s p () { s with heap := s.heap.update d (Obj.mapDictKeys (·.push e)) } p := by
  unfold updateDictKeys
  refine Tr.bind (n := 1) (k := 2) (Tr.loadPart hd) ?_
  refine Tr.bind (n := 1) (k := 1) (Tr.updatePart hd h11) ?_
  unfold lookBehind
  have hg : (s.heap.update d (Obj.mapDictKeys (·.push e))).get? d = some (dictO (es ++ [e]) (n + 1)) := by
    have := Heap.get?_update_self (h := s.heap) (Obj.mapDictKeys (·.push e)) hd (by rw [mapKeys_dictO]; rfl)
    rw [this, mapKeys_dictO]
  refine Tr.bind (n := 1) (k := 0) (Tr.loadPart (s := { s with heap := s.heap.update d (Obj.mapDictKeys (·.push e)) }) hg) ?_
  have : (dictO (es ++ [e]) (n + 1)).data.pastItsLine = none := by
    simp only [dictO, Data.pastItsLine]
    rw [if_neg]
    simp only [List.size_toArray, List.length_append, List.length_singleton, sizeLine]
    omega
  rw [this]
  exact Tr.pure
theorem Tr.set {d : Addr} {es : List DictEntry} {n : Nat} {k : Int} {t : Tok} {v : Value} (hd : s.heap.get? d = some (dictO es n)) (h11 : 11 ≤ d) (hsz : es.length < 1000) (h0 : 0 ≤ k) (h1 : k < 2 ^ 60) (hn : ∀ e ∈ es, e.hash ≠ k) :
    Tr w 10 (dictSet d (.int k t) v) s p () { s with heap := s.heap.update d (Obj.mapDictKeys (·.push ⟨k, .int k t, v⟩)), toks := s.toks + 1 } p := by
  unfold dictSet
  refine Tr.holding (Tr.bind (n := 5) (k := 5) (Tr.hash h0 h1) ?_)
  unfold dictSetHashed
  refine Tr.holding (Tr.bind (n := 1) (k := 4) (Tr.find (s := { s with toks := s.toks + 1 }) hd hn) ?_)
  exact Tr.bind (n := 1) (k := 3) Tr.rule (Tr.pushKey (s := { s with toks := s.toks + 1 }) hd h11 hsz)
theorem Tr.put {d : Addr} {es : List DictEntry} {n : Nat} {k : Int} {t : Tok} {v : Value} (hd : s.heap.get? d = some (dictO es n)) (h11 : 11 ≤ d) (hsz : es.length < 1000) (hn : ∀ e ∈ es, e.hash ≠ k) :
    Tr w 4 (dictPut d k (.int k t) v) s p () { s with heap := s.heap.update d (Obj.mapDictKeys (·.push ⟨k, .int k t, v⟩)) } p := by
  unfold dictPut
  exact Tr.bind (n := 1) (k := 3) (Tr.find hd hn) (Tr.pushKey hd h11 hsz)
end Mine
end
section
open PySem PySem.W PyProof.Rows PySem.Calls
set_option maxRecDepth 100000
set_option maxHeartbeats 4000000
namespace Mine
variable {w : World} {p : Pos}
noncomputable abbrev hp (l : List Obj) : Heap := ⟨l.toArray, {}⟩
theorem hp_push (l : List Obj) (o : Obj) : (hp l).push o = hp (l ++ [o]) := by simp [Heap.push]
theorem hp_size (l : List Obj) : (hp l).objs.size = l.length := by simp
theorem hp_get {l : List Obj} {i : Nat} {es : List DictEntry} {n : Nat} (h : l[i]? = some (dictO es n)) : (hp l).get? i = some (dictO es n) := by
  unfold Heap.get?
  simp only [List.getElem?_toArray, h]
theorem hp_update_mid (a b : List Obj) (o : Obj) (f : Obj → Obj) : (hp (a ++ o :: b)).update a.length f = hp (a ++ f o :: b) := by
  unfold Heap.update
  dsimp only [hp]
  congr 1
  apply Array.toList_inj.mp
  rw [Array.toList_modify]
  induction a with
  | nil => rfl
  | cons x a ih => rw [List.cons_append, List.length_cons, List.modify_succ_cons, ih, List.cons_append]
noncomputable def ents (t : Nat) : List (Int × Str) → List DictEntry
  | [] => []
  | e :: r => ⟨e.1, .int e.1 t, .str e.2 (t + 1)⟩ :: ents (t + 3) r
noncomputable def ents2 (t : Nat) : List (Int × Str) → List DictEntry
  | [] => []
  | e :: r => ⟨e.1, .int e.1 t, .str e.2 (t + 1)⟩ :: ents2 (t + 2) r
theorem ents_append : ∀ (a b : List (Int × Str)) (t : Nat), ents t (a ++ b) = ents t a ++ ents (t + 3 * a.length) b
  | [], b, t => by simp [ents]
  | e :: a, b, t => by
    rw [List.cons_append, ents, ents, ents_append a b (t + 3), List.cons_append, List.length_cons]
    congr 3; omega
theorem ents_length : ∀ (a : List (Int × Str)) (t : Nat), (ents t a).length = a.length
  | [], _ => rfl
  | e :: a, t => by rw [ents, List.length_cons, ents_length a, List.length_cons]
theorem ents2_length : ∀ (a : List (Int × Str)) (t : Nat), (ents2 t a).length = a.length
  | [], _ => rfl
  | e :: a, t => by rw [ents2, List.length_cons, ents2_length a, List.length_cons]
theorem ents_hash : ∀ (a : List (Int × Str)) (t : Nat) (e : DictEntry), e ∈ ents t a → ∃ x ∈ a, e.hash = x.1
  | [], _, _, h => by simp [ents] at h
  | x :: a, t, e, h => by
    rw [ents, List.mem_cons] at h
    rcases h with rfl | h
    · exact ⟨x, List.mem_cons_self .., rfl⟩
    · obtain ⟨y, hy, e'⟩ := ents_hash a _ e h
      exact ⟨y, List.mem_cons_of_mem _ hy, e'⟩
theorem ents2_hash : ∀ (a : List (Int × Str)) (t : Nat) (e : DictEntry), e ∈ ents2 t a → ∃ x ∈ a, e.hash = x.1
  | [], _, _, h => by simp [ents2] at h
  | x :: a, t, e, h => by
    rw [ents2, List.mem_cons] at h
    rcases h with rfl | h
    · exact ⟨x, List.mem_cons_self .., rfl⟩
    · obtain ⟨y, hy, e'⟩ := ents2_hash a _ e h
      exact ⟨y, List.mem_cons_of_mem _ hy, e'⟩
/-- a key and a value of the display, as the display has them -/
noncomputable def cl (q : Pos) (e : Int × Str) : Sem Value × Sem Value := (constValue env0 (.int e.1), do let x ← constValue env0 (.str e.2); standAt q; pure x)
noncomputable def Okk (L : List (Int × Str)) : Prop := (∀ e ∈ L, 0 ≤ e.1 ∧ e.1 < 2 ^ 60) ∧ L.Pairwise (fun a b => a.1 < b.1)
noncomputable abbrev st (l : List Obj) (T : Nat) (os : OsState) : Shared := ⟨hp l, #[], {}, T, os⟩
theorem loop_long {q : Pos} {os : OsState} (pre : List Obj) (h11 : 11 ≤ pre.length) : ∀ (L done : List (Int × Str)) (T T' : Nat), Okk (done ++ L) → (done ++ L).length < 1000 → T' = T + 3 * done.length →
    Tr w (13 * L.length) (forIn (L.map (cl q)) PUnit.unit (fun (x : Sem Value × Sem Value) (_ : PUnit) => do
        let kv ← x.1
        let vv ← PySem.holding [kv] x.2
        PySem.holding [kv, vv] (dictSet pre.length kv vv)
        pure (ForInStep.yield PUnit.unit))) (st (pre ++ [dictO (ents T done) done.length]) T' os) q PUnit.unit
      (st (pre ++ [dictO (ents T (done ++ L)) (done ++ L).length]) (T' + 3 * L.length) os) q
  | [], done, T, T', _, _, _ => by simpa using (Tr.pure (w := w))
  | e :: L, done, T, T', ok, hl, hT => by
    subst hT
    have hin : e ∈ done ++ e :: L := by simp
    have hb := ok.1 e hin
    have hfresh : ∀ x ∈ ents T done, x.hash ≠ e.1 := fun x hx => by
      obtain ⟨y, hy, ey⟩ := ents_hash _ _ _ hx
      rw [ey]
      have := (List.pairwise_append.mp ok.2).2.2 y hy e (List.mem_cons_self ..)
      omega
    rw [List.map_cons, List.forIn_cons]
    have key := loop_long (q := q) (os := os) pre h11 L (done ++ [e]) T (T + 3 * done.length + 3) (by simpa using ok) (by simpa using hl) (by simp; omega)
    rw [show 13 * (e :: L).length = 13 + 13 * L.length by rw [List.length_cons]; omega]
    refine Tr.bind (n := 13) (k := 13 * L.length) (a := ForInStep.yield PUnit.unit) (s₁ := st (pre ++ [dictO (ents T (done ++ [e])) (done ++ [e]).length]) (T + 3 * done.length + 3) os) (p₁ := q) ?_ ?_
    · refine Tr.bind (n := 1) (k := 12) Tr.mkInt ?_
      refine Tr.bind (n := 2) (k := 10) (Tr.holding (Tr.bind (n := 1) (k := 1) Tr.mkText (Tr.bind (n := 1) (k := 0) Tr.standAt Tr.pure))) ?_
      have hs := Tr.set (w := w) (p := q) (s := st (pre ++ [dictO (ents T done) done.length]) (T + 3 * done.length + 1 + 1) os) (d := pre.length) (es := ents T done) (n := done.length) (k := e.1) (t := T + 3 * done.length)
        (v := .str e.2 (T + 3 * done.length + 1)) (hp_get (by simp)) h11 (by rw [ents_length]; simp at hl; omega) hb.1 hb.2 hfresh
      refine Tr.bind (n := 10) (k := 0) (Tr.holding hs) ?_
      have e1 : (st (pre ++ [dictO (ents T done) done.length]) (T + 3 * done.length + 1 + 1) os).heap.update pre.length (Obj.mapDictKeys (·.push ⟨e.1, .int e.1 (T + 3 * done.length), .str e.2 (T + 3 * done.length + 1)⟩)) =
          hp (pre ++ [dictO (ents T (done ++ [e])) (done ++ [e]).length]) := by
        show (hp (pre ++ [dictO (ents T done) done.length])).update pre.length _ = _
        rw [hp_update_mid, mapKeys_dictO, ents_append]
        simp [ents]
      rw [e1]
      exact Tr.pure
    · have : T + 3 * done.length + 3 + 3 * L.length = T + 3 * done.length + 3 * (e :: L).length := by rw [List.length_cons]; omega
      rw [this] at key
      simpa using key
end Mine
end
section
open PySem PySem.W PyProof.Rows PySem.Calls
set_option maxRecDepth 100000
set_option maxHeartbeats 4000000
namespace Mine
variable {w : World} {p : Pos}
theorem sub_long {q : Pos} {os : OsState} {T : Nat} (pre : List Obj) (h11 : 11 ≤ pre.length) (L : List (Int × Str)) (ok : Okk L) (hl : L.length < 1000) (h15 : 15 < L.length) :
    Tr w (2 + 13 * L.length) (subDict (L.map (cl q))) (st pre T os) q pre.length (st (pre ++ [dictO (ents T L) L.length]) (T + 3 * L.length) os) q := by
  unfold subDict
  rw [show 2 + 13 * L.length = 1 + (1 + (13 * L.length + 0) + 0) by omega]
  have ha : Tr w 1 (PySem.alloc { cls := .type "dict", data := .dict #[] }) (st pre T os) q pre.length (st (pre ++ [dictO [] 0]) T os) q := by
    have := Tr.alloc (w := w) (p := q) (s := st pre T os) (o := { cls := .type "dict", data := .dict #[] })
    simp only [hp_size, hp_push] at this
    exact this
  refine Tr.bind ha (Tr.bind (a := ()) (Tr.holding ?_) Tr.pure)
  rw [if_neg (by rw [List.length_map]; omega)]
  refine Tr.bind Tr.rule ?_
  have := loop_long (w := w) (q := q) (os := os) pre h11 L [] T T (by simpa using ok) (by simpa using hl) (by simp)
  exact Tr.bind this Tr.pure
theorem loop_set {q : Pos} {os : OsState} (pre : List Obj) (h11 : 11 ≤ pre.length) (T : Nat) : ∀ (L done : List (Int × Str)) (T₀ T' : Nat), Okk (done ++ L) → (done ++ L).length < 1000 → T₀ = T + 2 * done.length →
    Tr w (10 * L.length) (forIn ((ents2 T₀ L).map fun e => (e.key, e.val)) PUnit.unit (fun (x : Value × Value) (_ : PUnit) => do
        dictSet pre.length x.1 x.2
        pure (ForInStep.yield PUnit.unit))) (st (pre ++ [dictO (ents2 T done) done.length]) T' os) q PUnit.unit
      (st (pre ++ [dictO (ents2 T (done ++ L)) (done ++ L).length]) (T' + L.length) os) q
  | [], done, T₀, T', _, _, _ => by simpa [ents2] using (Tr.pure (w := w))
  | e :: L, done, T₀, T', ok, hl, hT => by
    subst hT
    have hin : e ∈ done ++ e :: L := by simp
    have hb := ok.1 e hin
    have hfresh : ∀ x ∈ ents2 T done, x.hash ≠ e.1 := fun x hx => by
      obtain ⟨y, hy, ey⟩ := ents2_hash _ _ _ hx
      rw [ey]
      have := (List.pairwise_append.mp ok.2).2.2 y hy e (List.mem_cons_self ..)
      omega
    rw [ents2, List.map_cons, List.forIn_cons]
    have key := loop_set (q := q) (os := os) pre h11 T L (done ++ [e]) (T + 2 * done.length + 2) (T' + 1) (by simpa using ok) (by simpa using hl) (by simp; omega)
    rw [show 10 * (e :: L).length = 10 + 10 * L.length by rw [List.length_cons]; omega]
    have hap : ents2 T (done ++ [e]) = ents2 T done ++ [⟨e.1, .int e.1 (T + 2 * done.length), .str e.2 (T + 2 * done.length + 1)⟩] := by
      clear key hfresh hin hb ok hl
      induction done generalizing T with
      | nil => simp [ents2]
      | cons x d ih =>
        rw [List.cons_append, ents2, ents2, ih (T + 2), List.cons_append, List.length_cons, show T + 2 + 2 * d.length = T + 2 * (d.length + 1) by omega]
    refine Tr.bind (n := 10) (k := 10 * L.length) (a := ForInStep.yield PUnit.unit) (s₁ := st (pre ++ [dictO (ents2 T (done ++ [e])) (done ++ [e]).length]) (T' + 1) os) (p₁ := q) ?_ ?_
    · have hs := Tr.set (w := w) (p := q) (s := st (pre ++ [dictO (ents2 T done) done.length]) T' os) (d := pre.length) (es := ents2 T done) (n := done.length) (k := e.1) (t := T + 2 * done.length)
        (v := .str e.2 (T + 2 * done.length + 1)) (hp_get (by simp)) h11 (by rw [ents2_length]; simp at hl; omega) hb.1 hb.2 hfresh
      refine Tr.bind (n := 10) (k := 0) hs ?_
      have e1 : (st (pre ++ [dictO (ents2 T done) done.length]) T' os).heap.update pre.length (Obj.mapDictKeys (·.push ⟨e.1, .int e.1 (T + 2 * done.length), .str e.2 (T + 2 * done.length + 1)⟩)) =
          hp (pre ++ [dictO (ents2 T (done ++ [e])) (done ++ [e]).length]) := by
        show (hp (pre ++ [dictO (ents2 T done) done.length])).update pre.length _ = _
        rw [hp_update_mid, mapKeys_dictO, hap]
        simp
      rw [e1]
      exact Tr.pure
    · have : T' + 1 + L.length = T' + (e :: L).length := by rw [List.length_cons]; omega
      rw [this] at key
      simpa using key
theorem eval_pairs {q : Pos} {os : OsState} (l : List Obj) : ∀ (L : List (Int × Str)) (T : Nat), Tr w (3 * L.length) (evalPairs (L.map (cl q))) (st l T os) q ((ents2 T L).map fun e => (e.key, e.val)) (st l (T + 2 * L.length) os) q
  | [], T => by simpa [ents2, evalPairs] using (Tr.pure (w := w))
  | e :: L, T => by
    rw [List.map_cons, evalPairs, ents2, List.map_cons]
    rw [show 3 * (e :: L).length = 1 + (2 + (3 * L.length + 0)) by rw [List.length_cons]; omega]
    refine Tr.bind Tr.mkInt ?_
    refine Tr.bind (n := 2) (Tr.holding (Tr.bind (n := 1) (k := 1) Tr.mkText (Tr.bind (n := 1) (k := 0) Tr.standAt Tr.pure))) ?_
    have := eval_pairs (q := q) (os := os) l L (T + 2)
    refine Tr.bind (Tr.holding this) ?_
    rw [show T + 2 + 2 * L.length = T + 2 * (e :: L).length by rw [List.length_cons]; omega]
    exact Tr.pure
theorem sub_short {q : Pos} {os : OsState} {T : Nat} (pre : List Obj) (h11 : 11 ≤ pre.length) (L : List (Int × Str)) (ok : Okk L) (hl : L.length < 1000) (h15 : L.length ≤ 15) :
    Tr w (1 + 13 * L.length) (subDict (L.map (cl q))) (st pre T os) q pre.length (st (pre ++ [dictO (ents2 T L) L.length]) (T + 3 * L.length) os) q := by
  unfold subDict
  rw [show 1 + 13 * L.length = 1 + (3 * L.length + (10 * L.length + 0) + 0) by omega]
  have ha : Tr w 1 (PySem.alloc { cls := .type "dict", data := .dict #[] }) (st pre T os) q pre.length (st (pre ++ [dictO [] 0]) T os) q := by
    have := Tr.alloc (w := w) (p := q) (s := st pre T os) (o := { cls := .type "dict", data := .dict #[] })
    simp only [hp_size, hp_push] at this
    exact this
  refine Tr.bind ha (Tr.bind (a := ()) (Tr.holding ?_) Tr.pure)
  rw [if_pos (by rw [List.length_map]; omega)]
  refine Tr.bind (eval_pairs _ L T) (Tr.holding ?_)
  have := loop_set (w := w) (q := q) (os := os) pre h11 T L [] T (T + 2 * L.length) (by simpa using ok) (by simpa using hl) (by simp)
  rw [show T + 2 * L.length + L.length = T + 3 * L.length by omega] at this
  exact Tr.bind this Tr.pure
end Mine
end
section
open PySem PySem.W PyProof.Rows PySem.Calls
set_option maxRecDepth 100000
set_option maxHeartbeats 4000000
namespace Mine
variable {w : World} {p : Pos}
theorem Tr.entries {s : Shared} {a : Addr} {es : List DictEntry} {n : Nat} {part : Option Value} (h : s.heap.get? a = some (dictO es n)) : Tr w 1 (dictEntries a part) s p es.toArray s p := by
  unfold dictEntries
  exact Tr.bind (n := 1) (k := 0) (Tr.loadPart h) Tr.pure
theorem Tr.epoch {s : Shared} {a : Addr} {es : List DictEntry} {n : Nat} {part : Option Value} (h : s.heap.get? a = some (dictO es n)) : Tr w 1 (dictEpoch a part) s p n s p := by
  unfold dictEpoch
  exact Tr.bind (n := 1) (k := 0) (Tr.loadPart h) Tr.pure
noncomputable def IntE (e : DictEntry) : Prop := ∃ t, e.key = .int e.hash t
theorem merge_loop {q : Pos} {os : OsState} {T : Nat} (pre mids : List Obj) (h11 : 11 ≤ pre.length) (E E' : List DictEntry) (n n' : Nat) (hsz : (E ++ E').length < 1000) : ∀ (rest done : List DictEntry), done ++ rest = E' → (∀ e ∈ E', IntE e) →
    (E ++ E').Pairwise (fun a b => a.hash ≠ b.hash) →
    Tr w (6 * rest.length) (forIn (List.range' done.length rest.length) PUnit.unit (fun (i : Nat) (_ : PUnit) => do
        let __x ← dictEntries (pre.length + 1 + mids.length)
        match __x[i]? with
        | some e => do
          PySem.holding [e.key, e.val] (dictPut pre.length e.hash e.key e.val)
          let __y ← dictEpoch (pre.length + 1 + mids.length)
          if (__y != n') = true then do
            let _ ← (PySem.unsupported "dict.changed-during-merge" : Sem PUnit)
            pure (ForInStep.yield PUnit.unit)
          else pure (ForInStep.yield PUnit.unit)
        | _ => do
          let _ ← (PySem.unsupported "dict.changed-during-merge" : Sem PUnit)
          pure (ForInStep.yield PUnit.unit)))
      (st (pre ++ dictO (E ++ done) (n + done.length) :: (mids ++ [dictO E' n'])) T os) q PUnit.unit (st (pre ++ dictO (E ++ E') (n + E'.length) :: (mids ++ [dictO E' n'])) T os) q
  | [], done, hd, _, _ => by
    rw [List.append_nil] at hd
    subst hd
    exact Tr.pure
  | e :: rest, done, hd, hI, hp' => by
    rw [List.length_cons, List.range'_succ, List.forIn_cons]
    have key := merge_loop (q := q) (os := os) (T := T) pre mids h11 E E' n n' hsz rest (done ++ [e]) (by simpa using hd) hI hp'
    have hsub : ∀ D : List DictEntry, ∀ m : Nat, (st (pre ++ dictO D m :: (mids ++ [dictO E' n'])) T os).heap.get? (pre.length + 1 + mids.length) = some (dictO E' n') := fun D m => hp_get (by
      rw [List.getElem?_append_right (by omega), show pre.length + 1 + mids.length - pre.length = mids.length + 1 by omega, List.getElem?_cons_succ, List.getElem?_append_right (by omega)]
      simp)
    have hmain : (st (pre ++ dictO (E ++ done) (n + done.length) :: (mids ++ [dictO E' n'])) T os).heap.get? pre.length = some (dictO (E ++ done) (n + done.length)) := hp_get (by simp)
    obtain ⟨t, ht⟩ := hI e (by rw [← hd]; simp)
    have hfresh : ∀ x ∈ E ++ done, x.hash ≠ e.hash := fun x hx => by
      rw [← hd, ← List.append_assoc] at hp'
      exact (List.pairwise_append.mp hp').2.2 x hx e (List.mem_cons_self ..)
    have hlen : (E ++ done).length < 1000 := by
      rw [← hd] at hsz
      simp only [List.length_append, List.length_cons] at hsz ⊢
      omega
    rw [show 6 * (rest.length + 1) = 6 + 6 * rest.length by omega]
    refine Tr.bind (n := 6) (k := 6 * rest.length) (a := ForInStep.yield PUnit.unit) (s₁ := st (pre ++ dictO (E ++ (done ++ [e])) (n + (done ++ [e]).length) :: (mids ++ [dictO E' n'])) T os) (p₁ := q) ?_ ?_
    · refine Tr.bind (n := 1) (k := 5) (Tr.entries (hsub _ _)) ?_
      have hg : E'.toArray[done.length]? = some e := by
        rw [List.getElem?_toArray, ← hd]; simp
      rw [hg]
      have hput := Tr.put (w := w) (p := q) (s := st (pre ++ dictO (E ++ done) (n + done.length) :: (mids ++ [dictO E' n'])) T os) (t := t) (v := e.val) hmain h11 hlen hfresh
      rw [← ht] at hput
      have e1 : (st (pre ++ dictO (E ++ done) (n + done.length) :: (mids ++ [dictO E' n'])) T os).heap.update pre.length (Obj.mapDictKeys (·.push ⟨e.hash, e.key, e.val⟩)) =
          hp (pre ++ dictO (E ++ (done ++ [e])) (n + (done ++ [e]).length) :: (mids ++ [dictO E' n'])) := by
        show (hp (pre ++ dictO (E ++ done) (n + done.length) :: (mids ++ [dictO E' n']))).update pre.length _ = _
        rw [hp_update_mid, mapKeys_dictO, List.append_assoc, List.length_append, List.length_singleton]
        rfl
      rw [e1] at hput
      refine Tr.bind (n := 4) (k := 1) (Tr.holding hput) ?_
      refine Tr.bind (n := 1) (k := 0) (Tr.epoch (hsub _ _)) ?_
      rw [if_neg (by simp)]
      exact Tr.pure
    · rw [List.length_append, List.length_singleton] at key ⊢
      exact key
theorem Tr.isDict {s : Shared} {a : Addr} {es : List DictEntry} {n : Nat} (h : s.heap.get? a = some (dictO es n)) : Tr w 1 (isInstance (.ref a) (.type "dict")) s p true s p := by
  unfold isInstance
  refine Tr.bind (n := 1) (k := 0) (a := .type "dict") (Tr.bind (n := 1) (k := 0) (Tr.loadPart h) Tr.pure) ?_
  have : isSubtype (.type "dict") (.type "dict") = Pure.pure true := by kernel_rfl
  rw [this]
  exact Tr.pure
theorem Tr.dictIter {s : Shared} {a : Addr} {es : List DictEntry} {n : Nat} (h : s.heap.get? a = some (dictO es n)) : Tr w 1 (specialOf (.ref a) "__iter__") s p (some (.builtin "dict.__iter__")) s p := by
  unfold specialOf
  refine Tr.bind (n := 1) (k := 0) (a := .type "dict") (Tr.bind (n := 1) (k := 0) (Tr.loadPart h) Tr.pure) ?_
  have : typeLookup (.type "dict") "__iter__" = Pure.pure (some (.builtin "dict.__iter__")) := by
    rw [typeLookup_type, builtinLookup_eq_fast, show fastLookup "dict" "__iter__" = some (some (.builtin "dict.__iter__")) by decide +kernel]
  rw [this]
  exact Tr.pure
theorem merge_all {q : Pos} {os : OsState} {T : Nat} (pre mids : List Obj) (h11 : 11 ≤ pre.length) (E E' : List DictEntry) (n n' : Nat) (hsz : (E ++ E').length < 1000) (hE : E ≠ []) (hI : ∀ e ∈ E', IntE e) (hp' : (E ++ E').Pairwise (fun a b => a.hash ≠ b.hash)) :
    Tr w (5 + 6 * E'.length) (mergeMapping pre.length (.ref (pre.length + 1 + mids.length)) false) (st (pre ++ dictO E n :: (mids ++ [dictO E' n'])) T os) q ()
      (st (pre ++ dictO (E ++ E') (n + E'.length) :: (mids ++ [dictO E' n'])) T os) q := by
  have hsub : (st (pre ++ dictO E n :: (mids ++ [dictO E' n'])) T os).heap.get? (pre.length + 1 + mids.length) = some (dictO E' n') := hp_get (by
      rw [List.getElem?_append_right (by omega), show pre.length + 1 + mids.length - pre.length = mids.length + 1 by omega, List.getElem?_cons_succ, List.getElem?_append_right (by omega)]
      simp)
  have hmain : (st (pre ++ dictO E n :: (mids ++ [dictO E' n'])) T os).heap.get? pre.length = some (dictO E n) := hp_get (by simp)
  unfold mergeMapping
  rw [show 5 + 6 * E'.length = 1 + (1 + (3 + 6 * E'.length)) by omega]
  refine Tr.bind (Tr.isDict hsub) ?_
  dsimp only
  rw [if_pos rfl]
  refine Tr.bind (Tr.dictIter hsub) ?_
  have hb : (some (Value.builtin "dict.__iter__") == some (Value.builtin "dict.__iter__")) = true := by decide
  rw [hb, show 3 + 6 * E'.length = 0 + (3 + 6 * E'.length) by omega]
  refine Tr.bind Tr.pure ?_
  dsimp only
  have hne : (pre.length + 1 + mids.length == sysModules) = false := by
    rw [beq_eq_false_iff_ne]; unfold sysModules; omega
  rw [hne]
  simp only [Bool.false_eq_true, if_false]
  rw [show 3 + 6 * E'.length = 1 + (1 + (1 + (6 * E'.length + 0))) by omega]
  refine Tr.bind (Tr.entries hmain) ?_
  have hem : E.toArray.isEmpty = false := by
    cases E with
    | nil => exact absurd rfl hE
    | cons a b => rfl
  rw [hem]
  simp only [Bool.false_eq_true, if_false]
  refine Tr.bind (Tr.entries hsub) ?_
  refine Tr.bind (Tr.epoch hsub) ?_
  have := merge_loop (w := w) (q := q) (os := os) (T := T) pre mids h11 E E' n n' hsz E' [] rfl hI hp'
  rw [List.size_toArray, List.range_eq_range']
  simp only [List.append_nil, List.length_nil, Nat.add_zero] at this
  exact Tr.bind this Tr.pure
end Mine
end
section
open PySem PySem.W PyProof.Rows PySem.Calls
set_option maxRecDepth 100000
set_option maxHeartbeats 4000000
namespace Mine
variable {w : World} {p : Pos}
noncomputable abbrev Sg := Option Addr × List (Sem Value × Sem Value)
noncomputable abbrev it (q : Pos) (e : Int × Str) : Option (Sem Value) × Sem Value := (some (cl q e).1, (cl q e).2)
noncomputable abbrev Flf := Option (Sem Value) × Sem Value → Sg → Sem (ForInStep Sg)
theorem ents_pair {t : Nat} {L : List (Int × Str)} (ok : L.Pairwise (fun a b => a.1 < b.1)) : (ents t L).Pairwise (fun a b => a.hash ≠ b.hash) := by
  induction L generalizing t with
  | nil => exact .nil
  | cons e L ih =>
    rw [List.pairwise_cons] at ok
    rw [ents, List.pairwise_cons]
    refine ⟨fun x hx => ?_, ih ok.2⟩
    obtain ⟨y, hy, ey⟩ := ents_hash _ _ _ hx
    have := ok.1 y hy
    show e.1 ≠ x.hash
    rw [ey]; omega
theorem ents2_pair {t : Nat} {L : List (Int × Str)} (ok : L.Pairwise (fun a b => a.1 < b.1)) : (ents2 t L).Pairwise (fun a b => a.hash ≠ b.hash) := by
  induction L generalizing t with
  | nil => exact .nil
  | cons e L ih =>
    rw [List.pairwise_cons] at ok
    rw [ents2, List.pairwise_cons]
    refine ⟨fun x hx => ?_, ih ok.2⟩
    obtain ⟨y, hy, ey⟩ := ents2_hash _ _ _ hx
    have := ok.1 y hy
    show e.1 ≠ x.hash
    rw [ey]; omega
theorem ents_int : ∀ (L : List (Int × Str)) (t : Nat), ∀ e ∈ ents t L, IntE e
  | [], _, _, h => by simp [ents] at h
  | x :: L, t, e, h => by
    rw [ents, List.mem_cons] at h
    rcases h with rfl | h
    · exact ⟨_, rfl⟩
    · exact ents_int L _ e h
theorem ents2_int : ∀ (L : List (Int × Str)) (t : Nat), ∀ e ∈ ents2 t L, IntE e
  | [], _, _, h => by simp [ents2] at h
  | x :: L, t, e, h => by
    rw [ents2, List.mem_cons] at h
    rcases h with rfl | h
    · exact ⟨_, rfl⟩
    · exact ents2_int L _ e h
theorem Okk.left {a b : List (Int × Str)} (h : Okk (a ++ b)) : Okk a := ⟨fun e he => h.1 e (List.mem_append_left _ he), (List.pairwise_append.mp h.2).1⟩
theorem Okk.right {a b : List (Int × Str)} (h : Okk (a ++ b)) : Okk b := ⟨fun e he => h.1 e (List.mem_append_right _ he), (List.pairwise_append.mp h.2).2.1⟩
/-- what a flush does with the first seventeen, and with more -/
structure Flush (w : World) (f : Flf) (q : Pos) (os : OsState) (pre : List Obj) (T : Nat) : Prop where
  small : ∀ (e : Int × Str) (m : Option Addr) (r : List (Int × Str)) (s : Shared), r.length < 16 → Tr w 0 (f (it q e) (m, r.map (cl q))) s q (.yield (m, (r ++ [e]).map (cl q))) s q
  first : ∀ (e : Int × Str) (r : List (Int × Str)), r.length = 16 → Okk (r ++ [e]) → Tr w 223 (f (it q e) (none, r.map (cl q))) (st pre T os) q (.yield (some pre.length, [])) (st (pre ++ [dictO (ents T (r ++ [e])) 17]) (T + 51) os) q
  more : ∀ (e : Int × Str) (r done : List (Int × Str)) (mids : List Obj), r.length = 16 → done ≠ [] → (done ++ (r ++ [e])).length < 1000 → Okk (done ++ (r ++ [e])) →
    Tr w 330 (f (it q e) (some pre.length, r.map (cl q))) (st (pre ++ dictO (ents T done) done.length :: mids) (T + 3 * done.length) os) q (.yield (some pre.length, []))
      (st (pre ++ dictO (ents T (done ++ (r ++ [e]))) (done ++ (r ++ [e])).length :: (mids ++ [dictO (ents (T + 3 * done.length) (r ++ [e])) 17])) (T + 3 * (done ++ (r ++ [e])).length) os) q
section
variable {f : Flf} {q : Pos} {os : OsState} {pre : List Obj} {T : Nat}
theorem run_small (F : Flush w f q os pre T) (X : List (Option (Sem Value) × Sem Value)) {n : Nat} {a : Sg} {s s' : Shared} {m : Option Addr} : ∀ (R r : List (Int × Str)), r.length + R.length ≤ 16 →
    Tr w n (forIn X (m, (r ++ R).map (cl q)) f) s q a s' q → Tr w n (forIn (R.map (it q) ++ X) (m, r.map (cl q)) f) s q a s' q
  | [], r, _, h => by simpa using h
  | e :: R, r, hl, h => by
    rw [List.map_cons, List.cons_append, List.forIn_cons]
    rw [List.length_cons] at hl
    rw [show n = 0 + n by omega]
    refine Tr.bind (F.small e m r s (by omega)) ?_
    refine run_small F X R (r ++ [e]) (by rw [List.length_append, List.length_singleton]; omega) ?_
    simpa using h
theorem split17 {C : List (Int × Str)} (h : C.length = 17) : ∃ r e, C = r ++ [e] ∧ r.length = 16 := by
  have hne : C ≠ [] := by intro h'; rw [h'] at h; simp at h
  exact ⟨C.dropLast, C.getLast hne, (List.dropLast_concat_getLast hne).symm, by rw [List.length_dropLast, h]⟩
theorem run_first (F : Flush w f q os pre T) (X : List (Option (Sem Value) × Sem Value)) {n : Nat} {a : Sg} {s' : Shared} {C : List (Int × Str)} (hC : C.length = 17) (ok : Okk C)
    (h : Tr w n (forIn X (some pre.length, []) f) (st (pre ++ [dictO (ents T C) 17]) (T + 51) os) q a s' q) : Tr w (223 + n) (forIn (C.map (it q) ++ X) (none, []) f) (st pre T os) q a s' q := by
  obtain ⟨r, e, rfl, hr⟩ := split17 hC
  rw [List.map_append, List.append_assoc]
  refine run_small (r := []) F _ r (by simp [hr]) ?_
  show Tr w _ (forIn (it q e :: X) _ f) _ _ _ _ _
  rw [List.forIn_cons]
  exact Tr.bind (F.first e r hr ok) h
theorem run_more (F : Flush w f q os pre T) (X : List (Option (Sem Value) × Sem Value)) {n : Nat} {a : Sg} {s' : Shared} {C done : List (Int × Str)} {mids : List Obj} (hC : C.length = 17) (hd : done ≠ []) (hl : (done ++ C).length < 1000) (ok : Okk (done ++ C))
    (h : Tr w n (forIn X (some pre.length, []) f) (st (pre ++ dictO (ents T (done ++ C)) (done ++ C).length :: (mids ++ [dictO (ents (T + 3 * done.length) C) 17])) (T + 3 * (done ++ C).length) os) q a s' q) :
    Tr w (330 + n) (forIn (C.map (it q) ++ X) (some pre.length, []) f) (st (pre ++ dictO (ents T done) done.length :: mids) (T + 3 * done.length) os) q a s' q := by
  obtain ⟨r, e, rfl, hr⟩ := split17 hC
  rw [List.map_append, List.append_assoc]
  refine run_small (r := []) F _ r (by simp [hr]) ?_
  show Tr w _ (forIn (it q e :: X) _ f) _ _ _ _ _
  rw [List.forIn_cons]
  exact Tr.bind (F.more e r done mids hr hd hl ok) h
noncomputable def mores (T : Nat) : List (List (Int × Str)) → List (Int × Str) → List Obj
  | [], _ => []
  | C :: Cs, done => dictO (ents (T + 3 * done.length) C) 17 :: mores T Cs (done ++ C)
theorem run_chunks (F : Flush w f q os pre T) (X : List (Option (Sem Value) × Sem Value)) {n : Nat} {a : Sg} {s' : Shared} : ∀ (Cs : List (List (Int × Str))) (done : List (Int × Str)) (mids : List Obj), (∀ C ∈ Cs, C.length = 17) → done ≠ [] →
    (done ++ Cs.flatten).length < 1000 → Okk (done ++ Cs.flatten) →
    Tr w n (forIn X (some pre.length, []) f) (st (pre ++ dictO (ents T (done ++ Cs.flatten)) (done ++ Cs.flatten).length :: (mids ++ mores T Cs done)) (T + 3 * (done ++ Cs.flatten).length) os) q a s' q →
    Tr w (330 * Cs.length + n) (forIn (Cs.flatten.map (it q) ++ X) (some pre.length, []) f) (st (pre ++ dictO (ents T done) done.length :: mids) (T + 3 * done.length) os) q a s' q
  | [], done, mids, _, _, _, _, h => by simpa [mores] using h
  | C :: Cs, done, mids, hC, hd, hl, ok, h => by
    rw [List.flatten_cons] at hl ok h ⊢
    rw [List.map_append, List.append_assoc, List.length_cons, show 330 * (Cs.length + 1) + n = 330 + (330 * Cs.length + n) by omega]
    rw [← List.append_assoc] at hl ok h
    refine run_more F _ (hC C (List.mem_cons_self ..)) hd (by rw [List.length_append] at hl; omega) ok.left ?_
    refine run_chunks F X Cs (done ++ C) _ (fun C' h' => hC C' (List.mem_cons_of_mem _ h')) (by intro h'; exact hd (List.append_eq_nil_iff.mp h').1) hl ok ?_
    simpa [mores] using h
end
end Mine
end
section
open PySem PySem.W PyProof.Rows PySem.Calls
set_option maxRecDepth 100000
set_option maxHeartbeats 4000000
namespace Mine
variable {w : World} {p : Pos}
theorem display {q : Pos} {os : OsState} {T : Nat} (pre : List Obj) (h11 : 11 ≤ pre.length) (C : List (Int × Str)) (Cs : List (List (Int × Str))) (R : List (Int × Str)) (hC : C.length = 17) (hCs : ∀ C ∈ Cs, C.length = 17) (hR : R.length ≤ 15) (hR0 : R ≠ [])
    (hl : (C ++ Cs.flatten ++ R).length < 1000) (ok : Okk (C ++ Cs.flatten ++ R)) :
    Tr w (223 + (330 * Cs.length + (6 + 19 * R.length))) (dictDisplay ((C ++ Cs.flatten ++ R).map (it q))) (st pre T os) q (.ref pre.length)
      (st (pre ++ dictO (ents T (C ++ Cs.flatten) ++ ents2 (T + 3 * (C ++ Cs.flatten).length) R) ((C ++ Cs.flatten).length + R.length) :: (mores T Cs C ++ [dictO (ents2 (T + 3 * (C ++ Cs.flatten).length) R) R.length]))
        (T + 3 * (C ++ Cs.flatten).length + 3 * R.length) os) q := by
  unfold dictDisplay
  dsimp only
  rw [show 223 + (330 * Cs.length + (6 + 19 * R.length)) = (223 + (330 * Cs.length + 0)) + ((6 + 19 * R.length) + 0) by omega]
  refine Tr.bind (a := ((some pre.length, R.map (cl q)) : Sg)) (s₁ := st (pre ++ dictO (ents T (C ++ Cs.flatten)) (C ++ Cs.flatten).length :: mores T Cs C) (T + 3 * (C ++ Cs.flatten).length) os) (p₁ := q) ?_ ?_
  · rw [List.map_append, List.map_append, List.append_assoc]
    suffices H : ∀ f : Flf, Flush w f q os pre T → Tr w (223 + (330 * Cs.length + 0)) (forIn (C.map (it q) ++ (Cs.flatten.map (it q) ++ R.map (it q))) ((none, []) : Sg) f) (st pre T os) q ((some pre.length, R.map (cl q)) : Sg)
        (st (pre ++ dictO (ents T (C ++ Cs.flatten)) (C ++ Cs.flatten).length :: mores T Cs C) (T + 3 * (C ++ Cs.flatten).length) os) q by
      refine H _ ?_
      constructor
      · intro e m r s hr
        dsimp only
        rw [if_neg (by simp; omega)]
        rw [List.map_append]
        exact Tr.pure
      · intro e r hr ok'
        dsimp only
        rw [if_pos (by simp; omega)]
        rw [if_neg (by simp)]
        have hs := sub_long (w := w) (q := q) (os := os) (T := T) pre h11 (r ++ [e]) ok' (by simp; omega) (by simp; omega)
        have hlen : (r ++ [e]).length = 17 := by simp; omega
        rw [hlen, List.map_append] at hs
        exact Tr.bind (n := 223) (k := 0) (Tr.bind (n := 223) (k := 0) hs Tr.pure) Tr.pure
      · intro e r done mids hr hd hlt ok'
        dsimp only
        rw [if_pos (by simp; omega)]
        rw [if_neg (by simp)]
        have hlen : (r ++ [e]).length = 17 := by simp; omega
        have hs := sub_long (w := w) (q := q) (os := os) (T := T + 3 * done.length) (pre ++ dictO (ents T done) done.length :: mids) (by simp; omega) (r ++ [e]) ok'.right (by omega) (by omega)
        rw [hlen, List.map_append] at hs
        have hm := merge_all (w := w) (q := q) (os := os) (T := T + 3 * done.length + 3 * 17) pre mids h11 (ents T done) (ents (T + 3 * done.length) (r ++ [e])) done.length 17
          (by rw [← ents_append, ents_length]; exact hlt) (by intro h'; apply hd; have := ents_length done T; rw [h'] at this; exact List.length_eq_zero_iff.mp this.symm) (ents_int _ _)
          (by rw [← ents_append]; exact ents_pair ok'.2)
        rw [ents_length, hlen, ← ents_append] at hm
        have hadd : (pre ++ dictO (ents T done) done.length :: mids).length = pre.length + 1 + mids.length := by simp; omega
        rw [hadd, List.append_assoc, List.cons_append] at hs
        have ht : T + 3 * (done ++ (r ++ [e])).length = T + 3 * done.length + 3 * 17 := by rw [List.length_append, hlen]; omega
        have hn : (done ++ (r ++ [e])).length = done.length + 17 := by rw [List.length_append, hlen]
        rw [ht, hn]
        exact Tr.bind (n := 330) (k := 0) (Tr.bind (n := 223) (k := 107) (Tr.holding hs) (Tr.bind (n := 107) (k := 0) (Tr.onRaise (Tr.holding hm)) Tr.pure)) Tr.pure
    intro f F
    refine run_first F _ hC ok.left.left ?_
    have hCn : C ≠ [] := by intro h'; rw [h'] at hC; simp at hC
    have := run_chunks (n := 0) (a := ((some pre.length, R.map (cl q)) : Sg)) (s' := st (pre ++ dictO (ents T (C ++ Cs.flatten)) (C ++ Cs.flatten).length :: mores T Cs C) (T + 3 * (C ++ Cs.flatten).length) os) F (R.map (it q)) Cs C [] hCs hCn (by rw [List.length_append] at hl; omega) ok.left (by
      have := run_small (w := w) (n := 0) (m := some pre.length) (a := ((some pre.length, R.map (cl q)) : Sg)) (s := st (pre ++ dictO (ents T (C ++ Cs.flatten)) (C ++ Cs.flatten).length :: ([] ++ mores T Cs C)) (T + 3 * (C ++ Cs.flatten).length) os)
        (s' := st (pre ++ dictO (ents T (C ++ Cs.flatten)) (C ++ Cs.flatten).length :: mores T Cs C) (T + 3 * (C ++ Cs.flatten).length) os) F [] R [] (by simp; omega) (by simpa using Tr.pure)
      simpa using this)
    rw [hC] at this
    exact this
  · dsimp only
    have hRl : 0 < R.length := by cases R with | nil => exact absurd rfl hR0 | cons a b => simp
    rw [if_neg (by rw [List.isEmpty_iff, List.map_eq_nil_iff]; exact hR0)]
    have hs := sub_short (w := w) (q := q) (os := os) (T := T + 3 * (C ++ Cs.flatten).length) (pre ++ dictO (ents T (C ++ Cs.flatten)) (C ++ Cs.flatten).length :: mores T Cs C) (by simp; omega) R ok.right (by omega) hR
    have hcn : (C ++ Cs.flatten) ≠ [] := by intro h'; rw [(List.append_eq_nil_iff.mp h').1] at hC; simp at hC
    have hpw : (ents T (C ++ Cs.flatten) ++ ents2 (T + 3 * (C ++ Cs.flatten).length) R).Pairwise (fun a b => a.hash ≠ b.hash) := by
      rw [List.pairwise_append]
      refine ⟨ents_pair ok.left.2, ents2_pair ok.right.2, fun a ha b hb => ?_⟩
      obtain ⟨x, hx, ex⟩ := ents_hash _ _ _ ha
      obtain ⟨y, hy, ey⟩ := ents2_hash _ _ _ hb
      have := (List.pairwise_append.mp ok.2).2.2 x hx y hy
      rw [ex, ey]; omega
    have hm := merge_all (w := w) (q := q) (os := os) (T := T + 3 * (C ++ Cs.flatten).length + 3 * R.length) pre (mores T Cs C) h11 (ents T (C ++ Cs.flatten)) (ents2 (T + 3 * (C ++ Cs.flatten).length) R) (C ++ Cs.flatten).length R.length
      (by rw [List.length_append, ents_length, ents2_length, ← List.length_append]; exact hl) (by intro h'; apply hcn; have := ents_length (C ++ Cs.flatten) T; rw [h'] at this; exact List.length_eq_zero_iff.mp this.symm) (ents2_int _ _) hpw
    rw [ents2_length] at hm
    have hadd : (pre ++ dictO (ents T (C ++ Cs.flatten)) (C ++ Cs.flatten).length :: mores T Cs C).length = pre.length + 1 + (mores T Cs C).length := by simp; omega
    rw [hadd, List.append_assoc, List.cons_append] at hs
    refine Tr.bind (n := 6 + 19 * R.length) (k := 0) (a := some pre.length) ?_ Tr.pure
    rw [show 6 + 19 * R.length = (1 + 13 * R.length) + ((5 + 6 * R.length) + 0) by omega]
    exact Tr.bind (Tr.holding hs) (Tr.bind (Tr.onRaise (Tr.holding hm)) Tr.pure)
end Mine
end
section
open PySem PySem.W PyProof.Rows PySem.Calls
set_option maxRecDepth 100000
set_option maxHeartbeats 4000000
namespace Mine
theorem store_run0 (b : Bool) (w : World) : (fun (Z : List Obj) (os : OsState) (p : Pos) (K : Unit → Sem PySem.Fin) (H : Value → Sem PySem.Fin) (gd : Bool → Bool) (lv : List Value → List Value) =>
    segGo treeTable prog (w.withFollow "special-get-raises" b) 11 (some (.ref 6)) 1 6 (st (objs5 (w.withFollow "special-get-raises" b).params ++ Z) 2218 os) ⟨(bindName env0 "b3_exceptions" (.ref 40)).wrap K H gd lv, cE, p, BB⟩) =
  fun Z os p K _ _ _ => some (st (objs5b (w.withFollow "special-get-raises" b).params ++ Z) 2219 os, ⟨K (), cE, p, BB⟩) := by
  rw [PySem.W.Fast.te3277212676724774461, PySem.W.Fast.te14364793385576792824]
  cases b
  · kernel_rfl
  · kernel_rfl

variable {w : World} {s s₁ : Shared} {p p₁ : Pos}
theorem Tr.store {Z : List Obj} {os : OsState} : Tr w 6 (bindName env0 "b3_exceptions" (.ref 40)) (st (objs5 w.params ++ Z) 2218 os) p () (st (objs5b w.params ++ Z) 2219 os) p := fun K H gd lv => by
  have := congrFun (congrFun (congrFun (congrFun (congrFun (congrFun (congrFun (store_run0 (w.params.followText "special-get-raises") w) Z) os) p) K) H) gd) lv
  rw [World.withFollow_self] at this
  exact this
-- the table as the text writes it
noncomputable def theDict : Expr := match nthSt 5 with
  | .Assign _ v _ => v
  | _ => .Constant .none 0 default
noncomputable def dictKs : List (Option Expr) := match theDict with
  | .Dict ks _ _ => ks
  | _ => []
noncomputable def dictVs : List Expr := match theDict with
  | .Dict _ vs _ => vs
  | _ => []
noncomputable def dictPos : Pos := match theDict with
  | .Dict _ _ p => p
  | _ => default
noncomputable def rdK : Option Expr → Option Int
  | some (.Constant (.int i) _ _) => some i
  | _ => none
noncomputable def rdV : Expr → Option Str
  | .Constant (.str s) _ _ => some s
  | _ => none
noncomputable def tblOf : List (Option Expr) → List Expr → Option (List (Int × Str))
  | [], [] => some []
  | k :: ks, v :: vs => match rdK k, rdV v, tblOf ks vs with
    | some i, some s, some r => some ((i, s) :: r)
    | _, _, _ => none
  | _, _ => none
noncomputable def tbl : List (Int × Str) := (tblOf dictKs dictVs).getD []
theorem tbl_is : tblOf dictKs dictVs = some tbl := by
  have : (tblOf dictKs dictVs).isSome = true := by kernel_rfl
  unfold tbl
  cases h : tblOf dictKs dictVs with
  | none => rw [h] at this; cases this
  | some l => rfl
theorem items_of {q : Pos} : ∀ (ks : List (Option Expr)) (vs : List Expr) (L : List (Int × Str)), tblOf ks vs = some L →
    (evalEachOpt ks env0).zip ((evalEach vs env0).map fun v => do let x ← v; standAt q; pure x) = L.map (it q)
  | [], [], L, h => by cases h; rfl
  | [], _ :: _, L, h => by cases h
  | _ :: _, [], L, h => by cases h
  | k :: ks, v :: vs, L, h => by
    unfold tblOf at h
    split at h
    · rename_i i s r h1 h2 h3
      cases h
      have hk : evalOpt k env0 = some (constValue env0 (.int i)) := by
        unfold rdK at h1
        split at h1
        · cases h1; rfl
        · cases h1
      have hv : eval v env0 = constValue env0 (.str s) := by
        unfold rdV at h2
        split at h2
        · cases h2; rfl
        · cases h2
      rw [evalEachOpt, evalEach, List.map_cons, List.zip_cons_cons, items_of ks vs r h3, hk, hv]
      rfl
    · cases h
noncomputable def asc : Int → List (Int × Str) → Bool
  | _, [] => true
  | b, e :: r => decide (b < e.1) && asc e.1 r
theorem asc_ok : ∀ (L : List (Int × Str)) (b : Int), asc b L = true → (∀ e ∈ L, b < e.1) ∧ L.Pairwise (fun a b => a.1 < b.1)
  | [], _, _ => ⟨fun _ h => by simp at h, .nil⟩
  | e :: L, b, h => by
    rw [asc, Bool.and_eq_true, decide_eq_true_eq] at h
    obtain ⟨h1, h2⟩ := asc_ok L e.1 h.2
    refine ⟨fun x hx => ?_, List.pairwise_cons.mpr ⟨h1, h2⟩⟩
    rcases List.mem_cons.mp hx with rfl | hx
    · exact h.1
    · have := h1 x hx; omega
theorem tbl_ok : Okk tbl := by
  have h1 : asc (-1) tbl = true := by kernel_rfl
  have h2 : (tbl.all fun e => decide (e.1 < 2 ^ 60)) = true := by kernel_rfl
  obtain ⟨a, b⟩ := asc_ok _ _ h1
  refine ⟨fun e he => ⟨by have := a e he; omega, ?_⟩, b⟩
  exact of_decide_eq_true (List.all_eq_true.mp h2 e he)
noncomputable def chunks : Nat → List (Int × Str) → List (List (Int × Str))
  | 0, _ => []
  | n + 1, l => l.take 17 :: chunks n (l.drop 17)
noncomputable def tC : List (Int × Str) := tbl.take 17
noncomputable def tCs : List (List (Int × Str)) := chunks 37 (tbl.drop 17)
noncomputable def tR : List (Int × Str) := tbl.drop 646
theorem chunks_flat : ∀ (n : Nat) (l : List (Int × Str)), (chunks n l).flatten = l.take (17 * n)
  | 0, l => by simp [chunks]
  | n + 1, l => by
    rw [chunks, List.flatten_cons, chunks_flat n, show 17 * (n + 1) = 17 + 17 * n by omega, List.take_add]
theorem chunks_len : ∀ (n : Nat) (l : List (Int × Str)), 17 * n ≤ l.length → ∀ C ∈ chunks n l, C.length = 17
  | 0, l, _, C, h => by simp [chunks] at h
  | n + 1, l, hl, C, h => by
    rw [chunks, List.mem_cons] at h
    rcases h with rfl | h
    · rw [List.length_take]; omega
    · exact chunks_len n _ (by rw [List.length_drop]; omega) C h
theorem tbl_len : tbl.length = 650 := by kernel_rfl
theorem tbl_split : tC ++ tCs.flatten ++ tR = tbl := by
  unfold tC tCs tR
  rw [chunks_flat]
  have : tbl.take 17 ++ (tbl.drop 17).take (17 * 37) = tbl.take 646 := by
    rw [show 646 = 17 + 17 * 37 by rfl, List.take_add]
  rw [this, List.take_append_drop]
theorem chunks_count : ∀ (n : Nat) (l : List (Int × Str)), (chunks n l).length = n
  | 0, _ => rfl
  | n + 1, l => by rw [chunks, List.length_cons, chunks_count n]
-- what the dict statement leaves
noncomputable def bigEs : List DictEntry := ents 268 (tC ++ tCs.flatten) ++ ents2 2206 tR
noncomputable def dictObjs : List Obj := dictO bigEs 650 :: (mores 268 tCs tC ++ [dictO (ents2 2206 tR) 4])
noncomputable def S6 (w : World) (os : OsState) : Shared := st (objs5b w.params ++ dictObjs) 2219 os
theorem eval_dict {os : OsState} : Tr w 12516 (eval theDict env0) (st (objs5 w.params) 268 os) p (.ref 40) (st (objs5 w.params ++ dictObjs) 2218 os) dictPos := by
  have hd : theDict = .Dict dictKs dictVs dictPos := by kernel_rfl
  rw [hd]
  show Tr w 12516 (do standAt dictPos; dictDisplay ((evalEachOpt dictKs env0).zip ((evalEach dictVs env0).map fun v => do let x ← v; standAt dictPos; pure x))) _ _ _ _ _
  rw [items_of _ _ _ tbl_is]
  have hlen := tbl_len
  have hR : tR.length = 4 := by unfold tR; rw [List.length_drop, hlen]
  have hC : tC.length = 17 := by unfold tC; rw [List.length_take, hlen]; rfl
  have hCs : ∀ C ∈ tCs, C.length = 17 := chunks_len 37 _ (by rw [List.length_drop, hlen]; decide)
  have hF : (tC ++ tCs.flatten).length = 646 := by
    have := congrArg List.length tbl_split
    rw [List.length_append, hlen, hR] at this
    omega
  have h := display (w := w) (q := dictPos) (os := os) (T := 268) (objs5 w.params) (by show 11 ≤ 40; decide) tC tCs tR hC hCs (by omega) (by intro h'; rw [h'] at hR; cases hR) (by rw [tbl_split, hlen]; decide) (by rw [tbl_split]; exact tbl_ok)
  rw [tbl_split, hF, hR, show tCs.length = 37 from chunks_count _ _] at h
  exact Tr.bind (n := 1) (k := 12515) Tr.standAt h
theorem k5t {os : OsState} : Tr w 12524 (execs [nthSt 5] env0) (S5 w os) ⟨17, 0, 18, 30⟩ .next (S6 w os) ⟨19, 0, 19, 13⟩ := by
  have hst : nthSt 5 = .Assign [.Name "b3_exceptions" ⟨19, 0, 19, 13⟩] theDict (match nthSt 5 with | .Assign _ _ p => p | _ => default) := by kernel_rfl
  have hex : Tr w 12524 (exec (nthSt 5) env0) (S5 w os) ⟨17, 0, 18, 30⟩ .next (S6 w os) ⟨19, 0, 19, 13⟩ := by
    rw [hst, exec_Assign_Name _ _ _ _ _ (by kernel_rfl)]
    refine Tr.bind (n := 1) (k := 12523) Tr.standAt ?_
    refine Tr.bind (n := 12516) (k := 7) eval_dict ?_
    refine Tr.bind (n := 1) (k := 6) Tr.standAt ?_
    exact Tr.bind (n := 6) (k := 0) Tr.store Tr.pure
  rw [execs_cons]
  exact Tr.bind (n := 12524) (k := 0) hex Tr.pure
theorem seg_of_tr {n : Nat} {l : List Stmt} (h : Tr w n (execs l env0) s p .next s₁ p₁) : segRun treeTable prog w 11 (some (.ref 6)) 1 (n + 1) s (piecesOf l env0 cE p BB) = some (.next, s₁, cE, p₁) :=
  seg_go (h doneF deadEnd id id) rfl
end Mine
end
section
open PySem PySem.W PyProof.Rows PySem.Calls
set_option maxRecDepth 100000
set_option maxHeartbeats 4000000
namespace Mine
noncomputable section
noncomputable def objsA (P : Params) : List Obj := [PySem.W.boot_o_0 P, PySem.W.boot_o_1 P, PySem.W.boot_o_2 P, PySem.W.boot_o_3 P, PySem.W.boot_o_4 P, PySem.W.boot_o_5 P, PySem.W.boot_o_6 P, PySem.W.boot_o_7 P, PySem.W.boot_o_8 P, PySem.W.boot_o_9 P, PySem.W.boot_o_10 P, ob_11, { cls := .none, data := .fields #[] }, ob_13, ob_14]
noncomputable def Sa (w : World) (os : OsState) : Shared := ⟨⟨(objsA w.params).toArray, {}⟩, #[], {}, 187, os⟩
noncomputable def S0 (w : World) (os : OsState) : Shared := ⟨boot_heap w.params, Array.mk [], boot_drawn, boot_toks, os⟩
end
theorem k1a (w : World) : (fun os => topGo treeTable prog w 11 (some (.ref 6)) 12 (S0 w os) (topStub prog)) = fun os => some (Sa w os, ⟨denote treeTable cE, cE, pos0, BB⟩) := by
  rw [PySem.W.Fast.te15667345088766844465, PySem.W.Fast.te11892475500146522536, PySem.W.Fast.te14364793385576792824]
  kernel_rfl
theorem k1b (w : World) : (fun os => segRun treeTable prog w 11 (some (.ref 6)) 1 1 (Sa w os) (blockOf (behindTheImports prog) env0 cE pos0 BB)) = fun os => some (.next, Sa w os, cE, pos0) := by
  rw [PySem.W.Fast.te14374325043358763698, PySem.W.Fast.te14364793385576792824]
  kernel_rfl
theorem k1c (w : World) : (fun os => segRun treeTable prog w 11 (some (.ref 6)) 1 51 (Sa w os) (piecesOf [nthSt 0, nthSt 1, nthSt 2] env0 cE pos0 BB)) = fun os => some (.next, S3 w os, cE, ⟨15, 0, 15, 8⟩) := by
  rw [PySem.W.Fast.te14374325043358763698, PySem.W.Fast.te14364793385576792824]
  kernel_rfl
theorem k3 (w : World) : (fun os => segRun treeTable prog w 11 (some (.ref 6)) 1 30 (S4 w os) (piecesOf [nthSt 4] env0 cE ⟨16, 0, 16, 6⟩ BB)) = fun os => some (.next, S5 w os, cE, ⟨17, 0, 18, 30⟩) := by
  rw [PySem.W.Fast.te14374325043358763698, PySem.W.Fast.te14364793385576792824]
  kernel_rfl
end Mine
end
section
open PySem PySem.W PyProof.Rows PySem.Calls
set_option maxRecDepth 100000
set_option maxHeartbeats 4000000
namespace Mine
noncomputable def qv : Program := view prog [1, 4, 6, 8, 9, 10, 11, 12, 13]
noncomputable def looseV : List Str := ["b1_set", "b3_exceptions"]
noncomputable def rest8 : List Stmt := prog.main.body.drop 6
noncomputable section
noncomputable def mainFin (P : Params) : Obj := { cls := .type "dict", data := .dict #[entE P "__name__" 165 (.str "law_ph0142_01" 2227), entE P "__doc__" 166 .none, entE P "__package__" 167 .none, entE P "__loader__" 168 (.builtin "__main__.__loader__#opaque"),
  entE P "__spec__" 169 .none, entE P "__annotations__" 170 (.ref 6), entE P "__builtins__" 171 (.ref 4), entE P "__file__" 173 (.str "/claim/cut.py" 172), entE P "__cached__" 174 .none, entE P "_iter_escaped_chars" 198 (.ref 21),
  entE P "b1_set" 260 (.ref 29), entE P "in_table_b1" 267 (.ref 39), entE P "b3_exceptions" 2218 (.ref 40), entE P "map_table_b3" 2226 (.ref 85), entE P "_law_unseen" 2234 (.ref 92), entE P "_law_sign" 2244 (.ref 99),
  entE P "_law_told" 2250 (.ref 104), entE P "_law_prepared" 2257 (.ref 111), entE P "_law_bound" 2263 (.ref 116), entE P "law" 2269 (.ref 121)] 20 }
noncomputable def Yf (s : Shared) : Option Obj × Option Obj × Option Obj := (s.heap.get? 3, s.heap.get? 29, s.heap.get? 40)
noncomputable def Ya (w : World) : Option Obj × Option Obj × Option Obj := (some (mainFin w.params), some (ob_29 w.params), some (dictO bigEs 650))
end
theorem k4b (w : World) : (fun os => (topRun treeTable prog w 11 (some (.ref 6)) 240 (S6 w os) (restOf rest8 env0 cE ⟨19, 0, 19, 13⟩ BB)).map fun s =>
    (staticsOk (importedModules prog.main.body) (boot_heap w.params) s.heap && namesBound prog s.heap && gensDone s && laidKept (boot_heap w.params) s.heap)) = fun _ => some true := by
  rw [PySem.W.Fast.te14082659384304107361, PySem.W.Fast.te14364793385576792824]
  kernel_rfl
theorem k4c (w : World) : (fun os => (topRun treeTable prog w 11 (some (.ref 6)) 240 (S6 w os) (restOf rest8 env0 cE ⟨19, 0, 19, 13⟩ BB)).map fun s =>
    (openSeen qv looseV (importedModules prog.main.body) (fun _ => true) true s, Yf s)) = fun _ => some (openGood qv looseV, Ya w) := by
  rw [PySem.W.Fast.te14082659384304107361, PySem.W.Fast.te14364793385576792824, PySem.W.Fast.te4187177175401517315]
  kernel_rfl
end Mine
end
section
open PySem PySem.W PyProof.Rows PySem.Calls
set_option maxRecDepth 100000
set_option maxHeartbeats 4000000
namespace Mine
theorem body_split : behindTheImports prog = [nthSt 0, nthSt 1, nthSt 2] ++ ([nthSt 3] ++ ([nthSt 4] ++ ([nthSt 5] ++ rest8))) := by kernel_rfl
theorem chain (w : World) (os : OsState) {r : Shared} (h : topRun treeTable prog w 11 (some (.ref 6)) 240 (S6 w os) (restOf rest8 env0 cE ⟨19, 0, 19, 13⟩ BB) = some r) :
    topRun treeTable prog w 11 (some (.ref 6)) (12 + (1 + (51 + (1000 + (30 + (12525 + 240)))))) (S0 w os) (topStub prog) = some r := by
  refine go_top (congrFun (k1a w) os) ?_
  refine piece_block (q := pos0) (congrFun (k1b w) os) ?_
  rw [body_split]
  refine piece_app (q := pos0) (congrFun (k1c w) os) ?_
  refine piece_app (q := pos0) (congrFun (k2 w) os) ?_
  refine piece_app (q := pos0) (congrFun (k3 w) os) ?_
  exact piece_app (q := pos0) (seg_of_tr k5t) h
theorem sizes (w : World) : ((boot_heap w.params).isNs mainGlobals && (Array.mk [] : Array GenState).size == 0, (boot_heap w.params).objs.size, (boot_heap w.params).nsMap mainGlobals "__annotations__") = (true, 11, some (.ref 6)) := by kernel_rfl
theorem left : LeftO prog qv looseV (fun _ => true) Yf Ya 20000 := by
  intro w
  have hop := boot_open (p := prog) (N := 20000) (by kernel_rfl) (by decide) (fun s => by rfl) w
  obtain ⟨⟨h, gs, d, k, os⟩, e, e'⟩ := Option.map_eq_some_iff.mp hop
  obtain ⟨rfl, rfl, rfl, rfl⟩ : h = boot_heap w.params ∧ gs = Array.mk [] ∧ d = boot_drawn ∧ k = boot_toks := by simpa using e'
  obtain ⟨z1, z2, z3⟩ : _ ∧ _ ∧ _ := by simpa only [Prod.mk.injEq] using sizes w
  obtain ⟨s₁, r, l⟩ := Option.map_eq_some_iff.mp (congrFun (k4c w) os)
  obtain ⟨s₂, r', l'⟩ := Option.map_eq_some_iff.mp (congrFun (k4b w) os)
  obtain rfl : s₁ = s₂ := Option.some.inj (r.symm.trans r')
  have c := topRun_mono (20000 - (12 + (1 + (51 + (1000 + (30 + (12525 + 240))))))) _ _ _ _ (chain w os r)
  have t : topFrom treeTable prog w 20000 ⟨boot_heap w.params, Array.mk [], boot_drawn, boot_toks, os⟩ = some s₁ := by
    unfold topFrom
    dsimp only
    rw [z1, z2, z3]
    have c' : topRun treeTable prog w 11 (some (.ref 6)) 20000 ⟨boot_heap w.params, Array.mk [], boot_drawn, boot_toks, os⟩ (topStub prog) = some s₁ := c
    rw [c']
    show (match staticsOk (importedModules prog.main.body) (boot_heap w.params) s₁.heap && namesBound prog s₁.heap && gensDone s₁ && laidKept (boot_heap w.params) s₁.heap with | true => _ | false => _) = _
    rw [l']
  unfold openEnds
  rw [e]
  show (topFrom treeTable prog w 20000 _).map _ = _
  rw [t]
  exact congrArg some l
end Mine
end
section
open PySem PySem.W PyProof.Rows PySem.Calls
set_option maxRecDepth 100000
set_option maxHeartbeats 4000000
namespace Mine
abbrev rowL : OpenRow := PySem.Challenge.rw_ph0142_01.row
noncomputable def YP (w : World) (h : Heap) : Prop := h.get? 3 = some (mainFin w.params) ∧ h.get? 29 = some (ob_29 w.params) ∧ h.get? 40 = some (dictO bigEs 650)
noncomputable def lawRec : DefRec := ⟨(nthDef 13).name, (nthDef 13).params, (nthDef 13).body, (nthDef 13).scope, (nthDef 13).pos⟩
theorem holds_of_walk (walk : WalkO qv looseV (fun _ _ => True) YP rowL.toRowW lawRec [] fun f vs => PySem.call f vs) : PySem.Challenge.rw_ph0142_01.Holds := by
  w_on
  o_law
  refine PySem.W.holds_open (r := rowL) (q := qv) (loose := looseV) (Xt := fun _ => true) (XP := fun _ _ => True) (Yf := Yf) (Ya := Ya) (YP := YP) (N := 20000) (d := lawRec) (kwd := []) left ?_ ?_ (fun _ _ => trivial) (fun _ _ _ _ _ => trivial) (by kernel_rfl) (by kernel_rfl) (by kernel_rfl) ?_ (by rfl) (by assumption) (by decide +kernel)
    ⟨rfl, rfl, rfl, rfl, rfl, by decide +kernel⟩ ?_ walk
  · intro w s h
    obtain ⟨a, b, c⟩ : _ ∧ _ ∧ _ := by simpa only [Yf, Ya, Prod.mk.injEq] using h
    exact ⟨a, b, c⟩
  · intro w h h' y k
    exact ⟨k _ _ y.1, k _ _ y.2.1, k _ _ y.2.2⟩
  · intro s _
    exact ⟨fun x hx => (nomatch hx), fun x hx => (nomatch hx), fun c c' a hc => (nomatch hc), fun c fs hf => (nomatch hf)⟩
  · w_witness2
end Mine
end
section
open PySem PySem.W PyProof.Rows PySem.Calls
set_option maxRecDepth 100000
set_option maxHeartbeats 4000000
namespace Mine
local macro_rules | `(tactic| walk_at "no such key") => `(tactic| fail)
local macro_rules | `(tactic| walk_at "no such key") => `(tactic| fail)
local macro_rules | `(tactic| walk_at "no such key") => `(tactic| fail)
local macro_rules | `(tactic| walk_at "no such key") => `(tactic| fail)
local macro_rules | `(tactic| walk_at "no such key") => `(tactic| fail)
local macro_rules | `(tactic| walk_at "no such key") => `(tactic| fail)
local macro_rules | `(tactic| walk_at "no such key") => `(tactic| fail)
local macro_rules | `(tactic| walk_at "no such key") => `(tactic| fail)
local macro_rules | `(tactic| walk_at "no such key") => `(tactic| fail)
local macro_rules | `(tactic| walk_at "no such key") => `(tactic| fail)
local macro_rules | `(tactic| walk_at "no such key") => `(tactic| fail)
local macro_rules | `(tactic| walk_at "no such key") => `(tactic| fail)
local macro_rules | `(tactic| walk_at "no such key") => `(tactic| fail)
local macro_rules | `(tactic| walk_at "no such key") => `(tactic| fail)
noncomputable abbrev AA (d u : Nat) : Around := ⟨none, d, none, none, u⟩
/-- what stands at the top, for every later heap -/
noncomputable def IsFn (h : Heap) (f : Addr) (k : Nat) : Prop :=
  ∃ c' o pm doc, h.get? f = some o ∧ o.data = .func (docDef (nthDef k).name (nthDef k).params (nthDef k).body (nthDef k).scope pm (.ref c') doc) ∧ h.CodeRec (.ref c') (nthDef k).name
structure Gl (w : World) (mg mb : Str → Option Value) (h : Heap) : Prop where
  g : h.Ns mainGlobals mg
  b : h.Ns builtinsNs mb
  nolimit : h.NoLimit
  bi : ∀ x : Str, x ∈ (["list", "range", "chr", "ord", "len", "enumerate", "set"] : List Str) → mg x = none ∧ mb x = bootBuiltins x
  iter : ∃ f, mg "_iter_escaped_chars" = some (.ref f) ∧ IsFn h f 1
  inb1 : ∃ f, mg "in_table_b1" = some (.ref f) ∧ IsFn h f 4
  mapb3 : ∃ f, mg "map_table_b3" = some (.ref f) ∧ IsFn h f 6
  unseen : ∃ f, mg "_law_unseen" = some (.ref f) ∧ IsFn h f 8
  sign : ∃ f, mg "_law_sign" = some (.ref f) ∧ IsFn h f 9
  told : ∃ f, mg "_law_told" = some (.ref f) ∧ IsFn h f 10
  prepared : ∃ f, mg "_law_prepared" = some (.ref f) ∧ IsFn h f 11
  bound : ∃ f, mg "_law_bound" = some (.ref f) ∧ IsFn h f 12
  b1 : mg "b1_set" = some (.ref 29) ∧ h.get? 29 = some (ob_29 w.params)
  b3 : mg "b3_exceptions" = some (.ref 40)
theorem IsFn.keeps {h h' : Heap} {f : Addr} {k : Nat} (x : IsFn h f k) (hk : ∀ b o, h.get? b = some o → h'.get? b = some o) : IsFn h' f k :=
  let ⟨c, o, pm, doc, h1, h2, h3⟩ := x; ⟨c, o, pm, doc, hk _ _ h1, h2, h3.keeps hk⟩
theorem Gl.keeps {w : World} {mg mb : Str → Option Value} {h h' : Heap} (G : Gl w mg mb h) (hk : ∀ b o, h.get? b = some o → h'.get? b = some o) : Gl w mg mb h' :=
  ⟨G.g.keeps hk, G.b.keeps hk, G.nolimit.keeps hk, G.bi, let ⟨f, a, b⟩ := G.iter; ⟨f, a, b.keeps hk⟩, let ⟨f, a, b⟩ := G.inb1; ⟨f, a, b.keeps hk⟩, let ⟨f, a, b⟩ := G.mapb3; ⟨f, a, b.keeps hk⟩, let ⟨f, a, b⟩ := G.unseen; ⟨f, a, b.keeps hk⟩,
    let ⟨f, a, b⟩ := G.sign; ⟨f, a, b.keeps hk⟩, let ⟨f, a, b⟩ := G.told; ⟨f, a, b.keeps hk⟩, let ⟨f, a, b⟩ := G.prepared; ⟨f, a, b.keeps hk⟩, let ⟨f, a, b⟩ := G.bound; ⟨f, a, b.keeps hk⟩, ⟨G.b1.1, hk _ _ G.b1.2⟩, G.b3⟩
section
variable {w : World} {A : Around} {E : Value → Shared → Prop} {s : Shared} {mg mb : Str → Option Value} {env : Env} {pos : Pos} {Q : Value → Shared → Prop}
theorem nm_glob {x : Str} {v : Value} (G : Gl w mg mb s.heap) (hv : mg x = some v) (h : Q v s) (hk : env.scope.kind = .function := by rfl) (hx : env.kindOf x = some .globalImplicit := by rfl) (hg : env.globals = mainGlobals := by rfl)
    (hd : (x == ("__debug__" : Str)) = false := by decide) : wpAny (model prog w) A (eval (.Name x pos) env) Q E s :=
  Name_function_global hk hx (loadGlobal_global (by rw [hg]; exact G.g) hv h) hd
theorem nm_bi {x : Str} {v : Value} (G : Gl w mg mb s.heap) (hm : x ∈ (["list", "range", "chr", "ord", "len", "enumerate", "set"] : List Str)) (hv : bootBuiltins x = some v) (h : Q v s) (hk : env.scope.kind = .function := by rfl)
    (hx : env.kindOf x = some .globalImplicit := by rfl) (hg : env.globals = mainGlobals := by rfl) (hb : env.builtins = builtinsNs := by rfl)
    (hd : (x == ("__debug__" : Str)) = false := by decide) : wpAny (model prog w) A (eval (.Name x pos) env) Q E s :=
  Name_function_global hk hx (loadGlobal_builtin (by rw [hg]; exact G.g) (G.bi x hm).1 (by rw [hb]; exact G.b) ((G.bi x hm).2.trans hv) h) hd
theorem nm_globF {h₀ : Heap} {L : Addr} {m : Str → Option Value} {x : Str} {v : Value} (F : Fr h₀ L s.heap m) (G : Gl w mg mb h₀) (hv : mg x = some v) (h : Q v s) (hk : env.scope.kind = .function := by rfl) (hx : env.kindOf x = some .globalImplicit := by rfl) (hg : env.globals = mainGlobals := by rfl)
    (hd : (x == ("__debug__" : Str)) = false := by decide) : wpAny (model prog w) A (eval (.Name x pos) env) Q E s := nm_glob (G.keeps F.keep) hv h hk hx hg hd
theorem nm_biF {h₀ : Heap} {L : Addr} {m : Str → Option Value} {x : Str} {v : Value} (F : Fr h₀ L s.heap m) (G : Gl w mg mb h₀) (hm : x ∈ (["list", "range", "chr", "ord", "len", "enumerate", "set"] : List Str)) (hv : bootBuiltins x = some v) (h : Q v s) (hk : env.scope.kind = .function := by rfl)
    (hx : env.kindOf x = some .globalImplicit := by rfl) (hg : env.globals = mainGlobals := by rfl) (hb : env.builtins = builtinsNs := by rfl)
    (hd : (x == ("__debug__" : Str)) = false := by decide) : wpAny (model prog w) A (eval (.Name x pos) env) Q E s := nm_bi (G.keeps F.keep) hm hv h hk hx hg hb hd
end
theorem callFn {w : World} {d u : Nat} {E : Value → Shared → Prop} {s : Shared} {f : Addr} {k : Nat} {args : List Value} {binds : List (Str × Value)} {Q : Value → Shared → Prop}
    (hf : IsFn s.heap f k) (hlim : s.heap.NoLimit) (hroom : d < 1000)
    (hbind : ∀ pm cd doc, bindArgs (docDef (nthDef k).name (nthDef k).params (nthDef k).body (nthDef k).scope pm cd doc) ⟨args, []⟩ = pure binds)
    (hloc : ∀ x ∈ binds, (nthDef k).scope.names.lookup x.1 = some .local)
    (h : ∀ h₁ c', Fr s.heap s.heap.objs.size h₁ (fun x => binds.reverse.lookup x) →
      wpAny (model prog w) (AA (d + 1) (u + 3)) (execs (nthDef k).body (envOf (nthDef k).name (nthDef k).scope s.heap.objs.size f (.ref c')))
        (fun fl s' => Q (match fl with | .ret v => v | _ => .none) s') (fun _ _ => False) { s with heap := h₁, toks := s.toks + binds.length })
    (hco : (nthDef k).scope.isCoroutine = false := by rfl) (hgen : (nthDef k).scope.isGenerator = false := by rfl) (hk : (nthDef k).scope.kind = .function := by rfl)
    (hcell : ∀ x ∈ (nthDef k).scope.names, x.2 ≠ .cell := by decide +kernel) : wpAny (model prog w) (AA d u) (call (.ref f) args) Q E s := by
  obtain ⟨c', o, pm, doc, h1, h2, h3⟩ := hf
  refine wpAny_call (call_plain_ret hroom h1 h2 hlim h3 (hbind _ _ _) hloc (fun h₁ F => ?_) hco hgen hk hcell)
  exact h h₁ c' F
theorem wpAny_weak {α : Type} {w : World} {A : Around} {d u : Nat} {t : Sem α} {Q : α → Shared → Prop} {E : Value → Shared → Prop} {s : Shared} (h : wpAny (model prog w) (AA d u) t Q E s) (hh : A.handled = none) (hd : A.depth ≤ d) (hu : A.units ≤ u) :
    wpAny (model prog w) A t Q E s := fun Γ p hΓ => h Γ p ⟨hΓ.1.trans hh, Nat.le_trans hΓ.2.1 hd, fun _ e => (nomatch e), fun _ e => (nomatch e), Nat.le_trans hΓ.2.2.2.2 hu⟩
theorem intsAre_map {vs : List Value} {ns : List Int} (h : CarriedAll vs (ns.map .int)) : IntsAre vs ns := by
  induction ns generalizing vs with
  | nil => cases h; exact .nil
  | cons n ns ih =>
    cases h with
    | cons h1 h2 => cases h1; exact .cons _ _ (ih h2)
noncomputable def unseenL : List Int := [173, 847, 6150, 6155, 6156, 6157, 8203, 8204, 8205, 8288, 65279, 65024, 65025, 65026, 65027, 65028, 65029, 65030, 65031, 65032, 65033, 65034, 65035, 65036, 65037, 65038, 65039]
theorem intsAre_append {a b : List Value} {x y : List Int} (h : IntsAre a x) (k : IntsAre b y) : IntsAre (a ++ b) (x ++ y) := by
  induction h with
  | nil => exact k
  | cons n t _ ih => exact .cons n t ih
local macro_rules | `(tactic| walk_at "eval Name") => `(tactic| (refine nm_biF (by assumption) (by assumption) (by decide) (by boot_by_name) ?_))
theorem unseen_call {w : World} {d u : Nat} {E : Value → Shared → Prop} {s : Shared} {f : Addr} {mg mb : Str → Option Value} {Q : Value → Shared → Prop} (G : Gl w mg mb s.heap) (hf : IsFn s.heap f 8) (hroom : d < 900)
    (h : ∀ a h' tk vs, h'.IsList a vs → IntsAre vs.toList unseenL → s.heap.get? a = none → (∀ b o, s.heap.get? b = some o → h'.get? b = some o) → Q (.ref a) { s with heap := h', toks := tk }) :
    wpAny (model prog w) (AA d u) (call (.ref f) []) Q E s := by
  refine callFn (binds := []) hf G.nolimit (by omega) (fun _ _ _ => rfl) (fun x hx => (nomatch hx)) fun h₁ c' F => ?_
  have NN : News s.heap s.heap.objs.size h₁ [] := News.nil
  have G₁ := G.keeps F.keep
  refine wpAny_execs_cons ?_
  w_on
  repeat (first | walk1 | (dsimp only; walk1))
  rename_i h3 tk3 ys3 F3 N3 hk3 hn3 hl3 np3 hc3 mk3
  refine add_arrays F3 N3 (News.isList N3 (List.mem_cons_self ..)) hl3 (fun h4 F4 N4 => ?_) (by
    have := (intsAre_map hc3).length
    simp only [List.size_toArray, this]
    show 11 + 16 ≤ sizeLine
    decide)
  have hp := N4 _ (List.mem_cons_self ..)
  refine h _ _ _ _ ⟨_, hp.1, rfl, _, rfl⟩ ?_ hp.2.2 F4.keep
  rw [List.toList_toArray]
  exact intsAre_append (.cons _ _ (.cons _ _ (.cons _ _ (.cons _ _ (.cons _ _ (.cons _ _ (.cons _ _ (.cons _ _ (.cons _ _ (.cons _ _ (.cons _ _ .nil))))))))))) (intsAre_map hc3)
end Mine
end
section
open PySem PySem.W PyProof.Rows PySem.Calls
set_option maxRecDepth 100000
set_option maxHeartbeats 4000000
namespace Mine
noncomputable abbrev ch (c : Nat) : Str := ⟨#[c]⟩
noncomputable def P0 : Params := { strHash := fun _ => 0, shareClass := fun _ => 0, mergeTok := id, idOf := fun _ => 0, idOfShared := fun _ _ => 0, followText := fun _ => false, idOfImm := fun _ => 0 }
noncomputable def setEs : List (Int × Value) := match ob_29 P0 with
  | ⟨_, _, .set es _ _, _⟩ => es.toList
  | _ => []
noncomputable def setLed (b : Bool) : SetTable := match ob_29 P0 with
  | ⟨_, _, .set _ _ t, _⟩ => { t with led := b }
  | _ => default
theorem ob29_is (P : Params) : ob_29 P = { cls := .type "set", data := .set setEs.toArray 29 (setLed (!(P.followText "set-order"))) } := rfl
noncomputable def chk (e : Int × Value) : Bool := match e.2 with
  | .int k _ => e.1 == k && e.1 == hashInt k
  | _ => false
theorem chk_ok {e : Int × Value} (h : chk e = true) : ∃ t, e = (e.1, .int e.1 t) ∧ e.1 = hashInt e.1 := by
  obtain ⟨a, v⟩ := e
  unfold chk at h
  split at h
  · rename_i k t hv
    dsimp only at hv h
    subst hv
    rw [Bool.and_eq_true, beq_iff_eq, beq_iff_eq] at h
    obtain ⟨rfl, h2⟩ := h
    exact ⟨t, rfl, h2⟩
  · cases h
theorem setEs_chk : ∀ e ∈ setEs, chk e = true := List.all_eq_true.mp (by decide +kernel)
theorem setEs_perm : List.Perm (setEs.map (·.1)) unseenL := List.isPerm_iff.mp (by decide +kernel)
theorem b1_setOf {w : World} {h : Heap} (h29 : h.get? 29 = some (ob_29 w.params)) : h.SetOf (intKind prog w) 29 (fun k => unseenL.contains k) 27 := by
  refine ⟨_, setEs.toArray, 29, setLed (!(w.params.followText "set-order")), h29, ⟨rfl, rfl, rfl⟩, rfl, ?_, ?_, by decide +kernel, ?_, by decide +kernel⟩
  · intro e he
    rw [List.toList_toArray] at he
    obtain ⟨t, h1, h2⟩ := chk_ok (setEs_chk e he)
    rw [h1]
    exact ⟨⟨e.1, intKind_is prog w e.1 t, h2⟩, rfl⟩
  · intro k
    rw [List.toList_toArray, List.contains_iff_mem, ← setEs_perm.mem_iff, List.mem_map]
    constructor
    · rintro ⟨e, he, rfl⟩
      obtain ⟨t, h1, h2⟩ := chk_ok (setEs_chk e he)
      exact ⟨e, he, by rw [h1]; exact intKind_is prog w e.1 t⟩
    · rintro ⟨e, he, hk⟩
      obtain ⟨t, h1, h2⟩ := chk_ok (setEs_chk e he)
      refine ⟨e, he, ?_⟩
      rw [h1] at hk
      exact (intKind prog w).inj _ _ _ (intKind_is prog w e.1 t) hk
  · cases w.params.followText "set-order" <;> decide +kernel
local macro_rules | `(tactic| walk_at "eval Name") => `(tactic| (refine nm_biF (by assumption) (by assumption) (by decide) (by boot_by_name) ?_))
local macro_rules | `(tactic| walk_at "eval Name") => `(tactic| (refine nm_globF (by assumption) (by assumption) (Gl.b1 (by assumption)).1 ?_))
theorem inb1_call {w : World} {d u : Nat} {E : Value → Shared → Prop} {s : Shared} {f : Addr} {c : Nat} {t : Tok} {mg mb : Str → Option Value} {Q : Value → Shared → Prop} (G : Gl w mg mb s.heap) (hf : IsFn s.heap f 4) (hroom : d < 900)
    (h : ∀ h' tk, (∀ b o, s.heap.get? b = some o → h'.get? b = some o) → Q (.bool (unseenL.contains (c : Int))) { s with heap := h', toks := tk }) :
    wpAny (model prog w) (AA d u) (call (.ref f) [.str (ch c) t]) Q E s := by
  refine callFn (binds := [("code", .str (ch c) t)]) hf G.nolimit (by omega) (fun _ _ _ => rfl) (locs rfl) fun h₁ c' F => ?_
  have NN : News s.heap s.heap.objs.size h₁ [] := News.nil
  refine wpAny_execs_cons ?_
  w_on
  repeat (first | walk1 | (dsimp only; walk1))
  exact wpAny_inSet_of (intKind_is prog w c _) rfl (b1_setOf (F.keep _ _ G.b1.2)) (h _ _ F.keep)
noncomputable def tblGet (k : Int) : Option Str := (tbl.find? fun e => e.1 == k).map (·.2)
theorem hashInt_small {k : Int} (h0 : 0 ≤ k) (h1 : k < 2 ^ 60) : hashInt k = k := by
  have hr : rawHash k = k := ihash_small h0 h1
  unfold hashInt
  rw [hr, if_neg]
  rw [beq_iff_eq]; omega
theorem bigEs_mem : ∀ e ∈ bigEs, IntE e ∧ e.hash = hashInt e.hash := by
  intro e he
  unfold bigEs at he
  rcases List.mem_append.mp he with he | he
  · refine ⟨ents_int _ _ e he, ?_⟩
    obtain ⟨x, hx, ex⟩ := ents_hash _ _ _ he
    have := tbl_ok.1 x (by rw [← tbl_split]; exact List.mem_append_left _ hx)
    rw [ex, hashInt_small this.1 this.2]
  · refine ⟨ents2_int _ _ e he, ?_⟩
    obtain ⟨x, hx, ex⟩ := ents2_hash _ _ _ he
    have := tbl_ok.1 x (by rw [← tbl_split]; exact List.mem_append_right _ hx)
    rw [ex, hashInt_small this.1 this.2]
theorem ents_find (k : Int) : ∀ (L : List (Int × Str)) (t : Nat), ((ents t L).find? fun e => Value.isInt k e.key) = none ∧ (L.find? fun e => e.1 == k) = none ∨
    ∃ e s u, ((ents t L).find? fun e => Value.isInt k e.key) = some e ∧ (L.find? fun e => e.1 == k) = some (k, s) ∧ e.val = .str s u
  | [], _ => .inl ⟨rfl, rfl⟩
  | x :: L, t => by
    rw [ents, List.find?_cons, List.find?_cons]
    cases hx : (x.1 == k) with
    | true =>
      have : Value.isInt k (.int x.1 t) = true := hx
      simp only [this]
      obtain ⟨a, b⟩ := x
      have : a = k := by simpa using hx
      subst this
      exact .inr ⟨_, b, t + 1, rfl, rfl, rfl⟩
    | false =>
      have : Value.isInt k (.int x.1 t) = false := hx
      simp only [this]
      exact ents_find k L (t + 3)
theorem ents2_find (k : Int) : ∀ (L : List (Int × Str)) (t : Nat), ((ents2 t L).find? fun e => Value.isInt k e.key) = none ∧ (L.find? fun e => e.1 == k) = none ∨
    ∃ e s u, ((ents2 t L).find? fun e => Value.isInt k e.key) = some e ∧ (L.find? fun e => e.1 == k) = some (k, s) ∧ e.val = .str s u
  | [], _ => .inl ⟨rfl, rfl⟩
  | x :: L, t => by
    rw [ents2, List.find?_cons, List.find?_cons]
    cases hx : (x.1 == k) with
    | true =>
      have : Value.isInt k (.int x.1 t) = true := hx
      simp only [this]
      obtain ⟨a, b⟩ := x
      have : a = k := by simpa using hx
      subst this
      exact .inr ⟨_, b, t + 1, rfl, rfl, rfl⟩
    | false =>
      have : Value.isInt k (.int x.1 t) = false := hx
      simp only [this]
      exact ents2_find k L (t + 2)
theorem b3_map {w : World} {h : Heap} (h40 : h.get? 40 = some (dictO bigEs 650)) : ∃ f, h.MapOf (intKind prog w) 40 f ∧ ∀ k, (f k = none ∧ tblGet k = none) ∨ ∃ s u, tblGet k = some s ∧ f k = some (.str s u) := by
  refine ⟨fun k => findBy (intKind prog w).is bigEs.toArray k, ⟨_, bigEs.toArray, 650, h40, ⟨rfl, rfl, rfl⟩, rfl, ?_, fun _ => rfl⟩, ?_⟩
  · intro e he
    rw [List.mem_toArray] at he
    obtain ⟨⟨t, ht⟩, hh⟩ := bigEs_mem e he
    exact ⟨e.hash, by rw [ht]; exact intKind_is prog w _ _, hh⟩
  · intro k
    have e1 : findBy (intKind prog w).is bigEs.toArray k = ((ents 268 (tC ++ tCs.flatten) ++ ents2 2206 tR).find? fun e => Value.isInt k e.key).map (·.val) := by
      unfold findBy bigEs
      rw [List.find?_toArray]
      rfl
    have e2 : tblGet k = ((tC ++ tCs.flatten ++ tR).find? fun e => e.1 == k).map (·.2) := by rw [tbl_split]; rfl
    dsimp only
    rw [e1, e2, List.find?_append, List.find?_append]
    rcases ents_find k (tC ++ tCs.flatten) 268 with ⟨a, b⟩ | ⟨e, s, u, a, b, c⟩
    · rw [a, b]
      rcases ents2_find k tR 2206 with ⟨a, b⟩ | ⟨e, s, u, a, b, c⟩
      · rw [a, b]; exact .inl ⟨rfl, rfl⟩
      · rw [a, b]; exact .inr ⟨s, u, rfl, by rw [← c]; rfl⟩
    · rw [a, b]; exact .inr ⟨s, u, rfl, by rw [← c]; rfl⟩

noncomputable def prepC (c : Nat) : Str := if unseenL.contains (c : Int) then ⟨#[]⟩ else (tblGet c).getD (Txt.lower (ch c))
local macro_rules | `(tactic| walk_at "eval Name") => `(tactic| (refine nm_globF (by assumption) (by assumption) (Gl.b3 (by assumption)) ?_))
theorem get_map {w : World} {A : Around} {E : Value → Shared → Prop} {s : Shared} {d : Addr} {k : Int} {t : Tok} {f : Int → Option Value} {Q : Value → Shared → Prop} (hm : s.heap.MapOf (intKind prog w) d f) (lo : (d == sysModules) = false)
    (h : Q ((f k).getD .none) { s with toks := s.toks + 1 }) : wpAny (model prog w) A (call (.builtin "dict.get") [.ref d, .int k t]) Q E s :=
  call_meetsIn PySem.F.slot_dict_get hm.typeIs PySem.F.entry_dict_get (PySem.F.args_dict_get_2 _ _) (meets_dict_get (intKind prog w) d (intKind_is prog w k t) lo) ⟨_, hm, h⟩
theorem mapb3_call {w : World} {d u : Nat} {E : Value → Shared → Prop} {s : Shared} {f : Addr} {c : Nat} {t : Tok} {mg mb : Str → Option Value} {Q : Value → Shared → Prop} (G : Gl w mg mb s.heap) (h40 : s.heap.get? 40 = some (dictO bigEs 650)) (hf : IsFn s.heap f 6) (hroom : d < 900)
    (h : ∀ v h' tk, (∀ b o, s.heap.get? b = some o → h'.get? b = some o) → Q (.str ((tblGet c).getD (Txt.lower (ch c))) v) { s with heap := h', toks := tk }) :
    wpAny (model prog w) (AA d u) (call (.ref f) [.str (ch c) t]) Q E s := by
  refine callFn (binds := [("code", .str (ch c) t)]) hf G.nolimit (by omega) (fun _ _ _ => rfl) (locs rfl) fun h₁ c' F => ?_
  have NN : News s.heap s.heap.objs.size h₁ [] := News.nil
  refine wpAny_execs_cons ?_
  w_on
  repeat (first | walk1 | (dsimp only; walk1))
  have h40' := F.keep _ _ h40
  obtain ⟨g, hm, hg⟩ := b3_map (w := w) h40'
  refine getMethod_builtin hm.typeIs PySem.F.plainAttrs_dict PySem.F.slot_dict_get PySem.F.type_dict_get hm.noDict ?_
  dsimp only
  repeat (first | walk1 | (dsimp only; walk1))
  refine get_map hm rfl ?_
  rcases hg c with ⟨e1, e2⟩ | ⟨x, u', e1, e2⟩
  · rw [e1]
    dsimp only [Option.getD]
    repeat (first | walk1 | (dsimp only; walk1))
    rename_i h2 F2 N2
    dsimp only
    refine SCL.lower (by show 1 ≤ _; decide) (fun _ => ?_)
    have := h s.toks h2 s.toks F2.keep
    rw [e2] at this h
    exact h _ _ _ F2.keep
  · rw [e2]
    dsimp only [Option.getD]
    repeat (first | walk1 | (dsimp only; walk1))
    rename_i h2 F2 N2
    rw [e1] at h
    exact h _ _ _ F2.keep
end Mine
end
section
open PySem PySem.W PyProof.Rows PySem.Calls
set_option maxRecDepth 100000
set_option maxHeartbeats 4000000
namespace Mine
local macro_rules | `(tactic| walk_at "no such key") => `(tactic| fail)
local macro_rules | `(tactic| walk_at "no such key") => `(tactic| fail)
local macro_rules | `(tactic| walk_at "no such key") => `(tactic| fail)
local macro_rules | `(tactic| walk_at "no such key") => `(tactic| fail)
local macro_rules | `(tactic| walk_at "no such key") => `(tactic| fail)
local macro_rules | `(tactic| walk_at "no such key") => `(tactic| fail)
local macro_rules | `(tactic| walk_at "no such key") => `(tactic| fail)
local macro_rules | `(tactic| walk_at "no such key") => `(tactic| fail)
local macro_rules | `(tactic| walk_at "no such key") => `(tactic| fail)
local macro_rules | `(tactic| walk_at "no such key") => `(tactic| fail)
local macro_rules | `(tactic| walk_at "no such key") => `(tactic| fail)
local macro_rules | `(tactic| walk_at "no such key") => `(tactic| fail)
local macro_rules | `(tactic| walk_at "no such key") => `(tactic| fail)
local macro_rules | `(tactic| walk_at "no such key") => `(tactic| fail)
/-- the top with the table -/
structure GL (w : World) (mg mb : Str → Option Value) (h : Heap) : Prop where
  G : Gl w mg mb h
  t : h.get? 40 = some (dictO bigEs 650)
theorem GL.keeps {w : World} {mg mb : Str → Option Value} {h h' : Heap} (x : GL w mg mb h) (hk : ∀ b o, h.get? b = some o → h'.get? b = some o) : GL w mg mb h' := ⟨x.G.keeps hk, hk _ _ x.t⟩
section
variable {w : World} {d u : Nat} {E : Value → Shared → Prop} {s : Shared} {h₀ : Heap} {L : Addr} {m mg mb : Str → Option Value} {news : List (Addr × Obj)} {Q : Value → Shared → Prop} {env : Env} {pos : Pos} {f : Addr} {c : Nat} {t : Tok}
theorem inb1_F {b : Bool} (hb : unseenL.contains (c : Int) = b) (F : Fr h₀ L s.heap m) (N : News h₀ L s.heap news) (G : GL w mg mb h₀) (hf : IsFn h₀ f 4) (hroom : d < 900)
    (h : ∀ h' tk, Fr h₀ L h' m → News h₀ L h' news → Q (.bool b) { s with heap := h', toks := tk }) : wpAny (model prog w) (AA d u) (call (.ref f) [.str (ch c) t]) Q E s :=
  inb1_call (G.G.keeps F.keep) (hf.keeps F.keep) hroom fun h' tk hk => hb ▸ h h' tk (F.keeps hk) (N.grown hk)
theorem mapb3_F (F : Fr h₀ L s.heap m) (N : News h₀ L s.heap news) (G : GL w mg mb h₀) (hf : IsFn h₀ f 6) (hroom : d < 900)
    (h : ∀ v h' tk, Fr h₀ L h' m → News h₀ L h' news → Q (.str ((tblGet c).getD (Txt.lower (ch c))) v) { s with heap := h', toks := tk }) : wpAny (model prog w) (AA d u) (call (.ref f) [.str (ch c) t]) Q E s :=
  mapb3_call (G.G.keeps F.keep) (F.keep _ _ G.t) (hf.keeps F.keep) hroom fun v h' tk hk => h v h' tk (F.keeps hk) (N.grown hk)
end
theorem cw {M : Model} {A : Around} {E : Value → Shared → Prop} {s : Shared} {h₀ : Heap} {f : Addr} {k : Nat} {Q : Value → Shared → Prop} {env : Env} {pos : Pos} {e : Expr} {rest : List Expr} (hf : IsFn h₀ f k)
    (h : wpAny M A (spliced (backTo pos (starEach (e :: rest) env))) (fun vs s₁ => (∀ b o, h₀.get? b = some o → s₁.heap.get? b = some o) ∧ wpAny M A (call (.ref f) vs) Q E s₁) E s)
    (he : starEach (e :: rest) env = (false, eval e env) :: starEach rest env := by rfl) : wpAny M A (callWith pos (.ref f) [] (backTo pos (starEach (e :: rest) env)) []) Q E s := by
  obtain ⟨c', o, pm, doc, h1, h2, h3⟩ := hf
  exact callWith_def h2 (wpAny_mono h (fun vs s₁ h' => ⟨h'.1 _ _ h1, h'.2⟩) fun _ _ x => x) he
theorem cw0 {M : Model} {A : Around} {E : Value → Shared → Prop} {s : Shared} {h₀ : Heap} {f : Addr} {k : Nat} {Q : Value → Shared → Prop} {env : Env} {pos : Pos} (hf : IsFn h₀ f k)
    (h : (∀ b o, h₀.get? b = some o → s.heap.get? b = some o) ∧ wpAny M A (call (.ref f) []) Q E s) : wpAny M A (callWith pos (.ref f) [] (backTo pos (starEach [] env)) []) Q E s := by
  obtain ⟨c', o, pm, doc, h1, h2, h3⟩ := hf
  exact callWith_function (o := o) (fd := _) (PyProof.Rows.evalArgs_none ⟨⟨h.1 _ _ h1, h2⟩, h.2⟩)
local macro_rules | `(tactic| walk_at "eval Name") => `(tactic| (refine nm_biF (by assumption) (GL.G (by assumption)) (by decide) (by boot_by_name) ?_))
local macro_rules | `(tactic| walk_at "callWith ref") => `(tactic| (refine cw (by assumption) ?_))
local macro_rules | `(tactic| walk_at "And") => `(tactic| (refine ⟨Fr.keep (by assumption), ?_⟩))
local macro_rules | `(tactic| walk_at "call ref") => `(tactic| first
  | (refine inb1_F (by assumption) (by assumption) (by assumption) (by assumption) (by assumption) (by omega) ?_; intro _ _ _ _)
  | (refine mapb3_F (by assumption) (by assumption) (by assumption) (by assumption) (by omega) ?_; intro _ _ _ _ _))
local macro_rules | `(tactic| walk_at "eval Name") => `(tactic| (refine nm_globF (by assumption) (GL.G (by assumption)) (by assumption) ?_))
theorem prepared_call {w : World} {d u : Nat} {E : Value → Shared → Prop} {s : Shared} {f : Addr} {c : Nat} {t : Tok} {mg mb : Str → Option Value} {Q : Value → Shared → Prop} (G : GL w mg mb s.heap) (hf : IsFn s.heap f 11) (hroom : d < 800)
    (h : ∀ v h' tk, (∀ b o, s.heap.get? b = some o → h'.get? b = some o) → Q (.str (prepC c) v) { s with heap := h', toks := tk }) :
    wpAny (model prog w) (AA d u) (call (.ref f) [.str (ch c) t]) Q E s := by
  refine callFn (binds := [("sign", .str (ch c) t)]) hf G.G.nolimit (by omega) (fun _ _ _ => rfl) (locs rfl) fun h₁ c' F => ?_
  have NN : News s.heap s.heap.objs.size h₁ [] := News.nil
  obtain ⟨f1, hm1, hf1⟩ := G.G.inb1
  obtain ⟨f2, hm2, hf2⟩ := G.G.mapb3
  cases hc : unseenL.contains (c : Int)
  · have hp : prepC c = (tblGet c).getD (Txt.lower (ch c)) := by unfold prepC; rw [hc]; rfl
    rw [hp] at h
    refine wpAny_execs_cons ?_
    w_on
    repeat' (first | walk1 | (dsimp only; walk1))
    rename_i v h2 tk2 F2 N2
    exact h v h2 tk2 F2.keep
  · have hp : prepC c = Str.ofString "" := by unfold prepC; rw [hc, if_pos rfl]; decide +kernel
    rw [hp] at h
    refine wpAny_execs_cons ?_
    repeat' (first | walk1 | (dsimp only; walk1))
    rename_i h2 tk2 F2 N2
    exact h _ h2 _ F2.keep
end Mine
end
section
open PySem PySem.W PyProof.Rows PySem.Calls
set_option maxRecDepth 100000
set_option maxHeartbeats 4000000
namespace Mine
theorem unseen_F {w : World} {d u : Nat} {E : Value → Shared → Prop} {s : Shared} {h₀ : Heap} {L : Addr} {m mg mb : Str → Option Value} {news : List (Addr × Obj)} {Q : Value → Shared → Prop} {f : Addr} (F : Fr h₀ L s.heap m) (N : News h₀ L s.heap news) (G : GL w mg mb h₀) (hf : IsFn h₀ f 8) (hroom : d < 900)
    (h : ∀ a h' tk vs, h'.IsList a vs → IntsAre vs.toList unseenL → Fr h₀ L h' m → News h₀ L h' news → Q (.ref a) { s with heap := h', toks := tk }) : wpAny (model prog w) (AA d u) (call (.ref f) []) Q E s :=
  unseen_call (G.G.keeps F.keep) (hf.keeps F.keep) hroom fun a h' tk vs h1 h2 _ hk => h a h' tk vs h1 h2 (F.keeps hk) (N.grown hk)
theorem item_at {w : World} {A : Around} {E : Value → Shared → Prop} {s : Shared} {value slice : Expr} {l : Addr} {vs : Array Value} {k : Int} {j : Nat} {u : Tok} {v : Value} {Q : Value → Shared → Prop} (hl : s.heap.IsList l vs) (hk : k = (j : Int)) (hj : j < 1000000) (hx : vs[j]? = some v) (h : Q v s)
    (hs : subscripted slice false (.ref l) (.int k u) = operate [.ref l, .int k u] (getItem (.ref l) (.int k u)) := by with_unfolding_all rfl) : wpAny (model prog w) A (subscriptTail value slice (.ref l) (.int k u)) Q E s :=
  tail_any hl.typeIs slot_list_getitem.lookup (wpAny_getItem_list hl (by omega) (by omega) (by subst hk; simpa using hx) h) hs
theorem ints_at {vs : List Value} {ns : List Int} (h : IntsAre vs ns) : ∀ (j : Nat), j < ns.length → ∃ t, vs[j]? = some (.int (ns.getD j 0) t) := by
  induction h with
  | nil => intro j hj; simp at hj
  | cons n t _ ih =>
    intro j hj
    cases j with
    | zero => exact ⟨t, rfl⟩
    | succ j =>
      rw [List.length_cons] at hj
      obtain ⟨t', e⟩ := ih j (by omega)
      exact ⟨t', by simpa using e⟩
local macro_rules | `(tactic| walk_at "eval Name") => `(tactic| (refine nm_biF (by assumption) (GL.G (by assumption)) (by decide) (by boot_by_name) ?_))
local macro_rules | `(tactic| walk_at "eval Name") => `(tactic| (refine nm_globF (by assumption) (GL.G (by assumption)) (by assumption) ?_))
local macro_rules | `(tactic| walk_at "callWith ref") => `(tactic| first | (refine cw (by assumption) ?_) | (refine cw0 (by assumption) ?_))
local macro_rules | `(tactic| walk_at "And") => `(tactic| (refine ⟨Fr.keep (by assumption), ?_⟩))
local macro_rules | `(tactic| walk_at "call ref") => `(tactic| (refine unseen_F (by assumption) (by assumption) (by assumption) (by assumption) (by omega) ?_; intro _ _ _ _ _ _ _ _))
noncomputable def signC (n : Int) : Nat := if n.fmod 4 = 0 then 92 else if n.fmod 4 = 1 then (unseenL.getD ((n.fdiv 4).fmod 27).toNat 0).toNat
  else if n.fmod 4 = 2 then (if (n.fdiv 4).fmod 4 = 0 then 65 + ((n.fdiv 16).fmod 26).toNat else if (n.fdiv 4).fmod 4 = 1 then 223 else if (n.fdiv 4).fmod 4 = 2 then 64259 else 119808 + ((n.fdiv 16).fmod 26).toNat)
  else (if (n.fdiv 4).fmod 4 = 0 then 40 else if (n.fdiv 4).fmod 4 = 1 then 10 else if (n.fdiv 4).fmod 4 = 2 then 34 else 19968 + ((n.fdiv 16).fmod 20902).toNat)
noncomputable def meantC (n : Int) : Str := if n.fmod 4 = 0 then ch 92 else if n.fmod 4 = 1 then ⟨#[]⟩
  else if n.fmod 4 = 2 then (if (n.fdiv 4).fmod 4 = 0 then ch (97 + ((n.fdiv 16).fmod 26).toNat) else if (n.fdiv 4).fmod 4 = 1 then ⟨#[115, 115]⟩ else if (n.fdiv 4).fmod 4 = 2 then ⟨#[102, 102, 105]⟩ else ch (97 + ((n.fdiv 16).fmod 26).toNat))
  else ch (signC n)
local macro_rules | `(tactic| walk_at "subscriptTail") => `(tactic| (refine item_at (News.isList (by assumption) (by news_mem)) (by assumption) (by decide) rfl ?_))
theorem sign_end {s : Shared} {L : Addr} {m : Str → Option Value} {news : List (Addr × Obj)} {n : Int} {Q : Value → Shared → Prop} {T : Addr} {x y : Str} {t1 t2 : Tok} {h' : Heap} {tk : Nat}
    (h : ∀ T t1 t2 h' tk, IsTup h' T #[.str (ch (signC n)) t1, .str (meantC n) t2] → s.heap.get? T = none → (∀ b o, s.heap.get? b = some o → h'.get? b = some o) → Q (.ref T) { s with heap := h', toks := tk })
    (F : Fr s.heap L h' m) (N : News s.heap L h' ((T, { cls := .type "tuple", data := .seq #[.str x t1, .str y t2] }) :: news)) (hx : ch (signC n) = x) (hy : meantC n = y) : Q (.ref T) { s with heap := h', toks := tk } := by
  subst hx hy
  have hp := N _ (List.mem_cons_self ..)
  exact h T t1 t2 h' tk ⟨_, hp.1, rfl, _, rfl⟩ hp.2.2 F.keep
theorem sign_call {w : World} {d u : Nat} {E : Value → Shared → Prop} {s : Shared} {f : Addr} {n : Int} {t : Tok} {mg mb : Str → Option Value} {Q : Value → Shared → Prop} (G : GL w mg mb s.heap) (hf : IsFn s.heap f 9) (hroom : d < 800)
    (h : ∀ T t1 t2 h' tk, IsTup h' T #[.str (ch (signC n)) t1, .str (meantC n) t2] → s.heap.get? T = none → (∀ b o, s.heap.get? b = some o → h'.get? b = some o) → Q (.ref T) { s with heap := h', toks := tk }) :
    wpAny (model prog w) (AA d u) (call (.ref f) [.int n t]) Q E s := by
  refine callFn (binds := [("number", .int n t)]) hf G.G.nolimit (by omega) (fun _ _ _ => rfl) (locs rfl) fun h₁ c' F => ?_
  have NN : News s.heap s.heap.objs.size h₁ [] := News.nil
  obtain ⟨f1, hm1, hf1⟩ := G.G.unseen
  have e4 : ∀ x : Int, x.fmod 4 = x % 4 := fun x => Int.fmod_eq_emod_of_nonneg x (by decide)
  have b0 : (n.fdiv 4).fmod 4 = ((0 : Nat) : Int) ∨ (n.fdiv 4).fmod 4 = ((1 : Nat) : Int) ∨ (n.fdiv 4).fmod 4 = ((2 : Nat) : Int) ∨ (n.fdiv 4).fmod 4 = ((3 : Nat) : Int) := by
    rw [e4]; omega
  have b1 : 0 ≤ n.fmod 4 ∧ n.fmod 4 < 4 := by rw [e4]; omega
  have c26 : 0 ≤ (n.fdiv 16).fmod 26 ∧ (n.fdiv 16).fmod 26 < 26 := by
    rw [Int.fmod_eq_emod_of_nonneg _ (by decide)]; omega
  have cjk : 0 ≤ (n.fdiv 16).fmod 20902 ∧ (n.fdiv 16).fmod 20902 < 20902 := by
    rw [Int.fmod_eq_emod_of_nonneg _ (by decide)]; omega
  have c27 : 0 ≤ (n.fdiv 4).fmod 27 ∧ (n.fdiv 4).fmod 27 < 27 := by
    rw [Int.fmod_eq_emod_of_nonneg _ (by decide)]; omega
  refine wpAny_execs_cons ?_
  w_on
  repeat' (first | walk1 | (dsimp only; walk1))
  · rename_i hc hA FA NA
    refine sign_end (s := s) h FA NA ?_ ?_
    · unfold signC; rw [if_pos hc]; decide +kernel
    · unfold meantC; rw [if_pos hc]; decide +kernel
  · rename_i h0 h1 a3 hL tk3 vs3 hl3 hi3 F3 N3
    obtain ⟨j, hj⟩ : ∃ j : Nat, (n.fdiv 4).fmod 27 = (j : Int) := ⟨((n.fdiv 4).fmod 27).toNat, by omega⟩
    have hj27 : j < 27 := by omega
    obtain ⟨t5, e5⟩ := ints_at hi3 j hj27
    have hb5 : 0 ≤ unseenL.getD j 0 ∧ unseenL.getD j 0 < 65280 := by
      have : ∀ k : Fin 27, 0 ≤ unseenL.getD k.1 0 ∧ unseenL.getD k.1 0 < 65280 := by decide +kernel
      exact this ⟨j, hj27⟩
    obtain ⟨x5, hx5⟩ : ∃ x, x = unseenL.getD j 0 := ⟨_, rfl⟩
    rw [← hx5] at e5 hb5
    refine item_at hl3 hj (by omega) (by rw [← Array.getElem?_toList]; exact e5) ?_
    dsimp only
    repeat' (first | walk1 | (dsimp only; walk1))
    rename_i hA FA NA
    refine sign_end (s := s) h FA NA ?_ ?_
    · unfold signC; rw [if_neg h0, if_pos h1, hj, Int.toNat_natCast, ← hx5]
    · unfold meantC; rw [if_neg h0, if_pos h1]; decide +kernel
  · rename_i h0 h1 h2 _ _ _
    rcases b0 with hw | hw | hw | hw
    all_goals (repeat' (first | walk1 | (dsimp only; walk1)))
    all_goals (rename_i hA FA NA; refine sign_end (s := s) h FA NA ?_ ?_)
    all_goals first | unfold signC | unfold meantC
    all_goals rw [if_neg h0, if_neg h1, if_pos h2, hw]
    all_goals first | rfl | (apply congrArg ch; first | omega | (simp <;> omega))
  · rename_i h0 h1 h2 _ _ _
    rcases b0 with hw | hw | hw | hw
    all_goals (repeat' (first | walk1 | (dsimp only; walk1)))
    all_goals (rename_i hA FA NA; refine sign_end (s := s) h FA NA ?_ ?_)
    all_goals (try (unfold meantC; rw [if_neg h0, if_neg h1, if_neg h2]))
    all_goals unfold signC
    all_goals rw [if_neg h0, if_neg h1, if_neg h2, hw]
    all_goals first | rfl | (apply congrArg ch; first | omega | (simp <;> omega))
end Mine
end
section
open PySem PySem.W PyProof.Rows PySem.Calls
set_option maxRecDepth 100000
set_option maxHeartbeats 4000000
namespace Mine
/-- the results of a comprehension, and the objects that were made for them -/
noncomputable def Made (h₀ : Heap) (C D : Addr) (wr : List Addr) (F : Nat → Value → List (Addr × Obj) → Prop) (p : Nat → Bool) (n : Nat) (ys : List Value) (tss : List (Addr × Obj)) (h : Heap) : Prop :=
  (∀ q ∈ tss, h.get? q.1 = some q.2 ∧ q.1 ≠ C ∧ q.1 ≠ D ∧ q.1 ∉ wr ∧ h₀.get? q.1 = none) ∧ Paired (fun i y => ∃ ts, F i y ts ∧ ∀ q ∈ ts, q ∈ tss) ((List.range n).filter p) ys
/-- the same, for the one who called -/
noncomputable def Made' (h₀ : Heap) (D : Addr) (F : Nat → Value → List (Addr × Obj) → Prop) (p : Nat → Bool) (n : Nat) (ys : List Value) (tss : List (Addr × Obj)) (h : Heap) : Prop :=
  (∀ q ∈ tss, h.get? q.1 = some q.2 ∧ q.1 ≠ D ∧ h₀.get? q.1 = none) ∧ Paired (fun i y => ∃ ts, F i y ts ∧ ∀ q ∈ ts, q ∈ tss) ((List.range n).filter p) ys
theorem Made.up {h₀ h h' : Heap} {C D : Addr} {wr : List Addr} {F : Nat → Value → List (Addr × Obj) → Prop} {p : Nat → Bool} {n : Nat} {ys : List Value} {tss : List (Addr × Obj)} (x : Made h₀ C D wr F p n ys tss h)
    (hk : ∀ b o, b ≠ C → b ≠ D → b ∉ wr → h.get? b = some o → h'.get? b = some o) : Made h₀ C D wr F p n ys tss h' :=
  ⟨fun q hq => let ⟨a, b, c, d, e⟩ := x.1 q hq; ⟨hk _ _ b c d a, b, c, d, e⟩, x.2⟩
theorem Made.out {h₀ h h' : Heap} {C D : Addr} {wr : List Addr} {F : Nat → Value → List (Addr × Obj) → Prop} {p : Nat → Bool} {n : Nat} {ys : List Value} {tss : List (Addr × Obj)} (x : Made h₀ C D wr F p n ys tss h)
    (hk : ∀ b o, b ≠ C → h₀.get? b = none → h.get? b = some o → h'.get? b = some o) : Made' h₀ D F p n ys tss h' :=
  ⟨fun q hq => let ⟨a, b, c, _, e⟩ := x.1 q hq; ⟨hk _ _ b e a, c, e⟩, x.2⟩
section
variable {w : World} {A : Around}
theorem compLoop_any {R : Result → Shared → Prop} {s : Shared} {elt target iter : Expr} {ifs : List Expr} {scope : Scope} {pos : Pos} {it acc : Value} {env : Env} (I : Nat → Shared → Prop)
    (turn : ∀ n s, I n s → wpAny (model prog w) A (pyNext it) (fun r s₁ => match r with
      | none => R (.ok .next) s₁
      | some v => wpAny (model prog w) A (letOwnedTupleGo target it v) (fun _ s₁' => wpAny (model prog w) A (assign target env v) (fun _ s₂ =>
          wpAny (model prog w) A (forIn ifs true fun c r => if r = true then do let ok ← isTrue c env (eval c env); pure (ForInStep.yield ok) else pure (ForInStep.yield r)) (fun ok s₃ =>
            if ok = true then wpAny (model prog w) A (eval elt env) (fun x s₄ =>
              wpAny (model prog w) A (call (.builtin "list.append") [acc, x]) (fun _ s₅ => ∃ m, m < n ∧ I m s₅) (notedBy (model prog w) A env fun e s' => R (.error e) s') s₄) (notedBy (model prog w) A env fun e s' => R (.error e) s') s₃
            else ∃ m, m < n ∧ I m s₃) (notedBy (model prog w) A env fun e s' => R (.error e) s') s₂) (notedBy (model prog w) A env fun e s' => R (.error e) s') s₁') (notedBy (model prog w) A env fun e s' => R (.error e) s') s₁) (notedBy (model prog w) A env fun e s' => R (.error e) s') s)
    (n : Nat) (h : I n s) :
    codeAny (model prog w) A (.compLoop (.ListComp elt [⟨target, iter, ifs, 0⟩] scope pos) 0 it acc env) R s := by
  refine codeAny_loop rfl I (fun n s hI => ?_) n h
  show wpAny _ A ((compTurn (.ListComp elt [⟨target, iter, ifs, 0⟩] scope pos) 0 it acc env).onRaise (fun x => do noteFrame x env; theTreesLotGoes x)) _ _ s
  refine wpAny_noted ?_
  rw [compTurn_list]
  refine wpAny_bind (wpAny_standAt (wpAny_bind (wpAny_mono (turn n s hI) (fun r s₁ h₁ => ?_) fun _ _ h' => h')))
  cases r with
  | none => exact wpAny_pure h₁
  | some v =>
    refine wpAny_bind (wpAny_mono h₁ (fun _ s₁' h₁' => ?_) fun _ _ h' => h')
    refine wpAny_bind (wpAny_mono h₁' (fun _ s₂ h₂ => wpAny_bind (wpAny_mono h₂ (fun ok s₃ h₃ => ?_) fun _ _ h' => h')) fun _ _ h' => h')
    cases ok with
    | false => exact wpAny_pure ⟨rfl, h₃⟩
    | true =>
      exact wpAny_bind (wpAny_bind (wpAny_mono h₃ (fun x s₄ h₄ => wpAny_bind (wpAny_mono h₄ (fun _ s₅ h₅ => wpAny_pure (wpAny_pure ⟨rfl, h₅⟩)) fun _ _ h' => h')) fun _ _ h' => h'))

/-- nothing is lost but what the names of the comprehension are -/
noncomputable def KeepsC (C : Addr) (m : Str → Option Value) (u u₁ : Shared) : Prop := ∃ h' tk, u₁ = { u with heap := h', toks := tk } ∧ (∀ b o, b ≠ C → u.heap.get? b = some o → h'.get? b = some o) ∧ h'.Ns C m
/-- what a turn of a comprehension asks -/
structure Turns (w : World) (A : Around) (h₀ : Heap) (I : Addr) (n : Nat) (P : Nat → Value → Prop) (St : Nat → Heap → Prop) (target : Expr) (ifs : List Expr) (elt : Expr) (cenv : Addr → Env) (B : Nat → (Str → Option Value) → Prop) (p : Nat → Bool) (F : Nat → Value → List (Addr × Obj) → Prop) : Prop where
  asg : ∀ C i v (u : Shared) m₂ E', i < n → P i v → St (i + 1) u.heap → Fr h₀ C u.heap m₂ →
    wpAny (model prog w) A (letOwnedTupleGo target (.ref I) v) (fun _ u₁ => wpAny (model prog w) A (assign target (cenv C) v) (fun _ u₂ => ∃ h' tk m₃, u₂ = { u with heap := h', toks := tk } ∧ h'.Ns C m₃ ∧ B i m₃ ∧
      (∀ b o, b ≠ C → u.heap.get? b = some o → h'.get? b = some o)) E' u₁) E' u
  tests : ∀ C i (u : Shared) m₂ E', i < n → B i m₂ → Fr h₀ C u.heap m₂ →
    wpAny (model prog w) A (forIn ifs true fun c r => if r = true then do let ok ← isTrue c (cenv C) (eval c (cenv C)); pure (ForInStep.yield ok) else pure (ForInStep.yield r)) (fun ok u₁ => ok = p i ∧ KeepsC C m₂ u u₁) E' u
  elt : ∀ C i (u : Shared) m₂ E', i < n → B i m₂ → p i = true → Fr h₀ C u.heap m₂ → wpAny (model prog w) A (eval elt (cenv C)) (fun y u₁ => (∃ ts, F i y ts ∧ ∀ p ∈ ts, u.heap.get? p.1 = none ∧ u₁.heap.get? p.1 = some p.2) ∧ KeepsC C m₂ u u₁) E' u

theorem compLoop_own {R : Result → Shared → Prop} {s : Shared} {elt iter target : Expr} {ifs : List Expr} {scope : Scope} {pos : Pos} {I D : Addr} {fp wr : List Addr} {n : Nat} {P : Nat → Value → Prop} {St : Nat → Heap → Prop} {cenv : Addr → Env} {C : Addr} {m : Str → Option Value}
    {h₀ : Heap} (W : Walks prog w A I fp wr n P St) {B : Nat → (Str → Option Value) → Prop} {p : Nat → Bool} {F : Nat → Value → List (Addr × Obj) → Prop}
    (hlive : ∀ i h, St i h → ∀ b ∈ wr, ∃ o, h.get? b = some o)
    (hDC : D < C) (hfp : ∀ b ∈ fp, b < D) (hst : St 0 s.heap) (hacc : s.heap.PlainList D #[]) (hn : s.heap.Ns C m)
    (h₀D : h₀.objs.size ≤ D) (hwr : ∀ b ∈ wr, h₀.objs.size ≤ b) (hk₀ : ∀ b o, h₀.get? b = some o → s.heap.get? b = some o)
    (T : Turns w A h₀ I n P St target ifs elt cenv B p F)
    (hR : ∀ h' tk m' ys tss, h'.Ns C m' → h'.PlainList D ys → Made h₀ C D wr F p n ys.toList tss h' → (∀ b o, h₀.get? b = some o → h'.get? b = some o) → R (.ok .next) { s with heap := h', toks := tk })
    (hsz : n ≤ sizeLine) :
    codeAny (model prog w) A (.compLoop (.ListComp elt [⟨target, iter, ifs, 0⟩] scope pos) 0 (.ref I) (.ref D) (cenv C)) R s := by
  have h₀C : h₀.objs.size ≤ C := Nat.le_trans h₀D (Nat.le_of_lt hDC)
  have hDf : D ∉ fp := fun h => Nat.lt_irrefl _ (hfp _ h)
  have hCf : C ∉ fp := fun h => Nat.lt_irrefl _ (Nat.lt_trans (hfp _ h) hDC)
  have hCw : C ∉ wr := fun h => hCf (W.sub _ h)
  have hDw : D ∉ wr := fun h => hDf (W.sub _ h)
  have hwC : ∀ b ∈ wr, b < C := fun b h => Nat.lt_trans (hfp _ (W.sub _ h)) hDC
  refine compLoop_any
    (fun k s' => ∃ h' tk m' ys tss i, s' = { s with heap := h', toks := tk } ∧ St i h' ∧ h'.PlainList D ys ∧ h'.Ns C m' ∧
      Made h₀ C D wr F p i ys.toList tss h' ∧ i ≤ n ∧ k = n + 1 - i ∧ (∀ b o, h₀.get? b = some o → h'.get? b = some o)) ?_ (n + 1)
    ⟨s.heap, s.toks, m, #[], [], 0, rfl, hst, hacc, hn, ⟨(fun _ hq => (nomatch hq)), Paired.nil⟩, Nat.zero_le _, rfl, hk₀⟩
  rintro k s' ⟨H, tk, m', ys, tss, i, rfl, hst', hacc', hn', hF', hi, rfl, hk⟩
  have off₀ : ∀ b o, h₀.get? b = some o → b ≠ C ∧ b ≠ D ∧ b ∉ wr := fun b o e => by
    have := Heap.lt_size e
    exact ⟨Nat.ne_of_lt (Nat.lt_of_lt_of_le this h₀C), Nat.ne_of_lt (Nat.lt_of_lt_of_le this h₀D), fun q => Nat.lt_irrefl _ (Nat.lt_of_lt_of_le this (hwr b q))⟩
  by_cases hlt : i < n
  · refine W.item i _ _ _ hlt hst' fun v h₁ tk₁ hPv hst₁ hk₁ => ?_
    have hkk₁ : ∀ b o, h₀.get? b = some o → h₁.get? b = some o := fun b o e => hk₁ b o (off₀ b o e).2.2 (hk b o e)
    have hn₁ : h₁.Ns C m' := hn'.at' fun o e => hk₁ _ o hCw e
    refine wpAny_mono (T.asg C i v _ m' _ hlt hPv hst₁ ⟨hn₁, hkk₁, h₀C⟩) (fun _ u₁ hu₁ => wpAny_mono hu₁ (fun _ u₂ hu₂ => ?_) fun _ _ e => e) fun _ _ e => e
    obtain ⟨h₂, tk₂, m₃, rfl, hn₂, hB, hk₂⟩ := hu₂
    have hst₂ : St (i + 1) h₂ := W.frame _ _ _ hst₁ fun b hb o e => hk₂ b o (fun q => hCf (q ▸ hb)) e
    have hkk₂ : ∀ b o, h₀.get? b = some o → h₂.get? b = some o := fun b o e => hk₂ b o (off₀ b o e).1 (hkk₁ b o e)
    refine wpAny_mono (T.tests C i _ m₃ _ hlt hB ⟨hn₂, hkk₂, h₀C⟩) (fun ok u₃ hu₃ => ?_) fun _ _ e => e
    obtain ⟨rfl, h₃, tk₃, rfl, hk₃, hn₃⟩ := hu₃
    have hst₃ : St (i + 1) h₃ := W.frame _ _ _ hst₂ fun b hb o e => hk₃ b o (fun q => hCf (q ▸ hb)) e
    have hacc₃ : h₃.PlainList D ys := hacc'.at fun o e => hk₃ _ o (Nat.ne_of_lt hDC) (hk₂ _ o (Nat.ne_of_lt hDC) (hk₁ _ o hDw e))
    have hkk₃ : ∀ b o, h₀.get? b = some o → h₃.get? b = some o := fun b o e => hk₃ b o (off₀ b o e).1 (hkk₂ b o e)
    have up : ∀ b o, b ≠ C → b ≠ D → b ∉ wr → H.get? b = some o → h₃.get? b = some o := fun b o hb _ hw e => hk₃ b o hb (hk₂ b o hb (hk₁ b o hw e))
    have hF₃ : Made h₀ C D wr F p i ys.toList tss h₃ := hF'.up up
    have hrange : (List.range (i + 1)).filter p = (List.range i).filter p ++ (if p i then [i] else []) := by
      rw [List.range_succ, List.filter_append]; congr 1; cases h : p i <;> simp [h]
    cases hpv : p i with
    | false =>
      simp only [Bool.false_eq_true, if_false]
      refine ⟨n + 1 - (i + 1), by omega, h₃, tk₃, m₃, ys, tss, i + 1, rfl, hst₃, hacc₃, hn₃, ⟨hF₃.1, ?_⟩, hlt, rfl, hkk₃⟩
      rw [hrange, hpv]; simpa using hF₃.2
    | true =>
      simp only [if_true]
      refine wpAny_mono (T.elt C i _ m₃ _ hlt hB hpv ⟨hn₃, hkk₃, h₀C⟩) (fun y u₄ hu₄ => ?_) fun _ _ e => e
      obtain ⟨⟨ts, hFy, hts⟩, h₄, tk₄, rfl, hk₄, hn₄⟩ := hu₄
      have hys : ys.size ≤ sizeLine := by
        have e1 := hF'.2.length
        have e2 : ((List.range i).filter p).length ≤ (List.range i).length := List.length_filter_le _ _
        rw [List.length_range] at e2
        have e4 : ys.toList.length = ys.size := by simp
        omega
      refine wpAny_list_append_plain (hsz := hys) (hacc₃.at fun o e => hk₄ _ o (Nat.ne_of_lt hDC) e) fun h₅ hl₅ hs₅ => ?_
      refine ⟨n + 1 - (i + 1), by omega, h₅, tk₄, m₃, ys.push y, tss ++ ts, i + 1, rfl, W.frame _ _ h₅ hst₃ fun b hb o e => hs₅.extBut b o (fun h => hDf (h ▸ hb)) (hk₄ b o (fun q => hCf (q ▸ hb)) e), hl₅, hn₄.sameBut hs₅ (Nat.ne_of_gt hDC), ?_, hlt, rfl,
        fun b o e => hs₅.extBut b o (off₀ b o e).2.1 (hk₄ b o (off₀ b o e).1 (hkk₃ b o e))⟩
      have up₅ : ∀ b o, b ≠ C → b ≠ D → b ∉ wr → h₃.get? b = some o → h₅.get? b = some o := fun b o hC hb _ e => hs₅.extBut b o hb (hk₄ b o hC e)
      have hF₅ := hF₃.up up₅
      refine ⟨fun q hq => ?_, ?_⟩
      · rcases List.mem_append.mp hq with hq | hq
        · exact hF₅.1 q hq
        · obtain ⟨q1, q2⟩ := hts q hq
          have live : ∀ b o, h₃.get? b = some o → q.1 ≠ b := fun b o e r => by
            have q1' : h₃.get? q.1 = none := q1
            rw [r, e] at q1'; cases q1'
          have hqC : q.1 ≠ C := let ⟨_, _, _, e, _⟩ := hn₃; live _ _ e
          have hqD : q.1 ≠ D := let ⟨_, e⟩ := hacc₃; live _ _ e
          refine ⟨hs₅.extBut _ _ hqD q2, hqC, hqD, fun hw => let ⟨_, e⟩ := hlive _ _ hst₃ _ hw; live _ _ e rfl, ?_⟩
          cases e : h₀.get? q.1 with
          | none => rfl
          | some o => exact absurd rfl (live _ _ (hkk₃ _ _ e))
      · rw [hrange, hpv]
        have := Paired.snoc (hF₅.2.mono (F' := fun i y => ∃ t, F i y t ∧ ∀ q ∈ t, q ∈ tss ++ ts) fun _ _ ⟨t, h1, h2⟩ => ⟨t, h1, fun q hq => List.mem_append_left _ (h2 q hq)⟩) (⟨ts, hFy, fun q hq => List.mem_append_right _ hq⟩ : ∃ t, F i y t ∧ ∀ q ∈ t, q ∈ tss ++ ts)
        simpa using this
  · have hin : i = n := by omega
    subst hin
    refine W.done _ _ _ hst' fun h₁ tk₁ hk₁ => ?_
    exact hR h₁ tk₁ m' ys tss (hn'.at' fun o e => hk₁ _ o hCw e) (hacc'.at fun o e => hk₁ _ o hDw e) (hF'.up fun b o _ _ hw e => hk₁ b o hw e) fun b o e => hk₁ b o (off₀ b o e).2.2 (hk b o e)
end

/-- all that stands in a heap, but C and what stood before -/
noncomputable def allOwn (h₀ : Heap) (C : Addr) (h : Heap) : List (Addr × Obj) := ownOf h₀ ((List.range h.objs.size).filter (· != C)) h
theorem allOwn_news {h₀ : Heap} {C : Addr} {h : Heap} : News h₀ C h (allOwn h₀ C h) := news_ownOf fun hm => by simp at hm
theorem mem_allOwn {h₀ : Heap} {C : Addr} {h : Heap} {b : Addr} {o : Obj} (hb : b ≠ C) (hn : h₀.get? b = none) (ho : h.get? b = some o) : (b, o) ∈ allOwn h₀ C h :=
  mem_ownOf (List.mem_filter.mpr ⟨List.mem_range.mpr (Heap.lt_size ho), by simpa using hb⟩) hn ho
theorem keepsC_of {h₀ : Heap} {C : Addr} {m : Str → Option Value} {u : Shared} {h' : Heap} {tk : Nat} {news : List (Addr × Obj)} (F : Fr h₀ C u.heap m) (F' : Fr h₀ C h' m) (N' : News h₀ C h' news) (hs : ∀ p ∈ allOwn h₀ C u.heap, p ∈ news) : KeepsC C m u { u with heap := h', toks := tk } := by
  refine ⟨h', tk, rfl, fun b o hb e => ?_, F'.ns⟩
  cases hn : h₀.get? b with
  | some o' =>
    have := F.keep b o' hn
    rw [e] at this; cases this
    exact F'.keep b o hn
  | none => exact (N' _ (hs _ (mem_allOwn hb hn e))).1
section
variable {w : World} {A : Around} {E : Value → Shared → Prop} {env : Env}
/-- an iterator that stands before its items -/
noncomputable def Iters (w : World) (A : Around) (s : Shared) (n : Nat) (P : Nat → Value → Prop) (Q : Addr → (Nat → Heap → Prop) → Prop) (it : Value) (s₂ : Shared) : Prop :=
  ∃ I fp wr St h' tk, it = .ref I ∧ s₂ = { s with heap := h', toks := tk } ∧ Walks prog w A I fp wr n P St ∧ St 0 h' ∧ (∀ b ∈ fp, b < h'.objs.size) ∧ (∀ b ∈ wr, s.heap.objs.size ≤ b) ∧ (∀ b o, s.heap.get? b = some o → h'.get? b = some o) ∧ s.heap.objs.size ≤ h'.objs.size ∧ (∀ i h, St i h → ∀ b ∈ wr, ∃ o, h.get? b = some o) ∧ Q I St

theorem comp_block_own {elt iter target : Expr} {ifs : List Expr} {scope : Scope} {cl : List (Str × Addr)} {pos : Pos} {s₂ : Shared} {I : Addr} {fp wr : List Addr} {n : Nat} {P : Nat → Value → Prop} {h₀ : Heap}
    {St : Nat → Heap → Prop} (W : Walks prog w A I fp wr n P St) (hsz : n ≤ sizeLine) {B : Nat → (Str → Option Value) → Prop} {p : Nat → Bool} {F : Nat → Value → List (Addr × Obj) → Prop} {RR : Value → Addr → Result → Shared → Prop}
    (hlive : ∀ i h, St i h → ∀ b ∈ wr, ∃ o, h.get? b = some o)
    (hcell : ∀ y ∈ scope.names, y.2 ≠ .cell) (hkind : scope.kind = .function) (hst : St 0 s₂.heap) (hfp : ∀ b ∈ fp, b < s₂.heap.objs.size)
    (hwr : ∀ b ∈ wr, h₀.objs.size ≤ b) (hk₀ : ∀ b o, h₀.get? b = some o → s₂.heap.get? b = some o) (h₀s : h₀.objs.size ≤ s₂.heap.objs.size)
    (T : Turns w A h₀ I n P St target ifs elt (fun C => compEnvC scope cl C env) B p F)
    (hRR : ∀ D C h' tk m' ys tss, h₀.objs.size ≤ D → D < C → h'.Ns C m' → h'.PlainList D ys → Made h₀ C D wr F p n ys.toList tss h' → (∀ b o, h₀.get? b = some o → h'.get? b = some o) → RR (.ref D) C (.ok .next) { s₂ with heap := h', toks := tk }) :
    wpAny (model prog w) A (newList []) (fun acc s₃ => wpAny (model prog w) A (newFunctionEnv scope env.globals cl [] env.qual none .none (some env)) (fun cenv s₄ =>
      codeAny (model prog w) A (.compStart (.ListComp elt [⟨target, iter, ifs, 0⟩] scope pos) 0 (.ref I) acc { cenv with scope := relabel scope env }) (RR acc cenv.locals) s₄) E s₃) E s₂ := by
  refine wpAny_newObj_type (wpAny_newFunctionEnv hcell (by intro y hy; simp at hy) (fun h₁ hns₁ hsb₁ => ?_) hkind)
  dsimp only at hns₁ hsb₁ ⊢
  generalize hH2 : s₂.heap.push { cls := .type "list", dict := none, data := .seq ([] : List Value).toArray } = H2 at hns₁ hsb₁ ⊢
  have hC : H2.objs.size = s₂.heap.objs.size + 1 := by rw [← hH2, Heap.size_push]
  have hDC : s₂.heap.objs.size < H2.objs.size := by rw [hC]; exact Nat.lt_succ_self _
  have below : ∀ b, b < s₂.heap.objs.size → b ≠ H2.objs.size ∧ b ≠ s₂.heap.objs.size := fun b hb => ⟨by rw [hC]; exact Nat.ne_of_lt (Nat.lt_succ_of_lt hb), Nat.ne_of_lt hb⟩
  have old : ∀ b o, s₂.heap.get? b = some o → h₁.get? b = some o := fun b o e => hsb₁.extBut b o (below b (Heap.lt_size e)).1 (Heap.get?_push_of_some _ (hH2 ▸ Heap.get?_push_of_some _ e))
  have hacc : h₁.PlainList s₂.heap.objs.size #[] := ⟨_, hsb₁.extBut _ _ (Nat.ne_of_lt hDC) (Heap.get?_push_of_some _ (hH2 ▸ Heap.get?_push_size _ rfl))⟩
  have hst₁ : St 0 h₁ := W.frame _ _ _ hst fun b _ o e => old b o e
  have loop : ∀ s₃ : Shared, s₃ = { s₂ with heap := h₁, toks := s₂.toks + ([] : List (Str × Value)).length } →
      codeAny (model prog w) A (.compLoop (.ListComp elt [⟨target, iter, ifs, 0⟩] scope pos) 0 (.ref I) (.ref s₂.heap.objs.size) (compEnvC scope cl H2.objs.size env))
        (RR (.ref s₂.heap.objs.size) H2.objs.size) s₃ := by
    rintro s₃ rfl
    exact compLoop_own (cenv := fun C => compEnvC scope cl C env) (C := H2.objs.size) W hlive hDC hfp hst₁ hacc hns₁ h₀s hwr (fun b o e => old b o (hk₀ b o e)) T
      (fun h' tk m' ys tss hn hl hP hk => hRR _ _ h' tk m' ys tss h₀s hDC hn hl hP hk) hsz
  exact codeAny_compStart_list (loop _ rfl) (W.self 0 _ _ _ hst₁ (loop _ rfl))

theorem comp_own {s : Shared} {elt iter target : Expr} {ifs : List Expr} {scope : Scope} {cl : List (Str × Addr)} {pos : Pos} {Q : Value → Shared → Prop} {n : Nat} (P : Nat → Value → Prop) (B : Nat → (Str → Option Value) → Prop) (p : Nat → Bool) (F : Nat → Value → List (Addr × Obj) → Prop)
    (hclos : closureFor scope env = pure cl) (hcell : ∀ y ∈ scope.names, y.2 ≠ .cell) (hkind : scope.kind = .function)
    (hnames : ∀ y ∈ scope.names, y.2 = .local → scope.names.lookup y.1 = some .local) (hsz : n ≤ sizeLine)
    (h : wpAny (model prog w) A (eval iter env) (fun xv s₁ => wpAny (model prog w) A (pyIter xv) (Iters w A s n P fun I St => Turns w A s.heap I n P St target ifs elt (fun C => compEnvC scope cl C env) B p F) E s₁) E s)
    (hQ : ∀ D h' tk ys tss, s.heap.objs.size ≤ D → h'.PlainList D ys → Made' s.heap D F p n ys.toList tss h' → (∀ b o, s.heap.get? b = some o → h'.get? b = some o) → Q (.ref D) { s with heap := h', toks := tk })
    (hs : ∀ x, foldedSetIterable iter env x = pure x := by intro _; rfl) :
    wpAny (model prog w) A (eval (.ListComp elt [⟨target, iter, ifs, 0⟩] scope pos) env) Q E s := by
  rw [eval_ListComp]
  refine wpAny_comprehension_free (use := none) rfl hs hclos hkind hnames (wpAny_mono h (fun xv s₁ h₁ => wpAny_mono h₁ (fun it s₂ h₂ => ?_) fun _ _ e => e) fun _ _ e => e)
  obtain ⟨I, fp, wr, St, H, tk, rfl, rfl, W, hst, hfp, hwr, hk, hle, hlive, T⟩ := h₂
  refine comp_block_own (RR := fun acc C => compPost (model prog w) A E none Q acc C) W hsz hlive hcell hkind hst hfp hwr hk hle T ?_
  intro D C h' tk' m' ys tss hD hDC hn hl hP hk'
  exact ⟨m', hn, fun h'' hs'' => hQ D h'' tk' ys tss hD (hl.extBut hs''.extBut (Nat.ne_of_lt hDC)) (hP.out fun b o hb _ e => hs''.extBut b o hb e)
    fun b o e => hs''.extBut b o (Nat.ne_of_lt (Nat.lt_trans (Nat.lt_of_lt_of_le (Heap.lt_size e) hD) hDC)) (hk' b o e)⟩

theorem assign_comp_own {s : Shared} {elt iter target : Expr} {ifs : List Expr} {scope : Scope} {cl : List (Str × Addr)} {pos spos py : Pos} {y : Str} {m : Str → Option Value} {Q : Flow → Shared → Prop} {n : Nat} (P : Nat → Value → Prop) (B : Nat → (Str → Option Value) → Prop) (p : Nat → Bool) (F : Nat → Value → List (Addr × Obj) → Prop)
    (hsw : swapsWith (.ListComp elt [⟨target, iter, ifs, 0⟩] scope pos) (some (.Name y py)) spos.line env = pure true)
    (hclos : closureFor scope env = pure cl) (hcell : ∀ y ∈ scope.names, y.2 ≠ .cell) (hkind : scope.kind = .function)
    (hnames : ∀ y ∈ scope.names, y.2 = .local → scope.names.lookup y.1 = some .local) (hsz : n ≤ sizeLine)
    (hy : env.kindOf y = some .local) (hp : (env.scope.kind == .class || (env.scope.kind == .module && env.locals != env.globals)) = false) (hns : s.heap.Ns env.locals m)
    (h : wpAny (model prog w) A (eval iter env) (fun xv s₁ => wpAny (model prog w) A (pyIter xv) (Iters w A s n P fun I St => Turns w A s.heap I n P St target ifs elt (fun C => compEnvC scope cl C env) B p F) E s₁) E s)
    (hQ : ∀ D h' tk ys tss, s.heap.objs.size ≤ D → h'.PlainList D ys → Made' s.heap D F p n ys.toList tss h' → h'.Ns env.locals (fun z => if z = y then some (.ref D) else m z) →
      (∀ b o, b ≠ env.locals → s.heap.get? b = some o → h'.get? b = some o) → Q .next { s with heap := h', toks := tk })
    (hs : ∀ x, foldedSetIterable iter env x = pure x := by intro _; rfl) :
    wpAny (model prog w) A (exec (.Assign [.Name y py] (.ListComp elt [⟨target, iter, ifs, 0⟩] scope pos) spos) env) Q E s := by
  rw [exec_Assign_Name_used _ _ _ _ hsw]
  refine wpAny_bind (wpAny_standAt (wpAny_bind ?_))
  show wpAny _ A (do let _ ← comprehension (.ListComp elt [⟨target, iter, ifs, 0⟩] scope pos) scope env _ (newList []) false (eval iter env) (some (assign (.Name y py) env))) _ _ s
  refine wpAny_bind (wpAny_mono (wpAny_comprehension_free (use := some (assign (.Name y py) env)) (Q := fun _ s' => Q .next s') rfl hs hclos hkind hnames
    (wpAny_mono h (fun xv s₁ h₁ => wpAny_mono h₁ (fun it s₂ h₂ => ?_) fun _ _ e => e) fun _ _ e => e)) (fun _ _ x => wpAny_pure (wpAny_pure x)) fun _ _ e => e)
  obtain ⟨I, fp, wr, St, H, tk, rfl, rfl, W, hst, hfp, hwr, hk, hle, hlive, T⟩ := h₂
  refine comp_block_own (RR := fun acc C => compPost (model prog w) A E (some (assign (.Name y py) env)) (fun _ s' => Q .next s') acc C) W hsz hlive hcell hkind hst hfp hwr hk hle T ?_
  intro D C h' tk' m' ys tss hD hDC hn hl hP hk'
  have hL : env.locals < s.heap.objs.size := hns.lt
  have hLD : env.locals < D := Nat.lt_of_lt_of_le hL hD
  have hLC : env.locals < C := Nat.lt_trans hLD hDC
  show wpAny _ A (assign (.Name y py) env (.ref D)) _ _ _
  refine wpAny_assign_Name (wpAny_storeName_local hy (hns.keeps hk') (fun h₂ hn₂ hs₂ => ?_) hp)
  refine ⟨m', hn.sameBut hs₂ (Nat.ne_of_gt hLC), fun h₃ hs₃ => ?_⟩
  refine hQ D h₃ _ ys tss hD ((hl.extBut hs₂.extBut (Nat.ne_of_gt hLD)).extBut hs₃.extBut (Nat.ne_of_lt hDC)) (hP.out fun b o hb hn₀ e => hs₃.extBut b o hb (hs₂.extBut b o (fun q => by obtain ⟨_, _, _, e', _⟩ := hns; rw [q, e'] at hn₀; cases hn₀) e)) (hn₂.sameBut hs₃ (Nat.ne_of_lt hLC))
    fun b o hbL e => hs₃.extBut b o (Nat.ne_of_lt (Nat.lt_trans (Nat.lt_of_lt_of_le (Heap.lt_size e) hD) hDC)) (hs₂.extBut b o hbL (hk' b o e))
end
end Mine
end
section
open PySem PySem.W PyProof.Rows PySem.Calls
set_option maxRecDepth 100000
set_option maxHeartbeats 4000000
namespace Mine
section
variable {w : World} {A : Around} {E : Value → Shared → Prop} {env : Env}
theorem asg_name {h₀ : Heap} {I : Addr} {n : Nat} {P : Nat → Value → Prop} {St : Nat → Heap → Prop} {scope : Scope} {cl : List (Str × Addr)} {x : Str} {px : Pos}
    (hx : scope.names.lookup x = some .local) (hkind : scope.kind = .function) : ∀ C i v (u : Shared) m₂ E', i < n → P i v → St (i + 1) u.heap → Fr h₀ C u.heap m₂ →
    wpAny (model prog w) A (letOwnedTupleGo (.Name x px) (.ref I) v) (fun _ u₁ => wpAny (model prog w) A (assign (.Name x px) (compEnvC scope cl C env) v) (fun _ u₂ => ∃ h' tk m₃, u₂ = { u with heap := h', toks := tk } ∧ h'.Ns C m₃ ∧ (∃ v, P i v ∧ m₃ x = some v) ∧
      (∀ b o, b ≠ C → u.heap.get? b = some o → h'.get? b = some o)) E' u₁) E' u := by
  intro C i v u m₂ E' hi hP _ F
  refine wpAny_of_eq (show letOwnedTupleGo (.Name x px) (.ref I) v = pure () from rfl) ?_
  refine wpAny_assign_Name (wpAny_storeName_local (env := compEnvC scope cl C env) (lookup_relabel_local hx) F.ns (fun h₂ hn₂ hs₂ => ?_) (by simp [compEnvC, relabel, hkind]))
  exact ⟨h₂, _, _, rfl, hn₂, ⟨v, hP, by simp⟩, fun b o hb e => hs₂.extBut b o hb e⟩
theorem asg_pair {h₀ : Heap} {I l : Addr} {n : Nat} {P : Nat → Value → Prop} {St : Nat → Heap → Prop} {scope : Scope} {cl : List (Str × Addr)} {x x₂ : Str} {px px₂ tp : Pos} {x1} {V : Nat → Value → Value → Prop}
    (hx : scope.names.lookup x = some .local) (hx₂ : scope.names.lookup x₂ = some .local) (hxx : x ≠ x₂) (hkind : scope.kind = .function) (hh : A.handled = none)
    (hT : ∀ i v, P i v → ∃ T a b, v = .ref T ∧ IsTup h₀ T #[a, b] ∧ V i a b) (hSt : ∀ i h, St i h → h.IsListIter I l i) : ∀ C i v (u : Shared) m₂ E', i < n → P i v → St (i + 1) u.heap → Fr h₀ C u.heap m₂ →
    wpAny (model prog w) A (letOwnedTupleGo (.Tuple [.Name x px, .Name x₂ px₂] x1 tp) (.ref I) v) (fun _ u₁ => wpAny (model prog w) A (assign (.Tuple [.Name x px, .Name x₂ px₂] x1 tp) (compEnvC scope cl C env) v) (fun _ u₂ => ∃ h' tk m₃, u₂ = { u with heap := h', toks := tk } ∧ h'.Ns C m₃ ∧ (∃ a b, V i a b ∧ m₃ x = some a ∧ m₃ x₂ = some b) ∧
      (∀ b o, b ≠ C → u.heap.get? b = some o → h'.get? b = some o)) E' u₁) E' u := by
  intro C i v u m₂ E' hi hP hst F
  obtain ⟨T, a, b, rfl, ht, hV⟩ := hT i v hP
  refine wpAny_letOwnedTupleGo_listiter (hSt _ _ hst) ?_
  refine assign_Tuple_tuple hh (ht.keeps F.keep) rfl rfl fun h₅ he => ?_
  have he' : ∀ b o, u.heap.get? b = some o → h₅.get? b = some o := fun b o e => he b o (Nat.ne_of_lt (Heap.lt_size e)) e
  refine assignInOrder_cons (wpAny_assign_Name (wpAny_storeName_local (env := compEnvC scope cl C env) (lookup_relabel_local hx) (F.ns.at' fun o e => he' _ o e) (fun h₆ hn₆ hs₆ => ?_) (by simp [compEnvC, relabel, hkind])))
  refine assignInOrder_cons (wpAny_assign_Name (wpAny_storeName_local (env := compEnvC scope cl C env) (lookup_relabel_local hx₂) hn₆ (fun h₃ hn₃ hs₃ => ?_) (by simp [compEnvC, relabel, hkind])))
  refine assignInOrder_nil ?_
  exact ⟨h₃, _, _, rfl, hn₃, ⟨a, b, hV, by simp [hxx], by simp⟩, fun b o hb e => hs₃.extBut b o hb (hs₆.extBut b o hb (he' b o e))⟩
theorem iters_list {s : Shared} {l : Addr} {items : Array Value} {Q : Addr → (Nat → Heap → Prop) → Prop} (hh : A.handled = none) (hl : s.heap.IsList l items) (hQ : ∀ I, Q I (fun i h => h.IsListIter I l i ∧ h.IsList l items)) :
    wpAny (model prog w) A (pyIter (.ref l)) (Iters w A s items.size (fun i v => items[i]? = some v) Q) E s := by
  have hlt : l < s.heap.objs.size := by obtain ⟨_, e, _⟩ := hl; exact Heap.lt_size e
  refine wpAny_pyIter_list hl ⟨s.heap.objs.size, [s.heap.objs.size, l], [s.heap.objs.size], _, _, s.toks, rfl, rfl, Walks.list hh _ l (Nat.ne_of_lt hlt) items, ⟨⟨_, Heap.get?_push_size _ rfl, rfl, rfl⟩, hl.at fun o e => Heap.get?_push_of_some _ e⟩, ?_, ?_, fun b o e => Heap.get?_push_of_some _ e, ?_, ?_, hQ _⟩
  · intro b hb
    rw [Heap.size_push]
    simp only [List.mem_cons, List.not_mem_nil, or_false] at hb
    rcases hb with rfl | rfl
    · exact Nat.lt_succ_self _
    · exact Nat.lt_succ_of_lt hlt
  · intro b hb
    rw [List.mem_singleton.mp hb]; exact Nat.le_refl _
  · rw [Heap.size_push]; exact Nat.le_succ _
  · rintro i h ⟨⟨o, e, _⟩, _⟩ b hb
    rw [List.mem_singleton.mp hb]; exact ⟨o, e⟩
theorem iters_str {s : Shared} {x : Str} {t : Tok} {Q : Addr → (Nat → Heap → Prop) → Prop} (hh : A.handled = none) (hQ : ∀ I St, Q I St) :
    wpAny (model prog w) A (pyIter (.str x t)) (Iters w A s x.cps.size (SignAt x) Q) E s := by
  have key : ∀ (T : String) (o : Obj), o.isFreed = false → (s.heap.push o).IsStrIter s.heap.objs.size T x t 0 → Walks prog w A s.heap.objs.size [s.heap.objs.size] [s.heap.objs.size] x.cps.size (SignAt x) (fun i h => h.IsStrIter s.heap.objs.size T x t i) →
      Iters w A s x.cps.size (SignAt x) Q (.ref s.heap.objs.size) { s with heap := s.heap.push o } := by
    intro T o _ h0 W
    refine ⟨s.heap.objs.size, [s.heap.objs.size], [s.heap.objs.size], _, _, s.toks, rfl, rfl, W, h0, ?_, ?_, fun b o e => Heap.get?_push_of_some _ e, ?_, ?_, hQ _ _⟩
    · intro b hb
      rw [List.mem_singleton.mp hb, Heap.size_push]; exact Nat.lt_succ_self _
    · intro b hb
      rw [List.mem_singleton.mp hb]; exact Nat.le_refl _
    · rw [Heap.size_push]; exact Nat.le_succ _
    · rintro i h ⟨o, e, _⟩ b hb
      rw [List.mem_singleton.mp hb]; exact ⟨o, e⟩
  cases ha : x.cps.all (· < 128)
  · exact wpAny_pyIter_wide ha (key _ _ rfl ⟨_, Heap.get?_push_size _ rfl, rfl, rfl⟩ (Walks.strWide hh _ x t))
  · exact wpAny_pyIter_ascii ha (key _ _ rfl ⟨_, Heap.get?_push_size _ rfl, rfl, rfl⟩ (Walks.strAscii hh _ x t))
theorem iters_range {s : Shared} {r : Addr} {h₁ : Heap} {tk n : Nat} {t u v : Tok} {Q : Addr → (Nat → Heap → Prop) → Prop} (hh : A.handled = none) (hr : IsRange h₁ r 0 n 1 t u v) (hn : n < 2 ^ 60)
    (hk : ∀ b o, s.heap.get? b = some o → h₁.get? b = some o) (hle : s.heap.objs.size ≤ h₁.objs.size) (hQ : ∀ I St, Q I St) :
    wpAny (model prog w) A (pyIter (.ref r)) (Iters w A s n (fun i v => ∃ t, v = .int i t) Q) E { s with heap := h₁, toks := tk } := by
  have hsz : Builtin.Range.rangeSize 0 n 1 = (n : Int) := by rw [rangeSize_one]; split <;> omega
  refine wpAny_pyIter_range hr (small_one (by omega) (by omega) (by omega) (by omega)) ?_
  have W := Walks.range (prog := prog) (w := w) hh h₁.objs.size 0 1 n
  refine ⟨h₁.objs.size, [h₁.objs.size], [h₁.objs.size], _, _, tk, rfl, rfl, ⟨W.sub, W.frame, fun i s Q E hi st hQ => W.item i s Q E hi st fun v h' tk hP => hQ v h' tk (by simpa using hP), W.done, W.self⟩, ?_, ?_, ?_, fun b o e => Heap.get?_push_of_some _ (hk b o e), ?_, ?_, hQ _ _⟩
  · dsimp only
    rw [hsz]
    have : IsRangeIter (h₁.push { cls := .type "range_iterator", data := .fields #[rawInt 0, rawInt n, rawInt 1] }) h₁.objs.size 0 n 1 := Heap.get?_push_size _ rfl
    simpa using this
  · intro b hb
    rw [List.mem_singleton.mp hb, Heap.size_push]; exact Nat.lt_succ_self _
  · intro b hb
    rw [List.mem_singleton.mp hb]; exact hle
  · rw [Heap.size_push]; exact Nat.le_succ_of_le hle
  · intro i h st b hb
    rw [List.mem_singleton.mp hb]; exact ⟨_, st⟩
end
theorem callFnC {w : World} {d u : Nat} {E : Value → Shared → Prop} {s : Shared} {f : Addr} {k : Nat} {args : List Value} {binds : List (Str × Value)} {Q : Value → Shared → Prop}
    (hf : IsFn s.heap f k) (hlim : s.heap.NoLimit) (hroom : d < 1000)
    (hbind : ∀ pm cd doc, bindArgs (docDef (nthDef k).name (nthDef k).params (nthDef k).body (nthDef k).scope pm cd doc) ⟨args, []⟩ = pure binds)
    (hkind : ∀ x ∈ binds, (nthDef k).scope.names.lookup x.1 = some .local ∨ ((nthDef k).scope.names.lookup x.1 = some .cell ∧ ((cellsFrom (s.heap.objs.size + 1) (nthDef k).scope.names []).lookup x.1).isSome = true))
    (hnd : ((cellsFrom 0 (nthDef k).scope.names []).map (·.1)).Nodup)
    (h : ∀ h₁ tk c' cells, Fr s.heap s.heap.objs.size h₁ (bindL (envOfC (nthDef k).name (nthDef k).scope s.heap.objs.size f (.ref c')).kindOf binds fun _ => none) → News s.heap s.heap.objs.size h₁ cells →
      CellsAre (bindC (envOfC (nthDef k).name (nthDef k).scope s.heap.objs.size f (.ref c')).kindOf binds fun _ => none) (cellsFrom (s.heap.objs.size + 1) (nthDef k).scope.names []) cells →
      wpAny (model prog w) (AA (d + 1) (u + 3)) (execs (nthDef k).body (envOfC (nthDef k).name (nthDef k).scope s.heap.objs.size f (.ref c')))
        (fun fl s' => Q (match fl with | .ret v => v | _ => .none) s') (fun _ _ => False) { s with heap := h₁, toks := tk })
    (hco : (nthDef k).scope.isCoroutine = false := by rfl) (hgen : (nthDef k).scope.isGenerator = false := by rfl) (hk : (nthDef k).scope.kind = .function := by rfl) :
    wpAny (model prog w) (AA d u) (call (.ref f) args) Q E s := by
  obtain ⟨c', o, pm, doc, h1, h2, h3⟩ := hf
  refine wpAny_call (call_cellsN_ret hroom h1 h2 hlim h3 (hbind _ _ _) hkind hnd (fun h₁ tk cells F N Y => ?_) hco hgen hk)
  exact h h₁ tk c' cells F N Y
end Mine
end
section
open PySem PySem.W PyProof.Rows PySem.Calls
set_option maxRecDepth 100000
set_option maxHeartbeats 4000000
namespace Mine
local macro_rules | `(tactic| walk_at "no such key") => `(tactic| fail)
local macro_rules | `(tactic| walk_at "no such key") => `(tactic| fail)
local macro_rules | `(tactic| walk_at "no such key") => `(tactic| fail)
local macro_rules | `(tactic| walk_at "no such key") => `(tactic| fail)
local macro_rules | `(tactic| walk_at "no such key") => `(tactic| fail)
local macro_rules | `(tactic| walk_at "no such key") => `(tactic| fail)
local macro_rules | `(tactic| walk_at "no such key") => `(tactic| fail)
local macro_rules | `(tactic| walk_at "no such key") => `(tactic| fail)
local macro_rules | `(tactic| walk_at "no such key") => `(tactic| fail)
local macro_rules | `(tactic| walk_at "no such key") => `(tactic| fail)
local macro_rules | `(tactic| walk_at "no such key") => `(tactic| fail)
local macro_rules | `(tactic| walk_at "no such key") => `(tactic| fail)
local macro_rules | `(tactic| walk_at "no such key") => `(tactic| fail)
local macro_rules | `(tactic| walk_at "no such key") => `(tactic| fail)
local macro_rules | `(tactic| walk_at "eval Name") => `(tactic| (refine nm_biF (by assumption) (GL.G (by assumption)) (by decide) (by boot_by_name) ?_))
local macro_rules | `(tactic| walk_at "eval Name") => `(tactic| (refine nm_globF (by assumption) (GL.G (by assumption)) (by assumption) ?_))
noncomputable def forSt (k : Nat) : List Stmt := match ((nthDef k).body.drop 1).head? with
  | some (.For _ _ b _ _) => b
  | _ => []
theorem mul_one {w : World} {A : Around} {E : Value → Shared → Prop} {s : Shared} {h₀ : Heap} {L l : Addr} {m : Str → Option Value} {news : List (Addr × Obj)} {v : Value} {x : Int} {u : Tok} {Q : Value → Shared → Prop} (F : Fr h₀ L s.heap m) (N : News h₀ L s.heap news) (hl : s.heap.IsList l #[v]) (h0 : 0 ≤ x) (hx : x ≤ 100)
    (h : ∀ D h', Fr h₀ L h' m → News h₀ L h' ((D, listOf (List.replicate x.toNat v).toArray 0) :: news) → Q (.ref D) { s with heap := h' }) : wpAny (model prog w) A (binaryOp .Mult (.ref l) (.int x u)) Q E s :=
  KMa.mul (vs := [v]) F N hl (by omega) (by omega) (by simp only [List.length_singleton]; omega) (ws := List.replicate x.toNat v) (by rw [List.flatten_replicate_singleton]) fun D h' F' N' _ => h D h' F' N'
theorem st_cell {w : World} {A : Around} {E : Value → Shared → Prop} {s : Shared} {h₀ : Heap} {L c : Addr} {m : Str → Option Value} {news : List (Addr × Obj)} {v : Value} {v₀ : Option Value} {oc : Obj} {x : Str} {env : Env} {Q : Unit → Shared → Prop} (F : Fr h₀ L s.heap m) (N : News h₀ L s.heap news) (hm : (c, oc) ∈ news) (hoc : oc.data = .cell v₀)
    (hc : env.cells.lookup x = some c) (hk : env.scope.kind = .function) (hx : env.kindOf x = some .cell)
    (h : ∀ h' oc', oc'.data = .cell (some v) → Fr h₀ L h' m → h'.get? c = some oc' → (∀ p ∈ news, p.1 ≠ c → h'.get? p.1 = some p.2) → Q () { s with heap := h' }) : wpAny (model prog w) A (storeName env x v) Q E s := by
  have hmem := N _ hm
  refine wpAny_storeName_cell hk hx hc ⟨oc, hmem.1, hoc⟩ fun h' hv hs => ?_
  obtain ⟨o', ho', hd'⟩ := hv
  refine h h' o' hd' ⟨F.ns.sameBut hs (Ne.symm hmem.2.1), fun b ob e => (hs.2 b (fun q => ?_)).trans (F.keep b ob e), F.above⟩ ho' fun p hp hne => (hs.2 _ hne).trans (N p hp).1
  rw [q, hmem.2.2] at e; cases e
local macro_rules | `(tactic| walk_at "binaryOp Mult ref int") => `(tactic| (refine mul_one (by assumption) (by assumption) (News.isList (by assumption) (by news_mem)) (by assumption) (by assumption) ?_; intro _ _ _ _))
local macro_rules | `(tactic| walk_at "binaryOp Add ref ref") => `(tactic| (refine add_arrays (by assumption) (by assumption) (News.isList (by assumption) (by news_mem)) (News.isList (by assumption) (by news_mem)) ?_ (by (simp only [List.size_toArray, List.length_append, Array.length_toList, List.length_replicate, List.length_cons, List.length_nil, sizeLine, List.toList_toArray] ; omega)); intro _ _ _))
local macro_rules | `(tactic| walk_at "binaryOp Add str str") => `(tactic| (refine PyProof.Rows.add_str ?_ (by assumption); intro _ _))
noncomputable def toldStep (st : List Str × Nat) (c : Nat) : List Str × Nat := if c = 92 then (st.1, st.2 + 1) else
  (st.1 ++ List.replicate ((st.2 : Int).fdiv 2).toNat (Str.ofString "\\\\") ++ [Txt.mul (Str.ofString "\\") ((st.2 : Int).fmod 2) ++ ch c], 0)
theorem strs_rep (a : Str) (t : Tok) : ∀ n, StrsAre (List.replicate n (.str a t)) (List.replicate n a)
  | 0 => .nil
  | n + 1 => .cons _ _ (strs_rep a t n)
theorem strs_app {a b : List Value} {x y : List Str} (h : StrsAre a x) (k : StrsAre b y) : StrsAre (a ++ b) (x ++ y) := by
  induction h with
  | nil => exact k
  | cons n t _ ih => exact .cons n t ih
theorem frCongr {h₀ h : Heap} {L : Addr} {m m' : Str → Option Value} (F : Fr h₀ L h m) (e : m = m') : Fr h₀ L h m' := e ▸ F
theorem ne_cell {h₀ h : Heap} {L a c : Addr} {o oc : Obj} {news : List (Addr × Obj)} {v : Option Value} (N : News h₀ L h news) (ha : (a, o) ∈ news) (hc : (c, oc) ∈ news) (hoc : oc.data = .cell v) (hn : ∀ v, o.data ≠ .cell v) : a ≠ c := fun e => by
  have x := (N _ ha).1
  have y := (N _ hc).1
  dsimp only at x y
  rw [e, y] at x
  cases x
  exact hn _ hoc
theorem news3 {h₀ h : Heap} {L : Addr} {a b : Addr × Obj} {own : List (Addr × Obj)} (x : h.get? a.1 = some a.2 ∧ a.1 ≠ L ∧ h₀.get? a.1 = none) (y : h.get? b.1 = some b.2 ∧ b.1 ≠ L ∧ h₀.get? b.1 = none) (z : ∀ p ∈ own, h.get? p.1 = some p.2 ∧ p.1 ≠ L ∧ h₀.get? p.1 = none) : News h₀ L h (a :: b :: own) := fun p hp => by
  rcases List.mem_cons.mp hp with rfl | hp
  · exact x
  · rcases List.mem_cons.mp hp with rfl | hp
    · exact y
    · exact z p hp
theorem told_m {v w x sg : Option Value} : (fun (y : Str) => if y = ("slashes" : Str) then v else if y = ("sign" : Str) then sg else if y = ("slashes" : Str) then w else if y = ("text" : Str) then x else none) =
    fun (y : Str) => if y = ("sign" : Str) then sg else if y = ("slashes" : Str) then v else if y = ("text" : Str) then x else none := by
  funext y
  by_cases h1 : y = ("slashes" : Str)
  · subst h1; rfl
  · by_cases h2 : y = ("sign" : Str)
    · subst h2; rfl
    · simp only [h1, h2, if_false]
theorem told_body {w : World} {d u : Nat} {E : Value → Shared → Prop} {s : Shared} {f c' : Addr} {c : Nat} {t tx tk : Tok} {mg mb : Str → Option Value} {Q : Flow → Shared → Prop} {h₀ : Heap} {L U : Addr} {oc : Obj} {own : List (Addr × Obj)} {items : Array Value} {us : List Str} {k : Nat} {x : Str} (G : GL w mg mb h₀)
    (F : Fr h₀ L s.heap fun (y : Str) => if y = ("sign" : Str) then some (Value.str (ch c) t) else if y = ("slashes" : Str) then some (Value.int k tk) else if y = ("text" : Str) then some (Value.str x tx) else none)
    (N : News h₀ L s.heap ((L + 1, oc) :: (U, { cls := .type "list", data := .seq items }) :: own)) (hoc : oc.data = .cell (some (.ref U))) (hI : ∀ p ∈ own, p.1 ≠ L + 1) (hU : U ≠ L + 1) (hUo : ∀ p ∈ own, p.1 ≠ U) (hs : StrsAre items.toList us)
    (hroom : d < 800) (hk : k ≤ 40) (hi : items.size ≤ 40)
    (h : ∀ h' tk' U' oc' items' m', Fr h₀ L h' m' → (∃ t', m' = (fun (y : Str) => if y = ("sign" : Str) then some (Value.str (ch c) t) else if y = ("slashes" : Str) then some (Value.int (toldStep (us, k) c).2 t') else if y = ("text" : Str) then some (Value.str x tx) else none)) →
      News h₀ L h' ((L + 1, oc') :: (U', { cls := .type "list", data := .seq items' }) :: own) → oc'.data = .cell (some (.ref U')) → U' ≠ L + 1 → (∀ p ∈ own, p.1 ≠ U') → StrsAre items'.toList (toldStep (us, k) c).1 → Q .next { s with heap := h', toks := tk' }) :
    wpAny (model prog w) (AA d u) (execs (forSt 10) (envOfC (nthDef 10).name (nthDef 10).scope L f (.ref c'))) Q E s := by
  have k1 : 0 ≤ (k : Int).fdiv 2 := by rw [Int.fdiv_eq_ediv_of_nonneg _ (by decide)]; omega
  have k2 : (k : Int).fdiv 2 ≤ 100 := by rw [Int.fdiv_eq_ediv_of_nonneg _ (by decide)]; omega
  have k3 : 0 ≤ (k : Int).fmod 2 ∧ (k : Int).fmod 2 ≤ 1 := by rw [Int.fmod_eq_emod_of_nonneg _ (by decide)]; omega
  have k4 : (Txt.mul (Str.ofString "\\") ((k : Int).fmod 2)).length + (ch c).length ≤ sizeLine := by
    have : (k : Int).fmod 2 = 0 ∨ (k : Int).fmod 2 = 1 := by omega
    rcases this with e | e <;> rw [e]
    · exact (by decide +kernel : (Txt.mul (Str.ofString "\\") 0).length + 1 ≤ sizeLine)
    · exact (by decide +kernel : (Txt.mul (Str.ofString "\\") 1).length + 1 ≤ sizeLine)
  refine wpAny_execs_cons ?_
  w_on
  repeat' (first | walk1 | (dsimp only; walk1))
  · rename_i hc h1 F1 N1 _ _
    have hc' : c = 92 := by
      have : ch c = ch 92 := (beq_iff_eq.mp hc).trans (by decide +kernel)
      injection this with e
      simpa using e
    have hst : toldStep (us, k) c = (us, k + 1) := by unfold toldStep; rw [if_pos hc']
    rw [hst] at h
    exact h h1 _ U oc items _ F1 ⟨_, told_m⟩ N1 hoc hU hUo hs
  · rename_i hy Fy Ny hz Fz Nz
    rename ((ch c == Str.ofString "\\") = false) => hc
    have hc' : c ≠ 92 := fun e => by subst e; exact absurd hc (by decide +kernel)
    have hst : toldStep (us, k) c = (us ++ List.replicate ((k : Int).fdiv 2).toNat (Str.ofString "\\\\") ++ [Txt.mul (Str.ofString "\\") ((k : Int).fmod 2) ++ ch c], 0) := by unfold toldStep; rw [if_neg hc']
    rw [hst] at h
    have hU2 := ne_cell (c := L + 1) (oc := oc) Nz (List.mem_cons_self ..) (by (repeat (first | exact List.mem_cons_self .. | apply List.mem_cons_of_mem))) hoc (fun v e => by cases e)
    refine st_cell (c := L + 1) (oc := oc) Fz Nz (by (repeat (first | exact List.mem_cons_self .. | apply List.mem_cons_of_mem))) hoc rfl rfl rfl fun h2 oc2 hoc2 F2 hc2 hk2 => ?_
    have N2 : News h₀ L h2 ((L + 1, oc2) :: (_, _) :: own) := news3 (b := (_, _)) ⟨hc2, (Nz (L + 1, oc) (by (repeat (first | exact List.mem_cons_self .. | apply List.mem_cons_of_mem)))).2⟩ ⟨hk2 _ (List.mem_cons_self ..) hU2, (Nz _ (List.mem_cons_self ..)).2⟩ (fun p hp => ⟨hk2 p (by (repeat (first | exact List.mem_cons_self .. | apply List.mem_cons_of_mem)); exact hp) (hI p hp), (Nz p (by (repeat (first | exact List.mem_cons_self .. | apply List.mem_cons_of_mem)); exact hp)).2⟩)
    have hUo2 : ∀ p ∈ own, p.1 ≠ hy.objs.size := fun p hp => Nat.ne_of_lt (Heap.lt_size (Ny p (by (repeat (first | exact List.mem_cons_self .. | apply List.mem_cons_of_mem)); exact hp)).1)
    clear hk2 Nz Fz Ny Fy
    dsimp only
    repeat' (first | walk1 | (dsimp only; walk1))
    rename_i h3 F3 N3 _ _
    refine h h3 _ _ oc2 _ _ F3 ⟨_, told_m⟩ N3 hoc2 hU2 hUo2 ?_
    · simp only [List.toList_toArray]
      exact strs_app (strs_app hs (strs_rep _ _ _)) (.cons _ _ .nil)
end Mine
end
section
open PySem PySem.W PyProof.Rows PySem.Calls
set_option maxRecDepth 100000
set_option maxHeartbeats 4000000
set_option linter.unusedVariables false
namespace Mine
theorem news_sub {h₀ h : Heap} {L : Addr} {a b : List (Addr × Obj)} (N : News h₀ L h a) (hs : ∀ p ∈ b, p ∈ a) : News h₀ L h b := fun p hp => N p (hs p hp)
noncomputable def toldSt (l : List Nat) : List Str × Nat := l.foldl toldStep ([], 0)
theorem fdiv2 (k : Nat) : ((k : Int).fdiv 2).toNat = k / 2 := by
  rw [Int.fdiv_eq_ediv_of_nonneg _ (by decide)]; omega
theorem told_len (l : List Nat) : ∀ st : List Str × Nat, (l.foldl toldStep st).1.length + (l.foldl toldStep st).2 ≤ st.1.length + st.2 + l.length := by
  induction l with
  | nil => intro st; simp
  | cons c l ih =>
    intro st
    rw [List.foldl_cons]
    refine Nat.le_trans (ih _) ?_
    unfold toldStep
    split
    · simp only [List.length_cons]; omega
    · simp only [List.length_append, List.length_replicate, List.length_cons, List.length_nil, fdiv2]; omega
noncomputable abbrev toldM (x : Str) (tx : Tok) (sg : Option Value) (k : Nat) (tk : Tok) : Str → Option Value :=
  fun (y : Str) => if y = ("sign" : Str) then sg else if y = ("slashes" : Str) then some (Value.int k tk) else if y = ("text" : Str) then some (Value.str x tx) else none
noncomputable def ToldJ (L : Addr) (x : Str) (tx : Tok) (i : Nat) (m : Str → Option Value) (news : List (Addr × Obj)) : Prop :=
  ∃ sg k tk oc U items us, m = toldM x tx sg k tk ∧ news = [(L + 1, oc), (U, { cls := .type "list", data := .seq items })] ∧ oc.data = .cell (some (.ref U)) ∧ U ≠ L + 1 ∧ StrsAre items.toList us ∧ (us, k) = toldSt (x.cps.toList.take i)
theorem take_next {x : Str} {i c : Nat} (h : x.cps[i]? = some c) : x.cps.toList.take (i + 1) = x.cps.toList.take i ++ [c] := by
  have : x.cps.toList[i]? = some c := by simpa using h
  rw [List.take_add_one, this]; rfl
theorem told_loop {w : World} {d u : Nat} {s : Shared} {f c' : Addr} {tx : Tok} {mg mb : Str → Option Value} {R : Result → Shared → Prop} {h₀ : Heap} {L I : Addr} {x : Str} {px : Pos} {m : Str → Option Value} {news : List (Addr × Obj)} {St : Nat → Heap → Prop}
    (G : GL w mg mb h₀) (hroom : d < 800) (hx : x.cps.size ≤ 40) (W : Walks prog w (AA d u) I [I] [I] x.cps.size (SignAt x) St) (hst : St 0 s.heap) (hIo : ∀ i h, St i h → ∃ o, h.get? I = some o) (hIL : I ≠ L) (hIc : I ≠ L + 1) (hI₀ : h₀.get? I = none)
    (F : Fr h₀ L s.heap m) (N : News h₀ L s.heap news) (hnw : ∀ p ∈ news, p.1 ≠ I) (hJ : ToldJ L x tx 0 m news)
    (hR : ∀ h' tk m' news', Fr h₀ L h' m' → News h₀ L h' news' → ToldJ L x tx x.cps.size m' news' → R (.ok .next) { s with heap := h', toks := tk }) :
    codeAny (model prog w) (AA d u) (.forLoop (.Name "sign" px) (.ref I) (forSt 10) [] (envOfC (nthDef 10).name (nthDef 10).scope L f (.ref c'))) R s := by
  refine codeAny_forLoop_anyU (env := envOfC (nthDef 10).name (nthDef 10).scope L f (.ref c')) W (fun h => hIL (List.mem_singleton.mp h).symm) (fun b hb => (List.mem_singleton.mp hb) ▸ hI₀) (fun p hp h => hnw p hp (List.mem_singleton.mp h)) hst F N
    (fun i s' v Q' _ hQ => wpAny_of_eq (show letOwnedTupleGo (.Name "sign" px) (.ref I) v = pure () from rfl) hQ) (ToldJ L x tx) hJ ?_ (fun h' tk m' news' F' N' _ hJ' => hR h' tk m' news' F' N' hJ')
  rintro i v m₁ news₁ s₁ own hi ⟨c, t, hc, rfl⟩ ⟨sg, k, tk, oc, U, items, us, rfl, rfl, hoc, hU, hs, hst⟩ hnw₁ hown hownget hownall hst₁ F₁ N₁
  have hlen := told_len (x.cps.toList.take i) ([], 0)
  rw [show (x.cps.toList.take i).foldl toldStep ([], 0) = (us, k) from hst.symm] at hlen
  simp only [List.length_nil, List.length_take, Nat.zero_add] at hlen
  have hul := hs.length
  rw [Array.length_toList] at hul
  refine wpAny_assign_Name (wpAny_storeName_local (env := envOfC (nthDef 10).name (nthDef 10).scope L f (.ref c')) rfl F₁.ns (fun h₂ hn₂ hs₂ => ?_) rfl)
  have F₂ := F₁.set hn₂ hs₂
  have N₂ := N₁.set hs₂
  refine told_body (own := own) (c := c) (t := t) (tx := tx) (tk := tk) (k := k) (x := x) (us := us) (items := items) (U := U) (oc := oc) G (frCongr F₂ ?_) (news_sub N₂ ?_) hoc ?_ hU ?_ hs hroom (by omega) (by omega) ?_
  · funext y
    by_cases h1 : y = ("sign" : Str)
    · subst h1; rfl
    · simp only [toldM, h1, if_false]
  · intro p hp
    rcases List.mem_cons.mp hp with rfl | hp
    · exact List.mem_append_right _ (List.mem_cons_self ..)
    · rcases List.mem_cons.mp hp with rfl | hp
      · exact List.mem_append_right _ (List.mem_cons_of_mem _ (List.mem_cons_self ..))
      · exact List.mem_append_left _ hp
  · intro p hp
    rw [List.mem_singleton.mp (hown p hp)]; exact hIc
  · intro p hp e
    exact hnw₁ (U, _) (List.mem_cons_of_mem _ (List.mem_cons_self ..)) (e ▸ hown p hp)
  · intro h' tk' U' oc' items' m' F' hm' N' hoc' hU' hUo' hs'
    obtain ⟨t', rfl⟩ := hm'
    have hUI : U' ≠ I := fun e => by
      obtain ⟨o, ho⟩ := hIo _ _ hst₁
      exact hUo' _ (hownall I (List.mem_singleton.mpr rfl) hI₀ o ho) e.symm
    refine ⟨rfl, h', tk', _, [(L + 1, oc'), (U', { cls := .type "list", data := .seq items' })], rfl, F', news_sub N' ?_, ?_, ⟨_, _, t', oc', U', items', _, rfl, rfl, hoc', hU', hs', ?_⟩⟩
    · intro p hp
      rcases List.mem_append.mp hp with hp | hp
      · exact List.mem_cons_of_mem _ (List.mem_cons_of_mem _ hp)
      · simp only [List.mem_cons, List.not_mem_nil, or_false] at hp
        rcases hp with rfl | rfl
        · exact List.mem_cons_self ..
        · exact List.mem_cons_of_mem _ (List.mem_cons_self ..)
    · intro p hp h
      simp only [List.mem_cons, List.not_mem_nil, or_false] at hp
      have h := List.mem_singleton.mp h
      rcases hp with rfl | rfl
      · exact hIc h.symm
      · exact hUI h
    · rw [take_next hc, toldSt, List.foldl_append, show (x.cps.toList.take i).foldl toldStep ([], 0) = (us, k) from hst.symm]
      rfl
end Mine
end
section
open PySem PySem.W PyProof.Rows PySem.Calls
set_option maxRecDepth 100000
set_option maxHeartbeats 4000000
set_option linter.unusedVariables false
namespace Mine
noncomputable def retE (k : Nat) : Expr := match (nthDef k).body.getLast? with
  | some (.Return (some e) _) => e
  | _ => .Constant .none 0 default
noncomputable def cElt : Expr → Expr
  | .ListComp e _ _ _ => e
  | e => e
noncomputable def cIter : Expr → Expr
  | .ListComp _ (g :: _) _ _ => g.iter
  | e => e
noncomputable def cIfs : Expr → List Expr
  | .ListComp _ (g :: _) _ _ => g.ifs
  | _ => []
noncomputable def cScope : Expr → Scope
  | .ListComp _ _ s _ => s
  | _ => (nthDef 0).scope
theorem nm_cell {w : World} {A : Around} {E : Value → Shared → Prop} {s : Shared} {env : Env} {pos : Pos} {Q : Value → Shared → Prop} {h₀ : Heap} {L c : Addr} {m : Str → Option Value} {x : Str} {v : Value} (F : Fr h₀ L s.heap m) (hc : h₀.IsCell c (some v)) (h : Q v s)
    (hl : env.cells.lookup x = some c := by rfl) (hk : env.scope.kind = .function := by rfl) (hx : env.kindOf x = some .cell := by rfl) (hd : (x == ("__debug__" : Str)) = false := by decide) : wpAny (model prog w) A (eval (.Name x pos) env) Q E s :=
  wpAny_Name (wpAny_loadName_cell hk hx hl (hc.keeps F.keep) h) hd
theorem nm_loc {w : World} {A : Around} {E : Value → Shared → Prop} {s : Shared} {env : Env} {pos : Pos} {Q : Value → Shared → Prop} {h₀ : Heap} {m : Str → Option Value} {x : Str} {v : Value} (F : Fr h₀ env.locals s.heap m) (hv : m x = some v) (h : Q v s)
    (hk : env.scope.kind = .function := by rfl) (hx : env.kindOf x = some .local := by rfl) (hd : (x == ("__debug__" : Str)) = false := by decide) : wpAny (model prog w) A (eval (.Name x pos) env) Q E s :=
  wpAny_Name (wpAny_loadName_local hk hx F.ns hv h) hd
local macro_rules | `(tactic| walk_at "eval Name") => `(tactic| (refine nm_biF (by assumption) (GL.G (by assumption)) (by decide) (by boot_by_name) ?_))
local macro_rules | `(tactic| walk_at "eval Name") => `(tactic| (refine nm_globF (by assumption) (GL.G (by assumption)) (by assumption) ?_))
local macro_rules | `(tactic| walk_at "eval Name") => `(tactic| (refine nm_cell (by assumption) (by assumption) ?_))
local macro_rules | `(tactic| walk_at "eval Name") => `(tactic| (refine nm_loc (by assumption) (by assumption) ?_))
local macro_rules | `(tactic| walk_at "subscriptTail Name Name ref int") => `(tactic| (refine item_at (listKeep (by assumption) (Fr.keep (by assumption))) rfl (by omega) (by assumption) ?_))
theorem listKeep {h h' : Heap} {l : Addr} {vs : Array Value} (x : h.IsList l vs) (hk : ∀ b o, h.get? b = some o → h'.get? b = some o) : h'.IsList l vs := x.at fun o e => hk _ o e
theorem sum_take (us : List Str) (n : Nat) : ((us.take n).map (·.length)).sum ≤ (us.map (·.length)).sum := by
  induction us generalizing n with
  | nil => simp
  | cons a us ih =>
    cases n with
    | zero => simp
    | succ n => simp only [List.take_succ_cons, List.map_cons, List.sum_cons]; have := ih n; omega
/-- texts put together -/
noncomputable def catS (l : List Str) : Str := ⟨(l.flatMap (·.cps.toList)).toArray⟩
theorem join_cat (l : List Str) : Txt.join (Str.ofString "") l = catS l := by
  unfold Txt.join
  rw [StrLaws.glued_eq_join, show Str.ofString "" = ⟨#[]⟩ from by decide +kernel]
  induction l with
  | nil => rfl
  | cons a l ih =>
    rw [PyProof.Rows.join_nil_cons, ih]
    show Str.append a (catS l) = catS (a :: l)
    cases a
    simp [Str.append, catS]
theorem catS_length (l : List Str) : (catS l).length = (l.map (·.length)).sum := by
  unfold catS Str.length
  induction l with
  | nil => rfl
  | cons a l ih => simp only [List.size_toArray] at ih; simp [ih]
theorem join_own {w : World} {A : Around} {E : Value → Shared → Prop} {s : Shared} {t : Tok} {Q : Value → Shared → Prop} {D : Addr} {items : Array Value} {ys : List Str} (hl : s.heap.IsList D items) (hi : StrsAre items.toList ys) (hok : (ys.map (·.length)).sum ≤ 10000)
    (h : ∀ t' k, Q (.str (catS ys) t') { s with toks := k }) : wpAny (model prog w) A (call (.builtin "str.join") [.str (Str.ofString "") t, .ref D]) Q E s := by
  refine join_list hl hi (by show _ + _ * 0 ≤ _; omega) fun t' k => ?_
  rw [join_cat]; exact h t' k
local macro_rules | `(tactic| walk_at "call builtin:len") => `(tactic| (refine PyProof.Rows.len_str (by assumption) ?_))
/-- a pair that was made: its place in the text and its sign -/
noncomputable def PairIs (e : Int × Str) (y : Value) (ts : List (Addr × Obj)) : Prop :=
  ∃ T o n t1 t2, ts = [(T, o)] ∧ y = .ref T ∧ o.cls = .type "tuple" ∧ o.data = .seq #[.int e.1 t1, .str e.2 t2] n
noncomputable def toldPair (us : List Str) (k : Nat) : Int × Str := (((catS (us.take (k + 1))).length : Int) - 1, us.getD k ⟨#[]⟩)
theorem fresh_top {C : Addr} {m : Str → Option Value} {s : Shared} {h1 : Heap} {tk : Nat} (K : KeepsC C m s { s with heap := h1, toks := tk }) : s.heap.get? h1.objs.size = none := by
  obtain ⟨h', tk', e, hk, hn⟩ := K
  cases e
  cases q : s.heap.get? h1.objs.size with
  | none => rfl
  | some o =>
    by_cases hC : h1.objs.size = C
    · exact absurd hn.lt (by rw [hC]; exact Nat.lt_irrefl _)
    · exact absurd (Heap.lt_size (hk _ _ hC q)) (Nat.lt_irrefl _)
theorem pair_done {h₀ h2 : Heap} {C T : Addr} {m : Str → Option Value} {s : Shared} {tk n : Nat} {a : Int} {b : Str} {t1 t2 : Tok} {e : Int × Str} {rest : List (Addr × Obj)} (F : Fr h₀ C s.heap m) (F2 : Fr h₀ C h2 m) (N2 : News h₀ C h2 ((T, { cls := .type "tuple", data := .seq #[.int a t1, .str b t2] n }) :: rest)) (hs : ∀ p ∈ allOwn h₀ C s.heap, p ∈ rest)
    (hf : s.heap.get? T = none) (he : e = (a, b)) : (∃ ts, PairIs e (.ref T) ts ∧ ∀ p ∈ ts, s.heap.get? p.1 = none ∧ ({ s with heap := h2, toks := tk } : Shared).heap.get? p.1 = some p.2) ∧ KeepsC C m s { s with heap := h2, toks := tk } := by
  subst he
  refine ⟨⟨[(T, { cls := .type "tuple", data := .seq #[.int a t1, .str b t2] n })], ⟨T, { cls := .type "tuple", data := .seq #[.int a t1, .str b t2] n }, n, t1, t2, rfl, rfl, rfl, rfl⟩, ?_⟩, keepsC_of F F2 N2 fun p hp => List.mem_cons_of_mem _ (hs p hp)⟩
  intro p hp
  rw [List.mem_singleton.mp hp]
  exact ⟨hf, (N2 _ (List.mem_cons_self ..)).1⟩
theorem wpAny_post {α : Type} {M : Model} {A : Around} {t : Sem α} {P : α → Shared → Prop} {E : Value → Shared → Prop} {s : Shared} (h : ∀ Q : α → Shared → Prop, (∀ a u, P a u → Q a u) → wpAny M A t Q E s) : wpAny M A t P E s := h _ fun _ _ x => x
theorem told_elt {w : World} {d u : Nat} {E : Value → Shared → Prop} {s : Shared} {f c' : Addr} {mg mb : Str → Option Value} {h₀ : Heap} {L C U : Addr} {m : Str → Option Value} {items : Array Value} {us : List Str} {k : Nat} {t : Tok} (G : GL w mg mb h₀) (F : Fr h₀ C s.heap m)
    (hm : m "k" = some (.int k t)) (hc : h₀.IsCell (L + 1) (some (.ref U))) (hU : h₀.IsList U items) (hs : StrsAre items.toList us) (hk : k < us.length) (hlen : us.length ≤ 100) (hsum : (us.map (·.length)).sum ≤ 10000) :
    wpAny (model prog w) (AA d u) (eval (cElt (retE 10)) (compEnvC (cScope (retE 10)) [("units", L + 1)] C (envOfC (nthDef 10).name (nthDef 10).scope L f (.ref c'))))
      (fun y u₁ => (∃ ts, PairIs (toldPair us k) y ts ∧ ∀ p ∈ ts, s.heap.get? p.1 = none ∧ u₁.heap.get? p.1 = some p.2) ∧ KeepsC C m s u₁) E s := by
  have NN : News h₀ C s.heap (allOwn h₀ C s.heap) := allOwn_news
  refine wpAny_post fun Q hQ => ?_
  conv in (eval _ _) => arg 1; whnf
  w_on
  repeat' (first | walk1 | (dsimp only; walk1))
  rename_i h1 F1 N1
  have e : slicePick items none (some ((k : Int) + 1)) none = (items.toList.take (k + 1)).toArray := slicePick_upto' items (k + 1)
  have hst := sum_take us (k + 1)
  refine join_own (News.isList N1 (List.mem_cons_self ..)) (ys := us.take (k + 1)) (by rw [e]; exact hs.take' _) (by omega) fun t' kk => ?_
  have hcat : ¬ ((catS (us.take (k + 1))).length : Int) ≥ 2 ^ 63 := by rw [catS_length]; omega
  obtain ⟨y, hy⟩ : ∃ y, us[k]? = some y := ⟨us[k], by simp [hk]⟩
  obtain ⟨ty, hty⟩ := hs.at hy
  have hty' : items[k]? = some (.str y ty) := by rw [← Array.getElem?_toList]; exact hty
  clear e
  repeat' (first | walk1 | (dsimp only; walk1))
  rename_i h2 F2 N2
  have K1 : KeepsC C m s { s with heap := h1, toks := kk } := keepsC_of F F1 N1 fun p hp => List.mem_cons_of_mem _ hp
  have hy' : us.getD k ⟨#[]⟩ = y := by rw [List.getD_eq_getElem?_getD, hy]; rfl
  exact hQ _ _ (pair_done F F2 N2 (fun p hp => List.mem_cons_of_mem _ hp) (fresh_top K1) (by unfold toldPair; rfl))
end Mine
end
section
open PySem PySem.W PyProof.Rows PySem.Calls
set_option maxRecDepth 100000
set_option maxHeartbeats 4000000
set_option linter.unusedVariables false
namespace Mine
local macro_rules | `(tactic| walk_at "no such key") => `(tactic| fail)
local macro_rules | `(tactic| walk_at "no such key") => `(tactic| fail)
local macro_rules | `(tactic| walk_at "no such key") => `(tactic| fail)
local macro_rules | `(tactic| walk_at "no such key") => `(tactic| fail)
local macro_rules | `(tactic| walk_at "no such key") => `(tactic| fail)
local macro_rules | `(tactic| walk_at "no such key") => `(tactic| fail)
local macro_rules | `(tactic| walk_at "no such key") => `(tactic| fail)
local macro_rules | `(tactic| walk_at "no such key") => `(tactic| fail)
local macro_rules | `(tactic| walk_at "no such key") => `(tactic| fail)
local macro_rules | `(tactic| walk_at "no such key") => `(tactic| fail)
local macro_rules | `(tactic| walk_at "no such key") => `(tactic| fail)
local macro_rules | `(tactic| walk_at "no such key") => `(tactic| fail)
local macro_rules | `(tactic| walk_at "no such key") => `(tactic| fail)
local macro_rules | `(tactic| walk_at "no such key") => `(tactic| fail)
local macro_rules | `(tactic| walk_at "eval Name") => `(tactic| (refine nm_biF (by assumption) (GL.G (by assumption)) (by decide) (by boot_by_name) ?_))
local macro_rules | `(tactic| walk_at "eval Name") => `(tactic| (refine nm_globF (by assumption) (GL.G (by assumption)) (by assumption) ?_))
theorem nm_cellH {w : World} {A : Around} {E : Value → Shared → Prop} {s : Shared} {env : Env} {pos : Pos} {Q : Value → Shared → Prop} {c : Addr} {x : Str} {v : Value} (hc : s.heap.IsCell c (some v)) (h : Q v s)
    (hl : env.cells.lookup x = some c := by rfl) (hk : env.scope.kind = .function := by rfl) (hx : env.kindOf x = some .cell := by rfl) (hd : (x == ("__debug__" : Str)) = false := by decide) : wpAny (model prog w) A (eval (.Name x pos) env) Q E s :=
  wpAny_Name (wpAny_loadName_cell hk hx hl hc h) hd
local macro_rules | `(tactic| walk_at "eval Name") => `(tactic| (refine nm_cellH (by assumption) ?_))
theorem told_comp {w : World} {d u : Nat} {E : Value → Shared → Prop} {s : Shared} {f c' : Addr} {mg mb : Str → Option Value} {Q : Value → Shared → Prop} {h₀ : Heap} {L U : Addr} {m : Str → Option Value} {items : Array Value} {us : List Str}
    (G : GL w mg mb h₀) (F : Fr h₀ L s.heap m) (hc : s.heap.IsCell (L + 1) (some (.ref U))) (hU : s.heap.IsList U items) (hs : StrsAre items.toList us) (hlen : us.length ≤ 100) (hsum : (us.map (·.length)).sum ≤ 10000)
    (h : ∀ D h' tk ys tss, s.heap.objs.size ≤ D → h'.PlainList D ys → Made' s.heap D (fun i y ts => PairIs (toldPair us i) y ts) (fun _ => true) us.length ys.toList tss h' → (∀ b o, s.heap.get? b = some o → h'.get? b = some o) → Q (.ref D) { s with heap := h', toks := tk }) :
    wpAny (model prog w) (AA d u) (eval (retE 10) (envOfC (nthDef 10).name (nthDef 10).scope L f (.ref c'))) Q E s := by
  refine comp_own (elt := cElt (retE 10)) (iter := cIter (retE 10)) (ifs := []) (scope := cScope (retE 10)) (n := us.length) (cl := [("units", L + 1)]) (fun i v => ∃ t, v = .int i t) (fun i m => ∃ v, (∃ t, v = .int i t) ∧ m "k" = some v) (fun _ => true) (fun i y ts => PairIs (toldPair us i) y ts)
    rfl (by decide +kernel) rfl (by decide +kernel) (by simp only [sizeLine]; omega) ?_ h
  have NN : News h₀ L s.heap [] := News.nil
  have hul : items.size = us.length := by have := hs.length; rwa [Array.length_toList] at this
  have T : ∀ (px : Pos) I St, Turns w (AA d u) s.heap I us.length (fun i v => ∃ t, v = .int i t) St (.Name "k" px) [] (cElt (retE 10)) (fun C => compEnvC (cScope (retE 10)) [("units", L + 1)] C (envOfC (nthDef 10).name (nthDef 10).scope L f (.ref c'))) (fun i m => ∃ v, (∃ t, v = .int i t) ∧ m "k" = some v) (fun _ => true) (fun i y ts => PairIs (toldPair us i) y ts) := fun px I St =>
    ⟨asg_name (x := "k") (by decide +kernel) rfl, fun C i u m₂ E' hi hB F' => wpAny_pure ⟨rfl, ⟨_, _, rfl, fun _ _ _ e => e, F'.ns⟩⟩, fun C i u m₂ E' hi ⟨v, ⟨t, hv⟩, hm⟩ _ F' => told_elt (G.keeps F.keep) F' (hv ▸ hm) hc hU hs hi hlen hsum⟩
  conv in (eval _ _) => arg 1; whnf
  refine wpAny_post fun Q' hQ' => ?_
  w_on
  repeat' (first | walk1 | (dsimp only; walk1))
  rename_i h1 tk1 t1 u1 v1 hr F1 N1 hk1
  exact hQ' _ _ (iters_range rfl hr (by omega) hk1 (Nat.le_of_lt (Heap.lt_size hr)) fun I St => T _ I St)
local macro_rules | `(tactic| walk_at "binaryOp Mult ref int") => `(tactic| (refine mul_one (by assumption) (by assumption) (News.isList (by assumption) (by news_mem)) (by assumption) (by assumption) ?_; intro _ _ _ _))
local macro_rules | `(tactic| walk_at "binaryOp Add ref ref") => `(tactic| (refine add_arrays (by assumption) (by assumption) (News.isList (by assumption) (by news_mem)) (News.isList (by assumption) (by news_mem)) ?_ (by (simp only [List.size_toArray, List.length_append, Array.length_toList, List.length_replicate, List.length_cons, List.length_nil, sizeLine, List.toList_toArray] ; omega)); intro _ _ _))
noncomputable def restSt (k i : Nat) : List Stmt := (nthDef k).body.drop i
noncomputable def toldUnits (l : List Nat) : List Str := (toldSt l).1 ++ List.replicate (((toldSt l).2 : Int).fdiv 2).toNat (Str.ofString "\\\\") ++ List.replicate (((toldSt l).2 : Int).fmod 2).toNat (Str.ofString "\\")
/-- a list of pairs, made anew -/
noncomputable def Told (h₀ h' : Heap) (D : Addr) (us : List Str) : Prop := ∃ (ys : Array Value) (tss : List (Addr × Obj)), h'.PlainList D ys ∧ (∀ q ∈ tss, h'.get? q.1 = some q.2 ∧ q.1 ≠ D ∧ h₀.get? q.1 = none) ∧ h₀.get? D = none ∧
  Paired (fun i y => ∃ ts, PairIs (toldPair us i) y ts ∧ ∀ q ∈ ts, q ∈ tss) (List.range us.length) ys.toList ∧ ∀ b o, h₀.get? b = some o → h'.get? b = some o
theorem told_rest {w : World} {d u : Nat} {E : Value → Shared → Prop} {s : Shared} {f c' : Addr} {tx : Tok} {mg mb : Str → Option Value} {Q : Flow → Shared → Prop} {h₀ : Heap} {L : Addr} {x : Str} {m : Str → Option Value} {news : List (Addr × Obj)}
    (G : GL w mg mb h₀) (hroom : d < 800) (hx : x.cps.size ≤ 40) (hsum : ((toldUnits x.cps.toList).map (·.length)).sum ≤ 10000) (F : Fr h₀ L s.heap m) (N : News h₀ L s.heap news) (hJ : ToldJ L x tx x.cps.size m news)
    (h : ∀ D h' tk, Told h₀ h' D (toldUnits x.cps.toList) → Q (.ret (.ref D)) { s with heap := h', toks := tk }) :
    wpAny (model prog w) (AA d u) (execs (restSt 10 2) (envOfC (nthDef 10).name (nthDef 10).scope L f (.ref c'))) Q E s := by
  obtain ⟨sg, k, tk, oc, U, items, us, rfl, rfl, hoc, hU, hs, hst⟩ := hJ
  have hlen := told_len (x.cps.toList.take x.cps.size) ([], 0)
  rw [show (x.cps.toList.take x.cps.size).foldl toldStep ([], 0) = (us, k) from hst.symm] at hlen
  simp only [List.length_nil, List.length_take, Nat.zero_add] at hlen
  have hul := hs.length
  rw [Array.length_toList] at hul
  have hst' : toldSt x.cps.toList = (us, k) := by rw [hst]; congr 1; rw [List.take_of_length_le (by simp)]
  have hi : items.size ≤ 40 := by omega
  have hk : k ≤ 40 := by omega
  have k1 : 0 ≤ (k : Int).fdiv 2 := by rw [Int.fdiv_eq_ediv_of_nonneg _ (by decide)]; omega
  have k2 : (k : Int).fdiv 2 ≤ 100 := by rw [Int.fdiv_eq_ediv_of_nonneg _ (by decide)]; omega
  have k2' : ((k : Int).fdiv 2).toNat ≤ 20 := by rw [Int.fdiv_eq_ediv_of_nonneg _ (by decide)]; omega
  have k3 : 0 ≤ (k : Int).fmod 2 := by rw [Int.fmod_eq_emod_of_nonneg _ (by decide)]; omega
  have k4 : (k : Int).fmod 2 ≤ 100 := by rw [Int.fmod_eq_emod_of_nonneg _ (by decide)]; omega
  have k4' : ((k : Int).fmod 2).toNat ≤ 1 := by rw [Int.fmod_eq_emod_of_nonneg _ (by decide)]; omega
  refine wpAny_execs_cons ?_
  w_on
  repeat' (first | walk1 | (dsimp only; walk1))
  rename_i hz Fz Nz
  have hU2 := ne_cell (c := L + 1) (oc := oc) Nz (List.mem_cons_self ..) (by (repeat (first | exact List.mem_cons_self .. | apply List.mem_cons_of_mem))) hoc (fun v e => by cases e)
  refine st_cell (c := L + 1) (oc := oc) Fz Nz (by (repeat (first | exact List.mem_cons_self .. | apply List.mem_cons_of_mem))) hoc rfl rfl rfl fun h2 oc2 hoc2 F2 hc2 hk2 => ?_
  have hU2' := hk2 _ (List.mem_cons_self ..) hU2
  clear hk2 Nz Fz
  dsimp only
  refine wpAny_execs_cons (wpAny_Return_some ?_)
  refine told_comp (us := toldUnits x.cps.toList) G F2 ⟨oc2, hc2, hoc2⟩ ⟨_, hU2', rfl, _, rfl⟩ ?_ ?_ hsum ?_
  · unfold toldUnits
    rw [hst']
    exact strs_app (strs_app hs (strs_rep _ _ _)) (strs_rep _ _ _)
  · unfold toldUnits
    rw [hst']
    simp only [List.length_append, List.length_replicate]; omega
  · intro D h' tk' ys tss hD hl hM hk'
    refine h D h' tk' ⟨ys, tss, hl, fun q hq => ?_, ?_, ?_, fun b o e => hk' b o (F2.keep b o e)⟩
    · obtain ⟨a, b, c⟩ := hM.1 q hq
      refine ⟨a, b, ?_⟩
      cases e : h₀.get? q.1 with
      | none => rfl
      | some o => rw [F2.keep _ _ e] at c; cases c
    · cases e : h₀.get? D with
      | none => rfl
      | some o => exact absurd (Heap.lt_size (F2.keep _ _ e)) (Nat.not_lt.mpr hD)
    · have := hM.2
      rwa [List.filter_eq_self.mpr (fun _ _ => rfl)] at this
theorem pyIter_strL {w : World} {A : Around} {E : Value → Shared → Prop} {s : Shared} {x : Str} {t : Tok} {Q : Value → Shared → Prop}
    (hQ : ∀ (o : Obj) (St : Nat → Heap → Prop), o.isFreed = false → (∀ A' : Around, A'.handled = none → Walks prog w A' s.heap.objs.size [s.heap.objs.size] [s.heap.objs.size] x.cps.size (SignAt x) St) → St 0 (s.heap.push o) → (∀ i h, St i h → ∃ o, h.get? s.heap.objs.size = some o) →
      Q (.ref s.heap.objs.size) { s with heap := s.heap.push o }) : wpAny (model prog w) A (pyIter (.str x t)) Q E s := by
  cases ha : x.cps.all (· < 128)
  · exact wpAny_pyIter_wide ha (hQ _ _ rfl (fun A' hA => Walks.strWide hA _ x t) ⟨_, Heap.get?_push_size _ rfl, rfl, rfl⟩ fun i h ⟨o, e, _⟩ => ⟨o, e⟩)
  · exact wpAny_pyIter_ascii ha (hQ _ _ rfl (fun A' hA => Walks.strAscii hA _ x t) ⟨_, Heap.get?_push_size _ rfl, rfl, rfl⟩ fun i h ⟨o, e, _⟩ => ⟨o, e⟩)
theorem told_call {w : World} {d u : Nat} {E : Value → Shared → Prop} {s : Shared} {f : Addr} {x : Str} {t : Tok} {mg mb : Str → Option Value} {Q : Value → Shared → Prop} (G : GL w mg mb s.heap) (hf : IsFn s.heap f 10) (hroom : d < 700) (hx : x.cps.size ≤ 40) (hsum : ((toldUnits x.cps.toList).map (·.length)).sum ≤ 10000)
    (h : ∀ D h' tk, Told s.heap h' D (toldUnits x.cps.toList) → Q (.ref D) { s with heap := h', toks := tk }) :
    wpAny (model prog w) (AA d u) (call (.ref f) [.str x t]) Q E s := by
  refine callFnC (binds := [("text", .str x t)]) hf G.G.nolimit (by omega) (fun _ _ _ => rfl) (fun y hy => .inl (by rw [List.mem_singleton.mp hy]; exact (by decide +kernel : List.lookup (Str.ofString "text") (nthDef 10).scope.names = some NameKind.local))) (by decide +kernel) fun h₁ tk c' cells F NN hcells => ?_
  obtain ⟨oc, rfl, hoc⟩ := CellsAre.one (n := "units") (c := s.heap.objs.size + 1) hcells
  clear hcells
  have F1 : Fr s.heap s.heap.objs.size h₁ (fun (y : Str) => if y = ("text" : Str) then some (Value.str x t) else none) := F
  have hoc1 : oc.data = .cell none := hoc
  clear F hoc
  refine wpAny_execs_cons ?_
  w_on
  repeat' (first | walk1 | (dsimp only; walk1))
  rename_i oc2 _ _ hoc2 h2 F2 N2 _ _
  have N3 : News s.heap s.heap.objs.size h2 [(s.heap.objs.size + 1, oc2), (h₁.objs.size, { cls := .type "list", data := .seq #[] })] := news_sub N2 fun p hp => by
    simp only [List.mem_cons, List.not_mem_nil, or_false] at hp
    rcases hp with rfl | rfl
    · exact List.mem_append_right _ (List.mem_cons_self ..)
    · exact List.mem_append_left _ (List.mem_cons_of_mem _ (List.mem_cons_self ..))
  have hU : h₁.objs.size ≠ s.heap.objs.size + 1 := ne_cell (c := s.heap.objs.size + 1) (oc := oc2) N3 (List.mem_cons_of_mem _ (List.mem_cons_self ..)) (List.mem_cons_self ..) hoc2 (fun v e => by cases e)
  have F3 : Fr s.heap s.heap.objs.size h2 (toldM x t none 0 tk) := frCongr F2 (by
    funext y
    by_cases h1 : y = ("sign" : Str)
    · subst h1; rfl
    · simp only [toldM, h1, if_false]; rfl)
  clear N2 F2
  refine wpAny_For (nm_loc (env := envOfC (nthDef 10).name (nthDef 10).scope s.heap.objs.size f (.ref c')) F3 (v := .str x t) rfl (pyIter_strL fun o St ho W hst hIo => ?_))
  have hL : s.heap.objs.size < h2.objs.size := F3.ns.lt
  have hc : s.heap.objs.size + 1 < h2.objs.size := Heap.lt_size (N3 _ (List.mem_cons_self ..)).1
  refine told_loop (x := x) (tx := t) G (by omega) hx (W _ rfl) hst hIo (Nat.ne_of_gt hL) (Nat.ne_of_gt hc) ?_ (F3.keeps fun b o e => Heap.get?_push_of_some _ e) (N3.grown fun b o e => Heap.get?_push_of_some _ e) ?_ ⟨none, 0, tk, oc2, _, #[], [], rfl, rfl, hoc2, hU, .nil, rfl⟩ ?_
  · cases e : s.heap.get? h2.objs.size with
    | none => rfl
    | some o => exact absurd (Nat.lt_trans (Heap.lt_size e) hL) (Nat.lt_irrefl _)
  · intro p hp
    exact Nat.ne_of_lt (Heap.lt_size (N3 p hp).1)
  · intro h' tk' m' news' F' N' hJ
    exact told_rest G (by omega) hx hsum F' N' hJ fun D h'' tk'' hT => h D h'' tk'' hT
end Mine
end
section
open PySem PySem.W PyProof.Rows PySem.Calls
set_option maxRecDepth 100000
set_option maxHeartbeats 4000000
set_option linter.unusedVariables false
namespace Mine
local macro_rules | `(tactic| walk_at "eval Name") => `(tactic| (refine nm_biF (by assumption) (GL.G (by assumption)) (by decide) (by boot_by_name) ?_))
local macro_rules | `(tactic| walk_at "eval Name") => `(tactic| (refine nm_globF (by assumption) (GL.G (by assumption)) (by assumption) ?_))
theorem in_un {w : World} {A : Around} {E : Value → Shared → Prop} {s : Shared} {h₀ : Heap} {L V : Addr} {news : List (Addr × Obj)} {ov : Obj} {vs : Array Value} {k : Int} {t : Tok} {Q : Value → Shared → Prop} (N : News h₀ L s.heap news) (hm : (V, ov) ∈ news) (hov : ov.cls = .type "list" ∧ ∃ n, ov.data = .seq vs n) (hi : IntsAre vs.toList unseenL)
    (h : Q (.bool (unseenL.contains k)) s) : wpAny (model prog w) A (compareOp .In (.int k t) (.ref V)) Q E s := by
  refine in_list_ints (vs := vs.toList) ⟨ov, (N _ hm).1, hov.1, hov.2⟩ hi ?_
  have : unseenL.any (· == k) = unseenL.contains k := by
    rw [List.contains_eq_any_beq]
    congr 1; funext a
    by_cases e : a = k
    · subst e; rfl
    · rw [beq_eq_false_iff_ne.mpr e, beq_eq_false_iff_ne.mpr (Ne.symm e)]
  rw [this]; exact h
theorem charAt_nat {x : Str} {i c : Nat} (hc : x.cps[i]? = some c) : Txt.item x (i : Int) = ch c := by
  have hi : i < x.cps.size := (Array.getElem?_eq_some_iff.mp hc).1
  have e : seqIndex? (i : Int) x.length = some i := by
    unfold seqIndex?
    have hn : ¬ (i : Int) < 0 := by omega
    simp [Str.length, hn, hi]
  unfold Txt.item Txt.charAt
  rw [e]
  simp [hc]
theorem str_at {w : World} {A : Around} {E : Value → Shared → Prop} {s : Shared} {value slice : Expr} {x : Str} {i c : Nat} {t u : Tok} {Q : Value → Shared → Prop} (hc : x.cps[i]? = some c) (hx : x.cps.size ≤ 100) (h : Q (.str (ch c) s.toks) { s with toks := s.toks + 1 })
    (hs : subscripted slice false (.str x t) (.int i u) = operate [.str x t, .int i u] (getItem (.str x t) (.int i u)) := by with_unfolding_all rfl)
    (ht : ∀ r, letTemporaryGo value (.str x t) r = pure () := by intro _; with_unfolding_all rfl) : wpAny (model prog w) A (subscriptTail value slice (.str x t) (.int i u)) Q E s := by
  have hi : i < x.cps.size := (Array.getElem?_eq_some_iff.mp hc).1
  refine item_str (fitsSsize_of (N := 9223372036854775808) (by omega) (by omega) (Int.le_refl _)) (by show -(x.cps.size : Int) ≤ _; omega) (by show _ < (x.cps.size : Int); omega) (fun _ => ?_) hs ht
  rw [charAt_nat hc]; exact h
local macro_rules | `(tactic| walk_at "subscriptTail") => `(tactic| (refine str_at (by assumption) (by assumption) ?_))
local macro_rules | `(tactic| walk_at "compareOp In int ref") => `(tactic| (refine in_un (by assumption) (by (repeat (first | assumption | exact List.mem_cons_self .. | apply List.mem_cons_of_mem))) (by assumption) (by assumption) ?_))
/-- what is bound so far, and the run of slashes -/
noncomputable def bStep (st : List Nat × Nat) (i c : Nat) : List Nat × Nat :=
  (if (decide (st.2 % 2 = 1) && unseenL.contains (c : Int)) = true then st.1 ++ [i] else st.1, if c = 92 then st.2 + 1 else 0)
theorem fmod2 (k : Nat) : (k : Int).fmod 2 = ((k % 2 : Nat) : Int) := by rw [Int.fmod_eq_emod_of_nonneg _ (by decide)]; omega
noncomputable abbrev bMap (i : Nat) (t : Tok) (k : Nat) (tk : Tok) (B : Addr) : Str → Option Value :=
  fun (y : Str) => if y = ("place" : Str) then some (Value.int i t) else if y = ("slashes" : Str) then some (Value.int k tk) else if y = ("bound" : Str) then some (Value.ref B) else none
theorem bound_m {v w x sg : Option Value} : (fun (y : Str) => if y = ("slashes" : Str) then v else if y = ("place" : Str) then sg else if y = ("slashes" : Str) then w else if y = ("bound" : Str) then x else none) =
    fun (y : Str) => if y = ("place" : Str) then sg else if y = ("slashes" : Str) then v else if y = ("bound" : Str) then x else none := by
  funext y
  by_cases h1 : y = ("slashes" : Str)
  · subst h1; rfl
  · by_cases h2 : y = ("place" : Str)
    · subst h2; rfl
    · simp only [h1, h2, if_false]
local macro_rules | `(tactic| walk_at "call builtin:list.append") => `(tactic| (refine append_head (by assumption) (by assumption) (by assumption) ?_ (by (simp only [List.size_toArray, List.length_append, Array.length_toList, List.length_replicate, List.length_cons, List.length_nil, sizeLine, List.toList_toArray] ; omega)); intro _ _ _))
theorem ch92 {c : Nat} (h : (ch c == Str.ofString "\\") = true) : c = 92 := by
  have : ch c = ch 92 := (beq_iff_eq.mp h).trans (by decide +kernel)
  injection this with e
  simpa using e
theorem nch92 {c : Nat} (h : (ch c == Str.ofString "\\") = false) : c ≠ 92 := fun e => by subst e; exact absurd h (by decide +kernel)
theorem bstep_of {bs : List Nat} {k i c : Nat} {p q r : Bool} (hp : (k % 2 = 1) ↔ p = true) (hq : p = true → unseenL.contains (c : Int) = q) (hr : c = 92 ↔ r = true) : bStep (bs, k) i c = (if (p && q) = true then bs ++ [i] else bs, if r = true then k + 1 else 0) := by
  unfold bStep
  dsimp only
  have e1 : decide (k % 2 = 1) = p := by cases p <;> simp_all
  have e2 : (decide (c = 92)) = r := by cases r <;> simp_all
  rw [e1]
  congr 1
  · cases p
    · rfl
    · rw [hq rfl]
  · cases r
    · rw [if_neg (of_decide_eq_false e2)]; rfl
    · rw [if_pos (of_decide_eq_true e2)]; rfl
theorem bound_body {w : World} {d u : Nat} {E : Value → Shared → Prop} {s : Shared} {f c' : Addr} {x : Str} {i k : Nat} {c : Nat} {t tx tk : Tok} {mg mb : Str → Option Value} {Q : Flow → Shared → Prop} {h₀ : Heap} {L B V : Addr} {oc1 oc2 ov : Obj} {own : List (Addr × Obj)} {items vs : Array Value} {n : Nat} {bs : List Nat} (G : GL w mg mb h₀)
    (F : Fr h₀ L s.heap (bMap i t k tk B))
    (N : News h₀ L s.heap ((B, { cls := .type "list", data := .seq items n }) :: (L + 1, oc1) :: (L + 2, oc2) :: own)) (hoc1 : oc1.data = .cell (some (.str x tx))) (hoc2 : oc2.data = .cell (some (.ref V)))
    (hB : ∀ p ∈ (L + 1, oc1) :: (L + 2, oc2) :: own, p.1 ≠ B) (hit : items.size ≤ 100) (hbs : IntsAre items.toList (bs.map Int.ofNat))
    (hV : (V, ov) ∈ own) (hov : ov.cls = .type "list" ∧ ∃ n, ov.data = .seq vs n) (hx : x.cps.size ≤ 100) (hi : IntsAre vs.toList unseenL) (hc : x.cps[i]? = some c)
    (h : ∀ h' tk' items' n' m', Fr h₀ L h' m' → (∃ t', m' = bMap i t (bStep (bs, k) i c).2 t' B) → News h₀ L h' ((B, { cls := .type "list", data := .seq items' n' }) :: (L + 1, oc1) :: (L + 2, oc2) :: own) → IntsAre items'.toList ((bStep (bs, k) i c).1.map Int.ofNat) → Q .next { s with heap := h', toks := tk' }) :
    wpAny (model prog w) (AA d u) (execs (forSt 12) (envOfC (nthDef 12).name (nthDef 12).scope L f (.ref c'))) Q E s := by
  have hk2 : (k : Int).fmod 2 = 1 ↔ k % 2 = 1 := by rw [fmod2]; omega
  refine wpAny_execs_cons ?_
  w_on
  repeat' (first | walk1 | (dsimp only; walk1))
  · rename unseenL.contains (c : Int) = true => h2
    rename (ch c == Str.ofString "\\") = true => h3
    rename (k : Int).fmod 2 = 1 => h1
    rw [bstep_of (p := true) (q := true) (r := true) ⟨fun _ => rfl, fun _ => hk2.mp h1⟩ (fun _ => h2) ⟨fun _ => rfl, fun _ => ch92 h3⟩] at h
    refine h _ _ _ _ _ (by assumption) ⟨_, bound_m⟩ (by assumption) ?_
    simp only [Array.toList_push, if_true, Bool.and_self, List.map_append]
    exact intsAre_append hbs (.cons _ _ .nil)
  · rename unseenL.contains (c : Int) = true => h2
    rename (ch c == Str.ofString "\\") = false => h3
    rename (k : Int).fmod 2 = 1 => h1
    rw [bstep_of (p := true) (q := true) (r := false) ⟨fun _ => rfl, fun _ => hk2.mp h1⟩ (fun _ => h2) ⟨fun e => absurd e (nch92 h3), fun e => (nomatch e)⟩] at h
    refine h _ _ _ _ _ (by assumption) ⟨_, bound_m⟩ (by assumption) ?_
    simp only [Array.toList_push, if_true, Bool.and_self, List.map_append]
    exact intsAre_append hbs (.cons _ _ .nil)
  · rename unseenL.contains (c : Int) = false => h2
    rename (ch c == Str.ofString "\\") = true => h3
    rename (k : Int).fmod 2 = 1 => h1
    rw [bstep_of (p := true) (q := false) (r := true) ⟨fun _ => rfl, fun _ => hk2.mp h1⟩ (fun _ => h2) ⟨fun _ => rfl, fun _ => ch92 h3⟩] at h
    exact h _ _ _ _ _ (by assumption) ⟨_, bound_m⟩ (by assumption) hbs
  · rename unseenL.contains (c : Int) = false => h2
    rename (ch c == Str.ofString "\\") = false => h3
    rename (k : Int).fmod 2 = 1 => h1
    rw [bstep_of (p := true) (q := false) (r := false) ⟨fun _ => rfl, fun _ => hk2.mp h1⟩ (fun _ => h2) ⟨fun e => absurd e (nch92 h3), fun e => (nomatch e)⟩] at h
    exact h _ _ _ _ _ (by assumption) ⟨_, bound_m⟩ (by assumption) hbs
  · rename (ch c == Str.ofString "\\") = true => h3
    rename ¬ (k : Int).fmod 2 = 1 => h1
    rw [bstep_of (p := false) (q := false) (r := true) ⟨fun e => absurd (hk2.mpr e) h1, fun e => (nomatch e)⟩ (fun e => (nomatch e)) ⟨fun _ => rfl, fun _ => ch92 h3⟩] at h
    exact h _ _ _ _ _ (by assumption) ⟨_, bound_m⟩ (by assumption) hbs
  · rename (ch c == Str.ofString "\\") = false => h3
    rename ¬ (k : Int).fmod 2 = 1 => h1
    rw [bstep_of (p := false) (q := false) (r := false) ⟨fun e => absurd (hk2.mpr e) h1, fun e => (nomatch e)⟩ (fun e => (nomatch e)) ⟨fun e => absurd e (nch92 h3), fun e => (nomatch e)⟩] at h
    exact h _ _ _ _ _ (by assumption) ⟨_, bound_m⟩ (by assumption) hbs
end Mine
end
section
open PySem PySem.W PyProof.Rows PySem.Calls
set_option maxRecDepth 100000
set_option maxHeartbeats 4000000
set_option linter.unusedVariables false
namespace Mine
local macro_rules | `(tactic| walk_at "no such key") => `(tactic| fail)
local macro_rules | `(tactic| walk_at "no such key") => `(tactic| fail)
local macro_rules | `(tactic| walk_at "no such key") => `(tactic| fail)
local macro_rules | `(tactic| walk_at "no such key") => `(tactic| fail)
local macro_rules | `(tactic| walk_at "no such key") => `(tactic| fail)
local macro_rules | `(tactic| walk_at "no such key") => `(tactic| fail)
local macro_rules | `(tactic| walk_at "no such key") => `(tactic| fail)
local macro_rules | `(tactic| walk_at "no such key") => `(tactic| fail)
local macro_rules | `(tactic| walk_at "no such key") => `(tactic| fail)
local macro_rules | `(tactic| walk_at "no such key") => `(tactic| fail)
local macro_rules | `(tactic| walk_at "no such key") => `(tactic| fail)
local macro_rules | `(tactic| walk_at "no such key") => `(tactic| fail)
local macro_rules | `(tactic| walk_at "no such key") => `(tactic| fail)
local macro_rules | `(tactic| walk_at "no such key") => `(tactic| fail)
theorem Iters.grow {w : World} {A : Around} {s : Shared} {h₁ : Heap} {tk n : Nat} {P : Nat → Value → Prop} {Q : Addr → (Nat → Heap → Prop) → Prop} {it : Value} {s₂ : Shared} (x : Iters w A { s with heap := h₁, toks := tk } n P Q it s₂) (hk : ∀ b o, s.heap.get? b = some o → h₁.get? b = some o) (hle : s.heap.objs.size ≤ h₁.objs.size) : Iters w A s n P Q it s₂ := by
  obtain ⟨I, fp, wr, St, h', tk', e1, e2, W, h0, h1, h2, h3, h4, h5, h6⟩ := x
  exact ⟨I, fp, wr, St, h', tk', e1, e2, W, h0, h1, fun b hb => Nat.le_trans hle (h2 b hb), fun b o e => h3 b o (hk b o e), Nat.le_trans hle h4, h5, h6⟩
theorem tests_one {M : Model} {A : Around} {E : Value → Shared → Prop} {s : Shared} {c : Expr} {env : Env} {Q : Bool → Shared → Prop} (h : wpAny M A (isTrue c env (eval c env)) Q E s) :
    wpAny M A (forIn [c] true fun c r => if r = true then do let ok ← isTrue c env (eval c env); pure (ForInStep.yield ok) else pure (ForInStep.yield r)) Q E s := by
  simp only [List.forIn_cons, List.forIn_nil, if_true]
  refine wpAny_bind (wpAny_bind (wpAny_mono h (fun ok s₁ h₁ => wpAny_pure (wpAny_pure h₁)) fun _ _ e => e))
noncomputable def cmpL : Expr → Expr
  | .Compare l _ _ _ => l
  | e => e
noncomputable def if0 (e : Expr) : Expr := (cIfs e).headD e
noncomputable abbrev inE : Expr := cmpL (if0 (retE 12))
local macro_rules | `(tactic| walk_at "eval Name") => `(tactic| (refine nm_biF (by assumption) (GL.G (by assumption)) (by decide) (by boot_by_name) ?_))
local macro_rules | `(tactic| walk_at "eval Name") => `(tactic| (refine nm_globF (by assumption) (GL.G (by assumption)) (by assumption) ?_))
theorem nm_cell' {w : World} {A : Around} {E : Value → Shared → Prop} {s : Shared} {env : Env} {pos : Pos} {Q : Value → Shared → Prop} {h₀ : Heap} {L c : Addr} {m : Str → Option Value} {x : Str} {v : Value} (hl : env.cells.lookup x = some c) (hx : env.kindOf x = some .cell) (F : Fr h₀ L s.heap m) (hc : h₀.IsCell c (some v)) (h : Q v s)
    (hk : env.scope.kind = .function := by rfl) (hd : (x == ("__debug__" : Str)) = false := by decide) : wpAny (model prog w) A (eval (.Name x pos) env) Q E s :=
  wpAny_Name (wpAny_loadName_cell hk hx hl (hc.keeps F.keep) h) hd
local macro_rules | `(tactic| walk_at "eval Name") => `(tactic| (refine nm_cell' rfl rfl (by assumption) (by assumption) ?_))
local macro_rules | `(tactic| walk_at "eval Name") => `(tactic| (refine nm_loc (by assumption) (by assumption) ?_))
noncomputable abbrev fEnv (L f c' : Addr) : Env := envOfC (nthDef 12).name (nthDef 12).scope L f (.ref c')
noncomputable abbrev oEnv (L f c' C : Addr) : Env := compEnvC (cScope (retE 12)) [("unseen", L + 2), ("text", L + 1)] C (fEnv L f c')
theorem slice_own {w : World} {A : Around} {E : Value → Shared → Prop} {s : Shared} {value slice : Expr} {x : Str} {t ui : Tok} {i : Int} {Q : Value → Shared → Prop} (h : ∀ h' t' k, (∀ b o, s.heap.get? b = some o → h'.get? b = some o) → s.heap.objs.size ≤ h'.objs.size → Q (.str (Txt.slice x (some i) none) t') { s with heap := h', toks := k }) (hx : x.cps.size ≤ 100)
    (hs : subscripted slice false (.str x t) (.ref s.heap.objs.size) = operate [.ref s.heap.objs.size, .str x t] (getItem (.str x t) (.ref s.heap.objs.size)) := by with_unfolding_all rfl)
    (ht : ∀ r, letTemporaryGo value (.str x t) r = pure () := by intro _; with_unfolding_all rfl) :
    wpAny (model prog w) A (subscriptTail value slice (.str x t) (.ref s.heap.objs.size)) Q E { s with heap := s.heap.push { cls := .type "slice", data := .fields #[.int i ui, .none, .none] } } :=
  tail_of_ItemOn (SBH.sliceItem_sn (P := fun h' => (∀ b o, s.heap.get? b = some o → h'.get? b = some o) ∧ s.heap.objs.size ≤ h'.objs.size)
    (fun h' ob hp => ⟨fun b o e => Heap.get?_push_of_some _ (hp.1 b o e), by rw [Heap.size_push]; exact Nat.le_succ_of_le hp.2⟩) ⟨fun _ _ e => e, Nat.le_refl _⟩ (fun h' t' k hp => h h' t' k hp.1 hp.2) (by show x.cps.size ≤ sizeLine; simp only [sizeLine]; omega)) hs ht
theorem notin_un {w : World} {A : Around} {E : Value → Shared → Prop} {s : Shared} {h₀ : Heap} {L V : Addr} {m : Str → Option Value} {vs : Array Value} {k : Int} {t : Tok} {Q : Value → Shared → Prop} (F : Fr h₀ L s.heap m) (hV : h₀.IsList V vs) (hi : IntsAre vs.toList unseenL)
    (h : Q (.bool (!unseenL.contains k)) s) : wpAny (model prog w) A (compareOp .NotIn (.int k t) (.ref V)) Q E s := by
  refine notin_list_ints (vs := vs.toList) (listKeep hV F.keep) hi ?_
  have : unseenL.any (· == k) = unseenL.contains k := by
    rw [List.contains_eq_any_beq]
    congr 1; funext a
    by_cases e : a = k
    · subst e; rfl
    · rw [beq_eq_false_iff_ne.mpr e, beq_eq_false_iff_ne.mpr (Ne.symm e)]
  rw [this]; exact h
local macro_rules | `(tactic| walk_at "compareOp NotIn int ref") => `(tactic| (refine notin_un (by assumption) (by assumption) (by assumption) ?_))
theorem KeepsC.rfl' {C : Addr} {m : Str → Option Value} {h₀ : Heap} {u : Shared} {tk : Nat} (F : Fr h₀ C u.heap m) : KeepsC C m u { u with toks := tk } := ⟨u.heap, tk, rfl, fun _ _ _ e => e, F.ns⟩
set_option maxHeartbeats 400000 in
theorem inner_test {w : World} {d u : Nat} {E : Value → Shared → Prop} {s : Shared} {f c' : Addr} {mg mb : Str → Option Value} {h₀ : Heap} {L C C₁ V : Addr} {m : Str → Option Value} {c : Nat} {t : Tok} {vs : Array Value} (G : GL w mg mb h₀) (F : Fr h₀ C₁ s.heap m)
    (hm : m "sign" = some (.str (ch c) t)) (hc2 : h₀.IsCell (L + 2) (some (.ref V))) (hV : h₀.IsList V vs) (hi : IntsAre vs.toList unseenL) :
    wpAny (model prog w) (AA d u) (isTrue (if0 inE) (compEnvC (cScope inE) [("unseen", L + 2)] C₁ (oEnv L f c' C)) (eval (if0 inE) (compEnvC (cScope inE) [("unseen", L + 2)] C₁ (oEnv L f c' C)))) (fun ok u₁ => ok = (!unseenL.contains (c : Int)) ∧ KeepsC C₁ m s u₁) E s := by
  have NN : News h₀ C₁ s.heap (allOwn h₀ C₁ s.heap) := allOwn_news
  refine wpAny_post fun Q hQ => ?_
  conv in (isTrue _ _ _) => arg 1; whnf
  conv in (eval _ _) => arg 1; whnf
  w_on
  repeat' (first | walk1 | (dsimp only; walk1))
  exact hQ _ _ ⟨rfl, KeepsC.rfl' F⟩
local macro_rules | `(tactic| walk_at "subscriptTail Name Slice str ref") => `(tactic| (refine slice_own ?_ (by assumption); intro _ _ _ _ _))
set_option maxHeartbeats 1000000 in
theorem inner_comp {w : World} {d u : Nat} {E : Value → Shared → Prop} {s : Shared} {f c' : Addr} {mg mb : Str → Option Value} {h₀ : Heap} {L C V : Addr} {m : Str → Option Value} {x : Str} {tx : Tok} {j : Nat} {t : Tok} {Q : Value → Shared → Prop} {vs : Array Value} (G : GL w mg mb h₀) (F : Fr h₀ C s.heap m)
    (hm : m "place" = some (.int j t)) (hc1 : h₀.IsCell (L + 1) (some (.str x tx))) (hc2 : h₀.IsCell (L + 2) (some (.ref V))) (hV : h₀.IsList V vs) (hi : IntsAre vs.toList unseenL) (hx : x.cps.size ≤ 100) {y : Str} (hy : Txt.slice x (some ((j : Int) + 1)) none = y) (hyx : y.cps.size ≤ 100)
    (h : ∀ D h' tk ys, s.heap.objs.size ≤ D → h'.PlainList D ys → Paired (fun i v => ∃ t, v = Value.str (ch (y.cps.getD i 0)) t) ((List.range y.cps.size).filter fun i => !unseenL.contains ((y.cps.getD i 0 : Nat) : Int)) ys.toList → (∀ b o, s.heap.get? b = some o → h'.get? b = some o) → Q (.ref D) { s with heap := h', toks := tk }) :
    wpAny (model prog w) (AA d u) (eval inE (oEnv L f c' C)) Q E s := by
  refine comp_own (elt := cElt inE) (iter := cIter inE) (ifs := [if0 inE]) (scope := cScope inE) (n := y.cps.size) (cl := [("unseen", L + 2)]) (SignAt y) (fun i m => ∃ v, SignAt y i v ∧ m "sign" = some v) (fun i => !unseenL.contains ((y.cps.getD i 0 : Nat) : Int)) (fun i v ts => ts = [] ∧ ∃ t, v = .str (ch (y.cps.getD i 0)) t)
    rfl (by decide +kernel) rfl (by decide +kernel) (by simp only [sizeLine]; omega) ?_ ?_
  · have NN : News h₀ C s.heap [] := News.nil
    have hg : ∀ i v, SignAt y i v → ∃ t, v = .str (ch (y.cps.getD i 0)) t := by
      rintro i v ⟨c, t, hc, rfl⟩
      refine ⟨t, ?_⟩
      have : y.cps.getD i 0 = c := by simp [Array.getD_eq_getD_getElem?, hc]
      rw [this]
    have T : ∀ (px : Pos) I St, Turns w (AA d u) s.heap I y.cps.size (SignAt y) St (.Name "sign" px) [if0 inE] (cElt inE) (fun C₁ => compEnvC (cScope inE) [("unseen", L + 2)] C₁ (oEnv L f c' C)) (fun i m => ∃ v, SignAt y i v ∧ m "sign" = some v) (fun i => !unseenL.contains ((y.cps.getD i 0 : Nat) : Int)) (fun i v ts => ts = [] ∧ ∃ t, v = .str (ch (y.cps.getD i 0)) t) := fun px I St =>
      ⟨asg_name (x := "sign") (by decide +kernel) rfl,
       fun C₁ i u m₂ E' hi' ⟨v, hv, hm'⟩ F' => by
        obtain ⟨t', rfl⟩ := hg i v hv
        exact tests_one (inner_test (G.keeps F.keep) F' hm' (hc2.keeps F.keep) (listKeep hV F.keep) hi),
       fun C₁ i u m₂ E' hi' ⟨v, hv, hm'⟩ _ F' => nm_loc (env := compEnvC (cScope inE) [("unseen", L + 2)] C₁ (oEnv L f c' C)) (x := "sign") F' hm' ⟨⟨[], ⟨rfl, hg i v hv⟩, fun p hp => (nomatch hp)⟩, KeepsC.rfl' F'⟩⟩
    conv in (eval _ _) => arg 1; whnf
    refine wpAny_post fun Q' hQ' => ?_
    w_on
    repeat' (first | walk1 | (dsimp only; walk1))
    rename_i h1 t1 k1 hk1 hle1
    rw [hy]
    exact hQ' _ _ (wpAny_mono (iters_str rfl fun I St => T _ I St) (fun it s₂ x => Iters.grow x hk1 hle1) fun _ _ e => e)
  · intro D h' tk ys tss hD hl hM hk
    exact h D h' tk ys hD hl (hM.2.mono fun i v ⟨ts, ⟨_, r⟩, _⟩ => r) hk
end Mine
end
section
open PySem PySem.W PyProof.Rows PySem.Calls
set_option maxRecDepth 100000
set_option maxHeartbeats 1000000
set_option linter.unusedVariables false
namespace Mine
theorem strs_dat {news : List (Addr × Obj)} {g : Nat → Str} {l : List Nat} {ys : List Value} (h : Paired (fun i v => ∃ t, v = Value.str (g i) t) l ys) : DatAll news ys (l.map fun i => Dat.str (g i)) := by
  induction h with
  | nil => exact .nil
  | cons h _ ih => obtain ⟨t, rfl⟩ := h; exact .cons (.str _ t) ih
theorem kqdOk_str {n : Nat} {x : Str} (h : PyData.strOk x = true) : kqdOk (n + 1) (.str x) = true := by simp [kqdOk, h]
theorem truthy_own {M : Model} {A : Around} {E : Value → Shared → Prop} {s : Shared} {b b' : Bool} {Q : Bool → Shared → Prop} (e : b = b') (h : Q b' s) : wpAny M A (truthy (.bool b)) Q E s := by subst e; exact wpAny_truthy_bool h
theorem outer_test {w : World} {d u : Nat} {E : Value → Shared → Prop} {s : Shared} {f c' : Addr} {mg mb : Str → Option Value} {h₀ : Heap} {L C V : Addr} {m : Str → Option Value} {x : Str} {tx : Tok} {j : Nat} {t : Tok} {vs : Array Value} (G : GL w mg mb h₀) (F : Fr h₀ C s.heap m)
    (hm : m "place" = some (.int j t)) (hc1 : h₀.IsCell (L + 1) (some (.str x tx))) (hc2 : h₀.IsCell (L + 2) (some (.ref V))) (hV : h₀.IsList V vs) (hi : IntsAre vs.toList unseenL) (hx : x.cps.size ≤ 100) (hu : u + 64 < cLine) {y : Str} (hy : Txt.slice x (some ((j : Int) + 1)) none = y) (hyx : y.cps.size ≤ 100) (hok : ∀ i, PyData.strOk (ch (y.cps.getD i 0)) = true) :
    wpAny (model prog w) (AA d u) (isTrue (if0 (retE 12)) (oEnv L f c' C) (eval (if0 (retE 12)) (oEnv L f c' C))) (fun ok u₁ => ok = !((List.range y.cps.size).filter fun i => !unseenL.contains ((y.cps.getD i 0 : Nat) : Int)).isEmpty ∧ KeepsC C m s u₁) E s := by
  refine wpAny_post fun Q hQ => ?_
  conv in (isTrue _ _ _) => arg 1; whnf
  conv in (eval _ _) => arg 1; whnf
  w_on
  walk1
  refine inner_comp G F hm hc1 hc2 hV hi hx hy hyx fun D h' tk ys hD hl hP hk => ?_
  obtain ⟨n, hl⟩ := hl
  have F1 : Fr h₀ C h' m := F.keeps hk
  have hC : C < s.heap.objs.size := F.ns.lt
  have N1 : News h₀ C h' ((D, { cls := .type "list", data := .seq ys n }) :: allOwn h₀ C s.heap) := fun p hp => by
    rcases List.mem_cons.mp hp with rfl | hp
    · refine ⟨hl, Nat.ne_of_gt (Nat.lt_of_lt_of_le hC hD), ?_⟩
      cases e : h₀.get? D with
      | none => rfl
      | some o => exact absurd (Heap.lt_size (F.keep _ _ e)) (Nat.not_lt.mpr hD)
    · exact ⟨hk _ _ (allOwn_news p hp).1, (allOwn_news p hp).2⟩
  repeat' (first | walk1 | (dsimp only; walk1))
  rename_i h2 F2 N2
  refine kqd_ne (xs := ys.toList) (ys := []) (es := []) (n₁ := []) (n₂ := []) N2 (List.mem_cons_of_mem _ (List.mem_cons_self ..)) rfl rfl (strs_dat hP) (fun _ hp => (nomatch hp)) (List.mem_cons_self ..) rfl rfl .nil (fun _ hp => (nomatch hp)) ?_ (fun _ hp => (nomatch hp)) hu ?_
  · intro d hd
    obtain ⟨i, _, rfl⟩ := List.mem_map.mp hd
    exact kqdOk_str (hok i)
  · refine truthy_own ?_ (hQ _ _ ⟨rfl, keepsC_of F F2 N2 fun p hp => List.mem_cons_of_mem _ (List.mem_cons_of_mem _ hp)⟩)
    rw [Bool.eq_iff_iff]
    simp [List.isEmpty_iff]
/-- is there something behind the place that is no sign of the table -/
noncomputable def moreB (x : Str) (j : Nat) : Bool := !((List.range (Txt.slice x (some ((j : Int) + 1)) none).cps.size).filter fun i => !unseenL.contains (((Txt.slice x (some ((j : Int) + 1)) none).cps.getD i 0 : Nat) : Int)).isEmpty
theorem bound_comp {w : World} {d u : Nat} {E : Value → Shared → Prop} {s : Shared} {f c' : Addr} {mg mb : Str → Option Value} {h₀ : Heap} {L V B : Addr} {m : Str → Option Value} {x : Str} {tx : Tok} {Q : Value → Shared → Prop} {vs items : Array Value} {bs : List Nat} (G : GL w mg mb h₀) (F : Fr h₀ L s.heap m)
    (hm : m "bound" = some (.ref B)) (hB : s.heap.IsList B items) (hbs : IntsAre items.toList (bs.map Int.ofNat)) (hit : items.size ≤ 100) (hc1 : s.heap.IsCell (L + 1) (some (.str x tx))) (hc2 : s.heap.IsCell (L + 2) (some (.ref V))) (hV : s.heap.IsList V vs) (hi : IntsAre vs.toList unseenL) (hx : x.cps.size ≤ 100) (hu : u + 64 < cLine)
    (hok : ∀ j i : Nat, PyData.strOk (ch ((Txt.slice x (some ((j : Int) + 1)) none).cps.getD i 0)) = true)
    (h : ∀ D h' tk ys, s.heap.objs.size ≤ D → h'.PlainList D ys → Paired (fun i v => ∃ t, v = Value.int (bs.getD i 0 : Nat) t) ((List.range bs.length).filter fun i => moreB x (bs.getD i 0)) ys.toList → (∀ b o, s.heap.get? b = some o → h'.get? b = some o) → Q (.ref D) { s with heap := h', toks := tk }) :
    wpAny (model prog w) (AA d u) (eval (retE 12) (fEnv L f c')) Q E s := by
  have hlen : items.size = bs.length := by have := hbs.length; simpa using this
  have hg : ∀ i v, items[i]? = some v → ∃ t, v = Value.int (bs.getD i 0 : Nat) t := by
    intro i v hv
    have hi' : i < bs.length := by rw [← hlen]; exact (Array.getElem?_eq_some_iff.mp hv).1
    obtain ⟨t, ht⟩ := ints_at hbs i (by simpa using hi')
    rw [Array.getElem?_toList, hv] at ht
    refine ⟨t, ?_⟩
    rw [Option.some.inj ht]
    simp [List.getD_eq_getElem?_getD, hi']
  refine comp_own (elt := cElt (retE 12)) (iter := cIter (retE 12)) (ifs := [if0 (retE 12)]) (scope := cScope (retE 12)) (n := items.size) (cl := [("unseen", L + 2), ("text", L + 1)]) (fun i v => items[i]? = some v) (fun i m => ∃ v, items[i]? = some v ∧ m "place" = some v) (fun i => moreB x (bs.getD i 0)) (fun i v ts => ts = [] ∧ ∃ t, v = Value.int (bs.getD i 0 : Nat) t)
    rfl (by decide +kernel) rfl (by decide +kernel) (by simp only [sizeLine]; omega) ?_ ?_
  · have T : ∀ (px : Pos) I St, Turns w (AA d u) s.heap I items.size (fun i v => items[i]? = some v) St (.Name "place" px) [if0 (retE 12)] (cElt (retE 12)) (fun C => oEnv L f c' C) (fun i m => ∃ v, items[i]? = some v ∧ m "place" = some v) (fun i => moreB x (bs.getD i 0)) (fun i v ts => ts = [] ∧ ∃ t, v = Value.int (bs.getD i 0 : Nat) t) := fun px I St =>
      ⟨asg_name (x := "place") (by decide +kernel) rfl,
       fun C₁ i u m₂ E' hi' ⟨v, hv, hm'⟩ F' => by
        obtain ⟨t', rfl⟩ := hg i v hv
        exact tests_one (outer_test (G.keeps F.keep) F' hm' hc1 hc2 hV hi hx hu rfl (Nat.le_trans (Txt.slice_le x _ _) hx) (hok _)),
       fun C₁ i u m₂ E' hi' ⟨v, hv, hm'⟩ _ F' => nm_loc (env := oEnv L f c' C₁) (x := "place") F' hm' ⟨⟨[], ⟨rfl, hg i v hv⟩, fun p hp => (nomatch hp)⟩, KeepsC.rfl' F'⟩⟩
    exact nm_loc (env := fEnv L f c') (x := "bound") F hm (iters_list rfl hB fun I => T _ I _)
  · intro D h' tk ys tss hD hl hM hk
    refine h D h' tk ys hD hl ?_ hk
    rw [← hlen]
    exact hM.2.mono fun i v ⟨ts, ⟨_, r⟩, _⟩ => r
end Mine
end
section
open PySem PySem.W PyProof.Rows PySem.Calls
set_option maxRecDepth 100000
set_option maxHeartbeats 1000000
set_option linter.unusedVariables false
namespace Mine
noncomputable def bSt (x : Str) (i : Nat) : List Nat × Nat := (List.range i).foldl (fun st j => bStep st j (x.cps.getD j 0)) ([], 0)
theorem bSt_succ (x : Str) (i : Nat) : bSt x (i + 1) = bStep (bSt x i) i (x.cps.getD i 0) := by
  unfold bSt; rw [List.range_succ, List.foldl_append]; rfl
theorem bSt_len (x : Str) : ∀ i, (bSt x i).1.length ≤ i
  | 0 => by simp [bSt]
  | i + 1 => by
    have := bSt_len x i
    rw [bSt_succ]
    unfold bStep
    dsimp only
    split
    · simp only [List.length_append, List.length_cons, List.length_nil]; omega
    · omega
noncomputable abbrev bM (pl : Option Value) (k : Nat) (tk : Tok) (B : Addr) : Str → Option Value :=
  fun (y : Str) => if y = ("place" : Str) then pl else if y = ("slashes" : Str) then some (Value.int k tk) else if y = ("bound" : Str) then some (Value.ref B) else none
noncomputable def BoundJ (L B V : Addr) (oc1 oc2 ov : Obj) (x : Str) (i : Nat) (m : Str → Option Value) (news : List (Addr × Obj)) : Prop :=
  ∃ pl k tk items n bs, m = bM pl k tk B ∧ news = [(B, { cls := .type "list", data := .seq items n }), (L + 1, oc1), (L + 2, oc2), (V, ov)] ∧ IntsAre items.toList (bs.map Int.ofNat) ∧ (bs, k) = bSt x i
theorem bound_loop {w : World} {d u : Nat} {s : Shared} {f c' : Addr} {tx : Tok} {mg mb : Str → Option Value} {R : Result → Shared → Prop} {h₀ : Heap} {L I B V : Addr} {oc1 oc2 ov : Obj} {vs : Array Value} {x : Str} {px : Pos} {m : Str → Option Value} {news : List (Addr × Obj)} {St : Nat → Heap → Prop}
    (G : GL w mg mb h₀) (hx : x.cps.size ≤ 100) (W : Walks prog w (AA d u) I [I] [I] x.cps.size (fun i v => ∃ t, v = .int i t) St) (hst : St 0 s.heap) (hIL : I ≠ L) (hI₀ : h₀.get? I = none)
    (hoc1 : oc1.data = .cell (some (.str x tx))) (hoc2 : oc2.data = .cell (some (.ref V))) (hov : ov.cls = .type "list" ∧ ∃ n, ov.data = .seq vs n) (hi : IntsAre vs.toList unseenL)
    (hB1 : L + 1 ≠ B) (hB2 : L + 2 ≠ B) (hVB : V ≠ B) (hIB : I ≠ B)
    (F : Fr h₀ L s.heap m) (N : News h₀ L s.heap news) (hnw : ∀ p ∈ news, p.1 ≠ I) (hJ : BoundJ L B V oc1 oc2 ov x 0 m news)
    (hR : ∀ h' tk m' news', Fr h₀ L h' m' → News h₀ L h' news' → BoundJ L B V oc1 oc2 ov x x.cps.size m' news' → R (.ok .next) { s with heap := h', toks := tk }) :
    codeAny (model prog w) (AA d u) (.forLoop (.Name "place" px) (.ref I) (forSt 12) [] (envOfC (nthDef 12).name (nthDef 12).scope L f (.ref c'))) R s := by
  refine codeAny_forLoop_anyU (env := envOfC (nthDef 12).name (nthDef 12).scope L f (.ref c')) W (fun h => hIL (List.mem_singleton.mp h).symm) (fun b hb => (List.mem_singleton.mp hb) ▸ hI₀) (fun p hp h => hnw p hp (List.mem_singleton.mp h)) hst F N
    (fun i s' v Q' _ hQ => wpAny_of_eq (show letOwnedTupleGo (.Name "place" px) (.ref I) v = pure () from rfl) hQ) (BoundJ L B V oc1 oc2 ov x) hJ ?_ (fun h' tk m' news' F' N' _ hJ' => hR h' tk m' news' F' N' hJ')
  rintro i v m₁ news₁ s₁ own hlt ⟨t, rfl⟩ ⟨pl, k, tk, items, n, bs, rfl, rfl, hbs, hst'⟩ hnw₁ hown hownget hownall hst₁ F₁ N₁
  have hlen := bSt_len x i
  rw [← hst'] at hlen
  dsimp only at hlen
  have hil : items.size = bs.length := by have := hbs.length; simpa using this
  have hc : x.cps[i]? = some (x.cps.getD i 0) := by simp [Array.getD_eq_getD_getElem?, hlt]
  refine wpAny_assign_Name (wpAny_storeName_local (env := envOfC (nthDef 12).name (nthDef 12).scope L f (.ref c')) rfl F₁.ns (fun h₂ hn₂ hs₂ => ?_) rfl)
  have F₂ := F₁.set hn₂ hs₂
  have N₂ := N₁.set hs₂
  refine bound_body (own := (V, ov) :: own) (i := i) (k := k) (c := x.cps.getD i 0) (t := t) (tx := tx) (tk := tk) (x := x) (bs := bs) (items := items) (n := n) (B := B) (V := V) G (frCongr F₂ ?_) (news_sub N₂ ?_) hoc1 hoc2 ?_ (by omega) hbs (List.mem_cons_self ..) hov hx hi hc ?_
  · funext y
    by_cases h1 : y = ("place" : Str)
    · subst h1; rfl
    · simp only [bM, bMap, h1, if_false]
  · intro p hp
    simp only [List.mem_cons] at hp
    simp only [List.mem_append, List.mem_cons, List.not_mem_nil, or_false]
    rcases hp with rfl | rfl | rfl | rfl | hp
    · exact .inr (.inl rfl)
    · exact .inr (.inr (.inl rfl))
    · exact .inr (.inr (.inr (.inl rfl)))
    · exact .inr (.inr (.inr (.inr rfl)))
    · exact .inl hp
  · intro p hp
    simp only [List.mem_cons] at hp
    rcases hp with rfl | rfl | rfl | hp
    · exact hB1
    · exact hB2
    · exact hVB
    · rw [List.mem_singleton.mp (hown p hp)]; exact hIB
  · intro h' tk' items' n' m' F' hm' N' hbs'
    obtain ⟨t', rfl⟩ := hm'
    refine ⟨rfl, h', tk', _, [(B, { cls := .type "list", data := .seq items' n' }), (L + 1, oc1), (L + 2, oc2), (V, ov)], rfl, F', news_sub N' ?_, ?_, ⟨_, _, t', items', n', _, rfl, rfl, hbs', ?_⟩⟩
    · intro p hp
      simp only [List.mem_append, List.mem_cons, List.not_mem_nil, or_false] at hp
      simp only [List.mem_cons]
      rcases hp with hp | rfl | rfl | rfl | rfl
      · exact .inr (.inr (.inr (.inr hp)))
      · exact .inl rfl
      · exact .inr (.inl rfl)
      · exact .inr (.inr (.inl rfl))
      · exact .inr (.inr (.inr (.inl rfl)))
    · intro p hp h
      have e := List.mem_singleton.mp h
      simp only [List.mem_cons, List.not_mem_nil, or_false] at hp
      rcases hp with rfl | rfl | rfl | rfl
      · exact hIB e.symm
      · exact hnw₁ (L + 1, oc1) (by simp) h
      · exact hnw₁ (L + 2, oc2) (by simp) h
      · exact hnw₁ (V, ov) (by simp) h
    · rw [bSt_succ, ← hst']
end Mine
end
section
open PySem PySem.W PyProof.Rows PySem.Calls
set_option maxRecDepth 100000
set_option maxHeartbeats 1000000
set_option linter.unusedVariables false
namespace Mine
local macro_rules | `(tactic| walk_at "no such key") => `(tactic| fail)
local macro_rules | `(tactic| walk_at "no such key") => `(tactic| fail)
local macro_rules | `(tactic| walk_at "no such key") => `(tactic| fail)
local macro_rules | `(tactic| walk_at "no such key") => `(tactic| fail)
local macro_rules | `(tactic| walk_at "no such key") => `(tactic| fail)
local macro_rules | `(tactic| walk_at "no such key") => `(tactic| fail)
local macro_rules | `(tactic| walk_at "no such key") => `(tactic| fail)
local macro_rules | `(tactic| walk_at "no such key") => `(tactic| fail)
local macro_rules | `(tactic| walk_at "no such key") => `(tactic| fail)
local macro_rules | `(tactic| walk_at "no such key") => `(tactic| fail)
local macro_rules | `(tactic| walk_at "no such key") => `(tactic| fail)
local macro_rules | `(tactic| walk_at "no such key") => `(tactic| fail)
local macro_rules | `(tactic| walk_at "no such key") => `(tactic| fail)
local macro_rules | `(tactic| walk_at "no such key") => `(tactic| fail)
theorem unseen_N {w : World} {d u : Nat} {E : Value → Shared → Prop} {s : Shared} {h₀ : Heap} {L : Addr} {m mg mb : Str → Option Value} {news : List (Addr × Obj)} {Q : Value → Shared → Prop} {f : Addr} (F : Fr h₀ L s.heap m) (N : News h₀ L s.heap news) (G : GL w mg mb h₀) (hf : IsFn h₀ f 8) (hroom : d < 900)
    (h : ∀ a h' tk vs ov, ov.cls = .type "list" ∧ (∃ n, ov.data = .seq vs n) → IntsAre vs.toList unseenL → Fr h₀ L h' m → News h₀ L h' ((a, ov) :: news) → Q (.ref a) { s with heap := h', toks := tk }) : wpAny (model prog w) (AA d u) (call (.ref f) []) Q E s :=
  unseen_call (G.G.keeps F.keep) (hf.keeps F.keep) hroom fun a h' tk vs ⟨o, ho, hc, hd⟩ h2 hn hk => h a h' tk vs o ⟨hc, hd⟩ h2 (F.keeps hk) fun p hp => by
    rcases List.mem_cons.mp hp with rfl | hp
    · refine ⟨ho, fun e => ?_, ?_⟩
      · obtain ⟨_, _, _, e', _⟩ := F.ns
        dsimp only at e
        rw [e, e'] at hn; cases hn
      · cases e : h₀.get? a with
        | none => rfl
        | some o => rw [F.keep _ _ e] at hn; cases hn
    · exact ⟨hk _ _ (N p hp).1, (N p hp).2⟩
local macro_rules | `(tactic| walk_at "eval Name") => `(tactic| (refine nm_biF (by assumption) (GL.G (by assumption)) (by decide) (by boot_by_name) ?_))
local macro_rules | `(tactic| walk_at "eval Name") => `(tactic| (refine nm_globF (by assumption) (GL.G (by assumption)) (by assumption) ?_))
local macro_rules | `(tactic| walk_at "callWith ref") => `(tactic| (refine cw0 (by assumption) ?_))
local macro_rules | `(tactic| walk_at "And") => `(tactic| (refine ⟨Fr.keep (by assumption), ?_⟩))
local macro_rules | `(tactic| walk_at "call ref") => `(tactic| (refine unseen_N (by assumption) (by assumption) (by assumption) (by assumption) (by omega) ?_; intro _ _ _ _ _ _ _ _ _))
theorem pyIter_rangeL {w : World} {A : Around} {E : Value → Shared → Prop} {s : Shared} {r : Addr} {n : Nat} {t u v : Tok} {Q : Value → Shared → Prop} (hh : A.handled = none) (hr : IsRange s.heap r 0 n 1 t u v) (hn : n < 2 ^ 60)
    (hQ : ∀ (o : Obj) (St : Nat → Heap → Prop), Walks prog w A s.heap.objs.size [s.heap.objs.size] [s.heap.objs.size] n (fun i v => ∃ t, v = .int i t) St → St 0 (s.heap.push o) → Q (.ref s.heap.objs.size) { s with heap := s.heap.push o }) : wpAny (model prog w) A (pyIter (.ref r)) Q E s := by
  have hsz : Builtin.Range.rangeSize 0 n 1 = (n : Int) := by rw [rangeSize_one]; split <;> omega
  refine wpAny_pyIter_range hr (small_one (by omega) (by omega) (by omega) (by omega)) ?_
  have W := Walks.range (prog := prog) (w := w) hh s.heap.objs.size 0 1 n
  refine hQ _ _ ⟨W.sub, W.frame, fun i s Q E hi st hQ => W.item i s Q E hi st fun v h' tk hP => hQ v h' tk (by simpa using hP), W.done, W.self⟩ ?_
  rw [hsz]
  have : IsRangeIter (s.heap.push { cls := .type "range_iterator", data := .fields #[rawInt 0, rawInt n, rawInt 1] }) s.heap.objs.size 0 n 1 := Heap.get?_push_size _ rfl
  simpa using this
local macro_rules | `(tactic| walk_at "call builtin:len") => `(tactic| (refine PyProof.Rows.len_str (by assumption) ?_))
theorem bound_call {w : World} {d u : Nat} {E : Value → Shared → Prop} {s : Shared} {f : Addr} {x : Str} {t : Tok} {mg mb : Str → Option Value} {Q : Value → Shared → Prop} (G : GL w mg mb s.heap) (hf : IsFn s.heap f 12) (hroom : d < 700) (hx : x.cps.size ≤ 100) (hu : u + 67 < cLine)
    (hok : ∀ j i : Nat, PyData.strOk (ch ((Txt.slice x (some ((j : Int) + 1)) none).cps.getD i 0)) = true)
    (h : ∀ D h' tk ys, s.heap.get? D = none → h'.PlainList D ys → Paired (fun i v => ∃ t, v = Value.int ((bSt x x.cps.size).1.getD i 0 : Nat) t) ((List.range (bSt x x.cps.size).1.length).filter fun i => moreB x ((bSt x x.cps.size).1.getD i 0)) ys.toList → (∀ b o, s.heap.get? b = some o → h'.get? b = some o) → Q (.ref D) { s with heap := h', toks := tk }) :
    wpAny (model prog w) (AA d u) (call (.ref f) [.str x t]) Q E s := by
  refine callFnC (binds := [("text", .str x t)]) hf G.G.nolimit (by omega) (fun _ _ _ => rfl) (fun y hy => .inr (by rw [List.mem_singleton.mp hy]; exact ⟨(by decide +kernel : List.lookup (Str.ofString "text") (nthDef 12).scope.names = some NameKind.cell), rfl⟩)) (by decide +kernel) fun h₁ tk c' cells F NN hcells => ?_
  obtain ⟨oc2, oc1, rfl, hoc2, hoc1⟩ := CellsAre.two (n := "unseen") (n' := "text") (c := s.heap.objs.size + 2) (c' := s.heap.objs.size + 1) hcells
  clear hcells
  have F1 : Fr s.heap s.heap.objs.size h₁ (fun (y : Str) => none) := F
  have hoc1' : oc1.data = .cell (some (.str x t)) := hoc1
  have hoc2' : oc2.data = .cell none := hoc2
  clear F hoc1 hoc2
  obtain ⟨f1, hm1, hf1⟩ := G.G.unseen
  refine wpAny_execs_cons ?_
  w_on
  repeat' (first | walk1 | (dsimp only; walk1))
  rename_i V h3 tk3 vs ov hov hi F3 N3 h4 F4 N4 h5 F5 N5 h6 F6 N6
  have hV2 : V ≠ s.heap.objs.size + 2 := ne_cell (c := s.heap.objs.size + 2) (oc := oc2) N3 (List.mem_cons_self ..) (by (repeat (first | exact List.mem_cons_self .. | apply List.mem_cons_of_mem))) hoc2' (fun v e => by obtain ⟨n, hn⟩ := hov.2; rw [hn] at e; cases e)
  have hB1 : s.heap.objs.size + 1 ≠ h3.objs.size := Nat.ne_of_lt (Heap.lt_size (N3 (s.heap.objs.size + 1, oc1) (by (repeat (first | exact List.mem_cons_self .. | apply List.mem_cons_of_mem)))).1)
  have hB2 : s.heap.objs.size + 2 ≠ h3.objs.size := Nat.ne_of_lt (Heap.lt_size (N3 (s.heap.objs.size + 2, oc2) (by (repeat (first | exact List.mem_cons_self .. | apply List.mem_cons_of_mem)))).1)
  have hVB : V ≠ h3.objs.size := Nat.ne_of_lt (Heap.lt_size (N3 (V, ov) (by (repeat (first | exact List.mem_cons_self .. | apply List.mem_cons_of_mem)))).1)
  refine st_cell (c := s.heap.objs.size + 2) (oc := oc2) F6 N6 (by (repeat (first | exact List.mem_cons_self .. | apply List.mem_cons_of_mem))) hoc2' rfl rfl rfl fun h7 oc2n hoc2n F7 hc7 hk7 => ?_
  have N7 : News s.heap s.heap.objs.size h7 [(h3.objs.size, { cls := .type "list", data := .seq #[] }), (s.heap.objs.size + 1, oc1), (s.heap.objs.size + 2, oc2n), (V, ov)] := fun p hp => by
    simp only [List.mem_cons, List.not_mem_nil, or_false] at hp
    rcases hp with rfl | rfl | rfl | rfl
    · exact ⟨hk7 _ (by (repeat (first | exact List.mem_cons_self .. | apply List.mem_cons_of_mem))) (Ne.symm hB2), (N6 _ (by (repeat (first | exact List.mem_cons_self .. | apply List.mem_cons_of_mem)))).2⟩
    · exact ⟨hk7 _ (by (repeat (first | exact List.mem_cons_self .. | apply List.mem_cons_of_mem))) (fun e => by have : (s.heap.objs.size + 1 : Nat) = s.heap.objs.size + 2 := e; omega), (N6 (s.heap.objs.size + 1, oc1) (by (repeat (first | exact List.mem_cons_self .. | apply List.mem_cons_of_mem)))).2⟩
    · exact ⟨hc7, (N6 (s.heap.objs.size + 2, oc2) (by (repeat (first | exact List.mem_cons_self .. | apply List.mem_cons_of_mem)))).2⟩
    · exact ⟨hk7 _ (by (repeat (first | exact List.mem_cons_self .. | apply List.mem_cons_of_mem))) hV2, (N6 (V, ov) (by (repeat (first | exact List.mem_cons_self .. | apply List.mem_cons_of_mem)))).2⟩
  have hfit : ¬ (x.length : Int) ≥ 2 ^ 63 := by show ¬ ((x.cps.size : Nat) : Int) ≥ 2 ^ 63; omega
  clear hk7 N6 F6 N5 F5 N4 F4 N3 F3 NN F1 hc7
  repeat' ((fail_if_success refine wpAny_For ?_); (first | walk1 | (dsimp only; walk1)))
  rename_i h8 F8 N8 _ _
  have F9 : Fr s.heap s.heap.objs.size h8 (bM none 0 tk3 h3.objs.size) := frCongr F8 (by
    funext y
    by_cases h1 : y = ("bound" : Str)
    · subst h1; rfl
    · by_cases h2 : y = ("slashes" : Str)
      · subst h2; rfl
      · by_cases h4 : y = ("place" : Str)
        · subst h4; rfl
        · simp only [bM, h1, h2, h4, if_false])
  refine wpAny_For (wpAny_post fun Q' hQ' => ?_)
  repeat' (first | walk1 | (dsimp only; walk1))
  rename_i h9 tk9 t1 u1 v1 hr F10 N10 hk10
  have F11 := F10
  have N11 := N10
  have hL9 : s.heap.objs.size < h9.objs.size := F11.ns.lt
  have hn9 : ∀ p ∈ [(h3.objs.size, ({ cls := .type "list", data := .seq #[] } : Obj)), (s.heap.objs.size + 1, oc1), (s.heap.objs.size + 2, oc2n), (V, ov)], p.1 < h9.objs.size := fun p hp => Heap.lt_size (N11 p hp).1
  refine hQ' _ _ (pyIter_rangeL (n := x.cps.size) rfl hr (by omega) fun o St W hst => ?_)
  refine bound_loop (x := x) (tx := t) (V := V) (B := h3.objs.size) (oc1 := oc1) (oc2 := oc2n) (ov := ov) (vs := vs) G hx W hst (Nat.ne_of_gt hL9) ?_ hoc1' hoc2n hov hi hB1 hB2 hVB (Nat.ne_of_gt (hn9 _ (List.mem_cons_self ..))) (F11.keeps fun b o e => Heap.get?_push_of_some _ e) (N11.grown fun b o e => Heap.get?_push_of_some _ e) (fun p hp => Nat.ne_of_lt (hn9 p hp)) ⟨none, 0, tk3, #[], 0, [], rfl, rfl, .nil, rfl⟩ ?_
  · cases e : s.heap.get? h9.objs.size with
    | none => rfl
    | some o => exact absurd (Nat.lt_trans (Heap.lt_size e) hL9) (Nat.lt_irrefl _)
  · rintro h' tkA m' news' F' N' ⟨pl, k, tkB, items, n, bs, rfl, rfl, hbs, hst'⟩
    have hlen := bSt_len x x.cps.size
    have hbs1 : (bSt x x.cps.size).1 = bs := by rw [← hst']
    rw [hbs1] at hlen h
    have hil : items.size = bs.length := by have := hbs.length; simpa using this
    refine wpAny_execs_cons (wpAny_Return_some ?_)
    refine bound_comp (bs := bs) (items := items) (B := h3.objs.size) (V := V) (vs := vs) (x := x) (tx := t) G F' rfl (News.isList N' (List.mem_cons_self ..)) hbs (by omega) ⟨oc1, (N' (s.heap.objs.size + 1, oc1) (by (repeat (first | exact List.mem_cons_self .. | apply List.mem_cons_of_mem)))).1, hoc1'⟩ ⟨oc2n, (N' (s.heap.objs.size + 2, oc2n) (by (repeat (first | exact List.mem_cons_self .. | apply List.mem_cons_of_mem)))).1, hoc2n⟩ ⟨ov, (N' (V, ov) (by (repeat (first | exact List.mem_cons_self .. | apply List.mem_cons_of_mem)))).1, hov⟩ hi hx (by omega) hok fun D hE tkC ys hD hl hP hk => ?_
    refine h D hE tkC ys ?_ hl hP fun b o e => hk b o (F'.keep b o e)
    cases e : s.heap.get? D with
    | none => rfl
    | some o => exact absurd (Heap.lt_size (F'.keep _ _ e)) (Nat.not_lt.mpr hD)
end Mine
end
section
open PySem PySem.W PyProof.Rows PySem.Calls
set_option maxRecDepth 100000
set_option maxHeartbeats 1000000
set_option linter.unusedVariables false
namespace Mine
/-- a generator that is drawn into the list S -/
structure Draw (w : World) (A : Around) (I S : Addr) (n : Nat) (Inv : Nat → List Value → Shared → Prop) (Fin : List Value → Shared → Prop) : Prop where
  ty : ∀ i ys s, Inv i ys s → s.TypeIs (.ref I) "generator"
  ne : S ≠ I
  frame : ∀ i ys (s : Shared) h', Inv i ys s → (∀ b o, b ≠ S → s.heap.get? b = some o → h'.get? b = some o) → Inv i ys { s with heap := h' }
  item : ∀ i ys (s : Shared) (Q : Option Value → Shared → Prop) (E : Value → Shared → Prop) o, i < n → Inv i ys s → s.heap.get? S = some o → (∀ v s', Inv (i + 1) (ys ++ [v]) s' → s'.heap.get? S = some o → Q (some v) s') → wpAny (model prog w) A (pyNext (.ref I)) Q E s
  done : ∀ ys (s : Shared) (Q : Option Value → Shared → Prop) (E : Value → Shared → Prop) o, Inv n ys s → s.heap.get? S = some o → (∀ s', Fin ys s' → s'.heap.get? S = some o → Q none s') → wpAny (model prog w) A (pyNext (.ref I)) Q E s
  self : ∀ ys (s : Shared) (Q : Value → Shared → Prop) (E : Value → Shared → Prop), Inv 0 ys s → Q (.ref I) s → wpAny (model prog w) A (pyIter (.ref I)) Q E s
section
variable {w : World} {A : Around} {I S : Addr} {n : Nat} {Inv : Nat → List Value → Shared → Prop} {Fin : List Value → Shared → Prop} {R : Result → Shared → Prop}
theorem ext_loop (W : Draw w A.in1 I S n Inv Fin) (hn : n ≤ sizeLine) (res : Value) :
    ∀ (k i : Nat) (s : Shared) (acc : Array Value) (c : Nat), n - i = k → i ≤ n → Inv i acc.toList s → acc.size = i → s.heap.get? S = some { cls := .type "list", dict := none, data := .seq acc c, slots := #[] } →
    (∀ s' acc' c', s'.heap.get? S = some { cls := .type "list", dict := none, data := .seq acc' c', slots := #[] } → Fin acc'.toList s' → R (.ok (.ret res)) s') →
    codeAny (model prog w) A (.builtin "list.extend.loop" ⟨[.ref S, .ref I, res], []⟩) R s := by
  intro k
  induction k with
  | zero =>
    intro i s acc c hk hi hst hsz hS hR
    have hin : i = n := by omega
    subst hin
    refine codeAny_builtin PySem.F.entry_extend_loop ?_
    rw [Around.under_plainId PySem.F.plain_extend_loop _]
    show wpAny _ A.in1 (pyNext (.ref I) >>= _) _ _ s
    refine wpAny_bind (W.done _ s _ _ _ hst hS fun s' hf hS' => ?_)
    exact wpAny_pure (hR s' acc c hS' hf)
  | succ k ih =>
    intro i s acc c hk hi hst hsz hS hR
    have hlt : i < n := by omega
    refine codeAny_builtin PySem.F.entry_extend_loop ?_
    rw [Around.under_plainId PySem.F.plain_extend_loop _]
    show wpAny _ A.in1 (pyNext (.ref I) >>= _) _ _ s
    refine wpAny_bind (W.item i _ s _ _ _ hlt hst hS fun v s' hst' hS' => ?_)
    show wpAny _ A.in1 (updateSeq S (·.push v) >>= _) _ _ _
    refine wpAny_bind ?_
    refine wpAny_updateSeq hS' rfl (wpAny_pure ⟨plainId_quiet PySem.F.plain_extend_loop _, ih (i + 1) _ (acc.push v) _ (by omega) hlt (by rw [Array.toList_push]; exact W.frame _ _ s' _ hst' fun b o hb e => (Heap.get?_update_other _ _ (Ne.symm hb)).trans e) (by rw [Array.size_push, hsz]) (Heap.get?_update_self _ hS' rfl) hR⟩)
      (by rw [hsz]; omega) (by show (acc.push v).size ≤ sizeLine + 1; rw [Array.size_push, hsz]; omega)
theorem ext_gen {s : Shared} (W : Draw w A.in1 I S n Inv Fin) (res : Value) (c₀ : Nat) (hst : Inv 0 [] s) (hS : s.heap.get? S = some { cls := .type "list", data := .seq #[] c₀ })
    (hR : ∀ s' acc' c', s'.heap.get? S = some { cls := .type "list", dict := none, data := .seq acc' c', slots := #[] } → Fin acc'.toList s' → R (.ok (.ret res)) s') (hn : n ≤ sizeLine) :
    wpAny (model prog w) A.in1 (Builtin.List.listExtendWith (.ref S) (.ref I) res)
      (fun fin s' => match fin with | .done f => R (.ok f) s' | .again c' => c'.quiet = true ∧ codeAny (model prog w) A c' R s') (fun e s' => R (.error e) s') s := by
  have hSI : S ≠ I := W.ne
  unfold Builtin.List.listExtendWith
  refine wpAny_bind (wpAny_typeOf (W.ty 0 _ _ hst) ?_)
  have h1 : Builtin.List.listSameRef (.ref S) (.ref I) = false := by simp [Builtin.List.listSameRef, hSI]
  have h2 : (Value.type "generator" == Value.type "list") = false := by decide
  have h3 : (Value.type "generator" == Value.type "tuple") = false := by decide
  simp only [h1, h2, h3, Bool.or_false, Bool.false_eq_true, if_false]
  refine wpAny_bind (W.self _ _ _ _ hst ?_)
  refine wpAny_bind (wpAny_holding ?_)
  unfold Builtin.List.listLengthHint
  refine wpAny_bind (wpAny_specialOf (W.ty 0 _ _ hst) PySem.F.gen_no_len ?_)
  show wpAny _ A.in1 (specialOf (Value.ref I) (Str.ofString "__length_hint__") >>= _) _ _ _
  refine wpAny_bind (wpAny_specialOf (W.ty 0 _ _ hst) PySem.F.gen_no_hint ?_)
  refine wpAny_pure ?_
  show wpAny _ A.in1 (rule "list.extend.makes-room" >>= fun _ => Builtin.List.listTouch (.ref S) >>= fun _ =>
    again (.builtin "list.extend.loop" ⟨[.ref S, .ref I, res], []⟩)) _ _ _
  refine wpAny_bind (wpAny_rule ?_)
  refine wpAny_bind ?_
  show wpAny _ A.in1 (updateSeq S (·.push .none) >>= fun _ => updateSeq S (·.pop)) _ _ _
  refine wpAny_bind (wpAny_updateSeq hS rfl ?_)
  have hS₂ := Heap.get?_update_self (Obj.mapSeq (·.push Value.none)) hS rfl
  refine wpAny_updateSeq (hz := by seq_fits) hS₂ rfl ?_
  have hS₃ := Heap.get?_update_self (Obj.mapSeq (·.pop)) hS₂ rfl
  have oth : ∀ b o, b ≠ S → s.heap.get? b = some o → ((s.heap.update S (Obj.mapSeq (·.push Value.none))).update S (Obj.mapSeq (·.pop))).get? b = some o :=
    fun b o hb e => (Heap.get?_update_other _ _ (Ne.symm hb)).trans ((Heap.get?_update_other _ _ (Ne.symm hb)).trans e)
  exact wpAny_pure ⟨plainId_quiet PySem.F.plain_extend_loop _, ext_loop W hn res n 0 _ #[] _ rfl (Nat.zero_le _) (W.frame 0 _ s _ hst oth) rfl hS₃ hR⟩
theorem list_gen {s : Shared} {E : Value → Shared → Prop} {Q : Value → Shared → Prop} (W : Draw w A.in1.in1 I s.heap.objs.size n Inv Fin) (hst : Inv 0 [] { s with heap := s.heap.push { cls := .type "list", data := .seq #[] } }) (hn : n ≤ sizeLine)
    (hQ : ∀ s' acc' c', s'.heap.get? s.heap.objs.size = some { cls := .type "list", dict := none, data := .seq acc' c', slots := #[] } → Fin acc'.toList s' → Q (.ref s.heap.objs.size) s') : wpAny (model prog w) A (call (.type "list") [.ref I]) Q E s := by
  refine callType_codes (Q₁ := fun obj s₁ => obj = .ref s.heap.objs.size ∧ s₁ = { s with heap := s.heap.push { cls := .type "list", data := .seq #[] } }) PySem.F.called_list (PySem.F.typeCall_list_1 _) PySem.F.entry_list_init
    (code_list_new _ ⟨rfl, rfl⟩) fun obj s₁ h₁ => ?_
  obtain ⟨rfl, rfl⟩ := h₁
  have hS : (s.heap.push { cls := .type "list", data := .seq #[] }).get? s.heap.objs.size = some { cls := .type "list", data := .seq #[] } := Heap.get?_push_size _ rfl
  refine ⟨⟨_, hS, rfl⟩, PySem.F.args_list_init_2 _ _, ?_⟩
  show wpAny _ A.in1.in1 (do let old ← Builtin.List.listItems (.ref s.heap.objs.size); Builtin.List.listUpdate (.ref s.heap.objs.size) (fun _ => #[]); letGo old.toList.reverse; Builtin.List.listExtendWith (.ref s.heap.objs.size) (.ref I) .none) _ _ _
  refine wpAny_bind ?_
  unfold Builtin.List.listItems
  refine wpAny_bind (wpAny_seqItems hS rfl (wpAny_pure ?_))
  show wpAny _ A.in1.in1 (updateSeq s.heap.objs.size (fun _ => #[]) >>= fun _ => letGo (#[] : Array Value).toList.reverse >>= fun _ => Builtin.List.listExtendWith (.ref s.heap.objs.size) (.ref I) .none) _ _ _
  refine wpAny_bind (wpAny_updateSeq hS rfl ?_)
  have hS₂ := Heap.get?_update_self (Obj.mapSeq (fun _ => (#[] : Array Value))) hS rfl
  refine wpAny_bind (wpAny_letGo ?_)
  refine ext_gen W .none _ (W.frame 0 _ _ _ hst fun b o hb e => (Heap.get?_update_other _ _ (Ne.symm hb)).trans e) hS₂ (fun s' acc' c' h1 h2 => ?_) hn
  exact ⟨rfl, hQ s' acc' c' h1 h2⟩
end
end Mine
end
section
open PySem PySem.W PyProof.Rows PySem.Calls
set_option maxRecDepth 100000
set_option maxHeartbeats 1000000
set_option linter.unusedVariables false
namespace Mine
section
variable {M : Model} {A : Around} {R : GenEnd} {Y : Protocol} {n : Nat} {s₀ : Shared} {c : Code} {fs : List Frame} {s : Shared} {env : Env}
  {K : Flow → Sem Fin} {H : Value → Sem Fin} {gd : Bool → Bool} {lv : List Value → List Value}
theorem bind_wrap {α β : Type} (m : Sem α) (f : α → Sem β) (K : β → Sem Fin) (H : Value → Sem Fin) (gd : Bool → Bool) (lv : List Value → List Value) : (m >>= f).wrap K H gd lv = m.wrap (fun a => (f a).wrap K H gd lv) H gd lv := by
  rw [Sem.bind_eq_wrap', Sem.wrap_wrap]; rfl
/-- a piece that raises nothing -/
theorem seg_piece {α : Type} {m : Sem α} {K : α → Sem Fin} (h : wpAny M (A.over c fs) m (fun a s' => Seg M A R Y n s₀ c (K a) fs s') (fun _ _ => False) s) : Seg M A R Y n s₀ c (m.wrap K H gd lv) fs s :=
  seg_wrap (wpAny_mono h (fun _ _ x => x) fun _ _ x => x.elim)
theorem seg_If {test : Expr} {body orelse : List Stmt} {pos : Pos}
    (h : wpAny M (A.over c fs) (isTrue test env (eval test env)) (fun b s' => Seg M A R Y n s₀ c ((execs (if b = true then body else orelse) env).wrap K H gd lv) fs s') (fun _ _ => False) s) :
    Seg M A R Y n s₀ c ((exec (.If test body orelse pos) env).wrap K H gd lv) fs s := by
  rw [exec_If, bind_wrap]
  refine seg_piece (wpAny_standAt ?_)
  rw [bind_wrap]
  refine seg_piece (wpAny_mono h (fun b s' hb => ?_) fun _ _ x => x)
  cases b <;> exact hb
theorem seg_For {target iter : Expr} {body orelse : List Stmt} {pos : Pos}
    (h : wpAny M (A.over c fs) (eval iter env) (fun x s₁ => wpAny M (A.over c fs) (pyIter x) (fun it s₂ => ∀ p, Seg M A R Y n s₀ (.forLoop target it body orelse env) (M.den (.forLoop target it body orelse env))
      (.ret (fun r => ((match r with | .ok f => (.pure f : Sem Flow) | .error e => .raise e).onRaise fun (x : Value) => do
        if (← field x 1) == Value.none then unsupported "frame.own-activation:exception-without-traceback"
        setFlight x env.frame).wrap K H gd lv) none (gd false) (lv []) c p [] :: fs) s₂) (fun _ _ => False) s₁) (fun _ _ => False) s)
    (hs : ∀ x, foldedSetIterable iter env x = pure x := by intro _; rfl) : Seg M A R Y n s₀ c ((exec (.For target iter body orelse pos) env).wrap K H gd lv) fs s := by
  rw [exec_For, bind_wrap]
  refine seg_piece (wpAny_standAt ?_)
  rw [bind_wrap]
  refine seg_piece (wpAny_mono h (fun x s₁ h₁ => ?_) fun _ _ e => e)
  rw [bind_wrap]
  refine seg_piece (wpAny_of_eq (hs x) ?_)
  rw [bind_wrap]
  refine seg_piece (wpAny_standAt ?_)
  rw [bind_wrap]
  refine seg_piece (wpAny_holding (wpAny_mono h₁ (fun it s₂ h₂ => ?_) fun _ _ e => e))
  exact seg_call h₂
end
section
variable {w : World} {A : Around} {R : GenEnd} {Y : Protocol} {n : Nat} {s₀ : Shared} {fs : List Frame} {s : Shared} {env : Env}
/-- what a turn's body goes on with -/
noncomputable abbrev turnK (target : Expr) (it : Value) (body : List Stmt) (env : Env) : Flow → Sem Fin := fun f => match f with
  | .next | .cont => .pure (.again (.forLoop target it body [] env))
  | .brk => .pure (.done .next)
  | .ret v => .pure (.done (.ret v))
noncomputable abbrev turnH (env : Env) : Value → Sem Fin := fun e => (do noteFrame e env; theTreesLotGoes e : Sem Unit).wrap (fun _ => .raise e) .raise id id
theorem seg_forLoop {target : Expr} {it : Value} {body : List Stmt}
    (h : wpAny (model prog w) (A.over (.forLoop target it body [] env) fs) (pyNext it) (fun r s₁ => match r with
      | none => Seg (model prog w) A R Y n s₀ (.forLoop target it body [] env) (.pure (.again (.block [] env))) fs s₁
      | some v => wpAny (model prog w) (A.over (.forLoop target it body [] env) fs) (letOwnedTupleGo target it v) (fun _ s₂ => wpAny (model prog w) (A.over (.forLoop target it body [] env) fs) (assign target env v) (fun _ s₃ =>
          Seg (model prog w) A R Y n s₀ (.forLoop target it body [] env) ((execs body env).wrap (turnK target it body env) (turnH env) id id) fs s₃) (fun _ _ => False) s₂) (fun _ _ => False) s₁) (fun _ _ => False) s) :
    Seg (model prog w) A R Y n s₀ (.forLoop target it body [] env) ((model prog w).den (.forLoop target it body [] env)) fs s := by
  show Seg _ A R Y n s₀ _ ((forTurn target it body [] env).onRaise (fun x => do noteFrame x env; theTreesLotGoes x)) fs s
  unfold forTurn
  rw [Sem.onRaise_eq_wrap, bind_wrap]
  refine seg_piece (wpAny_standAt ?_)
  rw [bind_wrap]
  refine seg_piece (wpAny_onRaise (wpAny_mono h (fun r s₁ h₁ => ?_) fun _ _ e => e.elim))
  cases r with
  | none => exact h₁
  | some v =>
    dsimp only
    rw [bind_wrap]
    refine seg_piece (wpAny_mono h₁ (fun _ s₂ h₂ => ?_) fun _ _ e => e)
    rw [bind_wrap]
    refine seg_piece (wpAny_mono h₂ (fun _ s₃ h₃ => ?_) fun _ _ e => e)
    rw [bind_wrap]
    rw [Sem.wrap_congr (execs body env) _ _ (K' := turnK target it body env) (H' := turnH env) (fun f => by cases f <;> rfl) (fun e => Sem.bind_eq_wrap _ _)]
    exact h₃
end
end Mine
end
section
open PySem PySem.W PyProof.Rows PySem.Calls
set_option maxRecDepth 100000
set_option maxHeartbeats 1000000
set_option linter.unusedVariables false
namespace Mine
/-- what the generator tells of the signs left -/
noncomputable def iterU : List Nat → Nat → Bool → List (Int × Str)
  | [], _, false => []
  | [], i, true => [((i : Int) - 1, Str.ofString "\\")]
  | c :: l, i, true => ((i : Int), Str.ofString "\\" ++ ch c) :: iterU l (i + 1) false
  | c :: l, i, false => if c = 92 then iterU l (i + 1) true else ((i : Int), ch c) :: iterU l (i + 1) false
noncomputable def gSt (k : Nat) : Stmt := ((nthDef 1).body[k]?).getD (.Pass default)
noncomputable def forTarget : Stmt → Expr
  | .For t _ _ _ _ => t
  | _ => .Constant .none 0 default
noncomputable def forIter : Stmt → Expr
  | .For _ t _ _ _ => t
  | _ => .Constant .none 0 default
noncomputable def forBody : Stmt → List Stmt
  | .For _ _ b _ _ => b
  | _ => []
noncomputable def ifTest : Stmt → Expr
  | .If t _ _ _ => t
  | _ => .Constant .none 0 default
noncomputable def ifThen : Stmt → List Stmt
  | .If _ b _ _ => b
  | _ => []
noncomputable def ifElse : Stmt → List Stmt
  | .If _ _ b _ => b
  | _ => []
noncomputable def stPos : Stmt → Pos
  | .If _ _ _ p => p
  | .For _ _ _ _ p => p
  | .Expr _ p => p
  | _ => default
noncomputable def stYield : Stmt → Expr
  | .Expr (.Yield (some e) _) _ => e
  | _ => .Constant .none 0 default
noncomputable def yPos : Stmt → Pos
  | .Expr (.Yield (some _) p) _ => p
  | _ => default
noncomputable def hd (l : List Stmt) : Stmt := (l[0]?).getD (.Pass default)
noncomputable def snd (l : List Stmt) : Stmt := (l[1]?).getD (.Pass default)
noncomputable def gFor : Stmt := gSt 2
noncomputable def gIf1 : Stmt := hd (forBody gFor)
noncomputable def gIf2 : Stmt := hd (ifElse gIf1)
noncomputable def gIf3 : Stmt := gSt 3
noncomputable abbrev gEnv (L f c' : Addr) : Env := envOf (nthDef 1).name (nthDef 1).scope L f (.ref c')
theorem gBody_eq : (nthDef 1).body = [gSt 0, gSt 1, gFor, gIf3] := rfl
theorem gFor_eq : gFor = .For (forTarget gFor) (forIter gFor) (forBody gFor) [] (stPos gFor) := rfl
theorem gForB_eq : forBody gFor = [gIf1] := rfl
theorem gIf1_eq : gIf1 = .If (ifTest gIf1) [hd (ifThen gIf1), snd (ifThen gIf1)] [gIf2] (stPos gIf1) := rfl
theorem gIf2_eq : gIf2 = .If (ifTest gIf2) [hd (ifThen gIf2)] [hd (ifElse gIf2)] (stPos gIf2) := rfl
theorem gIf3_eq : gIf3 = .If (ifTest gIf3) [hd (ifThen gIf3)] [] (stPos gIf3) := rfl
theorem gY1_eq : hd (ifThen gIf1) = .Expr (.Yield (some (stYield (hd (ifThen gIf1)))) (yPos (hd (ifThen gIf1)))) (stPos (hd (ifThen gIf1))) := rfl
theorem gY2_eq : hd (ifElse gIf2) = .Expr (.Yield (some (stYield (hd (ifElse gIf2)))) (yPos (hd (ifElse gIf2)))) (stPos (hd (ifElse gIf2))) := rfl
theorem gY3_eq : hd (ifThen gIf3) = .Expr (.Yield (some (stYield (hd (ifThen gIf3)))) (yPos (hd (ifThen gIf3)))) (stPos (hd (ifThen gIf3))) := rfl
noncomputable abbrev gM (x : Str) (tx : Tok) (p : Int) (tp : Tok) (e : Bool) (chv : Option Value) : Str → Option Value :=
  fun (y : Str) => if y = ("ch" : Str) then chv else if y = ("pos" : Str) then some (Value.int p tp) else if y = ("escape" : Str) then some (Value.bool e) else if y = ("addr" : Str) then some (Value.str x tx) else none
theorem keepsC_of' {h₀ : Heap} {C : Addr} {m m' : Str → Option Value} {u : Shared} {h' : Heap} {tk : Nat} {news : List (Addr × Obj)} (F : Fr h₀ C u.heap m) (F' : Fr h₀ C h' m') (N' : News h₀ C h' news) (hs : ∀ p ∈ allOwn h₀ C u.heap, p ∈ news) : KeepsC C m' u { u with heap := h', toks := tk } := by
  refine ⟨h', tk, rfl, fun b o hb e => ?_, F'.ns⟩
  cases hn : h₀.get? b with
  | some o' =>
    have := F.keep b o' hn
    rw [e] at this; cases this
    exact F'.keep b o hn
  | none => exact (N' _ (hs _ (mem_allOwn hb hn e))).1
theorem gM_set (x : Str) (tx : Tok) (p : Int) (tp : Tok) (e e' : Bool) (chv : Option Value) : (fun y => if y = ("escape" : Str) then some (Value.bool e') else gM x tx p tp e chv y) = gM x tx p tp e' chv := by
  funext y
  by_cases h1 : y = ("ch" : Str)
  · subst h1; rfl
  · by_cases h2 : y = ("pos" : Str)
    · subst h2; rfl
    · by_cases h3 : y = ("escape" : Str)
      · subst h3; rfl
      · simp only [gM, h1, h2, h3, if_false]
theorem fresh_own (s : Shared) : s.heap.get? s.heap.objs.size = none := by
  cases q : s.heap.get? s.heap.objs.size with
  | none => rfl
  | some o => exact absurd (Heap.lt_size q) (Nat.lt_irrefl _)
theorem KeepsC.congr {C : Addr} {m m' : Str → Option Value} {u u₁ : Shared} (K : KeepsC C m u u₁) (e : m = m') : KeepsC C m' u u₁ := e ▸ K
section
variable {w : World} {d u : Nat} {E : Value → Shared → Prop} {s : Shared} {f c' : Addr} {h₀ : Heap} {L : Addr} {x : Str} {tx tp : Tok} {p : Int} {e : Bool} {chv : Option Value}
theorem g_test1 (F : Fr h₀ L s.heap (gM x tx p tp e chv)) : wpAny (model prog w) (AA d u) (isTrue (ifTest gIf1) (gEnv L f c') (eval (ifTest gIf1) (gEnv L f c'))) (fun b s' => b = e ∧ KeepsC L (gM x tx p tp e chv) s s') E s := by
  have NN : News h₀ L s.heap (allOwn h₀ L s.heap) := allOwn_news
  refine wpAny_post fun Q hQ => ?_
  conv in (isTrue _ _ _) => arg 1; whnf
  conv in (eval _ _) => arg 1; whnf
  w_on
  repeat' (first | walk1 | (dsimp only; walk1))
  exact hQ _ _ ⟨rfl, ⟨s.heap, s.toks, rfl, fun _ _ _ z => z, F.ns⟩⟩
theorem g_test3 (F : Fr h₀ L s.heap (gM x tx p tp e chv)) : wpAny (model prog w) (AA d u) (isTrue (ifTest gIf3) (gEnv L f c') (eval (ifTest gIf3) (gEnv L f c'))) (fun b s' => b = e ∧ KeepsC L (gM x tx p tp e chv) s s') E s := by
  refine wpAny_post fun Q hQ => ?_
  conv in (isTrue _ _ _) => arg 1; whnf
  conv in (eval _ _) => arg 1; whnf
  w_on
  repeat' (first | walk1 | (dsimp only; walk1))
  exact hQ _ _ ⟨rfl, ⟨s.heap, s.toks, rfl, fun _ _ _ z => z, F.ns⟩⟩
theorem g_test2 {c : Nat} {t : Tok} (F : Fr h₀ L s.heap (gM x tx p tp e (some (.str (ch c) t)))) : wpAny (model prog w) (AA d u) (isTrue (ifTest gIf2) (gEnv L f c') (eval (ifTest gIf2) (gEnv L f c'))) (fun b s' => b = decide (c = 92) ∧ KeepsC L (gM x tx p tp e (some (.str (ch c) t))) s s') E s := by
  refine wpAny_post fun Q hQ => ?_
  have hc : (ch c == Str.ofString "\\") = decide (c = 92) := by
    cases h : (ch c == Str.ofString "\\")
    · rw [decide_eq_false (nch92 h)]
    · rw [decide_eq_true (ch92 h)]
  conv in (isTrue _ _ _) => arg 1; whnf
  conv in (eval _ _) => arg 1; whnf
  w_on
  repeat' (first | walk1 | (dsimp only; walk1))
  exact hQ _ _ ⟨hc, ⟨s.heap, _, rfl, fun _ _ _ z => z, F.ns⟩⟩
theorem g_set0 (F : Fr h₀ L s.heap (gM x tx p tp e chv)) : wpAny (model prog w) (AA d u) (exec (snd (ifThen gIf1)) (gEnv L f c')) (fun fl s' => fl = .next ∧ KeepsC L (gM x tx p tp false chv) s s') E s := by
  have NN : News h₀ L s.heap (allOwn h₀ L s.heap) := allOwn_news
  refine wpAny_post fun Q hQ => ?_
  conv in (exec _ _) => arg 1; whnf
  w_on
  repeat' (first | walk1 | (dsimp only; walk1))
  rename_i h1 F1 N1
  exact hQ _ _ ⟨rfl, (keepsC_of' F F1 N1 fun p hp => hp).congr (gM_set x tx p tp e false chv)⟩
theorem g_set1 (F : Fr h₀ L s.heap (gM x tx p tp e chv)) : wpAny (model prog w) (AA d u) (exec (hd (ifThen gIf2)) (gEnv L f c')) (fun fl s' => fl = .next ∧ KeepsC L (gM x tx p tp true chv) s s') E s := by
  have NN : News h₀ L s.heap (allOwn h₀ L s.heap) := allOwn_news
  refine wpAny_post fun Q hQ => ?_
  conv in (exec _ _) => arg 1; whnf
  w_on
  repeat' (first | walk1 | (dsimp only; walk1))
  rename_i h1 F1 N1
  exact hQ _ _ ⟨rfl, (keepsC_of' F F1 N1 fun p hp => hp).congr (gM_set x tx p tp e true chv)⟩
theorem g_elt1 {c : Nat} {t : Tok} (F : Fr h₀ L s.heap (gM x tx p tp e (some (.str (ch c) t)))) : wpAny (model prog w) (AA d u) (eval (stYield (hd (ifThen gIf1))) (gEnv L f c'))
    (fun y s' => (∃ ts, PairIs (p, Str.ofString "\\" ++ ch c) y ts ∧ ∀ q ∈ ts, s.heap.get? q.1 = none ∧ s'.heap.get? q.1 = some q.2) ∧ KeepsC L (gM x tx p tp e (some (.str (ch c) t))) s s') E s := by
  have NN : News h₀ L s.heap (allOwn h₀ L s.heap) := allOwn_news
  refine wpAny_post fun Q hQ => ?_
  conv in (eval _ _) => arg 1; whnf
  w_on
  repeat' (first | walk1 | (dsimp only; walk1))
  refine PyProof.Rows.add_str (fun h1 tk1 => ?_) (by show (Str.ofString "\\").length + 1 ≤ sizeLine; decide +kernel)
  dsimp only
  repeat' (first | walk1 | (dsimp only; walk1))
  rename_i h2 F1 N1
  exact hQ _ _ (pair_done F F1 N1 (fun p hp => hp) (fresh_own s) rfl)
theorem g_elt2 {c : Nat} {t : Tok} (F : Fr h₀ L s.heap (gM x tx p tp e (some (.str (ch c) t)))) : wpAny (model prog w) (AA d u) (eval (stYield (hd (ifElse gIf2))) (gEnv L f c'))
    (fun y s' => (∃ ts, PairIs (p, ch c) y ts ∧ ∀ q ∈ ts, s.heap.get? q.1 = none ∧ s'.heap.get? q.1 = some q.2) ∧ KeepsC L (gM x tx p tp e (some (.str (ch c) t))) s s') E s := by
  have NN : News h₀ L s.heap (allOwn h₀ L s.heap) := allOwn_news
  refine wpAny_post fun Q hQ => ?_
  conv in (eval _ _) => arg 1; whnf
  w_on
  repeat' (first | walk1 | (dsimp only; walk1))
  rename_i h1 F1 N1
  exact hQ _ _ (pair_done F F1 N1 (fun p hp => hp) (fresh_own s) rfl)
theorem g_elt3 (F : Fr h₀ L s.heap (gM x tx p tp e chv)) : wpAny (model prog w) (AA d u) (eval (stYield (hd (ifThen gIf3))) (gEnv L f c'))
    (fun y s' => (∃ ts, PairIs (p, Str.ofString "\\") y ts ∧ ∀ q ∈ ts, s.heap.get? q.1 = none ∧ s'.heap.get? q.1 = some q.2) ∧ KeepsC L (gM x tx p tp e chv) s s') E s := by
  have NN : News h₀ L s.heap (allOwn h₀ L s.heap) := allOwn_news
  refine wpAny_post fun Q hQ => ?_
  conv in (eval _ _) => arg 1; whnf
  w_on
  repeat' (first | walk1 | (dsimp only; walk1))
  rename_i h1 F1 N1
  exact hQ _ _ (pair_done F F1 N1 (fun p hp => hp) (fresh_own s) rfl)
noncomputable abbrev gM0 (x : Str) (tx : Tok) : Str → Option Value := fun (y : Str) => if y = ("addr" : Str) then some (Value.str x tx) else none
theorem gM_zero (x : Str) (tx tp : Tok) : (fun y => if y = ("escape" : Str) then some (Value.bool false) else if y = ("pos" : Str) then some (Value.int 0 tp) else gM0 x tx y) = gM x tx 0 tp false none := by
  funext y
  by_cases h1 : y = ("ch" : Str)
  · subst h1; rfl
  · by_cases h2 : y = ("pos" : Str)
    · subst h2; rfl
    · by_cases h3 : y = ("escape" : Str)
      · subst h3; rfl
      · simp only [gM, gM0, h1, h2, h3, if_false]
theorem g_start0 (F : Fr h₀ L s.heap (gM0 x tx)) : wpAny (model prog w) (AA d u) (exec (gSt 0) (gEnv L f c')) (fun fl s' => fl = .next ∧ ∃ tp, KeepsC L (fun y => if y = ("pos" : Str) then some (Value.int 0 tp) else gM0 x tx y) s s') E s := by
  have NN : News h₀ L s.heap (allOwn h₀ L s.heap) := allOwn_news
  refine wpAny_post fun Q hQ => ?_
  conv in (exec _ _) => arg 1; whnf
  w_on
  repeat' (first | walk1 | (dsimp only; walk1))
  rename_i h1 F1 N1
  exact hQ _ _ ⟨rfl, _, (keepsC_of' F F1 N1 fun p hp => hp)⟩
theorem g_start1 (F : Fr h₀ L s.heap (fun y => if y = ("pos" : Str) then some (Value.int 0 tp) else gM0 x tx y)) : wpAny (model prog w) (AA d u) (exec (gSt 1) (gEnv L f c')) (fun fl s' => fl = .next ∧ KeepsC L (gM x tx 0 tp false none) s s') E s := by
  have NN : News h₀ L s.heap (allOwn h₀ L s.heap) := allOwn_news
  refine wpAny_post fun Q hQ => ?_
  conv in (exec _ _) => arg 1; whnf
  w_on
  repeat' (first | walk1 | (dsimp only; walk1))
  rename_i h1 F1 N1
  exact hQ _ _ ⟨rfl, (keepsC_of' F F1 N1 fun p hp => hp).congr (gM_zero x tx tp)⟩
end
local macro_rules | `(tactic| walk_at "eval Name") => `(tactic| (refine nm_biF (by assumption) (GL.G (by assumption)) (by decide) (by boot_by_name) ?_))
local macro_rules | `(tactic| walk_at "call type:enumerate") => `(tactic| (refine call_enumerate_str ?_; intro _ _ _ _ _))
theorem g_iter {w : World} {d u : Nat} {E : Value → Shared → Prop} {s : Shared} {f c' : Addr} {h₀ : Heap} {L : Addr} {x : Str} {tx tp : Tok} {mg mb : Str → Option Value} (G : GL w mg mb h₀) (F : Fr h₀ L s.heap (gM x tx 0 tp false none)) : wpAny (model prog w) (AA d u) (eval (forIter gFor) (gEnv L f c'))
    (fun y s' => y = .ref (s.heap.objs.size + 1) ∧ ∃ h', s' = { s with heap := h' } ∧ IsEnum h' (s.heap.objs.size + 1) s.heap.objs.size 0 .none ∧ h'.IsStrIter s.heap.objs.size (strIterType x) x tx 0 ∧ (∀ b o, s.heap.get? b = some o → h'.get? b = some o)) E s := by
  refine wpAny_post fun Q hQ => ?_
  conv in (eval _ _) => arg 1; whnf
  w_on
  repeat' (first | walk1 | (dsimp only; walk1))
  rename_i h1 hE hI hsz hk
  exact hQ _ _ ⟨rfl, h1, rfl, hE, hI, hk⟩
end Mine
end
section
open PySem PySem.W PyProof.Rows PySem.Calls
set_option maxRecDepth 100000
set_option maxHeartbeats 1000000
set_option linter.unusedVariables false
namespace Mine
/-- what a run of the generator keeps -/
noncomputable def Since (B L : Addr) (s₀ s : Shared) : Prop := ∃ h' tk, s = { s₀ with heap := h', toks := tk } ∧ ∀ b o, b ≠ L → (b < B ∨ o.cls = .type "tuple") → s₀.heap.get? b = some o → h'.get? b = some o
theorem Since.rfl' (B L : Addr) (s : Shared) : Since B L s s := ⟨s.heap, s.toks, rfl, fun _ _ _ _ e => e⟩
theorem Since.step {B L : Addr} {s₀ s : Shared} (x : Since B L s₀ s) {h' : Heap} {tk : Nat} (hk : ∀ b o, b ≠ L → (b < B ∨ o.cls = .type "tuple") → s.heap.get? b = some o → h'.get? b = some o) : Since B L s₀ { s with heap := h', toks := tk } := by
  obtain ⟨h₁, tk₁, rfl, hk₁⟩ := x
  exact ⟨h', tk, rfl, fun b o hL hb e => hk b o hL hb (hk₁ b o hL hb e)⟩
theorem Since.keepsC {B L : Addr} {s₀ s s' : Shared} {m : Str → Option Value} (x : Since B L s₀ s) (K : KeepsC L m s s') : Since B L s₀ s' := by
  obtain ⟨h', tk, rfl, hk, _⟩ := K
  exact x.step fun b o hL _ e => hk b o hL e
theorem frKeepsC {h₀ : Heap} {L : Addr} {m m' : Str → Option Value} {s s' : Shared} (F : Fr h₀ L s.heap m) (K : KeepsC L m' s s') : Fr h₀ L s'.heap m' := by
  obtain ⟨h', tk, rfl, hk, hn⟩ := K
  exact ⟨hn, fun b o e => hk b o (Nat.ne_of_lt (Nat.lt_of_lt_of_le (Heap.lt_size e) F.above)) (F.keep b o e), F.above⟩
theorem KeepsC.live {L : Addr} {m : Str → Option Value} {s s' : Shared} {S : Addr} (K : KeepsC L m s s') (hS : ∃ o, s.heap.get? S = some o) (hne : S ≠ L) : ∃ o, s'.heap.get? S = some o := by
  obtain ⟨h', tk, rfl, hk, hn⟩ := K
  obtain ⟨o, e⟩ := hS
  exact ⟨o, hk _ _ hne e⟩
noncomputable def gProto (h₀ : Heap) (all : List (Int × Str)) (B L S : Addr) : Protocol := fun m s₀ v s kap =>
  (∃ e, all[all.length - 1 - m]? = some e ∧ ∃ ts, PairIs e v ts ∧ ∀ q ∈ ts, q.1 ≠ S ∧ q.1 ≠ L ∧ h₀.get? q.1 = none ∧ s.heap.get? q.1 = some q.2) ∧ Since B L s₀ s ∧
    ∀ s'' : Shared, (∀ b o, b ≠ S → s.heap.get? b = some o → s''.heap.get? b = some o) → (∃ o, s''.heap.get? S = some o) → kap (.send .none) s''
noncomputable def gEnd (B L : Addr) : GenEnd := fun n s₀ r s₁ => r = .ok (.ret .none) ∧ n = 0 ∧ Since B L s₀ s₁
/-- what the body of the function ends with -/
noncomputable abbrev fK : Flow → Sem Fin := fun f => .pure (.done (.ret (match f with | .ret v => v | _ => .none)))
noncomputable abbrev fH (env : Env) : Value → Sem Fin := fun e => (leaving env e).wrap (fun _ => .raise e) .raise id id
theorem over_func {w : World} {d u : Nat} {α : Type} {t : Sem α} {Q : α → Shared → Prop} {E : Value → Shared → Prop} {s : Shared} {env : Env} {b : List Stmt} (h : wpAny (model prog w) (AA (d + 9) (u + 30)) t Q E s) : wpAny (model prog w) ((AA d u).over (.func b env) []) t Q E s :=
  wpAny_weak h rfl (by show d + 0 + (Code.func b env).weight ≤ d + 9; have : (Code.func b env).weight ≤ 9 := by (show 1 + 0 + 0 + 0 ≤ 9; decide)
                       omega) (by show u + 0 + (Code.func b env).cUnits ≤ u + 30; have : (Code.func b env).cUnits ≤ 30 := by (show 3 * 1 ≤ 30; decide)
                                  omega)
theorem over_loop {w : World} {d u : Nat} {α : Type} {t : Sem α} {Q : α → Shared → Prop} {E : Value → Shared → Prop} {s : Shared} {env : Env} {b bb : List Stmt} {tt : Expr} {it : Value} {k : Result → Sem Fin} {p : Pos} (h : wpAny (model prog w) (AA (d + 9) (u + 30)) t Q E s) :
    wpAny (model prog w) ((AA d u).over (.forLoop tt it bb [] env) [.ret k none false [] (.func b env) p []]) t Q E s :=
  wpAny_weak h rfl (by show d + frameCount [(Code.func b env, p)] + (Code.forLoop tt it bb [] env).weight ≤ d + 9
                       have h1 : frameCount [(Code.func b env, p)] ≤ 5 := by (show 1 + 0 + 0 + 0 + 0 ≤ 5; decide)
                       have h2 : (Code.forLoop tt it bb [] env).weight ≤ 4 := by (show 0 + 0 + 0 + 0 ≤ 4; decide)
                       omega)
    (by show u + unitsOf [(Code.func b env, p)] + (Code.forLoop tt it bb [] env).cUnits ≤ u + 30
        have h1 : unitsOf [(Code.func b env, p)] ≤ 20 := by (show 3 * 1 + 0 ≤ 20; decide)
        have h2 : (Code.forLoop tt it bb [] env).cUnits ≤ 10 := by (show 3 * 0 ≤ 10; decide)
        omega)
section
variable {w : World} {d u : Nat} {f c' : Addr} {h₀ : Heap} {L B S En It : Addr} {x : Str} {tx : Tok} {all : List (Int × Str)}
noncomputable abbrev gSeg (w : World) (d u : Nat) (h₀ : Heap) (all : List (Int × Str)) (B L S : Addr) (n : Nat) (s₀ : Shared) (c : Code) (t : Sem Fin) (fs : List Frame) (s : Shared) : Prop := Seg (model prog w) (AA d u) (gEnd B L) (gProto h₀ all B L S) n s₀ c t fs s
/-- one yield -/
theorem g_yield {n : Nat} {s₀ s : Shared} {c : Code} {fs : List Frame} {e : Expr} {yp sp : Pos} {m : Str → Option Value} {pr : Int × Str} {K : Flow → Sem Fin} {H : Value → Sem Fin}
    (hS : ∃ o, s.heap.get? S = some o) (hSL : S ≠ L) (F : Fr h₀ L s.heap m) (hsi : Since B L s₀ s) (hall : all[all.length - 1 - n]? = some pr)
    (hover : ∀ {α : Type} {t : Sem α} {Q : α → Shared → Prop} {E : Value → Shared → Prop}, wpAny (model prog w) (AA (d + 9) (u + 30)) t Q E s → wpAny (model prog w) ((AA d u).over c fs) t Q E s)
    (hel : wpAny (model prog w) (AA (d + 9) (u + 30)) (eval e (gEnv L f c')) (fun y s' => (∃ ts, PairIs pr y ts ∧ ∀ q ∈ ts, s.heap.get? q.1 = none ∧ s'.heap.get? q.1 = some q.2) ∧ KeepsC L m s s') (fun _ _ => False) s)
    (hgo : ∀ s'', Fr h₀ L s''.heap m → (∃ o, s''.heap.get? S = some o) → (∃ s', KeepsC L m s s' ∧ ∀ b o, b ≠ S → s'.heap.get? b = some o → s''.heap.get? b = some o) → gSeg w d u h₀ all B L S n s'' c (K .next) fs s'')
    (hSh : h₀.get? S = none) (hfs : splitAtGen fs = none) (hfg : fs.any Frame.guarded = false) :
    gSeg w d u h₀ all B L S (n + 1) s₀ c ((exec (.Expr (.Yield (some e) yp) sp) (gEnv L f c')).wrap K H id id) fs s := by
  refine seg_Expr_Yield hfs rfl hfg (wpAny_mono (hover hel) (fun v s' hv kap hkap => ?_) fun _ _ e => e.elim)
  obtain ⟨⟨ts, hp, hts⟩, K'⟩ := hv
  refine ⟨⟨pr, hall, ts, hp, fun q hq => ⟨?_, ?_, ?_, (hts q hq).2⟩⟩, hsi.keepsC K', fun s'' hal hS'' => hkap .none s'' ?_⟩
  · rintro rfl
    obtain ⟨o, ho⟩ := hS
    rw [(hts q hq).1] at ho; cases ho
  · rintro rfl
    obtain ⟨_, _, _, ho, _⟩ := F.ns
    rw [(hts q hq).1] at ho; cases ho
  · cases e : h₀.get? q.1 with
    | none => rfl
    | some o => have := (hts q hq).1; rw [F.keep _ _ e] at this; cases this
  · have F' := frKeepsC F K'
    refine hgo s'' ⟨F'.ns.at' fun o e => hal _ o (Ne.symm hSL) e, fun b o e => hal b o (fun h => ?_) (F'.keep b o e), F'.above⟩ hS'' ⟨s', K', hal⟩
    subst h; rw [hSh] at e; cases e
end
end Mine
end
section
open PySem PySem.W PyProof.Rows PySem.Calls
set_option maxRecDepth 100000
set_option maxHeartbeats 1000000
set_option linter.unusedVariables false
namespace Mine
noncomputable abbrev EnSt (En It : Addr) (x : Str) (tx : Tok) (i : Nat) (h : Heap) : Prop := (∃ old, IsEnum h En It i old) ∧ h.IsStrIter It (strIterType x) x tx i
noncomputable abbrev EnMid (En It : Addr) (x : Str) (tx : Tok) (i : Nat) (T : Addr) (h : Heap) : Prop := (∃ y, IsEnumOut h En It ((i : Int) + 1) y T) ∧ h.IsStrIter It (strIterType x) x tx (i + 1) ∧ T ≠ En ∧ T ≠ It
theorem enW {w : World} {A : Around} (hh : A.handled = none) {En It : Addr} (hne : En ≠ It) (x : Str) (tx : Tok) :
    WalksT prog w A En [En, It] [En, It] x.cps.size (fun i vals => ∃ t y, (∃ c u, x.cps[i]? = some c ∧ y = .str (ch c) u) ∧ vals = #[.int i t, y]) (EnSt En It x tx) (EnMid En It x tx) := by
  have h1 : En ∉ [It] := fun h => hne (List.mem_singleton.mp h)
  cases ha : x.cps.all (· < 128)
  · have e : strIterType x = "str_iterator" := by simp [strIterType, ha]
    unfold EnSt EnMid
    rw [e]
    exact WalksT.enumerateD (Draws.strWide (A := A.in1) hh It x tx) En hne h1 (List.mem_singleton.mpr rfl)
  · have e : strIterType x = "str_ascii_iterator" := by simp [strIterType, ha]
    unfold EnSt EnMid
    rw [e]
    exact WalksT.enumerateD (Draws.strAscii (A := A.in1) hh It x tx) En hne h1 (List.mem_singleton.mpr rfl)
theorem strIter_ne (x : Str) : (Value.type (strIterType x)) ≠ .type "tuple" := by
  unfold strIterType
  split <;> decide
/-- what is kept is no part of the iterators -/
theorem enSt_apart {En It B : Addr} {x : Str} {tx : Tok} {i : Nat} {h : Heap} (hst : EnSt En It x tx i h) (hE : B ≤ En) (hI : B ≤ It) {b : Addr} {o : Obj} (hb : b < B ∨ o.cls = .type "tuple") (e : h.get? b = some o) : b ∉ [En, It] := by
  obtain ⟨⟨old, h1⟩, o2, h2, h3, _⟩ := hst
  intro hm
  simp only [List.mem_cons, List.not_mem_nil, or_false] at hm
  rcases hm with rfl | rfl
  · rcases hb with hb | hb
    · exact absurd hb (Nat.not_lt.mpr hE)
    · rw [h1] at e; cases e; exact absurd hb (by show ¬ Value.type "enumerate" = Value.type "tuple"; decide)
  · rcases hb with hb | hb
    · exact absurd hb (Nat.not_lt.mpr hI)
    · rw [h2] at e; cases e; exact strIter_ne x (h3.symm.trans hb)
theorem gM_turn (x : Str) (tx tp tp' : Tok) (p p' : Int) (e : Bool) (chv : Option Value) (v : Value) : (fun y => if y = ("ch" : Str) then some v else if y = ("pos" : Str) then some (Value.int p' tp') else gM x tx p tp e chv y) = gM x tx p' tp' e (some v) := by
  funext y
  by_cases h1 : y = ("ch" : Str)
  · subst h1; rfl
  · by_cases h2 : y = ("pos" : Str)
    · subst h2; rfl
    · simp only [gM, h1, h2, if_false]
theorem gTarget_eq : ∃ p1 p2 k p3, forTarget gFor = .Tuple [.Name ("pos" : Str) p1, .Name ("ch" : Str) p2] k p3 := ⟨_, _, _, _, rfl⟩
/-- the head of a turn: the item and its names -/
theorem g_assign {w : World} {A : Around} {E : Value → Shared → Prop} {s : Shared} {f c' : Addr} {h₀ : Heap} {L T : Addr} {x : Str} {tx tp t u : Tok} {p : Int} {i c : Nat} {e : Bool} {chv : Option Value} (hh : A.handled = none) (ht : IsTup s.heap T #[.int i t, .str (ch c) u]) (F : Fr h₀ L s.heap (gM x tx p tp e chv)) :
    wpAny (model prog w) A (assign (forTarget gFor) (gEnv L f c') (.ref T)) (fun _ s' => KeepsC L (gM x tx i t e (some (.str (ch c) u))) s s') E s := by
  obtain ⟨p1, p2, k, p3, heq⟩ := gTarget_eq
  rw [heq]
  refine assign_Tuple_tuple hh ht rfl rfl fun h₅ he => ?_
  have he' : ∀ b o, s.heap.get? b = some o → h₅.get? b = some o := fun b o e => he b o (Nat.ne_of_lt (Heap.lt_size e)) e
  refine assignInOrder_cons (wpAny_assign_Name (wpAny_storeName_local (env := gEnv L f c') rfl (F.ns.at' fun o e => he' _ o e) (fun h₆ hn₆ hs₆ => ?_) rfl))
  refine assignInOrder_cons (wpAny_assign_Name (wpAny_storeName_local (env := gEnv L f c') rfl hn₆ (fun h₃ hn₃ hs₃ => ?_) rfl))
  refine assignInOrder_nil ?_
  refine KeepsC.congr ⟨h₃, _, rfl, fun b o hb e => hs₃.extBut b o hb (hs₆.extBut b o hb (he' b o e)), hn₃⟩ (gM_turn x tx tp t p i e chv _)
section
variable {w : World} {d u : Nat} {f c' : Addr} {h₀ : Heap} {L B S En It : Addr} {x : Str} {tx : Tok} {all : List (Int × Str)}
noncomputable abbrev gLoopC (L f c' En : Addr) : Code := .forLoop (forTarget gFor) (.ref En) (forBody gFor) [] (gEnv L f c')
noncomputable abbrev gFs (L f c' : Addr) (k : Result → Sem Fin) (p₁ : Pos) : List Frame := [.ret k none false [] (.func (nthDef 1).body (gEnv L f c')) p₁ []]
theorem gt_loop (w : World) (L f c' En : Addr) : (gLoopC L f c' En).quiet = true := rfl
theorem iter_index {all pre post : List (Int × Str)} {e : Int × Str} (h : all = pre ++ e :: post) : all[all.length - 1 - post.length]? = some e := by
  subst h
  rw [List.length_append, List.length_cons]
  have : pre.length + (post.length + 1) - 1 - post.length = pre.length := by omega
  rw [this, List.getElem?_append_right (Nat.le_refl _), Nat.sub_self]; rfl
theorem drop_next {x : Str} {i c : Nat} {l : List Nat} (h : x.cps.toList.drop i = c :: l) : x.cps[i]? = some c ∧ x.cps.toList.drop (i + 1) = l ∧ i < x.cps.size := by
  have h1 : x.cps.toList[i]? = some c := by
    have := congrArg (·[0]?) h
    simpa using this
  refine ⟨by simpa using h1, ?_, ?_⟩
  · rw [← List.drop_drop, h]; rfl
  · have := (List.getElem?_eq_some_iff.mp h1).1
    simpa using this
theorem notin2 {b B En It : Addr} (h : b < B) (hE : B ≤ En) (hI : B ≤ It) : b ∉ [En, It] := fun hm => by
  simp only [List.mem_cons, List.not_mem_nil, or_false] at hm
  rcases hm with rfl | rfl
  · exact absurd h (Nat.not_lt.mpr hE)
  · exact absurd h (Nat.not_lt.mpr hI)
theorem EnSt.keepsC {i : Nat} {m : Str → Option Value} {s s' : Shared} (h : EnSt En It x tx i s.heap) (K : KeepsC L m s s') (hL : L ∉ [En, It]) : EnSt En It x tx i s'.heap := by
  obtain ⟨h', tk, rfl, hk, _⟩ := K
  obtain ⟨⟨old, h1⟩, o, h2, h3⟩ := h
  exact ⟨⟨old, hk _ _ (fun q => hL (by simp [q])) h1⟩, o, hk _ _ (fun q => hL (by simp [q])) h2, h3⟩
theorem EnSt.but {i : Nat} {s s' : Shared} (h : EnSt En It x tx i s.heap) (hk : ∀ b o, b ≠ S → s.heap.get? b = some o → s'.heap.get? b = some o) (hS : S ∉ [En, It]) : EnSt En It x tx i s'.heap := by
  obtain ⟨⟨old, h1⟩, o, h2, h3⟩ := h
  exact ⟨⟨old, hk _ _ (fun q => hS (by simp [q])) h1⟩, o, hk _ _ (fun q => hS (by simp [q])) h2, h3⟩
theorem g_go {A : Around} {E : Value → Shared → Prop} {s : Shared} {T : Addr} {i : Nat} (hh : A.handled = none) (hne : En ≠ It) (hm : EnMid En It x tx i T s.heap) : wpAny (model prog w) A (letOwnedTupleGo (forTarget gFor) (.ref En) (.ref T))
    (fun _ s' => ∃ h', s' = { s with heap := h' } ∧ EnSt En It x tx (i + 1) h' ∧ ∀ b o, b ∉ [En, It] → s.heap.get? b = some o → h'.get? b = some o) E s := by
  obtain ⟨p1, p2, k, p3, heq⟩ := gTarget_eq
  rw [heq]
  exact (enW (w := w) hh hne x tx).go _ _ _ i T s _ _ hm fun h' hst hk => ⟨h', rfl, hst, hk⟩
theorem gen_loop (hLB : L < B) (hSB : S < B) (hSL : S ≠ L) (hBE : B ≤ En) (hBI : B ≤ It) (hne : En ≠ It) (hSh : h₀.get? S = none) (hall : all = iterU x.cps.toList 0 false)
    {k : Result → Sem Fin} {p₁ : Pos} (hk : k (.ok .next) = (execs [gIf3] (gEnv L f c')).wrap fK (fH (gEnv L f c')) id id) :
    ∀ (l : List Nat) (i : Nat) (e : Bool) (pre : List (Int × Str)) (s₀ s : Shared) (p : Int) (tp : Tok) (chv : Option Value), x.cps.toList.drop i = l → i ≤ x.cps.size → all = pre ++ iterU l i e → (e = true → p = (i : Int) - 1) →
      EnSt En It x tx i s.heap → Fr h₀ L s.heap (gM x tx p tp e chv) → Since B L s₀ s → (∃ o, s.heap.get? S = some o) →
      gSeg w d u h₀ all B L S (iterU l i e).length s₀ (gLoopC L f c' En) ((model prog w).den (gLoopC L f c' En)) (gFs L f c' k p₁) s := by
  have hLw : L ∉ [En, It] := notin2 hLB hBE hBI
  have hSw : S ∉ [En, It] := notin2 hSB hBE hBI
  have hw₀ : ∀ {b o}, h₀.objs.size ≤ L → h₀.get? b = some o → b ∉ [En, It] := fun {b o} ha e =>
    notin2 (Nat.lt_trans (Nat.lt_of_lt_of_le (Heap.lt_size e) ha) hLB) hBE hBI
  have W : ∀ A' : Around, A'.handled = none → _ := fun A' hA => enW (w := w) (A := A') hA hne x tx
  intro l
  induction l with
  | nil =>
    intro i e pre s₀ s p tp chv hl hi hpre hp hst F hsi hS
    have hin : i = x.cps.size := by
      have := congrArg List.length hl
      simp at this; omega
    subst hin
    refine seg_forLoop ?_
    refine (W _ rfl).done _ _ _ hst fun h' tk hk' => ?_
    dsimp only
    refine seg_again rfl ?_
    have F' : Fr h₀ L h' (gM x tx p tp e chv) := ⟨F.ns.at' fun o e => hk' _ o hLw e, fun b o eb => hk' b o (hw₀ F.above eb) (F.keep b o eb), F.above⟩
    have hsi' : Since B L s₀ { s with heap := h', toks := tk } := hsi.step fun b o _ hb eb => hk' b o (enSt_apart hst hBE hBI hb eb) eb
    have hS' : ∃ o, h'.get? S = some o := let ⟨o, ho⟩ := hS; ⟨o, hk' _ _ hSw ho⟩
    show Seg (model prog w) (AA d u) (gEnd B L) (gProto h₀ all B L S) _ s₀ _ (leafOf (.ok .next)) (gFs L f c' k p₁) _
    refine seg_leaf (.ok .next) ?_
    rw [hk]
    refine seg_execs_cons ?_
    rw [gIf3_eq]
    refine seg_If (over_func (wpAny_mono (g_test3 (f := f) (c' := c') F') (fun b s' hb => ?_) fun _ _ e => e))
    obtain ⟨rfl, K⟩ := hb
    have F2 := frKeepsC F' K
    have hsi2 := hsi'.keepsC K
    have hS2 := K.live hS' hSL
    cases b with
    | false =>
      refine seg_execs_nil ?_
      dsimp only
      refine seg_execs_nil ?_
      exact seg_end (.ok (.ret .none)) ⟨rfl, rfl, hsi2⟩
    | true =>
      refine seg_execs_cons ?_
      rw [gY3_eq]
      have hlen : (iterU [] x.cps.size true).length = 0 + 1 := rfl
      rw [hlen]
      obtain rfl := hp rfl
      refine g_yield hS2 hSL F2 hsi2 (iter_index (post := []) hpre) (fun h => over_func h) (wpAny_mono (g_elt3 F2) (fun _ _ x => x) fun _ _ x => x) (fun s'' F'' hS'' _ => ?_) hSh rfl rfl
      dsimp only
      refine seg_execs_nil ?_
      dsimp only
      refine seg_execs_nil ?_
      exact seg_end (.ok (.ret .none)) ⟨rfl, rfl, Since.rfl' _ _ _⟩
  | cons c l ih =>
    intro i e pre s₀ s p tp chv hl hi hpre hp hst F hsi hS
    obtain ⟨hc, hl', hlt⟩ := drop_next hl
    refine seg_forLoop ?_
    refine (W _ rfl).item i _ _ _ hlt hst fun T vals h₁ tk₁ hP hT ht hm hk₁ => ?_
    obtain ⟨t, y, ⟨c₁, uu, hc₁, rfl⟩, rfl⟩ := hP
    obtain rfl : c = c₁ := Option.some.inj (hc.symm.trans hc₁)
    dsimp only
    refine wpAny_mono (g_go rfl hne hm) (fun _ s₂ hs₂ => ?_) fun _ _ e => e
    obtain ⟨h₂, rfl, hst₂, hk₂⟩ := hs₂
    have up : ∀ b o, b ∉ [En, It] → s.heap.get? b = some o → h₂.get? b = some o := fun b o hb eb => hk₂ b o hb (hk₁ b o hb eb)
    have F₂ : Fr h₀ L h₂ (gM x tx p tp e chv) := ⟨F.ns.at' fun o e => up _ o hLw e, fun b o eb => up b o (hw₀ F.above eb) (F.keep b o eb), F.above⟩
    have hsi₂ : Since B L s₀ { s with heap := h₂, toks := tk₁ } := hsi.step fun b o _ hb eb => up b o (enSt_apart hst hBE hBI hb eb) eb
    have hS₂ : ∃ o, h₂.get? S = some o := let ⟨o, ho⟩ := hS; ⟨o, up _ _ hSw ho⟩
    have ht₂ : IsTup h₂ T #[.int i t, .str (ch c) uu] := by
      obtain ⟨o, ho, r⟩ := ht
      exact ⟨o, hk₂ _ _ ((W (AA d u) rfl).apart i T h₁ hm) ho, r⟩
    refine wpAny_mono (g_assign (w := w) rfl ht₂ F₂) (fun _ s₃ K₃ => ?_) fun _ _ e => e
    have F₃ := frKeepsC F₂ K₃
    have hsi₃ := hsi₂.keepsC K₃
    have hst₃ := EnSt.keepsC (s := { s with heap := h₂, toks := tk₁ }) hst₂ K₃ hLw
    have hS₃ := KeepsC.live (s := { s with heap := h₂, toks := tk₁ }) K₃ hS₂ hSL
    clear hsi₂ hst₂ hS₂ F₂ ht₂ K₃ hk₂ up hst hS F hsi hk₁ hm ht hT
    refine seg_execs_cons (st := gIf1) (rest := []) ?_
    rw [gIf1_eq]
    refine seg_If (over_loop (wpAny_mono (g_test1 (f := f) (c' := c') F₃) (fun b s₄ hb => ?_) fun _ _ e => e))
    obtain ⟨rfl, K₄⟩ := hb
    have F₄ := frKeepsC F₃ K₄
    have hsi₄ := hsi₃.keepsC K₄
    have hst₄ := hst₃.keepsC K₄ hLw
    have hS₄ := K₄.live hS₃ hSL
    clear hsi₃ hst₃ hS₃ F₃ K₄
    cases b with
    | true =>
      refine seg_execs_cons (st := hd (ifThen gIf1)) (rest := [snd (ifThen gIf1)]) ?_
      rw [gY1_eq]
      have hlen : (iterU (c :: l) i true).length = (iterU l (i + 1) false).length + 1 := rfl
      rw [hlen]
      refine g_yield hS₄ hSL F₄ hsi₄ (iter_index (post := iterU l (i + 1) false) hpre) (fun h => over_loop h) (wpAny_mono (g_elt1 F₄) (fun _ _ x => x) fun _ _ x => x) (fun s'' F'' hS'' hal => ?_) hSh rfl rfl
      obtain ⟨s', K', hal⟩ := hal
      have hst'' := (hst₄.keepsC K' hLw).but hal hSw
      refine seg_execs_cons (st := snd (ifThen gIf1)) (rest := []) ?_
      refine seg_piece (over_loop (wpAny_mono (g_set0 (f := f) (c' := c') F'') (fun fl s₅ h₅ => ?_) fun _ _ e => e))
      obtain ⟨rfl, K₅⟩ := h₅
      dsimp only
      refine seg_execs_nil ?_
      dsimp only
      refine seg_execs_nil ?_
      refine seg_again rfl ?_
      exact ih (i + 1) false (pre ++ [((i : Int), Str.ofString "\\" ++ ch c)]) s'' s₅ i t _ hl' hlt (by rw [hpre, List.append_assoc]; rfl) (fun e => (nomatch e)) (hst''.keepsC K₅ hLw) (frKeepsC F'' K₅) ((Since.rfl' B L s'').keepsC K₅) (K₅.live hS'' hSL)
    | false =>
      refine seg_execs_cons (st := gIf2) (rest := []) ?_
      rw [gIf2_eq]
      refine seg_If (over_loop (wpAny_mono (g_test2 (f := f) (c' := c') F₄) (fun b s₆ hb => ?_) fun _ _ e => e))
      obtain ⟨rfl, K₆⟩ := hb
      have F₆ := frKeepsC F₄ K₆
      have hsi₆ := hsi₄.keepsC K₆
      have hst₆ := hst₄.keepsC K₆ hLw
      have hS₆ := K₆.live hS₄ hSL
      clear hsi₄ hst₄ hS₄ F₄ K₆
      by_cases h92 : c = 92
      · rw [decide_eq_true h92]
        have hit : iterU (c :: l) i false = iterU l (i + 1) true := by rw [iterU, if_pos h92]
        rw [hit] at hpre ⊢
        refine seg_execs_cons (st := hd (ifThen gIf2)) (rest := []) ?_
        refine seg_piece (over_loop (wpAny_mono (g_set1 (f := f) (c' := c') F₆) (fun fl s₅ h₅ => ?_) fun _ _ e => e))
        obtain ⟨rfl, K₅⟩ := h₅
        dsimp only
        refine seg_execs_nil ?_
        dsimp only
        refine seg_execs_nil ?_
        dsimp only
        refine seg_execs_nil ?_
        refine seg_again rfl ?_
        exact ih (i + 1) true pre s₀ s₅ i t _ hl' hlt hpre (fun _ => by push_cast; omega) (hst₆.keepsC K₅ hLw) (frKeepsC F₆ K₅) (hsi₆.keepsC K₅) (K₅.live hS₆ hSL)
      · rw [decide_eq_false h92]
        have hit : iterU (c :: l) i false = ((i : Int), ch c) :: iterU l (i + 1) false := by rw [iterU, if_neg h92]
        rw [hit] at hpre ⊢
        refine seg_execs_cons (st := hd (ifElse gIf2)) (rest := []) ?_
        rw [gY2_eq]
        rw [List.length_cons]
        refine g_yield hS₆ hSL F₆ hsi₆ (iter_index (post := iterU l (i + 1) false) hpre) (fun h => over_loop h) (wpAny_mono (g_elt2 F₆) (fun _ _ x => x) fun _ _ x => x) (fun s'' F'' hS'' hal => ?_) hSh rfl rfl
        obtain ⟨s', K', hal⟩ := hal
        have hst'' := (hst₆.keepsC K' hLw).but hal hSw
        dsimp only
        refine seg_execs_nil ?_
        dsimp only
        refine seg_execs_nil ?_
        dsimp only
        refine seg_execs_nil ?_
        refine seg_again rfl ?_
        exact ih (i + 1) false (pre ++ [((i : Int), ch c)]) s'' s'' i t _ hl' hlt (by rw [hpre, List.append_assoc]; rfl) (fun e => (nomatch e)) hst'' F'' (Since.rfl' B L s'') hS''
end
end Mine
end
section
open PySem PySem.W PyProof.Rows PySem.Calls
set_option maxRecDepth 100000
set_option maxHeartbeats 1000000
set_option linter.unusedVariables false
namespace Mine
section
variable {w : World} {d u : Nat} {f c' : Addr} {h₀ : Heap} {L B S I : Addr} {x : Str} {tx : Tok} {all : List (Int × Str)} {mg mb : Str → Option Value}
theorem gen_first (G : GL w mg mb h₀) (hLB : L < B) (hB : B = S + 1) (hSL : S ≠ L) (hSh : h₀.get? S = none) (hall : all = iterU x.cps.toList 0 false) {s : Shared} (F : Fr h₀ L s.heap (gM0 x tx)) (hS : ∃ o, s.heap.get? S = some o) :
    gSeg w d u h₀ all B L S all.length s (.func (nthDef 1).body (gEnv L f c')) ((model prog w).den (.func (nthDef 1).body (gEnv L f c'))) [] s := by
  refine seg_func ?_
  refine seg_execs_cons (st := gSt 0) (rest := [gSt 1, gFor, gIf3]) ?_
  refine seg_piece (over_func (wpAny_mono (g_start0 (f := f) (c' := c') F) (fun fl s₁ h₁ => ?_) fun _ _ e => e))
  obtain ⟨rfl, tp, K₁⟩ := h₁
  have F₁ := frKeepsC F K₁
  have hsi₁ := (Since.rfl' B L s).keepsC K₁
  have hS₁ := K₁.live hS hSL
  dsimp only
  refine seg_execs_cons (st := gSt 1) (rest := [gFor, gIf3]) ?_
  refine seg_piece (over_func (wpAny_mono (g_start1 (f := f) (c' := c') F₁) (fun fl s₂ h₂ => ?_) fun _ _ e => e))
  obtain ⟨rfl, K₂⟩ := h₂
  have F₂ := frKeepsC F₁ K₂
  have hsi₂ := hsi₁.keepsC K₂
  have hS₂ := K₂.live hS₁ hSL
  dsimp only
  refine seg_execs_cons (st := gFor) (rest := [gIf3]) ?_
  rw [gFor_eq]
  have hBs₂ : B ≤ s₂.heap.objs.size := by obtain ⟨o, ho⟩ := hS₂; rw [hB]; exact Heap.lt_size ho
  refine seg_For (over_func (wpAny_mono (g_iter G F₂) (fun v s₃ h₃ => ?_) fun _ _ e => e)) (fun _ => rfl)
  obtain ⟨rfl, h', rfl, hE, hI, hk⟩ := h₃
  refine wpAny_pyIter_enum hE fun p => ?_
  subst hall
  refine gen_loop (S := S) hLB (hB ▸ Nat.lt_succ_self S) hSL (Nat.le_succ_of_le hBs₂) hBs₂ (Nat.succ_ne_self _) hSh rfl rfl x.cps.toList 0 false [] s _ 0 tp none rfl (Nat.zero_le _) rfl (fun e => (nomatch e)) ⟨⟨_, hE⟩, hI⟩ (F₂.keeps hk) (hsi₂.step fun b o _ _ e => hk b o e) ?_
  obtain ⟨o, ho⟩ := hS₂
  exact ⟨o, hk _ _ ho⟩
/-- the next of a generator that a def made; what it leaves has no cleanup -/
theorem next_gen {A : Around} {s : Shared} {E : Value → Shared → Prop} {a : Addr} {g n : Nat} {gs : GenState} {P : Nat → Shared → Shared → Prop} {Y : Protocol} {Q : Option Value → Shared → Prop} (hh : A.handled = none) (hl : s.heap.NoLimit) (hroom : A.depth < recursionLimit)
    (hg : s.heap.IsGen a g) (hgs : s.gens[g]? = some gs) (hgo : gs.Goes (model prog w) A.in1 (fun n s₀ r s₁ => r = .ok (.ret .none) ∧ P n s₀ s₁) Y n (.send .none) (s.setGen g .running))
    (hY : ∀ v s₁ gs', gs'.bare = true → Y (n - 1) (s.setGen g .running) v s₁ (fun r' s'' => match n with
        | 0 => False
        | m + 1 => gs'.Goes (model prog w) A.in1 (fun n s₀ r s₁ => r = .ok (.ret .none) ∧ P n s₀ s₁) Y m r' s'') → Q (some v) (s₁.setGen g gs'))
    (hP : ∀ s₁, P n (s.setGen g .running) s₁ → ∀ h', (∀ b o, s₁.heap.get? b = some o → h'.get? b = some o) → Q none { s₁.setGen g .finished with heap := h' }) : wpAny (model prog w) A (pyNext (.ref a)) Q E s := by
  unfold pyNext
  refine wpAny_bind (wpAny_attempt (wpAny_callSpecial?_slot (name := Str.ofString "__next__") hg.typeIs slot_gen_next (wpAny_call_entry slot_gen_next hg.typeIs entry_gen_next ?_ (args_gen_next _))))
  show wpAny _ A.in1 (Builtin.Generator.genWake (.ref a) (.send .none)) _ _ s
  unfold Builtin.Generator.genWake
  refine wpAny_bind (wpAny_holding (wpAny_genNumber hg (wpAny_bind (wpAny_genState hgs ?_))))
  have fin : ∀ s₁, P n (s.setGen g .running) s₁ → ∀ {tl : Unit → Sem Fin} {Q' : Fin → Shared → Prop}, wpAny (model prog w) A.in1 (newExc (.type "StopIteration") [] >>= fun e => raiseNew e >>= tl) Q'
      (fun e s' => wpAny (model prog w) A (isInstance e (.type "StopIteration") >>= fun b => if b = true then (pure none : Sem (Option Value)) else .raise e) Q E s') (s₁.setGen g .finished) := fun s₁ hp tl Q' => by
    refine wpAny_bind ?_
    simp only [newExc, newTuple]
    refine wpAny_bind (wpAny_newObj_type ?_ (by size_fits))
    refine wpAny_bind (m := firstArgMember _ _) (wpAny_of_eq (a := Value.none) (by simp only [firstArgMember]; rfl) (wpAny_newObj_type ?_ (by size_fits)))
    simp only [raiseNew]
    refine wpAny_bind (wpAny_bind (wpAny_handled ?_))
    rw [show A.in1.handled = none from hh]
    refine wpAny_throw (wpAny_bind (wpAny_isInstance (T := "StopIteration") (b := true) ⟨_, Heap.get?_push_size _ rfl, rfl⟩ isSubtype_stop ?_))
    exact wpAny_pure (hP s₁ hp _ fun b o hb => Heap.get?_push_of_some _ (Heap.get?_push_of_some _ hb))
  cases gs with
  | running => exact hgo.elim
  | finished => exact hgo.elim
  | _ =>
    refine wpAny_bind (wpAny_roomToWake hl hroom ?_)
    show wpAny _ A.in1 (.resume g (.send .none) [] _) _ _ s
    exact wpAny_resumeQ hgs hgo (fun x s₁ ⟨hx, hp⟩ => by subst hx; exact fin s₁ hp) (fun v s₁ gs' hb hv => wpAny_pure ⟨v, rfl, wpAny_pure (hY v s₁ gs' hb hv)⟩)
end
end Mine
end
section
open PySem PySem.W PyProof.Rows PySem.Calls
set_option maxRecDepth 100000
set_option maxHeartbeats 1000000
set_option linter.unusedVariables false
namespace Mine
/-- the pairs that the generator has told so far -/
noncomputable def Pairs (h₀ : Heap) (L S : Addr) (es : List (Int × Str)) (ys : List Value) (h : Heap) : Prop := ∃ tss : List (Addr × Obj), (∀ q ∈ tss, h.get? q.1 = some q.2 ∧ q.1 ≠ S ∧ q.1 ≠ L ∧ q.2.cls = .type "tuple" ∧ h₀.get? q.1 = none) ∧ Paired (fun e y => ∃ ts, PairIs e y ts ∧ ∀ q ∈ ts, q ∈ tss) es ys
theorem Pairs.up {h₀ h h' : Heap} {L S : Addr} {es : List (Int × Str)} {ys : List Value} (x : Pairs h₀ L S es ys h) (hk : ∀ b o, b ≠ S → b ≠ L → o.cls = .type "tuple" → h.get? b = some o → h'.get? b = some o) : Pairs h₀ L S es ys h' :=
  let ⟨tss, h1, h2⟩ := x; ⟨tss, fun q hq => let ⟨a, b, c, d, e⟩ := h1 q hq; ⟨hk _ _ b c d a, b, c, d, e⟩, h2⟩
theorem Pairs.snoc {h₀ h : Heap} {L S : Addr} {es : List (Int × Str)} {ys : List Value} {e : Int × Str} {v : Value} {ts : List (Addr × Obj)} (x : Pairs h₀ L S es ys h) (hp : PairIs e v ts) (hts : ∀ q ∈ ts, q.1 ≠ S ∧ q.1 ≠ L ∧ h₀.get? q.1 = none ∧ h.get? q.1 = some q.2) : Pairs h₀ L S (es ++ [e]) (ys ++ [v]) h := by
  obtain ⟨tss, h1, h2⟩ := x
  refine ⟨tss ++ ts, fun q hq => ?_, Paired.snoc (h2.mono (F' := fun e y => ∃ t, PairIs e y t ∧ ∀ q ∈ t, q ∈ tss ++ ts) fun _ _ ⟨t, a, b⟩ => ⟨t, a, fun q hq => List.mem_append_left _ (b q hq)⟩) ⟨ts, hp, fun q hq => List.mem_append_right _ hq⟩⟩
  rcases List.mem_append.mp hq with hq | hq
  · exact h1 q hq
  · obtain ⟨a, b, c, d⟩ := hts q hq
    refine ⟨d, a, b, ?_, c⟩
    obtain ⟨T, o, n, t1, t2, rfl, _, hc, _⟩ := hp
    rw [List.mem_singleton.mp hq]; exact hc
section
variable {w : World} {d u : Nat} {f c' : Addr} {h₀ : Heap} {L B S I : Addr} {x : Str} {tx : Tok} {all : List (Int × Str)} {mg mb : Str → Option Value}
noncomputable def GInv (w : World) (d u : Nat) (h₀ : Heap) (L B S I : Addr) (g : Nat) (os₀ : OsState) (all : List (Int × Str)) (i : Nat) (ys : List Value) (s : Shared) : Prop :=
  s.heap.IsGen I g ∧ (∀ b o, h₀.get? b = some o → s.heap.get? b = some o) ∧ AllBare s.gens ∧ s.os = os₀ ∧ Pairs h₀ L S (all.take i) ys s.heap ∧
    ∃ gs, s.gens[g]? = some gs ∧ ∀ s'' : Shared, (∀ b o, b ≠ S → s.heap.get? b = some o → s''.heap.get? b = some o) → (∃ o, s''.heap.get? S = some o) →
      gs.Goes (model prog w) (AA d u) (gEnd B L) (gProto h₀ all B L S) (all.length - i) (.send .none) s''
noncomputable def GFin (h₀ : Heap) (L S : Addr) (os₀ : OsState) (all : List (Int × Str)) (ys : List Value) (s : Shared) : Prop :=
  (∀ b o, h₀.get? b = some o → s.heap.get? b = some o) ∧ AllBare s.gens ∧ s.os = os₀ ∧ Pairs h₀ L S all ys s.heap
theorem bare_set {s : Shared} {s₁ : Shared} {g : Nat} {gs gs' : GenState} (hgs : s.gens[g]? = some gs) (hs : s₁.gens = (s.setGen g .running).gens) (hb : gs'.bare = true) (x : AllBare s.gens) : AllBare (s₁.setGen g gs').gens := by
  have h1 : (s₁.gens)[g]? = some .running := by rw [hs]; exact setGen_self hgs
  exact (GenOnlyQ.of (((GenOnly.setGen s g .running)).trans (hs ▸ GenOnly.setGen s₁ g gs')) (setGen_self h1) hb).bare x
theorem gen_draw {g : Nat} {os₀ : OsState} (G : GL w mg mb h₀) (hab : h₀.objs.size ≤ L) (hLB : L < B) (hB : B = S + 1) (hSL : S ≠ L) (hIS : I ≠ S) (hIL : I ≠ L) (hIB : I < B) (hSh : h₀.get? S = none) (hd : d < 900) :
    Draw w (AA d u) I S all.length (GInv w d (u + 1) h₀ L B S I g os₀ all) (GFin h₀ L S os₀ all) where
  ty := fun i ys s h => h.1.typeIs
  ne := Ne.symm hIS
  frame := fun i ys s h' ⟨h1, h2, h3, h4, h5, gs, h6, h7⟩ hk =>
    ⟨let ⟨o, nm, qn, ho, r⟩ := h1; ⟨o, nm, qn, hk _ _ hIS ho, r⟩, fun b o e => hk b o (fun q => by subst q; rw [hSh] at e; cases e) (h2 b o e), h3, h4, h5.up fun b o hb _ _ e => hk b o hb e,
      gs, h6, fun s'' hal hS => h7 s'' (fun b o hb e => hal b o hb (hk b o hb e)) hS⟩
  item := fun i ys s Q E o hi ⟨h1, h2, h3, h4, h5, gs, h6, h7⟩ hS hQ => by
    obtain ⟨m, hm⟩ : ∃ m, all.length - i = m + 1 := ⟨all.length - i - 1, by omega⟩
    rw [hm] at h7
    have hL₀ : ∀ b o, h₀.get? b = some o → b ≠ L ∧ b < B := fun b o e => by
      have := Nat.lt_of_lt_of_le (Heap.lt_size e) hab
      exact ⟨Nat.ne_of_lt this, Nat.lt_trans this hLB⟩
    refine next_gen (P := fun n s₀ s₁ => n = 0 ∧ Since B L s₀ s₁) rfl (G.G.nolimit.keeps h2) (by show d < 1000; omega) h1 h6 (h7 _ (fun _ _ _ e => e) ⟨o, hS⟩) (fun v s₁ gs' hb hv => ?_) (fun s₁ hp => absurd hp.1 (Nat.succ_ne_zero m))
    obtain ⟨⟨e, he, ts, hp, hts⟩, ⟨H, tk, rfl, hk⟩, hkap⟩ := hv
    refine hQ v _ ⟨let ⟨o, nm, qn, ho, r⟩ := h1; ⟨o, nm, qn, hk _ _ hIL (.inl hIB) ho, r⟩, fun b o eb => hk b o (hL₀ b o eb).1 (.inl (hL₀ b o eb).2) (h2 b o eb), bare_set h6 rfl hb h3, h4, ?_, gs', setGen_self (gs := .running) (setGen_self h6), fun s'' hal hS'' => ?_⟩ (hk _ _ hSL (.inl (hB ▸ Nat.lt_succ_self S)) hS)
    · have hidx : all.length - 1 - (m + 1 - 1) = i := by omega
      rw [hidx] at he
      rw [List.take_add_one, he]
      exact (h5.up fun b o _ hb hc e => hk b o hb (.inr hc) e).snoc hp hts
    · have : all.length - (i + 1) = m := by omega
      rw [this]
      exact hkap s'' hal hS''
  done := fun ys s Q E o ⟨h1, h2, h3, h4, h5, gs, h6, h7⟩ hS hQ => by
    rw [Nat.sub_self] at h7
    have hL₀ : ∀ b o, h₀.get? b = some o → b ≠ L ∧ b < B := fun b o e => by
      have := Nat.lt_of_lt_of_le (Heap.lt_size e) hab
      exact ⟨Nat.ne_of_lt this, Nat.lt_trans this hLB⟩
    refine next_gen (P := fun n s₀ s₁ => n = 0 ∧ Since B L s₀ s₁) rfl (G.G.nolimit.keeps h2) (by show d < 1000; omega) h1 h6 (h7 _ (fun _ _ _ e => e) ⟨o, hS⟩) (fun v s₁ gs' hb hv => ?_) (fun s₁ hp h' hk' => ?_)
    · obtain ⟨_, ⟨H, tk, rfl, hk⟩, hkap⟩ := hv
      exact (hkap _ (fun _ _ _ e => e) ⟨o, hk _ _ hSL (.inl (hB ▸ Nat.lt_succ_self S)) hS⟩).elim
    · obtain ⟨_, H, tk, rfl, hk⟩ := hp
      refine hQ _ ⟨fun b o eb => hk' b o (hk b o (hL₀ b o eb).1 (.inl (hL₀ b o eb).2) (h2 b o eb)), bare_set h6 rfl rfl h3, h4, ?_⟩ (hk' _ _ (hk _ _ hSL (.inl (hB ▸ Nat.lt_succ_self S)) hS))
      rw [List.take_length] at h5
      exact h5.up fun b o _ hb hc e => hk' b o (hk b o hb (.inr hc) e)
  self := fun ys s Q E ⟨h1, _⟩ hQ => wpAny_pyIter_gen h1 hQ
/-- a generator just made -/
noncomputable def GenNew (w : World) (h₀ : Heap) (x : Str) (I : Addr) (s : Shared) : Prop :=
  ∃ L g f c' tx, h₀.objs.size ≤ L ∧ L < I ∧ I < s.heap.objs.size ∧ s.heap.IsGen I g ∧ Fr h₀ L s.heap (gM0 x tx) ∧ AllBare s.gens ∧ s.gens[g]? = some (.fresh (.func (nthDef 1).body (gEnv L f c')))
theorem gen_make {s : Shared} {E : Value → Shared → Prop} {f : Addr} {t : Tok} {Q : Value → Shared → Prop} (G : GL w mg mb s.heap) (hf : IsFn s.heap f 1) (hroom : d < 900) (hb : AllBare s.gens)
    (h : ∀ I s', GenNew w s.heap x I s' → s'.os = s.os → Q (.ref I) s') : wpAny (model prog w) (AA d u) (call (.ref f) [.str x t]) Q E s := by
  obtain ⟨c', o, pm, doc, h1, h2, h3⟩ := hf
  refine wpAny_call (codeAny_call_generator (by show d < 1000; omega) h1 h2 rfl rfl rfl h3 ?_)
  have hbind : bindArgs (docDef (nthDef 1).name (nthDef 1).params (nthDef 1).body (nthDef 1).scope pm (.ref c') doc) ⟨[.str x t], []⟩ = pure [(("addr" : Str), Value.str x t)] := rfl
  rw [hbind]
  refine wpAny_pure (wpAny_newFunctionEnv (by show ∀ y ∈ (nthDef 1).scope.names, y.2 ≠ .cell; decide +kernel) (locs (scope := (nthDef 1).scope) rfl) (fun h₁ hns hsb => ⟨G.G.nolimit.fresh _ hsb, ?_⟩) rfl)
  have hsz : h₁.objs.size = s.heap.objs.size + 1 := by rw [hsb.1, Heap.size_push]
  have keep : ∀ b o, s.heap.get? b = some o → h₁.get? b = some o := fun b o e => hsb.extBut b o (Nat.ne_of_lt (Heap.lt_size e)) (Heap.get?_push_of_some _ e)
  refine h _ _ ⟨s.heap.objs.size, s.gens.size, f, c', t, Nat.le_refl _, ?_, ?_, ⟨_, _, _, Heap.get?_push_size _ rfl, rfl, rfl, rfl⟩, ⟨?_, fun b o e => Heap.get?_push_of_some _ (keep b o e), Nat.le_refl _⟩, hb.push rfl, Array.getElem?_push_size ..⟩ rfl
  · show s.heap.objs.size < h₁.objs.size
    rw [hsz]; exact Nat.lt_succ_self _
  · show h₁.objs.size < (h₁.push _).objs.size
    rw [Heap.size_push]; exact Nat.lt_succ_self _
  · have e : (fun y : Str => ([(("addr" : Str), Value.str x t)] : List (Str × Value)).reverse.lookup y) = gM0 x t := by
      funext y
      by_cases hy : y = ("addr" : Str)
      · subst hy; rfl
      · have : (y == ("addr" : Str)) = false := by simpa using hy
        simp [List.lookup, this, hy, gM0]
    rw [← e]
    exact hns.push _
theorem iterU_len : ∀ (l : List Nat) (i : Nat) (e : Bool), (iterU l i e).length ≤ l.length + 1
  | [], _, false => by simp [iterU]
  | [], _, true => by simp [iterU]
  | c :: l, i, true => by
    have := iterU_len l (i + 1) false
    simp only [iterU, List.length_cons]; omega
  | c :: l, i, false => by
    have h1 := iterU_len l (i + 1) false
    have h2 := iterU_len l (i + 1) true
    rw [iterU]
    split
    · simp only [List.length_cons]; omega
    · simp only [List.length_cons]; omega
/-- a list of pairs in a heap -/
noncomputable def Listed (h₀ h' : Heap) (D : Addr) (es : List (Int × Str)) : Prop := ∃ (ys : Array Value) (tss : List (Addr × Obj)), h'.PlainList D ys ∧ (∀ q ∈ tss, h'.get? q.1 = some q.2 ∧ q.1 ≠ D ∧ h₀.get? q.1 = none) ∧ h₀.get? D = none ∧
  Paired (fun e y => ∃ ts, PairIs e y ts ∧ ∀ q ∈ ts, q ∈ tss) es ys.toList ∧ ∀ b o, h₀.get? b = some o → h'.get? b = some o
theorem gen_list {h₀ : Heap} {s : Shared} {E : Value → Shared → Prop} {Q : Value → Shared → Prop} (G : GL w mg mb h₀) (hn : GenNew w h₀ x I s) (hroom : d < 900) (hx : x.cps.size ≤ 100)
    (hk : ∀ b o, h₀.get? b = some o → s.heap.get? b = some o)
    (h : ∀ D s', Listed h₀ s'.heap D (iterU x.cps.toList 0 false) → AllBare s'.gens → s'.os = s.os → Q (.ref D) s') : wpAny (model prog w) (AA d u) (call (.type "list") [.ref I]) Q E s := by
  obtain ⟨L, g, f, c', tx, hab, hLI, hI, hg, F, hb, hgs⟩ := hn
  have hLS : L < s.heap.objs.size := Nat.lt_trans hLI hI
  have hSh : h₀.get? s.heap.objs.size = none := by
    cases e : h₀.get? s.heap.objs.size with
    | none => rfl
    | some o => exact absurd (Nat.lt_of_lt_of_le (Heap.lt_size e) hab) (Nat.not_lt.mpr (Nat.le_of_lt hLS))
  have W := gen_draw (w := w) (d := d) (u := u + 2) (I := I) (S := s.heap.objs.size) (B := s.heap.objs.size + 1) (L := L) (all := iterU x.cps.toList 0 false) (g := g) (os₀ := s.os) G hab (Nat.lt_succ_of_lt hLS) rfl (Nat.ne_of_gt hLS) (Nat.ne_of_lt hI) (Nat.ne_of_gt hLI) (Nat.lt_succ_of_lt hI) hSh hroom
  refine list_gen (A := AA d u) W ⟨hg.push _, fun b o e => Heap.get?_push_of_some _ (hk b o e), hb, rfl, ⟨[], fun _ hq => (nomatch hq), .nil⟩, _, hgs, fun s'' hal hS => ⟨rfl, ?_⟩⟩ ?_ ?_
  · refine gen_first (tx := tx) G (Nat.lt_succ_of_lt hLS) rfl (Nat.ne_of_gt hLS) hSh rfl ?_ hS
    exact ⟨F.ns.at' fun o e => hal _ o (Nat.ne_of_lt hLS) (Heap.get?_push_of_some _ e), fun b o e => hal b o (fun q => by subst q; rw [hSh] at e; cases e) (Heap.get?_push_of_some _ (hk b o e)), F.above⟩
  · have := iterU_len x.cps.toList 0 false
    simp only [Array.length_toList] at this
    show _ ≤ sizeLine
    simp only [sizeLine]; omega
  · intro s' acc' k' hS hF
    obtain ⟨f1, f2, f3, tss, f4, f5⟩ := hF
    exact h _ s' ⟨acc', tss, ⟨_, hS⟩, fun q hq => let ⟨a, b, _, _, e⟩ := f4 q hq; ⟨a, b, e⟩, hSh, f5, f1⟩ f2 f3
end
end Mine
end
section
open PySem PySem.W PyProof.Rows PySem.Calls
set_option maxRecDepth 100000
set_option maxHeartbeats 1000000
set_option linter.unusedVariables false
namespace Mine
local macro_rules | `(tactic| walk_at "no such key") => `(tactic| fail)
local macro_rules | `(tactic| walk_at "no such key") => `(tactic| fail)
local macro_rules | `(tactic| walk_at "no such key") => `(tactic| fail)
local macro_rules | `(tactic| walk_at "no such key") => `(tactic| fail)
local macro_rules | `(tactic| walk_at "no such key") => `(tactic| fail)
local macro_rules | `(tactic| walk_at "no such key") => `(tactic| fail)
local macro_rules | `(tactic| walk_at "no such key") => `(tactic| fail)
local macro_rules | `(tactic| walk_at "no such key") => `(tactic| fail)
local macro_rules | `(tactic| walk_at "no such key") => `(tactic| fail)
local macro_rules | `(tactic| walk_at "no such key") => `(tactic| fail)
local macro_rules | `(tactic| walk_at "no such key") => `(tactic| fail)
local macro_rules | `(tactic| walk_at "no such key") => `(tactic| fail)
local macro_rules | `(tactic| walk_at "no such key") => `(tactic| fail)
local macro_rules | `(tactic| walk_at "no such key") => `(tactic| fail)
noncomputable def lSt (k : Nat) : Stmt := ((nthDef 13).body[k]?).getD (.Pass default)
noncomputable abbrev lEnv (L f c' : Addr) : Env := envOf (nthDef 13).name (nthDef 13).scope L f (.ref c')
theorem lBody_eq : (nthDef 13).body = [lSt 0, lSt 1, lSt 2, lSt 3, lSt 4, lSt 5, lSt 6, lSt 7, lSt 8, lSt 9, lSt 10, lSt 11, lSt 12] := rfl
noncomputable def drawnL (ns : List Int) : List Int := (ns ++ ([2, 0, 1, 0, 0, 1, 3, 0] : List Int).drop ns.length).take 12
local macro_rules | `(tactic| walk_at "eval Name") => `(tactic| (refine nm_biF (by assumption) (GL.G (by assumption)) (by decide) (by boot_by_name) ?_))
local macro_rules | `(tactic| walk_at "eval Name") => `(tactic| (refine nm_globF (by assumption) (GL.G (by assumption)) (by assumption) ?_))
local macro_rules | `(tactic| walk_at "call builtin:len") => `(tactic| (refine PyProof.Rows.len_list (listKeep (by assumption) (Fr.keep (by assumption))) (by assumption) ?_))
theorem slice_any {w : World} {A : Around} {E : Value → Shared → Prop} {s : Shared} {h₀ : Heap} {L : Addr} {m : Str → Option Value} {news : List (Addr × Obj)} {value slice : Expr} {l : Addr} {items : Array Value} {vl vu : Value} {lo hi : Option Int} {Q : Value → Shared → Prop}
    (F : Fr h₀ L s.heap m) (N : News h₀ L s.heap news) (hl : s.heap.IsList l items) (hsz : items.size ≤ 1000) (pl : IsPart vl lo) (pu : IsPart vu hi)
    (h : ∀ D h', Fr h₀ L h' m → News h₀ L h' ((D, { cls := .type "list", data := .seq (slicePick items lo hi none) }) :: news) → Q (.ref D) { s with heap := h' })
    (hs : subscripted slice false (.ref l) (.ref s.heap.objs.size) = operate [.ref s.heap.objs.size, .ref l] (getItem (.ref l) (.ref s.heap.objs.size)) := by with_unfolding_all rfl) :
    wpAny (model prog w) A (subscriptTail value slice (.ref l) (.ref s.heap.objs.size)) Q E { s with heap := s.heap.push { cls := .type "slice", data := .fields #[vl, vu, .none] } } :=
  kba_turn (value' := .Name ("_" : Str) ⟨0, 0, 0, 0⟩) (fun _ => rfl) (slice_list F N hl pl pu (h _) hs (fun _ => rfl) (Nat.le_trans hsz (by simp only [sizeLine]; omega)))
section
variable {w : World} {d u : Nat} {E : Value → Shared → Prop} {s : Shared} {f c' : Addr} {h₀ : Heap} {L : Addr} {mg mb : Str → Option Value}
theorem l_0 {a : Addr} {vs : Array Value} {ns : List Int} (G : GL w mg mb h₀) (F : Fr h₀ L s.heap (fun (y : Str) => if y = ("script" : Str) then some (Value.ref a) else none)) (hl : h₀.IsList a vs) (hi : IntsAre vs.toList ns) (hlen : ns.length ≤ 63) :
    wpAny (model prog w) (AA d u) (exec (lSt 0) (lEnv L f c')) (fun fl s' => fl = .next ∧ ∃ D ws, s'.heap.IsList D ws ∧ IntsAre ws.toList (drawnL ns) ∧ KeepsC L (fun (y : Str) => if y = ("drawn" : Str) then some (Value.ref D) else if y = ("script" : Str) then some (Value.ref a) else none) s s') E s := by
  have NN : News h₀ L s.heap (allOwn h₀ L s.heap) := allOwn_news
  refine wpAny_post fun Q hQ => ?_
  have hsz : vs.size = ns.length := by have := hi.length; rwa [Array.length_toList] at this
  have hfit : (vs.size : Int) < 2 ^ 63 := by omega
  conv in (exec _ _) => arg 1; whnf
  w_on
  repeat' (first | walk1 | (dsimp only; walk1))
  have h8 : (slicePick #[Value.int 2 s.toks, Value.int 0 (s.toks + 1), Value.int 1 (s.toks + 1 + 1), Value.int 0 (s.toks + 1 + 1 + 1), Value.int 0 (s.toks + 1 + 1 + 1 + 1), Value.int 1 (s.toks + 1 + 1 + 1 + 1 + 1), Value.int 3 (s.toks + 1 + 1 + 1 + 1 + 1 + 1), Value.int 0 (s.toks + 1 + 1 + 1 + 1 + 1 + 1 + 1)] (some (vs.size : Int)) none none).size ≤ 8 := slicePick_size_le _ _ _ _
  have hi8 := slice_ints_fromW (IntsAre.cons 2 s.toks (.cons 0 (s.toks + 1) (.cons 1 (s.toks + 1 + 1) (.cons 0 (s.toks + 1 + 1 + 1) (.cons 0 (s.toks + 1 + 1 + 1 + 1) (.cons 1 (s.toks + 1 + 1 + 1 + 1 + 1) (.cons 3 (s.toks + 1 + 1 + 1 + 1 + 1 + 1) (.cons 0 (s.toks + 1 + 1 + 1 + 1 + 1 + 1 + 1) .nil)))))))) (x := (vs.size : Int)) (by omega)
  refine slice_any (s := ⟨_, _, _, _, _⟩) (by assumption) (by assumption) (News.isList (by assumption) (by news_mem)) (by simp) (.int _ _) .none fun D1 h1 F1 N1 => ?_
  dsimp only
  generalize slicePick #[Value.int 2 s.toks, Value.int 0 (s.toks + 1), Value.int 1 (s.toks + 1 + 1), Value.int 0 (s.toks + 1 + 1 + 1), Value.int 0 (s.toks + 1 + 1 + 1 + 1), Value.int 1 (s.toks + 1 + 1 + 1 + 1 + 1), Value.int 3 (s.toks + 1 + 1 + 1 + 1 + 1 + 1), Value.int 0 (s.toks + 1 + 1 + 1 + 1 + 1 + 1 + 1)] (some (vs.size : Int)) none none = z at N1 h8 hi8
  have hz71 : vs.size + z.size ≤ 71 := by omega
  refine add_arrays F1 N1 (listKeep hl F1.keep) (News.isList N1 (List.mem_cons_self ..)) (fun h2 F2 N2 => ?_) (by simp only [sizeLine]; omega)
  dsimp only
  repeat' (first | walk1 | (dsimp only; walk1))
  have hi12 := slice_ints_uptoW (intsAre_append hi hi8) (y := 12) (by omega)
  refine slice_any (s := ⟨_, _, _, _, _⟩) F2 N2 (News.isList N2 (List.mem_cons_self ..)) (by simp; omega) .none (.int _ _) fun D3 h3 F3 N3 => ?_
  dsimp only
  generalize slicePick (vs.toList ++ z.toList).toArray none (some 12) none = z2 at N3 hi12
  repeat' (first | walk1 | (dsimp only; walk1))
  rename_i h4 F4 N4
  have hN := N4 _ (List.mem_cons_self ..)
  refine hQ _ _ ⟨rfl, D3, z2, ⟨_, hN.1, rfl, _, rfl⟩, ?_, keepsC_of' F F4 N4 fun p hp => ?_⟩
  · unfold drawnL
    rw [← hsz]
    exact hi12
  · exact List.mem_cons_of_mem _ (List.mem_cons_of_mem _ (List.mem_cons_of_mem _ (List.mem_cons_of_mem _ hp)))
end
end Mine
end
section
open PySem PySem.W PyProof.Rows PySem.Calls
set_option maxRecDepth 100000
set_option maxHeartbeats 1000000
set_option linter.unusedVariables false
namespace Mine
noncomputable def asgV : Stmt → Expr
  | .Assign _ v _ => v
  | _ => .Constant .none 0 default
noncomputable abbrev eS : Expr := asgV (lSt 1)
/-- a pair of a sign and what it means -/
noncomputable def PairS (n : Int) (y : Value) (ts : List (Addr × Obj)) : Prop := ∃ T o nn t1 t2, ts = [(T, o)] ∧ y = .ref T ∧ o.cls = .type "tuple" ∧ o.data = .seq #[.str (ch (signC n)) t1, .str (meantC n) t2] nn
local macro_rules | `(tactic| walk_at "eval Name") => `(tactic| (refine nm_globF (by assumption) (GL.G (by assumption)) (by assumption) ?_))
local macro_rules | `(tactic| walk_at "eval Name") => `(tactic| (refine nm_loc (by assumption) (by assumption) ?_))
local macro_rules | `(tactic| walk_at "callWith ref") => `(tactic| (refine cw (by assumption) ?_))
local macro_rules | `(tactic| walk_at "And") => `(tactic| (refine ⟨Fr.keep (by assumption), ?_⟩))
section
variable {w : World} {d u : Nat} {E : Value → Shared → Prop} {s : Shared} {f c' : Addr} {h₀ : Heap} {L C : Addr} {m mg mb : Str → Option Value}
theorem l_signElt {n : Int} {t : Tok} (hroom : d < 700) (G : GL w mg mb h₀) (F : Fr h₀ C s.heap m) (hm : m "number" = some (.int n t)) :
    wpAny (model prog w) (AA d u) (eval (cElt eS) (compEnvC (cScope eS) [] C (lEnv L f c'))) (fun y u₁ => (∃ ts, PairS n y ts ∧ ∀ p ∈ ts, s.heap.get? p.1 = none ∧ u₁.heap.get? p.1 = some p.2) ∧ KeepsC C m s u₁) E s := by
  have NN : News h₀ C s.heap (allOwn h₀ C s.heap) := allOwn_news
  obtain ⟨f2, hm2, hf2⟩ := G.G.sign
  refine wpAny_post fun Q hQ => ?_
  conv in (eval _ _) => arg 1; whnf
  w_on
  repeat' (first | walk1 | (dsimp only; walk1))
  refine sign_call (G.keeps F.keep) (hf2.keeps F.keep) (by omega) fun T t1 t2 h' tk hT hn hk => ?_
  obtain ⟨o, ho, hc, nn, hd⟩ := hT
  refine hQ _ _ ⟨⟨[(T, o)], ⟨T, o, nn, t1, t2, rfl, rfl, hc, hd⟩, fun p hp => ?_⟩, h', tk, rfl, fun b o _ e => hk b o e, F.ns.at' fun o e => hk _ o e⟩
  rw [List.mem_singleton.mp hp]
  exact ⟨hn, ho⟩
/-- the signs in the list -/
noncomputable def Signs (h : Heap) (D : Addr) (ms : List Int) : Prop := ∃ ys, h.IsList D ys ∧ Paired (fun n y => ∃ T t1 t2, y = .ref T ∧ IsTup h T #[.str (ch (signC n)) t1, .str (meantC n) t2]) ms ys.toList
theorem Paired.idx {α β : Type} {F : α → β → Prop} {g : Nat → α} : ∀ {l : List Nat} {ys : List β}, Paired (fun i y => F (g i) y) l ys → Paired F (l.map g) ys
  | _, _, .nil => .nil
  | _, _, .cons h r => .cons h (Paired.idx r)
theorem map_getD {α : Type} (l : List α) (z : α) : (List.range l.length).map (fun i => l.getD i z) = l := by
  apply List.ext_getElem
  · simp
  · intro i h1 h2
    simp at h1
    simp [h1]
theorem l_1 {a : Addr} {ws : Array Value} {ms : List Int} {m : Str → Option Value} (hroom : d < 700) (G : GL w mg mb h₀) (F : Fr h₀ L s.heap m) (hm : m "drawn" = some (.ref a)) (hl : s.heap.IsList a ws) (hi : IntsAre ws.toList ms) (hlen : ms.length ≤ 12) :
    wpAny (model prog w) (AA d u) (exec (lSt 1) (lEnv L f c')) (fun fl s' => fl = .next ∧ ∃ D, Signs s'.heap D ms ∧ KeepsC L (fun (y : Str) => if y = ("signs" : Str) then some (Value.ref D) else m y) s s') E s := by
  have hsz : ws.size = ms.length := by have := hi.length; rwa [Array.length_toList] at this
  have G₁ := G.keeps F.keep
  refine assign_comp_own (elt := cElt eS) (iter := cIter eS) (ifs := []) (scope := cScope eS) (n := ws.size) (cl := []) (y := "signs") (m := m) (fun i v => ws[i]? = some v) (fun i m => ∃ v, ws[i]? = some v ∧ m "number" = some v) (fun _ => true) (fun i y ts => PairS (ms.getD i 0) y ts)
    rfl rfl (by decide +kernel) rfl (by decide +kernel) (by simp only [sizeLine]; omega) rfl rfl F.ns ?_ ?_
  · have T : ∀ (px : Pos) I, Turns w (AA d u) s.heap I ws.size (fun i v => ws[i]? = some v) (fun i h => h.IsListIter I a i ∧ h.IsList a ws) (.Name "number" px) [] (cElt eS) (fun C => compEnvC (cScope eS) [] C (lEnv L f c')) (fun i m => ∃ v, ws[i]? = some v ∧ m "number" = some v) (fun _ => true) (fun i y ts => PairS (ms.getD i 0) y ts) := fun px I =>
      ⟨asg_name (P := fun i v => ws[i]? = some v) (St := fun i h => h.IsListIter I a i ∧ h.IsList a ws) (scope := cScope eS) (x := "number") (by decide +kernel) rfl, fun C i u m₂ E' hi hB F' => wpAny_pure ⟨rfl, ⟨_, _, rfl, fun _ _ _ e => e, F'.ns⟩⟩, fun C i u m₂ E' hi' ⟨v, hv, hm'⟩ _ F' => by
        obtain ⟨t, ht⟩ := ints_at hi i (by omega)
        rw [Array.getElem?_toList, hv] at ht
        exact l_signElt hroom G₁ F' (Option.some.inj ht ▸ hm')⟩
    exact nm_loc (env := lEnv L f c') (x := "drawn") F hm (iters_list rfl hl fun I => T _ I)
  · intro D h' tk ys tss hD hl' hM hn hk
    refine ⟨rfl, D, ⟨ys, ?_, ?_⟩, h', tk, rfl, hk, hn⟩
    · exact hl'.isList
    · have hp := hM.2
      rw [List.filter_eq_self.mpr (fun _ _ => rfl), hsz] at hp
      have hp2 := Paired.idx (F := fun n y => ∃ ts, PairS n y ts ∧ ∀ q ∈ ts, q ∈ tss) (g := fun i => ms.getD i 0) hp
      rw [map_getD] at hp2
      refine hp2.mono fun n y hx => ?_
      obtain ⟨ts, ⟨T, o, nn, t1, t2, rfl, rfl, hc, hd⟩, hts⟩ := hx
      exact ⟨T, t1, t2, rfl, o, (hM.1 _ (hts _ (List.mem_cons_self ..))).1, hc, nn, hd⟩
end
end Mine
end
section
open PySem PySem.W PyProof.Rows PySem.Calls
set_option maxRecDepth 100000
set_option maxHeartbeats 1000000
set_option linter.unusedVariables false
namespace Mine
theorem Paired.strs {g : Nat → Str} {l : List Nat} {ys : List Value} (h : Paired (fun i v => ∃ t, v = Value.str (g i) t) l ys) : StrsAre ys (l.map g) := by
  induction h with
  | nil => exact .nil
  | cons h _ ih => obtain ⟨t, rfl⟩ := h; exact .cons _ t ih
theorem paired_get {α β : Type} {F : α → β → Prop} {l : List α} {ys : List β} (h : Paired F l ys) : ∀ (i : Nat) (y : β), ys[i]? = some y → ∃ a, l[i]? = some a ∧ F a y := by
  induction h with
  | nil => intro i y hy; simp at hy
  | cons h _ ih =>
    intro i y hy
    cases i with
    | zero => simp at hy; subst hy; exact ⟨_, rfl, h⟩
    | succ i => simpa using ih i y (by simpa using hy)
section
variable {w : World} {d u : Nat} {E : Value → Shared → Prop} {s : Shared} {f c' : Addr} {h₀ : Heap} {L C : Addr} {m mg mb : Str → Option Value}
/-- one of two names over a list of pairs -/
theorem comp_pair {x x₂ z y : Str} {px px₂ pz py tp pos : Pos} {k : Nat} {scope : Scope} {a : Addr} {items : Array Value} {Q : Value → Shared → Prop} {V : Nat → Value → Value → Prop} {sel : Bool} {g : Nat → Str} (F : Fr h₀ L s.heap m)
    (hclos : closureFor scope (lEnv L f c') = pure []) (hcell : ∀ y ∈ scope.names, y.2 ≠ .cell) (hkind : scope.kind = .function) (hnames : ∀ y ∈ scope.names, y.2 = .local → scope.names.lookup y.1 = some .local)
    (hx : scope.names.lookup x = some .local) (hx₂ : scope.names.lookup x₂ = some .local) (hxx : x ≠ x₂) (hz : z = if sel = true then x else x₂) (hdz : (z == ("__debug__" : Str)) = false)
    (hy : m y = some (.ref a)) (hky : (lEnv L f c').kindOf y = some .local) (hdy : (y == ("__debug__" : Str)) = false) (hl : s.heap.IsList a items) (hlen : items.size ≤ 1000)
    (hT : ∀ i v, items[i]? = some v → ∃ T p q, v = .ref T ∧ IsTup s.heap T #[p, q] ∧ V i p q) (hV : ∀ i p q, V i p q → ∃ t, (if sel = true then p else q) = .str (g i) t)
    (h : ∀ D h' tk ys, s.heap.objs.size ≤ D → h'.PlainList D ys → StrsAre ys.toList ((List.range items.size).map g) → (∀ b o, s.heap.get? b = some o → h'.get? b = some o) → Q (.ref D) { s with heap := h', toks := tk }) :
    wpAny (model prog w) (AA d u) (eval (.ListComp (.Name z pz) [⟨.Tuple [.Name x px, .Name x₂ px₂] k tp, .Name y py, [], 0⟩] scope pos) (lEnv L f c')) Q E s := by
  have T : ∀ I, Turns w (AA d u) s.heap I items.size (fun i v => items[i]? = some v) (fun i h => h.IsListIter I a i ∧ h.IsList a items) (.Tuple [.Name x px, .Name x₂ px₂] k tp) [] (.Name z pz) (fun C => compEnvC scope [] C (lEnv L f c')) (fun i m => ∃ p q, V i p q ∧ m x = some p ∧ m x₂ = some q) (fun _ => true) (fun i y ts => ts = [] ∧ ∃ t, y = .str (g i) t) := fun I =>
    ⟨asg_pair (St := fun i h => h.IsListIter I a i ∧ h.IsList a items) (P := fun i v => items[i]? = some v) (scope := scope) hx hx₂ hxx hkind rfl hT (fun i h e => e.1), fun C i u m₂ E' hi hB F' => wpAny_pure ⟨rfl, ⟨_, _, rfl, fun _ _ _ e => e, F'.ns⟩⟩, fun C i u m₂ E' hi' ⟨p, q, hv, hp, hq⟩ _ F' => by
      have hzl : scope.names.lookup z = some .local := by subst hz; cases sel <;> assumption
      have hm : m₂ z = some (if sel = true then p else q) := by subst hz; cases sel <;> assumption
      refine wpAny_Name (wpAny_loadName_local (env := compEnvC scope [] C (lEnv L f c')) hkind (lookup_relabel_local hzl) F'.ns hm ?_) hdz
      exact ⟨⟨[], ⟨rfl, hV i p q hv⟩, fun p hp => (nomatch hp)⟩, KeepsC.rfl' F'⟩⟩
  refine comp_own (n := items.size) (cl := []) (fun i v => items[i]? = some v) (fun i m => ∃ p q, V i p q ∧ m x = some p ∧ m x₂ = some q) (fun _ => true) (fun i y ts => ts = [] ∧ ∃ t, y = .str (g i) t) hclos hcell hkind hnames (by simp only [sizeLine]; omega) ?_ ?_
  · exact nm_loc (env := lEnv L f c') F hy (iters_list rfl hl fun I => T I) (hx := hky) (hd := hdy)
  · intro D h' tk ys tss hD hl' hM hk
    refine h D h' tk ys hD hl' ?_ hk
    have hp := hM.2
    rw [List.filter_eq_self.mpr (fun _ _ => rfl)] at hp
    exact Paired.strs (hp.mono fun i v ⟨ts, ⟨_, r⟩, _⟩ => r)
end
noncomputable def callArg : Expr → Expr
  | .Call _ (a :: _) _ _ => a
  | e => e
noncomputable abbrev eT : Expr := callArg (asgV (lSt 2))
section
variable {w : World} {d u : Nat} {E : Value → Shared → Prop} {s : Shared} {f c' : Addr} {h₀ : Heap} {L C : Addr} {m mg mb : Str → Option Value}
theorem comp_text {a : Addr} {ms : List Int} {Q : Value → Shared → Prop} (F : Fr h₀ L s.heap m) (hy : m "signs" = some (.ref a)) (hs : Signs s.heap a ms) (hlen : ms.length ≤ 12)
    (h : ∀ D h' tk ys, s.heap.objs.size ≤ D → h'.PlainList D ys → StrsAre ys.toList (ms.map fun n => ch (signC n)) → (∀ b o, s.heap.get? b = some o → h'.get? b = some o) → Q (.ref D) { s with heap := h', toks := tk }) :
    wpAny (model prog w) (AA d u) (eval eT (lEnv L f c')) Q E s := by
  obtain ⟨ys, hl, hp⟩ := hs
  have hsz : ys.size = ms.length := by have := hp.length; simp at this; exact this.symm
  refine comp_pair (x := "sign") (x₂ := "meant") (z := "sign") (y := "signs") (sel := true) (g := fun i => ch (signC (ms.getD i 0))) (V := fun i p q => ∃ t1 t2, p = .str (ch (signC (ms.getD i 0))) t1 ∧ q = .str (meantC (ms.getD i 0)) t2) F rfl (by decide +kernel) rfl (by decide +kernel) (by decide +kernel) (by decide +kernel) (by decide) rfl (by decide) hy rfl (by decide) hl (by omega) ?_ ?_ ?_
  · intro i v hv
    obtain ⟨n, hn, T, t1, t2, rfl, ht⟩ := paired_get hp i v (by simpa using hv)
    have : ms.getD i 0 = n := by simp [List.getD_eq_getElem?_getD, hn]
    exact ⟨T, _, _, rfl, ht, t1, t2, by rw [this], by rw [this]⟩
  · rintro i p q ⟨t1, t2, rfl, rfl⟩
    exact ⟨t1, rfl⟩
  · intro D h' tk ys' hD hl' hst hk
    refine h D h' tk ys' hD hl' ?_ hk
    rw [hsz] at hst
    have e : (List.range ms.length).map (fun i => ch (signC (ms.getD i 0))) = ms.map fun n => ch (signC n) := by
      conv => rhs; rw [← map_getD ms 0]
      rw [List.map_map]; rfl
    rwa [e] at hst
end
end Mine
end
section
open PySem PySem.W PyProof.Rows PySem.Calls
set_option maxRecDepth 100000
set_option maxHeartbeats 1000000
set_option linter.unusedVariables false
namespace Mine
theorem shifted_out {lo hi c : Nat} (h1 : lo ≤ c) (h2 : c ≤ hi) : ∀ l : List (Nat × Nat × Nat), (l.all fun e => decide (e.2.1 < lo) || decide (hi < e.1)) = true → Unicode.shifted l c = none
  | [], _ => rfl
  | (a, b, t) :: l, h => by
    rw [List.all_cons, Bool.and_eq_true, Bool.or_eq_true, decide_eq_true_iff, decide_eq_true_iff] at h
    rw [Unicode.shifted]
    split
    · rfl
    · split
      · dsimp only at h; omega
      · exact shifted_out h1 h2 l h.2
theorem lower_ch {c : Nat} (h : c ≠ 0x3A3) : Txt.lower (ch c) = ⟨(Unicode.lowerOf c).toArray⟩ := by
  unfold Txt.lower
  have this : Unicode.lowerAt #[c] 0 = Unicode.lowerOf c := by
    unfold Unicode.lowerAt
    have : (c == 0x3A3) = false := by simpa using h
    simp [this]
  congr 1
  rw [← this]
  show (#[(Unicode.lowerAt #[c] 0).toArray] : Array (Array Nat)).flatten = _
  simp
theorem cjk_lower {c : Nat} (h1 : 19968 ≤ c) (h2 : c ≤ 40869) : Txt.lower (ch c) = ch c := by
  rw [lower_ch (by omega)]
  have e1 : Unicode.shifted UnicodeData.oneLower c = none := shifted_out h1 h2 _ (by decide +kernel)
  have e2 : UnicodeData.severalLower.lookup c = none := by
    have : UnicodeData.severalLower = [(0x130, [0x69, 0x307])] := by decide +kernel
    rw [this]
    have : (c == 0x130) = false := by simp; omega
    simp [List.lookup, this]
  unfold Unicode.lowerOf Unicode.image
  rw [e2, e1]
  rfl
theorem tbl_out : (tbl.all fun e => decide (e.1 < 19968) || decide (40869 < e.1)) = true := by decide +kernel
theorem cjk_tbl {c : Nat} (h1 : 19968 ≤ c) (h2 : c ≤ 40869) : tblGet c = none := by
  unfold tblGet
  have : tbl.find? (fun e => e.1 == (c : Int)) = none := by
    rw [List.find?_eq_none]
    intro e he hx
    have := List.all_eq_true.mp tbl_out e he
    rw [Bool.or_eq_true, decide_eq_true_iff, decide_eq_true_iff] at this
    have := beq_iff_eq.mp hx
    omega
  rw [this]; rfl
theorem cjk_unseen {c : Nat} (h1 : 19968 ≤ c) (h2 : c ≤ 40869) : unseenL.contains (c : Int) = false := by
  have : (unseenL.all fun e => decide (e < 19968) || decide (40869 < e)) = true := by decide +kernel
  rw [Bool.eq_false_iff]
  intro h
  have := List.all_eq_true.mp this _ (List.contains_iff_mem.mp h)
  rw [Bool.or_eq_true, decide_eq_true_iff, decide_eq_true_iff] at this
  omega
theorem prep_up : ∀ k : Fin 26, prepC (65 + k.1) = ch (97 + k.1) := by decide +kernel
theorem prep_bold : ∀ k : Fin 26, prepC (119808 + k.1) = ch (97 + k.1) := by decide +kernel
theorem prep_un : ∀ k : Fin 27, prepC (unseenL.getD k.1 0).toNat = ⟨#[]⟩ := by decide +kernel
theorem prep_few : prepC 92 = ch 92 ∧ prepC 223 = ⟨#[115, 115]⟩ ∧ prepC 64259 = ⟨#[102, 102, 105]⟩ ∧ prepC 40 = ch 40 ∧ prepC 10 = ch 10 ∧ prepC 34 = ch 34 := by decide +kernel
theorem prep_cjk {c : Nat} (h1 : 19968 ≤ c) (h2 : c ≤ 40869) : prepC c = ch c := by
  unfold prepC
  rw [cjk_unseen h1 h2, cjk_tbl h1 h2, cjk_lower h1 h2]
  rfl
/-- the two ways to what a sign is prepared to -/
theorem prep_sign (n : Int) : prepC (signC n) = meantC n := by
  have e4 : ∀ x : Int, x.fmod 4 = x % 4 := fun x => Int.fmod_eq_emod_of_nonneg x (by decide)
  have c26 : 0 ≤ (n.fdiv 16).fmod 26 ∧ (n.fdiv 16).fmod 26 < 26 := by
    rw [Int.fmod_eq_emod_of_nonneg _ (by decide)]; omega
  have cjk : 0 ≤ (n.fdiv 16).fmod 20902 ∧ (n.fdiv 16).fmod 20902 < 20902 := by
    rw [Int.fmod_eq_emod_of_nonneg _ (by decide)]; omega
  have c27 : 0 ≤ (n.fdiv 4).fmod 27 ∧ (n.fdiv 4).fmod 27 < 27 := by
    rw [Int.fmod_eq_emod_of_nonneg _ (by decide)]; omega
  unfold meantC
  by_cases h0 : n.fmod 4 = 0
  · rw [if_pos h0, signC, if_pos h0]; exact prep_few.1
  rw [if_neg h0]
  by_cases h1 : n.fmod 4 = 1
  · rw [if_pos h1, signC, if_neg h0, if_pos h1]
    exact prep_un ⟨((n.fdiv 4).fmod 27).toNat, by omega⟩
  rw [if_neg h1]
  by_cases h2 : n.fmod 4 = 2
  · rw [if_pos h2, signC, if_neg h0, if_neg h1, if_pos h2]
    split
    · exact prep_up ⟨((n.fdiv 16).fmod 26).toNat, by omega⟩
    · split
      · exact prep_few.2.1
      · split
        · exact prep_few.2.2.1
        · exact prep_bold ⟨((n.fdiv 16).fmod 26).toNat, by omega⟩
  rw [if_neg h2, signC, if_neg h0, if_neg h1, if_neg h2]
  split
  · exact prep_few.2.2.2.1
  · split
    · exact prep_few.2.2.2.2.1
    · split
      · exact prep_few.2.2.2.2.2
      · exact prep_cjk (by omega) (by omega)
end Mine
end
section
open PySem PySem.W PyProof.Rows PySem.Calls
set_option maxRecDepth 100000
set_option maxHeartbeats 1000000
set_option linter.unusedVariables false
namespace Mine
local macro_rules | `(tactic| walk_at "no such key") => `(tactic| fail)
local macro_rules | `(tactic| walk_at "no such key") => `(tactic| fail)
local macro_rules | `(tactic| walk_at "no such key") => `(tactic| fail)
local macro_rules | `(tactic| walk_at "no such key") => `(tactic| fail)
local macro_rules | `(tactic| walk_at "no such key") => `(tactic| fail)
local macro_rules | `(tactic| walk_at "no such key") => `(tactic| fail)
local macro_rules | `(tactic| walk_at "no such key") => `(tactic| fail)
local macro_rules | `(tactic| walk_at "no such key") => `(tactic| fail)
local macro_rules | `(tactic| walk_at "no such key") => `(tactic| fail)
local macro_rules | `(tactic| walk_at "no such key") => `(tactic| fail)
local macro_rules | `(tactic| walk_at "no such key") => `(tactic| fail)
local macro_rules | `(tactic| walk_at "no such key") => `(tactic| fail)
local macro_rules | `(tactic| walk_at "no such key") => `(tactic| fail)
local macro_rules | `(tactic| walk_at "no such key") => `(tactic| fail)
/-- the text that the signs make -/
noncomputable def textL (ms : List Int) : List Nat := ms.map signC
noncomputable def strOf (l : List Nat) : Str := ⟨l.toArray⟩
theorem catS_ch {α : Type} (g : α → Nat) (l : List α) : catS (l.map fun n => ch (g n)) = strOf (l.map g) := by
  unfold catS strOf
  congr 2
  induction l with
  | nil => rfl
  | cons a l ih => simp only [List.map_cons, List.flatMap_cons, ih]; rfl
theorem sum_map_le {α : Type} (g : α → Str) (k : Nat) : ∀ (l : List α), (∀ a ∈ l, (g a).length ≤ k) → ((l.map g).map (·.length)).sum ≤ l.length * k
  | [], _ => by simp
  | a :: l, h => by
    have h1 := h a (List.mem_cons_self ..)
    have h2 := sum_map_le g k l fun b hb => h b (List.mem_cons_of_mem _ hb)
    simp only [List.map_cons, List.sum_cons, List.length_cons]
    rw [Nat.succ_mul]; omega
theorem fresh_list {s : Shared} {L D : Addr} {m : Str → Option Value} {h₀ h' : Heap} (F : Fr h₀ L s.heap m) (hD : s.heap.objs.size ≤ D) : D ≠ L ∧ h₀.get? D = none := by
  refine ⟨Nat.ne_of_gt (Nat.lt_of_lt_of_le F.ns.lt hD), ?_⟩
  cases e : h₀.get? D with
  | none => rfl
  | some o => exact absurd (Heap.lt_size (F.keep _ _ e)) (Nat.not_lt.mpr hD)
theorem news_list {s : Shared} {L D : Addr} {m : Str → Option Value} {h₀ h' : Heap} {ys : Array Value} (F : Fr h₀ L s.heap m) (hD : s.heap.objs.size ≤ D) (hl : h'.PlainList D ys) (hk : ∀ b o, s.heap.get? b = some o → h'.get? b = some o) : ∃ n, News h₀ L h' ((D, { cls := .type "list", data := .seq ys n }) :: allOwn h₀ L s.heap) := by
  obtain ⟨n, e⟩ := hl
  refine ⟨n, fun p hp => ?_⟩
  rcases List.mem_cons.mp hp with rfl | hp
  · exact ⟨e, fresh_list (h' := h') F hD⟩
  · exact ⟨hk _ _ (allOwn_news p hp).1, (allOwn_news p hp).2⟩
local macro_rules | `(tactic| walk_at "eval ListComp") => `(tactic| (refine comp_text (by assumption) (by assumption) (by assumption) (by assumption) ?_; intro _ _ _ _ _ _ _ _))
section
variable {w : World} {d u : Nat} {E : Value → Shared → Prop} {s : Shared} {f c' : Addr} {h₀ : Heap} {L C : Addr} {m mg mb : Str → Option Value}
theorem l_2 {a : Addr} {ms : List Int} (F : Fr h₀ L s.heap m) (hy : m "signs" = some (.ref a)) (hs : Signs s.heap a ms) (hlen : ms.length ≤ 12) :
    wpAny (model prog w) (AA d u) (exec (lSt 2) (lEnv L f c')) (fun fl s' => fl = .next ∧ ∃ t, KeepsC L (fun (y : Str) => if y = ("text" : Str) then some (Value.str (strOf (textL ms)) t) else m y) s s') E s := by
  have NN : News h₀ L s.heap (allOwn h₀ L s.heap) := allOwn_news
  refine wpAny_post fun Q hQ => ?_
  conv in (exec _ _) => arg 1; whnf
  w_on
  repeat' (first | walk1 | (dsimp only; walk1))
  rename_i D h1 tk1 ys hD hl' hst hk
  have F1 := F.keeps hk
  obtain ⟨nn, N1⟩ := news_list F hD hl' hk
  have hsum := sum_map_le (fun n => ch (signC n)) 1 ms (fun _ _ => Nat.le_refl _)
  refine join_own hl'.isList hst (by omega) fun t' k => ?_
  rw [catS_ch]
  repeat' (first | walk1 | (dsimp only; walk1))
  rename_i h2 F2 N2
  exact hQ _ _ ⟨rfl, t', keepsC_of' F F2 N2 fun p hp => List.mem_cons_of_mem _ hp⟩
end
end Mine
end
section
open PySem PySem.W PyProof.Rows PySem.Calls
set_option maxRecDepth 100000
set_option maxHeartbeats 1000000
set_option linter.unusedVariables false
namespace Mine
/-- the prepared text -/
noncomputable def prepL (l : List Nat) : List Nat := l.flatMap fun c => (prepC c).cps.toList
theorem catS_prep (l : List Nat) : catS (l.map prepC) = strOf (prepL l) := by
  unfold catS strOf prepL
  rw [List.flatMap_map]
noncomputable abbrev eP : Expr := callArg (asgV (lSt 3))
local macro_rules | `(tactic| walk_at "eval Name") => `(tactic| (refine nm_globF (by assumption) (GL.G (by assumption)) (by assumption) ?_))
local macro_rules | `(tactic| walk_at "eval Name") => `(tactic| (refine nm_loc (by assumption) (by assumption) ?_))
local macro_rules | `(tactic| walk_at "callWith ref") => `(tactic| (refine cw (by assumption) ?_))
local macro_rules | `(tactic| walk_at "And") => `(tactic| (refine ⟨Fr.keep (by assumption), ?_⟩))
section
variable {w : World} {d u : Nat} {E : Value → Shared → Prop} {s : Shared} {f c' : Addr} {h₀ : Heap} {L C : Addr} {m mg mb : Str → Option Value}
theorem l_prepElt {c : Nat} {t : Tok} (hroom : d < 700) (G : GL w mg mb h₀) (F : Fr h₀ C s.heap m) (hm : m "sign" = some (.str (ch c) t)) :
    wpAny (model prog w) (AA d u) (eval (cElt eP) (compEnvC (cScope eP) [] C (lEnv L f c'))) (fun y u₁ => (∃ ts : List (Addr × Obj), (ts = [] ∧ ∃ t, y = .str (prepC c) t) ∧ ∀ p ∈ ts, s.heap.get? p.1 = none ∧ u₁.heap.get? p.1 = some p.2) ∧ KeepsC C m s u₁) E s := by
  have NN : News h₀ C s.heap (allOwn h₀ C s.heap) := allOwn_news
  obtain ⟨f2, hm2, hf2⟩ := G.G.prepared
  refine wpAny_post fun Q hQ => ?_
  conv in (eval _ _) => arg 1; whnf
  w_on
  repeat' (first | walk1 | (dsimp only; walk1))
  refine prepared_call (G.keeps F.keep) (hf2.keeps F.keep) (by omega) fun v h' tk hk => ?_
  exact hQ _ _ ⟨⟨[], ⟨rfl, v, rfl⟩, fun p hp => (nomatch hp)⟩, h', tk, rfl, fun b o _ e => hk b o e, F.ns.at' fun o e => hk _ o e⟩
theorem comp_prep {cs : List Nat} {t : Tok} {Q : Value → Shared → Prop} (hroom : d < 700) (G : GL w mg mb h₀) (F : Fr h₀ L s.heap m) (hy : m "text" = some (.str (strOf cs) t)) (hlen : cs.length ≤ 40)
    (h : ∀ D h' tk ys, s.heap.objs.size ≤ D → h'.PlainList D ys → StrsAre ys.toList (cs.map prepC) → (∀ b o, s.heap.get? b = some o → h'.get? b = some o) → Q (.ref D) { s with heap := h', toks := tk }) :
    wpAny (model prog w) (AA d u) (eval eP (lEnv L f c')) Q E s := by
  have hsz : (strOf cs).cps.size = cs.length := by simp [strOf]
  have G₁ := G.keeps F.keep
  have hg : ∀ i v, SignAt (strOf cs) i v → ∃ t, v = .str (ch (cs.getD i 0)) t := by
    rintro i v ⟨c, t, hc, rfl⟩
    refine ⟨t, ?_⟩
    have : cs[i]? = some c := by simpa [strOf] using hc
    simp [List.getD_eq_getElem?_getD, this]
  have T : ∀ (px : Pos) I St, Turns w (AA d u) s.heap I (strOf cs).cps.size (SignAt (strOf cs)) St (.Name "sign" px) [] (cElt eP) (fun C => compEnvC (cScope eP) [] C (lEnv L f c')) (fun i m => ∃ v, SignAt (strOf cs) i v ∧ m "sign" = some v) (fun _ => true) (fun i y ts => ts = [] ∧ ∃ t, y = .str (prepC (cs.getD i 0)) t) := fun px I St =>
    ⟨asg_name (P := SignAt (strOf cs)) (St := St) (scope := cScope eP) (x := "sign") (by decide +kernel) rfl, fun C i u m₂ E' hi hB F' => wpAny_pure ⟨rfl, ⟨_, _, rfl, fun _ _ _ e => e, F'.ns⟩⟩, fun C i u m₂ E' hi' ⟨v, hv, hm'⟩ _ F' => by
      obtain ⟨t, rfl⟩ := hg i v hv
      exact l_prepElt hroom G₁ F' hm'⟩
  refine comp_own (elt := cElt eP) (iter := cIter eP) (ifs := []) (scope := cScope eP) (n := (strOf cs).cps.size) (cl := []) (SignAt (strOf cs)) (fun i m => ∃ v, SignAt (strOf cs) i v ∧ m "sign" = some v) (fun _ => true) (fun i y ts => ts = [] ∧ ∃ t, y = .str (prepC (cs.getD i 0)) t)
    rfl (by decide +kernel) rfl (by decide +kernel) (by simp only [sizeLine]; omega) ?_ ?_
  · exact nm_loc (env := lEnv L f c') (x := "text") F hy (iters_str rfl fun I St => T _ I St)
  · intro D h' tk ys tss hD hl' hM hk
    refine h D h' tk ys hD hl' ?_ hk
    have hp := hM.2
    rw [List.filter_eq_self.mpr (fun _ _ => rfl), hsz] at hp
    have := Paired.strs (g := fun i => prepC (cs.getD i 0)) (hp.mono fun i v ⟨ts, ⟨_, r⟩, _⟩ => r)
    have e : (List.range cs.length).map (fun i => prepC (cs.getD i 0)) = cs.map prepC := by
      conv => rhs; rw [← map_getD cs 0]
      rw [List.map_map]; rfl
    rwa [e] at this
theorem l_3 {cs : List Nat} {t : Tok} (hroom : d < 700) (G : GL w mg mb h₀) (F : Fr h₀ L s.heap m) (hy : m "text" = some (.str (strOf cs) t)) (hlen : cs.length ≤ 40) (hp3 : ∀ c ∈ cs, (prepC c).length ≤ 3) :
    wpAny (model prog w) (AA d u) (exec (lSt 3) (lEnv L f c')) (fun fl s' => fl = .next ∧ ∃ t, KeepsC L (fun (y : Str) => if y = ("prepared" : Str) then some (Value.str (strOf (prepL cs)) t) else m y) s s') E s := by
  have NN : News h₀ L s.heap (allOwn h₀ L s.heap) := allOwn_news
  refine wpAny_post fun Q hQ => ?_
  conv in (exec _ _) => arg 1; whnf
  w_on
  repeat' ((fail_if_success show wpAny _ _ (eval (Expr.ListComp _ _ _ _) _) _ _ _); (first | walk1 | (dsimp only; walk1)))
  refine comp_prep hroom G F hy hlen fun D h1 tk1 ys hD hl' hst hk => ?_
  have F1 := F.keeps hk
  obtain ⟨nn, N1⟩ := news_list F hD hl' hk
  have hsum := sum_map_le prepC 3 cs hp3
  repeat' (first | walk1 | (dsimp only; walk1))
  refine join_own hl'.isList hst (by omega) fun t' k => ?_
  rw [catS_prep]
  repeat' (first | walk1 | (dsimp only; walk1))
  rename_i h2 F2 N2
  exact hQ _ _ ⟨rfl, t', keepsC_of' F F2 N2 fun p hp => List.mem_cons_of_mem _ hp⟩
end
end Mine
end
section
open PySem PySem.W PyProof.Rows PySem.Calls PySem.Builtin.Str
set_option maxRecDepth 100000
set_option maxHeartbeats 1000000
set_option linter.unusedVariables false
namespace Mine
theorem sliceRange_ab (a b : Nat) : sliceRange (a : Int) (b : Int) 1 = (List.range (b - a)).map (fun k => a + k) := by
  unfold sliceRange
  simp only [show ((1 : Int) > 0) = True from by simp, if_true, Int.one_mul]
  have e : (if (a : Int) < b then ((b : Int) - a + 1 - 1) / 1 else 0).toNat = b - a := by
    split <;> omega
  rw [e]
  exact List.map_congr_left fun k _ => by omega
theorem pick_ab (l : List Nat) (a b : Nat) : ((List.range (b - a)).map (fun k => a + k)).filterMap (l[·]?) = (l.drop a).take (b - a) := by
  generalize b - a = n
  induction n generalizing a with
  | zero => simp
  | succ n ih =>
    rw [List.range_succ_eq_map, List.map_cons, List.filterMap_cons, List.map_map]
    have e : ((fun k => a + k) ∘ Nat.succ) = fun k => (a + 1) + k := by
      funext k; simp only [Function.comp]; omega
    rw [e, ih (a + 1), Nat.add_zero]
    cases h : l[a]? with
    | none =>
      have : l.length ≤ a := by simpa using h
      rw [List.drop_eq_nil_of_le this, List.drop_eq_nil_of_le (by omega)]; simp
    | some c =>
      have hlt : a < l.length := (List.getElem?_eq_some_iff.mp h).1
      rw [List.drop_eq_getElem_cons hlt, List.take_succ_cons]
      have : l[a] = c := (List.getElem?_eq_some_iff.mp h).2
      rw [this]
theorem slice_ab {l : List Nat} {lo hi : Option Int} (a b : Nat) (h : strSliceIndices lo hi 1 l.length = sliceRange (a : Int) (b : Int) 1) (hb : b ≤ l.length) : Txt.slice (strOf l) lo hi = strOf ((l.drop a).take (b - a)) := by
  have hs : (strOf l).length = l.length := by simp [strOf, Str.length]
  have hp : (strSliceIndices lo hi 1 (strOf l).length).filterMap ((strOf l).cps[·]?) = (l.drop a).take (b - a) := by
    rw [hs, h, sliceRange_ab, ← pick_ab]
    congr 1
    funext i
    simp [strOf]
  unfold Txt.slice
  split
  · rename_i hc
    rw [hs, h, sliceRange_ab] at hc
    simp at hc
    have : l.drop a = l ∧ b - a = l.length := by
      refine ⟨?_, hc⟩
      by_cases h0 : l.length = 0
      · have : l = [] := List.eq_nil_of_length_eq_zero h0
        subst this; simp
      · have : a = 0 := by omega
        subst this; simp
    rw [this.1, this.2, List.take_length]
  · rw [hp]; rfl
theorem slice_upto (l : List Nat) (k : Nat) : Txt.slice (strOf l) none (some (k : Int)) = strOf (l.take k) := by
  rw [slice_ab 0 (min k l.length) (by
    unfold strSliceIndices
    dsimp only
    simp only [show ((1 : Int) > 0) = True from by simp, if_true]
    congr 1
    have : ¬ (k : Int) < 0 := by omega
    rw [if_neg this]; omega) (by omega)]
  rw [List.drop_zero, Nat.sub_zero]
  congr 1
  rw [List.take_eq_take_iff]; omega
theorem slice_from (l : List Nat) (k : Nat) : Txt.slice (strOf l) (some (k : Int)) none = strOf (l.drop k) := by
  rw [slice_ab (min k l.length) l.length (by
    unfold strSliceIndices
    dsimp only
    simp only [show ((1 : Int) > 0) = True from by simp, if_true]
    congr 1
    have : ¬ (k : Int) < 0 := by omega
    rw [if_neg this]; omega) (Nat.le_refl _)]
  congr 1
  by_cases hk : k ≤ l.length
  · rw [Nat.min_eq_left hk]
    exact List.take_of_length_le (by simp)
  · rw [Nat.min_eq_right (by omega), List.drop_eq_nil_of_le (Nat.le_refl _), List.drop_eq_nil_of_le (by omega)]; simp
theorem slice_last (l : List Nat) (c : Nat) : Txt.slice (strOf (l ++ [c])) none (some (-1)) = strOf l := by
  rw [slice_ab 0 l.length (by
    unfold strSliceIndices
    dsimp only
    simp only [show ((1 : Int) > 0) = True from by simp, if_true, List.length_append, List.length_cons, List.length_nil]
    congr 1
    have : (-1 : Int) < 0 := by omega
    rw [if_pos this]; omega) (by simp)]
  simp
theorem item_last (l : List Nat) (c : Nat) : Txt.item (strOf (l ++ [c])) (-1) = ch c := by
  unfold Txt.item Txt.charAt
  have e : seqIndex? (-1) (strOf (l ++ [c])).length = some l.length := by
    unfold seqIndex?
    simp [Str.length, strOf]
    constructor
    · omega
    · omega
  rw [e]
  simp [strOf]
end Mine
end
section
open PySem PySem.W PyProof.Rows PySem.Calls
set_option maxRecDepth 100000
set_option maxHeartbeats 1000000
set_option linter.unusedVariables false
namespace Mine
local macro_rules | `(tactic| walk_at "no such key") => `(tactic| fail)
local macro_rules | `(tactic| walk_at "no such key") => `(tactic| fail)
local macro_rules | `(tactic| walk_at "no such key") => `(tactic| fail)
local macro_rules | `(tactic| walk_at "no such key") => `(tactic| fail)
local macro_rules | `(tactic| walk_at "no such key") => `(tactic| fail)
local macro_rules | `(tactic| walk_at "no such key") => `(tactic| fail)
local macro_rules | `(tactic| walk_at "no such key") => `(tactic| fail)
local macro_rules | `(tactic| walk_at "no such key") => `(tactic| fail)
local macro_rules | `(tactic| walk_at "no such key") => `(tactic| fail)
local macro_rules | `(tactic| walk_at "no such key") => `(tactic| fail)
local macro_rules | `(tactic| walk_at "no such key") => `(tactic| fail)
local macro_rules | `(tactic| walk_at "no such key") => `(tactic| fail)
local macro_rules | `(tactic| walk_at "no such key") => `(tactic| fail)
local macro_rules | `(tactic| walk_at "no such key") => `(tactic| fail)
noncomputable def cmpRight : Expr → Expr
  | .Compare _ _ (r :: _) _ => r
  | e => e
noncomputable abbrev eM : Expr := callArg (cmpRight (ifTest (lSt 4)))
theorem catS_meant (ms : List Int) : catS (ms.map meantC) = strOf (prepL (textL ms)) := by
  rw [← catS_prep, textL, List.map_map]
  congr 1
  exact List.map_congr_left fun n _ => (prep_sign n).symm
theorem meant_len (n : Int) : (meantC n).length ≤ 3 := by
  unfold meantC
  split
  · exact Nat.le_of_ble_eq_true rfl
  · split
    · exact Nat.le_of_ble_eq_true rfl
    · split
      · split
        · exact Nat.le_of_ble_eq_true rfl
        · split
          · exact Nat.le_of_ble_eq_true rfl
          · split
            · exact Nat.le_of_ble_eq_true rfl
            · exact Nat.le_of_ble_eq_true rfl
      · exact Nat.le_of_ble_eq_true rfl
section
variable {w : World} {d u : Nat} {E : Value → Shared → Prop} {s : Shared} {f c' : Addr} {h₀ : Heap} {L C : Addr} {m mg mb : Str → Option Value}
theorem comp_meant {a : Addr} {ms : List Int} {Q : Value → Shared → Prop} (F : Fr h₀ L s.heap m) (hy : m "signs" = some (.ref a)) (hs : Signs s.heap a ms) (hlen : ms.length ≤ 12)
    (h : ∀ D h' tk ys, s.heap.objs.size ≤ D → h'.PlainList D ys → StrsAre ys.toList (ms.map meantC) → (∀ b o, s.heap.get? b = some o → h'.get? b = some o) → Q (.ref D) { s with heap := h', toks := tk }) :
    wpAny (model prog w) (AA d u) (eval eM (lEnv L f c')) Q E s := by
  obtain ⟨ys, hl, hp⟩ := hs
  have hsz : ys.size = ms.length := by have := hp.length; simp at this; exact this.symm
  refine comp_pair (x := "sign") (x₂ := "meant") (z := "meant") (y := "signs") (sel := false) (g := fun i => meantC (ms.getD i 0)) (V := fun i p q => ∃ t1 t2, p = .str (ch (signC (ms.getD i 0))) t1 ∧ q = .str (meantC (ms.getD i 0)) t2) F rfl (by decide +kernel) rfl (by decide +kernel) (by decide +kernel) (by decide +kernel) (by decide) rfl (by decide) hy rfl (by decide) hl (by omega) ?_ ?_ ?_
  · intro i v hv
    obtain ⟨n, hn, T, t1, t2, rfl, ht⟩ := paired_get hp i v (by simpa using hv)
    have : ms.getD i 0 = n := by simp [List.getD_eq_getElem?_getD, hn]
    exact ⟨T, _, _, rfl, ht, t1, t2, by rw [this], by rw [this]⟩
  · rintro i p q ⟨t1, t2, rfl, rfl⟩
    exact ⟨t2, rfl⟩
  · intro D h' tk ys' hD hl' hst hk
    refine h D h' tk ys' hD hl' ?_ hk
    rw [hsz] at hst
    have e : (List.range ms.length).map (fun i => meantC (ms.getD i 0)) = ms.map meantC := by
      conv => rhs; rw [← map_getD ms 0]
      rw [List.map_map]; rfl
    rwa [e] at hst
local macro_rules | `(tactic| walk_at "eval Name") => `(tactic| (refine nm_loc (by assumption) (by assumption) ?_))
theorem l_4 {a : Addr} {ms : List Int} {t : Tok} (F : Fr h₀ L s.heap m) (hy : m "signs" = some (.ref a)) (hpr : m "prepared" = some (.str (strOf (prepL (textL ms))) t)) (hs : Signs s.heap a ms) (hlen : ms.length ≤ 12) :
    wpAny (model prog w) (AA d u) (exec (lSt 4) (lEnv L f c')) (fun fl s' => fl = .next ∧ KeepsC L m s s') E s := by
  have NN : News h₀ L s.heap (allOwn h₀ L s.heap) := allOwn_news
  refine wpAny_post fun Q hQ => ?_
  conv in (exec _ _) => arg 1; whnf
  w_on
  repeat' ((fail_if_success show wpAny _ _ (eval (Expr.ListComp _ _ _ _) _) _ _ _); (first | walk1 | (dsimp only; walk1)))
  refine comp_meant F hy hs hlen fun D h1 tk1 ys hD hl' hst hk => ?_
  have F1 := F.keeps hk
  obtain ⟨nn, N1⟩ := news_list F hD hl' hk
  have hsum := sum_map_le meantC 3 ms (fun n _ => meant_len n)
  repeat' (first | walk1 | (dsimp only; walk1))
  refine join_own hl'.isList hst (by omega) fun t' k => ?_
  rw [catS_meant]
  repeat' (first | walk1 | (dsimp only; walk1))
  · rename_i hne
    exact absurd hne (by simp)
  · exact hQ _ _ ⟨rfl, h1, _, rfl, fun b o _ e => hk b o e, F1.ns⟩
end
end Mine
end
section
open PySem PySem.W PyProof.Rows PySem.Calls
set_option maxRecDepth 100000
set_option maxHeartbeats 1000000
set_option linter.unusedVariables false
namespace Mine
/-- what a statement of the law keeps -/
structure KeptG (L : Addr) (m : Str → Option Value) (s s' : Shared) : Prop where
  os : s'.os = s.os
  bare : AllBare s'.gens
  keep : ∀ b o, b ≠ L → s.heap.get? b = some o → s'.heap.get? b = some o
  ns : s'.heap.Ns L m
theorem KeepsC.toG {L : Addr} {m : Str → Option Value} {s s' : Shared} (K : KeepsC L m s s') (hb : AllBare s.gens) : KeptG L m s s' := by
  obtain ⟨h', tk, rfl, hk, hn⟩ := K
  exact ⟨rfl, hb, hk, hn⟩
theorem KeptG.trans {L : Addr} {m m' : Str → Option Value} {s s' s'' : Shared} (K : KeptG L m s s') (K' : KeptG L m' s' s'') : KeptG L m' s s'' := ⟨K'.os.trans K.os, K'.bare, fun b o hb e => K'.keep b o hb (K.keep b o hb e), K'.ns⟩
theorem KeptG.fr {h₀ : Heap} {L : Addr} {m m' : Str → Option Value} {s s' : Shared} (K : KeptG L m' s s') (F : Fr h₀ L s.heap m) : Fr h₀ L s'.heap m' := ⟨K.ns, fun b o e => K.keep b o (Nat.ne_of_lt (Nat.lt_of_lt_of_le (Heap.lt_size e) F.above)) (F.keep b o e), F.above⟩
/-- a list of pairs -/
noncomputable def RowsAt (L : Addr) (h : Heap) (D : Addr) (es : List (Int × Str)) : Prop := ∃ ys, h.PlainList D ys ∧ D ≠ L ∧ Paired (fun e y => ∃ T t1 t2, y = .ref T ∧ T ≠ L ∧ IsTup h T #[.int e.1 t1, .str e.2 t2]) es ys.toList
theorem RowsAt.up {L D : Addr} {h h' : Heap} {es : List (Int × Str)} (x : RowsAt L h D es) (hk : ∀ b o, b ≠ L → h.get? b = some o → h'.get? b = some o) : RowsAt L h' D es := by
  obtain ⟨ys, hl, hD, hp⟩ := x
  refine ⟨ys, hl.at fun o e => hk _ o hD e, hD, hp.mono fun e y hx => ?_⟩
  obtain ⟨T, t1, t2, rfl, hT, o, ho, r⟩ := hx
  exact ⟨T, t1, t2, rfl, hT, o, hk _ _ hT ho, r⟩
theorem Listed.rows {h₀ h' : Heap} {L D : Addr} {es : List (Int × Str)} (x : Listed h₀ h' D es) (hL : ∃ o, h₀.get? L = some o) : RowsAt L h' D es := by
  obtain ⟨ys, tss, hl, hts, hD, hp, hk⟩ := x
  obtain ⟨o, ho⟩ := hL
  have hDL : D ≠ L := fun e => by
    rw [e, ho] at hD; cases hD
  refine ⟨ys, hl, hDL, hp.mono fun e y hx => ?_⟩
  obtain ⟨ts, ⟨T, o2, n, t1, t2, rfl, rfl, hc, hd⟩, hs⟩ := hx
  have := hts _ (hs _ (List.mem_cons_self ..))
  have hTL : T ≠ L := fun e => by
    have e2 := this.2.2
    dsimp only at e2
    rw [e, ho] at e2; cases e2
  exact ⟨T, t1, t2, rfl, hTL, o2, this.1, hc, n, hd⟩
local macro_rules | `(tactic| walk_at "eval Name") => `(tactic| (refine nm_biF (by assumption) (GL.G (by assumption)) (by decide) (by boot_by_name) ?_))
local macro_rules | `(tactic| walk_at "eval Name") => `(tactic| (refine nm_globF (by assumption) (GL.G (by assumption)) (by assumption) ?_))
local macro_rules | `(tactic| walk_at "eval Name") => `(tactic| (refine nm_loc (by assumption) (by assumption) ?_))
local macro_rules | `(tactic| walk_at "callWith ref") => `(tactic| (refine cw (by assumption) ?_))
local macro_rules | `(tactic| walk_at "And") => `(tactic| (refine ⟨Fr.keep (by assumption), ?_⟩))
section
variable {w : World} {d u : Nat} {E : Value → Shared → Prop} {s : Shared} {f c' : Addr} {h₀ : Heap} {L C : Addr} {m mg mb : Str → Option Value}
theorem l_5 {cs : List Nat} {t : Tok} (hroom : d < 700) (G : GL w mg mb h₀) (F : Fr h₀ L s.heap m) (hb : AllBare s.gens) (hy : m "text" = some (.str (strOf cs) t)) (hlen : cs.length ≤ 40) :
    wpAny (model prog w) (AA d u) (exec (lSt 5) (lEnv L f c')) (fun fl s' => fl = .next ∧ ∃ D, RowsAt L s'.heap D (iterU cs 0 false) ∧ KeptG L (fun (y : Str) => if y = ("read" : Str) then some (Value.ref D) else m y) s s') E s := by
  have NN : News h₀ L s.heap (allOwn h₀ L s.heap) := allOwn_news
  have G₁ := G.keeps F.keep
  obtain ⟨f2, hm2, hf2⟩ := G.G.iter
  refine wpAny_post fun Q hQ => ?_
  conv in (exec _ _) => arg 1; whnf
  w_on
  repeat' (first | walk1 | (dsimp only; walk1))
  have hsz : (strOf cs).cps.size = cs.length := by simp [strOf]
  refine gen_make (x := strOf cs) G₁ (hf2.keeps F.keep) (by omega) hb fun I s1 hn hos => ?_
  have hk1 : ∀ b o, s.heap.get? b = some o → s1.heap.get? b = some o := by
    obtain ⟨_, _, _, _, _, _, _, _, _, F', _⟩ := hn
    exact F'.keep
  repeat' ((fail_if_success show wpAny _ _ (call (Value.type _) _) _ _ _); (first | walk1 | (dsimp only; walk1)))
  refine gen_list G₁ hn (by omega) (by omega) hk1 fun D s2 hL hb2 hos2 => ?_
  have hLs : ∃ o, s.heap.get? L = some o := let ⟨_, o, _, e, _⟩ := F.ns; ⟨_, e⟩
  have hR := hL.rows hLs
  obtain ⟨_, _, _, _, _, _, hk2⟩ := hL
  have F2 := F.keeps hk2
  have N2 : News h₀ L s2.heap (allOwn h₀ L s2.heap) := allOwn_news
  clear NN hk1 hn
  repeat' (first | walk1 | (dsimp only; walk1))
  rename_i h3 F3 N3
  have KG := (keepsC_of' (tk := 0) F2 F3 N3 (fun p hp => hp)).toG hb2
  refine hQ _ _ ⟨rfl, D, ?_, (hos2.trans hos), hb2, fun b o hbL e => KG.keep b o hbL (hk2 b o e), KG.ns⟩
  rw [show (strOf cs).cps.toList = cs from by simp [strOf]] at hR
  exact hR.up KG.keep
theorem l_6 {cs : List Nat} {t : Tok} (hroom : d < 700) (G : GL w mg mb h₀) (F : Fr h₀ L s.heap m) (hb : AllBare s.gens) (hy : m "prepared" = some (.str (strOf cs) t)) (hlen : cs.length ≤ 40) :
    wpAny (model prog w) (AA d u) (exec (lSt 6) (lEnv L f c')) (fun fl s' => fl = .next ∧ ∃ D, RowsAt L s'.heap D (iterU cs 0 false) ∧ KeptG L (fun (y : Str) => if y = ("whole" : Str) then some (Value.ref D) else m y) s s') E s := by
  have NN : News h₀ L s.heap (allOwn h₀ L s.heap) := allOwn_news
  have G₁ := G.keeps F.keep
  obtain ⟨f2, hm2, hf2⟩ := G.G.iter
  refine wpAny_post fun Q hQ => ?_
  conv in (exec _ _) => arg 1; whnf
  w_on
  repeat' (first | walk1 | (dsimp only; walk1))
  have hsz : (strOf cs).cps.size = cs.length := by simp [strOf]
  refine gen_make (x := strOf cs) G₁ (hf2.keeps F.keep) (by omega) hb fun I s1 hn hos => ?_
  have hk1 : ∀ b o, s.heap.get? b = some o → s1.heap.get? b = some o := by
    obtain ⟨_, _, _, _, _, _, _, _, _, F', _⟩ := hn
    exact F'.keep
  repeat' ((fail_if_success show wpAny _ _ (call (Value.type _) _) _ _ _); (first | walk1 | (dsimp only; walk1)))
  refine gen_list G₁ hn (by omega) (by omega) hk1 fun D s2 hL hb2 hos2 => ?_
  have hLs : ∃ o, s.heap.get? L = some o := let ⟨_, o, _, e, _⟩ := F.ns; ⟨_, e⟩
  have hR := hL.rows hLs
  obtain ⟨_, _, _, _, _, _, hk2⟩ := hL
  have F2 := F.keeps hk2
  have N2 : News h₀ L s2.heap (allOwn h₀ L s2.heap) := allOwn_news
  clear NN hk1 hn
  repeat' (first | walk1 | (dsimp only; walk1))
  rename_i h3 F3 N3
  have KG := (keepsC_of' (tk := 0) F2 F3 N3 (fun p hp => hp)).toG hb2
  refine hQ _ _ ⟨rfl, D, ?_, (hos2.trans hos), hb2, fun b o hbL e => KG.keep b o hbL (hk2 b o e), KG.ns⟩
  rw [show (strOf cs).cps.toList = cs from by simp [strOf]] at hR
  exact hR.up KG.keep
end
end Mine
end
section
open PySem PySem.W PyProof.Rows PySem.Calls
set_option maxRecDepth 100000
set_option maxHeartbeats 1000000
set_option linter.unusedVariables false
namespace Mine
local macro_rules | `(tactic| walk_at "no such key") => `(tactic| fail)
local macro_rules | `(tactic| walk_at "no such key") => `(tactic| fail)
local macro_rules | `(tactic| walk_at "no such key") => `(tactic| fail)
local macro_rules | `(tactic| walk_at "no such key") => `(tactic| fail)
local macro_rules | `(tactic| walk_at "no such key") => `(tactic| fail)
local macro_rules | `(tactic| walk_at "no such key") => `(tactic| fail)
local macro_rules | `(tactic| walk_at "no such key") => `(tactic| fail)
local macro_rules | `(tactic| walk_at "no such key") => `(tactic| fail)
local macro_rules | `(tactic| walk_at "no such key") => `(tactic| fail)
local macro_rules | `(tactic| walk_at "no such key") => `(tactic| fail)
local macro_rules | `(tactic| walk_at "no such key") => `(tactic| fail)
local macro_rules | `(tactic| walk_at "no such key") => `(tactic| fail)
local macro_rules | `(tactic| walk_at "no such key") => `(tactic| fail)
local macro_rules | `(tactic| walk_at "no such key") => `(tactic| fail)
noncomputable abbrev pFor : Stmt := lSt 8
noncomputable def pB0 : Stmt := hd (forBody pFor)
noncomputable def pB1 : Stmt := snd (forBody pFor)
theorem pFor_eq : lSt 8 = .For (forTarget pFor) (forIter pFor) (forBody pFor) [] (stPos pFor) := rfl
theorem pBody_eq : forBody pFor = [pB0, pB1] := rfl
theorem pTarget_eq : ∃ p1 p2 k p3, forTarget pFor = .Tuple [.Name ("place" : Str) p1, .Name ("unit" : Str) p2] k p3 := ⟨_, _, _, _, rfl⟩
local macro_rules | `(tactic| walk_at "eval Name") => `(tactic| (refine nm_biF (by assumption) (GL.G (by assumption)) (by decide) (by boot_by_name) ?_))
local macro_rules | `(tactic| walk_at "eval Name") => `(tactic| (refine nm_globF (by assumption) (GL.G (by assumption)) (by assumption) ?_))
local macro_rules | `(tactic| walk_at "eval Name") => `(tactic| (refine nm_loc (by assumption) (by assumption) ?_))
local macro_rules | `(tactic| walk_at "callWith ref") => `(tactic| (refine cw (by assumption) ?_))
local macro_rules | `(tactic| walk_at "And") => `(tactic| (refine ⟨Fr.keep (by assumption), ?_⟩))
section
variable {w : World} {d u : Nat} {E : Value → Shared → Prop} {s : Shared} {f c' : Addr} {h₀ : Heap} {L C : Addr} {m mg mb : Str → Option Value}
theorem str_last {A : Around} {value slice : Expr} {l : List Nat} {c : Nat} {t u : Tok} {Q : Value → Shared → Prop} (hl : l.length ≤ 10) (h : Q (.str (ch c) s.toks) { s with toks := s.toks + 1 })
    (hs : subscripted slice false (.str (strOf (l ++ [c])) t) (.int (-1) u) = operate [.str (strOf (l ++ [c])) t, .int (-1) u] (getItem (.str (strOf (l ++ [c])) t) (.int (-1) u)) := by with_unfolding_all rfl)
    (ht : ∀ r, letTemporaryGo value (.str (strOf (l ++ [c])) t) r = pure () := by intro _; with_unfolding_all rfl) : wpAny (model prog w) A (subscriptTail value slice (.str (strOf (l ++ [c])) t) (.int (-1) u)) Q E s := by
  have hsz : (strOf (l ++ [c])).length = l.length + 1 := by simp [strOf, Str.length]
  refine item_str (fitsSsize_of (N := 9223372036854775808) (by omega) (by omega) (Int.le_refl _)) (by rw [hsz]; omega) (by rw [hsz]; omega) (fun _ => ?_) hs ht
  rw [item_last]; exact h
local macro_rules | `(tactic| walk_at "subscriptTail") => `(tactic| (refine str_last (by assumption) ?_))
theorem p_0 {l : List Nat} {c : Nat} {t : Tok} (hroom : d < 700) (G : GL w mg mb h₀) (F : Fr h₀ L s.heap m) (hu : m "unit" = some (.str (strOf (l ++ [c])) t)) (hlen : l.length ≤ 10) :
    wpAny (model prog w) (AA d u) (exec pB0 (lEnv L f c')) (fun fl s' => fl = .next ∧ ∃ t, KeepsC L (fun (y : Str) => if y = ("meant" : Str) then some (Value.str (prepC c) t) else m y) s s') E s := by
  have NN : News h₀ L s.heap (allOwn h₀ L s.heap) := allOwn_news
  obtain ⟨f2, hm2, hf2⟩ := G.G.prepared
  refine wpAny_post fun Q hQ => ?_
  conv in (exec _ _) => arg 1; whnf
  w_on
  repeat' (first | walk1 | (dsimp only; walk1))
  refine prepared_call (G.keeps F.keep) (hf2.keeps F.keep) (by omega) fun v h' tk hk => ?_
  have F1 := F.keeps hk
  have N1 := NN.grown hk
  clear NN
  repeat' (first | walk1 | (dsimp only; walk1))
  rename_i h2 F2 N2
  exact hQ _ _ ⟨rfl, v, keepsC_of' F F2 N2 fun p hp => hp⟩
theorem ss_ns {A : Around} {value slice : Expr} {x y : Str} {t uj : Tok} {j : Int} {Q : Value → Shared → Prop} (hy : Txt.slice x none (some j) = y) (hx : x.cps.size ≤ 100) (h : ∀ h' t' k, (∀ b o, s.heap.get? b = some o → h'.get? b = some o) → Q (.str y t') { s with heap := h', toks := k })
    (hs : subscripted slice false (.str x t) (.ref s.heap.objs.size) = operate [.ref s.heap.objs.size, .str x t] (getItem (.str x t) (.ref s.heap.objs.size)) := by with_unfolding_all rfl)
    (ht : ∀ r, letTemporaryGo value (.str x t) r = pure () := by intro _; with_unfolding_all rfl) :
    wpAny (model prog w) A (subscriptTail value slice (.str x t) (.ref s.heap.objs.size)) Q E { s with heap := s.heap.push { cls := .type "slice", data := .fields #[.none, .int j uj, .none] } } :=
  tail_of_ItemOn (SBH.sliceItem_ns (P := fun h' => ∀ b o, s.heap.get? b = some o → h'.get? b = some o)
    (fun h' ob hp => fun b o e => Heap.get?_push_of_some _ (hp b o e)) (fun _ _ e => e) (fun h' t' k hp => by rw [hy]; exact h h' t' k hp) (by show x.cps.size ≤ sizeLine; simp only [sizeLine]; omega)) hs ht
theorem ss_sn {A : Around} {value slice : Expr} {x y : Str} {t uj : Tok} {j : Int} {Q : Value → Shared → Prop} (hy : Txt.slice x (some j) none = y) (hx : x.cps.size ≤ 100) (h : ∀ h' t' k, (∀ b o, s.heap.get? b = some o → h'.get? b = some o) → Q (.str y t') { s with heap := h', toks := k })
    (hs : subscripted slice false (.str x t) (.ref s.heap.objs.size) = operate [.ref s.heap.objs.size, .str x t] (getItem (.str x t) (.ref s.heap.objs.size)) := by with_unfolding_all rfl)
    (ht : ∀ r, letTemporaryGo value (.str x t) r = pure () := by intro _; with_unfolding_all rfl) :
    wpAny (model prog w) A (subscriptTail value slice (.str x t) (.ref s.heap.objs.size)) Q E { s with heap := s.heap.push { cls := .type "slice", data := .fields #[.int j uj, .none, .none] } } :=
  slice_own (fun h' t' k hk _ => by rw [hy]; exact h h' t' k hk) hx hs ht
theorem signs_strs {x : Str} {ys : List Value} : ∀ (l : List Nat) (k : Nat), (∀ i v, ys[i]? = some v → SignAt x (k + i) v) → ys.length = l.length → (∀ i c, l[i]? = some c → x.cps[k + i]? = some c) → StrsAre ys (l.map ch) := by
  induction ys with
  | nil => intro l k h hl hc; cases l <;> simp at hl; exact .nil
  | cons y ys ih =>
    intro l k h hl hc
    cases l with
    | nil => simp at hl
    | cons c l =>
      obtain ⟨c1, t, h1, h2⟩ := h 0 y rfl
      have h3 := hc 0 c rfl
      rw [h1] at h3
      cases h3
      rw [h2]
      refine .cons _ t (ih l (k + 1) (fun i v hv => ?_) (by simpa using hl) fun i c hi => ?_)
      · have := h (i + 1) v (by simpa using hv)
        rwa [show k + 1 + i = k + (i + 1) from by omega]
      · have := hc (i + 1) c (by simpa using hi)
        rwa [show k + 1 + i = k + (i + 1) from by omega]
theorem list_str_own {A : Around} {l : List Nat} {t : Tok} {Q : Value → Shared → Prop} (hh : A.handled = none) (hl : l.length ≤ 100)
    (h : ∀ D h' tk ys, s.heap.objs.size ≤ D → h'.PlainList D ys → StrsAre ys.toList (l.map ch) → (∀ b o, s.heap.get? b = some o → h'.get? b = some o) → Q (.ref D) { s with heap := h', toks := tk }) :
    wpAny (model prog w) A (call (.type "list") [.str (strOf l) t]) Q E s := by
  have hsz : (strOf l).cps.size = l.length := by simp [strOf]
  refine call_list_str hh (strOf l) t (fun h' tk acc' k hk hS hacc => ?_) (by rw [hsz]; simp only [sizeLine]; omega)
  refine h _ h' tk acc' (Nat.le_refl _) ⟨k, hS⟩ (signs_strs (x := strOf l) l 0 (fun i v hv => ?_) ?_ fun i c hc => ?_) hk
  · have := hacc.2 i v (by simpa using hv)
    rwa [Nat.zero_add]
  · have := hacc.1
    rw [Array.length_toList, this, hsz]
  · rw [Nat.zero_add]; simpa [strOf] using hc
theorem news_cons {h₀ h : Heap} {L D : Addr} {o : Obj} {news : List (Addr × Obj)} (N : News h₀ L h news) (e : h.get? D = some o) (hf : D ≠ L ∧ h₀.get? D = none) : News h₀ L h ((D, o) :: news) := fun p hp => by
  rcases List.mem_cons.mp hp with rfl | hp
  · exact ⟨e, hf⟩
  · exact N p hp
theorem ext_plain {A : Around} {P b : Addr} {items items2 : Array Value} {Q : Value → Shared → Prop} (hP : s.heap.PlainList P items) (hb : s.heap.PlainList b items2) (hsz : items.size + items2.size ≤ 1000)
    (h : ∀ h', h'.PlainList P (items ++ items2) → (∀ b o, b ≠ P → s.heap.get? b = some o → h'.get? b = some o) → Q .none { s with heap := h' }) : wpAny (model prog w) A (call (.builtin "list.extend") [.ref P, .ref b]) Q E s := by
  obtain ⟨n, e⟩ := hP
  obtain ⟨n2, e2⟩ := hb
  have hz : items.size + items2.size ≤ sizeLine := Nat.le_trans hsz (by simp only [sizeLine]; omega)
  refine call_meets PySem.F.slot_list_extend ⟨_, e, rfl⟩ PySem.F.entry_list_extend (PySem.F.args_list_extend_2 _ _) (AutoSeq1.list_extend_list_list_0 P items n b items2 n2 (extend_door hz) (Nat.le_trans (Nat.le_add_right _ _) hz) (Nat.le_succ_of_le hz)) ⟨e, e2, ?_⟩
  refine h _ ⟨if (items ++ items2).size == items.size then n else n + 1, ?_⟩ fun b o hb e => (Heap.get?_update_other _ _ (Ne.symm hb)).trans e
  rw [Heap.get?_update_self _ e (by rw [mapSeq_app]; rfl), mapSeq_app]
theorem p_1 {l z : List Nat} {c : Nat} {t t2 : Tok} {P : Addr} {items : Array Value} {us : List Str} (hroom : d < 700) (G : GL w mg mb h₀) (F : Fr h₀ L s.heap m) (hu : m "unit" = some (.str (strOf (l ++ [c])) t)) (hz : m "meant" = some (.str (strOf z) t2)) (hlen : l.length ≤ 10) (hzl : z.length ≤ 10)
    (hP : m "parted" = some (.ref P)) (hPL : P ≠ L) (hP₀ : h₀.get? P = none) (hl : s.heap.PlainList P items) (hs : StrsAre items.toList us) (hil : items.size ≤ 100) :
    wpAny (model prog w) (AA d u) (exec pB1 (lEnv L f c')) (fun fl s' => fl = .next ∧ ∃ h' tk items', s' = { s with heap := h', toks := tk } ∧ h'.Ns L m ∧ (∀ b o, b ≠ L → b ≠ P → s.heap.get? b = some o → h'.get? b = some o) ∧ h'.PlainList P items' ∧ StrsAre items'.toList (us ++ (strOf (l ++ z.take 1) :: (z.drop 1).map ch))) E s := by
  obtain ⟨nP, hl⟩ := hl
  have NN : News h₀ L s.heap ((P, { cls := .type "list", data := .seq items nP }) :: allOwn h₀ L s.heap) := fun p hp => by
    rcases List.mem_cons.mp hp with rfl | hp
    · exact ⟨hl, hPL, hP₀⟩
    · exact allOwn_news p hp
  refine wpAny_post fun Q hQ => ?_
  conv in (exec _ _) => arg 1; whnf
  w_on
  repeat' (first | walk1 | (dsimp only; walk1))
  have hs1 : (strOf (l ++ [c])).cps.size = l.length + 1 := by simp [strOf]
  have hs2 : (strOf z).cps.size = z.length := by simp [strOf]
  refine ss_ns (s := ⟨_, _, _, _, _⟩) (slice_last l c) (by omega) fun h1 t1 k1 hk1 => ?_
  have F1 := F.keeps hk1
  have N1 := NN.grown hk1
  clear NN
  dsimp only
  repeat' (first | walk1 | (dsimp only; walk1))
  rename_i F1' N1' h2 t2' k2 F2 N2 _
  rw [show Txt.slice (strOf z) none (some 1) = strOf (z.take 1) from slice_upto z 1]
  clear N1'
  have hadd : strOf l ++ strOf (z.take 1) = strOf (l ++ z.take 1) := by
    show Str.append (strOf l) (strOf (z.take 1)) = _
    simp [Str.append, strOf]
  refine PyProof.Rows.add_str (fun t3 k3 => ?_) (by simp only [strOf, Str.length, List.size_toArray, List.length_take, sizeLine]; omega)
  rw [hadd]
  dsimp only
  repeat' (first | walk1 | (dsimp only; walk1))
  rename_i h4 F4' N4' h5 t5 k5 F5 N5 _
  rw [show Txt.slice (strOf z) (some 1) none = strOf (z.drop 1) from slice_from z 1]
  clear N4' N2
  refine list_str_own rfl (by simp; omega) fun D h6 k6 ys hD hl6 hst6 hk6 => ?_
  have F6 := F5.keeps hk6
  obtain ⟨n6, e6⟩ := id hl6
  have N6 := news_cons (N5.grown hk6) e6 (fresh_list (h' := h6) F5 hD)
  clear N5
  have hys : ys.size ≤ 10 := by
    have := hst6.length
    rw [Array.length_toList] at this
    rw [this]; simp; omega
  dsimp only
  refine add_arrays F6 N6 (News.isList N6 (List.mem_cons_of_mem _ (List.mem_cons_self ..))) (News.isList N6 (List.mem_cons_self ..)) (fun h7 F7 N7 => ?_) (by simp only [sizeLine, List.size_toArray, List.length_cons, List.length_nil]; omega)
  dsimp only
  repeat' (first | walk1 | (dsimp only; walk1))
  have eP := (N7 (P, _) (List.mem_cons_of_mem _ (List.mem_cons_of_mem _ (List.mem_cons_of_mem _ (List.mem_cons_self ..))))).1
  have eX := (N7 _ (List.mem_cons_self ..)).1
  refine ext_plain ⟨nP, eP⟩ ⟨_, eX⟩ (by simp; omega) fun h8 hP8 hk8 => ?_
  have K := keepsC_of' (tk := 0) F F7 N7 (fun p hp => List.mem_cons_of_mem _ (List.mem_cons_of_mem _ (List.mem_cons_of_mem _ (List.mem_cons_of_mem _ hp))))
  obtain ⟨h7', tk7, eK, hK, hKn⟩ := K
  cases eK
  refine hQ _ _ ⟨rfl, h8, _, _, rfl, F7.ns.at' fun o e => hk8 _ o (Ne.symm hPL) e, fun b o hbL hbP e => hk8 b o hbP (hK b o hbL e), hP8, ?_⟩
  simp only [Array.toList_append, List.toList_toArray]
  exact strs_app hs (.cons _ _ hst6)
end
end Mine
end
section
open PySem PySem.W PyProof.Rows PySem.Calls
set_option maxRecDepth 100000
set_option maxHeartbeats 1000000
set_option linter.unusedVariables false
namespace Mine
/-- what the prepared unit is parted to -/
noncomputable def partS (x : Str) : List Str := strOf (x.cps.toList.dropLast ++ (prepC (x.cps.toList.getLastD 0)).cps.toList.take 1) :: ((prepC (x.cps.toList.getLastD 0)).cps.toList.drop 1).map ch
theorem partS_eq (l : List Nat) (c : Nat) : partS (strOf (l ++ [c])) = strOf (l ++ (prepC c).cps.toList.take 1) :: ((prepC c).cps.toList.drop 1).map ch := by
  unfold partS
  simp [strOf]
theorem strOf_list (x : Str) : strOf x.cps.toList = x := rfl
/-- a unit as the generator tells it -/
noncomputable def UnitOk (x : Str) : Prop := ∃ l c, x = strOf (l ++ [c]) ∧ l.length ≤ 10 ∧ (prepC c).cps.toList.length ≤ 3
theorem partS_len {x : Str} (h : UnitOk x) : (partS x).length ≤ 3 := by
  obtain ⟨l, c, rfl, _, h3⟩ := h
  rw [partS_eq]
  simp only [List.length_cons, List.length_map, List.length_drop]; omega
theorem flat_len : ∀ (l : List Str), (∀ x ∈ l, UnitOk x) → (l.flatMap partS).length ≤ 3 * l.length
  | [], _ => by simp
  | x :: l, h => by
    have h1 := partS_len (h x (List.mem_cons_self ..))
    have h2 := flat_len l fun y hy => h y (List.mem_cons_of_mem _ hy)
    simp only [List.flatMap_cons, List.length_append, List.length_cons]; omega
section
variable {w : World} {d u : Nat} {E : Value → Shared → Prop} {s : Shared} {f c' : Addr} {h₀ : Heap} {L C : Addr} {m mg mb : Str → Option Value}
theorem l_7 (F : Fr h₀ L s.heap m) :
    wpAny (model prog w) (AA d u) (exec (lSt 7) (lEnv L f c')) (fun fl s' => fl = .next ∧ ∃ P, P ≠ L ∧ h₀.get? P = none ∧ s.heap.get? P = none ∧ s'.heap.PlainList P #[] ∧ KeepsC L (fun (y : Str) => if y = ("parted" : Str) then some (Value.ref P) else m y) s s') E s := by
  have NN : News h₀ L s.heap (allOwn h₀ L s.heap) := allOwn_news
  refine wpAny_post fun Q hQ => ?_
  conv in (exec _ _) => arg 1; whnf
  w_on
  repeat' (first | walk1 | (dsimp only; walk1))
  rename_i h1 F1 N1
  have e := N1 _ (List.mem_cons_self ..)
  exact hQ _ _ ⟨rfl, _, e.2.1, e.2.2, fresh_own s, ⟨_, e.1⟩, keepsC_of' F F1 N1 fun p hp => List.mem_cons_of_mem _ hp⟩
/-- the names that a turn does not touch -/
noncomputable def Same3 (m m' : Str → Option Value) : Prop := ∀ y, y ≠ ("place" : Str) → y ≠ ("unit" : Str) → y ≠ ("meant" : Str) → m' y = m y
theorem p_assign {A : Around} {T : Addr} {p : Int} {x : Str} {t u : Tok} (hh : A.handled = none) (ht : IsTup s.heap T #[.int p t, .str x u]) (F : Fr h₀ L s.heap m) :
    wpAny (model prog w) A (assign (forTarget pFor) (lEnv L f c') (.ref T)) (fun _ s' => KeepsC L (fun y => if y = ("unit" : Str) then some (Value.str x u) else if y = ("place" : Str) then some (Value.int p t) else m y) s s') E s := by
  obtain ⟨p1, p2, k, p3, heq⟩ := pTarget_eq
  rw [heq]
  refine assign_Tuple_tuple hh ht rfl rfl fun h₅ he => ?_
  have he' : ∀ b o, s.heap.get? b = some o → h₅.get? b = some o := fun b o e => he b o (Nat.ne_of_lt (Heap.lt_size e)) e
  refine assignInOrder_cons (wpAny_assign_Name (wpAny_storeName_local (env := lEnv L f c') rfl (F.ns.at' fun o e => he' _ o e) (fun h₆ hn₆ hs₆ => ?_) rfl))
  refine assignInOrder_cons (wpAny_assign_Name (wpAny_storeName_local (env := lEnv L f c') rfl hn₆ (fun h₃ hn₃ hs₃ => ?_) rfl))
  refine assignInOrder_nil ?_
  exact ⟨h₃, _, rfl, fun b o hb e => hs₃.extBut b o hb (hs₆.extBut b o hb (he' b o e)), hn₃⟩
theorem p_go {A : Around} {I D T : Addr} {i : Nat} {Q : Unit → Shared → Prop} (hit : s.heap.IsListIter I D i) (hQ : Q () s) : wpAny (model prog w) A (letOwnedTupleGo (forTarget pFor) (.ref I) (.ref T)) Q E s := by
  obtain ⟨p1, p2, k, p3, heq⟩ := pTarget_eq
  rw [heq]
  exact wpAny_letOwnedTupleGo_listiter hit hQ
/-- one turn of the parting loop -/
theorem p_turn {x : Str} {T P : Addr} {p : Int} {t u' : Tok} {items : Array Value} {us : List Str} (hroom : d < 700) (G : GL w mg mb h₀) (F : Fr h₀ L s.heap m) (ht : IsTup s.heap T #[.int p t, .str x u']) (hx : UnitOk x)
    (hP : m "parted" = some (.ref P)) (hPL : P ≠ L) (hP₀ : h₀.get? P = none) (hl : s.heap.PlainList P items) (hs : StrsAre items.toList us) (hil : items.size ≤ 100) :
    wpAny (model prog w) (AA d u) (assign (forTarget pFor) (lEnv L f c') (.ref T)) (fun _ s₂ => wpAny (model prog w) (AA d u) (execs (forBody pFor) (lEnv L f c')) (fun fl s' => fl = .next ∧ ∃ h' tk items' m', s' = { s with heap := h', toks := tk } ∧ h'.Ns L m' ∧ Same3 m m' ∧
      (∀ b o, b ≠ L → b ≠ P → s.heap.get? b = some o → h'.get? b = some o) ∧ h'.PlainList P items' ∧ StrsAre items'.toList (us ++ partS x)) E s₂) E s := by
  obtain ⟨l, c, rfl, hl10, hz3⟩ := hx
  refine wpAny_mono (p_assign rfl ht F) (fun _ s₁ K₁ => ?_) fun _ _ e => e
  have F₁ := frKeepsC F K₁
  refine wpAny_execs_cons (wpAny_mono (p_0 (l := l) (c := c) hroom G F₁ rfl hl10) (fun fl s₂ h₂ => ?_) fun _ _ e => e)
  obtain ⟨rfl, t2, K₂⟩ := h₂
  have F₂ := frKeepsC F₁ K₂
  obtain ⟨h1, tk1, rfl, hk1, hn1⟩ := K₁
  obtain ⟨h2, tk2, rfl, hk2, hn2⟩ := K₂
  dsimp only at hk2 hn2 F₂ ⊢
  have hP' : (fun (y : Str) => if y = ("meant" : Str) then some (Value.str (prepC c) t2) else if y = ("unit" : Str) then some (Value.str (strOf (l ++ [c])) u') else if y = ("place" : Str) then some (Value.int p t) else m y) "parted" = some (.ref P) := hP
  refine wpAny_execs_cons (wpAny_mono (p_1 (l := l) (c := c) (z := (prepC c).cps.toList) (t2 := t2) hroom G F₂ rfl rfl hl10 (by omega) hP' hPL hP₀ (hl.at fun o e => hk2 _ o hPL (hk1 _ o hPL e)) hs hil) (fun fl s₃ h₃ => ?_) fun _ _ e => e)
  obtain ⟨rfl, h3, tk3, items', rfl, hn3, hk3, hl3, hs3⟩ := h₃
  refine wpAny_execs_nil ⟨rfl, h3, tk3, items', _, rfl, hn3, fun y h1 h2 h3 => ?_, fun b o hbL hbP e => hk3 b o hbL hbP (hk2 b o hbL (hk1 b o hbL e)), hl3, ?_⟩
  · simp only [h1, h2, h3, if_false]
  · rw [partS_eq]; exact hs3
end
end Mine
end
section
open PySem PySem.W PyProof.Rows PySem.Calls
set_option maxRecDepth 100000
set_option maxHeartbeats 1000000
set_option linter.unusedVariables false
namespace Mine
theorem paired_at {α β : Type} {F : α → β → Prop} {l : List α} {ys : List β} (h : Paired F l ys) : ∀ i, i < l.length → ∃ a y, l[i]? = some a ∧ ys[i]? = some y ∧ F a y := by
  induction h with
  | nil => intro i hi; simp at hi
  | cons h _ ih =>
    intro i hi
    cases i with
    | zero => exact ⟨_, _, rfl, rfl, h⟩
    | succ i => simpa using ih i (by simpa using hi)
section
variable {w : World} {d u : Nat} {E : Value → Shared → Prop} {s : Shared} {f c' : Addr} {h₀ : Heap} {L C : Addr} {m mg mb : Str → Option Value}
theorem l_8 {D P : Addr} {es : List (Int × Str)} (hroom : d < 700) (G : GL w mg mb h₀) (F : Fr h₀ L s.heap m) (hr : m "read" = some (.ref D)) (hR : RowsAt L s.heap D es) (hes : es.length ≤ 30) (hok : ∀ e ∈ es, UnitOk e.2)
    (hP : m "parted" = some (.ref P)) (hPL : P ≠ L) (hPD : P ≠ D) (hP₀ : h₀.get? P = none) (hl : s.heap.PlainList P #[]) :
    wpAny (model prog w) (AA d u) (exec (lSt 8) (lEnv L f c')) (fun fl s' => fl = .next ∧ ∃ h' tk items' m', s' = { s with heap := h', toks := tk } ∧ h'.Ns L m' ∧ Same3 m m' ∧
      (∀ b o, b ≠ L → b ≠ P → s.heap.get? b = some o → h'.get? b = some o) ∧ h'.PlainList P items' ∧ StrsAre items'.toList ((es.map (·.2)).flatMap partS)) E s := by
  obtain ⟨ys, hD, hDL, hp⟩ := hR
  have hsz : ys.size = es.length := by have := hp.length; rw [Array.length_toList] at this; exact this.symm
  rw [pFor_eq]
  refine wpAny_For (nm_loc (env := lEnv L f c') (x := "read") F hr (wpAny_pyIter_list hD.isList ?_))
  have hLs : L < s.heap.objs.size := F.ns.lt
  have hDs : D < s.heap.objs.size := let ⟨_, e⟩ := hD; Heap.lt_size e
  have hPs : P < s.heap.objs.size := let ⟨_, e⟩ := hl; Heap.lt_size e
  have hIn : s.heap.get? s.heap.objs.size = none := fresh_own s
  generalize hI : s.heap.objs.size = I at hLs hDs hPs hIn ⊢
  have hIL : I ≠ L := Nat.ne_of_gt hLs
  have hID : I ≠ D := Nat.ne_of_gt hDs
  have hIP : I ≠ P := Nat.ne_of_gt hPs
  have tup : ∀ T p t x u', IsTup s.heap T #[.int p t, .str x u'] → T ≠ P ∧ T ≠ I := by
    rintro T p t x u' ⟨o, ho, hc, _⟩
    obtain ⟨n, hl⟩ := hl
    refine ⟨fun e => ?_, fun e => ?_⟩
    · rw [e, hl] at ho; cases ho; exact absurd hc (by show ¬ Value.type "list" = Value.type "tuple"; decide)
    · rw [e, hIn] at ho; cases ho
  refine codeAny_forLoop_any (fun k s' => ∃ h' tk m' items i, s' = { s with heap := h', toks := tk } ∧ h'.IsListIter I D i ∧ h'.Ns L m' ∧ Same3 m m' ∧ (∀ b o, b ≠ L → b ≠ P → b ≠ I → s.heap.get? b = some o → h'.get? b = some o) ∧ h'.PlainList P items ∧
    StrsAre items.toList (((es.take i).map (·.2)).flatMap partS) ∧ i ≤ es.length ∧ k = es.length + 1 - i) ?_ (es.length + 1)
    ⟨_, s.toks, m, #[], 0, rfl, ⟨_, by rw [← hI]; exact Heap.get?_push_size _ rfl, rfl, rfl⟩, F.ns.push _, fun _ _ _ _ => rfl, fun b o _ _ _ e => Heap.get?_push_of_some _ e, hl.at fun o e => Heap.get?_push_of_some _ e, .nil, Nat.zero_le _, rfl⟩
  rintro k s' ⟨h', tk, m', items, i, rfl, hit, hns, hsame, hk, hl', hst, hi, rfl⟩
  have hD' : h'.IsList D ys := (hD.at fun o e => hk _ o hDL (Ne.symm hPD) (Ne.symm hID) e).isList
  have hkeep₀ : ∀ b o, h₀.get? b = some o → b ≠ L ∧ b ≠ P ∧ b ≠ I := fun b o e => by
    refine ⟨Nat.ne_of_lt (Nat.lt_of_lt_of_le (Heap.lt_size e) F.above), fun q => ?_, fun q => ?_⟩
    · rw [q, hP₀] at e; cases e
    · have := F.keep _ _ e; rw [q, hIn] at this; cases this
  by_cases hlt : i < es.length
  · obtain ⟨e, y, he, hy, T, t1, t2, rfl, hTL, hT⟩ := paired_at hp i hlt
    have hy' : ys[i]? = some (.ref T) := by rw [← Array.getElem?_toList]; exact hy
    refine wpAny_pyNext_list_item hit hD' hy' fun h₁ hit₁ hs₁ => ?_
    replace hs₁ : Heap.SameBut I h' h₁ := hs₁
    dsimp only
    refine p_go hit₁ ?_
    obtain ⟨hTP, hTI⟩ := tup T _ _ _ _ hT
    have hT₁ : IsTup h₁ T #[.int e.1 t1, .str e.2 t2] := by
      obtain ⟨o, ho, r⟩ := hT
      exact ⟨o, hs₁.extBut _ _ hTI (hk _ _ hTL hTP hTI ho), r⟩
    have F₁ : Fr h₀ L h₁ m' := ⟨hns.sameBut hs₁ (Ne.symm hIL), fun b o eb => hs₁.extBut b o (hkeep₀ b o eb).2.2 (hk b o (hkeep₀ b o eb).1 (hkeep₀ b o eb).2.1 (hkeep₀ b o eb).2.2 (F.keep b o eb)), F.above⟩
    have hus : items.size ≤ 100 := by
      have := hst.length
      rw [Array.length_toList] at this
      rw [this]
      have h3 := flat_len ((es.take i).map (·.2)) fun x hx => by
        obtain ⟨e', he', rfl⟩ := List.mem_map.mp hx
        exact hok e' (List.mem_of_mem_take he')
      have h4 : ((es.take i).map (·.2)).length ≤ 30 := by simp only [List.length_map, List.length_take]; omega
      omega
    have hPm : m' "parted" = some (.ref P) := (hsame _ (by decide) (by decide) (by decide)).trans hP
    refine wpAny_mono (p_turn hroom G F₁ hT₁ (hok e (List.mem_of_getElem? he)) hPm hPL hP₀ (hl'.at fun o e => hs₁.extBut _ o (Ne.symm hIP) e) hst hus) (fun _ s₂ h₂ => wpAny_mono h₂ (fun fl s₃ h₃ => ?_) fun _ _ e => e) fun _ _ e => e
    obtain ⟨rfl, h3, tk3, items', m3, rfl, hns3, hsame3, hk3, hl3, hst3⟩ := h₃
    refine ⟨es.length + 1 - (i + 1), by omega, h3, tk3, m3, items', i + 1, rfl, ?_, hns3, fun y a b c => (hsame3 y a b c).trans (hsame y a b c), fun b o hbL hbP hbI eb => hk3 b o hbL hbP (hs₁.extBut b o hbI (hk b o hbL hbP hbI eb)), hl3, ?_, hlt, rfl⟩
    · exact hit₁.at fun o e => hk3 _ o hIL hIP e
    · rw [List.take_add_one, he]
      simp only [Option.toList_some, List.map_append, List.map_cons, List.map_nil, List.flatMap_append, List.flatMap_cons, List.flatMap_nil, List.append_nil]
      exact hst3
  · have hin : i = es.length := by omega
    subst hin
    refine wpAny_pyNext_list_end rfl hit hD' (by rw [← hsz]; simp) fun h₁ hs₁ => wpAny_execs_nil ?_
    replace hs₁ : Heap.ExtBut I h' h₁ := hs₁
    rw [List.take_length] at hst
    exact ⟨rfl, h₁, _, items, m', rfl, hns.extBut hs₁ (Ne.symm hIL), hsame, fun b o hbL hbP eb => hs₁ b o (fun q => by rw [q, hIn] at eb; cases eb) (hk b o hbL hbP (fun q => by rw [q, hIn] at eb; cases eb) eb), hl'.at fun o e => hs₁ _ o (Ne.symm hIP) e, hst⟩
end
end Mine
end
section
open PySem PySem.W PyProof.Rows PySem.Calls
set_option maxRecDepth 100000
set_option maxHeartbeats 1000000
set_option linter.unusedVariables false
namespace Mine
local macro_rules | `(tactic| walk_at "no such key") => `(tactic| fail)
local macro_rules | `(tactic| walk_at "no such key") => `(tactic| fail)
local macro_rules | `(tactic| walk_at "no such key") => `(tactic| fail)
local macro_rules | `(tactic| walk_at "no such key") => `(tactic| fail)
local macro_rules | `(tactic| walk_at "no such key") => `(tactic| fail)
local macro_rules | `(tactic| walk_at "no such key") => `(tactic| fail)
local macro_rules | `(tactic| walk_at "no such key") => `(tactic| fail)
local macro_rules | `(tactic| walk_at "no such key") => `(tactic| fail)
local macro_rules | `(tactic| walk_at "no such key") => `(tactic| fail)
local macro_rules | `(tactic| walk_at "no such key") => `(tactic| fail)
local macro_rules | `(tactic| walk_at "no such key") => `(tactic| fail)
local macro_rules | `(tactic| walk_at "no such key") => `(tactic| fail)
local macro_rules | `(tactic| walk_at "no such key") => `(tactic| fail)
local macro_rules | `(tactic| walk_at "no such key") => `(tactic| fail)
noncomputable abbrev eF : Expr := asgV (lSt 9)
theorem filter_getD {α : Type} (q : α → Bool) (l : List α) (z : α) : ((List.range l.length).filter fun i => q (l.getD i z)).map (fun i => l.getD i z) = l.filter q := by
  conv => rhs; rw [← map_getD l z]
  rw [List.filter_map]
  rfl
noncomputable def notNil (x : Str) : Bool := x != Str.ofString ""
local macro_rules | `(tactic| walk_at "eval Name") => `(tactic| (refine nm_loc (by assumption) (by assumption) ?_))
section
variable {w : World} {d u : Nat} {E : Value → Shared → Prop} {s : Shared} {f c' : Addr} {h₀ : Heap} {L C : Addr} {m mg mb : Str → Option Value}
theorem f_test {x : Str} {t : Tok} (F : Fr h₀ C s.heap m) (hm : m "unit" = some (.str x t)) :
    wpAny (model prog w) (AA d u) (isTrue (if0 eF) (compEnvC (cScope eF) [] C (lEnv L f c')) (eval (if0 eF) (compEnvC (cScope eF) [] C (lEnv L f c')))) (fun ok u₁ => ok = notNil x ∧ KeepsC C m s u₁) E s := by
  refine wpAny_post fun Q hQ => ?_
  conv in (isTrue _ _ _) => arg 1; whnf
  conv in (eval _ _) => arg 1; whnf
  w_on
  repeat' (first | walk1 | (dsimp only; walk1))
  exact hQ _ _ ⟨rfl, KeepsC.rfl' F⟩
theorem l_9 {a : Addr} {ws : Array Value} {us : List Str} (F : Fr h₀ L s.heap m) (hm : m "parted" = some (.ref a)) (hl : s.heap.IsList a ws) (hi : StrsAre ws.toList us) (hlen : us.length ≤ 1000) :
    wpAny (model prog w) (AA d u) (exec (lSt 9) (lEnv L f c')) (fun fl s' => fl = .next ∧ ∃ D ys, s.heap.objs.size ≤ D ∧ s'.heap.PlainList D ys ∧ StrsAre ys.toList (us.filter notNil) ∧ KeepsC L (fun (y : Str) => if y = ("parted" : Str) then some (Value.ref D) else m y) s s') E s := by
  have hsz : ws.size = us.length := by have := hi.length; rwa [Array.length_toList] at this
  have hg : ∀ i (v : Value), ws[i]? = some v → ∃ t, v = Value.str (us.getD i ⟨#[]⟩) t := by
    intro i v hv
    have hlt : i < us.length := by rw [← hsz]; exact (Array.getElem?_eq_some_iff.mp hv).1
    obtain ⟨t, ht⟩ := hi.at (show us[i]? = some (us.getD i ⟨#[]⟩) by simp [List.getD_eq_getElem?_getD, hlt])
    rw [Array.getElem?_toList, hv] at ht
    exact ⟨t, Option.some.inj ht⟩
  refine assign_comp_own (elt := cElt eF) (iter := cIter eF) (ifs := [if0 eF]) (scope := cScope eF) (n := ws.size) (cl := []) (y := "parted") (m := m) (fun i v => ws[i]? = some v) (fun i m => ∃ v, ws[i]? = some v ∧ m "unit" = some v) (fun i => notNil (us.getD i ⟨#[]⟩)) (fun i y ts => ts = [] ∧ ∃ t, y = .str (us.getD i ⟨#[]⟩) t)
    rfl rfl (by decide +kernel) rfl (by decide +kernel) (by simp only [sizeLine]; omega) rfl rfl F.ns ?_ ?_
  · have T : ∀ (px : Pos) I, Turns w (AA d u) s.heap I ws.size (fun i v => ws[i]? = some v) (fun i h => h.IsListIter I a i ∧ h.IsList a ws) (.Name "unit" px) [if0 eF] (cElt eF) (fun C => compEnvC (cScope eF) [] C (lEnv L f c')) (fun i m => ∃ v, ws[i]? = some v ∧ m "unit" = some v) (fun i => notNil (us.getD i ⟨#[]⟩)) (fun i y ts => ts = [] ∧ ∃ t, y = .str (us.getD i ⟨#[]⟩) t) := fun px I =>
      ⟨asg_name (P := fun i v => ws[i]? = some v) (St := fun i h => h.IsListIter I a i ∧ h.IsList a ws) (scope := cScope eF) (x := "unit") (by decide +kernel) rfl, fun C i u m₂ E' hi' ⟨v, hv, hm'⟩ F' => by
        obtain ⟨t, rfl⟩ := hg i v hv
        exact tests_one (f_test F' hm'), fun C i u m₂ E' hi' ⟨v, hv, hm'⟩ _ F' => nm_loc (env := compEnvC (cScope eF) [] C (lEnv L f c')) (x := "unit") F' hm' ⟨⟨[], ⟨rfl, hg i v hv⟩, fun p hp => (nomatch hp)⟩, KeepsC.rfl' F'⟩⟩
    exact nm_loc (env := lEnv L f c') (x := "parted") F hm (iters_list rfl hl fun I => T _ I)
  · intro D h' tk ys tss hD hl' hM hn hk
    refine ⟨rfl, D, ys, hD, hl', ?_, h', tk, rfl, hk, hn⟩
    have hp := hM.2
    rw [hsz] at hp
    have := Paired.strs (g := fun i => us.getD i ⟨#[]⟩) (hp.mono fun i v ⟨ts, ⟨_, r⟩, _⟩ => r)
    rwa [filter_getD notNil us ⟨#[]⟩] at this
/-- is the whole of the parts the prepared text? -/
theorem l_10 {a : Addr} {ws : Array Value} {us : List Str} {x : Str} {t : Tok} (F : Fr h₀ L s.heap m) (hm : m "parted" = some (.ref a)) (hp : m "prepared" = some (.str x t)) (hl : s.heap.IsList a ws) (hi : StrsAre ws.toList us) (hsum : (us.map (·.length)).sum ≤ 10000) (hx : catS us = x) :
    wpAny (model prog w) (AA d u) (exec (lSt 10) (lEnv L f c')) (fun fl s' => fl = .next ∧ KeepsC L m s s') E s := by
  have NN : News h₀ L s.heap (allOwn h₀ L s.heap) := allOwn_news
  refine wpAny_post fun Q hQ => ?_
  conv in (exec _ _) => arg 1; whnf
  w_on
  repeat' ((fail_if_success show wpAny _ _ (call (Value.builtin "str.join") _) _ _ _); (first | walk1 | (dsimp only; walk1)))
  refine join_own hl hi hsum fun t' k => ?_
  rw [hx]
  repeat' (first | walk1 | (dsimp only; walk1))
  · rename_i hne
    exact absurd hne (by simp)
  · exact hQ _ _ ⟨rfl, s.heap, _, rfl, fun b o _ e => e, F.ns⟩
end
end Mine
end
section
open PySem PySem.W PyProof.Rows PySem.Calls
set_option maxRecDepth 100000
set_option maxHeartbeats 1000000
set_option linter.unusedVariables false
namespace Mine
theorem readsAll_strs {h : Heap} {vs : List Value} {us : List Str} (hs : StrsAre vs us) : ∃ as, ReadsAll h vs (kqdPs (us.map Dat.str)) as := by
  induction hs with
  | nil => exact ⟨[], .nil⟩
  | cons x t _ ih => obtain ⟨as, r⟩ := ih; exact ⟨_, .cons (.str x t) r⟩
theorem readsAll_ints {h : Heap} {g : Nat → Int} {l : List Nat} {vs : List Value} (hs : Paired (fun i v => ∃ t, v = Value.int (g i) t) l vs) : ∃ as, ReadsAll h vs (kqdPs (l.map fun i => Dat.int (g i))) as := by
  induction hs with
  | nil => exact ⟨[], .nil⟩
  | cons hx _ ih => obtain ⟨t, rfl⟩ := hx; obtain ⟨as, r⟩ := ih; exact ⟨_, .cons (.int _ t) r⟩
noncomputable abbrev rowD (e : Int × Str) : Dat := Dat.tuple [.int e.1, .str e.2]
theorem readsAll_rows {h : Heap} {L : Addr} {es : List (Int × Str)} {vs : List Value} (hs : Paired (fun (e : Int × Str) y => ∃ T t1 t2, y = Value.ref T ∧ T ≠ L ∧ IsTup h T #[.int e.1 t1, .str e.2 t2]) es vs) : ∃ as, ReadsAll h vs (kqdPs (es.map rowD)) as := by
  induction hs with
  | nil => exact ⟨[], .nil⟩
  | cons hx _ ih =>
    obtain ⟨T, t1, t2, rfl, _, o, ho, hc, n, hd⟩ := hx
    obtain ⟨as, r⟩ := ih
    exact ⟨_, .cons (.tuple ho hc hd (.cons (.int _ t1) (.cons (.str _ t2) .nil))) r⟩
theorem reads_of {h : Heap} {D : Addr} {ys : Array Value} {ds : List Dat} (hl : h.IsList D ys) (hr : ∃ as, ReadsAll h ys.toList (kqdPs ds) as) : ∃ as, Reads h (.ref D) (kqdP (.list ds)) as := by
  obtain ⟨as, r⟩ := hr
  obtain ⟨o, ho, hc, n, hd⟩ := hl
  exact ⟨_, .list ho hc hd r⟩
theorem eq_own {w : World} {A : Around} {E : Value → Shared → Prop} {s : Shared} {a c : Addr} {ds es : List Dat} {b : Bool} {Q : Value → Shared → Prop} (ra : ∃ as, Reads s.heap (.ref a) (kqdP (.list ds)) as) (rc : ∃ as, Reads s.heap (.ref c) (kqdP (.list es)) as)
    (ha : ∀ d ∈ ds, kqdOk 8 d = true) (hc : ∀ d ∈ es, kqdOk 8 d = true) (hu : A.units + 64 < cLine) (hb : b = true ↔ ds = es) (h : Q (.bool b) s) : wpAny (model prog w) A (compareOp .Eq (.ref a) (.ref c)) Q E s := by
  obtain ⟨as, ra⟩ := ra
  obtain ⟨bs, rc⟩ := rc
  have la := kqd_lay 9 (.list ds) (by simpa [kqdOk] using ha)
  have lc := kqd_lay 9 (.list es) (by simpa [kqdOk] using hc)
  have q := kqd_eqv 9 (.list ds) (.list es) 9 (by simpa [kqdOk] using ha) (by simpa [kqdOk] using hc)
  rw [Dat.list.injEq] at q
  have e : PyData.eqv (kqdP (.list ds)) (kqdP (.list es)) = b := by
    rw [Bool.eq_iff_iff]; exact q.trans hb.symm
  refine eq_dataH ra rc ?_ ?_ hu (by rw [e]; exact h)
  · unfold SeqAt.shaped; rw [la.1, Bool.true_and]; exact decide_eq_true (Nat.le_trans la.2 (by decide))
  · unfold SeqAt.shaped; rw [lc.1, Bool.true_and]; exact decide_eq_true (Nat.le_trans lc.2 (by decide))
theorem map_str_inj {a b : List Str} : a.map Dat.str = b.map Dat.str ↔ a = b := by
  constructor
  · intro h
    exact (List.map_inj_right (fun x y e => by injection e)).mp h
  · rintro rfl; rfl
theorem rowD_inj {a b : List (Int × Str)} : a.map rowD = b.map rowD ↔ a = b := by
  constructor
  · intro h
    refine (List.map_inj_right (fun x y e => ?_)).mp h
    obtain ⟨x1, x2⟩ := x
    obtain ⟨y1, y2⟩ := y
    simp [rowD] at e
    rw [e.1, e.2]
  · rintro rfl; rfl
end Mine
end
section
open PySem PySem.W PyProof.Rows PySem.Calls
set_option maxRecDepth 100000
set_option maxHeartbeats 1000000
set_option linter.unusedVariables false
namespace Mine
noncomputable abbrev eW : Expr := cmpRight (cmpL (ifTest (lSt 11)))
theorem strOk_ch {c : Nat} (h : c < 0x110000) : PyData.strOk (ch c) = true := by
  simp [PyData.strOk, h]
section
variable {w : World} {d u : Nat} {E : Value → Shared → Prop} {s : Shared} {f c' : Addr} {h₀ : Heap} {L C : Addr} {m mg mb : Str → Option Value}
theorem comp_units {a : Addr} {es : List (Int × Str)} {Q : Value → Shared → Prop} (F : Fr h₀ L s.heap m) (hy : m "whole" = some (.ref a)) (hs : RowsAt L s.heap a es) (hlen : es.length ≤ 100)
    (h : ∀ D h' tk ys, s.heap.objs.size ≤ D → h'.PlainList D ys → StrsAre ys.toList (es.map (·.2)) → (∀ b o, s.heap.get? b = some o → h'.get? b = some o) → Q (.ref D) { s with heap := h', toks := tk }) :
    wpAny (model prog w) (AA d u) (eval eW (lEnv L f c')) Q E s := by
  obtain ⟨ys, hl, _, hp⟩ := hs
  have hsz : ys.size = es.length := by have := hp.length; simp at this; exact this.symm
  refine comp_pair (x := "place") (x₂ := "unit") (z := "unit") (y := "whole") (sel := false) (g := fun i => (es.getD i (0, ⟨#[]⟩)).2) (V := fun i p q => ∃ t1 t2, p = .int (es.getD i (0, ⟨#[]⟩)).1 t1 ∧ q = .str (es.getD i (0, ⟨#[]⟩)).2 t2) F rfl (by decide +kernel) rfl (by decide +kernel) (by decide +kernel) (by decide +kernel) (by decide) rfl (by decide) hy rfl (by decide) hl.isList (by omega) ?_ ?_ ?_
  · intro i v hv
    obtain ⟨n, hn, T, t1, t2, rfl, _, ht⟩ := paired_get hp i v (by simpa using hv)
    have : es.getD i (0, ⟨#[]⟩) = n := by simp [List.getD_eq_getElem?_getD, hn]
    exact ⟨T, _, _, rfl, ht, t1, t2, by rw [this], by rw [this]⟩
  · rintro i p q ⟨t1, t2, rfl, rfl⟩
    exact ⟨t2, rfl⟩
  · intro D h' tk ys' hD hl' hst hk
    refine h D h' tk ys' hD hl' ?_ hk
    rw [hsz] at hst
    have e : (List.range es.length).map (fun i => (es.getD i (0, ⟨#[]⟩)).2) = es.map (·.2) := by
      conv => rhs; rw [← map_getD es (0, ⟨#[]⟩)]
      rw [List.map_map]; rfl
    rwa [e] at hst
local macro_rules | `(tactic| walk_at "eval Name") => `(tactic| (refine nm_globF (by assumption) (GL.G (by assumption)) (by assumption) ?_))
local macro_rules | `(tactic| walk_at "eval Name") => `(tactic| (refine nm_loc (by assumption) (by assumption) ?_))
local macro_rules | `(tactic| walk_at "callWith ref") => `(tactic| (refine cw (by assumption) ?_))
local macro_rules | `(tactic| walk_at "And") => `(tactic| (refine ⟨Fr.keep (by assumption), ?_⟩))
theorem l_11 {a D : Addr} {ws : Array Value} {us : List Str} {es : List (Int × Str)} {cs : List Nat} {t : Tok} (hroom : d < 600) (hu : u + 67 < cLine) (G : GL w mg mb h₀) (F : Fr h₀ L s.heap m)
    (hpa : m "parted" = some (.ref a)) (hl : s.heap.IsList a ws) (hi : StrsAre ws.toList us) (hw : m "whole" = some (.ref D)) (hR : RowsAt L s.heap D es) (hlen : es.length ≤ 100) (hy : m "text" = some (.str (strOf cs) t)) (hcs : cs.length ≤ 40)
    (hok1 : ∀ x ∈ us, PyData.strOk x = true) (hok2 : ∀ e ∈ es, PyData.strOk e.2 = true) (hok3 : ∀ c ∈ cs, c < 0x110000)
    (heq : us = es.map (·.2) ↔ ((List.range (bSt (strOf cs) (strOf cs).cps.size).1.length).filter fun i => moreB (strOf cs) ((bSt (strOf cs) (strOf cs).cps.size).1.getD i 0)) = []) :
    wpAny (model prog w) (AA d u) (exec (lSt 11) (lEnv L f c')) (fun fl s' => fl = .next ∧ KeepsC L m s s') E s := by
  have NN : News h₀ L s.heap (allOwn h₀ L s.heap) := allOwn_news
  obtain ⟨f2, hm2, hf2⟩ := G.G.bound
  refine wpAny_post fun Q hQ => ?_
  conv in (exec _ _) => arg 1; whnf
  w_on
  repeat' ((fail_if_success show wpAny _ _ (eval (Expr.ListComp _ _ _ _) _) _ _ _); (first | walk1 | (dsimp only; walk1)))
  refine comp_units F hw hR hlen fun D1 h1 tk1 ys hD1 hl1 hst1 hk1 => ?_
  have F1 := F.keeps hk1
  obtain ⟨nn, N1⟩ := news_list F hD1 hl1 hk1
  have hsz : (strOf cs).cps.size = cs.length := by simp [strOf]
  clear NN
  refine eq_own (b := decide (us = es.map (·.2))) (reads_of (listKeep hl hk1) (readsAll_strs hi)) (reads_of hl1.isList (readsAll_strs hst1)) (fun e he => by obtain ⟨x, hx, rfl⟩ := List.mem_map.mp he; exact kqdOk_str (hok1 x hx))
    (fun e he => by
      obtain ⟨x, hx, rfl⟩ := List.mem_map.mp he
      obtain ⟨e', he', rfl⟩ := List.mem_map.mp hx
      exact kqdOk_str (hok2 e' he')) (by show u + 64 < cLine; omega) (decide_eq_true_iff.trans map_str_inj.symm) ?_
  repeat' ((fail_if_success show wpAny _ _ (call (Value.ref _) _) _ _ _); (first | walk1 | (dsimp only; walk1)))
  refine bound_call (G.keeps F1.keep) (hf2.keeps F1.keep) (by omega) (by omega) hu (fun j i => ?_) fun D2 h2 tk2 ys2 hn2 hl2 hp2 hk2 => ?_
  · have hs := slice_from cs (j + 1)
    rw [show ((j : Int) + 1) = ((j + 1 : Nat) : Int) from by omega, hs]
    have hc : ((strOf (cs.drop (j + 1))).cps.getD i 0) < 0x110000 := by
      rw [Array.getD_eq_getD_getElem?]
      cases hx : (strOf (cs.drop (j + 1))).cps[i]? with
      | none => simp
      | some c =>
        refine hok3 c ?_
        have : (cs.drop (j + 1))[i]? = some c := by simpa [strOf] using hx
        exact List.mem_of_mem_drop (List.mem_of_getElem? this)
    exact strOk_ch hc
  have F2 := F1.keeps hk2
  have hD2L : D2 ≠ L ∧ h₀.get? D2 = none := by
    refine ⟨fun e => ?_, ?_⟩
    · obtain ⟨_, _, _, e', _⟩ := F1.ns
      dsimp only at hn2
      rw [e, e'] at hn2; cases hn2
    · cases e : h₀.get? D2 with
      | none => rfl
      | some o => dsimp only at hn2; rw [F1.keep _ _ e] at hn2; cases hn2
  obtain ⟨n2, e2⟩ := hl2
  have N2 := news_cons (N1.grown hk2) e2 hD2L
  clear N1
  repeat' ((fail_if_success show wpAny _ _ (compareOp _ _ _) _ _ _); (first | walk1 | (dsimp only; walk1)))
  rename_i h3 F3 N3
  have e3 := (N3 _ (List.mem_cons_self ..)).1
  have e4 := (N3 (D2, _) (List.mem_cons_of_mem _ (List.mem_cons_self ..))).1
  have K := keepsC_of' (tk := 0) F F3 N3 (fun p hp => List.mem_cons_of_mem _ (List.mem_cons_of_mem _ (List.mem_cons_of_mem _ hp)))
  refine eq_own (b := decide (((List.range (bSt (strOf cs) (strOf cs).cps.size).1.length).filter fun i => moreB (strOf cs) ((bSt (strOf cs) (strOf cs).cps.size).1.getD i 0)) = [])) (es := []) (reads_of ⟨_, e4, rfl, _, rfl⟩ (readsAll_ints hp2)) (reads_of ⟨_, e3, rfl, _, rfl⟩ ⟨[], .nil⟩)
    (fun e he => by obtain ⟨x, hx, rfl⟩ := List.mem_map.mp he; rfl) (fun e he => by cases he) (by show u + 64 < cLine; omega) (decide_eq_true_iff.trans List.map_eq_nil_iff.symm) ?_
  repeat' (first | walk1 | (dsimp only; walk1))
  · rename_i hne
    refine absurd hne ?_
    rw [show decide (us = es.map (·.2)) = decide (((List.range (bSt (strOf cs) (strOf cs).cps.size).1.length).filter fun i => moreB (strOf cs) ((bSt (strOf cs) (strOf cs).cps.size).1.getD i 0)) = []) from by rw [decide_eq_decide]; exact heq]
    simp
  · obtain ⟨h3', tk3, eK, hK, hKn⟩ := K
    cases eK
    exact hQ _ _ ⟨rfl, h3, _, rfl, hK, hKn⟩
end
end Mine
end
section
open PySem PySem.W PyProof.Rows PySem.Calls
set_option maxRecDepth 100000
set_option maxHeartbeats 1000000
set_option linter.unusedVariables false
namespace Mine
local macro_rules | `(tactic| walk_at "no such key") => `(tactic| fail)
local macro_rules | `(tactic| walk_at "no such key") => `(tactic| fail)
local macro_rules | `(tactic| walk_at "no such key") => `(tactic| fail)
local macro_rules | `(tactic| walk_at "no such key") => `(tactic| fail)
local macro_rules | `(tactic| walk_at "no such key") => `(tactic| fail)
local macro_rules | `(tactic| walk_at "no such key") => `(tactic| fail)
local macro_rules | `(tactic| walk_at "no such key") => `(tactic| fail)
local macro_rules | `(tactic| walk_at "no such key") => `(tactic| fail)
local macro_rules | `(tactic| walk_at "no such key") => `(tactic| fail)
local macro_rules | `(tactic| walk_at "no such key") => `(tactic| fail)
local macro_rules | `(tactic| walk_at "no such key") => `(tactic| fail)
local macro_rules | `(tactic| walk_at "no such key") => `(tactic| fail)
local macro_rules | `(tactic| walk_at "no such key") => `(tactic| fail)
local macro_rules | `(tactic| walk_at "no such key") => `(tactic| fail)
noncomputable def toldRows (l : List Nat) : List (Int × Str) := (List.range (toldUnits l).length).map (toldPair (toldUnits l))
theorem Told.listed {h₀ h' : Heap} {D : Addr} {l : List Nat} (x : Told h₀ h' D (toldUnits l)) : Listed h₀ h' D (toldRows l) := by
  obtain ⟨ys, tss, a, b, c, d, e⟩ := x
  exact ⟨ys, tss, a, b, c, Paired.idx (F := fun e y => ∃ ts, PairIs e y ts ∧ ∀ q ∈ ts, q ∈ tss) (g := toldPair (toldUnits l)) d, e⟩
theorem kqdOk_row {e : Int × Str} (h : PyData.strOk e.2 = true) : kqdOk 8 (rowD e) = true := by
  simp [rowD, kqdOk, h]
theorem rows_list {L D : Addr} {h : Heap} {es : List (Int × Str)} (x : RowsAt L h D es) : h.IsList D (Classical.choose x) := (Classical.choose_spec x).1.isList
theorem readsAll_rows' {L D : Addr} {h : Heap} {es : List (Int × Str)} (x : RowsAt L h D es) : ∃ as, ReadsAll h (Classical.choose x).toList (kqdPs (es.map rowD)) as := readsAll_rows (Classical.choose_spec x).2.2
local macro_rules | `(tactic| walk_at "eval Name") => `(tactic| (refine nm_globF (by assumption) (GL.G (by assumption)) (by assumption) ?_))
local macro_rules | `(tactic| walk_at "eval Name") => `(tactic| (refine nm_loc (by assumption) (by assumption) ?_))
local macro_rules | `(tactic| walk_at "callWith ref") => `(tactic| (refine cw (by assumption) ?_))
local macro_rules | `(tactic| walk_at "And") => `(tactic| (refine ⟨Fr.keep (by assumption), ?_⟩))
section
variable {w : World} {d u : Nat} {E : Value → Shared → Prop} {s : Shared} {f c' : Addr} {h₀ : Heap} {L C : Addr} {m mg mb : Str → Option Value}
theorem l_12 {D D2 : Addr} {cs ps : List Nat} {t t2 : Tok} (hroom : d < 600) (hu : u + 67 < cLine) (G : GL w mg mb h₀) (F : Fr h₀ L s.heap m)
    (hr : m "read" = some (.ref D)) (hR : RowsAt L s.heap D (iterU cs 0 false)) (hw : m "whole" = some (.ref D2)) (hR2 : RowsAt L s.heap D2 (iterU ps 0 false)) (hy : m "text" = some (.str (strOf cs) t)) (hy2 : m "prepared" = some (.str (strOf ps) t2)) (hcs : cs.length ≤ 40) (hps : ps.length ≤ 40)
    (hok1 : ∀ e ∈ iterU cs 0 false, PyData.strOk e.2 = true) (hok2 : ∀ e ∈ iterU ps 0 false, PyData.strOk e.2 = true) (hs1 : ((toldUnits cs).map (·.length)).sum ≤ 10000) (hs2 : ((toldUnits ps).map (·.length)).sum ≤ 10000)
    (ht1 : iterU cs 0 false = toldRows cs) (ht2 : iterU ps 0 false = toldRows ps) :
    wpAny (model prog w) (AA d u) (exec (lSt 12) (lEnv L f c')) (fun fl s' => fl = .ret (.bool true) ∧ KeepsC L m s s') E s := by
  have NN : News h₀ L s.heap (allOwn h₀ L s.heap) := allOwn_news
  have hLs : ∃ o, s.heap.get? L = some o := let ⟨_, o, _, e, _⟩ := F.ns; ⟨_, e⟩
  obtain ⟨f2, hm2, hf2⟩ := G.G.told
  refine wpAny_post fun Q hQ => ?_
  conv in (exec _ _) => arg 1; whnf
  w_on
  repeat' ((fail_if_success show wpAny _ _ (call (Value.ref _) _) _ _ _); (first | walk1 | (dsimp only; walk1)))
  refine told_call (x := strOf cs) (G.keeps F.keep) (hf2.keeps F.keep) (by omega) (by simp [strOf]; omega) hs1 fun D3 h3 tk3 hT => ?_
  have hL3 := hT.listed
  have hk3 : ∀ b o, s.heap.get? b = some o → h3.get? b = some o := by obtain ⟨_, _, _, _, _, _, hk⟩ := hL3; exact hk
  have hr3 := hL3.rows hLs
  have F3 := F.keeps hk3
  have N3 := NN.grown hk3
  clear NN
  have hcs' : (strOf cs).cps.toList = cs := by simp [strOf]
  have hps' : (strOf ps).cps.toList = ps := by simp [strOf]
  rw [hcs', ← ht1] at hr3
  have hA := hR.up fun b o _ e => hk3 b o e
  refine eq_own (b := true) (reads_of (rows_list hA) (readsAll_rows' hA)) (reads_of (rows_list hr3) (readsAll_rows' hr3)) ?_ ?_ (by show u + 64 < cLine; omega) (iff_of_true rfl rfl) ?_
  · intro e he
    obtain ⟨x, hx, rfl⟩ := List.mem_map.mp he
    exact kqdOk_row (hok1 x hx)
  · intro e he
    obtain ⟨x, hx, rfl⟩ := List.mem_map.mp he
    exact kqdOk_row (hok1 x hx)
  repeat' ((fail_if_success show wpAny _ _ (call (Value.ref _) _) _ _ _); (first | walk1 | (dsimp only; walk1)))
  have hLs3 : ∃ o, h3.get? L = some o := let ⟨o, e⟩ := hLs; ⟨o, hk3 _ _ e⟩
  refine told_call (x := strOf ps) (s := { s with heap := h3, toks := tk3 }) (G.keeps F3.keep) (hf2.keeps F3.keep) (by omega) (by simp [strOf]; omega) hs2 fun D4 h4 tk4 hT4 => ?_
  have hL4 := hT4.listed
  have hk4 : ∀ b o, h3.get? b = some o → h4.get? b = some o := by obtain ⟨_, _, _, _, _, _, hk⟩ := hL4; exact hk
  have hr4 := hL4.rows hLs3
  rw [hps', ← ht2] at hr4
  have hA2 := (hR2.up fun b o _ e => hk3 b o e).up fun b o _ e => hk4 b o e
  refine eq_own (b := true) (reads_of (rows_list hA2) (readsAll_rows' hA2)) (reads_of (rows_list hr4) (readsAll_rows' hr4)) ?_ ?_ (by show u + 64 < cLine; omega) (iff_of_true rfl rfl) ?_
  · intro e he
    obtain ⟨x, hx, rfl⟩ := List.mem_map.mp he
    exact kqdOk_row (hok2 x hx)
  · intro e he
    obtain ⟨x, hx, rfl⟩ := List.mem_map.mp he
    exact kqdOk_row (hok2 x hx)
  exact hQ _ _ ⟨rfl, h4, _, rfl, fun b o _ e => hk4 b o (hk3 b o e), F3.ns.at' fun o e => hk4 _ o e⟩
end
end Mine
end
section
open PySem PySem.W PyProof.Rows PySem.Calls
set_option maxRecDepth 100000
set_option maxHeartbeats 1000000
set_option linter.unusedVariables false
set_option linter.unusedSimpArgs false
namespace Mine
/-- the units of a text, behind a backslash or not -/
noncomputable def un : List Nat → Bool → List (List Nat)
  | [], false => []
  | [], true => [[92]]
  | c :: l, true => [92, c] :: un l false
  | c :: l, false => if c = 92 then un l true else [c] :: un l false
theorem bs_eq : Str.ofString "\\" = strOf [92] := by decide +kernel
theorem bsbs_eq : Str.ofString "\\\\" = strOf [92, 92] := by decide +kernel
theorem strOf_append (a b : List Nat) : strOf a ++ strOf b = strOf (a ++ b) := by
  show Str.append (strOf a) (strOf b) = _
  simp [Str.append, strOf]
theorem ch_eq (c : Nat) : ch c = strOf [c] := rfl
theorem strOf_length (l : List Nat) : (strOf l).length = l.length := by simp [strOf, Str.length]
theorem iterU_un : ∀ (l : List Nat) (i : Nat) (e : Bool), (iterU l i e).map (·.2) = (un l e).map strOf
  | [], _, false => rfl
  | [], i, true => by simp [iterU, un, bs_eq]
  | c :: l, i, true => by simp [iterU, un, bs_eq, ch_eq, strOf_append, iterU_un l (i + 1) false]
  | c :: l, i, false => by
    rw [iterU, un]
    split
    · exact iterU_un l (i + 1) true
    · simp [ch_eq, iterU_un l (i + 1) false]
/-- units with the place of their last sign -/
noncomputable def rowsFrom : Nat → List Str → List (Int × Str)
  | _, [] => []
  | i, x :: us => (((i + x.length : Nat) : Int) - 1, x) :: rowsFrom (i + x.length) us
theorem iterU_rows : ∀ (l : List Nat) (i : Nat), iterU l i false = rowsFrom i ((un l false).map strOf) ∧ iterU l (i + 1) true = rowsFrom i ((un l true).map strOf)
  | [], i => ⟨rfl, by simp [iterU, un, rowsFrom, bs_eq, strOf_length]⟩
  | c :: l, i => by
    obtain ⟨h1, h2⟩ := iterU_rows l i
    have h3 := (iterU_rows l (i + 1)).1
    have h4 := (iterU_rows l (i + 2)).1
    constructor
    · rw [iterU, un]
      split
      · exact h2
      · simp only [List.map_cons, rowsFrom, strOf_length, List.length_cons, List.length_nil, ch_eq, h3]
        congr 2
        omega
    · simp only [iterU, un, List.map_cons, rowsFrom, strOf_length, List.length_cons, List.length_nil, bs_eq, ch_eq, strOf_append, List.cons_append, List.nil_append, h4]
      congr 2
      omega
theorem rows_told : ∀ (us : List Str) (i : Nat), (List.range us.length).map (fun k => (((i + (catS (us.take (k + 1))).length : Nat) : Int) - 1, us.getD k ⟨#[]⟩)) = rowsFrom i us
  | [], _ => rfl
  | x :: us, i => by
    rw [List.length_cons, List.range_succ_eq_map, List.map_cons, List.map_map, rowsFrom, ← rows_told us (i + x.length)]
    congr 1
    · simp [catS_length]
    · refine List.map_congr_left fun k _ => ?_
      simp only [Function.comp, List.take_succ_cons, catS_length, List.map_cons, List.sum_cons, Nat.succ_eq_add_one]
      rw [Nat.add_assoc]
      simp [List.getD]
theorem toldRows_eq (l : List Nat) : toldRows l = rowsFrom 0 (toldUnits l) := by
  rw [← rows_told, toldRows]
  refine List.map_congr_left fun k _ => ?_
  simp [toldPair]
theorem mul_eq (k : Nat) (c : Nat) : Txt.mul (Str.ofString "\\") ((k : Int).fmod 2) ++ ch c = strOf (if k % 2 = 1 then [92, c] else [c]) := by
  rw [fmod2]
  have : k % 2 = 0 ∨ k % 2 = 1 := by omega
  have h0 : Txt.mul (Str.ofString "\\") ((0 : Nat) : Int) = strOf [] := by decide +kernel
  have h1 : Txt.mul (Str.ofString "\\") ((1 : Nat) : Int) = strOf [92] := by decide +kernel
  rcases this with h | h
  · rw [h, h0, ch_eq, strOf_append]; rfl
  · rw [h, h1, ch_eq, strOf_append]; rfl
theorem rep_half (k : Nat) : ((k : Int).fdiv 2).toNat = k / 2 := fdiv2 k
theorem rep_odd (k : Nat) : ((k : Int).fmod 2).toNat = k % 2 := by rw [fmod2]; omega
theorem told_un : ∀ (l : List Nat) (us : List Str) (k : Nat),
    (l.foldl toldStep (us, k)).1 ++ List.replicate (((l.foldl toldStep (us, k)).2 : Int).fdiv 2).toNat (Str.ofString "\\\\") ++ List.replicate (((l.foldl toldStep (us, k)).2 : Int).fmod 2).toNat (Str.ofString "\\") =
      us ++ List.replicate (k / 2) (strOf [92, 92]) ++ (un l (decide (k % 2 = 1))).map strOf
  | [], us, k => by
    rw [List.foldl_nil]
    simp only [rep_half, rep_odd, bs_eq, bsbs_eq]
    have : k % 2 = 0 ∨ k % 2 = 1 := by omega
    rcases this with h | h
    · simp [h, un]
    · simp [h, un]
  | c :: l, us, k => by
    rw [List.foldl_cons]
    by_cases hc : c = 92
    · have e : toldStep (us, k) c = (us, k + 1) := by unfold toldStep; rw [if_pos hc]
      rw [e, told_un l us (k + 1)]
      have : k % 2 = 0 ∨ k % 2 = 1 := by omega
      rcases this with h | h
      · have h1 : (k + 1) % 2 = 1 := by omega
        have h2 : (k + 1) / 2 = k / 2 := by omega
        simp [h, h1, h2, un, hc]
      · have h1 : (k + 1) % 2 = 0 := by omega
        have h2 : (k + 1) / 2 = k / 2 + 1 := by omega
        simp [h, h1, h2, un, hc, List.replicate_succ']
    · have e : toldStep (us, k) c = (us ++ List.replicate (k / 2) (strOf [92, 92]) ++ [strOf (if k % 2 = 1 then [92, c] else [c])], 0) := by
        unfold toldStep
        rw [if_neg hc]
        simp only [rep_half, mul_eq, bsbs_eq]
      rw [e, told_un l _ 0]
      have : k % 2 = 0 ∨ k % 2 = 1 := by omega
      rcases this with h | h
      · simp [h, un, hc]
      · simp [h, un, hc]
theorem toldUnits_eq (l : List Nat) : toldUnits l = (un l false).map strOf := by
  have := told_un l [] 0
  unfold toldUnits toldSt
  rw [this]
  simp
/-- what the generator tells is what the runs of backslashes tell -/
theorem iter_told (l : List Nat) : iterU l 0 false = toldRows l := by
  rw [toldRows_eq, toldUnits_eq, (iterU_rows l 0).1]
end Mine
end
section
open PySem PySem.W PyProof.Rows PySem.Calls
set_option maxRecDepth 100000
set_option maxHeartbeats 1000000
set_option linter.unusedVariables false
set_option linter.unusedSimpArgs false
namespace Mine
noncomputable abbrev pc (c : Nat) : List Nat := (prepC c).cps.toList
noncomputable abbrev uns (c : Nat) : Bool := unseenL.contains (c : Int)
/-- what holds of each sign -/
noncomputable def Good (c : Nat) : Prop := (c = 92 ∧ pc c = [92] ∧ uns c = false) ∨ (c ≠ 92 ∧ uns c = true ∧ pc c = []) ∨ (c ≠ 92 ∧ uns c = false ∧ pc c ≠ [] ∧ ∀ x ∈ pc c, x ≠ 92)
noncomputable def partL (u : List Nat) : List (List Nat) := (u.dropLast ++ (pc (u.getLastD 0)).take 1) :: ((pc (u.getLastD 0)).drop 1).map fun c => [c]
theorem partS_L (u : List Nat) : partS (strOf u) = (partL u).map strOf := by
  have e : (strOf u).cps.toList = u := by simp [strOf]
  unfold partS partL
  rw [e]
  simp only [List.map_cons, List.map_map]
  rfl
theorem flat_partS (us : List (List Nat)) : (us.map strOf).flatMap partS = (us.flatMap partL).map strOf := by
  induction us with
  | nil => rfl
  | cons u us ih => simp only [List.map_cons, List.flatMap_cons, List.map_append, ih, partS_L]
noncomputable def nn (u : List Nat) : Bool := !u.isEmpty
theorem notNil_strOf (u : List Nat) : notNil (strOf u) = nn u := by
  have e : Str.ofString "" = strOf [] := by decide +kernel
  unfold notNil nn
  rw [e]
  cases u with
  | nil => simp
  | cons a u =>
    have : strOf (a :: u) ≠ strOf [] := fun h => by
      have := congrArg (fun x : Str => x.cps.toList) h
      simp [strOf] at this
    simp [bne, this]
theorem filter_notNil (us : List (List Nat)) : (us.map strOf).filter notNil = (us.filter nn).map strOf := by
  rw [List.filter_map]
  congr 2
  funext u
  exact notNil_strOf u
theorem strOf_inj {a b : List Nat} : strOf a = strOf b ↔ a = b := by
  constructor
  · intro h
    have := congrArg (fun x : Str => x.cps.toList) h
    simpa [strOf] using this
  · rintro rfl; rfl
theorem map_strOf_inj {a b : List (List Nat)} : a.map strOf = b.map strOf ↔ a = b := List.map_inj_right fun x y e => strOf_inj.mp e
theorem catS_strOf (us : List (List Nat)) : catS (us.map strOf) = strOf us.flatten := by
  have : (us.map strOf).flatMap (fun x => x.cps.toList) = us.flatten := by
    induction us with
    | nil => rfl
    | cons u us ih =>
      rw [List.map_cons, List.flatMap_cons, ih, List.flatten_cons]
      rfl
  show strOf ((us.map strOf).flatMap (fun x => x.cps.toList)) = _
  rw [this]
theorem flatten_filter (us : List (List Nat)) : (us.filter nn).flatten = us.flatten := by
  induction us with
  | nil => rfl
  | cons u us ih =>
    cases u with
    | nil => simp [List.filter_cons, nn, ih]
    | cons a u => simp [List.filter_cons, nn, ih]
theorem pair_flatten (l : List Nat) : (l.map fun c => [c]).flatten = l := by
  induction l with
  | nil => rfl
  | cons a l ih => simp [ih]
theorem partL_flat (v : List Nat) (c : Nat) : (partL (v ++ [c])).flatten = v ++ pc c := by
  simp only [partL, List.dropLast_concat, List.getLastD_concat, List.flatten_cons, pair_flatten, List.append_assoc, List.take_append_drop]
theorem un_flat : ∀ (l : List Nat) (e : Bool), (∀ c ∈ l, Good c) → Good 92 → ((un l e).flatMap partL).flatten = (if e = true then [92] else []) ++ prepL l
  | [], false, _, _ => rfl
  | [], true, _, h92 => by
    have h : pc 92 = [92] := by rcases h92 with h | h | h; exact h.2.1; exact absurd rfl h.1; exact absurd rfl h.1
    simp [un, partL, h, prepL]
  | c :: l, true, hg, h92 => by
    have ih := un_flat l false (fun c hc => hg c (List.mem_cons_of_mem _ hc)) h92
    rw [un, List.flatMap_cons, List.flatten_append, ih, show [92, c] = [92] ++ [c] from rfl, partL_flat]
    simp [prepL]
  | c :: l, false, hg, h92 => by
    have ih := fun e => un_flat l e (fun c hc => hg c (List.mem_cons_of_mem _ hc)) h92
    rw [un]
    split
    · rename_i hc
      subst hc
      have h : pc 92 = [92] := by rcases h92 with h | h | h; exact h.2.1; exact absurd rfl h.1; exact absurd rfl h.1
      rw [ih true]
      simp [prepL, h]
    · rw [List.flatMap_cons, List.flatten_append, ih false, show [c] = [] ++ [c] from rfl, partL_flat]
      simp [prepL]
/-- a sign of the table behind a backslash, with something behind it -/
noncomputable def bnd : List Nat → Bool → Bool
  | [], _ => false
  | c :: l, e => (e && uns c && l.any fun x => !uns x) || bnd l (if e = true then false else decide (c = 92))
theorem bnd_none : ∀ (l : List Nat) (e : Bool), (l.any fun x => !uns x) = false → bnd l e = false
  | [], _, _ => rfl
  | c :: l, e, h => by
    rw [List.any_cons, Bool.or_eq_false_iff] at h
    rw [bnd, h.2, bnd_none l _ h.2]
    simp
theorem prepL_nil : ∀ (l : List Nat), (∀ c ∈ l, Good c) → (prepL l = [] ↔ (l.any fun x => !uns x) = false)
  | [], _ => by simp [prepL]
  | c :: l, hg => by
    have ih := prepL_nil l fun c hc => hg c (List.mem_cons_of_mem _ hc)
    have e : prepL (c :: l) = pc c ++ prepL l := by simp [prepL]
    rw [e, List.append_eq_nil_iff, ih, List.any_cons, Bool.or_eq_false_iff]
    rcases hg c (List.mem_cons_self ..) with ⟨h1, h2, h3⟩ | ⟨h1, h2, h3⟩ | ⟨h1, h2, h3, h4⟩
    · rw [h2, h3]; simp
    · rw [h2, h3]; simp
    · rw [h2]; simp [h3]
theorem un_plain : ∀ (z l : List Nat), (∀ x ∈ z, x ≠ 92) → un (z ++ l) false = (z.map fun c => [c]) ++ un l false
  | [], _, _ => rfl
  | c :: z, l, h => by
    have := un_plain z l fun x hx => h x (List.mem_cons_of_mem _ hx)
    rw [List.cons_append, un, if_neg (h c (List.mem_cons_self ..)), this]; rfl
noncomputable def parts (l : List Nat) (e : Bool) : List (List Nat) := ((un l e).flatMap partL).filter nn
theorem filter_single (z : List Nat) : (z.map fun c => [c]).filter nn = z.map fun c => [c] := by
  rw [List.filter_eq_self]
  intro a ha
  obtain ⟨c, _, rfl⟩ := List.mem_map.mp ha
  rfl
theorem parts_nil {l : List Nat} {e : Bool} (hg : ∀ c ∈ l, Good c) (h92 : Good 92) (he : e = false) (h : prepL l = []) : parts l e = [] := by
  subst he
  have hf : (parts l false).flatten = [] := by
    unfold parts
    rw [flatten_filter, un_flat l false hg h92, h]; rfl
  cases hp : parts l false with
  | nil => rfl
  | cons u us =>
    rw [hp, List.flatten_cons, List.append_eq_nil_iff] at hf
    have : u ∈ parts l false := by rw [hp]; exact List.mem_cons_self ..
    have := (List.mem_filter.mp this).2
    rw [hf.1] at this; cases this
theorem parts_bnd : ∀ (l : List Nat) (e : Bool), (∀ c ∈ l, Good c) → Good 92 → (parts l e = un (prepL l) e ↔ bnd l e = false)
  | [], false, _, _ => by simp [parts, un, prepL, bnd]
  | [], true, _, h92 => by
    have h : pc 92 = [92] := by rcases h92 with h | h | h; exact h.2.1; exact absurd rfl h.1; exact absurd rfl h.1
    simp [parts, un, partL, prepL, bnd, h, nn]
  | c :: l, e, hg, h92 => by
    have ih := fun e => parts_bnd l e (fun c hc => hg c (List.mem_cons_of_mem _ hc)) h92
    have e0 : prepL (c :: l) = pc c ++ prepL l := by simp [prepL]
    have h92' : pc 92 = [92] := by rcases h92 with h | h | h; exact h.2.1; exact absurd rfl h.1; exact absurd rfl h.1
    rcases hg c (List.mem_cons_self ..) with ⟨h1, h2, h3⟩ | ⟨h1, h2, h3⟩ | ⟨h1, h2, h3, h4⟩
    · subst h1
      cases e with
      | false =>
        have a : parts (92 :: l) false = parts l true := by simp [parts, un]
        have b : un (prepL (92 :: l)) false = un (prepL l) true := by rw [e0, h2]; simp [un]
        rw [a, b, ih true, bnd]
        simp
      | true =>
        have a : parts (92 :: l) true = [92, 92] :: parts l false := by simp [parts, un, partL, h92', nn]
        have b : un (prepL (92 :: l)) true = [92, 92] :: un (prepL l) false := by rw [e0, h2]; simp [un]
        rw [a, b, List.cons.injEq, bnd, h3]
        simp [ih false]
    · cases e with
      | false =>
        have a : parts (c :: l) false = parts l false := by simp [parts, un, h1, partL, h3, nn]
        rw [a, e0, h3, List.nil_append, ih false, bnd]
        simp [h1]
      | true =>
        have a : parts (c :: l) true = [92] :: parts l false := by simp [parts, un, partL, h3, nn]
        rw [a, e0, h3, List.nil_append, bnd, h2]
        have hgl : ∀ c ∈ l, Good c := fun c hc => hg c (List.mem_cons_of_mem _ hc)
        cases hp : prepL l with
        | nil =>
          have hn := (prepL_nil l hgl).mp hp
          rw [parts_nil hgl h92 rfl hp, hn, bnd_none l _ hn]
          simp [un]
        | cons p ps =>
          have hn : (l.any fun x => !uns x) = true := by
            cases hq : (l.any fun x => !uns x) with
            | true => rfl
            | false => have := (prepL_nil l hgl).mpr hq; rw [hp] at this; cases this
          rw [hn]
          simp [un]
    · obtain ⟨z0, zt, hz⟩ : ∃ z0 zt, pc c = z0 :: zt := by
        cases h : pc c with
        | nil => exact absurd h h3
        | cons a b => exact ⟨a, b, rfl⟩
      rw [hz] at h4
      have hf : ∀ v : List Nat, ((un l false).flatMap partL).filter nn = parts l false := fun _ => rfl
      cases e with
      | false =>
        have a : parts (c :: l) false = ((z0 :: zt).map fun c => [c]) ++ parts l false := by
          have : partL [c] = (z0 :: zt).map fun c => [c] := by simp [partL, hz]
          unfold parts
          rw [un, if_neg h1, List.flatMap_cons, List.filter_append, this, filter_single]
        have b : un (prepL (c :: l)) false = ((z0 :: zt).map fun c => [c]) ++ un (prepL l) false := by rw [e0, hz, un_plain _ _ h4]
        rw [a, b, List.append_right_inj, ih false, bnd]
        simp [h1]
      | true =>
        have a : parts (c :: l) true = [92, z0] :: ((zt.map fun c => [c]) ++ parts l false) := by
          have : partL [92, c] = [92, z0] :: zt.map fun c => [c] := by simp [partL, hz]
          unfold parts
          rw [un, List.flatMap_cons, List.filter_append, this, List.filter_cons, filter_single]
          simp [nn]
        have b : un (prepL (c :: l)) true = [92, z0] :: ((zt.map fun c => [c]) ++ un (prepL l) false) := by
          rw [e0, hz, List.cons_append, un, un_plain _ _ fun x hx => h4 x (List.mem_cons_of_mem _ hx)]
        rw [a, b, List.cons.injEq, List.append_right_inj, ih false, bnd, h2]
        simp
end Mine
end
section
open PySem PySem.W PyProof.Rows PySem.Calls
set_option maxRecDepth 100000
set_option maxHeartbeats 1000000
set_option linter.unusedVariables false
set_option linter.unusedSimpArgs false
namespace Mine
theorem un_own : ∀ (l : List Nat) (e : Bool), (un l e).flatten = (if e = true then [92] else []) ++ l
  | [], false => rfl
  | [], true => rfl
  | c :: l, true => by simp [un, un_own l false]
  | c :: l, false => by
    rw [un]
    split
    · rename_i h; subst h; rw [un_own l true]; rfl
    · simp [un_own l false]
theorem un_shape : ∀ (l : List Nat) (e : Bool), ∀ u ∈ un l e, ∃ v c, u = v ++ [c] ∧ v.length ≤ 1 ∧ (c ∈ l ∨ c = 92)
  | [], false, u, h => by simp [un] at h
  | [], true, u, h => by
    simp [un] at h; subst h
    exact ⟨[], 92, rfl, by simp, .inr rfl⟩
  | c :: l, true, u, h => by
    rw [un, List.mem_cons] at h
    rcases h with rfl | h
    · exact ⟨[92], c, rfl, by simp, .inl (List.mem_cons_self ..)⟩
    · obtain ⟨v, c', a, b, d⟩ := un_shape l false u h
      exact ⟨v, c', a, b, d.imp_left (List.mem_cons_of_mem _)⟩
  | c :: l, false, u, h => by
    rw [un] at h
    split at h
    · obtain ⟨v, c', a, b, d⟩ := un_shape l true u h
      exact ⟨v, c', a, b, d.imp_left (List.mem_cons_of_mem _)⟩
    · rw [List.mem_cons] at h
      rcases h with rfl | h
      · exact ⟨[], c, rfl, by simp, .inl (List.mem_cons_self ..)⟩
      · obtain ⟨v, c', a, b, d⟩ := un_shape l false u h
        exact ⟨v, c', a, b, d.imp_left (List.mem_cons_of_mem _)⟩
theorem un_mem {l : List Nat} {e : Bool} {u : List Nat} (hu : u ∈ un l e) {c : Nat} (hc : c ∈ u) : c ∈ l ∨ c = 92 := by
  have : c ∈ (un l e).flatten := List.mem_flatten.mpr ⟨u, hu, hc⟩
  rw [un_own, List.mem_append] at this
  rcases this with h | h
  · cases e
    · simp at h
    · simp at h; exact .inr h
  · exact .inl h
theorem strOk_of {u : List Nat} (h : ∀ c ∈ u, c < 0x110000) : PyData.strOk (strOf u) = true := by
  unfold PyData.strOk
  simp only [strOf, Array.all_eq_true', List.mem_toArray]
  intro c hc
  exact decide_eq_true (h c hc)
theorem iter_ok {l : List Nat} (h : ∀ c ∈ l, c < 0x110000) : ∀ e ∈ iterU l 0 false, PyData.strOk e.2 = true := by
  intro e he
  have : e.2 ∈ (iterU l 0 false).map (·.2) := List.mem_map.mpr ⟨e, he, rfl⟩
  rw [iterU_un] at this
  obtain ⟨u, hu, e2⟩ := List.mem_map.mp this
  rw [← e2]
  refine strOk_of fun c hc => ?_
  rcases un_mem hu hc with h' | rfl
  · exact h c h'
  · decide
theorem told_sum (l : List Nat) : ((toldUnits l).map (·.length)).sum = l.length := by
  rw [← catS_length, toldUnits_eq, catS_strOf, un_own, strOf_length]; rfl
theorem prepL_len {l : List Nat} (h : ∀ c ∈ l, (pc c).length ≤ 3) : (prepL l).length ≤ 3 * l.length := by
  induction l with
  | nil => simp [prepL]
  | cons c l ih =>
    have e0 : prepL (c :: l) = pc c ++ prepL l := by simp [prepL]
    have h1 := h c (List.mem_cons_self ..)
    have h2 := ih fun x hx => h x (List.mem_cons_of_mem _ hx)
    rw [e0, List.length_append, List.length_cons]; omega
/-- the same as a walk from place to place -/
noncomputable def bGo : List Nat → Nat → List Nat × Nat → List Nat × Nat
  | [], _, st => st
  | c :: l, i, st => bGo l (i + 1) (bStep st i c)
theorem bSt_go (cs : List Nat) : ∀ (l : List Nat) (i : Nat), cs.drop i = l → i ≤ cs.length → bSt (strOf cs) cs.length = bGo l i (bSt (strOf cs) i)
  | [], i, h, hi => by
    have := congrArg List.length h
    simp at this
    have : i = cs.length := by omega
    subst this; rfl
  | c :: l, i, h, hi => by
    have h1 : cs[i]? = some c := by
      have := congrArg (·[0]?) h
      simpa using this
    have h2 : cs.drop (i + 1) = l := by rw [← List.drop_drop, h]; rfl
    have hlt := (List.getElem?_eq_some_iff.mp h1).1
    rw [bGo, bSt_go cs l (i + 1) h2 hlt, bSt_succ]
    congr 2
    have : (strOf cs).cps.getD i 0 = c := by simp [strOf, Array.getD_eq_getD_getElem?, h1]
    rw [this]
theorem bGo_bnd (cs : List Nat) : ∀ (l : List Nat) (i : Nat) (bs : List Nat) (k : Nat), cs.drop i = l →
    ((bGo l i (bs, k)).1.filter (fun j => (cs.drop (j + 1)).any fun x => !uns x) = [] ↔ bs.filter (fun j => (cs.drop (j + 1)).any fun x => !uns x) = [] ∧ bnd l (decide (k % 2 = 1)) = false)
  | [], i, bs, k, h => by simp [bGo, bnd]
  | c :: l, i, bs, k, h => by
    have h2 : cs.drop (i + 1) = l := by rw [← List.drop_drop, h]; rfl
    rw [bGo]
    have hs : bStep (bs, k) i c = (if (decide (k % 2 = 1) && uns c) = true then bs ++ [i] else bs, if c = 92 then k + 1 else 0) := rfl
    rw [hs, bGo_bnd cs l (i + 1) _ _ h2, bnd]
    have hpar : decide ((if c = 92 then k + 1 else 0) % 2 = 1) = (if decide (k % 2 = 1) = true then false else decide (c = 92)) := by
      by_cases hc : c = 92
      · rw [if_pos hc, decide_eq_true hc]
        by_cases hk : k % 2 = 1
        · have h' : ¬ (k + 1) % 2 = 1 := by omega
          rw [decide_eq_false h', decide_eq_true hk, if_pos rfl]
        · have h' : (k + 1) % 2 = 1 := by omega
          rw [decide_eq_true h', decide_eq_false hk, if_neg (by simp)]
      · rw [if_neg hc, decide_eq_false hc]
        simp
    rw [hpar]
    cases hb : (decide (k % 2 = 1) && uns c)
    · rw [if_neg (by simp), Bool.false_and, Bool.false_or]
    · rw [if_pos rfl, List.filter_append, List.append_eq_nil_iff, Bool.true_and, Bool.or_eq_false_iff, and_assoc]
      have : [i].filter (fun j => (cs.drop (j + 1)).any fun x => !uns x) = [] ↔ (l.any fun x => !uns x) = false := by
        rw [List.filter_cons, h2]
        cases (l.any fun x => !uns x) <;> simp
      rw [this]
theorem more_eq (cs : List Nat) (j : Nat) : moreB (strOf cs) j = (cs.drop (j + 1)).any fun x => !uns x := by
  have hs := slice_from cs (j + 1)
  have e : Txt.slice (strOf cs) (some ((j : Int) + 1)) none = strOf (cs.drop (j + 1)) := hs
  unfold moreB
  rw [e]
  have hz : (strOf (cs.drop (j + 1))).cps.size = (cs.drop (j + 1)).length := by simp [strOf]
  have hg : ∀ i, (strOf (cs.drop (j + 1))).cps.getD i 0 = (cs.drop (j + 1)).getD i 0 := fun i => by simp [strOf, Array.getD_eq_getD_getElem?, List.getD_eq_getElem?_getD]
  rw [hz]
  simp only [hg]
  have hf := filter_getD (fun x => !uns x) (cs.drop (j + 1)) 0
  have h1 : ((List.range (cs.drop (j + 1)).length).filter fun i => !uns ((cs.drop (j + 1)).getD i 0)).isEmpty = ((cs.drop (j + 1)).filter fun x => !uns x).isEmpty := by
    rw [← hf, List.isEmpty_map]
  rw [h1]
  cases hq : (cs.drop (j + 1)).any fun x => !uns x
  · rw [List.filter_eq_nil_iff.mpr fun a ha => by have := List.any_eq_false.mp hq a ha; simpa using this]; rfl
  · obtain ⟨a, ha, hb⟩ := List.any_eq_true.mp hq
    cases hl : (cs.drop (j + 1)).filter fun x => !uns x with
    | nil => have := List.filter_eq_nil_iff.mp hl a ha; exact absurd hb this
    | cons => rfl
/-- the places that are bound, and what binds them -/
theorem bounds_bnd (cs : List Nat) : ((List.range (bSt (strOf cs) (strOf cs).cps.size).1.length).filter fun i => moreB (strOf cs) ((bSt (strOf cs) (strOf cs).cps.size).1.getD i 0)) = [] ↔ bnd cs false = false := by
  have hz : (strOf cs).cps.size = cs.length := by simp [strOf]
  rw [hz]
  have hf := filter_getD (moreB (strOf cs)) (bSt (strOf cs) cs.length).1 0
  have h1 : ((List.range (bSt (strOf cs) cs.length).1.length).filter fun i => moreB (strOf cs) ((bSt (strOf cs) cs.length).1.getD i 0)) = [] ↔ (bSt (strOf cs) cs.length).1.filter (moreB (strOf cs)) = [] := by
    rw [← hf, List.map_eq_nil_iff]
  rw [h1, bSt_go cs cs 0 rfl (Nat.zero_le _)]
  have h2 := bGo_bnd cs cs 0 [] 0 rfl
  have h3 : (moreB (strOf cs)) = fun j => (cs.drop (j + 1)).any fun x => !uns x := funext fun j => more_eq cs j
  rw [h3]
  simpa [bSt] using h2
end Mine
end
section
open PySem PySem.W PyProof.Rows PySem.Calls
set_option maxRecDepth 100000
set_option maxHeartbeats 1000000
set_option linter.unusedVariables false
set_option linter.unusedSimpArgs false
namespace Mine
theorem uns_up : ∀ k : Fin 26, uns (65 + k.1) = false := by decide +kernel
theorem uns_bold : ∀ k : Fin 26, uns (119808 + k.1) = false := by decide +kernel
theorem uns_un : ∀ k : Fin 27, uns (unseenL.getD k.1 0).toNat = true ∧ (unseenL.getD k.1 0).toNat ≠ 92 ∧ (unseenL.getD k.1 0).toNat < 0x110000 := by decide +kernel
theorem uns_few : uns 92 = false ∧ uns 223 = false ∧ uns 64259 = false ∧ uns 40 = false ∧ uns 10 = false ∧ uns 34 = false := by decide +kernel
/-- what is asked of a sign, and its sizes -/
noncomputable def Fine (c : Nat) : Prop := Good c ∧ c < 0x110000 ∧ (pc c).length ≤ 3 ∧ ∀ x ∈ pc c, x < 0x110000
theorem pc_of {c : Nat} {x : Str} (h : prepC c = x) : pc c = x.cps.toList := by rw [← h]
theorem fine_one {c a : Nat} (h : prepC c = ch a) (hu : uns c = false) (hc : c ≠ 92) (ha : a ≠ 92) (h1 : c < 0x110000) (h2 : a < 0x110000) : Fine c := by
  have e : pc c = [a] := pc_of h
  refine ⟨.inr (.inr ⟨hc, hu, by rw [e]; simp, fun x hx => ?_⟩), h1, by rw [e]; simp, fun x hx => ?_⟩
  · rw [e, List.mem_singleton] at hx; rw [hx]; exact ha
  · rw [e, List.mem_singleton] at hx; rw [hx]; exact h2
theorem fine_92 : Fine 92 := by
  have e : pc 92 = [92] := pc_of prep_few.1
  refine ⟨.inl ⟨rfl, e, uns_few.1⟩, by decide, by rw [e]; simp, fun x hx => ?_⟩
  rw [e, List.mem_singleton] at hx; rw [hx]; decide
theorem fine_un (k : Fin 27) : Fine (unseenL.getD k.1 0).toNat := by
  have e : pc (unseenL.getD k.1 0).toNat = [] := pc_of (prep_un k)
  obtain ⟨a, b, c⟩ := uns_un k
  refine ⟨.inr (.inl ⟨b, a, e⟩), c, by rw [e]; simp, fun x hx => ?_⟩
  rw [e] at hx; cases hx
theorem fine_more {c : Nat} {l : List Nat} (h : pc c = l) (hu : uns c = false) (hc : c ≠ 92) (hl : l ≠ []) (h3 : l.length ≤ 3) (h4 : ∀ x ∈ l, x ≠ 92 ∧ x < 0x110000) (h1 : c < 0x110000) : Fine c :=
  ⟨.inr (.inr ⟨hc, hu, h ▸ hl, fun x hx => (h4 x (h ▸ hx)).1⟩), h1, h ▸ h3, fun x hx => (h4 x (h ▸ hx)).2⟩
theorem fine_sign (n : Int) : Fine (signC n) := by
  have c26 : 0 ≤ (n.fdiv 16).fmod 26 ∧ (n.fdiv 16).fmod 26 < 26 := by
    rw [Int.fmod_eq_emod_of_nonneg _ (by decide)]; omega
  have cjk : 0 ≤ (n.fdiv 16).fmod 20902 ∧ (n.fdiv 16).fmod 20902 < 20902 := by
    rw [Int.fmod_eq_emod_of_nonneg _ (by decide)]; omega
  have c27 : 0 ≤ (n.fdiv 4).fmod 27 ∧ (n.fdiv 4).fmod 27 < 27 := by
    rw [Int.fmod_eq_emod_of_nonneg _ (by decide)]; omega
  obtain ⟨k, hk⟩ : ∃ k : Fin 26, ((n.fdiv 16).fmod 26).toNat = k.1 := ⟨⟨((n.fdiv 16).fmod 26).toNat, by omega⟩, rfl⟩
  unfold signC
  split
  · exact fine_92
  · split
    · exact fine_un ⟨((n.fdiv 4).fmod 27).toNat, by omega⟩
    · split
      · split
        · rw [hk]
          have := k.2
          exact fine_one (prep_up k) (uns_up k) (by omega) (by omega) (by omega) (by omega)
        · split
          · exact fine_more (l := [115, 115]) (pc_of prep_few.2.1) uns_few.2.1 (by decide) (by simp) (by simp) (by decide) (by decide)
          · split
            · exact fine_more (l := [102, 102, 105]) (pc_of prep_few.2.2.1) uns_few.2.2.1 (by decide) (by simp) (by simp) (by decide) (by decide)
            · rw [hk]
              have := k.2
              exact fine_one (prep_bold k) (uns_bold k) (by omega) (by omega) (by omega) (by omega)
      · split
        · exact fine_one prep_few.2.2.2.1 uns_few.2.2.2.1 (by decide) (by decide) (by decide) (by decide)
        · split
          · exact fine_one prep_few.2.2.2.2.1 uns_few.2.2.2.2.1 (by decide) (by decide) (by decide) (by decide)
          · split
            · exact fine_one prep_few.2.2.2.2.2 uns_few.2.2.2.2.2 (by decide) (by decide) (by decide) (by decide)
            · exact fine_one (prep_cjk (by omega) (by omega)) (cjk_unseen (by omega) (by omega)) (by omega) (by omega) (by omega) (by omega)
theorem fine_text (ms : List Int) : ∀ c ∈ textL ms, Fine c := by
  intro c hc
  obtain ⟨n, _, rfl⟩ := List.mem_map.mp hc
  exact fine_sign n
section
variable {cs : List Nat} (hf : ∀ c ∈ cs, Fine c)
include hf
theorem unit_ok : ∀ e ∈ iterU cs 0 false, UnitOk e.2 := by
  intro e he
  have : e.2 ∈ (iterU cs 0 false).map (·.2) := List.mem_map.mpr ⟨e, he, rfl⟩
  rw [iterU_un] at this
  obtain ⟨u, hu, e2⟩ := List.mem_map.mp this
  obtain ⟨v, c, rfl, hv, hc⟩ := un_shape cs false u hu
  refine ⟨v, c, e2.symm, by omega, ?_⟩
  rcases hc with hc | rfl
  · exact (hf c hc).2.2.1
  · exact fine_92.2.2.1
theorem prep_chars : ∀ x ∈ prepL cs, x < 0x110000 := by
  intro x hx
  obtain ⟨c, hc, h⟩ := List.mem_flatMap.mp hx
  exact (hf c hc).2.2.2 x h
/-- the parted list -/
theorem parted_eq : (((iterU cs 0 false).map (·.2)).flatMap partS).filter notNil = (parts cs false).map strOf := by
  rw [iterU_un, flat_partS, filter_notNil]; rfl
theorem parts_flat : (parts cs false).flatten = prepL cs := by
  unfold parts
  rw [flatten_filter, un_flat cs false (fun c hc => (hf c hc).1) fine_92.1]; rfl
theorem parts_ok : ∀ x ∈ (parts cs false).map strOf, PyData.strOk x = true := by
  intro x hx
  obtain ⟨u, hu, rfl⟩ := List.mem_map.mp hx
  refine strOk_of fun c hc => prep_chars hf c ?_
  rw [← parts_flat hf]
  exact List.mem_flatten.mpr ⟨u, hu, hc⟩
theorem parts_cat : catS ((parts cs false).map strOf) = strOf (prepL cs) := by rw [catS_strOf, parts_flat hf]
/-- the same units if and only if nothing is bound -/
theorem same_units : (parts cs false).map strOf = (iterU (prepL cs) 0 false).map (·.2) ↔ ((List.range (bSt (strOf cs) (strOf cs).cps.size).1.length).filter fun i => moreB (strOf cs) ((bSt (strOf cs) (strOf cs).cps.size).1.getD i 0)) = [] := by
  rw [bounds_bnd, iterU_un, map_strOf_inj]
  exact parts_bnd cs false (fun c hc => (hf c hc).1) fine_92.1
end
theorem drawn_len (ns : List Int) : (drawnL ns).length ≤ 12 := by
  unfold drawnL
  simp only [List.length_take]; omega
end Mine
end
section
open PySem PySem.W PyProof.Rows PySem.Calls
set_option maxRecDepth 100000
set_option maxHeartbeats 1000000
set_option linter.unusedVariables false
namespace Mine
theorem rec_at (j k : Nat) (h : (recsOf qv)[j]? = some ⟨(nthDef k).name, (nthDef k).params, (nthDef k).body, (nthDef k).scope, (nthDef k).pos⟩) {mean : ExcName → Option Value} {mg mb : Str → Option Value} {hp : Heap} (T : Top qv looseV mean mg mb hp) : ∃ f, mg (nthDef k).name = some (.ref f) ∧ IsFn hp f k := by
  obtain ⟨a, o, pm, code, doc, h1, h2, h3, h4⟩ := T.fn _ (List.mem_of_getElem? h)
  obtain ⟨c, oc, vs, t, rfl, r⟩ := id h4
  exact ⟨a, h1, c, o, pm, doc, h2, h3, h4⟩
theorem mg_of {mg : Str → Option Value} {h : Heap} {P : Params} (hn : h.Ns mainGlobals mg) (h3 : h.get? 3 = some (mainFin P)) : mg "b1_set" = some (.ref 29) ∧ mg "b3_exceptions" = some (.ref 40) := by
  obtain ⟨o, es, ep, ho, hd, _, hf⟩ := hn
  have : o = mainFin P := by
    have e : h.get? 3 = some o := ho
    rw [h3] at e; exact (Option.some.inj e).symm
  subst this
  obtain ⟨rfl, rfl⟩ : _ = es ∧ _ = ep := by
    have hd' := hd
    unfold mainFin at hd'
    dsimp only at hd'
    injection hd' with a b
    exact ⟨a, b⟩
  exact ⟨(hf _).symm.trans rfl, (hf _).symm.trans rfl⟩
noncomputable def biNames : List Str := ["list", "range", "chr", "ord", "len", "enumerate", "set"]
theorem bi_free : (biNames.all fun x => !startupNames.contains x && (!looseV.contains x && (!((recsOf qv).map (·.name)).contains x && (!((litsOf qv).map (·.1)).contains x && (!((clssOf qv looseV).map (·.name)).contains x && !(x == "__name__")))))) = true := by kernel_rfl
theorem not_mem {l : List Str} {x : Str} (h : (!l.contains x) = true) : x ∉ l := fun hm => by
  rw [List.contains_iff_mem.mpr hm] at h; cases h
theorem gl_of {w : World} {s₀ : Shared} {mg mb : Str → Option Value} {h : Heap} (Gr : Ground qv looseV rowL.toRowW.records (fun _ _ => True) w s₀ mg mb h) (Y : YP w h) : GL w mg mb h := by
  obtain ⟨y1, y2, y3⟩ := Y
  have T : Top qv looseV (ExcName.means s₀.heap) mg mb h := Gr.T
  have hb := mg_of T.g y1
  refine ⟨⟨T.g, T.b, T.nolimit, fun x hx => ?_, rec_at 0 1 (by kernel_rfl) T, rec_at 1 4 (by kernel_rfl) T, rec_at 2 6 (by kernel_rfl) T, rec_at 3 8 (by kernel_rfl) T, rec_at 4 9 (by kernel_rfl) T, rec_at 5 10 (by kernel_rfl) T, rec_at 6 11 (by kernel_rfl) T, rec_at 7 12 (by kernel_rfl) T, ⟨hb.1, y2⟩, hb.2⟩, y3⟩
  have h := List.all_eq_true.mp bi_free x hx
  obtain ⟨h1, h⟩ := Bool.and_eq_true_iff.mp h
  obtain ⟨h2, h⟩ := Bool.and_eq_true_iff.mp h
  obtain ⟨h3, h⟩ := Bool.and_eq_true_iff.mp h
  obtain ⟨h4, h⟩ := Bool.and_eq_true_iff.mp h
  obtain ⟨h5, h⟩ := Bool.and_eq_true_iff.mp h
  refine ⟨T.free x (not_mem h1) (not_mem h2) (not_mem h3) (not_mem h4) (not_mem h5), T.builtins x fun e => ?_⟩
  rw [e] at h; revert h; decide
end Mine
end
section
open PySem PySem.W PyProof.Rows PySem.Calls
set_option maxRecDepth 100000
set_option maxHeartbeats 1000000
set_option linter.unusedVariables false
namespace Mine
theorem ne_ns {h : Heap} {L D : Addr} {m : Str → Option Value} {vs : Array Value} (hn : h.Ns L m) (hl : h.IsList D vs) : D ≠ L := fun e => by
  obtain ⟨o, es, ep, ho, hd, _⟩ := hn
  obtain ⟨o2, ho2, _, n, hd2⟩ := hl
  rw [e, ho] at ho2; cases ho2
  rw [hd] at hd2; cases hd2
theorem ne_nsT {h : Heap} {L T : Addr} {m : Str → Option Value} {vs : Array Value} (hn : h.Ns L m) (ht : IsTup h T vs) : T ≠ L := fun e => by
  obtain ⟨o, es, ep, ho, hd, _⟩ := hn
  obtain ⟨o2, ho2, _, n, hd2⟩ := ht
  rw [e, ho] at ho2; cases ho2
  rw [hd] at hd2; cases hd2
theorem Signs.keepsC {L D : Addr} {m m' : Str → Option Value} {s s' : Shared} {ms : List Int} (x : Signs s.heap D ms) (hn : s.heap.Ns L m') (K : KeepsC L m s s') : Signs s'.heap D ms := by
  obtain ⟨h', tk, rfl, hk, _⟩ := K
  obtain ⟨ys, hl, hp⟩ := x
  refine ⟨ys, hl.at fun o e => hk _ o (ne_ns hn hl) e, hp.mono fun n y hx => ?_⟩
  obtain ⟨T, t1, t2, rfl, ht⟩ := hx
  have hT := ne_nsT hn ht
  obtain ⟨o, ho, r⟩ := ht
  exact ⟨T, t1, t2, rfl, o, hk _ _ hT ho, r⟩
theorem RowsAt.up2 {L D P : Addr} {h h' : Heap} {es : List (Int × Str)} {items : Array Value} (x : RowsAt L h D es) (hP : h.PlainList P items) (hDP : D ≠ P) (hk : ∀ b o, b ≠ L → b ≠ P → h.get? b = some o → h'.get? b = some o) : RowsAt L h' D es := by
  obtain ⟨ys, hl, hD, hp⟩ := x
  obtain ⟨n, eP⟩ := hP
  refine ⟨ys, hl.at fun o e => hk _ o hD hDP e, hD, hp.mono fun e y hx => ?_⟩
  obtain ⟨T, t1, t2, rfl, hT, o, ho, hc, r⟩ := hx
  refine ⟨T, t1, t2, rfl, hT, o, hk _ _ hT (fun q => ?_) ho, hc, r⟩
  rw [q, eP] at ho; cases ho
  exact absurd hc (by show ¬ Value.type "list" = Value.type "tuple"; decide)
theorem RowsAt.live {L D : Addr} {h : Heap} {es : List (Int × Str)} (x : RowsAt L h D es) : ∃ o, h.get? D = some o := let ⟨_, ⟨_, e⟩, _⟩ := x; ⟨_, e⟩
section
variable {w : World} {d u : Nat} {E : Value → Shared → Prop} {s : Shared} {f c' : Addr} {h₀ : Heap} {L : Addr} {mg mb : Str → Option Value}
theorem law_body {a : Addr} {vs : Array Value} {ns : List Int} (hroom : d < 600) (hu : u + 67 < cLine) (G : GL w mg mb h₀) (hb : AllBare s.gens) (F : Fr h₀ L s.heap (fun (y : Str) => if y = ("script" : Str) then some (Value.ref a) else none)) (hl : h₀.IsList a vs) (hi : IntsAre vs.toList ns) (hlen : ns.length ≤ 63) :
    wpAny (model prog w) (AA d u) (execs (nthDef 13).body (lEnv L f c')) (fun fl s' => fl = .ret (.bool true) ∧ s'.os = s.os ∧ AllBare s'.gens ∧ ∀ b o, h₀.get? b = some o → s'.heap.get? b = some o) E s := by
  have hms := drawn_len ns
  generalize hmsd : drawnL ns = ms at hms
  have hcl : (textL ms).length ≤ 12 := by simp [textL]; exact hms
  have hf := fine_text ms
  have hcat := parts_cat hf
  have hsame := same_units hf
  have huok := unit_ok hf
  have hpch := prep_chars hf
  have hpok := parts_ok hf
  have hplen := prepL_len fun c hc => (hf c hc).2.2.1
  have hcch : ∀ c ∈ textL ms, c < 0x110000 := fun c hc => (hf c hc).2.1
  have hp3 : ∀ c ∈ textL ms, (prepC c).length ≤ 3 := fun c hc => (hf c hc).2.2.1
  have hil1 := iterU_len (textL ms) 0 false
  have hil2 := iterU_len (prepL (textL ms)) 0 false
  rw [lBody_eq]
  -- drawn
  refine wpAny_execs_cons (wpAny_mono (l_0 G F hl hi hlen) (fun fl s1 hx => ?_) fun _ _ e => e)
  obtain ⟨rfl, D0, ws0, hl0, hi0, K1⟩ := hx
  rw [hmsd] at hi0
  have F1 := frKeepsC F K1
  have KG1 := K1.toG hb
  -- signs
  refine wpAny_execs_cons (wpAny_mono (l_1 (by omega) G F1 rfl hl0 hi0 hms) (fun fl s2 hx => ?_) fun _ _ e => e)
  obtain ⟨rfl, D1, hS2, K2⟩ := hx
  have F2 := frKeepsC F1 K2
  have KG2 := KG1.trans (K2.toG KG1.bare)
  -- text
  refine wpAny_execs_cons (wpAny_mono (l_2 F2 rfl hS2 hms) (fun fl s3 hx => ?_) fun _ _ e => e)
  obtain ⟨rfl, tt, K3⟩ := hx
  have hS3 := hS2.keepsC F2.ns K3
  have F3 := frKeepsC F2 K3
  have KG3 := KG2.trans (K3.toG KG2.bare)
  -- prepared
  refine wpAny_execs_cons (wpAny_mono (l_3 (t := tt) (by omega) G F3 rfl (by omega) hp3) (fun fl s4 hx => ?_) fun _ _ e => e)
  obtain ⟨rfl, tp, K4⟩ := hx
  have hS4 := hS3.keepsC F3.ns K4
  have F4 := frKeepsC F3 K4
  have KG4 := KG3.trans (K4.toG KG3.bare)
  -- the first test
  refine wpAny_execs_cons (wpAny_mono (l_4 (t := tp) F4 rfl rfl hS4 hms) (fun fl s5 hx => ?_) fun _ _ e => e)
  obtain ⟨rfl, K5⟩ := hx
  have F5 := frKeepsC F4 K5
  have KG5 := KG4.trans (K5.toG KG4.bare)
  -- read
  refine wpAny_execs_cons (wpAny_mono (l_5 (t := tt) (cs := textL ms) (by omega) G F5 KG5.bare rfl (by omega)) (fun fl s6 hx => ?_) fun _ _ e => e)
  obtain ⟨rfl, DR, hR6, K6⟩ := hx
  have F6 := K6.fr F5
  have KG6 := KG5.trans K6
  -- whole
  refine wpAny_execs_cons (wpAny_mono (l_6 (t := tp) (cs := prepL (textL ms)) (by omega) G F6 KG6.bare rfl (by omega)) (fun fl s7 hx => ?_) fun _ _ e => e)
  obtain ⟨rfl, DW, hW7, K7⟩ := hx
  have F7 := K7.fr F6
  have KG7 := KG6.trans K7
  have hR7 := hR6.up K7.keep
  -- parted = []
  refine wpAny_execs_cons (wpAny_mono (l_7 F7) (fun fl s8 hx => ?_) fun _ _ e => e)
  obtain ⟨rfl, P, hPL, hP₀, hPn, hP8, K8⟩ := hx
  have F8 := frKeepsC F7 K8
  have KG8 := KG7.trans (K8.toG KG7.bare)
  have hPR : P ≠ DR := fun e => by
    obtain ⟨o, ho⟩ := hR7.live
    rw [e, ho] at hPn; cases hPn
  have hPW : P ≠ DW := fun e => by
    obtain ⟨o, ho⟩ := hW7.live
    rw [e, ho] at hPn; cases hPn
  have KK8 := K8.toG KG7.bare
  have hR8 := hR7.up KK8.keep
  have hW8 := hW7.up KK8.keep
  -- the loop
  refine wpAny_execs_cons (wpAny_mono (l_8 (by omega) G F8 rfl hR8 (by omega) huok rfl hPL hPR hP₀ hP8) (fun fl s9 hx => ?_) fun _ _ e => e)
  obtain ⟨rfl, h9, tk9, items, m9, rfl, hn9, hm9, hk9, hP9, hst9⟩ := hx
  have F9 : Fr h₀ L h9 m9 := ⟨hn9, fun b o e => hk9 b o (Nat.ne_of_lt (Nat.lt_of_lt_of_le (Heap.lt_size e) F8.above)) (fun q => by rw [q, hP₀] at e; cases e) (F8.keep b o e), F8.above⟩
  have hR9 := hR8.up2 hP8 (Ne.symm hPR) hk9
  have hW9 := hW8.up2 hP8 (Ne.symm hPW) hk9
  have hparted := (hm9 "parted" (by decide) (by decide) (by decide))
  have hlenf := flat_len ((iterU (textL ms) 0 false).map (·.2)) fun x hx => by
    obtain ⟨e, he, rfl⟩ := List.mem_map.mp hx
    exact huok e he
  rw [List.length_map] at hlenf
  -- the filter
  refine wpAny_execs_cons (wpAny_mono (l_9 (s := { s8 with heap := h9, toks := tk9 }) (a := P) F9 (hparted.trans rfl) hP9.isList hst9 (by omega)) (fun fl s10 hx => ?_) fun _ _ e => e)
  obtain ⟨rfl, D10, ys10, hD10, hl10, hst10, K10⟩ := hx
  have F10 := frKeepsC (s := { s8 with heap := h9, toks := tk9 }) F9 K10
  have KG10 := K10.toG KG8.bare
  have hR10 := hR9.up KG10.keep
  have hW10 := hW9.up KG10.keep
  rw [parted_eq hf] at hst10
  -- the second test
  have hsum : (((parts (textL ms) false).map strOf).map (·.length)).sum ≤ 10000 := by
    rw [← catS_length, hcat, strOf_length]; omega
  refine wpAny_execs_cons (wpAny_mono (l_10 (x := strOf (prepL (textL ms))) (t := tp) (a := D10) F10 rfl ((hm9 "prepared" (by decide) (by decide) (by decide)).trans rfl) hl10.isList hst10 hsum hcat) (fun fl s11 hx => ?_) fun _ _ e => e)
  obtain ⟨rfl, K11⟩ := hx
  have F11 := frKeepsC F10 K11
  have KG11 := K11.toG KG10.bare
  have hR11 := hR10.up KG11.keep
  have hW11 := hW10.up KG11.keep
  have hl11 : s11.heap.PlainList D10 ys10 := hl10.at fun o e => KG11.keep _ o (ne_ns F10.ns hl10.isList) e
  -- the third test
  refine wpAny_execs_cons (wpAny_mono (l_11 (a := D10) (D := DW) (cs := textL ms) (t := tt) hroom hu G F11 rfl hl11.isList hst10 ((hm9 "whole" (by decide) (by decide) (by decide)).trans rfl) hW11 (by omega) ((hm9 "text" (by decide) (by decide) (by decide)).trans rfl) (by omega) hpok (iter_ok hpch) hcch hsame) (fun fl s12 hx => ?_) fun _ _ e => e)
  obtain ⟨rfl, K12⟩ := hx
  have F12 := frKeepsC F11 K12
  have KG12 := K12.toG KG11.bare
  have hR12 := hR11.up KG12.keep
  have hW12 := hW11.up KG12.keep
  -- the end
  refine wpAny_execs_cons (wpAny_mono (l_12 (D := DR) (D2 := DW) (cs := textL ms) (ps := prepL (textL ms)) (t := tt) (t2 := tp) hroom hu G F12 ((hm9 "read" (by decide) (by decide) (by decide)).trans rfl) hR12 ((hm9 "whole" (by decide) (by decide) (by decide)).trans rfl) hW12 ((hm9 "text" (by decide) (by decide) (by decide)).trans rfl) ((hm9 "prepared" (by decide) (by decide) (by decide)).trans rfl)
    (by omega) (by omega) (iter_ok hcch) (iter_ok hpch) (by rw [told_sum]; omega) (by rw [told_sum]; omega) (iter_told _) (iter_told _)) (fun fl s13 hx => ?_) fun _ _ e => e)
  obtain ⟨rfl, K13⟩ := hx
  have F13 := frKeepsC F12 K13
  have KG13 := K13.toG KG12.bare
  exact ⟨rfl, KG13.os.trans (KG12.os.trans (KG11.os.trans (KG10.os.trans KG8.os))), KG13.bare, F13.keep⟩
/-- the call of the law -/
theorem law_call {f : Addr} {a : Addr} {vs : Array Value} {ns : List Int} {s : Shared} {Q : Value → Shared → Prop} (hroom : d < 500) (hu : u + 70 < cLine) (G : GL w mg mb s.heap) (hb : AllBare s.gens) (hf : IsFn s.heap f 13) (hl : s.heap.IsList a vs) (hi : IntsAre vs.toList ns) (hlen : ns.length ≤ 63)
    (h : ∀ s', s'.os = s.os → AllBare s'.gens → (∀ b o, s.heap.get? b = some o → s'.heap.get? b = some o) → Q (.bool true) s') : wpAny (model prog w) (AA d u) (call (.ref f) [.ref a]) Q E s := by
  refine callFn (binds := [("script", .ref a)]) hf G.G.nolimit (by omega) (fun _ _ _ => rfl) (locs rfl) fun h₁ c' F => ?_
  have F1 : Fr s.heap s.heap.objs.size h₁ (fun (y : Str) => if y = ("script" : Str) then some (Value.ref a) else none) := frCongr F (by
    funext y
    by_cases hy : y = ("script" : Str)
    · subst hy; rfl
    · have : (y == ("script" : Str)) = false := by simpa using hy
      simp [List.lookup, this, hy])
  refine wpAny_mono (law_body (by omega) (by omega) G hb F1 hl hi hlen) (fun fl s' hx => ?_) fun _ _ e => e
  obtain ⟨rfl, h1, h2, h3⟩ := hx
  exact h s' h1 h2 h3
end
end Mine
end
section
open PySem PySem.W PyProof.Rows PySem.Calls
set_option maxRecDepth 100000
set_option maxHeartbeats 1000000
set_option linter.unusedVariables false
namespace Mine
theorem walk : WalkO qv looseV (fun _ _ => True) YP rowL.toRowW lawRec [] fun f vs => PySem.call f vs := by
  w_on
  intro w s₀ s₁ mg mb G Y fa o pm cd doc dV kV ho hd hcd hD hmg hg args vals as hpre hlay hrd hwl hlo
  have GG := gl_of G Y
  have hfn : IsFn s₁.heap fa 13 := by
    obtain ⟨c, oc, vs, t, rfl, r⟩ := id hcd
    refine ⟨c, o, pm, doc, ho, ?_, hcd⟩
    have h1 : dV = .none := by
      rcases hD.pos with h | h
      · exact h.2
      · exact absurd (by rfl) h.1
    have h2 : kV = .none := by
      rcases hD.kw with h | h
      · exact h.2
      · exact absurd rfl h.1
    subst h1 h2
    exact hd
  wrow_args hpre hlay hrd hwl hlo
  rename_i ns _ _ _ _ _ _ _ a vs _ hL _ _ _ hI _ hc _
  refine wpAny_weak (d := 400) (u := 20) (law_call (ns := ns) (by omega) (by decide) GG (.of_eq hg) hfn hL (by simpa using hI) (by omega) fun s' h1 h2 h3 => ?_) rfl (by decide) (by decide)
  have hpost : ∀ al : List WData, rowL.toRowW.post.value rowL.toRowW.records { args := al, res := some (.bool true), after := al } = some (.bool true) := fun al => by
    show (WTm.eq .res (.lit (.bool true))).value _ _ = _
    simp [WTm.value, same]
  exact ⟨.inl ⟨_, .bool true, [], rfl, fun _ => rfl, .bool true, postW_of (X := true) (r := rowL.toRowW) (by show WShape.has [] (.bool true) .bool = true; decide +kernel) (hpost _) rfl, fun _ => ⟨.nil, fun _ ha => nomatch ha⟩⟩, OldK.of_keep h3, h1, h2⟩
theorem done : PySem.Challenge.rw_ph0142_01.Holds := holds_of_walk walk
end Mine
end
set_option maxHeartbeats 4000000 in
theorem PySem.Challenge.cw_ph0142_01_holds : PySem.Challenge.rw_ph0142_01.Holds := by
  exact Mine.done
