import PyProof.Rows.All
import Wide.All
import OpenK.AllK
import Wide.FinOn
import PySem.Challenge.RW_ny0236_01
open PySem PySem.W PySem.Calls PyProof.Rows
set_option Elab.async false
namespace Mine

/-- run a tree from a written state, with fuel -/
noncomputable def evF (M : Model) : Nat → Ctx → Pos → SharedT → Sem Fin → Option (Result × SharedT)
  | 0, _, _, _, _ => none
  | n + 1, Γ, p, s, t => match t with
    | .pure f => (match f with
      | .done f => some (.ok f, s)
      | .again c => (match c.quiet with
        | true => evF M n (Γ.goto c) p s (M.den c)
        | false => none))
    | .raise e => some (.error e, s)
    | .rule _ k => evF M n Γ p s (k ())
    | .at p' k => evF M n Γ p' s (k ())
    | .point _ k => evF M n Γ p s (k ())
    | .load a _ k => (match Nat.blt a s.n with
      | true => (match s.tree.get a with
        | some o => (match alive o with
          | some o' => evF M n Γ p s (k o')
          | none => none)
        | none => none)
      | false => none)
    | .update a _ f k => (match Nat.blt a s.n with
      | true => (match s.tree.get a with
        | some o => (match alive o with
          | some _ => evF M n Γ p { s with tree := s.tree.set a f } (k ())
          | none => none)
        | none => none)
      | false => none)
    | .alloc o k => (match ((s.tree.ins s.n o).get s.n).isSome with
      | true => evF M n Γ p { s with tree := s.tree.ins s.n o, n := s.n + 1 } (k s.n)
      | false => none)
    | .fresh k => evF M n Γ p { s with toks := s.toks + 1 } (k s.toks)
    | .ask k => evF M n Γ p s (k ⟨M.prog, M.w.params⟩)
    | .call c h _ _ k => (match evF M n (Γ.enter c h p) p s (M.den c) with
      | some (r, s') => evF M n Γ p s' (k r)
      | none => none)
    | .handled own k => evF M n Γ p s (k (match own with | true => Γ.own | false => Γ.handled))
    | .stack k => evF M n Γ p s (k ((Γ.code, p) :: Γ.below))
    | .thread k => evF M n Γ p s (k 0)
    | _ => none

theorem evF_runs {M : Model} : ∀ (n : Nat) (Γ : Ctx) (p : Pos) (s : SharedT) (t : Sem Fin) (r : Result) (s' : SharedT), evF M n Γ p s t = some (r, s') → Runs M Γ p t [] s.abs (.ret r) s'.abs
  | 0, _, _, _, _, _, _, h => by cases h
  | n + 1, Γ, p, s, t, r, s', h => by
    have ih := @evF_runs M n
    cases t with
    | pure f =>
      cases f with
      | done f => simp only [evF, Option.some.injEq, Prod.mk.injEq] at h; obtain ⟨rfl, rfl⟩ := h; exact .done
      | again c =>
        simp only [evF] at h
        split at h
        · rename_i hq; exact .again hq (ih _ _ _ _ _ _ h)
        · cases h
    | raise e => simp only [evF, Option.some.injEq, Prod.mk.injEq] at h; obtain ⟨rfl, rfl⟩ := h; exact .raise
    | rule tag k => exact .rule (ih _ _ _ _ _ _ h)
    | «at» p' k => exact .at (ih _ _ _ _ _ _ h)
    | point l k => exact .point (ih _ _ _ _ _ _ h)
    | load a part k =>
      simp only [evF] at h
      split at h
      · rename_i hb
        split at h
        · rename_i o ho
          split at h
          · rename_i o' hal
            refine .load ?_ (ih _ _ _ _ _ _ h)
            show (absHeap s.tree s.n s.life).get? a = some o'
            rw [abs_get (Nat.le_of_ble_eq_true hb) ho, hal]
          · cases h
        · cases h
      · cases h
    | update a part f k =>
      simp only [evF] at h
      split at h
      · rename_i hb
        split at h
        · rename_i o ho
          split at h
          · rename_i o' hal
            have hr := ih _ _ _ _ _ _ h
            refine .update ?_ ?_
            · show ((absHeap s.tree s.n s.life).get? a).isSome = true
              rw [abs_get (Nat.le_of_ble_eq_true hb) ho, hal]; rfl
            · have e : ({ s with tree := s.tree.set a f } : SharedT).abs = { s.abs with heap := s.abs.heap.update a f } := by
                show Shared.mk (absHeap (s.tree.set a f) s.n s.life) _ _ _ _ = Shared.mk ((absHeap s.tree s.n s.life).update a f) _ _ _ _
                rw [absHeap_set ho]; rfl
              rw [e] at hr; exact hr
          · cases h
        · cases h
      · cases h
    | alloc o k =>
      simp only [evF] at h
      split at h
      · rename_i hb
        have hr := ih _ _ _ _ _ _ h
        have e : ({ s with tree := s.tree.ins s.n o, n := s.n + 1 } : SharedT).abs = { s.abs with heap := s.abs.heap.push o } := by
          show Shared.mk (absHeap (s.tree.ins s.n o) (s.n + 1) s.life) _ _ _ _ = Shared.mk ((absHeap s.tree s.n s.life).push o) _ _ _ _
          rw [absHeap_ins hb]; rfl
        rw [e] at hr
        refine .alloc ?_
        have hsz : s.abs.heap.objs.size = s.n := absHeap_size _ _ _
        rw [hsz]; exact hr
      · cases h
    | fresh k => exact .fresh (ih _ _ _ _ _ _ h)
    | ask k => exact .ask (ih _ _ _ _ _ _ h)
    | call c hd g l k =>
      simp only [evF] at h
      split at h
      · rename_i r₁ s₁ h₁
        exact .call (ih _ _ _ _ _ _ h₁) (ih _ _ _ _ _ _ h)
      · cases h
    | handled own k =>
      refine .handled ?_
      have := ih _ _ _ _ _ _ h
      cases own <;> exact this
    | stack k => exact .stack (ih _ _ _ _ _ _ h)
    | thread k => exact .thread (ih _ _ _ _ _ _ h)
    | unsupported | finish | register | loadIfAlive | choose | os | newGen | genState | resume | yield | fork | await => cases h

theorem wp_of_evF {M : Model} {α : Type} {n : Nat} {Γ : Ctx} {p : Pos} {s s' : SharedT} {x : Sem α} {g : α → Flow} {f : Flow}
    (h : evF M n Γ p s (x.bind fun a => .pure (.done (g a))) = some (.ok f, s')) :
    Sem.wp M Γ x (fun a _ s'' => g a = f ∧ s'' = s'.abs) (fun _ _ _ => False) p s.abs := by
  have hr := evF_runs _ _ _ _ _ _ _ h
  have hw := (Sem.wp_iff_runs M Γ _ (fun r s'' => r = .ok f ∧ s'' = s'.abs) p s.abs).mpr ⟨_, _, hr, rfl, rfl⟩
  have hb : Sem.wp M Γ (x >>= fun a => (Sem.pure (.done (g a)) : Sem Fin)) (Sem.finPost M Γ fun r s'' => r = .ok f ∧ s'' = s'.abs) (fun e _ s'' => (Except.error e : Result) = .ok f ∧ s'' = s'.abs) p s.abs := hw
  rw [Sem.wp_bind'] at hb
  refine Sem.wp_mono M Γ x (fun a p' s'' q => ?_) (fun e p' s'' q => ?_) p s.abs hb
  · have q' : (Except.ok (g a) : Result) = .ok f ∧ s'' = s'.abs := q
    exact ⟨by injection q'.1, q'.2⟩
  · cases q.1

end Mine

open PySem PySem.W PySem.Calls PyProof.Rows
set_option Elab.async false
set_option maxRecDepth 100000
set_option linter.unusedVariables false
noncomputable section
namespace Mine
abbrev pw : Program := PySem.Challenge.pw_ny0236_01
def stm (i : Nat) : Stmt := (pw.main.body[i]?).getD (.Pass ⟨0, 0, 0, 0⟩)
def cstm (j : Nat) : Stmt := match stm 2 with
  | .ClassDef _ _ _ b _ _ _ _ _ _ _ => (b[j]?).getD (.Pass ⟨0, 0, 0, 0⟩)
  | _ => .Pass ⟨0, 0, 0, 0⟩
def fnA : Stmt → Arguments
  | .FunctionDef _ a _ _ _ _ _ _ _ _ => a
  | _ => ⟨[], [], none, [], [], none, []⟩
def fnB : Stmt → List Stmt
  | .FunctionDef _ _ b _ _ _ _ _ _ _ => b
  | _ => []
def fnS : Stmt → Scope
  | .FunctionDef _ _ _ _ _ _ s _ _ _ => s
  | _ => ⟨.module, [], false, false, []⟩
-- boot toks 181 drawn 0 life same
def tree0 (P : Params) : BT := (.node (boot_o_0 P) (.node (boot_o_1 P) (.node (boot_o_3 P) (.node (boot_o_7 P) .nil .nil) .nil) (.node (boot_o_5 P) (.node (boot_o_9 P) .nil .nil) .nil)) (.node (boot_o_2 P) (.node (boot_o_4 P) (.node (boot_o_8 P) .nil .nil) .nil) (.node (boot_o_6 P) (.node (boot_o_10 P) .nil .nil) .nil)))
def o11p (P : Params) : Obj := { cls := Value.type "tuple", data := Data.seq #[] }
def o12p (P : Params) : Obj := { cls := Value.none, data := Data.fields #[] }
def o13p (P : Params) : Obj := { cls := Value.type "code", data := Data.fields #[Value.str (Str.ofString "<module>") 182, Value.str (Str.ofString "<module>") 183, Value.str (Str.ofString "/claim/cut.py") 184, Value.int 1 0, Value.int 0 0, Value.int 0 0, Value.int 0 0, Value.int 0 0, Value.ref 11, Value.bool false, Value.int 181 0, Value.ref 12, Value.none, Value.none, Value.none, Value.none, Value.int 185 0, Value.int 1 0, Value.str (Str.ofString "/claim/cut.py") 186] }
def o14p (P : Params) : Obj := { cls := Value.type "frame", slots := #[some (Value.ref 13), some (Value.ref 3), some (Value.ref 3), none, some (Value.str (Str.ofString "__main__") 164), none, some (Value.ref 0)] }
-- stage p: size 15 toks 187
def treep (P : Params) : BT := (.node (boot_o_0 P) (.node (boot_o_1 P) (.node (boot_o_3 P) (.node (boot_o_7 P) .nil .nil) (.node (o11p P) .nil .nil)) (.node (boot_o_5 P) (.node (boot_o_9 P) .nil .nil) (.node (o13p P) .nil .nil))) (.node (boot_o_2 P) (.node (boot_o_4 P) (.node (boot_o_8 P) .nil .nil) (.node (o12p P) .nil .nil)) (.node (boot_o_6 P) (.node (boot_o_10 P) .nil .nil) (.node (o14p P) .nil .nil))))
def o3a (P : Params) : Obj := { cls := Value.type "dict", data := Data.dict #[{ hash := PyData.keyHash P (Str.ofString "__name__"), key := Value.str (Str.ofString "__name__") 165, val := Value.str (Str.ofString "cpy313.stringprep") 263 }, { hash := PyData.keyHash P (Str.ofString "__doc__"), key := Value.str (Str.ofString "__doc__") 166, val := Value.none }, { hash := PyData.keyHash P (Str.ofString "__package__"), key := Value.str (Str.ofString "__package__") 167, val := Value.none }, { hash := PyData.keyHash P (Str.ofString "__loader__"), key := Value.str (Str.ofString "__loader__") 168, val := Value.builtin "__main__.__loader__#opaque" }, { hash := PyData.keyHash P (Str.ofString "__spec__"), key := Value.str (Str.ofString "__spec__") 169, val := Value.none }, { hash := PyData.keyHash P (Str.ofString "__annotations__"), key := Value.str (Str.ofString "__annotations__") 170, val := Value.ref 6 }, { hash := PyData.keyHash P (Str.ofString "__builtins__"), key := Value.str (Str.ofString "__builtins__") 171, val := Value.ref 4 }, { hash := PyData.keyHash P (Str.ofString "__file__"), key := Value.str (Str.ofString "__file__") 173, val := Value.str (Str.ofString "/claim/cut.py") 172 }, { hash := PyData.keyHash P (Str.ofString "__cached__"), key := Value.str (Str.ofString "__cached__") 174, val := Value.none }, { hash := PyData.keyHash P (Str.ofString "_wall"), key := Value.str (Str.ofString "_wall") 193, val := Value.ref 21 }, { hash := PyData.keyHash P (Str.ofString "HTTPPasswordMgr"), key := Value.str (Str.ofString "HTTPPasswordMgr") 262, val := Value.ref 67 }] 11 }
def o12a (P : Params) : Obj := { cls := Value.none, data := Data.fields #[Value.int 1 0, Value.int 0 0, Value.ref 20, Value.int 5 0, Value.int 0 0, Value.ref 27] }
def o15a (P : Params) : Obj := { cls := Value.type "tuple", data := Data.seq #[] }
def o16a (P : Params) : Obj := { cls := Value.none, data := Data.fields #[] }
def o17a (P : Params) : Obj := { cls := Value.type "tuple", data := Data.seq #[Value.str (Str.ofString "k") 190] }
def o18a (P : Params) : Obj := { cls := Value.type "tuple", data := Data.seq #[] }
def o19a (P : Params) : Obj := { cls := Value.none, data := Data.func { name := Str.ofString "_wall", qualname := Str.ofString "_wall", params := (fnA (stm 0)), body := FuncBody.stmts (fnB (stm 0)), scope := (fnS (stm 0)), globals := 0, closure := [], defaults := Value.none, kwdefaults := Value.none } }
def o20a (P : Params) : Obj := { cls := Value.type "code", data := Data.fields #[Value.str (Str.ofString "_wall") 187, Value.str (Str.ofString "_wall") 188, Value.str (Str.ofString "/claim/cut.py") 189, Value.int 1 0, Value.int 1 0, Value.int 0 0, Value.int 0 0, Value.int 3 0, Value.ref 15, Value.bool true, Value.int 181 0, Value.ref 16, Value.none, Value.ref 17, Value.ref 18, Value.ref 19, Value.int 191 0, Value.int 1 0, Value.str (Str.ofString "/claim/cut.py") 192] }
def o21a (P : Params) : Obj := { cls := Value.type "function", data := Data.func { name := Str.ofString "_wall", qualname := Str.ofString "_wall", params := (fnA (stm 0)), body := FuncBody.stmts (fnB (stm 0)), scope := (fnS (stm 0)), globals := 3, closure := [], defaults := Value.none, kwdefaults := Value.none, pyModule := Value.str (Str.ofString "__main__") 164, code := Value.ref 20 } }
def o22a (P : Params) : Obj := { cls := Value.type "tuple", data := Data.seq #[] }
def o23a (P : Params) : Obj := { cls := Value.type "builtin_function_or_method", data := Data.fields #[Value.builtin "type.__prepare__", Value.type "type"] }
def o24a (P : Params) : Obj := { cls := Value.type "dict", data := Data.dict #[{ hash := PyData.keyHash P (Str.ofString "__module__"), key := Value.str (Str.ofString "__module__") 203, val := Value.str (Str.ofString "cpy313.urllib.request") 194 }, { hash := PyData.keyHash P (Str.ofString "__qualname__"), key := Value.str (Str.ofString "__qualname__") 205, val := Value.str (Str.ofString "HTTPPasswordMgr") 204 }, { hash := PyData.keyHash P (Str.ofString "__firstlineno__"), key := Value.str (Str.ofString "__firstlineno__") 207, val := Value.int 5 206 }, { hash := PyData.keyHash P (Str.ofString "__init__"), key := Value.str (Str.ofString "__init__") 214, val := Value.ref 35 }, { hash := PyData.keyHash P (Str.ofString "add_password"), key := Value.str (Str.ofString "add_password") 225, val := Value.ref 42 }, { hash := PyData.keyHash P (Str.ofString "find_user_password"), key := Value.str (Str.ofString "find_user_password") 234, val := Value.ref 49 }, { hash := PyData.keyHash P (Str.ofString "reduce_uri"), key := Value.str (Str.ofString "reduce_uri") 243, val := Value.ref 57 }, { hash := PyData.keyHash P (Str.ofString "is_suburi"), key := Value.str (Str.ofString "is_suburi") 253, val := Value.ref 64 }, { hash := PyData.keyHash P (Str.ofString "__static_attributes__"), key := Value.str (Str.ofString "__static_attributes__") 255, val := Value.ref 65 }] 9 }
def o25a (P : Params) : Obj := { cls := Value.type "tuple", data := Data.seq #[] }
def o26a (P : Params) : Obj := { cls := Value.none, data := Data.fields #[Value.int 7 0, Value.int 4 0, Value.ref 34, Value.int 10 0, Value.int 4 0, Value.ref 41, Value.int 13 0, Value.int 4 0, Value.ref 48, Value.int 16 0, Value.int 4 0, Value.ref 56, Value.int 19 0, Value.int 4 0, Value.ref 63] }
def o27a (P : Params) : Obj := { cls := Value.type "code", data := Data.fields #[Value.str (Str.ofString "HTTPPasswordMgr") 198, Value.str (Str.ofString "HTTPPasswordMgr") 199, Value.str (Str.ofString "/claim/cut.py") 200, Value.int 5 0, Value.int 0 0, Value.int 0 0, Value.int 0 0, Value.int 0 0, Value.ref 25, Value.bool false, Value.int 181 0, Value.ref 26, Value.none, Value.none, Value.none, Value.none, Value.int 201 0, Value.int 5 0, Value.str (Str.ofString "/claim/cut.py") 202] }
def o28a (P : Params) : Obj := { cls := Value.type "frame", slots := #[some (Value.ref 27), some (Value.ref 3), some (Value.ref 24), none, some (Value.str (Str.ofString "cpy313.urllib.request") 194), none, some (Value.ref 0)] }
def o29a (P : Params) : Obj := { cls := Value.type "tuple", data := Data.seq #[] }
def o30a (P : Params) : Obj := { cls := Value.none, data := Data.fields #[] }
def o31a (P : Params) : Obj := { cls := Value.type "tuple", data := Data.seq #[Value.str (Str.ofString "self") 211] }
def o32a (P : Params) : Obj := { cls := Value.type "tuple", data := Data.seq #[] }
def o33a (P : Params) : Obj := { cls := Value.none, data := Data.func { name := Str.ofString "__init__", qualname := Str.ofString "HTTPPasswordMgr.__init__", params := (fnA (cstm 0)), body := FuncBody.stmts (fnB (cstm 0)), scope := (fnS (cstm 0)), globals := 0, closure := [], defaults := Value.none, kwdefaults := Value.none } }
def o34a (P : Params) : Obj := { cls := Value.type "code", data := Data.fields #[Value.str (Str.ofString "__init__") 208, Value.str (Str.ofString "HTTPPasswordMgr.__init__") 209, Value.str (Str.ofString "/claim/cut.py") 210, Value.int 7 0, Value.int 1 0, Value.int 0 0, Value.int 0 0, Value.int 3 0, Value.ref 29, Value.bool true, Value.int 181 0, Value.ref 30, Value.none, Value.ref 31, Value.ref 32, Value.ref 33, Value.int 212 0, Value.int 7 0, Value.str (Str.ofString "/claim/cut.py") 213] }
def o35a (P : Params) : Obj := { cls := Value.type "function", data := Data.func { name := Str.ofString "__init__", qualname := Str.ofString "HTTPPasswordMgr.__init__", params := (fnA (cstm 0)), body := FuncBody.stmts (fnB (cstm 0)), scope := (fnS (cstm 0)), globals := 3, closure := [], defaults := Value.none, kwdefaults := Value.none, pyModule := Value.str (Str.ofString "cpy313.urllib.request") 194, code := Value.ref 34 } }
def o36a (P : Params) : Obj := { cls := Value.type "tuple", data := Data.seq #[] }
def o37a (P : Params) : Obj := { cls := Value.none, data := Data.fields #[] }
def o38a (P : Params) : Obj := { cls := Value.type "tuple", data := Data.seq #[Value.str (Str.ofString "self") 218, Value.str (Str.ofString "realm") 219, Value.str (Str.ofString "uri") 220, Value.str (Str.ofString "user") 221, Value.str (Str.ofString "passwd") 222] }
def o39a (P : Params) : Obj := { cls := Value.type "tuple", data := Data.seq #[] }
def o40a (P : Params) : Obj := { cls := Value.none, data := Data.func { name := Str.ofString "add_password", qualname := Str.ofString "HTTPPasswordMgr.add_password", params := (fnA (cstm 1)), body := FuncBody.stmts (fnB (cstm 1)), scope := (fnS (cstm 1)), globals := 0, closure := [], defaults := Value.none, kwdefaults := Value.none } }
def o41a (P : Params) : Obj := { cls := Value.type "code", data := Data.fields #[Value.str (Str.ofString "add_password") 215, Value.str (Str.ofString "HTTPPasswordMgr.add_password") 216, Value.str (Str.ofString "/claim/cut.py") 217, Value.int 10 0, Value.int 5 0, Value.int 0 0, Value.int 0 0, Value.int 3 0, Value.ref 36, Value.bool true, Value.int 181 0, Value.ref 37, Value.none, Value.ref 38, Value.ref 39, Value.ref 40, Value.int 223 0, Value.int 10 0, Value.str (Str.ofString "/claim/cut.py") 224] }
def o42a (P : Params) : Obj := { cls := Value.type "function", data := Data.func { name := Str.ofString "add_password", qualname := Str.ofString "HTTPPasswordMgr.add_password", params := (fnA (cstm 1)), body := FuncBody.stmts (fnB (cstm 1)), scope := (fnS (cstm 1)), globals := 3, closure := [], defaults := Value.none, kwdefaults := Value.none, pyModule := Value.str (Str.ofString "cpy313.urllib.request") 194, code := Value.ref 41 } }
def o43a (P : Params) : Obj := { cls := Value.type "tuple", data := Data.seq #[] }
def o44a (P : Params) : Obj := { cls := Value.none, data := Data.fields #[] }
def o45a (P : Params) : Obj := { cls := Value.type "tuple", data := Data.seq #[Value.str (Str.ofString "self") 229, Value.str (Str.ofString "realm") 230, Value.str (Str.ofString "authuri") 231] }
def o46a (P : Params) : Obj := { cls := Value.type "tuple", data := Data.seq #[] }
def o47a (P : Params) : Obj := { cls := Value.none, data := Data.func { name := Str.ofString "find_user_password", qualname := Str.ofString "HTTPPasswordMgr.find_user_password", params := (fnA (cstm 2)), body := FuncBody.stmts (fnB (cstm 2)), scope := (fnS (cstm 2)), globals := 0, closure := [], defaults := Value.none, kwdefaults := Value.none } }
def o48a (P : Params) : Obj := { cls := Value.type "code", data := Data.fields #[Value.str (Str.ofString "find_user_password") 226, Value.str (Str.ofString "HTTPPasswordMgr.find_user_password") 227, Value.str (Str.ofString "/claim/cut.py") 228, Value.int 13 0, Value.int 3 0, Value.int 0 0, Value.int 0 0, Value.int 3 0, Value.ref 43, Value.bool true, Value.int 181 0, Value.ref 44, Value.none, Value.ref 45, Value.ref 46, Value.ref 47, Value.int 232 0, Value.int 13 0, Value.str (Str.ofString "/claim/cut.py") 233] }
def o49a (P : Params) : Obj := { cls := Value.type "function", data := Data.func { name := Str.ofString "find_user_password", qualname := Str.ofString "HTTPPasswordMgr.find_user_password", params := (fnA (cstm 2)), body := FuncBody.stmts (fnB (cstm 2)), scope := (fnS (cstm 2)), globals := 3, closure := [], defaults := Value.none, kwdefaults := Value.none, pyModule := Value.str (Str.ofString "cpy313.urllib.request") 194, code := Value.ref 48 } }
def o50a (P : Params) : Obj := { cls := Value.type "tuple", data := Data.seq #[Value.bool true] }
def o51a (P : Params) : Obj := { cls := Value.type "tuple", data := Data.seq #[] }
def o52a (P : Params) : Obj := { cls := Value.none, data := Data.fields #[] }
def o53a (P : Params) : Obj := { cls := Value.type "tuple", data := Data.seq #[Value.str (Str.ofString "self") 238, Value.str (Str.ofString "uri") 239, Value.str (Str.ofString "default_port") 240] }
def o54a (P : Params) : Obj := { cls := Value.type "tuple", data := Data.seq #[] }
def o55a (P : Params) : Obj := { cls := Value.none, data := Data.func { name := Str.ofString "reduce_uri", qualname := Str.ofString "HTTPPasswordMgr.reduce_uri", params := (fnA (cstm 3)), body := FuncBody.stmts (fnB (cstm 3)), scope := (fnS (cstm 3)), globals := 0, closure := [], defaults := Value.none, kwdefaults := Value.none } }
def o56a (P : Params) : Obj := { cls := Value.type "code", data := Data.fields #[Value.str (Str.ofString "reduce_uri") 235, Value.str (Str.ofString "HTTPPasswordMgr.reduce_uri") 236, Value.str (Str.ofString "/claim/cut.py") 237, Value.int 16 0, Value.int 3 0, Value.int 0 0, Value.int 0 0, Value.int 3 0, Value.ref 51, Value.bool true, Value.int 181 0, Value.ref 52, Value.none, Value.ref 53, Value.ref 54, Value.ref 55, Value.int 241 0, Value.int 16 0, Value.str (Str.ofString "/claim/cut.py") 242] }
def o57a (P : Params) : Obj := { cls := Value.type "function", data := Data.func { name := Str.ofString "reduce_uri", qualname := Str.ofString "HTTPPasswordMgr.reduce_uri", params := (fnA (cstm 3)), body := FuncBody.stmts (fnB (cstm 3)), scope := (fnS (cstm 3)), globals := 3, closure := [], defaults := Value.ref 50, kwdefaults := Value.none, pyModule := Value.str (Str.ofString "cpy313.urllib.request") 194, code := Value.ref 56 } }
def o58a (P : Params) : Obj := { cls := Value.type "tuple", data := Data.seq #[] }
def o59a (P : Params) : Obj := { cls := Value.none, data := Data.fields #[] }
def o60a (P : Params) : Obj := { cls := Value.type "tuple", data := Data.seq #[Value.str (Str.ofString "self") 247, Value.str (Str.ofString "base") 248, Value.str (Str.ofString "test") 249, Value.str (Str.ofString "prefix") 250] }
def o61a (P : Params) : Obj := { cls := Value.type "tuple", data := Data.seq #[] }
def o62a (P : Params) : Obj := { cls := Value.none, data := Data.func { name := Str.ofString "is_suburi", qualname := Str.ofString "HTTPPasswordMgr.is_suburi", params := (fnA (cstm 4)), body := FuncBody.stmts (fnB (cstm 4)), scope := (fnS (cstm 4)), globals := 0, closure := [], defaults := Value.none, kwdefaults := Value.none } }
def o63a (P : Params) : Obj := { cls := Value.type "code", data := Data.fields #[Value.str (Str.ofString "is_suburi") 244, Value.str (Str.ofString "HTTPPasswordMgr.is_suburi") 245, Value.str (Str.ofString "/claim/cut.py") 246, Value.int 19 0, Value.int 3 0, Value.int 0 0, Value.int 0 0, Value.int 3 0, Value.ref 58, Value.bool true, Value.int 181 0, Value.ref 59, Value.none, Value.ref 60, Value.ref 61, Value.ref 62, Value.int 251 0, Value.int 19 0, Value.str (Str.ofString "/claim/cut.py") 252] }
def o64a (P : Params) : Obj := { cls := Value.type "function", data := Data.func { name := Str.ofString "is_suburi", qualname := Str.ofString "HTTPPasswordMgr.is_suburi", params := (fnA (cstm 4)), body := FuncBody.stmts (fnB (cstm 4)), scope := (fnS (cstm 4)), globals := 3, closure := [], defaults := Value.none, kwdefaults := Value.none, pyModule := Value.str (Str.ofString "cpy313.urllib.request") 194, code := Value.ref 63 } }
def o65a (P : Params) : Obj := { cls := Value.type "tuple", data := Data.seq #[Value.str (Str.ofString "passwd") 254] }
def o66a (P : Params) : Obj := { cls := Value.type "dict", data := Data.dict #[{ hash := PyData.keyHash P (Str.ofString "__module__"), key := Value.str (Str.ofString "__module__") 203, val := Value.str (Str.ofString "cpy313.urllib.request") 194 }, { hash := PyData.keyHash P (Str.ofString "__firstlineno__"), key := Value.str (Str.ofString "__firstlineno__") 207, val := Value.int 5 206 }, { hash := PyData.keyHash P (Str.ofString "__init__"), key := Value.str (Str.ofString "__init__") 214, val := Value.ref 35 }, { hash := PyData.keyHash P (Str.ofString "add_password"), key := Value.str (Str.ofString "add_password") 225, val := Value.ref 42 }, { hash := PyData.keyHash P (Str.ofString "find_user_password"), key := Value.str (Str.ofString "find_user_password") 234, val := Value.ref 49 }, { hash := PyData.keyHash P (Str.ofString "reduce_uri"), key := Value.str (Str.ofString "reduce_uri") 243, val := Value.ref 57 }, { hash := PyData.keyHash P (Str.ofString "is_suburi"), key := Value.str (Str.ofString "is_suburi") 253, val := Value.ref 64 }, { hash := PyData.keyHash P (Str.ofString "__static_attributes__"), key := Value.str (Str.ofString "__static_attributes__") 255, val := Value.ref 65 }, { hash := PyData.keyHash P (Str.ofString "__dict__"), key := Value.str (Str.ofString "__dict__") 257, val := Value.ref 68 }, { hash := PyData.keyHash P (Str.ofString "__weakref__"), key := Value.str (Str.ofString "__weakref__") 259, val := Value.ref 69 }, { hash := PyData.keyHash P (Str.ofString "__doc__"), key := Value.str (Str.ofString "__doc__") 260, val := Value.none }] 4 }
def o67a (P : Params) : Obj := { cls := Value.type "type", data := Data.cls { name := Str.ofString "HTTPPasswordMgr", bases := [Value.type "object"], mro := [Value.ref 67, Value.type "object"], ns := 66, qualname := Str.ofString "HTTPPasswordMgr" }, slots := #[none, none, some (Value.str (Str.ofString "HTTPPasswordMgr") 196), some (Value.str (Str.ofString "HTTPPasswordMgr") 204), some (Value.builtin "object.__new__"), some (Value.bool true)] }
def o68a (P : Params) : Obj := { cls := Value.type "getset_descriptor", data := Data.fields #[Value.str (Str.ofString "__dict__") 256, Value.ref 67, Value.builtin "function.__dict__", Value.builtin "function.__dict__#set"] }
def o69a (P : Params) : Obj := { cls := Value.type "getset_descriptor", data := Data.fields #[Value.str (Str.ofString "__weakref__") 258, Value.ref 67, Value.builtin "ExceptionGroup.__weakref__", Value.none] }
def o70a (P : Params) : Obj := { cls := Value.type "super", data := Data.fields #[Value.ref 67, Value.ref 67, Value.ref 67] }
def o71a (P : Params) : Obj := { cls := Value.type "builtin_function_or_method", data := Data.fields #[Value.builtin "object.__init_subclass__", Value.ref 67] }
-- stage a: size 72 toks 265
def treea (P : Params) : BT := (.node (boot_o_0 P) (.node (boot_o_1 P) (.node (o3a P) (.node (boot_o_7 P) (.node (o15a P) (.node (o31a P) (.node (o63a P) .nil .nil) .nil) (.node (o47a P) .nil .nil)) (.node (o23a P) (.node (o39a P) (.node (o71a P) .nil .nil) .nil) (.node (o55a P) .nil .nil))) (.node (o11p P) (.node (o19a P) (.node (o35a P) (.node (o67a P) .nil .nil) .nil) (.node (o51a P) .nil .nil)) (.node (o27a P) (.node (o43a P) .nil .nil) (.node (o59a P) .nil .nil)))) (.node (boot_o_5 P) (.node (boot_o_9 P) (.node (o17a P) (.node (o33a P) (.node (o65a P) .nil .nil) .nil) (.node (o49a P) .nil .nil)) (.node (o25a P) (.node (o41a P) .nil .nil) (.node (o57a P) .nil .nil))) (.node (o13p P) (.node (o21a P) (.node (o37a P) (.node (o69a P) .nil .nil) .nil) (.node (o53a P) .nil .nil)) (.node (o29a P) (.node (o45a P) .nil .nil) (.node (o61a P) .nil .nil))))) (.node (boot_o_2 P) (.node (boot_o_4 P) (.node (boot_o_8 P) (.node (o16a P) (.node (o32a P) (.node (o64a P) .nil .nil) .nil) (.node (o48a P) .nil .nil)) (.node (o24a P) (.node (o40a P) .nil .nil) (.node (o56a P) .nil .nil))) (.node (o12a P) (.node (o20a P) (.node (o36a P) (.node (o68a P) .nil .nil) .nil) (.node (o52a P) .nil .nil)) (.node (o28a P) (.node (o44a P) .nil .nil) (.node (o60a P) .nil .nil)))) (.node (boot_o_6 P) (.node (boot_o_10 P) (.node (o18a P) (.node (o34a P) (.node (o66a P) .nil .nil) .nil) (.node (o50a P) .nil .nil)) (.node (o26a P) (.node (o42a P) .nil .nil) (.node (o58a P) .nil .nil))) (.node (o14p P) (.node (o22a P) (.node (o38a P) (.node (o70a P) .nil .nil) .nil) (.node (o54a P) .nil .nil)) (.node (o30a P) (.node (o46a P) .nil .nil) (.node (o62a P) .nil .nil))))))
def o3b (P : Params) : Obj := { cls := Value.type "dict", data := Data.dict #[{ hash := PyData.keyHash P (Str.ofString "__name__"), key := Value.str (Str.ofString "__name__") 165, val := Value.str (Str.ofString "cpy313.stringprep") 263 }, { hash := PyData.keyHash P (Str.ofString "__doc__"), key := Value.str (Str.ofString "__doc__") 166, val := Value.none }, { hash := PyData.keyHash P (Str.ofString "__package__"), key := Value.str (Str.ofString "__package__") 167, val := Value.none }, { hash := PyData.keyHash P (Str.ofString "__loader__"), key := Value.str (Str.ofString "__loader__") 168, val := Value.builtin "__main__.__loader__#opaque" }, { hash := PyData.keyHash P (Str.ofString "__spec__"), key := Value.str (Str.ofString "__spec__") 169, val := Value.none }, { hash := PyData.keyHash P (Str.ofString "__annotations__"), key := Value.str (Str.ofString "__annotations__") 170, val := Value.ref 6 }, { hash := PyData.keyHash P (Str.ofString "__builtins__"), key := Value.str (Str.ofString "__builtins__") 171, val := Value.ref 4 }, { hash := PyData.keyHash P (Str.ofString "__file__"), key := Value.str (Str.ofString "__file__") 173, val := Value.str (Str.ofString "/claim/cut.py") 172 }, { hash := PyData.keyHash P (Str.ofString "__cached__"), key := Value.str (Str.ofString "__cached__") 174, val := Value.none }, { hash := PyData.keyHash P (Str.ofString "_wall"), key := Value.str (Str.ofString "_wall") 193, val := Value.ref 21 }, { hash := PyData.keyHash P (Str.ofString "HTTPPasswordMgr"), key := Value.str (Str.ofString "HTTPPasswordMgr") 262, val := Value.ref 67 }, { hash := PyData.keyHash P (Str.ofString "b1_set"), key := Value.str (Str.ofString "b1_set") 324, val := Value.ref 79 }] 12 }
def o72b (P : Params) : Obj := { cls := Value.type "list", data := Data.seq #[Value.int 173 265, Value.int 847 266, Value.int 6150 267, Value.int 6155 268, Value.int 6156 269, Value.int 6157 270, Value.int 8203 271, Value.int 8204 272, Value.int 8205 273, Value.int 8288 274, Value.int 65279 275] }
def o73b (P : Params) : Obj := { cls := Value.type "range", data := Data.fields #[Value.int 65024 276, Value.int 65040 277, Value.int 1 278] }
def o74b (P : Params) : Obj := { cls := Value.type "list", data := Data.seq #[Value.int 65024 281, Value.int 65025 282, Value.int 65026 283, Value.int 65027 284, Value.int 65028 285, Value.int 65029 286, Value.int 65030 287, Value.int 65031 288, Value.int 65032 289, Value.int 65033 290, Value.int 65034 291, Value.int 65035 292, Value.int 65036 293, Value.int 65037 294, Value.int 65038 295, Value.int 65039 296] 18 }
def o75b (P : Params) : Obj := { cls := Value.type "range_iterator", data := Data.fields #[Value.int 65040 0, Value.int 0 0, Value.int 1 0] }
def o76b (P : Params) : Obj := { cls := Value.type "tuple", data := Data.seq #[] }
def o77b (P : Params) : Obj := { cls := Value.type "StopIteration", data := Data.fields #[Value.ref 76, Value.none, Value.none, Value.none, Value.bool false, Value.none] }
def o78b (P : Params) : Obj := { cls := Value.type "list", data := Data.seq #[Value.int 173 265, Value.int 847 266, Value.int 6150 267, Value.int 6155 268, Value.int 6156 269, Value.int 6157 270, Value.int 8203 271, Value.int 8204 272, Value.int 8205 273, Value.int 8288 274, Value.int 65279 275, Value.int 65024 281, Value.int 65025 282, Value.int 65026 283, Value.int 65027 284, Value.int 65028 285, Value.int 65029 286, Value.int 65030 287, Value.int 65031 288, Value.int 65032 289, Value.int 65033 290, Value.int 65034 291, Value.int 65035 292, Value.int 65036 293, Value.int 65037 294, Value.int 65038 295, Value.int 65039 296] }
def o79b (P : Params) : Obj := { cls := Value.type "set", data := Data.set #[(65024, Value.int 65024 281), (65025, Value.int 65025 282), (65026, Value.int 65026 283), (65027, Value.int 65027 284), (65028, Value.int 65028 285), (65029, Value.int 65029 286), (6150, Value.int 6150 267), (65030, Value.int 65030 287), (65031, Value.int 65031 288), (65032, Value.int 65032 289), (65033, Value.int 65033 290), (6155, Value.int 6155 268), (6156, Value.int 6156 269), (6157, Value.int 6157 270), (8203, Value.int 8203 271), (8204, Value.int 8204 272), (8205, Value.int 8205 273), (65034, Value.int 65034 291), (65035, Value.int 65035 292), (65036, Value.int 65036 293), (65037, Value.int 65037 294), (65038, Value.int 65038 295), (65039, Value.int 65039 296), (173, Value.int 173 265), (847, Value.int 847 266), (8288, Value.int 8288 274), (65279, Value.int 65279 275)] 29 { mask := 127, place := #[0, 1, 2, 3, 4, 5, 6, 7, 8, 9, 10, 11, 12, 13, 14, 15, 16, 17, 18, 19, 20, 21, 22, 45, 79, 96, 127], dummies := #[], finger := 0, led := !P.followText "set-order", moves := 2, plain := true } }
def o80b (P : Params) : Obj := { cls := Value.type "list_iterator", data := Data.fields #[Value.none, Value.int 27 0] }
def o81b (P : Params) : Obj := { cls := Value.type "tuple", data := Data.seq #[] }
def o82b (P : Params) : Obj := { cls := Value.type "StopIteration", data := Data.fields #[Value.ref 81, Value.none, Value.none, Value.none, Value.bool false, Value.none] }
-- stage b: size 83 toks 325
def treeb (P : Params) : BT := (.node (boot_o_0 P) (.node (boot_o_1 P) (.node (o3b P) (.node (boot_o_7 P) (.node (o15a P) (.node (o31a P) (.node (o63a P) .nil .nil) .nil) (.node (o47a P) (.node (o79b P) .nil .nil) .nil)) (.node (o23a P) (.node (o39a P) (.node (o71a P) .nil .nil) .nil) (.node (o55a P) .nil .nil))) (.node (o11p P) (.node (o19a P) (.node (o35a P) (.node (o67a P) .nil .nil) .nil) (.node (o51a P) .nil .nil)) (.node (o27a P) (.node (o43a P) (.node (o75b P) .nil .nil) .nil) (.node (o59a P) .nil .nil)))) (.node (boot_o_5 P) (.node (boot_o_9 P) (.node (o17a P) (.node (o33a P) (.node (o65a P) .nil .nil) .nil) (.node (o49a P) (.node (o81b P) .nil .nil) .nil)) (.node (o25a P) (.node (o41a P) (.node (o73b P) .nil .nil) .nil) (.node (o57a P) .nil .nil))) (.node (o13p P) (.node (o21a P) (.node (o37a P) (.node (o69a P) .nil .nil) .nil) (.node (o53a P) .nil .nil)) (.node (o29a P) (.node (o45a P) (.node (o77b P) .nil .nil) .nil) (.node (o61a P) .nil .nil))))) (.node (boot_o_2 P) (.node (boot_o_4 P) (.node (boot_o_8 P) (.node (o16a P) (.node (o32a P) (.node (o64a P) .nil .nil) .nil) (.node (o48a P) (.node (o80b P) .nil .nil) .nil)) (.node (o24a P) (.node (o40a P) (.node (o72b P) .nil .nil) .nil) (.node (o56a P) .nil .nil))) (.node (o12a P) (.node (o20a P) (.node (o36a P) (.node (o68a P) .nil .nil) .nil) (.node (o52a P) .nil .nil)) (.node (o28a P) (.node (o44a P) (.node (o76b P) .nil .nil) .nil) (.node (o60a P) .nil .nil)))) (.node (boot_o_6 P) (.node (boot_o_10 P) (.node (o18a P) (.node (o34a P) (.node (o66a P) .nil .nil) .nil) (.node (o50a P) (.node (o82b P) .nil .nil) .nil)) (.node (o26a P) (.node (o42a P) (.node (o74b P) .nil .nil) .nil) (.node (o58a P) .nil .nil))) (.node (o14p P) (.node (o22a P) (.node (o38a P) (.node (o70a P) .nil .nil) .nil) (.node (o54a P) .nil .nil)) (.node (o30a P) (.node (o46a P) (.node (o78b P) .nil .nil) .nil) (.node (o62a P) .nil .nil))))))
def o3c (P : Params) : Obj := { cls := Value.type "dict", data := Data.dict #[{ hash := PyData.keyHash P (Str.ofString "__name__"), key := Value.str (Str.ofString "__name__") 165, val := Value.str (Str.ofString "cpy313.stringprep") 263 }, { hash := PyData.keyHash P (Str.ofString "__doc__"), key := Value.str (Str.ofString "__doc__") 166, val := Value.none }, { hash := PyData.keyHash P (Str.ofString "__package__"), key := Value.str (Str.ofString "__package__") 167, val := Value.none }, { hash := PyData.keyHash P (Str.ofString "__loader__"), key := Value.str (Str.ofString "__loader__") 168, val := Value.builtin "__main__.__loader__#opaque" }, { hash := PyData.keyHash P (Str.ofString "__spec__"), key := Value.str (Str.ofString "__spec__") 169, val := Value.none }, { hash := PyData.keyHash P (Str.ofString "__annotations__"), key := Value.str (Str.ofString "__annotations__") 170, val := Value.ref 6 }, { hash := PyData.keyHash P (Str.ofString "__builtins__"), key := Value.str (Str.ofString "__builtins__") 171, val := Value.ref 4 }, { hash := PyData.keyHash P (Str.ofString "__file__"), key := Value.str (Str.ofString "__file__") 173, val := Value.str (Str.ofString "/claim/cut.py") 172 }, { hash := PyData.keyHash P (Str.ofString "__cached__"), key := Value.str (Str.ofString "__cached__") 174, val := Value.none }, { hash := PyData.keyHash P (Str.ofString "_wall"), key := Value.str (Str.ofString "_wall") 193, val := Value.ref 21 }, { hash := PyData.keyHash P (Str.ofString "HTTPPasswordMgr"), key := Value.str (Str.ofString "HTTPPasswordMgr") 262, val := Value.ref 67 }, { hash := PyData.keyHash P (Str.ofString "b1_set"), key := Value.str (Str.ofString "b1_set") 324, val := Value.ref 79 }, { hash := PyData.keyHash P (Str.ofString "in_table_b1"), key := Value.str (Str.ofString "in_table_b1") 331, val := Value.ref 89 }] 13 }
def o12c (P : Params) : Obj := { cls := Value.none, data := Data.fields #[Value.int 1 0, Value.int 0 0, Value.ref 20, Value.int 5 0, Value.int 0 0, Value.ref 27, Value.int 30 0, Value.int 0 0, Value.ref 88] }
def o83c (P : Params) : Obj := { cls := Value.type "tuple", data := Data.seq #[] }
def o84c (P : Params) : Obj := { cls := Value.none, data := Data.fields #[] }
def o85c (P : Params) : Obj := { cls := Value.type "tuple", data := Data.seq #[Value.str (Str.ofString "code") 328] }
def o86c (P : Params) : Obj := { cls := Value.type "tuple", data := Data.seq #[] }
def o87c (P : Params) : Obj := { cls := Value.none, data := Data.func { name := Str.ofString "in_table_b1", qualname := Str.ofString "in_table_b1", params := (fnA (stm 5)), body := FuncBody.stmts (fnB (stm 5)), scope := (fnS (stm 5)), globals := 0, closure := [], defaults := Value.none, kwdefaults := Value.none } }
def o88c (P : Params) : Obj := { cls := Value.type "code", data := Data.fields #[Value.str (Str.ofString "in_table_b1") 325, Value.str (Str.ofString "in_table_b1") 326, Value.str (Str.ofString "/claim/cut.py") 327, Value.int 30 0, Value.int 1 0, Value.int 0 0, Value.int 0 0, Value.int 3 0, Value.ref 83, Value.bool true, Value.int 181 0, Value.ref 84, Value.none, Value.ref 85, Value.ref 86, Value.ref 87, Value.int 329 0, Value.int 30 0, Value.str (Str.ofString "/claim/cut.py") 330] }
def o89c (P : Params) : Obj := { cls := Value.type "function", data := Data.func { name := Str.ofString "in_table_b1", qualname := Str.ofString "in_table_b1", params := (fnA (stm 5)), body := FuncBody.stmts (fnB (stm 5)), scope := (fnS (stm 5)), globals := 3, closure := [], defaults := Value.none, kwdefaults := Value.none, pyModule := Value.str (Str.ofString "cpy313.stringprep") 263, code := Value.ref 88 } }
-- stage c: size 90 toks 332
def treec (P : Params) : BT := (.node (boot_o_0 P) (.node (boot_o_1 P) (.node (o3c P) (.node (boot_o_7 P) (.node (o15a P) (.node (o31a P) (.node (o63a P) .nil .nil) .nil) (.node (o47a P) (.node (o79b P) .nil .nil) .nil)) (.node (o23a P) (.node (o39a P) (.node (o71a P) .nil .nil) .nil) (.node (o55a P) (.node (o87c P) .nil .nil) .nil))) (.node (o11p P) (.node (o19a P) (.node (o35a P) (.node (o67a P) .nil .nil) .nil) (.node (o51a P) (.node (o83c P) .nil .nil) .nil)) (.node (o27a P) (.node (o43a P) (.node (o75b P) .nil .nil) .nil) (.node (o59a P) .nil .nil)))) (.node (boot_o_5 P) (.node (boot_o_9 P) (.node (o17a P) (.node (o33a P) (.node (o65a P) .nil .nil) .nil) (.node (o49a P) (.node (o81b P) .nil .nil) .nil)) (.node (o25a P) (.node (o41a P) (.node (o73b P) .nil .nil) .nil) (.node (o57a P) (.node (o89c P) .nil .nil) .nil))) (.node (o13p P) (.node (o21a P) (.node (o37a P) (.node (o69a P) .nil .nil) .nil) (.node (o53a P) (.node (o85c P) .nil .nil) .nil)) (.node (o29a P) (.node (o45a P) (.node (o77b P) .nil .nil) .nil) (.node (o61a P) .nil .nil))))) (.node (boot_o_2 P) (.node (boot_o_4 P) (.node (boot_o_8 P) (.node (o16a P) (.node (o32a P) (.node (o64a P) .nil .nil) .nil) (.node (o48a P) (.node (o80b P) .nil .nil) .nil)) (.node (o24a P) (.node (o40a P) (.node (o72b P) .nil .nil) .nil) (.node (o56a P) (.node (o88c P) .nil .nil) .nil))) (.node (o12c P) (.node (o20a P) (.node (o36a P) (.node (o68a P) .nil .nil) .nil) (.node (o52a P) (.node (o84c P) .nil .nil) .nil)) (.node (o28a P) (.node (o44a P) (.node (o76b P) .nil .nil) .nil) (.node (o60a P) .nil .nil)))) (.node (boot_o_6 P) (.node (boot_o_10 P) (.node (o18a P) (.node (o34a P) (.node (o66a P) .nil .nil) .nil) (.node (o50a P) (.node (o82b P) .nil .nil) .nil)) (.node (o26a P) (.node (o42a P) (.node (o74b P) .nil .nil) .nil) (.node (o58a P) .nil .nil))) (.node (o14p P) (.node (o22a P) (.node (o38a P) (.node (o70a P) .nil .nil) .nil) (.node (o54a P) (.node (o86c P) .nil .nil) .nil)) (.node (o30a P) (.node (o46a P) (.node (o78b P) .nil .nil) .nil) (.node (o62a P) .nil .nil))))))
def o3d (P : Params) : Obj := { cls := Value.type "dict", data := Data.dict #[{ hash := PyData.keyHash P (Str.ofString "__name__"), key := Value.str (Str.ofString "__name__") 165, val := Value.str (Str.ofString "cpy313.stringprep") 263 }, { hash := PyData.keyHash P (Str.ofString "__doc__"), key := Value.str (Str.ofString "__doc__") 166, val := Value.none }, { hash := PyData.keyHash P (Str.ofString "__package__"), key := Value.str (Str.ofString "__package__") 167, val := Value.none }, { hash := PyData.keyHash P (Str.ofString "__loader__"), key := Value.str (Str.ofString "__loader__") 168, val := Value.builtin "__main__.__loader__#opaque" }, { hash := PyData.keyHash P (Str.ofString "__spec__"), key := Value.str (Str.ofString "__spec__") 169, val := Value.none }, { hash := PyData.keyHash P (Str.ofString "__annotations__"), key := Value.str (Str.ofString "__annotations__") 170, val := Value.ref 6 }, { hash := PyData.keyHash P (Str.ofString "__builtins__"), key := Value.str (Str.ofString "__builtins__") 171, val := Value.ref 4 }, { hash := PyData.keyHash P (Str.ofString "__file__"), key := Value.str (Str.ofString "__file__") 173, val := Value.str (Str.ofString "/claim/cut.py") 172 }, { hash := PyData.keyHash P (Str.ofString "__cached__"), key := Value.str (Str.ofString "__cached__") 174, val := Value.none }, { hash := PyData.keyHash P (Str.ofString "_wall"), key := Value.str (Str.ofString "_wall") 193, val := Value.ref 21 }, { hash := PyData.keyHash P (Str.ofString "HTTPPasswordMgr"), key := Value.str (Str.ofString "HTTPPasswordMgr") 262, val := Value.ref 67 }, { hash := PyData.keyHash P (Str.ofString "b1_set"), key := Value.str (Str.ofString "b1_set") 324, val := Value.ref 79 }, { hash := PyData.keyHash P (Str.ofString "in_table_b1"), key := Value.str (Str.ofString "in_table_b1") 331, val := Value.ref 89 }, { hash := PyData.keyHash P (Str.ofString "b3_exceptions"), key := Value.str (Str.ofString "b3_exceptions") 2282, val := Value.ref 90 }] 14 }
-- stage d: size 129 toks 2283
def treed (P : Params) (X : Nat → Obj) : BT := (.node (boot_o_0 P) (.node (boot_o_1 P) (.node (o3d P) (.node (boot_o_7 P) (.node (o15a P) (.node (o31a P) (.node (o63a P) (.node (X 127) .nil .nil) .nil) (.node (X 95) .nil .nil)) (.node (o47a P) (.node (o79b P) .nil .nil) (.node (X 111) .nil .nil))) (.node (o23a P) (.node (o39a P) (.node (o71a P) .nil .nil) (.node (X 103) .nil .nil)) (.node (o55a P) (.node (o87c P) .nil .nil) (.node (X 119) .nil .nil)))) (.node (o11p P) (.node (o19a P) (.node (o35a P) (.node (o67a P) .nil .nil) (.node (X 99) .nil .nil)) (.node (o51a P) (.node (o83c P) .nil .nil) (.node (X 115) .nil .nil))) (.node (o27a P) (.node (o43a P) (.node (o75b P) .nil .nil) (.node (X 107) .nil .nil)) (.node (o59a P) (.node (X 91) .nil .nil) (.node (X 123) .nil .nil))))) (.node (boot_o_5 P) (.node (boot_o_9 P) (.node (o17a P) (.node (o33a P) (.node (o65a P) .nil .nil) (.node (X 97) .nil .nil)) (.node (o49a P) (.node (o81b P) .nil .nil) (.node (X 113) .nil .nil))) (.node (o25a P) (.node (o41a P) (.node (o73b P) .nil .nil) (.node (X 105) .nil .nil)) (.node (o57a P) (.node (o89c P) .nil .nil) (.node (X 121) .nil .nil)))) (.node (o13p P) (.node (o21a P) (.node (o37a P) (.node (o69a P) .nil .nil) (.node (X 101) .nil .nil)) (.node (o53a P) (.node (o85c P) .nil .nil) (.node (X 117) .nil .nil))) (.node (o29a P) (.node (o45a P) (.node (o77b P) .nil .nil) (.node (X 109) .nil .nil)) (.node (o61a P) (.node (X 93) .nil .nil) (.node (X 125) .nil .nil)))))) (.node (boot_o_2 P) (.node (boot_o_4 P) (.node (boot_o_8 P) (.node (o16a P) (.node (o32a P) (.node (o64a P) (.node (X 128) .nil .nil) .nil) (.node (X 96) .nil .nil)) (.node (o48a P) (.node (o80b P) .nil .nil) (.node (X 112) .nil .nil))) (.node (o24a P) (.node (o40a P) (.node (o72b P) .nil .nil) (.node (X 104) .nil .nil)) (.node (o56a P) (.node (o88c P) .nil .nil) (.node (X 120) .nil .nil)))) (.node (o12c P) (.node (o20a P) (.node (o36a P) (.node (o68a P) .nil .nil) (.node (X 100) .nil .nil)) (.node (o52a P) (.node (o84c P) .nil .nil) (.node (X 116) .nil .nil))) (.node (o28a P) (.node (o44a P) (.node (o76b P) .nil .nil) (.node (X 108) .nil .nil)) (.node (o60a P) (.node (X 92) .nil .nil) (.node (X 124) .nil .nil))))) (.node (boot_o_6 P) (.node (boot_o_10 P) (.node (o18a P) (.node (o34a P) (.node (o66a P) .nil .nil) (.node (X 98) .nil .nil)) (.node (o50a P) (.node (o82b P) .nil .nil) (.node (X 114) .nil .nil))) (.node (o26a P) (.node (o42a P) (.node (o74b P) .nil .nil) (.node (X 106) .nil .nil)) (.node (o58a P) (.node (X 90) .nil .nil) (.node (X 122) .nil .nil)))) (.node (o14p P) (.node (o22a P) (.node (o38a P) (.node (o70a P) .nil .nil) (.node (X 102) .nil .nil)) (.node (o54a P) (.node (o86c P) .nil .nil) (.node (X 118) .nil .nil))) (.node (o30a P) (.node (o46a P) (.node (o78b P) .nil .nil) (.node (X 110) .nil .nil)) (.node (o62a P) (.node (X 94) .nil .nil) (.node (X 126) .nil .nil)))))))
def o3e (P : Params) : Obj := { cls := Value.type "dict", data := Data.dict #[{ hash := PyData.keyHash P (Str.ofString "__name__"), key := Value.str (Str.ofString "__name__") 165, val := Value.str (Str.ofString "law_ny0236_01") 2291 }, { hash := PyData.keyHash P (Str.ofString "__doc__"), key := Value.str (Str.ofString "__doc__") 166, val := Value.none }, { hash := PyData.keyHash P (Str.ofString "__package__"), key := Value.str (Str.ofString "__package__") 167, val := Value.none }, { hash := PyData.keyHash P (Str.ofString "__loader__"), key := Value.str (Str.ofString "__loader__") 168, val := Value.builtin "__main__.__loader__#opaque" }, { hash := PyData.keyHash P (Str.ofString "__spec__"), key := Value.str (Str.ofString "__spec__") 169, val := Value.none }, { hash := PyData.keyHash P (Str.ofString "__annotations__"), key := Value.str (Str.ofString "__annotations__") 170, val := Value.ref 6 }, { hash := PyData.keyHash P (Str.ofString "__builtins__"), key := Value.str (Str.ofString "__builtins__") 171, val := Value.ref 4 }, { hash := PyData.keyHash P (Str.ofString "__file__"), key := Value.str (Str.ofString "__file__") 173, val := Value.str (Str.ofString "/claim/cut.py") 172 }, { hash := PyData.keyHash P (Str.ofString "__cached__"), key := Value.str (Str.ofString "__cached__") 174, val := Value.none }, { hash := PyData.keyHash P (Str.ofString "_wall"), key := Value.str (Str.ofString "_wall") 193, val := Value.ref 21 }, { hash := PyData.keyHash P (Str.ofString "HTTPPasswordMgr"), key := Value.str (Str.ofString "HTTPPasswordMgr") 262, val := Value.ref 67 }, { hash := PyData.keyHash P (Str.ofString "b1_set"), key := Value.str (Str.ofString "b1_set") 324, val := Value.ref 79 }, { hash := PyData.keyHash P (Str.ofString "in_table_b1"), key := Value.str (Str.ofString "in_table_b1") 331, val := Value.ref 89 }, { hash := PyData.keyHash P (Str.ofString "b3_exceptions"), key := Value.str (Str.ofString "b3_exceptions") 2282, val := Value.ref 90 }, { hash := PyData.keyHash P (Str.ofString "map_table_b3"), key := Value.str (Str.ofString "map_table_b3") 2290, val := Value.ref 135 }, { hash := PyData.keyHash P (Str.ofString "_law_nothing"), key := Value.str (Str.ofString "_law_nothing") 2298, val := Value.ref 142 }, { hash := PyData.keyHash P (Str.ofString "_law_prepared"), key := Value.str (Str.ofString "_law_prepared") 2304, val := Value.ref 147 }, { hash := PyData.keyHash P (Str.ofString "_law_word"), key := Value.str (Str.ofString "_law_word") 2315, val := Value.ref 154 }, { hash := PyData.keyHash P (Str.ofString "_law_words"), key := Value.str (Str.ofString "_law_words") 2324, val := Value.ref 161 }, { hash := PyData.keyHash P (Str.ofString "_law_rows"), key := Value.str (Str.ofString "_law_rows") 2330, val := Value.ref 166 }, { hash := PyData.keyHash P (Str.ofString "_law_addresses"), key := Value.str (Str.ofString "_law_addresses") 2336, val := Value.ref 171 }, { hash := PyData.keyHash P (Str.ofString "_law_prepared_addresses"), key := Value.str (Str.ofString "_law_prepared_addresses") 2342, val := Value.ref 176 }, { hash := PyData.keyHash P (Str.ofString "_law_above"), key := Value.str (Str.ofString "_law_above") 2351, val := Value.ref 183 }, { hash := PyData.keyHash P (Str.ofString "_law_due"), key := Value.str (Str.ofString "_law_due") 2357, val := Value.ref 188 }, { hash := PyData.keyHash P (Str.ofString "_law_bool"), key := Value.str (Str.ofString "_law_bool") 2364, val := Value.ref 195 }, { hash := PyData.keyHash P (Str.ofString "_law_asked"), key := Value.str (Str.ofString "_law_asked") 2370, val := Value.ref 200 }, { hash := PyData.keyHash P (Str.ofString "law"), key := Value.str (Str.ofString "law") 2380, val := Value.ref 207 }] 27 }
def o12e (P : Params) : Obj := { cls := Value.none, data := Data.fields #[Value.int 1 0, Value.int 0 0, Value.ref 20, Value.int 5 0, Value.int 0 0, Value.ref 27, Value.int 30 0, Value.int 0 0, Value.ref 88, Value.int 33 0, Value.int 0 0, Value.ref 134, Value.int 39 0, Value.int 0 0, Value.ref 141, Value.int 41 0, Value.int 0 0, Value.ref 146, Value.int 43 0, Value.int 0 0, Value.ref 153, Value.int 55 0, Value.int 0 0, Value.ref 160, Value.int 60 0, Value.int 0 0, Value.ref 165, Value.int 62 0, Value.int 0 0, Value.ref 170, Value.int 64 0, Value.int 0 0, Value.ref 175, Value.int 66 0, Value.int 0 0, Value.ref 182, Value.int 73 0, Value.int 0 0, Value.ref 187, Value.int 75 0, Value.int 0 0, Value.ref 194, Value.int 77 0, Value.int 0 0, Value.ref 199, Value.int 80 0, Value.int 0 0, Value.ref 206] }
def o129e (P : Params) : Obj := { cls := Value.type "tuple", data := Data.seq #[] }
def o130e (P : Params) : Obj := { cls := Value.none, data := Data.fields #[] }
def o131e (P : Params) : Obj := { cls := Value.type "tuple", data := Data.seq #[Value.str (Str.ofString "code") 2286, Value.str (Str.ofString "r") 2287] }
def o132e (P : Params) : Obj := { cls := Value.type "tuple", data := Data.seq #[] }
def o133e (P : Params) : Obj := { cls := Value.none, data := Data.func { name := Str.ofString "map_table_b3", qualname := Str.ofString "map_table_b3", params := (fnA (stm 7)), body := FuncBody.stmts (fnB (stm 7)), scope := (fnS (stm 7)), globals := 0, closure := [], defaults := Value.none, kwdefaults := Value.none } }
def o134e (P : Params) : Obj := { cls := Value.type "code", data := Data.fields #[Value.str (Str.ofString "map_table_b3") 2283, Value.str (Str.ofString "map_table_b3") 2284, Value.str (Str.ofString "/claim/cut.py") 2285, Value.int 33 0, Value.int 1 0, Value.int 0 0, Value.int 0 0, Value.int 3 0, Value.ref 129, Value.bool true, Value.int 181 0, Value.ref 130, Value.none, Value.ref 131, Value.ref 132, Value.ref 133, Value.int 2288 0, Value.int 33 0, Value.str (Str.ofString "/claim/cut.py") 2289] }
def o135e (P : Params) : Obj := { cls := Value.type "function", data := Data.func { name := Str.ofString "map_table_b3", qualname := Str.ofString "map_table_b3", params := (fnA (stm 7)), body := FuncBody.stmts (fnB (stm 7)), scope := (fnS (stm 7)), globals := 3, closure := [], defaults := Value.none, kwdefaults := Value.none, pyModule := Value.str (Str.ofString "cpy313.stringprep") 263, code := Value.ref 134 } }
def o136e (P : Params) : Obj := { cls := Value.type "tuple", data := Data.seq #[] }
def o137e (P : Params) : Obj := { cls := Value.none, data := Data.fields #[] }
def o138e (P : Params) : Obj := { cls := Value.type "tuple", data := Data.seq #[] }
def o139e (P : Params) : Obj := { cls := Value.type "tuple", data := Data.seq #[] }
def o140e (P : Params) : Obj := { cls := Value.none, data := Data.func { name := Str.ofString "_law_nothing", qualname := Str.ofString "_law_nothing", params := (fnA (stm 9)), body := FuncBody.stmts (fnB (stm 9)), scope := (fnS (stm 9)), globals := 0, closure := [], defaults := Value.none, kwdefaults := Value.none } }
def o141e (P : Params) : Obj := { cls := Value.type "code", data := Data.fields #[Value.str (Str.ofString "_law_nothing") 2293, Value.str (Str.ofString "_law_nothing") 2294, Value.str (Str.ofString "/claim/cut.py") 2295, Value.int 39 0, Value.int 0 0, Value.int 0 0, Value.int 0 0, Value.int 3 0, Value.ref 136, Value.bool true, Value.int 181 0, Value.ref 137, Value.none, Value.ref 138, Value.ref 139, Value.ref 140, Value.int 2296 0, Value.int 39 0, Value.str (Str.ofString "/claim/cut.py") 2297] }
def o142e (P : Params) : Obj := { cls := Value.type "function", data := Data.func { name := Str.ofString "_law_nothing", qualname := Str.ofString "_law_nothing", params := (fnA (stm 9)), body := FuncBody.stmts (fnB (stm 9)), scope := (fnS (stm 9)), globals := 3, closure := [], defaults := Value.none, kwdefaults := Value.none, pyModule := Value.str (Str.ofString "law_ny0236_01") 2291, code := Value.ref 141 } }
def o143e (P : Params) : Obj := { cls := Value.type "tuple", data := Data.seq #[] }
def o144e (P : Params) : Obj := { cls := Value.none, data := Data.fields #[] }
def o145e (P : Params) : Obj := { cls := Value.none, data := Data.func { name := Str.ofString "_law_prepared", qualname := Str.ofString "_law_prepared", params := (fnA (stm 10)), body := FuncBody.stmts (fnB (stm 10)), scope := (fnS (stm 10)), globals := 0, closure := [], defaults := Value.none, kwdefaults := Value.none } }
def o146e (P : Params) : Obj := { cls := Value.type "code", data := Data.fields #[Value.str (Str.ofString "_law_prepared") 2299, Value.str (Str.ofString "_law_prepared") 2300, Value.str (Str.ofString "/claim/cut.py") 2301, Value.int 41 0, Value.int 1 0, Value.int 0 0, Value.int 0 0, Value.int 3 0, Value.ref 143, Value.bool true, Value.int 181 0, Value.ref 144, Value.none, Value.none, Value.none, Value.ref 145, Value.int 2302 0, Value.int 41 0, Value.str (Str.ofString "/claim/cut.py") 2303] }
def o147e (P : Params) : Obj := { cls := Value.type "function", data := Data.func { name := Str.ofString "_law_prepared", qualname := Str.ofString "_law_prepared", params := (fnA (stm 10)), body := FuncBody.stmts (fnB (stm 10)), scope := (fnS (stm 10)), globals := 3, closure := [], defaults := Value.none, kwdefaults := Value.none, pyModule := Value.str (Str.ofString "law_ny0236_01") 2291, code := Value.ref 146 } }
def o148e (P : Params) : Obj := { cls := Value.type "tuple", data := Data.seq #[] }
def o149e (P : Params) : Obj := { cls := Value.none, data := Data.fields #[] }
def o150e (P : Params) : Obj := { cls := Value.type "tuple", data := Data.seq #[Value.str (Str.ofString "n") 2308, Value.str (Str.ofString "kind") 2309, Value.str (Str.ofString "place") 2310, Value.str (Str.ofString "some") 2311, Value.str (Str.ofString "ways") 2312] }
def o151e (P : Params) : Obj := { cls := Value.type "tuple", data := Data.seq #[] }
def o152e (P : Params) : Obj := { cls := Value.none, data := Data.func { name := Str.ofString "_law_word", qualname := Str.ofString "_law_word", params := (fnA (stm 11)), body := FuncBody.stmts (fnB (stm 11)), scope := (fnS (stm 11)), globals := 0, closure := [], defaults := Value.none, kwdefaults := Value.none } }
def o153e (P : Params) : Obj := { cls := Value.type "code", data := Data.fields #[Value.str (Str.ofString "_law_word") 2305, Value.str (Str.ofString "_law_word") 2306, Value.str (Str.ofString "/claim/cut.py") 2307, Value.int 43 0, Value.int 1 0, Value.int 0 0, Value.int 0 0, Value.int 3 0, Value.ref 148, Value.bool true, Value.int 181 0, Value.ref 149, Value.none, Value.ref 150, Value.ref 151, Value.ref 152, Value.int 2313 0, Value.int 43 0, Value.str (Str.ofString "/claim/cut.py") 2314] }
def o154e (P : Params) : Obj := { cls := Value.type "function", data := Data.func { name := Str.ofString "_law_word", qualname := Str.ofString "_law_word", params := (fnA (stm 11)), body := FuncBody.stmts (fnB (stm 11)), scope := (fnS (stm 11)), globals := 3, closure := [], defaults := Value.none, kwdefaults := Value.none, pyModule := Value.str (Str.ofString "law_ny0236_01") 2291, code := Value.ref 153 } }
def o155e (P : Params) : Obj := { cls := Value.type "tuple", data := Data.seq #[] }
def o156e (P : Params) : Obj := { cls := Value.none, data := Data.fields #[] }
def o157e (P : Params) : Obj := { cls := Value.type "tuple", data := Data.seq #[Value.str (Str.ofString "n") 2319, Value.str (Str.ofString "words") 2320, Value.str (Str.ofString "place") 2321] }
def o158e (P : Params) : Obj := { cls := Value.type "tuple", data := Data.seq #[] }
def o159e (P : Params) : Obj := { cls := Value.none, data := Data.func { name := Str.ofString "_law_words", qualname := Str.ofString "_law_words", params := (fnA (stm 12)), body := FuncBody.stmts (fnB (stm 12)), scope := (fnS (stm 12)), globals := 0, closure := [], defaults := Value.none, kwdefaults := Value.none } }
def o160e (P : Params) : Obj := { cls := Value.type "code", data := Data.fields #[Value.str (Str.ofString "_law_words") 2316, Value.str (Str.ofString "_law_words") 2317, Value.str (Str.ofString "/claim/cut.py") 2318, Value.int 55 0, Value.int 1 0, Value.int 0 0, Value.int 0 0, Value.int 3 0, Value.ref 155, Value.bool true, Value.int 181 0, Value.ref 156, Value.none, Value.ref 157, Value.ref 158, Value.ref 159, Value.int 2322 0, Value.int 55 0, Value.str (Str.ofString "/claim/cut.py") 2323] }
def o161e (P : Params) : Obj := { cls := Value.type "function", data := Data.func { name := Str.ofString "_law_words", qualname := Str.ofString "_law_words", params := (fnA (stm 12)), body := FuncBody.stmts (fnB (stm 12)), scope := (fnS (stm 12)), globals := 3, closure := [], defaults := Value.none, kwdefaults := Value.none, pyModule := Value.str (Str.ofString "law_ny0236_01") 2291, code := Value.ref 160 } }
def o162e (P : Params) : Obj := { cls := Value.type "tuple", data := Data.seq #[] }
def o163e (P : Params) : Obj := { cls := Value.none, data := Data.fields #[] }
def o164e (P : Params) : Obj := { cls := Value.none, data := Data.func { name := Str.ofString "_law_rows", qualname := Str.ofString "_law_rows", params := (fnA (stm 13)), body := FuncBody.stmts (fnB (stm 13)), scope := (fnS (stm 13)), globals := 0, closure := [], defaults := Value.none, kwdefaults := Value.none } }
def o165e (P : Params) : Obj := { cls := Value.type "code", data := Data.fields #[Value.str (Str.ofString "_law_rows") 2325, Value.str (Str.ofString "_law_rows") 2326, Value.str (Str.ofString "/claim/cut.py") 2327, Value.int 60 0, Value.int 2 0, Value.int 0 0, Value.int 0 0, Value.int 3 0, Value.ref 162, Value.bool true, Value.int 181 0, Value.ref 163, Value.none, Value.none, Value.none, Value.ref 164, Value.int 2328 0, Value.int 60 0, Value.str (Str.ofString "/claim/cut.py") 2329] }
def o166e (P : Params) : Obj := { cls := Value.type "function", data := Data.func { name := Str.ofString "_law_rows", qualname := Str.ofString "_law_rows", params := (fnA (stm 13)), body := FuncBody.stmts (fnB (stm 13)), scope := (fnS (stm 13)), globals := 3, closure := [], defaults := Value.none, kwdefaults := Value.none, pyModule := Value.str (Str.ofString "law_ny0236_01") 2291, code := Value.ref 165 } }
def o167e (P : Params) : Obj := { cls := Value.type "tuple", data := Data.seq #[] }
def o168e (P : Params) : Obj := { cls := Value.none, data := Data.fields #[] }
def o169e (P : Params) : Obj := { cls := Value.none, data := Data.func { name := Str.ofString "_law_addresses", qualname := Str.ofString "_law_addresses", params := (fnA (stm 14)), body := FuncBody.stmts (fnB (stm 14)), scope := (fnS (stm 14)), globals := 0, closure := [], defaults := Value.none, kwdefaults := Value.none } }
def o170e (P : Params) : Obj := { cls := Value.type "code", data := Data.fields #[Value.str (Str.ofString "_law_addresses") 2331, Value.str (Str.ofString "_law_addresses") 2332, Value.str (Str.ofString "/claim/cut.py") 2333, Value.int 62 0, Value.int 1 0, Value.int 0 0, Value.int 0 0, Value.int 3 0, Value.ref 167, Value.bool true, Value.int 181 0, Value.ref 168, Value.none, Value.none, Value.none, Value.ref 169, Value.int 2334 0, Value.int 62 0, Value.str (Str.ofString "/claim/cut.py") 2335] }
def o171e (P : Params) : Obj := { cls := Value.type "function", data := Data.func { name := Str.ofString "_law_addresses", qualname := Str.ofString "_law_addresses", params := (fnA (stm 14)), body := FuncBody.stmts (fnB (stm 14)), scope := (fnS (stm 14)), globals := 3, closure := [], defaults := Value.none, kwdefaults := Value.none, pyModule := Value.str (Str.ofString "law_ny0236_01") 2291, code := Value.ref 170 } }
def o172e (P : Params) : Obj := { cls := Value.type "tuple", data := Data.seq #[] }
def o173e (P : Params) : Obj := { cls := Value.none, data := Data.fields #[] }
def o174e (P : Params) : Obj := { cls := Value.none, data := Data.func { name := Str.ofString "_law_prepared_addresses", qualname := Str.ofString "_law_prepared_addresses", params := (fnA (stm 15)), body := FuncBody.stmts (fnB (stm 15)), scope := (fnS (stm 15)), globals := 0, closure := [], defaults := Value.none, kwdefaults := Value.none } }
def o175e (P : Params) : Obj := { cls := Value.type "code", data := Data.fields #[Value.str (Str.ofString "_law_prepared_addresses") 2337, Value.str (Str.ofString "_law_prepared_addresses") 2338, Value.str (Str.ofString "/claim/cut.py") 2339, Value.int 64 0, Value.int 1 0, Value.int 0 0, Value.int 0 0, Value.int 3 0, Value.ref 172, Value.bool true, Value.int 181 0, Value.ref 173, Value.none, Value.none, Value.none, Value.ref 174, Value.int 2340 0, Value.int 64 0, Value.str (Str.ofString "/claim/cut.py") 2341] }
def o176e (P : Params) : Obj := { cls := Value.type "function", data := Data.func { name := Str.ofString "_law_prepared_addresses", qualname := Str.ofString "_law_prepared_addresses", params := (fnA (stm 15)), body := FuncBody.stmts (fnB (stm 15)), scope := (fnS (stm 15)), globals := 3, closure := [], defaults := Value.none, kwdefaults := Value.none, pyModule := Value.str (Str.ofString "law_ny0236_01") 2291, code := Value.ref 175 } }
def o177e (P : Params) : Obj := { cls := Value.type "tuple", data := Data.seq #[] }
def o178e (P : Params) : Obj := { cls := Value.none, data := Data.fields #[] }
def o179e (P : Params) : Obj := { cls := Value.type "tuple", data := Data.seq #[Value.str (Str.ofString "one") 2346, Value.str (Str.ofString "two") 2347, Value.str (Str.ofString "front") 2348] }
def o180e (P : Params) : Obj := { cls := Value.type "tuple", data := Data.seq #[] }
def o181e (P : Params) : Obj := { cls := Value.none, data := Data.func { name := Str.ofString "_law_above", qualname := Str.ofString "_law_above", params := (fnA (stm 16)), body := FuncBody.stmts (fnB (stm 16)), scope := (fnS (stm 16)), globals := 0, closure := [], defaults := Value.none, kwdefaults := Value.none } }
def o182e (P : Params) : Obj := { cls := Value.type "code", data := Data.fields #[Value.str (Str.ofString "_law_above") 2343, Value.str (Str.ofString "_law_above") 2344, Value.str (Str.ofString "/claim/cut.py") 2345, Value.int 66 0, Value.int 2 0, Value.int 0 0, Value.int 0 0, Value.int 3 0, Value.ref 177, Value.bool true, Value.int 181 0, Value.ref 178, Value.none, Value.ref 179, Value.ref 180, Value.ref 181, Value.int 2349 0, Value.int 66 0, Value.str (Str.ofString "/claim/cut.py") 2350] }
def o183e (P : Params) : Obj := { cls := Value.type "function", data := Data.func { name := Str.ofString "_law_above", qualname := Str.ofString "_law_above", params := (fnA (stm 16)), body := FuncBody.stmts (fnB (stm 16)), scope := (fnS (stm 16)), globals := 3, closure := [], defaults := Value.none, kwdefaults := Value.none, pyModule := Value.str (Str.ofString "law_ny0236_01") 2291, code := Value.ref 182 } }
def o184e (P : Params) : Obj := { cls := Value.type "tuple", data := Data.seq #[] }
def o185e (P : Params) : Obj := { cls := Value.none, data := Data.fields #[] }
def o186e (P : Params) : Obj := { cls := Value.none, data := Data.func { name := Str.ofString "_law_due", qualname := Str.ofString "_law_due", params := (fnA (stm 17)), body := FuncBody.stmts (fnB (stm 17)), scope := (fnS (stm 17)), globals := 0, closure := [], defaults := Value.none, kwdefaults := Value.none } }
def o187e (P : Params) : Obj := { cls := Value.type "code", data := Data.fields #[Value.str (Str.ofString "_law_due") 2352, Value.str (Str.ofString "_law_due") 2353, Value.str (Str.ofString "/claim/cut.py") 2354, Value.int 73 0, Value.int 1 0, Value.int 0 0, Value.int 0 0, Value.int 3 0, Value.ref 184, Value.bool true, Value.int 181 0, Value.ref 185, Value.none, Value.none, Value.none, Value.ref 186, Value.int 2355 0, Value.int 73 0, Value.str (Str.ofString "/claim/cut.py") 2356] }
def o188e (P : Params) : Obj := { cls := Value.type "function", data := Data.func { name := Str.ofString "_law_due", qualname := Str.ofString "_law_due", params := (fnA (stm 17)), body := FuncBody.stmts (fnB (stm 17)), scope := (fnS (stm 17)), globals := 3, closure := [], defaults := Value.none, kwdefaults := Value.none, pyModule := Value.str (Str.ofString "law_ny0236_01") 2291, code := Value.ref 187 } }
def o189e (P : Params) : Obj := { cls := Value.type "tuple", data := Data.seq #[] }
def o190e (P : Params) : Obj := { cls := Value.none, data := Data.fields #[] }
def o191e (P : Params) : Obj := { cls := Value.type "tuple", data := Data.seq #[Value.str (Str.ofString "answer") 2361] }
def o192e (P : Params) : Obj := { cls := Value.type "tuple", data := Data.seq #[] }
def o193e (P : Params) : Obj := { cls := Value.none, data := Data.func { name := Str.ofString "_law_bool", qualname := Str.ofString "_law_bool", params := (fnA (stm 18)), body := FuncBody.stmts (fnB (stm 18)), scope := (fnS (stm 18)), globals := 0, closure := [], defaults := Value.none, kwdefaults := Value.none } }
def o194e (P : Params) : Obj := { cls := Value.type "code", data := Data.fields #[Value.str (Str.ofString "_law_bool") 2358, Value.str (Str.ofString "_law_bool") 2359, Value.str (Str.ofString "/claim/cut.py") 2360, Value.int 75 0, Value.int 1 0, Value.int 0 0, Value.int 0 0, Value.int 3 0, Value.ref 189, Value.bool true, Value.int 181 0, Value.ref 190, Value.none, Value.ref 191, Value.ref 192, Value.ref 193, Value.int 2362 0, Value.int 75 0, Value.str (Str.ofString "/claim/cut.py") 2363] }
def o195e (P : Params) : Obj := { cls := Value.type "function", data := Data.func { name := Str.ofString "_law_bool", qualname := Str.ofString "_law_bool", params := (fnA (stm 18)), body := FuncBody.stmts (fnB (stm 18)), scope := (fnS (stm 18)), globals := 3, closure := [], defaults := Value.none, kwdefaults := Value.none, pyModule := Value.str (Str.ofString "law_ny0236_01") 2291, code := Value.ref 194 } }
def o196e (P : Params) : Obj := { cls := Value.type "tuple", data := Data.seq #[] }
def o197e (P : Params) : Obj := { cls := Value.none, data := Data.fields #[] }
def o198e (P : Params) : Obj := { cls := Value.none, data := Data.func { name := Str.ofString "_law_asked", qualname := Str.ofString "_law_asked", params := (fnA (stm 19)), body := FuncBody.stmts (fnB (stm 19)), scope := (fnS (stm 19)), globals := 0, closure := [], defaults := Value.none, kwdefaults := Value.none } }
def o199e (P : Params) : Obj := { cls := Value.type "code", data := Data.fields #[Value.str (Str.ofString "_law_asked") 2365, Value.str (Str.ofString "_law_asked") 2366, Value.str (Str.ofString "/claim/cut.py") 2367, Value.int 77 0, Value.int 1 0, Value.int 0 0, Value.int 0 0, Value.int 3 0, Value.ref 196, Value.bool true, Value.int 181 0, Value.ref 197, Value.none, Value.none, Value.none, Value.ref 198, Value.int 2368 0, Value.int 77 0, Value.str (Str.ofString "/claim/cut.py") 2369] }
def o200e (P : Params) : Obj := { cls := Value.type "function", data := Data.func { name := Str.ofString "_law_asked", qualname := Str.ofString "_law_asked", params := (fnA (stm 19)), body := FuncBody.stmts (fnB (stm 19)), scope := (fnS (stm 19)), globals := 3, closure := [], defaults := Value.none, kwdefaults := Value.none, pyModule := Value.str (Str.ofString "law_ny0236_01") 2291, code := Value.ref 199 } }
def o201e (P : Params) : Obj := { cls := Value.type "tuple", data := Data.seq #[] }
def o202e (P : Params) : Obj := { cls := Value.none, data := Data.fields #[] }
def o203e (P : Params) : Obj := { cls := Value.type "tuple", data := Data.seq #[Value.str (Str.ofString "script") 2374, Value.str (Str.ofString "told") 2375, Value.str (Str.ofString "meant") 2376, Value.str (Str.ofString "sent") 2377] }
def o204e (P : Params) : Obj := { cls := Value.type "tuple", data := Data.seq #[] }
def o205e (P : Params) : Obj := { cls := Value.none, data := Data.func { name := Str.ofString "law", qualname := Str.ofString "law", params := (fnA (stm 20)), body := FuncBody.stmts (fnB (stm 20)), scope := (fnS (stm 20)), globals := 0, closure := [], defaults := Value.none, kwdefaults := Value.none } }
def o206e (P : Params) : Obj := { cls := Value.type "code", data := Data.fields #[Value.str (Str.ofString "law") 2371, Value.str (Str.ofString "law") 2372, Value.str (Str.ofString "/claim/cut.py") 2373, Value.int 80 0, Value.int 1 0, Value.int 0 0, Value.int 0 0, Value.int 3 0, Value.ref 201, Value.bool true, Value.int 181 0, Value.ref 202, Value.none, Value.ref 203, Value.ref 204, Value.ref 205, Value.int 2378 0, Value.int 80 0, Value.str (Str.ofString "/claim/cut.py") 2379] }
def o207e (P : Params) : Obj := { cls := Value.type "function", data := Data.func { name := Str.ofString "law", qualname := Str.ofString "law", params := (fnA (stm 20)), body := FuncBody.stmts (fnB (stm 20)), scope := (fnS (stm 20)), globals := 3, closure := [], defaults := Value.none, kwdefaults := Value.none, pyModule := Value.str (Str.ofString "law_ny0236_01") 2291, code := Value.ref 206 } }
-- stage e: size 208 toks 2381
def treee (P : Params) (X : Nat → Obj) : BT := (.node (boot_o_0 P) (.node (boot_o_1 P) (.node (o3e P) (.node (boot_o_7 P) (.node (o15a P) (.node (o31a P) (.node (o63a P) (.node (X 127) .nil .nil) (.node (o191e P) .nil .nil)) (.node (X 95) (.node (o159e P) .nil .nil) .nil)) (.node (o47a P) (.node (o79b P) (.node (o143e P) .nil .nil) (.node (o207e P) .nil .nil)) (.node (X 111) (.node (o175e P) .nil .nil) .nil))) (.node (o23a P) (.node (o39a P) (.node (o71a P) (.node (o135e P) .nil .nil) (.node (o199e P) .nil .nil)) (.node (X 103) (.node (o167e P) .nil .nil) .nil)) (.node (o55a P) (.node (o87c P) (.node (o151e P) .nil .nil) .nil) (.node (X 119) (.node (o183e P) .nil .nil) .nil)))) (.node (o11p P) (.node (o19a P) (.node (o35a P) (.node (o67a P) (.node (o131e P) .nil .nil) (.node (o195e P) .nil .nil)) (.node (X 99) (.node (o163e P) .nil .nil) .nil)) (.node (o51a P) (.node (o83c P) (.node (o147e P) .nil .nil) .nil) (.node (X 115) (.node (o179e P) .nil .nil) .nil))) (.node (o27a P) (.node (o43a P) (.node (o75b P) (.node (o139e P) .nil .nil) (.node (o203e P) .nil .nil)) (.node (X 107) (.node (o171e P) .nil .nil) .nil)) (.node (o59a P) (.node (X 91) (.node (o155e P) .nil .nil) .nil) (.node (X 123) (.node (o187e P) .nil .nil) .nil))))) (.node (boot_o_5 P) (.node (boot_o_9 P) (.node (o17a P) (.node (o33a P) (.node (o65a P) (.node (o129e P) .nil .nil) (.node (o193e P) .nil .nil)) (.node (X 97) (.node (o161e P) .nil .nil) .nil)) (.node (o49a P) (.node (o81b P) (.node (o145e P) .nil .nil) .nil) (.node (X 113) (.node (o177e P) .nil .nil) .nil))) (.node (o25a P) (.node (o41a P) (.node (o73b P) (.node (o137e P) .nil .nil) (.node (o201e P) .nil .nil)) (.node (X 105) (.node (o169e P) .nil .nil) .nil)) (.node (o57a P) (.node (o89c P) (.node (o153e P) .nil .nil) .nil) (.node (X 121) (.node (o185e P) .nil .nil) .nil)))) (.node (o13p P) (.node (o21a P) (.node (o37a P) (.node (o69a P) (.node (o133e P) .nil .nil) (.node (o197e P) .nil .nil)) (.node (X 101) (.node (o165e P) .nil .nil) .nil)) (.node (o53a P) (.node (o85c P) (.node (o149e P) .nil .nil) .nil) (.node (X 117) (.node (o181e P) .nil .nil) .nil))) (.node (o29a P) (.node (o45a P) (.node (o77b P) (.node (o141e P) .nil .nil) (.node (o205e P) .nil .nil)) (.node (X 109) (.node (o173e P) .nil .nil) .nil)) (.node (o61a P) (.node (X 93) (.node (o157e P) .nil .nil) .nil) (.node (X 125) (.node (o189e P) .nil .nil) .nil)))))) (.node (boot_o_2 P) (.node (boot_o_4 P) (.node (boot_o_8 P) (.node (o16a P) (.node (o32a P) (.node (o64a P) (.node (X 128) .nil .nil) (.node (o192e P) .nil .nil)) (.node (X 96) (.node (o160e P) .nil .nil) .nil)) (.node (o48a P) (.node (o80b P) (.node (o144e P) .nil .nil) .nil) (.node (X 112) (.node (o176e P) .nil .nil) .nil))) (.node (o24a P) (.node (o40a P) (.node (o72b P) (.node (o136e P) .nil .nil) (.node (o200e P) .nil .nil)) (.node (X 104) (.node (o168e P) .nil .nil) .nil)) (.node (o56a P) (.node (o88c P) (.node (o152e P) .nil .nil) .nil) (.node (X 120) (.node (o184e P) .nil .nil) .nil)))) (.node (o12e P) (.node (o20a P) (.node (o36a P) (.node (o68a P) (.node (o132e P) .nil .nil) (.node (o196e P) .nil .nil)) (.node (X 100) (.node (o164e P) .nil .nil) .nil)) (.node (o52a P) (.node (o84c P) (.node (o148e P) .nil .nil) .nil) (.node (X 116) (.node (o180e P) .nil .nil) .nil))) (.node (o28a P) (.node (o44a P) (.node (o76b P) (.node (o140e P) .nil .nil) (.node (o204e P) .nil .nil)) (.node (X 108) (.node (o172e P) .nil .nil) .nil)) (.node (o60a P) (.node (X 92) (.node (o156e P) .nil .nil) .nil) (.node (X 124) (.node (o188e P) .nil .nil) .nil))))) (.node (boot_o_6 P) (.node (boot_o_10 P) (.node (o18a P) (.node (o34a P) (.node (o66a P) (.node (o130e P) .nil .nil) (.node (o194e P) .nil .nil)) (.node (X 98) (.node (o162e P) .nil .nil) .nil)) (.node (o50a P) (.node (o82b P) (.node (o146e P) .nil .nil) .nil) (.node (X 114) (.node (o178e P) .nil .nil) .nil))) (.node (o26a P) (.node (o42a P) (.node (o74b P) (.node (o138e P) .nil .nil) (.node (o202e P) .nil .nil)) (.node (X 106) (.node (o170e P) .nil .nil) .nil)) (.node (o58a P) (.node (X 90) (.node (o154e P) .nil .nil) .nil) (.node (X 122) (.node (o186e P) .nil .nil) .nil)))) (.node (o14p P) (.node (o22a P) (.node (o38a P) (.node (o70a P) (.node (o134e P) .nil .nil) (.node (o198e P) .nil .nil)) (.node (X 102) (.node (o166e P) .nil .nil) .nil)) (.node (o54a P) (.node (o86c P) (.node (o150e P) .nil .nil) .nil) (.node (X 118) (.node (o182e P) .nil .nil) .nil))) (.node (o30a P) (.node (o46a P) (.node (o78b P) (.node (o142e P) .nil .nil) (.node (o206e P) .nil .nil)) (.node (X 110) (.node (o174e P) .nil .nil) .nil)) (.node (o62a P) (.node (X 94) (.node (o158e P) .nil .nil) .nil) (.node (X 126) (.node (o190e P) .nil .nil) .nil)))))))
end Mine
end

open PySem PySem.W PySem.Calls PyProof.Rows
set_option Elab.async false
set_option maxRecDepth 100000
set_option linter.unusedVariables false
noncomputable section
namespace Mine
def MT (w : World) : Model := ⟨denote treeTable, pw, w⟩
@[irreducible] def stmts : List Stmt := behindTheImports pw
@[irreducible] def stI (i : Nat) : Stmt := stm i
@[irreducible] def envT : Env := { scope := pw.main.scope, locals := mainNs, globals := mainNs, cells := [], code := .ref 13, frame := some 14 }
def G0 : Ctx := ⟨.builtin "claim.caller" {}, none, none, [], none⟩
def GT (q : Pos) : Ctx := G0.enter (.body stmts envT) none q
def S0 (w : World) (l : Life) (os : OsState) : SharedT := ⟨tree0 w.params, 11, l, #[], boot_drawn, 181, os⟩
@[irreducible] def Sp (w : World) (l : Life) (os : OsState) : SharedT := ⟨treep w.params, 15, l, #[], boot_drawn, 187, os⟩
@[irreducible] def Sa (w : World) (l : Life) (os : OsState) : SharedT := ⟨treea w.params, 72, l, #[], boot_drawn, 265, os⟩
@[irreducible] def Sb (w : World) (l : Life) (os : OsState) : SharedT := ⟨treeb w.params, 83, l, #[], boot_drawn, 325, os⟩
@[irreducible] def Sc (w : World) (l : Life) (os : OsState) : SharedT := ⟨treec w.params, 90, l, #[], boot_drawn, 332, os⟩
/-- behind the big display, ahead of its name's binding -/
def treecX (P : Params) (X : Nat → Obj) : BT := ((treed P X).set 3 fun _ => o3c P)
@[irreducible] def ScX (w : World) (X : Nat → Obj) (l : Life) (os : OsState) : SharedT := ⟨treecX w.params X, 129, l, #[], boot_drawn, 2282, os⟩
@[irreducible] def Sd (w : World) (X : Nat → Obj) (l : Life) (os : OsState) : SharedT := ⟨treed w.params X, 129, l, #[], boot_drawn, 2283, os⟩
@[irreducible] def Se (w : World) (X : Nat → Obj) (l : Life) (os : OsState) : SharedT := ⟨treee w.params X, 208, l, #[], boot_drawn, 2381, os⟩
def asDone {α : Type} (g : α → Flow) (x : Sem α) : Sem Fin := x.bind fun a => .pure (.done (g a))
abbrev Ran := Option (Result × SharedT)
abbrev PieceT := World → Life → OsState → Pos → Pos → Ran
abbrev PieceX := World → (Nat → Obj) → Life → OsState → Pos → Pos → Ran
def LP (w : World) (l : Life) (os : OsState) (q p : Pos) : Ran := evF (MT w) 100 G0 p (S0 w l os) (asDone (fun (v : Value × Addr) => match v.1 with | .ref c => if c == 13 && v.2 == 14 then .next else .brk | _ => .brk) (do let code ← moduleCode pw.main; let frame ← newBodyFrame code mainNs mainNs; pure (code, frame)))
def RP (w : World) (l : Life) (os : OsState) (q p : Pos) : Ran := some (.ok .next, Sp w l os)
def LA (w : World) (l : Life) (os : OsState) (q p : Pos) : Ran := evF (MT w) 500 (GT q) p (Sp w l os) (asDone id (execs (stmts.take 4) envT))
def RA (w : World) (l : Life) (os : OsState) (q p : Pos) : Ran := some (.ok .next, Sa w l os)
def wB (w : World) (a b : Bool) : World := (w.withFollow "set-order" a).withFollow "special-get-raises" b
def LB (w : World) (l : Life) (os : OsState) (q p : Pos) : Ran := evF (MT w) 1100 (GT q) p (Sa w l os) (asDone id (exec (stI 4) envT))
def RB (w : World) (l : Life) (os : OsState) (q p : Pos) : Ran := some (.ok .next, Sb w l os)
def LB00 (w : World) (l : Life) (os : OsState) (q p : Pos) : Ran := LB (wB w false false) l os q p
def LB01 (w : World) (l : Life) (os : OsState) (q p : Pos) : Ran := LB (wB w false true) l os q p
def LB10 (w : World) (l : Life) (os : OsState) (q p : Pos) : Ran := LB (wB w true false) l os q p
def LB11 (w : World) (l : Life) (os : OsState) (q p : Pos) : Ran := LB (wB w true true) l os q p
def RB00 (w : World) (l : Life) (os : OsState) (q p : Pos) : Ran := RB (wB w false false) l os q p
def RB01 (w : World) (l : Life) (os : OsState) (q p : Pos) : Ran := RB (wB w false true) l os q p
def RB10 (w : World) (l : Life) (os : OsState) (q p : Pos) : Ran := RB (wB w true false) l os q p
def RB11 (w : World) (l : Life) (os : OsState) (q p : Pos) : Ran := RB (wB w true true) l os q p
def LC (w : World) (l : Life) (os : OsState) (q p : Pos) : Ran := evF (MT w) 100 (GT q) p (Sb w l os) (asDone id (exec (stI 5) envT))
def RC (w : World) (l : Life) (os : OsState) (q p : Pos) : Ran := some (.ok .next, Sc w l os)
def LD (w : World) (X : Nat → Obj) (l : Life) (os : OsState) (q p : Pos) : Ran := evF (MT w) 100 (GT q) p (ScX w X l os) (asDone (fun _ => .next) (bindName envT (Str.ofString "b3_exceptions") (.ref 90)))
def RD (w : World) (X : Nat → Obj) (l : Life) (os : OsState) (q p : Pos) : Ran := some (.ok .next, Sd w X l os)
def LE (w : World) (X : Nat → Obj) (l : Life) (os : OsState) (q p : Pos) : Ran := evF (MT w) 600 (GT q) p (Sd w X l os) (asDone id (execs (stmts.drop 7) envT))
def RE (w : World) (X : Nat → Obj) (l : Life) (os : OsState) (q p : Pos) : Ran := some (.ok .next, Se w X l os)
theorem layT : (fun (_ _ _ _ _ _ _ _ _ _ _ _ _ _ : PieceT) => true) LP RP LA RA LB00 RB00 LB01 RB01 LB10 RB10 LB11 RB11 LC RC = true := by k_qdec
theorem layX : (fun (_ _ _ _ : PieceX) => true) LD RD LE RE = true := by k_qdec

theorem kLP : PySem.W.Fast.tw8600546863935386467 = PySem.W.Fast.tw8397161686635048047 := by kernel_rfl
theorem qLP : LP = RP := PySem.W.Fast.te8600546863935386467.trans (kLP.trans PySem.W.Fast.te8397161686635048047.symm)
theorem kLA : PySem.W.Fast.tw6556008531633461188 = PySem.W.Fast.tw3767094046615502305 := by kernel_rfl
theorem qLA : LA = RA := PySem.W.Fast.te6556008531633461188.trans (kLA.trans PySem.W.Fast.te3767094046615502305.symm)
theorem kLB00 : PySem.W.Fast.tw11579456310555886363 = PySem.W.Fast.tw10545032957241219644 := by kernel_rfl
theorem qLB00 : LB00 = RB00 := PySem.W.Fast.te11579456310555886363.trans (kLB00.trans PySem.W.Fast.te10545032957241219644.symm)
theorem kLB01 : PySem.W.Fast.tw5368957192373049417 = PySem.W.Fast.tw18256579044650048574 := by kernel_rfl
theorem qLB01 : LB01 = RB01 := PySem.W.Fast.te5368957192373049417.trans (kLB01.trans PySem.W.Fast.te18256579044650048574.symm)
theorem kLB10 : PySem.W.Fast.tw12982378580902997505 = PySem.W.Fast.tw2895464555439343335 := by kernel_rfl
theorem qLB10 : LB10 = RB10 := PySem.W.Fast.te12982378580902997505.trans (kLB10.trans PySem.W.Fast.te2895464555439343335.symm)
theorem kLB11 : PySem.W.Fast.tw17492970782814690937 = PySem.W.Fast.tw9363068480294751142 := by kernel_rfl
theorem qLB11 : LB11 = RB11 := PySem.W.Fast.te17492970782814690937.trans (kLB11.trans PySem.W.Fast.te9363068480294751142.symm)
theorem kLC : PySem.W.Fast.tw484903326051510123 = PySem.W.Fast.tw16191840694435818614 := by kernel_rfl
theorem qLC : LC = RC := PySem.W.Fast.te484903326051510123.trans (kLC.trans PySem.W.Fast.te16191840694435818614.symm)
theorem kLD : PySem.W.Fast.tw8844358467198834666 = PySem.W.Fast.tw4548053204297298014 := by kernel_rfl
theorem qLD : LD = RD := PySem.W.Fast.te8844358467198834666.trans (kLD.trans PySem.W.Fast.te4548053204297298014.symm)
theorem kLE : PySem.W.Fast.tw15379976629995394306 = PySem.W.Fast.tw13763910508021645787 := by kernel_rfl
theorem qLE : LE = RE := PySem.W.Fast.te15379976629995394306.trans (kLE.trans PySem.W.Fast.te13763910508021645787.symm)
end Mine
end

open PySem PySem.W PySem.Calls PyProof.Rows
set_option Elab.async false
set_option linter.unusedVariables false
noncomputable section
namespace Mine
def strOf : Value → Option Str
  | .str x _ => some x
  | _ => none
def FitsL (kvs : List (Int × Value)) (L : List (Int × Str)) : Prop := kvs.map (fun p => (p.1, strOf p.2)) = L.map (fun l => (l.1, some l.2))
def Tab (w : World) (h : Heap) (a : Addr) (L : List (Int × Str)) : Prop := ∃ kvs, h.DictOf (intKind pw w) a kvs ∧ FitsL kvs L

theorem FitsL.keys {kvs : List (Int × Value)} {L : List (Int × Str)} (h : FitsL kvs L) : kvs.map (·.1) = L.map (·.1) := by
  have := congrArg (List.map Prod.fst) h
  simpa [List.map_map, Function.comp_def] using this
theorem FitsL.length {kvs : List (Int × Value)} {L : List (Int × Str)} (h : FitsL kvs L) : kvs.length = L.length := by
  have := congrArg List.length h
  simpa using this
theorem FitsL.snoc {kvs : List (Int × Value)} {L : List (Int × Str)} (h : FitsL kvs L) (k : Int) (x : Str) (t : Tok) : FitsL (kvs ++ [(k, .str x t)]) (L ++ [(k, x)]) := by
  unfold FitsL at h ⊢
  rw [List.map_append, List.map_append, h]
  rfl
theorem Tab.keys_nodup {w : World} {h : Heap} {a : Addr} {L : List (Int × Str)} (T : Tab w h a L) : (L.map (·.1)).Nodup := by
  obtain ⟨kvs, ⟨o, es, ep, _, _, _, _, _, hn⟩, hf⟩ := T
  rw [← hf.keys]; exact hn
theorem stored_new {kvs : List (Int × Value)} {k : Int} {v : Value} (h : k ∉ kvs.map (·.1)) : stored kvs k v = kvs ++ [(k, v)] := by
  unfold stored
  rw [if_neg]
  rw [List.any_eq_true]
  rintro ⟨kv, hkv, he⟩
  exact h (List.mem_map.mpr ⟨kv, hkv, of_decide_eq_true he⟩)
theorem Tab.sameBut {w : World} {h h' : Heap} {a b : Addr} {L : List (Int × Str)} (T : Tab w h a L) (hs : Heap.SameBut b h h') (hab : a ≠ b) : Tab w h' a L := by
  obtain ⟨kvs, hd, hf⟩ := T
  exact ⟨kvs, hd.sameBut hs hab, hf⟩
theorem Tab.push {w : World} {h : Heap} {a : Addr} {L : List (Int × Str)} (T : Tab w h a L) (o : Obj) : Tab w (h.push o) a L := by
  obtain ⟨kvs, hd, hf⟩ := T
  exact ⟨kvs, hd.push o, hf⟩
theorem Tab.typeIs {w : World} {s : Shared} {a : Addr} {L : List (Int × Str)} (T : Tab w s.heap a L) : s.TypeIs (.ref a) "dict" := by
  obtain ⟨kvs, hd, hf⟩ := T
  exact hd.typeIs
theorem Tab.new (w : World) (h : Heap) : Tab w (h.push { cls := .type "dict", data := .dict #[] }) h.objs.size [] := ⟨[], Heap.DictOf.new h, rfl⟩

section
variable {w : World} {A : Around} {E : Value → Shared → Prop} {s : Shared} {d : Addr} {L : List (Int × Str)} {k : Int} {x : Str} {t u : Tok}
theorem tab_set {Q : Unit → Shared → Prop} (T : Tab w s.heap d L) (hk : k ∉ L.map (·.1)) (hl : L.length ≤ 1000)
    (hQ : ∀ h', Tab w h' d (L ++ [(k, x)]) → Heap.SameBut d s.heap h' → Q () { s with heap := h', toks := s.toks + 1 }) :
    wpAny (model pw w) A (dictSet d (.int k t) (.str x u)) Q E s := by
  obtain ⟨kvs, hd, hf⟩ := T
  refine wpAny_dictSet_pairs (knd := intKind pw w) (k := k) (by show Value.isInt k (.int k t) = true; simp [Value.isInt]) hd (fun h' hd' hs' => hQ h' ?_ hs') (by rw [hf.length, sizeLine_eq]; omega)
  rw [stored_new (by rw [hf.keys]; exact hk)] at hd'
  exact ⟨_, hd', hf.snoc k x u⟩

theorem tab_put {Q : Unit → Shared → Prop} {kvs : List (Int × Value)} {key v : Value} (hkey : Value.isInt k key = true) (hd : s.heap.DictOf (intKind pw w) d kvs) (hk : k ∉ kvs.map (·.1)) (hl : kvs.length ≤ 1000)
    (hQ : ∀ h', h'.DictOf (intKind pw w) d (kvs ++ [(k, v)]) → Heap.SameBut d s.heap h' → Q () { s with heap := h' }) :
    wpAny (model pw w) A (dictPut d (hashInt k) key v) Q E s := by
  obtain ⟨o, es, ep, ho, hc, hdd, hks, hp, hn⟩ := hd
  have hes : es.size ≤ sizeLine := by
    have e1 := hp.length
    have e2 : es.toList.length = es.size := by simp
    rw [sizeLine_eq]; omega
  unfold dictPut
  refine wpAny_bind (wpAny_dictFind_of (knd := intKind pw w) (k := k) hkey ho hdd hks ?_)
  have hidx : (es.findIdx? fun e => (intKind pw w).is k e.key) = none := by
    have h1 : (es.findIdx? fun e => (intKind pw w).is k e.key) = kvs.findIdx? fun kv => decide (kv.1 = k) := by
      rw [← hp.findIdx k]; obtain ⟨l⟩ := es; simp
    rw [h1, List.findIdx?_eq_none_iff]
    intro kv hkv
    exact decide_eq_false fun e => hk (List.mem_map.mpr ⟨kv, hkv, e⟩)
  rw [hidx]
  refine wpAny_updateDictKeys (hz := hes) ho hdd (hQ _ ⟨_, _, ep + 1, Heap.get?_update_self _ ho (Obj.isFreed_of_dict (Obj.data_mapDictKeys hdd _)),
      hc.mapDictKeys _, Obj.data_mapDictKeys hdd _, hks.push (k := k) hkey _, ?_, ?_⟩ (Heap.SameBut.update ..))
  · have := hp.append (k := k) hkey (hashInt k) v
    obtain ⟨l⟩ := es
    simpa using this
  · rw [List.map_append, List.nodup_append]
    refine ⟨hn, by simp, ?_⟩
    intro a ha b hb
    simp only [List.map_cons, List.map_nil, List.mem_singleton] at hb
    subst hb
    exact fun e => hk (e ▸ ha)
end

theorem tab_merge {w : World} {A : Around} {E : Value → Shared → Prop} {s : Shared} {d o : Addr} {L L2 : List (Int × Str)} {Q : Unit → Shared → Prop}
    (hdo : d ≠ o) (hoS : (o == sysModules) = false) (T : Tab w s.heap d L) (T2 : Tab w s.heap o L2) (hne : L ≠ []) (hk : ((L ++ L2).map (·.1)).Nodup) (hl : L.length + L2.length ≤ 1000)
    (hQ : ∀ h', Tab w h' d (L ++ L2) → Heap.SameBut d s.heap h' → Q () { s with heap := h' }) :
    wpAny (model pw w) A (mergeMapping d (.ref o) false) Q E s := by
  obtain ⟨kvs, hd, hf⟩ := T
  obtain ⟨more, ho, hf2⟩ := T2
  have hnd : ((kvs ++ more).map (·.1)).Nodup := by
    rw [List.map_append, hf.keys, hf2.keys, ← List.map_append]; exact hk
  have hlen0 : kvs.length + more.length ≤ 1000 := by rw [hf.length, hf2.length]; exact hl
  obtain ⟨od, esd, epd, hod, hcd, hdd, hkd, hpd, hnd1⟩ := id hd
  obtain ⟨oo, eso, epo, hoo, hco, hdo', hko, hpo, hno⟩ := id ho
  have hlen : more.length = eso.size := by rw [← hpo.length]; simp
  unfold mergeMapping
  refine wpAny_bind (wpAny_isInstance ho.typeIs (U := "dict") (b := true) (by rw [isSubtype_type]; kernel_rfl) ?_)
  dsimp only
  rw [if_pos rfl]
  refine wpAny_bind (wpAny_specialOf ho.typeIs F.slot_dict_iter.lookup ?_)
  refine wpAny_bind (wpAny_pure ?_)
  rw [show (some (Value.builtin "dict.__iter__") == some (Value.builtin "dict.__iter__")) = true from by decide +kernel]
  dsimp only
  rw [if_neg (by rw [hoS]; exact Bool.false_ne_true)]
  refine wpAny_bind (wpAny_dictEntries hod hdd ?_)
  have hesd : esd.isEmpty = false := by
    have h1 : esd.toList.length = kvs.length := hpd.length
    have h2 := hf.length
    have h3 : L.length ≠ 0 := fun e => hne (List.length_eq_zero_iff.mp e)
    have h4 : esd.size = kvs.length := by rw [← h1]; simp
    rw [Array.isEmpty_eq_false_iff]
    intro e
    rw [e] at h4
    simp at h4
    omega
  rw [if_neg (by rw [hesd]; exact Bool.false_ne_true)]
  refine wpAny_bind (wpAny_dictEntries hoo hdo' ?_)
  refine wpAny_bind (wpAny_dictEpoch hoo hdo' ?_)
  refine wpAny_bind ?_
  rw [List.range_eq_range']
  refine wpAny_forIn_list _
      (fun rest _ s' => ∃ h' i, s' = { s with heap := h' } ∧ rest = List.range' i (eso.size - i) ∧ i ≤ eso.size ∧ h'.DictOf (intKind pw w) d (kvs ++ more.take i) ∧ h'.get? o = some oo ∧ Heap.SameBut d s.heap h')
      _ ?_ ?_ _ _ ⟨s.heap, 0, rfl, by simp, Nat.zero_le _, by simpa using hd, hoo, Heap.SameBut.refl _ _⟩
  · rintro x rest b s' ⟨h', i, rfl, hr, hi, hd', hoo', hs'⟩
    have hlt : i < eso.size := by
      rcases Nat.lt_or_ge i eso.size with h | h
      · exact h
      · rw [Nat.sub_eq_zero_of_le h] at hr; simp at hr
    obtain ⟨rfl, hrest⟩ : x = i ∧ rest = List.range' (i + 1) (eso.size - (i + 1)) := by
      have e : eso.size - i = (eso.size - (i + 1)) + 1 := by omega
      rw [e, List.range'_succ] at hr
      injection hr with h1 h2
      exact ⟨h1, h2⟩
    refine wpAny_bind (wpAny_dictEntries hoo' hdo' ?_)
    rw [Array.getElem?_eq_getElem hlt]
    obtain ⟨kv, hkv⟩ : ∃ kv, more[x]? = some kv := ⟨more[x]'(by rw [hlen]; exact hlt), List.getElem?_eq_getElem _⟩
    obtain ⟨k, v⟩ := kv
    obtain ⟨hkey, hval⟩ := hpo.get? (e := eso[x]) (by simp [hlt]) hkv
    obtain ⟨k', hkey', hhash⟩ := hko eso[x] (Array.getElem_mem hlt)
    obtain rfl : k' = k := (intKind pw w).inj _ _ _ hkey' hkey
    dsimp only
    refine wpAny_bind (wpAny_holding ?_)
    rw [if_neg Bool.false_ne_true, hhash, hval]
    have htake : more.take (x + 1) = more.take x ++ [(k', v)] := by rw [List.take_add_one, hkv]; rfl
    have hfresh : k' ∉ (kvs ++ more.take x).map (·.1) := by
      intro hm
      have h2 : ((kvs ++ (more.take x ++ [(k', v)])).map (·.1)).Nodup := by
        rw [← htake]
        refine List.Sublist.nodup (List.Sublist.map _ ?_) hnd
        exact List.Sublist.append_left (List.take_sublist _ _) _
      rw [← List.append_assoc, List.map_append, List.nodup_append] at h2
      exact h2.2.2 k' hm k' (by simp) rfl
    refine tab_put (s := { s with heap := h' }) (k := k') hkey hd' hfresh (by
      rw [List.length_append, List.length_take]; omega) fun h2 hd2 hs2 => ?_
    have hoo2 : h2.get? o = some oo := (hs2.2 o (Ne.symm hdo)).trans hoo'
    refine wpAny_bind (wpAny_dictEpoch (s := { s with heap := h2 }) hoo2 hdo' ?_)
    rw [if_neg (by simp)]
    refine wpAny_pure ?_
    dsimp only
    refine ⟨h2, x + 1, rfl, hrest, hlt, ?_, hoo2, hs'.trans hs2⟩
    rw [htake, ← List.append_assoc]; exact hd2
  · rintro b s' ⟨h', i, rfl, hr, hi, hd', hoo', hs'⟩
    have hi2 : i = eso.size := by
      rcases Nat.lt_or_ge i eso.size with h | h
      · have e : eso.size - i = (eso.size - (i + 1)) + 1 := by omega
        rw [e, List.range'_succ] at hr; cases hr
      · omega
    subst hi2
    rw [← hlen, List.take_length] at hd'
    refine wpAny_pure (hQ h' ⟨_, hd', ?_⟩ hs')
    unfold FitsL at hf hf2 ⊢
    rw [List.map_append, List.map_append, hf, hf2]

/-- a pair of trees that yield an int and a text -/
def PairIs (w : World) (p : Sem Value × Sem Value) (r : Int × Str) : Prop :=
  (∀ (A : Around) (E : Value → Shared → Prop) (s : Shared) (Q : Value → Shared → Prop), Q (.int r.1 s.toks) { s with toks := s.toks + 1 } → wpAny (model pw w) A p.1 Q E s) ∧
  (∀ (A : Around) (E : Value → Shared → Prop) (s : Shared) (Q : Value → Shared → Prop), Q (.str r.2 s.toks) { s with toks := s.toks + 1 } → wpAny (model pw w) A p.2 Q E s)
noncomputable def PairsAre (w : World) : List (Sem Value × Sem Value) → List (Int × Str) → Prop
  | [], [] => True
  | p :: ps, r :: rs => PairIs w p r ∧ PairsAre w ps rs
  | _, _ => False
theorem PairsAre.length {w : World} : ∀ {ps : List (Sem Value × Sem Value)} {rs : List (Int × Str)}, PairsAre w ps rs → ps.length = rs.length
  | [], [], _ => rfl
  | _ :: _, _ :: _, h => by rw [List.length_cons, List.length_cons, h.2.length]
  | [], _ :: _, h => h.elim
  | _ :: _, [], h => h.elim
theorem PairsAre.snoc {w : World} {p : Sem Value × Sem Value} {r : Int × Str} (hp : PairIs w p r) : ∀ {ps : List (Sem Value × Sem Value)} {rs : List (Int × Str)}, PairsAre w ps rs → PairsAre w (ps ++ [p]) (rs ++ [r])
  | [], [], _ => ⟨hp, trivial⟩
  | _ :: _, _ :: _, h => ⟨h.1, h.2.snoc hp⟩
  | [], _ :: _, h => h.elim
  | _ :: _, [], h => h.elim

def emptyDict : Obj := { cls := .type "dict", data := .dict #[] }
theorem sub_long {w : World} {A : Around} {E : Value → Shared → Prop} {d : Addr} : ∀ (ps : List (Sem Value × Sem Value)) (R L : List (Int × Str)) (s : Shared) (Q : PUnit → Shared → Prop), PairsAre w ps R → Tab w s.heap d L → ((L ++ R).map (·.1)).Nodup → L.length + R.length ≤ 1000 →
    (∀ h', Tab w h' d (L ++ R) → Heap.SameBut d s.heap h' → Q PUnit.unit { s with heap := h', toks := s.toks + 3 * R.length }) →
    wpAny (model pw w) A (forIn ps PUnit.unit fun (x : Sem Value × Sem Value) (_ : PUnit) => (do let kv ← x.1; let vv ← holding [kv] x.2; holding [kv, vv] (dictSet d kv vv); pure (ForInStep.yield PUnit.unit) : Sem (ForInStep PUnit))) Q E s
  | [], [], L, s, Q, _, T, _, _, hQ => by
    rw [List.forIn_nil]
    have := hQ s.heap (by simpa using T) (Heap.SameBut.refl _ _)
    exact wpAny_pure this
  | p :: ps, r :: R, L, s, Q, hp, T, hn, hl, hQ => by
    rw [List.forIn_cons]
    obtain ⟨⟨hp1, hp2⟩, hps⟩ := hp
    rw [List.length_cons] at hl
    refine wpAny_bind (wpAny_bind (hp1 _ _ _ _ (wpAny_bind (wpAny_holding (hp2 _ _ _ _ ?_)))))
    refine wpAny_bind (wpAny_holding (tab_set (s := { s with toks := s.toks + 1 + 1 }) T ?_ (by omega) fun h1 T1 s1 => wpAny_pure ?_))
    · intro hm
      rw [List.map_append, List.nodup_append] at hn
      exact hn.2.2 _ hm r.1 (by simp) rfl
    · refine sub_long ps R (L ++ [(r.1, r.2)]) _ Q hps T1 (by simpa using hn) (by rw [List.length_append, List.length_singleton]; omega) fun h' T' s' => ?_
      have := hQ h' (by simpa using T') (s1.trans s')
      simp only [List.length_cons, Nat.mul_add] at this
      have e : s.toks + 1 + 1 + 1 + 3 * R.length = s.toks + (3 * R.length + 3 * 1) := by omega
      rw [e]; exact this
  | [], _ :: _, _, _, _, h, _, _, _, _ => h.elim
  | _ :: _, [], _, _, _, h, _, _, _, _ => h.elim

noncomputable def ValsAre : List (Value × Value) → List (Int × Str) → Prop
  | [], [] => True
  | v :: vs, r :: rs => (∃ t u, v = (.int r.1 t, .str r.2 u)) ∧ ValsAre vs rs
  | _, _ => False
theorem sub_pairs {w : World} {A : Around} {E : Value → Shared → Prop} : ∀ (ps : List (Sem Value × Sem Value)) (R : List (Int × Str)) (s : Shared) (Q : List (Value × Value) → Shared → Prop), PairsAre w ps R →
    (∀ vs : List (Value × Value), ValsAre vs R → Q vs { s with toks := s.toks + 2 * R.length }) →
    wpAny (model pw w) A (evalPairs ps) Q E s
  | [], [], s, Q, _, hQ => evalPairs_nil (hQ [] trivial)
  | p :: ps, r :: R, s, Q, hp, hQ => by
    obtain ⟨⟨hp1, hp2⟩, hps⟩ := hp
    obtain ⟨kt, vt⟩ := p
    refine evalPairs_cons (hp1 _ _ _ _ (hp2 _ _ _ _ (sub_pairs ps R _ _ hps fun vs hvs => ?_)))
    have := hQ ((.int r.1 s.toks, .str r.2 (s.toks + 1)) :: vs) ⟨⟨_, _, rfl⟩, hvs⟩
    simp only [List.length_cons, Nat.mul_add] at this
    have e : s.toks + 1 + 1 + 2 * R.length = s.toks + (2 * R.length + 2 * 1) := by omega
    dsimp only
    rw [e]; exact this
  | [], _ :: _, _, _, h, _ => h.elim
  | _ :: _, [], _, _, h, _ => h.elim
theorem sub_short {w : World} {A : Around} {E : Value → Shared → Prop} {d : Addr} : ∀ (vs : List (Value × Value)) (R L : List (Int × Str)) (s : Shared) (Q : PUnit → Shared → Prop), ValsAre vs R → Tab w s.heap d L → ((L ++ R).map (·.1)).Nodup → L.length + R.length ≤ 1000 →
    (∀ h', Tab w h' d (L ++ R) → Heap.SameBut d s.heap h' → Q PUnit.unit { s with heap := h', toks := s.toks + R.length }) →
    wpAny (model pw w) A (forIn vs PUnit.unit fun (x : Value × Value) (_ : PUnit) => (do dictSet d x.1 x.2; pure (ForInStep.yield PUnit.unit) : Sem (ForInStep PUnit))) Q E s
  | [], [], L, s, Q, _, T, _, _, hQ => by
    rw [List.forIn_nil]
    have := hQ s.heap (by simpa using T) (Heap.SameBut.refl _ _)
    exact wpAny_pure this
  | v :: vs, r :: R, L, s, Q, hp, T, hn, hl, hQ => by
    rw [List.forIn_cons]
    obtain ⟨⟨t, u, rfl⟩, hvs⟩ := hp
    rw [List.length_cons] at hl
    refine wpAny_bind (wpAny_bind (tab_set (s := s) T ?_ (by omega) fun h1 T1 s1 => wpAny_pure ?_))
    · intro hm
      rw [List.map_append, List.nodup_append] at hn
      exact hn.2.2 _ hm r.1 (by simp) rfl
    · refine sub_short vs R (L ++ [(r.1, r.2)]) _ Q hvs T1 (by simpa using hn) (by rw [List.length_append, List.length_singleton]; omega) fun h' T' s' => ?_
      have := hQ h' (by simpa using T') (s1.trans s')
      simp only [List.length_cons] at this
      have e : s.toks + 1 + R.length = s.toks + (R.length + 1) := by omega
      dsimp only
      rw [e]; exact this
  | [], _ :: _, _, _, _, h, _, _, _, _ => h.elim
  | _ :: _, [], _, _, _, h, _, _, _, _ => h.elim
theorem ValsAre.length : ∀ {vs : List (Value × Value)} {rs : List (Int × Str)}, ValsAre vs rs → vs.length = rs.length
  | [], [], _ => rfl
  | _ :: _, _ :: _, h => by rw [List.length_cons, List.length_cons, h.2.length]
  | [], _ :: _, h => h.elim
  | _ :: _, [], h => h.elim

theorem sub_dict {w : World} {A : Around} {E : Value → Shared → Prop} {s : Shared} {ps : List (Sem Value × Sem Value)} {R : List (Int × Str)} {Q : Addr → Shared → Prop} (hp : PairsAre w ps R) (hn : (R.map (·.1)).Nodup) (hl : R.length ≤ 1000)
    (hQ : ∀ h', Tab w h' s.heap.objs.size R → Heap.SameBut s.heap.objs.size (s.heap.push emptyDict) h' → Q s.heap.objs.size { s with heap := h', toks := s.toks + 3 * R.length }) :
    wpAny (model pw w) A (subDict ps) Q E s := by
  unfold subDict
  refine wpAny_bind (wpAny_alloc ?_)
  refine wpAny_bind (wpAny_holding ?_)
  by_cases h15 : ps.length ≤ 15
  · rw [if_pos h15]
    refine wpAny_bind (sub_pairs ps R _ _ hp fun vs hvs => ?_)
    refine wpAny_holding (wpAny_bind (sub_short (d := s.heap.objs.size) vs R [] _ _ hvs (Tab.new w s.heap) (by simpa using hn) (by simpa using hl) fun h' T' s' => wpAny_pure (wpAny_pure ?_)))
    have := hQ h' (by simpa using T') s'
    have e : s.toks + 2 * R.length + R.length = s.toks + 3 * R.length := by omega
    dsimp only
    rw [e]; exact this
  · rw [if_neg h15]
    refine wpAny_bind (wpAny_rule ?_)
    exact wpAny_bind (sub_long (d := s.heap.objs.size) ps R [] _ _ hp (Tab.new w s.heap) (by simpa using hn) (by simpa using hl) fun h' T' s' => wpAny_pure (wpAny_pure (hQ h' (by simpa using T') s')))

/-- the state behind some rows of the display: s₀ is the one ahead of it -/
structure Filled (w : World) (s₀ : Shared) (L : List (Int × Str)) (n : Nat) (s : Shared) : Prop where
  tab : Tab w s.heap s₀.heap.objs.size L
  size : s.heap.objs.size = s₀.heap.objs.size + n
  old : ∀ b, b < s₀.heap.objs.size → s.heap.get? b = s₀.heap.get? b
  is : ∃ h, s = { s₀ with heap := h, toks := s₀.toks + 3 * L.length }

theorem flush_first {w : World} {A : Around} {E : Value → Shared → Prop} {s₀ : Shared} {ps : List (Sem Value × Sem Value)} {R : List (Int × Str)} {Q : Addr → Shared → Prop} (hp : PairsAre w ps R) (hn : (R.map (·.1)).Nodup) (hl : R.length ≤ 1000)
    (hQ : ∀ s', Filled w s₀ R 1 s' → Q s₀.heap.objs.size s') : wpAny (model pw w) A (subDict ps) Q E s₀ := by
  refine sub_dict hp hn hl fun h' T' s' => hQ _ ⟨T', ?_, fun b hb => ?_, ⟨h', rfl⟩⟩
  · show h'.objs.size = _
    rw [s'.1, Heap.size_push]
  · show h'.get? b = _
    rw [s'.2 b (Nat.ne_of_lt hb)]
    exact Heap.get?_push_ne _ _ _ (Nat.ne_of_lt hb)

theorem flush_more {w : World} {A : Around} {E : Value → Shared → Prop} {s₀ s : Shared} {ps : List (Sem Value × Sem Value)} {L R : List (Int × Str)} {n : Nat} {Q : Unit → Shared → Prop} (F : Filled w s₀ L n s) (hS : sysModules < s₀.heap.objs.size) (hn0 : 0 < n) (hne : L ≠ [])
    (hp : PairsAre w ps R) (hn : ((L ++ R).map (·.1)).Nodup) (hl : L.length + R.length ≤ 1000)
    (hQ : ∀ s', Filled w s₀ (L ++ R) (n + 1) s' → Q () s') :
    wpAny (model pw w) A (subDict ps) (fun sub s' => wpAny (model pw w) A (mergeMapping s₀.heap.objs.size (.ref sub) false) Q E s') E s := by
  obtain ⟨tab, size, old, h, hs⟩ := F
  refine sub_dict hp (by rw [List.map_append, List.nodup_append] at hn; exact hn.2.1) (by omega) fun h' T' s' => ?_
  have hlt : s₀.heap.objs.size < s.heap.objs.size := by omega
  refine tab_merge (w := w) (s := { s with heap := h', toks := s.toks + 3 * R.length }) (Nat.ne_of_lt hlt) (beq_eq_false_iff_ne.mpr (Nat.ne_of_gt (Nat.lt_trans hS hlt))) ((tab.push _).sameBut s' (Nat.ne_of_lt hlt)) T' hne hn hl fun h2 T2 s2 => hQ _ ⟨T2, ?_, fun b hb => ?_, ⟨h2, ?_⟩⟩
  · show h2.objs.size = _
    rw [s2.1]
    show h'.objs.size = _
    rw [s'.1, Heap.size_push, size]; omega
  · show h2.get? b = _
    rw [s2.2 b (Nat.ne_of_lt hb)]
    show h'.get? b = _
    have hb2 : b ≠ s.heap.objs.size := Nat.ne_of_lt (Nat.lt_trans hb hlt)
    rw [s'.2 b hb2, ← old b hb]
    exact Heap.get?_push_ne _ _ _ hb2
  · subst hs
    simp only [List.length_append, Nat.mul_add, Nat.add_assoc]

theorem display {w : World} {A : Around} {E : Value → Shared → Prop} {s₀ : Shared} {P : List (Sem Value × Sem Value)} {L : List (Int × Str)} {Q : Value → Shared → Prop} (hS : sysModules < s₀.heap.objs.size)
    (hp : PairsAre w P L) (hn : (L.map (·.1)).Nodup) (hl : L.length ≤ 1000) (hl0 : L.length = 17 * (L.length / 17) + 4) (h17 : 0 < L.length / 17)
    (hQ : ∀ s', Filled w s₀ L (L.length / 17 + 1) s' → Q (.ref s₀.heap.objs.size) s') :
    wpAny (model pw w) A (dictDisplay (P.map fun p => (some p.1, p.2))) Q E s₀ := by
  unfold dictDisplay
  dsimp only
  refine wpAny_bind ?_
  refine wpAny_forIn_list _
    (fun rest b s => ∃ L1 P2 L2 P3 L3, L = L1 ++ (L2 ++ L3) ∧ rest = P3.map (fun p => (some p.1, p.2)) ∧ PairsAre w P2 L2 ∧ PairsAre w P3 L3 ∧ L2.length < 17 ∧ L1.length = 17 * (L1.length / 17) ∧ b.2 = P2 ∧
      ((L1 = [] ∧ b.1 = none ∧ s = s₀) ∨ (L1 ≠ [] ∧ b.1 = some s₀.heap.objs.size ∧ Filled w s₀ L1 (L1.length / 17) s))) _ ?_ ?_ _ _
    ⟨[], [], [], P, L, rfl, rfl, trivial, hp, by decide, rfl, rfl, .inl ⟨rfl, rfl, rfl⟩⟩
  · rintro x rest ⟨main, run⟩ s ⟨L1, P2, L2, P3, L3, hL, hr, hp2, hp3, h2, h1, hb2, hcase⟩
    obtain ⟨p, P3', rfl⟩ : ∃ p P3', P3 = p :: P3' := by
      cases P3 with
      | nil => cases hr
      | cons p P3' => exact ⟨p, P3', rfl⟩
    obtain ⟨r, L3', rfl⟩ : ∃ r L3', L3 = r :: L3' := by
      cases L3 with
      | nil => exact hp3.elim
      | cons r L3' => exact ⟨r, L3', rfl⟩
    obtain ⟨hpr, hp3'⟩ := hp3
    rw [List.map_cons, List.cons.injEq] at hr
    obtain ⟨rfl, rfl⟩ := hr
    subst hb2
    dsimp only
    have hp2' := hp2.snoc hpr
    have hl2 : (run ++ [p]).length = (L2 ++ [r]).length := hp2'.length
    have hL' : L = (L1 ++ (L2 ++ [r])) ++ L3' := by rw [hL]; simp
    have hnd : ((L1 ++ (L2 ++ [r])).map (·.1)).Nodup := by
      refine List.Sublist.nodup (List.Sublist.map _ ?_) hn
      rw [hL']; exact List.sublist_append_left _ _
    have hlen : L1.length + (L2 ++ [r]).length ≤ 1000 := by
      have := congrArg List.length hL'
      simp only [List.length_append] at this ⊢
      omega
    by_cases h16 : ((run ++ [(p.1, p.2)]).length == 17) = true
    · have h17' : (L2 ++ [r]).length = 17 := by rw [← hl2]; exact beq_iff_eq.mp h16
      rw [if_pos h16, if_neg (by simp)]
      have hdiv : (L1 ++ (L2 ++ [r])).length / 17 = L1.length / 17 + 1 := by rw [List.length_append, h17']; omega
      have hmul : (L1 ++ (L2 ++ [r])).length = 17 * ((L1 ++ (L2 ++ [r])).length / 17) := by rw [hdiv, List.length_append, h17']; omega
      have hne : L1 ++ (L2 ++ [r]) ≠ [] := by simp
      rcases hcase with ⟨rfl, rfl, rfl⟩ | ⟨hL1, rfl, F⟩
      · dsimp only
        refine wpAny_bind (wpAny_bind (flush_first (w := w) hp2' (by simpa using hnd) (by omega) fun s' F => wpAny_pure (wpAny_pure ?_)))
        refine ⟨[] ++ (L2 ++ [r]), [], [], P3', L3', by rw [hL']; simp, rfl, trivial, hp3', by decide, hmul, rfl, .inr ⟨hne, rfl, ?_⟩⟩
        rw [hdiv]
        simpa using F
      · dsimp only
        refine wpAny_bind (wpAny_bind (wpAny_holding ?_))
        have hn0 : 0 < L1.length / 17 := by
          have : L1.length ≠ 0 := fun e => hL1 (List.length_eq_zero_iff.mp e)
          omega
        refine wpAny_mono (flush_more (w := w) (E := fun _ _ => False) (Q := fun _ s' => Filled w s₀ (L1 ++ (L2 ++ [r])) (L1.length / 17 + 1) s') F hS hn0 hL1 hp2' hnd hlen fun s' F' => F') (fun sub s' h' => ?_) fun _ _ e => e.elim
        refine wpAny_bind (wpAny_onRaise (wpAny_holding (wpAny_mono h' (fun _ s2 F2 => wpAny_pure (wpAny_pure ?_)) fun _ _ e => e.elim)))
        refine ⟨L1 ++ (L2 ++ [r]), [], [], P3', L3', hL', rfl, trivial, hp3', by decide, hmul, rfl, .inr ⟨hne, rfl, ?_⟩⟩
        rw [hdiv]; exact F2
    · rw [if_neg h16]
      refine wpAny_pure ?_
      refine ⟨L1, _, L2 ++ [r], P3', L3', by rw [hL]; simp, rfl, hp2', hp3', ?_, h1, rfl, hcase⟩
      have : (run ++ [(p.1, p.2)]).length ≠ 17 := fun e => h16 (beq_iff_eq.mpr e)
      have e2 : (run ++ [(p.1, p.2)]).length = (L2 ++ [r]).length := hl2
      simp only [List.length_append, List.length_singleton] at this e2 ⊢
      omega
  · rintro ⟨main, run⟩ s ⟨L1, P2, L2, P3, L3, hL, hr, hp2, hp3, h2, h1, hb2, hcase⟩
    obtain rfl : P3 = [] := by
      cases P3 with
      | nil => rfl
      | cons p P3' => cases hr
    obtain rfl : L3 = [] := by
      cases L3 with
      | nil => rfl
      | cons r L3' => exact hp3.elim
    subst hb2
    rw [List.append_nil] at hL
    have hlen := congrArg List.length hL
    rw [List.length_append] at hlen
    have hl2 : L2.length = 4 := by omega
    have hdiv : L.length / 17 = L1.length / 17 := by omega
    have hrun : run.isEmpty = false := by
      have : run.length = 4 := hp2.length.trans hl2
      cases run with
      | nil => cases this
      | cons => rfl
    have hL1 : L1 ≠ [] := by
      rintro rfl
      simp at hdiv
      omega
    rcases hcase with ⟨e, _⟩ | ⟨_, rfl, F⟩
    · exact absurd e hL1
    dsimp only
    rw [if_neg (by rw [hrun]; exact Bool.false_ne_true)]
    have hn0 : 0 < L1.length / 17 := by omega
    refine wpAny_bind (wpAny_bind (wpAny_holding ?_))
    refine wpAny_mono (flush_more (w := w) (E := fun _ _ => False) (Q := fun _ s' => Filled w s₀ (L1 ++ L2) (L1.length / 17 + 1) s') F hS hn0 hL1 hp2 (by rw [← hL]; exact hn) (by omega) fun s' F' => F') (fun sub s' h' => ?_) fun _ _ e => e.elim
    refine wpAny_bind (wpAny_onRaise (wpAny_holding (wpAny_mono h' (fun _ s2 F2 => wpAny_pure (wpAny_pure (hQ _ ?_))) fun _ _ e => e.elim)))
    rw [hdiv, hL]; exact F2
end Mine
end

open PySem PySem.W PySem.Calls PyProof.Rows
set_option Elab.async false
set_option maxRecDepth 100000
set_option linter.unusedVariables false
noncomputable section
namespace Mine
/-- what a display of written ints and texts holds -/
noncomputable def rowsOf : List (Option Expr) → List Expr → Option (List (Int × Str))
  | [], [] => some []
  | some (.Constant (.int k) _ _) :: ks, .Constant (.str x) _ _ :: vs => (rowsOf ks vs).map ((k, x) :: ·)
  | _, _ => none
@[irreducible] def b3parts : List (Option Expr) × List Expr := match stm 6 with
  | .Assign _ (.Dict ks vs _) _ => (ks, vs)
  | _ => ([], [])
@[irreducible] def b3rows : List (Int × Str) := (rowsOf b3parts.1 b3parts.2).getD []
noncomputable def ascending : List Int → Bool
  | a :: b :: r => decide (a < b) && ascending (b :: r)
  | _ => true
theorem ascending_all {a : Int} : ∀ {l : List Int}, ascending (a :: l) = true → ∀ b ∈ l, a < b
  | [], _, b, hb => (nomatch hb)
  | c :: r, h, b, hb => by
    simp only [ascending, Bool.and_eq_true, decide_eq_true_eq] at h
    rcases List.mem_cons.mp hb with rfl | hb
    · exact h.1
    · exact Int.lt_trans h.1 (ascending_all h.2 b hb)
theorem ascending_nodup : ∀ {l : List Int}, ascending l = true → l.Nodup
  | [], _ => List.nodup_nil
  | a :: r, h => by
    rw [List.nodup_cons]
    refine ⟨fun hm => Int.lt_irrefl a (ascending_all h a hm), ascending_nodup ?_⟩
    cases r with
    | nil => rfl
    | cons b r' => simp only [ascending, Bool.and_eq_true] at h; exact h.2
theorem b3_some : ((rowsOf b3parts.1 b3parts.2).isSome && b3rows.length == 650 && ascending (b3rows.map (·.1)) && b3parts.1.all (·.isSome) && b3parts.1.length == b3parts.2.length) = true := by k_qdec
end Mine
end

open PySem PySem.W PySem.Calls PyProof.Rows
set_option Elab.async false
set_option maxRecDepth 100000
set_option linter.unusedVariables false
noncomputable section
namespace Mine
theorem b3_facts : (rowsOf b3parts.1 b3parts.2 = some b3rows) ∧ b3rows.length = 650 ∧ (b3rows.map (·.1)).Nodup ∧ b3parts.1.all (·.isSome) = true ∧ b3parts.1.length = b3parts.2.length := by
  have h := b3_some
  simp only [Bool.and_eq_true, beq_iff_eq] at h
  obtain ⟨⟨⟨⟨h1, h2⟩, h3⟩, h4⟩, h5⟩ := h
  refine ⟨?_, h2, ascending_nodup h3, h4, h5⟩
  obtain ⟨r, hr⟩ := Option.isSome_iff_exists.mp h1
  rw [hr]; unfold b3rows; rw [hr]; rfl
theorem pairs_of_rows {w : World} {env : Env} {pos : Pos} : ∀ (ks : List (Option Expr)) (vs : List Expr) (L : List (Int × Str)), rowsOf ks vs = some L → PairsAre w (pairTrees ks vs env pos) L := by
  intro ks
  induction ks with
  | nil =>
    intro vs L h
    cases vs with
    | nil => simp only [rowsOf, Option.some.injEq] at h; subst h; trivial
    | cons v vs => simp [rowsOf] at h
  | cons k ks ih =>
    intro vs L h
    unfold rowsOf at h
    split at h
    · rename_i e; cases e
    · rename_i e
      injection e with e1 e2
      subst e1 e2
      rw [Option.map_eq_some_iff] at h
      obtain ⟨L', h', rfl⟩ := h
      refine ⟨⟨?_, ?_⟩, ih _ _ h'⟩
      · intro A E s Q hq; exact wpAny_Constant_int (env := env) (k := 0) (pos := pos) hq
      · intro A E s Q hq; exact wpAny_bind (wpAny_Constant_str (env := env) (k := 0) (pos := pos) (wpAny_bind (wpAny_standAt (wpAny_pure hq))))
    · cases h
@[irreducible] def b3pos : Pos := match stm 6 with
  | .Assign _ (.Dict _ _ p) _ => p
  | _ => ⟨0, 0, 0, 0⟩
@[irreducible] def b3p1 : Pos := match stm 6 with
  | .Assign [.Name _ p] _ _ => p
  | _ => ⟨0, 0, 0, 0⟩
@[irreducible] def b3p2 : Pos := match stm 6 with
  | .Assign _ _ p => p
  | _ => ⟨0, 0, 0, 0⟩
theorem stm6_is : stI 6 = .Assign [.Name (Str.ofString "b3_exceptions") b3p1] (.Dict b3parts.1 b3parts.2 b3pos) b3p2 := by kernel_rfl
theorem stm6_plain (e : Env) : swapsWith (.Dict b3parts.1 b3parts.2 b3pos) (some (.Name (Str.ofString "b3_exceptions") b3p1)) b3p2.line e = pure false := rfl

theorem abs_old {P : Params} {X : Nat → Obj} : (List.range 90).map (treecX P X).get = (List.range 90).map (treec P).get := by kernel_rfl
theorem abs_alive {P : Params} : (List.range 90).map (fun i => ((treec P).get i).bind alive) = (List.range 90).map fun i => some (((treec P).get i).getD default) := by kernel_rfl
theorem abs_new {P : Params} {X : Nat → Obj} : (List.range 39).map (fun i => (treecX P X).get (90 + i)) = (List.range 39).map fun i => some (X (90 + i)) := by kernel_rfl
theorem at_range {α : Type} {f g : Nat → α} {n : Nat} (h : (List.range n).map f = (List.range n).map g) (i : Nat) (hi : i < n) : f i = g i := by
  have := congrArg (·[i]?) h
  simpa [List.getElem?_map, List.getElem?_range hi] using this
theorem objs_of_get {h : Heap} {a : Addr} {o : Obj} (e : h.get? a = some o) : h.objs[a]? = some o := by
  unfold Heap.get? at e
  split at e
  · cases e
  · rename_i x hx; rw [← e]
theorem Sc_is {w : World} {l : Life} {os : OsState} : Sc w l os = ⟨treec w.params, 90, l, #[], boot_drawn, 332, os⟩ := by unfold Sc; rfl
theorem ScX_is {w : World} {X : Nat → Obj} {l : Life} {os : OsState} : ScX w X l os = ⟨treecX w.params X, 129, l, #[], boot_drawn, 2282, os⟩ := by unfold ScX; rfl
theorem treec_get {w : World} {l : Life} {os : OsState} {i : Nat} (hi : i < 90) : (Sc w l os).abs.heap.get? i = some (((treec w.params).get i).getD default) := by
  have h1 := at_range (abs_alive (P := w.params)) i hi
  cases hg : (treec w.params).get i with
  | none => rw [hg] at h1; cases h1
  | some o =>
    rw [hg] at h1
    have : (absHeap (treec w.params) 90 l).get? i = alive o := abs_get hi hg
    rw [Sc_is]
    exact this.trans h1
theorem filled_is {w : World} {l : Life} {os : OsState} {L : List (Int × Str)} {s : Shared} (F : Filled w (Sc w l os).abs L 39 s) (hL : L.length = 650) : ∃ X l', s = (ScX w X l' os).abs := by
  obtain ⟨tab, size, old, h, rfl⟩ := F
  have h90 : (Sc w l os).abs.heap.objs.size = 90 := by rw [Sc_is]; exact absHeap_size _ _ _
  rw [h90] at size old
  refine ⟨fun i => (h.objs[i]?).getD default, h.life, ?_⟩
  have eh : h = absHeap (treecX w.params fun i => (h.objs[i]?).getD default) 129 h.life := by
    have : h.objs = (absHeap (treecX w.params fun i => (h.objs[i]?).getD default) 129 h.life).objs := by
      apply Array.ext_getElem?
      intro i
      rw [absHeap_at]
      by_cases hi : i < 129
      · rw [if_pos hi]
        by_cases h9 : i < 90
        · rw [at_range (abs_old (P := w.params) (X := fun i => (h.objs[i]?).getD default)) i h9]
          exact objs_of_get ((old i h9).trans (treec_get h9))
        · have := at_range (abs_new (P := w.params) (X := fun i => (h.objs[i]?).getD default)) (i - 90) (by omega)
          rw [show 90 + (i - 90) = i by omega] at this
          rw [this]
          have hlt : i < h.objs.size := by have : h.objs.size = 90 + 39 := size; omega
          rw [Array.getElem?_eq_getElem hlt]; rfl
      · rw [if_neg hi, Array.getElem?_eq_none]
        have : h.objs.size = 90 + 39 := size
        omega
    cases h with
    | mk objs life => exact congrArg (Heap.mk · life) this
  have et : (Sc w l os).abs.toks + 3 * L.length = 2282 := by rw [hL, Sc_is]; rfl
  rw [et, Sc_is, ScX_is]
  show ({ heap := h, gens := _, drawn := _, toks := _, os := _ } : Shared) = ⟨absHeap (treecX w.params fun i => (h.objs[i]?).getD default) 129 h.life, _, _, _, _⟩
  rw [← eh]; rfl
end Mine
end

open PySem PySem.W PySem.Calls PyProof.Rows
set_option Elab.async false
set_option maxRecDepth 100000
set_option linter.unusedVariables false
noncomputable section
namespace Mine
theorem model_eq (w : World) : model pw w = MT w := by unfold model MT; rw [table_eq_tree]
theorem qLB (w : World) : ∀ (l : Life) (os : OsState) (q p : Pos), LB w l os q p = RB w l os q p :=
  byRow2 "special-get-raises" (P := fun w => ∀ (l : Life) (os : OsState) (q p : Pos), LB w l os q p = RB w l os q p)
    (byRow2 "set-order" (P := fun w => ∀ (l : Life) (os : OsState) (q p : Pos), LB (w.withFollow "special-get-raises" false) l os q p = RB (w.withFollow "special-get-raises" false) l os q p)
      (fun w l os q p => congrFun (congrFun (congrFun (congrFun (congrFun qLB00 w) l) os) q) p) fun w l os q p => congrFun (congrFun (congrFun (congrFun (congrFun qLB10 w) l) os) q) p)
    (byRow2 "set-order" (P := fun w => ∀ (l : Life) (os : OsState) (q p : Pos), LB (w.withFollow "special-get-raises" true) l os q p = RB (w.withFollow "special-get-raises" true) l os q p)
      (fun w l os q p => congrFun (congrFun (congrFun (congrFun (congrFun qLB01 w) l) os) q) p) fun w l os q p => congrFun (congrFun (congrFun (congrFun (congrFun qLB11 w) l) os) q) p) w
def noE : Value → Pos → Shared → Prop := fun _ _ _ => False
theorem wpA (w : World) (l : Life) (os : OsState) (q p : Pos) : Sem.wp (model pw w) (GT q) (execs (stmts.take 4) envT) (fun f _ s' => f = .next ∧ s' = (Sa w l os).abs) noE p (Sp w l os).abs := by
  rw [model_eq]
  exact wp_of_evF (g := id) (congrFun (congrFun (congrFun (congrFun (congrFun qLA w) l) os) q) p)
theorem wpB (w : World) (l : Life) (os : OsState) (q p : Pos) : Sem.wp (model pw w) (GT q) (exec (stI 4) envT) (fun f _ s' => f = .next ∧ s' = (Sb w l os).abs) noE p (Sa w l os).abs := by
  rw [model_eq]
  exact wp_of_evF (g := id) (qLB w l os q p)
theorem wpC (w : World) (l : Life) (os : OsState) (q p : Pos) : Sem.wp (model pw w) (GT q) (exec (stI 5) envT) (fun f _ s' => f = .next ∧ s' = (Sc w l os).abs) noE p (Sb w l os).abs := by
  rw [model_eq]
  exact wp_of_evF (g := id) (congrFun (congrFun (congrFun (congrFun (congrFun qLC w) l) os) q) p)
theorem wpD (w : World) (X : Nat → Obj) (l : Life) (os : OsState) (q p : Pos) : Sem.wp (model pw w) (GT q) (bindName envT (Str.ofString "b3_exceptions") (.ref 90)) (fun f _ s' => s' = (Sd w X l os).abs) noE p (ScX w X l os).abs := by
  rw [model_eq]
  exact Sem.wp_mono _ _ _ (fun _ _ _ h => h.2) (fun _ _ _ h => h) _ _ (wp_of_evF (g := fun _ : Unit => Flow.next) (congrFun (congrFun (congrFun (congrFun (congrFun (congrFun qLD w) X) l) os) q) p))
theorem wpE (w : World) (X : Nat → Obj) (l : Life) (os : OsState) (q p : Pos) : Sem.wp (model pw w) (GT q) (execs (stmts.drop 7) envT) (fun f _ s' => f = .next ∧ s' = (Se w X l os).abs) noE p (Sd w X l os).abs := by
  rw [model_eq]
  exact wp_of_evF (g := id) (congrFun (congrFun (congrFun (congrFun (congrFun (congrFun qLE w) X) l) os) q) p)

def topA : Around := { depth := 10 + claimMargin, frames := none, guards := none, units := 20 }
theorem GT_w1 : (Code.builtin "claim.caller" {}).weight + (Code.body stmts envT).weight ≤ 10 + claimMargin := by decide +kernel
theorem GT_w2 : (Code.body stmts envT).cUnits + unitsOf [((Code.builtin "claim.caller" {}), default)] ≤ 20 := by decide +kernel
theorem GT_in (q : Pos) : (GT q).In topA := by
  refine ⟨rfl, ?_, (fun l hl => by cases hl), (fun g hg => by cases hg), ?_⟩
  · show frameCount [((Code.builtin "claim.caller" {}), q)] + (Code.body stmts envT).weight ≤ 10 + claimMargin
    rw [frameCount_cons]
    exact GT_w1
  · exact GT_w2
theorem eval_dict {w : World} {s₀ : Shared} {A : Around} {E : Value → Shared → Prop} {env : Env} {ks : List (Option Expr)} {vs : List Expr} {L : List (Int × Str)} {pos : Pos} {Q : Value → Shared → Prop} (hS : sysModules < s₀.heap.objs.size)
    (hr : rowsOf ks vs = some L) (hlen : L.length = 650) (hnd : (L.map (·.1)).Nodup) (hall : ks.all (·.isSome) = true) (hl : ks.length = vs.length)
    (hQ : ∀ s', Filled w s₀ L 39 s' → Q (.ref s₀.heap.objs.size) s') : wpAny (model pw w) A (eval (.Dict ks vs pos) env) Q E s₀ := by
  rw [arm_eval_Dict, zip_pairTrees _ _ _ _ hall hl]
  refine wpAny_bind (wpAny_standAt ?_)
  refine display (w := w) (L := L) hS (pairs_of_rows _ _ _ hr) hnd (by omega) (by omega) (by omega) fun s' F => ?_
  rw [hlen] at F
  exact hQ s' F
theorem wp6a {w : World} {l : Life} {os : OsState} {q : Pos} {ks : List (Option Expr)} {vs : List Expr} {L : List (Int × Str)} {pos p1 p2 : Pos} (hs : ∀ e, swapsWith (.Dict ks vs pos) (some (.Name (Str.ofString "b3_exceptions") p1)) p2.line e = pure false)
    (hr : rowsOf ks vs = some L) (hlen : L.length = 650) (hnd : (L.map (·.1)).Nodup) (hall : ks.all (·.isSome) = true) (hl : ks.length = vs.length) (p : Pos) :
    Sem.wp (model pw w) (GT q) (exec (.Assign [.Name (Str.ofString "b3_exceptions") p1] (.Dict ks vs pos) p2) envT) (fun f _ s' => f = .next ∧ ∃ X l', s' = (Sd w X l' os).abs ∧ Tab w (ScX w X l' os).abs.heap 90 L) noE p (Sc w l os).abs := by
  rw [exec_Assign_Name envT _ _ _ _ (hs _)]
  simp only [Sem.wp_bind', Sem.wp_cmd_standAt]
  have h90 : (Sc w l os).abs.heap.objs.size = 90 := by rw [Sc_is]; exact absHeap_size _ _ _
  have hf := fun s' (F : Filled w (Sc w l os).abs L 39 s') => filled_is F hlen
  generalize (Sc w l os).abs = s₀ at h90 hf ⊢
  have hd : wpAny (model pw w) topA (eval (.Dict ks vs pos) envT) (fun v s' => v = .ref 90 ∧ ∃ X l', s' = (ScX w X l' os).abs ∧ Tab w s'.heap 90 L) (fun _ _ => False) s₀ := by
    refine eval_dict (w := w) (by rw [h90]; decide) hr hlen hnd hall hl fun s' F => ?_
    obtain ⟨X, l', e⟩ := hf s' F
    refine ⟨by rw [h90], X, l', e, ?_⟩
    have := F.tab
    rw [h90] at this
    exact this
  refine Sem.wp_mono _ _ _ (fun v p' s' h' => ?_) (fun _ _ _ h => h) _ _ (hd (GT q) _ (GT_in q))
  obtain ⟨rfl, X, l', rfl, T⟩ := h'
  exact Sem.wp_mono _ _ _ (fun _ _ s'' h => ⟨rfl, X, l', h, T⟩) (fun _ _ _ h => h) _ _ (wpD w X l' os q _)
theorem wp6 (w : World) (l : Life) (os : OsState) (q p : Pos) : Sem.wp (model pw w) (GT q) (exec (stI 6) envT) (fun f _ s' => f = .next ∧ ∃ X l', s' = (Sd w X l' os).abs ∧ Tab w (ScX w X l' os).abs.heap 90 b3rows) noE p (Sc w l os).abs := by
  rw [stm6_is]
  exact wp6a stm6_plain b3_facts.1 b3_facts.2.1 b3_facts.2.2.1 b3_facts.2.2.2.1 b3_facts.2.2.2.2 p

theorem wp_execs_append {M : Model} {Γ : Ctx} {env : Env} {Q : Flow → Pos → Shared → Prop} {E : Value → Pos → Shared → Prop} : ∀ (a b : List Stmt) (p : Pos) (s : Shared),
    Sem.wp M Γ (execs a env) (fun f p' s' => f = .next ∧ Sem.wp M Γ (execs b env) Q E p' s') E p s → Sem.wp M Γ (execs (a ++ b) env) Q E p s
  | [], b, p, s, h => by
    rw [execs_nil] at h
    exact h.2
  | st :: a, b, p, s, h => by
    rw [List.cons_append, execs_cons, Sem.wp_bind']
    rw [execs_cons, Sem.wp_bind'] at h
    refine Sem.wp_mono M Γ _ (fun f p' s' h' => ?_) (fun _ _ _ h' => h') _ _ h
    cases f with
    | next => exact wp_execs_append a b p' s' h'
    | brk => cases h'.1
    | cont => cases h'.1
    | ret v => cases h'.1
theorem wp_execs_one {M : Model} {Γ : Ctx} {env : Env} {Q : Flow → Pos → Shared → Prop} {E : Value → Pos → Shared → Prop} (st : Stmt) (b : List Stmt) (p : Pos) (s : Shared)
    (h : Sem.wp M Γ (exec st env) (fun f p' s' => f = .next ∧ Sem.wp M Γ (execs b env) Q E p' s') E p s) : Sem.wp M Γ (execs (st :: b) env) Q E p s := by
  rw [execs_cons, Sem.wp_bind']
  refine Sem.wp_mono M Γ _ (fun f p' s' h' => ?_) (fun _ _ _ h' => h') _ _ h
  obtain ⟨rfl, h'⟩ := h'
  exact h'
theorem stmts_split : stmts = stmts.take 4 ++ (stI 4 :: stI 5 :: stI 6 :: stmts.drop 7) := by kernel_rfl
def TopEnd (w : World) (os : OsState) (s' : Shared) : Prop := ∃ X l', s' = (Se w X l' os).abs ∧ Tab w (ScX w X l' os).abs.heap 90 b3rows
theorem chain {M : Model} {Γ : Ctx} {env : Env} {E : Value → Pos → Shared → Prop} {A R : List Stmt} {b c d : Stmt} {s0 sa sb sc : Shared} {PD QE : Shared → Prop}
    (hA : ∀ p, Sem.wp M Γ (execs A env) (fun f _ s' => f = .next ∧ s' = sa) E p s0) (hb : ∀ p, Sem.wp M Γ (exec b env) (fun f _ s' => f = .next ∧ s' = sb) E p sa)
    (hc : ∀ p, Sem.wp M Γ (exec c env) (fun f _ s' => f = .next ∧ s' = sc) E p sb) (hd : ∀ p, Sem.wp M Γ (exec d env) (fun f _ s' => f = .next ∧ PD s') E p sc)
    (he : ∀ s p, PD s → Sem.wp M Γ (execs R env) (fun f _ s' => f = .next ∧ QE s') E p s) (p : Pos) : Sem.wp M Γ (execs (A ++ (b :: c :: d :: R)) env) (fun f _ s' => f = .next ∧ QE s') E p s0 := by
  refine wp_execs_append _ _ _ _ (Sem.wp_mono _ _ _ (fun f p1 s1 h => ⟨h.1, ?_⟩) (fun _ _ _ h => h) _ _ (hA p))
  obtain ⟨-, rfl⟩ := h
  refine wp_execs_one _ _ _ _ (Sem.wp_mono _ _ _ (fun f p2 s2 h => ⟨h.1, ?_⟩) (fun _ _ _ h => h) _ _ (hb p1))
  obtain ⟨-, rfl⟩ := h
  refine wp_execs_one _ _ _ _ (Sem.wp_mono _ _ _ (fun f p3 s3 h => ⟨h.1, ?_⟩) (fun _ _ _ h => h) _ _ (hc p2))
  obtain ⟨-, rfl⟩ := h
  exact wp_execs_one _ _ _ _ (Sem.wp_mono _ _ _ (fun f p4 s4 h => ⟨h.1, he _ _ h.2⟩) (fun _ _ _ h => h) _ _ (hd p3))
def MidD (w : World) (os : OsState) (s : Shared) : Prop := ∃ X l', s = (Sd w X l' os).abs ∧ Tab w (ScX w X l' os).abs.heap 90 b3rows
theorem wpE' (w : World) (os : OsState) (q : Pos) (s : Shared) (p : Pos) (h : MidD w os s) : Sem.wp (model pw w) (GT q) (execs (stmts.drop 7) envT) (fun f _ s' => f = .next ∧ TopEnd w os s') noE p s := by
  obtain ⟨X, l', rfl, T⟩ := h
  exact Sem.wp_mono _ _ _ (fun f p5 s5 h => ⟨h.1, X, l', h.2, T⟩) (fun _ _ _ h => h) _ _ (wpE w X l' os q p)
theorem wp6' (w : World) (l : Life) (os : OsState) (q p : Pos) : Sem.wp (model pw w) (GT q) (exec (stI 6) envT) (fun f _ s' => f = .next ∧ MidD w os s') noE p (Sc w l os).abs :=
  Sem.wp_mono _ _ _ (fun _ _ _ h => ⟨h.1, h.2⟩) (fun _ _ _ h => h) _ _ (wp6 w l os q p)
theorem wp_body1 (w : World) (l : Life) (os : OsState) (q p : Pos) : Sem.wp (model pw w) (GT q) (execs (stmts.take 4 ++ (stI 4 :: stI 5 :: stI 6 :: stmts.drop 7)) envT) (fun f _ s' => f = .next ∧ TopEnd w os s') noE p (Sp w l os).abs := by
  have hA := wpA w l os q
  have hB := wpB w l os q
  have hC := wpC w l os q
  have hD := wp6' w l os q
  have hE := wpE' w os q
  generalize stmts.take 4 = A at hA ⊢
  generalize stmts.drop 7 = R at hE ⊢
  generalize stI 4 = b at hB ⊢
  generalize stI 5 = c at hC ⊢
  generalize stI 6 = d at hD ⊢
  generalize (Sp w l os).abs = s0 at hA ⊢
  generalize (Sa w l os).abs = sa at hA hB
  generalize (Sb w l os).abs = sb at hB hC
  generalize (Sc w l os).abs = sc at hC hD
  exact chain hA hB hC hD hE p
theorem wp_body (w : World) (l : Life) (os : OsState) (q p : Pos) : Sem.wp (model pw w) (GT q) (execs stmts envT) (fun f _ s' => f = .next ∧ TopEnd w os s') noE p (Sp w l os).abs :=
  Eq.mpr (congrArg (fun st => Sem.wp (model pw w) (GT q) (execs st envT) (fun f _ s' => f = .next ∧ TopEnd w os s') noE p (Sp w l os).abs) stmts_split) (wp_body1 w l os q p)
end Mine
end

open PySem PySem.W PySem.Calls PyProof.Rows
set_option Elab.async false
set_option maxRecDepth 100000
set_option linter.unusedVariables false
noncomputable section
namespace Mine
theorem wpP (w : World) (l : Life) (os : OsState) (p : Pos) : Sem.wp (model pw w) G0 (moduleCode pw.main >>= fun code => newBodyFrame code mainNs mainNs >>= fun frame => (pure (code, frame) : Sem (Value × Addr)))
    (fun v _ s' => v = (.ref 13, 14) ∧ s' = (Sp w l os).abs) noE p (S0 w l os).abs := by
  rw [model_eq]
  refine Sem.wp_mono _ _ _ (fun v _ _ h => ⟨?_, h.2⟩) (fun _ _ _ h => h) _ _ (wp_of_evF (congrFun (congrFun (congrFun (congrFun (congrFun qLP w) l) os) p) p))
  obtain ⟨c, f⟩ := v
  have h1 := h.1
  dsimp only at h1
  cases c with
  | ref c =>
    dsimp only at h1
    split at h1
    · rename_i e
      simp only [Bool.and_eq_true, beq_iff_eq] at e
      rw [e.1, e.2]
    · cases h1
  | _ => cases h1
theorem envT_is : envT = { scope := pw.main.scope, locals := mainNs, globals := mainNs, cells := [], code := .ref 13, frame := some 14 } := by unfold envT; rfl
theorem stmts_is : stmts = behindTheImports pw := by unfold stmts; rfl
theorem anns_no : hasAnns stmts = false := by kernel_rfl
theorem doc_no : docOf stmts = none := by kernel_rfl
theorem wp_run {M : Model} {c : Code} {Q : Flow → Pos → Shared → Prop} {E : Value → Pos → Shared → Prop} {Γ : Ctx} {p : Pos} {s : Shared}
    (h : Sem.wp M (Γ.enter c none p) (M.den c) (Sem.finPost M (Γ.enter c none p) fun r s' => match r with | .ok f => Q f p s' | .error e => E e p s') (fun e _ s' => E e p s') p s) : Sem.wp M Γ (run c) Q E p s := by
  have h2 := (wpCode_iff_wp M (Γ.enter c none p) (fun r s' => match r with | .ok f => Q f p s' | .error e => E e p s') p s).mpr h
  show wpCode M (Γ.enter c none p) _ p s
  exact wpCode_mono (fun r s' h' => by cases r <;> exact h') h2
theorem wp_block {w : World} {b : List Stmt} {env : Env} {Γ : Ctx} {p : Pos} {s : Shared} {R : Result → Shared → Prop} (ha : hasAnns b = false) (hd : docOf b = none)
    (h : Sem.wp (model pw w) Γ (execs b env) (fun f _ s' => R (.ok f) s') noE p s) : Sem.wp (model pw w) Γ (denote table (.body b env)) (Sem.finPost (model pw w) Γ R) (fun e _ s' => R (.error e) s') p s := by
  have hb : blockStart b env = pure () := by
    unfold blockStart
    rw [ha, hd]
    cases interactive env <;> rfl
  show Sem.wp _ Γ (do blockStart b env; return Fin.done (← (execs b env).onRaise (leaving env))) _ _ p s
  rw [hb]
  simp only [Sem.wp_bind', Sem.wp_onRaise]
  show Sem.wp _ Γ (execs b env) _ _ p s
  refine Sem.wp_mono _ _ _ (fun f _ s' h' => h') (fun e p' s' h' => ?_) _ _ h
  exact h'.elim
theorem wp_top (w : World) (l : Life) (os : OsState) (p : Pos) : Sem.wp (model pw w) G0 (topStub pw).cur (fun fin _ s' => fin = .done (.ret .none) ∧ TopEnd w os s') noE p (S0 w l os).abs := by
  have h := wpP w l os p
  show Sem.wp (model pw w) G0 (moduleCode pw.main >>= fun code => newBodyFrame code mainNs mainNs >>= fun frame => run (.body (behindTheImports pw) { scope := pw.main.scope, locals := mainNs, globals := mainNs, cells := [], code, frame := some frame }) >>= fun _ => ret .none) _ _ p _
  simp only [Sem.wp_bind'] at h ⊢
  refine Sem.wp_mono _ _ _ (fun code p1 s1 h1 => ?_) (fun _ _ _ h => h) _ _ h
  refine Sem.wp_mono _ _ _ (fun frame p2 s2 h2 => ?_) (fun _ _ _ h => h) _ _ h1
  obtain ⟨e, rfl⟩ : (code, frame) = (Value.ref 13, 14) ∧ s2 = (Sp w l os).abs := h2
  injection e with e1 e2
  subst e1 e2
  rw [← envT_is, ← stmts_is]
  refine wp_run ?_
  refine wp_block anns_no doc_no ?_
  refine Sem.wp_mono _ _ _ (fun f p3 s3 h3 => ?_) (fun _ _ _ h => h) _ _ (wp_body w l os p2 p2)
  exact ⟨rfl, h3.2⟩
end Mine
end

open PySem PySem.W PySem.Calls PyProof.Rows
set_option Elab.async false
set_option maxRecDepth 100000
set_option linter.unusedVariables false
noncomputable section
namespace Mine
theorem runN_last {den : Code → Sem Fin} {prog : Program} {w : World} : ∀ (n : Nat) (s : Shared) (t : Thread) (o : Outcome) (s' : Shared), runN den prog w n s t = .halted o s' →
    ∃ k s1 t1, runN den prog w k s t = .running s1 t1 ∧ step den prog w s1 t1 = .halt o s'
  | 0, _, _, _, _, h => by cases h
  | n + 1, s, t, o, s', h => by
    unfold runN at h
    cases hs : step den prog w s t with
    | go s2 t2 =>
      rw [hs] at h
      obtain ⟨k, s1, t1, h1, h2⟩ := runN_last n s2 t2 o s' h
      exact ⟨k + 1, s1, t1, by unfold runN; rw [hs]; exact h1, h2⟩
    | halt o2 s2 =>
      rw [hs] at h
      cases h
      exact ⟨0, s, t, rfl, hs⟩
theorem halt_through {den : Code → Sem Fin} {prog : Program} {w : World} {s s' : Shared} {t : Thread} {f : Flow} (h : step den prog w s t = .halt (.done f) s') : s = s' ∧ through t = true := by
  obtain ⟨heap, gens, drawn, toks, os⟩ := s
  obtain ⟨cur, code, pos, stack⟩ := t
  cases cur with
  | pure fin =>
    cases fin with
    | done g =>
      cases stack with
      | nil =>
        simp only [step, finish] at h
        split at h
        · cases h
        · injection h with h1 h2
          exact ⟨h2, rfl⟩
      | cons fr r => cases fr <;> (simp only [step] at h; cases h)
    | again c => simp only [step] at h; cases h
  | _ => simp only [step, finish] at h <;> (repeat' split at h) <;> cases h
theorem top_ran_run {w : World} {s₀ s₁ : Shared} {t : Sem Fin} {P : Shared → Prop} (hz : s₀.asleep) (hg : ∀ s, P s → s.gens = #[])
    (h : ∀ p, Sem.wp (model pw w) G0 t (fun fin _ s' => fin = .done (.ret .none) ∧ P s') noE p s₀) :
    ∃ s', P s' ∧ s'.heap.life = s₀.heap.life ∧ ∃ n t', schedN (denote table) pw w n (.single s₀ ⟨t, .builtin "claim.caller" {}, default, []⟩) = .running (.single s' t') ∧ through t' = true := by
  have h' : Sem.wp (model pw w) ⟨.builtin "claim.caller" {}, none, none, [], none⟩ t (Sem.finPost (model pw w) ⟨.builtin "claim.caller" {}, none, none, [], none⟩ fun r s' => (r = .ok (.ret .none) ∧ P s') ∧ leftWithCleanup s'.gens = false)
      (fun e _ s' => ((Except.error e : Result) = .ok (.ret .none) ∧ P s') ∧ leftWithCleanup s'.gens = false) default s₀ := by
    refine Sem.wp_mono _ _ _ (fun fin p' s' h => ?_) (fun _ _ _ h => h.elim) _ _ (h default)
    obtain ⟨rfl, hP⟩ := h
    exact ⟨⟨rfl, hP⟩, by rw [hg _ hP]; simp [leftWithCleanup]⟩
  obtain ⟨n, r, s', hn, hr, hP⟩ := (wp_iff_halts (M := model pw w) (R := fun r s' => r = .ok (.ret .none) ∧ P s') ..).mp h'
  subst hr
  obtain ⟨s'', hrun, hf, hc⟩ := runNI_real _ _ _ hn (outcomeOf_ends _)
  obtain rfl : s'' = s' := Shared.eq_of_forget_eq hf (hg _ hP)
  have hne : ∀ k s₂, runN (denote table) pw w k s₀ ⟨t, .builtin "claim.caller" {}, default, []⟩ ≠ .halted (.unsupported "lifetime:generator-with-cleanup-left-suspended") s₂ := by
    intro k s₂ hk
    have a := runN_mono (denote table) pw w n k _ _ _ _ hrun
    have b := runN_mono (denote table) pw w k n _ _ _ s₂ hk
    rw [Nat.add_comm, b] at a
    injection a with a1 _
    cases a1
  obtain ⟨k, s1, t1, h1, h2⟩ := runN_last _ _ _ _ _ hrun
  obtain ⟨rfl, ht⟩ := halt_through h2
  refine ⟨s1, hP, runN_life _ _ _ hrun, k, t1, ?_, ht⟩
  have h1' : runN (denote table) pw w k s₀ ⟨t, .builtin "claim.caller" {}, default, []⟩ = .running s1 t1 := h1
  rw [schedN_eq_runN (denote table) pw w s₀ _ hz ⟨hc, hne⟩ k, h1']
  rfl
end Mine
end

open PySem PySem.W PySem.Calls PyProof.Rows
set_option Elab.async false
set_option maxRecDepth 100000
set_option linter.unusedVariables false
noncomputable section
namespace Mine
def qv : Program := { pw with main := { pw.main with body := [stm 20] } }
def looseN : List Str := ["_wall", "HTTPPasswordMgr", "b1_set", "in_table_b1", "b3_exceptions", "map_table_b3", "_law_nothing", "_law_prepared", "_law_word", "_law_words", "_law_rows", "_law_addresses", "_law_prepared_addresses", "_law_above", "_law_due", "_law_bool", "_law_asked"]
def H1 (P : Params) (X : Nat → Obj) (l : Life) : Heap := absHeap (treee P X) 208 l
def F1 (w : World) (X : Nat → Obj) (l : Life) (os : OsState) : Shared := ⟨H1 w.params X l, #[], boot_drawn, 2381, os⟩
def XtN : Shared → Bool := fun _ => true
def LL1 (w : World) (X : Nat → Obj) (l : Life) (os : OsState) : Bool := staticsOk (importedModules pw.main.body) (boot_heap w.params) (H1 w.params X l) && namesBound pw (H1 w.params X l) && gensDone (F1 w X l os) && laidKept (boot_heap w.params) (H1 w.params X l)
def RL1 (w : World) (X : Nat → Obj) (l : Life) (os : OsState) : Bool := true
def LL2 (w : World) (X : Nat → Obj) (l : Life) (os : OsState) := openSeen qv looseN (importedModules pw.main.body) XtN true (F1 w X l os)
def RL2 (w : World) (X : Nat → Obj) (l : Life) (os : OsState) := openGood qv looseN
theorem lay1 : (fun (_ _ : World → (Nat → Obj) → Life → OsState → Bool) => true) LL1 RL1 = true := by k_qdec
end Mine
end
noncomputable section
namespace Mine
theorem lay2 : (fun α (_ _ : World → (Nat → Obj) → Life → OsState → α) => true) _ LL2 RL2 = true := by k_qdec
theorem kLL1 : PySem.W.Fast.tw1626043938497007485 = fun _ _ _ _ => true := by kernel_rfl
theorem qLL1 : LL1 = fun _ _ _ _ => true := PySem.W.Fast.te1626043938497007485.trans kLL1
theorem kLL2 : PySem.W.Fast.tw9983680384338022507 = PySem.W.Fast.tw6758579460816871895 := by kernel_rfl
theorem qLL2 : LL2 = RL2 := PySem.W.Fast.te9983680384338022507.trans (kLL2.trans PySem.W.Fast.te6758579460816871895.symm)
end Mine
end

open PySem PySem.W PySem.Calls PyProof.Rows
set_option Elab.async false
set_option maxRecDepth 100000
set_option linter.unusedVariables false
noncomputable section
namespace Mine
def bootLife : Life := (boot_heap ({ strHash := fun _ => 0, shareClass := fun _ => 0, mergeTok := id, idOf := fun _ => 0, idOfShared := fun _ _ => 0, followText := fun _ => false, idOfImm := fun _ => 0 } : Params)).life
theorem boot_abs (w : World) (os : OsState) : (S0 w bootLife os).abs = ⟨boot_heap w.params, #[], boot_drawn, boot_toks, os⟩ := by kernel_rfl
theorem open_is : opening pw = plainProg pw.main.scope.names := by kernel_rfl
theorem fence_is (s : Shared) : fenceModules? pw s = some s := by kernel_rfl
theorem boot_is (w : World) : (fencedOpening treeTable pw w 600).map (fun s => (s.heap, s.gens, s.drawn, s.toks)) = some (boot_heap w.params, Array.mk [], boot_drawn, boot_toks) := boot_open open_is (by decide) fence_is w
theorem F1_is (w : World) (X : Nat → Obj) (l : Life) (os : OsState) : (Se w X l os).abs = F1 w X l os := by unfold Se; rfl
theorem Tab.of_get {w : World} {h h' : Heap} {a : Addr} {L : List (Int × Str)} (T : Tab w h a L) (e : h'.get? a = h.get? a) : Tab w h' a L := by
  obtain ⟨kvs, ⟨o, es, ep, h1, r⟩, hf⟩ := T
  exact ⟨kvs, ⟨o, es, ep, e.trans h1, r⟩, hf⟩
theorem tree90 (P : Params) (X : Nat → Obj) : (treecX P X).get 90 = (treee P X).get 90 := by kernel_rfl
theorem get90 (P : Params) (X : Nat → Obj) : (treee P X).get 90 = some (X 90) := by kernel_rfl
theorem tab_end {w : World} {X : Nat → Obj} {l : Life} {os : OsState} {L : List (Int × Str)} (T : Tab w (ScX w X l os).abs.heap 90 L) : Tab w (F1 w X l os).heap 90 L := by
  rw [ScX_is] at T
  refine T.of_get ?_
  show (absHeap (treee w.params X) 208 l).get? 90 = (absHeap (treecX w.params X) 129 l).get? 90
  rw [abs_get (by decide) (get90 _ _), abs_get (by decide) ((tree90 _ _).trans (get90 _ _))]
theorem boot_kept (P : Params) (X : Nat → Obj) (l : Life) : [0, 1, 4, 5, 7, 8, 9, 10].map ((H1 P X l).get?) = [0, 1, 4, 5, 7, 8, 9, 10].map ((boot_heap P).get?) := by kernel_rfl
theorem boot_size (P : Params) : (boot_heap P).objs.size = 11 := by kernel_rfl
theorem boot_ann (P : Params) : (boot_heap P).nsMap mainGlobals "__annotations__" = some (.ref 6) := by kernel_rfl
theorem boot_ns (P : Params) : (boot_heap P).isNs mainGlobals = true := by kernel_rfl
theorem boot_life (P : Params) : (boot_heap P).life = bootLife := by kernel_rfl
theorem boot_sleep : bootLife.registered = [] ∧ bootLife.counting = false := ⟨by kernel_rfl, by kernel_rfl⟩
def XPN : (Str → Option Value) → Heap → Prop := fun _ _ => True
theorem chains_ok : chainsOk qv = true := by decide +kernel
theorem cases11 (b : Nat) (h : b < 11) (a : b ≠ 3) (c : b ≠ 2) (d : b ≠ 6) : b = 0 ∨ b = 1 ∨ b = 4 ∨ b = 5 ∨ b = 7 ∨ b = 8 ∨ b = 9 ∨ b = 10 := by omega
structure TopAt (w : World) (s₀ s₁ : Shared) : Prop where
  ran : TopRan pw w s₀ s₁
  sleep : s₁.asleep
  ground : Ground qv looseN [] XPN w s₁ (s₁.heap.nsMap mainGlobals) (s₁.heap.nsMap builtinsNs) s₁.heap
  ns : s₁.heap.isNs mainGlobals = true
  is : ∃ X l os, s₁ = F1 w X l os
  tab : Tab w s₁.heap 90 b3rows
theorem top_behind (w : World) : (∃ s, AfterRun (opening pw) w s) ∧ ∀ s, AfterRun (opening pw) w s → ∃ s₀, fenceModules? pw s = some s₀ ∧ s₀.gens = #[] ∧ ∃ s₁, TopAt w s₀ s₁ := by
  obtain ⟨s, hs, e⟩ := Option.map_eq_some_iff.mp (boot_is w)
  rw [← table_eq_tree] at hs
  obtain ⟨s', h4, h5⟩ := Option.bind_eq_some_iff.mp hs
  have A := AfterImport.of_importEnds h4
  refine ⟨⟨s', A⟩, fun s'' hs'' => ?_⟩
  obtain rfl : s'' = s' := AfterImport.unique hs'' A
  refine ⟨s, h5, ?_, ?_⟩
  · simp only [Prod.mk.injEq] at e
    exact e.2.1
  · obtain ⟨heap, gens, drawn, toks, os⟩ := s
    simp only [Prod.mk.injEq] at e
    obtain ⟨rfl, rfl, rfl, rfl⟩ := e
    have hz : Shared.asleep ⟨boot_heap w.params, Array.mk [], boot_drawn, boot_toks, os⟩ := by
      unfold Shared.asleep
      dsimp only
      rw [boot_life]; exact boot_sleep
    obtain ⟨s₁, ⟨X, l, e1, T⟩, hlife, n, t, hn, ht⟩ := top_ran_run (w := w) (s₀ := ⟨boot_heap w.params, Array.mk [], boot_drawn, boot_toks, os⟩) (s₁ := ⟨boot_heap w.params, Array.mk [], boot_drawn, boot_toks, os⟩) (t := (topStub pw).cur) (P := TopEnd w os) hz
      (by rintro s ⟨X, l, rfl, _⟩; rw [F1_is]; rfl) (fun p => by have := wp_top w bootLife os p; rw [boot_abs] at this; exact this)
    rw [F1_is] at e1
    subst e1
    have hL1 := congrFun (congrFun (congrFun (congrFun qLL1 w) X) l) os
    have hL2 : openSeen qv looseN (importedModules pw.main.body) XtN true (F1 w X l os) = openGood qv looseN := congrFun (congrFun (congrFun (congrFun qLL2 w) X) l) os
    unfold LL1 at hL1
    simp only [Bool.and_eq_true] at hL1
    obtain ⟨⟨⟨l1, l2⟩, l3⟩, l4⟩ := hL1
    obtain ⟨G, g0, g1, g2, g3, g4, g5⟩ := ground_of_open (w := w) (XP := XPN) (fun _ _ => trivial) chains_ok hL2
    refine ⟨F1 w X l os, ⟨⟨n, t, hn, ht⟩, hlife, Shared.rest_eq rfl, fun b o hb hno => ?_, g2, statics_of_ok l1, g3, g4, g5, gens_of_done l3, names_of_bound l2, laid_of_kept l4⟩, ?_, G, g1, ⟨X, l, os, rfl⟩, tab_end T⟩
    · have hb' : (boot_heap w.params).get? b = some o := hb
      have hlt : b < 11 := by rw [← boot_size w.params]; exact Heap.lt_size hb'
      have n3 : b ≠ 3 := fun q => hno (.inl q)
      have n2 : b ≠ 2 := fun q => hno (.inr (.inl q))
      have n6 : b ≠ 6 := fun q => hno (.inr (.inr ((Pin.globalOf_eq (boot_ns w.params) _).trans (by rw [q]; exact boot_ann _))))
      have hk := boot_kept w.params X l
      simp only [List.map_cons, List.map_nil, List.cons.injEq, and_true] at hk
      obtain ⟨k0, k1, k4, k5, k7, k8, k9, k10⟩ := hk
      show (H1 w.params X l).get? b = some o
      have hc := cases11 b hlt n3 n2 n6
      rcases hc with rfl | rfl | rfl | rfl | rfl | rfl | rfl | rfl
      · exact k0.trans hb'
      · exact k1.trans hb'
      · exact k4.trans hb'
      · exact k5.trans hb'
      · exact k7.trans hb'
      · exact k8.trans hb'
      · exact k9.trans hb'
      · exact k10.trans hb'
    · exact Shared.asleep_of_life hlife hz
end Mine
end

open PySem PySem.W PySem.Calls PyProof.Rows
set_option Elab.async false
set_option maxRecDepth 100000
set_option linter.unusedVariables false
noncomputable section
namespace Mine
/-- what a call finds: the top's end, whatever was made since -/
structure Base (w : World) (h : Heap) : Prop where
  ext : ∃ X l, (∀ b o, (H1 w.params X l).get? b = some o → h.get? b = some o) ∧ h.Ns mainGlobals ((H1 w.params X l).nsMap mainGlobals)
  tab : Tab w h 90 b3rows
  nolimit : h.NoLimit
  bl : ∃ mb, h.Ns builtinsNs mb ∧ ∀ x : Str, x ≠ "__name__" → mb x = bootBuiltins x
/-- the state only grew -/
structure Ext (s s' : Shared) : Prop where
  keep : ∀ b o, s.heap.get? b = some o → s'.heap.get? b = some o
  gens : s'.gens = s.gens
  os : s'.os = s.os
theorem Tab.keeps {w : World} {h h' : Heap} {a : Addr} {L : List (Int × Str)} (T : Tab w h a L) (k : ∀ b o, h.get? b = some o → h'.get? b = some o) : Tab w h' a L := by
  obtain ⟨kvs, ⟨o, es, ep, h1, r⟩, hf⟩ := T
  exact ⟨kvs, ⟨o, es, ep, k _ _ h1, r⟩, hf⟩
theorem Base.keeps {w : World} {h h' : Heap} (B : Base w h) (k : ∀ b o, h.get? b = some o → h'.get? b = some o) : Base w h' := by
  obtain ⟨⟨X, l, e, n⟩, t, nl, mb, hb, hm⟩ := B
  exact ⟨⟨X, l, fun b o q => k _ _ (e b o q), n.keeps k⟩, t.keeps k, nl.keeps k, mb, hb.keeps k, hm⟩
def WalkT : Prop := ∀ (w : World) (s : Shared) (a : Addr) (vs : List Value) (ns : List Int), Base w s.heap → s.gens = #[] → s.heap.IsList a vs.toArray → IntsAre vs ns → ns.length ≤ 63 →
  wpAny (model pw w) callerA (PySem.call (.ref 207) [.ref a]) (fun v s' => v = .bool true ∧ Ext s s') (fun _ _ => False) s
theorem law_at (P : Params) (X : Nat → Obj) (l : Life) : (H1 P X l).nsMap mainGlobals (Str.ofString "law") = some (.ref 207) := by kernel_rfl
abbrev rowN : RowW := PySem.Challenge.rw_ny0236_01.row.toRowW
theorem frees_ok : (frees rowN && rowN.within.isEmpty) = true := by decide +kernel
theorem opens_ok : opensWell rowN.prog = true := by decide +kernel
theorem bare_ok : rowN.prog.bare := ⟨rfl, rfl, rfl, rfl, rfl, by decide +kernel⟩
theorem post_ok (args ds : List WData) : rowN.claim.post args (WData.bool true) ds = true := by kernel_rfl
theorem call_good (walk : WalkT) (w : World) (s₀ s₁ s : Shared) (T : TopAt w s₀ s₁) (args : List WData) (vs : List Value) (as : List Addr) (hpre : rowN.claim.pre args = true) (hlay : WData.layableAll args = true) (L : Laid rowN.records w s₁ s args vs as) :
    wpAny (model pw w) callerA (PySem.call (.ref 207) vs) (fun v s' => GoodWG rowN.claim (classAt s₁.heap) (ExcName.means s₁.heap) args s (.ok (.ret v)) s')
      (fun e s' => GoodWG rowN.claim (classAt s₁.heap) (ExcName.means s₁.heap) args s (.error e) s') s := by
  have hgens := L.gens
  have hkeep := L.keeps
  have hB : Base w s.heap := by
    refine Base.keeps (h := s₁.heap) ?_ hkeep
    obtain ⟨X, l, os, e⟩ := T.is
    refine ⟨⟨X, l, ?_, ?_⟩, T.tab, T.ground.T.nolimit, _, T.ground.T.b, T.ground.T.builtins⟩
    · intro b o q; rw [e]; exact q
    · have := T.ground.T.g
      rw [e] at this ⊢
      exact this
  have hrd := L.reads
  have hwl := L.well
  have hlo : ∀ a ∈ as, (a == sysModules) = false := L.low (by
    obtain ⟨X, l, os, e⟩ := T.is
    rw [e]
    show sysModules < (absHeap (treee w.params X) 208 l).objs.size
    rw [absHeap_size]; decide)
  clear L hkeep
  generalize hM : classAt s₁.heap = cl at hrd ⊢
  generalize hM2 : ExcName.means s₁.heap = mean
  clear hM hM2 T
  wrow_args hpre hlay hrd hwl hlo
  rename_i ns _ _ _ _ _ _ _ a vals _ hl _ _ _ hI _ hc _
  refine wpAny_mono (walk w s a vals ns hB hgens hl hI (by omega)) (fun v s' h => ?_) fun _ _ h => h.elim
  obtain ⟨rfl, hE⟩ := h
  refine ⟨.inl ⟨_, .bool true, [], rfl, fun cls => rfl, .bool true, ?_, fun _ => ⟨List.nodup_nil, fun a ha => (nomatch ha)⟩⟩, .of_keep hE.keep, hE.os, .of_eq (hE.gens.trans hgens)⟩
  exact post_ok _ _
theorem defOf_ok : ∃ d kwd, defOf qv rowN.name = some (d, kwd) ∧ pw.theDef rowN.name = some (d.params, d.body, d.scope) ∧ kwWritten? d.params.kwonlyargs d.params.kw_defaults = some kwd := ⟨_, _, rfl, rfl, rfl⟩
theorem holds_row (walk : WalkT) (said : PySem.Challenge.rw_ny0236_01.row.wellSaid = true) (hw : rowN.promised) : PySem.Challenge.rw_ny0236_01.row.Holds := by
  obtain ⟨k5, k6⟩ := Bool.and_eq_true_iff.mp frees_ok
  obtain ⟨hsame, hu, ha, hap, hm⟩ := frees_parts k5
  refine ⟨said, hw, ⟨bare_ok, opens_ok, rfl⟩, hw.witness, fun w => ⟨(top_behind w).1, fun s hs => ?_⟩⟩
  obtain ⟨s₀, hf, hg, s₁, T⟩ := (top_behind w).2 s hs
  obtain ⟨X, l, os, e⟩ := T.is
  have hgens : s₁.gens = #[] := by rw [e]; rfl
  refine ⟨s₀, hf, hg, s₁, T.ran, fun n hn => ?_, (fun x hx => nomatch hx), (fun x hx => nomatch hx), ?_⟩
  · obtain rfl : n = rowN.name := List.mem_singleton.mp hn
    obtain ⟨d, kwd, h1, h2, h3⟩ := defOf_ok
    exact pinned_of_view (p := pw) T.ns T.ground h1 h2 h3
  · refine ClaimW.callFrom_of_specG (c := rowN.claim) T.sleep hgens fun args hpre hlay ord hord => ?_
    obtain ⟨⟨vs, s2⟩, hlaid⟩ := Option.isSome_iff_exists.mp (layAllW_isSome (P := w.params) (ord := ord) T.ground.has args rowN.args s₁ (pre_splitW hpre).1)
    have hal := layAllW_rest _ _ _ hlaid
    obtain ⟨as, hrd, hin, hold⟩ := reads_layAllW hord _ _ _ hlaid hlay s2.heap (fun _ _ e => e)
    have L : Laid rowN.records w s₁ s2 args vs as := ⟨⟨ord, hord, hlaid⟩, hrd, hin, hold, layAllW_keeps _ _ _ hlaid, hal.1.trans hgens, hal.2.2.1⟩
    have hN : s2.heap.Ns mainGlobals (s₁.heap.nsMap mainGlobals) := T.ground.T.g.keeps L.keeps
    refine ⟨vs, s2, hlaid, wpAny_bind (wpAny_nsGet hN ?_)⟩
    have hlaw : s₁.heap.nsMap mainGlobals PySem.Challenge.rw_ny0236_01.row.name = some (.ref 207) := by rw [e]; exact law_at _ _ _
    rw [hlaw]
    refine wpAny_bind (wpAny_mono (call_good walk w s₀ s₁ s2 T args vs as hpre hlay L) (fun v s' g => wpAny_pure ?_) fun e s' g => ?_)
    · have z := g.laid (c := rowN.claim) hsame (List.isEmpty_iff.mp k6) (ident_freeW hu ha hap) L
      exact ⟨_, rfl, z.1, z.2.1, z.2.2, fun q => nomatch q⟩
    · have z := g.laid (c := rowN.claim) hsame (List.isEmpty_iff.mp k6) (ident_freeW hu ha hap) L
      exact ⟨z.1, z.2.1, z.2.2, fun q => nomatch q⟩
set_option maxHeartbeats 4000000 in
theorem holds_law_of (walk : WalkT) : PySem.Challenge.rw_ny0236_01.Holds := by
  w_on
  o_law
  refine holds_row walk (by assumption) ?_
  w_witness2
end Mine
end

open PySem PySem.W PySem.Calls PyProof.Rows
set_option Elab.async false
set_option maxRecDepth 100000
set_option linter.unusedVariables false
noncomputable section
namespace Mine
def P0 : Params := { strHash := fun _ => 0, shareClass := fun _ => 0, mergeTok := id, idOf := fun _ => 0, idOfShared := fun _ _ => 0, followText := fun _ => false, idOfImm := fun _ => 0 }
def fdat (o : Obj) : FuncData := match o.data with | .func f => f | _ => default
structure DefAt (h : Heap) (a : Addr) (fd : FuncData) : Prop where
  obj : ∃ o, h.get? a = some o ∧ o.data = .func fd
  code : h.CodeRec fd.code fd.qualname
def fIn : FuncData := fdat (o89c P0)
theorem get89 (P : Params) (X : Nat → Obj) (l : Life) : (H1 P X l).get? 89 = some (o89c P) := by kernel_rfl
theorem get88 (P : Params) (X : Nat → Obj) (l : Life) : (H1 P X l).get? 88 = some (o88c P) := by kernel_rfl
theorem def_fIn {w : World} {h : Heap} (B : Base w h) : DefAt h 89 fIn := by
  obtain ⟨X, l, e, _⟩ := B.ext
  exact ⟨⟨_, e _ _ (get89 _ _ _), by kernel_rfl⟩, ⟨88, _, _, _, by kernel_rfl, e _ _ (get88 _ _ _), rfl, rfl⟩⟩
def fMap : FuncData := fdat (o135e P0)
theorem get135 (P : Params) (X : Nat → Obj) (l : Life) : (H1 P X l).get? 135 = some (o135e P) := by kernel_rfl
theorem get134 (P : Params) (X : Nat → Obj) (l : Life) : (H1 P X l).get? 134 = some (o134e P) := by kernel_rfl
theorem def_fMap {w : World} {h : Heap} (B : Base w h) : DefAt h 135 fMap := by
  obtain ⟨X, l, e, _⟩ := B.ext
  exact ⟨⟨_, e _ _ (get135 _ _ _), by kernel_rfl⟩, ⟨134, _, _, _, by kernel_rfl, e _ _ (get134 _ _ _), rfl, rfl⟩⟩
def fNo : FuncData := fdat (o142e P0)
theorem get142 (P : Params) (X : Nat → Obj) (l : Life) : (H1 P X l).get? 142 = some (o142e P) := by kernel_rfl
theorem get141 (P : Params) (X : Nat → Obj) (l : Life) : (H1 P X l).get? 141 = some (o141e P) := by kernel_rfl
theorem def_fNo {w : World} {h : Heap} (B : Base w h) : DefAt h 142 fNo := by
  obtain ⟨X, l, e, _⟩ := B.ext
  exact ⟨⟨_, e _ _ (get142 _ _ _), by kernel_rfl⟩, ⟨141, _, _, _, by kernel_rfl, e _ _ (get141 _ _ _), rfl, rfl⟩⟩
def fPrep : FuncData := fdat (o147e P0)
theorem get147 (P : Params) (X : Nat → Obj) (l : Life) : (H1 P X l).get? 147 = some (o147e P) := by kernel_rfl
theorem get146 (P : Params) (X : Nat → Obj) (l : Life) : (H1 P X l).get? 146 = some (o146e P) := by kernel_rfl
theorem def_fPrep {w : World} {h : Heap} (B : Base w h) : DefAt h 147 fPrep := by
  obtain ⟨X, l, e, _⟩ := B.ext
  exact ⟨⟨_, e _ _ (get147 _ _ _), by kernel_rfl⟩, ⟨146, _, _, _, by kernel_rfl, e _ _ (get146 _ _ _), rfl, rfl⟩⟩
def fWord : FuncData := fdat (o154e P0)
theorem get154 (P : Params) (X : Nat → Obj) (l : Life) : (H1 P X l).get? 154 = some (o154e P) := by kernel_rfl
theorem get153 (P : Params) (X : Nat → Obj) (l : Life) : (H1 P X l).get? 153 = some (o153e P) := by kernel_rfl
theorem def_fWord {w : World} {h : Heap} (B : Base w h) : DefAt h 154 fWord := by
  obtain ⟨X, l, e, _⟩ := B.ext
  exact ⟨⟨_, e _ _ (get154 _ _ _), by kernel_rfl⟩, ⟨153, _, _, _, by kernel_rfl, e _ _ (get153 _ _ _), rfl, rfl⟩⟩
def fWords : FuncData := fdat (o161e P0)
theorem get161 (P : Params) (X : Nat → Obj) (l : Life) : (H1 P X l).get? 161 = some (o161e P) := by kernel_rfl
theorem get160 (P : Params) (X : Nat → Obj) (l : Life) : (H1 P X l).get? 160 = some (o160e P) := by kernel_rfl
theorem def_fWords {w : World} {h : Heap} (B : Base w h) : DefAt h 161 fWords := by
  obtain ⟨X, l, e, _⟩ := B.ext
  exact ⟨⟨_, e _ _ (get161 _ _ _), by kernel_rfl⟩, ⟨160, _, _, _, by kernel_rfl, e _ _ (get160 _ _ _), rfl, rfl⟩⟩
def fRows : FuncData := fdat (o166e P0)
theorem get166 (P : Params) (X : Nat → Obj) (l : Life) : (H1 P X l).get? 166 = some (o166e P) := by kernel_rfl
theorem get165 (P : Params) (X : Nat → Obj) (l : Life) : (H1 P X l).get? 165 = some (o165e P) := by kernel_rfl
theorem def_fRows {w : World} {h : Heap} (B : Base w h) : DefAt h 166 fRows := by
  obtain ⟨X, l, e, _⟩ := B.ext
  exact ⟨⟨_, e _ _ (get166 _ _ _), by kernel_rfl⟩, ⟨165, _, _, _, by kernel_rfl, e _ _ (get165 _ _ _), rfl, rfl⟩⟩
def fAddr : FuncData := fdat (o171e P0)
theorem get171 (P : Params) (X : Nat → Obj) (l : Life) : (H1 P X l).get? 171 = some (o171e P) := by kernel_rfl
theorem get170 (P : Params) (X : Nat → Obj) (l : Life) : (H1 P X l).get? 170 = some (o170e P) := by kernel_rfl
theorem def_fAddr {w : World} {h : Heap} (B : Base w h) : DefAt h 171 fAddr := by
  obtain ⟨X, l, e, _⟩ := B.ext
  exact ⟨⟨_, e _ _ (get171 _ _ _), by kernel_rfl⟩, ⟨170, _, _, _, by kernel_rfl, e _ _ (get170 _ _ _), rfl, rfl⟩⟩
def fPadr : FuncData := fdat (o176e P0)
theorem get176 (P : Params) (X : Nat → Obj) (l : Life) : (H1 P X l).get? 176 = some (o176e P) := by kernel_rfl
theorem get175 (P : Params) (X : Nat → Obj) (l : Life) : (H1 P X l).get? 175 = some (o175e P) := by kernel_rfl
theorem def_fPadr {w : World} {h : Heap} (B : Base w h) : DefAt h 176 fPadr := by
  obtain ⟨X, l, e, _⟩ := B.ext
  exact ⟨⟨_, e _ _ (get176 _ _ _), by kernel_rfl⟩, ⟨175, _, _, _, by kernel_rfl, e _ _ (get175 _ _ _), rfl, rfl⟩⟩
def fAbove : FuncData := fdat (o183e P0)
theorem get183 (P : Params) (X : Nat → Obj) (l : Life) : (H1 P X l).get? 183 = some (o183e P) := by kernel_rfl
theorem get182 (P : Params) (X : Nat → Obj) (l : Life) : (H1 P X l).get? 182 = some (o182e P) := by kernel_rfl
theorem def_fAbove {w : World} {h : Heap} (B : Base w h) : DefAt h 183 fAbove := by
  obtain ⟨X, l, e, _⟩ := B.ext
  exact ⟨⟨_, e _ _ (get183 _ _ _), by kernel_rfl⟩, ⟨182, _, _, _, by kernel_rfl, e _ _ (get182 _ _ _), rfl, rfl⟩⟩
def fDue : FuncData := fdat (o188e P0)
theorem get188 (P : Params) (X : Nat → Obj) (l : Life) : (H1 P X l).get? 188 = some (o188e P) := by kernel_rfl
theorem get187 (P : Params) (X : Nat → Obj) (l : Life) : (H1 P X l).get? 187 = some (o187e P) := by kernel_rfl
theorem def_fDue {w : World} {h : Heap} (B : Base w h) : DefAt h 188 fDue := by
  obtain ⟨X, l, e, _⟩ := B.ext
  exact ⟨⟨_, e _ _ (get188 _ _ _), by kernel_rfl⟩, ⟨187, _, _, _, by kernel_rfl, e _ _ (get187 _ _ _), rfl, rfl⟩⟩
def fBool : FuncData := fdat (o195e P0)
theorem get195 (P : Params) (X : Nat → Obj) (l : Life) : (H1 P X l).get? 195 = some (o195e P) := by kernel_rfl
theorem get194 (P : Params) (X : Nat → Obj) (l : Life) : (H1 P X l).get? 194 = some (o194e P) := by kernel_rfl
theorem def_fBool {w : World} {h : Heap} (B : Base w h) : DefAt h 195 fBool := by
  obtain ⟨X, l, e, _⟩ := B.ext
  exact ⟨⟨_, e _ _ (get195 _ _ _), by kernel_rfl⟩, ⟨194, _, _, _, by kernel_rfl, e _ _ (get194 _ _ _), rfl, rfl⟩⟩
def fAsked : FuncData := fdat (o200e P0)
theorem get200 (P : Params) (X : Nat → Obj) (l : Life) : (H1 P X l).get? 200 = some (o200e P) := by kernel_rfl
theorem get199 (P : Params) (X : Nat → Obj) (l : Life) : (H1 P X l).get? 199 = some (o199e P) := by kernel_rfl
theorem def_fAsked {w : World} {h : Heap} (B : Base w h) : DefAt h 200 fAsked := by
  obtain ⟨X, l, e, _⟩ := B.ext
  exact ⟨⟨_, e _ _ (get200 _ _ _), by kernel_rfl⟩, ⟨199, _, _, _, by kernel_rfl, e _ _ (get199 _ _ _), rfl, rfl⟩⟩
def fLaw : FuncData := fdat (o207e P0)
theorem get207 (P : Params) (X : Nat → Obj) (l : Life) : (H1 P X l).get? 207 = some (o207e P) := by kernel_rfl
theorem get206 (P : Params) (X : Nat → Obj) (l : Life) : (H1 P X l).get? 206 = some (o206e P) := by kernel_rfl
theorem def_fLaw {w : World} {h : Heap} (B : Base w h) : DefAt h 207 fLaw := by
  obtain ⟨X, l, e, _⟩ := B.ext
  exact ⟨⟨_, e _ _ (get207 _ _ _), by kernel_rfl⟩, ⟨206, _, _, _, by kernel_rfl, e _ _ (get206 _ _ _), rfl, rfl⟩⟩
def fInit : FuncData := fdat (o35a P0)
theorem get35 (P : Params) (X : Nat → Obj) (l : Life) : (H1 P X l).get? 35 = some (o35a P) := by kernel_rfl
theorem get34 (P : Params) (X : Nat → Obj) (l : Life) : (H1 P X l).get? 34 = some (o34a P) := by kernel_rfl
theorem def_fInit {w : World} {h : Heap} (B : Base w h) : DefAt h 35 fInit := by
  obtain ⟨X, l, e, _⟩ := B.ext
  exact ⟨⟨_, e _ _ (get35 _ _ _), by kernel_rfl⟩, ⟨34, _, _, _, by kernel_rfl, e _ _ (get34 _ _ _), rfl, rfl⟩⟩
def fSub : FuncData := fdat (o64a P0)
theorem get64 (P : Params) (X : Nat → Obj) (l : Life) : (H1 P X l).get? 64 = some (o64a P) := by kernel_rfl
theorem get63 (P : Params) (X : Nat → Obj) (l : Life) : (H1 P X l).get? 63 = some (o63a P) := by kernel_rfl
theorem def_fSub {w : World} {h : Heap} (B : Base w h) : DefAt h 64 fSub := by
  obtain ⟨X, l, e, _⟩ := B.ext
  exact ⟨⟨_, e _ _ (get64 _ _ _), by kernel_rfl⟩, ⟨63, _, _, _, by kernel_rfl, e _ _ (get63 _ _ _), rfl, rfl⟩⟩
theorem g_in_table_b1 (P : Params) (X : Nat → Obj) (l : Life) : (H1 P X l).nsMap mainGlobals (Str.ofString "in_table_b1") = some (.ref 89) := by kernel_rfl
theorem g_map_table_b3 (P : Params) (X : Nat → Obj) (l : Life) : (H1 P X l).nsMap mainGlobals (Str.ofString "map_table_b3") = some (.ref 135) := by kernel_rfl
theorem g_law_nothing (P : Params) (X : Nat → Obj) (l : Life) : (H1 P X l).nsMap mainGlobals (Str.ofString "_law_nothing") = some (.ref 142) := by kernel_rfl
theorem g_law_prepared (P : Params) (X : Nat → Obj) (l : Life) : (H1 P X l).nsMap mainGlobals (Str.ofString "_law_prepared") = some (.ref 147) := by kernel_rfl
theorem g_law_word (P : Params) (X : Nat → Obj) (l : Life) : (H1 P X l).nsMap mainGlobals (Str.ofString "_law_word") = some (.ref 154) := by kernel_rfl
theorem g_law_words (P : Params) (X : Nat → Obj) (l : Life) : (H1 P X l).nsMap mainGlobals (Str.ofString "_law_words") = some (.ref 161) := by kernel_rfl
theorem g_law_rows (P : Params) (X : Nat → Obj) (l : Life) : (H1 P X l).nsMap mainGlobals (Str.ofString "_law_rows") = some (.ref 166) := by kernel_rfl
theorem g_law_addresses (P : Params) (X : Nat → Obj) (l : Life) : (H1 P X l).nsMap mainGlobals (Str.ofString "_law_addresses") = some (.ref 171) := by kernel_rfl
theorem g_law_prepared_addresses (P : Params) (X : Nat → Obj) (l : Life) : (H1 P X l).nsMap mainGlobals (Str.ofString "_law_prepared_addresses") = some (.ref 176) := by kernel_rfl
theorem g_law_above (P : Params) (X : Nat → Obj) (l : Life) : (H1 P X l).nsMap mainGlobals (Str.ofString "_law_above") = some (.ref 183) := by kernel_rfl
theorem g_law_due (P : Params) (X : Nat → Obj) (l : Life) : (H1 P X l).nsMap mainGlobals (Str.ofString "_law_due") = some (.ref 188) := by kernel_rfl
theorem g_law_bool (P : Params) (X : Nat → Obj) (l : Life) : (H1 P X l).nsMap mainGlobals (Str.ofString "_law_bool") = some (.ref 195) := by kernel_rfl
theorem g_law_asked (P : Params) (X : Nat → Obj) (l : Life) : (H1 P X l).nsMap mainGlobals (Str.ofString "_law_asked") = some (.ref 200) := by kernel_rfl
theorem g_b1_set (P : Params) (X : Nat → Obj) (l : Life) : (H1 P X l).nsMap mainGlobals (Str.ofString "b1_set") = some (.ref 79) := by kernel_rfl
theorem g_b3_exceptions (P : Params) (X : Nat → Obj) (l : Life) : (H1 P X l).nsMap mainGlobals (Str.ofString "b3_exceptions") = some (.ref 90) := by kernel_rfl
theorem g_HTTPPasswordMgr (P : Params) (X : Nat → Obj) (l : Life) : (H1 P X l).nsMap mainGlobals (Str.ofString "HTTPPasswordMgr") = some (.ref 67) := by kernel_rfl
theorem n_ord (P : Params) (X : Nat → Obj) (l : Life) : (H1 P X l).nsMap mainGlobals (Str.ofString "ord") = none := by kernel_rfl
theorem b_ord : bootBuiltins (Str.ofString "ord") = some (.builtin "ord") := by decide +kernel
theorem n_chr (P : Params) (X : Nat → Obj) (l : Life) : (H1 P X l).nsMap mainGlobals (Str.ofString "chr") = none := by kernel_rfl
theorem b_chr : bootBuiltins (Str.ofString "chr") = some (.builtin "chr") := by decide +kernel
theorem n_list (P : Params) (X : Nat → Obj) (l : Life) : (H1 P X l).nsMap mainGlobals (Str.ofString "list") = none := by kernel_rfl
theorem b_list : bootBuiltins (Str.ofString "list") = some (.type "list") := by decide +kernel
theorem n_range (P : Params) (X : Nat → Obj) (l : Life) : (H1 P X l).nsMap mainGlobals (Str.ofString "range") = none := by kernel_rfl
theorem b_range : bootBuiltins (Str.ofString "range") = some (.type "range") := by decide +kernel
theorem n_len (P : Params) (X : Nat → Obj) (l : Life) : (H1 P X l).nsMap mainGlobals (Str.ofString "len") = none := by kernel_rfl
theorem b_len : bootBuiltins (Str.ofString "len") = some (.builtin "len") := by decide +kernel
theorem n_isinstance (P : Params) (X : Nat → Obj) (l : Life) : (H1 P X l).nsMap mainGlobals (Str.ofString "isinstance") = none := by kernel_rfl
theorem b_isinstance : bootBuiltins (Str.ofString "isinstance") = some (.builtin "isinstance") := by decide +kernel
theorem n_bool (P : Params) (X : Nat → Obj) (l : Life) : (H1 P X l).nsMap mainGlobals (Str.ofString "bool") = none := by kernel_rfl
theorem b_bool : bootBuiltins (Str.ofString "bool") = some (.type "bool") := by decide +kernel
end Mine
end

open PySem PySem.W PySem.Calls PyProof.Rows
set_option Elab.async false
set_option maxRecDepth 100000
set_option linter.unusedVariables false
noncomputable section
namespace Mine
abbrev NE : Value → Shared → Prop := fun _ _ => False
/-- room for k calls more -/
structure Room (A : Around) (k : Nat) : Prop where
  depth : A.depth + k ≤ 900
  units : A.units + 4 * k ≤ 9000
  handled : A.handled = none
theorem Room.deeper {A : Around} {k : Nat} (R : Room A (k + 1)) (env : Env) : Room (A.deeper env) k := by
  obtain ⟨h1, h2, h3⟩ := R
  refine ⟨?_, ?_, h3⟩
  · show A.depth + 1 + k ≤ 900
    omega
  · show A.units + 3 + 4 * k ≤ 9000
    omega
theorem Room.less {A : Around} {k j : Nat} (R : Room A k) (h : j ≤ k) : Room A j := ⟨by have := R.depth; omega, by have := R.units; omega, R.handled⟩
theorem Room.lt {A : Around} {k : Nat} (R : Room A k) : A.depth < recursionLimit := by have := R.depth; show A.depth < 1000; omega
theorem Room.line {A : Around} {k : Nat} (R : Room A k) : A.units + 64 < cLine := by have := R.units; show A.units + 64 < 9900; omega

/-- the heap only grew -/
structure Kp (s s' : Shared) : Prop where
  same : ∃ h tk, s' = { s with heap := h, toks := tk }
  get : ∀ b o, s.heap.get? b = some o → s'.heap.get? b = some o
theorem Kp.refl (s : Shared) : Kp s s := ⟨⟨s.heap, s.toks, rfl⟩, fun _ _ e => e⟩
theorem Kp.trans {a b c : Shared} (x : Kp a b) (y : Kp b c) : Kp a c := by
  obtain ⟨⟨h1, t1, rfl⟩, k1⟩ := x
  obtain ⟨⟨h2, t2, rfl⟩, k2⟩ := y
  exact ⟨⟨h2, t2, rfl⟩, fun b o e => k2 b o (k1 b o e)⟩
theorem Kp.tok {a b : Shared} (x : Kp a b) (t : Nat) : Kp a { b with toks := t } := by
  obtain ⟨⟨h1, t1, rfl⟩, k1⟩ := x
  exact ⟨⟨h1, t, rfl⟩, k1⟩
theorem Kp.base {w : World} {a b : Shared} (x : Kp a b) (B : Base w a.heap) : Base w b.heap := B.keeps x.get
theorem Kp.push {a b : Shared} (x : Kp a b) (o : Obj) : Kp a { b with heap := b.heap.push o } := by
  obtain ⟨⟨h1, t1, rfl⟩, k1⟩ := x
  exact ⟨⟨_, _, rfl⟩, fun p q e => Heap.get?_push_of_some _ (k1 p q e)⟩
theorem Kp.heap {a b : Shared} (x : Kp a b) {h : Heap} {t : Nat} (k : ∀ p o, b.heap.get? p = some o → h.get? p = some o) : Kp a { b with heap := h, toks := t } := by
  obtain ⟨⟨h1, t1, rfl⟩, k1⟩ := x
  exact ⟨⟨_, _, rfl⟩, fun p q e => k _ _ (k1 p q e)⟩
theorem Kp.ext {a b : Shared} (x : Kp a b) : Ext a b := by
  obtain ⟨⟨h1, t1, rfl⟩, k1⟩ := x
  exact ⟨k1, rfl, rfl⟩
theorem Kp.of {a b : Shared} (x : Keeps a b) : Kp a b := by
  obtain ⟨h, t, rfl, k⟩ := x
  exact ⟨⟨h, t, rfl⟩, k⟩
theorem Kp.to {a b : Shared} (x : Kp a b) : Keeps a b := by
  obtain ⟨⟨h1, t1, rfl⟩, k1⟩ := x
  exact ⟨h1, t1, rfl, k1⟩

/-- in a frame of a def: s₀ is the state ahead of the call, L its names -/
structure Fm (s₀ : Shared) (L : Addr) (m : Str → Option Value) (s : Shared) : Prop where
  same : ∃ h tk, s = { s₀ with heap := h, toks := tk }
  ns : s.heap.Ns L m
  keep : ∀ b o, s₀.heap.get? b = some o → s.heap.get? b = some o
  fresh : s₀.heap.objs.size ≤ L
theorem Fm.keeps {s₀ s : Shared} {L : Addr} {m : Str → Option Value} (F : Fm s₀ L m s) : Kp s₀ s := ⟨F.same, F.keep⟩
theorem Fm.on {s₀ s s' : Shared} {L : Addr} {m : Str → Option Value} (F : Fm s₀ L m s) (k : Kp s s') : Fm s₀ L m s' := by
  obtain ⟨h, tk, rfl⟩ := F.same
  obtain ⟨⟨h', tk', rfl⟩, k'⟩ := k
  exact ⟨⟨h', tk', rfl⟩, F.ns.keeps k', fun b o e => k' _ _ (F.keep b o e), F.fresh⟩
theorem Fm.base {w : World} {s₀ s : Shared} {L : Addr} {m : Str → Option Value} (F : Fm s₀ L m s) (B : Base w s₀.heap) : Base w s.heap := F.keeps.base B

section
variable {w : World} {A : Around} {E : Value → Shared → Prop} {s : Shared}
theorem call_own {a : Addr} {fd : FuncData} {vals : List Value} {Q : Value → Shared → Prop} {k : Nat} (B : Base w s.heap) (D : DefAt s.heap a fd) (R : Room A k) (body : List Stmt) (binds : List (Str × Value))
    (h : ∀ s₁ L, Fm s L (fun x => binds.reverse.lookup x) s₁ →
      wpAny (model pw w) (A.deeper (callEnv fd L a)) (execs body (callEnv fd L a)) (fun f s' => Q (match f with | .ret v => v | _ => .none) s') NE s₁)
    (hbody : fd.body = .stmts body := by kernel_rfl) (hbind : bindArgs fd ⟨vals, []⟩ = pure binds := by kernel_rfl)
    (hcell : (fd.scope.names.all fun x => x.2 != .cell) = true := by kernel_rfl) (hloc : (binds.all fun x => fd.scope.names.lookup x.1 == some .local) = true := by kernel_rfl)
    (hsc : (fd.scope.isCoroutine, fd.scope.isGenerator, fd.scope.kind) = (false, false, .function) := by kernel_rfl) :
    wpAny (model pw w) A (PySem.call (.ref a) vals) Q E s := by
  obtain ⟨o, ho, hd⟩ := D.obj
  simp only [Prod.mk.injEq] at hsc
  refine wpAny_call (codeAny_call_def R.lt ho hd B.nolimit D.code hbody (.of_eq hbind) (fun x hx => ?_) (fun x hx => ?_) (fun h₀ hn hk => ?_) hsc.1 hsc.2.1 hsc.2.2)
  · have := List.all_eq_true.mp hcell x hx
    simpa using this
  · have := List.all_eq_true.mp hloc x hx
    simpa using this
  · refine wpAny_mono (h { s with heap := h₀, toks := s.toks + binds.length } s.heap.objs.size ⟨⟨_, _, rfl⟩, hn, hk, Nat.le_refl _⟩) (fun f s' q => q) (fun e s' q => q.elim)

variable {s₀ : Shared} {L a : Addr} {m : Str → Option Value} {fd : FuncData} {Q : Value → Shared → Prop} {x : Str} {pos : Pos}
theorem nm_local (F : Fm s₀ L m s) (v : Value) (h : Q v s) (hv : m x = some v := by kernel_rfl) (hk : fd.scope.kind = .function := by kernel_rfl) (hl : fd.scope.names.lookup x = some .local := by kernel_rfl) (hd : (x == ("__debug__" : Str)) = false := by kernel_rfl) :
    wpAny (model pw w) A (eval (.Name x pos) (callEnv fd L a)) Q E s := ldc hk hl F.ns hv h hd
theorem nm_glob {v : Value} (B : Base w s.heap) (hv : ∀ P X l, (H1 P X l).nsMap mainGlobals x = some v) (h : Q v s) (hk : fd.scope.kind = .function := by kernel_rfl) (hl : fd.scope.names.lookup x = some .globalImplicit := by kernel_rfl) (hg : fd.globals = mainGlobals := by kernel_rfl) (hd : (x == ("__debug__" : Str)) = false := by kernel_rfl) :
    wpAny (model pw w) A (eval (.Name x pos) (callEnv fd L a)) Q E s := by
  obtain ⟨X, l, _, hn⟩ := B.ext
  exact Name_function_global hk hl (loadGlobal_global (env := callEnv fd L a) (by show s.heap.Ns fd.globals _; rw [hg]; exact hn) (hv _ _ _) h) hd
theorem nm_built {v : Value} (B : Base w s.heap) (hm : ∀ P X l, (H1 P X l).nsMap mainGlobals x = none) (hv : bootBuiltins x = some v) (h : Q v s) (hx : (x == ("__name__" : Str)) = false := by kernel_rfl) (hk : fd.scope.kind = .function := by kernel_rfl) (hl : fd.scope.names.lookup x = some .globalImplicit := by kernel_rfl) (hg : fd.globals = mainGlobals := by kernel_rfl) (hb : fd.builtins = builtinsNs := by kernel_rfl) (hd : (x == ("__debug__" : Str)) = false := by kernel_rfl) :
    wpAny (model pw w) A (eval (.Name x pos) (callEnv fd L a)) Q E s := by
  obtain ⟨X, l, _, hn⟩ := B.ext
  obtain ⟨mb, hb2, hb3⟩ := B.bl
  refine Name_function_global hk hl (loadGlobal_builtin (env := callEnv fd L a) (by show s.heap.Ns fd.globals _; rw [hg]; exact hn) (hm _ _ _) (by show s.heap.Ns fd.builtins _; rw [hb]; exact hb2) ?_ h) hd
  rw [hb3 x (by simpa using hx)]; exact hv
/-- a store of a local name -/
theorem st_local {v : Value} {Q : Unit → Shared → Prop} (F : Fm s₀ L m s) (h : ∀ s', Fm s₀ L (fun y => if y = x then some v else m y) s' → Heap.SameBut L s.heap s'.heap → Q () s') (hk : fd.scope.kind = .function := by kernel_rfl) (hl : fd.scope.names.lookup x = some .local := by kernel_rfl) :
    wpAny (model pw w) A (storeName (callEnv fd L a) x v) Q E s := by
  refine wpAny_storeName_local (env := callEnv fd L a) hl F.ns (fun h' hn' hs' => h _ ⟨?_, hn', fun b o e => ?_, F.fresh⟩ hs') (by show (fd.scope.kind == .class || (fd.scope.kind == .module && _)) = false; rw [hk]; rfl)
  · obtain ⟨h₁, tk, rfl⟩ := F.same
    exact ⟨h', _, rfl⟩
  · exact hs'.extBut b o (Nat.ne_of_lt (Nat.lt_of_lt_of_le (Heap.lt_size e) F.fresh)) (F.keep b o e)
end

/-! in_table_b1 -/
def nothingL : List Int := [173, 847, 6150, 6155, 6156, 6157, 8203, 8204, 8205, 8288, 65279, 65024, 65025, 65026, 65027, 65028, 65029, 65030, 65031, 65032, 65033, 65034, 65035, 65036, 65037, 65038, 65039]
def isB1 (c : Nat) : Bool := nothingL.contains (c : Int)
def ofCp (c : Nat) : Str := ⟨#[c]⟩
theorem get79 (P : Params) (X : Nat → Obj) (l : Life) : (H1 P X l).get? 79 = some (o79b P) := by kernel_rfl
theorem int_is (w : World) (k : Int) (t : Tok) : (intKind pw w).is k (.int k t) = true := by simp [intKind, Value.isInt]
theorem elems_of {w : World} (l : List (Int × Value)) (h : l.all (fun e => match e.2 with | .int k _ => e.1 == hashInt k | _ => false) = true) : ElemsOf (intKind pw w) l := by
  intro e he
  have := List.all_eq_true.mp h e he
  obtain ⟨h1, v⟩ := e
  cases v with
  | int k t => exact ⟨⟨k, int_is w k t, (beq_iff_eq.mp this : h1 = hashInt k)⟩, rfl⟩
  | _ => cases this
theorem mem_of {w : World} (l : List (Int × Value)) (h1 : (nothingL.all fun k => l.any fun e => Value.isInt k e.2) = true) (h2 : l.all (fun e => match e.2 with | .int k _ => nothingL.contains k | _ => false) = true) (k : Int) :
    nothingL.contains k = true ↔ ∃ e ∈ l, (intKind pw w).is k e.2 = true := by
  constructor
  · intro h
    have := List.all_eq_true.mp h1 k (List.contains_iff_mem.mp h)
    obtain ⟨e, he, hk⟩ := List.any_eq_true.mp this
    exact ⟨e, he, hk⟩
  · rintro ⟨e, he, hk⟩
    have := List.all_eq_true.mp h2 e he
    obtain ⟨hh, v⟩ := e
    cases v with
    | int k' t =>
      have hk' : Value.isInt k (.int k' t) = true := hk
      simp only [Value.isInt, beq_iff_eq] at hk'
      subst hk'
      exact this
    | _ => cases this
theorem b1_set {w : World} {h : Heap} (B : Base w h) : h.SetOf (intKind pw w) 79 (fun k => nothingL.contains k) 27 := by
  obtain ⟨X, l, e, _⟩ := B.ext
  refine ⟨_, _, _, _, e _ _ (get79 _ _ _), ⟨rfl, rfl, rfl⟩, rfl, ?_, ?_, by decide, by kernel_rfl, rfl⟩
  · exact elems_of _ (by kernel_rfl)
  · exact mem_of _ (by kernel_rfl) (by kernel_rfl)
theorem in_b1 {w : World} {A : Around} {E : Value → Shared → Prop} {s : Shared} {c : Nat} {t : Tok} {k : Nat} {Q : Value → Shared → Prop} (B : Base w s.heap) (R : Room A (k + 1)) (h : ∀ s', Kp s s' → Q (.bool (isB1 c)) s') :
    wpAny (model pw w) A (PySem.call (.ref 89) [.str (ofCp c) t]) Q E s := by
  refine call_own B (def_fIn B) R (fnB (stm 5)) [(Str.ofString "code", .str (ofCp c) t)] fun s₁ L F => ?_
  refine wpAny_execs_cons (wpAny_Return_some (wpAny_Compare1 ?_))
  refine Call_Name1 (nm_built (F.base B) n_ord b_ord ?_)
  refine callWith_builtin1 (nm_local F (.str (ofCp c) t) ?_)
  refine P.ord_of_char ?_
  have F1 := F.on ((Kp.refl _).tok (s₁.toks + 1))
  refine nm_glob (F1.base B) g_b1_set ?_
  refine wpAny_inSet_of (knd := intKind pw w) (k := (c : Int)) (int_is w _ _) rfl (b1_set (F1.base B)) ?_
  exact h _ ((F1.keeps).tok _)
end Mine
end

open PySem PySem.W PySem.Calls PyProof.Rows
set_option Elab.async false
set_option maxRecDepth 100000
set_option linter.unusedVariables false
noncomputable section
namespace Mine
/-! map_table_b3 -/
def lookR (L : List (Int × Str)) (k : Int) : Option Str := (L.find? fun r => r.1 == k).map (·.2)
theorem FitsL.look : ∀ {kvs : List (Int × Value)} {L : List (Int × Str)}, FitsL kvs L → ∀ k : Int, (valueAt kvs k = none ∧ lookR L k = none) ∨ ∃ x t, valueAt kvs k = some (.str x t) ∧ lookR L k = some x
  | [], [], _, k => .inl ⟨rfl, rfl⟩
  | [], _ :: _, h, _ => by cases h
  | _ :: _, [], h, _ => by cases h
  | (a, v) :: kvs, (b, y) :: L, h, k => by
    unfold FitsL at h
    simp only [List.map_cons, List.cons.injEq, Prod.mk.injEq] at h
    obtain ⟨⟨rfl, hs⟩, ht⟩ := h
    have ih := FitsL.look (kvs := kvs) (L := L) ht k
    by_cases hk : a = k
    · subst hk
      right
      cases v with
      | str x t =>
        simp only [strOf, Option.some.injEq] at hs
        subst hs
        exact ⟨x, t, by simp [valueAt], by simp [lookR]⟩
      | _ => cases hs
    · have e1 : valueAt ((a, v) :: kvs) k = valueAt kvs k := by simp [valueAt, hk]
      have e2 : lookR ((a, y) :: L) k = lookR L k := by simp [lookR, hk]
      rw [e1, e2]; exact ih
def b3look (c : Nat) : Option Str := lookR b3rows (c : Int)
def b3 (c : Nat) : Str := (b3look c).getD (Txt.lower (ofCp c))
theorem tab_map {w : World} {h : Heap} (B : Base w h) : ∃ kvs, h.MapOf (intKind pw w) 90 (valueAt kvs) ∧ FitsL kvs b3rows := by
  obtain ⟨kvs, hd, hf⟩ := B.tab
  exact ⟨kvs, hd.mapOf, hf⟩
theorem lower_small (c : Nat) : (Txt.lower (ofCp c)).length ≤ 3 :=
  PySem.StrLaws.placedRaw_le3 #[c] (fun i _ => Unicode.lowerAt #[c] i) fun i _ => PySem.StrLaws.lowerAt_le3 _ i
theorem lower_fits (c : Nat) : Builtin.Str.tooLong (Txt.lower (ofCp c)).length = false := by
  have h1 := lower_small c
  have : ¬ (Txt.lower (ofCp c)).length > sizeLine := by rw [sizeLine_eq]; omega
  simpa [Builtin.Str.tooLong] using this
theorem map_b3 {w : World} {A : Around} {E : Value → Shared → Prop} {s : Shared} {c : Nat} {t : Tok} {k : Nat} {Q : Value → Shared → Prop} (B : Base w s.heap) (R : Room A (k + 1)) (h : ∀ s' u, Kp s s' → Q (.str (b3 c) u) s') :
    wpAny (model pw w) A (PySem.call (.ref 135) [.str (ofCp c) t]) Q E s := by
  refine call_own B (def_fMap B) R (fnB (stm 7)) [(Str.ofString "code", .str (ofCp c) t)] fun s₁ L F => ?_
  obtain ⟨kvs, hm, hf⟩ := tab_map (F.base B)
  have hm' : ∀ t', ({ s₁ with toks := t' } : Shared).heap.MapOf (intKind pw w) 90 (valueAt kvs) := fun _ => hm
  refine wpAny_execs_cons (wpAny_Assign_Name ?_ (by kernel_rfl))
  refine Call_method1 (by kernel_rfl) (by kernel_rfl) (by kernel_rfl) ?_
  refine nm_glob (F.base B) g_b3_exceptions ?_
  refine ⟨"dict", "dict.get", PySem.F.plainAttrs_dict, PySem.F.slot_dict_get, PySem.F.type_dict_get, hm.typeIs, hm.noDict, ?_⟩
  refine method_meetsIn PySem.F.slot_dict_get PySem.F.entry_dict_get rfl (evalArgs_plain (spliced_cons ?_))
  refine Call_Name1 (nm_built (F.base B) n_ord b_ord ?_)
  refine callWith_builtin1 (nm_local F (.str (ofCp c) t) ?_)
  refine P.ord_of_char (spliced_nil ?_)
  refine ⟨rfl, (hm' _).typeIs, PySem.F.args_dict_get_2 _ _, _, meets_dict_get (intKind pw w) 90 (k := (c : Int)) (int_is w _ _) rfl, valueAt kvs, hm, ?_⟩
  have F1 := F.on ((Kp.refl _).tok (s₁.toks + 1 + 1))
  show wpAny _ _ (storeName _ _ _) _ _ _
  refine st_local F1 fun s₂ F2 _ => ?_
  have hm2 : (fun y => if y = Str.ofString "r" then some ((valueAt kvs c).getD .none) else [(Str.ofString "code", Value.str (ofCp c) t)].reverse.lookup y) (Str.ofString "r") = some ((valueAt kvs c).getD .none) := if_pos rfl
  refine wpAny_execs_cons (wpAny_If (wpAny_isTrue_Compare1 (nm_local F2 ((valueAt kvs c).getD .none) (wpAny_Constant_none (isNot_none (wpAny_truthy_bool ?_))) hm2)))
  rcases hf.look c with ⟨e1, e2⟩ | ⟨x, t', e1, e2⟩
  · rw [e1]
    show wpAny _ _ (execs [] _) _ _ _
    refine wpAny_execs_nil (wpAny_execs_cons (wpAny_Return_some ?_))
    refine Call_method0 (by kernel_rfl) (by kernel_rfl) (nm_local F2 (.str (ofCp c) t) ?_)
    refine SB.lower (lower_fits c) ?_
    have : b3 c = Txt.lower (ofCp c) := by unfold b3 b3look; rw [e2]; rfl
    rw [← this]
    exact h _ _ (F2.keeps.tok _)
  · have hb : (!((valueAt kvs c).getD .none == Value.none)) = true := by rw [e1]; rfl
    rw [hb]
    refine wpAny_execs_cons (wpAny_Return_some (nm_local F2 ((valueAt kvs c).getD .none) ?_ hm2))
    rw [e1]
    have : b3 c = x := by unfold b3 b3look; rw [e2]; rfl
    rw [← this]
    exact h _ _ F2.keeps
end Mine
end

open PySem PySem.W PySem.Calls PyProof.Rows
set_option Elab.async false
set_option maxRecDepth 100000
set_option linter.unusedVariables false
noncomputable section
namespace Mine
/-- what is told of things that were made between h₀ and h stands in every heap that has them -/
def Made (h₀ h : Heap) (R : Heap → Prop) : Prop := ∀ h', (∀ b o, h₀.get? b = none → h.get? b = some o → h'.get? b = some o) → R h'
theorem Made.here {h₀ h : Heap} {R : Heap → Prop} (m : Made h₀ h R) : R h := m h fun _ _ _ e => e
theorem Made.pure {h₀ h : Heap} {R : Prop} (r : R) : Made h₀ h (fun _ => R) := fun _ _ => r
theorem Made.on {h₀ h h' : Heap} {R : Heap → Prop} (m : Made h₀ h R) (k : ∀ b o, h.get? b = some o → h'.get? b = some o) : Made h₀ h' R := fun h2 k2 => m h2 fun b o e1 e2 => k2 b o e1 (k b o e2)
theorem Made.from {h₀ h₁ h : Heap} {R : Heap → Prop} (m : Made h₁ h R) (k : ∀ b o, h₀.get? b = some o → h₁.get? b = some o) : Made h₀ h R := fun h2 k2 => m h2 fun b o e1 e2 => k2 b o (by
  cases e : h₀.get? b with
  | none => rfl
  | some o' => rw [k b o' e] at e1; cases e1) e2
theorem Made.keeps {h₀ h h' : Heap} {R : Heap → Prop} (m : Made h₀ h R) (k : ∀ b o, h.get? b = some o → h'.get? b = some o) : R h' := m h' fun b o _ e => k b o e
theorem Made.mono {h₀ h : Heap} {R R' : Heap → Prop} (m : Made h₀ h R) (k : ∀ h, R h → R' h) : Made h₀ h R' := fun h' q => k _ (m h' q)

/-- all but some are kept -/
structure KpBut (ex : List Addr) (s s' : Shared) : Prop where
  same : ∃ h tk, s' = { s with heap := h, toks := tk }
  get : ∀ b o, b ∉ ex → s.heap.get? b = some o → s'.heap.get? b = some o
theorem KpBut.refl (ex : List Addr) (s : Shared) : KpBut ex s s := ⟨⟨s.heap, s.toks, rfl⟩, fun _ _ _ e => e⟩
theorem KpBut.trans {ex : List Addr} {a b c : Shared} (x : KpBut ex a b) (y : KpBut ex b c) : KpBut ex a c := by
  obtain ⟨⟨h1, t1, rfl⟩, k1⟩ := x
  obtain ⟨⟨h2, t2, rfl⟩, k2⟩ := y
  exact ⟨⟨h2, t2, rfl⟩, fun b o n e => k2 b o n (k1 b o n e)⟩
theorem Kp.but {ex : List Addr} {a b : Shared} (x : Kp a b) : KpBut ex a b := ⟨x.same, fun b o _ e => x.get b o e⟩
theorem KpBut.of_same {ex : List Addr} {a : Addr} {s : Shared} {h : Heap} {t : Nat} (ha : a ∈ ex) (x : Heap.SameBut a s.heap h) : KpBut ex s { s with heap := h, toks := t } :=
  ⟨⟨h, t, rfl⟩, fun b o n e => x.extBut b o (fun q => n (q ▸ ha)) e⟩
theorem KpBut.more {ex ex' : List Addr} {a b : Shared} (x : KpBut ex a b) (h : ∀ c ∈ ex, c ∈ ex') : KpBut ex' a b := ⟨x.same, fun c o n e => x.get c o (fun q => n (h c q)) e⟩

theorem loop_list {w : World} {A : Around} {Rr : Result → Shared → Prop} {α β : Type} {I D : Addr} {cenv : Env} {fp : List Addr} {P : Nat → Value → Prop} {St : Nat → Heap → Prop} {mu : List Addr} {Inv : Heap → Prop} {Fok : Value → Heap → Prop}
    {xs : List α} {p : α → Bool} {f : α → β} {R : Heap → Value → β → Prop} {V : Value → α → Prop} {s₄ : Shared} {elt target iter : Expr} {ifs : List Expr} {scope : Scope} {pos : Pos}
    (W : Walks pw w A I fp [I] xs.length P St) (hst : St 0 s₄.heap) (hD : D ∉ fp) (hmufp : ∀ b ∈ mu, b ∉ fp) (hDmu : D ∉ mu) (hacc : s₄.heap.PlainList D #[]) (hlen : xs.length ≤ 1000000) (hI : I ∈ fp)
    (hStE : ∀ i h, St i h → ∃ o, h.get? I = some o) (hInvE : ∀ h, Inv h → ∀ b ∈ mu, ∃ o, h.get? b = some o)
    (hInv0 : Inv s₄.heap) (hInvK : ∀ h h', Inv h → (∀ b ∈ mu, ∀ o, h.get? b = some o → h'.get? b = some o) → Inv h')
    (hFokK : ∀ v h h', Fok v h → (∀ b ∈ mu, ∀ o, h.get? b = some o → h'.get? b = some o) → Fok v h') (hFI : ∀ v h, Fok v h → Inv h)
    (hP : ∀ i v, P i v → ∃ x, xs[i]? = some x ∧ V v x)
    (hgo : ∀ v x s₃ j, V v x → Inv s₃.heap → KpBut (I :: D :: mu) s₄ s₃ → St j s₃.heap → wpAny (model pw w) A (letOwnedTupleGo target (.ref I) v) (fun _ s' => Kp s₃ s') NE s₃)
    (hassign : ∀ v x s₃, V v x → Inv s₃.heap → KpBut (I :: D :: mu) s₄ s₃ → wpAny (model pw w) A (assign target cenv v) (fun _ s' => Fok v s'.heap ∧ KpBut mu s₃ s') NE s₃)
    (htests : ∀ v x s₃, V v x → Fok v s₃.heap → KpBut (I :: D :: mu) s₄ s₃ → wpAny (model pw w) A (forIn ifs true fun c r => if r = true then do let ok ← isTrue c cenv (eval c cenv); pure (ForInStep.yield ok) else pure (ForInStep.yield r)) (fun ok s' => ok = p x ∧ Kp s₃ s') NE s₃)
    (helt : ∀ v x s₃, V v x → p x = true → Fok v s₃.heap → KpBut (I :: D :: mu) s₄ s₃ → wpAny (model pw w) A (eval elt cenv) (fun y s' => Made s₃.heap s'.heap (fun h => R h y (f x)) ∧ Kp s₃ s') NE s₃)
    (hR : ∀ s' ys, KpBut (I :: D :: mu) s₄ s' → s'.heap.PlainList D ys → Inv s'.heap → (∀ h, (∀ b o, b ∉ I :: D :: mu → s₄.heap.get? b = none → s'.heap.get? b = some o → h.get? b = some o) → Paired (R h) ys.toList ((xs.filter p).map f)) → Rr (.ok .next) s') :
    codeAny (model pw w) A (.compLoop (.ListComp elt [⟨target, iter, ifs, 0⟩] scope pos) 0 (.ref I) (.ref D) cenv) Rr s₄ := by
  refine codeAny_loop rfl (fun k s => ∃ i ys, k = xs.length + 1 - i ∧ i ≤ xs.length ∧ KpBut (I :: D :: mu) s₄ s ∧ St i s.heap ∧ s.heap.PlainList D ys ∧ Inv s.heap ∧
    (∀ h, (∀ b o, b ∉ I :: D :: mu → s₄.heap.get? b = none → s.heap.get? b = some o → h.get? b = some o) → Paired (R h) ys.toList (((xs.take i).filter p).map f))) (fun k s hk => ?_) (xs.length + 1)
    ⟨0, #[], rfl, Nat.zero_le _, .refl _ _, hst, hacc, hInv0, fun _ _ => by simpa using Paired.nil⟩
  · obtain ⟨i, ys, rfl, hi, hK, hSt, hys, hInv, hF⟩ := hk
    show wpAny _ A ((compTurn (.ListComp elt [⟨target, iter, ifs, 0⟩] scope pos) 0 (.ref I) (.ref D) cenv).onRaise (fun x => do noteFrame x cenv; theTreesLotGoes x)) _ _ s
    refine wpAny_noted ?_
    rw [compTurn_list]
    refine wpAny_bind (wpAny_standAt (wpAny_bind ?_))
    by_cases hlt : i < xs.length
    · refine W.item i s _ _ hlt hSt fun v h1 tk hPv hSt1 hk1 => ?_
      obtain ⟨x, hx, hV⟩ := hP i v hPv
      have hIn : I ∈ I :: D :: mu := List.mem_cons_self
      have hDn : D ∈ I :: D :: mu := List.mem_cons_of_mem _ List.mem_cons_self
      have k1 : KpBut (I :: D :: mu) s { s with heap := h1, toks := tk } := ⟨⟨_, _, rfl⟩, fun b o n e => hk1 b o (fun q => n (by rw [List.mem_singleton.mp q]; exact hIn)) e⟩
      have hDI : D ≠ I := fun e => hD (e ▸ hI)
      have hmuI : ∀ b ∈ mu, b ≠ I := fun b hb e => hmufp b hb (e ▸ hI)
      have inv1 : Inv h1 := hInvK _ _ hInv fun b hb o e => hk1 b o (fun q => hmuI b hb (List.mem_singleton.mp q)) e
      have ys1 : h1.PlainList D ys := hys.at fun o e => hk1 D o (fun q => hDI (List.mem_singleton.mp q)) e
      refine wpAny_bind (wpAny_mono (hgo v x _ (i + 1) hV inv1 (hK.trans k1) hSt1) (fun _ s2 k2 => ?_) fun _ _ e => e.elim)
      have inv2 : Inv s2.heap := hInvK _ _ inv1 fun b _ o e => k2.get b o e
      have K2 := (hK.trans k1).trans k2.but
      refine wpAny_bind (wpAny_mono (hassign v x s2 hV inv2 K2) (fun _ s3 h3 => ?_) fun _ _ e => e.elim)
      obtain ⟨fok3, k3⟩ := h3
      have k3' : KpBut (I :: D :: mu) s2 s3 := k3.more fun b hb => List.mem_cons_of_mem _ (List.mem_cons_of_mem _ hb)
      have K3 := K2.trans k3'
      refine wpAny_bind (wpAny_mono (htests v x s3 hV fok3 K3) (fun ok s4' h4 => ?_) fun _ _ e => e.elim)
      obtain ⟨rfl, k4⟩ := h4
      have fok4 : Fok v s4'.heap := hFokK _ _ _ fok3 fun b _ o e => k4.get b o e
      have K4 := K3.trans k4.but
      have step : KpBut (I :: D :: mu) s s4' := ((k1.trans k2.but).trans k3').trans k4.but
      have ysK : ∀ o, h1.get? D = some o → s4'.heap.get? D = some o := fun o e => k4.get _ _ (k3.get D o hDmu (k2.get _ _ e))
      have ys4 : s4'.heap.PlainList D ys := ys1.at ysK
      have St4 : St (i + 1) s4'.heap := W.frame _ _ _ hSt1 fun b hb o e => k4.get _ _ (k3.get b o (fun q => hmufp b q hb) (k2.get _ _ e))
      have hex4 : ∀ b ∈ I :: D :: mu, ∃ o, s4'.heap.get? b = some o := by
        intro b hb
        rcases List.mem_cons.mp hb with rfl | hb
        · exact hStE _ _ St4
        · rcases List.mem_cons.mp hb with rfl | hb
          · obtain ⟨n, e⟩ := ys4
            exact ⟨_, e⟩
          · exact hInvE _ (hFI _ _ fok4) b hb
      have take1 : (xs.take (i + 1)).filter p = (xs.take i).filter p ++ (if p x then [x] else []) := take_succ_filter p xs i x hx
      have hF4 : ∀ h, (∀ b o, b ∉ I :: D :: mu → s₄.heap.get? b = none → s4'.heap.get? b = some o → h.get? b = some o) → Paired (R h) ys.toList (((xs.take i).filter p).map f) :=
        fun h q => hF h fun b o n e1 e2 => q b o n e1 (step.get b o n e2)
      cases hp : p x with
      | false =>
        rw [hp] at take1
        refine wpAny_pure ⟨rfl, _, by omega, i + 1, ys, rfl, hlt, K4, St4, ys4, hFI _ _ fok4, fun h q => ?_⟩
        rw [take1]; simpa using hF4 h q
      | true =>
        rw [hp] at take1
        refine wpAny_bind (wpAny_bind (wpAny_mono (helt v x s4' hV hp fok4 K4) (fun y s5 h5 => ?_) fun _ _ e => e.elim))
        obtain ⟨mk, k5⟩ := h5
        have ys5 : s5.heap.PlainList D ys := ys4.at fun o e => k5.get _ _ e
        have hysz : ys.size ≤ sizeLine := by
          have e1 := (hF s.heap fun _ _ _ _ e => e).length
          rw [List.length_map] at e1
          have e2 : ((xs.take i).filter p).length ≤ (xs.take i).length := List.length_filter_le _ _
          have e3 : (xs.take i).length ≤ xs.length := by rw [List.length_take]; omega
          have e4 : ys.toList.length = ys.size := by simp
          rw [sizeLine_eq]; omega
        refine wpAny_bind (wpAny_list_append_plain (hsz := hysz) ys5 fun h6 ys6 sb6 => wpAny_pure (wpAny_pure ⟨rfl, _, by omega, i + 1, ys.push y, rfl, hlt, ?_, ?_, ys6, ?_, fun h q => ?_⟩))
        · exact (K4.trans k5.but).trans (KpBut.of_same hDn sb6)
        · exact W.frame _ _ _ St4 fun b hb o e => sb6.extBut b o (fun q => hD (q ▸ hb)) (k5.get _ _ e)
        · exact hInvK _ _ (hFI _ _ fok4) fun b hb o e => sb6.extBut b o (fun q => hDmu (q ▸ hb)) (k5.get _ _ e)
        · rw [take1]
          simp only [if_true, List.map_append, List.map_cons, List.map_nil, Array.toList_push]
          refine Paired.snoc (hF4 h fun b o n e1 e2 => q b o n e1 (sb6.extBut b o (fun z => n (z ▸ hDn)) (k5.get _ _ e2))) ?_
          refine mk h fun b o e1 e2 => ?_
          have hbn : b ∉ I :: D :: mu := fun hb => by
            obtain ⟨o', ho'⟩ := hex4 b hb
            rw [ho'] at e1; cases e1
          refine q b o hbn ?_ (sb6.extBut b o (fun z => hbn (z ▸ hDn)) e2)
          cases e3 : s₄.heap.get? b with
          | none => rfl
          | some o' => rw [K4.get b o' hbn e3] at e1; cases e1
    · have hin : i = xs.length := by omega
      subst hin
      refine W.done s _ _ hSt fun h1 tk hk1 => wpAny_pure ?_
      have hDI : D ≠ I := fun e => hD (e ▸ hI)
      have hIn : I ∈ I :: D :: mu := List.mem_cons_self
      have k1 : KpBut (I :: D :: mu) s { s with heap := h1, toks := tk } := ⟨⟨_, _, rfl⟩, fun b o n e => hk1 b o (fun q => n (by rw [List.mem_singleton.mp q]; exact hIn)) e⟩
      refine hR _ ys (hK.trans k1) (hys.at fun o e => hk1 D o (fun q => hDI (List.mem_singleton.mp q)) e) (hInvK _ _ hInv fun b hb o e => hk1 b o (fun q => hmufp b hb (by rw [List.mem_singleton.mp q]; exact hI)) e) fun h q => ?_
      have := hF h fun b o n e1 e2 => q b o n e1 (k1.get b o n e2)
      rwa [List.take_length] at this

/-- a plain list whose items are told one by one -/
def ListAt {β : Type} (R : Heap → Value → β → Prop) (h : Heap) (v : Value) (ys : List β) : Prop := ∃ a vs, v = .ref a ∧ h.PlainList a (List.toArray vs) ∧ Paired (R h) vs ys

/-- what a turn of a comprehension without cells of its own must show -/
structure CompOk (w : World) (A : Around) {α β : Type} (I : Addr) (St : Nat → Heap → Prop) (s s₂ : Shared) (T : (Str → Option Value) → Value → Prop) (V : Value → α → Prop) (p : α → Bool) (f : α → β) (R : Heap → Value → β → Prop)
    (target : Expr) (ifs : List Expr) (elt : Expr) (cenv : Env) : Prop where
  go : ∀ v x s₃ j, V v x → Kp s s₃ → (∀ b o, b ≠ I → s₂.heap.get? b = some o → s₃.heap.get? b = some o) → St j s₃.heap → wpAny (model pw w) A (letOwnedTupleGo target (.ref I) v) (fun _ s' => Kp s₃ s') NE s₃
  asg : ∀ v x s₃ m₃, V v x → s₃.heap.Ns cenv.locals m₃ → Kp s s₃ → (∀ b o, b ≠ I → s₂.heap.get? b = some o → s₃.heap.get? b = some o) →
    wpAny (model pw w) A (assign target cenv v) (fun _ s' => (∃ m', s'.heap.Ns cenv.locals m' ∧ T m' v) ∧ KpBut [cenv.locals] s₃ s') NE s₃
  tst : ∀ v x s₃ m₃, V v x → s₃.heap.Ns cenv.locals m₃ → T m₃ v → Kp s s₃ → (∀ b o, b ≠ I → s₂.heap.get? b = some o → s₃.heap.get? b = some o) →
    wpAny (model pw w) A (forIn ifs true fun c r => if r = true then do let ok ← isTrue c cenv (eval c cenv); pure (ForInStep.yield ok) else pure (ForInStep.yield r)) (fun ok s' => ok = p x ∧ Kp s₃ s') NE s₃
  elt : ∀ v x s₃ m₃, V v x → p x = true → s₃.heap.Ns cenv.locals m₃ → T m₃ v → Kp s s₃ → (∀ b o, b ≠ I → s₂.heap.get? b = some o → s₃.heap.get? b = some o) →
    wpAny (model pw w) A (eval elt cenv) (fun y s' => Made s₃.heap s'.heap (fun h => R h y (f x)) ∧ Kp s₃ s') NE s₃

theorem Ns.keepsAt {h h' : Heap} {C : Addr} {m : Str → Option Value} (x : h.Ns C m) (k : ∀ o, h.get? C = some o → h'.get? C = some o) : h'.Ns C m := by
  obtain ⟨o, es, ep, h1, r⟩ := x
  exact ⟨o, es, ep, k _ h1, r⟩
theorem comp1 {w : World} {A : Around} {E : Value → Shared → Prop} {s : Shared} {env : Env} {elt target iter : Expr} {ifs : List Expr} {scope : Scope} {pos : Pos} {cl : List (Str × Addr)} {α β : Type} {xs : List α} {p : α → Bool} {f : α → β} {R : Heap → Value → β → Prop}
    {Q : Value → Shared → Prop} (hlen : xs.length ≤ 1000000)
    (h : wpAny (model pw w) A (eval iter env) (fun xv s₁ => wpAny (model pw w) A (pyIter xv) (fun it s₂ => ∃ I fp P St, ∃ V : Value → α → Prop, ∃ T : (Str → Option Value) → Value → Prop, it = .ref I ∧ Walks pw w A I fp [I] xs.length P St ∧ (∀ i h, St i h → ∃ o, h.get? I = some o) ∧ St 0 s₂.heap ∧ I ∈ fp ∧
      (∀ b ∈ fp, b < s₂.heap.objs.size) ∧ s.heap.get? I = none ∧ Kp s s₂ ∧ (∀ i v, P i v → ∃ x, xs[i]? = some x ∧ V v x) ∧ ∀ C, CompOk w A I St s s₂ T V p f R target ifs elt (compEnvC scope cl C env)) NE s₁) NE s)
    (hQ : ∀ v s', Kp s s' → Made s.heap s'.heap (fun h => ListAt R h v ((xs.filter p).map f)) → Q v s')
    (hclos : closureFor scope env = pure cl) (hcell : (scope.names.all fun y => y.2 != .cell) = true := by kernel_rfl) (hkind : scope.kind = .function := by kernel_rfl)
    (hnames : (scope.names.all fun y => y.2 != .local || scope.names.lookup y.1 == some .local) = true := by kernel_rfl) (hs : ∀ x, foldedSetIterable iter env x = pure x := by intro _; kernel_rfl) :
    wpAny (model pw w) A (eval (.ListComp elt [⟨target, iter, ifs, 0⟩] scope pos) env) Q E s := by
  have hcell' : ∀ y ∈ scope.names, y.2 ≠ .cell := fun y hy => by simpa using List.all_eq_true.mp hcell y hy
  have hnames' : ∀ y ∈ scope.names, y.2 = .local → scope.names.lookup y.1 = some .local := fun y hy hl => by
    have := List.all_eq_true.mp hnames y hy
    simpa [hl] using this
  rw [eval_ListComp]
  refine wpAny_comprehension_free (use := none) rfl hs hclos hkind hnames' (wpAny_mono h (fun xv s₁ h₁ => wpAny_mono h₁ (fun it s₂ h₂ => ?_) fun _ _ e => e.elim) fun _ _ e => e.elim)
  obtain ⟨I, fp, P, St, V, T, rfl, W, hStE, hst, hI, hfp, hnew, hk2, hP, hok⟩ := h₂
  refine wpAny_newObj_type (wpAny_newFunctionEnv hcell' (by intro y hy; simp at hy) (fun h₁ hns₁ hsb₁ => ?_) hkind)
  dsimp only at hns₁ hsb₁ ⊢
  generalize hH2 : s₂.heap.push { cls := .type "list", dict := none, data := .seq ([] : List Value).toArray } = H2 at hns₁ hsb₁ ⊢
  have hC : H2.objs.size = s₂.heap.objs.size + 1 := by rw [← hH2, Heap.size_push]
  have hDC : s₂.heap.objs.size ≠ H2.objs.size := by rw [hC]; exact Nat.ne_of_lt (Nat.lt_succ_self _)
  have below : ∀ b, b < s₂.heap.objs.size → b ≠ H2.objs.size ∧ b ≠ s₂.heap.objs.size := fun b hb => ⟨by rw [hC]; exact Nat.ne_of_lt (Nat.lt_succ_of_lt hb), Nat.ne_of_lt hb⟩
  have old : ∀ b o, s₂.heap.get? b = some o → h₁.get? b = some o := fun b o e => hsb₁.extBut b o (below b (Heap.lt_size e)).1 (Heap.get?_push_of_some _ (hH2 ▸ Heap.get?_push_of_some _ e))
  have hacc : h₁.PlainList s₂.heap.objs.size #[] := ⟨_, hsb₁.extBut _ _ hDC (Heap.get?_push_of_some _ (hH2 ▸ Heap.get?_push_size _ rfl))⟩
  have hDf : s₂.heap.objs.size ∉ fp := fun hm => Nat.lt_irrefl _ (hfp _ hm)
  have hCf : H2.objs.size ∉ fp := fun hm => by have := hfp _ hm; rw [hC] at this; exact Nat.lt_irrefl _ (Nat.lt_of_succ_lt this)
  have fresh : ∀ a, s₂.heap.objs.size ≤ a → s₂.heap.get? a = none := fun a ha => by
    cases e : s₂.heap.get? a with
    | none => rfl
    | some o' => exact absurd (Heap.lt_size e) (Nat.not_lt.mpr ha)
  have fresh0 : ∀ a, s₂.heap.objs.size ≤ a → s.heap.get? a = none := fun a ha => by
    cases e : s.heap.get? a with
    | none => rfl
    | some o' => have := hk2.get _ _ e; rw [fresh a ha] at this; cases this
  have nD := fresh0 _ (Nat.le_refl _)
  have nC := fresh0 H2.objs.size (by rw [hC]; exact Nat.le_succ _)
  obtain ⟨⟨hh2, tt2, e2⟩, g2⟩ := hk2
  -- what a turn knows
  have turn : ∀ (h₁t : Nat) s₃, KpBut [I, s₂.heap.objs.size, H2.objs.size] { s₂ with heap := h₁, toks := h₁t } s₃ → Kp s s₃ ∧ ∀ b o, b ≠ I → s₂.heap.get? b = some o → s₃.heap.get? b = some o := by
    intro h₁t s₃ k
    have a2 : ∀ b o, b ≠ I → s₂.heap.get? b = some o → s₃.heap.get? b = some o := fun b o hb e => k.get b o (by
      have := below b (Heap.lt_size e)
      simp [hb, this.1, this.2]) (old b o e)
    refine ⟨⟨?_, fun b o e => a2 b o (fun q => by rw [q, hnew] at e; cases e) (g2 b o e)⟩, a2⟩
    obtain ⟨h3, t3, rfl⟩ := k.same
    subst e2
    exact ⟨h3, t3, rfl⟩
  have loop : ∀ t₁, codeAny (model pw w) A (.compLoop (.ListComp elt [⟨target, iter, ifs, 0⟩] scope pos) 0 (.ref I) (.ref s₂.heap.objs.size) (compEnvC scope cl H2.objs.size env))
        (compPost (model pw w) A E none Q (.ref s₂.heap.objs.size) H2.objs.size) { s₂ with heap := h₁, toks := t₁ } := by
    intro t₁
    refine loop_list (mu := [H2.objs.size]) (Inv := fun h => ∃ m, h.Ns H2.objs.size m) (Fok := fun v h => ∃ m, h.Ns H2.objs.size m ∧ T m v) (R := R) (p := p) (f := f) (V := V) W (W.frame _ _ _ hst fun b _ o e => old b o e) hDf (by intro b hb; rw [List.mem_singleton.mp hb]; exact hCf)
      (by intro hb; exact hDC (List.mem_singleton.mp hb)) hacc hlen hI hStE ?_ ⟨_, hns₁⟩ ?_ ?_ ?_ hP ?_ ?_ ?_ ?_ ?_
    · rintro h ⟨m, o, es, ep, e1, _⟩ b hb
      rw [List.mem_singleton.mp hb]
      exact ⟨o, e1⟩
    · rintro h h' ⟨m, hm⟩ k
      exact ⟨m, Ns.keepsAt hm fun o e => k _ (List.mem_singleton.mpr rfl) o e⟩
    · rintro v h h' ⟨m, hm, ht⟩ k
      exact ⟨m, Ns.keepsAt hm fun o e => k _ (List.mem_singleton.mpr rfl) o e, ht⟩
    · rintro v h ⟨m, hm, _⟩
      exact ⟨m, hm⟩
    · intro v x s₃ j hV _ k hS
      exact (hok H2.objs.size).go v x s₃ j hV (turn _ _ k).1 (turn _ _ k).2 hS
    · rintro v x s₃ hV ⟨m, hm⟩ k
      exact (hok H2.objs.size).asg v x s₃ m hV hm (turn _ _ k).1 (turn _ _ k).2
    · rintro v x s₃ hV ⟨m, hm, ht⟩ k
      exact (hok H2.objs.size).tst v x s₃ m hV hm ht (turn _ _ k).1 (turn _ _ k).2
    · rintro v x s₃ hV hp ⟨m, hm, ht⟩ k
      exact (hok H2.objs.size).elt v x s₃ m hV hp hm ht (turn _ _ k).1 (turn _ _ k).2
    · rintro s' ys k hys ⟨m, hm⟩ hF
      refine ⟨m, hm, fun h'' hs'' => ?_⟩
      have k' := turn _ _ k
      have ga : ∀ b o, s.heap.get? b = some o → h''.get? b = some o := fun b o e => hs''.extBut b o (fun q => by rw [q, nC] at e; cases e) (k'.1.get b o e)
      refine hQ _ _ ⟨?_, ga⟩ fun h q => ?_
      · obtain ⟨h3, t3, rfl⟩ := k'.1.same
        exact ⟨h'', t3, rfl⟩
      · refine ⟨_, ys.toList, rfl, ?_, hF h fun b o n e1 e2 => ?_⟩
        · obtain ⟨nn, en⟩ := hys
          exact ⟨nn, q _ _ nD (hs''.extBut _ _ hDC en)⟩
        · have hbC : b ≠ H2.objs.size := fun z => n (by rw [z]; simp)
          refine q b o ?_ (hs''.extBut b o hbC e2)
          cases e3 : s.heap.get? b with
          | none => rfl
          | some o' => rw [show ({ s₂ with heap := h₁, toks := t₁ } : Shared).heap.get? b = some o' from old _ _ (g2 _ _ e3)] at e1; cases e1
  exact codeAny_compStart_list (loop _) (W.self 0 _ _ _ (W.frame _ _ _ hst fun b _ o e => old b o e) (loop _))
end Mine
end

open PySem PySem.W PySem.Calls PyProof.Rows
set_option Elab.async false
set_option maxRecDepth 100000
set_option linter.unusedVariables false
noncomputable section
namespace Mine
/-! names in any function's env -/
section
variable {w : World} {A : Around} {E : Value → Shared → Prop} {s : Shared} {env : Env} {Q : Value → Shared → Prop} {x : Str} {pos : Pos} {m : Str → Option Value} {C : Addr} {v : Value}
theorem ne_local (N : s.heap.Ns C m) (hv : m x = some v) (h : Q v s) (hL : env.locals = C := by rfl) (hk : env.scope.kind = .function := by kernel_rfl) (hl : env.kindOf x = some .local := by kernel_rfl) (hd : (x == ("__debug__" : Str)) = false := by kernel_rfl) :
    wpAny (model pw w) A (eval (.Name x pos) env) Q E s := wpAny_Name (wpAny_loadName_local hk hl (hL ▸ N) hv h) hd
theorem ne_cell {c : Addr} (hv : s.heap.IsCell c (some v)) (h : Q v s) (hc : env.cells.lookup x = some c := by kernel_rfl) (hk : env.scope.kind = .function := by kernel_rfl) (hl : env.kindOf x = some .cell := by kernel_rfl) (hd : (x == ("__debug__" : Str)) = false := by kernel_rfl) :
    wpAny (model pw w) A (eval (.Name x pos) env) Q E s := wpAny_Name (wpAny_loadName_cell hk hl hc hv h) hd
theorem ne_glob (B : Base w s.heap) (hv : ∀ P X l, (H1 P X l).nsMap mainGlobals x = some v) (h : Q v s) (hk : env.scope.kind = .function := by kernel_rfl) (hl : env.kindOf x = some .globalImplicit := by kernel_rfl) (hg : env.globals = mainGlobals := by kernel_rfl) (hd : (x == ("__debug__" : Str)) = false := by kernel_rfl) :
    wpAny (model pw w) A (eval (.Name x pos) env) Q E s := by
  obtain ⟨X, l, _, hn⟩ := B.ext
  exact Name_function_global hk hl (loadGlobal_global (env := env) (by rw [hg]; exact hn) (hv _ _ _) h) hd
theorem ne_built (B : Base w s.heap) (hm : ∀ P X l, (H1 P X l).nsMap mainGlobals x = none) (hv : bootBuiltins x = some v) (h : Q v s) (hx : (x == ("__name__" : Str)) = false := by kernel_rfl) (hk : env.scope.kind = .function := by kernel_rfl) (hl : env.kindOf x = some .globalImplicit := by kernel_rfl) (hg : env.globals = mainGlobals := by kernel_rfl) (hb : env.builtins = builtinsNs := by kernel_rfl) (hd : (x == ("__debug__" : Str)) = false := by kernel_rfl) :
    wpAny (model pw w) A (eval (.Name x pos) env) Q E s := by
  obtain ⟨X, l, _, hn⟩ := B.ext
  obtain ⟨mb, hb2, hb3⟩ := B.bl
  refine Name_function_global hk hl (loadGlobal_builtin (env := env) (by rw [hg]; exact hn) (hm _ _ _) (by rw [hb]; exact hb2) ?_ h) hd
  rw [hb3 x (by simpa using hx)]; exact hv
end

theorem paired_at {α : Type} {V : Value → α → Prop} : ∀ {vs : List Value} {xs : List α}, Paired V vs xs → ∀ (i : Nat) v, vs[i]? = some v → ∃ x, xs[i]? = some x ∧ V v x
  | _, _, .nil, i, v, h => by simp at h
  | _, _, .cons h1 h2, 0, v, h => by
    simp at h
    subst h
    exact ⟨_, rfl, h1⟩
  | _, _, .cons h1 h2, i + 1, v, h => by
    simpa using paired_at h2 i v (by simpa using h)

theorem Kp.from {a b c : Shared} (x : Kp a b) (y : Kp a c) (g : ∀ p o, b.heap.get? p = some o → c.heap.get? p = some o) : Kp b c := by
  obtain ⟨⟨h1, t1, rfl⟩, k1⟩ := x
  obtain ⟨⟨h2, t2, rfl⟩, k2⟩ := y
  exact ⟨⟨h2, t2, rfl⟩, g⟩

theorem comp_list {w : World} {A : Around} {E : Value → Shared → Prop} {s : Shared} {env : Env} {elt iter : Expr} {x : Str} {px : Pos} {scope : Scope} {pos : Pos} (cl : List (Str × Addr)) {α β : Type} (xs : List α) (f : α → β) (R : Heap → Value → β → Prop)
    {Q : Value → Shared → Prop} (hh : A.handled = none) (hlen : xs.length ≤ 1000000)
    (h : wpAny (model pw w) A (eval iter env) (fun xv s₁ => Kp s s₁ ∧ ∃ a vs, ∃ V : Value → α → Prop, xv = .ref a ∧ s₁.heap.IsList a (List.toArray vs) ∧ Paired V vs xs ∧
      ∀ C v y s₃ m₃, V v y → s₃.heap.Ns C m₃ → m₃ x = some v → Kp s₁ s₃ → wpAny (model pw w) A (eval elt (compEnvC scope cl C env)) (fun z s' => Made s₃.heap s'.heap (fun h => R h z (f y)) ∧ Kp s₃ s') NE s₃) NE s)
    (hQ : ∀ v s', Kp s s' → Made s.heap s'.heap (fun h => ListAt R h v (xs.map f)) → Q v s')
    (hclos : closureFor scope env = pure cl := by kernel_rfl) (hx : (relabel scope env).names.lookup x = some .local := by kernel_rfl) (hcell : (scope.names.all fun y => y.2 != .cell) = true := by kernel_rfl) (hkind : scope.kind = .function := by kernel_rfl)
    (hnames : (scope.names.all fun y => y.2 != .local || scope.names.lookup y.1 == some .local) = true := by kernel_rfl) (hs : ∀ x, foldedSetIterable iter env x = pure x := by intro _; kernel_rfl) :
    wpAny (model pw w) A (eval (.ListComp elt [⟨.Name x px, iter, [], 0⟩] scope pos) env) Q E s := by
  refine comp1 (xs := xs) (p := fun _ => true) (f := f) (R := R) hlen (wpAny_mono h (fun xv s₁ h₁ => ?_) fun _ _ e => e) (fun v s' k m => hQ v s' k (by rwa [List.filter_eq_self.mpr (fun _ _ => rfl)] at m)) hclos hcell hkind hnames hs
  obtain ⟨k1, a, vs, V, rfl, hl, hp, hb⟩ := h₁
  have hal : a < s₁.heap.objs.size := by obtain ⟨_, e, _⟩ := hl; exact Heap.lt_size e
  have hn : s₁.heap.get? s₁.heap.objs.size = none := by
    cases e : s₁.heap.get? s₁.heap.objs.size with
    | none => rfl
    | some o => exact absurd (Heap.lt_size e) (Nat.lt_irrefl _)
  have hlv : vs.length = xs.length := hp.length
  have hsz : vs.toArray.size = xs.length := by rw [List.size_toArray, hlv]
  have W := Walks.list (prog := pw) (w := w) hh s₁.heap.objs.size a (Nat.ne_of_lt hal) vs.toArray
  rw [hsz] at W
  refine wpAny_pyIter_list hl ⟨_, _, _, _, V, fun m v => m x = some v, rfl, W, ?_, ⟨⟨_, Heap.get?_push_size _ rfl, rfl, rfl⟩, hl.push _⟩, by simp, ?_, ?_, k1.push _, ?_, fun C => ⟨?_, ?_, ?_, ?_⟩⟩
  · rintro i h ⟨⟨o, ho, _⟩, _⟩
    exact ⟨o, ho⟩
  · intro b hb
    show b < (s₁.heap.push _).objs.size
    rw [Heap.size_push]
    rcases List.mem_cons.mp hb with rfl | hb
    · exact Nat.lt_succ_self _
    · rcases List.mem_cons.mp hb with rfl | hb
      · exact Nat.lt_succ_of_lt hal
      · cases hb
  · cases e : s.heap.get? s₁.heap.objs.size with
    | none => rfl
    | some o => rw [k1.get _ _ e] at hn; cases hn
  · intro i v hv
    exact paired_at hp i v (by simpa using hv)
  · intro v y s₃ j _ _ _ _
    exact wpAny_pure (Kp.refl _)
  · intro v y s₃ m₃ hV hN _ _
    refine wpAny_assign_Name (wpAny_storeName_local (env := compEnvC scope cl C env) hx hN (fun h' hn' hs' => ⟨⟨_, hn', if_pos rfl⟩, KpBut.of_same (by simp) hs'⟩) ?_)
    show (scope.kind == .class || (scope.kind == .module && _)) = false
    rw [hkind]; rfl
  · intro v y s₃ m₃ _ _ _ _ _
    exact wpAny_pure ⟨rfl, Kp.refl _⟩
  · intro v y s₃ m₃ hV _ hN ht k3 hk
    exact hb C v y s₃ m₃ hV hN ht (k1.from k3 fun b o e => hk b o (Nat.ne_of_lt (Heap.lt_size e)) (Heap.get?_push_of_some _ e))

theorem comp_str {w : World} {A : Around} {E : Value → Shared → Prop} {s : Shared} {env : Env} {elt iter tst : Expr} {x : Str} {px : Pos} {scope : Scope} {pos : Pos} (cl : List (Str × Addr)) {β : Type} (y : Str) (p : Nat → Bool) (f : Nat → β) (R : Heap → Value → β → Prop)
    {Q : Value → Shared → Prop} (hh : A.handled = none) (hlen : y.cps.size ≤ 1000000)
    (h : wpAny (model pw w) A (eval iter env) (fun xv s₁ => Kp s s₁ ∧ (∃ t, xv = .str y t) ∧
      (∀ C c t s₃ m₃, s₃.heap.Ns C m₃ → m₃ x = some (.str (ofCp c) t) → Kp s₁ s₃ → wpAny (model pw w) A (isTrue tst (compEnvC scope cl C env) (eval tst (compEnvC scope cl C env))) (fun z s' => z = p c ∧ Kp s₃ s') NE s₃) ∧
      (∀ C c t s₃ m₃, s₃.heap.Ns C m₃ → m₃ x = some (.str (ofCp c) t) → Kp s₁ s₃ → wpAny (model pw w) A (eval elt (compEnvC scope cl C env)) (fun z s' => Made s₃.heap s'.heap (fun h => R h z (f c)) ∧ Kp s₃ s') NE s₃)) NE s)
    (hQ : ∀ v s', Kp s s' → Made s.heap s'.heap (fun h => ListAt R h v ((y.cps.toList.filter p).map f)) → Q v s')
    (hclos : closureFor scope env = pure cl := by kernel_rfl) (hx : (relabel scope env).names.lookup x = some .local := by kernel_rfl) (hcell : (scope.names.all fun y => y.2 != .cell) = true := by kernel_rfl) (hkind : scope.kind = .function := by kernel_rfl)
    (hnames : (scope.names.all fun y => y.2 != .local || scope.names.lookup y.1 == some .local) = true := by kernel_rfl) (hs : ∀ x, foldedSetIterable iter env x = pure x := by intro _; kernel_rfl) :
    wpAny (model pw w) A (eval (.ListComp elt [⟨.Name x px, iter, [tst], 0⟩] scope pos) env) Q E s := by
  refine comp1 (xs := y.cps.toList) (p := p) (f := f) (R := R) (by simpa using hlen) (wpAny_mono h (fun xv s₁ h₁ => ?_) fun _ _ e => e) hQ hclos hcell hkind hnames hs
  obtain ⟨k1, ⟨t, rfl⟩, htst, helt⟩ := h₁
  have hn : s₁.heap.get? s₁.heap.objs.size = none := by
    cases e : s₁.heap.get? s₁.heap.objs.size with
    | none => rfl
    | some o => exact absurd (Heap.lt_size e) (Nat.lt_irrefl _)
  have hn0 : s.heap.get? s₁.heap.objs.size = none := by
    cases e : s.heap.get? s₁.heap.objs.size with
    | none => rfl
    | some o => rw [k1.get _ _ e] at hn; cases hn
  have main : ∀ (Tn : String) (o : Obj) (ho : ({ s₁ with heap := s₁.heap.push o } : Shared).heap.IsStrIter s₁.heap.objs.size Tn y t 0) (W : Walks pw w A s₁.heap.objs.size [s₁.heap.objs.size] [s₁.heap.objs.size] y.cps.size (SignAt y) (fun i h => h.IsStrIter s₁.heap.objs.size Tn y t i)),
      ∃ I fp P St, ∃ V : Value → Nat → Prop, ∃ T : (Str → Option Value) → Value → Prop, Value.ref s₁.heap.objs.size = .ref I ∧ Walks pw w A I fp [I] y.cps.toList.length P St ∧ (∀ i h, St i h → ∃ o, h.get? I = some o) ∧ St 0 ({ s₁ with heap := s₁.heap.push o } : Shared).heap ∧ I ∈ fp ∧
      (∀ b ∈ fp, b < ({ s₁ with heap := s₁.heap.push o } : Shared).heap.objs.size) ∧ s.heap.get? I = none ∧ Kp s { s₁ with heap := s₁.heap.push o } ∧ (∀ i v, P i v → ∃ x, y.cps.toList[i]? = some x ∧ V v x) ∧ ∀ C, CompOk w A I St s { s₁ with heap := s₁.heap.push o } T V p f R (.Name x px) [tst] elt (compEnvC scope cl C env) := by
    intro Tn o ho W
    refine ⟨_, _, _, _, fun v c => ∃ t, v = .str (ofCp c) t, fun m v => m x = some v, rfl, by rw [Array.length_toList]; exact W, ?_, ho, by simp, ?_, hn0, k1.push _, ?_, fun C => ⟨?_, ?_, ?_, ?_⟩⟩
    · rintro i h ⟨o, ho, _⟩
      exact ⟨o, ho⟩
    · intro b hb
      show b < (s₁.heap.push _).objs.size
      rw [Heap.size_push, List.mem_singleton.mp hb]
      exact Nat.lt_succ_self _
    · rintro i v ⟨c, t', hc, rfl⟩
      exact ⟨c, by simpa using hc, _, rfl⟩
    · intro v y s₃ j _ _ _ _
      exact wpAny_pure (Kp.refl _)
    · intro v y s₃ m₃ hV hN _ _
      refine wpAny_assign_Name (wpAny_storeName_local (env := compEnvC scope cl C env) hx hN (fun h' hn' hs' => ⟨⟨_, hn', if_pos rfl⟩, KpBut.of_same (by simp) hs'⟩) ?_)
      show (scope.kind == .class || (scope.kind == .module && _)) = false
      rw [hkind]; rfl
    · rintro v c s₃ m₃ ⟨t', rfl⟩ hN ht k3 hk
      refine wpAny_bind ?_
      show wpAny _ _ (do let ok ← isTrue tst _ _; pure (ForInStep.yield ok)) _ _ _
      refine wpAny_bind (wpAny_mono (htst C c t' s₃ m₃ hN ht (k1.from k3 fun b o e => hk b o (Nat.ne_of_lt (Heap.lt_size e)) (Heap.get?_push_of_some _ e))) (fun z s' hz => wpAny_pure (wpAny_pure hz)) fun _ _ e => e)
    · rintro v c s₃ m₃ ⟨t', rfl⟩ _ hN ht k3 hk
      exact helt C c t' s₃ m₃ hN ht (k1.from k3 fun b o e => hk b o (Nat.ne_of_lt (Heap.lt_size e)) (Heap.get?_push_of_some _ e))
  cases ha : y.cps.all (· < 128) with
  | true => exact wpAny_pyIter_ascii ha (main "str_ascii_iterator" _ ⟨_, Heap.get?_push_size _ rfl, rfl, rfl⟩ (Walks.strAscii hh _ _ _))
  | false => exact wpAny_pyIter_wide ha (main "str_iterator" _ ⟨_, Heap.get?_push_size _ rfl, rfl, rfl⟩ (Walks.strWide hh _ _ _))
end Mine
end

open PySem PySem.W PySem.Calls PyProof.Rows
set_option Elab.async false
set_option maxRecDepth 100000
set_option linter.unusedVariables false
noncomputable section
namespace Mine
theorem call_ownc {w : World} {A : Around} {E : Value → Shared → Prop} {s : Shared} {a : Addr} {fd : FuncData} {vals : List Value} {Q : Value → Shared → Prop} {k : Nat} (B : Base w s.heap) (D : DefAt s.heap a fd) (R : Room A k) (body : List Stmt) (binds : List (Str × Value))
    (h : ∀ s₁ L, InCallC s L (bindL (callEnvC fd L a).kindOf binds fun _ => none) (callEnvC fd L a).cells (bindC (callEnvC fd L a).kindOf binds fun _ => none) s₁ →
      wpAny (model pw w) (A.deeper (callEnvC fd L a)) (execs body (callEnvC fd L a)) (fun f s' => Q (match f with | .ret v => v | _ => .none) s') NE s₁)
    (hbody : fd.body = .stmts body := by kernel_rfl) (hbind : bindArgs fd ⟨vals, []⟩ = pure binds := by kernel_rfl) (hclo : fd.closure = [] := by kernel_rfl)
    (hkind : ∀ L : Nat, (binds.all fun x => fd.scope.names.lookup x.1 == some .local || (fd.scope.names.lookup x.1 == some .cell && ((cellsFrom (L + 1) fd.scope.names []).lookup x.1).isSome)) = true := by intro _; kernel_rfl)
    (hsc : (fd.scope.isCoroutine, fd.scope.isGenerator, fd.scope.kind) = (false, false, .function) := by kernel_rfl) :
    wpAny (model pw w) A (PySem.call (.ref a) vals) Q E s := by
  obtain ⟨o, ho, hd⟩ := D.obj
  simp only [Prod.mk.injEq] at hsc
  refine wpAny_call (codeAny_call_cells R.lt ho hd B.nolimit D.code hbody hbind hclo (fun x hx => ?_) (fun s₁ hn => ?_) hsc.1 hsc.2.1 hsc.2.2)
  · have := List.all_eq_true.mp (hkind s.heap.objs.size) x hx
    simpa using this
  · exact wpAny_mono (h s₁ s.heap.objs.size hn) (fun f s' q => q) (fun e s' q => q.elim)
theorem InCallC.kp {s₀ s : Shared} {L : Addr} {m cm : Str → Option Value} {cs : List (Str × Addr)} (x : InCallC s₀ L m cs cm s) : Kp s₀ s := ⟨x.toInCall.same, x.toInCall.keep⟩

theorem far1 (a I : Nat) (h : a < I) (hm : I + 1 = I ∨ I + 1 = a) : False := by omega
theorem far2 (a b I : Nat) (h : a < I) (hb : b = I + 2 ∨ b = I + 3) (hm : b = I ∨ b = a) : False := by omega
theorem far3 (I : Nat) (hm : I + 1 = I + 2 ∨ I + 1 = I + 3) : False := by omega
theorem far4 (b I : Nat) (h : b < I) (hm : b = I ∨ b = I + 1 ∨ b = I + 2 ∨ b = I + 3) : False := by omega
/-- a comprehension whose one own cell is its target -/
theorem comp_cell {w : World} {A : Around} {E : Value → Shared → Prop} {s : Shared} {env : Env} {elt iter : Expr} {x : Str} {px : Pos} {scope : Scope} {pos : Pos} (cl : List (Str × Addr)) {α β : Type} (xs : List α) (f : α → β) (R : Heap → Value → β → Prop)
    {Q : Value → Shared → Prop} (hh : A.handled = none) (hlen : xs.length ≤ 1000000)
    (h : wpAny (model pw w) A (eval iter env) (fun xv s₁ => Kp s s₁ ∧ ∃ a vs, ∃ V : Value → α → Prop, xv = .ref a ∧ s₁.heap.IsList a (List.toArray vs) ∧ Paired V vs xs ∧
      ∀ C v y s₃, V v y → s₃.heap.IsCell (C + 1) (some v) → Kp s₁ s₃ → wpAny (model pw w) A (eval elt (compEnvC scope ((x, C + 1) :: cl) C env)) (fun z s' => Made s₃.heap s'.heap (fun h => R h z (f y)) ∧ Kp s₃ s') NE s₃) NE s)
    (hQ : ∀ v s', Kp s s' → Made s.heap s'.heap (fun h => ListAt R h v (xs.map f)) → Q v s')
    (hclos : closureFor scope env = pure cl := by kernel_rfl) (hx : (relabel scope env).names.lookup x = some .cell := by kernel_rfl) (hcells : ∀ n, cellsFrom n scope.names cl = (x, n) :: cl := by intro _; kernel_rfl)
    (hpush : ∀ h, pushCells h scope.names = h.push { cls := .type "cell", data := .cell none } := by intro _; kernel_rfl) (hkind : scope.kind = .function := by kernel_rfl)
    (hnames : (scope.names.all fun y => y.2 != .local || scope.names.lookup y.1 == some .local) = true := by kernel_rfl) (hs : ∀ x, foldedSetIterable iter env x = pure x := by intro _; kernel_rfl) :
    wpAny (model pw w) A (eval (.ListComp elt [⟨.Name x px, iter, [], 0⟩] scope pos) env) Q E s := by
  have hnames' : ∀ y ∈ scope.names, y.2 = .local → scope.names.lookup y.1 = some .local := fun y hy hl => by
    have := List.all_eq_true.mp hnames y hy
    simpa [hl] using this
  rw [eval_ListComp]
  refine wpAny_comprehension_free (use := none) rfl hs hclos hkind hnames' (wpAny_mono h (fun xv s₁ h₁ => ?_) fun _ _ e => e.elim)
  obtain ⟨k1, a, vs, V, rfl, hl, hp, hb⟩ := h₁
  have hal : a < s₁.heap.objs.size := by obtain ⟨_, e, _⟩ := hl; exact Heap.lt_size e
  have hsz : vs.toArray.size = xs.length := by rw [List.size_toArray]; exact hp.length
  have W := Walks.list (prog := pw) (w := w) hh s₁.heap.objs.size a (Nat.ne_of_lt hal) vs.toArray
  rw [hsz] at W
  refine wpAny_pyIter_list hl (wpAny_newObj_type ?_)
  dsimp only
  generalize hI : s₁.heap.objs.size = I at W hal ⊢
  generalize hH1 : s₁.heap.push { cls := .type "list_iterator", data := .fields #[.ref a, .int 0 0] } = H1
  have z1 : H1.objs.size = I + 1 := by rw [← hH1, Heap.size_push, hI]
  generalize hH2 : H1.push { cls := .type "list", dict := none, data := .seq ([] : List Value).toArray } = H2
  have z2 : H2.objs.size = I + 2 := by rw [← hH2, Heap.size_push, z1]
  unfold newFunctionEnv
  refine wpAny_bind (wpAny_alloc ?_)
  refine wpAny_bind (wpAny_layCells _ (fun name kind cells => by cases hkc : kind == NameKind.cell <;> simp [hkc]) _ _ _ _ ?_)
  dsimp only
  rw [hpush]
  generalize hH3 : H2.push { cls := .type (if (some env).isSome = true then "dict" else "frame"), data := .dict #[] } = H3
  have z3 : H3.objs.size = I + 3 := by rw [← hH3, Heap.size_push, z2]
  generalize hH4 : H3.push { cls := .type "cell", data := .cell none } = H4
  rw [hcells]
  refine wpAny_bind (wpAny_pure (wpAny_pure ?_))
  rw [z1, z2, z3]
  have o4 : ∀ b o, H3.get? b = some o → H4.get? b = some o := fun b o e => hH4 ▸ Heap.get?_push_of_some _ e
  have o3 : ∀ b o, H2.get? b = some o → H3.get? b = some o := fun b o e => hH3 ▸ Heap.get?_push_of_some _ e
  have o2 : ∀ b o, H1.get? b = some o → H2.get? b = some o := fun b o e => hH2 ▸ Heap.get?_push_of_some _ e
  have o1 : ∀ b o, s₁.heap.get? b = some o → H1.get? b = some o := fun b o e => hH1 ▸ Heap.get?_push_of_some _ e
  have old : ∀ b o, s₁.heap.get? b = some o → H4.get? b = some o := fun b o e => o4 _ _ (o3 _ _ (o2 _ _ (o1 _ _ e)))
  have gI : H4.get? I = some { cls := .type "list_iterator", data := .fields #[.ref a, .int 0 0] } := o4 _ _ (o3 _ _ (o2 _ _ (by rw [← hH1, ← hI]; exact Heap.get?_push_size _ rfl)))
  have hacc : H4.PlainList (I + 1) #[] := ⟨_, o4 _ _ (o3 _ _ (by rw [← hH2, ← z1]; exact Heap.get?_push_size _ rfl))⟩
  have hns : H4.Ns (I + 2) (fun _ => none) := by
    have := Heap.Ns.new H2 (.type (if (some env).isSome = true then "dict" else "frame"))
    rw [z2, hH3] at this
    exact this.keeps o4
  have hcl : H4.IsCell (I + 3) none := ⟨_, by rw [← hH4, ← z3]; exact Heap.get?_push_size _ rfl, rfl⟩
  have hst : H4.IsListIter I a 0 ∧ H4.IsList a vs.toArray := ⟨⟨_, gI, rfl, rfl⟩, hl.at fun o e => old _ _ e⟩
  have fresh : ∀ b, I ≤ b → s.heap.get? b = none := fun b hb => by
    cases e : s.heap.get? b with
    | none => rfl
    | some o => exact absurd (Heap.lt_size (k1.get _ _ e)) (by rw [hI]; exact Nat.not_lt.mpr hb)
  have turn : ∀ (t : Nat) s₃, KpBut [I, I + 1, I + 2, I + 3] { s₁ with heap := H4, toks := t } s₃ → Kp s₁ s₃ := by
    intro t s₃ k
    refine ⟨?_, fun b o e => k.get b o ?_ (old b o e)⟩
    · obtain ⟨h3, t3, rfl⟩ := k.same
      exact ⟨h3, t3, rfl⟩
    · have := Heap.lt_size e
      rw [hI] at this
      intro hm
      simp only [List.mem_cons, List.not_mem_nil, or_false] at hm
      exact far4 b I this hm
  have loop : ∀ t₁, codeAny (model pw w) A (.compLoop (.ListComp elt [⟨.Name x px, iter, [], 0⟩] scope pos) 0 (.ref I) (.ref (I + 1)) (compEnvC scope ((x, I + 3) :: cl) (I + 2) env))
        (compPost (model pw w) A E none Q (.ref (I + 1)) (I + 2)) { s₁ with heap := H4, toks := t₁ } := by
    intro t₁
    refine loop_list (mu := [I + 2, I + 3]) (Inv := fun h => (∃ m, h.Ns (I + 2) m) ∧ ∃ v, h.IsCell (I + 3) v) (Fok := fun v h => (∃ m, h.Ns (I + 2) m) ∧ h.IsCell (I + 3) (some v)) (R := R) (p := fun _ => true) (f := f) (V := V) W hst ?_ ?_ ?_ hacc hlen (by simp) ?_ ?_ ⟨⟨_, hns⟩, _, hcl⟩ ?_ ?_ ?_ ?_ ?_ ?_ ?_ ?_ ?_
    · intro hm
      simp only [List.mem_cons, List.not_mem_nil, or_false] at hm
      exact far1 a I hal hm
    · intro b hb hm
      simp only [List.mem_cons, List.not_mem_nil, or_false] at hm hb
      exact far2 a b I hal hb hm
    · intro hm
      simp only [List.mem_cons, List.not_mem_nil, or_false] at hm
      exact far3 I hm
    · rintro i h ⟨⟨o, ho, _⟩, _⟩
      exact ⟨o, ho⟩
    · rintro h ⟨⟨m, o, es, ep, e1, _⟩, v, o', e2, _⟩ b hb
      rcases List.mem_cons.mp hb with rfl | hb
      · exact ⟨o, e1⟩
      · rw [List.mem_singleton.mp hb]; exact ⟨o', e2⟩
    · rintro h h' ⟨⟨m, hm⟩, v, o', e2, e3⟩ k
      exact ⟨⟨m, Ns.keepsAt hm fun o e => k _ (by simp) o e⟩, v, o', k _ (by simp) _ e2, e3⟩
    · rintro v h h' ⟨⟨m, hm⟩, o', e2, e3⟩ k
      exact ⟨⟨m, Ns.keepsAt hm fun o e => k _ (by simp) o e⟩, o', k _ (by simp) _ e2, e3⟩
    · rintro v h ⟨hm, hc⟩
      exact ⟨hm, _, hc⟩
    · intro i v hv
      exact paired_at hp i v (by simpa using hv)
    · intro v y s₃ j _ _ _ _
      exact wpAny_pure (Kp.refl _)
    · rintro v y s₃ hV ⟨⟨m, hm⟩, v₀, hc⟩ k
      refine wpAny_assign_Name (wpAny_storeName_cell (env := compEnvC scope ((x, I + 3) :: cl) (I + 2) env) hkind hx ?_ hc (fun h' hc' hs' => ⟨⟨⟨m, hm.sameBut hs' ?_⟩, hc'⟩, KpBut.of_same (t := s₃.toks) (by simp) hs'⟩))
      · show List.lookup x ((x, I + 3) :: cl) = _
        simp
      · show (I + 2 : Nat) ≠ I + 3
        omega
    · intro v y s₃ _ _ _
      exact wpAny_pure ⟨rfl, Kp.refl _⟩
    · rintro v y s₃ hV _ ⟨hm, hc⟩ k
      exact hb (I + 2) v y s₃ hV hc (turn _ _ k)
    · rintro s' ys k hys ⟨⟨m, hm⟩, v, hc⟩ hF
      refine ⟨m, hm, fun h'' hs'' => ?_⟩
      have k' := k1.trans (turn _ _ k)
      have ga : ∀ b o, s.heap.get? b = some o → h''.get? b = some o := fun b o e => hs''.extBut b o (fun q => by rw [q, fresh (I + 2) (Nat.le_add_right _ _)] at e; cases e) (k'.get b o e)
      refine hQ _ _ ⟨?_, ga⟩ fun h q => ?_
      · obtain ⟨h3, t3, rfl⟩ := k'.same
        exact ⟨h'', t3, rfl⟩
      · rw [List.filter_eq_self.mpr (fun _ _ => rfl)] at hF
        refine ⟨_, ys.toList, rfl, ?_, hF h fun b o n e1 e2 => ?_⟩
        · obtain ⟨nn, en⟩ := hys
          exact ⟨nn, q _ _ (fresh _ (Nat.le_succ _)) (hs''.extBut _ _ (show (I + 1 : Nat) ≠ I + 2 by omega) en)⟩
        · have hbC : b ≠ I + 2 := fun z => n (by rw [z]; simp)
          refine q b o ?_ (hs''.extBut b o hbC e2)
          cases e3 : s.heap.get? b with
          | none => rfl
          | some o' => rw [show ({ s₁ with heap := H4, toks := t₁ } : Shared).heap.get? b = some o' from old _ _ (k1.get _ _ e3)] at e1; cases e1
  exact codeAny_compStart_list (loop _) (W.self 0 _ _ _ hst (loop _))
end Mine
end

open PySem PySem.W PySem.Calls PyProof.Rows
set_option Elab.async false
set_option maxRecDepth 100000
set_option linter.unusedVariables false
noncomputable section
namespace Mine
theorem comp_pair {w : World} {A : Around} {E : Value → Shared → Prop} {s : Shared} {env : Env} {elt iter : Expr} {x y : Str} {px py pt : Pos} {ctx} {scope : Scope} {pos : Pos} (cl : List (Str × Addr)) {α β : Type} (xs : List α) (f : α → β) (R : Heap → Value → β → Prop)
    {Q : Value → Shared → Prop} (hh : A.handled = none) (hlen : xs.length ≤ 1000000)
    (h : wpAny (model pw w) A (eval iter env) (fun xv s₁ => Kp s s₁ ∧ ∃ a vs, ∃ V : Value → α → Prop, xv = .ref a ∧ s₁.heap.IsList a (List.toArray vs) ∧ Paired V vs xs ∧ (∀ v y, V v y → ∃ t u1 u2, v = .ref t ∧ s₁.heap.IsTuple t #[u1, u2]) ∧
      ∀ C t u1 u2 z s₃ m₃, V (.ref t) z → s₁.heap.IsTuple t #[u1, u2] → s₃.heap.Ns C m₃ → m₃ x = some u1 → m₃ y = some u2 → Kp s₁ s₃ → wpAny (model pw w) A (eval elt (compEnvC scope cl C env)) (fun r s' => Made s₃.heap s'.heap (fun h => R h r (f z)) ∧ Kp s₃ s') NE s₃) NE s)
    (hQ : ∀ v s', Kp s s' → Made s.heap s'.heap (fun h => ListAt R h v (xs.map f)) → Q v s')
    (hclos : closureFor scope env = pure cl := by kernel_rfl) (hx : (relabel scope env).names.lookup x = some .local := by kernel_rfl) (hy : (relabel scope env).names.lookup y = some .local := by kernel_rfl) (hxy : (x == y) = false := by kernel_rfl)
    (hcell : (scope.names.all fun y => y.2 != .cell) = true := by kernel_rfl) (hkind : scope.kind = .function := by kernel_rfl)
    (hnames : (scope.names.all fun y => y.2 != .local || scope.names.lookup y.1 == some .local) = true := by kernel_rfl) (hs : ∀ x, foldedSetIterable iter env x = pure x := by intro _; kernel_rfl) :
    wpAny (model pw w) A (eval (.ListComp elt [⟨.Tuple [.Name x px, .Name y py] ctx pt, iter, [], 0⟩] scope pos) env) Q E s := by
  have hxy' : x ≠ y := by simpa using hxy
  have hplace : ∀ C, ((compEnvC scope cl C env).scope.kind == .class || ((compEnvC scope cl C env).scope.kind == .module && (compEnvC scope cl C env).locals != (compEnvC scope cl C env).globals)) = false := by
    intro C
    show (scope.kind == .class || (scope.kind == .module && _)) = false
    rw [hkind]; rfl
  refine comp1 (xs := xs) (p := fun _ => true) (f := f) (R := R) hlen (wpAny_mono h (fun xv s₁ h₁ => ?_) fun _ _ e => e) (fun v s' k m => hQ v s' k (by rwa [List.filter_eq_self.mpr (fun _ _ => rfl)] at m)) hclos hcell hkind hnames hs
  obtain ⟨k1, a, vs, V, rfl, hl, hp, hT, hb⟩ := h₁
  have hal : a < s₁.heap.objs.size := by obtain ⟨_, e, _⟩ := hl; exact Heap.lt_size e
  have hn : s₁.heap.get? s₁.heap.objs.size = none := by
    cases e : s₁.heap.get? s₁.heap.objs.size with
    | none => rfl
    | some o => exact absurd (Heap.lt_size e) (Nat.lt_irrefl _)
  have hsz : vs.toArray.size = xs.length := by rw [List.size_toArray]; exact hp.length
  have W := Walks.list (prog := pw) (w := w) hh s₁.heap.objs.size a (Nat.ne_of_lt hal) vs.toArray
  rw [hsz] at W
  refine wpAny_pyIter_list hl ⟨_, _, _, _, V, fun m v => ∃ t u1 u2, v = .ref t ∧ m x = some u1 ∧ m y = some u2 ∧ s₁.heap.IsTuple t #[u1, u2], rfl, W, ?_, ⟨⟨_, Heap.get?_push_size _ rfl, rfl, rfl⟩, hl.push _⟩, by simp, ?_, ?_, k1.push _, ?_, fun C => ⟨?_, ?_, ?_, ?_⟩⟩
  · rintro i h ⟨⟨o, ho, _⟩, _⟩
    exact ⟨o, ho⟩
  · intro b hb
    show b < (s₁.heap.push _).objs.size
    rw [Heap.size_push]
    rcases List.mem_cons.mp hb with rfl | hb
    · exact Nat.lt_succ_self _
    · rcases List.mem_cons.mp hb with rfl | hb
      · exact Nat.lt_succ_of_lt hal
      · cases hb
  · cases e : s.heap.get? s₁.heap.objs.size with
    | none => rfl
    | some o => rw [k1.get _ _ e] at hn; cases hn
  · intro i v hv
    exact paired_at hp i v (by simpa using hv)
  · rintro v z s₃ j hV _ _ ⟨hit, _⟩
    obtain ⟨t, u1, u2, rfl, _⟩ := hT v z hV
    exact wpAny_letOwnedTupleGo_listiter hit (Kp.refl _)
  · intro v z s₃ m₃ hV hN k3 hk
    obtain ⟨t, u1, u2, rfl, ht⟩ := hT v z hV
    have ht3 : s₃.heap.IsTuple t #[u1, u2] := by
      obtain ⟨o, ho, r⟩ := ht
      exact ⟨o, hk _ _ (Nat.ne_of_lt (Heap.lt_size ho)) (Heap.get?_push_of_some _ ho), r⟩
    refine wpAny_assign_Tuple hh ht3 rfl rfl fun h' hx' => ?_
    have keep : ∀ b o, s₃.heap.get? b = some o → h'.get? b = some o := fun b o e => hx' b o (Nat.ne_of_lt (Heap.lt_size e)) e
    have hN' : h'.Ns (compEnvC scope cl C env).locals m₃ := hN.keeps keep
    refine wpAny_assignInOrder_more (wpAny_assign_Name (wpAny_storeName_local (env := compEnvC scope cl C env) hx hN' (fun h2 hn2 hs2 => ?_) (hplace C)))
    refine wpAny_assignInOrder_more (wpAny_assign_Name (wpAny_storeName_local (env := compEnvC scope cl C env) hy hn2 (fun h3 hn3 hs3 => ?_) (hplace C)))
    refine wpAny_assignInOrder_none ⟨⟨_, hn3, t, u1, u2, rfl, ?_, ?_, ht⟩, ⟨⟨h3, _, rfl⟩, fun b o hb e => hs3.extBut b o (fun q => hb (by simp [q])) (hs2.extBut b o (fun q => hb (by simp [q])) (keep b o e))⟩⟩
    · simp [hxy']
    · simp
  · intro v y s₃ m₃ _ _ _ _ _
    exact wpAny_pure ⟨rfl, Kp.refl _⟩
  · rintro v z s₃ m₃ hV _ hN ⟨t, u1, u2, rfl, e1, e2, ht⟩ k3 hk
    exact hb C t u1 u2 z s₃ m₃ hV ht hN e1 e2 (k1.from k3 fun b o e => hk b o (Nat.ne_of_lt (Heap.lt_size e)) (Heap.get?_push_of_some _ e))
end Mine
end

open PySem PySem.W PySem.Calls PyProof.Rows
set_option Elab.async false
set_option maxRecDepth 100000
set_option linter.unusedVariables false
noncomputable section
namespace Mine
section
variable {w : World} {A : Around} {E : Value → Shared → Prop} {s : Shared} {Q : Value → Shared → Prop} {a : Addr} {fd : FuncData} {pos : Pos}
theorem DefAt.kp {s s' : Shared} (D : DefAt s.heap a fd) (k : Kp s s') : ∃ o, s'.heap.get? a = some o ∧ o.data = .func fd := by
  obtain ⟨o, h1, h2⟩ := D.obj
  exact ⟨o, k.get _ _ h1, h2⟩
theorem own0 (D : DefAt s.heap a fd) (h : wpAny (model pw w) A (PySem.call (.ref a) []) Q E s) : wpAny (model pw w) A (callWith pos (.ref a) [] [] []) Q E s := by
  obtain ⟨o, h1, h2⟩ := D.obj
  refine callWith_function (o := o) (fd := fd) ?_
  exact PySem.evalArgs_none ⟨⟨h1, h2⟩, h⟩
theorem own1 {t : Sem Value} (D : DefAt s.heap a fd) (h : wpAny (model pw w) A t (fun v s₁ => Kp s s₁ ∧ wpAny (model pw w) A (PySem.call (.ref a) [v]) Q E s₁) E s) : wpAny (model pw w) A (callWith pos (.ref a) [] [(false, t)] []) Q E s := by
  obtain ⟨o, h1, h2⟩ := D.obj
  exact callWith_function (o := o) (fd := fd) (evalArgs_plain (spliced_cons (wpAny_mono h (fun v s₁ h₁ => spliced_nil ⟨⟨h₁.1.get _ _ h1, h2⟩, h₁.2⟩) fun _ _ x => x)))
theorem own2 {t u : Sem Value} (D : DefAt s.heap a fd) (h : wpAny (model pw w) A t (fun v s₁ => wpAny (model pw w) A u (fun v' s₂ => Kp s s₂ ∧ wpAny (model pw w) A (PySem.call (.ref a) [v, v']) Q E s₂) E s₁) E s) : wpAny (model pw w) A (callWith pos (.ref a) [] [(false, t), (false, u)] []) Q E s := by
  obtain ⟨o, h1, h2⟩ := D.obj
  exact callWith_function (o := o) (fd := fd) (evalArgs_plain (spliced_cons (wpAny_mono h (fun v s₁ h₁ => spliced_cons (wpAny_mono h₁ (fun v' s₂ h₂ => spliced_nil ⟨⟨h₂.1.get _ _ h1, h2⟩, h₂.2⟩) fun _ _ x => x)) fun _ _ x => x)))
end
def StrV (_ : Heap) (v : Value) (x : Str) : Prop := ∃ t, v = .str x t
def BoolV (_ : Heap) (v : Value) (x : Bool) : Prop := v = .bool x
def IntV (_ : Heap) (v : Value) (x : Int) : Prop := ∃ t, v = .int x t
theorem strs_of {h : Heap} : ∀ {vs : List Value} {ys : List Str}, Paired (StrV h) vs ys → ∃ l : List (Str × Tok), vs = strValues l ∧ l.map (·.1) = ys
  | _, _, .nil => ⟨[], rfl, rfl⟩
  | _, _, .cons ⟨t, e⟩ r => by
    obtain ⟨l, h1, h2⟩ := strs_of r
    subst e
    exact ⟨(_, t) :: l, by rw [h1]; rfl, by rw [← h2]; rfl⟩

/-! _law_bool -/
theorem law_bool {w : World} {A : Around} {E : Value → Shared → Prop} {s : Shared} {b : Bool} {k : Nat} {Q : Value → Shared → Prop} (B : Base w s.heap) (R : Room A (k + 1)) (h : ∀ s', Kp s s' → Q (.bool b) s') :
    wpAny (model pw w) A (PySem.call (.ref 195) [.bool b]) Q E s := by
  refine call_own B (def_fBool B) R (fnB (stm 18)) [(Str.ofString "answer", .bool b)] fun s₁ L F => ?_
  refine wpAny_execs_cons (wpAny_Return_some (wpAny_IfExp (wpAny_isTrue_value ?_)))
  refine Call_Name2 (nm_built (F.base B) n_isinstance b_isinstance ?_)
  refine callWith_builtin rfl (evalArgs_plain (spliced_cons (nm_local F (.bool b) ?_)))
  refine spliced_cons (nm_built (F.base B) n_bool b_bool (spliced_nil ?_))
  refine IsiPair.bool_bool (wpAny_truthy_bool ?_)
  show wpAny _ _ (eval _ _) _ _ _
  exact nm_local F (.bool b) (h _ F.keeps)

/-! displays of constants -/
def intOf : Expr → Option Int
  | .Constant (.int i) _ _ => some i
  | _ => none
def strConst : Expr → Option Str
  | .Constant (.str i) _ _ => some i
  | _ => none
theorem intOf_eq {e : Expr} {i : Int} (h : intOf e = some i) : ∃ k p, e = .Constant (.int i) k p := by
  unfold intOf at h
  split at h
  · cases h; exact ⟨_, _, rfl⟩
  · cases h
theorem strConst_eq {e : Expr} {i : Str} (h : strConst e = some i) : ∃ k p, e = .Constant (.str i) k p := by
  unfold strConst at h
  split at h
  · cases h; exact ⟨_, _, rfl⟩
  · cases h
theorem items_ints {w : World} {A : Around} {E : Value → Shared → Prop} {env : Env} {pos : Pos} (elts : List Expr) : ∀ (ns : List Int) (s : Shared) (Q : List Value → Shared → Prop), elts.map intOf = ns.map some →
    (∀ vs k, IntsAre vs ns → Q vs { s with toks := k }) → wpAny (model pw w) A (spliced (backTo pos (starEach elts env))) Q E s := by
  induction elts with
  | nil =>
    intro ns s Q hc h
    cases ns with
    | nil => exact wpAny_items_nil (h [] s.toks .nil)
    | cons _ _ => cases hc
  | cons e r ih =>
    intro ns s Q hc h
    cases ns with
    | nil => cases hc
    | cons n ns =>
      simp only [List.map_cons, List.cons.injEq] at hc
      obtain ⟨k, p, rfl⟩ := intOf_eq hc.1
      refine wpAny_items_cons ?_
      refine wpAny_Constant_int ?_
      exact ih ns _ _ hc.2 fun vs k hi => h _ k (.cons n s.toks hi)
theorem items_strs {w : World} {A : Around} {E : Value → Shared → Prop} {env : Env} {pos : Pos} {hh : Heap} (elts : List Expr) : ∀ (ns : List Str) (s : Shared) (Q : List Value → Shared → Prop), elts.map strConst = ns.map some →
    (∀ vs k, Paired (StrV hh) vs ns → Q vs { s with toks := k }) → wpAny (model pw w) A (spliced (backTo pos (starEach elts env))) Q E s := by
  induction elts with
  | nil =>
    intro ns s Q hc h
    cases ns with
    | nil => exact wpAny_items_nil (h [] s.toks .nil)
    | cons _ _ => cases hc
  | cons e r ih =>
    intro ns s Q hc h
    cases ns with
    | nil => cases hc
    | cons n ns =>
      simp only [List.map_cons, List.cons.injEq] at hc
      obtain ⟨k, p, rfl⟩ := strConst_eq hc.1
      refine wpAny_items_cons ?_
      refine wpAny_Constant_str ?_
      exact ih ns _ _ hc.2 fun vs k hi => h _ k (.cons ⟨s.toks, rfl⟩ hi)
theorem fresh_none (h : Heap) : h.get? h.objs.size = none := by
  cases e : h.get? h.objs.size with
  | none => rfl
  | some o => exact absurd (Heap.lt_size e) (Nat.lt_irrefl _)
theorem list_new {w : World} {A : Around} {E : Value → Shared → Prop} {env : Env} {pos : Pos} {s : Shared} {elts : List Expr} {Q : Value → Shared → Prop}
    (h : wpAny (model pw w) A (spliced (backTo pos (starEach elts env))) (fun vs s₁ => vs.length ≤ 1000000 ∧ ∀ l s', Kp s₁ s' → s₁.heap.get? l = none → s'.heap.PlainList l vs.toArray → Q (.ref l) s') E s) :
    wpAny (model pw w) A (eval (.List elts pos) env) Q E s :=
  wpAny_List (wpAny_mono h (fun vs s₁ h₁ => ⟨by rw [sizeLine_eq]; exact Nat.le_trans h₁.1 (by decide), h₁.2 _ _ ((Kp.refl _).push _) (fresh_none _) ⟨0, Heap.get?_push_size _ rfl⟩⟩) fun _ _ e => e)
/-! _law_nothing -/
theorem ints_range {a : Int} : ∀ {n : Nat} {items : Array Value}, ItemsOf (fun i v => ∃ t, v = .int (a + i * 1) t) items n → IntsAre items.toList ((List.range n).map fun i : Nat => a + (i : Int)) := by
  intro n
  induction n with
  | zero =>
    intro items h
    have : items = #[] := Array.eq_empty_of_size_eq_zero h.1
    subst this
    exact .nil
  | succ n ih =>
    intro items h
    obtain ⟨ys, y, rfl⟩ : ∃ (ys : Array Value) (y : Value), items = ys.push y := by
      have hs : 0 < items.size := by rw [h.1]; omega
      exact ⟨items.pop, items[items.size - 1], by
        apply Array.ext'
        rw [Array.toList_push, Array.toList_pop]
        have hne : items.toList ≠ [] := fun q => by rw [← Array.length_toList, q] at hs; exact absurd hs (by decide)
        have := List.dropLast_concat_getLast hne
        rw [List.getLast_eq_getElem] at this
        simpa using this.symm⟩
    have hsz : ys.size = n := by have := h.1; rw [Array.size_push] at this; omega
    have h1 := ih (items := ys) ⟨hsz, fun j v hj => h.2 j v (by
      rw [Array.getElem?_push]
      have : j < ys.size := by
        rcases Nat.lt_or_ge j ys.size with q | q
        · exact q
        · simp [q] at hj
      rw [if_neg (by omega)]; exact hj)⟩
    obtain ⟨t, e⟩ := h.2 n y (by rw [Array.getElem?_push, if_pos hsz.symm])
    subst e
    rw [Array.toList_push, List.range_succ, List.map_append, Int.mul_one]
    exact h1.append (.cons _ t .nil)
theorem law_nothing {w : World} {A : Around} {E : Value → Shared → Prop} {s : Shared} {k : Nat} {Q : Value → Shared → Prop} (B : Base w s.heap) (R : Room A (k + 1)) (h : ∀ s' l vs, Kp s s' → s'.heap.IsList l (List.toArray vs) → IntsAre vs nothingL → Q (.ref l) s') :
    wpAny (model pw w) A (PySem.call (.ref 142) []) Q E s := by
  refine call_own B (def_fNo B) R (fnB (stm 9)) [] fun s₁ L F => ?_
  refine wpAny_execs_cons ?_
  refine wpAny_Return_some ?_
  refine wpAny_BinOp ?_
  refine list_new ?_
  refine items_ints _ [173, 847, 6150, 6155, 6156, 6157, 8203, 8204, 8205, 8288, 65279] _ _ ?_ ?_
  · kernel_rfl
  intro vs k hi
  refine ⟨?_, ?_⟩
  · rw [hi.length]; exact Nat.le_of_ble_eq_true rfl
  intro l s₂ k2 hl hp
  have F2 := F.on (((Kp.refl _).tok k).trans k2)
  refine Call_Name1 ?_
  refine nm_built (F2.base B) n_list b_list ?_
  refine callWith_type1 ?_
  refine Call_Name2 ?_
  refine nm_built (F2.base B) n_range b_range ?_
  refine PyProof.Rows.callWith_type rfl (evalArgs_plain (spliced_cons ?_))
  refine wpAny_Constant_int (spliced_cons ?_)
  refine wpAny_Constant_int (spliced_nil ?_)
  refine call_range_2 ?_
  refine call_list_range (n := 16) R.handled (IsRange.new _ _ _ _ _ _ _) (by decide) (by decide) (by decide) fun h' tk acc c' hk hl2 hacc => ?_
  have kk : ∀ b o, s₂.heap.get? b = some o → h'.get? b = some o := fun b o e => hk b o (Heap.get?_push_of_some _ e)
  obtain ⟨n, hp⟩ := hp
  have hi2 := ints_range hacc
  refine P.add_list (kk _ _ hp) hl2 ?_ ?_
  · refine h _ _ (vs ++ acc.toList) ((F2.keeps.heap kk).push _) ?_ ?_
    · refine ⟨_, Heap.get?_push_size _ rfl, rfl, 0, ?_⟩
      show Data.seq _ _ = Data.seq _ _
      congr 1
      apply Array.ext'
      simp
    · exact hi.append hi2
  · have e1 := hi.length
    have e2 := hacc.1
    rw [List.size_toArray, e1, e2]
    rw [sizeLine_eq]; exact Nat.le_of_ble_eq_true rfl

/-! _law_prepared -/
def prepOf (y : Str) : Str := Txt.join Str.empty ((y.cps.toList.filter fun c => !isB1 c).map b3)
theorem rows_small : (b3rows.all fun r => r.2.length.ble 8) = true := by k_qdec
theorem look_mem {L : List (Int × Str)} {k : Int} {x : Str} (h : lookR L k = some x) : ∃ r ∈ L, r.1 = k ∧ r.2 = x := by
  unfold lookR at h
  obtain ⟨r, h1, h2⟩ := Option.map_eq_some_iff.mp h
  exact ⟨r, List.mem_of_find?_eq_some h1, by simpa using List.find?_some h1, h2⟩
theorem b3_small (c : Nat) : (b3 c).length ≤ 8 := by
  unfold b3
  cases h : b3look c with
  | none => exact Nat.le_trans (lower_small c) (by decide)
  | some x =>
    obtain ⟨r, h1, _, rfl⟩ := look_mem h
    exact Nat.le_of_ble_eq_true (List.all_eq_true.mp rows_small r h1)
theorem sum_small : ∀ (l : List Nat), ((l.map b3).map (·.length)).sum ≤ 8 * l.length
  | [] => by simp
  | c :: r => by
    have h1 := sum_small r
    have h2 := b3_small c
    simp only [List.map_cons, List.sum_cons, List.length_cons]
    omega
theorem law_prepared {w : World} {A : Around} {E : Value → Shared → Prop} {s : Shared} {k : Nat} {y : Str} {t : Tok} {Q : Value → Shared → Prop} (B : Base w s.heap) (R : Room A (k + 2)) (hy : y.cps.size ≤ 1000) (h : ∀ s' u, Kp s s' → Q (.str (prepOf y) u) s') :
    wpAny (model pw w) A (PySem.call (.ref 147) [.str y t]) Q E s := by
  refine call_own B (def_fPrep B) R (fnB (stm 10)) [(Str.ofString "text", .str y t)] fun s₁ L F => ?_
  have R1 : Room (A.deeper (callEnv fPrep L 147)) (k + 1) := R.deeper _
  generalize hA : A.deeper (callEnv fPrep L 147) = A1 at R1 ⊢
  refine wpAny_execs_cons ?_
  refine wpAny_Return_some ?_
  refine Call_method1 (by kernel_rfl) (by kernel_rfl) (by kernel_rfl) ?_
  refine wpAny_Constant_str ?_
  refine SB.join ?_
  have F1 := F.on ((Kp.refl _).tok (s₁.toks + 1))
  refine comp_str [] y (fun c => !isB1 c) b3 StrV R1.handled (Nat.le_trans hy (Nat.le_of_ble_eq_true rfl)) ?_ ?_
  · refine nm_local F1 (.str y t) ⟨Kp.refl _, ⟨t, rfl⟩, ?_, ?_⟩
    · intro C c t' s₃ m₃ hN hm k3
      have B3 := (F1.keeps.trans k3).base B
      refine wpAny_isTrue_Not ?_
      refine wpAny_isTrue_value ?_
      refine Call_Name1 ?_
      refine ne_glob B3 g_in_table_b1 ?_
      refine own1 (def_fIn B3) ?_
      refine ne_local hN hm ⟨Kp.refl _, ?_⟩
      refine in_b1 B3 R1 fun s₄ k4 => ?_
      exact wpAny_truthy_bool ⟨rfl, k4⟩
    · intro C c t' s₃ m₃ hN hm k3
      have B3 := (F1.keeps.trans k3).base B
      refine Call_Name1 ?_
      refine ne_glob B3 g_map_table_b3 ?_
      refine own1 (def_fMap B3) ?_
      refine ne_local hN hm ⟨Kp.refl _, ?_⟩
      exact map_b3 B3 R1 fun s₄ u k4 => ⟨Made.pure ⟨u, rfl⟩, k4⟩
  · intro v s₂ k2 hm
    obtain ⟨a, vs, rfl, hl, hp⟩ := hm.here
    obtain ⟨l, rfl, hl2⟩ := strs_of hp
    refine ⟨a, l, rfl, hl.isList, _, hl2, joinOk_of ?_, fun t' kk => h _ _ ((F1.keeps.trans k2).tok kk)⟩
    have h1 := sum_small (y.cps.toList.filter fun c => !isB1 c)
    have h2 : (y.cps.toList.filter fun c => !isB1 c).length ≤ 1000 := Nat.le_trans (List.length_filter_le _ _) (by simpa using hy)
    show _ + _ * 0 ≤ _
    omega
end Mine
end

open PySem PySem.W PySem.Calls PyProof.Rows
set_option Elab.async false
set_option maxRecDepth 100000
set_option linter.unusedVariables false
noncomputable section
namespace Mine
section
variable {w : World} {A : Around} {E : Value → Shared → Prop} {s : Shared} {env : Env}
theorem sub_any {value slice : Expr} {pos : Pos} {Q : Value → Shared → Prop}
    (h : wpAny (model pw w) A (eval value env) (fun o s₁ => wpAny (model pw w) A (eval slice env) (fun i s₂ => SubscriptOn (model pw w) A o i Q E s₂) E s₁) E s)
    (hs : ∀ o i, subscripted slice false o i = operate [o, i] (getItem o i)) :
    wpAny (model pw w) A (eval (.Subscript value slice pos) env) Q E s := by
  rw [eval_Subscript]
  refine wpAny_bind (wpAny_mono h (fun o s₁ h₁ => wpAny_bind (wpAny_holding (wpAny_mono h₁ (fun i s₂ h₂ => wpAny_bind (wpAny_standAt ?_)) fun _ _ x => x))) fun _ _ x => x)
  obtain ⟨T, id, hl, hT, hg⟩ := h₂
  refine wpAny_bind ?_
  rw [getitemInPython_of_ne hT.not_modules]
  refine wpAny_bind (wpAny_specialOf hT hl ?_)
  have fin : wpAny (model pw w) A (operate [o, i] (getItem o i)) (fun r s₃ => wpAny (model pw w) A (letTemporaryGo value o r >>= fun _ => pure r) Q E s₃) E s₂ :=
    wpAny_operating (wpAny_mono hg (fun r s₃ h₃ => wpAny_bind (wpAny_letTemporaryGo (wpAny_pure h₃))) fun _ _ x => x)
  rw [← hs] at fin
  exact wpAny_pure (wpAny_bind fin)
theorem on_list {a : Addr} {items : Array Value} {k : Int} {t : Tok} {x : Value} {Q : Value → Shared → Prop} (hl : s.heap.IsList a items) (h0 : 0 ≤ k) (hfit : k < 2 ^ 63) (hx : items[k.toNat]? = some x) (h : Q x s) :
    SubscriptOn (model pw w) A (.ref a) (.int k t) Q E s := ⟨"list", _, list_getitem_lookup, hl.typeIs, wpAny_getItem_list hl h0 hfit hx h⟩
theorem on_tuple {a : Addr} {items : Array Value} {k : Int} {t : Tok} {x : Value} {Q : Value → Shared → Prop} (hl : s.heap.IsTuple a items) (h0 : 0 ≤ k) (hfit : k < 2 ^ 63) (hx : items[k.toNat]? = some x) (h : Q x s) :
    SubscriptOn (model pw w) A (.ref a) (.int k t) Q E s := ⟨"tuple", _, PySem.F.slot_tuple_getitem.lookup, hl.typeIs, getItem_tuple (j := k.toNat) hl (by omega) hfit (by
      have : k.toNat < items.size := by
        rcases Nat.lt_or_ge k.toNat items.size with q | q
        · exact q
        · simp [q] at hx
      unfold seqIndex?
      simp only [show ¬ k < 0 by omega, if_false]
      rw [if_pos]
      simp only [Bool.and_eq_true, decide_eq_true_eq]
      omega) hx h⟩
theorem tuple2 {e₁ e₂ : Expr} {k : Nat} {pos : Pos} {Q : Value → Shared → Prop}
    (h : wpAny (model pw w) A (eval e₁ env) (fun v₁ s₁ => wpAny (model pw w) A (eval e₂ env) (fun v₂ s₂ => ∀ a s', Kp s₂ s' → s₂.heap.get? a = none → s'.heap.get? a = some { cls := .type "tuple", data := .seq #[v₁, v₂] } → Q (.ref a) s') E s₁) E s)
    (h1 : starEach [e₁, e₂] env = (false, eval e₁ env) :: starEach [e₂] env) (h2 : starEach [e₂] env = (false, eval e₂ env) :: starEach [] env) :
    wpAny (model pw w) A (eval (.Tuple [e₁, e₂] k pos) env) Q E s := by
  refine wpAny_Tuple (wpAny_items_cons (he := h1) (wpAny_mono h (fun v₁ s₁ h₁ => wpAny_items_cons (he := h2) (wpAny_mono h₁ (fun v₂ s₂ h₂ => wpAny_items_nil ⟨?_, ?_⟩) fun _ _ e => e)) fun _ _ e => e))
  · rw [sizeLine_eq]; exact Nat.le_of_ble_eq_true rfl
  · exact h₂ _ _ ((Kp.refl _).push _) (fresh_none _) (Heap.get?_push_size _ rfl)
end

section
variable {w : World} {A : Around} {E : Value → Shared → Prop} {s : Shared} {env : Env} {Q : Value → Shared → Prop}
theorem tk (s : Shared) (t : Nat) : Kp s { s with toks := t } := (Kp.refl s).tok t
theorem k_int {i : Int} {k pos} (h : ∀ s' u, Kp s s' → Q (.int i u) s') : wpAny (model pw w) A (eval (.Constant (.int i) k pos) env) Q E s := wpAny_Constant_int (h _ _ (tk _ _))
theorem k_str {i : Str} {k pos} (h : ∀ s' u, Kp s s' → Q (.str i u) s') : wpAny (model pw w) A (eval (.Constant (.str i) k pos) env) Q E s := wpAny_Constant_str (h _ _ (tk _ _))
theorem k_mod {a b : Int} {t u : Tok} (hb : b ≠ 0) (h : ∀ s' u, Kp s s' → Q (.int (a.fmod b) u) s') : wpAny (model pw w) A (binaryOp .Mod (.int a t) (.int b u)) Q E s := mod_int hb (h _ _ (tk _ _))
theorem k_div {a b : Int} {t u : Tok} (hb : b ≠ 0) (hs : b.natAbs < 1073741824) (h : ∀ s' u, Kp s s' → Q (.int (a.fdiv b) u) s') : wpAny (model pw w) A (binaryOp .FloorDiv (.int a t) (.int b u)) Q E s :=
  floordiv_int hb (h _ _ (tk _ _)) (.inl (PyProof.noPylong_small hs))
theorem k_add {a b : Int} {t u : Tok} (h : ∀ s' u, Kp s s' → Q (.int (a + b) u) s') : wpAny (model pw w) A (binaryOp .Add (.int a t) (.int b u)) Q E s := PyProof.Rows.add_int (h _ _ (tk _ _))
theorem k_chr {i : Int} {t : Tok} (h0 : 0 ≤ i) (h1 : i ≤ 1114111) (h : ∀ s' u, Kp s s' → Q (.str (ofCp i.toNat) u) s') : wpAny (model pw w) A (PySem.call (.builtin "chr") [.int i t]) Q E s := chr_of_range h0 h1 (h _ _ (tk _ _))
theorem k_ord {c : Nat} {t : Tok} (h : ∀ s' u, Kp s s' → Q (.int c u) s') : wpAny (model pw w) A (PySem.call (.builtin "ord") [.str (ofCp c) t]) Q E s := P.ord_of_char (h _ _ (tk _ _))
end

def PairAt (h : Heap) (v : Value) (x : Str × Str) : Prop := ∃ a u1 u2, v = .ref a ∧ h.get? a = some { cls := .type "tuple", data := .seq #[.str x.1 u1, .str x.2 u2] }
theorem Kp.none {s s' : Shared} {a : Addr} (k : Kp s s') (h : s'.heap.get? a = none) : s.heap.get? a = none := by
  cases e : s.heap.get? a with
  | none => rfl
  | some o => rw [k.get _ _ e] at h; cases h
theorem pair_made {s s₂ s' : Shared} {a : Addr} {x y : Str} {t u : Tok} (k : Kp s s₂) (hn : s₂.heap.get? a = none) (hg : s'.heap.get? a = some { cls := .type "tuple", data := .seq #[.str x t, .str y u] }) :
    Made s.heap s'.heap (fun h => PairAt h (.ref a) (x, y)) := fun h q => ⟨a, t, u, rfl, q _ _ (k.none hn) hg⟩

def listElts : Expr → Option (List Expr)
  | .List es _ => some es
  | _ => none
theorem listElts_eq {e : Expr} {es : List Expr} (h : listElts e = some es) : ∃ p, e = .List es p := by
  unfold listElts at h
  split at h
  · cases h; exact ⟨_, rfl⟩
  · cases h
theorem Paired.mono {α β : Type} {F G : α → β → Prop} : ∀ {l : List α} {m : List β}, Paired F l m → (∀ a b, F a b → G a b) → Paired G l m
  | _, _, .nil, _ => .nil
  | _, _, .cons h r, k => .cons (k _ _ h) (Paired.mono r k)
theorem paired_get {α : Type} {V : Value → α → Prop} : ∀ {vs : List Value} {xs : List α}, Paired V vs xs → ∀ (i : Nat) x, xs[i]? = some x → ∃ v, vs[i]? = some v ∧ V v x
  | _, _, .nil, i, v, h => by simp at h
  | _, _, .cons h1 h2, 0, v, h => by
    simp at h
    subst h
    exact ⟨_, rfl, h1⟩
  | _, _, .cons h1 h2, i + 1, v, h => by
    simpa using paired_get h2 i v (by simpa using h)
/-- lists and tuples are kept -/
def KeepSeq (h h' : Heap) : Prop := ∀ b o xs n, o.data = .seq xs n → h.get? b = some o → h'.get? b = some o
theorem Kp.seq {s s' : Shared} (k : Kp s s') : KeepSeq s.heap s'.heap := fun b o _ _ _ e => k.get b o e
theorem KeepSeq.trans {a b c : Heap} (x : KeepSeq a b) (y : KeepSeq b c) : KeepSeq a c := fun p o xs n d e => y p o xs n d (x p o xs n d e)
theorem seq_same {h h' : Heap} {L : Addr} {m : Str → Option Value} (N : h.Ns L m) (sb : Heap.SameBut L h h') : KeepSeq h h' := fun b o xs n d e => by
  refine sb.extBut b o (fun q => ?_) e
  obtain ⟨o', es, ep, h1, h2, _⟩ := N
  rw [q, h1] at e
  cases e
  rw [h2] at d; cases d
def Mono {β : Type} (R : Heap → Value → β → Prop) : Prop := ∀ h h' v y, KeepSeq h h' → R h v y → R h' v y
theorem mono_str : Mono StrV := fun _ _ _ _ _ r => r
theorem mono_bool : Mono BoolV := fun _ _ _ _ _ r => r
theorem mono_int : Mono IntV := fun _ _ _ _ _ r => r
theorem mono_pair : Mono PairAt := fun _ _ _ _ k ⟨a, u1, u2, e, g⟩ => ⟨a, u1, u2, e, k _ _ _ _ rfl g⟩
theorem mono_list {β : Type} {R : Heap → Value → β → Prop} (m : Mono R) : Mono (ListAt R) := fun h h' v y k ⟨a, vs, e, ⟨n, g⟩, p⟩ => ⟨a, vs, e, ⟨n, k _ _ _ _ rfl g⟩, Mine.Paired.mono p fun v y => m h h' v y k⟩
theorem items_lists {w : World} {A : Around} {E : Value → Shared → Prop} {env : Env} {pos : Pos} (elts : List Expr) : ∀ (ws : List (List Str)) (s : Shared) (Q : List Value → Shared → Prop), elts.map (fun e => (listElts e).map (·.map strConst)) = ws.map (fun x => some (x.map some)) → (∀ x ∈ ws, x.length ≤ 1000) →
    (∀ vs s', Kp s s' → Paired (ListAt StrV s'.heap) vs ws → Q vs s') → wpAny (model pw w) A (spliced (backTo pos (starEach elts env))) Q E s := by
  induction elts with
  | nil =>
    intro ns s Q hc _ h
    cases ns with
    | nil => exact wpAny_items_nil (h [] s (Kp.refl _) .nil)
    | cons _ _ => cases hc
  | cons e r ih =>
    intro ns s Q hc hs h
    cases ns with
    | nil => cases hc
    | cons n ns =>
      simp only [List.map_cons, List.cons.injEq] at hc
      obtain ⟨es, h1, h2⟩ := Option.map_eq_some_iff.mp hc.1
      obtain ⟨p, rfl⟩ := listElts_eq h1
      refine wpAny_items_cons ?_
      refine list_new ?_
      refine items_strs (hh := s.heap) es n _ _ h2 fun vs k hi => ?_
      refine ⟨by rw [hi.length]; exact Nat.le_trans (hs n List.mem_cons_self) (by decide), fun l s' k' hl hp => ?_⟩
      refine ih ns _ _ hc.2 (fun x hx => hs x (List.mem_cons_of_mem _ hx)) fun vs' s'' k'' hp' => ?_
      refine h _ _ ((((Kp.refl s).tok k).trans k').trans k'') (.cons ⟨l, vs, rfl, ?_, hi⟩ hp')
      obtain ⟨m, e⟩ := hp
      exact ⟨m, k''.get _ _ e⟩

theorem listAt_get {β : Type} {R : Heap → Value → β → Prop} {h : Heap} {a : Addr} {ys : List β} (x : ListAt R h (.ref a) ys) {i : Nat} {y : β} (hi : ys[i]? = some y) : ∃ items v, h.IsList a items ∧ items[i]? = some v ∧ R h v y := by
  obtain ⟨a', vs, e, hl, hp⟩ := x
  cases e
  obtain ⟨v, h1, h2⟩ := paired_get hp i y hi
  exact ⟨_, v, hl.isList, by simpa using h1, h2⟩
/-! _law_word -/
def waysL : List (List Str) := [[⟨#[]⟩, ⟨#[173]⟩, ⟨#[8203, 8205]⟩, ⟨#[65039]⟩], [⟨#[115]⟩, ⟨#[83]⟩, ⟨#[383]⟩, ⟨#[119826, 8288]⟩], [⟨#[115, 115]⟩, ⟨#[223]⟩, ⟨#[83, 847, 115]⟩, ⟨#[383, 83]⟩], [⟨#[102, 105]⟩, ⟨#[64257]⟩, ⟨#[70, 65279, 105]⟩, ⟨#[119813, 73]⟩], [⟨#[46]⟩, ⟨#[6155, 46]⟩, ⟨#[46, 8288]⟩, ⟨#[8204, 46, 65029]⟩], [⟨#[46, 46]⟩, ⟨#[46, 173, 46]⟩, ⟨#[847, 46, 46]⟩, ⟨#[46, 46, 65038]⟩], [⟨#[37, 55, 51]⟩, ⟨#[8205, 37, 55, 51]⟩, ⟨#[37, 55, 6156, 51]⟩, ⟨#[37, 55, 51, 65279]⟩], [⟨#[115, 58, 56, 48]⟩, ⟨#[83, 58, 56, 48]⟩, ⟨#[383, 58, 56, 8203, 48]⟩, ⟨#[65024, 115, 58, 56, 48]⟩]]
def meantL : List Str := [⟨#[]⟩, ⟨#[115]⟩, ⟨#[115, 115]⟩, ⟨#[102, 105]⟩, ⟨#[46]⟩, ⟨#[46, 46]⟩, ⟨#[37, 55, 51]⟩, ⟨#[115, 58, 56, 48]⟩]
def placeOf (n : Int) : Int := if (n.fdiv 9).fmod 1112064 < 55296 then (n.fdiv 9).fmod 1112064 else (n.fdiv 9).fmod 1112064 + 2048
def signOf (n : Int) : Nat := if (placeOf n).toNat = 47 then 63 else (placeOf n).toNat
def wordOf (n : Int) : Str × Str :=
  if n.fmod 9 = 8 then (ofCp (signOf n), if isB1 (signOf n) then Str.empty else b3 (signOf n))
  else (((waysL[(n.fmod 9).toNat]?.getD [])[((n.fdiv 9).fmod 4).toNat]?).getD Str.empty, meantL[(n.fmod 9).toNat]?.getD Str.empty)
theorem fmod_lo (a b : Int) (hb : 0 < b) : 0 ≤ a.fmod b := Int.fmod_nonneg_of_pos a hb
theorem fmod_hi (a b : Int) (hb : 0 < b) : a.fmod b < b := Int.fmod_lt_of_pos a hb
theorem place_lo (n : Int) : 0 ≤ placeOf n := by
  have := fmod_lo (n.fdiv 9) 1112064 (by decide)
  unfold placeOf; split <;> omega
theorem place_hi (n : Int) : placeOf n ≤ 1114111 := by
  have := fmod_hi (n.fdiv 9) 1112064 (by decide)
  unfold placeOf; split <;> omega
theorem ways_four : ∀ ws ∈ waysL, ws.length = 4 := by decide +kernel
theorem any_isB1 (c : Nat) : (nothingL.any fun x => x == (c : Int)) = isB1 c := by
  unfold isB1
  rw [Bool.eq_iff_iff, List.any_eq_true, List.contains_iff_mem]
  constructor
  · rintro ⟨x, h1, h2⟩
    rw [← beq_iff_eq.mp h2]; exact h1
  · intro h1
    exact ⟨_, h1, beq_self_eq_true _⟩
set_option maxHeartbeats 1000000 in
theorem law_word {w : World} {A : Around} {E : Value → Shared → Prop} {s : Shared} {k : Nat} {n : Int} {t : Tok} {Q : Value → Shared → Prop} (B : Base w s.heap) (R : Room A (k + 2)) (h : ∀ v s', Kp s s' → Made s.heap s'.heap (fun h => PairAt h v (wordOf n)) → Q v s') :
    wpAny (model pw w) A (PySem.call (.ref 154) [.int n t]) Q E s := by
  refine call_own B (def_fWord B) R (fnB (stm 11)) [(Str.ofString "n", .int n t)] fun s₁ L F => ?_
  have R1 : Room (A.deeper (callEnv fWord L 154)) (k + 1) := R.deeper _
  generalize hA : A.deeper (callEnv fWord L 154) = A1 at R1 ⊢
  refine wpAny_execs_cons ?_
  refine wpAny_Assign_Name ?_ (by kernel_rfl)
  refine wpAny_BinOp ?_
  refine nm_local F (.int n t) ?_
  refine k_int fun s₂ u₂ k₂ => ?_
  refine k_mod (by decide) fun s₃ u₃ k₃ => ?_
  refine st_local (F.on (k₂.trans k₃)) fun s₄ F4 _ => ?_
  refine wpAny_execs_cons ?_
  refine wpAny_If ?_
  refine wpAny_isTrue_Compare1 ?_
  refine nm_local F4 (.int (n.fmod 9) u₃) ?_
  refine k_int fun s₅ u₅ k₅ => ?_
  refine eq_int ?_
  refine wpAny_truthy_bool ?_
  have F5 := F4.on k₅
  by_cases h8 : n.fmod 9 = 8
  · have e8 : (n.fmod 9 == 8) = true := by simpa using h8
    rw [if_pos e8]
    refine wpAny_execs_cons ?_
    refine wpAny_Assign_Name ?_ (by kernel_rfl)
    refine wpAny_BinOp ?_
    refine wpAny_BinOp ?_
    refine nm_local F5 (.int n t) ?_
    refine k_int fun s₆ u₆ k₆ => ?_
    refine k_div (by decide) (by decide) fun s₇ u₇ k₇ => ?_
    refine k_int fun s₈ u₈ k₈ => ?_
    refine k_mod (by decide) fun s₉ u₉ k₉ => ?_
    refine st_local (F5.on (k₆.trans (k₇.trans (k₈.trans k₉)))) fun s₁₀ F10 _ => ?_
    refine wpAny_execs_cons ?_
    refine wpAny_Assign_Name ?_ (by kernel_rfl)
    refine Call_Name1 ?_
    refine nm_built (F10.base B) n_chr b_chr ?_
    refine PySem.Calls.callWith_builtin rfl (evalArgs_plain (spliced_cons ?_))
    refine wpAny_mono (Q := fun v s' => (∃ u, v = .int (placeOf n) u) ∧ Kp s₁₀ s') (E := NE) ?_ ?_ (fun _ _ e => e)
    · refine wpAny_IfExp ?_
      refine wpAny_isTrue_Compare1 ?_
      refine nm_local F10 (.int ((n.fdiv 9).fmod 1112064) u₉) ?_
      refine k_int fun s₁₁ u₁₁ k₁₁ => ?_
      refine PyProof.Rows.lt_int ?_
      refine wpAny_truthy_bool ?_
      by_cases hp : (n.fdiv 9).fmod 1112064 < 55296
      · rw [if_pos (decide_eq_true hp)]
        refine nm_local (F10.on k₁₁) (.int ((n.fdiv 9).fmod 1112064) u₉) ⟨⟨u₉, ?_⟩, k₁₁⟩
        unfold placeOf; rw [if_pos hp]
      · rw [if_neg (by simpa using hp)]
        refine wpAny_BinOp ?_
        refine nm_local (F10.on k₁₁) (.int ((n.fdiv 9).fmod 1112064) u₉) ?_
        refine k_int fun s₁₂ u₁₂ k₁₂ => ?_
        refine k_add fun s₁₃ u₁₃ k₁₃ => ⟨⟨u₁₃, ?_⟩, k₁₁.trans (k₁₂.trans k₁₃)⟩
        unfold placeOf; rw [if_neg hp]
    rintro v s₁₁ ⟨⟨u, rfl⟩, k₁₁⟩
    refine spliced_nil ?_
    refine k_chr (place_lo n) (place_hi n) fun s₁₂ u₁₂ k₁₂ => ?_
    refine st_local (F10.on (k₁₁.trans k₁₂)) fun s₁₃ F13 _ => ?_
    refine wpAny_execs_cons ?_
    refine wpAny_mono (Q := fun f s' => f = .next ∧ ∃ m, Fm s L m s' ∧ ∃ u, m (Str.ofString "some") = some (.str (ofCp (signOf n)) u)) (E := NE) ?_ ?_ (fun _ _ e => e)
    · refine wpAny_If ?_
      refine wpAny_isTrue_Compare1 ?_
      refine nm_local F13 (.str (ofCp (placeOf n).toNat) u₁₂) ?_
      refine k_str fun s₁₄ u₁₄ k₁₄ => ?_
      refine P.eq_str ?_
      refine wpAny_truthy_bool ?_
      by_cases hq : (placeOf n).toNat = 47
      · have e : ((ofCp (placeOf n).toNat).cps.toList == (Str.ofString "/").cps.toList) = true := by rw [hq]; kernel_rfl
        rw [if_pos e]
        refine wpAny_execs_cons ?_
        refine wpAny_Assign_Name ?_ (by kernel_rfl)
        refine k_str fun s₁₅ u₁₅ k₁₅ => ?_
        refine st_local (F13.on (k₁₄.trans k₁₅)) fun s₁₆ F16 _ => ?_
        refine wpAny_execs_nil ⟨rfl, _, F16, u₁₅, ?_⟩
        unfold signOf; rw [if_pos hq]
        kernel_rfl
      · have e : ¬ ((ofCp (placeOf n).toNat).cps.toList == (Str.ofString "/").cps.toList) = true := by
          have e1 : (Str.ofString "/").cps.toList = [47] := by kernel_rfl
          rw [e1]
          show ¬ (([(placeOf n).toNat] : List Nat) == [47]) = true
          simpa using hq
        rw [if_neg e]
        refine wpAny_execs_nil ⟨rfl, _, F13.on k₁₄, u₁₂, ?_⟩
        unfold signOf; rw [if_neg hq]
        exact if_pos rfl
    rintro f s₁₄ ⟨rfl, m, F14, u, hm⟩
    show wpAny _ _ (execs _ _) _ _ _
    have W : wordOf n = (ofCp (signOf n), if isB1 (signOf n) then Str.empty else b3 (signOf n)) := by unfold wordOf; rw [if_pos h8]
    refine wpAny_execs_cons ?_
    refine wpAny_If ?_
    refine wpAny_isTrue_Compare1 ?_
    refine Call_Name1 ?_
    refine nm_built (F14.base B) n_ord b_ord ?_
    refine PySem.Calls.callWith_builtin rfl (evalArgs_plain (spliced_cons ?_))
    refine nm_local F14 (.str (ofCp (signOf n)) u) ?_ hm
    refine spliced_nil ?_
    refine k_ord fun s₁₅ u₁₅ k₁₅ => ?_
    have F15 := F14.on k₁₅
    refine PyProof.Rows.Call_Name0 ?_
    refine nm_glob (F15.base B) g_law_nothing ?_
    refine own0 (def_fNo (F15.base B)) ?_
    refine law_nothing (F15.base B) R1 fun s₁₆ l vs k₁₆ hl hi => ?_
    refine in_list_ints hl hi ?_
    refine wpAny_truthy_bool ?_
    have F16 := F15.on k₁₆
    rw [any_isB1]
    cases hb : isB1 (signOf n) with
    | true =>
      rw [if_pos rfl]
      refine wpAny_execs_cons ?_
      refine wpAny_Return_some ?_
      refine tuple2 ?_ (by kernel_rfl) (by kernel_rfl)
      refine nm_local F16 (.str (ofCp (signOf n)) u) ?_ hm
      refine k_str fun s₁₇ u₁₇ k₁₇ => ?_
      intro a s₁₈ k₁₈ hn hg
      refine h _ _ (F16.keeps.trans (k₁₇.trans k₁₈)) ?_
      rw [W, hb, if_pos rfl]
      exact pair_made (F16.keeps.trans k₁₇) hn hg
    | false =>
      rw [if_neg (by decide)]
      refine wpAny_execs_nil ?_
      refine wpAny_execs_cons ?_
      refine wpAny_Return_some ?_
      refine tuple2 ?_ (by kernel_rfl) (by kernel_rfl)
      refine nm_local F16 (.str (ofCp (signOf n)) u) ?_ hm
      refine Call_Name1 ?_
      refine nm_glob (F16.base B) g_map_table_b3 ?_
      refine own1 (def_fMap (F16.base B)) ?_
      refine nm_local F16 (.str (ofCp (signOf n)) u) ?_ hm
      refine ⟨Kp.refl _, ?_⟩
      refine map_b3 (F16.base B) R1 fun s₁₇ u₁₇ k₁₇ => ?_
      intro a s₁₈ k₁₈ hn hg
      refine h _ _ (F16.keeps.trans (k₁₇.trans k₁₈)) ?_
      rw [W, hb, if_neg (by decide)]
      exact pair_made (F16.keeps.trans k₁₇) hn hg
  · have e8 : ¬ (n.fmod 9 == 8) = true := by simpa using h8
    rw [if_neg e8]
    refine wpAny_execs_nil ?_
    refine wpAny_execs_cons ?_
    refine wpAny_Assign_Name (hs := ?a) ?_
    case a => kernel_rfl
    refine list_new ?_
    refine items_lists _ waysL _ _ ?_ ?_ ?_
    · kernel_rfl
    · decide +kernel
    intro vs s₆ k₆ hp
    refine ⟨?_, ?_⟩
    · rw [hp.length]; exact Nat.le_of_ble_eq_true rfl
    intro l s₇ k₇ hln hl
    have F7 := (F5.on (k₆.trans k₇))
    refine st_local F7 fun s₈ F8 sb => ?_
    have q7 : KeepSeq s₇.heap s₈.heap := seq_same F7.ns sb
    have hways : ListAt (ListAt StrV) s₈.heap (.ref l) waysL := by
      obtain ⟨nn, e⟩ := hl
      exact ⟨l, vs, rfl, ⟨nn, q7 _ _ _ _ rfl e⟩, Mine.Paired.mono hp fun v y => mono_list mono_str _ _ v y (k₇.seq.trans q7)⟩
    clear hp hl q7
    have lo9 := fmod_lo n 9 (by decide)
    have hi9 := fmod_hi n 9 (by decide)
    have lo4 := fmod_lo (n.fdiv 9) 4 (by decide)
    have hi4 := fmod_hi (n.fdiv 9) 4 (by decide)
    refine wpAny_execs_cons ?_
    refine wpAny_Return_some ?_
    refine tuple2 (h1 := ?b) (h2 := ?c) ?_
    case b => kernel_rfl
    case c => kernel_rfl
    refine sub_any (hs := ?d) ?_
    case d => exact fun _ _ => rfl
    refine sub_any (hs := ?e) ?_
    case e => exact fun _ _ => rfl
    refine nm_local F8 (.ref l) ?_
    refine nm_local F8 (.int (n.fmod 9) u₃) ?_
    have hk8 : (n.fmod 9).toNat < 8 := by omega
    have hk4 : ((n.fdiv 9).fmod 4).toNat < 4 := by omega
    obtain ⟨ws, hws⟩ : ∃ ws, waysL[(n.fmod 9).toNat]? = some ws := ⟨_, List.getElem?_eq_getElem hk8⟩
    obtain ⟨wd, hwd⟩ : ∃ wd, ws[((n.fdiv 9).fmod 4).toNat]? = some wd := by
      have h4 : ws.length = 4 := ways_four ws (List.mem_of_getElem? hws)
      exact ⟨_, List.getElem?_eq_getElem (by omega)⟩
    obtain ⟨md, hmd⟩ : ∃ md, meantL[(n.fmod 9).toNat]? = some md := ⟨_, List.getElem?_eq_getElem hk8⟩
    have W : wordOf n = (wd, md) := by unfold wordOf; rw [if_neg h8, hws, hmd]; simp [hwd]
    obtain ⟨items, v, hil, hiv, l2, vs2, rfl, hl2, hp2⟩ := listAt_get hways hws
    refine on_list hil lo9 (by omega) hiv ?_
    refine wpAny_BinOp ?_
    refine wpAny_BinOp ?_
    refine nm_local F8 (.int n t) ?_
    refine k_int fun s₉ u₉ k₉ => ?_
    refine k_div (by decide) (by decide) fun s₁₀ u₁₀ k₁₀ => ?_
    refine k_int fun s₁₁ u₁₁ k₁₁ => ?_
    refine k_mod (by decide) fun s₁₂ u₁₂ k₁₂ => ?_
    have kk := k₉.trans (k₁₀.trans (k₁₁.trans k₁₂))
    obtain ⟨v2, hv2, t2, rfl⟩ := paired_get hp2 _ _ hwd
    have hl2' : s₁₂.heap.IsList l2 vs2.toArray := (hl2.at fun o e => kk.get _ _ e).isList
    refine on_list hl2' lo4 (by omega) (by simpa using hv2) ?_
    have F12 := F8.on kk
    refine sub_any (hs := ?f) ?_
    case f => exact fun _ _ => rfl
    refine list_new ?_
    refine items_strs (hh := s₁₂.heap) _ meantL _ _ ?_ ?_
    · kernel_rfl
    intro vs3 t3 hp3
    refine ⟨?_, ?_⟩
    · rw [hp3.length]; exact Nat.le_of_ble_eq_true rfl
    intro l3 s₁₃ k₁₃ hn3 hl3
    have F13 := F12.on ((tk s₁₂ t3).trans k₁₃)
    refine nm_local F13 (.int (n.fmod 9) u₃) ?_
    obtain ⟨v3, hv3, t4, rfl⟩ := paired_get hp3 _ _ hmd
    refine on_list hl3.isList lo9 (by omega) (by simpa using hv3) ?_
    intro a s₁₄ k₁₄ hn hg
    refine h _ _ (F13.keeps.trans k₁₄) ?_
    rw [W]
    exact pair_made F13.keeps hn hg
end Mine
end

open PySem PySem.W PySem.Calls PyProof.Rows
set_option Elab.async false
set_option maxRecDepth 100000
set_option linter.unusedVariables false
noncomputable section
namespace Mine
def wordsOf (n : Int) : List (Str × Str) := wordOf (n.fdiv 4) :: (List.range (n.fmod 4).toNat).map fun p => wordOf ((n.fdiv 144).fdiv ((36 : Int) ^ p))
theorem pair_same {h h' : Heap} {a : Addr} {v : Value} {x : Str × Str} {o : Obj} (ha : h.get? a = some o) (ho : o.cls ≠ .type "tuple") (k : ∀ b o, b ≠ a → h.get? b = some o → h'.get? b = some o) (p : PairAt h v x) : PairAt h' v x := by
  obtain ⟨b, u1, u2, rfl, g⟩ := p
  refine ⟨b, u1, u2, rfl, k _ _ (fun q => ?_) g⟩
  rw [q, ha] at g
  cases g
  exact ho rfl
theorem Ns.ne_list {h : Heap} {L a : Addr} {m : Str → Option Value} {xs : Array Value} (N : h.Ns L m) (l : h.PlainList a xs) : a ≠ L := by
  obtain ⟨o', es, ep, h1, h2, _⟩ := N
  obtain ⟨n, e⟩ := l
  intro q
  rw [q, h1] at e
  cases e
  cases h2
theorem Ns.ne_iter {h : Heap} {L I : Addr} {m : Str → Option Value} {x y z : Int} (N : h.Ns L m) (l : IsRangeIter h I x y z) : I ≠ L := by
  obtain ⟨o', es, ep, h1, h2, _⟩ := N
  intro q
  have e : h.get? I = _ := l
  rw [q, h1] at e
  cases e
  cases h2
theorem iter_ne_list {h : Heap} {I a : Addr} {xs : Array Value} {x y z : Int} (i : IsRangeIter h I x y z) (l : h.PlainList a xs) : a ≠ I := by
  obtain ⟨n, e⟩ := l
  intro q
  have e' : h.get? I = _ := i
  rw [q, e'] at e
  have := congrArg Obj.data (Option.some.inj e)
  cases this
theorem Fm.but {s₀ s : Shared} {L J : Addr} {m : Str → Option Value} (F : Fm s₀ L m s) {h : Heap} (t : Nat) (k : ∀ b o, b ≠ J → s.heap.get? b = some o → h.get? b = some o) (hL : L ≠ J) (hJ : s₀.heap.get? J = none) : Fm s₀ L m { s with heap := h, toks := t } := by
  refine ⟨?_, Ns.keepsAt F.ns fun o e => k L o hL e, fun b o e => k b o (fun q => by rw [q, hJ] at e; cases e) (F.keep b o e), F.fresh⟩
  obtain ⟨h', t', rfl⟩ := F.same
  exact ⟨h, t, rfl⟩
theorem plainL {h : Heap} {a : Addr} {xs : Array Value} (x : h.PlainList a xs) : PlainL h a xs := by
  obtain ⟨n, e⟩ := x
  exact ⟨_, n, e, rfl, rfl, rfl⟩
theorem k_pow {w : World} {A : Around} {E : Value → Shared → Prop} {s : Shared} {Q : Value → Shared → Prop} {a n : Int} {t u : Tok} (hn : 0 ≤ n) (hn2 : n ≤ 1000000) (ha : a.natAbs < 2 ^ 64) (h : ∀ s' u, Kp s s' → Q (.int (a ^ n.toNat) u) s') :
    wpAny (model pw w) A (binaryOp .Pow (.int a t) (.int n u)) Q E s := pow_int_small hn hn2 ha (h _ _ (tk _ _))
theorem list1 {w : World} {A : Around} {E : Value → Shared → Prop} {env : Env} {pos : Pos} {s : Shared} {e : Expr} {Q : Value → Shared → Prop}
    (h : wpAny (model pw w) A (eval e env) (fun v s₁ => ∀ l s', Kp s₁ s' → s₁.heap.get? l = none → s'.heap.PlainList l #[v] → Q (.ref l) s') E s)
    (he : starEach [e] env = (false, eval e env) :: starEach [] env) : wpAny (model pw w) A (eval (.List [e] pos) env) Q E s :=
  list_new (wpAny_items_cons (he := he) (wpAny_mono h (fun v s₁ h₁ => wpAny_items_nil ⟨by show 1 ≤ 1000000; decide, h₁⟩) fun _ _ e => e))
theorem ne_ri : (Value.type "range_iterator") ≠ .type "tuple" := by decide
theorem ne_li : (Value.type "list") ≠ .type "tuple" := by decide
theorem pow36 : ∀ i : Nat, i < 3 → (36 : Int) ^ i ≠ 0 ∧ ((36 : Int) ^ i).natAbs < 1073741824 := by decide +kernel
set_option maxHeartbeats 1000000 in
theorem law_words {w : World} {A : Around} {E : Value → Shared → Prop} {s : Shared} {k : Nat} {n : Int} {t : Tok} {Q : Value → Shared → Prop} (B : Base w s.heap) (R : Room A (k + 3)) (h : ∀ v s', Kp s s' → ListAt PairAt s'.heap v (wordsOf n) → Q v s') :
    wpAny (model pw w) A (PySem.call (.ref 161) [.int n t]) Q E s := by
  refine call_own B (def_fWords B) R (fnB (stm 12)) [(Str.ofString "n", .int n t)] fun s₁ L F => ?_
  have R1 : Room (A.deeper (callEnv fWords L 161)) (k + 2) := R.deeper _
  generalize hA : A.deeper (callEnv fWords L 161) = A1 at R1 ⊢
  refine wpAny_execs_cons ?_
  refine wpAny_Assign_Name (hs := ?a) ?_
  case a => kernel_rfl
  refine list1 (he := ?b) ?_
  case b => kernel_rfl
  refine Call_Name1 ?_
  refine nm_glob (F.base B) g_law_word ?_
  refine own1 (def_fWord (F.base B)) ?_
  refine wpAny_BinOp ?_
  refine nm_local F (.int n t) ?_
  refine k_int fun s₂ u₂ k₂ => ?_
  refine k_div (by decide) (by decide) fun s₃ u₃ k₃ => ⟨k₂.trans k₃, ?_⟩
  have F3 := F.on (k₂.trans k₃)
  refine law_word (F3.base B) R1 fun v s₄ k₄ hv => ?_
  intro D s₅ k₅ hDn hD
  have F5 := F3.on (k₄.trans k₅)
  refine st_local F5 fun s₆ F6 sb => ?_
  have hv5 : PairAt s₅.heap v (wordOf (n.fdiv 4)) := mono_pair _ _ _ _ k₅.seq hv.here
  have q5 : KeepSeq s₅.heap s₆.heap := seq_same F5.ns sb
  have hv6 := mono_pair _ _ _ _ q5 hv5
  have hD6 : s₆.heap.PlainList D #[v] := by obtain ⟨nn, e⟩ := hD; exact ⟨nn, q5 _ _ _ _ rfl e⟩
  clear hv hv5 q5 sb hD
  have lo4 := fmod_lo n 4 (by decide)
  have hi4 := fmod_hi n 4 (by decide)
  refine wpAny_execs_cons ?_
  refine wpAny_For (hs := ?c) ?_
  case c => intro _; kernel_rfl
  refine Call_Name1 ?_
  refine nm_built (F6.base B) n_range b_range ?_
  refine callWith_type1 ?_
  refine wpAny_BinOp ?_
  refine nm_local F6 (.int n t) ?_
  refine k_int fun s₇ u₇ k₇ => ?_
  refine k_mod (by decide) fun s₈ u₈ k₈ => ?_
  refine call_range_1 ?_
  refine wpAny_pyIter_range (IsRange.new _ _ _ _ _ _ _) (small_one (by decide) (by decide) (by omega) (by omega)) ?_
  have eN : Builtin.Range.rangeSize 0 (n.fmod 4) 1 = ((n.fmod 4).toNat : Int) := by rw [rangeSize_one]; split <;> omega
  have hNle : (n.fmod 4).toNat ≤ 3 := by omega
  rw [eN]
  have F8 := F6.on (k₇.trans k₈)
  have k8 := (k₇.trans k₈)
  generalize hN : (n.fmod 4).toNat = N at hNle ⊢
  have base9 : ∀ (o1 : Obj) (tt : Nat), Kp s₈ { s₈ with heap := s₈.heap.push o1, toks := tt } := fun o1 tt => ((Kp.refl _).push o1).tok tt
  dsimp only
  generalize hJ : (s₈.heap.push _).objs.size = J
  have hJn : s.heap.get? J = none := by
    refine F8.keeps.none ?_
    rw [← hJ, Heap.size_push]
    cases e : s₈.heap.get? (s₈.heap.objs.size + 1) with
    | none => rfl
    | some o => exact absurd (Heap.lt_size e) (Nat.not_lt.mpr (Nat.le_succ _))
  have kk : ∀ (o1 o2 : Obj) (tt : Nat), Kp s₈ { s₈ with heap := (s₈.heap.push o1).push o2, toks := tt } := fun o1 o2 tt => (((Kp.refl _).push o1).push o2).tok tt
  refine codeAny_forLoop (fun q s' => ∃ i, q = N + 1 - i ∧ i ≤ N ∧ IsRangeIter s'.heap J (0 + (i : Nat) * 1) ((N : Int) - (i : Nat)) 1 ∧ ∃ m ys, Fm s L m s' ∧ m (Str.ofString "words") = some (.ref D) ∧ m (Str.ofString "n") = some (.int n t) ∧ s'.heap.PlainList D ys ∧
    Paired (PairAt s'.heap) ys.toList (wordOf (n.fdiv 4) :: (List.range i).map fun p => wordOf ((n.fdiv 144).fdiv ((36 : Int) ^ p)))) ?_ (N + 1) ⟨0, rfl, Nat.zero_le _, ?_, _, #[v], F8.on (kk _ _ _), rfl, rfl, ?_, ?_⟩
  · rintro q s' ⟨i, rfl, hiN, hit, m, ys, Fi, hmw, hmn, hys, hp⟩
    have W := Walks.range (prog := pw) (w := w) R1.handled J 0 1 N
    by_cases hlt : i < N
    · refine W.item i _ _ _ hlt hit fun v₁ h₁ tk₁ hv₁ hit₁ hk₁ => ?_
      obtain ⟨t₁, rfl⟩ := hv₁
      have hLJ : L ≠ J := fun q => Ns.ne_iter Fi.ns hit q.symm
      have hDJ : D ≠ J := iter_ne_list hit hys
      have hk1 : ∀ b o, b ≠ J → s'.heap.get? b = some o → h₁.get? b = some o := fun b o hb e => hk₁ b o (fun q => hb (List.mem_singleton.mp q)) e
      have F1 := Fi.but tk₁ hk1 hLJ hJn
      have hys1 : h₁.PlainList D ys := hys.at fun o e => hk1 _ _ hDJ e
      have hp1 : Paired (PairAt h₁) ys.toList _ := Mine.Paired.mono hp fun v x => pair_same hit ne_ri hk1
      refine wpAny_assign_Name ?_
      refine st_local F1 fun s₂' F2 sb2 => ?_
      have q2 : KeepSeq h₁ s₂'.heap := seq_same F1.ns sb2
      have hys2 : s₂'.heap.PlainList D ys := by obtain ⟨nn, e⟩ := hys1; exact ⟨nn, q2 _ _ _ _ rfl e⟩
      have hp2 : Paired (PairAt s₂'.heap) ys.toList _ := Mine.Paired.mono hp1 fun v x => mono_pair _ _ _ _ q2
      have hit2 : IsRangeIter s₂'.heap J (0 + ((i + 1 : Nat) : Int) * 1) ((N : Int) - ((i + 1 : Nat) : Int)) 1 := sb2.extBut _ _ (fun q => hLJ q.symm) hit₁
      have ei : (0 + (i : Int) * 1) = (i : Int) := by omega
      rw [ei] at F2
      clear hys1 hp1 hit₁
      refine wpAny_execs_cons ?_
      refine wpAny_Expr (hi := ?d) (hs := ?e) ?_
      case d => kernel_rfl
      case e => kernel_rfl
      refine wpAny_Call_append (hbase := ?f) (hfew := ?g) (hline := ?h) (htrees := ?i) ?_
      case f => kernel_rfl
      case g => kernel_rfl
      case h => kernel_rfl
      case i => kernel_rfl
      refine nm_local F2 (.ref D) ?_ hmw
      refine ⟨D, ys, rfl, plainL hys2, ?_⟩
      refine Call_Name1 ?_
      refine nm_glob (F2.base B) g_law_word ?_
      refine own1 (def_fWord (F2.base B)) ?_
      refine wpAny_BinOp ?_
      refine wpAny_BinOp ?_
      refine nm_local F2 (.int n t) ?_ hmn
      refine k_int fun s₃' u₃' k₃' => ?_
      refine k_div (by decide) (by decide) fun s₄' u₄' k₄' => ?_
      refine wpAny_BinOp ?_
      refine k_int fun s₅' u₅' k₅' => ?_
      have F5' := F2.on (k₃'.trans (k₄'.trans k₅'))
      refine nm_local F5' (.int (i : Int) t₁) ?_
      refine k_pow (by omega) (by omega) (by decide) fun s₆' u₆' k₆' => ?_
      have ep : ((36 : Int) ^ ((i : Int)).toNat) = (36 : Int) ^ i := by simp
      rw [ep]
      have hps := pow36 i (by omega)
      refine k_div hps.1 hps.2 fun s₇' u₇' k₇' => ⟨k₃'.trans (k₄'.trans (k₅'.trans (k₆'.trans k₇'))), ?_⟩
      have F7' := F5'.on (k₆'.trans k₇')
      refine law_word (F7'.base B) R1 fun v' s₈' k₈' hv' => ?_
      have kall := k₃'.trans (k₄'.trans (k₅'.trans (k₆'.trans (k₇'.trans k₈'))))
      have hys8 : s₈'.heap.PlainList D ys := hys2.at fun o e => kall.get _ _ e
      have hp8 : Paired (PairAt s₈'.heap) ys.toList _ := Mine.Paired.mono hp2 fun v x => mono_pair _ _ _ _ kall.seq
      have F8' := F7'.on k₈'
      have hsz : ys.size ≤ sizeLine := by
        have := hp8.length
        simp only [List.length_cons, List.length_map, List.length_range] at this
        rw [← Array.length_toList, this, sizeLine_eq]; omega
      refine wpAny_list_append_plain (hsz := hsz) hys8 fun h₉ hys9 sb9 => ?_
      have hDL : D ≠ L := Ns.ne_list F8'.ns hys8
      have hDn0 : s.heap.get? D = none := F3.keeps.none (k₄.none hDn)
      refine wpAny_execs_nil ⟨N + 1 - (i + 1), by omega, i + 1, rfl, hlt, ?_, _, ys.push v', F8'.but s₈'.toks (fun b o hb e => sb9.extBut b o hb e) (fun q => hDL q.symm) hDn0, hmw, hmn, hys9, ?_⟩
      · exact sb9.extBut _ _ (fun q => hDJ q.symm) (kall.get _ _ hit2)
      · rw [Array.toList_push, List.range_succ, List.map_append, ← List.cons_append]
        obtain ⟨nn, ed⟩ := hys8
        refine Paired.snoc (Mine.Paired.mono hp8 fun v x => pair_same ed ne_li fun b o hb e => sb9.extBut b o hb e) ?_
        exact pair_same ed ne_li (fun b o hb e => sb9.extBut b o hb e) hv'.here
    · have e : i = N := by omega
      subst e
      refine W.done _ _ _ hit fun h₁ tk₁ hk₁ => wpAny_execs_nil ?_
      have hLJ : L ≠ J := fun q => Ns.ne_iter Fi.ns hit q.symm
      have hDJ : D ≠ J := iter_ne_list hit hys
      have hk1 : ∀ b o, b ≠ J → s'.heap.get? b = some o → h₁.get? b = some o := fun b o hb e => hk₁ b o (fun q => hb (List.mem_singleton.mp q)) e
      have F1 := Fi.but tk₁ hk1 hLJ hJn
      refine wpAny_execs_cons ?_
      refine wpAny_Return_some ?_
      refine nm_local F1 (.ref D) ?_ hmw
      refine h _ _ F1.keeps ⟨D, ys.toList, rfl, ?_, ?_⟩
      · exact hys.at fun o e => hk1 _ _ hDJ e
      · unfold wordsOf
        rw [hN]
        exact Mine.Paired.mono hp fun v x => pair_same hit ne_ri hk1
  · show IsRangeIter _ _ _ _ _
    rw [← hJ]
    have e0 : (0 : Int) + ((0 : Nat) : Int) * 1 = 0 := by decide
    have e1 : ((N : Int) - ((0 : Nat) : Int)) = (N : Int) := by omega
    rw [e0, e1]
    exact Heap.get?_push_size _ rfl
  · exact hD6.at fun o e => (kk _ _ _).get _ _ (k8.get _ _ e)
  · exact .cons (mono_pair _ _ _ _ (k8.trans (kk _ _ _)).seq hv6) .nil
end Mine
end

open PySem PySem.W PySem.Calls PyProof.Rows
set_option Elab.async false
set_option maxRecDepth 100000
set_option linter.unusedVariables false
noncomputable section
namespace Mine
def pick (side : Nat) (x : Str × Str) : Str := if side = 0 then x.1 else x.2
def rowsFor (side : Nat) (ns : List Int) : List (List Str) := ns.map fun n => (wordsOf n).map (pick side)
theorem ints_paired {h : Heap} : ∀ {vs : List Value} {ns : List Int}, IntsAre vs ns → Paired (IntV h) vs ns
  | _, _, .nil => .nil
  | _, _, .cons n t r => .cons ⟨t, rfl⟩ (ints_paired r)
theorem wordsOf_len (n : Int) : (wordsOf n).length ≤ 4 := by
  unfold wordsOf
  have := fmod_hi n 4 (by decide)
  have := fmod_lo n 4 (by decide)
  simp only [List.length_cons, List.length_map, List.length_range]
  omega
set_option maxHeartbeats 1000000 in
theorem law_rows {w : World} {A : Around} {E : Value → Shared → Prop} {s : Shared} {k : Nat} {a : Addr} {vs : List Value} {ns : List Int} {side : Nat} {t : Tok} {Q : Value → Shared → Prop} (B : Base w s.heap) (R : Room A (k + 4)) (hl : s.heap.IsList a vs.toArray) (hi : IntsAre vs ns)
    (hlen : ns.length ≤ 100) (hside : side < 2) (h : ∀ v s', Kp s s' → ListAt (ListAt StrV) s'.heap v (rowsFor side ns) → Q v s') :
    wpAny (model pw w) A (PySem.call (.ref 166) [.ref a, .int (side : Int) t]) Q E s := by
  refine call_ownc B (def_fRows B) R (fnB (stm 13)) [(Str.ofString "numbers", .ref a), (Str.ofString "side", .int side t)] fun s₁ L X => ?_
  have R1 : Room (A.deeper (callEnvC fRows L 166)) (k + 3) := R.deeper _
  generalize hA : A.deeper (callEnvC fRows L 166) = A1 at R1 ⊢
  have K1 := InCallC.kp X
  have hside1 : s₁.heap.IsCell (L + 1) (some (.int side t)) := X.cell (Str.ofString "side") (L + 1) (by kernel_rfl)
  refine wpAny_execs_cons ?_
  refine wpAny_Return_some ?_
  refine comp_list [(Str.ofString "side", L + 1)] ns (fun n => (wordsOf n).map (pick side)) (ListAt StrV) R1.handled (by omega) ?_ ?_
  · refine ne_local X.toInCall.ns (v := .ref a) (by kernel_rfl) ?_
    refine ⟨Kp.refl _, a, vs, IntV s.heap, rfl, hl.at fun o e => K1.get _ _ e, ints_paired hi, ?_⟩
    rintro C v n s₃ m₃ ⟨t₃, rfl⟩ hN hm k₃
    have K3 := K1.trans k₃
    have B3 := K3.base B
    refine comp_list [(Str.ofString "side", L + 1)] (wordsOf n) (pick side) StrV R1.handled (Nat.le_trans (wordsOf_len n) (by decide)) ?_ ?_
    · refine Call_Name1 ?_
      refine ne_glob B3 g_law_words ?_
      refine own1 (def_fWords B3) ?_
      refine ne_local hN hm ⟨Kp.refl _, ?_⟩
      refine law_words B3 R1 fun v s₄ k₄ hv => ?_
      obtain ⟨b, ws, rfl, hb, hp⟩ := hv
      refine ⟨k₄, b, ws, PairAt s₄.heap, rfl, hb.isList, hp, ?_⟩
      rintro C2 v x s₅ m₅ hx hN5 hm5 k₅
      obtain ⟨p, u1, u2, rfl, hg⟩ := mono_pair _ _ _ _ k₅.seq hx
      have hc5 : s₅.heap.IsCell (L + 1) (some (.int side t)) := hside1.keeps fun b o e => k₅.get _ _ (k₄.get _ _ (k₃.get _ _ e))
      refine sub_any (hs := ?a) ?_
      case a => exact fun _ _ => rfl
      refine ne_local hN5 hm5 ?_
      refine ne_cell (c := L + 1) hc5 ?_
      have hx2 : (#[Value.str x.1 u1, Value.str x.2 u2] : Array Value)[((side : Int)).toNat]? = some (.str (pick side x) (if side = 0 then u1 else u2)) := by
        have : side = 0 ∨ side = 1 := by omega
        rcases this with rfl | rfl <;> rfl
      refine on_tuple (items := #[Value.str x.1 u1, Value.str x.2 u2]) ⟨_, hg, rfl, _, rfl⟩ (by omega) (by omega) hx2 ⟨Made.pure ⟨_, rfl⟩, Kp.refl _⟩
    · intro v s₄ k₄ hm4
      exact ⟨hm4, k₄⟩
  · intro v s₂ k₂ hm
    exact h _ _ (K1.trans k₂) hm.here
end Mine
end

open PySem PySem.W PySem.Calls PyProof.Rows
set_option Elab.async false
set_option maxRecDepth 100000
set_option linter.unusedVariables false
noncomputable section
namespace Mine
theorem slice_list {w : World} {A : Around} {E : Value → Shared → Prop} {s : Shared} {env : Env} {value : Expr} {lower upper : Option Expr} {p pos : Pos} {Q : Value → Shared → Prop}
    (h : wpAny (model pw w) A (eval value env) (fun o s₁ => wpAny (model pw w) A (evalPart lower env) (fun vl s₂ => wpAny (model pw w) A (evalPart upper env) (fun vu s₃ =>
      ∃ l items lo hi, o = .ref l ∧ s₃.heap.IsList l items ∧ items.size ≤ 1000000 ∧ IsPart vl lo ∧ IsPart vu hi ∧
        ∀ l' s', Kp s₃ s' → s₃.heap.get? l' = none → s'.heap.PlainList l' (slicePick items lo hi none) → Q (.ref l') s') E s₂) E s₁) E s)
    (ht : ∀ o r, letTemporaryGo value o r = pure ()) :
    wpAny (model pw w) A (eval (.Subscript value (.Slice lower upper none p) pos) env) Q E s := by
  refine wpAny_Subscript_list_slice (wpAny_mono h (fun o s₁ h₁ => wpAny_mono h₁ (fun vl s₂ h₂ => wpAny_mono h₂ (fun vu s₃ h₃ => ?_) fun _ _ e => e) fun _ _ e => e) fun _ _ e => e) ht
  obtain ⟨l, items, lo, hi, rfl, hl, hz, h1, h2, h3⟩ := h₃
  refine ⟨l, items, lo, hi, rfl, hl, by rw [sizeLine_eq]; exact Nat.le_trans hz (by decide), h1, h2, ?_⟩
  refine h3 _ _ (((Kp.refl _).push _).push _) ?_ ⟨0, ?_⟩
  · cases e : s₃.heap.get? (s₃.heap.objs.size + 1) with
    | none => rfl
    | some o => exact absurd (Heap.lt_size e) (Nat.not_lt.mpr (Nat.le_succ _))
  · have : (s₃.heap.push { cls := .type "slice", data := .fields #[vl, vu, .none] }).objs.size = s₃.heap.objs.size + 1 := Heap.size_push _ _
    rw [← this]
    exact Heap.get?_push_size _ rfl
theorem paired_mem {α : Type} {V : Value → α → Prop} : ∀ {vs : List Value} {xs : List α}, Paired V vs xs → Paired (fun v x => V v x ∧ x ∈ xs) vs xs
  | _, _, .nil => .nil
  | _, _, .cons h r => .cons ⟨h, List.mem_cons_self⟩ (Mine.Paired.mono (paired_mem r) fun _ _ q => ⟨q.1, List.mem_cons_of_mem _ q.2⟩)
theorem paired_drop {α : Type} {V : Value → α → Prop} : ∀ {vs : List Value} {xs : List α} (k : Nat), Paired V vs xs → Paired V (vs.drop k) (xs.drop k)
  | _, _, 0, h => h
  | _, _, k + 1, .nil => .nil
  | _, _, k + 1, .cons h r => by simpa using paired_drop k r
theorem paired_take {α : Type} {V : Value → α → Prop} : ∀ {vs : List Value} {xs : List α} (k : Nat), Paired V vs xs → Paired V (vs.take k) (xs.take k)
  | _, _, 0, h => .nil
  | _, _, k + 1, .nil => .nil
  | _, _, k + 1, .cons h r => by simpa using .cons h (paired_take k r)
theorem sum_le {b : Nat} : ∀ (l : List Str), (∀ x ∈ l, x.length ≤ b) → (l.map (·.length)).sum ≤ l.length * b
  | [], _ => by simp
  | c :: r, h => by
    have h1 := sum_le r fun x hx => h x (List.mem_cons_of_mem _ hx)
    have h2 := h c List.mem_cons_self
    simp only [List.map_cons, List.sum_cons, List.length_cons, Nat.add_mul, Nat.one_mul]
    omega
def slash : Str := Str.ofString "/"
def addrOf (r : List Str) : Str × Str := (r.headD Str.empty, Txt.join Str.empty ((r.drop 1).map fun x => slash ++ x))
def RowOk (r : List Str) : Prop := r ≠ [] ∧ r.length ≤ 10 ∧ ∀ x ∈ r, x.length ≤ 100
theorem k_cat {w : World} {A : Around} {E : Value → Shared → Prop} {s : Shared} {Q : Value → Shared → Prop} {x y : Str} {t u : Tok} (hsz : x.length + y.length ≤ 1000000) (h : ∀ s' u, Kp s s' → Q (.str (x ++ y) u) s') :
    wpAny (model pw w) A (binaryOp .Add (.str x t) (.str y u)) Q E s := SB.add (fun t' k => h _ _ (tk _ _)) (by rw [sizeLine_eq]; exact Nat.le_trans hsz (by decide))
set_option maxHeartbeats 1000000 in
theorem law_addresses {w : World} {A : Around} {E : Value → Shared → Prop} {s : Shared} {k : Nat} {v : Value} {rs : List (List Str)} {Q : Value → Shared → Prop} (B : Base w s.heap) (R : Room A (k + 1)) (hv : ListAt (ListAt StrV) s.heap v rs)
    (hlen : rs.length ≤ 100) (hok : ∀ r ∈ rs, RowOk r) (h : ∀ v s', Kp s s' → ListAt PairAt s'.heap v (rs.map addrOf) → Q v s') :
    wpAny (model pw w) A (PySem.call (.ref 171) [v]) Q E s := by
  obtain ⟨a, vs, rfl, hl, hp⟩ := hv
  refine call_own B (def_fAddr B) R (fnB (stm 14)) [(Str.ofString "rows", .ref a)] fun s₁ L F => ?_
  have R1 : Room (A.deeper (callEnv fAddr L 171)) k := R.deeper _
  generalize hA : A.deeper (callEnv fAddr L 171) = A1 at R1 ⊢
  have K1 := F.keeps
  refine wpAny_execs_cons ?_
  refine wpAny_Return_some ?_
  refine comp_list [] rs addrOf PairAt R1.handled (by omega) ?_ ?_
  · refine nm_local F (.ref a) ?_
    refine ⟨Kp.refl _, a, vs, fun v r => ListAt StrV s.heap v r ∧ r ∈ rs, rfl, (hl.at fun o e => K1.get _ _ e).isList, paired_mem hp, ?_⟩
    rintro C v r s₃ m₃ ⟨hr, hmem⟩ hN hm k₃
    obtain ⟨hne, hrl, hrw⟩ := hok r hmem
    have K3 := K1.trans k₃
    obtain ⟨b, ws, rfl, hb, hpw⟩ := mono_list mono_str _ _ _ _ K3.seq hr
    have hwl : ws.length = r.length := hpw.length
    refine tuple2 (h1 := ?a) (h2 := ?b) ?_
    case a => kernel_rfl
    case b => kernel_rfl
    refine sub_any (hs := ?c) ?_
    case c => exact fun _ _ => rfl
    refine ne_local hN hm ?_
    refine k_int fun s₄ u₄ k₄ => ?_
    obtain ⟨x0, r', rfl⟩ : ∃ x0 r', r = x0 :: r' := by cases r with | nil => exact absurd rfl hne | cons x r' => exact ⟨x, r', rfl⟩
    obtain ⟨v0, hv0, t0, rfl⟩ := paired_get hpw 0 x0 rfl
    have hb4 : s₄.heap.PlainList b ws.toArray := hb.at fun o e => k₄.get _ _ e
    refine on_list hb4.isList (by decide) (by decide) (by simpa using hv0) ?_
    refine Call_method1 (hbase := ?d) (hs := ?e) (hline := ?f) ?_
    case d => kernel_rfl
    case e => kernel_rfl
    case f => kernel_rfl
    refine k_str fun s₅ u₅ k₅ => ?_
    refine SB.join ?_
    have hN5 : s₅.heap.Ns C m₃ := hN.keeps fun b o e => k₅.get _ _ (k₄.get _ _ e)
    refine comp_list [] ((x0 :: r').drop 1) (fun x => slash ++ x) StrV R1.handled ?_ ?_ ?_
    · simp only [List.drop_succ_cons, List.drop_zero]
      simp only [List.length_cons] at hrl
      omega
    · refine slice_list (ht := ?g) ?_
      case g => exact fun _ _ => rfl
      refine ne_local hN5 hm ?_
      rw [evalPart_some, evalPart_none]
      refine k_int fun s₆ u₆ k₆ => ?_
      refine wpAny_pure ?_
      have hb6 : s₆.heap.PlainList b ws.toArray := hb4.at fun o e => k₆.get _ _ (k₅.get _ _ e)
      refine ⟨b, _, some 1, none, rfl, hb6.isList, by rw [List.size_toArray, hwl]; omega, .int 1 _, .none, ?_⟩
      intro l' s₇ k₇ hn7 hl7
      have e1 : slicePick ws.toArray (some 1) none none = (ws.drop 1).toArray := by simpa using slicePick_from' ws.toArray 1
      rw [e1] at hl7
      refine ⟨k₆.trans k₇, l', ws.drop 1, fun v x => StrV s.heap v x ∧ x ∈ (x0 :: r').drop 1, rfl, hl7.isList, paired_mem (paired_drop 1 hpw), ?_⟩
      rintro C2 v x s₈ m₈ ⟨⟨t8, rfl⟩, hx8⟩ hN8 hm8 k₈
      refine wpAny_BinOp ?_
      refine k_str fun s₉ u₉ k₉ => ?_
      refine ne_local (hN8.keeps fun b o e => k₉.get _ _ e) hm8 ?_
      have hxl := hrw x (List.mem_of_mem_drop hx8)
      refine k_cat ?_ fun s₁₀ u₁₀ k₁₀ => ⟨Made.pure ⟨_, rfl⟩, k₉.trans k₁₀⟩
      have : (Str.ofString "/").length = 1 := by kernel_rfl
      omega
    · intro v s₆ k₆ hm6
      obtain ⟨D, zs, rfl, hD, hz⟩ := hm6.here
      obtain ⟨l, rfl, hl2⟩ := strs_of hz
      refine ⟨D, l, rfl, hD.isList, _, hl2, joinOk_of ?_, fun t' kk => ?_⟩
      · have h1 := sum_le (b := 101) (((x0 :: r').drop 1).map fun x => slash ++ x) (by
          intro y hy
          obtain ⟨x, hx, rfl⟩ := List.mem_map.mp hy
          have := hrw x (List.mem_of_mem_drop hx)
          have e : slash.length = 1 := by kernel_rfl
          rw [Str.length_append]; omega)
        have h2 : (((x0 :: r').drop 1).map fun x => slash ++ x).length ≤ 10 := by
          simp only [List.length_map, List.drop_succ_cons, List.drop_zero]
          simp only [List.length_cons] at hrl
          omega
        have h3 : (Str.ofString "").length = 0 := by kernel_rfl
        rw [h3]
        omega
      · intro p s₇ k₇ hn hg
        have kk7 := k₄.trans (k₅.trans (k₆.trans (tk s₆ kk)))
        exact ⟨pair_made (s := s₃) kk7 hn hg, kk7.trans k₇⟩
  · intro v s₂ k₂ hm
    exact h _ _ (K1.trans k₂) hm.here

def prepA (x : Str × Str) : Str × Str := (prepOf x.1, prepOf x.2)
set_option maxHeartbeats 1000000 in
theorem law_padr {w : World} {A : Around} {E : Value → Shared → Prop} {s : Shared} {k : Nat} {v : Value} {xs : List (Str × Str)} {Q : Value → Shared → Prop} (B : Base w s.heap) (R : Room A (k + 3)) (hv : ListAt PairAt s.heap v xs)
    (hlen : xs.length ≤ 100) (hok : ∀ x ∈ xs, x.1.cps.size ≤ 1000 ∧ x.2.cps.size ≤ 1000) (h : ∀ v s', Kp s s' → ListAt PairAt s'.heap v (xs.map prepA) → Q v s') :
    wpAny (model pw w) A (PySem.call (.ref 176) [v]) Q E s := by
  obtain ⟨a, vs, rfl, hl, hp⟩ := hv
  refine call_own B (def_fPadr B) R (fnB (stm 15)) [(Str.ofString "addresses", .ref a)] fun s₁ L F => ?_
  have R1 : Room (A.deeper (callEnv fPadr L 176)) (k + 2) := R.deeper _
  generalize hA : A.deeper (callEnv fPadr L 176) = A1 at R1 ⊢
  have K1 := F.keeps
  refine wpAny_execs_cons ?_
  refine wpAny_Return_some ?_
  refine comp_pair [] xs prepA PairAt R1.handled (by omega) ?_ ?_
  · refine nm_local F (.ref a) ?_
    refine ⟨Kp.refl _, a, vs, fun v x => PairAt s₁.heap v x ∧ x ∈ xs, rfl, (hl.at fun o e => K1.get _ _ e).isList, Mine.Paired.mono (paired_mem hp) (fun v x q => ⟨mono_pair _ _ _ _ K1.seq q.1, q.2⟩), ?_, ?_⟩
    · rintro v y ⟨⟨p, u1, u2, rfl, g⟩, _⟩
      exact ⟨p, _, _, rfl, _, g, rfl, _, rfl⟩
    · rintro C p w1 w2 x s₃ m₃ ⟨⟨p', u1, u2, e, g⟩, hmem⟩ ht hN hm1 hm2 k₃
      cases e
      obtain ⟨o, ho, hc, n, hd⟩ := ht
      rw [g] at ho
      cases ho
      have hd' : (Data.seq #[Value.str x.1 u1, Value.str x.2 u2] 0) = Data.seq #[w1, w2] n := hd
      simp only [Data.seq.injEq] at hd'
      obtain ⟨hd1, _⟩ := hd'
      have e1 : w1 = .str x.1 u1 := by have := congrArg (fun z : Array Value => z[0]?) hd1; simpa using this.symm
      have e2 : w2 = .str x.2 u2 := by have := congrArg (fun z : Array Value => z[1]?) hd1; simpa using this.symm
      subst e1 e2
      have K3 := K1.trans k₃
      have B3 := K3.base B
      obtain ⟨ok1, ok2⟩ := hok x hmem
      refine tuple2 (h1 := ?a) (h2 := ?b) ?_
      case a => kernel_rfl
      case b => kernel_rfl
      refine Call_Name1 ?_
      refine ne_glob B3 g_law_prepared ?_
      refine own1 (def_fPrep B3) ?_
      refine ne_local hN hm1 ⟨Kp.refl _, ?_⟩
      refine law_prepared B3 R1 ok1 fun s₄ u₄ k₄ => ?_
      have B4 := k₄.base B3
      refine Call_Name1 ?_
      refine ne_glob B4 g_law_prepared ?_
      refine own1 (def_fPrep B4) ?_
      refine ne_local (hN.keeps k₄.get) hm2 ⟨Kp.refl _, ?_⟩
      refine law_prepared B4 R1 ok2 fun s₅ u₅ k₅ => ?_
      intro q s₆ k₆ hn hg
      exact ⟨pair_made (k₄.trans k₅) hn hg, k₄.trans (k₅.trans k₆)⟩
  · intro v s₂ k₂ hm
    exact h _ _ (K1.trans k₂) hm.here
end Mine
end

open PySem PySem.W PySem.Calls PyProof.Rows
set_option Elab.async false
set_option maxRecDepth 100000
set_option linter.unusedVariables false
noncomputable section
namespace Mine
theorem str_eq_iff {x y : Str} : (x.cps.toList == y.cps.toList) = decide (x = y) := by
  rw [Bool.eq_iff_iff, beq_iff_eq, decide_eq_true_iff]
  constructor
  · intro h
    cases x; cases y
    simp only at h
    congr 1
    exact Array.ext' h
  · rintro rfl; rfl
theorem all_eq {xs ys : List Str} (h : xs.length = ys.length) : ((List.range xs.length).all fun j => decide (xs[j]? = ys[j]?)) = decide (xs = ys) := by
  rw [Bool.eq_iff_iff, List.all_eq_true, decide_eq_true_iff]
  constructor
  · intro q
    apply List.ext_getElem? 
    intro i
    by_cases hi : i < xs.length
    · exact of_decide_eq_true (q i (List.mem_range.mpr hi))
    · rw [List.getElem?_eq_none (by omega), List.getElem?_eq_none (by omega)]
  · rintro rfl j _
    exact decide_eq_true rfl
section
variable {w : World} {A : Around} {E : Value → Shared → Prop} {s : Shared} {Q : Value → Shared → Prop}
theorem eq_strs {v u : Value} {xs ys : List Str} (h1 : ListAt StrV s.heap v xs) (h2 : ListAt StrV s.heap u ys) (hu : A.units < cLine) (h : Q (.bool (decide (xs = ys))) s) : wpAny (model pw w) A (compareOp .Eq v u) Q E s := by
  obtain ⟨a, vs, rfl, hl, hp⟩ := h1
  obtain ⟨b, us, rfl, hl', hp'⟩ := h2
  by_cases hz : xs.length = ys.length
  · have e1 : vs.length = xs.length := hp.length
    have e2 : us.length = ys.length := hp'.length
    refine SeqAt.eq_listAt (e := fun j => decide (xs[j]? = ys[j]?)) hl.isList hl'.isList (by rw [List.size_toArray, List.size_toArray]; omega) hu ?_ ?_
    · intro j j1 j2
      have k1 : j < vs.length := by simpa using j1
      have k2 : j < us.length := by simpa using j2
      obtain ⟨x, hx, t, ex⟩ := paired_at hp j vs[j] (List.getElem?_eq_getElem k1)
      obtain ⟨y, hy, t', ey⟩ := paired_at hp' j us[j] (List.getElem?_eq_getElem k2)
      show SeqAt.EqAt _ _ vs[j] us[j] _
      rw [ex, ey, hx, hy]
      have := (SeqRoads2.EqGives.str x y t t').at A.in1 s
      rw [str_eq_iff] at this
      simpa using this
    · rw [List.size_toArray, e1, all_eq hz]; exact h
  · refine SeqAt.eq_list_lengthsAt hl.isList hl'.isList ?_ hu ?_
    · rw [List.size_toArray, List.size_toArray, hp.length, hp'.length]
      simpa using hz
    · have : decide (xs = ys) = false := decide_eq_false fun e => hz (by rw [e])
      rwa [this] at h
theorem eq_pairs {v u : Value} {x y : Str × Str} (h1 : PairAt s.heap v x) (h2 : PairAt s.heap u y) (hu : A.units < cLine) (h : Q (.bool (decide (x = y))) s) : wpAny (model pw w) A (compareOp .Eq v u) Q E s := by
  obtain ⟨a, t1, t2, rfl, hg⟩ := h1
  obtain ⟨b, t3, t4, rfl, hg'⟩ := h2
  refine SeqAt.eq_tupleAt (items := #[.str x.1 t1, .str x.2 t2]) (items2 := #[.str y.1 t3, .str y.2 t4]) (e := fun j => if j = 0 then decide (x.1 = y.1) else decide (x.2 = y.2)) ⟨_, hg, rfl, _, rfl⟩ ⟨_, hg', rfl, _, rfl⟩ hu ?_ ?_
  · intro j j1 j2
    have : j = 0 ∨ j = 1 := by have : j < 2 := j1; omega
    rcases this with rfl | rfl
    · have := (SeqRoads2.EqGives.str x.1 y.1 t1 t3).at A.in1 s
      rw [str_eq_iff] at this
      exact this
    · have := (SeqRoads2.EqGives.str x.2 y.2 t2 t4).at A.in1 s
      rw [str_eq_iff] at this
      exact this
  · have e : ((List.range (min (#[Value.str x.1 t1, Value.str x.2 t2] : Array Value).size (#[Value.str y.1 t3, Value.str y.2 t4] : Array Value).size)).all (fun j => if j = 0 then decide (x.1 = y.1) else decide (x.2 = y.2)) && (#[Value.str x.1 t1, Value.str x.2 t2] : Array Value).size == (#[Value.str y.1 t3, Value.str y.2 t4] : Array Value).size) = decide (x = y) := by
      show ((List.range 2).all (fun j => if j = 0 then decide (x.1 = y.1) else decide (x.2 = y.2)) && true) = _
      obtain ⟨x1, x2⟩ := x
      obtain ⟨y1, y2⟩ := y
      simp [List.range_succ, Bool.decide_and]
    rw [e]; exact h
theorem k_len {v : Value} {xs : List Str} (h1 : ListAt StrV s.heap v xs) (hz : xs.length ≤ 1000000) (h : ∀ s' u, Kp s s' → Q (.int (xs.length : Nat) u) s') : wpAny (model pw w) A (PySem.call (.builtin "len") [v]) Q E s := by
  obtain ⟨a, vs, rfl, hl, hp⟩ := h1
  have e : vs.toArray.size = xs.length := by rw [List.size_toArray]; exact hp.length
  refine call_len_list hl.isList (by rw [e]; omega) ?_
  rw [e]
  exact h _ _ (tk _ _)
theorem k_neg1 {env : Env} {k : Nat} {p p' : Pos} (h : ∀ s' u, Kp s s' → Q (.int (-1) u) s') : wpAny (model pw w) A (eval (.UnaryOp .USub (.Constant (.int 1) k p) p') env) Q E s := by
  refine wpAny_UnaryOp ?_
  refine k_int fun s₁ u₁ k₁ => ?_
  exact P.neg_int (h _ _ (k₁.trans (tk _ _)))
theorem on_last {v : Value} {xs : List Str} {x : Str} {t : Tok} (h1 : ListAt StrV s.heap v xs) (hx : xs.getLast? = some x) (hz : xs.length ≤ 1000000) (h : ∀ u, Q (.str x u) s) : SubscriptOn (model pw w) A v (.int (-1) t) Q E s := by
  obtain ⟨a, vs, rfl, hl, hp⟩ := h1
  have e : vs.toArray.size = xs.length := by rw [List.size_toArray]; exact hp.length
  have hne : 0 < xs.length := by
    cases xs with
    | nil => simp at hx
    | cons _ _ => simp
  rw [List.getLast?_eq_getElem?] at hx
  obtain ⟨v, hv, u, rfl⟩ := paired_get hp _ _ hx
  refine ⟨"list", _, list_getitem_lookup, hl.isList.typeIs, wpAny_getItem_list_neg hl.isList (by decide) (by rw [e]; omega) (by decide) (x := .str x u) ?_ (h u)⟩
  rw [e, show ((-1 : Int) + (xs.length : Int)).toNat = xs.length - 1 by omega]
  simpa using hv
theorem listAt_mk {a : Addr} {vs : List Value} {xs : List Str} {h h₀ : Heap} (hl : h.PlainList a (List.toArray vs)) (hp : Paired (StrV h₀) vs xs) : ListAt StrV h (.ref a) xs := ⟨a, vs, rfl, hl, hp⟩
end
def frontOf (one : List Str) : List Str := if 1 < one.length ∧ one.getLast? = some Str.empty then one.take (one.length - 1) else one
def aboveOf (one two : List Str) : Bool := if one = two then true else decide ((frontOf one).length < two.length) && decide (two.take (frontOf one).length = frontOf one)
theorem front_len (one : List Str) : (frontOf one).length ≤ one.length := by
  unfold frontOf
  split
  · rw [List.length_take]; omega
  · exact Nat.le_refl _
set_option maxHeartbeats 1000000 in
theorem law_above {w : World} {A : Around} {E : Value → Shared → Prop} {s : Shared} {k : Nat} {v u : Value} {one two : List Str} {Q : Value → Shared → Prop} (B : Base w s.heap) (R : Room A (k + 1)) (hv : ListAt StrV s.heap v one) (hu : ListAt StrV s.heap u two)
    (hz1 : one.length ≤ 1000) (hz2 : two.length ≤ 1000) (h : ∀ s', Kp s s' → Q (.bool (aboveOf one two)) s') :
    wpAny (model pw w) A (PySem.call (.ref 183) [v, u]) Q E s := by
  refine call_own B (def_fAbove B) R (fnB (stm 16)) [(Str.ofString "one", v), (Str.ofString "two", u)] fun s₁ L F => ?_
  have R1 : Room (A.deeper (callEnv fAbove L 183)) k := R.deeper _
  generalize hA : A.deeper (callEnv fAbove L 183) = A1 at R1 ⊢
  have hline : A1.units < cLine := Nat.lt_of_le_of_lt (Nat.le_add_right _ _) R1.line
  have mls := mono_list mono_str
  have hv1 := mls _ _ _ _ F.keeps.seq hv
  have hu1 := mls _ _ _ _ F.keeps.seq hu
  refine wpAny_execs_cons ?_
  refine wpAny_If ?_
  refine wpAny_isTrue_Compare1 ?_
  refine nm_local F v ?_
  refine nm_local F u ?_
  refine eq_strs hv1 hu1 hline ?_
  refine wpAny_truthy_bool ?_
  by_cases he : one = two
  · rw [if_pos (decide_eq_true he)]
    refine wpAny_execs_cons ?_
    refine wpAny_Return_some ?_
    refine wpAny_Constant_bool ?_
    have : aboveOf one two = true := by unfold aboveOf; rw [if_pos he]
    rw [← this]
    exact h _ F.keeps
  rw [if_neg (by simpa using he)]
  refine wpAny_execs_nil ?_
  refine wpAny_execs_cons ?_
  refine wpAny_Assign_Name (hs := ?a) ?_
  case a => kernel_rfl
  refine nm_local F v ?_
  refine st_local F fun s₂ F2 sb2 => ?_
  have q2 : KeepSeq s₁.heap s₂.heap := seq_same F.ns sb2
  have hv2 := mls _ _ _ _ q2 hv1
  have hu2 := mls _ _ _ _ q2 hu1
  clear hv1 hu1 sb2
  refine wpAny_execs_cons ?_
  refine wpAny_mono (Q := fun f s' => f = .next ∧ ∃ m z, Fm s L m s' ∧ m (Str.ofString "front") = some z ∧ m (Str.ofString "two") = some u ∧ ListAt StrV s'.heap z (frontOf one) ∧ ListAt StrV s'.heap u two) (E := NE) ?_ ?_ (fun _ _ e => e)
  · refine wpAny_If ?_
    refine wpAny_isTrue_BoolOp ?_
    refine wpAny_allTrue_And_cons ?_
    refine wpAny_isTrue_Compare1 ?_
    refine Call_Name1 ?_
    refine nm_built (F2.base B) n_len b_len ?_
    refine PySem.Calls.callWith_builtin rfl (evalArgs_plain (spliced_cons ?_))
    refine nm_local F2 v ?_
    refine spliced_nil ?_
    refine k_len hv2 (by omega) fun s₃ u₃ k₃ => ?_
    refine k_int fun s₄ u₄ k₄ => ?_
    refine PyProof.Rows.gt_int ?_
    refine wpAny_truthy_bool ?_
    have F4 := F2.on (k₃.trans k₄)
    have hv4 := mls _ _ _ _ (k₃.trans k₄).seq hv2
    have hu4 := mls _ _ _ _ (k₃.trans k₄).seq hu2
    by_cases h1 : 1 < one.length
    · rw [if_pos (decide_eq_true (by omega))]
      refine wpAny_allTrue_And_cons ?_
      refine wpAny_isTrue_Compare1 ?_
      refine sub_any (hs := ?b) ?_
      case b => exact fun _ _ => rfl
      refine nm_local F4 v ?_
      refine k_neg1 fun s₅ u₅ k₅ => ?_
      obtain ⟨x, hx⟩ : ∃ x, one.getLast? = some x := by
        cases hq : one.getLast? with
        | some x => exact ⟨x, rfl⟩
        | none => rw [List.getLast?_eq_none_iff] at hq; rw [hq] at h1; simp at h1
      have hv5 := mls _ _ _ _ k₅.seq hv4
      refine on_last hv5 hx (by omega) fun u₆ => ?_
      refine k_str fun s₆ u₇ k₆ => ?_
      refine P.eq_str ?_
      refine wpAny_truthy_bool ?_
      rw [str_eq_iff]
      have e0 : Str.ofString "" = Str.empty := by kernel_rfl
      rw [e0]
      have F6 := F4.on (k₅.trans k₆)
      have hv6 := mls _ _ _ _ k₆.seq hv5
      have hu6 := mls _ _ _ _ (k₅.trans k₆).seq hu4
      by_cases h2 : x = Str.empty
      · rw [if_pos (decide_eq_true h2)]
        refine wpAny_allTrue_And_nil ?_
        rw [if_pos rfl]
        have ef : frontOf one = one.take (one.length - 1) := by unfold frontOf; rw [if_pos ⟨h1, by rw [hx, h2]⟩]
        refine wpAny_execs_cons ?_
        refine wpAny_Assign_Name (hs := ?c) ?_
        case c => kernel_rfl
        refine slice_list (ht := ?d) ?_
        case d => exact fun _ _ => rfl
        refine nm_local F6 v ?_
        rw [evalPart_some, evalPart_none]
        refine wpAny_pure ?_
        refine k_neg1 fun s₇ u₈ k₇ => ?_
        obtain ⟨b, ws, rfl, hb, hpw⟩ := mls _ _ _ _ k₇.seq hv6
        refine ⟨b, _, none, some (-1), rfl, hb.isList, by rw [List.size_toArray, hpw.length]; omega, .none, .int _ _, ?_⟩
        intro l' s₈ k₈ hn8 hl8
        have e1 : slicePick ws.toArray none (some (-1)) none = (ws.take (one.length - 1)).toArray := by
          have := slicePick_butLast ws.toArray 1 (Nat.le_refl _)
          simpa [hpw.length] using this
        rw [e1] at hl8
        have F8 := F6.on (k₇.trans k₈)
        refine st_local F8 fun s₉ F9 sb9 => ?_
        have q9 : KeepSeq s₈.heap s₉.heap := seq_same F8.ns sb9
        refine wpAny_execs_nil ⟨rfl, _, .ref l', F9, if_pos rfl, by kernel_rfl, ?_, mls _ _ _ _ ((k₇.trans k₈).seq.trans q9) hu6⟩
        rw [ef]
        exact mls _ _ _ _ q9 (listAt_mk hl8 (paired_take _ hpw))
      · rw [if_neg (by simpa using h2)]
        rw [if_neg (by decide)]
        have ef : frontOf one = one := by unfold frontOf; rw [if_neg]; rintro ⟨_, q⟩; rw [hx] at q; exact h2 (Option.some.inj q)
        refine wpAny_execs_nil ⟨rfl, _, v, F6, if_pos rfl, by kernel_rfl, ?_, hu6⟩
        rw [ef]; exact hv6
    · rw [if_neg (by simp; omega)]
      rw [if_neg (by decide)]
      have ef : frontOf one = one := by unfold frontOf; rw [if_neg]; rintro ⟨q, _⟩; exact h1 q
      refine wpAny_execs_nil ⟨rfl, _, v, F4, if_pos rfl, by kernel_rfl, ?_, hu4⟩
      rw [ef]; exact hv4
  rintro f s₃ ⟨rfl, m, z, F3, hm1, hm2, hz3, hu3⟩
  show wpAny _ _ (execs _ _) _ _ _
  have hfl := front_len one
  have ea : aboveOf one two = (decide ((frontOf one).length < two.length) && decide (two.take (frontOf one).length = frontOf one)) := by unfold aboveOf; rw [if_neg he]
  refine wpAny_execs_cons ?_
  refine wpAny_Return_some ?_
  refine BoolOp_and ?_
  refine wpAny_Compare1 ?_
  refine Call_Name1 ?_
  refine nm_built (F3.base B) n_len b_len ?_
  refine PySem.Calls.callWith_builtin rfl (evalArgs_plain (spliced_cons ?_))
  refine nm_local F3 u ?_ hm2
  refine spliced_nil ?_
  refine k_len hu3 (by omega) fun s₄ u₄ k₄ => ?_
  have F4 := F3.on k₄
  have hz4 := mls _ _ _ _ k₄.seq hz3
  have hu4 := mls _ _ _ _ k₄.seq hu3
  refine Call_Name1 ?_
  refine nm_built (F4.base B) n_len b_len ?_
  refine PySem.Calls.callWith_builtin rfl (evalArgs_plain (spliced_cons ?_))
  refine nm_local F4 z ?_ hm1
  refine spliced_nil ?_
  refine k_len hz4 (by omega) fun s₅ u₅ k₅ => ?_
  have F5 := F4.on k₅
  have hz5 := mls _ _ _ _ k₅.seq hz4
  have hu5 := mls _ _ _ _ k₅.seq hu4
  refine PyProof.Rows.gt_int ?_
  refine wpAny_truthy_bool ?_
  by_cases hlt : (frontOf one).length < two.length
  · rw [if_pos (decide_eq_true (by omega))]
    refine BoolOp_one ?_
    refine wpAny_Compare1 ?_
    refine slice_list (ht := ?g1) ?_
    case g1 => exact fun _ _ => rfl
    refine nm_local F5 u ?_ hm2
    rw [evalPart_some, evalPart_none]
    refine wpAny_pure ?_
    refine Call_Name1 ?_
    refine nm_built (F5.base B) n_len b_len ?_
    refine PySem.Calls.callWith_builtin rfl (evalArgs_plain (spliced_cons ?_))
    refine nm_local F5 z ?_ hm1
    refine spliced_nil ?_
    refine k_len hz5 (by omega) fun s₆ u₆ k₆ => ?_
    obtain ⟨b, ws, rfl, hb, hpw⟩ := mls _ _ _ _ k₆.seq hu5
    refine ⟨b, _, none, some ((frontOf one).length : Int), rfl, hb.isList, by rw [List.size_toArray, hpw.length]; omega, .none, .int _ _, ?_⟩
    intro l' s₇ k₇ hn7 hl7
    have e1 : slicePick ws.toArray none (some ((frontOf one).length : Int)) none = (ws.take (frontOf one).length).toArray := by simpa using slicePick_upto' ws.toArray (frontOf one).length
    rw [e1] at hl7
    have F7 := F5.on (k₆.trans k₇)
    refine nm_local F7 z ?_ hm1
    refine eq_strs (listAt_mk hl7 (paired_take _ hpw)) (mls _ _ _ _ (k₆.trans k₇).seq hz5) hline ?_
    have := h _ F7.keeps
    rw [ea, decide_eq_true hlt, Bool.true_and] at this
    exact this
  · rw [if_neg (by simp; omega)]
    have := h _ F5.keeps
    rw [ea, decide_eq_false hlt, Bool.false_and] at this
    have e2 : decide (((frontOf one).length : Int) < (two.length : Int)) = false := decide_eq_false (by omega)
    show Q (.bool (decide (((frontOf one).length : Int) < (two.length : Int)))) _
    rw [e2]
    exact this
end Mine
end

open PySem PySem.W PySem.Calls PyProof.Rows
set_option Elab.async false
set_option maxRecDepth 100000
set_option linter.unusedVariables false
noncomputable section
namespace Mine
def dueOf (rs : List (List Str)) : List (List Bool) := rs.map fun one => rs.map fun two => aboveOf one two
set_option maxHeartbeats 1000000 in
theorem law_due {w : World} {A : Around} {E : Value → Shared → Prop} {s : Shared} {k : Nat} {v : Value} {rs : List (List Str)} {Q : Value → Shared → Prop} (B : Base w s.heap) (R : Room A (k + 2)) (hv : ListAt (ListAt StrV) s.heap v rs)
    (hlen : rs.length ≤ 100) (hok : ∀ r ∈ rs, r.length ≤ 1000) (h : ∀ v s', Kp s s' → ListAt (ListAt BoolV) s'.heap v (dueOf rs) → Q v s') :
    wpAny (model pw w) A (PySem.call (.ref 188) [v]) Q E s := by
  have mls := mono_list mono_str
  obtain ⟨a, vs, rfl, hl, hp⟩ := hv
  refine call_ownc B (def_fDue B) R (fnB (stm 17)) [(Str.ofString "rows", .ref a)] fun s₁ L X => ?_
  have R1 : Room (A.deeper (callEnvC fDue L 188)) (k + 1) := R.deeper _
  generalize hA : A.deeper (callEnvC fDue L 188) = A1 at R1 ⊢
  have K1 := InCallC.kp X
  have hrows1 : s₁.heap.IsCell (L + 1) (some (.ref a)) := X.cell (Str.ofString "rows") (L + 1) (by kernel_rfl)
  have hl1 : s₁.heap.PlainList a vs.toArray := hl.at fun o e => K1.get _ _ e
  refine wpAny_execs_cons ?_
  refine wpAny_Return_some ?_
  refine comp_cell [(Str.ofString "rows", L + 1)] rs (fun one => rs.map fun two => aboveOf one two) (ListAt BoolV) R1.handled (by omega) ?_ ?_
  · refine ne_cell (c := L + 1) hrows1 ?_
    refine ⟨Kp.refl _, a, vs, fun v r => ListAt StrV s.heap v r ∧ r ∈ rs, rfl, hl1.isList, paired_mem hp, ?_⟩
    rintro C v one s₃ ⟨hone, hmem⟩ hc k₃
    have K3 := K1.trans k₃
    refine comp_list [(Str.ofString "one", C + 1)] rs (fun two => aboveOf one two) BoolV R1.handled (by omega) ?_ ?_
    · refine ne_cell (c := L + 1) (hrows1.keeps k₃.get) ?_
      refine ⟨Kp.refl _, a, vs, fun v r => ListAt StrV s.heap v r ∧ r ∈ rs, rfl, (hl1.at fun o e => k₃.get _ _ e).isList, paired_mem hp, ?_⟩
      rintro C2 v2 two s₅ m₅ ⟨htwo, hmem2⟩ hN5 hm5 k₅
      have K5 := K3.trans k₅
      have B5 := K5.base B
      refine Call_Name2 ?_
      refine ne_glob B5 g_law_above ?_
      refine own2 (def_fAbove B5) ?_
      refine ne_cell (c := C + 1) (hc.keeps k₅.get) ?_
      refine ne_local hN5 hm5 ⟨Kp.refl _, ?_⟩
      refine law_above B5 R1 (mls _ _ _ _ K5.seq hone) (mls _ _ _ _ K5.seq htwo) (hok _ hmem) (hok _ hmem2) fun s₆ k₆ => ⟨Made.pure rfl, k₆⟩
    · intro v s₄ k₄ hm4
      exact ⟨hm4, k₄⟩
  · intro v s₂ k₂ hm
    exact h _ _ (K1.trans k₂) hm.here
end Mine
end

open PySem PySem.W PySem.Calls PyProof.Rows
set_option Elab.async false
set_option maxRecDepth 100000
set_option linter.unusedVariables false
noncomputable section
namespace Mine
def tailS (x : Str) : Str := ⟨(x.cps.toList.drop (x.cps.size - 1)).toArray⟩
theorem picked_last (n : Nat) : Builtin.Str.strSliceIndices (some (-1)) none 1 n = (List.range (n - (n - 1))).map (n - 1 + ·) := by
  unfold Builtin.Str.strSliceIndices
  simp only [show (-1 : Int) < 0 by decide, show (1 : Int) > 0 by decide, if_true]
  have e : max 0 (min (-1 + (n : Int)) (n : Int)) = ((n - 1 : Nat) : Int) := by omega
  rw [e, sliceRange_one]
theorem drop_last : ∀ (l : List Nat), ((List.range (l.length - (l.length - 1))).map (l.length - 1 + ·)).filterMap (l[·]?) = l.drop (l.length - 1) := by
  intro l
  cases h : l.length with
  | zero =>
    have : l = [] := List.length_eq_zero_iff.mp h
    subst this; rfl
  | succ k =>
    rw [show k + 1 - 1 = k by omega, show k + 1 - k = 1 by omega]
    have hk : k < l.length := by omega
    simp only [List.range_one, List.map_cons, List.map_nil, Nat.add_zero, List.filterMap_cons, List.filterMap_nil]
    rw [List.getElem?_eq_getElem hk]
    simp only
    rw [List.drop_eq_getElem_cons hk, List.drop_eq_nil_of_le (by omega)]
theorem tail_made (x : Str) (t u : Tok) {Q : Value → Shared → Prop} {s : Shared} (hx : x.cps.size ≤ 1000000) (h : ∀ s' u, Kp s s' → Q (.str (tailS x) u) s') : (sliceMade x t (some (-1, u)) none none).post Q s := by
  have hp : slicePicked x (some (-1, u)) none none = (List.range (x.length - (x.length - 1))).map (x.length - 1 + ·) := picked_last x.length
  have hz : x.length = x.cps.toList.length := by simp [Str.length]
  unfold sliceMade
  split
  · rename_i he
    have he' : (slicePicked x (some (-1, u)) none none).length = x.length := by simpa using he
    rw [hp, List.length_map, List.length_range] at he'
    have : tailS x = x := by
      unfold tailS
      have e0 : x.cps.size - 1 = 0 := by have : x.length = x.cps.size := rfl; omega
      rw [e0, List.drop_zero]
    show Q (.str x t) s
    rw [← this]
    exact h _ _ (Kp.refl _)
  · have e1 : (slicePicked x (some (-1, u)) none none).filterMap (x.cps[·]?) = x.cps.toList.drop (x.cps.size - 1) := by
      rw [hp, hz]
      have := drop_last x.cps.toList
      simpa using this
    rw [e1]
    refine ⟨?_, h _ _ (tk _ _)⟩
    show (x.cps.toList.drop (x.cps.size - 1)).toArray.size ≤ _
    rw [sizeLine_eq]
    simp
    omega
def subOf (x y : Str × Str) : Bool := if x = y then true else if x.1 ≠ y.1 then false else Txt.startswith y.2 (if tailS x.2 = slash then x.2 else x.2 ++ slash)
set_option maxHeartbeats 1000000 in
theorem suburi {w : World} {A : Around} {E : Value → Shared → Prop} {s : Shared} {k : Nat} {self v u : Value} {x y : Str × Str} {Q : Value → Shared → Prop} (B : Base w s.heap) (R : Room A (k + 1)) (hv : PairAt s.heap v x) (hu : PairAt s.heap u y)
    (hz : x.2.cps.size ≤ 100000) (h : ∀ s', Kp s s' → Q (.bool (subOf x y)) s') :
    wpAny (model pw w) A (PySem.call (.ref 64) [self, v, u]) Q E s := by
  refine call_own B (def_fSub B) R (fnB (cstm 4)) [(Str.ofString "self", self), (Str.ofString "base", v), (Str.ofString "test", u)] fun s₁ L F => ?_
  have R1 : Room (A.deeper (callEnv fSub L 64)) k := R.deeper _
  generalize hA : A.deeper (callEnv fSub L 64) = A1 at R1 ⊢
  have hline : A1.units < cLine := Nat.lt_of_le_of_lt (Nat.le_add_right _ _) R1.line
  have hv1 := mono_pair _ _ _ _ F.keeps.seq hv
  have hu1 := mono_pair _ _ _ _ F.keeps.seq hu
  refine wpAny_execs_cons ?_
  refine wpAny_If ?_
  refine wpAny_isTrue_Compare1 ?_
  refine nm_local F v ?_
  refine nm_local F u ?_
  refine eq_pairs hv1 hu1 hline ?_
  refine wpAny_truthy_bool ?_
  by_cases he : x = y
  · rw [if_pos (decide_eq_true he)]
    refine wpAny_execs_cons ?_
    refine wpAny_Return_some ?_
    refine wpAny_Constant_bool ?_
    have : subOf x y = true := by unfold subOf; rw [if_pos he]
    rw [← this]
    exact h _ F.keeps
  rw [if_neg (by simpa using he)]
  refine wpAny_execs_nil ?_
  refine wpAny_execs_cons ?_
  refine wpAny_If ?_
  refine wpAny_isTrue_Compare1 ?_
  obtain ⟨a, t1, t2, rfl, hg⟩ := hv1
  obtain ⟨b, t3, t4, rfl, hg'⟩ := hu1
  refine sub_any (hs := ?a1) ?_
  case a1 => exact fun _ _ => rfl
  refine nm_local F (.ref a) ?_
  refine k_int fun s₂ u₂ k₂ => ?_
  refine on_tuple (items := #[.str x.1 t1, .str x.2 t2]) (x := .str x.1 t1) ⟨_, k₂.get _ _ hg, rfl, _, rfl⟩ (by decide) (by decide) rfl ?_
  have F2 := F.on k₂
  refine sub_any (hs := ?a2) ?_
  case a2 => exact fun _ _ => rfl
  refine nm_local F2 (.ref b) ?_
  refine k_int fun s₃ u₃ k₃ => ?_
  have k23 := k₂.trans k₃
  refine on_tuple (items := #[.str y.1 t3, .str y.2 t4]) (x := .str y.1 t3) ⟨_, k23.get _ _ hg', rfl, _, rfl⟩ (by decide) (by decide) rfl ?_
  have F3 := F2.on k₃
  refine P.ne_str ?_
  refine wpAny_truthy_bool ?_
  have en : (x.1.cps.toList != y.1.cps.toList) = !decide (x.1 = y.1) := by rw [← str_eq_iff]; rfl
  rw [en]
  by_cases h1 : x.1 = y.1
  · rw [decide_eq_true h1]
    rw [if_neg (by decide)]
    refine wpAny_execs_nil ?_
    refine wpAny_execs_cons ?_
    refine wpAny_Assign_Name (hs := ?a3) ?_
    case a3 => kernel_rfl
    refine sub_any (hs := ?a4) ?_
    case a4 => exact fun _ _ => rfl
    refine nm_local F3 (.ref a) ?_
    refine k_int fun s₄ u₄ k₄ => ?_
    have k24 := k23.trans k₄
    refine on_tuple (items := #[.str x.1 t1, .str x.2 t2]) (x := .str x.2 t2) ⟨_, k24.get _ _ hg, rfl, _, rfl⟩ (by decide) (by decide) rfl ?_
    have F4 := F3.on k₄
    refine st_local F4 fun s₅ F5 sb5 => ?_
    have q5 : KeepSeq s₄.heap s₅.heap := seq_same F4.ns sb5
    have hg5 := q5 _ _ _ _ rfl (k24.get _ _ hg')
    refine wpAny_execs_cons ?_
    refine wpAny_mono (Q := fun f s' => f = .next ∧ ∃ m z, Fm s L m s' ∧ m (Str.ofString "prefix") = some (.str (if tailS x.2 = slash then x.2 else x.2 ++ slash) z) ∧ m (Str.ofString "test") = some (.ref b) ∧ s'.heap.get? b = some { cls := .type "tuple", data := .seq #[.str y.1 t3, .str y.2 t4] }) (E := NE) ?_ ?_ (fun _ _ e => e)
    · refine wpAny_If ?_
      refine wpAny_isTrue_Compare1 ?_
      refine wpAny_Subscript_str_slice (ht := ?a5) ?_
      case a5 => exact fun _ _ => rfl
      refine nm_local F5 (.str x.2 t2) ?_
      rw [evalPart_some, evalPart_none]
      refine k_neg1 fun s₆ u₆ k₆ => ?_
      refine wpAny_pure ?_
      refine ⟨x.2, t2, some (-1, u₆), none, rfl, rfl, rfl, ?_⟩
      refine tail_made _ _ _ (by omega) fun s₇ u₇ k₇ => ?_
      have k67 : Kp s₅ s₇ := (k₆.push _).trans k₇
      refine k_str fun s₈ u₈ k₈ => ?_
      have F8 := F5.on (k67.trans k₈)
      have hg8 := k₈.get _ _ (k67.get _ _ hg5)
      refine P.ne_str ?_
      refine wpAny_truthy_bool ?_
      have en2 : ((tailS x.2).cps.toList != (Str.ofString "/").cps.toList) = !decide (tailS x.2 = slash) := by rw [← str_eq_iff]; rfl
      rw [en2]
      by_cases h2 : tailS x.2 = slash
      · rw [decide_eq_true h2]
        rw [if_neg (by decide)]
        refine wpAny_execs_nil ⟨rfl, _, t2, F8, ?_, by kernel_rfl, hg8⟩
        rw [if_pos h2]
        kernel_rfl
      · rw [decide_eq_false h2]
        rw [if_pos (by decide)]
        refine wpAny_execs_cons ?_
        refine wpAny_AugAssign_Name ?_
        refine wpAny_loadName_local (env := callEnv fSub L 64) (by kernel_rfl) (by kernel_rfl) F8.ns (v := .str x.2 t2) (by kernel_rfl) ?_
        refine k_str fun s₉ u₉ k₉ => ?_
        refine SB.iadd (fun t' kk => ?_) ?_
        · have F9 := F8.on (k₉.trans (tk s₉ kk))
          refine st_local F9 fun s₁₀ F10 sb10 => ?_
          have q10 : KeepSeq ({ s₉ with toks := kk } : Shared).heap s₁₀.heap := seq_same F9.ns sb10
          refine wpAny_execs_nil ⟨rfl, _, t', F10, ?_, by kernel_rfl, q10 _ _ _ _ rfl (k₉.get _ _ hg8)⟩
          rw [if_neg h2]
          exact if_pos rfl
        · have e1 : (Str.ofString "/").length = 1 := by kernel_rfl
          have e2 : x.2.length = x.2.cps.size := rfl
          rw [e1, sizeLine_eq, e2]; omega
    rintro f s₆ ⟨rfl, m, z, F6, hm1, hm2, hg6⟩
    show wpAny _ _ (execs _ _) _ _ _
    refine wpAny_execs_cons ?_
    refine wpAny_Return_some ?_
    refine Call_method1 (hbase := ?b1) (hs := ?b2) (hline := ?b3) ?_
    case b1 => kernel_rfl
    case b2 => kernel_rfl
    case b3 => kernel_rfl
    refine sub_any (hs := ?a6) ?_
    case a6 => exact fun _ _ => rfl
    refine nm_local F6 (.ref b) ?_ hm2
    refine k_int fun s₇ u₇ k₇ => ?_
    refine on_tuple (items := #[.str y.1 t3, .str y.2 t4]) (x := .str y.2 t4) ⟨_, k₇.get _ _ hg6, rfl, _, rfl⟩ (by decide) (by decide) rfl ?_
    have F7 := F6.on k₇
    refine SB.startswith ?_
    refine nm_local F7 (.str (if tailS x.2 = slash then x.2 else x.2 ++ slash) z) ?_ hm1
    refine ⟨_, _, rfl, ?_⟩
    have := h _ F7.keeps
    unfold subOf at this
    rw [if_neg he, if_neg (by simpa using h1)] at this
    exact this
  · rw [decide_eq_false h1]
    rw [if_pos (by decide)]
    refine wpAny_execs_cons ?_
    refine wpAny_Return_some ?_
    refine wpAny_Constant_bool ?_
    have : subOf x y = false := by unfold subOf; rw [if_neg he, if_pos h1]
    rw [← this]
    exact h _ F3.keeps
end Mine
end

open PySem PySem.W PySem.Calls PyProof.Rows
set_option Elab.async false
set_option maxRecDepth 100000
set_option linter.unusedVariables false
noncomputable section
namespace Mine
theorem get67 (P : Params) (X : Nat → Obj) (l : Life) : (H1 P X l).get? 67 = some (o67a P) := by kernel_rfl
theorem get66 (P : Params) (X : Nat → Obj) (l : Life) : (H1 P X l).get? 66 = some (o66a P) := by kernel_rfl
theorem get35' (P : Params) (X : Nat → Obj) (l : Life) : (H1 P X l).get? 35 = some (o35a P) := by kernel_rfl
theorem get64' (P : Params) (X : Nat → Obj) (l : Life) : (H1 P X l).get? 64 = some (o64a P) := by kernel_rfl
theorem isn66 (P : Params) (X : Nat → Obj) (l : Life) : (H1 P X l).isNs 66 = true := by kernel_rfl
theorem ns_sub (P : Params) (X : Nat → Obj) (l : Life) : (H1 P X l).nsMap 66 (Str.ofString "is_suburi") = some (.ref 64) := by kernel_rfl
theorem ns_init (P : Params) (X : Nat → Obj) (l : Life) : (H1 P X l).nsMap 66 (Str.ofString "__init__") = some (.ref 35) := by kernel_rfl
theorem ns_no1 (P : Params) (X : Nat → Obj) (l : Life) : (H1 P X l).nsMap 66 (Str.ofString "__setattr__") = none := by kernel_rfl
theorem ns_no2 (P : Params) (X : Nat → Obj) (l : Life) : (H1 P X l).nsMap 66 (Str.ofString "passwd") = none := by kernel_rfl
theorem ns_no3 (P : Params) (X : Nat → Obj) (l : Life) : (H1 P X l).nsMap 66 (Str.ofString "__getattribute__") = none := by kernel_rfl
theorem ns_no4 (P : Params) (X : Nat → Obj) (l : Life) : (H1 P X l).nsMap 66 (Str.ofString "__getattr__") = none := by kernel_rfl
structure MgrCls (h : Heap) (mN : Str → Option Value) : Prop where
  cls : ClsAt h 67 66 mN
  sub : mN (Str.ofString "is_suburi") = some (.ref 64)
  init : mN (Str.ofString "__init__") = some (.ref 35)
  no1 : mN (Str.ofString "__setattr__") = none
  no2 : mN (Str.ofString "passwd") = none
  no3 : mN (Str.ofString "__getattribute__") = none
  no4 : mN (Str.ofString "__getattr__") = none
  fn35 : ∃ o, h.get? 35 = some o ∧ o.cls = .type "function"
  fn64 : ∃ o, h.get? 64 = some o ∧ o.cls = .type "function"
theorem mgr_cls {w : World} {h : Heap} (B : Base w h) : ∃ mN, MgrCls h mN := by
  obtain ⟨X, l, e, _⟩ := B.ext
  refine ⟨(H1 w.params X l).nsMap 66, ⟨⟨⟨_, _, _, _, _, _, _, _, _, _, _, _, e _ _ (get67 _ _ _)⟩, (Heap.Ns.of_isNs (isn66 _ _ _)).keeps e⟩, ns_sub _ _ _, ns_init _ _ _, ns_no1 _ _ _, ns_no2 _ _ _, ns_no3 _ _ _, ns_no4 _ _ _, ⟨_, e _ _ (get35' _ _ _), rfl⟩, ⟨_, e _ _ (get64' _ _ _), rfl⟩⟩⟩
def Mgr (h : Heap) (x : Addr) : Prop := ∃ mA, h.Inst x 67 mA ∧ mA (Str.ofString "is_suburi") = none
theorem Mgr.keeps {h h' : Heap} {x : Addr} (m : Mgr h x) (k : ∀ b o, h.get? b = some o → h'.get? b = some o) : Mgr h' x := by
  obtain ⟨mA, i, e⟩ := m
  exact ⟨mA, i.keeps k, e⟩
theorem Mgr.but {h h' : Heap} {x c : Addr} {v : Option Value} (m : Mgr h x) (hc : h.IsCell c v) (hx : x ≠ c) (k : ∀ b o, b ≠ c → h.get? b = some o → h'.get? b = some o) : Mgr h' x := by
  obtain ⟨mA, ⟨o, e, c1, c2, hd⟩, e2⟩ := m
  refine ⟨mA, ⟨o, k _ _ hx e, c1, c2, ?_⟩, e2⟩
  rcases hd with hd | ⟨d, h1, h2, o', es, ep, g1, g2, r⟩
  · exact .inl hd
  · refine .inr ⟨d, h1, h2, o', es, ep, k _ _ (fun q => ?_) g1, g2, r⟩
    obtain ⟨oc, gc, dc⟩ := hc
    rw [q, gc] at g1
    cases g1
    rw [dc] at g2; cases g2
theorem Room.under {A : Around} {k : Nat} (R : Room A (k + 1)) : Room (A.under (.builtin "type.__call__" ⟨[.ref 67], []⟩)) k := by
  obtain ⟨h1, h2, h3⟩ := R
  refine ⟨?_, ?_, h3⟩
  · have e : (A.under (.builtin "type.__call__" ⟨[.ref 67], []⟩)).depth = A.depth + 1 := rfl
    rw [e]
    omega
  · have e : (Code.builtin "type.__call__" ⟨[.ref 67], []⟩).cUnits ≤ 4 := by decide +kernel
    show A.units + (Code.builtin "type.__call__" ⟨[.ref 67], []⟩).cUnits + 4 * k ≤ 9000
    omega
theorem no_passwd : typeLookup (.type "object") (Str.ofString "passwd") = pure none := by rw [typeLookup_type, builtinLookup_eq_fast]; kernel_rfl
theorem no_sub : typeLookup (.type "object") (Str.ofString "is_suburi") = pure none := by rw [typeLookup_type, builtinLookup_eq_fast]; kernel_rfl
theorem new_mgr {w : World} {A : Around} {E : Value → Shared → Prop} {s : Shared} {k : Nat} {Q : Value → Shared → Prop} (B : Base w s.heap) (R : Room A (k + 2)) (h : ∀ x s', Kp s s' → s.heap.get? x = none → Mgr s'.heap x → Q (.ref x) s') :
    wpAny (model pw w) A (PySem.call (.ref 67) []) Q E s := by
  obtain ⟨mN, M⟩ := mgr_cls B
  obtain ⟨nm, q, bs, sn, sub, col, dd, k0, k1, k2, k3, k5, hC⟩ := M.cls.obj
  obtain ⟨oI, hoI, hcI⟩ := M.fn35
  obtain ⟨hh, g, d, t, os⟩ := s
  refine wpAny_call_obj_init PySem.F.objNew hC M.cls.ns M.init hoI hcI fun h' x dx Mk => ?_
  have Km : Kp ⟨hh, g, d, t, os⟩ ⟨h', g, d, t, os⟩ := ⟨⟨h', t, rfl⟩, Mk.keeps⟩
  have B' : Base w (⟨h', g, d, t, os⟩ : Shared).heap := Km.base B
  refine call_own B' (def_fInit B') (Room.under R) (fnB (cstm 0)) [(Str.ofString "self", .ref x)] fun s₁ L F => ?_
  generalize hA : (A.under (.builtin "type.__call__" ⟨[.ref 67], []⟩)).deeper (callEnv fInit L 35) = A1
  refine wpAny_execs_cons ?_
  refine plainObj_wpAny_Assign_Attribute (hs := ?a) ?_
  case a => kernel_rfl
  refine wpAny_Dict_empty ?_
  have kd : Kp s₁ { s₁ with heap := s₁.heap.push { cls := .type "dict", data := .dict #[] } } := (Kp.refl _).push _
  have F2 := F.on kd
  refine nm_local F2 (.ref x) ?_
  generalize Value.ref s₁.heap.objs.size = dv
  generalize ({ s₁ with heap := s₁.heap.push { cls := .type "dict", data := .dict #[] } } : Shared) = s₂ at F2 ⊢
  clear kd F
  have K2 : Kp ⟨hh, g, d, t, os⟩ s₂ := Km.trans F2.keeps
  have I2 : s₂.heap.Inst x 67 fun _ => none := Mk.inst.keeps F2.keeps.get
  obtain ⟨mN2, M2⟩ := mgr_cls (K2.base B)
  obtain ⟨nm2, q2, bs2, sn2, sub2, col2, dd2, k02, k12, k22, k32, k52, hC2⟩ := M2.cls.obj
  obtain ⟨ox, hox, _⟩ := id Mk.inst
  have hox2 := F2.keeps.get _ _ hox
  have hdx := Mk.dict ox hox
  obtain ⟨h₂, g₂, d₂, t₂, os₂⟩ := s₂
  have hxC : x ≠ 67 := fun e => by rw [e] at Mk; rw [Mk.newX] at hC; cases hC
  refine store_attr (ns := []) PySem.F.store_object hC2 M2.cls.ns M2.no1 M2.no2 no_passwd hxC I2 (fun h₃ tk₃ I3 hk hsame => ?_) (by within_ways) (by size_fits)
  refine wpAny_execs_nil ⟨rfl, ?_⟩
  refine h x _ ?_ Mk.newX ⟨_, I3, ?_⟩
  · have kk : ∀ b o, hh.get? b = some o → h₃.get? b = some o := fun b o e => hk b o (fun q => by rw [q, Mk.newX] at e; cases e) (fun o₀ d' e₀ ed q => by
      have : o₀ = ox := Option.some.inj (e₀.symm.trans hox2)
      rw [this, hdx] at ed
      cases ed
      rw [q, Mk.newD] at e; cases e) (K2.get _ _ e)
    refine ⟨?_, kk⟩
    obtain ⟨hz, tz, ez⟩ := K2.same
    cases ez
    exact ⟨h₃, tk₃, rfl⟩
  · rw [if_neg (by decide +kernel)]

theorem call_meth2 {w : World} {A : Around} {E : Value → Shared → Prop} {s : Shared} {env : Env} {o e₁ e₂ : Expr} {name : Str} {apos pos : Pos} {Q : Value → Shared → Prop}
    (hbase : attributeBase o name env (eval o env) = eval o env) (hs : starEach [e₁, e₂] env = [(false, eval e₁ env), (false, eval e₂ env)]) (hline : (apos.endLine == pos.line) = true)
    (h : wpAny (model pw w) A (eval o env) (fun ov s₁ => ∀ pl, wpAny (model pw w) A (getMethod ov name pl) (fun r s₂ => wpAny (model pw w) A (callWith pos r.1 r.2 [(false, eval e₁ env), (false, eval e₂ env)] []) Q E s₂) E s₁) E s) :
    wpAny (model pw w) A (eval (.Call (.Attribute o name apos) [e₁, e₂] [] pos) env) Q E s := by
  rw [arm_eval_Call, hbase]
  refine wpAny_bind (wpAny_mono h (fun ov s₁ h₁ => ?_) fun _ _ e => e)
  refine wpAny_bind (wpAny_standAt ?_)
  have hform : methodCallForm (([e₁, e₂] : List Expr).length + ([] : List Keyword).length) (backTo pos (starEach [e₁, e₂] env)) (backToKw pos (keywordEach [] env)) = true := by rw [hs]; rfl
  have hpos : methodCallPos true o env apos pos = pure pos := by unfold methodCallPos; simp [hline]
  unfold methodCall
  rw [hform]
  refine wpAny_bind (wpAny_holding (wpAny_mono (h₁ _) (fun r s₂ h₂ => ?_) fun _ _ e => e))
  refine wpAny_bind (wpAny_of_eq hpos ?_)
  rw [hs]
  exact h₂
theorem on_mgr {w : World} {A : Around} {E : Value → Shared → Prop} {s : Shared} {x : Addr} {t u : Sem Value} {pos : Pos} {Q : Value → Shared → Prop} (B : Base w s.heap) (m : Mgr s.heap x)
    (h : wpAny (model pw w) A t (fun v s₁ => wpAny (model pw w) A u (fun v' s₂ => Kp s s₂ ∧ wpAny (model pw w) A (PySem.call (.ref 64) [.ref x, v, v']) Q E s₂) E s₁) E s) (pl : Sem Bool) :
    wpAny (model pw w) A (getMethod (.ref x) (Str.ofString "is_suburi") pl) (fun r s₂ => wpAny (model pw w) A (callWith pos r.1 r.2 [(false, t), (false, u)] []) Q E s₂) E s := by
  obtain ⟨mN, M⟩ := mgr_cls B
  obtain ⟨nm, q, bs, sn, sub, col, dd, k0, k1, k2, k3, k5, hC⟩ := M.cls.obj
  obtain ⟨oI, hoI, hcI⟩ := M.fn64
  obtain ⟨o, h1, h2⟩ := (def_fSub B).obj
  obtain ⟨mA, I, hm⟩ := m
  obtain ⟨hh, g, d, t', os⟩ := s
  refine method_of hC M.cls.ns M.no3 M.no4 M.sub hoI hcI no_sub I hm ?_
  exact callWith_function (o := o) (fd := fSub) (evalArgs_plain (spliced_cons (wpAny_mono h (fun v s₁ h₁ => spliced_cons (wpAny_mono h₁ (fun v' s₂ h₂ => spliced_nil ⟨⟨h₂.1.get _ _ h1, h2⟩, h₂.2⟩) fun _ _ x => x)) fun _ _ x => x)))
end Mine
end

open PySem PySem.W PySem.Calls PyProof.Rows
set_option Elab.async false
set_option maxRecDepth 100000
set_option linter.unusedVariables false
noncomputable section
namespace Mine
def askedOf (xs : List (Str × Str)) : List (List Bool) := xs.map fun x => xs.map fun y => subOf x y
theorem far6 (L : Nat) : L + 1 ≠ L + 2 := by omega
theorem far5 (n L : Nat) (h : n ≤ L) : ¬ L + 2 < n := by omega
set_option maxHeartbeats 1000000 in
theorem law_asked {w : World} {A : Around} {E : Value → Shared → Prop} {s : Shared} {k : Nat} {v : Value} {xs : List (Str × Str)} {Q : Value → Shared → Prop} (B : Base w s.heap) (R : Room A (k + 4)) (hv : ListAt PairAt s.heap v xs)
    (hlen : xs.length ≤ 100) (hok : ∀ x ∈ xs, x.2.cps.size ≤ 100000) (h : ∀ v s', Kp s s' → ListAt (ListAt BoolV) s'.heap v (askedOf xs) → Q v s') :
    wpAny (model pw w) A (PySem.call (.ref 200) [v]) Q E s := by
  obtain ⟨a, vs, rfl, hl, hp⟩ := hv
  refine call_ownc B (def_fAsked B) R (fnB (stm 19)) [(Str.ofString "addresses", .ref a)] fun s₁ L X => ?_
  have R1 : Room (A.deeper (callEnvC fAsked L 200)) (k + 3) := R.deeper _
  generalize hA : A.deeper (callEnvC fAsked L 200) = A1 at R1 ⊢
  have K1 := InCallC.kp X
  have B1 := K1.base B
  refine wpAny_execs_cons ?_
  refine wpAny_Assign_Name (hs := ?a) ?_
  case a => kernel_rfl
  refine PyProof.Rows.Call_Name0 ?_
  refine ne_glob B1 g_HTTPPasswordMgr ?_
  obtain ⟨mN, M⟩ := mgr_cls B1
  refine callWith_clsA (args := []) M.cls rfl (PySem.evalArgs_none ⟨rfl, fun _ _ e => e, ?_⟩)
  refine new_mgr B1 R1 fun x s₂ k₂ hxn hx => ?_
  have c1 : s₂.heap.IsCell (L + 1) (some (.ref a)) := (X.cell (Str.ofString "addresses") (L + 1) (by kernel_rfl)).keeps k₂.get
  have c2 : s₁.heap.IsCell (L + 2) none := X.cell (Str.ofString "manager") (L + 2) (by kernel_rfl)
  have hfresh : s.heap.objs.size ≤ L := X.toInCall.fresh
  refine wpAny_storeName_cell (env := callEnvC fAsked L 200) (c := L + 2) (by kernel_rfl) (by kernel_rfl) (by kernel_rfl) (c2.keeps k₂.get) fun h₃ hc3 hs3 => ?_
  have hxc : x ≠ L + 2 := fun q => by obtain ⟨oc, gc, _⟩ := c2; rw [q, gc] at hxn; cases hxn
  have hx3 : Mgr h₃ x := hx.but (c2.keeps k₂.get) hxc fun b o hb e => hs3.extBut b o hb e
  have c13 : h₃.IsCell (L + 1) (some (.ref a)) := c1.sameBut hs3 (far6 L)
  have K3 : Kp s { s₂ with heap := h₃ } := by
    refine ⟨?_, fun b o e => hs3.extBut b o (fun q => ?_) (k₂.get _ _ (K1.get _ _ e))⟩
    · obtain ⟨⟨h2, t2, rfl⟩, _⟩ := K1.trans k₂
      exact ⟨h₃, t2, rfl⟩
    · have := Heap.lt_size e
      rw [q] at this
      exact absurd this (far5 _ _ hfresh)
  have hx3' : Mgr ({ s₂ with heap := h₃ } : Shared).heap x := hx3
  have c13' : ({ s₂ with heap := h₃ } : Shared).heap.IsCell (L + 1) (some (.ref a)) := c13
  have hc3' : ({ s₂ with heap := h₃ } : Shared).heap.IsCell (L + 2) (some (.ref x)) := hc3
  generalize ({ s₂ with heap := h₃ } : Shared) = s₃ at K3 hx3' c13' hc3' ⊢
  clear hx3 c13 hc3 hs3 c1 c2 hx hxn hxc X
  have hl3 : s₃.heap.PlainList a vs.toArray := hl.at fun o e => K3.get _ _ e
  refine wpAny_execs_cons ?_
  refine wpAny_Return_some ?_
  refine comp_cell [(Str.ofString "manager", L + 2), (Str.ofString "addresses", L + 1)] xs (fun x => xs.map fun y => subOf x y) (ListAt BoolV) R1.handled (by omega) ?_ ?_
  · refine ne_cell (c := L + 1) c13' ?_
    refine ⟨Kp.refl _, a, vs, fun v r => PairAt s.heap v r ∧ r ∈ xs, rfl, hl3.isList, paired_mem hp, ?_⟩
    rintro C v one s₄ ⟨hone, hmem⟩ hc k₄
    have K4 := K3.trans k₄
    refine comp_list [(Str.ofString "one", C + 1), (Str.ofString "manager", L + 2)] xs (fun y => subOf one y) BoolV R1.handled (by omega) ?_ ?_
    · refine ne_cell (c := L + 1) (c13'.keeps k₄.get) ?_
      refine ⟨Kp.refl _, a, vs, fun v r => PairAt s.heap v r ∧ r ∈ xs, rfl, (hl3.at fun o e => k₄.get _ _ e).isList, paired_mem hp, ?_⟩
      rintro C2 v2 two s₅ m₅ ⟨htwo, hmem2⟩ hN5 hm5 k₅
      have K5 := K4.trans k₅
      have B5 := K5.base B
      have m5 : Mgr s₅.heap x := hx3'.keeps (k₄.trans k₅).get
      refine Call_Name1 ?_
      refine ne_glob B5 g_law_bool ?_
      refine own1 (def_fBool B5) ?_
      refine call_meth2 (hbase := ?b) (hs := ?c) (hline := ?d) ?_
      case b => kernel_rfl
      case c => kernel_rfl
      case d => kernel_rfl
      refine ne_cell (c := L + 2) (hc3'.keeps (k₄.trans k₅).get) ?_
      refine on_mgr B5 m5 ?_
      refine ne_cell (c := C + 1) (hc.keeps k₅.get) ?_
      refine ne_local hN5 hm5 ⟨Kp.refl _, ?_⟩
      refine suburi B5 R1 (mono_pair _ _ _ _ K5.seq hone) (mono_pair _ _ _ _ K5.seq htwo) (hok _ hmem) fun s₆ k₆ => ⟨k₆, ?_⟩
      exact law_bool (k₆.base B5) R1 fun s₇ k₇ => ⟨Made.pure rfl, k₆.trans k₇⟩
    · intro v s₅ k₅ hm5
      exact ⟨hm5, k₅⟩
  · intro v s₄ k₄ hm
    exact h _ _ (K3.trans k₄) hm.here
end Mine
end

open PySem PySem.W PySem.Calls PyProof.Rows
set_option Elab.async false
set_option maxRecDepth 100000
set_option linter.unusedVariables false
noncomputable section
namespace Mine
def dB (r : List Bool) : PyData := .list (r.map .bool)
def dBB (b : List (List Bool)) : PyData := .list (b.map dB)
theorem reads_bools {h : Heap} : ∀ {vs : List Value} {r : List Bool}, Paired (BoolV h) vs r → ∃ as, ReadsAll h vs (r.map .bool) as
  | _, _, .nil => ⟨[], .nil⟩
  | _, _, .cons e r => by
    obtain ⟨as, x⟩ := reads_bools r
    cases e
    exact ⟨_, .cons (.bool _) x⟩
theorem reads_list {h : Heap} {v : Value} {r : List Bool} (x : ListAt BoolV h v r) : ∃ as, Reads h v (dB r) as := by
  obtain ⟨a, vs, rfl, ⟨n, e⟩, p⟩ := x
  obtain ⟨as, y⟩ := reads_bools p
  exact ⟨_, .list e rfl rfl y⟩
theorem reads_rows {h : Heap} : ∀ {vs : List Value} {b : List (List Bool)}, Paired (ListAt BoolV h) vs b → ∃ as, ReadsAll h vs (b.map dB) as
  | _, _, .nil => ⟨[], .nil⟩
  | _, _, .cons e r => by
    obtain ⟨as, x⟩ := reads_rows r
    obtain ⟨bs, y⟩ := reads_list e
    exact ⟨_, .cons y x⟩
theorem reads_two {h : Heap} {v : Value} {b : List (List Bool)} (x : ListAt (ListAt BoolV) h v b) : ∃ as, Reads h v (dBB b) as := by
  obtain ⟨a, vs, rfl, ⟨n, e⟩, p⟩ := x
  obtain ⟨as, y⟩ := reads_rows p
  exact ⟨_, .list e rfl rfl y⟩
theorem lay_bools : ∀ r : List Bool, PyData.canLayAll0 (r.map .bool) = true
  | [] => by simp [PyData.canLayAll0]
  | b :: r => by simp [PyData.canLayAll0, PyData.canLay0, lay_bools r]
theorem lay_rows : ∀ b : List (List Bool), PyData.canLayAll0 (b.map dB) = true
  | [] => by simp [PyData.canLayAll0]
  | b :: r => by simp [PyData.canLayAll0, PyData.canLay0, dB, lay_bools, lay_rows r]
theorem dep_bools : ∀ r : List Bool, PyData.depthAll (r.map .bool) = 0
  | [] => by simp [PyData.depthAll]
  | b :: r => by simp [PyData.depthAll, PyData.depth, dep_bools r]
theorem dep_rows : ∀ b : List (List Bool), PyData.depthAll (b.map dB) ≤ 1
  | [] => by simp [PyData.depthAll]
  | b :: r => by
    have := dep_rows r
    simp only [List.map_cons, PyData.depthAll, dB, PyData.depth, dep_bools]
    omega
theorem shaped_two (b : List (List Bool)) : SeqAt.shaped (dBB b) = true := by
  unfold SeqAt.shaped dBB
  rw [Bool.and_eq_true]
  refine ⟨by simp only [PyData.canLay0]; exact lay_rows b, decide_eq_true ?_⟩
  have := dep_rows b
  simp only [PyData.depth]
  omega
theorem eqv_bools : ∀ r : List Bool, PyData.eqvAll (r.map .bool) (r.map .bool) = true
  | [] => by simp [PyData.eqvAll]
  | b :: r => by simp [PyData.eqvAll, PyData.eqv, eqv_bools r]
theorem eqv_rows : ∀ b : List (List Bool), PyData.eqvAll (b.map dB) (b.map dB) = true
  | [] => by simp [PyData.eqvAll]
  | b :: r => by simp [PyData.eqvAll, PyData.eqv, dB, eqv_bools, eqv_rows r]
theorem eqv_two (b : List (List Bool)) : PyData.eqv (dBB b) (dBB b) = true := by
  unfold dBB; simp only [PyData.eqv]; exact eqv_rows b

def lawNs (ns : List Int) : List Int := [1625, 62502, 48174, 2474287] ++ ns.take 6
/-- the plain law -/
structure Plain : Prop where
  one : ∀ ns, askedOf ((rowsFor 0 ns).map addrOf) = dueOf (rowsFor 0 ns)
  two : ∀ ns, askedOf (((rowsFor 0 ns).map addrOf).map prepA) = dueOf (rowsFor 1 ns)
  ok : ∀ side ns, side < 2 → ∀ r ∈ rowsFor side ns, RowOk r
  sz : ∀ ns, ∀ x ∈ (rowsFor 0 ns).map addrOf, x.1.cps.size ≤ 1000 ∧ x.2.cps.size ≤ 1000
  psz : ∀ ns, ∀ x ∈ ((rowsFor 0 ns).map addrOf).map prepA, x.2.cps.size ≤ 100000
theorem rows_len (side : Nat) (ns : List Int) : (rowsFor side (lawNs ns)).length ≤ 100 := by
  unfold rowsFor lawNs
  simp only [List.length_map, List.length_append, List.length_take, List.length_cons, List.length_nil]
  omega
theorem numbers {w : World} {A : Around} {E : Value → Shared → Prop} {s : Shared} {env : Env} {a : Addr} {vs : List Value} {ns : List Int} {elts : List Expr} {p1 p2 p3 p4 : Pos} {x : Str} {kk : Nat} {Q : Value → Shared → Prop}
    (hc : elts.map intOf = ([1625, 62502, 48174, 2474287] : List Int).map some) (hnm : ∀ (s' : Shared) (Q' : Value → Shared → Prop), Kp s s' → Q' (.ref a) s' → wpAny (model pw w) A (eval (.Name x p2) env) Q' E s')
    (hl : s.heap.IsList a vs.toArray) (hi : IntsAre vs ns) (hz : ns.length ≤ 1000)
    (h : ∀ l zs s', Kp s s' → s'.heap.IsList l (List.toArray zs) → IntsAre zs (lawNs ns) → Q (.ref l) s') :
    wpAny (model pw w) A (eval (.BinOp (.List elts p1) .Add (.Subscript (.Name x p2) (.Slice none (some (.Constant (.int 6) kk p3)) none p4) p5) p6) env) Q E s := by
  refine wpAny_BinOp ?_
  refine list_new ?_
  refine items_ints _ [1625, 62502, 48174, 2474287] _ _ hc ?_
  intro us k1 hi1
  refine ⟨by rw [hi1.length]; exact Nat.le_of_ble_eq_true rfl, ?_⟩
  intro l1 s₂ k₂ hn1 hl1
  have K2 : Kp s s₂ := (tk s k1).trans k₂
  refine slice_list (ht := ?a) ?_
  case a => exact fun _ _ => rfl
  refine hnm _ _ K2 ?_
  rw [evalPart_some, evalPart_none]
  refine wpAny_pure ?_
  refine k_int fun s₃ u₃ k₃ => ?_
  have K3 := K2.trans k₃
  refine ⟨a, _, none, some 6, rfl, hl.at fun o e => K3.get _ _ e, by rw [List.size_toArray, hi.length]; omega, .none, .int _ _, ?_⟩
  intro l2 s₄ k₄ hn2 hl2
  have e1 : slicePick vs.toArray none (some 6) none = (vs.take 6).toArray := by simpa using slicePick_upto' vs.toArray 6
  rw [e1] at hl2
  have hl1' : s₄.heap.PlainList l1 us.toArray := hl1.at fun o e => k₄.get _ _ (k₃.get _ _ e)
  have hi2 : IntsAre (vs.take 6) (ns.take 6) := by
    have := slice_ints_uptoW hi (y := 6) (by decide)
    rw [e1] at this
    simpa using this
  obtain ⟨n1, g1⟩ := hl1'
  obtain ⟨n2, g2⟩ := hl2
  refine P.add_list g1 g2 ?_ ?_
  · refine h _ (us ++ vs.take 6) _ ((K3.trans k₄).push _) ⟨_, Heap.get?_push_size _ rfl, rfl, 0, ?_⟩ (hi1.append hi2)
    show Data.seq _ _ = Data.seq _ _
    congr 1
    simp
  · rw [List.size_toArray, List.size_toArray, hi1.length, hi2.length, sizeLine_eq, List.length_take]
    show 4 + _ ≤ _
    omega
set_option maxHeartbeats 1000000 in
theorem law_main {w : World} {A : Around} {E : Value → Shared → Prop} {s : Shared} {k : Nat} {a : Addr} {vs : List Value} {ns : List Int} {Q : Value → Shared → Prop} (PL : Plain) (B : Base w s.heap) (R : Room A (k + 5)) (hl : s.heap.IsList a vs.toArray) (hi : IntsAre vs ns)
    (hz : ns.length ≤ 1000) (h : ∀ s', Kp s s' → Q (.bool true) s') :
    wpAny (model pw w) A (PySem.call (.ref 207) [.ref a]) Q E s := by
  refine call_own B (def_fLaw B) R (fnB (stm 20)) [(Str.ofString "script", .ref a)] fun s₁ L F => ?_
  have R1 : Room (A.deeper (callEnv fLaw L 207)) (k + 4) := R.deeper _
  generalize hA : A.deeper (callEnv fLaw L 207) = A1 at R1 ⊢
  have mll := mono_list (mono_list mono_str)
  have mlb := mono_list (mono_list mono_bool)
  have mlp := mono_list mono_pair
  have okt := PL.ok 0 (lawNs ns) (by decide)
  have okm := PL.ok 1 (lawNs ns) (by decide)
  -- told
  refine wpAny_execs_cons ?_
  refine wpAny_Assign_Name (hs := ?a1) ?_
  case a1 => kernel_rfl
  refine Call_Name2 ?_
  refine nm_glob (F.base B) g_law_rows ?_
  refine own2 (def_fRows (F.base B)) ?_
  refine numbers (a := a) (ns := ns) (hc := ?a2) (hnm := ?a3) (hl.at fun o e => F.keeps.get _ _ e) hi hz ?_
  case a2 => kernel_rfl
  case a3 => intro s' Q' k' hq; exact nm_local (F.on k') (.ref a) hq
  intro l1 zs1 s₂ k₂ hl1 hi1
  have F2 := F.on k₂
  refine k_int fun s₃ u₃ k₃ => ⟨k₂.trans k₃, ?_⟩
  have F3 := F2.on k₃
  have hzl : (lawNs ns).length ≤ 100 := by
    unfold lawNs
    simp only [List.length_append, List.length_take, List.length_cons, List.length_nil]
    omega
  refine law_rows (side := 0) (F3.base B) R1 (hl1.at fun o e => k₃.get _ _ e) hi1 hzl (by decide) fun told s₄ k₄ ht4 => ?_
  have F4 := F3.on k₄
  refine st_local F4 fun s₅ F5 sb5 => ?_
  have ht5 := mll _ _ _ _ (seq_same F4.ns sb5) ht4
  -- meant
  refine wpAny_execs_cons ?_
  refine wpAny_Assign_Name (hs := ?b1) ?_
  case b1 => kernel_rfl
  refine Call_Name2 ?_
  refine nm_glob (F5.base B) g_law_rows ?_
  refine own2 (def_fRows (F5.base B)) ?_
  refine numbers (a := a) (ns := ns) (hc := ?b2) (hnm := ?b3) (hl.at fun o e => F5.keeps.get _ _ e) hi hz ?_
  case b2 => kernel_rfl
  case b3 => intro s' Q' k' hq; exact nm_local (F5.on k') (.ref a) hq
  intro l2 zs2 s₆ k₆ hl2 hi2
  have F6 := F5.on k₆
  refine k_int fun s₇ u₇ k₇ => ⟨k₆.trans k₇, ?_⟩
  have F7 := F6.on k₇
  refine law_rows (side := 1) (F7.base B) R1 (hl2.at fun o e => k₇.get _ _ e) hi2 hzl (by decide) fun meant s₈ k₈ hm8 => ?_
  have F8 := F7.on k₈
  have ht8 := mll _ _ _ _ (k₆.trans (k₇.trans k₈)).seq ht5
  refine st_local F8 fun s₉ F9 sb9 => ?_
  have ht9 := mll _ _ _ _ (seq_same F8.ns sb9) ht8
  have hm9 := mll _ _ _ _ (seq_same F8.ns sb9) hm8
  clear ht4 ht5 ht8 hm8 sb5 sb9
  -- sent
  refine wpAny_execs_cons ?_
  refine wpAny_Assign_Name (hs := ?c1) ?_
  case c1 => kernel_rfl
  refine Call_Name1 ?_
  refine nm_glob (F9.base B) g_law_addresses ?_
  refine own1 (def_fAddr (F9.base B)) ?_
  refine nm_local F9 told ?_
  refine ⟨Kp.refl _, ?_⟩
  refine law_addresses (F9.base B) R1 ht9 (rows_len 0 ns) okt fun sent s₁₀ k₁₀ hs10 => ?_
  have F10 := F9.on k₁₀
  refine st_local F10 fun s₁₁ F11 sb11 => ?_
  have q11 := k₁₀.seq.trans (seq_same F10.ns sb11)
  have ht11 := mll _ _ _ _ q11 ht9
  have hm11 := mll _ _ _ _ q11 hm9
  have hs11 := mlp _ _ _ _ (seq_same F10.ns sb11) hs10
  clear ht9 hm9 hs10 sb11
  -- asked as sent
  have lenA : ((rowsFor 0 (lawNs ns)).map addrOf).length ≤ 100 := by rw [List.length_map]; exact rows_len 0 ns
  refine wpAny_execs_cons ?_
  refine wpAny_If ?_
  refine wpAny_isTrue_Compare1 ?_
  refine Call_Name1 ?_
  refine nm_glob (F11.base B) g_law_asked ?_
  refine own1 (def_fAsked (F11.base B)) ?_
  refine nm_local F11 sent ?_
  refine ⟨Kp.refl _, ?_⟩
  refine law_asked (F11.base B) R1 hs11 lenA (fun x hx => Nat.le_trans (PL.sz _ x hx).2 (by decide)) fun v12 s₁₂ k₁₂ h12 => ?_
  have F12 := F11.on k₁₂
  refine Call_Name1 ?_
  refine nm_glob (F12.base B) g_law_due ?_
  refine own1 (def_fDue (F12.base B)) ?_
  refine nm_local F12 told ?_
  refine ⟨Kp.refl _, ?_⟩
  refine law_due (F12.base B) R1 (mll _ _ _ _ k₁₂.seq ht11) (rows_len 0 ns) (fun r hr => Nat.le_trans (okt r hr).2.1 (by decide)) fun v13 s₁₃ k₁₃ h13 => ?_
  have F13 := F12.on k₁₃
  obtain ⟨as1, ra⟩ := reads_two (mlb _ _ _ _ k₁₃.seq h12)
  obtain ⟨as2, rb⟩ := reads_two h13
  rw [PL.one] at ra
  refine SeqAt.compareNe_shaped ra rb (shaped_two _) (shaped_two _) R1.line ?_
  refine wpAny_truthy_bool ?_
  rw [eqv_two]
  rw [if_neg (by decide)]
  refine wpAny_execs_nil ?_
  -- asked prepared
  have K13 := k₁₂.trans k₁₃
  refine wpAny_execs_cons ?_
  refine wpAny_Return_some ?_
  refine wpAny_Compare1 ?_
  refine Call_Name1 ?_
  refine nm_glob (F13.base B) g_law_asked ?_
  refine own1 (def_fAsked (F13.base B)) ?_
  refine Call_Name1 ?_
  refine nm_glob (F13.base B) g_law_prepared_addresses ?_
  refine own1 (def_fPadr (F13.base B)) ?_
  refine nm_local F13 sent ?_
  refine ⟨Kp.refl _, ?_⟩
  refine law_padr (F13.base B) R1 (mlp _ _ _ _ K13.seq hs11) lenA (PL.sz _) fun pv s₁₄ k₁₄ h14 => ⟨k₁₄, ?_⟩
  have F14 := F13.on k₁₄
  refine law_asked (F14.base B) R1 h14 (by rw [List.length_map]; exact lenA) (PL.psz _) fun v15 s₁₅ k₁₅ h15 => ?_
  have F15 := F14.on k₁₅
  refine Call_Name1 ?_
  refine nm_glob (F15.base B) g_law_due ?_
  refine own1 (def_fDue (F15.base B)) ?_
  refine nm_local F15 meant ?_
  refine ⟨Kp.refl _, ?_⟩
  refine law_due (F15.base B) R1 (mll _ _ _ _ (K13.trans (k₁₄.trans k₁₅)).seq hm11) (rows_len 1 ns) (fun r hr => Nat.le_trans (okm r hr).2.1 (by decide)) fun v16 s₁₆ k₁₆ h16 => ?_
  have F16 := F15.on k₁₆
  obtain ⟨as3, rc⟩ := reads_two (mlb _ _ _ _ k₁₆.seq h15)
  obtain ⟨as4, rd⟩ := reads_two h16
  rw [PL.two] at rc
  refine SeqAt.compareEq_shaped rc rd (shaped_two _) (shaped_two _) R1.line ?_
  rw [eqv_two]
  exact h _ F16.keeps
theorem walkT (PL : Plain) : WalkT := by
  intro w s a vs ns B hg hl hi hn
  refine law_main (k := 0) PL B ?_ hl hi (by omega) fun s' k => ⟨rfl, k.ext⟩
  exact ⟨by decide, by decide, rfl⟩
end Mine
end

open PySem PySem.W PySem.Calls PyProof.Rows
set_option Elab.async false
set_option maxRecDepth 100000
set_option linter.unusedVariables false
noncomputable section
namespace Mine
/-! strings as lists of signs -/
abbrev cl (x : Str) : List Nat := x.cps.toList
theorem cl_inj {x y : Str} (h : cl x = cl y) : x = y := by
  cases x; cases y
  congr 1
  exact Array.ext' h
theorem cl_append (x y : Str) : cl (x ++ y) = cl x ++ cl y := by
  show (x.cps ++ y.cps).toList = _
  simp
theorem cl_joinS : ∀ l : List Str, cl (Str.join Str.empty l) = (l.map cl).flatten
  | [] => by rfl
  | [x] => by simp [show Str.join Str.empty [x] = x from rfl]
  | x :: y :: r => by
    have ih := cl_joinS (y :: r)
    have e : Str.join Str.empty (x :: y :: r) = x ++ Str.empty ++ Str.join Str.empty (y :: r) := rfl
    rw [e, cl_append, cl_append, ih]
    simp [show cl Str.empty = [] from rfl]
theorem cl_join (l : List Str) : cl (Txt.join Str.empty l) = (l.map cl).flatten := by
  rw [← cl_joinS, beq_iff_eq.mp (join_closes (sep := Str.empty) (ys := l) rfl)]
theorem starts_iff (x y : Str) : Txt.startswith x y = decide (cl y <+: cl x) := by
  unfold Txt.startswith
  rw [StrLaws.subAt_eq, Bool.eq_iff_iff]
  simp only [Bool.and_eq_true, decide_eq_true_eq, beq_iff_eq, List.drop_zero, Nat.zero_add]
  have e1 : y.length = (cl y).length := by simp [Str.length]
  have e2 : x.length = (cl x).length := by simp [Str.length]
  rw [e1, e2]
  constructor
  · rintro ⟨_, h⟩
    have h' : (cl x).take (cl y).length = cl y := h
    rw [← h']
    exact List.take_prefix _ _
  · intro h
    exact ⟨h.length_le, (List.prefix_iff_eq_take.mp h).symm⟩

/-! the paths -/
noncomputable def pth : List (List Nat) → List Nat
  | [] => []
  | w :: r => 47 :: (w ++ pth r)
theorem pth_append (p q : List (List Nat)) : pth (p ++ q) = pth p ++ pth q := by
  induction p with
  | nil => rfl
  | cons w r ih => simp [pth, ih]
theorem word_front : ∀ (w v A B : List Nat), 47 ∉ w → 47 ∉ v → (B = [] ∨ ∃ B', B = 47 :: B') → (w ++ 47 :: A <+: v ++ B ↔ w = v ∧ 47 :: A <+: B) := by
  intro w
  induction w with
  | nil =>
    intro v A B hw hv hB
    cases v with
    | nil => simp
    | cons c v =>
      have hc : c ≠ 47 := fun e => hv (by simp [e])
      simp only [List.nil_append, List.cons_append, List.cons_prefix_cons]
      constructor
      · rintro ⟨e, _⟩; exact absurd e.symm hc
      · rintro ⟨e, _⟩; cases e
  | cons c w ih =>
    intro v A B hw hv hB
    have hc : c ≠ 47 := fun e => hw (by simp [e])
    have hw' : 47 ∉ w := fun e => hw (List.mem_cons_of_mem _ e)
    cases v with
    | nil =>
      simp only [List.nil_append, List.cons_append]
      constructor
      · intro h
        rcases hB with rfl | ⟨B', rfl⟩
        · exact absurd (List.prefix_nil.mp h) (by simp)
        · exact absurd (List.cons_prefix_cons.mp h).1 hc
      · rintro ⟨e, _⟩; cases e
    | cons d v =>
      have hv' : 47 ∉ v := fun e => hv (List.mem_cons_of_mem _ e)
      simp only [List.cons_append, List.cons_prefix_cons, List.cons.injEq]
      rw [ih v A B hw' hv' hB]
      constructor
      · rintro ⟨e, e2, h⟩; exact ⟨⟨e, e2⟩, h⟩
      · rintro ⟨⟨e, e2⟩, h⟩; exact ⟨e, e2, h⟩
theorem pth_form (p : List (List Nat)) : pth p = [] ∨ ∃ B', pth p = 47 :: B' := by
  cases p with
  | nil => exact .inl rfl
  | cons w r => exact .inr ⟨_, rfl⟩
theorem pth_end (q : List (List Nat)) : ∃ A, pth q ++ [47] = 47 :: A := by
  cases q with
  | nil => exact ⟨[], rfl⟩
  | cons w r => exact ⟨_, rfl⟩
def Free (p : List (List Nat)) : Prop := ∀ w ∈ p, 47 ∉ w
theorem below : ∀ (q p : List (List Nat)), Free q → Free p → (pth q ++ [47] <+: pth p ↔ q <+: p ∧ q.length < p.length) := by
  intro q
  induction q with
  | nil =>
    intro p _ _
    cases p with
    | nil => simp [pth]
    | cons v r => simp [pth]
  | cons w q ih =>
    intro p hq hp
    have hw : 47 ∉ w := hq w List.mem_cons_self
    have hq' : Free q := fun x hx => hq x (List.mem_cons_of_mem _ hx)
    cases p with
    | nil => simp [pth]
    | cons v p =>
      have hv : 47 ∉ v := hp v List.mem_cons_self
      have hp' : Free p := fun x hx => hp x (List.mem_cons_of_mem _ hx)
      obtain ⟨A, hA⟩ := pth_end q
      have e : pth (w :: q) ++ [47] = 47 :: (w ++ 47 :: A) := by
        show 47 :: (w ++ pth q) ++ [47] = _
        rw [List.cons_append, List.append_assoc, hA]
      rw [e]
      show 47 :: (w ++ 47 :: A) <+: 47 :: (v ++ pth p) ↔ _
      rw [List.cons_prefix_cons, word_front w v A (pth p) hw hv (pth_form p), ← hA, ih p hq' hp', List.cons_prefix_cons]
      simp only [true_and, List.length_cons, Nat.add_lt_add_iff_right]
      constructor
      · rintro ⟨a, b, c⟩; exact ⟨⟨a, b⟩, c⟩
      · rintro ⟨⟨a, b⟩, c⟩; exact ⟨a, b, c⟩
theorem pth_inj : ∀ (q p : List (List Nat)), Free q → Free p → pth q = pth p → q = p := by
  intro q p hq hp h
  have h1 : q ++ [[]] <+: p ++ [[]] ∨ True := .inr trivial
  have a1 : pth q ++ [47] <+: pth (p ++ [[]]) := by
    rw [pth_append, ← h]
    exact List.prefix_refl _
  have fp : Free (p ++ [[]]) := fun x hx => by
    rcases List.mem_append.mp hx with hx | hx
    · exact hp x hx
    · rw [List.mem_singleton.mp hx]; simp
  have fq : Free (q ++ [[]]) := fun x hx => by
    rcases List.mem_append.mp hx with hx | hx
    · exact hq x hx
    · rw [List.mem_singleton.mp hx]; simp
  have b1 := (below q (p ++ [[]]) hq fp).mp a1
  have a2 : pth p ++ [47] <+: pth (q ++ [[]]) := by
    rw [pth_append, h]
    exact List.prefix_refl _
  have b2 := (below p (q ++ [[]]) hp fq).mp a2
  simp only [List.length_append, List.length_cons, List.length_nil] at b1 b2
  have hl : q.length = p.length := by omega
  have := List.prefix_iff_eq_take.mp b1.1
  rw [List.take_append_of_le_length (by omega), hl, List.take_length] at this
  exact this
end Mine
end

open PySem PySem.W PySem.Calls PyProof.Rows
set_option Elab.async false
set_option maxRecDepth 100000
set_option linter.unusedVariables false
noncomputable section
namespace Mine
def RowFree (r : List Str) : Prop := ∀ x ∈ r, 47 ∉ cl x
theorem cl_slash : cl slash = [47] := by kernel_rfl
theorem cl_path : ∀ p : List Str, cl (Txt.join Str.empty (p.map fun x => slash ++ x)) = pth (p.map cl) := by
  intro p
  rw [cl_join]
  induction p with
  | nil => rfl
  | cons x r ih =>
    simp only [List.map_cons, List.flatten_cons, ih, cl_append, cl_slash]
    rfl
theorem map_cl_inj : ∀ {p q : List Str}, p.map cl = q.map cl → p = q
  | [], [], _ => rfl
  | [], _ :: _, h => by cases h
  | _ :: _, [], h => by cases h
  | x :: p, y :: q, h => by
    simp only [List.map_cons, List.cons.injEq] at h
    rw [cl_inj h.1, map_cl_inj h.2]
theorem free_map {p : List Str} (h : RowFree p) : Free (p.map cl) := by
  intro w hw
  obtain ⟨x, hx, rfl⟩ := List.mem_map.mp hw
  exact h x hx
theorem cl_tail (x : Str) : cl (tailS x) = (cl x).drop ((cl x).length - 1) := by
  show (x.cps.toList.drop (x.cps.size - 1)).toArray.toList = _
  simp
theorem drop_end (A : List Nat) (c : Nat) : (A ++ [c]).drop ((A ++ [c]).length - 1) = [c] := by
  rw [List.length_append, List.length_singleton, Nat.add_sub_cancel, List.drop_append_of_le_length (Nat.le_refl _), List.drop_length, List.nil_append]
def fpOf (p : List Str) : List Str := if p.getLast? = some Str.empty then p.take (p.length - 1) else p
theorem prefix_is (p : List Str) (hp : RowFree p) (z : Str) (hz : cl z = pth (p.map cl)) : cl (if tailS z = slash then z else z ++ slash) = pth ((fpOf p).map cl) ++ [47] := by
  rcases List.eq_nil_or_concat p with rfl | ⟨q, w, rfl⟩
  · have e : tailS z ≠ slash := fun e => by
      have := congrArg cl e
      rw [cl_tail, hz, cl_slash] at this
      cases this
    rw [if_neg e, cl_append, hz, cl_slash]
    rfl
  · simp only [List.concat_eq_append] at *
    have hw : 47 ∉ cl w := hp w (by simp)
    have ef : (q ++ [w]).getLast? = some w := by simp
    have et : (q ++ [w]).take ((q ++ [w]).length - 1) = q := by simp
    have ez : cl z = pth (q.map cl) ++ 47 :: cl w := by
      rw [hz, List.map_append, pth_append]
      simp [pth]
    by_cases h : w = Str.empty
    · have e0 : cl w = [] := by rw [h]; rfl
      rw [e0] at ez
      have e : tailS z = slash := cl_inj (by rw [cl_tail, ez, drop_end, cl_slash])
      unfold fpOf
      rw [if_pos e, ef, h, if_pos rfl]
      rw [h] at et
      rw [et, ez]
    · have hne : cl w ≠ [] := fun q => h (cl_inj (by rw [q]; rfl))
      obtain ⟨A, c, hc⟩ : ∃ A c, cl w = A ++ [c] := by
        rcases List.eq_nil_or_concat (cl w) with q | ⟨A, c, q⟩
        · exact absurd q hne
        · exact ⟨A, c, by rw [q, List.concat_eq_append]⟩
      have e : tailS z ≠ slash := fun e => by
        have := congrArg cl e
        rw [cl_tail, ez, hc, show pth (q.map cl) ++ 47 :: (A ++ [c]) = (pth (q.map cl) ++ 47 :: A) ++ [c] by simp, drop_end, cl_slash] at this
        have hcc : c = 47 := by simpa using this
        apply hw
        rw [hc, hcc]
        simp
      unfold fpOf
      rw [if_neg e, ef, if_neg (fun q => h (Option.some.inj q)), cl_append, hz, cl_slash]
theorem front_is (h : Str) (p : List Str) : frontOf (h :: p) = h :: fpOf p := by
  unfold frontOf fpOf
  cases p with
  | nil => simp
  | cons x r =>
    have e1 : (h :: x :: r).getLast? = (x :: r).getLast? := by simp [List.getLast?_cons_cons]
    rw [e1]
    by_cases hq : (x :: r).getLast? = some Str.empty
    · rw [if_pos ⟨by simp, hq⟩, if_pos hq]
      simp
    · rw [if_neg (fun q => hq q.2), if_neg hq]
theorem fp_free {p : List Str} (h : RowFree p) : RowFree (fpOf p) := by
  unfold fpOf
  split
  · exact fun x hx => h x (List.mem_of_mem_take hx)
  · exact h
theorem sub_above (one two : List Str) (n1 : one ≠ []) (n2 : two ≠ []) (f1 : RowFree one) (f2 : RowFree two) : subOf (addrOf one) (addrOf two) = aboveOf one two := by
  obtain ⟨h1, p1, rfl⟩ : ∃ h p, one = h :: p := by cases one with | nil => exact absurd rfl n1 | cons x r => exact ⟨x, r, rfl⟩
  obtain ⟨h2, p2, rfl⟩ : ∃ h p, two = h :: p := by cases two with | nil => exact absurd rfl n2 | cons x r => exact ⟨x, r, rfl⟩
  have g1 : RowFree p1 := fun x hx => f1 x (List.mem_cons_of_mem _ hx)
  have g2 : RowFree p2 := fun x hx => f2 x (List.mem_cons_of_mem _ hx)
  have z1 := cl_path p1
  have z2 := cl_path p2
  generalize hz1 : Txt.join Str.empty (p1.map fun x => slash ++ x) = q1 at z1
  generalize hz2 : Txt.join Str.empty (p2.map fun x => slash ++ x) = q2 at z2
  have a1 : addrOf (h1 :: p1) = (h1, q1) := by rw [← hz1]; rfl
  have a2 : addrOf (h2 :: p2) = (h2, q2) := by rw [← hz2]; rfl
  have same : (h1, q1) = (h2, q2) ↔ h1 :: p1 = h2 :: p2 := by
    constructor
    · intro e
      have e1 := (Prod.mk.inj e).1
      have e2 := (Prod.mk.inj e).2
      have : pth (p1.map cl) = pth (p2.map cl) := by rw [← z1, ← z2, e2]
      rw [e1, map_cl_inj (pth_inj _ _ (free_map g1) (free_map g2) this)]
    · intro e
      simp only [List.cons.injEq] at e
      have : q1 = q2 := by rw [← hz1, ← hz2, e.2]
      rw [e.1, this]
  rw [a1, a2]
  unfold subOf aboveOf
  by_cases he : h1 :: p1 = h2 :: p2
  · rw [if_pos (same.mpr he), if_pos he]
  · rw [if_neg (fun q => he (same.mp q)), if_neg he]
    rw [front_is]
    by_cases hh : h1 = h2
    · rw [if_neg (by simpa using hh)]
      rw [starts_iff, prefix_is p1 g1 q1 z1, z2]
      rw [Bool.eq_iff_iff, decide_eq_true_iff, below _ _ (free_map (fp_free g1)) (free_map g2)]
      rw [Bool.and_eq_true, decide_eq_true_iff, decide_eq_true_iff]
      simp only [List.length_map, List.length_cons, Nat.add_lt_add_iff_right, List.take_succ_cons, List.cons.injEq]
      constructor
      · rintro ⟨a, b⟩
        refine ⟨b, hh.symm, ?_⟩
        have := List.prefix_iff_eq_take.mp a
        rw [List.length_map, ← List.map_take] at this
        exact (map_cl_inj this).symm
      · rintro ⟨b, _, c⟩
        refine ⟨?_, b⟩
        rw [← c]
        rw [List.map_take]
        exact List.take_prefix _ _
    · rw [if_pos hh]
      symm
      rw [Bool.and_eq_false_iff]
      right
      apply decide_eq_false
      simp only [List.length_cons, List.take_succ_cons, List.cons.injEq]
      rintro ⟨e, _⟩
      exact hh e.symm
end Mine
end

open PySem PySem.W PySem.Calls PyProof.Rows
set_option Elab.async false
set_option maxRecDepth 100000
set_option linter.unusedVariables false
noncomputable section
namespace Mine
/-! what the preparation gives -/
def prepL (l : List Nat) : List Nat := ((l.filter fun c => !isB1 c).map fun c => cl (b3 c)).flatten
theorem cl_prep (y : Str) : cl (prepOf y) = prepL (cl y) := by
  unfold prepOf prepL
  rw [cl_join, List.map_map]
  rfl
theorem prepL_append (a b : List Nat) : prepL (a ++ b) = prepL a ++ prepL b := by
  unfold prepL
  simp
theorem b1_47 : isB1 47 = false := by kernel_rfl
theorem look_47' : (b3rows.all fun r => !(r.1 == 47)) = true := by k_qdec
theorem look_47 : b3look 47 = none := by
  cases h : b3look 47 with
  | none => rfl
  | some x =>
    obtain ⟨r, h1, h2, _⟩ := look_mem h
    have := List.all_eq_true.mp look_47' r h1
    rw [h2] at this
    cases this
theorem lower_is (c : Nat) : cl (Txt.lower (ofCp c)) = Unicode.lowerAt #[c] 0 := by
  show ((#[c].mapIdx fun i _ => (Unicode.lowerAt #[c] i).toArray).flatten).toList = _
  simp
theorem several_ok : (UnicodeData.severalLower.all fun e => !(e.2.contains 47)) = true := by decide +kernel
theorem one_ok : (UnicodeData.oneLower.all fun e => Nat.blt 47 e.2.2 || Nat.blt (e.2.2 + (e.2.1 - e.1)) 47) = true := by decide +kernel
theorem shifted_ok : ∀ (T : List (Nat × Nat × Nat)) (c v : Nat), (T.all fun e => Nat.blt 47 e.2.2 || Nat.blt (e.2.2 + (e.2.1 - e.1)) 47) = true → Unicode.shifted T c = some v → v ≠ 47
  | [], c, v, _, h => by cases h
  | (a, b, t) :: r, c, v, ht, h => by
    rw [List.all_cons, Bool.and_eq_true] at ht
    unfold Unicode.shifted at h
    split at h
    · cases h
    · split at h
      · have hv : t + (c - a) = v := Option.some.inj h
        have := ht.1
        simp only [Bool.or_eq_true, Nat.blt_eq] at this
        omega
      · exact shifted_ok r c v ht.2 h
theorem lookup_all {α : Type} : ∀ (T : List (Nat × α)) (p : α → Bool) (c : Nat) (x : α), (T.all fun e => p e.2) = true → T.lookup c = some x → p x = true
  | [], _, _, _, _, h => by cases h
  | (k, y) :: r, p, c, x, ht, h => by
    rw [List.all_cons, Bool.and_eq_true] at ht
    rw [List.lookup_cons] at h
    split at h
    · cases h; exact ht.1
    · exact lookup_all r p c x ht.2 h
theorem lowerOf_ok (c : Nat) (hc : c ≠ 47) : 47 ∉ Unicode.lowerOf c := by
  unfold Unicode.lowerOf Unicode.image
  split
  · rename_i cs h
    have := lookup_all UnicodeData.severalLower (fun x => !(x.contains 47)) c cs several_ok h
    simpa using this
  · intro hm
    have hm' := List.mem_singleton.mp hm
    cases h : Unicode.shifted UnicodeData.oneLower c with
    | none => rw [h] at hm'; exact hc hm'.symm
    | some v => rw [h] at hm'; exact shifted_ok _ c v one_ok h hm'.symm
theorem lower_ok (c : Nat) (hc : c ≠ 47) : 47 ∉ cl (Txt.lower (ofCp c)) := by
  rw [lower_is]
  unfold Unicode.lowerAt
  show 47 ∉ (if (c == 0x3A3 && Unicode.endsWord #[c] 0) = true then [0x3C2] else Unicode.lowerOf c)
  split
  · decide
  · exact lowerOf_ok c hc
theorem rows_ok : (b3rows.all fun r => !(r.2.cps.toList.contains 47)) = true := by k_qdec
theorem b3_ok (c : Nat) (hc : c ≠ 47) : 47 ∉ cl (b3 c) := by
  unfold b3
  cases h : b3look c with
  | none => exact lower_ok c hc
  | some x =>
    obtain ⟨r, h1, _, rfl⟩ := look_mem h
    have := List.all_eq_true.mp rows_ok r h1
    simpa using this
theorem b3_47 : cl (b3 47) = [47] := by
  unfold b3
  rw [look_47]
  show cl (Txt.lower (ofCp 47)) = _
  rw [lower_is]
  decide +kernel
theorem prep_47 : prepL [47] = [47] := by
  unfold prepL
  rw [List.filter_cons_of_pos (by rw [b1_47]; rfl)]
  simp only [List.filter_nil, List.map_cons, List.map_nil, List.flatten_cons, List.flatten_nil, List.append_nil]
  exact b3_47
theorem prep_pth (p : List (List Nat)) : prepL (pth p) = pth (p.map prepL) := by
  induction p with
  | nil => rfl
  | cons w r ih =>
    show prepL ([47] ++ (w ++ pth r)) = _
    rw [prepL_append, prepL_append, prep_47, ih]
    rfl
end Mine
end

open PySem PySem.W PySem.Calls PyProof.Rows
set_option Elab.async false
set_option maxRecDepth 100000
set_option linter.unusedVariables false
noncomputable section
namespace Mine
def b3L (c : Nat) : List Nat := match b3look c with
  | some x => x.cps.toList
  | none => Unicode.lowerAt #[c] 0
theorem b3L_is (c : Nat) : cl (b3 c) = b3L c := by
  unfold b3 b3L
  cases b3look c with
  | none => exact lower_is c
  | some x => rfl
def prepK (l : List Nat) : List Nat := ((l.filter fun c => !isB1 c).map b3L).flatten
theorem prepK_is (l : List Nat) : prepL l = prepK l := by
  unfold prepL prepK
  congr 1
  apply List.map_congr_left
  intro c _
  exact b3L_is c
def okWord (m s : Str) : Bool := prepK s.cps.toList == m.cps.toList && !(s.cps.toList.contains 47) && s.cps.toList.length.ble 50
def okMeant (m : Str) : Bool := !(m.cps.toList.contains 47) && m.cps.toList.length.ble 50
theorem table_ok : ((List.zip waysL meantL).all fun e => e.1.all fun s => okWord e.2 s) = true := by decide +kernel
theorem meant_ok : (meantL.all okMeant) = true := by decide +kernel
end Mine
end

open PySem PySem.W PySem.Calls PyProof.Rows
set_option Elab.async false
set_option maxRecDepth 100000
set_option linter.unusedVariables false
noncomputable section
namespace Mine
structure WordOk (x : Str × Str) : Prop where
  f1 : 47 ∉ cl x.1
  f2 : 47 ∉ cl x.2
  pr : prepL (cl x.1) = cl x.2
  l1 : (cl x.1).length ≤ 50
  l2 : (cl x.2).length ≤ 50
theorem sign_ne (n : Int) : signOf n ≠ 47 := by
  unfold signOf
  split
  · decide
  · assumption
theorem word_ok (n : Int) : WordOk (wordOf n) := by
  by_cases h8 : n.fmod 9 = 8
  · have W : wordOf n = (ofCp (signOf n), if isB1 (signOf n) then Str.empty else b3 (signOf n)) := by unfold wordOf; rw [if_pos h8]
    rw [W]
    have hc := sign_ne n
    generalize signOf n = c at hc
    have e1 : cl (ofCp c) = [c] := rfl
    cases hb : isB1 c with
    | true =>
      refine ⟨?_, ?_, ?_, ?_, ?_⟩
      · rw [e1]; simpa using Ne.symm hc
      · rw [if_pos rfl]; simp [cl, Str.empty]
      · rw [if_pos rfl]
        show prepL [c] = _
        unfold prepL
        rw [List.filter_cons_of_neg (by simp [hb])]
        rfl
      · rw [e1]; exact Nat.le_of_ble_eq_true rfl
      · rw [if_pos rfl]; exact Nat.le_of_ble_eq_true rfl
    | false =>
      have e2 : (if false = true then Str.empty else b3 c) = b3 c := if_neg (by decide)
      rw [e2]
      refine ⟨?_, b3_ok c hc, ?_, ?_, ?_⟩
      · rw [e1]; simpa using Ne.symm hc
      · show prepL [c] = _
        unfold prepL
        rw [List.filter_cons_of_pos (by simp [hb])]
        simp
      · rw [e1]; exact Nat.le_of_ble_eq_true rfl
      · have := b3_small c
        have e : (b3 c).length = (cl (b3 c)).length := by simp [Str.length]
        show (cl (b3 c)).length ≤ 50
        omega
  · have lo9 := fmod_lo n 9 (by decide)
    have hi9 := fmod_hi n 9 (by decide)
    have lo4 := fmod_lo (n.fdiv 9) 4 (by decide)
    have hi4 := fmod_hi (n.fdiv 9) 4 (by decide)
    have hk8 : (n.fmod 9).toNat < 8 := by omega
    obtain ⟨ws, hws⟩ : ∃ ws, waysL[(n.fmod 9).toNat]? = some ws := ⟨_, List.getElem?_eq_getElem hk8⟩
    obtain ⟨wd, hwd⟩ : ∃ wd, ws[((n.fdiv 9).fmod 4).toNat]? = some wd := by
      have h4 : ws.length = 4 := ways_four ws (List.mem_of_getElem? hws)
      exact ⟨_, List.getElem?_eq_getElem (by omega)⟩
    obtain ⟨md, hmd⟩ : ∃ md, meantL[(n.fmod 9).toNat]? = some md := ⟨_, List.getElem?_eq_getElem hk8⟩
    have W : wordOf n = (wd, md) := by unfold wordOf; rw [if_neg h8, hws, hmd]; simp [hwd]
    rw [W]
    have hz : (List.zip waysL meantL)[(n.fmod 9).toNat]? = some (ws, md) := List.getElem?_zip_eq_some.mpr ⟨hws, hmd⟩
    have t1 := List.all_eq_true.mp (List.all_eq_true.mp table_ok _ (List.mem_of_getElem? hz)) wd (List.mem_of_getElem? hwd)
    have t2 := List.all_eq_true.mp meant_ok md (List.mem_of_getElem? hmd)
    unfold okWord at t1
    unfold okMeant at t2
    simp only [Bool.and_eq_true, Bool.not_eq_true', Nat.ble_eq, beq_iff_eq] at t1 t2
    refine ⟨?_, ?_, ?_, t1.2, t2.2⟩
    · have := t1.1.2
      simpa using this
    · have := t2.1
      simpa using this
    · rw [prepK_is]; exact t1.1.1
theorem words_ok (n : Int) : ∀ x ∈ wordsOf n, WordOk x := by
  intro x hx
  unfold wordsOf at hx
  rcases List.mem_cons.mp hx with rfl | hx
  · exact word_ok _
  · obtain ⟨p, _, rfl⟩ := List.mem_map.mp hx
    exact word_ok _
theorem pick_ok {side : Nat} {x : Str × Str} (h : WordOk x) : 47 ∉ cl (pick side x) ∧ (cl (pick side x)).length ≤ 50 := by
  unfold pick
  split
  · exact ⟨h.f1, h.l1⟩
  · exact ⟨h.f2, h.l2⟩
theorem row_in {side : Nat} {ns : List Int} {r : List Str} (hr : r ∈ rowsFor side ns) : r ≠ [] ∧ r.length ≤ 4 ∧ RowFree r ∧ ∀ x ∈ r, (cl x).length ≤ 50 := by
  unfold rowsFor at hr
  obtain ⟨n, _, rfl⟩ := List.mem_map.mp hr
  refine ⟨?_, ?_, ?_, ?_⟩
  · unfold wordsOf; simp
  · rw [List.length_map]; exact wordsOf_len n
  · intro x hx
    obtain ⟨y, hy, rfl⟩ := List.mem_map.mp hx
    exact (pick_ok (words_ok n y hy)).1
  · intro x hx
    obtain ⟨y, hy, rfl⟩ := List.mem_map.mp hx
    exact (pick_ok (words_ok n y hy)).2
theorem asked_due (rs : List (List Str)) (h : ∀ r ∈ rs, r ≠ [] ∧ RowFree r) : askedOf (rs.map addrOf) = dueOf rs := by
  unfold askedOf dueOf
  rw [List.map_map]
  apply List.map_congr_left
  intro one h1
  show (rs.map addrOf).map (fun y => subOf (addrOf one) y) = _
  rw [List.map_map]
  apply List.map_congr_left
  intro two h2
  exact sub_above one two (h one h1).1 (h two h2).1 (h one h1).2 (h two h2).2
theorem prep_row (ws : List (Str × Str)) (h : ∀ x ∈ ws, WordOk x) : ((ws.map (pick 0)).map cl).map prepL = (ws.map (pick 1)).map cl := by
  rw [List.map_map, List.map_map, List.map_map]
  apply List.map_congr_left
  intro x hx
  exact (h x hx).pr
theorem prep_addr (n : Int) : prepA (addrOf ((wordsOf n).map (pick 0))) = addrOf ((wordsOf n).map (pick 1)) := by
  have hok := words_ok n
  obtain ⟨w0, ws, e⟩ : ∃ w0 ws, wordsOf n = w0 :: ws := ⟨_, _, rfl⟩
  rw [e] at hok ⊢
  have h0 := hok w0 List.mem_cons_self
  have hs : ∀ x ∈ ws, WordOk x := fun x hx => hok x (List.mem_cons_of_mem _ hx)
  unfold prepA
  refine Prod.ext ?_ ?_
  · apply cl_inj
    show cl (prepOf w0.1) = cl w0.2
    rw [cl_prep]
    exact h0.pr
  · apply cl_inj
    show cl (prepOf (Txt.join Str.empty ((ws.map (pick 0)).map fun x => slash ++ x))) = cl (Txt.join Str.empty ((ws.map (pick 1)).map fun x => slash ++ x))
    rw [cl_prep, cl_path, cl_path, prep_pth, prep_row ws hs]
theorem prep_rows (ns : List Int) : ((rowsFor 0 ns).map addrOf).map prepA = (rowsFor 1 ns).map addrOf := by
  unfold rowsFor
  rw [List.map_map, List.map_map, List.map_map]
  apply List.map_congr_left
  intro n _
  exact prep_addr n
theorem pth_len {b : Nat} : ∀ (p : List (List Nat)), (∀ w ∈ p, w.length ≤ b) → (pth p).length ≤ p.length * (b + 1)
  | [], _ => by simp [pth]
  | w :: r, h => by
    have h1 := pth_len r fun x hx => h x (List.mem_cons_of_mem _ hx)
    have h2 := h w List.mem_cons_self
    simp only [pth, List.length_cons, List.length_append, Nat.add_mul, Nat.one_mul]
    omega
theorem addr_small {side : Nat} {ns : List Int} : ∀ x ∈ (rowsFor side ns).map addrOf, x.1.cps.size ≤ 1000 ∧ x.2.cps.size ≤ 1000 := by
  intro x hx
  obtain ⟨r, hr, rfl⟩ := List.mem_map.mp hx
  obtain ⟨hne, hl, _, hw⟩ := row_in hr
  obtain ⟨h0, p, rfl⟩ : ∃ h p, r = h :: p := by cases r with | nil => exact absurd rfl hne | cons x r => exact ⟨x, r, rfl⟩
  constructor
  · have := hw h0 List.mem_cons_self
    show h0.cps.size ≤ 1000
    have e : (cl h0).length = h0.cps.size := by simp
    omega
  · have e : (cl (Txt.join Str.empty (p.map fun x => slash ++ x))).length = (Txt.join Str.empty (p.map fun x => slash ++ x)).cps.size := by simp
    show (Txt.join Str.empty (p.map fun x => slash ++ x)).cps.size ≤ 1000
    rw [← e, cl_path]
    have h1 := pth_len (b := 50) (p.map cl) (by
      intro w hw'
      obtain ⟨x, hx, rfl⟩ := List.mem_map.mp hw'
      exact hw x (List.mem_cons_of_mem _ hx))
    rw [List.length_map] at h1
    simp only [List.length_cons] at hl
    have : p.length * (50 + 1) ≤ 3 * (50 + 1) := Nat.mul_le_mul_right _ (by omega)
    omega
theorem plain : Plain where
  one := fun ns => asked_due _ fun r hr => ⟨(row_in hr).1, (row_in hr).2.2.1⟩
  two := fun ns => by rw [prep_rows]; exact asked_due _ fun r hr => ⟨(row_in hr).1, (row_in hr).2.2.1⟩
  ok := fun side ns _ r hr => by
    obtain ⟨h1, h2, _, h4⟩ := row_in hr
    refine ⟨h1, by omega, fun x hx => ?_⟩
    have := h4 x hx
    have e : x.length = (cl x).length := by simp [Str.length]
    omega
  sz := fun ns => addr_small
  psz := fun ns x hx => by
    rw [prep_rows] at hx
    exact Nat.le_trans (addr_small x hx).2 (by decide)
theorem law_holds : PySem.Challenge.rw_ny0236_01.Holds := holds_law_of (walkT plain)
end Mine
end

set_option Elab.async false
theorem PySem.Challenge.cw_ny0236_01_holds : PySem.Challenge.rw_ny0236_01.Holds :=
  Mine.law_holds

