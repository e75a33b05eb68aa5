import PyProof.Rows.All
import Wide.All
import OpenK.AllK
import Wide.FinOn
import PySem.Challenge.RW_dp0020_02
set_option Elab.async false
section
set_option maxRecDepth 100000
set_option maxHeartbeats 4000000
set_option linter.unusedVariables false
namespace Mine
open PySem PySem.W PySem.Calls PyProof.Rows
noncomputable def mixL (k : Nat) : List Nat → List Value → List Value → List Value
  | r :: rs, x :: xs, y :: ys => (match Nat.ble r k with | true => y | false => x) :: mixL k rs xs ys
  | _, _, _ => []
theorem goT {p : Program} {w : World} {n b k : Nat} {a : Option Value} {s : SharedT} {t : Thread} {r : Option (SharedT × Thread)}
    (h : PySem.W.Fast.tw10295753902157049106 PySem.W.Fast.tw14364793385576792824 p w n a b k s t = r) : segGoT treeTable p w n a b k s t = r := by
  rw [PySem.W.Fast.te10295753902157049106, PySem.W.Fast.te14364793385576792824]; exact h
theorem runT {p : Program} {w : World} {n b k : Nat} {a : Option Value} {s : SharedT} {t : Thread} {r : Option (Flow × SharedT × Code × Pos)}
    (h : PySem.W.Fast.tw10110043849684766642 PySem.W.Fast.tw14364793385576792824 p w n a b k s t = r) : segRunT treeTable p w n a b k s t = r := by
  rw [PySem.W.Fast.te10110043849684766642, PySem.W.Fast.te14364793385576792824]; exact h
theorem startT {p : Program} {w : World} {n b k N : Nat} {a : Option Value} {s s' : SharedT} {l : List Stmt} {env : Env} {c : Code} {pos : Pos} {B : List Frame} {T : Thread} {r : Flow × Shared × Code × Pos}
    (h : PySem.W.Fast.tw10295753902157049106 PySem.W.Fast.tw14364793385576792824 p w n a b k s ⟨(PySem.W.Fast.tw12563942051412417395 l env).wrap doneF deadEnd id id, c, pos, B⟩ = some (s', T))
    (g : segRun treeTable p w n a b N s'.abs T = some r) : segRun treeTable p w n a b (k + N) s.abs (piecesOf l env c pos B) = some r := by
  refine seg_go (s' := s'.abs) (t' := T) (segGo_of (goT ?_)) g
  rw [← h, ← PySem.W.Fast.te12563942051412417395]
theorem startR {p : Program} {w : World} {n b k : Nat} {a : Option Value} {s s' : SharedT} {l : List Stmt} {env : Env} {c c' : Code} {pos q : Pos} {B : List Frame} {f : Flow}
    (h : PySem.W.Fast.tw10110043849684766642 PySem.W.Fast.tw14364793385576792824 p w n a b k s ⟨(PySem.W.Fast.tw12563942051412417395 l env).wrap doneF deadEnd id id, c, pos, B⟩ = some (f, s', c', q)) :
    segRun treeTable p w n a b k s.abs (piecesOf l env c pos B) = some (f, s'.abs, c', q) := by
  refine segRun_of (runT ?_)
  rw [← h, ← PySem.W.Fast.te12563942051412417395]
theorem segRun_mono {tb : String → Option Builtin} {p : Program} {w : World} {n₀ : Nat} {ann : Option Value} {b : Nat} (k : Nat) : ∀ (n : Nat) (s : Shared) (t : Thread) (r : Flow × Shared × Code × Pos),
    segRun tb p w n₀ ann b n s t = some r → segRun tb p w n₀ ann b (n + k) s t = some r
  | 0, _, _, _, h => by simp [segRun] at h
  | n + 1, s, t, r, h => by
    rw [show n + 1 + k = n + k + 1 by omega]
    unfold segRun at h ⊢
    cases he : endAt b t with
    | some f => rw [he] at h; exact h
    | none =>
      rw [he] at h
      cases hk : stepOk n₀ ann t with
      | false => rw [hk] at h; cases h
      | true =>
        rw [hk] at h
        cases hs : step (denote tb) p w s t with
        | halt o s₂ => rw [hs] at h; cases h
        | go s₂ t₂ => rw [hs] at h; exact segRun_mono k n s₂ t₂ r h
theorem segRun_up {tb : String → Option Builtin} {p : Program} {w : World} {n₀ : Nat} {ann : Option Value} {b n m : Nat} {s : Shared} {t : Thread} {r : Flow × Shared × Code × Pos} (hm : n ≤ m)
    (h : segRun tb p w n₀ ann b n s t = some r) : segRun tb p w n₀ ann b m s t = some r := by
  have := segRun_mono (m - n) n s t r h
  rwa [show n + (m - n) = m by omega] at this
abbrev PR : Program := PySem.Challenge.pw_dp0020_02
noncomputable def stm (i : Nat) : Stmt := match PR.main.body[i]? with | some s => s | none => .Pass default
noncomputable def fArgs : Stmt → Arguments | .FunctionDef _ a _ _ _ _ _ _ _ _ => a | _ => default
noncomputable def fBody : Stmt → List Stmt | .FunctionDef _ _ b _ _ _ _ _ _ _ => b | _ => []
noncomputable def fScope : Stmt → Scope | .FunctionDef _ _ _ _ _ _ s _ _ _ => s | _ => default
noncomputable def env0 : Env := { scope := PR.main.scope, locals := mainNs, globals := mainNs, cells := [], code := .ref 13, frame := some 14 }
noncomputable def cE : Code := .body (behindTheImports PR) env0
abbrev ann0 : Option Value := (some (.ref 6))
abbrev qE : Pos := ⟨0, 0, 0, 0⟩
abbrev B0 : List Frame := [topFrame qE]
noncomputable def life0 : Life := (boot_heap (aWorld 1).params).life
noncomputable def st0 (w : World) (os : OsState) : Shared := ⟨boot_heap w.params, Array.mk [], boot_drawn, boot_toks, os⟩
noncomputable def o11_0 (P : Params) : Obj := ⟨.type "tuple", none, .seq ([]).toArray 0, #[]⟩
noncomputable def o12_1 (P : Params) : Obj := ⟨.none, none, .fields ([]).toArray, #[]⟩
noncomputable def o13_2 (P : Params) : Obj := ⟨.type "code", none, .fields ([.str ⟨#[60, 109, 111, 100, 117, 108, 101, 62]⟩ 182, .str ⟨#[60, 109, 111, 100, 117, 108, 101, 62]⟩ 183, .str ⟨#[47, 99, 108, 97, 105, 109, 47, 99, 117, 116, 46, 112, 121]⟩ 184, .int 1 0, .int 0 0, .int 0 0, .int 0 0, .int 0 0, .ref 11, .bool false, .int 181 0, .ref 12, .none, .none, .none, .none, .int 185 0, .int 1 0, .str ⟨#[47, 99, 108, 97, 105, 109, 47, 99, 117, 116, 46, 112, 121]⟩ 186]).toArray, #[]⟩
noncomputable def o14_3 (P : Params) : Obj := ⟨.type "frame", none, .plain, #[(some (.ref 13)), (some (.ref 3)), (some (.ref 3)), none, (some (.str ⟨#[95, 95, 109, 97, 105, 110, 95, 95]⟩ 164)), none, (some (.ref 0))]⟩
noncomputable def tr_sA (P : Params) : BT := (.node (boot_o_0 P) (.node (boot_o_1 P) (.node (boot_o_3 P) (.node (boot_o_7 P) .nil .nil) (.node (o11_0 P) .nil .nil)) (.node (boot_o_5 P) (.node (boot_o_9 P) .nil .nil) (.node (o13_2 P) .nil .nil))) (.node (boot_o_2 P) (.node (boot_o_4 P) (.node (boot_o_8 P) .nil .nil) (.node (o12_1 P) .nil .nil)) (.node (boot_o_6 P) (.node (boot_o_10 P) .nil .nil) (.node (o14_3 P) .nil .nil))))
noncomputable def sA (w : World) (os : OsState) : SharedT := ⟨tr_sA w.params, 15, life0, Array.mk [], boot_drawn, 187, os⟩
theorem pre1 (w : World) (os : OsState) : topGo treeTable PR w 11 ann0 12 (st0 w os) (topStub PR) = some ((sA w os).abs, ⟨denote treeTable cE, cE, ⟨0, 0, 0, 0⟩, B0⟩) := by
  have h : PySem.W.Fast.tw15667345088766844465 PySem.W.Fast.tw14364793385576792824 PR w 11 ann0 12 (st0 w os) (topStub PR) = some ((sA w os).abs, ⟨PySem.W.Fast.tw11892475500146522536 PySem.W.Fast.tw14364793385576792824 cE, cE, ⟨0, 0, 0, 0⟩, B0⟩) := by kernel_rfl
  rw [PySem.W.Fast.te15667345088766844465, PySem.W.Fast.te14364793385576792824, PySem.W.Fast.te11892475500146522536]; exact h
theorem block1 (w : World) (os : OsState) : segRun treeTable PR w 11 ann0 1 1 (sA w os).abs (blockOf (behindTheImports PR) env0 cE ⟨0, 0, 0, 0⟩ B0) = some (.next, (sA w os).abs, cE, ⟨0, 0, 0, 0⟩) := by kernel_rfl
noncomputable def o3_4 (P : Params) : Obj := ⟨.type "dict", none, .dict ([⟨PyData.keyHash P ⟨#[95, 95, 110, 97, 109, 101, 95, 95]⟩, .str ⟨#[95, 95, 110, 97, 109, 101, 95, 95]⟩ 165, .str ⟨#[95, 95, 109, 97, 105, 110, 95, 95]⟩ 164⟩, ⟨PyData.keyHash P ⟨#[95, 95, 100, 111, 99, 95, 95]⟩, .str ⟨#[95, 95, 100, 111, 99, 95, 95]⟩ 166, .none⟩, ⟨PyData.keyHash P ⟨#[95, 95, 112, 97, 99, 107, 97, 103, 101, 95, 95]⟩, .str ⟨#[95, 95, 112, 97, 99, 107, 97, 103, 101, 95, 95]⟩ 167, .none⟩, ⟨PyData.keyHash P ⟨#[95, 95, 108, 111, 97, 100, 101, 114, 95, 95]⟩, .str ⟨#[95, 95, 108, 111, 97, 100, 101, 114, 95, 95]⟩ 168, .builtin "__main__.__loader__#opaque"⟩, ⟨PyData.keyHash P ⟨#[95, 95, 115, 112, 101, 99, 95, 95]⟩, .str ⟨#[95, 95, 115, 112, 101, 99, 95, 95]⟩ 169, .none⟩, ⟨PyData.keyHash P ⟨#[95, 95, 97, 110, 110, 111, 116, 97, 116, 105, 111, 110, 115, 95, 95]⟩, .str ⟨#[95, 95, 97, 110, 110, 111, 116, 97, 116, 105, 111, 110, 115, 95, 95]⟩ 170, .ref 6⟩, ⟨PyData.keyHash P ⟨#[95, 95, 98, 117, 105, 108, 116, 105, 110, 115, 95, 95]⟩, .str ⟨#[95, 95, 98, 117, 105, 108, 116, 105, 110, 115, 95, 95]⟩ 171, .ref 4⟩, ⟨PyData.keyHash P ⟨#[95, 95, 102, 105, 108, 101, 95, 95]⟩, .str ⟨#[95, 95, 102, 105, 108, 101, 95, 95]⟩ 173, .str ⟨#[47, 99, 108, 97, 105, 109, 47, 99, 117, 116, 46, 112, 121]⟩ 172⟩, ⟨PyData.keyHash P ⟨#[95, 95, 99, 97, 99, 104, 101, 100, 95, 95]⟩, .str ⟨#[95, 95, 99, 97, 99, 104, 101, 100, 95, 95]⟩ 174, .none⟩, ⟨PyData.keyHash P ⟨#[67, 82, 76, 70]⟩, .str ⟨#[67, 82, 76, 70]⟩ 188, .str ⟨#[13, 10]⟩ 187⟩, ⟨PyData.keyHash P ⟨#[78, 76]⟩, .str ⟨#[78, 76]⟩ 190, .str ⟨#[10]⟩ 189⟩]).toArray 11, #[]⟩
noncomputable def tr_s1 (P : Params) : BT := (.node (boot_o_0 P) (.node (boot_o_1 P) (.node (o3_4 P) (.node (boot_o_7 P) .nil .nil) (.node (o11_0 P) .nil .nil)) (.node (boot_o_5 P) (.node (boot_o_9 P) .nil .nil) (.node (o13_2 P) .nil .nil))) (.node (boot_o_2 P) (.node (boot_o_4 P) (.node (boot_o_8 P) .nil .nil) (.node (o12_1 P) .nil .nil)) (.node (boot_o_6 P) (.node (boot_o_10 P) .nil .nil) (.node (o14_3 P) .nil .nil))))
noncomputable def s1 (w : World) (os : OsState) : SharedT := ⟨tr_s1 w.params, 15, life0, Array.mk [], boot_drawn, 191, os⟩
noncomputable def gr0_sts : List Stmt := [stm 0, stm 1]
theorem gr0_q (w : World) (os : OsState) : PySem.W.Fast.tw10110043849684766642 PySem.W.Fast.tw14364793385576792824 PR w 11 ann0 1 19 (sA w os) ⟨(PySem.W.Fast.tw12563942051412417395 gr0_sts env0).wrap doneF deadEnd id id, cE, ⟨0, 0, 0, 0⟩, B0⟩ = some (.next, s1 w os, cE, ⟨2, 0, 2, 2⟩) := by kernel_rfl
def gr0_P (w : World) : Prop := ∀ os : OsState, segRun treeTable PR w 11 ann0 1 19 (sA w os).abs (piecesOf gr0_sts env0 cE ⟨0, 0, 0, 0⟩ B0) = some (.next, (s1 w os).abs, cE, ⟨2, 0, 2, 2⟩)
theorem gr0_all (w : World) : gr0_P w := (fun os => startR (gr0_q w os))
noncomputable def o15_5 (P : Params) : Obj := ⟨.type "range", none, .fields ([.int 0 192, .int 256 191, .int 1 193]).toArray, #[]⟩
noncomputable def o16_6 (P : Params) : Obj := ⟨.type "range_iterator", none, .fields ([.int 1 0, .int 255 0, .int 1 0]).toArray, #[]⟩
noncomputable def o17_7 (P : Params) : Obj := ⟨.type "list", none, .seq ([.str ⟨#[61, 48, 48]⟩ 197]).toArray 1, #[]⟩
noncomputable def o18_8 (P : Params) : Obj := ⟨.type "dict", none, .dict ([⟨PyData.keyHash P ⟨#[99]⟩, .str ⟨#[99]⟩ 195, .int 0 194⟩]).toArray 1, #[]⟩
noncomputable def tr_lp2 (P : Params) (a16 a17 a18 : Obj) : BT := (.node (boot_o_0 P) (.node (boot_o_1 P) (.node (o3_4 P) (.node (boot_o_7 P) (.node (o15_5 P) .nil .nil) .nil) (.node (o11_0 P) .nil .nil)) (.node (boot_o_5 P) (.node (boot_o_9 P) (.node (a17) .nil .nil) .nil) (.node (o13_2 P) .nil .nil))) (.node (boot_o_2 P) (.node (boot_o_4 P) (.node (boot_o_8 P) (.node (a16) .nil .nil) .nil) (.node (o12_1 P) .nil .nil)) (.node (boot_o_6 P) (.node (boot_o_10 P) (.node (a18) .nil .nil) .nil) (.node (o14_3 P) .nil .nil))))
noncomputable def lp2_y17 : List Value := [.str ⟨#[61, 48, 48]⟩ 197, .str ⟨#[61, 48, 49]⟩ 201, .str ⟨#[61, 48, 50]⟩ 205, .str ⟨#[61, 48, 51]⟩ 209, .str ⟨#[61, 48, 52]⟩ 213, .str ⟨#[61, 48, 53]⟩ 217, .str ⟨#[61, 48, 54]⟩ 221, .str ⟨#[61, 48, 55]⟩ 225, .str ⟨#[61, 48, 56]⟩ 229, .str ⟨#[61, 48, 57]⟩ 233, .str ⟨#[61, 48, 65]⟩ 237, .str ⟨#[61, 48, 66]⟩ 241, .str ⟨#[61, 48, 67]⟩ 245, .str ⟨#[61, 48, 68]⟩ 249, .str ⟨#[61, 48, 69]⟩ 253, .str ⟨#[61, 48, 70]⟩ 257, .str ⟨#[61, 49, 48]⟩ 261, .str ⟨#[61, 49, 49]⟩ 265, .str ⟨#[61, 49, 50]⟩ 269, .str ⟨#[61, 49, 51]⟩ 273, .str ⟨#[61, 49, 52]⟩ 277, .str ⟨#[61, 49, 53]⟩ 281, .str ⟨#[61, 49, 54]⟩ 285, .str ⟨#[61, 49, 55]⟩ 289, .str ⟨#[61, 49, 56]⟩ 293, .str ⟨#[61, 49, 57]⟩ 297, .str ⟨#[61, 49, 65]⟩ 301, .str ⟨#[61, 49, 66]⟩ 305, .str ⟨#[61, 49, 67]⟩ 309, .str ⟨#[61, 49, 68]⟩ 313, .str ⟨#[61, 49, 69]⟩ 317, .str ⟨#[61, 49, 70]⟩ 321, .str ⟨#[61, 50, 48]⟩ 325, .str ⟨#[61, 50, 49]⟩ 329, .str ⟨#[61, 50, 50]⟩ 333, .str ⟨#[61, 50, 51]⟩ 337, .str ⟨#[61, 50, 52]⟩ 341, .str ⟨#[61, 50, 53]⟩ 345, .str ⟨#[61, 50, 54]⟩ 349, .str ⟨#[61, 50, 55]⟩ 353, .str ⟨#[61, 50, 56]⟩ 357, .str ⟨#[61, 50, 57]⟩ 361, .str ⟨#[61, 50, 65]⟩ 365, .str ⟨#[61, 50, 66]⟩ 369, .str ⟨#[61, 50, 67]⟩ 373, .str ⟨#[61, 50, 68]⟩ 377, .str ⟨#[61, 50, 69]⟩ 381, .str ⟨#[61, 50, 70]⟩ 385, .str ⟨#[61, 51, 48]⟩ 389, .str ⟨#[61, 51, 49]⟩ 393, .str ⟨#[61, 51, 50]⟩ 397, .str ⟨#[61, 51, 51]⟩ 401, .str ⟨#[61, 51, 52]⟩ 405, .str ⟨#[61, 51, 53]⟩ 409, .str ⟨#[61, 51, 54]⟩ 413, .str ⟨#[61, 51, 55]⟩ 417, .str ⟨#[61, 51, 56]⟩ 421, .str ⟨#[61, 51, 57]⟩ 425, .str ⟨#[61, 51, 65]⟩ 429, .str ⟨#[61, 51, 66]⟩ 433, .str ⟨#[61, 51, 67]⟩ 437, .str ⟨#[61, 51, 68]⟩ 441, .str ⟨#[61, 51, 69]⟩ 445, .str ⟨#[61, 51, 70]⟩ 449, .str ⟨#[61, 52, 48]⟩ 453, .str ⟨#[61, 52, 49]⟩ 457, .str ⟨#[61, 52, 50]⟩ 461, .str ⟨#[61, 52, 51]⟩ 465, .str ⟨#[61, 52, 52]⟩ 469, .str ⟨#[61, 52, 53]⟩ 473, .str ⟨#[61, 52, 54]⟩ 477, .str ⟨#[61, 52, 55]⟩ 481, .str ⟨#[61, 52, 56]⟩ 485, .str ⟨#[61, 52, 57]⟩ 489, .str ⟨#[61, 52, 65]⟩ 493, .str ⟨#[61, 52, 66]⟩ 497, .str ⟨#[61, 52, 67]⟩ 501, .str ⟨#[61, 52, 68]⟩ 505, .str ⟨#[61, 52, 69]⟩ 509, .str ⟨#[61, 52, 70]⟩ 513, .str ⟨#[61, 53, 48]⟩ 517, .str ⟨#[61, 53, 49]⟩ 521, .str ⟨#[61, 53, 50]⟩ 525, .str ⟨#[61, 53, 51]⟩ 529, .str ⟨#[61, 53, 52]⟩ 533, .str ⟨#[61, 53, 53]⟩ 537, .str ⟨#[61, 53, 54]⟩ 541, .str ⟨#[61, 53, 55]⟩ 545, .str ⟨#[61, 53, 56]⟩ 549, .str ⟨#[61, 53, 57]⟩ 553, .str ⟨#[61, 53, 65]⟩ 557, .str ⟨#[61, 53, 66]⟩ 561, .str ⟨#[61, 53, 67]⟩ 565, .str ⟨#[61, 53, 68]⟩ 569, .str ⟨#[61, 53, 69]⟩ 573, .str ⟨#[61, 53, 70]⟩ 577, .str ⟨#[61, 54, 48]⟩ 581, .str ⟨#[61, 54, 49]⟩ 585, .str ⟨#[61, 54, 50]⟩ 589, .str ⟨#[61, 54, 51]⟩ 593, .str ⟨#[61, 54, 52]⟩ 597, .str ⟨#[61, 54, 53]⟩ 601, .str ⟨#[61, 54, 54]⟩ 605, .str ⟨#[61, 54, 55]⟩ 609, .str ⟨#[61, 54, 56]⟩ 613, .str ⟨#[61, 54, 57]⟩ 617, .str ⟨#[61, 54, 65]⟩ 621, .str ⟨#[61, 54, 66]⟩ 625, .str ⟨#[61, 54, 67]⟩ 629, .str ⟨#[61, 54, 68]⟩ 633, .str ⟨#[61, 54, 69]⟩ 637, .str ⟨#[61, 54, 70]⟩ 641, .str ⟨#[61, 55, 48]⟩ 645, .str ⟨#[61, 55, 49]⟩ 649, .str ⟨#[61, 55, 50]⟩ 653, .str ⟨#[61, 55, 51]⟩ 657, .str ⟨#[61, 55, 52]⟩ 661, .str ⟨#[61, 55, 53]⟩ 665, .str ⟨#[61, 55, 54]⟩ 669, .str ⟨#[61, 55, 55]⟩ 673, .str ⟨#[61, 55, 56]⟩ 677, .str ⟨#[61, 55, 57]⟩ 681, .str ⟨#[61, 55, 65]⟩ 685, .str ⟨#[61, 55, 66]⟩ 689, .str ⟨#[61, 55, 67]⟩ 693, .str ⟨#[61, 55, 68]⟩ 697, .str ⟨#[61, 55, 69]⟩ 701, .str ⟨#[61, 55, 70]⟩ 705, .str ⟨#[61, 56, 48]⟩ 709, .str ⟨#[61, 56, 49]⟩ 713, .str ⟨#[61, 56, 50]⟩ 717, .str ⟨#[61, 56, 51]⟩ 721, .str ⟨#[61, 56, 52]⟩ 725, .str ⟨#[61, 56, 53]⟩ 729, .str ⟨#[61, 56, 54]⟩ 733, .str ⟨#[61, 56, 55]⟩ 737, .str ⟨#[61, 56, 56]⟩ 741, .str ⟨#[61, 56, 57]⟩ 745, .str ⟨#[61, 56, 65]⟩ 749, .str ⟨#[61, 56, 66]⟩ 753, .str ⟨#[61, 56, 67]⟩ 757, .str ⟨#[61, 56, 68]⟩ 761, .str ⟨#[61, 56, 69]⟩ 765, .str ⟨#[61, 56, 70]⟩ 769, .str ⟨#[61, 57, 48]⟩ 773, .str ⟨#[61, 57, 49]⟩ 777, .str ⟨#[61, 57, 50]⟩ 781, .str ⟨#[61, 57, 51]⟩ 785, .str ⟨#[61, 57, 52]⟩ 789, .str ⟨#[61, 57, 53]⟩ 793, .str ⟨#[61, 57, 54]⟩ 797, .str ⟨#[61, 57, 55]⟩ 801, .str ⟨#[61, 57, 56]⟩ 805, .str ⟨#[61, 57, 57]⟩ 809, .str ⟨#[61, 57, 65]⟩ 813, .str ⟨#[61, 57, 66]⟩ 817, .str ⟨#[61, 57, 67]⟩ 821, .str ⟨#[61, 57, 68]⟩ 825, .str ⟨#[61, 57, 69]⟩ 829, .str ⟨#[61, 57, 70]⟩ 833, .str ⟨#[61, 65, 48]⟩ 837, .str ⟨#[61, 65, 49]⟩ 841, .str ⟨#[61, 65, 50]⟩ 845, .str ⟨#[61, 65, 51]⟩ 849, .str ⟨#[61, 65, 52]⟩ 853, .str ⟨#[61, 65, 53]⟩ 857, .str ⟨#[61, 65, 54]⟩ 861, .str ⟨#[61, 65, 55]⟩ 865, .str ⟨#[61, 65, 56]⟩ 869, .str ⟨#[61, 65, 57]⟩ 873, .str ⟨#[61, 65, 65]⟩ 877, .str ⟨#[61, 65, 66]⟩ 881, .str ⟨#[61, 65, 67]⟩ 885, .str ⟨#[61, 65, 68]⟩ 889, .str ⟨#[61, 65, 69]⟩ 893, .str ⟨#[61, 65, 70]⟩ 897, .str ⟨#[61, 66, 48]⟩ 901, .str ⟨#[61, 66, 49]⟩ 905, .str ⟨#[61, 66, 50]⟩ 909, .str ⟨#[61, 66, 51]⟩ 913, .str ⟨#[61, 66, 52]⟩ 917, .str ⟨#[61, 66, 53]⟩ 921, .str ⟨#[61, 66, 54]⟩ 925, .str ⟨#[61, 66, 55]⟩ 929, .str ⟨#[61, 66, 56]⟩ 933, .str ⟨#[61, 66, 57]⟩ 937, .str ⟨#[61, 66, 65]⟩ 941, .str ⟨#[61, 66, 66]⟩ 945, .str ⟨#[61, 66, 67]⟩ 949, .str ⟨#[61, 66, 68]⟩ 953, .str ⟨#[61, 66, 69]⟩ 957, .str ⟨#[61, 66, 70]⟩ 961, .str ⟨#[61, 67, 48]⟩ 965, .str ⟨#[61, 67, 49]⟩ 969, .str ⟨#[61, 67, 50]⟩ 973, .str ⟨#[61, 67, 51]⟩ 977, .str ⟨#[61, 67, 52]⟩ 981, .str ⟨#[61, 67, 53]⟩ 985, .str ⟨#[61, 67, 54]⟩ 989, .str ⟨#[61, 67, 55]⟩ 993, .str ⟨#[61, 67, 56]⟩ 997, .str ⟨#[61, 67, 57]⟩ 1001, .str ⟨#[61, 67, 65]⟩ 1005, .str ⟨#[61, 67, 66]⟩ 1009, .str ⟨#[61, 67, 67]⟩ 1013, .str ⟨#[61, 67, 68]⟩ 1017, .str ⟨#[61, 67, 69]⟩ 1021, .str ⟨#[61, 67, 70]⟩ 1025, .str ⟨#[61, 68, 48]⟩ 1029, .str ⟨#[61, 68, 49]⟩ 1033, .str ⟨#[61, 68, 50]⟩ 1037, .str ⟨#[61, 68, 51]⟩ 1041, .str ⟨#[61, 68, 52]⟩ 1045, .str ⟨#[61, 68, 53]⟩ 1049, .str ⟨#[61, 68, 54]⟩ 1053, .str ⟨#[61, 68, 55]⟩ 1057, .str ⟨#[61, 68, 56]⟩ 1061, .str ⟨#[61, 68, 57]⟩ 1065, .str ⟨#[61, 68, 65]⟩ 1069, .str ⟨#[61, 68, 66]⟩ 1073, .str ⟨#[61, 68, 67]⟩ 1077, .str ⟨#[61, 68, 68]⟩ 1081, .str ⟨#[61, 68, 69]⟩ 1085, .str ⟨#[61, 68, 70]⟩ 1089, .str ⟨#[61, 69, 48]⟩ 1093, .str ⟨#[61, 69, 49]⟩ 1097, .str ⟨#[61, 69, 50]⟩ 1101, .str ⟨#[61, 69, 51]⟩ 1105, .str ⟨#[61, 69, 52]⟩ 1109, .str ⟨#[61, 69, 53]⟩ 1113, .str ⟨#[61, 69, 54]⟩ 1117, .str ⟨#[61, 69, 55]⟩ 1121, .str ⟨#[61, 69, 56]⟩ 1125, .str ⟨#[61, 69, 57]⟩ 1129, .str ⟨#[61, 69, 65]⟩ 1133, .str ⟨#[61, 69, 66]⟩ 1137, .str ⟨#[61, 69, 67]⟩ 1141, .str ⟨#[61, 69, 68]⟩ 1145, .str ⟨#[61, 69, 69]⟩ 1149, .str ⟨#[61, 69, 70]⟩ 1153, .str ⟨#[61, 70, 48]⟩ 1157, .str ⟨#[61, 70, 49]⟩ 1161, .str ⟨#[61, 70, 50]⟩ 1165, .str ⟨#[61, 70, 51]⟩ 1169, .str ⟨#[61, 70, 52]⟩ 1173, .str ⟨#[61, 70, 53]⟩ 1177, .str ⟨#[61, 70, 54]⟩ 1181, .str ⟨#[61, 70, 55]⟩ 1185, .str ⟨#[61, 70, 56]⟩ 1189, .str ⟨#[61, 70, 57]⟩ 1193, .str ⟨#[61, 70, 65]⟩ 1197, .str ⟨#[61, 70, 66]⟩ 1201, .str ⟨#[61, 70, 67]⟩ 1205, .str ⟨#[61, 70, 68]⟩ 1209, .str ⟨#[61, 70, 69]⟩ 1213, .str ⟨#[61, 70, 70]⟩ 1217]
noncomputable def lp2_s1 (w : World) (os : OsState) : SharedT := let P := w.params; ⟨tr_lp2 P (⟨.type "range_iterator", none, .fields ([.int 1 0, .int 255 0, .int 1 0]).toArray, #[]⟩) (⟨.type "list", none, .seq (lp2_y17.take 1).toArray 1, #[]⟩) (⟨.type "dict", none, .dict ([⟨PyData.keyHash P ⟨#[99]⟩, .str ⟨#[99]⟩ 195, .int 0 194⟩]).toArray 1, #[]⟩), 19, life0, Array.mk [], boot_drawn, 198, os⟩
noncomputable def lp2_sts : List Stmt := [stm 2]
noncomputable def lp2_T : Thread := match PySem.W.Fast.tw10295753902157049106 PySem.W.Fast.tw14364793385576792824 PR (aWorld 1) 11 ann0 1 79 (s1 (aWorld 1) {}) ⟨(PySem.W.Fast.tw12563942051412417395 lp2_sts env0).wrap doneF deadEnd id id, cE, ⟨2, 0, 2, 2⟩, B0⟩ with | some r => r.2 | none => ⟨.raise .none, cE, default, []⟩
theorem lp2_start_ff (w : World) (os : OsState) : PySem.W.Fast.tw10295753902157049106 PySem.W.Fast.tw14364793385576792824 PR ((w.withFollow "comprehension-iter-twice" false).withFollow "special-get-raises" false) 11 ann0 1 89 (s1 ((w.withFollow "comprehension-iter-twice" false).withFollow "special-get-raises" false) os) ⟨(PySem.W.Fast.tw12563942051412417395 lp2_sts env0).wrap doneF deadEnd id id, cE, ⟨2, 0, 2, 2⟩, B0⟩ = some (lp2_s1 ((w.withFollow "comprehension-iter-twice" false).withFollow "special-get-raises" false) os, lp2_T) := by kernel_rfl
theorem lp2_start_tf (w : World) (os : OsState) : PySem.W.Fast.tw10295753902157049106 PySem.W.Fast.tw14364793385576792824 PR ((w.withFollow "comprehension-iter-twice" true).withFollow "special-get-raises" false) 11 ann0 1 79 (s1 ((w.withFollow "comprehension-iter-twice" true).withFollow "special-get-raises" false) os) ⟨(PySem.W.Fast.tw12563942051412417395 lp2_sts env0).wrap doneF deadEnd id id, cE, ⟨2, 0, 2, 2⟩, B0⟩ = some (lp2_s1 ((w.withFollow "comprehension-iter-twice" true).withFollow "special-get-raises" false) os, lp2_T) := by kernel_rfl
theorem lp2_start_ft (w : World) (os : OsState) : PySem.W.Fast.tw10295753902157049106 PySem.W.Fast.tw14364793385576792824 PR ((w.withFollow "comprehension-iter-twice" false).withFollow "special-get-raises" true) 11 ann0 1 89 (s1 ((w.withFollow "comprehension-iter-twice" false).withFollow "special-get-raises" true) os) ⟨(PySem.W.Fast.tw12563942051412417395 lp2_sts env0).wrap doneF deadEnd id id, cE, ⟨2, 0, 2, 2⟩, B0⟩ = some (lp2_s1 ((w.withFollow "comprehension-iter-twice" false).withFollow "special-get-raises" true) os, lp2_T) := by kernel_rfl
theorem lp2_start_tt (w : World) (os : OsState) : PySem.W.Fast.tw10295753902157049106 PySem.W.Fast.tw14364793385576792824 PR ((w.withFollow "comprehension-iter-twice" true).withFollow "special-get-raises" true) 11 ann0 1 79 (s1 ((w.withFollow "comprehension-iter-twice" true).withFollow "special-get-raises" true) os) ⟨(PySem.W.Fast.tw12563942051412417395 lp2_sts env0).wrap doneF deadEnd id id, cE, ⟨2, 0, 2, 2⟩, B0⟩ = some (lp2_s1 ((w.withFollow "comprehension-iter-twice" true).withFollow "special-get-raises" true) os, lp2_T) := by kernel_rfl
noncomputable def lp2_s9 (w : World) (os : OsState) : SharedT := let P := w.params; ⟨tr_lp2 P (⟨.type "range_iterator", none, .fields ([.int 9 0, .int 247 0, .int 1 0]).toArray, #[]⟩) (⟨.type "list", none, .seq (lp2_y17.take 9).toArray 9, #[]⟩) (⟨.type "dict", none, .dict ([⟨PyData.keyHash P ⟨#[99]⟩, .str ⟨#[99]⟩ 195, .int 8 226⟩]).toArray 1, #[]⟩), 19, life0, Array.mk [], boot_drawn, 230, os⟩
theorem lp2_go1 (w : World) (os : OsState) : PySem.W.Fast.tw10295753902157049106 PySem.W.Fast.tw14364793385576792824 PR w 11 ann0 1 296 (lp2_s1 w os) lp2_T = some (lp2_s9 w os, lp2_T) := by kernel_rfl
noncomputable def lp2_s17 (w : World) (os : OsState) : SharedT := let P := w.params; ⟨tr_lp2 P (⟨.type "range_iterator", none, .fields ([.int 17 0, .int 239 0, .int 1 0]).toArray, #[]⟩) (⟨.type "list", none, .seq (lp2_y17.take 17).toArray 17, #[]⟩) (⟨.type "dict", none, .dict ([⟨PyData.keyHash P ⟨#[99]⟩, .str ⟨#[99]⟩ 195, .int 16 258⟩]).toArray 1, #[]⟩), 19, life0, Array.mk [], boot_drawn, 262, os⟩
theorem lp2_go9 (w : World) (os : OsState) : PySem.W.Fast.tw10295753902157049106 PySem.W.Fast.tw14364793385576792824 PR w 11 ann0 1 296 (lp2_s9 w os) lp2_T = some (lp2_s17 w os, lp2_T) := by kernel_rfl
noncomputable def lp2_s25 (w : World) (os : OsState) : SharedT := let P := w.params; ⟨tr_lp2 P (⟨.type "range_iterator", none, .fields ([.int 25 0, .int 231 0, .int 1 0]).toArray, #[]⟩) (⟨.type "list", none, .seq (lp2_y17.take 25).toArray 25, #[]⟩) (⟨.type "dict", none, .dict ([⟨PyData.keyHash P ⟨#[99]⟩, .str ⟨#[99]⟩ 195, .int 24 290⟩]).toArray 1, #[]⟩), 19, life0, Array.mk [], boot_drawn, 294, os⟩
theorem lp2_go17 (w : World) (os : OsState) : PySem.W.Fast.tw10295753902157049106 PySem.W.Fast.tw14364793385576792824 PR w 11 ann0 1 296 (lp2_s17 w os) lp2_T = some (lp2_s25 w os, lp2_T) := by kernel_rfl
noncomputable def lp2_s33 (w : World) (os : OsState) : SharedT := let P := w.params; ⟨tr_lp2 P (⟨.type "range_iterator", none, .fields ([.int 33 0, .int 223 0, .int 1 0]).toArray, #[]⟩) (⟨.type "list", none, .seq (lp2_y17.take 33).toArray 33, #[]⟩) (⟨.type "dict", none, .dict ([⟨PyData.keyHash P ⟨#[99]⟩, .str ⟨#[99]⟩ 195, .int 32 322⟩]).toArray 1, #[]⟩), 19, life0, Array.mk [], boot_drawn, 326, os⟩
theorem lp2_go25 (w : World) (os : OsState) : PySem.W.Fast.tw10295753902157049106 PySem.W.Fast.tw14364793385576792824 PR w 11 ann0 1 296 (lp2_s25 w os) lp2_T = some (lp2_s33 w os, lp2_T) := by kernel_rfl
noncomputable def lp2_s41 (w : World) (os : OsState) : SharedT := let P := w.params; ⟨tr_lp2 P (⟨.type "range_iterator", none, .fields ([.int 41 0, .int 215 0, .int 1 0]).toArray, #[]⟩) (⟨.type "list", none, .seq (lp2_y17.take 41).toArray 41, #[]⟩) (⟨.type "dict", none, .dict ([⟨PyData.keyHash P ⟨#[99]⟩, .str ⟨#[99]⟩ 195, .int 40 354⟩]).toArray 1, #[]⟩), 19, life0, Array.mk [], boot_drawn, 358, os⟩
theorem lp2_go33 (w : World) (os : OsState) : PySem.W.Fast.tw10295753902157049106 PySem.W.Fast.tw14364793385576792824 PR w 11 ann0 1 296 (lp2_s33 w os) lp2_T = some (lp2_s41 w os, lp2_T) := by kernel_rfl
noncomputable def lp2_s49 (w : World) (os : OsState) : SharedT := let P := w.params; ⟨tr_lp2 P (⟨.type "range_iterator", none, .fields ([.int 49 0, .int 207 0, .int 1 0]).toArray, #[]⟩) (⟨.type "list", none, .seq (lp2_y17.take 49).toArray 49, #[]⟩) (⟨.type "dict", none, .dict ([⟨PyData.keyHash P ⟨#[99]⟩, .str ⟨#[99]⟩ 195, .int 48 386⟩]).toArray 1, #[]⟩), 19, life0, Array.mk [], boot_drawn, 390, os⟩
theorem lp2_go41 (w : World) (os : OsState) : PySem.W.Fast.tw10295753902157049106 PySem.W.Fast.tw14364793385576792824 PR w 11 ann0 1 296 (lp2_s41 w os) lp2_T = some (lp2_s49 w os, lp2_T) := by kernel_rfl
noncomputable def lp2_s57 (w : World) (os : OsState) : SharedT := let P := w.params; ⟨tr_lp2 P (⟨.type "range_iterator", none, .fields ([.int 57 0, .int 199 0, .int 1 0]).toArray, #[]⟩) (⟨.type "list", none, .seq (lp2_y17.take 57).toArray 57, #[]⟩) (⟨.type "dict", none, .dict ([⟨PyData.keyHash P ⟨#[99]⟩, .str ⟨#[99]⟩ 195, .int 56 418⟩]).toArray 1, #[]⟩), 19, life0, Array.mk [], boot_drawn, 422, os⟩
theorem lp2_go49 (w : World) (os : OsState) : PySem.W.Fast.tw10295753902157049106 PySem.W.Fast.tw14364793385576792824 PR w 11 ann0 1 296 (lp2_s49 w os) lp2_T = some (lp2_s57 w os, lp2_T) := by kernel_rfl
noncomputable def lp2_s65 (w : World) (os : OsState) : SharedT := let P := w.params; ⟨tr_lp2 P (⟨.type "range_iterator", none, .fields ([.int 65 0, .int 191 0, .int 1 0]).toArray, #[]⟩) (⟨.type "list", none, .seq (lp2_y17.take 65).toArray 65, #[]⟩) (⟨.type "dict", none, .dict ([⟨PyData.keyHash P ⟨#[99]⟩, .str ⟨#[99]⟩ 195, .int 64 450⟩]).toArray 1, #[]⟩), 19, life0, Array.mk [], boot_drawn, 454, os⟩
theorem lp2_go57 (w : World) (os : OsState) : PySem.W.Fast.tw10295753902157049106 PySem.W.Fast.tw14364793385576792824 PR w 11 ann0 1 296 (lp2_s57 w os) lp2_T = some (lp2_s65 w os, lp2_T) := by kernel_rfl
noncomputable def lp2_s73 (w : World) (os : OsState) : SharedT := let P := w.params; ⟨tr_lp2 P (⟨.type "range_iterator", none, .fields ([.int 73 0, .int 183 0, .int 1 0]).toArray, #[]⟩) (⟨.type "list", none, .seq (lp2_y17.take 73).toArray 73, #[]⟩) (⟨.type "dict", none, .dict ([⟨PyData.keyHash P ⟨#[99]⟩, .str ⟨#[99]⟩ 195, .int 72 482⟩]).toArray 1, #[]⟩), 19, life0, Array.mk [], boot_drawn, 486, os⟩
theorem lp2_go65 (w : World) (os : OsState) : PySem.W.Fast.tw10295753902157049106 PySem.W.Fast.tw14364793385576792824 PR w 11 ann0 1 296 (lp2_s65 w os) lp2_T = some (lp2_s73 w os, lp2_T) := by kernel_rfl
noncomputable def lp2_s81 (w : World) (os : OsState) : SharedT := let P := w.params; ⟨tr_lp2 P (⟨.type "range_iterator", none, .fields ([.int 81 0, .int 175 0, .int 1 0]).toArray, #[]⟩) (⟨.type "list", none, .seq (lp2_y17.take 81).toArray 81, #[]⟩) (⟨.type "dict", none, .dict ([⟨PyData.keyHash P ⟨#[99]⟩, .str ⟨#[99]⟩ 195, .int 80 514⟩]).toArray 1, #[]⟩), 19, life0, Array.mk [], boot_drawn, 518, os⟩
theorem lp2_go73 (w : World) (os : OsState) : PySem.W.Fast.tw10295753902157049106 PySem.W.Fast.tw14364793385576792824 PR w 11 ann0 1 296 (lp2_s73 w os) lp2_T = some (lp2_s81 w os, lp2_T) := by kernel_rfl
noncomputable def lp2_s89 (w : World) (os : OsState) : SharedT := let P := w.params; ⟨tr_lp2 P (⟨.type "range_iterator", none, .fields ([.int 89 0, .int 167 0, .int 1 0]).toArray, #[]⟩) (⟨.type "list", none, .seq (lp2_y17.take 89).toArray 89, #[]⟩) (⟨.type "dict", none, .dict ([⟨PyData.keyHash P ⟨#[99]⟩, .str ⟨#[99]⟩ 195, .int 88 546⟩]).toArray 1, #[]⟩), 19, life0, Array.mk [], boot_drawn, 550, os⟩
theorem lp2_go81 (w : World) (os : OsState) : PySem.W.Fast.tw10295753902157049106 PySem.W.Fast.tw14364793385576792824 PR w 11 ann0 1 296 (lp2_s81 w os) lp2_T = some (lp2_s89 w os, lp2_T) := by kernel_rfl
noncomputable def lp2_s97 (w : World) (os : OsState) : SharedT := let P := w.params; ⟨tr_lp2 P (⟨.type "range_iterator", none, .fields ([.int 97 0, .int 159 0, .int 1 0]).toArray, #[]⟩) (⟨.type "list", none, .seq (lp2_y17.take 97).toArray 97, #[]⟩) (⟨.type "dict", none, .dict ([⟨PyData.keyHash P ⟨#[99]⟩, .str ⟨#[99]⟩ 195, .int 96 578⟩]).toArray 1, #[]⟩), 19, life0, Array.mk [], boot_drawn, 582, os⟩
theorem lp2_go89 (w : World) (os : OsState) : PySem.W.Fast.tw10295753902157049106 PySem.W.Fast.tw14364793385576792824 PR w 11 ann0 1 296 (lp2_s89 w os) lp2_T = some (lp2_s97 w os, lp2_T) := by kernel_rfl
noncomputable def lp2_s105 (w : World) (os : OsState) : SharedT := let P := w.params; ⟨tr_lp2 P (⟨.type "range_iterator", none, .fields ([.int 105 0, .int 151 0, .int 1 0]).toArray, #[]⟩) (⟨.type "list", none, .seq (lp2_y17.take 105).toArray 105, #[]⟩) (⟨.type "dict", none, .dict ([⟨PyData.keyHash P ⟨#[99]⟩, .str ⟨#[99]⟩ 195, .int 104 610⟩]).toArray 1, #[]⟩), 19, life0, Array.mk [], boot_drawn, 614, os⟩
theorem lp2_go97 (w : World) (os : OsState) : PySem.W.Fast.tw10295753902157049106 PySem.W.Fast.tw14364793385576792824 PR w 11 ann0 1 296 (lp2_s97 w os) lp2_T = some (lp2_s105 w os, lp2_T) := by kernel_rfl
noncomputable def lp2_s113 (w : World) (os : OsState) : SharedT := let P := w.params; ⟨tr_lp2 P (⟨.type "range_iterator", none, .fields ([.int 113 0, .int 143 0, .int 1 0]).toArray, #[]⟩) (⟨.type "list", none, .seq (lp2_y17.take 113).toArray 113, #[]⟩) (⟨.type "dict", none, .dict ([⟨PyData.keyHash P ⟨#[99]⟩, .str ⟨#[99]⟩ 195, .int 112 642⟩]).toArray 1, #[]⟩), 19, life0, Array.mk [], boot_drawn, 646, os⟩
theorem lp2_go105 (w : World) (os : OsState) : PySem.W.Fast.tw10295753902157049106 PySem.W.Fast.tw14364793385576792824 PR w 11 ann0 1 296 (lp2_s105 w os) lp2_T = some (lp2_s113 w os, lp2_T) := by kernel_rfl
noncomputable def lp2_s121 (w : World) (os : OsState) : SharedT := let P := w.params; ⟨tr_lp2 P (⟨.type "range_iterator", none, .fields ([.int 121 0, .int 135 0, .int 1 0]).toArray, #[]⟩) (⟨.type "list", none, .seq (lp2_y17.take 121).toArray 121, #[]⟩) (⟨.type "dict", none, .dict ([⟨PyData.keyHash P ⟨#[99]⟩, .str ⟨#[99]⟩ 195, .int 120 674⟩]).toArray 1, #[]⟩), 19, life0, Array.mk [], boot_drawn, 678, os⟩
theorem lp2_go113 (w : World) (os : OsState) : PySem.W.Fast.tw10295753902157049106 PySem.W.Fast.tw14364793385576792824 PR w 11 ann0 1 296 (lp2_s113 w os) lp2_T = some (lp2_s121 w os, lp2_T) := by kernel_rfl
noncomputable def lp2_s129 (w : World) (os : OsState) : SharedT := let P := w.params; ⟨tr_lp2 P (⟨.type "range_iterator", none, .fields ([.int 129 0, .int 127 0, .int 1 0]).toArray, #[]⟩) (⟨.type "list", none, .seq (lp2_y17.take 129).toArray 129, #[]⟩) (⟨.type "dict", none, .dict ([⟨PyData.keyHash P ⟨#[99]⟩, .str ⟨#[99]⟩ 195, .int 128 706⟩]).toArray 1, #[]⟩), 19, life0, Array.mk [], boot_drawn, 710, os⟩
theorem lp2_go121 (w : World) (os : OsState) : PySem.W.Fast.tw10295753902157049106 PySem.W.Fast.tw14364793385576792824 PR w 11 ann0 1 296 (lp2_s121 w os) lp2_T = some (lp2_s129 w os, lp2_T) := by kernel_rfl
noncomputable def lp2_s137 (w : World) (os : OsState) : SharedT := let P := w.params; ⟨tr_lp2 P (⟨.type "range_iterator", none, .fields ([.int 137 0, .int 119 0, .int 1 0]).toArray, #[]⟩) (⟨.type "list", none, .seq (lp2_y17.take 137).toArray 137, #[]⟩) (⟨.type "dict", none, .dict ([⟨PyData.keyHash P ⟨#[99]⟩, .str ⟨#[99]⟩ 195, .int 136 738⟩]).toArray 1, #[]⟩), 19, life0, Array.mk [], boot_drawn, 742, os⟩
theorem lp2_go129 (w : World) (os : OsState) : PySem.W.Fast.tw10295753902157049106 PySem.W.Fast.tw14364793385576792824 PR w 11 ann0 1 296 (lp2_s129 w os) lp2_T = some (lp2_s137 w os, lp2_T) := by kernel_rfl
noncomputable def lp2_s145 (w : World) (os : OsState) : SharedT := let P := w.params; ⟨tr_lp2 P (⟨.type "range_iterator", none, .fields ([.int 145 0, .int 111 0, .int 1 0]).toArray, #[]⟩) (⟨.type "list", none, .seq (lp2_y17.take 145).toArray 145, #[]⟩) (⟨.type "dict", none, .dict ([⟨PyData.keyHash P ⟨#[99]⟩, .str ⟨#[99]⟩ 195, .int 144 770⟩]).toArray 1, #[]⟩), 19, life0, Array.mk [], boot_drawn, 774, os⟩
theorem lp2_go137 (w : World) (os : OsState) : PySem.W.Fast.tw10295753902157049106 PySem.W.Fast.tw14364793385576792824 PR w 11 ann0 1 296 (lp2_s137 w os) lp2_T = some (lp2_s145 w os, lp2_T) := by kernel_rfl
noncomputable def lp2_s153 (w : World) (os : OsState) : SharedT := let P := w.params; ⟨tr_lp2 P (⟨.type "range_iterator", none, .fields ([.int 153 0, .int 103 0, .int 1 0]).toArray, #[]⟩) (⟨.type "list", none, .seq (lp2_y17.take 153).toArray 153, #[]⟩) (⟨.type "dict", none, .dict ([⟨PyData.keyHash P ⟨#[99]⟩, .str ⟨#[99]⟩ 195, .int 152 802⟩]).toArray 1, #[]⟩), 19, life0, Array.mk [], boot_drawn, 806, os⟩
theorem lp2_go145 (w : World) (os : OsState) : PySem.W.Fast.tw10295753902157049106 PySem.W.Fast.tw14364793385576792824 PR w 11 ann0 1 296 (lp2_s145 w os) lp2_T = some (lp2_s153 w os, lp2_T) := by kernel_rfl
noncomputable def lp2_s161 (w : World) (os : OsState) : SharedT := let P := w.params; ⟨tr_lp2 P (⟨.type "range_iterator", none, .fields ([.int 161 0, .int 95 0, .int 1 0]).toArray, #[]⟩) (⟨.type "list", none, .seq (lp2_y17.take 161).toArray 161, #[]⟩) (⟨.type "dict", none, .dict ([⟨PyData.keyHash P ⟨#[99]⟩, .str ⟨#[99]⟩ 195, .int 160 834⟩]).toArray 1, #[]⟩), 19, life0, Array.mk [], boot_drawn, 838, os⟩
theorem lp2_go153 (w : World) (os : OsState) : PySem.W.Fast.tw10295753902157049106 PySem.W.Fast.tw14364793385576792824 PR w 11 ann0 1 296 (lp2_s153 w os) lp2_T = some (lp2_s161 w os, lp2_T) := by kernel_rfl
noncomputable def lp2_s169 (w : World) (os : OsState) : SharedT := let P := w.params; ⟨tr_lp2 P (⟨.type "range_iterator", none, .fields ([.int 169 0, .int 87 0, .int 1 0]).toArray, #[]⟩) (⟨.type "list", none, .seq (lp2_y17.take 169).toArray 169, #[]⟩) (⟨.type "dict", none, .dict ([⟨PyData.keyHash P ⟨#[99]⟩, .str ⟨#[99]⟩ 195, .int 168 866⟩]).toArray 1, #[]⟩), 19, life0, Array.mk [], boot_drawn, 870, os⟩
theorem lp2_go161 (w : World) (os : OsState) : PySem.W.Fast.tw10295753902157049106 PySem.W.Fast.tw14364793385576792824 PR w 11 ann0 1 296 (lp2_s161 w os) lp2_T = some (lp2_s169 w os, lp2_T) := by kernel_rfl
noncomputable def lp2_s177 (w : World) (os : OsState) : SharedT := let P := w.params; ⟨tr_lp2 P (⟨.type "range_iterator", none, .fields ([.int 177 0, .int 79 0, .int 1 0]).toArray, #[]⟩) (⟨.type "list", none, .seq (lp2_y17.take 177).toArray 177, #[]⟩) (⟨.type "dict", none, .dict ([⟨PyData.keyHash P ⟨#[99]⟩, .str ⟨#[99]⟩ 195, .int 176 898⟩]).toArray 1, #[]⟩), 19, life0, Array.mk [], boot_drawn, 902, os⟩
theorem lp2_go169 (w : World) (os : OsState) : PySem.W.Fast.tw10295753902157049106 PySem.W.Fast.tw14364793385576792824 PR w 11 ann0 1 296 (lp2_s169 w os) lp2_T = some (lp2_s177 w os, lp2_T) := by kernel_rfl
noncomputable def lp2_s185 (w : World) (os : OsState) : SharedT := let P := w.params; ⟨tr_lp2 P (⟨.type "range_iterator", none, .fields ([.int 185 0, .int 71 0, .int 1 0]).toArray, #[]⟩) (⟨.type "list", none, .seq (lp2_y17.take 185).toArray 185, #[]⟩) (⟨.type "dict", none, .dict ([⟨PyData.keyHash P ⟨#[99]⟩, .str ⟨#[99]⟩ 195, .int 184 930⟩]).toArray 1, #[]⟩), 19, life0, Array.mk [], boot_drawn, 934, os⟩
theorem lp2_go177 (w : World) (os : OsState) : PySem.W.Fast.tw10295753902157049106 PySem.W.Fast.tw14364793385576792824 PR w 11 ann0 1 296 (lp2_s177 w os) lp2_T = some (lp2_s185 w os, lp2_T) := by kernel_rfl
noncomputable def lp2_s193 (w : World) (os : OsState) : SharedT := let P := w.params; ⟨tr_lp2 P (⟨.type "range_iterator", none, .fields ([.int 193 0, .int 63 0, .int 1 0]).toArray, #[]⟩) (⟨.type "list", none, .seq (lp2_y17.take 193).toArray 193, #[]⟩) (⟨.type "dict", none, .dict ([⟨PyData.keyHash P ⟨#[99]⟩, .str ⟨#[99]⟩ 195, .int 192 962⟩]).toArray 1, #[]⟩), 19, life0, Array.mk [], boot_drawn, 966, os⟩
theorem lp2_go185 (w : World) (os : OsState) : PySem.W.Fast.tw10295753902157049106 PySem.W.Fast.tw14364793385576792824 PR w 11 ann0 1 296 (lp2_s185 w os) lp2_T = some (lp2_s193 w os, lp2_T) := by kernel_rfl
noncomputable def lp2_s201 (w : World) (os : OsState) : SharedT := let P := w.params; ⟨tr_lp2 P (⟨.type "range_iterator", none, .fields ([.int 201 0, .int 55 0, .int 1 0]).toArray, #[]⟩) (⟨.type "list", none, .seq (lp2_y17.take 201).toArray 201, #[]⟩) (⟨.type "dict", none, .dict ([⟨PyData.keyHash P ⟨#[99]⟩, .str ⟨#[99]⟩ 195, .int 200 994⟩]).toArray 1, #[]⟩), 19, life0, Array.mk [], boot_drawn, 998, os⟩
theorem lp2_go193 (w : World) (os : OsState) : PySem.W.Fast.tw10295753902157049106 PySem.W.Fast.tw14364793385576792824 PR w 11 ann0 1 296 (lp2_s193 w os) lp2_T = some (lp2_s201 w os, lp2_T) := by kernel_rfl
noncomputable def lp2_s209 (w : World) (os : OsState) : SharedT := let P := w.params; ⟨tr_lp2 P (⟨.type "range_iterator", none, .fields ([.int 209 0, .int 47 0, .int 1 0]).toArray, #[]⟩) (⟨.type "list", none, .seq (lp2_y17.take 209).toArray 209, #[]⟩) (⟨.type "dict", none, .dict ([⟨PyData.keyHash P ⟨#[99]⟩, .str ⟨#[99]⟩ 195, .int 208 1026⟩]).toArray 1, #[]⟩), 19, life0, Array.mk [], boot_drawn, 1030, os⟩
theorem lp2_go201 (w : World) (os : OsState) : PySem.W.Fast.tw10295753902157049106 PySem.W.Fast.tw14364793385576792824 PR w 11 ann0 1 296 (lp2_s201 w os) lp2_T = some (lp2_s209 w os, lp2_T) := by kernel_rfl
noncomputable def lp2_s217 (w : World) (os : OsState) : SharedT := let P := w.params; ⟨tr_lp2 P (⟨.type "range_iterator", none, .fields ([.int 217 0, .int 39 0, .int 1 0]).toArray, #[]⟩) (⟨.type "list", none, .seq (lp2_y17.take 217).toArray 217, #[]⟩) (⟨.type "dict", none, .dict ([⟨PyData.keyHash P ⟨#[99]⟩, .str ⟨#[99]⟩ 195, .int 216 1058⟩]).toArray 1, #[]⟩), 19, life0, Array.mk [], boot_drawn, 1062, os⟩
theorem lp2_go209 (w : World) (os : OsState) : PySem.W.Fast.tw10295753902157049106 PySem.W.Fast.tw14364793385576792824 PR w 11 ann0 1 296 (lp2_s209 w os) lp2_T = some (lp2_s217 w os, lp2_T) := by kernel_rfl
noncomputable def lp2_s225 (w : World) (os : OsState) : SharedT := let P := w.params; ⟨tr_lp2 P (⟨.type "range_iterator", none, .fields ([.int 225 0, .int 31 0, .int 1 0]).toArray, #[]⟩) (⟨.type "list", none, .seq (lp2_y17.take 225).toArray 225, #[]⟩) (⟨.type "dict", none, .dict ([⟨PyData.keyHash P ⟨#[99]⟩, .str ⟨#[99]⟩ 195, .int 224 1090⟩]).toArray 1, #[]⟩), 19, life0, Array.mk [], boot_drawn, 1094, os⟩
theorem lp2_go217 (w : World) (os : OsState) : PySem.W.Fast.tw10295753902157049106 PySem.W.Fast.tw14364793385576792824 PR w 11 ann0 1 296 (lp2_s217 w os) lp2_T = some (lp2_s225 w os, lp2_T) := by kernel_rfl
noncomputable def lp2_s233 (w : World) (os : OsState) : SharedT := let P := w.params; ⟨tr_lp2 P (⟨.type "range_iterator", none, .fields ([.int 233 0, .int 23 0, .int 1 0]).toArray, #[]⟩) (⟨.type "list", none, .seq (lp2_y17.take 233).toArray 233, #[]⟩) (⟨.type "dict", none, .dict ([⟨PyData.keyHash P ⟨#[99]⟩, .str ⟨#[99]⟩ 195, .int 232 1122⟩]).toArray 1, #[]⟩), 19, life0, Array.mk [], boot_drawn, 1126, os⟩
theorem lp2_go225 (w : World) (os : OsState) : PySem.W.Fast.tw10295753902157049106 PySem.W.Fast.tw14364793385576792824 PR w 11 ann0 1 296 (lp2_s225 w os) lp2_T = some (lp2_s233 w os, lp2_T) := by kernel_rfl
noncomputable def lp2_s241 (w : World) (os : OsState) : SharedT := let P := w.params; ⟨tr_lp2 P (⟨.type "range_iterator", none, .fields ([.int 241 0, .int 15 0, .int 1 0]).toArray, #[]⟩) (⟨.type "list", none, .seq (lp2_y17.take 241).toArray 241, #[]⟩) (⟨.type "dict", none, .dict ([⟨PyData.keyHash P ⟨#[99]⟩, .str ⟨#[99]⟩ 195, .int 240 1154⟩]).toArray 1, #[]⟩), 19, life0, Array.mk [], boot_drawn, 1158, os⟩
theorem lp2_go233 (w : World) (os : OsState) : PySem.W.Fast.tw10295753902157049106 PySem.W.Fast.tw14364793385576792824 PR w 11 ann0 1 296 (lp2_s233 w os) lp2_T = some (lp2_s241 w os, lp2_T) := by kernel_rfl
noncomputable def lp2_s249 (w : World) (os : OsState) : SharedT := let P := w.params; ⟨tr_lp2 P (⟨.type "range_iterator", none, .fields ([.int 249 0, .int 7 0, .int 1 0]).toArray, #[]⟩) (⟨.type "list", none, .seq (lp2_y17.take 249).toArray 249, #[]⟩) (⟨.type "dict", none, .dict ([⟨PyData.keyHash P ⟨#[99]⟩, .str ⟨#[99]⟩ 195, .int 248 1186⟩]).toArray 1, #[]⟩), 19, life0, Array.mk [], boot_drawn, 1190, os⟩
theorem lp2_go241 (w : World) (os : OsState) : PySem.W.Fast.tw10295753902157049106 PySem.W.Fast.tw14364793385576792824 PR w 11 ann0 1 296 (lp2_s241 w os) lp2_T = some (lp2_s249 w os, lp2_T) := by kernel_rfl
noncomputable def lp2_s256 (w : World) (os : OsState) : SharedT := let P := w.params; ⟨tr_lp2 P (⟨.type "range_iterator", none, .fields ([.int 256 0, .int 0 0, .int 1 0]).toArray, #[]⟩) (⟨.type "list", none, .seq (lp2_y17.take 256).toArray 256, #[]⟩) (⟨.type "dict", none, .dict ([⟨PyData.keyHash P ⟨#[99]⟩, .str ⟨#[99]⟩ 195, .int 255 1214⟩]).toArray 1, #[]⟩), 19, life0, Array.mk [], boot_drawn, 1218, os⟩
theorem lp2_go249 (w : World) (os : OsState) : PySem.W.Fast.tw10295753902157049106 PySem.W.Fast.tw14364793385576792824 PR w 11 ann0 1 259 (lp2_s249 w os) lp2_T = some (lp2_s256 w os, lp2_T) := by kernel_rfl
noncomputable def o3_9 (P : Params) : Obj := ⟨.type "dict", none, .dict ([⟨PyData.keyHash P ⟨#[95, 95, 110, 97, 109, 101, 95, 95]⟩, .str ⟨#[95, 95, 110, 97, 109, 101, 95, 95]⟩ 165, .str ⟨#[95, 95, 109, 97, 105, 110, 95, 95]⟩ 164⟩, ⟨PyData.keyHash P ⟨#[95, 95, 100, 111, 99, 95, 95]⟩, .str ⟨#[95, 95, 100, 111, 99, 95, 95]⟩ 166, .none⟩, ⟨PyData.keyHash P ⟨#[95, 95, 112, 97, 99, 107, 97, 103, 101, 95, 95]⟩, .str ⟨#[95, 95, 112, 97, 99, 107, 97, 103, 101, 95, 95]⟩ 167, .none⟩, ⟨PyData.keyHash P ⟨#[95, 95, 108, 111, 97, 100, 101, 114, 95, 95]⟩, .str ⟨#[95, 95, 108, 111, 97, 100, 101, 114, 95, 95]⟩ 168, .builtin "__main__.__loader__#opaque"⟩, ⟨PyData.keyHash P ⟨#[95, 95, 115, 112, 101, 99, 95, 95]⟩, .str ⟨#[95, 95, 115, 112, 101, 99, 95, 95]⟩ 169, .none⟩, ⟨PyData.keyHash P ⟨#[95, 95, 97, 110, 110, 111, 116, 97, 116, 105, 111, 110, 115, 95, 95]⟩, .str ⟨#[95, 95, 97, 110, 110, 111, 116, 97, 116, 105, 111, 110, 115, 95, 95]⟩ 170, .ref 6⟩, ⟨PyData.keyHash P ⟨#[95, 95, 98, 117, 105, 108, 116, 105, 110, 115, 95, 95]⟩, .str ⟨#[95, 95, 98, 117, 105, 108, 116, 105, 110, 115, 95, 95]⟩ 171, .ref 4⟩, ⟨PyData.keyHash P ⟨#[95, 95, 102, 105, 108, 101, 95, 95]⟩, .str ⟨#[95, 95, 102, 105, 108, 101, 95, 95]⟩ 173, .str ⟨#[47, 99, 108, 97, 105, 109, 47, 99, 117, 116, 46, 112, 121]⟩ 172⟩, ⟨PyData.keyHash P ⟨#[95, 95, 99, 97, 99, 104, 101, 100, 95, 95]⟩, .str ⟨#[95, 95, 99, 97, 99, 104, 101, 100, 95, 95]⟩ 174, .none⟩, ⟨PyData.keyHash P ⟨#[67, 82, 76, 70]⟩, .str ⟨#[67, 82, 76, 70]⟩ 188, .str ⟨#[13, 10]⟩ 187⟩, ⟨PyData.keyHash P ⟨#[78, 76]⟩, .str ⟨#[78, 76]⟩ 190, .str ⟨#[10]⟩ 189⟩, ⟨PyData.keyHash P ⟨#[95, 81, 85, 79, 80, 82, 73, 95, 77, 65, 80]⟩, .str ⟨#[95, 81, 85, 79, 80, 82, 73, 95, 77, 65, 80]⟩ 1218, .ref 17⟩]).toArray 12, #[]⟩
noncomputable def o15_10 (P : Params) : Obj := ⟨.type "range", none, .fields ([.int 0 192, .int 256 191, .int 1 193]).toArray, #[]⟩
noncomputable def o16_11 (P : Params) : Obj := ⟨.type "range_iterator", none, .fields ([.int 256 0, .int 0 0, .int 1 0]).toArray, #[]⟩
noncomputable def o17_12 (P : Params) : Obj := ⟨.type "list", none, .seq ([.str ⟨#[61, 48, 48]⟩ 197, .str ⟨#[61, 48, 49]⟩ 201, .str ⟨#[61, 48, 50]⟩ 205, .str ⟨#[61, 48, 51]⟩ 209, .str ⟨#[61, 48, 52]⟩ 213, .str ⟨#[61, 48, 53]⟩ 217, .str ⟨#[61, 48, 54]⟩ 221, .str ⟨#[61, 48, 55]⟩ 225, .str ⟨#[61, 48, 56]⟩ 229, .str ⟨#[61, 48, 57]⟩ 233, .str ⟨#[61, 48, 65]⟩ 237, .str ⟨#[61, 48, 66]⟩ 241, .str ⟨#[61, 48, 67]⟩ 245, .str ⟨#[61, 48, 68]⟩ 249, .str ⟨#[61, 48, 69]⟩ 253, .str ⟨#[61, 48, 70]⟩ 257, .str ⟨#[61, 49, 48]⟩ 261, .str ⟨#[61, 49, 49]⟩ 265, .str ⟨#[61, 49, 50]⟩ 269, .str ⟨#[61, 49, 51]⟩ 273, .str ⟨#[61, 49, 52]⟩ 277, .str ⟨#[61, 49, 53]⟩ 281, .str ⟨#[61, 49, 54]⟩ 285, .str ⟨#[61, 49, 55]⟩ 289, .str ⟨#[61, 49, 56]⟩ 293, .str ⟨#[61, 49, 57]⟩ 297, .str ⟨#[61, 49, 65]⟩ 301, .str ⟨#[61, 49, 66]⟩ 305, .str ⟨#[61, 49, 67]⟩ 309, .str ⟨#[61, 49, 68]⟩ 313, .str ⟨#[61, 49, 69]⟩ 317, .str ⟨#[61, 49, 70]⟩ 321, .str ⟨#[61, 50, 48]⟩ 325, .str ⟨#[61, 50, 49]⟩ 329, .str ⟨#[61, 50, 50]⟩ 333, .str ⟨#[61, 50, 51]⟩ 337, .str ⟨#[61, 50, 52]⟩ 341, .str ⟨#[61, 50, 53]⟩ 345, .str ⟨#[61, 50, 54]⟩ 349, .str ⟨#[61, 50, 55]⟩ 353, .str ⟨#[61, 50, 56]⟩ 357, .str ⟨#[61, 50, 57]⟩ 361, .str ⟨#[61, 50, 65]⟩ 365, .str ⟨#[61, 50, 66]⟩ 369, .str ⟨#[61, 50, 67]⟩ 373, .str ⟨#[61, 50, 68]⟩ 377, .str ⟨#[61, 50, 69]⟩ 381, .str ⟨#[61, 50, 70]⟩ 385, .str ⟨#[61, 51, 48]⟩ 389, .str ⟨#[61, 51, 49]⟩ 393, .str ⟨#[61, 51, 50]⟩ 397, .str ⟨#[61, 51, 51]⟩ 401, .str ⟨#[61, 51, 52]⟩ 405, .str ⟨#[61, 51, 53]⟩ 409, .str ⟨#[61, 51, 54]⟩ 413, .str ⟨#[61, 51, 55]⟩ 417, .str ⟨#[61, 51, 56]⟩ 421, .str ⟨#[61, 51, 57]⟩ 425, .str ⟨#[61, 51, 65]⟩ 429, .str ⟨#[61, 51, 66]⟩ 433, .str ⟨#[61, 51, 67]⟩ 437, .str ⟨#[61, 51, 68]⟩ 441, .str ⟨#[61, 51, 69]⟩ 445, .str ⟨#[61, 51, 70]⟩ 449, .str ⟨#[61, 52, 48]⟩ 453, .str ⟨#[61, 52, 49]⟩ 457, .str ⟨#[61, 52, 50]⟩ 461, .str ⟨#[61, 52, 51]⟩ 465, .str ⟨#[61, 52, 52]⟩ 469, .str ⟨#[61, 52, 53]⟩ 473, .str ⟨#[61, 52, 54]⟩ 477, .str ⟨#[61, 52, 55]⟩ 481, .str ⟨#[61, 52, 56]⟩ 485, .str ⟨#[61, 52, 57]⟩ 489, .str ⟨#[61, 52, 65]⟩ 493, .str ⟨#[61, 52, 66]⟩ 497, .str ⟨#[61, 52, 67]⟩ 501, .str ⟨#[61, 52, 68]⟩ 505, .str ⟨#[61, 52, 69]⟩ 509, .str ⟨#[61, 52, 70]⟩ 513, .str ⟨#[61, 53, 48]⟩ 517, .str ⟨#[61, 53, 49]⟩ 521, .str ⟨#[61, 53, 50]⟩ 525, .str ⟨#[61, 53, 51]⟩ 529, .str ⟨#[61, 53, 52]⟩ 533, .str ⟨#[61, 53, 53]⟩ 537, .str ⟨#[61, 53, 54]⟩ 541, .str ⟨#[61, 53, 55]⟩ 545, .str ⟨#[61, 53, 56]⟩ 549, .str ⟨#[61, 53, 57]⟩ 553, .str ⟨#[61, 53, 65]⟩ 557, .str ⟨#[61, 53, 66]⟩ 561, .str ⟨#[61, 53, 67]⟩ 565, .str ⟨#[61, 53, 68]⟩ 569, .str ⟨#[61, 53, 69]⟩ 573, .str ⟨#[61, 53, 70]⟩ 577, .str ⟨#[61, 54, 48]⟩ 581, .str ⟨#[61, 54, 49]⟩ 585, .str ⟨#[61, 54, 50]⟩ 589, .str ⟨#[61, 54, 51]⟩ 593, .str ⟨#[61, 54, 52]⟩ 597, .str ⟨#[61, 54, 53]⟩ 601, .str ⟨#[61, 54, 54]⟩ 605, .str ⟨#[61, 54, 55]⟩ 609, .str ⟨#[61, 54, 56]⟩ 613, .str ⟨#[61, 54, 57]⟩ 617, .str ⟨#[61, 54, 65]⟩ 621, .str ⟨#[61, 54, 66]⟩ 625, .str ⟨#[61, 54, 67]⟩ 629, .str ⟨#[61, 54, 68]⟩ 633, .str ⟨#[61, 54, 69]⟩ 637, .str ⟨#[61, 54, 70]⟩ 641, .str ⟨#[61, 55, 48]⟩ 645, .str ⟨#[61, 55, 49]⟩ 649, .str ⟨#[61, 55, 50]⟩ 653, .str ⟨#[61, 55, 51]⟩ 657, .str ⟨#[61, 55, 52]⟩ 661, .str ⟨#[61, 55, 53]⟩ 665, .str ⟨#[61, 55, 54]⟩ 669, .str ⟨#[61, 55, 55]⟩ 673, .str ⟨#[61, 55, 56]⟩ 677, .str ⟨#[61, 55, 57]⟩ 681, .str ⟨#[61, 55, 65]⟩ 685, .str ⟨#[61, 55, 66]⟩ 689, .str ⟨#[61, 55, 67]⟩ 693, .str ⟨#[61, 55, 68]⟩ 697, .str ⟨#[61, 55, 69]⟩ 701, .str ⟨#[61, 55, 70]⟩ 705, .str ⟨#[61, 56, 48]⟩ 709, .str ⟨#[61, 56, 49]⟩ 713, .str ⟨#[61, 56, 50]⟩ 717, .str ⟨#[61, 56, 51]⟩ 721, .str ⟨#[61, 56, 52]⟩ 725, .str ⟨#[61, 56, 53]⟩ 729, .str ⟨#[61, 56, 54]⟩ 733, .str ⟨#[61, 56, 55]⟩ 737, .str ⟨#[61, 56, 56]⟩ 741, .str ⟨#[61, 56, 57]⟩ 745, .str ⟨#[61, 56, 65]⟩ 749, .str ⟨#[61, 56, 66]⟩ 753, .str ⟨#[61, 56, 67]⟩ 757, .str ⟨#[61, 56, 68]⟩ 761, .str ⟨#[61, 56, 69]⟩ 765, .str ⟨#[61, 56, 70]⟩ 769, .str ⟨#[61, 57, 48]⟩ 773, .str ⟨#[61, 57, 49]⟩ 777, .str ⟨#[61, 57, 50]⟩ 781, .str ⟨#[61, 57, 51]⟩ 785, .str ⟨#[61, 57, 52]⟩ 789, .str ⟨#[61, 57, 53]⟩ 793, .str ⟨#[61, 57, 54]⟩ 797, .str ⟨#[61, 57, 55]⟩ 801, .str ⟨#[61, 57, 56]⟩ 805, .str ⟨#[61, 57, 57]⟩ 809, .str ⟨#[61, 57, 65]⟩ 813, .str ⟨#[61, 57, 66]⟩ 817, .str ⟨#[61, 57, 67]⟩ 821, .str ⟨#[61, 57, 68]⟩ 825, .str ⟨#[61, 57, 69]⟩ 829, .str ⟨#[61, 57, 70]⟩ 833, .str ⟨#[61, 65, 48]⟩ 837, .str ⟨#[61, 65, 49]⟩ 841, .str ⟨#[61, 65, 50]⟩ 845, .str ⟨#[61, 65, 51]⟩ 849, .str ⟨#[61, 65, 52]⟩ 853, .str ⟨#[61, 65, 53]⟩ 857, .str ⟨#[61, 65, 54]⟩ 861, .str ⟨#[61, 65, 55]⟩ 865, .str ⟨#[61, 65, 56]⟩ 869, .str ⟨#[61, 65, 57]⟩ 873, .str ⟨#[61, 65, 65]⟩ 877, .str ⟨#[61, 65, 66]⟩ 881, .str ⟨#[61, 65, 67]⟩ 885, .str ⟨#[61, 65, 68]⟩ 889, .str ⟨#[61, 65, 69]⟩ 893, .str ⟨#[61, 65, 70]⟩ 897, .str ⟨#[61, 66, 48]⟩ 901, .str ⟨#[61, 66, 49]⟩ 905, .str ⟨#[61, 66, 50]⟩ 909, .str ⟨#[61, 66, 51]⟩ 913, .str ⟨#[61, 66, 52]⟩ 917, .str ⟨#[61, 66, 53]⟩ 921, .str ⟨#[61, 66, 54]⟩ 925, .str ⟨#[61, 66, 55]⟩ 929, .str ⟨#[61, 66, 56]⟩ 933, .str ⟨#[61, 66, 57]⟩ 937, .str ⟨#[61, 66, 65]⟩ 941, .str ⟨#[61, 66, 66]⟩ 945, .str ⟨#[61, 66, 67]⟩ 949, .str ⟨#[61, 66, 68]⟩ 953, .str ⟨#[61, 66, 69]⟩ 957, .str ⟨#[61, 66, 70]⟩ 961, .str ⟨#[61, 67, 48]⟩ 965, .str ⟨#[61, 67, 49]⟩ 969, .str ⟨#[61, 67, 50]⟩ 973, .str ⟨#[61, 67, 51]⟩ 977, .str ⟨#[61, 67, 52]⟩ 981, .str ⟨#[61, 67, 53]⟩ 985, .str ⟨#[61, 67, 54]⟩ 989, .str ⟨#[61, 67, 55]⟩ 993, .str ⟨#[61, 67, 56]⟩ 997, .str ⟨#[61, 67, 57]⟩ 1001, .str ⟨#[61, 67, 65]⟩ 1005, .str ⟨#[61, 67, 66]⟩ 1009, .str ⟨#[61, 67, 67]⟩ 1013, .str ⟨#[61, 67, 68]⟩ 1017, .str ⟨#[61, 67, 69]⟩ 1021, .str ⟨#[61, 67, 70]⟩ 1025, .str ⟨#[61, 68, 48]⟩ 1029, .str ⟨#[61, 68, 49]⟩ 1033, .str ⟨#[61, 68, 50]⟩ 1037, .str ⟨#[61, 68, 51]⟩ 1041, .str ⟨#[61, 68, 52]⟩ 1045, .str ⟨#[61, 68, 53]⟩ 1049, .str ⟨#[61, 68, 54]⟩ 1053, .str ⟨#[61, 68, 55]⟩ 1057, .str ⟨#[61, 68, 56]⟩ 1061, .str ⟨#[61, 68, 57]⟩ 1065, .str ⟨#[61, 68, 65]⟩ 1069, .str ⟨#[61, 68, 66]⟩ 1073, .str ⟨#[61, 68, 67]⟩ 1077, .str ⟨#[61, 68, 68]⟩ 1081, .str ⟨#[61, 68, 69]⟩ 1085, .str ⟨#[61, 68, 70]⟩ 1089, .str ⟨#[61, 69, 48]⟩ 1093, .str ⟨#[61, 69, 49]⟩ 1097, .str ⟨#[61, 69, 50]⟩ 1101, .str ⟨#[61, 69, 51]⟩ 1105, .str ⟨#[61, 69, 52]⟩ 1109, .str ⟨#[61, 69, 53]⟩ 1113, .str ⟨#[61, 69, 54]⟩ 1117, .str ⟨#[61, 69, 55]⟩ 1121, .str ⟨#[61, 69, 56]⟩ 1125, .str ⟨#[61, 69, 57]⟩ 1129, .str ⟨#[61, 69, 65]⟩ 1133, .str ⟨#[61, 69, 66]⟩ 1137, .str ⟨#[61, 69, 67]⟩ 1141, .str ⟨#[61, 69, 68]⟩ 1145, .str ⟨#[61, 69, 69]⟩ 1149, .str ⟨#[61, 69, 70]⟩ 1153, .str ⟨#[61, 70, 48]⟩ 1157, .str ⟨#[61, 70, 49]⟩ 1161, .str ⟨#[61, 70, 50]⟩ 1165, .str ⟨#[61, 70, 51]⟩ 1169, .str ⟨#[61, 70, 52]⟩ 1173, .str ⟨#[61, 70, 53]⟩ 1177, .str ⟨#[61, 70, 54]⟩ 1181, .str ⟨#[61, 70, 55]⟩ 1185, .str ⟨#[61, 70, 56]⟩ 1189, .str ⟨#[61, 70, 57]⟩ 1193, .str ⟨#[61, 70, 65]⟩ 1197, .str ⟨#[61, 70, 66]⟩ 1201, .str ⟨#[61, 70, 67]⟩ 1205, .str ⟨#[61, 70, 68]⟩ 1209, .str ⟨#[61, 70, 69]⟩ 1213, .str ⟨#[61, 70, 70]⟩ 1217]).toArray 256, #[]⟩
noncomputable def o18_13 (P : Params) : Obj := ⟨.type "dict", none, .dict ([]).toArray 2, #[]⟩
noncomputable def o19_14 (P : Params) : Obj := ⟨.type "tuple", none, .seq ([]).toArray 0, #[]⟩
noncomputable def o20_15 (P : Params) : Obj := ⟨.type "StopIteration", none, .fields ([.ref 19, .none, .none, .none, .bool false, .none]).toArray, #[]⟩
noncomputable def tr_s2 (P : Params) : BT := (.node (boot_o_0 P) (.node (boot_o_1 P) (.node (o3_9 P) (.node (boot_o_7 P) (.node (o15_10 P) .nil .nil) .nil) (.node (o11_0 P) (.node (o19_14 P) .nil .nil) .nil)) (.node (boot_o_5 P) (.node (boot_o_9 P) (.node (o17_12 P) .nil .nil) .nil) (.node (o13_2 P) .nil .nil))) (.node (boot_o_2 P) (.node (boot_o_4 P) (.node (boot_o_8 P) (.node (o16_11 P) .nil .nil) .nil) (.node (o12_1 P) (.node (o20_15 P) .nil .nil) .nil)) (.node (boot_o_6 P) (.node (boot_o_10 P) (.node (o18_13 P) .nil .nil) .nil) (.node (o14_3 P) .nil .nil))))
noncomputable def s2 (w : World) (os : OsState) : SharedT := ⟨tr_s2 w.params, 21, life0, Array.mk [], boot_drawn, 1219, os⟩
theorem lp2_end (w : World) (os : OsState) : PySem.W.Fast.tw10110043849684766642 PySem.W.Fast.tw14364793385576792824 PR w 11 ann0 1 28 (lp2_s256 w os) lp2_T = some (.next, s2 w os, cE, ⟨3, 0, 3, 11⟩) := by kernel_rfl
theorem lp2_rest (w : World) (os : OsState) : segRun treeTable PR w 11 ann0 1 9463 (lp2_s1 w os).abs lp2_T = some (.next, (s2 w os).abs, cE, ⟨3, 0, 3, 11⟩) := (seg_go (n := 296) (segGo_of (goT (lp2_go1 w os))) (seg_go (n := 296) (segGo_of (goT (lp2_go9 w os))) (seg_go (n := 296) (segGo_of (goT (lp2_go17 w os))) (seg_go (n := 296) (segGo_of (goT (lp2_go25 w os))) (seg_go (n := 296) (segGo_of (goT (lp2_go33 w os))) (seg_go (n := 296) (segGo_of (goT (lp2_go41 w os))) (seg_go (n := 296) (segGo_of (goT (lp2_go49 w os))) (seg_go (n := 296) (segGo_of (goT (lp2_go57 w os))) (seg_go (n := 296) (segGo_of (goT (lp2_go65 w os))) (seg_go (n := 296) (segGo_of (goT (lp2_go73 w os))) (seg_go (n := 296) (segGo_of (goT (lp2_go81 w os))) (seg_go (n := 296) (segGo_of (goT (lp2_go89 w os))) (seg_go (n := 296) (segGo_of (goT (lp2_go97 w os))) (seg_go (n := 296) (segGo_of (goT (lp2_go105 w os))) (seg_go (n := 296) (segGo_of (goT (lp2_go113 w os))) (seg_go (n := 296) (segGo_of (goT (lp2_go121 w os))) (seg_go (n := 296) (segGo_of (goT (lp2_go129 w os))) (seg_go (n := 296) (segGo_of (goT (lp2_go137 w os))) (seg_go (n := 296) (segGo_of (goT (lp2_go145 w os))) (seg_go (n := 296) (segGo_of (goT (lp2_go153 w os))) (seg_go (n := 296) (segGo_of (goT (lp2_go161 w os))) (seg_go (n := 296) (segGo_of (goT (lp2_go169 w os))) (seg_go (n := 296) (segGo_of (goT (lp2_go177 w os))) (seg_go (n := 296) (segGo_of (goT (lp2_go185 w os))) (seg_go (n := 296) (segGo_of (goT (lp2_go193 w os))) (seg_go (n := 296) (segGo_of (goT (lp2_go201 w os))) (seg_go (n := 296) (segGo_of (goT (lp2_go209 w os))) (seg_go (n := 296) (segGo_of (goT (lp2_go217 w os))) (seg_go (n := 296) (segGo_of (goT (lp2_go225 w os))) (seg_go (n := 296) (segGo_of (goT (lp2_go233 w os))) (seg_go (n := 296) (segGo_of (goT (lp2_go241 w os))) (seg_go (n := 259) (segGo_of (goT (lp2_go249 w os))) (segRun_of (runT (lp2_end w os)))))))))))))))))))))))))))))))))))
def lp2_P (w : World) : Prop := ∀ os : OsState, segRun treeTable PR w 11 ann0 1 9552 (s1 w os).abs (piecesOf lp2_sts env0 cE ⟨2, 0, 2, 2⟩ B0) = some (.next, (s2 w os).abs, cE, ⟨3, 0, 3, 11⟩)
theorem lp2_start_ff_a (w : World) (os : OsState) : segRun treeTable PR ((w.withFollow "comprehension-iter-twice" false).withFollow "special-get-raises" false) 11 ann0 1 (89 + 9463) (s1 ((w.withFollow "comprehension-iter-twice" false).withFollow "special-get-raises" false) os).abs (piecesOf lp2_sts env0 cE ⟨2, 0, 2, 2⟩ B0) = some (.next, (s2 ((w.withFollow "comprehension-iter-twice" false).withFollow "special-get-raises" false) os).abs, cE, ⟨3, 0, 3, 11⟩) := startT (s' := lp2_s1 ((w.withFollow "comprehension-iter-twice" false).withFollow "special-get-raises" false) os) (T := lp2_T) (lp2_start_ff w os) (lp2_rest ((w.withFollow "comprehension-iter-twice" false).withFollow "special-get-raises" false) os)
theorem lp2_start_ff_b (w : World) : lp2_P ((w.withFollow "comprehension-iter-twice" false).withFollow "special-get-raises" false) := fun os => segRun_up (n := 89 + 9463) (m := 9552) (Nat.le_of_ble_eq_true (by kernel_rfl)) (lp2_start_ff_a w os)
theorem lp2_start_tf_a (w : World) (os : OsState) : segRun treeTable PR ((w.withFollow "comprehension-iter-twice" true).withFollow "special-get-raises" false) 11 ann0 1 (79 + 9463) (s1 ((w.withFollow "comprehension-iter-twice" true).withFollow "special-get-raises" false) os).abs (piecesOf lp2_sts env0 cE ⟨2, 0, 2, 2⟩ B0) = some (.next, (s2 ((w.withFollow "comprehension-iter-twice" true).withFollow "special-get-raises" false) os).abs, cE, ⟨3, 0, 3, 11⟩) := startT (s' := lp2_s1 ((w.withFollow "comprehension-iter-twice" true).withFollow "special-get-raises" false) os) (T := lp2_T) (lp2_start_tf w os) (lp2_rest ((w.withFollow "comprehension-iter-twice" true).withFollow "special-get-raises" false) os)
theorem lp2_start_tf_b (w : World) : lp2_P ((w.withFollow "comprehension-iter-twice" true).withFollow "special-get-raises" false) := fun os => segRun_up (n := 79 + 9463) (m := 9552) (Nat.le_of_ble_eq_true (by kernel_rfl)) (lp2_start_tf_a w os)
theorem lp2_start_ft_a (w : World) (os : OsState) : segRun treeTable PR ((w.withFollow "comprehension-iter-twice" false).withFollow "special-get-raises" true) 11 ann0 1 (89 + 9463) (s1 ((w.withFollow "comprehension-iter-twice" false).withFollow "special-get-raises" true) os).abs (piecesOf lp2_sts env0 cE ⟨2, 0, 2, 2⟩ B0) = some (.next, (s2 ((w.withFollow "comprehension-iter-twice" false).withFollow "special-get-raises" true) os).abs, cE, ⟨3, 0, 3, 11⟩) := startT (s' := lp2_s1 ((w.withFollow "comprehension-iter-twice" false).withFollow "special-get-raises" true) os) (T := lp2_T) (lp2_start_ft w os) (lp2_rest ((w.withFollow "comprehension-iter-twice" false).withFollow "special-get-raises" true) os)
theorem lp2_start_ft_b (w : World) : lp2_P ((w.withFollow "comprehension-iter-twice" false).withFollow "special-get-raises" true) := fun os => segRun_up (n := 89 + 9463) (m := 9552) (Nat.le_of_ble_eq_true (by kernel_rfl)) (lp2_start_ft_a w os)
theorem lp2_start_tt_a (w : World) (os : OsState) : segRun treeTable PR ((w.withFollow "comprehension-iter-twice" true).withFollow "special-get-raises" true) 11 ann0 1 (79 + 9463) (s1 ((w.withFollow "comprehension-iter-twice" true).withFollow "special-get-raises" true) os).abs (piecesOf lp2_sts env0 cE ⟨2, 0, 2, 2⟩ B0) = some (.next, (s2 ((w.withFollow "comprehension-iter-twice" true).withFollow "special-get-raises" true) os).abs, cE, ⟨3, 0, 3, 11⟩) := startT (s' := lp2_s1 ((w.withFollow "comprehension-iter-twice" true).withFollow "special-get-raises" true) os) (T := lp2_T) (lp2_start_tt w os) (lp2_rest ((w.withFollow "comprehension-iter-twice" true).withFollow "special-get-raises" true) os)
theorem lp2_start_tt_b (w : World) : lp2_P ((w.withFollow "comprehension-iter-twice" true).withFollow "special-get-raises" true) := fun os => segRun_up (n := 79 + 9463) (m := 9552) (Nat.le_of_ble_eq_true (by kernel_rfl)) (lp2_start_tt_a w os)
theorem lp2_all (w : World) : lp2_P w := (byRow2 "special-get-raises" (P := fun w => lp2_P w) (fun w => (byRow2 "comprehension-iter-twice" (P := fun w => lp2_P (w.withFollow "special-get-raises" false)) (fun w => (lp2_start_ff_b w)) (fun w => (lp2_start_tf_b w)) w)) (fun w => (byRow2 "comprehension-iter-twice" (P := fun w => lp2_P (w.withFollow "special-get-raises" true)) (fun w => (lp2_start_ft_b w)) (fun w => (lp2_start_tt_b w)) w)) w)
noncomputable def o3_16 (P : Params) : Obj := ⟨.type "dict", none, .dict ([⟨PyData.keyHash P ⟨#[95, 95, 110, 97, 109, 101, 95, 95]⟩, .str ⟨#[95, 95, 110, 97, 109, 101, 95, 95]⟩ 165, .str ⟨#[99, 112, 121, 51, 49, 51, 46, 101, 109, 97, 105, 108, 46, 113, 117, 111, 112, 114, 105, 109, 105, 109, 101]⟩ 1229⟩, ⟨PyData.keyHash P ⟨#[95, 95, 100, 111, 99, 95, 95]⟩, .str ⟨#[95, 95, 100, 111, 99, 95, 95]⟩ 166, .none⟩, ⟨PyData.keyHash P ⟨#[95, 95, 112, 97, 99, 107, 97, 103, 101, 95, 95]⟩, .str ⟨#[95, 95, 112, 97, 99, 107, 97, 103, 101, 95, 95]⟩ 167, .none⟩, ⟨PyData.keyHash P ⟨#[95, 95, 108, 111, 97, 100, 101, 114, 95, 95]⟩, .str ⟨#[95, 95, 108, 111, 97, 100, 101, 114, 95, 95]⟩ 168, .builtin "__main__.__loader__#opaque"⟩, ⟨PyData.keyHash P ⟨#[95, 95, 115, 112, 101, 99, 95, 95]⟩, .str ⟨#[95, 95, 115, 112, 101, 99, 95, 95]⟩ 169, .none⟩, ⟨PyData.keyHash P ⟨#[95, 95, 97, 110, 110, 111, 116, 97, 116, 105, 111, 110, 115, 95, 95]⟩, .str ⟨#[95, 95, 97, 110, 110, 111, 116, 97, 116, 105, 111, 110, 115, 95, 95]⟩ 170, .ref 6⟩, ⟨PyData.keyHash P ⟨#[95, 95, 98, 117, 105, 108, 116, 105, 110, 115, 95, 95]⟩, .str ⟨#[95, 95, 98, 117, 105, 108, 116, 105, 110, 115, 95, 95]⟩ 171, .ref 4⟩, ⟨PyData.keyHash P ⟨#[95, 95, 102, 105, 108, 101, 95, 95]⟩, .str ⟨#[95, 95, 102, 105, 108, 101, 95, 95]⟩ 173, .str ⟨#[47, 99, 108, 97, 105, 109, 47, 99, 117, 116, 46, 112, 121]⟩ 172⟩, ⟨PyData.keyHash P ⟨#[95, 95, 99, 97, 99, 104, 101, 100, 95, 95]⟩, .str ⟨#[95, 95, 99, 97, 99, 104, 101, 100, 95, 95]⟩ 174, .none⟩, ⟨PyData.keyHash P ⟨#[67, 82, 76, 70]⟩, .str ⟨#[67, 82, 76, 70]⟩ 188, .str ⟨#[13, 10]⟩ 187⟩, ⟨PyData.keyHash P ⟨#[78, 76]⟩, .str ⟨#[78, 76]⟩ 190, .str ⟨#[10]⟩ 189⟩, ⟨PyData.keyHash P ⟨#[95, 81, 85, 79, 80, 82, 73, 95, 77, 65, 80]⟩, .str ⟨#[95, 81, 85, 79, 80, 82, 73, 95, 77, 65, 80]⟩ 1218, .ref 17⟩, ⟨PyData.keyHash P ⟨#[95, 81, 85, 79, 80, 82, 73, 95, 72, 69, 65, 68, 69, 82, 95, 77, 65, 80]⟩, .str ⟨#[95, 81, 85, 79, 80, 82, 73, 95, 72, 69, 65, 68, 69, 82, 95, 77, 65, 80]⟩ 1219, .ref 22⟩, ⟨PyData.keyHash P ⟨#[95, 81, 85, 79, 80, 82, 73, 95, 66, 79, 68, 89, 95, 77, 65, 80]⟩, .str ⟨#[95, 81, 85, 79, 80, 82, 73, 95, 66, 79, 68, 89, 95, 77, 65, 80]⟩ 1220, .ref 24⟩, ⟨PyData.keyHash P ⟨#[97, 115, 99, 105, 105, 95, 108, 111, 119, 101, 114, 99, 97, 115, 101]⟩, .str ⟨#[97, 115, 99, 105, 105, 95, 108, 111, 119, 101, 114, 99, 97, 115, 101]⟩ 1222, .str ⟨#[97, 98, 99, 100, 101, 102, 103, 104, 105, 106, 107, 108, 109, 110, 111, 112, 113, 114, 115, 116, 117, 118, 119, 120, 121, 122]⟩ 1221⟩, ⟨PyData.keyHash P ⟨#[97, 115, 99, 105, 105, 95, 117, 112, 112, 101, 114, 99, 97, 115, 101]⟩, .str ⟨#[97, 115, 99, 105, 105, 95, 117, 112, 112, 101, 114, 99, 97, 115, 101]⟩ 1224, .str ⟨#[65, 66, 67, 68, 69, 70, 71, 72, 73, 74, 75, 76, 77, 78, 79, 80, 81, 82, 83, 84, 85, 86, 87, 88, 89, 90]⟩ 1223⟩, ⟨PyData.keyHash P ⟨#[97, 115, 99, 105, 105, 95, 108, 101, 116, 116, 101, 114, 115]⟩, .str ⟨#[97, 115, 99, 105, 105, 95, 108, 101, 116, 116, 101, 114, 115]⟩ 1226, .str ⟨#[97, 98, 99, 100, 101, 102, 103, 104, 105, 106, 107, 108, 109, 110, 111, 112, 113, 114, 115, 116, 117, 118, 119, 120, 121, 122, 65, 66, 67, 68, 69, 70, 71, 72, 73, 74, 75, 76, 77, 78, 79, 80, 81, 82, 83, 84, 85, 86, 87, 88, 89, 90]⟩ 1225⟩, ⟨PyData.keyHash P ⟨#[100, 105, 103, 105, 116, 115]⟩, .str ⟨#[100, 105, 103, 105, 116, 115]⟩ 1228, .str ⟨#[48, 49, 50, 51, 52, 53, 54, 55, 56, 57]⟩ 1227⟩]).toArray 18, #[]⟩
noncomputable def o21_17 (P : Params) : Obj := ⟨.type "slice", none, .fields ([.none, .none, .none]).toArray, #[]⟩
noncomputable def o22_18 (P : Params) : Obj := ⟨.type "list", none, .seq ([.str ⟨#[61, 48, 48]⟩ 197, .str ⟨#[61, 48, 49]⟩ 201, .str ⟨#[61, 48, 50]⟩ 205, .str ⟨#[61, 48, 51]⟩ 209, .str ⟨#[61, 48, 52]⟩ 213, .str ⟨#[61, 48, 53]⟩ 217, .str ⟨#[61, 48, 54]⟩ 221, .str ⟨#[61, 48, 55]⟩ 225, .str ⟨#[61, 48, 56]⟩ 229, .str ⟨#[61, 48, 57]⟩ 233, .str ⟨#[61, 48, 65]⟩ 237, .str ⟨#[61, 48, 66]⟩ 241, .str ⟨#[61, 48, 67]⟩ 245, .str ⟨#[61, 48, 68]⟩ 249, .str ⟨#[61, 48, 69]⟩ 253, .str ⟨#[61, 48, 70]⟩ 257, .str ⟨#[61, 49, 48]⟩ 261, .str ⟨#[61, 49, 49]⟩ 265, .str ⟨#[61, 49, 50]⟩ 269, .str ⟨#[61, 49, 51]⟩ 273, .str ⟨#[61, 49, 52]⟩ 277, .str ⟨#[61, 49, 53]⟩ 281, .str ⟨#[61, 49, 54]⟩ 285, .str ⟨#[61, 49, 55]⟩ 289, .str ⟨#[61, 49, 56]⟩ 293, .str ⟨#[61, 49, 57]⟩ 297, .str ⟨#[61, 49, 65]⟩ 301, .str ⟨#[61, 49, 66]⟩ 305, .str ⟨#[61, 49, 67]⟩ 309, .str ⟨#[61, 49, 68]⟩ 313, .str ⟨#[61, 49, 69]⟩ 317, .str ⟨#[61, 49, 70]⟩ 321, .str ⟨#[61, 50, 48]⟩ 325, .str ⟨#[61, 50, 49]⟩ 329, .str ⟨#[61, 50, 50]⟩ 333, .str ⟨#[61, 50, 51]⟩ 337, .str ⟨#[61, 50, 52]⟩ 341, .str ⟨#[61, 50, 53]⟩ 345, .str ⟨#[61, 50, 54]⟩ 349, .str ⟨#[61, 50, 55]⟩ 353, .str ⟨#[61, 50, 56]⟩ 357, .str ⟨#[61, 50, 57]⟩ 361, .str ⟨#[61, 50, 65]⟩ 365, .str ⟨#[61, 50, 66]⟩ 369, .str ⟨#[61, 50, 67]⟩ 373, .str ⟨#[61, 50, 68]⟩ 377, .str ⟨#[61, 50, 69]⟩ 381, .str ⟨#[61, 50, 70]⟩ 385, .str ⟨#[61, 51, 48]⟩ 389, .str ⟨#[61, 51, 49]⟩ 393, .str ⟨#[61, 51, 50]⟩ 397, .str ⟨#[61, 51, 51]⟩ 401, .str ⟨#[61, 51, 52]⟩ 405, .str ⟨#[61, 51, 53]⟩ 409, .str ⟨#[61, 51, 54]⟩ 413, .str ⟨#[61, 51, 55]⟩ 417, .str ⟨#[61, 51, 56]⟩ 421, .str ⟨#[61, 51, 57]⟩ 425, .str ⟨#[61, 51, 65]⟩ 429, .str ⟨#[61, 51, 66]⟩ 433, .str ⟨#[61, 51, 67]⟩ 437, .str ⟨#[61, 51, 68]⟩ 441, .str ⟨#[61, 51, 69]⟩ 445, .str ⟨#[61, 51, 70]⟩ 449, .str ⟨#[61, 52, 48]⟩ 453, .str ⟨#[61, 52, 49]⟩ 457, .str ⟨#[61, 52, 50]⟩ 461, .str ⟨#[61, 52, 51]⟩ 465, .str ⟨#[61, 52, 52]⟩ 469, .str ⟨#[61, 52, 53]⟩ 473, .str ⟨#[61, 52, 54]⟩ 477, .str ⟨#[61, 52, 55]⟩ 481, .str ⟨#[61, 52, 56]⟩ 485, .str ⟨#[61, 52, 57]⟩ 489, .str ⟨#[61, 52, 65]⟩ 493, .str ⟨#[61, 52, 66]⟩ 497, .str ⟨#[61, 52, 67]⟩ 501, .str ⟨#[61, 52, 68]⟩ 505, .str ⟨#[61, 52, 69]⟩ 509, .str ⟨#[61, 52, 70]⟩ 513, .str ⟨#[61, 53, 48]⟩ 517, .str ⟨#[61, 53, 49]⟩ 521, .str ⟨#[61, 53, 50]⟩ 525, .str ⟨#[61, 53, 51]⟩ 529, .str ⟨#[61, 53, 52]⟩ 533, .str ⟨#[61, 53, 53]⟩ 537, .str ⟨#[61, 53, 54]⟩ 541, .str ⟨#[61, 53, 55]⟩ 545, .str ⟨#[61, 53, 56]⟩ 549, .str ⟨#[61, 53, 57]⟩ 553, .str ⟨#[61, 53, 65]⟩ 557, .str ⟨#[61, 53, 66]⟩ 561, .str ⟨#[61, 53, 67]⟩ 565, .str ⟨#[61, 53, 68]⟩ 569, .str ⟨#[61, 53, 69]⟩ 573, .str ⟨#[61, 53, 70]⟩ 577, .str ⟨#[61, 54, 48]⟩ 581, .str ⟨#[61, 54, 49]⟩ 585, .str ⟨#[61, 54, 50]⟩ 589, .str ⟨#[61, 54, 51]⟩ 593, .str ⟨#[61, 54, 52]⟩ 597, .str ⟨#[61, 54, 53]⟩ 601, .str ⟨#[61, 54, 54]⟩ 605, .str ⟨#[61, 54, 55]⟩ 609, .str ⟨#[61, 54, 56]⟩ 613, .str ⟨#[61, 54, 57]⟩ 617, .str ⟨#[61, 54, 65]⟩ 621, .str ⟨#[61, 54, 66]⟩ 625, .str ⟨#[61, 54, 67]⟩ 629, .str ⟨#[61, 54, 68]⟩ 633, .str ⟨#[61, 54, 69]⟩ 637, .str ⟨#[61, 54, 70]⟩ 641, .str ⟨#[61, 55, 48]⟩ 645, .str ⟨#[61, 55, 49]⟩ 649, .str ⟨#[61, 55, 50]⟩ 653, .str ⟨#[61, 55, 51]⟩ 657, .str ⟨#[61, 55, 52]⟩ 661, .str ⟨#[61, 55, 53]⟩ 665, .str ⟨#[61, 55, 54]⟩ 669, .str ⟨#[61, 55, 55]⟩ 673, .str ⟨#[61, 55, 56]⟩ 677, .str ⟨#[61, 55, 57]⟩ 681, .str ⟨#[61, 55, 65]⟩ 685, .str ⟨#[61, 55, 66]⟩ 689, .str ⟨#[61, 55, 67]⟩ 693, .str ⟨#[61, 55, 68]⟩ 697, .str ⟨#[61, 55, 69]⟩ 701, .str ⟨#[61, 55, 70]⟩ 705, .str ⟨#[61, 56, 48]⟩ 709, .str ⟨#[61, 56, 49]⟩ 713, .str ⟨#[61, 56, 50]⟩ 717, .str ⟨#[61, 56, 51]⟩ 721, .str ⟨#[61, 56, 52]⟩ 725, .str ⟨#[61, 56, 53]⟩ 729, .str ⟨#[61, 56, 54]⟩ 733, .str ⟨#[61, 56, 55]⟩ 737, .str ⟨#[61, 56, 56]⟩ 741, .str ⟨#[61, 56, 57]⟩ 745, .str ⟨#[61, 56, 65]⟩ 749, .str ⟨#[61, 56, 66]⟩ 753, .str ⟨#[61, 56, 67]⟩ 757, .str ⟨#[61, 56, 68]⟩ 761, .str ⟨#[61, 56, 69]⟩ 765, .str ⟨#[61, 56, 70]⟩ 769, .str ⟨#[61, 57, 48]⟩ 773, .str ⟨#[61, 57, 49]⟩ 777, .str ⟨#[61, 57, 50]⟩ 781, .str ⟨#[61, 57, 51]⟩ 785, .str ⟨#[61, 57, 52]⟩ 789, .str ⟨#[61, 57, 53]⟩ 793, .str ⟨#[61, 57, 54]⟩ 797, .str ⟨#[61, 57, 55]⟩ 801, .str ⟨#[61, 57, 56]⟩ 805, .str ⟨#[61, 57, 57]⟩ 809, .str ⟨#[61, 57, 65]⟩ 813, .str ⟨#[61, 57, 66]⟩ 817, .str ⟨#[61, 57, 67]⟩ 821, .str ⟨#[61, 57, 68]⟩ 825, .str ⟨#[61, 57, 69]⟩ 829, .str ⟨#[61, 57, 70]⟩ 833, .str ⟨#[61, 65, 48]⟩ 837, .str ⟨#[61, 65, 49]⟩ 841, .str ⟨#[61, 65, 50]⟩ 845, .str ⟨#[61, 65, 51]⟩ 849, .str ⟨#[61, 65, 52]⟩ 853, .str ⟨#[61, 65, 53]⟩ 857, .str ⟨#[61, 65, 54]⟩ 861, .str ⟨#[61, 65, 55]⟩ 865, .str ⟨#[61, 65, 56]⟩ 869, .str ⟨#[61, 65, 57]⟩ 873, .str ⟨#[61, 65, 65]⟩ 877, .str ⟨#[61, 65, 66]⟩ 881, .str ⟨#[61, 65, 67]⟩ 885, .str ⟨#[61, 65, 68]⟩ 889, .str ⟨#[61, 65, 69]⟩ 893, .str ⟨#[61, 65, 70]⟩ 897, .str ⟨#[61, 66, 48]⟩ 901, .str ⟨#[61, 66, 49]⟩ 905, .str ⟨#[61, 66, 50]⟩ 909, .str ⟨#[61, 66, 51]⟩ 913, .str ⟨#[61, 66, 52]⟩ 917, .str ⟨#[61, 66, 53]⟩ 921, .str ⟨#[61, 66, 54]⟩ 925, .str ⟨#[61, 66, 55]⟩ 929, .str ⟨#[61, 66, 56]⟩ 933, .str ⟨#[61, 66, 57]⟩ 937, .str ⟨#[61, 66, 65]⟩ 941, .str ⟨#[61, 66, 66]⟩ 945, .str ⟨#[61, 66, 67]⟩ 949, .str ⟨#[61, 66, 68]⟩ 953, .str ⟨#[61, 66, 69]⟩ 957, .str ⟨#[61, 66, 70]⟩ 961, .str ⟨#[61, 67, 48]⟩ 965, .str ⟨#[61, 67, 49]⟩ 969, .str ⟨#[61, 67, 50]⟩ 973, .str ⟨#[61, 67, 51]⟩ 977, .str ⟨#[61, 67, 52]⟩ 981, .str ⟨#[61, 67, 53]⟩ 985, .str ⟨#[61, 67, 54]⟩ 989, .str ⟨#[61, 67, 55]⟩ 993, .str ⟨#[61, 67, 56]⟩ 997, .str ⟨#[61, 67, 57]⟩ 1001, .str ⟨#[61, 67, 65]⟩ 1005, .str ⟨#[61, 67, 66]⟩ 1009, .str ⟨#[61, 67, 67]⟩ 1013, .str ⟨#[61, 67, 68]⟩ 1017, .str ⟨#[61, 67, 69]⟩ 1021, .str ⟨#[61, 67, 70]⟩ 1025, .str ⟨#[61, 68, 48]⟩ 1029, .str ⟨#[61, 68, 49]⟩ 1033, .str ⟨#[61, 68, 50]⟩ 1037, .str ⟨#[61, 68, 51]⟩ 1041, .str ⟨#[61, 68, 52]⟩ 1045, .str ⟨#[61, 68, 53]⟩ 1049, .str ⟨#[61, 68, 54]⟩ 1053, .str ⟨#[61, 68, 55]⟩ 1057, .str ⟨#[61, 68, 56]⟩ 1061, .str ⟨#[61, 68, 57]⟩ 1065, .str ⟨#[61, 68, 65]⟩ 1069, .str ⟨#[61, 68, 66]⟩ 1073, .str ⟨#[61, 68, 67]⟩ 1077, .str ⟨#[61, 68, 68]⟩ 1081, .str ⟨#[61, 68, 69]⟩ 1085, .str ⟨#[61, 68, 70]⟩ 1089, .str ⟨#[61, 69, 48]⟩ 1093, .str ⟨#[61, 69, 49]⟩ 1097, .str ⟨#[61, 69, 50]⟩ 1101, .str ⟨#[61, 69, 51]⟩ 1105, .str ⟨#[61, 69, 52]⟩ 1109, .str ⟨#[61, 69, 53]⟩ 1113, .str ⟨#[61, 69, 54]⟩ 1117, .str ⟨#[61, 69, 55]⟩ 1121, .str ⟨#[61, 69, 56]⟩ 1125, .str ⟨#[61, 69, 57]⟩ 1129, .str ⟨#[61, 69, 65]⟩ 1133, .str ⟨#[61, 69, 66]⟩ 1137, .str ⟨#[61, 69, 67]⟩ 1141, .str ⟨#[61, 69, 68]⟩ 1145, .str ⟨#[61, 69, 69]⟩ 1149, .str ⟨#[61, 69, 70]⟩ 1153, .str ⟨#[61, 70, 48]⟩ 1157, .str ⟨#[61, 70, 49]⟩ 1161, .str ⟨#[61, 70, 50]⟩ 1165, .str ⟨#[61, 70, 51]⟩ 1169, .str ⟨#[61, 70, 52]⟩ 1173, .str ⟨#[61, 70, 53]⟩ 1177, .str ⟨#[61, 70, 54]⟩ 1181, .str ⟨#[61, 70, 55]⟩ 1185, .str ⟨#[61, 70, 56]⟩ 1189, .str ⟨#[61, 70, 57]⟩ 1193, .str ⟨#[61, 70, 65]⟩ 1197, .str ⟨#[61, 70, 66]⟩ 1201, .str ⟨#[61, 70, 67]⟩ 1205, .str ⟨#[61, 70, 68]⟩ 1209, .str ⟨#[61, 70, 69]⟩ 1213, .str ⟨#[61, 70, 70]⟩ 1217]).toArray 0, #[]⟩
noncomputable def o23_19 (P : Params) : Obj := ⟨.type "slice", none, .fields ([.none, .none, .none]).toArray, #[]⟩
noncomputable def o24_20 (P : Params) : Obj := ⟨.type "list", none, .seq ([.str ⟨#[61, 48, 48]⟩ 197, .str ⟨#[61, 48, 49]⟩ 201, .str ⟨#[61, 48, 50]⟩ 205, .str ⟨#[61, 48, 51]⟩ 209, .str ⟨#[61, 48, 52]⟩ 213, .str ⟨#[61, 48, 53]⟩ 217, .str ⟨#[61, 48, 54]⟩ 221, .str ⟨#[61, 48, 55]⟩ 225, .str ⟨#[61, 48, 56]⟩ 229, .str ⟨#[61, 48, 57]⟩ 233, .str ⟨#[61, 48, 65]⟩ 237, .str ⟨#[61, 48, 66]⟩ 241, .str ⟨#[61, 48, 67]⟩ 245, .str ⟨#[61, 48, 68]⟩ 249, .str ⟨#[61, 48, 69]⟩ 253, .str ⟨#[61, 48, 70]⟩ 257, .str ⟨#[61, 49, 48]⟩ 261, .str ⟨#[61, 49, 49]⟩ 265, .str ⟨#[61, 49, 50]⟩ 269, .str ⟨#[61, 49, 51]⟩ 273, .str ⟨#[61, 49, 52]⟩ 277, .str ⟨#[61, 49, 53]⟩ 281, .str ⟨#[61, 49, 54]⟩ 285, .str ⟨#[61, 49, 55]⟩ 289, .str ⟨#[61, 49, 56]⟩ 293, .str ⟨#[61, 49, 57]⟩ 297, .str ⟨#[61, 49, 65]⟩ 301, .str ⟨#[61, 49, 66]⟩ 305, .str ⟨#[61, 49, 67]⟩ 309, .str ⟨#[61, 49, 68]⟩ 313, .str ⟨#[61, 49, 69]⟩ 317, .str ⟨#[61, 49, 70]⟩ 321, .str ⟨#[61, 50, 48]⟩ 325, .str ⟨#[61, 50, 49]⟩ 329, .str ⟨#[61, 50, 50]⟩ 333, .str ⟨#[61, 50, 51]⟩ 337, .str ⟨#[61, 50, 52]⟩ 341, .str ⟨#[61, 50, 53]⟩ 345, .str ⟨#[61, 50, 54]⟩ 349, .str ⟨#[61, 50, 55]⟩ 353, .str ⟨#[61, 50, 56]⟩ 357, .str ⟨#[61, 50, 57]⟩ 361, .str ⟨#[61, 50, 65]⟩ 365, .str ⟨#[61, 50, 66]⟩ 369, .str ⟨#[61, 50, 67]⟩ 373, .str ⟨#[61, 50, 68]⟩ 377, .str ⟨#[61, 50, 69]⟩ 381, .str ⟨#[61, 50, 70]⟩ 385, .str ⟨#[61, 51, 48]⟩ 389, .str ⟨#[61, 51, 49]⟩ 393, .str ⟨#[61, 51, 50]⟩ 397, .str ⟨#[61, 51, 51]⟩ 401, .str ⟨#[61, 51, 52]⟩ 405, .str ⟨#[61, 51, 53]⟩ 409, .str ⟨#[61, 51, 54]⟩ 413, .str ⟨#[61, 51, 55]⟩ 417, .str ⟨#[61, 51, 56]⟩ 421, .str ⟨#[61, 51, 57]⟩ 425, .str ⟨#[61, 51, 65]⟩ 429, .str ⟨#[61, 51, 66]⟩ 433, .str ⟨#[61, 51, 67]⟩ 437, .str ⟨#[61, 51, 68]⟩ 441, .str ⟨#[61, 51, 69]⟩ 445, .str ⟨#[61, 51, 70]⟩ 449, .str ⟨#[61, 52, 48]⟩ 453, .str ⟨#[61, 52, 49]⟩ 457, .str ⟨#[61, 52, 50]⟩ 461, .str ⟨#[61, 52, 51]⟩ 465, .str ⟨#[61, 52, 52]⟩ 469, .str ⟨#[61, 52, 53]⟩ 473, .str ⟨#[61, 52, 54]⟩ 477, .str ⟨#[61, 52, 55]⟩ 481, .str ⟨#[61, 52, 56]⟩ 485, .str ⟨#[61, 52, 57]⟩ 489, .str ⟨#[61, 52, 65]⟩ 493, .str ⟨#[61, 52, 66]⟩ 497, .str ⟨#[61, 52, 67]⟩ 501, .str ⟨#[61, 52, 68]⟩ 505, .str ⟨#[61, 52, 69]⟩ 509, .str ⟨#[61, 52, 70]⟩ 513, .str ⟨#[61, 53, 48]⟩ 517, .str ⟨#[61, 53, 49]⟩ 521, .str ⟨#[61, 53, 50]⟩ 525, .str ⟨#[61, 53, 51]⟩ 529, .str ⟨#[61, 53, 52]⟩ 533, .str ⟨#[61, 53, 53]⟩ 537, .str ⟨#[61, 53, 54]⟩ 541, .str ⟨#[61, 53, 55]⟩ 545, .str ⟨#[61, 53, 56]⟩ 549, .str ⟨#[61, 53, 57]⟩ 553, .str ⟨#[61, 53, 65]⟩ 557, .str ⟨#[61, 53, 66]⟩ 561, .str ⟨#[61, 53, 67]⟩ 565, .str ⟨#[61, 53, 68]⟩ 569, .str ⟨#[61, 53, 69]⟩ 573, .str ⟨#[61, 53, 70]⟩ 577, .str ⟨#[61, 54, 48]⟩ 581, .str ⟨#[61, 54, 49]⟩ 585, .str ⟨#[61, 54, 50]⟩ 589, .str ⟨#[61, 54, 51]⟩ 593, .str ⟨#[61, 54, 52]⟩ 597, .str ⟨#[61, 54, 53]⟩ 601, .str ⟨#[61, 54, 54]⟩ 605, .str ⟨#[61, 54, 55]⟩ 609, .str ⟨#[61, 54, 56]⟩ 613, .str ⟨#[61, 54, 57]⟩ 617, .str ⟨#[61, 54, 65]⟩ 621, .str ⟨#[61, 54, 66]⟩ 625, .str ⟨#[61, 54, 67]⟩ 629, .str ⟨#[61, 54, 68]⟩ 633, .str ⟨#[61, 54, 69]⟩ 637, .str ⟨#[61, 54, 70]⟩ 641, .str ⟨#[61, 55, 48]⟩ 645, .str ⟨#[61, 55, 49]⟩ 649, .str ⟨#[61, 55, 50]⟩ 653, .str ⟨#[61, 55, 51]⟩ 657, .str ⟨#[61, 55, 52]⟩ 661, .str ⟨#[61, 55, 53]⟩ 665, .str ⟨#[61, 55, 54]⟩ 669, .str ⟨#[61, 55, 55]⟩ 673, .str ⟨#[61, 55, 56]⟩ 677, .str ⟨#[61, 55, 57]⟩ 681, .str ⟨#[61, 55, 65]⟩ 685, .str ⟨#[61, 55, 66]⟩ 689, .str ⟨#[61, 55, 67]⟩ 693, .str ⟨#[61, 55, 68]⟩ 697, .str ⟨#[61, 55, 69]⟩ 701, .str ⟨#[61, 55, 70]⟩ 705, .str ⟨#[61, 56, 48]⟩ 709, .str ⟨#[61, 56, 49]⟩ 713, .str ⟨#[61, 56, 50]⟩ 717, .str ⟨#[61, 56, 51]⟩ 721, .str ⟨#[61, 56, 52]⟩ 725, .str ⟨#[61, 56, 53]⟩ 729, .str ⟨#[61, 56, 54]⟩ 733, .str ⟨#[61, 56, 55]⟩ 737, .str ⟨#[61, 56, 56]⟩ 741, .str ⟨#[61, 56, 57]⟩ 745, .str ⟨#[61, 56, 65]⟩ 749, .str ⟨#[61, 56, 66]⟩ 753, .str ⟨#[61, 56, 67]⟩ 757, .str ⟨#[61, 56, 68]⟩ 761, .str ⟨#[61, 56, 69]⟩ 765, .str ⟨#[61, 56, 70]⟩ 769, .str ⟨#[61, 57, 48]⟩ 773, .str ⟨#[61, 57, 49]⟩ 777, .str ⟨#[61, 57, 50]⟩ 781, .str ⟨#[61, 57, 51]⟩ 785, .str ⟨#[61, 57, 52]⟩ 789, .str ⟨#[61, 57, 53]⟩ 793, .str ⟨#[61, 57, 54]⟩ 797, .str ⟨#[61, 57, 55]⟩ 801, .str ⟨#[61, 57, 56]⟩ 805, .str ⟨#[61, 57, 57]⟩ 809, .str ⟨#[61, 57, 65]⟩ 813, .str ⟨#[61, 57, 66]⟩ 817, .str ⟨#[61, 57, 67]⟩ 821, .str ⟨#[61, 57, 68]⟩ 825, .str ⟨#[61, 57, 69]⟩ 829, .str ⟨#[61, 57, 70]⟩ 833, .str ⟨#[61, 65, 48]⟩ 837, .str ⟨#[61, 65, 49]⟩ 841, .str ⟨#[61, 65, 50]⟩ 845, .str ⟨#[61, 65, 51]⟩ 849, .str ⟨#[61, 65, 52]⟩ 853, .str ⟨#[61, 65, 53]⟩ 857, .str ⟨#[61, 65, 54]⟩ 861, .str ⟨#[61, 65, 55]⟩ 865, .str ⟨#[61, 65, 56]⟩ 869, .str ⟨#[61, 65, 57]⟩ 873, .str ⟨#[61, 65, 65]⟩ 877, .str ⟨#[61, 65, 66]⟩ 881, .str ⟨#[61, 65, 67]⟩ 885, .str ⟨#[61, 65, 68]⟩ 889, .str ⟨#[61, 65, 69]⟩ 893, .str ⟨#[61, 65, 70]⟩ 897, .str ⟨#[61, 66, 48]⟩ 901, .str ⟨#[61, 66, 49]⟩ 905, .str ⟨#[61, 66, 50]⟩ 909, .str ⟨#[61, 66, 51]⟩ 913, .str ⟨#[61, 66, 52]⟩ 917, .str ⟨#[61, 66, 53]⟩ 921, .str ⟨#[61, 66, 54]⟩ 925, .str ⟨#[61, 66, 55]⟩ 929, .str ⟨#[61, 66, 56]⟩ 933, .str ⟨#[61, 66, 57]⟩ 937, .str ⟨#[61, 66, 65]⟩ 941, .str ⟨#[61, 66, 66]⟩ 945, .str ⟨#[61, 66, 67]⟩ 949, .str ⟨#[61, 66, 68]⟩ 953, .str ⟨#[61, 66, 69]⟩ 957, .str ⟨#[61, 66, 70]⟩ 961, .str ⟨#[61, 67, 48]⟩ 965, .str ⟨#[61, 67, 49]⟩ 969, .str ⟨#[61, 67, 50]⟩ 973, .str ⟨#[61, 67, 51]⟩ 977, .str ⟨#[61, 67, 52]⟩ 981, .str ⟨#[61, 67, 53]⟩ 985, .str ⟨#[61, 67, 54]⟩ 989, .str ⟨#[61, 67, 55]⟩ 993, .str ⟨#[61, 67, 56]⟩ 997, .str ⟨#[61, 67, 57]⟩ 1001, .str ⟨#[61, 67, 65]⟩ 1005, .str ⟨#[61, 67, 66]⟩ 1009, .str ⟨#[61, 67, 67]⟩ 1013, .str ⟨#[61, 67, 68]⟩ 1017, .str ⟨#[61, 67, 69]⟩ 1021, .str ⟨#[61, 67, 70]⟩ 1025, .str ⟨#[61, 68, 48]⟩ 1029, .str ⟨#[61, 68, 49]⟩ 1033, .str ⟨#[61, 68, 50]⟩ 1037, .str ⟨#[61, 68, 51]⟩ 1041, .str ⟨#[61, 68, 52]⟩ 1045, .str ⟨#[61, 68, 53]⟩ 1049, .str ⟨#[61, 68, 54]⟩ 1053, .str ⟨#[61, 68, 55]⟩ 1057, .str ⟨#[61, 68, 56]⟩ 1061, .str ⟨#[61, 68, 57]⟩ 1065, .str ⟨#[61, 68, 65]⟩ 1069, .str ⟨#[61, 68, 66]⟩ 1073, .str ⟨#[61, 68, 67]⟩ 1077, .str ⟨#[61, 68, 68]⟩ 1081, .str ⟨#[61, 68, 69]⟩ 1085, .str ⟨#[61, 68, 70]⟩ 1089, .str ⟨#[61, 69, 48]⟩ 1093, .str ⟨#[61, 69, 49]⟩ 1097, .str ⟨#[61, 69, 50]⟩ 1101, .str ⟨#[61, 69, 51]⟩ 1105, .str ⟨#[61, 69, 52]⟩ 1109, .str ⟨#[61, 69, 53]⟩ 1113, .str ⟨#[61, 69, 54]⟩ 1117, .str ⟨#[61, 69, 55]⟩ 1121, .str ⟨#[61, 69, 56]⟩ 1125, .str ⟨#[61, 69, 57]⟩ 1129, .str ⟨#[61, 69, 65]⟩ 1133, .str ⟨#[61, 69, 66]⟩ 1137, .str ⟨#[61, 69, 67]⟩ 1141, .str ⟨#[61, 69, 68]⟩ 1145, .str ⟨#[61, 69, 69]⟩ 1149, .str ⟨#[61, 69, 70]⟩ 1153, .str ⟨#[61, 70, 48]⟩ 1157, .str ⟨#[61, 70, 49]⟩ 1161, .str ⟨#[61, 70, 50]⟩ 1165, .str ⟨#[61, 70, 51]⟩ 1169, .str ⟨#[61, 70, 52]⟩ 1173, .str ⟨#[61, 70, 53]⟩ 1177, .str ⟨#[61, 70, 54]⟩ 1181, .str ⟨#[61, 70, 55]⟩ 1185, .str ⟨#[61, 70, 56]⟩ 1189, .str ⟨#[61, 70, 57]⟩ 1193, .str ⟨#[61, 70, 65]⟩ 1197, .str ⟨#[61, 70, 66]⟩ 1201, .str ⟨#[61, 70, 67]⟩ 1205, .str ⟨#[61, 70, 68]⟩ 1209, .str ⟨#[61, 70, 69]⟩ 1213, .str ⟨#[61, 70, 70]⟩ 1217]).toArray 0, #[]⟩
noncomputable def tr_s9 (P : Params) : BT := (.node (boot_o_0 P) (.node (boot_o_1 P) (.node (o3_16 P) (.node (boot_o_7 P) (.node (o15_10 P) .nil .nil) (.node (o23_19 P) .nil .nil)) (.node (o11_0 P) (.node (o19_14 P) .nil .nil) .nil)) (.node (boot_o_5 P) (.node (boot_o_9 P) (.node (o17_12 P) .nil .nil) .nil) (.node (o13_2 P) (.node (o21_17 P) .nil .nil) .nil))) (.node (boot_o_2 P) (.node (boot_o_4 P) (.node (boot_o_8 P) (.node (o16_11 P) .nil .nil) (.node (o24_20 P) .nil .nil)) (.node (o12_1 P) (.node (o20_15 P) .nil .nil) .nil)) (.node (boot_o_6 P) (.node (boot_o_10 P) (.node (o18_13 P) .nil .nil) .nil) (.node (o14_3 P) (.node (o22_18 P) .nil .nil) .nil))))
noncomputable def s9 (w : World) (os : OsState) : SharedT := ⟨tr_s9 w.params, 25, life0, Array.mk [], boot_drawn, 1231, os⟩
noncomputable def gr3_sts : List Stmt := [stm 3, stm 4, stm 5, stm 6, stm 7, stm 8, stm 9]
theorem gr3_q (w : World) (os : OsState) : PySem.W.Fast.tw10110043849684766642 PySem.W.Fast.tw14364793385576792824 PR w 11 ann0 1 109 (s2 w os) ⟨(PySem.W.Fast.tw12563942051412417395 gr3_sts env0).wrap doneF deadEnd id id, cE, ⟨3, 0, 3, 11⟩, B0⟩ = some (.next, s9 w os, cE, ⟨10, 0, 10, 8⟩) := by kernel_rfl
def gr3_P (w : World) : Prop := ∀ os : OsState, segRun treeTable PR w 11 ann0 1 109 (s2 w os).abs (piecesOf gr3_sts env0 cE ⟨3, 0, 3, 11⟩ B0) = some (.next, (s9 w os).abs, cE, ⟨10, 0, 10, 8⟩)
theorem gr3_all (w : World) : gr3_P w := (fun os => startR (gr3_q w os))
noncomputable def o3_21 (P : Params) : Obj := ⟨.type "dict", none, .dict ([⟨PyData.keyHash P ⟨#[95, 95, 110, 97, 109, 101, 95, 95]⟩, .str ⟨#[95, 95, 110, 97, 109, 101, 95, 95]⟩ 165, .str ⟨#[99, 112, 121, 51, 49, 51, 46, 101, 109, 97, 105, 108, 46, 113, 117, 111, 112, 114, 105, 109, 105, 109, 101]⟩ 1229⟩, ⟨PyData.keyHash P ⟨#[95, 95, 100, 111, 99, 95, 95]⟩, .str ⟨#[95, 95, 100, 111, 99, 95, 95]⟩ 166, .none⟩, ⟨PyData.keyHash P ⟨#[95, 95, 112, 97, 99, 107, 97, 103, 101, 95, 95]⟩, .str ⟨#[95, 95, 112, 97, 99, 107, 97, 103, 101, 95, 95]⟩ 167, .none⟩, ⟨PyData.keyHash P ⟨#[95, 95, 108, 111, 97, 100, 101, 114, 95, 95]⟩, .str ⟨#[95, 95, 108, 111, 97, 100, 101, 114, 95, 95]⟩ 168, .builtin "__main__.__loader__#opaque"⟩, ⟨PyData.keyHash P ⟨#[95, 95, 115, 112, 101, 99, 95, 95]⟩, .str ⟨#[95, 95, 115, 112, 101, 99, 95, 95]⟩ 169, .none⟩, ⟨PyData.keyHash P ⟨#[95, 95, 97, 110, 110, 111, 116, 97, 116, 105, 111, 110, 115, 95, 95]⟩, .str ⟨#[95, 95, 97, 110, 110, 111, 116, 97, 116, 105, 111, 110, 115, 95, 95]⟩ 170, .ref 6⟩, ⟨PyData.keyHash P ⟨#[95, 95, 98, 117, 105, 108, 116, 105, 110, 115, 95, 95]⟩, .str ⟨#[95, 95, 98, 117, 105, 108, 116, 105, 110, 115, 95, 95]⟩ 171, .ref 4⟩, ⟨PyData.keyHash P ⟨#[95, 95, 102, 105, 108, 101, 95, 95]⟩, .str ⟨#[95, 95, 102, 105, 108, 101, 95, 95]⟩ 173, .str ⟨#[47, 99, 108, 97, 105, 109, 47, 99, 117, 116, 46, 112, 121]⟩ 172⟩, ⟨PyData.keyHash P ⟨#[95, 95, 99, 97, 99, 104, 101, 100, 95, 95]⟩, .str ⟨#[95, 95, 99, 97, 99, 104, 101, 100, 95, 95]⟩ 174, .none⟩, ⟨PyData.keyHash P ⟨#[67, 82, 76, 70]⟩, .str ⟨#[67, 82, 76, 70]⟩ 188, .str ⟨#[13, 10]⟩ 187⟩, ⟨PyData.keyHash P ⟨#[78, 76]⟩, .str ⟨#[78, 76]⟩ 190, .str ⟨#[10]⟩ 189⟩, ⟨PyData.keyHash P ⟨#[95, 81, 85, 79, 80, 82, 73, 95, 77, 65, 80]⟩, .str ⟨#[95, 81, 85, 79, 80, 82, 73, 95, 77, 65, 80]⟩ 1218, .ref 17⟩, ⟨PyData.keyHash P ⟨#[95, 81, 85, 79, 80, 82, 73, 95, 72, 69, 65, 68, 69, 82, 95, 77, 65, 80]⟩, .str ⟨#[95, 81, 85, 79, 80, 82, 73, 95, 72, 69, 65, 68, 69, 82, 95, 77, 65, 80]⟩ 1219, .ref 22⟩, ⟨PyData.keyHash P ⟨#[95, 81, 85, 79, 80, 82, 73, 95, 66, 79, 68, 89, 95, 77, 65, 80]⟩, .str ⟨#[95, 81, 85, 79, 80, 82, 73, 95, 66, 79, 68, 89, 95, 77, 65, 80]⟩ 1220, .ref 24⟩, ⟨PyData.keyHash P ⟨#[97, 115, 99, 105, 105, 95, 108, 111, 119, 101, 114, 99, 97, 115, 101]⟩, .str ⟨#[97, 115, 99, 105, 105, 95, 108, 111, 119, 101, 114, 99, 97, 115, 101]⟩ 1222, .str ⟨#[97, 98, 99, 100, 101, 102, 103, 104, 105, 106, 107, 108, 109, 110, 111, 112, 113, 114, 115, 116, 117, 118, 119, 120, 121, 122]⟩ 1221⟩, ⟨PyData.keyHash P ⟨#[97, 115, 99, 105, 105, 95, 117, 112, 112, 101, 114, 99, 97, 115, 101]⟩, .str ⟨#[97, 115, 99, 105, 105, 95, 117, 112, 112, 101, 114, 99, 97, 115, 101]⟩ 1224, .str ⟨#[65, 66, 67, 68, 69, 70, 71, 72, 73, 74, 75, 76, 77, 78, 79, 80, 81, 82, 83, 84, 85, 86, 87, 88, 89, 90]⟩ 1223⟩, ⟨PyData.keyHash P ⟨#[97, 115, 99, 105, 105, 95, 108, 101, 116, 116, 101, 114, 115]⟩, .str ⟨#[97, 115, 99, 105, 105, 95, 108, 101, 116, 116, 101, 114, 115]⟩ 1226, .str ⟨#[97, 98, 99, 100, 101, 102, 103, 104, 105, 106, 107, 108, 109, 110, 111, 112, 113, 114, 115, 116, 117, 118, 119, 120, 121, 122, 65, 66, 67, 68, 69, 70, 71, 72, 73, 74, 75, 76, 77, 78, 79, 80, 81, 82, 83, 84, 85, 86, 87, 88, 89, 90]⟩ 1225⟩, ⟨PyData.keyHash P ⟨#[100, 105, 103, 105, 116, 115]⟩, .str ⟨#[100, 105, 103, 105, 116, 115]⟩ 1228, .str ⟨#[48, 49, 50, 51, 52, 53, 54, 55, 56, 57]⟩ 1227⟩, ⟨PyData.keyHash P ⟨#[99]⟩, .str ⟨#[99]⟩ 1239, .int 45 1238⟩]).toArray 19, #[]⟩
noncomputable def o22_22 (P : Params) : Obj := ⟨.type "list", none, .seq ([.str ⟨#[61, 48, 48]⟩ 197, .str ⟨#[61, 48, 49]⟩ 201, .str ⟨#[61, 48, 50]⟩ 205, .str ⟨#[61, 48, 51]⟩ 209, .str ⟨#[61, 48, 52]⟩ 213, .str ⟨#[61, 48, 53]⟩ 217, .str ⟨#[61, 48, 54]⟩ 221, .str ⟨#[61, 48, 55]⟩ 225, .str ⟨#[61, 48, 56]⟩ 229, .str ⟨#[61, 48, 57]⟩ 233, .str ⟨#[61, 48, 65]⟩ 237, .str ⟨#[61, 48, 66]⟩ 241, .str ⟨#[61, 48, 67]⟩ 245, .str ⟨#[61, 48, 68]⟩ 249, .str ⟨#[61, 48, 69]⟩ 253, .str ⟨#[61, 48, 70]⟩ 257, .str ⟨#[61, 49, 48]⟩ 261, .str ⟨#[61, 49, 49]⟩ 265, .str ⟨#[61, 49, 50]⟩ 269, .str ⟨#[61, 49, 51]⟩ 273, .str ⟨#[61, 49, 52]⟩ 277, .str ⟨#[61, 49, 53]⟩ 281, .str ⟨#[61, 49, 54]⟩ 285, .str ⟨#[61, 49, 55]⟩ 289, .str ⟨#[61, 49, 56]⟩ 293, .str ⟨#[61, 49, 57]⟩ 297, .str ⟨#[61, 49, 65]⟩ 301, .str ⟨#[61, 49, 66]⟩ 305, .str ⟨#[61, 49, 67]⟩ 309, .str ⟨#[61, 49, 68]⟩ 313, .str ⟨#[61, 49, 69]⟩ 317, .str ⟨#[61, 49, 70]⟩ 321, .str ⟨#[61, 50, 48]⟩ 325, .str ⟨#[61, 50, 49]⟩ 329, .str ⟨#[61, 50, 50]⟩ 333, .str ⟨#[61, 50, 51]⟩ 337, .str ⟨#[61, 50, 52]⟩ 341, .str ⟨#[61, 50, 53]⟩ 345, .str ⟨#[61, 50, 54]⟩ 349, .str ⟨#[61, 50, 55]⟩ 353, .str ⟨#[61, 50, 56]⟩ 357, .str ⟨#[61, 50, 57]⟩ 361, .str ⟨#[61, 50, 65]⟩ 365, .str ⟨#[61, 50, 66]⟩ 369, .str ⟨#[61, 50, 67]⟩ 373, .str ⟨#[45]⟩ 1240, .str ⟨#[61, 50, 69]⟩ 381, .str ⟨#[61, 50, 70]⟩ 385, .str ⟨#[61, 51, 48]⟩ 389, .str ⟨#[61, 51, 49]⟩ 393, .str ⟨#[61, 51, 50]⟩ 397, .str ⟨#[61, 51, 51]⟩ 401, .str ⟨#[61, 51, 52]⟩ 405, .str ⟨#[61, 51, 53]⟩ 409, .str ⟨#[61, 51, 54]⟩ 413, .str ⟨#[61, 51, 55]⟩ 417, .str ⟨#[61, 51, 56]⟩ 421, .str ⟨#[61, 51, 57]⟩ 425, .str ⟨#[61, 51, 65]⟩ 429, .str ⟨#[61, 51, 66]⟩ 433, .str ⟨#[61, 51, 67]⟩ 437, .str ⟨#[61, 51, 68]⟩ 441, .str ⟨#[61, 51, 69]⟩ 445, .str ⟨#[61, 51, 70]⟩ 449, .str ⟨#[61, 52, 48]⟩ 453, .str ⟨#[61, 52, 49]⟩ 457, .str ⟨#[61, 52, 50]⟩ 461, .str ⟨#[61, 52, 51]⟩ 465, .str ⟨#[61, 52, 52]⟩ 469, .str ⟨#[61, 52, 53]⟩ 473, .str ⟨#[61, 52, 54]⟩ 477, .str ⟨#[61, 52, 55]⟩ 481, .str ⟨#[61, 52, 56]⟩ 485, .str ⟨#[61, 52, 57]⟩ 489, .str ⟨#[61, 52, 65]⟩ 493, .str ⟨#[61, 52, 66]⟩ 497, .str ⟨#[61, 52, 67]⟩ 501, .str ⟨#[61, 52, 68]⟩ 505, .str ⟨#[61, 52, 69]⟩ 509, .str ⟨#[61, 52, 70]⟩ 513, .str ⟨#[61, 53, 48]⟩ 517, .str ⟨#[61, 53, 49]⟩ 521, .str ⟨#[61, 53, 50]⟩ 525, .str ⟨#[61, 53, 51]⟩ 529, .str ⟨#[61, 53, 52]⟩ 533, .str ⟨#[61, 53, 53]⟩ 537, .str ⟨#[61, 53, 54]⟩ 541, .str ⟨#[61, 53, 55]⟩ 545, .str ⟨#[61, 53, 56]⟩ 549, .str ⟨#[61, 53, 57]⟩ 553, .str ⟨#[61, 53, 65]⟩ 557, .str ⟨#[61, 53, 66]⟩ 561, .str ⟨#[61, 53, 67]⟩ 565, .str ⟨#[61, 53, 68]⟩ 569, .str ⟨#[61, 53, 69]⟩ 573, .str ⟨#[61, 53, 70]⟩ 577, .str ⟨#[61, 54, 48]⟩ 581, .str ⟨#[61, 54, 49]⟩ 585, .str ⟨#[61, 54, 50]⟩ 589, .str ⟨#[61, 54, 51]⟩ 593, .str ⟨#[61, 54, 52]⟩ 597, .str ⟨#[61, 54, 53]⟩ 601, .str ⟨#[61, 54, 54]⟩ 605, .str ⟨#[61, 54, 55]⟩ 609, .str ⟨#[61, 54, 56]⟩ 613, .str ⟨#[61, 54, 57]⟩ 617, .str ⟨#[61, 54, 65]⟩ 621, .str ⟨#[61, 54, 66]⟩ 625, .str ⟨#[61, 54, 67]⟩ 629, .str ⟨#[61, 54, 68]⟩ 633, .str ⟨#[61, 54, 69]⟩ 637, .str ⟨#[61, 54, 70]⟩ 641, .str ⟨#[61, 55, 48]⟩ 645, .str ⟨#[61, 55, 49]⟩ 649, .str ⟨#[61, 55, 50]⟩ 653, .str ⟨#[61, 55, 51]⟩ 657, .str ⟨#[61, 55, 52]⟩ 661, .str ⟨#[61, 55, 53]⟩ 665, .str ⟨#[61, 55, 54]⟩ 669, .str ⟨#[61, 55, 55]⟩ 673, .str ⟨#[61, 55, 56]⟩ 677, .str ⟨#[61, 55, 57]⟩ 681, .str ⟨#[61, 55, 65]⟩ 685, .str ⟨#[61, 55, 66]⟩ 689, .str ⟨#[61, 55, 67]⟩ 693, .str ⟨#[61, 55, 68]⟩ 697, .str ⟨#[61, 55, 69]⟩ 701, .str ⟨#[61, 55, 70]⟩ 705, .str ⟨#[61, 56, 48]⟩ 709, .str ⟨#[61, 56, 49]⟩ 713, .str ⟨#[61, 56, 50]⟩ 717, .str ⟨#[61, 56, 51]⟩ 721, .str ⟨#[61, 56, 52]⟩ 725, .str ⟨#[61, 56, 53]⟩ 729, .str ⟨#[61, 56, 54]⟩ 733, .str ⟨#[61, 56, 55]⟩ 737, .str ⟨#[61, 56, 56]⟩ 741, .str ⟨#[61, 56, 57]⟩ 745, .str ⟨#[61, 56, 65]⟩ 749, .str ⟨#[61, 56, 66]⟩ 753, .str ⟨#[61, 56, 67]⟩ 757, .str ⟨#[61, 56, 68]⟩ 761, .str ⟨#[61, 56, 69]⟩ 765, .str ⟨#[61, 56, 70]⟩ 769, .str ⟨#[61, 57, 48]⟩ 773, .str ⟨#[61, 57, 49]⟩ 777, .str ⟨#[61, 57, 50]⟩ 781, .str ⟨#[61, 57, 51]⟩ 785, .str ⟨#[61, 57, 52]⟩ 789, .str ⟨#[61, 57, 53]⟩ 793, .str ⟨#[61, 57, 54]⟩ 797, .str ⟨#[61, 57, 55]⟩ 801, .str ⟨#[61, 57, 56]⟩ 805, .str ⟨#[61, 57, 57]⟩ 809, .str ⟨#[61, 57, 65]⟩ 813, .str ⟨#[61, 57, 66]⟩ 817, .str ⟨#[61, 57, 67]⟩ 821, .str ⟨#[61, 57, 68]⟩ 825, .str ⟨#[61, 57, 69]⟩ 829, .str ⟨#[61, 57, 70]⟩ 833, .str ⟨#[61, 65, 48]⟩ 837, .str ⟨#[61, 65, 49]⟩ 841, .str ⟨#[61, 65, 50]⟩ 845, .str ⟨#[61, 65, 51]⟩ 849, .str ⟨#[61, 65, 52]⟩ 853, .str ⟨#[61, 65, 53]⟩ 857, .str ⟨#[61, 65, 54]⟩ 861, .str ⟨#[61, 65, 55]⟩ 865, .str ⟨#[61, 65, 56]⟩ 869, .str ⟨#[61, 65, 57]⟩ 873, .str ⟨#[61, 65, 65]⟩ 877, .str ⟨#[61, 65, 66]⟩ 881, .str ⟨#[61, 65, 67]⟩ 885, .str ⟨#[61, 65, 68]⟩ 889, .str ⟨#[61, 65, 69]⟩ 893, .str ⟨#[61, 65, 70]⟩ 897, .str ⟨#[61, 66, 48]⟩ 901, .str ⟨#[61, 66, 49]⟩ 905, .str ⟨#[61, 66, 50]⟩ 909, .str ⟨#[61, 66, 51]⟩ 913, .str ⟨#[61, 66, 52]⟩ 917, .str ⟨#[61, 66, 53]⟩ 921, .str ⟨#[61, 66, 54]⟩ 925, .str ⟨#[61, 66, 55]⟩ 929, .str ⟨#[61, 66, 56]⟩ 933, .str ⟨#[61, 66, 57]⟩ 937, .str ⟨#[61, 66, 65]⟩ 941, .str ⟨#[61, 66, 66]⟩ 945, .str ⟨#[61, 66, 67]⟩ 949, .str ⟨#[61, 66, 68]⟩ 953, .str ⟨#[61, 66, 69]⟩ 957, .str ⟨#[61, 66, 70]⟩ 961, .str ⟨#[61, 67, 48]⟩ 965, .str ⟨#[61, 67, 49]⟩ 969, .str ⟨#[61, 67, 50]⟩ 973, .str ⟨#[61, 67, 51]⟩ 977, .str ⟨#[61, 67, 52]⟩ 981, .str ⟨#[61, 67, 53]⟩ 985, .str ⟨#[61, 67, 54]⟩ 989, .str ⟨#[61, 67, 55]⟩ 993, .str ⟨#[61, 67, 56]⟩ 997, .str ⟨#[61, 67, 57]⟩ 1001, .str ⟨#[61, 67, 65]⟩ 1005, .str ⟨#[61, 67, 66]⟩ 1009, .str ⟨#[61, 67, 67]⟩ 1013, .str ⟨#[61, 67, 68]⟩ 1017, .str ⟨#[61, 67, 69]⟩ 1021, .str ⟨#[61, 67, 70]⟩ 1025, .str ⟨#[61, 68, 48]⟩ 1029, .str ⟨#[61, 68, 49]⟩ 1033, .str ⟨#[61, 68, 50]⟩ 1037, .str ⟨#[61, 68, 51]⟩ 1041, .str ⟨#[61, 68, 52]⟩ 1045, .str ⟨#[61, 68, 53]⟩ 1049, .str ⟨#[61, 68, 54]⟩ 1053, .str ⟨#[61, 68, 55]⟩ 1057, .str ⟨#[61, 68, 56]⟩ 1061, .str ⟨#[61, 68, 57]⟩ 1065, .str ⟨#[61, 68, 65]⟩ 1069, .str ⟨#[61, 68, 66]⟩ 1073, .str ⟨#[61, 68, 67]⟩ 1077, .str ⟨#[61, 68, 68]⟩ 1081, .str ⟨#[61, 68, 69]⟩ 1085, .str ⟨#[61, 68, 70]⟩ 1089, .str ⟨#[61, 69, 48]⟩ 1093, .str ⟨#[61, 69, 49]⟩ 1097, .str ⟨#[61, 69, 50]⟩ 1101, .str ⟨#[61, 69, 51]⟩ 1105, .str ⟨#[61, 69, 52]⟩ 1109, .str ⟨#[61, 69, 53]⟩ 1113, .str ⟨#[61, 69, 54]⟩ 1117, .str ⟨#[61, 69, 55]⟩ 1121, .str ⟨#[61, 69, 56]⟩ 1125, .str ⟨#[61, 69, 57]⟩ 1129, .str ⟨#[61, 69, 65]⟩ 1133, .str ⟨#[61, 69, 66]⟩ 1137, .str ⟨#[61, 69, 67]⟩ 1141, .str ⟨#[61, 69, 68]⟩ 1145, .str ⟨#[61, 69, 69]⟩ 1149, .str ⟨#[61, 69, 70]⟩ 1153, .str ⟨#[61, 70, 48]⟩ 1157, .str ⟨#[61, 70, 49]⟩ 1161, .str ⟨#[61, 70, 50]⟩ 1165, .str ⟨#[61, 70, 51]⟩ 1169, .str ⟨#[61, 70, 52]⟩ 1173, .str ⟨#[61, 70, 53]⟩ 1177, .str ⟨#[61, 70, 54]⟩ 1181, .str ⟨#[61, 70, 55]⟩ 1185, .str ⟨#[61, 70, 56]⟩ 1189, .str ⟨#[61, 70, 57]⟩ 1193, .str ⟨#[61, 70, 65]⟩ 1197, .str ⟨#[61, 70, 66]⟩ 1201, .str ⟨#[61, 70, 67]⟩ 1205, .str ⟨#[61, 70, 68]⟩ 1209, .str ⟨#[61, 70, 69]⟩ 1213, .str ⟨#[61, 70, 70]⟩ 1217]).toArray 0, #[]⟩
noncomputable def o25_23 (P : Params) : Obj := ⟨.type "bytes_iterator", none, .fields ([.bytes #[45, 33, 42, 43, 47, 97, 98, 99, 100, 101, 102, 103, 104, 105, 106, 107, 108, 109, 110, 111, 112, 113, 114, 115, 116, 117, 118, 119, 120, 121, 122, 65, 66, 67, 68, 69, 70, 71, 72, 73, 74, 75, 76, 77, 78, 79, 80, 81, 82, 83, 84, 85, 86, 87, 88, 89, 90, 48, 49, 50, 51, 52, 53, 54, 55, 56, 57] 1237, .int 1 0]).toArray, #[]⟩
noncomputable def tr_lp10 (P : Params) (a3 a22 a25 : Obj) : BT := (.node (boot_o_0 P) (.node (boot_o_1 P) (.node (a3) (.node (boot_o_7 P) (.node (o15_10 P) .nil .nil) (.node (o23_19 P) .nil .nil)) (.node (o11_0 P) (.node (o19_14 P) .nil .nil) .nil)) (.node (boot_o_5 P) (.node (boot_o_9 P) (.node (o17_12 P) .nil .nil) (.node (a25) .nil .nil)) (.node (o13_2 P) (.node (o21_17 P) .nil .nil) .nil))) (.node (boot_o_2 P) (.node (boot_o_4 P) (.node (boot_o_8 P) (.node (o16_11 P) .nil .nil) (.node (o24_20 P) .nil .nil)) (.node (o12_1 P) (.node (o20_15 P) .nil .nil) .nil)) (.node (boot_o_6 P) (.node (boot_o_10 P) (.node (o18_13 P) .nil .nil) .nil) (.node (o14_3 P) (.node (a22) .nil .nil) .nil))))
noncomputable def lp10_r22 : List Nat := [9999, 9999, 9999, 9999, 9999, 9999, 9999, 9999, 9999, 9999, 9999, 9999, 9999, 9999, 9999, 9999, 9999, 9999, 9999, 9999, 9999, 9999, 9999, 9999, 9999, 9999, 9999, 9999, 9999, 9999, 9999, 9999, 9999, 2, 9999, 9999, 9999, 9999, 9999, 9999, 9999, 9999, 3, 4, 9999, 9999, 9999, 5, 58, 59, 60, 61, 62, 63, 64, 65, 66, 67, 9999, 9999, 9999, 9999, 9999, 9999, 9999, 32, 33, 34, 35, 36, 37, 38, 39, 40, 41, 42, 43, 44, 45, 46, 47, 48, 49, 50, 51, 52, 53, 54, 55, 56, 57, 9999, 9999, 9999, 9999, 9999, 9999, 6, 7, 8, 9, 10, 11, 12, 13, 14, 15, 16, 17, 18, 19, 20, 21, 22, 23, 24, 25, 26, 27, 28, 29, 30, 31, 9999, 9999, 9999, 9999, 9999, 9999, 9999, 9999, 9999, 9999, 9999, 9999, 9999, 9999, 9999, 9999, 9999, 9999, 9999, 9999, 9999, 9999, 9999, 9999, 9999, 9999, 9999, 9999, 9999, 9999, 9999, 9999, 9999, 9999, 9999, 9999, 9999, 9999, 9999, 9999, 9999, 9999, 9999, 9999, 9999, 9999, 9999, 9999, 9999, 9999, 9999, 9999, 9999, 9999, 9999, 9999, 9999, 9999, 9999, 9999, 9999, 9999, 9999, 9999, 9999, 9999, 9999, 9999, 9999, 9999, 9999, 9999, 9999, 9999, 9999, 9999, 9999, 9999, 9999, 9999, 9999, 9999, 9999, 9999, 9999, 9999, 9999, 9999, 9999, 9999, 9999, 9999, 9999, 9999, 9999, 9999, 9999, 9999, 9999, 9999, 9999, 9999, 9999, 9999, 9999, 9999, 9999, 9999, 9999, 9999, 9999, 9999, 9999, 9999, 9999, 9999, 9999, 9999, 9999, 9999, 9999, 9999, 9999, 9999, 9999, 9999, 9999, 9999, 9999, 9999, 9999, 9999, 9999]
noncomputable def lp10_x22 : List Value := [.str ⟨#[61, 48, 48]⟩ 197, .str ⟨#[61, 48, 49]⟩ 201, .str ⟨#[61, 48, 50]⟩ 205, .str ⟨#[61, 48, 51]⟩ 209, .str ⟨#[61, 48, 52]⟩ 213, .str ⟨#[61, 48, 53]⟩ 217, .str ⟨#[61, 48, 54]⟩ 221, .str ⟨#[61, 48, 55]⟩ 225, .str ⟨#[61, 48, 56]⟩ 229, .str ⟨#[61, 48, 57]⟩ 233, .str ⟨#[61, 48, 65]⟩ 237, .str ⟨#[61, 48, 66]⟩ 241, .str ⟨#[61, 48, 67]⟩ 245, .str ⟨#[61, 48, 68]⟩ 249, .str ⟨#[61, 48, 69]⟩ 253, .str ⟨#[61, 48, 70]⟩ 257, .str ⟨#[61, 49, 48]⟩ 261, .str ⟨#[61, 49, 49]⟩ 265, .str ⟨#[61, 49, 50]⟩ 269, .str ⟨#[61, 49, 51]⟩ 273, .str ⟨#[61, 49, 52]⟩ 277, .str ⟨#[61, 49, 53]⟩ 281, .str ⟨#[61, 49, 54]⟩ 285, .str ⟨#[61, 49, 55]⟩ 289, .str ⟨#[61, 49, 56]⟩ 293, .str ⟨#[61, 49, 57]⟩ 297, .str ⟨#[61, 49, 65]⟩ 301, .str ⟨#[61, 49, 66]⟩ 305, .str ⟨#[61, 49, 67]⟩ 309, .str ⟨#[61, 49, 68]⟩ 313, .str ⟨#[61, 49, 69]⟩ 317, .str ⟨#[61, 49, 70]⟩ 321, .str ⟨#[61, 50, 48]⟩ 325, .str ⟨#[61, 50, 49]⟩ 329, .str ⟨#[61, 50, 50]⟩ 333, .str ⟨#[61, 50, 51]⟩ 337, .str ⟨#[61, 50, 52]⟩ 341, .str ⟨#[61, 50, 53]⟩ 345, .str ⟨#[61, 50, 54]⟩ 349, .str ⟨#[61, 50, 55]⟩ 353, .str ⟨#[61, 50, 56]⟩ 357, .str ⟨#[61, 50, 57]⟩ 361, .str ⟨#[61, 50, 65]⟩ 365, .str ⟨#[61, 50, 66]⟩ 369, .str ⟨#[61, 50, 67]⟩ 373, .str ⟨#[45]⟩ 1240, .str ⟨#[61, 50, 69]⟩ 381, .str ⟨#[61, 50, 70]⟩ 385, .str ⟨#[61, 51, 48]⟩ 389, .str ⟨#[61, 51, 49]⟩ 393, .str ⟨#[61, 51, 50]⟩ 397, .str ⟨#[61, 51, 51]⟩ 401, .str ⟨#[61, 51, 52]⟩ 405, .str ⟨#[61, 51, 53]⟩ 409, .str ⟨#[61, 51, 54]⟩ 413, .str ⟨#[61, 51, 55]⟩ 417, .str ⟨#[61, 51, 56]⟩ 421, .str ⟨#[61, 51, 57]⟩ 425, .str ⟨#[61, 51, 65]⟩ 429, .str ⟨#[61, 51, 66]⟩ 433, .str ⟨#[61, 51, 67]⟩ 437, .str ⟨#[61, 51, 68]⟩ 441, .str ⟨#[61, 51, 69]⟩ 445, .str ⟨#[61, 51, 70]⟩ 449, .str ⟨#[61, 52, 48]⟩ 453, .str ⟨#[61, 52, 49]⟩ 457, .str ⟨#[61, 52, 50]⟩ 461, .str ⟨#[61, 52, 51]⟩ 465, .str ⟨#[61, 52, 52]⟩ 469, .str ⟨#[61, 52, 53]⟩ 473, .str ⟨#[61, 52, 54]⟩ 477, .str ⟨#[61, 52, 55]⟩ 481, .str ⟨#[61, 52, 56]⟩ 485, .str ⟨#[61, 52, 57]⟩ 489, .str ⟨#[61, 52, 65]⟩ 493, .str ⟨#[61, 52, 66]⟩ 497, .str ⟨#[61, 52, 67]⟩ 501, .str ⟨#[61, 52, 68]⟩ 505, .str ⟨#[61, 52, 69]⟩ 509, .str ⟨#[61, 52, 70]⟩ 513, .str ⟨#[61, 53, 48]⟩ 517, .str ⟨#[61, 53, 49]⟩ 521, .str ⟨#[61, 53, 50]⟩ 525, .str ⟨#[61, 53, 51]⟩ 529, .str ⟨#[61, 53, 52]⟩ 533, .str ⟨#[61, 53, 53]⟩ 537, .str ⟨#[61, 53, 54]⟩ 541, .str ⟨#[61, 53, 55]⟩ 545, .str ⟨#[61, 53, 56]⟩ 549, .str ⟨#[61, 53, 57]⟩ 553, .str ⟨#[61, 53, 65]⟩ 557, .str ⟨#[61, 53, 66]⟩ 561, .str ⟨#[61, 53, 67]⟩ 565, .str ⟨#[61, 53, 68]⟩ 569, .str ⟨#[61, 53, 69]⟩ 573, .str ⟨#[61, 53, 70]⟩ 577, .str ⟨#[61, 54, 48]⟩ 581, .str ⟨#[61, 54, 49]⟩ 585, .str ⟨#[61, 54, 50]⟩ 589, .str ⟨#[61, 54, 51]⟩ 593, .str ⟨#[61, 54, 52]⟩ 597, .str ⟨#[61, 54, 53]⟩ 601, .str ⟨#[61, 54, 54]⟩ 605, .str ⟨#[61, 54, 55]⟩ 609, .str ⟨#[61, 54, 56]⟩ 613, .str ⟨#[61, 54, 57]⟩ 617, .str ⟨#[61, 54, 65]⟩ 621, .str ⟨#[61, 54, 66]⟩ 625, .str ⟨#[61, 54, 67]⟩ 629, .str ⟨#[61, 54, 68]⟩ 633, .str ⟨#[61, 54, 69]⟩ 637, .str ⟨#[61, 54, 70]⟩ 641, .str ⟨#[61, 55, 48]⟩ 645, .str ⟨#[61, 55, 49]⟩ 649, .str ⟨#[61, 55, 50]⟩ 653, .str ⟨#[61, 55, 51]⟩ 657, .str ⟨#[61, 55, 52]⟩ 661, .str ⟨#[61, 55, 53]⟩ 665, .str ⟨#[61, 55, 54]⟩ 669, .str ⟨#[61, 55, 55]⟩ 673, .str ⟨#[61, 55, 56]⟩ 677, .str ⟨#[61, 55, 57]⟩ 681, .str ⟨#[61, 55, 65]⟩ 685, .str ⟨#[61, 55, 66]⟩ 689, .str ⟨#[61, 55, 67]⟩ 693, .str ⟨#[61, 55, 68]⟩ 697, .str ⟨#[61, 55, 69]⟩ 701, .str ⟨#[61, 55, 70]⟩ 705, .str ⟨#[61, 56, 48]⟩ 709, .str ⟨#[61, 56, 49]⟩ 713, .str ⟨#[61, 56, 50]⟩ 717, .str ⟨#[61, 56, 51]⟩ 721, .str ⟨#[61, 56, 52]⟩ 725, .str ⟨#[61, 56, 53]⟩ 729, .str ⟨#[61, 56, 54]⟩ 733, .str ⟨#[61, 56, 55]⟩ 737, .str ⟨#[61, 56, 56]⟩ 741, .str ⟨#[61, 56, 57]⟩ 745, .str ⟨#[61, 56, 65]⟩ 749, .str ⟨#[61, 56, 66]⟩ 753, .str ⟨#[61, 56, 67]⟩ 757, .str ⟨#[61, 56, 68]⟩ 761, .str ⟨#[61, 56, 69]⟩ 765, .str ⟨#[61, 56, 70]⟩ 769, .str ⟨#[61, 57, 48]⟩ 773, .str ⟨#[61, 57, 49]⟩ 777, .str ⟨#[61, 57, 50]⟩ 781, .str ⟨#[61, 57, 51]⟩ 785, .str ⟨#[61, 57, 52]⟩ 789, .str ⟨#[61, 57, 53]⟩ 793, .str ⟨#[61, 57, 54]⟩ 797, .str ⟨#[61, 57, 55]⟩ 801, .str ⟨#[61, 57, 56]⟩ 805, .str ⟨#[61, 57, 57]⟩ 809, .str ⟨#[61, 57, 65]⟩ 813, .str ⟨#[61, 57, 66]⟩ 817, .str ⟨#[61, 57, 67]⟩ 821, .str ⟨#[61, 57, 68]⟩ 825, .str ⟨#[61, 57, 69]⟩ 829, .str ⟨#[61, 57, 70]⟩ 833, .str ⟨#[61, 65, 48]⟩ 837, .str ⟨#[61, 65, 49]⟩ 841, .str ⟨#[61, 65, 50]⟩ 845, .str ⟨#[61, 65, 51]⟩ 849, .str ⟨#[61, 65, 52]⟩ 853, .str ⟨#[61, 65, 53]⟩ 857, .str ⟨#[61, 65, 54]⟩ 861, .str ⟨#[61, 65, 55]⟩ 865, .str ⟨#[61, 65, 56]⟩ 869, .str ⟨#[61, 65, 57]⟩ 873, .str ⟨#[61, 65, 65]⟩ 877, .str ⟨#[61, 65, 66]⟩ 881, .str ⟨#[61, 65, 67]⟩ 885, .str ⟨#[61, 65, 68]⟩ 889, .str ⟨#[61, 65, 69]⟩ 893, .str ⟨#[61, 65, 70]⟩ 897, .str ⟨#[61, 66, 48]⟩ 901, .str ⟨#[61, 66, 49]⟩ 905, .str ⟨#[61, 66, 50]⟩ 909, .str ⟨#[61, 66, 51]⟩ 913, .str ⟨#[61, 66, 52]⟩ 917, .str ⟨#[61, 66, 53]⟩ 921, .str ⟨#[61, 66, 54]⟩ 925, .str ⟨#[61, 66, 55]⟩ 929, .str ⟨#[61, 66, 56]⟩ 933, .str ⟨#[61, 66, 57]⟩ 937, .str ⟨#[61, 66, 65]⟩ 941, .str ⟨#[61, 66, 66]⟩ 945, .str ⟨#[61, 66, 67]⟩ 949, .str ⟨#[61, 66, 68]⟩ 953, .str ⟨#[61, 66, 69]⟩ 957, .str ⟨#[61, 66, 70]⟩ 961, .str ⟨#[61, 67, 48]⟩ 965, .str ⟨#[61, 67, 49]⟩ 969, .str ⟨#[61, 67, 50]⟩ 973, .str ⟨#[61, 67, 51]⟩ 977, .str ⟨#[61, 67, 52]⟩ 981, .str ⟨#[61, 67, 53]⟩ 985, .str ⟨#[61, 67, 54]⟩ 989, .str ⟨#[61, 67, 55]⟩ 993, .str ⟨#[61, 67, 56]⟩ 997, .str ⟨#[61, 67, 57]⟩ 1001, .str ⟨#[61, 67, 65]⟩ 1005, .str ⟨#[61, 67, 66]⟩ 1009, .str ⟨#[61, 67, 67]⟩ 1013, .str ⟨#[61, 67, 68]⟩ 1017, .str ⟨#[61, 67, 69]⟩ 1021, .str ⟨#[61, 67, 70]⟩ 1025, .str ⟨#[61, 68, 48]⟩ 1029, .str ⟨#[61, 68, 49]⟩ 1033, .str ⟨#[61, 68, 50]⟩ 1037, .str ⟨#[61, 68, 51]⟩ 1041, .str ⟨#[61, 68, 52]⟩ 1045, .str ⟨#[61, 68, 53]⟩ 1049, .str ⟨#[61, 68, 54]⟩ 1053, .str ⟨#[61, 68, 55]⟩ 1057, .str ⟨#[61, 68, 56]⟩ 1061, .str ⟨#[61, 68, 57]⟩ 1065, .str ⟨#[61, 68, 65]⟩ 1069, .str ⟨#[61, 68, 66]⟩ 1073, .str ⟨#[61, 68, 67]⟩ 1077, .str ⟨#[61, 68, 68]⟩ 1081, .str ⟨#[61, 68, 69]⟩ 1085, .str ⟨#[61, 68, 70]⟩ 1089, .str ⟨#[61, 69, 48]⟩ 1093, .str ⟨#[61, 69, 49]⟩ 1097, .str ⟨#[61, 69, 50]⟩ 1101, .str ⟨#[61, 69, 51]⟩ 1105, .str ⟨#[61, 69, 52]⟩ 1109, .str ⟨#[61, 69, 53]⟩ 1113, .str ⟨#[61, 69, 54]⟩ 1117, .str ⟨#[61, 69, 55]⟩ 1121, .str ⟨#[61, 69, 56]⟩ 1125, .str ⟨#[61, 69, 57]⟩ 1129, .str ⟨#[61, 69, 65]⟩ 1133, .str ⟨#[61, 69, 66]⟩ 1137, .str ⟨#[61, 69, 67]⟩ 1141, .str ⟨#[61, 69, 68]⟩ 1145, .str ⟨#[61, 69, 69]⟩ 1149, .str ⟨#[61, 69, 70]⟩ 1153, .str ⟨#[61, 70, 48]⟩ 1157, .str ⟨#[61, 70, 49]⟩ 1161, .str ⟨#[61, 70, 50]⟩ 1165, .str ⟨#[61, 70, 51]⟩ 1169, .str ⟨#[61, 70, 52]⟩ 1173, .str ⟨#[61, 70, 53]⟩ 1177, .str ⟨#[61, 70, 54]⟩ 1181, .str ⟨#[61, 70, 55]⟩ 1185, .str ⟨#[61, 70, 56]⟩ 1189, .str ⟨#[61, 70, 57]⟩ 1193, .str ⟨#[61, 70, 65]⟩ 1197, .str ⟨#[61, 70, 66]⟩ 1201, .str ⟨#[61, 70, 67]⟩ 1205, .str ⟨#[61, 70, 68]⟩ 1209, .str ⟨#[61, 70, 69]⟩ 1213, .str ⟨#[61, 70, 70]⟩ 1217]
noncomputable def lp10_y22 : List Value := [.str ⟨#[61, 48, 48]⟩ 197, .str ⟨#[61, 48, 49]⟩ 201, .str ⟨#[61, 48, 50]⟩ 205, .str ⟨#[61, 48, 51]⟩ 209, .str ⟨#[61, 48, 52]⟩ 213, .str ⟨#[61, 48, 53]⟩ 217, .str ⟨#[61, 48, 54]⟩ 221, .str ⟨#[61, 48, 55]⟩ 225, .str ⟨#[61, 48, 56]⟩ 229, .str ⟨#[61, 48, 57]⟩ 233, .str ⟨#[61, 48, 65]⟩ 237, .str ⟨#[61, 48, 66]⟩ 241, .str ⟨#[61, 48, 67]⟩ 245, .str ⟨#[61, 48, 68]⟩ 249, .str ⟨#[61, 48, 69]⟩ 253, .str ⟨#[61, 48, 70]⟩ 257, .str ⟨#[61, 49, 48]⟩ 261, .str ⟨#[61, 49, 49]⟩ 265, .str ⟨#[61, 49, 50]⟩ 269, .str ⟨#[61, 49, 51]⟩ 273, .str ⟨#[61, 49, 52]⟩ 277, .str ⟨#[61, 49, 53]⟩ 281, .str ⟨#[61, 49, 54]⟩ 285, .str ⟨#[61, 49, 55]⟩ 289, .str ⟨#[61, 49, 56]⟩ 293, .str ⟨#[61, 49, 57]⟩ 297, .str ⟨#[61, 49, 65]⟩ 301, .str ⟨#[61, 49, 66]⟩ 305, .str ⟨#[61, 49, 67]⟩ 309, .str ⟨#[61, 49, 68]⟩ 313, .str ⟨#[61, 49, 69]⟩ 317, .str ⟨#[61, 49, 70]⟩ 321, .str ⟨#[61, 50, 48]⟩ 325, .str ⟨#[33]⟩ 1243, .str ⟨#[61, 50, 50]⟩ 333, .str ⟨#[61, 50, 51]⟩ 337, .str ⟨#[61, 50, 52]⟩ 341, .str ⟨#[61, 50, 53]⟩ 345, .str ⟨#[61, 50, 54]⟩ 349, .str ⟨#[61, 50, 55]⟩ 353, .str ⟨#[61, 50, 56]⟩ 357, .str ⟨#[61, 50, 57]⟩ 361, .str ⟨#[42]⟩ 1246, .str ⟨#[43]⟩ 1249, .str ⟨#[61, 50, 67]⟩ 373, .str ⟨#[45]⟩ 1240, .str ⟨#[61, 50, 69]⟩ 381, .str ⟨#[47]⟩ 1252, .str ⟨#[48]⟩ 1411, .str ⟨#[49]⟩ 1414, .str ⟨#[50]⟩ 1417, .str ⟨#[51]⟩ 1420, .str ⟨#[52]⟩ 1423, .str ⟨#[53]⟩ 1426, .str ⟨#[54]⟩ 1429, .str ⟨#[55]⟩ 1432, .str ⟨#[56]⟩ 1435, .str ⟨#[57]⟩ 1438, .str ⟨#[61, 51, 65]⟩ 429, .str ⟨#[61, 51, 66]⟩ 433, .str ⟨#[61, 51, 67]⟩ 437, .str ⟨#[61, 51, 68]⟩ 441, .str ⟨#[61, 51, 69]⟩ 445, .str ⟨#[61, 51, 70]⟩ 449, .str ⟨#[61, 52, 48]⟩ 453, .str ⟨#[65]⟩ 1333, .str ⟨#[66]⟩ 1336, .str ⟨#[67]⟩ 1339, .str ⟨#[68]⟩ 1342, .str ⟨#[69]⟩ 1345, .str ⟨#[70]⟩ 1348, .str ⟨#[71]⟩ 1351, .str ⟨#[72]⟩ 1354, .str ⟨#[73]⟩ 1357, .str ⟨#[74]⟩ 1360, .str ⟨#[75]⟩ 1363, .str ⟨#[76]⟩ 1366, .str ⟨#[77]⟩ 1369, .str ⟨#[78]⟩ 1372, .str ⟨#[79]⟩ 1375, .str ⟨#[80]⟩ 1378, .str ⟨#[81]⟩ 1381, .str ⟨#[82]⟩ 1384, .str ⟨#[83]⟩ 1387, .str ⟨#[84]⟩ 1390, .str ⟨#[85]⟩ 1393, .str ⟨#[86]⟩ 1396, .str ⟨#[87]⟩ 1399, .str ⟨#[88]⟩ 1402, .str ⟨#[89]⟩ 1405, .str ⟨#[90]⟩ 1408, .str ⟨#[61, 53, 66]⟩ 561, .str ⟨#[61, 53, 67]⟩ 565, .str ⟨#[61, 53, 68]⟩ 569, .str ⟨#[61, 53, 69]⟩ 573, .str ⟨#[61, 53, 70]⟩ 577, .str ⟨#[61, 54, 48]⟩ 581, .str ⟨#[97]⟩ 1255, .str ⟨#[98]⟩ 1258, .str ⟨#[99]⟩ 1261, .str ⟨#[100]⟩ 1264, .str ⟨#[101]⟩ 1267, .str ⟨#[102]⟩ 1270, .str ⟨#[103]⟩ 1273, .str ⟨#[104]⟩ 1276, .str ⟨#[105]⟩ 1279, .str ⟨#[106]⟩ 1282, .str ⟨#[107]⟩ 1285, .str ⟨#[108]⟩ 1288, .str ⟨#[109]⟩ 1291, .str ⟨#[110]⟩ 1294, .str ⟨#[111]⟩ 1297, .str ⟨#[112]⟩ 1300, .str ⟨#[113]⟩ 1303, .str ⟨#[114]⟩ 1306, .str ⟨#[115]⟩ 1309, .str ⟨#[116]⟩ 1312, .str ⟨#[117]⟩ 1315, .str ⟨#[118]⟩ 1318, .str ⟨#[119]⟩ 1321, .str ⟨#[120]⟩ 1324, .str ⟨#[121]⟩ 1327, .str ⟨#[122]⟩ 1330, .str ⟨#[61, 55, 66]⟩ 689, .str ⟨#[61, 55, 67]⟩ 693, .str ⟨#[61, 55, 68]⟩ 697, .str ⟨#[61, 55, 69]⟩ 701, .str ⟨#[61, 55, 70]⟩ 705, .str ⟨#[61, 56, 48]⟩ 709, .str ⟨#[61, 56, 49]⟩ 713, .str ⟨#[61, 56, 50]⟩ 717, .str ⟨#[61, 56, 51]⟩ 721, .str ⟨#[61, 56, 52]⟩ 725, .str ⟨#[61, 56, 53]⟩ 729, .str ⟨#[61, 56, 54]⟩ 733, .str ⟨#[61, 56, 55]⟩ 737, .str ⟨#[61, 56, 56]⟩ 741, .str ⟨#[61, 56, 57]⟩ 745, .str ⟨#[61, 56, 65]⟩ 749, .str ⟨#[61, 56, 66]⟩ 753, .str ⟨#[61, 56, 67]⟩ 757, .str ⟨#[61, 56, 68]⟩ 761, .str ⟨#[61, 56, 69]⟩ 765, .str ⟨#[61, 56, 70]⟩ 769, .str ⟨#[61, 57, 48]⟩ 773, .str ⟨#[61, 57, 49]⟩ 777, .str ⟨#[61, 57, 50]⟩ 781, .str ⟨#[61, 57, 51]⟩ 785, .str ⟨#[61, 57, 52]⟩ 789, .str ⟨#[61, 57, 53]⟩ 793, .str ⟨#[61, 57, 54]⟩ 797, .str ⟨#[61, 57, 55]⟩ 801, .str ⟨#[61, 57, 56]⟩ 805, .str ⟨#[61, 57, 57]⟩ 809, .str ⟨#[61, 57, 65]⟩ 813, .str ⟨#[61, 57, 66]⟩ 817, .str ⟨#[61, 57, 67]⟩ 821, .str ⟨#[61, 57, 68]⟩ 825, .str ⟨#[61, 57, 69]⟩ 829, .str ⟨#[61, 57, 70]⟩ 833, .str ⟨#[61, 65, 48]⟩ 837, .str ⟨#[61, 65, 49]⟩ 841, .str ⟨#[61, 65, 50]⟩ 845, .str ⟨#[61, 65, 51]⟩ 849, .str ⟨#[61, 65, 52]⟩ 853, .str ⟨#[61, 65, 53]⟩ 857, .str ⟨#[61, 65, 54]⟩ 861, .str ⟨#[61, 65, 55]⟩ 865, .str ⟨#[61, 65, 56]⟩ 869, .str ⟨#[61, 65, 57]⟩ 873, .str ⟨#[61, 65, 65]⟩ 877, .str ⟨#[61, 65, 66]⟩ 881, .str ⟨#[61, 65, 67]⟩ 885, .str ⟨#[61, 65, 68]⟩ 889, .str ⟨#[61, 65, 69]⟩ 893, .str ⟨#[61, 65, 70]⟩ 897, .str ⟨#[61, 66, 48]⟩ 901, .str ⟨#[61, 66, 49]⟩ 905, .str ⟨#[61, 66, 50]⟩ 909, .str ⟨#[61, 66, 51]⟩ 913, .str ⟨#[61, 66, 52]⟩ 917, .str ⟨#[61, 66, 53]⟩ 921, .str ⟨#[61, 66, 54]⟩ 925, .str ⟨#[61, 66, 55]⟩ 929, .str ⟨#[61, 66, 56]⟩ 933, .str ⟨#[61, 66, 57]⟩ 937, .str ⟨#[61, 66, 65]⟩ 941, .str ⟨#[61, 66, 66]⟩ 945, .str ⟨#[61, 66, 67]⟩ 949, .str ⟨#[61, 66, 68]⟩ 953, .str ⟨#[61, 66, 69]⟩ 957, .str ⟨#[61, 66, 70]⟩ 961, .str ⟨#[61, 67, 48]⟩ 965, .str ⟨#[61, 67, 49]⟩ 969, .str ⟨#[61, 67, 50]⟩ 973, .str ⟨#[61, 67, 51]⟩ 977, .str ⟨#[61, 67, 52]⟩ 981, .str ⟨#[61, 67, 53]⟩ 985, .str ⟨#[61, 67, 54]⟩ 989, .str ⟨#[61, 67, 55]⟩ 993, .str ⟨#[61, 67, 56]⟩ 997, .str ⟨#[61, 67, 57]⟩ 1001, .str ⟨#[61, 67, 65]⟩ 1005, .str ⟨#[61, 67, 66]⟩ 1009, .str ⟨#[61, 67, 67]⟩ 1013, .str ⟨#[61, 67, 68]⟩ 1017, .str ⟨#[61, 67, 69]⟩ 1021, .str ⟨#[61, 67, 70]⟩ 1025, .str ⟨#[61, 68, 48]⟩ 1029, .str ⟨#[61, 68, 49]⟩ 1033, .str ⟨#[61, 68, 50]⟩ 1037, .str ⟨#[61, 68, 51]⟩ 1041, .str ⟨#[61, 68, 52]⟩ 1045, .str ⟨#[61, 68, 53]⟩ 1049, .str ⟨#[61, 68, 54]⟩ 1053, .str ⟨#[61, 68, 55]⟩ 1057, .str ⟨#[61, 68, 56]⟩ 1061, .str ⟨#[61, 68, 57]⟩ 1065, .str ⟨#[61, 68, 65]⟩ 1069, .str ⟨#[61, 68, 66]⟩ 1073, .str ⟨#[61, 68, 67]⟩ 1077, .str ⟨#[61, 68, 68]⟩ 1081, .str ⟨#[61, 68, 69]⟩ 1085, .str ⟨#[61, 68, 70]⟩ 1089, .str ⟨#[61, 69, 48]⟩ 1093, .str ⟨#[61, 69, 49]⟩ 1097, .str ⟨#[61, 69, 50]⟩ 1101, .str ⟨#[61, 69, 51]⟩ 1105, .str ⟨#[61, 69, 52]⟩ 1109, .str ⟨#[61, 69, 53]⟩ 1113, .str ⟨#[61, 69, 54]⟩ 1117, .str ⟨#[61, 69, 55]⟩ 1121, .str ⟨#[61, 69, 56]⟩ 1125, .str ⟨#[61, 69, 57]⟩ 1129, .str ⟨#[61, 69, 65]⟩ 1133, .str ⟨#[61, 69, 66]⟩ 1137, .str ⟨#[61, 69, 67]⟩ 1141, .str ⟨#[61, 69, 68]⟩ 1145, .str ⟨#[61, 69, 69]⟩ 1149, .str ⟨#[61, 69, 70]⟩ 1153, .str ⟨#[61, 70, 48]⟩ 1157, .str ⟨#[61, 70, 49]⟩ 1161, .str ⟨#[61, 70, 50]⟩ 1165, .str ⟨#[61, 70, 51]⟩ 1169, .str ⟨#[61, 70, 52]⟩ 1173, .str ⟨#[61, 70, 53]⟩ 1177, .str ⟨#[61, 70, 54]⟩ 1181, .str ⟨#[61, 70, 55]⟩ 1185, .str ⟨#[61, 70, 56]⟩ 1189, .str ⟨#[61, 70, 57]⟩ 1193, .str ⟨#[61, 70, 65]⟩ 1197, .str ⟨#[61, 70, 66]⟩ 1201, .str ⟨#[61, 70, 67]⟩ 1205, .str ⟨#[61, 70, 68]⟩ 1209, .str ⟨#[61, 70, 69]⟩ 1213, .str ⟨#[61, 70, 70]⟩ 1217]
noncomputable def lp10_s1 (w : World) (os : OsState) : SharedT := let P := w.params; ⟨tr_lp10 P (⟨.type "dict", none, .dict ([⟨PyData.keyHash P ⟨#[95, 95, 110, 97, 109, 101, 95, 95]⟩, .str ⟨#[95, 95, 110, 97, 109, 101, 95, 95]⟩ 165, .str ⟨#[99, 112, 121, 51, 49, 51, 46, 101, 109, 97, 105, 108, 46, 113, 117, 111, 112, 114, 105, 109, 105, 109, 101]⟩ 1229⟩, ⟨PyData.keyHash P ⟨#[95, 95, 100, 111, 99, 95, 95]⟩, .str ⟨#[95, 95, 100, 111, 99, 95, 95]⟩ 166, .none⟩, ⟨PyData.keyHash P ⟨#[95, 95, 112, 97, 99, 107, 97, 103, 101, 95, 95]⟩, .str ⟨#[95, 95, 112, 97, 99, 107, 97, 103, 101, 95, 95]⟩ 167, .none⟩, ⟨PyData.keyHash P ⟨#[95, 95, 108, 111, 97, 100, 101, 114, 95, 95]⟩, .str ⟨#[95, 95, 108, 111, 97, 100, 101, 114, 95, 95]⟩ 168, .builtin "__main__.__loader__#opaque"⟩, ⟨PyData.keyHash P ⟨#[95, 95, 115, 112, 101, 99, 95, 95]⟩, .str ⟨#[95, 95, 115, 112, 101, 99, 95, 95]⟩ 169, .none⟩, ⟨PyData.keyHash P ⟨#[95, 95, 97, 110, 110, 111, 116, 97, 116, 105, 111, 110, 115, 95, 95]⟩, .str ⟨#[95, 95, 97, 110, 110, 111, 116, 97, 116, 105, 111, 110, 115, 95, 95]⟩ 170, .ref 6⟩, ⟨PyData.keyHash P ⟨#[95, 95, 98, 117, 105, 108, 116, 105, 110, 115, 95, 95]⟩, .str ⟨#[95, 95, 98, 117, 105, 108, 116, 105, 110, 115, 95, 95]⟩ 171, .ref 4⟩, ⟨PyData.keyHash P ⟨#[95, 95, 102, 105, 108, 101, 95, 95]⟩, .str ⟨#[95, 95, 102, 105, 108, 101, 95, 95]⟩ 173, .str ⟨#[47, 99, 108, 97, 105, 109, 47, 99, 117, 116, 46, 112, 121]⟩ 172⟩, ⟨PyData.keyHash P ⟨#[95, 95, 99, 97, 99, 104, 101, 100, 95, 95]⟩, .str ⟨#[95, 95, 99, 97, 99, 104, 101, 100, 95, 95]⟩ 174, .none⟩, ⟨PyData.keyHash P ⟨#[67, 82, 76, 70]⟩, .str ⟨#[67, 82, 76, 70]⟩ 188, .str ⟨#[13, 10]⟩ 187⟩, ⟨PyData.keyHash P ⟨#[78, 76]⟩, .str ⟨#[78, 76]⟩ 190, .str ⟨#[10]⟩ 189⟩, ⟨PyData.keyHash P ⟨#[95, 81, 85, 79, 80, 82, 73, 95, 77, 65, 80]⟩, .str ⟨#[95, 81, 85, 79, 80, 82, 73, 95, 77, 65, 80]⟩ 1218, .ref 17⟩, ⟨PyData.keyHash P ⟨#[95, 81, 85, 79, 80, 82, 73, 95, 72, 69, 65, 68, 69, 82, 95, 77, 65, 80]⟩, .str ⟨#[95, 81, 85, 79, 80, 82, 73, 95, 72, 69, 65, 68, 69, 82, 95, 77, 65, 80]⟩ 1219, .ref 22⟩, ⟨PyData.keyHash P ⟨#[95, 81, 85, 79, 80, 82, 73, 95, 66, 79, 68, 89, 95, 77, 65, 80]⟩, .str ⟨#[95, 81, 85, 79, 80, 82, 73, 95, 66, 79, 68, 89, 95, 77, 65, 80]⟩ 1220, .ref 24⟩, ⟨PyData.keyHash P ⟨#[97, 115, 99, 105, 105, 95, 108, 111, 119, 101, 114, 99, 97, 115, 101]⟩, .str ⟨#[97, 115, 99, 105, 105, 95, 108, 111, 119, 101, 114, 99, 97, 115, 101]⟩ 1222, .str ⟨#[97, 98, 99, 100, 101, 102, 103, 104, 105, 106, 107, 108, 109, 110, 111, 112, 113, 114, 115, 116, 117, 118, 119, 120, 121, 122]⟩ 1221⟩, ⟨PyData.keyHash P ⟨#[97, 115, 99, 105, 105, 95, 117, 112, 112, 101, 114, 99, 97, 115, 101]⟩, .str ⟨#[97, 115, 99, 105, 105, 95, 117, 112, 112, 101, 114, 99, 97, 115, 101]⟩ 1224, .str ⟨#[65, 66, 67, 68, 69, 70, 71, 72, 73, 74, 75, 76, 77, 78, 79, 80, 81, 82, 83, 84, 85, 86, 87, 88, 89, 90]⟩ 1223⟩, ⟨PyData.keyHash P ⟨#[97, 115, 99, 105, 105, 95, 108, 101, 116, 116, 101, 114, 115]⟩, .str ⟨#[97, 115, 99, 105, 105, 95, 108, 101, 116, 116, 101, 114, 115]⟩ 1226, .str ⟨#[97, 98, 99, 100, 101, 102, 103, 104, 105, 106, 107, 108, 109, 110, 111, 112, 113, 114, 115, 116, 117, 118, 119, 120, 121, 122, 65, 66, 67, 68, 69, 70, 71, 72, 73, 74, 75, 76, 77, 78, 79, 80, 81, 82, 83, 84, 85, 86, 87, 88, 89, 90]⟩ 1225⟩, ⟨PyData.keyHash P ⟨#[100, 105, 103, 105, 116, 115]⟩, .str ⟨#[100, 105, 103, 105, 116, 115]⟩ 1228, .str ⟨#[48, 49, 50, 51, 52, 53, 54, 55, 56, 57]⟩ 1227⟩, ⟨PyData.keyHash P ⟨#[99]⟩, .str ⟨#[99]⟩ 1239, .int 45 1238⟩]).toArray 19, #[]⟩) (⟨.type "list", none, .seq (mixL 1 lp10_r22 lp10_x22 lp10_y22).toArray 0, #[]⟩) (⟨.type "bytes_iterator", none, .fields ([.bytes #[45, 33, 42, 43, 47, 97, 98, 99, 100, 101, 102, 103, 104, 105, 106, 107, 108, 109, 110, 111, 112, 113, 114, 115, 116, 117, 118, 119, 120, 121, 122, 65, 66, 67, 68, 69, 70, 71, 72, 73, 74, 75, 76, 77, 78, 79, 80, 81, 82, 83, 84, 85, 86, 87, 88, 89, 90, 48, 49, 50, 51, 52, 53, 54, 55, 56, 57] 1237, .int 1 0]).toArray, #[]⟩), 26, life0, Array.mk [], boot_drawn, 1241, os⟩
noncomputable def lp10_sts : List Stmt := [stm 10]
noncomputable def lp10_T : Thread := match PySem.W.Fast.tw10295753902157049106 PySem.W.Fast.tw14364793385576792824 PR (aWorld 1) 11 ann0 1 89 (s9 (aWorld 1) {}) ⟨(PySem.W.Fast.tw12563942051412417395 lp10_sts env0).wrap doneF deadEnd id id, cE, ⟨10, 0, 10, 8⟩, B0⟩ with | some r => r.2 | none => ⟨.raise .none, cE, default, []⟩
theorem lp10_start_f (w : World) (os : OsState) : PySem.W.Fast.tw10295753902157049106 PySem.W.Fast.tw14364793385576792824 PR (w.withFollow "special-get-raises" false) 11 ann0 1 89 (s9 (w.withFollow "special-get-raises" false) os) ⟨(PySem.W.Fast.tw12563942051412417395 lp10_sts env0).wrap doneF deadEnd id id, cE, ⟨10, 0, 10, 8⟩, B0⟩ = some (lp10_s1 (w.withFollow "special-get-raises" false) os, lp10_T) := by kernel_rfl
theorem lp10_start_t (w : World) (os : OsState) : PySem.W.Fast.tw10295753902157049106 PySem.W.Fast.tw14364793385576792824 PR (w.withFollow "special-get-raises" true) 11 ann0 1 89 (s9 (w.withFollow "special-get-raises" true) os) ⟨(PySem.W.Fast.tw12563942051412417395 lp10_sts env0).wrap doneF deadEnd id id, cE, ⟨10, 0, 10, 8⟩, B0⟩ = some (lp10_s1 (w.withFollow "special-get-raises" true) os, lp10_T) := by kernel_rfl
noncomputable def lp10_s9 (w : World) (os : OsState) : SharedT := let P := w.params; ⟨tr_lp10 P (⟨.type "dict", none, .dict ([⟨PyData.keyHash P ⟨#[95, 95, 110, 97, 109, 101, 95, 95]⟩, .str ⟨#[95, 95, 110, 97, 109, 101, 95, 95]⟩ 165, .str ⟨#[99, 112, 121, 51, 49, 51, 46, 101, 109, 97, 105, 108, 46, 113, 117, 111, 112, 114, 105, 109, 105, 109, 101]⟩ 1229⟩, ⟨PyData.keyHash P ⟨#[95, 95, 100, 111, 99, 95, 95]⟩, .str ⟨#[95, 95, 100, 111, 99, 95, 95]⟩ 166, .none⟩, ⟨PyData.keyHash P ⟨#[95, 95, 112, 97, 99, 107, 97, 103, 101, 95, 95]⟩, .str ⟨#[95, 95, 112, 97, 99, 107, 97, 103, 101, 95, 95]⟩ 167, .none⟩, ⟨PyData.keyHash P ⟨#[95, 95, 108, 111, 97, 100, 101, 114, 95, 95]⟩, .str ⟨#[95, 95, 108, 111, 97, 100, 101, 114, 95, 95]⟩ 168, .builtin "__main__.__loader__#opaque"⟩, ⟨PyData.keyHash P ⟨#[95, 95, 115, 112, 101, 99, 95, 95]⟩, .str ⟨#[95, 95, 115, 112, 101, 99, 95, 95]⟩ 169, .none⟩, ⟨PyData.keyHash P ⟨#[95, 95, 97, 110, 110, 111, 116, 97, 116, 105, 111, 110, 115, 95, 95]⟩, .str ⟨#[95, 95, 97, 110, 110, 111, 116, 97, 116, 105, 111, 110, 115, 95, 95]⟩ 170, .ref 6⟩, ⟨PyData.keyHash P ⟨#[95, 95, 98, 117, 105, 108, 116, 105, 110, 115, 95, 95]⟩, .str ⟨#[95, 95, 98, 117, 105, 108, 116, 105, 110, 115, 95, 95]⟩ 171, .ref 4⟩, ⟨PyData.keyHash P ⟨#[95, 95, 102, 105, 108, 101, 95, 95]⟩, .str ⟨#[95, 95, 102, 105, 108, 101, 95, 95]⟩ 173, .str ⟨#[47, 99, 108, 97, 105, 109, 47, 99, 117, 116, 46, 112, 121]⟩ 172⟩, ⟨PyData.keyHash P ⟨#[95, 95, 99, 97, 99, 104, 101, 100, 95, 95]⟩, .str ⟨#[95, 95, 99, 97, 99, 104, 101, 100, 95, 95]⟩ 174, .none⟩, ⟨PyData.keyHash P ⟨#[67, 82, 76, 70]⟩, .str ⟨#[67, 82, 76, 70]⟩ 188, .str ⟨#[13, 10]⟩ 187⟩, ⟨PyData.keyHash P ⟨#[78, 76]⟩, .str ⟨#[78, 76]⟩ 190, .str ⟨#[10]⟩ 189⟩, ⟨PyData.keyHash P ⟨#[95, 81, 85, 79, 80, 82, 73, 95, 77, 65, 80]⟩, .str ⟨#[95, 81, 85, 79, 80, 82, 73, 95, 77, 65, 80]⟩ 1218, .ref 17⟩, ⟨PyData.keyHash P ⟨#[95, 81, 85, 79, 80, 82, 73, 95, 72, 69, 65, 68, 69, 82, 95, 77, 65, 80]⟩, .str ⟨#[95, 81, 85, 79, 80, 82, 73, 95, 72, 69, 65, 68, 69, 82, 95, 77, 65, 80]⟩ 1219, .ref 22⟩, ⟨PyData.keyHash P ⟨#[95, 81, 85, 79, 80, 82, 73, 95, 66, 79, 68, 89, 95, 77, 65, 80]⟩, .str ⟨#[95, 81, 85, 79, 80, 82, 73, 95, 66, 79, 68, 89, 95, 77, 65, 80]⟩ 1220, .ref 24⟩, ⟨PyData.keyHash P ⟨#[97, 115, 99, 105, 105, 95, 108, 111, 119, 101, 114, 99, 97, 115, 101]⟩, .str ⟨#[97, 115, 99, 105, 105, 95, 108, 111, 119, 101, 114, 99, 97, 115, 101]⟩ 1222, .str ⟨#[97, 98, 99, 100, 101, 102, 103, 104, 105, 106, 107, 108, 109, 110, 111, 112, 113, 114, 115, 116, 117, 118, 119, 120, 121, 122]⟩ 1221⟩, ⟨PyData.keyHash P ⟨#[97, 115, 99, 105, 105, 95, 117, 112, 112, 101, 114, 99, 97, 115, 101]⟩, .str ⟨#[97, 115, 99, 105, 105, 95, 117, 112, 112, 101, 114, 99, 97, 115, 101]⟩ 1224, .str ⟨#[65, 66, 67, 68, 69, 70, 71, 72, 73, 74, 75, 76, 77, 78, 79, 80, 81, 82, 83, 84, 85, 86, 87, 88, 89, 90]⟩ 1223⟩, ⟨PyData.keyHash P ⟨#[97, 115, 99, 105, 105, 95, 108, 101, 116, 116, 101, 114, 115]⟩, .str ⟨#[97, 115, 99, 105, 105, 95, 108, 101, 116, 116, 101, 114, 115]⟩ 1226, .str ⟨#[97, 98, 99, 100, 101, 102, 103, 104, 105, 106, 107, 108, 109, 110, 111, 112, 113, 114, 115, 116, 117, 118, 119, 120, 121, 122, 65, 66, 67, 68, 69, 70, 71, 72, 73, 74, 75, 76, 77, 78, 79, 80, 81, 82, 83, 84, 85, 86, 87, 88, 89, 90]⟩ 1225⟩, ⟨PyData.keyHash P ⟨#[100, 105, 103, 105, 116, 115]⟩, .str ⟨#[100, 105, 103, 105, 116, 115]⟩ 1228, .str ⟨#[48, 49, 50, 51, 52, 53, 54, 55, 56, 57]⟩ 1227⟩, ⟨PyData.keyHash P ⟨#[99]⟩, .str ⟨#[99]⟩ 1239, .int 100 1262⟩]).toArray 19, #[]⟩) (⟨.type "list", none, .seq (mixL 9 lp10_r22 lp10_x22 lp10_y22).toArray 0, #[]⟩) (⟨.type "bytes_iterator", none, .fields ([.bytes #[45, 33, 42, 43, 47, 97, 98, 99, 100, 101, 102, 103, 104, 105, 106, 107, 108, 109, 110, 111, 112, 113, 114, 115, 116, 117, 118, 119, 120, 121, 122, 65, 66, 67, 68, 69, 70, 71, 72, 73, 74, 75, 76, 77, 78, 79, 80, 81, 82, 83, 84, 85, 86, 87, 88, 89, 90, 48, 49, 50, 51, 52, 53, 54, 55, 56, 57] 1237, .int 9 0]).toArray, #[]⟩), 26, life0, Array.mk [], boot_drawn, 1265, os⟩
theorem lp10_go1 (w : World) (os : OsState) : PySem.W.Fast.tw10295753902157049106 PySem.W.Fast.tw14364793385576792824 PR w 11 ann0 1 360 (lp10_s1 w os) lp10_T = some (lp10_s9 w os, lp10_T) := by kernel_rfl
noncomputable def lp10_s17 (w : World) (os : OsState) : SharedT := let P := w.params; ⟨tr_lp10 P (⟨.type "dict", none, .dict ([⟨PyData.keyHash P ⟨#[95, 95, 110, 97, 109, 101, 95, 95]⟩, .str ⟨#[95, 95, 110, 97, 109, 101, 95, 95]⟩ 165, .str ⟨#[99, 112, 121, 51, 49, 51, 46, 101, 109, 97, 105, 108, 46, 113, 117, 111, 112, 114, 105, 109, 105, 109, 101]⟩ 1229⟩, ⟨PyData.keyHash P ⟨#[95, 95, 100, 111, 99, 95, 95]⟩, .str ⟨#[95, 95, 100, 111, 99, 95, 95]⟩ 166, .none⟩, ⟨PyData.keyHash P ⟨#[95, 95, 112, 97, 99, 107, 97, 103, 101, 95, 95]⟩, .str ⟨#[95, 95, 112, 97, 99, 107, 97, 103, 101, 95, 95]⟩ 167, .none⟩, ⟨PyData.keyHash P ⟨#[95, 95, 108, 111, 97, 100, 101, 114, 95, 95]⟩, .str ⟨#[95, 95, 108, 111, 97, 100, 101, 114, 95, 95]⟩ 168, .builtin "__main__.__loader__#opaque"⟩, ⟨PyData.keyHash P ⟨#[95, 95, 115, 112, 101, 99, 95, 95]⟩, .str ⟨#[95, 95, 115, 112, 101, 99, 95, 95]⟩ 169, .none⟩, ⟨PyData.keyHash P ⟨#[95, 95, 97, 110, 110, 111, 116, 97, 116, 105, 111, 110, 115, 95, 95]⟩, .str ⟨#[95, 95, 97, 110, 110, 111, 116, 97, 116, 105, 111, 110, 115, 95, 95]⟩ 170, .ref 6⟩, ⟨PyData.keyHash P ⟨#[95, 95, 98, 117, 105, 108, 116, 105, 110, 115, 95, 95]⟩, .str ⟨#[95, 95, 98, 117, 105, 108, 116, 105, 110, 115, 95, 95]⟩ 171, .ref 4⟩, ⟨PyData.keyHash P ⟨#[95, 95, 102, 105, 108, 101, 95, 95]⟩, .str ⟨#[95, 95, 102, 105, 108, 101, 95, 95]⟩ 173, .str ⟨#[47, 99, 108, 97, 105, 109, 47, 99, 117, 116, 46, 112, 121]⟩ 172⟩, ⟨PyData.keyHash P ⟨#[95, 95, 99, 97, 99, 104, 101, 100, 95, 95]⟩, .str ⟨#[95, 95, 99, 97, 99, 104, 101, 100, 95, 95]⟩ 174, .none⟩, ⟨PyData.keyHash P ⟨#[67, 82, 76, 70]⟩, .str ⟨#[67, 82, 76, 70]⟩ 188, .str ⟨#[13, 10]⟩ 187⟩, ⟨PyData.keyHash P ⟨#[78, 76]⟩, .str ⟨#[78, 76]⟩ 190, .str ⟨#[10]⟩ 189⟩, ⟨PyData.keyHash P ⟨#[95, 81, 85, 79, 80, 82, 73, 95, 77, 65, 80]⟩, .str ⟨#[95, 81, 85, 79, 80, 82, 73, 95, 77, 65, 80]⟩ 1218, .ref 17⟩, ⟨PyData.keyHash P ⟨#[95, 81, 85, 79, 80, 82, 73, 95, 72, 69, 65, 68, 69, 82, 95, 77, 65, 80]⟩, .str ⟨#[95, 81, 85, 79, 80, 82, 73, 95, 72, 69, 65, 68, 69, 82, 95, 77, 65, 80]⟩ 1219, .ref 22⟩, ⟨PyData.keyHash P ⟨#[95, 81, 85, 79, 80, 82, 73, 95, 66, 79, 68, 89, 95, 77, 65, 80]⟩, .str ⟨#[95, 81, 85, 79, 80, 82, 73, 95, 66, 79, 68, 89, 95, 77, 65, 80]⟩ 1220, .ref 24⟩, ⟨PyData.keyHash P ⟨#[97, 115, 99, 105, 105, 95, 108, 111, 119, 101, 114, 99, 97, 115, 101]⟩, .str ⟨#[97, 115, 99, 105, 105, 95, 108, 111, 119, 101, 114, 99, 97, 115, 101]⟩ 1222, .str ⟨#[97, 98, 99, 100, 101, 102, 103, 104, 105, 106, 107, 108, 109, 110, 111, 112, 113, 114, 115, 116, 117, 118, 119, 120, 121, 122]⟩ 1221⟩, ⟨PyData.keyHash P ⟨#[97, 115, 99, 105, 105, 95, 117, 112, 112, 101, 114, 99, 97, 115, 101]⟩, .str ⟨#[97, 115, 99, 105, 105, 95, 117, 112, 112, 101, 114, 99, 97, 115, 101]⟩ 1224, .str ⟨#[65, 66, 67, 68, 69, 70, 71, 72, 73, 74, 75, 76, 77, 78, 79, 80, 81, 82, 83, 84, 85, 86, 87, 88, 89, 90]⟩ 1223⟩, ⟨PyData.keyHash P ⟨#[97, 115, 99, 105, 105, 95, 108, 101, 116, 116, 101, 114, 115]⟩, .str ⟨#[97, 115, 99, 105, 105, 95, 108, 101, 116, 116, 101, 114, 115]⟩ 1226, .str ⟨#[97, 98, 99, 100, 101, 102, 103, 104, 105, 106, 107, 108, 109, 110, 111, 112, 113, 114, 115, 116, 117, 118, 119, 120, 121, 122, 65, 66, 67, 68, 69, 70, 71, 72, 73, 74, 75, 76, 77, 78, 79, 80, 81, 82, 83, 84, 85, 86, 87, 88, 89, 90]⟩ 1225⟩, ⟨PyData.keyHash P ⟨#[100, 105, 103, 105, 116, 115]⟩, .str ⟨#[100, 105, 103, 105, 116, 115]⟩ 1228, .str ⟨#[48, 49, 50, 51, 52, 53, 54, 55, 56, 57]⟩ 1227⟩, ⟨PyData.keyHash P ⟨#[99]⟩, .str ⟨#[99]⟩ 1239, .int 108 1286⟩]).toArray 19, #[]⟩) (⟨.type "list", none, .seq (mixL 17 lp10_r22 lp10_x22 lp10_y22).toArray 0, #[]⟩) (⟨.type "bytes_iterator", none, .fields ([.bytes #[45, 33, 42, 43, 47, 97, 98, 99, 100, 101, 102, 103, 104, 105, 106, 107, 108, 109, 110, 111, 112, 113, 114, 115, 116, 117, 118, 119, 120, 121, 122, 65, 66, 67, 68, 69, 70, 71, 72, 73, 74, 75, 76, 77, 78, 79, 80, 81, 82, 83, 84, 85, 86, 87, 88, 89, 90, 48, 49, 50, 51, 52, 53, 54, 55, 56, 57] 1237, .int 17 0]).toArray, #[]⟩), 26, life0, Array.mk [], boot_drawn, 1289, os⟩
theorem lp10_go9 (w : World) (os : OsState) : PySem.W.Fast.tw10295753902157049106 PySem.W.Fast.tw14364793385576792824 PR w 11 ann0 1 360 (lp10_s9 w os) lp10_T = some (lp10_s17 w os, lp10_T) := by kernel_rfl
noncomputable def lp10_s25 (w : World) (os : OsState) : SharedT := let P := w.params; ⟨tr_lp10 P (⟨.type "dict", none, .dict ([⟨PyData.keyHash P ⟨#[95, 95, 110, 97, 109, 101, 95, 95]⟩, .str ⟨#[95, 95, 110, 97, 109, 101, 95, 95]⟩ 165, .str ⟨#[99, 112, 121, 51, 49, 51, 46, 101, 109, 97, 105, 108, 46, 113, 117, 111, 112, 114, 105, 109, 105, 109, 101]⟩ 1229⟩, ⟨PyData.keyHash P ⟨#[95, 95, 100, 111, 99, 95, 95]⟩, .str ⟨#[95, 95, 100, 111, 99, 95, 95]⟩ 166, .none⟩, ⟨PyData.keyHash P ⟨#[95, 95, 112, 97, 99, 107, 97, 103, 101, 95, 95]⟩, .str ⟨#[95, 95, 112, 97, 99, 107, 97, 103, 101, 95, 95]⟩ 167, .none⟩, ⟨PyData.keyHash P ⟨#[95, 95, 108, 111, 97, 100, 101, 114, 95, 95]⟩, .str ⟨#[95, 95, 108, 111, 97, 100, 101, 114, 95, 95]⟩ 168, .builtin "__main__.__loader__#opaque"⟩, ⟨PyData.keyHash P ⟨#[95, 95, 115, 112, 101, 99, 95, 95]⟩, .str ⟨#[95, 95, 115, 112, 101, 99, 95, 95]⟩ 169, .none⟩, ⟨PyData.keyHash P ⟨#[95, 95, 97, 110, 110, 111, 116, 97, 116, 105, 111, 110, 115, 95, 95]⟩, .str ⟨#[95, 95, 97, 110, 110, 111, 116, 97, 116, 105, 111, 110, 115, 95, 95]⟩ 170, .ref 6⟩, ⟨PyData.keyHash P ⟨#[95, 95, 98, 117, 105, 108, 116, 105, 110, 115, 95, 95]⟩, .str ⟨#[95, 95, 98, 117, 105, 108, 116, 105, 110, 115, 95, 95]⟩ 171, .ref 4⟩, ⟨PyData.keyHash P ⟨#[95, 95, 102, 105, 108, 101, 95, 95]⟩, .str ⟨#[95, 95, 102, 105, 108, 101, 95, 95]⟩ 173, .str ⟨#[47, 99, 108, 97, 105, 109, 47, 99, 117, 116, 46, 112, 121]⟩ 172⟩, ⟨PyData.keyHash P ⟨#[95, 95, 99, 97, 99, 104, 101, 100, 95, 95]⟩, .str ⟨#[95, 95, 99, 97, 99, 104, 101, 100, 95, 95]⟩ 174, .none⟩, ⟨PyData.keyHash P ⟨#[67, 82, 76, 70]⟩, .str ⟨#[67, 82, 76, 70]⟩ 188, .str ⟨#[13, 10]⟩ 187⟩, ⟨PyData.keyHash P ⟨#[78, 76]⟩, .str ⟨#[78, 76]⟩ 190, .str ⟨#[10]⟩ 189⟩, ⟨PyData.keyHash P ⟨#[95, 81, 85, 79, 80, 82, 73, 95, 77, 65, 80]⟩, .str ⟨#[95, 81, 85, 79, 80, 82, 73, 95, 77, 65, 80]⟩ 1218, .ref 17⟩, ⟨PyData.keyHash P ⟨#[95, 81, 85, 79, 80, 82, 73, 95, 72, 69, 65, 68, 69, 82, 95, 77, 65, 80]⟩, .str ⟨#[95, 81, 85, 79, 80, 82, 73, 95, 72, 69, 65, 68, 69, 82, 95, 77, 65, 80]⟩ 1219, .ref 22⟩, ⟨PyData.keyHash P ⟨#[95, 81, 85, 79, 80, 82, 73, 95, 66, 79, 68, 89, 95, 77, 65, 80]⟩, .str ⟨#[95, 81, 85, 79, 80, 82, 73, 95, 66, 79, 68, 89, 95, 77, 65, 80]⟩ 1220, .ref 24⟩, ⟨PyData.keyHash P ⟨#[97, 115, 99, 105, 105, 95, 108, 111, 119, 101, 114, 99, 97, 115, 101]⟩, .str ⟨#[97, 115, 99, 105, 105, 95, 108, 111, 119, 101, 114, 99, 97, 115, 101]⟩ 1222, .str ⟨#[97, 98, 99, 100, 101, 102, 103, 104, 105, 106, 107, 108, 109, 110, 111, 112, 113, 114, 115, 116, 117, 118, 119, 120, 121, 122]⟩ 1221⟩, ⟨PyData.keyHash P ⟨#[97, 115, 99, 105, 105, 95, 117, 112, 112, 101, 114, 99, 97, 115, 101]⟩, .str ⟨#[97, 115, 99, 105, 105, 95, 117, 112, 112, 101, 114, 99, 97, 115, 101]⟩ 1224, .str ⟨#[65, 66, 67, 68, 69, 70, 71, 72, 73, 74, 75, 76, 77, 78, 79, 80, 81, 82, 83, 84, 85, 86, 87, 88, 89, 90]⟩ 1223⟩, ⟨PyData.keyHash P ⟨#[97, 115, 99, 105, 105, 95, 108, 101, 116, 116, 101, 114, 115]⟩, .str ⟨#[97, 115, 99, 105, 105, 95, 108, 101, 116, 116, 101, 114, 115]⟩ 1226, .str ⟨#[97, 98, 99, 100, 101, 102, 103, 104, 105, 106, 107, 108, 109, 110, 111, 112, 113, 114, 115, 116, 117, 118, 119, 120, 121, 122, 65, 66, 67, 68, 69, 70, 71, 72, 73, 74, 75, 76, 77, 78, 79, 80, 81, 82, 83, 84, 85, 86, 87, 88, 89, 90]⟩ 1225⟩, ⟨PyData.keyHash P ⟨#[100, 105, 103, 105, 116, 115]⟩, .str ⟨#[100, 105, 103, 105, 116, 115]⟩ 1228, .str ⟨#[48, 49, 50, 51, 52, 53, 54, 55, 56, 57]⟩ 1227⟩, ⟨PyData.keyHash P ⟨#[99]⟩, .str ⟨#[99]⟩ 1239, .int 116 1310⟩]).toArray 19, #[]⟩) (⟨.type "list", none, .seq (mixL 25 lp10_r22 lp10_x22 lp10_y22).toArray 0, #[]⟩) (⟨.type "bytes_iterator", none, .fields ([.bytes #[45, 33, 42, 43, 47, 97, 98, 99, 100, 101, 102, 103, 104, 105, 106, 107, 108, 109, 110, 111, 112, 113, 114, 115, 116, 117, 118, 119, 120, 121, 122, 65, 66, 67, 68, 69, 70, 71, 72, 73, 74, 75, 76, 77, 78, 79, 80, 81, 82, 83, 84, 85, 86, 87, 88, 89, 90, 48, 49, 50, 51, 52, 53, 54, 55, 56, 57] 1237, .int 25 0]).toArray, #[]⟩), 26, life0, Array.mk [], boot_drawn, 1313, os⟩
theorem lp10_go17 (w : World) (os : OsState) : PySem.W.Fast.tw10295753902157049106 PySem.W.Fast.tw14364793385576792824 PR w 11 ann0 1 360 (lp10_s17 w os) lp10_T = some (lp10_s25 w os, lp10_T) := by kernel_rfl
noncomputable def lp10_s33 (w : World) (os : OsState) : SharedT := let P := w.params; ⟨tr_lp10 P (⟨.type "dict", none, .dict ([⟨PyData.keyHash P ⟨#[95, 95, 110, 97, 109, 101, 95, 95]⟩, .str ⟨#[95, 95, 110, 97, 109, 101, 95, 95]⟩ 165, .str ⟨#[99, 112, 121, 51, 49, 51, 46, 101, 109, 97, 105, 108, 46, 113, 117, 111, 112, 114, 105, 109, 105, 109, 101]⟩ 1229⟩, ⟨PyData.keyHash P ⟨#[95, 95, 100, 111, 99, 95, 95]⟩, .str ⟨#[95, 95, 100, 111, 99, 95, 95]⟩ 166, .none⟩, ⟨PyData.keyHash P ⟨#[95, 95, 112, 97, 99, 107, 97, 103, 101, 95, 95]⟩, .str ⟨#[95, 95, 112, 97, 99, 107, 97, 103, 101, 95, 95]⟩ 167, .none⟩, ⟨PyData.keyHash P ⟨#[95, 95, 108, 111, 97, 100, 101, 114, 95, 95]⟩, .str ⟨#[95, 95, 108, 111, 97, 100, 101, 114, 95, 95]⟩ 168, .builtin "__main__.__loader__#opaque"⟩, ⟨PyData.keyHash P ⟨#[95, 95, 115, 112, 101, 99, 95, 95]⟩, .str ⟨#[95, 95, 115, 112, 101, 99, 95, 95]⟩ 169, .none⟩, ⟨PyData.keyHash P ⟨#[95, 95, 97, 110, 110, 111, 116, 97, 116, 105, 111, 110, 115, 95, 95]⟩, .str ⟨#[95, 95, 97, 110, 110, 111, 116, 97, 116, 105, 111, 110, 115, 95, 95]⟩ 170, .ref 6⟩, ⟨PyData.keyHash P ⟨#[95, 95, 98, 117, 105, 108, 116, 105, 110, 115, 95, 95]⟩, .str ⟨#[95, 95, 98, 117, 105, 108, 116, 105, 110, 115, 95, 95]⟩ 171, .ref 4⟩, ⟨PyData.keyHash P ⟨#[95, 95, 102, 105, 108, 101, 95, 95]⟩, .str ⟨#[95, 95, 102, 105, 108, 101, 95, 95]⟩ 173, .str ⟨#[47, 99, 108, 97, 105, 109, 47, 99, 117, 116, 46, 112, 121]⟩ 172⟩, ⟨PyData.keyHash P ⟨#[95, 95, 99, 97, 99, 104, 101, 100, 95, 95]⟩, .str ⟨#[95, 95, 99, 97, 99, 104, 101, 100, 95, 95]⟩ 174, .none⟩, ⟨PyData.keyHash P ⟨#[67, 82, 76, 70]⟩, .str ⟨#[67, 82, 76, 70]⟩ 188, .str ⟨#[13, 10]⟩ 187⟩, ⟨PyData.keyHash P ⟨#[78, 76]⟩, .str ⟨#[78, 76]⟩ 190, .str ⟨#[10]⟩ 189⟩, ⟨PyData.keyHash P ⟨#[95, 81, 85, 79, 80, 82, 73, 95, 77, 65, 80]⟩, .str ⟨#[95, 81, 85, 79, 80, 82, 73, 95, 77, 65, 80]⟩ 1218, .ref 17⟩, ⟨PyData.keyHash P ⟨#[95, 81, 85, 79, 80, 82, 73, 95, 72, 69, 65, 68, 69, 82, 95, 77, 65, 80]⟩, .str ⟨#[95, 81, 85, 79, 80, 82, 73, 95, 72, 69, 65, 68, 69, 82, 95, 77, 65, 80]⟩ 1219, .ref 22⟩, ⟨PyData.keyHash P ⟨#[95, 81, 85, 79, 80, 82, 73, 95, 66, 79, 68, 89, 95, 77, 65, 80]⟩, .str ⟨#[95, 81, 85, 79, 80, 82, 73, 95, 66, 79, 68, 89, 95, 77, 65, 80]⟩ 1220, .ref 24⟩, ⟨PyData.keyHash P ⟨#[97, 115, 99, 105, 105, 95, 108, 111, 119, 101, 114, 99, 97, 115, 101]⟩, .str ⟨#[97, 115, 99, 105, 105, 95, 108, 111, 119, 101, 114, 99, 97, 115, 101]⟩ 1222, .str ⟨#[97, 98, 99, 100, 101, 102, 103, 104, 105, 106, 107, 108, 109, 110, 111, 112, 113, 114, 115, 116, 117, 118, 119, 120, 121, 122]⟩ 1221⟩, ⟨PyData.keyHash P ⟨#[97, 115, 99, 105, 105, 95, 117, 112, 112, 101, 114, 99, 97, 115, 101]⟩, .str ⟨#[97, 115, 99, 105, 105, 95, 117, 112, 112, 101, 114, 99, 97, 115, 101]⟩ 1224, .str ⟨#[65, 66, 67, 68, 69, 70, 71, 72, 73, 74, 75, 76, 77, 78, 79, 80, 81, 82, 83, 84, 85, 86, 87, 88, 89, 90]⟩ 1223⟩, ⟨PyData.keyHash P ⟨#[97, 115, 99, 105, 105, 95, 108, 101, 116, 116, 101, 114, 115]⟩, .str ⟨#[97, 115, 99, 105, 105, 95, 108, 101, 116, 116, 101, 114, 115]⟩ 1226, .str ⟨#[97, 98, 99, 100, 101, 102, 103, 104, 105, 106, 107, 108, 109, 110, 111, 112, 113, 114, 115, 116, 117, 118, 119, 120, 121, 122, 65, 66, 67, 68, 69, 70, 71, 72, 73, 74, 75, 76, 77, 78, 79, 80, 81, 82, 83, 84, 85, 86, 87, 88, 89, 90]⟩ 1225⟩, ⟨PyData.keyHash P ⟨#[100, 105, 103, 105, 116, 115]⟩, .str ⟨#[100, 105, 103, 105, 116, 115]⟩ 1228, .str ⟨#[48, 49, 50, 51, 52, 53, 54, 55, 56, 57]⟩ 1227⟩, ⟨PyData.keyHash P ⟨#[99]⟩, .str ⟨#[99]⟩ 1239, .int 66 1334⟩]).toArray 19, #[]⟩) (⟨.type "list", none, .seq (mixL 33 lp10_r22 lp10_x22 lp10_y22).toArray 0, #[]⟩) (⟨.type "bytes_iterator", none, .fields ([.bytes #[45, 33, 42, 43, 47, 97, 98, 99, 100, 101, 102, 103, 104, 105, 106, 107, 108, 109, 110, 111, 112, 113, 114, 115, 116, 117, 118, 119, 120, 121, 122, 65, 66, 67, 68, 69, 70, 71, 72, 73, 74, 75, 76, 77, 78, 79, 80, 81, 82, 83, 84, 85, 86, 87, 88, 89, 90, 48, 49, 50, 51, 52, 53, 54, 55, 56, 57] 1237, .int 33 0]).toArray, #[]⟩), 26, life0, Array.mk [], boot_drawn, 1337, os⟩
theorem lp10_go25 (w : World) (os : OsState) : PySem.W.Fast.tw10295753902157049106 PySem.W.Fast.tw14364793385576792824 PR w 11 ann0 1 360 (lp10_s25 w os) lp10_T = some (lp10_s33 w os, lp10_T) := by kernel_rfl
noncomputable def lp10_s41 (w : World) (os : OsState) : SharedT := let P := w.params; ⟨tr_lp10 P (⟨.type "dict", none, .dict ([⟨PyData.keyHash P ⟨#[95, 95, 110, 97, 109, 101, 95, 95]⟩, .str ⟨#[95, 95, 110, 97, 109, 101, 95, 95]⟩ 165, .str ⟨#[99, 112, 121, 51, 49, 51, 46, 101, 109, 97, 105, 108, 46, 113, 117, 111, 112, 114, 105, 109, 105, 109, 101]⟩ 1229⟩, ⟨PyData.keyHash P ⟨#[95, 95, 100, 111, 99, 95, 95]⟩, .str ⟨#[95, 95, 100, 111, 99, 95, 95]⟩ 166, .none⟩, ⟨PyData.keyHash P ⟨#[95, 95, 112, 97, 99, 107, 97, 103, 101, 95, 95]⟩, .str ⟨#[95, 95, 112, 97, 99, 107, 97, 103, 101, 95, 95]⟩ 167, .none⟩, ⟨PyData.keyHash P ⟨#[95, 95, 108, 111, 97, 100, 101, 114, 95, 95]⟩, .str ⟨#[95, 95, 108, 111, 97, 100, 101, 114, 95, 95]⟩ 168, .builtin "__main__.__loader__#opaque"⟩, ⟨PyData.keyHash P ⟨#[95, 95, 115, 112, 101, 99, 95, 95]⟩, .str ⟨#[95, 95, 115, 112, 101, 99, 95, 95]⟩ 169, .none⟩, ⟨PyData.keyHash P ⟨#[95, 95, 97, 110, 110, 111, 116, 97, 116, 105, 111, 110, 115, 95, 95]⟩, .str ⟨#[95, 95, 97, 110, 110, 111, 116, 97, 116, 105, 111, 110, 115, 95, 95]⟩ 170, .ref 6⟩, ⟨PyData.keyHash P ⟨#[95, 95, 98, 117, 105, 108, 116, 105, 110, 115, 95, 95]⟩, .str ⟨#[95, 95, 98, 117, 105, 108, 116, 105, 110, 115, 95, 95]⟩ 171, .ref 4⟩, ⟨PyData.keyHash P ⟨#[95, 95, 102, 105, 108, 101, 95, 95]⟩, .str ⟨#[95, 95, 102, 105, 108, 101, 95, 95]⟩ 173, .str ⟨#[47, 99, 108, 97, 105, 109, 47, 99, 117, 116, 46, 112, 121]⟩ 172⟩, ⟨PyData.keyHash P ⟨#[95, 95, 99, 97, 99, 104, 101, 100, 95, 95]⟩, .str ⟨#[95, 95, 99, 97, 99, 104, 101, 100, 95, 95]⟩ 174, .none⟩, ⟨PyData.keyHash P ⟨#[67, 82, 76, 70]⟩, .str ⟨#[67, 82, 76, 70]⟩ 188, .str ⟨#[13, 10]⟩ 187⟩, ⟨PyData.keyHash P ⟨#[78, 76]⟩, .str ⟨#[78, 76]⟩ 190, .str ⟨#[10]⟩ 189⟩, ⟨PyData.keyHash P ⟨#[95, 81, 85, 79, 80, 82, 73, 95, 77, 65, 80]⟩, .str ⟨#[95, 81, 85, 79, 80, 82, 73, 95, 77, 65, 80]⟩ 1218, .ref 17⟩, ⟨PyData.keyHash P ⟨#[95, 81, 85, 79, 80, 82, 73, 95, 72, 69, 65, 68, 69, 82, 95, 77, 65, 80]⟩, .str ⟨#[95, 81, 85, 79, 80, 82, 73, 95, 72, 69, 65, 68, 69, 82, 95, 77, 65, 80]⟩ 1219, .ref 22⟩, ⟨PyData.keyHash P ⟨#[95, 81, 85, 79, 80, 82, 73, 95, 66, 79, 68, 89, 95, 77, 65, 80]⟩, .str ⟨#[95, 81, 85, 79, 80, 82, 73, 95, 66, 79, 68, 89, 95, 77, 65, 80]⟩ 1220, .ref 24⟩, ⟨PyData.keyHash P ⟨#[97, 115, 99, 105, 105, 95, 108, 111, 119, 101, 114, 99, 97, 115, 101]⟩, .str ⟨#[97, 115, 99, 105, 105, 95, 108, 111, 119, 101, 114, 99, 97, 115, 101]⟩ 1222, .str ⟨#[97, 98, 99, 100, 101, 102, 103, 104, 105, 106, 107, 108, 109, 110, 111, 112, 113, 114, 115, 116, 117, 118, 119, 120, 121, 122]⟩ 1221⟩, ⟨PyData.keyHash P ⟨#[97, 115, 99, 105, 105, 95, 117, 112, 112, 101, 114, 99, 97, 115, 101]⟩, .str ⟨#[97, 115, 99, 105, 105, 95, 117, 112, 112, 101, 114, 99, 97, 115, 101]⟩ 1224, .str ⟨#[65, 66, 67, 68, 69, 70, 71, 72, 73, 74, 75, 76, 77, 78, 79, 80, 81, 82, 83, 84, 85, 86, 87, 88, 89, 90]⟩ 1223⟩, ⟨PyData.keyHash P ⟨#[97, 115, 99, 105, 105, 95, 108, 101, 116, 116, 101, 114, 115]⟩, .str ⟨#[97, 115, 99, 105, 105, 95, 108, 101, 116, 116, 101, 114, 115]⟩ 1226, .str ⟨#[97, 98, 99, 100, 101, 102, 103, 104, 105, 106, 107, 108, 109, 110, 111, 112, 113, 114, 115, 116, 117, 118, 119, 120, 121, 122, 65, 66, 67, 68, 69, 70, 71, 72, 73, 74, 75, 76, 77, 78, 79, 80, 81, 82, 83, 84, 85, 86, 87, 88, 89, 90]⟩ 1225⟩, ⟨PyData.keyHash P ⟨#[100, 105, 103, 105, 116, 115]⟩, .str ⟨#[100, 105, 103, 105, 116, 115]⟩ 1228, .str ⟨#[48, 49, 50, 51, 52, 53, 54, 55, 56, 57]⟩ 1227⟩, ⟨PyData.keyHash P ⟨#[99]⟩, .str ⟨#[99]⟩ 1239, .int 74 1358⟩]).toArray 19, #[]⟩) (⟨.type "list", none, .seq (mixL 41 lp10_r22 lp10_x22 lp10_y22).toArray 0, #[]⟩) (⟨.type "bytes_iterator", none, .fields ([.bytes #[45, 33, 42, 43, 47, 97, 98, 99, 100, 101, 102, 103, 104, 105, 106, 107, 108, 109, 110, 111, 112, 113, 114, 115, 116, 117, 118, 119, 120, 121, 122, 65, 66, 67, 68, 69, 70, 71, 72, 73, 74, 75, 76, 77, 78, 79, 80, 81, 82, 83, 84, 85, 86, 87, 88, 89, 90, 48, 49, 50, 51, 52, 53, 54, 55, 56, 57] 1237, .int 41 0]).toArray, #[]⟩), 26, life0, Array.mk [], boot_drawn, 1361, os⟩
theorem lp10_go33 (w : World) (os : OsState) : PySem.W.Fast.tw10295753902157049106 PySem.W.Fast.tw14364793385576792824 PR w 11 ann0 1 360 (lp10_s33 w os) lp10_T = some (lp10_s41 w os, lp10_T) := by kernel_rfl
noncomputable def lp10_s49 (w : World) (os : OsState) : SharedT := let P := w.params; ⟨tr_lp10 P (⟨.type "dict", none, .dict ([⟨PyData.keyHash P ⟨#[95, 95, 110, 97, 109, 101, 95, 95]⟩, .str ⟨#[95, 95, 110, 97, 109, 101, 95, 95]⟩ 165, .str ⟨#[99, 112, 121, 51, 49, 51, 46, 101, 109, 97, 105, 108, 46, 113, 117, 111, 112, 114, 105, 109, 105, 109, 101]⟩ 1229⟩, ⟨PyData.keyHash P ⟨#[95, 95, 100, 111, 99, 95, 95]⟩, .str ⟨#[95, 95, 100, 111, 99, 95, 95]⟩ 166, .none⟩, ⟨PyData.keyHash P ⟨#[95, 95, 112, 97, 99, 107, 97, 103, 101, 95, 95]⟩, .str ⟨#[95, 95, 112, 97, 99, 107, 97, 103, 101, 95, 95]⟩ 167, .none⟩, ⟨PyData.keyHash P ⟨#[95, 95, 108, 111, 97, 100, 101, 114, 95, 95]⟩, .str ⟨#[95, 95, 108, 111, 97, 100, 101, 114, 95, 95]⟩ 168, .builtin "__main__.__loader__#opaque"⟩, ⟨PyData.keyHash P ⟨#[95, 95, 115, 112, 101, 99, 95, 95]⟩, .str ⟨#[95, 95, 115, 112, 101, 99, 95, 95]⟩ 169, .none⟩, ⟨PyData.keyHash P ⟨#[95, 95, 97, 110, 110, 111, 116, 97, 116, 105, 111, 110, 115, 95, 95]⟩, .str ⟨#[95, 95, 97, 110, 110, 111, 116, 97, 116, 105, 111, 110, 115, 95, 95]⟩ 170, .ref 6⟩, ⟨PyData.keyHash P ⟨#[95, 95, 98, 117, 105, 108, 116, 105, 110, 115, 95, 95]⟩, .str ⟨#[95, 95, 98, 117, 105, 108, 116, 105, 110, 115, 95, 95]⟩ 171, .ref 4⟩, ⟨PyData.keyHash P ⟨#[95, 95, 102, 105, 108, 101, 95, 95]⟩, .str ⟨#[95, 95, 102, 105, 108, 101, 95, 95]⟩ 173, .str ⟨#[47, 99, 108, 97, 105, 109, 47, 99, 117, 116, 46, 112, 121]⟩ 172⟩, ⟨PyData.keyHash P ⟨#[95, 95, 99, 97, 99, 104, 101, 100, 95, 95]⟩, .str ⟨#[95, 95, 99, 97, 99, 104, 101, 100, 95, 95]⟩ 174, .none⟩, ⟨PyData.keyHash P ⟨#[67, 82, 76, 70]⟩, .str ⟨#[67, 82, 76, 70]⟩ 188, .str ⟨#[13, 10]⟩ 187⟩, ⟨PyData.keyHash P ⟨#[78, 76]⟩, .str ⟨#[78, 76]⟩ 190, .str ⟨#[10]⟩ 189⟩, ⟨PyData.keyHash P ⟨#[95, 81, 85, 79, 80, 82, 73, 95, 77, 65, 80]⟩, .str ⟨#[95, 81, 85, 79, 80, 82, 73, 95, 77, 65, 80]⟩ 1218, .ref 17⟩, ⟨PyData.keyHash P ⟨#[95, 81, 85, 79, 80, 82, 73, 95, 72, 69, 65, 68, 69, 82, 95, 77, 65, 80]⟩, .str ⟨#[95, 81, 85, 79, 80, 82, 73, 95, 72, 69, 65, 68, 69, 82, 95, 77, 65, 80]⟩ 1219, .ref 22⟩, ⟨PyData.keyHash P ⟨#[95, 81, 85, 79, 80, 82, 73, 95, 66, 79, 68, 89, 95, 77, 65, 80]⟩, .str ⟨#[95, 81, 85, 79, 80, 82, 73, 95, 66, 79, 68, 89, 95, 77, 65, 80]⟩ 1220, .ref 24⟩, ⟨PyData.keyHash P ⟨#[97, 115, 99, 105, 105, 95, 108, 111, 119, 101, 114, 99, 97, 115, 101]⟩, .str ⟨#[97, 115, 99, 105, 105, 95, 108, 111, 119, 101, 114, 99, 97, 115, 101]⟩ 1222, .str ⟨#[97, 98, 99, 100, 101, 102, 103, 104, 105, 106, 107, 108, 109, 110, 111, 112, 113, 114, 115, 116, 117, 118, 119, 120, 121, 122]⟩ 1221⟩, ⟨PyData.keyHash P ⟨#[97, 115, 99, 105, 105, 95, 117, 112, 112, 101, 114, 99, 97, 115, 101]⟩, .str ⟨#[97, 115, 99, 105, 105, 95, 117, 112, 112, 101, 114, 99, 97, 115, 101]⟩ 1224, .str ⟨#[65, 66, 67, 68, 69, 70, 71, 72, 73, 74, 75, 76, 77, 78, 79, 80, 81, 82, 83, 84, 85, 86, 87, 88, 89, 90]⟩ 1223⟩, ⟨PyData.keyHash P ⟨#[97, 115, 99, 105, 105, 95, 108, 101, 116, 116, 101, 114, 115]⟩, .str ⟨#[97, 115, 99, 105, 105, 95, 108, 101, 116, 116, 101, 114, 115]⟩ 1226, .str ⟨#[97, 98, 99, 100, 101, 102, 103, 104, 105, 106, 107, 108, 109, 110, 111, 112, 113, 114, 115, 116, 117, 118, 119, 120, 121, 122, 65, 66, 67, 68, 69, 70, 71, 72, 73, 74, 75, 76, 77, 78, 79, 80, 81, 82, 83, 84, 85, 86, 87, 88, 89, 90]⟩ 1225⟩, ⟨PyData.keyHash P ⟨#[100, 105, 103, 105, 116, 115]⟩, .str ⟨#[100, 105, 103, 105, 116, 115]⟩ 1228, .str ⟨#[48, 49, 50, 51, 52, 53, 54, 55, 56, 57]⟩ 1227⟩, ⟨PyData.keyHash P ⟨#[99]⟩, .str ⟨#[99]⟩ 1239, .int 82 1382⟩]).toArray 19, #[]⟩) (⟨.type "list", none, .seq (mixL 49 lp10_r22 lp10_x22 lp10_y22).toArray 0, #[]⟩) (⟨.type "bytes_iterator", none, .fields ([.bytes #[45, 33, 42, 43, 47, 97, 98, 99, 100, 101, 102, 103, 104, 105, 106, 107, 108, 109, 110, 111, 112, 113, 114, 115, 116, 117, 118, 119, 120, 121, 122, 65, 66, 67, 68, 69, 70, 71, 72, 73, 74, 75, 76, 77, 78, 79, 80, 81, 82, 83, 84, 85, 86, 87, 88, 89, 90, 48, 49, 50, 51, 52, 53, 54, 55, 56, 57] 1237, .int 49 0]).toArray, #[]⟩), 26, life0, Array.mk [], boot_drawn, 1385, os⟩
theorem lp10_go41 (w : World) (os : OsState) : PySem.W.Fast.tw10295753902157049106 PySem.W.Fast.tw14364793385576792824 PR w 11 ann0 1 360 (lp10_s41 w os) lp10_T = some (lp10_s49 w os, lp10_T) := by kernel_rfl
noncomputable def lp10_s57 (w : World) (os : OsState) : SharedT := let P := w.params; ⟨tr_lp10 P (⟨.type "dict", none, .dict ([⟨PyData.keyHash P ⟨#[95, 95, 110, 97, 109, 101, 95, 95]⟩, .str ⟨#[95, 95, 110, 97, 109, 101, 95, 95]⟩ 165, .str ⟨#[99, 112, 121, 51, 49, 51, 46, 101, 109, 97, 105, 108, 46, 113, 117, 111, 112, 114, 105, 109, 105, 109, 101]⟩ 1229⟩, ⟨PyData.keyHash P ⟨#[95, 95, 100, 111, 99, 95, 95]⟩, .str ⟨#[95, 95, 100, 111, 99, 95, 95]⟩ 166, .none⟩, ⟨PyData.keyHash P ⟨#[95, 95, 112, 97, 99, 107, 97, 103, 101, 95, 95]⟩, .str ⟨#[95, 95, 112, 97, 99, 107, 97, 103, 101, 95, 95]⟩ 167, .none⟩, ⟨PyData.keyHash P ⟨#[95, 95, 108, 111, 97, 100, 101, 114, 95, 95]⟩, .str ⟨#[95, 95, 108, 111, 97, 100, 101, 114, 95, 95]⟩ 168, .builtin "__main__.__loader__#opaque"⟩, ⟨PyData.keyHash P ⟨#[95, 95, 115, 112, 101, 99, 95, 95]⟩, .str ⟨#[95, 95, 115, 112, 101, 99, 95, 95]⟩ 169, .none⟩, ⟨PyData.keyHash P ⟨#[95, 95, 97, 110, 110, 111, 116, 97, 116, 105, 111, 110, 115, 95, 95]⟩, .str ⟨#[95, 95, 97, 110, 110, 111, 116, 97, 116, 105, 111, 110, 115, 95, 95]⟩ 170, .ref 6⟩, ⟨PyData.keyHash P ⟨#[95, 95, 98, 117, 105, 108, 116, 105, 110, 115, 95, 95]⟩, .str ⟨#[95, 95, 98, 117, 105, 108, 116, 105, 110, 115, 95, 95]⟩ 171, .ref 4⟩, ⟨PyData.keyHash P ⟨#[95, 95, 102, 105, 108, 101, 95, 95]⟩, .str ⟨#[95, 95, 102, 105, 108, 101, 95, 95]⟩ 173, .str ⟨#[47, 99, 108, 97, 105, 109, 47, 99, 117, 116, 46, 112, 121]⟩ 172⟩, ⟨PyData.keyHash P ⟨#[95, 95, 99, 97, 99, 104, 101, 100, 95, 95]⟩, .str ⟨#[95, 95, 99, 97, 99, 104, 101, 100, 95, 95]⟩ 174, .none⟩, ⟨PyData.keyHash P ⟨#[67, 82, 76, 70]⟩, .str ⟨#[67, 82, 76, 70]⟩ 188, .str ⟨#[13, 10]⟩ 187⟩, ⟨PyData.keyHash P ⟨#[78, 76]⟩, .str ⟨#[78, 76]⟩ 190, .str ⟨#[10]⟩ 189⟩, ⟨PyData.keyHash P ⟨#[95, 81, 85, 79, 80, 82, 73, 95, 77, 65, 80]⟩, .str ⟨#[95, 81, 85, 79, 80, 82, 73, 95, 77, 65, 80]⟩ 1218, .ref 17⟩, ⟨PyData.keyHash P ⟨#[95, 81, 85, 79, 80, 82, 73, 95, 72, 69, 65, 68, 69, 82, 95, 77, 65, 80]⟩, .str ⟨#[95, 81, 85, 79, 80, 82, 73, 95, 72, 69, 65, 68, 69, 82, 95, 77, 65, 80]⟩ 1219, .ref 22⟩, ⟨PyData.keyHash P ⟨#[95, 81, 85, 79, 80, 82, 73, 95, 66, 79, 68, 89, 95, 77, 65, 80]⟩, .str ⟨#[95, 81, 85, 79, 80, 82, 73, 95, 66, 79, 68, 89, 95, 77, 65, 80]⟩ 1220, .ref 24⟩, ⟨PyData.keyHash P ⟨#[97, 115, 99, 105, 105, 95, 108, 111, 119, 101, 114, 99, 97, 115, 101]⟩, .str ⟨#[97, 115, 99, 105, 105, 95, 108, 111, 119, 101, 114, 99, 97, 115, 101]⟩ 1222, .str ⟨#[97, 98, 99, 100, 101, 102, 103, 104, 105, 106, 107, 108, 109, 110, 111, 112, 113, 114, 115, 116, 117, 118, 119, 120, 121, 122]⟩ 1221⟩, ⟨PyData.keyHash P ⟨#[97, 115, 99, 105, 105, 95, 117, 112, 112, 101, 114, 99, 97, 115, 101]⟩, .str ⟨#[97, 115, 99, 105, 105, 95, 117, 112, 112, 101, 114, 99, 97, 115, 101]⟩ 1224, .str ⟨#[65, 66, 67, 68, 69, 70, 71, 72, 73, 74, 75, 76, 77, 78, 79, 80, 81, 82, 83, 84, 85, 86, 87, 88, 89, 90]⟩ 1223⟩, ⟨PyData.keyHash P ⟨#[97, 115, 99, 105, 105, 95, 108, 101, 116, 116, 101, 114, 115]⟩, .str ⟨#[97, 115, 99, 105, 105, 95, 108, 101, 116, 116, 101, 114, 115]⟩ 1226, .str ⟨#[97, 98, 99, 100, 101, 102, 103, 104, 105, 106, 107, 108, 109, 110, 111, 112, 113, 114, 115, 116, 117, 118, 119, 120, 121, 122, 65, 66, 67, 68, 69, 70, 71, 72, 73, 74, 75, 76, 77, 78, 79, 80, 81, 82, 83, 84, 85, 86, 87, 88, 89, 90]⟩ 1225⟩, ⟨PyData.keyHash P ⟨#[100, 105, 103, 105, 116, 115]⟩, .str ⟨#[100, 105, 103, 105, 116, 115]⟩ 1228, .str ⟨#[48, 49, 50, 51, 52, 53, 54, 55, 56, 57]⟩ 1227⟩, ⟨PyData.keyHash P ⟨#[99]⟩, .str ⟨#[99]⟩ 1239, .int 90 1406⟩]).toArray 19, #[]⟩) (⟨.type "list", none, .seq (mixL 57 lp10_r22 lp10_x22 lp10_y22).toArray 0, #[]⟩) (⟨.type "bytes_iterator", none, .fields ([.bytes #[45, 33, 42, 43, 47, 97, 98, 99, 100, 101, 102, 103, 104, 105, 106, 107, 108, 109, 110, 111, 112, 113, 114, 115, 116, 117, 118, 119, 120, 121, 122, 65, 66, 67, 68, 69, 70, 71, 72, 73, 74, 75, 76, 77, 78, 79, 80, 81, 82, 83, 84, 85, 86, 87, 88, 89, 90, 48, 49, 50, 51, 52, 53, 54, 55, 56, 57] 1237, .int 57 0]).toArray, #[]⟩), 26, life0, Array.mk [], boot_drawn, 1409, os⟩
theorem lp10_go49 (w : World) (os : OsState) : PySem.W.Fast.tw10295753902157049106 PySem.W.Fast.tw14364793385576792824 PR w 11 ann0 1 360 (lp10_s49 w os) lp10_T = some (lp10_s57 w os, lp10_T) := by kernel_rfl
noncomputable def lp10_s65 (w : World) (os : OsState) : SharedT := let P := w.params; ⟨tr_lp10 P (⟨.type "dict", none, .dict ([⟨PyData.keyHash P ⟨#[95, 95, 110, 97, 109, 101, 95, 95]⟩, .str ⟨#[95, 95, 110, 97, 109, 101, 95, 95]⟩ 165, .str ⟨#[99, 112, 121, 51, 49, 51, 46, 101, 109, 97, 105, 108, 46, 113, 117, 111, 112, 114, 105, 109, 105, 109, 101]⟩ 1229⟩, ⟨PyData.keyHash P ⟨#[95, 95, 100, 111, 99, 95, 95]⟩, .str ⟨#[95, 95, 100, 111, 99, 95, 95]⟩ 166, .none⟩, ⟨PyData.keyHash P ⟨#[95, 95, 112, 97, 99, 107, 97, 103, 101, 95, 95]⟩, .str ⟨#[95, 95, 112, 97, 99, 107, 97, 103, 101, 95, 95]⟩ 167, .none⟩, ⟨PyData.keyHash P ⟨#[95, 95, 108, 111, 97, 100, 101, 114, 95, 95]⟩, .str ⟨#[95, 95, 108, 111, 97, 100, 101, 114, 95, 95]⟩ 168, .builtin "__main__.__loader__#opaque"⟩, ⟨PyData.keyHash P ⟨#[95, 95, 115, 112, 101, 99, 95, 95]⟩, .str ⟨#[95, 95, 115, 112, 101, 99, 95, 95]⟩ 169, .none⟩, ⟨PyData.keyHash P ⟨#[95, 95, 97, 110, 110, 111, 116, 97, 116, 105, 111, 110, 115, 95, 95]⟩, .str ⟨#[95, 95, 97, 110, 110, 111, 116, 97, 116, 105, 111, 110, 115, 95, 95]⟩ 170, .ref 6⟩, ⟨PyData.keyHash P ⟨#[95, 95, 98, 117, 105, 108, 116, 105, 110, 115, 95, 95]⟩, .str ⟨#[95, 95, 98, 117, 105, 108, 116, 105, 110, 115, 95, 95]⟩ 171, .ref 4⟩, ⟨PyData.keyHash P ⟨#[95, 95, 102, 105, 108, 101, 95, 95]⟩, .str ⟨#[95, 95, 102, 105, 108, 101, 95, 95]⟩ 173, .str ⟨#[47, 99, 108, 97, 105, 109, 47, 99, 117, 116, 46, 112, 121]⟩ 172⟩, ⟨PyData.keyHash P ⟨#[95, 95, 99, 97, 99, 104, 101, 100, 95, 95]⟩, .str ⟨#[95, 95, 99, 97, 99, 104, 101, 100, 95, 95]⟩ 174, .none⟩, ⟨PyData.keyHash P ⟨#[67, 82, 76, 70]⟩, .str ⟨#[67, 82, 76, 70]⟩ 188, .str ⟨#[13, 10]⟩ 187⟩, ⟨PyData.keyHash P ⟨#[78, 76]⟩, .str ⟨#[78, 76]⟩ 190, .str ⟨#[10]⟩ 189⟩, ⟨PyData.keyHash P ⟨#[95, 81, 85, 79, 80, 82, 73, 95, 77, 65, 80]⟩, .str ⟨#[95, 81, 85, 79, 80, 82, 73, 95, 77, 65, 80]⟩ 1218, .ref 17⟩, ⟨PyData.keyHash P ⟨#[95, 81, 85, 79, 80, 82, 73, 95, 72, 69, 65, 68, 69, 82, 95, 77, 65, 80]⟩, .str ⟨#[95, 81, 85, 79, 80, 82, 73, 95, 72, 69, 65, 68, 69, 82, 95, 77, 65, 80]⟩ 1219, .ref 22⟩, ⟨PyData.keyHash P ⟨#[95, 81, 85, 79, 80, 82, 73, 95, 66, 79, 68, 89, 95, 77, 65, 80]⟩, .str ⟨#[95, 81, 85, 79, 80, 82, 73, 95, 66, 79, 68, 89, 95, 77, 65, 80]⟩ 1220, .ref 24⟩, ⟨PyData.keyHash P ⟨#[97, 115, 99, 105, 105, 95, 108, 111, 119, 101, 114, 99, 97, 115, 101]⟩, .str ⟨#[97, 115, 99, 105, 105, 95, 108, 111, 119, 101, 114, 99, 97, 115, 101]⟩ 1222, .str ⟨#[97, 98, 99, 100, 101, 102, 103, 104, 105, 106, 107, 108, 109, 110, 111, 112, 113, 114, 115, 116, 117, 118, 119, 120, 121, 122]⟩ 1221⟩, ⟨PyData.keyHash P ⟨#[97, 115, 99, 105, 105, 95, 117, 112, 112, 101, 114, 99, 97, 115, 101]⟩, .str ⟨#[97, 115, 99, 105, 105, 95, 117, 112, 112, 101, 114, 99, 97, 115, 101]⟩ 1224, .str ⟨#[65, 66, 67, 68, 69, 70, 71, 72, 73, 74, 75, 76, 77, 78, 79, 80, 81, 82, 83, 84, 85, 86, 87, 88, 89, 90]⟩ 1223⟩, ⟨PyData.keyHash P ⟨#[97, 115, 99, 105, 105, 95, 108, 101, 116, 116, 101, 114, 115]⟩, .str ⟨#[97, 115, 99, 105, 105, 95, 108, 101, 116, 116, 101, 114, 115]⟩ 1226, .str ⟨#[97, 98, 99, 100, 101, 102, 103, 104, 105, 106, 107, 108, 109, 110, 111, 112, 113, 114, 115, 116, 117, 118, 119, 120, 121, 122, 65, 66, 67, 68, 69, 70, 71, 72, 73, 74, 75, 76, 77, 78, 79, 80, 81, 82, 83, 84, 85, 86, 87, 88, 89, 90]⟩ 1225⟩, ⟨PyData.keyHash P ⟨#[100, 105, 103, 105, 116, 115]⟩, .str ⟨#[100, 105, 103, 105, 116, 115]⟩ 1228, .str ⟨#[48, 49, 50, 51, 52, 53, 54, 55, 56, 57]⟩ 1227⟩, ⟨PyData.keyHash P ⟨#[99]⟩, .str ⟨#[99]⟩ 1239, .int 55 1430⟩]).toArray 19, #[]⟩) (⟨.type "list", none, .seq (mixL 65 lp10_r22 lp10_x22 lp10_y22).toArray 0, #[]⟩) (⟨.type "bytes_iterator", none, .fields ([.bytes #[45, 33, 42, 43, 47, 97, 98, 99, 100, 101, 102, 103, 104, 105, 106, 107, 108, 109, 110, 111, 112, 113, 114, 115, 116, 117, 118, 119, 120, 121, 122, 65, 66, 67, 68, 69, 70, 71, 72, 73, 74, 75, 76, 77, 78, 79, 80, 81, 82, 83, 84, 85, 86, 87, 88, 89, 90, 48, 49, 50, 51, 52, 53, 54, 55, 56, 57] 1237, .int 65 0]).toArray, #[]⟩), 26, life0, Array.mk [], boot_drawn, 1433, os⟩
theorem lp10_go57 (w : World) (os : OsState) : PySem.W.Fast.tw10295753902157049106 PySem.W.Fast.tw14364793385576792824 PR w 11 ann0 1 360 (lp10_s57 w os) lp10_T = some (lp10_s65 w os, lp10_T) := by kernel_rfl
noncomputable def lp10_s67 (w : World) (os : OsState) : SharedT := let P := w.params; ⟨tr_lp10 P (⟨.type "dict", none, .dict ([⟨PyData.keyHash P ⟨#[95, 95, 110, 97, 109, 101, 95, 95]⟩, .str ⟨#[95, 95, 110, 97, 109, 101, 95, 95]⟩ 165, .str ⟨#[99, 112, 121, 51, 49, 51, 46, 101, 109, 97, 105, 108, 46, 113, 117, 111, 112, 114, 105, 109, 105, 109, 101]⟩ 1229⟩, ⟨PyData.keyHash P ⟨#[95, 95, 100, 111, 99, 95, 95]⟩, .str ⟨#[95, 95, 100, 111, 99, 95, 95]⟩ 166, .none⟩, ⟨PyData.keyHash P ⟨#[95, 95, 112, 97, 99, 107, 97, 103, 101, 95, 95]⟩, .str ⟨#[95, 95, 112, 97, 99, 107, 97, 103, 101, 95, 95]⟩ 167, .none⟩, ⟨PyData.keyHash P ⟨#[95, 95, 108, 111, 97, 100, 101, 114, 95, 95]⟩, .str ⟨#[95, 95, 108, 111, 97, 100, 101, 114, 95, 95]⟩ 168, .builtin "__main__.__loader__#opaque"⟩, ⟨PyData.keyHash P ⟨#[95, 95, 115, 112, 101, 99, 95, 95]⟩, .str ⟨#[95, 95, 115, 112, 101, 99, 95, 95]⟩ 169, .none⟩, ⟨PyData.keyHash P ⟨#[95, 95, 97, 110, 110, 111, 116, 97, 116, 105, 111, 110, 115, 95, 95]⟩, .str ⟨#[95, 95, 97, 110, 110, 111, 116, 97, 116, 105, 111, 110, 115, 95, 95]⟩ 170, .ref 6⟩, ⟨PyData.keyHash P ⟨#[95, 95, 98, 117, 105, 108, 116, 105, 110, 115, 95, 95]⟩, .str ⟨#[95, 95, 98, 117, 105, 108, 116, 105, 110, 115, 95, 95]⟩ 171, .ref 4⟩, ⟨PyData.keyHash P ⟨#[95, 95, 102, 105, 108, 101, 95, 95]⟩, .str ⟨#[95, 95, 102, 105, 108, 101, 95, 95]⟩ 173, .str ⟨#[47, 99, 108, 97, 105, 109, 47, 99, 117, 116, 46, 112, 121]⟩ 172⟩, ⟨PyData.keyHash P ⟨#[95, 95, 99, 97, 99, 104, 101, 100, 95, 95]⟩, .str ⟨#[95, 95, 99, 97, 99, 104, 101, 100, 95, 95]⟩ 174, .none⟩, ⟨PyData.keyHash P ⟨#[67, 82, 76, 70]⟩, .str ⟨#[67, 82, 76, 70]⟩ 188, .str ⟨#[13, 10]⟩ 187⟩, ⟨PyData.keyHash P ⟨#[78, 76]⟩, .str ⟨#[78, 76]⟩ 190, .str ⟨#[10]⟩ 189⟩, ⟨PyData.keyHash P ⟨#[95, 81, 85, 79, 80, 82, 73, 95, 77, 65, 80]⟩, .str ⟨#[95, 81, 85, 79, 80, 82, 73, 95, 77, 65, 80]⟩ 1218, .ref 17⟩, ⟨PyData.keyHash P ⟨#[95, 81, 85, 79, 80, 82, 73, 95, 72, 69, 65, 68, 69, 82, 95, 77, 65, 80]⟩, .str ⟨#[95, 81, 85, 79, 80, 82, 73, 95, 72, 69, 65, 68, 69, 82, 95, 77, 65, 80]⟩ 1219, .ref 22⟩, ⟨PyData.keyHash P ⟨#[95, 81, 85, 79, 80, 82, 73, 95, 66, 79, 68, 89, 95, 77, 65, 80]⟩, .str ⟨#[95, 81, 85, 79, 80, 82, 73, 95, 66, 79, 68, 89, 95, 77, 65, 80]⟩ 1220, .ref 24⟩, ⟨PyData.keyHash P ⟨#[97, 115, 99, 105, 105, 95, 108, 111, 119, 101, 114, 99, 97, 115, 101]⟩, .str ⟨#[97, 115, 99, 105, 105, 95, 108, 111, 119, 101, 114, 99, 97, 115, 101]⟩ 1222, .str ⟨#[97, 98, 99, 100, 101, 102, 103, 104, 105, 106, 107, 108, 109, 110, 111, 112, 113, 114, 115, 116, 117, 118, 119, 120, 121, 122]⟩ 1221⟩, ⟨PyData.keyHash P ⟨#[97, 115, 99, 105, 105, 95, 117, 112, 112, 101, 114, 99, 97, 115, 101]⟩, .str ⟨#[97, 115, 99, 105, 105, 95, 117, 112, 112, 101, 114, 99, 97, 115, 101]⟩ 1224, .str ⟨#[65, 66, 67, 68, 69, 70, 71, 72, 73, 74, 75, 76, 77, 78, 79, 80, 81, 82, 83, 84, 85, 86, 87, 88, 89, 90]⟩ 1223⟩, ⟨PyData.keyHash P ⟨#[97, 115, 99, 105, 105, 95, 108, 101, 116, 116, 101, 114, 115]⟩, .str ⟨#[97, 115, 99, 105, 105, 95, 108, 101, 116, 116, 101, 114, 115]⟩ 1226, .str ⟨#[97, 98, 99, 100, 101, 102, 103, 104, 105, 106, 107, 108, 109, 110, 111, 112, 113, 114, 115, 116, 117, 118, 119, 120, 121, 122, 65, 66, 67, 68, 69, 70, 71, 72, 73, 74, 75, 76, 77, 78, 79, 80, 81, 82, 83, 84, 85, 86, 87, 88, 89, 90]⟩ 1225⟩, ⟨PyData.keyHash P ⟨#[100, 105, 103, 105, 116, 115]⟩, .str ⟨#[100, 105, 103, 105, 116, 115]⟩ 1228, .str ⟨#[48, 49, 50, 51, 52, 53, 54, 55, 56, 57]⟩ 1227⟩, ⟨PyData.keyHash P ⟨#[99]⟩, .str ⟨#[99]⟩ 1239, .int 57 1436⟩]).toArray 19, #[]⟩) (⟨.type "list", none, .seq (mixL 67 lp10_r22 lp10_x22 lp10_y22).toArray 0, #[]⟩) (⟨.type "bytes_iterator", none, .fields ([.bytes #[45, 33, 42, 43, 47, 97, 98, 99, 100, 101, 102, 103, 104, 105, 106, 107, 108, 109, 110, 111, 112, 113, 114, 115, 116, 117, 118, 119, 120, 121, 122, 65, 66, 67, 68, 69, 70, 71, 72, 73, 74, 75, 76, 77, 78, 79, 80, 81, 82, 83, 84, 85, 86, 87, 88, 89, 90, 48, 49, 50, 51, 52, 53, 54, 55, 56, 57] 1237, .int 67 0]).toArray, #[]⟩), 26, life0, Array.mk [], boot_drawn, 1439, os⟩
theorem lp10_go65 (w : World) (os : OsState) : PySem.W.Fast.tw10295753902157049106 PySem.W.Fast.tw14364793385576792824 PR w 11 ann0 1 90 (lp10_s65 w os) lp10_T = some (lp10_s67 w os, lp10_T) := by kernel_rfl
noncomputable def o3_24 (P : Params) : Obj := ⟨.type "dict", none, .dict ([⟨PyData.keyHash P ⟨#[95, 95, 110, 97, 109, 101, 95, 95]⟩, .str ⟨#[95, 95, 110, 97, 109, 101, 95, 95]⟩ 165, .str ⟨#[99, 112, 121, 51, 49, 51, 46, 101, 109, 97, 105, 108, 46, 113, 117, 111, 112, 114, 105, 109, 105, 109, 101]⟩ 1229⟩, ⟨PyData.keyHash P ⟨#[95, 95, 100, 111, 99, 95, 95]⟩, .str ⟨#[95, 95, 100, 111, 99, 95, 95]⟩ 166, .none⟩, ⟨PyData.keyHash P ⟨#[95, 95, 112, 97, 99, 107, 97, 103, 101, 95, 95]⟩, .str ⟨#[95, 95, 112, 97, 99, 107, 97, 103, 101, 95, 95]⟩ 167, .none⟩, ⟨PyData.keyHash P ⟨#[95, 95, 108, 111, 97, 100, 101, 114, 95, 95]⟩, .str ⟨#[95, 95, 108, 111, 97, 100, 101, 114, 95, 95]⟩ 168, .builtin "__main__.__loader__#opaque"⟩, ⟨PyData.keyHash P ⟨#[95, 95, 115, 112, 101, 99, 95, 95]⟩, .str ⟨#[95, 95, 115, 112, 101, 99, 95, 95]⟩ 169, .none⟩, ⟨PyData.keyHash P ⟨#[95, 95, 97, 110, 110, 111, 116, 97, 116, 105, 111, 110, 115, 95, 95]⟩, .str ⟨#[95, 95, 97, 110, 110, 111, 116, 97, 116, 105, 111, 110, 115, 95, 95]⟩ 170, .ref 6⟩, ⟨PyData.keyHash P ⟨#[95, 95, 98, 117, 105, 108, 116, 105, 110, 115, 95, 95]⟩, .str ⟨#[95, 95, 98, 117, 105, 108, 116, 105, 110, 115, 95, 95]⟩ 171, .ref 4⟩, ⟨PyData.keyHash P ⟨#[95, 95, 102, 105, 108, 101, 95, 95]⟩, .str ⟨#[95, 95, 102, 105, 108, 101, 95, 95]⟩ 173, .str ⟨#[47, 99, 108, 97, 105, 109, 47, 99, 117, 116, 46, 112, 121]⟩ 172⟩, ⟨PyData.keyHash P ⟨#[95, 95, 99, 97, 99, 104, 101, 100, 95, 95]⟩, .str ⟨#[95, 95, 99, 97, 99, 104, 101, 100, 95, 95]⟩ 174, .none⟩, ⟨PyData.keyHash P ⟨#[67, 82, 76, 70]⟩, .str ⟨#[67, 82, 76, 70]⟩ 188, .str ⟨#[13, 10]⟩ 187⟩, ⟨PyData.keyHash P ⟨#[78, 76]⟩, .str ⟨#[78, 76]⟩ 190, .str ⟨#[10]⟩ 189⟩, ⟨PyData.keyHash P ⟨#[95, 81, 85, 79, 80, 82, 73, 95, 77, 65, 80]⟩, .str ⟨#[95, 81, 85, 79, 80, 82, 73, 95, 77, 65, 80]⟩ 1218, .ref 17⟩, ⟨PyData.keyHash P ⟨#[95, 81, 85, 79, 80, 82, 73, 95, 72, 69, 65, 68, 69, 82, 95, 77, 65, 80]⟩, .str ⟨#[95, 81, 85, 79, 80, 82, 73, 95, 72, 69, 65, 68, 69, 82, 95, 77, 65, 80]⟩ 1219, .ref 22⟩, ⟨PyData.keyHash P ⟨#[95, 81, 85, 79, 80, 82, 73, 95, 66, 79, 68, 89, 95, 77, 65, 80]⟩, .str ⟨#[95, 81, 85, 79, 80, 82, 73, 95, 66, 79, 68, 89, 95, 77, 65, 80]⟩ 1220, .ref 24⟩, ⟨PyData.keyHash P ⟨#[97, 115, 99, 105, 105, 95, 108, 111, 119, 101, 114, 99, 97, 115, 101]⟩, .str ⟨#[97, 115, 99, 105, 105, 95, 108, 111, 119, 101, 114, 99, 97, 115, 101]⟩ 1222, .str ⟨#[97, 98, 99, 100, 101, 102, 103, 104, 105, 106, 107, 108, 109, 110, 111, 112, 113, 114, 115, 116, 117, 118, 119, 120, 121, 122]⟩ 1221⟩, ⟨PyData.keyHash P ⟨#[97, 115, 99, 105, 105, 95, 117, 112, 112, 101, 114, 99, 97, 115, 101]⟩, .str ⟨#[97, 115, 99, 105, 105, 95, 117, 112, 112, 101, 114, 99, 97, 115, 101]⟩ 1224, .str ⟨#[65, 66, 67, 68, 69, 70, 71, 72, 73, 74, 75, 76, 77, 78, 79, 80, 81, 82, 83, 84, 85, 86, 87, 88, 89, 90]⟩ 1223⟩, ⟨PyData.keyHash P ⟨#[97, 115, 99, 105, 105, 95, 108, 101, 116, 116, 101, 114, 115]⟩, .str ⟨#[97, 115, 99, 105, 105, 95, 108, 101, 116, 116, 101, 114, 115]⟩ 1226, .str ⟨#[97, 98, 99, 100, 101, 102, 103, 104, 105, 106, 107, 108, 109, 110, 111, 112, 113, 114, 115, 116, 117, 118, 119, 120, 121, 122, 65, 66, 67, 68, 69, 70, 71, 72, 73, 74, 75, 76, 77, 78, 79, 80, 81, 82, 83, 84, 85, 86, 87, 88, 89, 90]⟩ 1225⟩, ⟨PyData.keyHash P ⟨#[100, 105, 103, 105, 116, 115]⟩, .str ⟨#[100, 105, 103, 105, 116, 115]⟩ 1228, .str ⟨#[48, 49, 50, 51, 52, 53, 54, 55, 56, 57]⟩ 1227⟩, ⟨PyData.keyHash P ⟨#[99]⟩, .str ⟨#[99]⟩ 1239, .int 57 1436⟩]).toArray 19, #[]⟩
noncomputable def o22_25 (P : Params) : Obj := ⟨.type "list", none, .seq ([.str ⟨#[61, 48, 48]⟩ 197, .str ⟨#[61, 48, 49]⟩ 201, .str ⟨#[61, 48, 50]⟩ 205, .str ⟨#[61, 48, 51]⟩ 209, .str ⟨#[61, 48, 52]⟩ 213, .str ⟨#[61, 48, 53]⟩ 217, .str ⟨#[61, 48, 54]⟩ 221, .str ⟨#[61, 48, 55]⟩ 225, .str ⟨#[61, 48, 56]⟩ 229, .str ⟨#[61, 48, 57]⟩ 233, .str ⟨#[61, 48, 65]⟩ 237, .str ⟨#[61, 48, 66]⟩ 241, .str ⟨#[61, 48, 67]⟩ 245, .str ⟨#[61, 48, 68]⟩ 249, .str ⟨#[61, 48, 69]⟩ 253, .str ⟨#[61, 48, 70]⟩ 257, .str ⟨#[61, 49, 48]⟩ 261, .str ⟨#[61, 49, 49]⟩ 265, .str ⟨#[61, 49, 50]⟩ 269, .str ⟨#[61, 49, 51]⟩ 273, .str ⟨#[61, 49, 52]⟩ 277, .str ⟨#[61, 49, 53]⟩ 281, .str ⟨#[61, 49, 54]⟩ 285, .str ⟨#[61, 49, 55]⟩ 289, .str ⟨#[61, 49, 56]⟩ 293, .str ⟨#[61, 49, 57]⟩ 297, .str ⟨#[61, 49, 65]⟩ 301, .str ⟨#[61, 49, 66]⟩ 305, .str ⟨#[61, 49, 67]⟩ 309, .str ⟨#[61, 49, 68]⟩ 313, .str ⟨#[61, 49, 69]⟩ 317, .str ⟨#[61, 49, 70]⟩ 321, .str ⟨#[61, 50, 48]⟩ 325, .str ⟨#[33]⟩ 1243, .str ⟨#[61, 50, 50]⟩ 333, .str ⟨#[61, 50, 51]⟩ 337, .str ⟨#[61, 50, 52]⟩ 341, .str ⟨#[61, 50, 53]⟩ 345, .str ⟨#[61, 50, 54]⟩ 349, .str ⟨#[61, 50, 55]⟩ 353, .str ⟨#[61, 50, 56]⟩ 357, .str ⟨#[61, 50, 57]⟩ 361, .str ⟨#[42]⟩ 1246, .str ⟨#[43]⟩ 1249, .str ⟨#[61, 50, 67]⟩ 373, .str ⟨#[45]⟩ 1240, .str ⟨#[61, 50, 69]⟩ 381, .str ⟨#[47]⟩ 1252, .str ⟨#[48]⟩ 1411, .str ⟨#[49]⟩ 1414, .str ⟨#[50]⟩ 1417, .str ⟨#[51]⟩ 1420, .str ⟨#[52]⟩ 1423, .str ⟨#[53]⟩ 1426, .str ⟨#[54]⟩ 1429, .str ⟨#[55]⟩ 1432, .str ⟨#[56]⟩ 1435, .str ⟨#[57]⟩ 1438, .str ⟨#[61, 51, 65]⟩ 429, .str ⟨#[61, 51, 66]⟩ 433, .str ⟨#[61, 51, 67]⟩ 437, .str ⟨#[61, 51, 68]⟩ 441, .str ⟨#[61, 51, 69]⟩ 445, .str ⟨#[61, 51, 70]⟩ 449, .str ⟨#[61, 52, 48]⟩ 453, .str ⟨#[65]⟩ 1333, .str ⟨#[66]⟩ 1336, .str ⟨#[67]⟩ 1339, .str ⟨#[68]⟩ 1342, .str ⟨#[69]⟩ 1345, .str ⟨#[70]⟩ 1348, .str ⟨#[71]⟩ 1351, .str ⟨#[72]⟩ 1354, .str ⟨#[73]⟩ 1357, .str ⟨#[74]⟩ 1360, .str ⟨#[75]⟩ 1363, .str ⟨#[76]⟩ 1366, .str ⟨#[77]⟩ 1369, .str ⟨#[78]⟩ 1372, .str ⟨#[79]⟩ 1375, .str ⟨#[80]⟩ 1378, .str ⟨#[81]⟩ 1381, .str ⟨#[82]⟩ 1384, .str ⟨#[83]⟩ 1387, .str ⟨#[84]⟩ 1390, .str ⟨#[85]⟩ 1393, .str ⟨#[86]⟩ 1396, .str ⟨#[87]⟩ 1399, .str ⟨#[88]⟩ 1402, .str ⟨#[89]⟩ 1405, .str ⟨#[90]⟩ 1408, .str ⟨#[61, 53, 66]⟩ 561, .str ⟨#[61, 53, 67]⟩ 565, .str ⟨#[61, 53, 68]⟩ 569, .str ⟨#[61, 53, 69]⟩ 573, .str ⟨#[61, 53, 70]⟩ 577, .str ⟨#[61, 54, 48]⟩ 581, .str ⟨#[97]⟩ 1255, .str ⟨#[98]⟩ 1258, .str ⟨#[99]⟩ 1261, .str ⟨#[100]⟩ 1264, .str ⟨#[101]⟩ 1267, .str ⟨#[102]⟩ 1270, .str ⟨#[103]⟩ 1273, .str ⟨#[104]⟩ 1276, .str ⟨#[105]⟩ 1279, .str ⟨#[106]⟩ 1282, .str ⟨#[107]⟩ 1285, .str ⟨#[108]⟩ 1288, .str ⟨#[109]⟩ 1291, .str ⟨#[110]⟩ 1294, .str ⟨#[111]⟩ 1297, .str ⟨#[112]⟩ 1300, .str ⟨#[113]⟩ 1303, .str ⟨#[114]⟩ 1306, .str ⟨#[115]⟩ 1309, .str ⟨#[116]⟩ 1312, .str ⟨#[117]⟩ 1315, .str ⟨#[118]⟩ 1318, .str ⟨#[119]⟩ 1321, .str ⟨#[120]⟩ 1324, .str ⟨#[121]⟩ 1327, .str ⟨#[122]⟩ 1330, .str ⟨#[61, 55, 66]⟩ 689, .str ⟨#[61, 55, 67]⟩ 693, .str ⟨#[61, 55, 68]⟩ 697, .str ⟨#[61, 55, 69]⟩ 701, .str ⟨#[61, 55, 70]⟩ 705, .str ⟨#[61, 56, 48]⟩ 709, .str ⟨#[61, 56, 49]⟩ 713, .str ⟨#[61, 56, 50]⟩ 717, .str ⟨#[61, 56, 51]⟩ 721, .str ⟨#[61, 56, 52]⟩ 725, .str ⟨#[61, 56, 53]⟩ 729, .str ⟨#[61, 56, 54]⟩ 733, .str ⟨#[61, 56, 55]⟩ 737, .str ⟨#[61, 56, 56]⟩ 741, .str ⟨#[61, 56, 57]⟩ 745, .str ⟨#[61, 56, 65]⟩ 749, .str ⟨#[61, 56, 66]⟩ 753, .str ⟨#[61, 56, 67]⟩ 757, .str ⟨#[61, 56, 68]⟩ 761, .str ⟨#[61, 56, 69]⟩ 765, .str ⟨#[61, 56, 70]⟩ 769, .str ⟨#[61, 57, 48]⟩ 773, .str ⟨#[61, 57, 49]⟩ 777, .str ⟨#[61, 57, 50]⟩ 781, .str ⟨#[61, 57, 51]⟩ 785, .str ⟨#[61, 57, 52]⟩ 789, .str ⟨#[61, 57, 53]⟩ 793, .str ⟨#[61, 57, 54]⟩ 797, .str ⟨#[61, 57, 55]⟩ 801, .str ⟨#[61, 57, 56]⟩ 805, .str ⟨#[61, 57, 57]⟩ 809, .str ⟨#[61, 57, 65]⟩ 813, .str ⟨#[61, 57, 66]⟩ 817, .str ⟨#[61, 57, 67]⟩ 821, .str ⟨#[61, 57, 68]⟩ 825, .str ⟨#[61, 57, 69]⟩ 829, .str ⟨#[61, 57, 70]⟩ 833, .str ⟨#[61, 65, 48]⟩ 837, .str ⟨#[61, 65, 49]⟩ 841, .str ⟨#[61, 65, 50]⟩ 845, .str ⟨#[61, 65, 51]⟩ 849, .str ⟨#[61, 65, 52]⟩ 853, .str ⟨#[61, 65, 53]⟩ 857, .str ⟨#[61, 65, 54]⟩ 861, .str ⟨#[61, 65, 55]⟩ 865, .str ⟨#[61, 65, 56]⟩ 869, .str ⟨#[61, 65, 57]⟩ 873, .str ⟨#[61, 65, 65]⟩ 877, .str ⟨#[61, 65, 66]⟩ 881, .str ⟨#[61, 65, 67]⟩ 885, .str ⟨#[61, 65, 68]⟩ 889, .str ⟨#[61, 65, 69]⟩ 893, .str ⟨#[61, 65, 70]⟩ 897, .str ⟨#[61, 66, 48]⟩ 901, .str ⟨#[61, 66, 49]⟩ 905, .str ⟨#[61, 66, 50]⟩ 909, .str ⟨#[61, 66, 51]⟩ 913, .str ⟨#[61, 66, 52]⟩ 917, .str ⟨#[61, 66, 53]⟩ 921, .str ⟨#[61, 66, 54]⟩ 925, .str ⟨#[61, 66, 55]⟩ 929, .str ⟨#[61, 66, 56]⟩ 933, .str ⟨#[61, 66, 57]⟩ 937, .str ⟨#[61, 66, 65]⟩ 941, .str ⟨#[61, 66, 66]⟩ 945, .str ⟨#[61, 66, 67]⟩ 949, .str ⟨#[61, 66, 68]⟩ 953, .str ⟨#[61, 66, 69]⟩ 957, .str ⟨#[61, 66, 70]⟩ 961, .str ⟨#[61, 67, 48]⟩ 965, .str ⟨#[61, 67, 49]⟩ 969, .str ⟨#[61, 67, 50]⟩ 973, .str ⟨#[61, 67, 51]⟩ 977, .str ⟨#[61, 67, 52]⟩ 981, .str ⟨#[61, 67, 53]⟩ 985, .str ⟨#[61, 67, 54]⟩ 989, .str ⟨#[61, 67, 55]⟩ 993, .str ⟨#[61, 67, 56]⟩ 997, .str ⟨#[61, 67, 57]⟩ 1001, .str ⟨#[61, 67, 65]⟩ 1005, .str ⟨#[61, 67, 66]⟩ 1009, .str ⟨#[61, 67, 67]⟩ 1013, .str ⟨#[61, 67, 68]⟩ 1017, .str ⟨#[61, 67, 69]⟩ 1021, .str ⟨#[61, 67, 70]⟩ 1025, .str ⟨#[61, 68, 48]⟩ 1029, .str ⟨#[61, 68, 49]⟩ 1033, .str ⟨#[61, 68, 50]⟩ 1037, .str ⟨#[61, 68, 51]⟩ 1041, .str ⟨#[61, 68, 52]⟩ 1045, .str ⟨#[61, 68, 53]⟩ 1049, .str ⟨#[61, 68, 54]⟩ 1053, .str ⟨#[61, 68, 55]⟩ 1057, .str ⟨#[61, 68, 56]⟩ 1061, .str ⟨#[61, 68, 57]⟩ 1065, .str ⟨#[61, 68, 65]⟩ 1069, .str ⟨#[61, 68, 66]⟩ 1073, .str ⟨#[61, 68, 67]⟩ 1077, .str ⟨#[61, 68, 68]⟩ 1081, .str ⟨#[61, 68, 69]⟩ 1085, .str ⟨#[61, 68, 70]⟩ 1089, .str ⟨#[61, 69, 48]⟩ 1093, .str ⟨#[61, 69, 49]⟩ 1097, .str ⟨#[61, 69, 50]⟩ 1101, .str ⟨#[61, 69, 51]⟩ 1105, .str ⟨#[61, 69, 52]⟩ 1109, .str ⟨#[61, 69, 53]⟩ 1113, .str ⟨#[61, 69, 54]⟩ 1117, .str ⟨#[61, 69, 55]⟩ 1121, .str ⟨#[61, 69, 56]⟩ 1125, .str ⟨#[61, 69, 57]⟩ 1129, .str ⟨#[61, 69, 65]⟩ 1133, .str ⟨#[61, 69, 66]⟩ 1137, .str ⟨#[61, 69, 67]⟩ 1141, .str ⟨#[61, 69, 68]⟩ 1145, .str ⟨#[61, 69, 69]⟩ 1149, .str ⟨#[61, 69, 70]⟩ 1153, .str ⟨#[61, 70, 48]⟩ 1157, .str ⟨#[61, 70, 49]⟩ 1161, .str ⟨#[61, 70, 50]⟩ 1165, .str ⟨#[61, 70, 51]⟩ 1169, .str ⟨#[61, 70, 52]⟩ 1173, .str ⟨#[61, 70, 53]⟩ 1177, .str ⟨#[61, 70, 54]⟩ 1181, .str ⟨#[61, 70, 55]⟩ 1185, .str ⟨#[61, 70, 56]⟩ 1189, .str ⟨#[61, 70, 57]⟩ 1193, .str ⟨#[61, 70, 65]⟩ 1197, .str ⟨#[61, 70, 66]⟩ 1201, .str ⟨#[61, 70, 67]⟩ 1205, .str ⟨#[61, 70, 68]⟩ 1209, .str ⟨#[61, 70, 69]⟩ 1213, .str ⟨#[61, 70, 70]⟩ 1217]).toArray 0, #[]⟩
noncomputable def o25_26 (P : Params) : Obj := ⟨.type "bytes_iterator", none, .fields ([.none, .int 67 0]).toArray, #[]⟩
noncomputable def o26_27 (P : Params) : Obj := ⟨.type "tuple", none, .seq ([]).toArray 0, #[]⟩
noncomputable def o27_28 (P : Params) : Obj := ⟨.type "StopIteration", none, .fields ([.ref 26, .none, .none, .none, .bool false, .none]).toArray, #[]⟩
noncomputable def tr_s10 (P : Params) : BT := (.node (boot_o_0 P) (.node (boot_o_1 P) (.node (o3_24 P) (.node (boot_o_7 P) (.node (o15_10 P) .nil .nil) (.node (o23_19 P) .nil .nil)) (.node (o11_0 P) (.node (o19_14 P) .nil .nil) (.node (o27_28 P) .nil .nil))) (.node (boot_o_5 P) (.node (boot_o_9 P) (.node (o17_12 P) .nil .nil) (.node (o25_26 P) .nil .nil)) (.node (o13_2 P) (.node (o21_17 P) .nil .nil) .nil))) (.node (boot_o_2 P) (.node (boot_o_4 P) (.node (boot_o_8 P) (.node (o16_11 P) .nil .nil) (.node (o24_20 P) .nil .nil)) (.node (o12_1 P) (.node (o20_15 P) .nil .nil) .nil)) (.node (boot_o_6 P) (.node (boot_o_10 P) (.node (o18_13 P) .nil .nil) (.node (o26_27 P) .nil .nil)) (.node (o14_3 P) (.node (o22_25 P) .nil .nil) .nil))))
noncomputable def s10 (w : World) (os : OsState) : SharedT := ⟨tr_s10 w.params, 28, life0, Array.mk [], boot_drawn, 1439, os⟩
theorem lp10_end (w : World) (os : OsState) : PySem.W.Fast.tw10110043849684766642 PySem.W.Fast.tw14364793385576792824 PR w 11 ann0 1 18 (lp10_s67 w os) lp10_T = some (.next, s10 w os, cE, ⟨11, 9, 11, 74⟩) := by kernel_rfl
theorem lp10_rest (w : World) (os : OsState) : segRun treeTable PR w 11 ann0 1 2988 (lp10_s1 w os).abs lp10_T = some (.next, (s10 w os).abs, cE, ⟨11, 9, 11, 74⟩) := (seg_go (n := 360) (segGo_of (goT (lp10_go1 w os))) (seg_go (n := 360) (segGo_of (goT (lp10_go9 w os))) (seg_go (n := 360) (segGo_of (goT (lp10_go17 w os))) (seg_go (n := 360) (segGo_of (goT (lp10_go25 w os))) (seg_go (n := 360) (segGo_of (goT (lp10_go33 w os))) (seg_go (n := 360) (segGo_of (goT (lp10_go41 w os))) (seg_go (n := 360) (segGo_of (goT (lp10_go49 w os))) (seg_go (n := 360) (segGo_of (goT (lp10_go57 w os))) (seg_go (n := 90) (segGo_of (goT (lp10_go65 w os))) (segRun_of (runT (lp10_end w os))))))))))))
def lp10_P (w : World) : Prop := ∀ os : OsState, segRun treeTable PR w 11 ann0 1 3077 (s9 w os).abs (piecesOf lp10_sts env0 cE ⟨10, 0, 10, 8⟩ B0) = some (.next, (s10 w os).abs, cE, ⟨11, 9, 11, 74⟩)
theorem lp10_start_f_a (w : World) (os : OsState) : segRun treeTable PR (w.withFollow "special-get-raises" false) 11 ann0 1 (89 + 2988) (s9 (w.withFollow "special-get-raises" false) os).abs (piecesOf lp10_sts env0 cE ⟨10, 0, 10, 8⟩ B0) = some (.next, (s10 (w.withFollow "special-get-raises" false) os).abs, cE, ⟨11, 9, 11, 74⟩) := startT (s' := lp10_s1 (w.withFollow "special-get-raises" false) os) (T := lp10_T) (lp10_start_f w os) (lp10_rest (w.withFollow "special-get-raises" false) os)
theorem lp10_start_f_b (w : World) : lp10_P (w.withFollow "special-get-raises" false) := fun os => segRun_up (n := 89 + 2988) (m := 3077) (Nat.le_of_ble_eq_true (by kernel_rfl)) (lp10_start_f_a w os)
theorem lp10_start_t_a (w : World) (os : OsState) : segRun treeTable PR (w.withFollow "special-get-raises" true) 11 ann0 1 (89 + 2988) (s9 (w.withFollow "special-get-raises" true) os).abs (piecesOf lp10_sts env0 cE ⟨10, 0, 10, 8⟩ B0) = some (.next, (s10 (w.withFollow "special-get-raises" true) os).abs, cE, ⟨11, 9, 11, 74⟩) := startT (s' := lp10_s1 (w.withFollow "special-get-raises" true) os) (T := lp10_T) (lp10_start_t w os) (lp10_rest (w.withFollow "special-get-raises" true) os)
theorem lp10_start_t_b (w : World) : lp10_P (w.withFollow "special-get-raises" true) := fun os => segRun_up (n := 89 + 2988) (m := 3077) (Nat.le_of_ble_eq_true (by kernel_rfl)) (lp10_start_t_a w os)
theorem lp10_all (w : World) : lp10_P w := (byRow2 "special-get-raises" (P := fun w => lp10_P w) (fun w => (lp10_start_f_b w)) (fun w => (lp10_start_t_b w)) w)
noncomputable def o22_29 (P : Params) : Obj := ⟨.type "list", none, .seq ([.str ⟨#[61, 48, 48]⟩ 197, .str ⟨#[61, 48, 49]⟩ 201, .str ⟨#[61, 48, 50]⟩ 205, .str ⟨#[61, 48, 51]⟩ 209, .str ⟨#[61, 48, 52]⟩ 213, .str ⟨#[61, 48, 53]⟩ 217, .str ⟨#[61, 48, 54]⟩ 221, .str ⟨#[61, 48, 55]⟩ 225, .str ⟨#[61, 48, 56]⟩ 229, .str ⟨#[61, 48, 57]⟩ 233, .str ⟨#[61, 48, 65]⟩ 237, .str ⟨#[61, 48, 66]⟩ 241, .str ⟨#[61, 48, 67]⟩ 245, .str ⟨#[61, 48, 68]⟩ 249, .str ⟨#[61, 48, 69]⟩ 253, .str ⟨#[61, 48, 70]⟩ 257, .str ⟨#[61, 49, 48]⟩ 261, .str ⟨#[61, 49, 49]⟩ 265, .str ⟨#[61, 49, 50]⟩ 269, .str ⟨#[61, 49, 51]⟩ 273, .str ⟨#[61, 49, 52]⟩ 277, .str ⟨#[61, 49, 53]⟩ 281, .str ⟨#[61, 49, 54]⟩ 285, .str ⟨#[61, 49, 55]⟩ 289, .str ⟨#[61, 49, 56]⟩ 293, .str ⟨#[61, 49, 57]⟩ 297, .str ⟨#[61, 49, 65]⟩ 301, .str ⟨#[61, 49, 66]⟩ 305, .str ⟨#[61, 49, 67]⟩ 309, .str ⟨#[61, 49, 68]⟩ 313, .str ⟨#[61, 49, 69]⟩ 317, .str ⟨#[61, 49, 70]⟩ 321, .str ⟨#[95]⟩ 1439, .str ⟨#[33]⟩ 1243, .str ⟨#[61, 50, 50]⟩ 333, .str ⟨#[61, 50, 51]⟩ 337, .str ⟨#[61, 50, 52]⟩ 341, .str ⟨#[61, 50, 53]⟩ 345, .str ⟨#[61, 50, 54]⟩ 349, .str ⟨#[61, 50, 55]⟩ 353, .str ⟨#[61, 50, 56]⟩ 357, .str ⟨#[61, 50, 57]⟩ 361, .str ⟨#[42]⟩ 1246, .str ⟨#[43]⟩ 1249, .str ⟨#[61, 50, 67]⟩ 373, .str ⟨#[45]⟩ 1240, .str ⟨#[61, 50, 69]⟩ 381, .str ⟨#[47]⟩ 1252, .str ⟨#[48]⟩ 1411, .str ⟨#[49]⟩ 1414, .str ⟨#[50]⟩ 1417, .str ⟨#[51]⟩ 1420, .str ⟨#[52]⟩ 1423, .str ⟨#[53]⟩ 1426, .str ⟨#[54]⟩ 1429, .str ⟨#[55]⟩ 1432, .str ⟨#[56]⟩ 1435, .str ⟨#[57]⟩ 1438, .str ⟨#[61, 51, 65]⟩ 429, .str ⟨#[61, 51, 66]⟩ 433, .str ⟨#[61, 51, 67]⟩ 437, .str ⟨#[61, 51, 68]⟩ 441, .str ⟨#[61, 51, 69]⟩ 445, .str ⟨#[61, 51, 70]⟩ 449, .str ⟨#[61, 52, 48]⟩ 453, .str ⟨#[65]⟩ 1333, .str ⟨#[66]⟩ 1336, .str ⟨#[67]⟩ 1339, .str ⟨#[68]⟩ 1342, .str ⟨#[69]⟩ 1345, .str ⟨#[70]⟩ 1348, .str ⟨#[71]⟩ 1351, .str ⟨#[72]⟩ 1354, .str ⟨#[73]⟩ 1357, .str ⟨#[74]⟩ 1360, .str ⟨#[75]⟩ 1363, .str ⟨#[76]⟩ 1366, .str ⟨#[77]⟩ 1369, .str ⟨#[78]⟩ 1372, .str ⟨#[79]⟩ 1375, .str ⟨#[80]⟩ 1378, .str ⟨#[81]⟩ 1381, .str ⟨#[82]⟩ 1384, .str ⟨#[83]⟩ 1387, .str ⟨#[84]⟩ 1390, .str ⟨#[85]⟩ 1393, .str ⟨#[86]⟩ 1396, .str ⟨#[87]⟩ 1399, .str ⟨#[88]⟩ 1402, .str ⟨#[89]⟩ 1405, .str ⟨#[90]⟩ 1408, .str ⟨#[61, 53, 66]⟩ 561, .str ⟨#[61, 53, 67]⟩ 565, .str ⟨#[61, 53, 68]⟩ 569, .str ⟨#[61, 53, 69]⟩ 573, .str ⟨#[61, 53, 70]⟩ 577, .str ⟨#[61, 54, 48]⟩ 581, .str ⟨#[97]⟩ 1255, .str ⟨#[98]⟩ 1258, .str ⟨#[99]⟩ 1261, .str ⟨#[100]⟩ 1264, .str ⟨#[101]⟩ 1267, .str ⟨#[102]⟩ 1270, .str ⟨#[103]⟩ 1273, .str ⟨#[104]⟩ 1276, .str ⟨#[105]⟩ 1279, .str ⟨#[106]⟩ 1282, .str ⟨#[107]⟩ 1285, .str ⟨#[108]⟩ 1288, .str ⟨#[109]⟩ 1291, .str ⟨#[110]⟩ 1294, .str ⟨#[111]⟩ 1297, .str ⟨#[112]⟩ 1300, .str ⟨#[113]⟩ 1303, .str ⟨#[114]⟩ 1306, .str ⟨#[115]⟩ 1309, .str ⟨#[116]⟩ 1312, .str ⟨#[117]⟩ 1315, .str ⟨#[118]⟩ 1318, .str ⟨#[119]⟩ 1321, .str ⟨#[120]⟩ 1324, .str ⟨#[121]⟩ 1327, .str ⟨#[122]⟩ 1330, .str ⟨#[61, 55, 66]⟩ 689, .str ⟨#[61, 55, 67]⟩ 693, .str ⟨#[61, 55, 68]⟩ 697, .str ⟨#[61, 55, 69]⟩ 701, .str ⟨#[61, 55, 70]⟩ 705, .str ⟨#[61, 56, 48]⟩ 709, .str ⟨#[61, 56, 49]⟩ 713, .str ⟨#[61, 56, 50]⟩ 717, .str ⟨#[61, 56, 51]⟩ 721, .str ⟨#[61, 56, 52]⟩ 725, .str ⟨#[61, 56, 53]⟩ 729, .str ⟨#[61, 56, 54]⟩ 733, .str ⟨#[61, 56, 55]⟩ 737, .str ⟨#[61, 56, 56]⟩ 741, .str ⟨#[61, 56, 57]⟩ 745, .str ⟨#[61, 56, 65]⟩ 749, .str ⟨#[61, 56, 66]⟩ 753, .str ⟨#[61, 56, 67]⟩ 757, .str ⟨#[61, 56, 68]⟩ 761, .str ⟨#[61, 56, 69]⟩ 765, .str ⟨#[61, 56, 70]⟩ 769, .str ⟨#[61, 57, 48]⟩ 773, .str ⟨#[61, 57, 49]⟩ 777, .str ⟨#[61, 57, 50]⟩ 781, .str ⟨#[61, 57, 51]⟩ 785, .str ⟨#[61, 57, 52]⟩ 789, .str ⟨#[61, 57, 53]⟩ 793, .str ⟨#[61, 57, 54]⟩ 797, .str ⟨#[61, 57, 55]⟩ 801, .str ⟨#[61, 57, 56]⟩ 805, .str ⟨#[61, 57, 57]⟩ 809, .str ⟨#[61, 57, 65]⟩ 813, .str ⟨#[61, 57, 66]⟩ 817, .str ⟨#[61, 57, 67]⟩ 821, .str ⟨#[61, 57, 68]⟩ 825, .str ⟨#[61, 57, 69]⟩ 829, .str ⟨#[61, 57, 70]⟩ 833, .str ⟨#[61, 65, 48]⟩ 837, .str ⟨#[61, 65, 49]⟩ 841, .str ⟨#[61, 65, 50]⟩ 845, .str ⟨#[61, 65, 51]⟩ 849, .str ⟨#[61, 65, 52]⟩ 853, .str ⟨#[61, 65, 53]⟩ 857, .str ⟨#[61, 65, 54]⟩ 861, .str ⟨#[61, 65, 55]⟩ 865, .str ⟨#[61, 65, 56]⟩ 869, .str ⟨#[61, 65, 57]⟩ 873, .str ⟨#[61, 65, 65]⟩ 877, .str ⟨#[61, 65, 66]⟩ 881, .str ⟨#[61, 65, 67]⟩ 885, .str ⟨#[61, 65, 68]⟩ 889, .str ⟨#[61, 65, 69]⟩ 893, .str ⟨#[61, 65, 70]⟩ 897, .str ⟨#[61, 66, 48]⟩ 901, .str ⟨#[61, 66, 49]⟩ 905, .str ⟨#[61, 66, 50]⟩ 909, .str ⟨#[61, 66, 51]⟩ 913, .str ⟨#[61, 66, 52]⟩ 917, .str ⟨#[61, 66, 53]⟩ 921, .str ⟨#[61, 66, 54]⟩ 925, .str ⟨#[61, 66, 55]⟩ 929, .str ⟨#[61, 66, 56]⟩ 933, .str ⟨#[61, 66, 57]⟩ 937, .str ⟨#[61, 66, 65]⟩ 941, .str ⟨#[61, 66, 66]⟩ 945, .str ⟨#[61, 66, 67]⟩ 949, .str ⟨#[61, 66, 68]⟩ 953, .str ⟨#[61, 66, 69]⟩ 957, .str ⟨#[61, 66, 70]⟩ 961, .str ⟨#[61, 67, 48]⟩ 965, .str ⟨#[61, 67, 49]⟩ 969, .str ⟨#[61, 67, 50]⟩ 973, .str ⟨#[61, 67, 51]⟩ 977, .str ⟨#[61, 67, 52]⟩ 981, .str ⟨#[61, 67, 53]⟩ 985, .str ⟨#[61, 67, 54]⟩ 989, .str ⟨#[61, 67, 55]⟩ 993, .str ⟨#[61, 67, 56]⟩ 997, .str ⟨#[61, 67, 57]⟩ 1001, .str ⟨#[61, 67, 65]⟩ 1005, .str ⟨#[61, 67, 66]⟩ 1009, .str ⟨#[61, 67, 67]⟩ 1013, .str ⟨#[61, 67, 68]⟩ 1017, .str ⟨#[61, 67, 69]⟩ 1021, .str ⟨#[61, 67, 70]⟩ 1025, .str ⟨#[61, 68, 48]⟩ 1029, .str ⟨#[61, 68, 49]⟩ 1033, .str ⟨#[61, 68, 50]⟩ 1037, .str ⟨#[61, 68, 51]⟩ 1041, .str ⟨#[61, 68, 52]⟩ 1045, .str ⟨#[61, 68, 53]⟩ 1049, .str ⟨#[61, 68, 54]⟩ 1053, .str ⟨#[61, 68, 55]⟩ 1057, .str ⟨#[61, 68, 56]⟩ 1061, .str ⟨#[61, 68, 57]⟩ 1065, .str ⟨#[61, 68, 65]⟩ 1069, .str ⟨#[61, 68, 66]⟩ 1073, .str ⟨#[61, 68, 67]⟩ 1077, .str ⟨#[61, 68, 68]⟩ 1081, .str ⟨#[61, 68, 69]⟩ 1085, .str ⟨#[61, 68, 70]⟩ 1089, .str ⟨#[61, 69, 48]⟩ 1093, .str ⟨#[61, 69, 49]⟩ 1097, .str ⟨#[61, 69, 50]⟩ 1101, .str ⟨#[61, 69, 51]⟩ 1105, .str ⟨#[61, 69, 52]⟩ 1109, .str ⟨#[61, 69, 53]⟩ 1113, .str ⟨#[61, 69, 54]⟩ 1117, .str ⟨#[61, 69, 55]⟩ 1121, .str ⟨#[61, 69, 56]⟩ 1125, .str ⟨#[61, 69, 57]⟩ 1129, .str ⟨#[61, 69, 65]⟩ 1133, .str ⟨#[61, 69, 66]⟩ 1137, .str ⟨#[61, 69, 67]⟩ 1141, .str ⟨#[61, 69, 68]⟩ 1145, .str ⟨#[61, 69, 69]⟩ 1149, .str ⟨#[61, 69, 70]⟩ 1153, .str ⟨#[61, 70, 48]⟩ 1157, .str ⟨#[61, 70, 49]⟩ 1161, .str ⟨#[61, 70, 50]⟩ 1165, .str ⟨#[61, 70, 51]⟩ 1169, .str ⟨#[61, 70, 52]⟩ 1173, .str ⟨#[61, 70, 53]⟩ 1177, .str ⟨#[61, 70, 54]⟩ 1181, .str ⟨#[61, 70, 55]⟩ 1185, .str ⟨#[61, 70, 56]⟩ 1189, .str ⟨#[61, 70, 57]⟩ 1193, .str ⟨#[61, 70, 65]⟩ 1197, .str ⟨#[61, 70, 66]⟩ 1201, .str ⟨#[61, 70, 67]⟩ 1205, .str ⟨#[61, 70, 68]⟩ 1209, .str ⟨#[61, 70, 69]⟩ 1213, .str ⟨#[61, 70, 70]⟩ 1217]).toArray 0, #[]⟩
noncomputable def tr_s11 (P : Params) : BT := (.node (boot_o_0 P) (.node (boot_o_1 P) (.node (o3_24 P) (.node (boot_o_7 P) (.node (o15_10 P) .nil .nil) (.node (o23_19 P) .nil .nil)) (.node (o11_0 P) (.node (o19_14 P) .nil .nil) (.node (o27_28 P) .nil .nil))) (.node (boot_o_5 P) (.node (boot_o_9 P) (.node (o17_12 P) .nil .nil) (.node (o25_26 P) .nil .nil)) (.node (o13_2 P) (.node (o21_17 P) .nil .nil) .nil))) (.node (boot_o_2 P) (.node (boot_o_4 P) (.node (boot_o_8 P) (.node (o16_11 P) .nil .nil) (.node (o24_20 P) .nil .nil)) (.node (o12_1 P) (.node (o20_15 P) .nil .nil) .nil)) (.node (boot_o_6 P) (.node (boot_o_10 P) (.node (o18_13 P) .nil .nil) (.node (o26_27 P) .nil .nil)) (.node (o14_3 P) (.node (o22_29 P) .nil .nil) .nil))))
noncomputable def s11 (w : World) (os : OsState) : SharedT := ⟨tr_s11 w.params, 28, life0, Array.mk [], boot_drawn, 1442, os⟩
noncomputable def gr11_sts : List Stmt := [stm 11]
theorem gr11_q (w : World) (os : OsState) : PySem.W.Fast.tw10110043849684766642 PySem.W.Fast.tw14364793385576792824 PR w 11 ann0 1 25 (s10 w os) ⟨(PySem.W.Fast.tw12563942051412417395 gr11_sts env0).wrap doneF deadEnd id id, cE, ⟨11, 9, 11, 74⟩, B0⟩ = some (.next, s11 w os, cE, ⟨13, 0, 13, 28⟩) := by kernel_rfl
def gr11_P (w : World) : Prop := ∀ os : OsState, segRun treeTable PR w 11 ann0 1 25 (s10 w os).abs (piecesOf gr11_sts env0 cE ⟨11, 9, 11, 74⟩ B0) = some (.next, (s11 w os).abs, cE, ⟨13, 0, 13, 28⟩)
theorem gr11_all (w : World) : gr11_P w := (fun os => startR (gr11_q w os))
noncomputable def o3_30 (P : Params) : Obj := ⟨.type "dict", none, .dict ([⟨PyData.keyHash P ⟨#[95, 95, 110, 97, 109, 101, 95, 95]⟩, .str ⟨#[95, 95, 110, 97, 109, 101, 95, 95]⟩ 165, .str ⟨#[99, 112, 121, 51, 49, 51, 46, 101, 109, 97, 105, 108, 46, 113, 117, 111, 112, 114, 105, 109, 105, 109, 101]⟩ 1229⟩, ⟨PyData.keyHash P ⟨#[95, 95, 100, 111, 99, 95, 95]⟩, .str ⟨#[95, 95, 100, 111, 99, 95, 95]⟩ 166, .none⟩, ⟨PyData.keyHash P ⟨#[95, 95, 112, 97, 99, 107, 97, 103, 101, 95, 95]⟩, .str ⟨#[95, 95, 112, 97, 99, 107, 97, 103, 101, 95, 95]⟩ 167, .none⟩, ⟨PyData.keyHash P ⟨#[95, 95, 108, 111, 97, 100, 101, 114, 95, 95]⟩, .str ⟨#[95, 95, 108, 111, 97, 100, 101, 114, 95, 95]⟩ 168, .builtin "__main__.__loader__#opaque"⟩, ⟨PyData.keyHash P ⟨#[95, 95, 115, 112, 101, 99, 95, 95]⟩, .str ⟨#[95, 95, 115, 112, 101, 99, 95, 95]⟩ 169, .none⟩, ⟨PyData.keyHash P ⟨#[95, 95, 97, 110, 110, 111, 116, 97, 116, 105, 111, 110, 115, 95, 95]⟩, .str ⟨#[95, 95, 97, 110, 110, 111, 116, 97, 116, 105, 111, 110, 115, 95, 95]⟩ 170, .ref 6⟩, ⟨PyData.keyHash P ⟨#[95, 95, 98, 117, 105, 108, 116, 105, 110, 115, 95, 95]⟩, .str ⟨#[95, 95, 98, 117, 105, 108, 116, 105, 110, 115, 95, 95]⟩ 171, .ref 4⟩, ⟨PyData.keyHash P ⟨#[95, 95, 102, 105, 108, 101, 95, 95]⟩, .str ⟨#[95, 95, 102, 105, 108, 101, 95, 95]⟩ 173, .str ⟨#[47, 99, 108, 97, 105, 109, 47, 99, 117, 116, 46, 112, 121]⟩ 172⟩, ⟨PyData.keyHash P ⟨#[95, 95, 99, 97, 99, 104, 101, 100, 95, 95]⟩, .str ⟨#[95, 95, 99, 97, 99, 104, 101, 100, 95, 95]⟩ 174, .none⟩, ⟨PyData.keyHash P ⟨#[67, 82, 76, 70]⟩, .str ⟨#[67, 82, 76, 70]⟩ 188, .str ⟨#[13, 10]⟩ 187⟩, ⟨PyData.keyHash P ⟨#[78, 76]⟩, .str ⟨#[78, 76]⟩ 190, .str ⟨#[10]⟩ 189⟩, ⟨PyData.keyHash P ⟨#[95, 81, 85, 79, 80, 82, 73, 95, 77, 65, 80]⟩, .str ⟨#[95, 81, 85, 79, 80, 82, 73, 95, 77, 65, 80]⟩ 1218, .ref 17⟩, ⟨PyData.keyHash P ⟨#[95, 81, 85, 79, 80, 82, 73, 95, 72, 69, 65, 68, 69, 82, 95, 77, 65, 80]⟩, .str ⟨#[95, 81, 85, 79, 80, 82, 73, 95, 72, 69, 65, 68, 69, 82, 95, 77, 65, 80]⟩ 1219, .ref 22⟩, ⟨PyData.keyHash P ⟨#[95, 81, 85, 79, 80, 82, 73, 95, 66, 79, 68, 89, 95, 77, 65, 80]⟩, .str ⟨#[95, 81, 85, 79, 80, 82, 73, 95, 66, 79, 68, 89, 95, 77, 65, 80]⟩ 1220, .ref 24⟩, ⟨PyData.keyHash P ⟨#[97, 115, 99, 105, 105, 95, 108, 111, 119, 101, 114, 99, 97, 115, 101]⟩, .str ⟨#[97, 115, 99, 105, 105, 95, 108, 111, 119, 101, 114, 99, 97, 115, 101]⟩ 1222, .str ⟨#[97, 98, 99, 100, 101, 102, 103, 104, 105, 106, 107, 108, 109, 110, 111, 112, 113, 114, 115, 116, 117, 118, 119, 120, 121, 122]⟩ 1221⟩, ⟨PyData.keyHash P ⟨#[97, 115, 99, 105, 105, 95, 117, 112, 112, 101, 114, 99, 97, 115, 101]⟩, .str ⟨#[97, 115, 99, 105, 105, 95, 117, 112, 112, 101, 114, 99, 97, 115, 101]⟩ 1224, .str ⟨#[65, 66, 67, 68, 69, 70, 71, 72, 73, 74, 75, 76, 77, 78, 79, 80, 81, 82, 83, 84, 85, 86, 87, 88, 89, 90]⟩ 1223⟩, ⟨PyData.keyHash P ⟨#[97, 115, 99, 105, 105, 95, 108, 101, 116, 116, 101, 114, 115]⟩, .str ⟨#[97, 115, 99, 105, 105, 95, 108, 101, 116, 116, 101, 114, 115]⟩ 1226, .str ⟨#[97, 98, 99, 100, 101, 102, 103, 104, 105, 106, 107, 108, 109, 110, 111, 112, 113, 114, 115, 116, 117, 118, 119, 120, 121, 122, 65, 66, 67, 68, 69, 70, 71, 72, 73, 74, 75, 76, 77, 78, 79, 80, 81, 82, 83, 84, 85, 86, 87, 88, 89, 90]⟩ 1225⟩, ⟨PyData.keyHash P ⟨#[100, 105, 103, 105, 116, 115]⟩, .str ⟨#[100, 105, 103, 105, 116, 115]⟩ 1228, .str ⟨#[48, 49, 50, 51, 52, 53, 54, 55, 56, 57]⟩ 1227⟩, ⟨PyData.keyHash P ⟨#[99]⟩, .str ⟨#[99]⟩ 1239, .int 32 1443⟩]).toArray 19, #[]⟩
noncomputable def o24_31 (P : Params) : Obj := ⟨.type "list", none, .seq ([.str ⟨#[61, 48, 48]⟩ 197, .str ⟨#[61, 48, 49]⟩ 201, .str ⟨#[61, 48, 50]⟩ 205, .str ⟨#[61, 48, 51]⟩ 209, .str ⟨#[61, 48, 52]⟩ 213, .str ⟨#[61, 48, 53]⟩ 217, .str ⟨#[61, 48, 54]⟩ 221, .str ⟨#[61, 48, 55]⟩ 225, .str ⟨#[61, 48, 56]⟩ 229, .str ⟨#[61, 48, 57]⟩ 233, .str ⟨#[61, 48, 65]⟩ 237, .str ⟨#[61, 48, 66]⟩ 241, .str ⟨#[61, 48, 67]⟩ 245, .str ⟨#[61, 48, 68]⟩ 249, .str ⟨#[61, 48, 69]⟩ 253, .str ⟨#[61, 48, 70]⟩ 257, .str ⟨#[61, 49, 48]⟩ 261, .str ⟨#[61, 49, 49]⟩ 265, .str ⟨#[61, 49, 50]⟩ 269, .str ⟨#[61, 49, 51]⟩ 273, .str ⟨#[61, 49, 52]⟩ 277, .str ⟨#[61, 49, 53]⟩ 281, .str ⟨#[61, 49, 54]⟩ 285, .str ⟨#[61, 49, 55]⟩ 289, .str ⟨#[61, 49, 56]⟩ 293, .str ⟨#[61, 49, 57]⟩ 297, .str ⟨#[61, 49, 65]⟩ 301, .str ⟨#[61, 49, 66]⟩ 305, .str ⟨#[61, 49, 67]⟩ 309, .str ⟨#[61, 49, 68]⟩ 313, .str ⟨#[61, 49, 69]⟩ 317, .str ⟨#[61, 49, 70]⟩ 321, .str ⟨#[32]⟩ 1445, .str ⟨#[61, 50, 49]⟩ 329, .str ⟨#[61, 50, 50]⟩ 333, .str ⟨#[61, 50, 51]⟩ 337, .str ⟨#[61, 50, 52]⟩ 341, .str ⟨#[61, 50, 53]⟩ 345, .str ⟨#[61, 50, 54]⟩ 349, .str ⟨#[61, 50, 55]⟩ 353, .str ⟨#[61, 50, 56]⟩ 357, .str ⟨#[61, 50, 57]⟩ 361, .str ⟨#[61, 50, 65]⟩ 365, .str ⟨#[61, 50, 66]⟩ 369, .str ⟨#[61, 50, 67]⟩ 373, .str ⟨#[61, 50, 68]⟩ 377, .str ⟨#[61, 50, 69]⟩ 381, .str ⟨#[61, 50, 70]⟩ 385, .str ⟨#[61, 51, 48]⟩ 389, .str ⟨#[61, 51, 49]⟩ 393, .str ⟨#[61, 51, 50]⟩ 397, .str ⟨#[61, 51, 51]⟩ 401, .str ⟨#[61, 51, 52]⟩ 405, .str ⟨#[61, 51, 53]⟩ 409, .str ⟨#[61, 51, 54]⟩ 413, .str ⟨#[61, 51, 55]⟩ 417, .str ⟨#[61, 51, 56]⟩ 421, .str ⟨#[61, 51, 57]⟩ 425, .str ⟨#[61, 51, 65]⟩ 429, .str ⟨#[61, 51, 66]⟩ 433, .str ⟨#[61, 51, 67]⟩ 437, .str ⟨#[61, 51, 68]⟩ 441, .str ⟨#[61, 51, 69]⟩ 445, .str ⟨#[61, 51, 70]⟩ 449, .str ⟨#[61, 52, 48]⟩ 453, .str ⟨#[61, 52, 49]⟩ 457, .str ⟨#[61, 52, 50]⟩ 461, .str ⟨#[61, 52, 51]⟩ 465, .str ⟨#[61, 52, 52]⟩ 469, .str ⟨#[61, 52, 53]⟩ 473, .str ⟨#[61, 52, 54]⟩ 477, .str ⟨#[61, 52, 55]⟩ 481, .str ⟨#[61, 52, 56]⟩ 485, .str ⟨#[61, 52, 57]⟩ 489, .str ⟨#[61, 52, 65]⟩ 493, .str ⟨#[61, 52, 66]⟩ 497, .str ⟨#[61, 52, 67]⟩ 501, .str ⟨#[61, 52, 68]⟩ 505, .str ⟨#[61, 52, 69]⟩ 509, .str ⟨#[61, 52, 70]⟩ 513, .str ⟨#[61, 53, 48]⟩ 517, .str ⟨#[61, 53, 49]⟩ 521, .str ⟨#[61, 53, 50]⟩ 525, .str ⟨#[61, 53, 51]⟩ 529, .str ⟨#[61, 53, 52]⟩ 533, .str ⟨#[61, 53, 53]⟩ 537, .str ⟨#[61, 53, 54]⟩ 541, .str ⟨#[61, 53, 55]⟩ 545, .str ⟨#[61, 53, 56]⟩ 549, .str ⟨#[61, 53, 57]⟩ 553, .str ⟨#[61, 53, 65]⟩ 557, .str ⟨#[61, 53, 66]⟩ 561, .str ⟨#[61, 53, 67]⟩ 565, .str ⟨#[61, 53, 68]⟩ 569, .str ⟨#[61, 53, 69]⟩ 573, .str ⟨#[61, 53, 70]⟩ 577, .str ⟨#[61, 54, 48]⟩ 581, .str ⟨#[61, 54, 49]⟩ 585, .str ⟨#[61, 54, 50]⟩ 589, .str ⟨#[61, 54, 51]⟩ 593, .str ⟨#[61, 54, 52]⟩ 597, .str ⟨#[61, 54, 53]⟩ 601, .str ⟨#[61, 54, 54]⟩ 605, .str ⟨#[61, 54, 55]⟩ 609, .str ⟨#[61, 54, 56]⟩ 613, .str ⟨#[61, 54, 57]⟩ 617, .str ⟨#[61, 54, 65]⟩ 621, .str ⟨#[61, 54, 66]⟩ 625, .str ⟨#[61, 54, 67]⟩ 629, .str ⟨#[61, 54, 68]⟩ 633, .str ⟨#[61, 54, 69]⟩ 637, .str ⟨#[61, 54, 70]⟩ 641, .str ⟨#[61, 55, 48]⟩ 645, .str ⟨#[61, 55, 49]⟩ 649, .str ⟨#[61, 55, 50]⟩ 653, .str ⟨#[61, 55, 51]⟩ 657, .str ⟨#[61, 55, 52]⟩ 661, .str ⟨#[61, 55, 53]⟩ 665, .str ⟨#[61, 55, 54]⟩ 669, .str ⟨#[61, 55, 55]⟩ 673, .str ⟨#[61, 55, 56]⟩ 677, .str ⟨#[61, 55, 57]⟩ 681, .str ⟨#[61, 55, 65]⟩ 685, .str ⟨#[61, 55, 66]⟩ 689, .str ⟨#[61, 55, 67]⟩ 693, .str ⟨#[61, 55, 68]⟩ 697, .str ⟨#[61, 55, 69]⟩ 701, .str ⟨#[61, 55, 70]⟩ 705, .str ⟨#[61, 56, 48]⟩ 709, .str ⟨#[61, 56, 49]⟩ 713, .str ⟨#[61, 56, 50]⟩ 717, .str ⟨#[61, 56, 51]⟩ 721, .str ⟨#[61, 56, 52]⟩ 725, .str ⟨#[61, 56, 53]⟩ 729, .str ⟨#[61, 56, 54]⟩ 733, .str ⟨#[61, 56, 55]⟩ 737, .str ⟨#[61, 56, 56]⟩ 741, .str ⟨#[61, 56, 57]⟩ 745, .str ⟨#[61, 56, 65]⟩ 749, .str ⟨#[61, 56, 66]⟩ 753, .str ⟨#[61, 56, 67]⟩ 757, .str ⟨#[61, 56, 68]⟩ 761, .str ⟨#[61, 56, 69]⟩ 765, .str ⟨#[61, 56, 70]⟩ 769, .str ⟨#[61, 57, 48]⟩ 773, .str ⟨#[61, 57, 49]⟩ 777, .str ⟨#[61, 57, 50]⟩ 781, .str ⟨#[61, 57, 51]⟩ 785, .str ⟨#[61, 57, 52]⟩ 789, .str ⟨#[61, 57, 53]⟩ 793, .str ⟨#[61, 57, 54]⟩ 797, .str ⟨#[61, 57, 55]⟩ 801, .str ⟨#[61, 57, 56]⟩ 805, .str ⟨#[61, 57, 57]⟩ 809, .str ⟨#[61, 57, 65]⟩ 813, .str ⟨#[61, 57, 66]⟩ 817, .str ⟨#[61, 57, 67]⟩ 821, .str ⟨#[61, 57, 68]⟩ 825, .str ⟨#[61, 57, 69]⟩ 829, .str ⟨#[61, 57, 70]⟩ 833, .str ⟨#[61, 65, 48]⟩ 837, .str ⟨#[61, 65, 49]⟩ 841, .str ⟨#[61, 65, 50]⟩ 845, .str ⟨#[61, 65, 51]⟩ 849, .str ⟨#[61, 65, 52]⟩ 853, .str ⟨#[61, 65, 53]⟩ 857, .str ⟨#[61, 65, 54]⟩ 861, .str ⟨#[61, 65, 55]⟩ 865, .str ⟨#[61, 65, 56]⟩ 869, .str ⟨#[61, 65, 57]⟩ 873, .str ⟨#[61, 65, 65]⟩ 877, .str ⟨#[61, 65, 66]⟩ 881, .str ⟨#[61, 65, 67]⟩ 885, .str ⟨#[61, 65, 68]⟩ 889, .str ⟨#[61, 65, 69]⟩ 893, .str ⟨#[61, 65, 70]⟩ 897, .str ⟨#[61, 66, 48]⟩ 901, .str ⟨#[61, 66, 49]⟩ 905, .str ⟨#[61, 66, 50]⟩ 909, .str ⟨#[61, 66, 51]⟩ 913, .str ⟨#[61, 66, 52]⟩ 917, .str ⟨#[61, 66, 53]⟩ 921, .str ⟨#[61, 66, 54]⟩ 925, .str ⟨#[61, 66, 55]⟩ 929, .str ⟨#[61, 66, 56]⟩ 933, .str ⟨#[61, 66, 57]⟩ 937, .str ⟨#[61, 66, 65]⟩ 941, .str ⟨#[61, 66, 66]⟩ 945, .str ⟨#[61, 66, 67]⟩ 949, .str ⟨#[61, 66, 68]⟩ 953, .str ⟨#[61, 66, 69]⟩ 957, .str ⟨#[61, 66, 70]⟩ 961, .str ⟨#[61, 67, 48]⟩ 965, .str ⟨#[61, 67, 49]⟩ 969, .str ⟨#[61, 67, 50]⟩ 973, .str ⟨#[61, 67, 51]⟩ 977, .str ⟨#[61, 67, 52]⟩ 981, .str ⟨#[61, 67, 53]⟩ 985, .str ⟨#[61, 67, 54]⟩ 989, .str ⟨#[61, 67, 55]⟩ 993, .str ⟨#[61, 67, 56]⟩ 997, .str ⟨#[61, 67, 57]⟩ 1001, .str ⟨#[61, 67, 65]⟩ 1005, .str ⟨#[61, 67, 66]⟩ 1009, .str ⟨#[61, 67, 67]⟩ 1013, .str ⟨#[61, 67, 68]⟩ 1017, .str ⟨#[61, 67, 69]⟩ 1021, .str ⟨#[61, 67, 70]⟩ 1025, .str ⟨#[61, 68, 48]⟩ 1029, .str ⟨#[61, 68, 49]⟩ 1033, .str ⟨#[61, 68, 50]⟩ 1037, .str ⟨#[61, 68, 51]⟩ 1041, .str ⟨#[61, 68, 52]⟩ 1045, .str ⟨#[61, 68, 53]⟩ 1049, .str ⟨#[61, 68, 54]⟩ 1053, .str ⟨#[61, 68, 55]⟩ 1057, .str ⟨#[61, 68, 56]⟩ 1061, .str ⟨#[61, 68, 57]⟩ 1065, .str ⟨#[61, 68, 65]⟩ 1069, .str ⟨#[61, 68, 66]⟩ 1073, .str ⟨#[61, 68, 67]⟩ 1077, .str ⟨#[61, 68, 68]⟩ 1081, .str ⟨#[61, 68, 69]⟩ 1085, .str ⟨#[61, 68, 70]⟩ 1089, .str ⟨#[61, 69, 48]⟩ 1093, .str ⟨#[61, 69, 49]⟩ 1097, .str ⟨#[61, 69, 50]⟩ 1101, .str ⟨#[61, 69, 51]⟩ 1105, .str ⟨#[61, 69, 52]⟩ 1109, .str ⟨#[61, 69, 53]⟩ 1113, .str ⟨#[61, 69, 54]⟩ 1117, .str ⟨#[61, 69, 55]⟩ 1121, .str ⟨#[61, 69, 56]⟩ 1125, .str ⟨#[61, 69, 57]⟩ 1129, .str ⟨#[61, 69, 65]⟩ 1133, .str ⟨#[61, 69, 66]⟩ 1137, .str ⟨#[61, 69, 67]⟩ 1141, .str ⟨#[61, 69, 68]⟩ 1145, .str ⟨#[61, 69, 69]⟩ 1149, .str ⟨#[61, 69, 70]⟩ 1153, .str ⟨#[61, 70, 48]⟩ 1157, .str ⟨#[61, 70, 49]⟩ 1161, .str ⟨#[61, 70, 50]⟩ 1165, .str ⟨#[61, 70, 51]⟩ 1169, .str ⟨#[61, 70, 52]⟩ 1173, .str ⟨#[61, 70, 53]⟩ 1177, .str ⟨#[61, 70, 54]⟩ 1181, .str ⟨#[61, 70, 55]⟩ 1185, .str ⟨#[61, 70, 56]⟩ 1189, .str ⟨#[61, 70, 57]⟩ 1193, .str ⟨#[61, 70, 65]⟩ 1197, .str ⟨#[61, 70, 66]⟩ 1201, .str ⟨#[61, 70, 67]⟩ 1205, .str ⟨#[61, 70, 68]⟩ 1209, .str ⟨#[61, 70, 69]⟩ 1213, .str ⟨#[61, 70, 70]⟩ 1217]).toArray 0, #[]⟩
noncomputable def o28_32 (P : Params) : Obj := ⟨.type "bytes_iterator", none, .fields ([.bytes #[32, 33, 34, 35, 36, 37, 38, 39, 40, 41, 42, 43, 44, 45, 46, 47, 48, 49, 50, 51, 52, 53, 54, 55, 56, 57, 58, 59, 60, 62, 63, 64, 65, 66, 67, 68, 69, 70, 71, 72, 73, 74, 75, 76, 77, 78, 79, 80, 81, 82, 83, 84, 85, 86, 87, 88, 89, 90, 91, 92, 93, 94, 95, 96, 97, 98, 99, 100, 101, 102, 103, 104, 105, 106, 107, 108, 109, 110, 111, 112, 113, 114, 115, 116, 117, 118, 119, 120, 121, 122, 123, 124, 125, 126, 9] 1442, .int 1 0]).toArray, #[]⟩
noncomputable def tr_lp12 (P : Params) (a3 a24 a28 : Obj) : BT := (.node (boot_o_0 P) (.node (boot_o_1 P) (.node (a3) (.node (boot_o_7 P) (.node (o15_10 P) .nil .nil) (.node (o23_19 P) .nil .nil)) (.node (o11_0 P) (.node (o19_14 P) .nil .nil) (.node (o27_28 P) .nil .nil))) (.node (boot_o_5 P) (.node (boot_o_9 P) (.node (o17_12 P) .nil .nil) (.node (o25_26 P) .nil .nil)) (.node (o13_2 P) (.node (o21_17 P) .nil .nil) .nil))) (.node (boot_o_2 P) (.node (boot_o_4 P) (.node (boot_o_8 P) (.node (o16_11 P) .nil .nil) (.node (a24) .nil .nil)) (.node (o12_1 P) (.node (o20_15 P) .nil .nil) (.node (a28) .nil .nil))) (.node (boot_o_6 P) (.node (boot_o_10 P) (.node (o18_13 P) .nil .nil) (.node (o26_27 P) .nil .nil)) (.node (o14_3 P) (.node (o22_29 P) .nil .nil) .nil))))
noncomputable def lp12_r24 : List Nat := [9999, 9999, 9999, 9999, 9999, 9999, 9999, 9999, 9999, 95, 9999, 9999, 9999, 9999, 9999, 9999, 9999, 9999, 9999, 9999, 9999, 9999, 9999, 9999, 9999, 9999, 9999, 9999, 9999, 9999, 9999, 9999, 9999, 2, 3, 4, 5, 6, 7, 8, 9, 10, 11, 12, 13, 14, 15, 16, 17, 18, 19, 20, 21, 22, 23, 24, 25, 26, 27, 28, 29, 9999, 30, 31, 32, 33, 34, 35, 36, 37, 38, 39, 40, 41, 42, 43, 44, 45, 46, 47, 48, 49, 50, 51, 52, 53, 54, 55, 56, 57, 58, 59, 60, 61, 62, 63, 64, 65, 66, 67, 68, 69, 70, 71, 72, 73, 74, 75, 76, 77, 78, 79, 80, 81, 82, 83, 84, 85, 86, 87, 88, 89, 90, 91, 92, 93, 94, 9999, 9999, 9999, 9999, 9999, 9999, 9999, 9999, 9999, 9999, 9999, 9999, 9999, 9999, 9999, 9999, 9999, 9999, 9999, 9999, 9999, 9999, 9999, 9999, 9999, 9999, 9999, 9999, 9999, 9999, 9999, 9999, 9999, 9999, 9999, 9999, 9999, 9999, 9999, 9999, 9999, 9999, 9999, 9999, 9999, 9999, 9999, 9999, 9999, 9999, 9999, 9999, 9999, 9999, 9999, 9999, 9999, 9999, 9999, 9999, 9999, 9999, 9999, 9999, 9999, 9999, 9999, 9999, 9999, 9999, 9999, 9999, 9999, 9999, 9999, 9999, 9999, 9999, 9999, 9999, 9999, 9999, 9999, 9999, 9999, 9999, 9999, 9999, 9999, 9999, 9999, 9999, 9999, 9999, 9999, 9999, 9999, 9999, 9999, 9999, 9999, 9999, 9999, 9999, 9999, 9999, 9999, 9999, 9999, 9999, 9999, 9999, 9999, 9999, 9999, 9999, 9999, 9999, 9999, 9999, 9999, 9999, 9999, 9999, 9999, 9999, 9999, 9999, 9999]
noncomputable def lp12_x24 : List Value := [.str ⟨#[61, 48, 48]⟩ 197, .str ⟨#[61, 48, 49]⟩ 201, .str ⟨#[61, 48, 50]⟩ 205, .str ⟨#[61, 48, 51]⟩ 209, .str ⟨#[61, 48, 52]⟩ 213, .str ⟨#[61, 48, 53]⟩ 217, .str ⟨#[61, 48, 54]⟩ 221, .str ⟨#[61, 48, 55]⟩ 225, .str ⟨#[61, 48, 56]⟩ 229, .str ⟨#[61, 48, 57]⟩ 233, .str ⟨#[61, 48, 65]⟩ 237, .str ⟨#[61, 48, 66]⟩ 241, .str ⟨#[61, 48, 67]⟩ 245, .str ⟨#[61, 48, 68]⟩ 249, .str ⟨#[61, 48, 69]⟩ 253, .str ⟨#[61, 48, 70]⟩ 257, .str ⟨#[61, 49, 48]⟩ 261, .str ⟨#[61, 49, 49]⟩ 265, .str ⟨#[61, 49, 50]⟩ 269, .str ⟨#[61, 49, 51]⟩ 273, .str ⟨#[61, 49, 52]⟩ 277, .str ⟨#[61, 49, 53]⟩ 281, .str ⟨#[61, 49, 54]⟩ 285, .str ⟨#[61, 49, 55]⟩ 289, .str ⟨#[61, 49, 56]⟩ 293, .str ⟨#[61, 49, 57]⟩ 297, .str ⟨#[61, 49, 65]⟩ 301, .str ⟨#[61, 49, 66]⟩ 305, .str ⟨#[61, 49, 67]⟩ 309, .str ⟨#[61, 49, 68]⟩ 313, .str ⟨#[61, 49, 69]⟩ 317, .str ⟨#[61, 49, 70]⟩ 321, .str ⟨#[32]⟩ 1445, .str ⟨#[61, 50, 49]⟩ 329, .str ⟨#[61, 50, 50]⟩ 333, .str ⟨#[61, 50, 51]⟩ 337, .str ⟨#[61, 50, 52]⟩ 341, .str ⟨#[61, 50, 53]⟩ 345, .str ⟨#[61, 50, 54]⟩ 349, .str ⟨#[61, 50, 55]⟩ 353, .str ⟨#[61, 50, 56]⟩ 357, .str ⟨#[61, 50, 57]⟩ 361, .str ⟨#[61, 50, 65]⟩ 365, .str ⟨#[61, 50, 66]⟩ 369, .str ⟨#[61, 50, 67]⟩ 373, .str ⟨#[61, 50, 68]⟩ 377, .str ⟨#[61, 50, 69]⟩ 381, .str ⟨#[61, 50, 70]⟩ 385, .str ⟨#[61, 51, 48]⟩ 389, .str ⟨#[61, 51, 49]⟩ 393, .str ⟨#[61, 51, 50]⟩ 397, .str ⟨#[61, 51, 51]⟩ 401, .str ⟨#[61, 51, 52]⟩ 405, .str ⟨#[61, 51, 53]⟩ 409, .str ⟨#[61, 51, 54]⟩ 413, .str ⟨#[61, 51, 55]⟩ 417, .str ⟨#[61, 51, 56]⟩ 421, .str ⟨#[61, 51, 57]⟩ 425, .str ⟨#[61, 51, 65]⟩ 429, .str ⟨#[61, 51, 66]⟩ 433, .str ⟨#[61, 51, 67]⟩ 437, .str ⟨#[61, 51, 68]⟩ 441, .str ⟨#[61, 51, 69]⟩ 445, .str ⟨#[61, 51, 70]⟩ 449, .str ⟨#[61, 52, 48]⟩ 453, .str ⟨#[61, 52, 49]⟩ 457, .str ⟨#[61, 52, 50]⟩ 461, .str ⟨#[61, 52, 51]⟩ 465, .str ⟨#[61, 52, 52]⟩ 469, .str ⟨#[61, 52, 53]⟩ 473, .str ⟨#[61, 52, 54]⟩ 477, .str ⟨#[61, 52, 55]⟩ 481, .str ⟨#[61, 52, 56]⟩ 485, .str ⟨#[61, 52, 57]⟩ 489, .str ⟨#[61, 52, 65]⟩ 493, .str ⟨#[61, 52, 66]⟩ 497, .str ⟨#[61, 52, 67]⟩ 501, .str ⟨#[61, 52, 68]⟩ 505, .str ⟨#[61, 52, 69]⟩ 509, .str ⟨#[61, 52, 70]⟩ 513, .str ⟨#[61, 53, 48]⟩ 517, .str ⟨#[61, 53, 49]⟩ 521, .str ⟨#[61, 53, 50]⟩ 525, .str ⟨#[61, 53, 51]⟩ 529, .str ⟨#[61, 53, 52]⟩ 533, .str ⟨#[61, 53, 53]⟩ 537, .str ⟨#[61, 53, 54]⟩ 541, .str ⟨#[61, 53, 55]⟩ 545, .str ⟨#[61, 53, 56]⟩ 549, .str ⟨#[61, 53, 57]⟩ 553, .str ⟨#[61, 53, 65]⟩ 557, .str ⟨#[61, 53, 66]⟩ 561, .str ⟨#[61, 53, 67]⟩ 565, .str ⟨#[61, 53, 68]⟩ 569, .str ⟨#[61, 53, 69]⟩ 573, .str ⟨#[61, 53, 70]⟩ 577, .str ⟨#[61, 54, 48]⟩ 581, .str ⟨#[61, 54, 49]⟩ 585, .str ⟨#[61, 54, 50]⟩ 589, .str ⟨#[61, 54, 51]⟩ 593, .str ⟨#[61, 54, 52]⟩ 597, .str ⟨#[61, 54, 53]⟩ 601, .str ⟨#[61, 54, 54]⟩ 605, .str ⟨#[61, 54, 55]⟩ 609, .str ⟨#[61, 54, 56]⟩ 613, .str ⟨#[61, 54, 57]⟩ 617, .str ⟨#[61, 54, 65]⟩ 621, .str ⟨#[61, 54, 66]⟩ 625, .str ⟨#[61, 54, 67]⟩ 629, .str ⟨#[61, 54, 68]⟩ 633, .str ⟨#[61, 54, 69]⟩ 637, .str ⟨#[61, 54, 70]⟩ 641, .str ⟨#[61, 55, 48]⟩ 645, .str ⟨#[61, 55, 49]⟩ 649, .str ⟨#[61, 55, 50]⟩ 653, .str ⟨#[61, 55, 51]⟩ 657, .str ⟨#[61, 55, 52]⟩ 661, .str ⟨#[61, 55, 53]⟩ 665, .str ⟨#[61, 55, 54]⟩ 669, .str ⟨#[61, 55, 55]⟩ 673, .str ⟨#[61, 55, 56]⟩ 677, .str ⟨#[61, 55, 57]⟩ 681, .str ⟨#[61, 55, 65]⟩ 685, .str ⟨#[61, 55, 66]⟩ 689, .str ⟨#[61, 55, 67]⟩ 693, .str ⟨#[61, 55, 68]⟩ 697, .str ⟨#[61, 55, 69]⟩ 701, .str ⟨#[61, 55, 70]⟩ 705, .str ⟨#[61, 56, 48]⟩ 709, .str ⟨#[61, 56, 49]⟩ 713, .str ⟨#[61, 56, 50]⟩ 717, .str ⟨#[61, 56, 51]⟩ 721, .str ⟨#[61, 56, 52]⟩ 725, .str ⟨#[61, 56, 53]⟩ 729, .str ⟨#[61, 56, 54]⟩ 733, .str ⟨#[61, 56, 55]⟩ 737, .str ⟨#[61, 56, 56]⟩ 741, .str ⟨#[61, 56, 57]⟩ 745, .str ⟨#[61, 56, 65]⟩ 749, .str ⟨#[61, 56, 66]⟩ 753, .str ⟨#[61, 56, 67]⟩ 757, .str ⟨#[61, 56, 68]⟩ 761, .str ⟨#[61, 56, 69]⟩ 765, .str ⟨#[61, 56, 70]⟩ 769, .str ⟨#[61, 57, 48]⟩ 773, .str ⟨#[61, 57, 49]⟩ 777, .str ⟨#[61, 57, 50]⟩ 781, .str ⟨#[61, 57, 51]⟩ 785, .str ⟨#[61, 57, 52]⟩ 789, .str ⟨#[61, 57, 53]⟩ 793, .str ⟨#[61, 57, 54]⟩ 797, .str ⟨#[61, 57, 55]⟩ 801, .str ⟨#[61, 57, 56]⟩ 805, .str ⟨#[61, 57, 57]⟩ 809, .str ⟨#[61, 57, 65]⟩ 813, .str ⟨#[61, 57, 66]⟩ 817, .str ⟨#[61, 57, 67]⟩ 821, .str ⟨#[61, 57, 68]⟩ 825, .str ⟨#[61, 57, 69]⟩ 829, .str ⟨#[61, 57, 70]⟩ 833, .str ⟨#[61, 65, 48]⟩ 837, .str ⟨#[61, 65, 49]⟩ 841, .str ⟨#[61, 65, 50]⟩ 845, .str ⟨#[61, 65, 51]⟩ 849, .str ⟨#[61, 65, 52]⟩ 853, .str ⟨#[61, 65, 53]⟩ 857, .str ⟨#[61, 65, 54]⟩ 861, .str ⟨#[61, 65, 55]⟩ 865, .str ⟨#[61, 65, 56]⟩ 869, .str ⟨#[61, 65, 57]⟩ 873, .str ⟨#[61, 65, 65]⟩ 877, .str ⟨#[61, 65, 66]⟩ 881, .str ⟨#[61, 65, 67]⟩ 885, .str ⟨#[61, 65, 68]⟩ 889, .str ⟨#[61, 65, 69]⟩ 893, .str ⟨#[61, 65, 70]⟩ 897, .str ⟨#[61, 66, 48]⟩ 901, .str ⟨#[61, 66, 49]⟩ 905, .str ⟨#[61, 66, 50]⟩ 909, .str ⟨#[61, 66, 51]⟩ 913, .str ⟨#[61, 66, 52]⟩ 917, .str ⟨#[61, 66, 53]⟩ 921, .str ⟨#[61, 66, 54]⟩ 925, .str ⟨#[61, 66, 55]⟩ 929, .str ⟨#[61, 66, 56]⟩ 933, .str ⟨#[61, 66, 57]⟩ 937, .str ⟨#[61, 66, 65]⟩ 941, .str ⟨#[61, 66, 66]⟩ 945, .str ⟨#[61, 66, 67]⟩ 949, .str ⟨#[61, 66, 68]⟩ 953, .str ⟨#[61, 66, 69]⟩ 957, .str ⟨#[61, 66, 70]⟩ 961, .str ⟨#[61, 67, 48]⟩ 965, .str ⟨#[61, 67, 49]⟩ 969, .str ⟨#[61, 67, 50]⟩ 973, .str ⟨#[61, 67, 51]⟩ 977, .str ⟨#[61, 67, 52]⟩ 981, .str ⟨#[61, 67, 53]⟩ 985, .str ⟨#[61, 67, 54]⟩ 989, .str ⟨#[61, 67, 55]⟩ 993, .str ⟨#[61, 67, 56]⟩ 997, .str ⟨#[61, 67, 57]⟩ 1001, .str ⟨#[61, 67, 65]⟩ 1005, .str ⟨#[61, 67, 66]⟩ 1009, .str ⟨#[61, 67, 67]⟩ 1013, .str ⟨#[61, 67, 68]⟩ 1017, .str ⟨#[61, 67, 69]⟩ 1021, .str ⟨#[61, 67, 70]⟩ 1025, .str ⟨#[61, 68, 48]⟩ 1029, .str ⟨#[61, 68, 49]⟩ 1033, .str ⟨#[61, 68, 50]⟩ 1037, .str ⟨#[61, 68, 51]⟩ 1041, .str ⟨#[61, 68, 52]⟩ 1045, .str ⟨#[61, 68, 53]⟩ 1049, .str ⟨#[61, 68, 54]⟩ 1053, .str ⟨#[61, 68, 55]⟩ 1057, .str ⟨#[61, 68, 56]⟩ 1061, .str ⟨#[61, 68, 57]⟩ 1065, .str ⟨#[61, 68, 65]⟩ 1069, .str ⟨#[61, 68, 66]⟩ 1073, .str ⟨#[61, 68, 67]⟩ 1077, .str ⟨#[61, 68, 68]⟩ 1081, .str ⟨#[61, 68, 69]⟩ 1085, .str ⟨#[61, 68, 70]⟩ 1089, .str ⟨#[61, 69, 48]⟩ 1093, .str ⟨#[61, 69, 49]⟩ 1097, .str ⟨#[61, 69, 50]⟩ 1101, .str ⟨#[61, 69, 51]⟩ 1105, .str ⟨#[61, 69, 52]⟩ 1109, .str ⟨#[61, 69, 53]⟩ 1113, .str ⟨#[61, 69, 54]⟩ 1117, .str ⟨#[61, 69, 55]⟩ 1121, .str ⟨#[61, 69, 56]⟩ 1125, .str ⟨#[61, 69, 57]⟩ 1129, .str ⟨#[61, 69, 65]⟩ 1133, .str ⟨#[61, 69, 66]⟩ 1137, .str ⟨#[61, 69, 67]⟩ 1141, .str ⟨#[61, 69, 68]⟩ 1145, .str ⟨#[61, 69, 69]⟩ 1149, .str ⟨#[61, 69, 70]⟩ 1153, .str ⟨#[61, 70, 48]⟩ 1157, .str ⟨#[61, 70, 49]⟩ 1161, .str ⟨#[61, 70, 50]⟩ 1165, .str ⟨#[61, 70, 51]⟩ 1169, .str ⟨#[61, 70, 52]⟩ 1173, .str ⟨#[61, 70, 53]⟩ 1177, .str ⟨#[61, 70, 54]⟩ 1181, .str ⟨#[61, 70, 55]⟩ 1185, .str ⟨#[61, 70, 56]⟩ 1189, .str ⟨#[61, 70, 57]⟩ 1193, .str ⟨#[61, 70, 65]⟩ 1197, .str ⟨#[61, 70, 66]⟩ 1201, .str ⟨#[61, 70, 67]⟩ 1205, .str ⟨#[61, 70, 68]⟩ 1209, .str ⟨#[61, 70, 69]⟩ 1213, .str ⟨#[61, 70, 70]⟩ 1217]
noncomputable def lp12_y24 : List Value := [.str ⟨#[61, 48, 48]⟩ 197, .str ⟨#[61, 48, 49]⟩ 201, .str ⟨#[61, 48, 50]⟩ 205, .str ⟨#[61, 48, 51]⟩ 209, .str ⟨#[61, 48, 52]⟩ 213, .str ⟨#[61, 48, 53]⟩ 217, .str ⟨#[61, 48, 54]⟩ 221, .str ⟨#[61, 48, 55]⟩ 225, .str ⟨#[61, 48, 56]⟩ 229, .str ⟨#[9]⟩ 1727, .str ⟨#[61, 48, 65]⟩ 237, .str ⟨#[61, 48, 66]⟩ 241, .str ⟨#[61, 48, 67]⟩ 245, .str ⟨#[61, 48, 68]⟩ 249, .str ⟨#[61, 48, 69]⟩ 253, .str ⟨#[61, 48, 70]⟩ 257, .str ⟨#[61, 49, 48]⟩ 261, .str ⟨#[61, 49, 49]⟩ 265, .str ⟨#[61, 49, 50]⟩ 269, .str ⟨#[61, 49, 51]⟩ 273, .str ⟨#[61, 49, 52]⟩ 277, .str ⟨#[61, 49, 53]⟩ 281, .str ⟨#[61, 49, 54]⟩ 285, .str ⟨#[61, 49, 55]⟩ 289, .str ⟨#[61, 49, 56]⟩ 293, .str ⟨#[61, 49, 57]⟩ 297, .str ⟨#[61, 49, 65]⟩ 301, .str ⟨#[61, 49, 66]⟩ 305, .str ⟨#[61, 49, 67]⟩ 309, .str ⟨#[61, 49, 68]⟩ 313, .str ⟨#[61, 49, 69]⟩ 317, .str ⟨#[61, 49, 70]⟩ 321, .str ⟨#[32]⟩ 1445, .str ⟨#[33]⟩ 1448, .str ⟨#[34]⟩ 1451, .str ⟨#[35]⟩ 1454, .str ⟨#[36]⟩ 1457, .str ⟨#[37]⟩ 1460, .str ⟨#[38]⟩ 1463, .str ⟨#[39]⟩ 1466, .str ⟨#[40]⟩ 1469, .str ⟨#[41]⟩ 1472, .str ⟨#[42]⟩ 1475, .str ⟨#[43]⟩ 1478, .str ⟨#[44]⟩ 1481, .str ⟨#[45]⟩ 1484, .str ⟨#[46]⟩ 1487, .str ⟨#[47]⟩ 1490, .str ⟨#[48]⟩ 1493, .str ⟨#[49]⟩ 1496, .str ⟨#[50]⟩ 1499, .str ⟨#[51]⟩ 1502, .str ⟨#[52]⟩ 1505, .str ⟨#[53]⟩ 1508, .str ⟨#[54]⟩ 1511, .str ⟨#[55]⟩ 1514, .str ⟨#[56]⟩ 1517, .str ⟨#[57]⟩ 1520, .str ⟨#[58]⟩ 1523, .str ⟨#[59]⟩ 1526, .str ⟨#[60]⟩ 1529, .str ⟨#[61, 51, 68]⟩ 441, .str ⟨#[62]⟩ 1532, .str ⟨#[63]⟩ 1535, .str ⟨#[64]⟩ 1538, .str ⟨#[65]⟩ 1541, .str ⟨#[66]⟩ 1544, .str ⟨#[67]⟩ 1547, .str ⟨#[68]⟩ 1550, .str ⟨#[69]⟩ 1553, .str ⟨#[70]⟩ 1556, .str ⟨#[71]⟩ 1559, .str ⟨#[72]⟩ 1562, .str ⟨#[73]⟩ 1565, .str ⟨#[74]⟩ 1568, .str ⟨#[75]⟩ 1571, .str ⟨#[76]⟩ 1574, .str ⟨#[77]⟩ 1577, .str ⟨#[78]⟩ 1580, .str ⟨#[79]⟩ 1583, .str ⟨#[80]⟩ 1586, .str ⟨#[81]⟩ 1589, .str ⟨#[82]⟩ 1592, .str ⟨#[83]⟩ 1595, .str ⟨#[84]⟩ 1598, .str ⟨#[85]⟩ 1601, .str ⟨#[86]⟩ 1604, .str ⟨#[87]⟩ 1607, .str ⟨#[88]⟩ 1610, .str ⟨#[89]⟩ 1613, .str ⟨#[90]⟩ 1616, .str ⟨#[91]⟩ 1619, .str ⟨#[92]⟩ 1622, .str ⟨#[93]⟩ 1625, .str ⟨#[94]⟩ 1628, .str ⟨#[95]⟩ 1631, .str ⟨#[96]⟩ 1634, .str ⟨#[97]⟩ 1637, .str ⟨#[98]⟩ 1640, .str ⟨#[99]⟩ 1643, .str ⟨#[100]⟩ 1646, .str ⟨#[101]⟩ 1649, .str ⟨#[102]⟩ 1652, .str ⟨#[103]⟩ 1655, .str ⟨#[104]⟩ 1658, .str ⟨#[105]⟩ 1661, .str ⟨#[106]⟩ 1664, .str ⟨#[107]⟩ 1667, .str ⟨#[108]⟩ 1670, .str ⟨#[109]⟩ 1673, .str ⟨#[110]⟩ 1676, .str ⟨#[111]⟩ 1679, .str ⟨#[112]⟩ 1682, .str ⟨#[113]⟩ 1685, .str ⟨#[114]⟩ 1688, .str ⟨#[115]⟩ 1691, .str ⟨#[116]⟩ 1694, .str ⟨#[117]⟩ 1697, .str ⟨#[118]⟩ 1700, .str ⟨#[119]⟩ 1703, .str ⟨#[120]⟩ 1706, .str ⟨#[121]⟩ 1709, .str ⟨#[122]⟩ 1712, .str ⟨#[123]⟩ 1715, .str ⟨#[124]⟩ 1718, .str ⟨#[125]⟩ 1721, .str ⟨#[126]⟩ 1724, .str ⟨#[61, 55, 70]⟩ 705, .str ⟨#[61, 56, 48]⟩ 709, .str ⟨#[61, 56, 49]⟩ 713, .str ⟨#[61, 56, 50]⟩ 717, .str ⟨#[61, 56, 51]⟩ 721, .str ⟨#[61, 56, 52]⟩ 725, .str ⟨#[61, 56, 53]⟩ 729, .str ⟨#[61, 56, 54]⟩ 733, .str ⟨#[61, 56, 55]⟩ 737, .str ⟨#[61, 56, 56]⟩ 741, .str ⟨#[61, 56, 57]⟩ 745, .str ⟨#[61, 56, 65]⟩ 749, .str ⟨#[61, 56, 66]⟩ 753, .str ⟨#[61, 56, 67]⟩ 757, .str ⟨#[61, 56, 68]⟩ 761, .str ⟨#[61, 56, 69]⟩ 765, .str ⟨#[61, 56, 70]⟩ 769, .str ⟨#[61, 57, 48]⟩ 773, .str ⟨#[61, 57, 49]⟩ 777, .str ⟨#[61, 57, 50]⟩ 781, .str ⟨#[61, 57, 51]⟩ 785, .str ⟨#[61, 57, 52]⟩ 789, .str ⟨#[61, 57, 53]⟩ 793, .str ⟨#[61, 57, 54]⟩ 797, .str ⟨#[61, 57, 55]⟩ 801, .str ⟨#[61, 57, 56]⟩ 805, .str ⟨#[61, 57, 57]⟩ 809, .str ⟨#[61, 57, 65]⟩ 813, .str ⟨#[61, 57, 66]⟩ 817, .str ⟨#[61, 57, 67]⟩ 821, .str ⟨#[61, 57, 68]⟩ 825, .str ⟨#[61, 57, 69]⟩ 829, .str ⟨#[61, 57, 70]⟩ 833, .str ⟨#[61, 65, 48]⟩ 837, .str ⟨#[61, 65, 49]⟩ 841, .str ⟨#[61, 65, 50]⟩ 845, .str ⟨#[61, 65, 51]⟩ 849, .str ⟨#[61, 65, 52]⟩ 853, .str ⟨#[61, 65, 53]⟩ 857, .str ⟨#[61, 65, 54]⟩ 861, .str ⟨#[61, 65, 55]⟩ 865, .str ⟨#[61, 65, 56]⟩ 869, .str ⟨#[61, 65, 57]⟩ 873, .str ⟨#[61, 65, 65]⟩ 877, .str ⟨#[61, 65, 66]⟩ 881, .str ⟨#[61, 65, 67]⟩ 885, .str ⟨#[61, 65, 68]⟩ 889, .str ⟨#[61, 65, 69]⟩ 893, .str ⟨#[61, 65, 70]⟩ 897, .str ⟨#[61, 66, 48]⟩ 901, .str ⟨#[61, 66, 49]⟩ 905, .str ⟨#[61, 66, 50]⟩ 909, .str ⟨#[61, 66, 51]⟩ 913, .str ⟨#[61, 66, 52]⟩ 917, .str ⟨#[61, 66, 53]⟩ 921, .str ⟨#[61, 66, 54]⟩ 925, .str ⟨#[61, 66, 55]⟩ 929, .str ⟨#[61, 66, 56]⟩ 933, .str ⟨#[61, 66, 57]⟩ 937, .str ⟨#[61, 66, 65]⟩ 941, .str ⟨#[61, 66, 66]⟩ 945, .str ⟨#[61, 66, 67]⟩ 949, .str ⟨#[61, 66, 68]⟩ 953, .str ⟨#[61, 66, 69]⟩ 957, .str ⟨#[61, 66, 70]⟩ 961, .str ⟨#[61, 67, 48]⟩ 965, .str ⟨#[61, 67, 49]⟩ 969, .str ⟨#[61, 67, 50]⟩ 973, .str ⟨#[61, 67, 51]⟩ 977, .str ⟨#[61, 67, 52]⟩ 981, .str ⟨#[61, 67, 53]⟩ 985, .str ⟨#[61, 67, 54]⟩ 989, .str ⟨#[61, 67, 55]⟩ 993, .str ⟨#[61, 67, 56]⟩ 997, .str ⟨#[61, 67, 57]⟩ 1001, .str ⟨#[61, 67, 65]⟩ 1005, .str ⟨#[61, 67, 66]⟩ 1009, .str ⟨#[61, 67, 67]⟩ 1013, .str ⟨#[61, 67, 68]⟩ 1017, .str ⟨#[61, 67, 69]⟩ 1021, .str ⟨#[61, 67, 70]⟩ 1025, .str ⟨#[61, 68, 48]⟩ 1029, .str ⟨#[61, 68, 49]⟩ 1033, .str ⟨#[61, 68, 50]⟩ 1037, .str ⟨#[61, 68, 51]⟩ 1041, .str ⟨#[61, 68, 52]⟩ 1045, .str ⟨#[61, 68, 53]⟩ 1049, .str ⟨#[61, 68, 54]⟩ 1053, .str ⟨#[61, 68, 55]⟩ 1057, .str ⟨#[61, 68, 56]⟩ 1061, .str ⟨#[61, 68, 57]⟩ 1065, .str ⟨#[61, 68, 65]⟩ 1069, .str ⟨#[61, 68, 66]⟩ 1073, .str ⟨#[61, 68, 67]⟩ 1077, .str ⟨#[61, 68, 68]⟩ 1081, .str ⟨#[61, 68, 69]⟩ 1085, .str ⟨#[61, 68, 70]⟩ 1089, .str ⟨#[61, 69, 48]⟩ 1093, .str ⟨#[61, 69, 49]⟩ 1097, .str ⟨#[61, 69, 50]⟩ 1101, .str ⟨#[61, 69, 51]⟩ 1105, .str ⟨#[61, 69, 52]⟩ 1109, .str ⟨#[61, 69, 53]⟩ 1113, .str ⟨#[61, 69, 54]⟩ 1117, .str ⟨#[61, 69, 55]⟩ 1121, .str ⟨#[61, 69, 56]⟩ 1125, .str ⟨#[61, 69, 57]⟩ 1129, .str ⟨#[61, 69, 65]⟩ 1133, .str ⟨#[61, 69, 66]⟩ 1137, .str ⟨#[61, 69, 67]⟩ 1141, .str ⟨#[61, 69, 68]⟩ 1145, .str ⟨#[61, 69, 69]⟩ 1149, .str ⟨#[61, 69, 70]⟩ 1153, .str ⟨#[61, 70, 48]⟩ 1157, .str ⟨#[61, 70, 49]⟩ 1161, .str ⟨#[61, 70, 50]⟩ 1165, .str ⟨#[61, 70, 51]⟩ 1169, .str ⟨#[61, 70, 52]⟩ 1173, .str ⟨#[61, 70, 53]⟩ 1177, .str ⟨#[61, 70, 54]⟩ 1181, .str ⟨#[61, 70, 55]⟩ 1185, .str ⟨#[61, 70, 56]⟩ 1189, .str ⟨#[61, 70, 57]⟩ 1193, .str ⟨#[61, 70, 65]⟩ 1197, .str ⟨#[61, 70, 66]⟩ 1201, .str ⟨#[61, 70, 67]⟩ 1205, .str ⟨#[61, 70, 68]⟩ 1209, .str ⟨#[61, 70, 69]⟩ 1213, .str ⟨#[61, 70, 70]⟩ 1217]
noncomputable def lp12_s1 (w : World) (os : OsState) : SharedT := let P := w.params; ⟨tr_lp12 P (⟨.type "dict", none, .dict ([⟨PyData.keyHash P ⟨#[95, 95, 110, 97, 109, 101, 95, 95]⟩, .str ⟨#[95, 95, 110, 97, 109, 101, 95, 95]⟩ 165, .str ⟨#[99, 112, 121, 51, 49, 51, 46, 101, 109, 97, 105, 108, 46, 113, 117, 111, 112, 114, 105, 109, 105, 109, 101]⟩ 1229⟩, ⟨PyData.keyHash P ⟨#[95, 95, 100, 111, 99, 95, 95]⟩, .str ⟨#[95, 95, 100, 111, 99, 95, 95]⟩ 166, .none⟩, ⟨PyData.keyHash P ⟨#[95, 95, 112, 97, 99, 107, 97, 103, 101, 95, 95]⟩, .str ⟨#[95, 95, 112, 97, 99, 107, 97, 103, 101, 95, 95]⟩ 167, .none⟩, ⟨PyData.keyHash P ⟨#[95, 95, 108, 111, 97, 100, 101, 114, 95, 95]⟩, .str ⟨#[95, 95, 108, 111, 97, 100, 101, 114, 95, 95]⟩ 168, .builtin "__main__.__loader__#opaque"⟩, ⟨PyData.keyHash P ⟨#[95, 95, 115, 112, 101, 99, 95, 95]⟩, .str ⟨#[95, 95, 115, 112, 101, 99, 95, 95]⟩ 169, .none⟩, ⟨PyData.keyHash P ⟨#[95, 95, 97, 110, 110, 111, 116, 97, 116, 105, 111, 110, 115, 95, 95]⟩, .str ⟨#[95, 95, 97, 110, 110, 111, 116, 97, 116, 105, 111, 110, 115, 95, 95]⟩ 170, .ref 6⟩, ⟨PyData.keyHash P ⟨#[95, 95, 98, 117, 105, 108, 116, 105, 110, 115, 95, 95]⟩, .str ⟨#[95, 95, 98, 117, 105, 108, 116, 105, 110, 115, 95, 95]⟩ 171, .ref 4⟩, ⟨PyData.keyHash P ⟨#[95, 95, 102, 105, 108, 101, 95, 95]⟩, .str ⟨#[95, 95, 102, 105, 108, 101, 95, 95]⟩ 173, .str ⟨#[47, 99, 108, 97, 105, 109, 47, 99, 117, 116, 46, 112, 121]⟩ 172⟩, ⟨PyData.keyHash P ⟨#[95, 95, 99, 97, 99, 104, 101, 100, 95, 95]⟩, .str ⟨#[95, 95, 99, 97, 99, 104, 101, 100, 95, 95]⟩ 174, .none⟩, ⟨PyData.keyHash P ⟨#[67, 82, 76, 70]⟩, .str ⟨#[67, 82, 76, 70]⟩ 188, .str ⟨#[13, 10]⟩ 187⟩, ⟨PyData.keyHash P ⟨#[78, 76]⟩, .str ⟨#[78, 76]⟩ 190, .str ⟨#[10]⟩ 189⟩, ⟨PyData.keyHash P ⟨#[95, 81, 85, 79, 80, 82, 73, 95, 77, 65, 80]⟩, .str ⟨#[95, 81, 85, 79, 80, 82, 73, 95, 77, 65, 80]⟩ 1218, .ref 17⟩, ⟨PyData.keyHash P ⟨#[95, 81, 85, 79, 80, 82, 73, 95, 72, 69, 65, 68, 69, 82, 95, 77, 65, 80]⟩, .str ⟨#[95, 81, 85, 79, 80, 82, 73, 95, 72, 69, 65, 68, 69, 82, 95, 77, 65, 80]⟩ 1219, .ref 22⟩, ⟨PyData.keyHash P ⟨#[95, 81, 85, 79, 80, 82, 73, 95, 66, 79, 68, 89, 95, 77, 65, 80]⟩, .str ⟨#[95, 81, 85, 79, 80, 82, 73, 95, 66, 79, 68, 89, 95, 77, 65, 80]⟩ 1220, .ref 24⟩, ⟨PyData.keyHash P ⟨#[97, 115, 99, 105, 105, 95, 108, 111, 119, 101, 114, 99, 97, 115, 101]⟩, .str ⟨#[97, 115, 99, 105, 105, 95, 108, 111, 119, 101, 114, 99, 97, 115, 101]⟩ 1222, .str ⟨#[97, 98, 99, 100, 101, 102, 103, 104, 105, 106, 107, 108, 109, 110, 111, 112, 113, 114, 115, 116, 117, 118, 119, 120, 121, 122]⟩ 1221⟩, ⟨PyData.keyHash P ⟨#[97, 115, 99, 105, 105, 95, 117, 112, 112, 101, 114, 99, 97, 115, 101]⟩, .str ⟨#[97, 115, 99, 105, 105, 95, 117, 112, 112, 101, 114, 99, 97, 115, 101]⟩ 1224, .str ⟨#[65, 66, 67, 68, 69, 70, 71, 72, 73, 74, 75, 76, 77, 78, 79, 80, 81, 82, 83, 84, 85, 86, 87, 88, 89, 90]⟩ 1223⟩, ⟨PyData.keyHash P ⟨#[97, 115, 99, 105, 105, 95, 108, 101, 116, 116, 101, 114, 115]⟩, .str ⟨#[97, 115, 99, 105, 105, 95, 108, 101, 116, 116, 101, 114, 115]⟩ 1226, .str ⟨#[97, 98, 99, 100, 101, 102, 103, 104, 105, 106, 107, 108, 109, 110, 111, 112, 113, 114, 115, 116, 117, 118, 119, 120, 121, 122, 65, 66, 67, 68, 69, 70, 71, 72, 73, 74, 75, 76, 77, 78, 79, 80, 81, 82, 83, 84, 85, 86, 87, 88, 89, 90]⟩ 1225⟩, ⟨PyData.keyHash P ⟨#[100, 105, 103, 105, 116, 115]⟩, .str ⟨#[100, 105, 103, 105, 116, 115]⟩ 1228, .str ⟨#[48, 49, 50, 51, 52, 53, 54, 55, 56, 57]⟩ 1227⟩, ⟨PyData.keyHash P ⟨#[99]⟩, .str ⟨#[99]⟩ 1239, .int 32 1443⟩]).toArray 19, #[]⟩) (⟨.type "list", none, .seq (mixL 1 lp12_r24 lp12_x24 lp12_y24).toArray 0, #[]⟩) (⟨.type "bytes_iterator", none, .fields ([.bytes #[32, 33, 34, 35, 36, 37, 38, 39, 40, 41, 42, 43, 44, 45, 46, 47, 48, 49, 50, 51, 52, 53, 54, 55, 56, 57, 58, 59, 60, 62, 63, 64, 65, 66, 67, 68, 69, 70, 71, 72, 73, 74, 75, 76, 77, 78, 79, 80, 81, 82, 83, 84, 85, 86, 87, 88, 89, 90, 91, 92, 93, 94, 95, 96, 97, 98, 99, 100, 101, 102, 103, 104, 105, 106, 107, 108, 109, 110, 111, 112, 113, 114, 115, 116, 117, 118, 119, 120, 121, 122, 123, 124, 125, 126, 9] 1442, .int 1 0]).toArray, #[]⟩), 29, life0, Array.mk [], boot_drawn, 1446, os⟩
noncomputable def lp12_sts : List Stmt := [stm 12]
noncomputable def lp12_T : Thread := match PySem.W.Fast.tw10295753902157049106 PySem.W.Fast.tw14364793385576792824 PR (aWorld 1) 11 ann0 1 55 (s11 (aWorld 1) {}) ⟨(PySem.W.Fast.tw12563942051412417395 lp12_sts env0).wrap doneF deadEnd id id, cE, ⟨13, 0, 13, 28⟩, B0⟩ with | some r => r.2 | none => ⟨.raise .none, cE, default, []⟩
theorem lp12_start_f (w : World) (os : OsState) : PySem.W.Fast.tw10295753902157049106 PySem.W.Fast.tw14364793385576792824 PR (w.withFollow "special-get-raises" false) 11 ann0 1 55 (s11 (w.withFollow "special-get-raises" false) os) ⟨(PySem.W.Fast.tw12563942051412417395 lp12_sts env0).wrap doneF deadEnd id id, cE, ⟨13, 0, 13, 28⟩, B0⟩ = some (lp12_s1 (w.withFollow "special-get-raises" false) os, lp12_T) := by kernel_rfl
theorem lp12_start_t (w : World) (os : OsState) : PySem.W.Fast.tw10295753902157049106 PySem.W.Fast.tw14364793385576792824 PR (w.withFollow "special-get-raises" true) 11 ann0 1 55 (s11 (w.withFollow "special-get-raises" true) os) ⟨(PySem.W.Fast.tw12563942051412417395 lp12_sts env0).wrap doneF deadEnd id id, cE, ⟨13, 0, 13, 28⟩, B0⟩ = some (lp12_s1 (w.withFollow "special-get-raises" true) os, lp12_T) := by kernel_rfl
noncomputable def lp12_s9 (w : World) (os : OsState) : SharedT := let P := w.params; ⟨tr_lp12 P (⟨.type "dict", none, .dict ([⟨PyData.keyHash P ⟨#[95, 95, 110, 97, 109, 101, 95, 95]⟩, .str ⟨#[95, 95, 110, 97, 109, 101, 95, 95]⟩ 165, .str ⟨#[99, 112, 121, 51, 49, 51, 46, 101, 109, 97, 105, 108, 46, 113, 117, 111, 112, 114, 105, 109, 105, 109, 101]⟩ 1229⟩, ⟨PyData.keyHash P ⟨#[95, 95, 100, 111, 99, 95, 95]⟩, .str ⟨#[95, 95, 100, 111, 99, 95, 95]⟩ 166, .none⟩, ⟨PyData.keyHash P ⟨#[95, 95, 112, 97, 99, 107, 97, 103, 101, 95, 95]⟩, .str ⟨#[95, 95, 112, 97, 99, 107, 97, 103, 101, 95, 95]⟩ 167, .none⟩, ⟨PyData.keyHash P ⟨#[95, 95, 108, 111, 97, 100, 101, 114, 95, 95]⟩, .str ⟨#[95, 95, 108, 111, 97, 100, 101, 114, 95, 95]⟩ 168, .builtin "__main__.__loader__#opaque"⟩, ⟨PyData.keyHash P ⟨#[95, 95, 115, 112, 101, 99, 95, 95]⟩, .str ⟨#[95, 95, 115, 112, 101, 99, 95, 95]⟩ 169, .none⟩, ⟨PyData.keyHash P ⟨#[95, 95, 97, 110, 110, 111, 116, 97, 116, 105, 111, 110, 115, 95, 95]⟩, .str ⟨#[95, 95, 97, 110, 110, 111, 116, 97, 116, 105, 111, 110, 115, 95, 95]⟩ 170, .ref 6⟩, ⟨PyData.keyHash P ⟨#[95, 95, 98, 117, 105, 108, 116, 105, 110, 115, 95, 95]⟩, .str ⟨#[95, 95, 98, 117, 105, 108, 116, 105, 110, 115, 95, 95]⟩ 171, .ref 4⟩, ⟨PyData.keyHash P ⟨#[95, 95, 102, 105, 108, 101, 95, 95]⟩, .str ⟨#[95, 95, 102, 105, 108, 101, 95, 95]⟩ 173, .str ⟨#[47, 99, 108, 97, 105, 109, 47, 99, 117, 116, 46, 112, 121]⟩ 172⟩, ⟨PyData.keyHash P ⟨#[95, 95, 99, 97, 99, 104, 101, 100, 95, 95]⟩, .str ⟨#[95, 95, 99, 97, 99, 104, 101, 100, 95, 95]⟩ 174, .none⟩, ⟨PyData.keyHash P ⟨#[67, 82, 76, 70]⟩, .str ⟨#[67, 82, 76, 70]⟩ 188, .str ⟨#[13, 10]⟩ 187⟩, ⟨PyData.keyHash P ⟨#[78, 76]⟩, .str ⟨#[78, 76]⟩ 190, .str ⟨#[10]⟩ 189⟩, ⟨PyData.keyHash P ⟨#[95, 81, 85, 79, 80, 82, 73, 95, 77, 65, 80]⟩, .str ⟨#[95, 81, 85, 79, 80, 82, 73, 95, 77, 65, 80]⟩ 1218, .ref 17⟩, ⟨PyData.keyHash P ⟨#[95, 81, 85, 79, 80, 82, 73, 95, 72, 69, 65, 68, 69, 82, 95, 77, 65, 80]⟩, .str ⟨#[95, 81, 85, 79, 80, 82, 73, 95, 72, 69, 65, 68, 69, 82, 95, 77, 65, 80]⟩ 1219, .ref 22⟩, ⟨PyData.keyHash P ⟨#[95, 81, 85, 79, 80, 82, 73, 95, 66, 79, 68, 89, 95, 77, 65, 80]⟩, .str ⟨#[95, 81, 85, 79, 80, 82, 73, 95, 66, 79, 68, 89, 95, 77, 65, 80]⟩ 1220, .ref 24⟩, ⟨PyData.keyHash P ⟨#[97, 115, 99, 105, 105, 95, 108, 111, 119, 101, 114, 99, 97, 115, 101]⟩, .str ⟨#[97, 115, 99, 105, 105, 95, 108, 111, 119, 101, 114, 99, 97, 115, 101]⟩ 1222, .str ⟨#[97, 98, 99, 100, 101, 102, 103, 104, 105, 106, 107, 108, 109, 110, 111, 112, 113, 114, 115, 116, 117, 118, 119, 120, 121, 122]⟩ 1221⟩, ⟨PyData.keyHash P ⟨#[97, 115, 99, 105, 105, 95, 117, 112, 112, 101, 114, 99, 97, 115, 101]⟩, .str ⟨#[97, 115, 99, 105, 105, 95, 117, 112, 112, 101, 114, 99, 97, 115, 101]⟩ 1224, .str ⟨#[65, 66, 67, 68, 69, 70, 71, 72, 73, 74, 75, 76, 77, 78, 79, 80, 81, 82, 83, 84, 85, 86, 87, 88, 89, 90]⟩ 1223⟩, ⟨PyData.keyHash P ⟨#[97, 115, 99, 105, 105, 95, 108, 101, 116, 116, 101, 114, 115]⟩, .str ⟨#[97, 115, 99, 105, 105, 95, 108, 101, 116, 116, 101, 114, 115]⟩ 1226, .str ⟨#[97, 98, 99, 100, 101, 102, 103, 104, 105, 106, 107, 108, 109, 110, 111, 112, 113, 114, 115, 116, 117, 118, 119, 120, 121, 122, 65, 66, 67, 68, 69, 70, 71, 72, 73, 74, 75, 76, 77, 78, 79, 80, 81, 82, 83, 84, 85, 86, 87, 88, 89, 90]⟩ 1225⟩, ⟨PyData.keyHash P ⟨#[100, 105, 103, 105, 116, 115]⟩, .str ⟨#[100, 105, 103, 105, 116, 115]⟩ 1228, .str ⟨#[48, 49, 50, 51, 52, 53, 54, 55, 56, 57]⟩ 1227⟩, ⟨PyData.keyHash P ⟨#[99]⟩, .str ⟨#[99]⟩ 1239, .int 40 1467⟩]).toArray 19, #[]⟩) (⟨.type "list", none, .seq (mixL 9 lp12_r24 lp12_x24 lp12_y24).toArray 0, #[]⟩) (⟨.type "bytes_iterator", none, .fields ([.bytes #[32, 33, 34, 35, 36, 37, 38, 39, 40, 41, 42, 43, 44, 45, 46, 47, 48, 49, 50, 51, 52, 53, 54, 55, 56, 57, 58, 59, 60, 62, 63, 64, 65, 66, 67, 68, 69, 70, 71, 72, 73, 74, 75, 76, 77, 78, 79, 80, 81, 82, 83, 84, 85, 86, 87, 88, 89, 90, 91, 92, 93, 94, 95, 96, 97, 98, 99, 100, 101, 102, 103, 104, 105, 106, 107, 108, 109, 110, 111, 112, 113, 114, 115, 116, 117, 118, 119, 120, 121, 122, 123, 124, 125, 126, 9] 1442, .int 9 0]).toArray, #[]⟩), 29, life0, Array.mk [], boot_drawn, 1470, os⟩
theorem lp12_go1 (w : World) (os : OsState) : PySem.W.Fast.tw10295753902157049106 PySem.W.Fast.tw14364793385576792824 PR w 11 ann0 1 360 (lp12_s1 w os) lp12_T = some (lp12_s9 w os, lp12_T) := by kernel_rfl
noncomputable def lp12_s17 (w : World) (os : OsState) : SharedT := let P := w.params; ⟨tr_lp12 P (⟨.type "dict", none, .dict ([⟨PyData.keyHash P ⟨#[95, 95, 110, 97, 109, 101, 95, 95]⟩, .str ⟨#[95, 95, 110, 97, 109, 101, 95, 95]⟩ 165, .str ⟨#[99, 112, 121, 51, 49, 51, 46, 101, 109, 97, 105, 108, 46, 113, 117, 111, 112, 114, 105, 109, 105, 109, 101]⟩ 1229⟩, ⟨PyData.keyHash P ⟨#[95, 95, 100, 111, 99, 95, 95]⟩, .str ⟨#[95, 95, 100, 111, 99, 95, 95]⟩ 166, .none⟩, ⟨PyData.keyHash P ⟨#[95, 95, 112, 97, 99, 107, 97, 103, 101, 95, 95]⟩, .str ⟨#[95, 95, 112, 97, 99, 107, 97, 103, 101, 95, 95]⟩ 167, .none⟩, ⟨PyData.keyHash P ⟨#[95, 95, 108, 111, 97, 100, 101, 114, 95, 95]⟩, .str ⟨#[95, 95, 108, 111, 97, 100, 101, 114, 95, 95]⟩ 168, .builtin "__main__.__loader__#opaque"⟩, ⟨PyData.keyHash P ⟨#[95, 95, 115, 112, 101, 99, 95, 95]⟩, .str ⟨#[95, 95, 115, 112, 101, 99, 95, 95]⟩ 169, .none⟩, ⟨PyData.keyHash P ⟨#[95, 95, 97, 110, 110, 111, 116, 97, 116, 105, 111, 110, 115, 95, 95]⟩, .str ⟨#[95, 95, 97, 110, 110, 111, 116, 97, 116, 105, 111, 110, 115, 95, 95]⟩ 170, .ref 6⟩, ⟨PyData.keyHash P ⟨#[95, 95, 98, 117, 105, 108, 116, 105, 110, 115, 95, 95]⟩, .str ⟨#[95, 95, 98, 117, 105, 108, 116, 105, 110, 115, 95, 95]⟩ 171, .ref 4⟩, ⟨PyData.keyHash P ⟨#[95, 95, 102, 105, 108, 101, 95, 95]⟩, .str ⟨#[95, 95, 102, 105, 108, 101, 95, 95]⟩ 173, .str ⟨#[47, 99, 108, 97, 105, 109, 47, 99, 117, 116, 46, 112, 121]⟩ 172⟩, ⟨PyData.keyHash P ⟨#[95, 95, 99, 97, 99, 104, 101, 100, 95, 95]⟩, .str ⟨#[95, 95, 99, 97, 99, 104, 101, 100, 95, 95]⟩ 174, .none⟩, ⟨PyData.keyHash P ⟨#[67, 82, 76, 70]⟩, .str ⟨#[67, 82, 76, 70]⟩ 188, .str ⟨#[13, 10]⟩ 187⟩, ⟨PyData.keyHash P ⟨#[78, 76]⟩, .str ⟨#[78, 76]⟩ 190, .str ⟨#[10]⟩ 189⟩, ⟨PyData.keyHash P ⟨#[95, 81, 85, 79, 80, 82, 73, 95, 77, 65, 80]⟩, .str ⟨#[95, 81, 85, 79, 80, 82, 73, 95, 77, 65, 80]⟩ 1218, .ref 17⟩, ⟨PyData.keyHash P ⟨#[95, 81, 85, 79, 80, 82, 73, 95, 72, 69, 65, 68, 69, 82, 95, 77, 65, 80]⟩, .str ⟨#[95, 81, 85, 79, 80, 82, 73, 95, 72, 69, 65, 68, 69, 82, 95, 77, 65, 80]⟩ 1219, .ref 22⟩, ⟨PyData.keyHash P ⟨#[95, 81, 85, 79, 80, 82, 73, 95, 66, 79, 68, 89, 95, 77, 65, 80]⟩, .str ⟨#[95, 81, 85, 79, 80, 82, 73, 95, 66, 79, 68, 89, 95, 77, 65, 80]⟩ 1220, .ref 24⟩, ⟨PyData.keyHash P ⟨#[97, 115, 99, 105, 105, 95, 108, 111, 119, 101, 114, 99, 97, 115, 101]⟩, .str ⟨#[97, 115, 99, 105, 105, 95, 108, 111, 119, 101, 114, 99, 97, 115, 101]⟩ 1222, .str ⟨#[97, 98, 99, 100, 101, 102, 103, 104, 105, 106, 107, 108, 109, 110, 111, 112, 113, 114, 115, 116, 117, 118, 119, 120, 121, 122]⟩ 1221⟩, ⟨PyData.keyHash P ⟨#[97, 115, 99, 105, 105, 95, 117, 112, 112, 101, 114, 99, 97, 115, 101]⟩, .str ⟨#[97, 115, 99, 105, 105, 95, 117, 112, 112, 101, 114, 99, 97, 115, 101]⟩ 1224, .str ⟨#[65, 66, 67, 68, 69, 70, 71, 72, 73, 74, 75, 76, 77, 78, 79, 80, 81, 82, 83, 84, 85, 86, 87, 88, 89, 90]⟩ 1223⟩, ⟨PyData.keyHash P ⟨#[97, 115, 99, 105, 105, 95, 108, 101, 116, 116, 101, 114, 115]⟩, .str ⟨#[97, 115, 99, 105, 105, 95, 108, 101, 116, 116, 101, 114, 115]⟩ 1226, .str ⟨#[97, 98, 99, 100, 101, 102, 103, 104, 105, 106, 107, 108, 109, 110, 111, 112, 113, 114, 115, 116, 117, 118, 119, 120, 121, 122, 65, 66, 67, 68, 69, 70, 71, 72, 73, 74, 75, 76, 77, 78, 79, 80, 81, 82, 83, 84, 85, 86, 87, 88, 89, 90]⟩ 1225⟩, ⟨PyData.keyHash P ⟨#[100, 105, 103, 105, 116, 115]⟩, .str ⟨#[100, 105, 103, 105, 116, 115]⟩ 1228, .str ⟨#[48, 49, 50, 51, 52, 53, 54, 55, 56, 57]⟩ 1227⟩, ⟨PyData.keyHash P ⟨#[99]⟩, .str ⟨#[99]⟩ 1239, .int 48 1491⟩]).toArray 19, #[]⟩) (⟨.type "list", none, .seq (mixL 17 lp12_r24 lp12_x24 lp12_y24).toArray 0, #[]⟩) (⟨.type "bytes_iterator", none, .fields ([.bytes #[32, 33, 34, 35, 36, 37, 38, 39, 40, 41, 42, 43, 44, 45, 46, 47, 48, 49, 50, 51, 52, 53, 54, 55, 56, 57, 58, 59, 60, 62, 63, 64, 65, 66, 67, 68, 69, 70, 71, 72, 73, 74, 75, 76, 77, 78, 79, 80, 81, 82, 83, 84, 85, 86, 87, 88, 89, 90, 91, 92, 93, 94, 95, 96, 97, 98, 99, 100, 101, 102, 103, 104, 105, 106, 107, 108, 109, 110, 111, 112, 113, 114, 115, 116, 117, 118, 119, 120, 121, 122, 123, 124, 125, 126, 9] 1442, .int 17 0]).toArray, #[]⟩), 29, life0, Array.mk [], boot_drawn, 1494, os⟩
theorem lp12_go9 (w : World) (os : OsState) : PySem.W.Fast.tw10295753902157049106 PySem.W.Fast.tw14364793385576792824 PR w 11 ann0 1 360 (lp12_s9 w os) lp12_T = some (lp12_s17 w os, lp12_T) := by kernel_rfl
noncomputable def lp12_s25 (w : World) (os : OsState) : SharedT := let P := w.params; ⟨tr_lp12 P (⟨.type "dict", none, .dict ([⟨PyData.keyHash P ⟨#[95, 95, 110, 97, 109, 101, 95, 95]⟩, .str ⟨#[95, 95, 110, 97, 109, 101, 95, 95]⟩ 165, .str ⟨#[99, 112, 121, 51, 49, 51, 46, 101, 109, 97, 105, 108, 46, 113, 117, 111, 112, 114, 105, 109, 105, 109, 101]⟩ 1229⟩, ⟨PyData.keyHash P ⟨#[95, 95, 100, 111, 99, 95, 95]⟩, .str ⟨#[95, 95, 100, 111, 99, 95, 95]⟩ 166, .none⟩, ⟨PyData.keyHash P ⟨#[95, 95, 112, 97, 99, 107, 97, 103, 101, 95, 95]⟩, .str ⟨#[95, 95, 112, 97, 99, 107, 97, 103, 101, 95, 95]⟩ 167, .none⟩, ⟨PyData.keyHash P ⟨#[95, 95, 108, 111, 97, 100, 101, 114, 95, 95]⟩, .str ⟨#[95, 95, 108, 111, 97, 100, 101, 114, 95, 95]⟩ 168, .builtin "__main__.__loader__#opaque"⟩, ⟨PyData.keyHash P ⟨#[95, 95, 115, 112, 101, 99, 95, 95]⟩, .str ⟨#[95, 95, 115, 112, 101, 99, 95, 95]⟩ 169, .none⟩, ⟨PyData.keyHash P ⟨#[95, 95, 97, 110, 110, 111, 116, 97, 116, 105, 111, 110, 115, 95, 95]⟩, .str ⟨#[95, 95, 97, 110, 110, 111, 116, 97, 116, 105, 111, 110, 115, 95, 95]⟩ 170, .ref 6⟩, ⟨PyData.keyHash P ⟨#[95, 95, 98, 117, 105, 108, 116, 105, 110, 115, 95, 95]⟩, .str ⟨#[95, 95, 98, 117, 105, 108, 116, 105, 110, 115, 95, 95]⟩ 171, .ref 4⟩, ⟨PyData.keyHash P ⟨#[95, 95, 102, 105, 108, 101, 95, 95]⟩, .str ⟨#[95, 95, 102, 105, 108, 101, 95, 95]⟩ 173, .str ⟨#[47, 99, 108, 97, 105, 109, 47, 99, 117, 116, 46, 112, 121]⟩ 172⟩, ⟨PyData.keyHash P ⟨#[95, 95, 99, 97, 99, 104, 101, 100, 95, 95]⟩, .str ⟨#[95, 95, 99, 97, 99, 104, 101, 100, 95, 95]⟩ 174, .none⟩, ⟨PyData.keyHash P ⟨#[67, 82, 76, 70]⟩, .str ⟨#[67, 82, 76, 70]⟩ 188, .str ⟨#[13, 10]⟩ 187⟩, ⟨PyData.keyHash P ⟨#[78, 76]⟩, .str ⟨#[78, 76]⟩ 190, .str ⟨#[10]⟩ 189⟩, ⟨PyData.keyHash P ⟨#[95, 81, 85, 79, 80, 82, 73, 95, 77, 65, 80]⟩, .str ⟨#[95, 81, 85, 79, 80, 82, 73, 95, 77, 65, 80]⟩ 1218, .ref 17⟩, ⟨PyData.keyHash P ⟨#[95, 81, 85, 79, 80, 82, 73, 95, 72, 69, 65, 68, 69, 82, 95, 77, 65, 80]⟩, .str ⟨#[95, 81, 85, 79, 80, 82, 73, 95, 72, 69, 65, 68, 69, 82, 95, 77, 65, 80]⟩ 1219, .ref 22⟩, ⟨PyData.keyHash P ⟨#[95, 81, 85, 79, 80, 82, 73, 95, 66, 79, 68, 89, 95, 77, 65, 80]⟩, .str ⟨#[95, 81, 85, 79, 80, 82, 73, 95, 66, 79, 68, 89, 95, 77, 65, 80]⟩ 1220, .ref 24⟩, ⟨PyData.keyHash P ⟨#[97, 115, 99, 105, 105, 95, 108, 111, 119, 101, 114, 99, 97, 115, 101]⟩, .str ⟨#[97, 115, 99, 105, 105, 95, 108, 111, 119, 101, 114, 99, 97, 115, 101]⟩ 1222, .str ⟨#[97, 98, 99, 100, 101, 102, 103, 104, 105, 106, 107, 108, 109, 110, 111, 112, 113, 114, 115, 116, 117, 118, 119, 120, 121, 122]⟩ 1221⟩, ⟨PyData.keyHash P ⟨#[97, 115, 99, 105, 105, 95, 117, 112, 112, 101, 114, 99, 97, 115, 101]⟩, .str ⟨#[97, 115, 99, 105, 105, 95, 117, 112, 112, 101, 114, 99, 97, 115, 101]⟩ 1224, .str ⟨#[65, 66, 67, 68, 69, 70, 71, 72, 73, 74, 75, 76, 77, 78, 79, 80, 81, 82, 83, 84, 85, 86, 87, 88, 89, 90]⟩ 1223⟩, ⟨PyData.keyHash P ⟨#[97, 115, 99, 105, 105, 95, 108, 101, 116, 116, 101, 114, 115]⟩, .str ⟨#[97, 115, 99, 105, 105, 95, 108, 101, 116, 116, 101, 114, 115]⟩ 1226, .str ⟨#[97, 98, 99, 100, 101, 102, 103, 104, 105, 106, 107, 108, 109, 110, 111, 112, 113, 114, 115, 116, 117, 118, 119, 120, 121, 122, 65, 66, 67, 68, 69, 70, 71, 72, 73, 74, 75, 76, 77, 78, 79, 80, 81, 82, 83, 84, 85, 86, 87, 88, 89, 90]⟩ 1225⟩, ⟨PyData.keyHash P ⟨#[100, 105, 103, 105, 116, 115]⟩, .str ⟨#[100, 105, 103, 105, 116, 115]⟩ 1228, .str ⟨#[48, 49, 50, 51, 52, 53, 54, 55, 56, 57]⟩ 1227⟩, ⟨PyData.keyHash P ⟨#[99]⟩, .str ⟨#[99]⟩ 1239, .int 56 1515⟩]).toArray 19, #[]⟩) (⟨.type "list", none, .seq (mixL 25 lp12_r24 lp12_x24 lp12_y24).toArray 0, #[]⟩) (⟨.type "bytes_iterator", none, .fields ([.bytes #[32, 33, 34, 35, 36, 37, 38, 39, 40, 41, 42, 43, 44, 45, 46, 47, 48, 49, 50, 51, 52, 53, 54, 55, 56, 57, 58, 59, 60, 62, 63, 64, 65, 66, 67, 68, 69, 70, 71, 72, 73, 74, 75, 76, 77, 78, 79, 80, 81, 82, 83, 84, 85, 86, 87, 88, 89, 90, 91, 92, 93, 94, 95, 96, 97, 98, 99, 100, 101, 102, 103, 104, 105, 106, 107, 108, 109, 110, 111, 112, 113, 114, 115, 116, 117, 118, 119, 120, 121, 122, 123, 124, 125, 126, 9] 1442, .int 25 0]).toArray, #[]⟩), 29, life0, Array.mk [], boot_drawn, 1518, os⟩
theorem lp12_go17 (w : World) (os : OsState) : PySem.W.Fast.tw10295753902157049106 PySem.W.Fast.tw14364793385576792824 PR w 11 ann0 1 360 (lp12_s17 w os) lp12_T = some (lp12_s25 w os, lp12_T) := by kernel_rfl
noncomputable def lp12_s33 (w : World) (os : OsState) : SharedT := let P := w.params; ⟨tr_lp12 P (⟨.type "dict", none, .dict ([⟨PyData.keyHash P ⟨#[95, 95, 110, 97, 109, 101, 95, 95]⟩, .str ⟨#[95, 95, 110, 97, 109, 101, 95, 95]⟩ 165, .str ⟨#[99, 112, 121, 51, 49, 51, 46, 101, 109, 97, 105, 108, 46, 113, 117, 111, 112, 114, 105, 109, 105, 109, 101]⟩ 1229⟩, ⟨PyData.keyHash P ⟨#[95, 95, 100, 111, 99, 95, 95]⟩, .str ⟨#[95, 95, 100, 111, 99, 95, 95]⟩ 166, .none⟩, ⟨PyData.keyHash P ⟨#[95, 95, 112, 97, 99, 107, 97, 103, 101, 95, 95]⟩, .str ⟨#[95, 95, 112, 97, 99, 107, 97, 103, 101, 95, 95]⟩ 167, .none⟩, ⟨PyData.keyHash P ⟨#[95, 95, 108, 111, 97, 100, 101, 114, 95, 95]⟩, .str ⟨#[95, 95, 108, 111, 97, 100, 101, 114, 95, 95]⟩ 168, .builtin "__main__.__loader__#opaque"⟩, ⟨PyData.keyHash P ⟨#[95, 95, 115, 112, 101, 99, 95, 95]⟩, .str ⟨#[95, 95, 115, 112, 101, 99, 95, 95]⟩ 169, .none⟩, ⟨PyData.keyHash P ⟨#[95, 95, 97, 110, 110, 111, 116, 97, 116, 105, 111, 110, 115, 95, 95]⟩, .str ⟨#[95, 95, 97, 110, 110, 111, 116, 97, 116, 105, 111, 110, 115, 95, 95]⟩ 170, .ref 6⟩, ⟨PyData.keyHash P ⟨#[95, 95, 98, 117, 105, 108, 116, 105, 110, 115, 95, 95]⟩, .str ⟨#[95, 95, 98, 117, 105, 108, 116, 105, 110, 115, 95, 95]⟩ 171, .ref 4⟩, ⟨PyData.keyHash P ⟨#[95, 95, 102, 105, 108, 101, 95, 95]⟩, .str ⟨#[95, 95, 102, 105, 108, 101, 95, 95]⟩ 173, .str ⟨#[47, 99, 108, 97, 105, 109, 47, 99, 117, 116, 46, 112, 121]⟩ 172⟩, ⟨PyData.keyHash P ⟨#[95, 95, 99, 97, 99, 104, 101, 100, 95, 95]⟩, .str ⟨#[95, 95, 99, 97, 99, 104, 101, 100, 95, 95]⟩ 174, .none⟩, ⟨PyData.keyHash P ⟨#[67, 82, 76, 70]⟩, .str ⟨#[67, 82, 76, 70]⟩ 188, .str ⟨#[13, 10]⟩ 187⟩, ⟨PyData.keyHash P ⟨#[78, 76]⟩, .str ⟨#[78, 76]⟩ 190, .str ⟨#[10]⟩ 189⟩, ⟨PyData.keyHash P ⟨#[95, 81, 85, 79, 80, 82, 73, 95, 77, 65, 80]⟩, .str ⟨#[95, 81, 85, 79, 80, 82, 73, 95, 77, 65, 80]⟩ 1218, .ref 17⟩, ⟨PyData.keyHash P ⟨#[95, 81, 85, 79, 80, 82, 73, 95, 72, 69, 65, 68, 69, 82, 95, 77, 65, 80]⟩, .str ⟨#[95, 81, 85, 79, 80, 82, 73, 95, 72, 69, 65, 68, 69, 82, 95, 77, 65, 80]⟩ 1219, .ref 22⟩, ⟨PyData.keyHash P ⟨#[95, 81, 85, 79, 80, 82, 73, 95, 66, 79, 68, 89, 95, 77, 65, 80]⟩, .str ⟨#[95, 81, 85, 79, 80, 82, 73, 95, 66, 79, 68, 89, 95, 77, 65, 80]⟩ 1220, .ref 24⟩, ⟨PyData.keyHash P ⟨#[97, 115, 99, 105, 105, 95, 108, 111, 119, 101, 114, 99, 97, 115, 101]⟩, .str ⟨#[97, 115, 99, 105, 105, 95, 108, 111, 119, 101, 114, 99, 97, 115, 101]⟩ 1222, .str ⟨#[97, 98, 99, 100, 101, 102, 103, 104, 105, 106, 107, 108, 109, 110, 111, 112, 113, 114, 115, 116, 117, 118, 119, 120, 121, 122]⟩ 1221⟩, ⟨PyData.keyHash P ⟨#[97, 115, 99, 105, 105, 95, 117, 112, 112, 101, 114, 99, 97, 115, 101]⟩, .str ⟨#[97, 115, 99, 105, 105, 95, 117, 112, 112, 101, 114, 99, 97, 115, 101]⟩ 1224, .str ⟨#[65, 66, 67, 68, 69, 70, 71, 72, 73, 74, 75, 76, 77, 78, 79, 80, 81, 82, 83, 84, 85, 86, 87, 88, 89, 90]⟩ 1223⟩, ⟨PyData.keyHash P ⟨#[97, 115, 99, 105, 105, 95, 108, 101, 116, 116, 101, 114, 115]⟩, .str ⟨#[97, 115, 99, 105, 105, 95, 108, 101, 116, 116, 101, 114, 115]⟩ 1226, .str ⟨#[97, 98, 99, 100, 101, 102, 103, 104, 105, 106, 107, 108, 109, 110, 111, 112, 113, 114, 115, 116, 117, 118, 119, 120, 121, 122, 65, 66, 67, 68, 69, 70, 71, 72, 73, 74, 75, 76, 77, 78, 79, 80, 81, 82, 83, 84, 85, 86, 87, 88, 89, 90]⟩ 1225⟩, ⟨PyData.keyHash P ⟨#[100, 105, 103, 105, 116, 115]⟩, .str ⟨#[100, 105, 103, 105, 116, 115]⟩ 1228, .str ⟨#[48, 49, 50, 51, 52, 53, 54, 55, 56, 57]⟩ 1227⟩, ⟨PyData.keyHash P ⟨#[99]⟩, .str ⟨#[99]⟩ 1239, .int 65 1539⟩]).toArray 19, #[]⟩) (⟨.type "list", none, .seq (mixL 33 lp12_r24 lp12_x24 lp12_y24).toArray 0, #[]⟩) (⟨.type "bytes_iterator", none, .fields ([.bytes #[32, 33, 34, 35, 36, 37, 38, 39, 40, 41, 42, 43, 44, 45, 46, 47, 48, 49, 50, 51, 52, 53, 54, 55, 56, 57, 58, 59, 60, 62, 63, 64, 65, 66, 67, 68, 69, 70, 71, 72, 73, 74, 75, 76, 77, 78, 79, 80, 81, 82, 83, 84, 85, 86, 87, 88, 89, 90, 91, 92, 93, 94, 95, 96, 97, 98, 99, 100, 101, 102, 103, 104, 105, 106, 107, 108, 109, 110, 111, 112, 113, 114, 115, 116, 117, 118, 119, 120, 121, 122, 123, 124, 125, 126, 9] 1442, .int 33 0]).toArray, #[]⟩), 29, life0, Array.mk [], boot_drawn, 1542, os⟩
theorem lp12_go25 (w : World) (os : OsState) : PySem.W.Fast.tw10295753902157049106 PySem.W.Fast.tw14364793385576792824 PR w 11 ann0 1 360 (lp12_s25 w os) lp12_T = some (lp12_s33 w os, lp12_T) := by kernel_rfl
noncomputable def lp12_s41 (w : World) (os : OsState) : SharedT := let P := w.params; ⟨tr_lp12 P (⟨.type "dict", none, .dict ([⟨PyData.keyHash P ⟨#[95, 95, 110, 97, 109, 101, 95, 95]⟩, .str ⟨#[95, 95, 110, 97, 109, 101, 95, 95]⟩ 165, .str ⟨#[99, 112, 121, 51, 49, 51, 46, 101, 109, 97, 105, 108, 46, 113, 117, 111, 112, 114, 105, 109, 105, 109, 101]⟩ 1229⟩, ⟨PyData.keyHash P ⟨#[95, 95, 100, 111, 99, 95, 95]⟩, .str ⟨#[95, 95, 100, 111, 99, 95, 95]⟩ 166, .none⟩, ⟨PyData.keyHash P ⟨#[95, 95, 112, 97, 99, 107, 97, 103, 101, 95, 95]⟩, .str ⟨#[95, 95, 112, 97, 99, 107, 97, 103, 101, 95, 95]⟩ 167, .none⟩, ⟨PyData.keyHash P ⟨#[95, 95, 108, 111, 97, 100, 101, 114, 95, 95]⟩, .str ⟨#[95, 95, 108, 111, 97, 100, 101, 114, 95, 95]⟩ 168, .builtin "__main__.__loader__#opaque"⟩, ⟨PyData.keyHash P ⟨#[95, 95, 115, 112, 101, 99, 95, 95]⟩, .str ⟨#[95, 95, 115, 112, 101, 99, 95, 95]⟩ 169, .none⟩, ⟨PyData.keyHash P ⟨#[95, 95, 97, 110, 110, 111, 116, 97, 116, 105, 111, 110, 115, 95, 95]⟩, .str ⟨#[95, 95, 97, 110, 110, 111, 116, 97, 116, 105, 111, 110, 115, 95, 95]⟩ 170, .ref 6⟩, ⟨PyData.keyHash P ⟨#[95, 95, 98, 117, 105, 108, 116, 105, 110, 115, 95, 95]⟩, .str ⟨#[95, 95, 98, 117, 105, 108, 116, 105, 110, 115, 95, 95]⟩ 171, .ref 4⟩, ⟨PyData.keyHash P ⟨#[95, 95, 102, 105, 108, 101, 95, 95]⟩, .str ⟨#[95, 95, 102, 105, 108, 101, 95, 95]⟩ 173, .str ⟨#[47, 99, 108, 97, 105, 109, 47, 99, 117, 116, 46, 112, 121]⟩ 172⟩, ⟨PyData.keyHash P ⟨#[95, 95, 99, 97, 99, 104, 101, 100, 95, 95]⟩, .str ⟨#[95, 95, 99, 97, 99, 104, 101, 100, 95, 95]⟩ 174, .none⟩, ⟨PyData.keyHash P ⟨#[67, 82, 76, 70]⟩, .str ⟨#[67, 82, 76, 70]⟩ 188, .str ⟨#[13, 10]⟩ 187⟩, ⟨PyData.keyHash P ⟨#[78, 76]⟩, .str ⟨#[78, 76]⟩ 190, .str ⟨#[10]⟩ 189⟩, ⟨PyData.keyHash P ⟨#[95, 81, 85, 79, 80, 82, 73, 95, 77, 65, 80]⟩, .str ⟨#[95, 81, 85, 79, 80, 82, 73, 95, 77, 65, 80]⟩ 1218, .ref 17⟩, ⟨PyData.keyHash P ⟨#[95, 81, 85, 79, 80, 82, 73, 95, 72, 69, 65, 68, 69, 82, 95, 77, 65, 80]⟩, .str ⟨#[95, 81, 85, 79, 80, 82, 73, 95, 72, 69, 65, 68, 69, 82, 95, 77, 65, 80]⟩ 1219, .ref 22⟩, ⟨PyData.keyHash P ⟨#[95, 81, 85, 79, 80, 82, 73, 95, 66, 79, 68, 89, 95, 77, 65, 80]⟩, .str ⟨#[95, 81, 85, 79, 80, 82, 73, 95, 66, 79, 68, 89, 95, 77, 65, 80]⟩ 1220, .ref 24⟩, ⟨PyData.keyHash P ⟨#[97, 115, 99, 105, 105, 95, 108, 111, 119, 101, 114, 99, 97, 115, 101]⟩, .str ⟨#[97, 115, 99, 105, 105, 95, 108, 111, 119, 101, 114, 99, 97, 115, 101]⟩ 1222, .str ⟨#[97, 98, 99, 100, 101, 102, 103, 104, 105, 106, 107, 108, 109, 110, 111, 112, 113, 114, 115, 116, 117, 118, 119, 120, 121, 122]⟩ 1221⟩, ⟨PyData.keyHash P ⟨#[97, 115, 99, 105, 105, 95, 117, 112, 112, 101, 114, 99, 97, 115, 101]⟩, .str ⟨#[97, 115, 99, 105, 105, 95, 117, 112, 112, 101, 114, 99, 97, 115, 101]⟩ 1224, .str ⟨#[65, 66, 67, 68, 69, 70, 71, 72, 73, 74, 75, 76, 77, 78, 79, 80, 81, 82, 83, 84, 85, 86, 87, 88, 89, 90]⟩ 1223⟩, ⟨PyData.keyHash P ⟨#[97, 115, 99, 105, 105, 95, 108, 101, 116, 116, 101, 114, 115]⟩, .str ⟨#[97, 115, 99, 105, 105, 95, 108, 101, 116, 116, 101, 114, 115]⟩ 1226, .str ⟨#[97, 98, 99, 100, 101, 102, 103, 104, 105, 106, 107, 108, 109, 110, 111, 112, 113, 114, 115, 116, 117, 118, 119, 120, 121, 122, 65, 66, 67, 68, 69, 70, 71, 72, 73, 74, 75, 76, 77, 78, 79, 80, 81, 82, 83, 84, 85, 86, 87, 88, 89, 90]⟩ 1225⟩, ⟨PyData.keyHash P ⟨#[100, 105, 103, 105, 116, 115]⟩, .str ⟨#[100, 105, 103, 105, 116, 115]⟩ 1228, .str ⟨#[48, 49, 50, 51, 52, 53, 54, 55, 56, 57]⟩ 1227⟩, ⟨PyData.keyHash P ⟨#[99]⟩, .str ⟨#[99]⟩ 1239, .int 73 1563⟩]).toArray 19, #[]⟩) (⟨.type "list", none, .seq (mixL 41 lp12_r24 lp12_x24 lp12_y24).toArray 0, #[]⟩) (⟨.type "bytes_iterator", none, .fields ([.bytes #[32, 33, 34, 35, 36, 37, 38, 39, 40, 41, 42, 43, 44, 45, 46, 47, 48, 49, 50, 51, 52, 53, 54, 55, 56, 57, 58, 59, 60, 62, 63, 64, 65, 66, 67, 68, 69, 70, 71, 72, 73, 74, 75, 76, 77, 78, 79, 80, 81, 82, 83, 84, 85, 86, 87, 88, 89, 90, 91, 92, 93, 94, 95, 96, 97, 98, 99, 100, 101, 102, 103, 104, 105, 106, 107, 108, 109, 110, 111, 112, 113, 114, 115, 116, 117, 118, 119, 120, 121, 122, 123, 124, 125, 126, 9] 1442, .int 41 0]).toArray, #[]⟩), 29, life0, Array.mk [], boot_drawn, 1566, os⟩
theorem lp12_go33 (w : World) (os : OsState) : PySem.W.Fast.tw10295753902157049106 PySem.W.Fast.tw14364793385576792824 PR w 11 ann0 1 360 (lp12_s33 w os) lp12_T = some (lp12_s41 w os, lp12_T) := by kernel_rfl
noncomputable def lp12_s49 (w : World) (os : OsState) : SharedT := let P := w.params; ⟨tr_lp12 P (⟨.type "dict", none, .dict ([⟨PyData.keyHash P ⟨#[95, 95, 110, 97, 109, 101, 95, 95]⟩, .str ⟨#[95, 95, 110, 97, 109, 101, 95, 95]⟩ 165, .str ⟨#[99, 112, 121, 51, 49, 51, 46, 101, 109, 97, 105, 108, 46, 113, 117, 111, 112, 114, 105, 109, 105, 109, 101]⟩ 1229⟩, ⟨PyData.keyHash P ⟨#[95, 95, 100, 111, 99, 95, 95]⟩, .str ⟨#[95, 95, 100, 111, 99, 95, 95]⟩ 166, .none⟩, ⟨PyData.keyHash P ⟨#[95, 95, 112, 97, 99, 107, 97, 103, 101, 95, 95]⟩, .str ⟨#[95, 95, 112, 97, 99, 107, 97, 103, 101, 95, 95]⟩ 167, .none⟩, ⟨PyData.keyHash P ⟨#[95, 95, 108, 111, 97, 100, 101, 114, 95, 95]⟩, .str ⟨#[95, 95, 108, 111, 97, 100, 101, 114, 95, 95]⟩ 168, .builtin "__main__.__loader__#opaque"⟩, ⟨PyData.keyHash P ⟨#[95, 95, 115, 112, 101, 99, 95, 95]⟩, .str ⟨#[95, 95, 115, 112, 101, 99, 95, 95]⟩ 169, .none⟩, ⟨PyData.keyHash P ⟨#[95, 95, 97, 110, 110, 111, 116, 97, 116, 105, 111, 110, 115, 95, 95]⟩, .str ⟨#[95, 95, 97, 110, 110, 111, 116, 97, 116, 105, 111, 110, 115, 95, 95]⟩ 170, .ref 6⟩, ⟨PyData.keyHash P ⟨#[95, 95, 98, 117, 105, 108, 116, 105, 110, 115, 95, 95]⟩, .str ⟨#[95, 95, 98, 117, 105, 108, 116, 105, 110, 115, 95, 95]⟩ 171, .ref 4⟩, ⟨PyData.keyHash P ⟨#[95, 95, 102, 105, 108, 101, 95, 95]⟩, .str ⟨#[95, 95, 102, 105, 108, 101, 95, 95]⟩ 173, .str ⟨#[47, 99, 108, 97, 105, 109, 47, 99, 117, 116, 46, 112, 121]⟩ 172⟩, ⟨PyData.keyHash P ⟨#[95, 95, 99, 97, 99, 104, 101, 100, 95, 95]⟩, .str ⟨#[95, 95, 99, 97, 99, 104, 101, 100, 95, 95]⟩ 174, .none⟩, ⟨PyData.keyHash P ⟨#[67, 82, 76, 70]⟩, .str ⟨#[67, 82, 76, 70]⟩ 188, .str ⟨#[13, 10]⟩ 187⟩, ⟨PyData.keyHash P ⟨#[78, 76]⟩, .str ⟨#[78, 76]⟩ 190, .str ⟨#[10]⟩ 189⟩, ⟨PyData.keyHash P ⟨#[95, 81, 85, 79, 80, 82, 73, 95, 77, 65, 80]⟩, .str ⟨#[95, 81, 85, 79, 80, 82, 73, 95, 77, 65, 80]⟩ 1218, .ref 17⟩, ⟨PyData.keyHash P ⟨#[95, 81, 85, 79, 80, 82, 73, 95, 72, 69, 65, 68, 69, 82, 95, 77, 65, 80]⟩, .str ⟨#[95, 81, 85, 79, 80, 82, 73, 95, 72, 69, 65, 68, 69, 82, 95, 77, 65, 80]⟩ 1219, .ref 22⟩, ⟨PyData.keyHash P ⟨#[95, 81, 85, 79, 80, 82, 73, 95, 66, 79, 68, 89, 95, 77, 65, 80]⟩, .str ⟨#[95, 81, 85, 79, 80, 82, 73, 95, 66, 79, 68, 89, 95, 77, 65, 80]⟩ 1220, .ref 24⟩, ⟨PyData.keyHash P ⟨#[97, 115, 99, 105, 105, 95, 108, 111, 119, 101, 114, 99, 97, 115, 101]⟩, .str ⟨#[97, 115, 99, 105, 105, 95, 108, 111, 119, 101, 114, 99, 97, 115, 101]⟩ 1222, .str ⟨#[97, 98, 99, 100, 101, 102, 103, 104, 105, 106, 107, 108, 109, 110, 111, 112, 113, 114, 115, 116, 117, 118, 119, 120, 121, 122]⟩ 1221⟩, ⟨PyData.keyHash P ⟨#[97, 115, 99, 105, 105, 95, 117, 112, 112, 101, 114, 99, 97, 115, 101]⟩, .str ⟨#[97, 115, 99, 105, 105, 95, 117, 112, 112, 101, 114, 99, 97, 115, 101]⟩ 1224, .str ⟨#[65, 66, 67, 68, 69, 70, 71, 72, 73, 74, 75, 76, 77, 78, 79, 80, 81, 82, 83, 84, 85, 86, 87, 88, 89, 90]⟩ 1223⟩, ⟨PyData.keyHash P ⟨#[97, 115, 99, 105, 105, 95, 108, 101, 116, 116, 101, 114, 115]⟩, .str ⟨#[97, 115, 99, 105, 105, 95, 108, 101, 116, 116, 101, 114, 115]⟩ 1226, .str ⟨#[97, 98, 99, 100, 101, 102, 103, 104, 105, 106, 107, 108, 109, 110, 111, 112, 113, 114, 115, 116, 117, 118, 119, 120, 121, 122, 65, 66, 67, 68, 69, 70, 71, 72, 73, 74, 75, 76, 77, 78, 79, 80, 81, 82, 83, 84, 85, 86, 87, 88, 89, 90]⟩ 1225⟩, ⟨PyData.keyHash P ⟨#[100, 105, 103, 105, 116, 115]⟩, .str ⟨#[100, 105, 103, 105, 116, 115]⟩ 1228, .str ⟨#[48, 49, 50, 51, 52, 53, 54, 55, 56, 57]⟩ 1227⟩, ⟨PyData.keyHash P ⟨#[99]⟩, .str ⟨#[99]⟩ 1239, .int 81 1587⟩]).toArray 19, #[]⟩) (⟨.type "list", none, .seq (mixL 49 lp12_r24 lp12_x24 lp12_y24).toArray 0, #[]⟩) (⟨.type "bytes_iterator", none, .fields ([.bytes #[32, 33, 34, 35, 36, 37, 38, 39, 40, 41, 42, 43, 44, 45, 46, 47, 48, 49, 50, 51, 52, 53, 54, 55, 56, 57, 58, 59, 60, 62, 63, 64, 65, 66, 67, 68, 69, 70, 71, 72, 73, 74, 75, 76, 77, 78, 79, 80, 81, 82, 83, 84, 85, 86, 87, 88, 89, 90, 91, 92, 93, 94, 95, 96, 97, 98, 99, 100, 101, 102, 103, 104, 105, 106, 107, 108, 109, 110, 111, 112, 113, 114, 115, 116, 117, 118, 119, 120, 121, 122, 123, 124, 125, 126, 9] 1442, .int 49 0]).toArray, #[]⟩), 29, life0, Array.mk [], boot_drawn, 1590, os⟩
theorem lp12_go41 (w : World) (os : OsState) : PySem.W.Fast.tw10295753902157049106 PySem.W.Fast.tw14364793385576792824 PR w 11 ann0 1 360 (lp12_s41 w os) lp12_T = some (lp12_s49 w os, lp12_T) := by kernel_rfl
noncomputable def lp12_s57 (w : World) (os : OsState) : SharedT := let P := w.params; ⟨tr_lp12 P (⟨.type "dict", none, .dict ([⟨PyData.keyHash P ⟨#[95, 95, 110, 97, 109, 101, 95, 95]⟩, .str ⟨#[95, 95, 110, 97, 109, 101, 95, 95]⟩ 165, .str ⟨#[99, 112, 121, 51, 49, 51, 46, 101, 109, 97, 105, 108, 46, 113, 117, 111, 112, 114, 105, 109, 105, 109, 101]⟩ 1229⟩, ⟨PyData.keyHash P ⟨#[95, 95, 100, 111, 99, 95, 95]⟩, .str ⟨#[95, 95, 100, 111, 99, 95, 95]⟩ 166, .none⟩, ⟨PyData.keyHash P ⟨#[95, 95, 112, 97, 99, 107, 97, 103, 101, 95, 95]⟩, .str ⟨#[95, 95, 112, 97, 99, 107, 97, 103, 101, 95, 95]⟩ 167, .none⟩, ⟨PyData.keyHash P ⟨#[95, 95, 108, 111, 97, 100, 101, 114, 95, 95]⟩, .str ⟨#[95, 95, 108, 111, 97, 100, 101, 114, 95, 95]⟩ 168, .builtin "__main__.__loader__#opaque"⟩, ⟨PyData.keyHash P ⟨#[95, 95, 115, 112, 101, 99, 95, 95]⟩, .str ⟨#[95, 95, 115, 112, 101, 99, 95, 95]⟩ 169, .none⟩, ⟨PyData.keyHash P ⟨#[95, 95, 97, 110, 110, 111, 116, 97, 116, 105, 111, 110, 115, 95, 95]⟩, .str ⟨#[95, 95, 97, 110, 110, 111, 116, 97, 116, 105, 111, 110, 115, 95, 95]⟩ 170, .ref 6⟩, ⟨PyData.keyHash P ⟨#[95, 95, 98, 117, 105, 108, 116, 105, 110, 115, 95, 95]⟩, .str ⟨#[95, 95, 98, 117, 105, 108, 116, 105, 110, 115, 95, 95]⟩ 171, .ref 4⟩, ⟨PyData.keyHash P ⟨#[95, 95, 102, 105, 108, 101, 95, 95]⟩, .str ⟨#[95, 95, 102, 105, 108, 101, 95, 95]⟩ 173, .str ⟨#[47, 99, 108, 97, 105, 109, 47, 99, 117, 116, 46, 112, 121]⟩ 172⟩, ⟨PyData.keyHash P ⟨#[95, 95, 99, 97, 99, 104, 101, 100, 95, 95]⟩, .str ⟨#[95, 95, 99, 97, 99, 104, 101, 100, 95, 95]⟩ 174, .none⟩, ⟨PyData.keyHash P ⟨#[67, 82, 76, 70]⟩, .str ⟨#[67, 82, 76, 70]⟩ 188, .str ⟨#[13, 10]⟩ 187⟩, ⟨PyData.keyHash P ⟨#[78, 76]⟩, .str ⟨#[78, 76]⟩ 190, .str ⟨#[10]⟩ 189⟩, ⟨PyData.keyHash P ⟨#[95, 81, 85, 79, 80, 82, 73, 95, 77, 65, 80]⟩, .str ⟨#[95, 81, 85, 79, 80, 82, 73, 95, 77, 65, 80]⟩ 1218, .ref 17⟩, ⟨PyData.keyHash P ⟨#[95, 81, 85, 79, 80, 82, 73, 95, 72, 69, 65, 68, 69, 82, 95, 77, 65, 80]⟩, .str ⟨#[95, 81, 85, 79, 80, 82, 73, 95, 72, 69, 65, 68, 69, 82, 95, 77, 65, 80]⟩ 1219, .ref 22⟩, ⟨PyData.keyHash P ⟨#[95, 81, 85, 79, 80, 82, 73, 95, 66, 79, 68, 89, 95, 77, 65, 80]⟩, .str ⟨#[95, 81, 85, 79, 80, 82, 73, 95, 66, 79, 68, 89, 95, 77, 65, 80]⟩ 1220, .ref 24⟩, ⟨PyData.keyHash P ⟨#[97, 115, 99, 105, 105, 95, 108, 111, 119, 101, 114, 99, 97, 115, 101]⟩, .str ⟨#[97, 115, 99, 105, 105, 95, 108, 111, 119, 101, 114, 99, 97, 115, 101]⟩ 1222, .str ⟨#[97, 98, 99, 100, 101, 102, 103, 104, 105, 106, 107, 108, 109, 110, 111, 112, 113, 114, 115, 116, 117, 118, 119, 120, 121, 122]⟩ 1221⟩, ⟨PyData.keyHash P ⟨#[97, 115, 99, 105, 105, 95, 117, 112, 112, 101, 114, 99, 97, 115, 101]⟩, .str ⟨#[97, 115, 99, 105, 105, 95, 117, 112, 112, 101, 114, 99, 97, 115, 101]⟩ 1224, .str ⟨#[65, 66, 67, 68, 69, 70, 71, 72, 73, 74, 75, 76, 77, 78, 79, 80, 81, 82, 83, 84, 85, 86, 87, 88, 89, 90]⟩ 1223⟩, ⟨PyData.keyHash P ⟨#[97, 115, 99, 105, 105, 95, 108, 101, 116, 116, 101, 114, 115]⟩, .str ⟨#[97, 115, 99, 105, 105, 95, 108, 101, 116, 116, 101, 114, 115]⟩ 1226, .str ⟨#[97, 98, 99, 100, 101, 102, 103, 104, 105, 106, 107, 108, 109, 110, 111, 112, 113, 114, 115, 116, 117, 118, 119, 120, 121, 122, 65, 66, 67, 68, 69, 70, 71, 72, 73, 74, 75, 76, 77, 78, 79, 80, 81, 82, 83, 84, 85, 86, 87, 88, 89, 90]⟩ 1225⟩, ⟨PyData.keyHash P ⟨#[100, 105, 103, 105, 116, 115]⟩, .str ⟨#[100, 105, 103, 105, 116, 115]⟩ 1228, .str ⟨#[48, 49, 50, 51, 52, 53, 54, 55, 56, 57]⟩ 1227⟩, ⟨PyData.keyHash P ⟨#[99]⟩, .str ⟨#[99]⟩ 1239, .int 89 1611⟩]).toArray 19, #[]⟩) (⟨.type "list", none, .seq (mixL 57 lp12_r24 lp12_x24 lp12_y24).toArray 0, #[]⟩) (⟨.type "bytes_iterator", none, .fields ([.bytes #[32, 33, 34, 35, 36, 37, 38, 39, 40, 41, 42, 43, 44, 45, 46, 47, 48, 49, 50, 51, 52, 53, 54, 55, 56, 57, 58, 59, 60, 62, 63, 64, 65, 66, 67, 68, 69, 70, 71, 72, 73, 74, 75, 76, 77, 78, 79, 80, 81, 82, 83, 84, 85, 86, 87, 88, 89, 90, 91, 92, 93, 94, 95, 96, 97, 98, 99, 100, 101, 102, 103, 104, 105, 106, 107, 108, 109, 110, 111, 112, 113, 114, 115, 116, 117, 118, 119, 120, 121, 122, 123, 124, 125, 126, 9] 1442, .int 57 0]).toArray, #[]⟩), 29, life0, Array.mk [], boot_drawn, 1614, os⟩
theorem lp12_go49 (w : World) (os : OsState) : PySem.W.Fast.tw10295753902157049106 PySem.W.Fast.tw14364793385576792824 PR w 11 ann0 1 360 (lp12_s49 w os) lp12_T = some (lp12_s57 w os, lp12_T) := by kernel_rfl
noncomputable def lp12_s65 (w : World) (os : OsState) : SharedT := let P := w.params; ⟨tr_lp12 P (⟨.type "dict", none, .dict ([⟨PyData.keyHash P ⟨#[95, 95, 110, 97, 109, 101, 95, 95]⟩, .str ⟨#[95, 95, 110, 97, 109, 101, 95, 95]⟩ 165, .str ⟨#[99, 112, 121, 51, 49, 51, 46, 101, 109, 97, 105, 108, 46, 113, 117, 111, 112, 114, 105, 109, 105, 109, 101]⟩ 1229⟩, ⟨PyData.keyHash P ⟨#[95, 95, 100, 111, 99, 95, 95]⟩, .str ⟨#[95, 95, 100, 111, 99, 95, 95]⟩ 166, .none⟩, ⟨PyData.keyHash P ⟨#[95, 95, 112, 97, 99, 107, 97, 103, 101, 95, 95]⟩, .str ⟨#[95, 95, 112, 97, 99, 107, 97, 103, 101, 95, 95]⟩ 167, .none⟩, ⟨PyData.keyHash P ⟨#[95, 95, 108, 111, 97, 100, 101, 114, 95, 95]⟩, .str ⟨#[95, 95, 108, 111, 97, 100, 101, 114, 95, 95]⟩ 168, .builtin "__main__.__loader__#opaque"⟩, ⟨PyData.keyHash P ⟨#[95, 95, 115, 112, 101, 99, 95, 95]⟩, .str ⟨#[95, 95, 115, 112, 101, 99, 95, 95]⟩ 169, .none⟩, ⟨PyData.keyHash P ⟨#[95, 95, 97, 110, 110, 111, 116, 97, 116, 105, 111, 110, 115, 95, 95]⟩, .str ⟨#[95, 95, 97, 110, 110, 111, 116, 97, 116, 105, 111, 110, 115, 95, 95]⟩ 170, .ref 6⟩, ⟨PyData.keyHash P ⟨#[95, 95, 98, 117, 105, 108, 116, 105, 110, 115, 95, 95]⟩, .str ⟨#[95, 95, 98, 117, 105, 108, 116, 105, 110, 115, 95, 95]⟩ 171, .ref 4⟩, ⟨PyData.keyHash P ⟨#[95, 95, 102, 105, 108, 101, 95, 95]⟩, .str ⟨#[95, 95, 102, 105, 108, 101, 95, 95]⟩ 173, .str ⟨#[47, 99, 108, 97, 105, 109, 47, 99, 117, 116, 46, 112, 121]⟩ 172⟩, ⟨PyData.keyHash P ⟨#[95, 95, 99, 97, 99, 104, 101, 100, 95, 95]⟩, .str ⟨#[95, 95, 99, 97, 99, 104, 101, 100, 95, 95]⟩ 174, .none⟩, ⟨PyData.keyHash P ⟨#[67, 82, 76, 70]⟩, .str ⟨#[67, 82, 76, 70]⟩ 188, .str ⟨#[13, 10]⟩ 187⟩, ⟨PyData.keyHash P ⟨#[78, 76]⟩, .str ⟨#[78, 76]⟩ 190, .str ⟨#[10]⟩ 189⟩, ⟨PyData.keyHash P ⟨#[95, 81, 85, 79, 80, 82, 73, 95, 77, 65, 80]⟩, .str ⟨#[95, 81, 85, 79, 80, 82, 73, 95, 77, 65, 80]⟩ 1218, .ref 17⟩, ⟨PyData.keyHash P ⟨#[95, 81, 85, 79, 80, 82, 73, 95, 72, 69, 65, 68, 69, 82, 95, 77, 65, 80]⟩, .str ⟨#[95, 81, 85, 79, 80, 82, 73, 95, 72, 69, 65, 68, 69, 82, 95, 77, 65, 80]⟩ 1219, .ref 22⟩, ⟨PyData.keyHash P ⟨#[95, 81, 85, 79, 80, 82, 73, 95, 66, 79, 68, 89, 95, 77, 65, 80]⟩, .str ⟨#[95, 81, 85, 79, 80, 82, 73, 95, 66, 79, 68, 89, 95, 77, 65, 80]⟩ 1220, .ref 24⟩, ⟨PyData.keyHash P ⟨#[97, 115, 99, 105, 105, 95, 108, 111, 119, 101, 114, 99, 97, 115, 101]⟩, .str ⟨#[97, 115, 99, 105, 105, 95, 108, 111, 119, 101, 114, 99, 97, 115, 101]⟩ 1222, .str ⟨#[97, 98, 99, 100, 101, 102, 103, 104, 105, 106, 107, 108, 109, 110, 111, 112, 113, 114, 115, 116, 117, 118, 119, 120, 121, 122]⟩ 1221⟩, ⟨PyData.keyHash P ⟨#[97, 115, 99, 105, 105, 95, 117, 112, 112, 101, 114, 99, 97, 115, 101]⟩, .str ⟨#[97, 115, 99, 105, 105, 95, 117, 112, 112, 101, 114, 99, 97, 115, 101]⟩ 1224, .str ⟨#[65, 66, 67, 68, 69, 70, 71, 72, 73, 74, 75, 76, 77, 78, 79, 80, 81, 82, 83, 84, 85, 86, 87, 88, 89, 90]⟩ 1223⟩, ⟨PyData.keyHash P ⟨#[97, 115, 99, 105, 105, 95, 108, 101, 116, 116, 101, 114, 115]⟩, .str ⟨#[97, 115, 99, 105, 105, 95, 108, 101, 116, 116, 101, 114, 115]⟩ 1226, .str ⟨#[97, 98, 99, 100, 101, 102, 103, 104, 105, 106, 107, 108, 109, 110, 111, 112, 113, 114, 115, 116, 117, 118, 119, 120, 121, 122, 65, 66, 67, 68, 69, 70, 71, 72, 73, 74, 75, 76, 77, 78, 79, 80, 81, 82, 83, 84, 85, 86, 87, 88, 89, 90]⟩ 1225⟩, ⟨PyData.keyHash P ⟨#[100, 105, 103, 105, 116, 115]⟩, .str ⟨#[100, 105, 103, 105, 116, 115]⟩ 1228, .str ⟨#[48, 49, 50, 51, 52, 53, 54, 55, 56, 57]⟩ 1227⟩, ⟨PyData.keyHash P ⟨#[99]⟩, .str ⟨#[99]⟩ 1239, .int 97 1635⟩]).toArray 19, #[]⟩) (⟨.type "list", none, .seq (mixL 65 lp12_r24 lp12_x24 lp12_y24).toArray 0, #[]⟩) (⟨.type "bytes_iterator", none, .fields ([.bytes #[32, 33, 34, 35, 36, 37, 38, 39, 40, 41, 42, 43, 44, 45, 46, 47, 48, 49, 50, 51, 52, 53, 54, 55, 56, 57, 58, 59, 60, 62, 63, 64, 65, 66, 67, 68, 69, 70, 71, 72, 73, 74, 75, 76, 77, 78, 79, 80, 81, 82, 83, 84, 85, 86, 87, 88, 89, 90, 91, 92, 93, 94, 95, 96, 97, 98, 99, 100, 101, 102, 103, 104, 105, 106, 107, 108, 109, 110, 111, 112, 113, 114, 115, 116, 117, 118, 119, 120, 121, 122, 123, 124, 125, 126, 9] 1442, .int 65 0]).toArray, #[]⟩), 29, life0, Array.mk [], boot_drawn, 1638, os⟩
theorem lp12_go57 (w : World) (os : OsState) : PySem.W.Fast.tw10295753902157049106 PySem.W.Fast.tw14364793385576792824 PR w 11 ann0 1 360 (lp12_s57 w os) lp12_T = some (lp12_s65 w os, lp12_T) := by kernel_rfl
noncomputable def lp12_s73 (w : World) (os : OsState) : SharedT := let P := w.params; ⟨tr_lp12 P (⟨.type "dict", none, .dict ([⟨PyData.keyHash P ⟨#[95, 95, 110, 97, 109, 101, 95, 95]⟩, .str ⟨#[95, 95, 110, 97, 109, 101, 95, 95]⟩ 165, .str ⟨#[99, 112, 121, 51, 49, 51, 46, 101, 109, 97, 105, 108, 46, 113, 117, 111, 112, 114, 105, 109, 105, 109, 101]⟩ 1229⟩, ⟨PyData.keyHash P ⟨#[95, 95, 100, 111, 99, 95, 95]⟩, .str ⟨#[95, 95, 100, 111, 99, 95, 95]⟩ 166, .none⟩, ⟨PyData.keyHash P ⟨#[95, 95, 112, 97, 99, 107, 97, 103, 101, 95, 95]⟩, .str ⟨#[95, 95, 112, 97, 99, 107, 97, 103, 101, 95, 95]⟩ 167, .none⟩, ⟨PyData.keyHash P ⟨#[95, 95, 108, 111, 97, 100, 101, 114, 95, 95]⟩, .str ⟨#[95, 95, 108, 111, 97, 100, 101, 114, 95, 95]⟩ 168, .builtin "__main__.__loader__#opaque"⟩, ⟨PyData.keyHash P ⟨#[95, 95, 115, 112, 101, 99, 95, 95]⟩, .str ⟨#[95, 95, 115, 112, 101, 99, 95, 95]⟩ 169, .none⟩, ⟨PyData.keyHash P ⟨#[95, 95, 97, 110, 110, 111, 116, 97, 116, 105, 111, 110, 115, 95, 95]⟩, .str ⟨#[95, 95, 97, 110, 110, 111, 116, 97, 116, 105, 111, 110, 115, 95, 95]⟩ 170, .ref 6⟩, ⟨PyData.keyHash P ⟨#[95, 95, 98, 117, 105, 108, 116, 105, 110, 115, 95, 95]⟩, .str ⟨#[95, 95, 98, 117, 105, 108, 116, 105, 110, 115, 95, 95]⟩ 171, .ref 4⟩, ⟨PyData.keyHash P ⟨#[95, 95, 102, 105, 108, 101, 95, 95]⟩, .str ⟨#[95, 95, 102, 105, 108, 101, 95, 95]⟩ 173, .str ⟨#[47, 99, 108, 97, 105, 109, 47, 99, 117, 116, 46, 112, 121]⟩ 172⟩, ⟨PyData.keyHash P ⟨#[95, 95, 99, 97, 99, 104, 101, 100, 95, 95]⟩, .str ⟨#[95, 95, 99, 97, 99, 104, 101, 100, 95, 95]⟩ 174, .none⟩, ⟨PyData.keyHash P ⟨#[67, 82, 76, 70]⟩, .str ⟨#[67, 82, 76, 70]⟩ 188, .str ⟨#[13, 10]⟩ 187⟩, ⟨PyData.keyHash P ⟨#[78, 76]⟩, .str ⟨#[78, 76]⟩ 190, .str ⟨#[10]⟩ 189⟩, ⟨PyData.keyHash P ⟨#[95, 81, 85, 79, 80, 82, 73, 95, 77, 65, 80]⟩, .str ⟨#[95, 81, 85, 79, 80, 82, 73, 95, 77, 65, 80]⟩ 1218, .ref 17⟩, ⟨PyData.keyHash P ⟨#[95, 81, 85, 79, 80, 82, 73, 95, 72, 69, 65, 68, 69, 82, 95, 77, 65, 80]⟩, .str ⟨#[95, 81, 85, 79, 80, 82, 73, 95, 72, 69, 65, 68, 69, 82, 95, 77, 65, 80]⟩ 1219, .ref 22⟩, ⟨PyData.keyHash P ⟨#[95, 81, 85, 79, 80, 82, 73, 95, 66, 79, 68, 89, 95, 77, 65, 80]⟩, .str ⟨#[95, 81, 85, 79, 80, 82, 73, 95, 66, 79, 68, 89, 95, 77, 65, 80]⟩ 1220, .ref 24⟩, ⟨PyData.keyHash P ⟨#[97, 115, 99, 105, 105, 95, 108, 111, 119, 101, 114, 99, 97, 115, 101]⟩, .str ⟨#[97, 115, 99, 105, 105, 95, 108, 111, 119, 101, 114, 99, 97, 115, 101]⟩ 1222, .str ⟨#[97, 98, 99, 100, 101, 102, 103, 104, 105, 106, 107, 108, 109, 110, 111, 112, 113, 114, 115, 116, 117, 118, 119, 120, 121, 122]⟩ 1221⟩, ⟨PyData.keyHash P ⟨#[97, 115, 99, 105, 105, 95, 117, 112, 112, 101, 114, 99, 97, 115, 101]⟩, .str ⟨#[97, 115, 99, 105, 105, 95, 117, 112, 112, 101, 114, 99, 97, 115, 101]⟩ 1224, .str ⟨#[65, 66, 67, 68, 69, 70, 71, 72, 73, 74, 75, 76, 77, 78, 79, 80, 81, 82, 83, 84, 85, 86, 87, 88, 89, 90]⟩ 1223⟩, ⟨PyData.keyHash P ⟨#[97, 115, 99, 105, 105, 95, 108, 101, 116, 116, 101, 114, 115]⟩, .str ⟨#[97, 115, 99, 105, 105, 95, 108, 101, 116, 116, 101, 114, 115]⟩ 1226, .str ⟨#[97, 98, 99, 100, 101, 102, 103, 104, 105, 106, 107, 108, 109, 110, 111, 112, 113, 114, 115, 116, 117, 118, 119, 120, 121, 122, 65, 66, 67, 68, 69, 70, 71, 72, 73, 74, 75, 76, 77, 78, 79, 80, 81, 82, 83, 84, 85, 86, 87, 88, 89, 90]⟩ 1225⟩, ⟨PyData.keyHash P ⟨#[100, 105, 103, 105, 116, 115]⟩, .str ⟨#[100, 105, 103, 105, 116, 115]⟩ 1228, .str ⟨#[48, 49, 50, 51, 52, 53, 54, 55, 56, 57]⟩ 1227⟩, ⟨PyData.keyHash P ⟨#[99]⟩, .str ⟨#[99]⟩ 1239, .int 105 1659⟩]).toArray 19, #[]⟩) (⟨.type "list", none, .seq (mixL 73 lp12_r24 lp12_x24 lp12_y24).toArray 0, #[]⟩) (⟨.type "bytes_iterator", none, .fields ([.bytes #[32, 33, 34, 35, 36, 37, 38, 39, 40, 41, 42, 43, 44, 45, 46, 47, 48, 49, 50, 51, 52, 53, 54, 55, 56, 57, 58, 59, 60, 62, 63, 64, 65, 66, 67, 68, 69, 70, 71, 72, 73, 74, 75, 76, 77, 78, 79, 80, 81, 82, 83, 84, 85, 86, 87, 88, 89, 90, 91, 92, 93, 94, 95, 96, 97, 98, 99, 100, 101, 102, 103, 104, 105, 106, 107, 108, 109, 110, 111, 112, 113, 114, 115, 116, 117, 118, 119, 120, 121, 122, 123, 124, 125, 126, 9] 1442, .int 73 0]).toArray, #[]⟩), 29, life0, Array.mk [], boot_drawn, 1662, os⟩
theorem lp12_go65 (w : World) (os : OsState) : PySem.W.Fast.tw10295753902157049106 PySem.W.Fast.tw14364793385576792824 PR w 11 ann0 1 360 (lp12_s65 w os) lp12_T = some (lp12_s73 w os, lp12_T) := by kernel_rfl
noncomputable def lp12_s81 (w : World) (os : OsState) : SharedT := let P := w.params; ⟨tr_lp12 P (⟨.type "dict", none, .dict ([⟨PyData.keyHash P ⟨#[95, 95, 110, 97, 109, 101, 95, 95]⟩, .str ⟨#[95, 95, 110, 97, 109, 101, 95, 95]⟩ 165, .str ⟨#[99, 112, 121, 51, 49, 51, 46, 101, 109, 97, 105, 108, 46, 113, 117, 111, 112, 114, 105, 109, 105, 109, 101]⟩ 1229⟩, ⟨PyData.keyHash P ⟨#[95, 95, 100, 111, 99, 95, 95]⟩, .str ⟨#[95, 95, 100, 111, 99, 95, 95]⟩ 166, .none⟩, ⟨PyData.keyHash P ⟨#[95, 95, 112, 97, 99, 107, 97, 103, 101, 95, 95]⟩, .str ⟨#[95, 95, 112, 97, 99, 107, 97, 103, 101, 95, 95]⟩ 167, .none⟩, ⟨PyData.keyHash P ⟨#[95, 95, 108, 111, 97, 100, 101, 114, 95, 95]⟩, .str ⟨#[95, 95, 108, 111, 97, 100, 101, 114, 95, 95]⟩ 168, .builtin "__main__.__loader__#opaque"⟩, ⟨PyData.keyHash P ⟨#[95, 95, 115, 112, 101, 99, 95, 95]⟩, .str ⟨#[95, 95, 115, 112, 101, 99, 95, 95]⟩ 169, .none⟩, ⟨PyData.keyHash P ⟨#[95, 95, 97, 110, 110, 111, 116, 97, 116, 105, 111, 110, 115, 95, 95]⟩, .str ⟨#[95, 95, 97, 110, 110, 111, 116, 97, 116, 105, 111, 110, 115, 95, 95]⟩ 170, .ref 6⟩, ⟨PyData.keyHash P ⟨#[95, 95, 98, 117, 105, 108, 116, 105, 110, 115, 95, 95]⟩, .str ⟨#[95, 95, 98, 117, 105, 108, 116, 105, 110, 115, 95, 95]⟩ 171, .ref 4⟩, ⟨PyData.keyHash P ⟨#[95, 95, 102, 105, 108, 101, 95, 95]⟩, .str ⟨#[95, 95, 102, 105, 108, 101, 95, 95]⟩ 173, .str ⟨#[47, 99, 108, 97, 105, 109, 47, 99, 117, 116, 46, 112, 121]⟩ 172⟩, ⟨PyData.keyHash P ⟨#[95, 95, 99, 97, 99, 104, 101, 100, 95, 95]⟩, .str ⟨#[95, 95, 99, 97, 99, 104, 101, 100, 95, 95]⟩ 174, .none⟩, ⟨PyData.keyHash P ⟨#[67, 82, 76, 70]⟩, .str ⟨#[67, 82, 76, 70]⟩ 188, .str ⟨#[13, 10]⟩ 187⟩, ⟨PyData.keyHash P ⟨#[78, 76]⟩, .str ⟨#[78, 76]⟩ 190, .str ⟨#[10]⟩ 189⟩, ⟨PyData.keyHash P ⟨#[95, 81, 85, 79, 80, 82, 73, 95, 77, 65, 80]⟩, .str ⟨#[95, 81, 85, 79, 80, 82, 73, 95, 77, 65, 80]⟩ 1218, .ref 17⟩, ⟨PyData.keyHash P ⟨#[95, 81, 85, 79, 80, 82, 73, 95, 72, 69, 65, 68, 69, 82, 95, 77, 65, 80]⟩, .str ⟨#[95, 81, 85, 79, 80, 82, 73, 95, 72, 69, 65, 68, 69, 82, 95, 77, 65, 80]⟩ 1219, .ref 22⟩, ⟨PyData.keyHash P ⟨#[95, 81, 85, 79, 80, 82, 73, 95, 66, 79, 68, 89, 95, 77, 65, 80]⟩, .str ⟨#[95, 81, 85, 79, 80, 82, 73, 95, 66, 79, 68, 89, 95, 77, 65, 80]⟩ 1220, .ref 24⟩, ⟨PyData.keyHash P ⟨#[97, 115, 99, 105, 105, 95, 108, 111, 119, 101, 114, 99, 97, 115, 101]⟩, .str ⟨#[97, 115, 99, 105, 105, 95, 108, 111, 119, 101, 114, 99, 97, 115, 101]⟩ 1222, .str ⟨#[97, 98, 99, 100, 101, 102, 103, 104, 105, 106, 107, 108, 109, 110, 111, 112, 113, 114, 115, 116, 117, 118, 119, 120, 121, 122]⟩ 1221⟩, ⟨PyData.keyHash P ⟨#[97, 115, 99, 105, 105, 95, 117, 112, 112, 101, 114, 99, 97, 115, 101]⟩, .str ⟨#[97, 115, 99, 105, 105, 95, 117, 112, 112, 101, 114, 99, 97, 115, 101]⟩ 1224, .str ⟨#[65, 66, 67, 68, 69, 70, 71, 72, 73, 74, 75, 76, 77, 78, 79, 80, 81, 82, 83, 84, 85, 86, 87, 88, 89, 90]⟩ 1223⟩, ⟨PyData.keyHash P ⟨#[97, 115, 99, 105, 105, 95, 108, 101, 116, 116, 101, 114, 115]⟩, .str ⟨#[97, 115, 99, 105, 105, 95, 108, 101, 116, 116, 101, 114, 115]⟩ 1226, .str ⟨#[97, 98, 99, 100, 101, 102, 103, 104, 105, 106, 107, 108, 109, 110, 111, 112, 113, 114, 115, 116, 117, 118, 119, 120, 121, 122, 65, 66, 67, 68, 69, 70, 71, 72, 73, 74, 75, 76, 77, 78, 79, 80, 81, 82, 83, 84, 85, 86, 87, 88, 89, 90]⟩ 1225⟩, ⟨PyData.keyHash P ⟨#[100, 105, 103, 105, 116, 115]⟩, .str ⟨#[100, 105, 103, 105, 116, 115]⟩ 1228, .str ⟨#[48, 49, 50, 51, 52, 53, 54, 55, 56, 57]⟩ 1227⟩, ⟨PyData.keyHash P ⟨#[99]⟩, .str ⟨#[99]⟩ 1239, .int 113 1683⟩]).toArray 19, #[]⟩) (⟨.type "list", none, .seq (mixL 81 lp12_r24 lp12_x24 lp12_y24).toArray 0, #[]⟩) (⟨.type "bytes_iterator", none, .fields ([.bytes #[32, 33, 34, 35, 36, 37, 38, 39, 40, 41, 42, 43, 44, 45, 46, 47, 48, 49, 50, 51, 52, 53, 54, 55, 56, 57, 58, 59, 60, 62, 63, 64, 65, 66, 67, 68, 69, 70, 71, 72, 73, 74, 75, 76, 77, 78, 79, 80, 81, 82, 83, 84, 85, 86, 87, 88, 89, 90, 91, 92, 93, 94, 95, 96, 97, 98, 99, 100, 101, 102, 103, 104, 105, 106, 107, 108, 109, 110, 111, 112, 113, 114, 115, 116, 117, 118, 119, 120, 121, 122, 123, 124, 125, 126, 9] 1442, .int 81 0]).toArray, #[]⟩), 29, life0, Array.mk [], boot_drawn, 1686, os⟩
theorem lp12_go73 (w : World) (os : OsState) : PySem.W.Fast.tw10295753902157049106 PySem.W.Fast.tw14364793385576792824 PR w 11 ann0 1 360 (lp12_s73 w os) lp12_T = some (lp12_s81 w os, lp12_T) := by kernel_rfl
noncomputable def lp12_s89 (w : World) (os : OsState) : SharedT := let P := w.params; ⟨tr_lp12 P (⟨.type "dict", none, .dict ([⟨PyData.keyHash P ⟨#[95, 95, 110, 97, 109, 101, 95, 95]⟩, .str ⟨#[95, 95, 110, 97, 109, 101, 95, 95]⟩ 165, .str ⟨#[99, 112, 121, 51, 49, 51, 46, 101, 109, 97, 105, 108, 46, 113, 117, 111, 112, 114, 105, 109, 105, 109, 101]⟩ 1229⟩, ⟨PyData.keyHash P ⟨#[95, 95, 100, 111, 99, 95, 95]⟩, .str ⟨#[95, 95, 100, 111, 99, 95, 95]⟩ 166, .none⟩, ⟨PyData.keyHash P ⟨#[95, 95, 112, 97, 99, 107, 97, 103, 101, 95, 95]⟩, .str ⟨#[95, 95, 112, 97, 99, 107, 97, 103, 101, 95, 95]⟩ 167, .none⟩, ⟨PyData.keyHash P ⟨#[95, 95, 108, 111, 97, 100, 101, 114, 95, 95]⟩, .str ⟨#[95, 95, 108, 111, 97, 100, 101, 114, 95, 95]⟩ 168, .builtin "__main__.__loader__#opaque"⟩, ⟨PyData.keyHash P ⟨#[95, 95, 115, 112, 101, 99, 95, 95]⟩, .str ⟨#[95, 95, 115, 112, 101, 99, 95, 95]⟩ 169, .none⟩, ⟨PyData.keyHash P ⟨#[95, 95, 97, 110, 110, 111, 116, 97, 116, 105, 111, 110, 115, 95, 95]⟩, .str ⟨#[95, 95, 97, 110, 110, 111, 116, 97, 116, 105, 111, 110, 115, 95, 95]⟩ 170, .ref 6⟩, ⟨PyData.keyHash P ⟨#[95, 95, 98, 117, 105, 108, 116, 105, 110, 115, 95, 95]⟩, .str ⟨#[95, 95, 98, 117, 105, 108, 116, 105, 110, 115, 95, 95]⟩ 171, .ref 4⟩, ⟨PyData.keyHash P ⟨#[95, 95, 102, 105, 108, 101, 95, 95]⟩, .str ⟨#[95, 95, 102, 105, 108, 101, 95, 95]⟩ 173, .str ⟨#[47, 99, 108, 97, 105, 109, 47, 99, 117, 116, 46, 112, 121]⟩ 172⟩, ⟨PyData.keyHash P ⟨#[95, 95, 99, 97, 99, 104, 101, 100, 95, 95]⟩, .str ⟨#[95, 95, 99, 97, 99, 104, 101, 100, 95, 95]⟩ 174, .none⟩, ⟨PyData.keyHash P ⟨#[67, 82, 76, 70]⟩, .str ⟨#[67, 82, 76, 70]⟩ 188, .str ⟨#[13, 10]⟩ 187⟩, ⟨PyData.keyHash P ⟨#[78, 76]⟩, .str ⟨#[78, 76]⟩ 190, .str ⟨#[10]⟩ 189⟩, ⟨PyData.keyHash P ⟨#[95, 81, 85, 79, 80, 82, 73, 95, 77, 65, 80]⟩, .str ⟨#[95, 81, 85, 79, 80, 82, 73, 95, 77, 65, 80]⟩ 1218, .ref 17⟩, ⟨PyData.keyHash P ⟨#[95, 81, 85, 79, 80, 82, 73, 95, 72, 69, 65, 68, 69, 82, 95, 77, 65, 80]⟩, .str ⟨#[95, 81, 85, 79, 80, 82, 73, 95, 72, 69, 65, 68, 69, 82, 95, 77, 65, 80]⟩ 1219, .ref 22⟩, ⟨PyData.keyHash P ⟨#[95, 81, 85, 79, 80, 82, 73, 95, 66, 79, 68, 89, 95, 77, 65, 80]⟩, .str ⟨#[95, 81, 85, 79, 80, 82, 73, 95, 66, 79, 68, 89, 95, 77, 65, 80]⟩ 1220, .ref 24⟩, ⟨PyData.keyHash P ⟨#[97, 115, 99, 105, 105, 95, 108, 111, 119, 101, 114, 99, 97, 115, 101]⟩, .str ⟨#[97, 115, 99, 105, 105, 95, 108, 111, 119, 101, 114, 99, 97, 115, 101]⟩ 1222, .str ⟨#[97, 98, 99, 100, 101, 102, 103, 104, 105, 106, 107, 108, 109, 110, 111, 112, 113, 114, 115, 116, 117, 118, 119, 120, 121, 122]⟩ 1221⟩, ⟨PyData.keyHash P ⟨#[97, 115, 99, 105, 105, 95, 117, 112, 112, 101, 114, 99, 97, 115, 101]⟩, .str ⟨#[97, 115, 99, 105, 105, 95, 117, 112, 112, 101, 114, 99, 97, 115, 101]⟩ 1224, .str ⟨#[65, 66, 67, 68, 69, 70, 71, 72, 73, 74, 75, 76, 77, 78, 79, 80, 81, 82, 83, 84, 85, 86, 87, 88, 89, 90]⟩ 1223⟩, ⟨PyData.keyHash P ⟨#[97, 115, 99, 105, 105, 95, 108, 101, 116, 116, 101, 114, 115]⟩, .str ⟨#[97, 115, 99, 105, 105, 95, 108, 101, 116, 116, 101, 114, 115]⟩ 1226, .str ⟨#[97, 98, 99, 100, 101, 102, 103, 104, 105, 106, 107, 108, 109, 110, 111, 112, 113, 114, 115, 116, 117, 118, 119, 120, 121, 122, 65, 66, 67, 68, 69, 70, 71, 72, 73, 74, 75, 76, 77, 78, 79, 80, 81, 82, 83, 84, 85, 86, 87, 88, 89, 90]⟩ 1225⟩, ⟨PyData.keyHash P ⟨#[100, 105, 103, 105, 116, 115]⟩, .str ⟨#[100, 105, 103, 105, 116, 115]⟩ 1228, .str ⟨#[48, 49, 50, 51, 52, 53, 54, 55, 56, 57]⟩ 1227⟩, ⟨PyData.keyHash P ⟨#[99]⟩, .str ⟨#[99]⟩ 1239, .int 121 1707⟩]).toArray 19, #[]⟩) (⟨.type "list", none, .seq (mixL 89 lp12_r24 lp12_x24 lp12_y24).toArray 0, #[]⟩) (⟨.type "bytes_iterator", none, .fields ([.bytes #[32, 33, 34, 35, 36, 37, 38, 39, 40, 41, 42, 43, 44, 45, 46, 47, 48, 49, 50, 51, 52, 53, 54, 55, 56, 57, 58, 59, 60, 62, 63, 64, 65, 66, 67, 68, 69, 70, 71, 72, 73, 74, 75, 76, 77, 78, 79, 80, 81, 82, 83, 84, 85, 86, 87, 88, 89, 90, 91, 92, 93, 94, 95, 96, 97, 98, 99, 100, 101, 102, 103, 104, 105, 106, 107, 108, 109, 110, 111, 112, 113, 114, 115, 116, 117, 118, 119, 120, 121, 122, 123, 124, 125, 126, 9] 1442, .int 89 0]).toArray, #[]⟩), 29, life0, Array.mk [], boot_drawn, 1710, os⟩
theorem lp12_go81 (w : World) (os : OsState) : PySem.W.Fast.tw10295753902157049106 PySem.W.Fast.tw14364793385576792824 PR w 11 ann0 1 360 (lp12_s81 w os) lp12_T = some (lp12_s89 w os, lp12_T) := by kernel_rfl
noncomputable def lp12_s95 (w : World) (os : OsState) : SharedT := let P := w.params; ⟨tr_lp12 P (⟨.type "dict", none, .dict ([⟨PyData.keyHash P ⟨#[95, 95, 110, 97, 109, 101, 95, 95]⟩, .str ⟨#[95, 95, 110, 97, 109, 101, 95, 95]⟩ 165, .str ⟨#[99, 112, 121, 51, 49, 51, 46, 101, 109, 97, 105, 108, 46, 113, 117, 111, 112, 114, 105, 109, 105, 109, 101]⟩ 1229⟩, ⟨PyData.keyHash P ⟨#[95, 95, 100, 111, 99, 95, 95]⟩, .str ⟨#[95, 95, 100, 111, 99, 95, 95]⟩ 166, .none⟩, ⟨PyData.keyHash P ⟨#[95, 95, 112, 97, 99, 107, 97, 103, 101, 95, 95]⟩, .str ⟨#[95, 95, 112, 97, 99, 107, 97, 103, 101, 95, 95]⟩ 167, .none⟩, ⟨PyData.keyHash P ⟨#[95, 95, 108, 111, 97, 100, 101, 114, 95, 95]⟩, .str ⟨#[95, 95, 108, 111, 97, 100, 101, 114, 95, 95]⟩ 168, .builtin "__main__.__loader__#opaque"⟩, ⟨PyData.keyHash P ⟨#[95, 95, 115, 112, 101, 99, 95, 95]⟩, .str ⟨#[95, 95, 115, 112, 101, 99, 95, 95]⟩ 169, .none⟩, ⟨PyData.keyHash P ⟨#[95, 95, 97, 110, 110, 111, 116, 97, 116, 105, 111, 110, 115, 95, 95]⟩, .str ⟨#[95, 95, 97, 110, 110, 111, 116, 97, 116, 105, 111, 110, 115, 95, 95]⟩ 170, .ref 6⟩, ⟨PyData.keyHash P ⟨#[95, 95, 98, 117, 105, 108, 116, 105, 110, 115, 95, 95]⟩, .str ⟨#[95, 95, 98, 117, 105, 108, 116, 105, 110, 115, 95, 95]⟩ 171, .ref 4⟩, ⟨PyData.keyHash P ⟨#[95, 95, 102, 105, 108, 101, 95, 95]⟩, .str ⟨#[95, 95, 102, 105, 108, 101, 95, 95]⟩ 173, .str ⟨#[47, 99, 108, 97, 105, 109, 47, 99, 117, 116, 46, 112, 121]⟩ 172⟩, ⟨PyData.keyHash P ⟨#[95, 95, 99, 97, 99, 104, 101, 100, 95, 95]⟩, .str ⟨#[95, 95, 99, 97, 99, 104, 101, 100, 95, 95]⟩ 174, .none⟩, ⟨PyData.keyHash P ⟨#[67, 82, 76, 70]⟩, .str ⟨#[67, 82, 76, 70]⟩ 188, .str ⟨#[13, 10]⟩ 187⟩, ⟨PyData.keyHash P ⟨#[78, 76]⟩, .str ⟨#[78, 76]⟩ 190, .str ⟨#[10]⟩ 189⟩, ⟨PyData.keyHash P ⟨#[95, 81, 85, 79, 80, 82, 73, 95, 77, 65, 80]⟩, .str ⟨#[95, 81, 85, 79, 80, 82, 73, 95, 77, 65, 80]⟩ 1218, .ref 17⟩, ⟨PyData.keyHash P ⟨#[95, 81, 85, 79, 80, 82, 73, 95, 72, 69, 65, 68, 69, 82, 95, 77, 65, 80]⟩, .str ⟨#[95, 81, 85, 79, 80, 82, 73, 95, 72, 69, 65, 68, 69, 82, 95, 77, 65, 80]⟩ 1219, .ref 22⟩, ⟨PyData.keyHash P ⟨#[95, 81, 85, 79, 80, 82, 73, 95, 66, 79, 68, 89, 95, 77, 65, 80]⟩, .str ⟨#[95, 81, 85, 79, 80, 82, 73, 95, 66, 79, 68, 89, 95, 77, 65, 80]⟩ 1220, .ref 24⟩, ⟨PyData.keyHash P ⟨#[97, 115, 99, 105, 105, 95, 108, 111, 119, 101, 114, 99, 97, 115, 101]⟩, .str ⟨#[97, 115, 99, 105, 105, 95, 108, 111, 119, 101, 114, 99, 97, 115, 101]⟩ 1222, .str ⟨#[97, 98, 99, 100, 101, 102, 103, 104, 105, 106, 107, 108, 109, 110, 111, 112, 113, 114, 115, 116, 117, 118, 119, 120, 121, 122]⟩ 1221⟩, ⟨PyData.keyHash P ⟨#[97, 115, 99, 105, 105, 95, 117, 112, 112, 101, 114, 99, 97, 115, 101]⟩, .str ⟨#[97, 115, 99, 105, 105, 95, 117, 112, 112, 101, 114, 99, 97, 115, 101]⟩ 1224, .str ⟨#[65, 66, 67, 68, 69, 70, 71, 72, 73, 74, 75, 76, 77, 78, 79, 80, 81, 82, 83, 84, 85, 86, 87, 88, 89, 90]⟩ 1223⟩, ⟨PyData.keyHash P ⟨#[97, 115, 99, 105, 105, 95, 108, 101, 116, 116, 101, 114, 115]⟩, .str ⟨#[97, 115, 99, 105, 105, 95, 108, 101, 116, 116, 101, 114, 115]⟩ 1226, .str ⟨#[97, 98, 99, 100, 101, 102, 103, 104, 105, 106, 107, 108, 109, 110, 111, 112, 113, 114, 115, 116, 117, 118, 119, 120, 121, 122, 65, 66, 67, 68, 69, 70, 71, 72, 73, 74, 75, 76, 77, 78, 79, 80, 81, 82, 83, 84, 85, 86, 87, 88, 89, 90]⟩ 1225⟩, ⟨PyData.keyHash P ⟨#[100, 105, 103, 105, 116, 115]⟩, .str ⟨#[100, 105, 103, 105, 116, 115]⟩ 1228, .str ⟨#[48, 49, 50, 51, 52, 53, 54, 55, 56, 57]⟩ 1227⟩, ⟨PyData.keyHash P ⟨#[99]⟩, .str ⟨#[99]⟩ 1239, .int 9 1725⟩]).toArray 19, #[]⟩) (⟨.type "list", none, .seq (mixL 95 lp12_r24 lp12_x24 lp12_y24).toArray 0, #[]⟩) (⟨.type "bytes_iterator", none, .fields ([.bytes #[32, 33, 34, 35, 36, 37, 38, 39, 40, 41, 42, 43, 44, 45, 46, 47, 48, 49, 50, 51, 52, 53, 54, 55, 56, 57, 58, 59, 60, 62, 63, 64, 65, 66, 67, 68, 69, 70, 71, 72, 73, 74, 75, 76, 77, 78, 79, 80, 81, 82, 83, 84, 85, 86, 87, 88, 89, 90, 91, 92, 93, 94, 95, 96, 97, 98, 99, 100, 101, 102, 103, 104, 105, 106, 107, 108, 109, 110, 111, 112, 113, 114, 115, 116, 117, 118, 119, 120, 121, 122, 123, 124, 125, 126, 9] 1442, .int 95 0]).toArray, #[]⟩), 29, life0, Array.mk [], boot_drawn, 1728, os⟩
theorem lp12_go89 (w : World) (os : OsState) : PySem.W.Fast.tw10295753902157049106 PySem.W.Fast.tw14364793385576792824 PR w 11 ann0 1 270 (lp12_s89 w os) lp12_T = some (lp12_s95 w os, lp12_T) := by kernel_rfl
noncomputable def o3_33 (P : Params) : Obj := ⟨.type "dict", none, .dict ([⟨PyData.keyHash P ⟨#[95, 95, 110, 97, 109, 101, 95, 95]⟩, .str ⟨#[95, 95, 110, 97, 109, 101, 95, 95]⟩ 165, .str ⟨#[99, 112, 121, 51, 49, 51, 46, 101, 109, 97, 105, 108, 46, 113, 117, 111, 112, 114, 105, 109, 105, 109, 101]⟩ 1229⟩, ⟨PyData.keyHash P ⟨#[95, 95, 100, 111, 99, 95, 95]⟩, .str ⟨#[95, 95, 100, 111, 99, 95, 95]⟩ 166, .none⟩, ⟨PyData.keyHash P ⟨#[95, 95, 112, 97, 99, 107, 97, 103, 101, 95, 95]⟩, .str ⟨#[95, 95, 112, 97, 99, 107, 97, 103, 101, 95, 95]⟩ 167, .none⟩, ⟨PyData.keyHash P ⟨#[95, 95, 108, 111, 97, 100, 101, 114, 95, 95]⟩, .str ⟨#[95, 95, 108, 111, 97, 100, 101, 114, 95, 95]⟩ 168, .builtin "__main__.__loader__#opaque"⟩, ⟨PyData.keyHash P ⟨#[95, 95, 115, 112, 101, 99, 95, 95]⟩, .str ⟨#[95, 95, 115, 112, 101, 99, 95, 95]⟩ 169, .none⟩, ⟨PyData.keyHash P ⟨#[95, 95, 97, 110, 110, 111, 116, 97, 116, 105, 111, 110, 115, 95, 95]⟩, .str ⟨#[95, 95, 97, 110, 110, 111, 116, 97, 116, 105, 111, 110, 115, 95, 95]⟩ 170, .ref 6⟩, ⟨PyData.keyHash P ⟨#[95, 95, 98, 117, 105, 108, 116, 105, 110, 115, 95, 95]⟩, .str ⟨#[95, 95, 98, 117, 105, 108, 116, 105, 110, 115, 95, 95]⟩ 171, .ref 4⟩, ⟨PyData.keyHash P ⟨#[95, 95, 102, 105, 108, 101, 95, 95]⟩, .str ⟨#[95, 95, 102, 105, 108, 101, 95, 95]⟩ 173, .str ⟨#[47, 99, 108, 97, 105, 109, 47, 99, 117, 116, 46, 112, 121]⟩ 172⟩, ⟨PyData.keyHash P ⟨#[95, 95, 99, 97, 99, 104, 101, 100, 95, 95]⟩, .str ⟨#[95, 95, 99, 97, 99, 104, 101, 100, 95, 95]⟩ 174, .none⟩, ⟨PyData.keyHash P ⟨#[67, 82, 76, 70]⟩, .str ⟨#[67, 82, 76, 70]⟩ 188, .str ⟨#[13, 10]⟩ 187⟩, ⟨PyData.keyHash P ⟨#[78, 76]⟩, .str ⟨#[78, 76]⟩ 190, .str ⟨#[10]⟩ 189⟩, ⟨PyData.keyHash P ⟨#[95, 81, 85, 79, 80, 82, 73, 95, 77, 65, 80]⟩, .str ⟨#[95, 81, 85, 79, 80, 82, 73, 95, 77, 65, 80]⟩ 1218, .ref 17⟩, ⟨PyData.keyHash P ⟨#[95, 81, 85, 79, 80, 82, 73, 95, 72, 69, 65, 68, 69, 82, 95, 77, 65, 80]⟩, .str ⟨#[95, 81, 85, 79, 80, 82, 73, 95, 72, 69, 65, 68, 69, 82, 95, 77, 65, 80]⟩ 1219, .ref 22⟩, ⟨PyData.keyHash P ⟨#[95, 81, 85, 79, 80, 82, 73, 95, 66, 79, 68, 89, 95, 77, 65, 80]⟩, .str ⟨#[95, 81, 85, 79, 80, 82, 73, 95, 66, 79, 68, 89, 95, 77, 65, 80]⟩ 1220, .ref 24⟩, ⟨PyData.keyHash P ⟨#[97, 115, 99, 105, 105, 95, 108, 111, 119, 101, 114, 99, 97, 115, 101]⟩, .str ⟨#[97, 115, 99, 105, 105, 95, 108, 111, 119, 101, 114, 99, 97, 115, 101]⟩ 1222, .str ⟨#[97, 98, 99, 100, 101, 102, 103, 104, 105, 106, 107, 108, 109, 110, 111, 112, 113, 114, 115, 116, 117, 118, 119, 120, 121, 122]⟩ 1221⟩, ⟨PyData.keyHash P ⟨#[97, 115, 99, 105, 105, 95, 117, 112, 112, 101, 114, 99, 97, 115, 101]⟩, .str ⟨#[97, 115, 99, 105, 105, 95, 117, 112, 112, 101, 114, 99, 97, 115, 101]⟩ 1224, .str ⟨#[65, 66, 67, 68, 69, 70, 71, 72, 73, 74, 75, 76, 77, 78, 79, 80, 81, 82, 83, 84, 85, 86, 87, 88, 89, 90]⟩ 1223⟩, ⟨PyData.keyHash P ⟨#[97, 115, 99, 105, 105, 95, 108, 101, 116, 116, 101, 114, 115]⟩, .str ⟨#[97, 115, 99, 105, 105, 95, 108, 101, 116, 116, 101, 114, 115]⟩ 1226, .str ⟨#[97, 98, 99, 100, 101, 102, 103, 104, 105, 106, 107, 108, 109, 110, 111, 112, 113, 114, 115, 116, 117, 118, 119, 120, 121, 122, 65, 66, 67, 68, 69, 70, 71, 72, 73, 74, 75, 76, 77, 78, 79, 80, 81, 82, 83, 84, 85, 86, 87, 88, 89, 90]⟩ 1225⟩, ⟨PyData.keyHash P ⟨#[100, 105, 103, 105, 116, 115]⟩, .str ⟨#[100, 105, 103, 105, 116, 115]⟩ 1228, .str ⟨#[48, 49, 50, 51, 52, 53, 54, 55, 56, 57]⟩ 1227⟩, ⟨PyData.keyHash P ⟨#[99]⟩, .str ⟨#[99]⟩ 1239, .int 9 1725⟩]).toArray 19, #[]⟩
noncomputable def o24_34 (P : Params) : Obj := ⟨.type "list", none, .seq ([.str ⟨#[61, 48, 48]⟩ 197, .str ⟨#[61, 48, 49]⟩ 201, .str ⟨#[61, 48, 50]⟩ 205, .str ⟨#[61, 48, 51]⟩ 209, .str ⟨#[61, 48, 52]⟩ 213, .str ⟨#[61, 48, 53]⟩ 217, .str ⟨#[61, 48, 54]⟩ 221, .str ⟨#[61, 48, 55]⟩ 225, .str ⟨#[61, 48, 56]⟩ 229, .str ⟨#[9]⟩ 1727, .str ⟨#[61, 48, 65]⟩ 237, .str ⟨#[61, 48, 66]⟩ 241, .str ⟨#[61, 48, 67]⟩ 245, .str ⟨#[61, 48, 68]⟩ 249, .str ⟨#[61, 48, 69]⟩ 253, .str ⟨#[61, 48, 70]⟩ 257, .str ⟨#[61, 49, 48]⟩ 261, .str ⟨#[61, 49, 49]⟩ 265, .str ⟨#[61, 49, 50]⟩ 269, .str ⟨#[61, 49, 51]⟩ 273, .str ⟨#[61, 49, 52]⟩ 277, .str ⟨#[61, 49, 53]⟩ 281, .str ⟨#[61, 49, 54]⟩ 285, .str ⟨#[61, 49, 55]⟩ 289, .str ⟨#[61, 49, 56]⟩ 293, .str ⟨#[61, 49, 57]⟩ 297, .str ⟨#[61, 49, 65]⟩ 301, .str ⟨#[61, 49, 66]⟩ 305, .str ⟨#[61, 49, 67]⟩ 309, .str ⟨#[61, 49, 68]⟩ 313, .str ⟨#[61, 49, 69]⟩ 317, .str ⟨#[61, 49, 70]⟩ 321, .str ⟨#[32]⟩ 1445, .str ⟨#[33]⟩ 1448, .str ⟨#[34]⟩ 1451, .str ⟨#[35]⟩ 1454, .str ⟨#[36]⟩ 1457, .str ⟨#[37]⟩ 1460, .str ⟨#[38]⟩ 1463, .str ⟨#[39]⟩ 1466, .str ⟨#[40]⟩ 1469, .str ⟨#[41]⟩ 1472, .str ⟨#[42]⟩ 1475, .str ⟨#[43]⟩ 1478, .str ⟨#[44]⟩ 1481, .str ⟨#[45]⟩ 1484, .str ⟨#[46]⟩ 1487, .str ⟨#[47]⟩ 1490, .str ⟨#[48]⟩ 1493, .str ⟨#[49]⟩ 1496, .str ⟨#[50]⟩ 1499, .str ⟨#[51]⟩ 1502, .str ⟨#[52]⟩ 1505, .str ⟨#[53]⟩ 1508, .str ⟨#[54]⟩ 1511, .str ⟨#[55]⟩ 1514, .str ⟨#[56]⟩ 1517, .str ⟨#[57]⟩ 1520, .str ⟨#[58]⟩ 1523, .str ⟨#[59]⟩ 1526, .str ⟨#[60]⟩ 1529, .str ⟨#[61, 51, 68]⟩ 441, .str ⟨#[62]⟩ 1532, .str ⟨#[63]⟩ 1535, .str ⟨#[64]⟩ 1538, .str ⟨#[65]⟩ 1541, .str ⟨#[66]⟩ 1544, .str ⟨#[67]⟩ 1547, .str ⟨#[68]⟩ 1550, .str ⟨#[69]⟩ 1553, .str ⟨#[70]⟩ 1556, .str ⟨#[71]⟩ 1559, .str ⟨#[72]⟩ 1562, .str ⟨#[73]⟩ 1565, .str ⟨#[74]⟩ 1568, .str ⟨#[75]⟩ 1571, .str ⟨#[76]⟩ 1574, .str ⟨#[77]⟩ 1577, .str ⟨#[78]⟩ 1580, .str ⟨#[79]⟩ 1583, .str ⟨#[80]⟩ 1586, .str ⟨#[81]⟩ 1589, .str ⟨#[82]⟩ 1592, .str ⟨#[83]⟩ 1595, .str ⟨#[84]⟩ 1598, .str ⟨#[85]⟩ 1601, .str ⟨#[86]⟩ 1604, .str ⟨#[87]⟩ 1607, .str ⟨#[88]⟩ 1610, .str ⟨#[89]⟩ 1613, .str ⟨#[90]⟩ 1616, .str ⟨#[91]⟩ 1619, .str ⟨#[92]⟩ 1622, .str ⟨#[93]⟩ 1625, .str ⟨#[94]⟩ 1628, .str ⟨#[95]⟩ 1631, .str ⟨#[96]⟩ 1634, .str ⟨#[97]⟩ 1637, .str ⟨#[98]⟩ 1640, .str ⟨#[99]⟩ 1643, .str ⟨#[100]⟩ 1646, .str ⟨#[101]⟩ 1649, .str ⟨#[102]⟩ 1652, .str ⟨#[103]⟩ 1655, .str ⟨#[104]⟩ 1658, .str ⟨#[105]⟩ 1661, .str ⟨#[106]⟩ 1664, .str ⟨#[107]⟩ 1667, .str ⟨#[108]⟩ 1670, .str ⟨#[109]⟩ 1673, .str ⟨#[110]⟩ 1676, .str ⟨#[111]⟩ 1679, .str ⟨#[112]⟩ 1682, .str ⟨#[113]⟩ 1685, .str ⟨#[114]⟩ 1688, .str ⟨#[115]⟩ 1691, .str ⟨#[116]⟩ 1694, .str ⟨#[117]⟩ 1697, .str ⟨#[118]⟩ 1700, .str ⟨#[119]⟩ 1703, .str ⟨#[120]⟩ 1706, .str ⟨#[121]⟩ 1709, .str ⟨#[122]⟩ 1712, .str ⟨#[123]⟩ 1715, .str ⟨#[124]⟩ 1718, .str ⟨#[125]⟩ 1721, .str ⟨#[126]⟩ 1724, .str ⟨#[61, 55, 70]⟩ 705, .str ⟨#[61, 56, 48]⟩ 709, .str ⟨#[61, 56, 49]⟩ 713, .str ⟨#[61, 56, 50]⟩ 717, .str ⟨#[61, 56, 51]⟩ 721, .str ⟨#[61, 56, 52]⟩ 725, .str ⟨#[61, 56, 53]⟩ 729, .str ⟨#[61, 56, 54]⟩ 733, .str ⟨#[61, 56, 55]⟩ 737, .str ⟨#[61, 56, 56]⟩ 741, .str ⟨#[61, 56, 57]⟩ 745, .str ⟨#[61, 56, 65]⟩ 749, .str ⟨#[61, 56, 66]⟩ 753, .str ⟨#[61, 56, 67]⟩ 757, .str ⟨#[61, 56, 68]⟩ 761, .str ⟨#[61, 56, 69]⟩ 765, .str ⟨#[61, 56, 70]⟩ 769, .str ⟨#[61, 57, 48]⟩ 773, .str ⟨#[61, 57, 49]⟩ 777, .str ⟨#[61, 57, 50]⟩ 781, .str ⟨#[61, 57, 51]⟩ 785, .str ⟨#[61, 57, 52]⟩ 789, .str ⟨#[61, 57, 53]⟩ 793, .str ⟨#[61, 57, 54]⟩ 797, .str ⟨#[61, 57, 55]⟩ 801, .str ⟨#[61, 57, 56]⟩ 805, .str ⟨#[61, 57, 57]⟩ 809, .str ⟨#[61, 57, 65]⟩ 813, .str ⟨#[61, 57, 66]⟩ 817, .str ⟨#[61, 57, 67]⟩ 821, .str ⟨#[61, 57, 68]⟩ 825, .str ⟨#[61, 57, 69]⟩ 829, .str ⟨#[61, 57, 70]⟩ 833, .str ⟨#[61, 65, 48]⟩ 837, .str ⟨#[61, 65, 49]⟩ 841, .str ⟨#[61, 65, 50]⟩ 845, .str ⟨#[61, 65, 51]⟩ 849, .str ⟨#[61, 65, 52]⟩ 853, .str ⟨#[61, 65, 53]⟩ 857, .str ⟨#[61, 65, 54]⟩ 861, .str ⟨#[61, 65, 55]⟩ 865, .str ⟨#[61, 65, 56]⟩ 869, .str ⟨#[61, 65, 57]⟩ 873, .str ⟨#[61, 65, 65]⟩ 877, .str ⟨#[61, 65, 66]⟩ 881, .str ⟨#[61, 65, 67]⟩ 885, .str ⟨#[61, 65, 68]⟩ 889, .str ⟨#[61, 65, 69]⟩ 893, .str ⟨#[61, 65, 70]⟩ 897, .str ⟨#[61, 66, 48]⟩ 901, .str ⟨#[61, 66, 49]⟩ 905, .str ⟨#[61, 66, 50]⟩ 909, .str ⟨#[61, 66, 51]⟩ 913, .str ⟨#[61, 66, 52]⟩ 917, .str ⟨#[61, 66, 53]⟩ 921, .str ⟨#[61, 66, 54]⟩ 925, .str ⟨#[61, 66, 55]⟩ 929, .str ⟨#[61, 66, 56]⟩ 933, .str ⟨#[61, 66, 57]⟩ 937, .str ⟨#[61, 66, 65]⟩ 941, .str ⟨#[61, 66, 66]⟩ 945, .str ⟨#[61, 66, 67]⟩ 949, .str ⟨#[61, 66, 68]⟩ 953, .str ⟨#[61, 66, 69]⟩ 957, .str ⟨#[61, 66, 70]⟩ 961, .str ⟨#[61, 67, 48]⟩ 965, .str ⟨#[61, 67, 49]⟩ 969, .str ⟨#[61, 67, 50]⟩ 973, .str ⟨#[61, 67, 51]⟩ 977, .str ⟨#[61, 67, 52]⟩ 981, .str ⟨#[61, 67, 53]⟩ 985, .str ⟨#[61, 67, 54]⟩ 989, .str ⟨#[61, 67, 55]⟩ 993, .str ⟨#[61, 67, 56]⟩ 997, .str ⟨#[61, 67, 57]⟩ 1001, .str ⟨#[61, 67, 65]⟩ 1005, .str ⟨#[61, 67, 66]⟩ 1009, .str ⟨#[61, 67, 67]⟩ 1013, .str ⟨#[61, 67, 68]⟩ 1017, .str ⟨#[61, 67, 69]⟩ 1021, .str ⟨#[61, 67, 70]⟩ 1025, .str ⟨#[61, 68, 48]⟩ 1029, .str ⟨#[61, 68, 49]⟩ 1033, .str ⟨#[61, 68, 50]⟩ 1037, .str ⟨#[61, 68, 51]⟩ 1041, .str ⟨#[61, 68, 52]⟩ 1045, .str ⟨#[61, 68, 53]⟩ 1049, .str ⟨#[61, 68, 54]⟩ 1053, .str ⟨#[61, 68, 55]⟩ 1057, .str ⟨#[61, 68, 56]⟩ 1061, .str ⟨#[61, 68, 57]⟩ 1065, .str ⟨#[61, 68, 65]⟩ 1069, .str ⟨#[61, 68, 66]⟩ 1073, .str ⟨#[61, 68, 67]⟩ 1077, .str ⟨#[61, 68, 68]⟩ 1081, .str ⟨#[61, 68, 69]⟩ 1085, .str ⟨#[61, 68, 70]⟩ 1089, .str ⟨#[61, 69, 48]⟩ 1093, .str ⟨#[61, 69, 49]⟩ 1097, .str ⟨#[61, 69, 50]⟩ 1101, .str ⟨#[61, 69, 51]⟩ 1105, .str ⟨#[61, 69, 52]⟩ 1109, .str ⟨#[61, 69, 53]⟩ 1113, .str ⟨#[61, 69, 54]⟩ 1117, .str ⟨#[61, 69, 55]⟩ 1121, .str ⟨#[61, 69, 56]⟩ 1125, .str ⟨#[61, 69, 57]⟩ 1129, .str ⟨#[61, 69, 65]⟩ 1133, .str ⟨#[61, 69, 66]⟩ 1137, .str ⟨#[61, 69, 67]⟩ 1141, .str ⟨#[61, 69, 68]⟩ 1145, .str ⟨#[61, 69, 69]⟩ 1149, .str ⟨#[61, 69, 70]⟩ 1153, .str ⟨#[61, 70, 48]⟩ 1157, .str ⟨#[61, 70, 49]⟩ 1161, .str ⟨#[61, 70, 50]⟩ 1165, .str ⟨#[61, 70, 51]⟩ 1169, .str ⟨#[61, 70, 52]⟩ 1173, .str ⟨#[61, 70, 53]⟩ 1177, .str ⟨#[61, 70, 54]⟩ 1181, .str ⟨#[61, 70, 55]⟩ 1185, .str ⟨#[61, 70, 56]⟩ 1189, .str ⟨#[61, 70, 57]⟩ 1193, .str ⟨#[61, 70, 65]⟩ 1197, .str ⟨#[61, 70, 66]⟩ 1201, .str ⟨#[61, 70, 67]⟩ 1205, .str ⟨#[61, 70, 68]⟩ 1209, .str ⟨#[61, 70, 69]⟩ 1213, .str ⟨#[61, 70, 70]⟩ 1217]).toArray 0, #[]⟩
noncomputable def o28_35 (P : Params) : Obj := ⟨.type "bytes_iterator", none, .fields ([.none, .int 95 0]).toArray, #[]⟩
noncomputable def o29_36 (P : Params) : Obj := ⟨.type "tuple", none, .seq ([]).toArray 0, #[]⟩
noncomputable def o30_37 (P : Params) : Obj := ⟨.type "StopIteration", none, .fields ([.ref 29, .none, .none, .none, .bool false, .none]).toArray, #[]⟩
noncomputable def tr_s12 (P : Params) : BT := (.node (boot_o_0 P) (.node (boot_o_1 P) (.node (o3_33 P) (.node (boot_o_7 P) (.node (o15_10 P) .nil .nil) (.node (o23_19 P) .nil .nil)) (.node (o11_0 P) (.node (o19_14 P) .nil .nil) (.node (o27_28 P) .nil .nil))) (.node (boot_o_5 P) (.node (boot_o_9 P) (.node (o17_12 P) .nil .nil) (.node (o25_26 P) .nil .nil)) (.node (o13_2 P) (.node (o21_17 P) .nil .nil) (.node (o29_36 P) .nil .nil)))) (.node (boot_o_2 P) (.node (boot_o_4 P) (.node (boot_o_8 P) (.node (o16_11 P) .nil .nil) (.node (o24_34 P) .nil .nil)) (.node (o12_1 P) (.node (o20_15 P) .nil .nil) (.node (o28_35 P) .nil .nil))) (.node (boot_o_6 P) (.node (boot_o_10 P) (.node (o18_13 P) .nil .nil) (.node (o26_27 P) .nil .nil)) (.node (o14_3 P) (.node (o22_29 P) .nil .nil) (.node (o30_37 P) .nil .nil)))))
noncomputable def s12 (w : World) (os : OsState) : SharedT := ⟨tr_s12 w.params, 31, life0, Array.mk [], boot_drawn, 1728, os⟩
theorem lp12_end (w : World) (os : OsState) : PySem.W.Fast.tw10110043849684766642 PySem.W.Fast.tw14364793385576792824 PR w 11 ann0 1 18 (lp12_s95 w os) lp12_T = some (.next, s12 w os, cE, ⟨14, 9, 14, 110⟩) := by kernel_rfl
theorem lp12_rest (w : World) (os : OsState) : segRun treeTable PR w 11 ann0 1 4248 (lp12_s1 w os).abs lp12_T = some (.next, (s12 w os).abs, cE, ⟨14, 9, 14, 110⟩) := (seg_go (n := 360) (segGo_of (goT (lp12_go1 w os))) (seg_go (n := 360) (segGo_of (goT (lp12_go9 w os))) (seg_go (n := 360) (segGo_of (goT (lp12_go17 w os))) (seg_go (n := 360) (segGo_of (goT (lp12_go25 w os))) (seg_go (n := 360) (segGo_of (goT (lp12_go33 w os))) (seg_go (n := 360) (segGo_of (goT (lp12_go41 w os))) (seg_go (n := 360) (segGo_of (goT (lp12_go49 w os))) (seg_go (n := 360) (segGo_of (goT (lp12_go57 w os))) (seg_go (n := 360) (segGo_of (goT (lp12_go65 w os))) (seg_go (n := 360) (segGo_of (goT (lp12_go73 w os))) (seg_go (n := 360) (segGo_of (goT (lp12_go81 w os))) (seg_go (n := 270) (segGo_of (goT (lp12_go89 w os))) (segRun_of (runT (lp12_end w os)))))))))))))))
def lp12_P (w : World) : Prop := ∀ os : OsState, segRun treeTable PR w 11 ann0 1 4303 (s11 w os).abs (piecesOf lp12_sts env0 cE ⟨13, 0, 13, 28⟩ B0) = some (.next, (s12 w os).abs, cE, ⟨14, 9, 14, 110⟩)
theorem lp12_start_f_a (w : World) (os : OsState) : segRun treeTable PR (w.withFollow "special-get-raises" false) 11 ann0 1 (55 + 4248) (s11 (w.withFollow "special-get-raises" false) os).abs (piecesOf lp12_sts env0 cE ⟨13, 0, 13, 28⟩ B0) = some (.next, (s12 (w.withFollow "special-get-raises" false) os).abs, cE, ⟨14, 9, 14, 110⟩) := startT (s' := lp12_s1 (w.withFollow "special-get-raises" false) os) (T := lp12_T) (lp12_start_f w os) (lp12_rest (w.withFollow "special-get-raises" false) os)
theorem lp12_start_f_b (w : World) : lp12_P (w.withFollow "special-get-raises" false) := fun os => segRun_up (n := 55 + 4248) (m := 4303) (Nat.le_of_ble_eq_true (by kernel_rfl)) (lp12_start_f_a w os)
theorem lp12_start_t_a (w : World) (os : OsState) : segRun treeTable PR (w.withFollow "special-get-raises" true) 11 ann0 1 (55 + 4248) (s11 (w.withFollow "special-get-raises" true) os).abs (piecesOf lp12_sts env0 cE ⟨13, 0, 13, 28⟩ B0) = some (.next, (s12 (w.withFollow "special-get-raises" true) os).abs, cE, ⟨14, 9, 14, 110⟩) := startT (s' := lp12_s1 (w.withFollow "special-get-raises" true) os) (T := lp12_T) (lp12_start_t w os) (lp12_rest (w.withFollow "special-get-raises" true) os)
theorem lp12_start_t_b (w : World) : lp12_P (w.withFollow "special-get-raises" true) := fun os => segRun_up (n := 55 + 4248) (m := 4303) (Nat.le_of_ble_eq_true (by kernel_rfl)) (lp12_start_t_a w os)
theorem lp12_all (w : World) : lp12_P w := (byRow2 "special-get-raises" (P := fun w => lp12_P w) (fun w => (lp12_start_f_b w)) (fun w => (lp12_start_t_b w)) w)
noncomputable def o3_38 (P : Params) : Obj := ⟨.type "dict", none, .dict ([⟨PyData.keyHash P ⟨#[95, 95, 110, 97, 109, 101, 95, 95]⟩, .str ⟨#[95, 95, 110, 97, 109, 101, 95, 95]⟩ 165, .str ⟨#[99, 112, 121, 51, 49, 51, 46, 101, 109, 97, 105, 108, 46, 113, 117, 111, 112, 114, 105, 109, 105, 109, 101]⟩ 1229⟩, ⟨PyData.keyHash P ⟨#[95, 95, 100, 111, 99, 95, 95]⟩, .str ⟨#[95, 95, 100, 111, 99, 95, 95]⟩ 166, .none⟩, ⟨PyData.keyHash P ⟨#[95, 95, 112, 97, 99, 107, 97, 103, 101, 95, 95]⟩, .str ⟨#[95, 95, 112, 97, 99, 107, 97, 103, 101, 95, 95]⟩ 167, .none⟩, ⟨PyData.keyHash P ⟨#[95, 95, 108, 111, 97, 100, 101, 114, 95, 95]⟩, .str ⟨#[95, 95, 108, 111, 97, 100, 101, 114, 95, 95]⟩ 168, .builtin "__main__.__loader__#opaque"⟩, ⟨PyData.keyHash P ⟨#[95, 95, 115, 112, 101, 99, 95, 95]⟩, .str ⟨#[95, 95, 115, 112, 101, 99, 95, 95]⟩ 169, .none⟩, ⟨PyData.keyHash P ⟨#[95, 95, 97, 110, 110, 111, 116, 97, 116, 105, 111, 110, 115, 95, 95]⟩, .str ⟨#[95, 95, 97, 110, 110, 111, 116, 97, 116, 105, 111, 110, 115, 95, 95]⟩ 170, .ref 6⟩, ⟨PyData.keyHash P ⟨#[95, 95, 98, 117, 105, 108, 116, 105, 110, 115, 95, 95]⟩, .str ⟨#[95, 95, 98, 117, 105, 108, 116, 105, 110, 115, 95, 95]⟩ 171, .ref 4⟩, ⟨PyData.keyHash P ⟨#[95, 95, 102, 105, 108, 101, 95, 95]⟩, .str ⟨#[95, 95, 102, 105, 108, 101, 95, 95]⟩ 173, .str ⟨#[47, 99, 108, 97, 105, 109, 47, 99, 117, 116, 46, 112, 121]⟩ 172⟩, ⟨PyData.keyHash P ⟨#[95, 95, 99, 97, 99, 104, 101, 100, 95, 95]⟩, .str ⟨#[95, 95, 99, 97, 99, 104, 101, 100, 95, 95]⟩ 174, .none⟩, ⟨PyData.keyHash P ⟨#[67, 82, 76, 70]⟩, .str ⟨#[67, 82, 76, 70]⟩ 188, .str ⟨#[13, 10]⟩ 187⟩, ⟨PyData.keyHash P ⟨#[78, 76]⟩, .str ⟨#[78, 76]⟩ 190, .str ⟨#[10]⟩ 189⟩, ⟨PyData.keyHash P ⟨#[95, 81, 85, 79, 80, 82, 73, 95, 77, 65, 80]⟩, .str ⟨#[95, 81, 85, 79, 80, 82, 73, 95, 77, 65, 80]⟩ 1218, .ref 17⟩, ⟨PyData.keyHash P ⟨#[95, 81, 85, 79, 80, 82, 73, 95, 72, 69, 65, 68, 69, 82, 95, 77, 65, 80]⟩, .str ⟨#[95, 81, 85, 79, 80, 82, 73, 95, 72, 69, 65, 68, 69, 82, 95, 77, 65, 80]⟩ 1219, .ref 22⟩, ⟨PyData.keyHash P ⟨#[95, 81, 85, 79, 80, 82, 73, 95, 66, 79, 68, 89, 95, 77, 65, 80]⟩, .str ⟨#[95, 81, 85, 79, 80, 82, 73, 95, 66, 79, 68, 89, 95, 77, 65, 80]⟩ 1220, .ref 24⟩, ⟨PyData.keyHash P ⟨#[97, 115, 99, 105, 105, 95, 108, 111, 119, 101, 114, 99, 97, 115, 101]⟩, .str ⟨#[97, 115, 99, 105, 105, 95, 108, 111, 119, 101, 114, 99, 97, 115, 101]⟩ 1222, .str ⟨#[97, 98, 99, 100, 101, 102, 103, 104, 105, 106, 107, 108, 109, 110, 111, 112, 113, 114, 115, 116, 117, 118, 119, 120, 121, 122]⟩ 1221⟩, ⟨PyData.keyHash P ⟨#[97, 115, 99, 105, 105, 95, 117, 112, 112, 101, 114, 99, 97, 115, 101]⟩, .str ⟨#[97, 115, 99, 105, 105, 95, 117, 112, 112, 101, 114, 99, 97, 115, 101]⟩ 1224, .str ⟨#[65, 66, 67, 68, 69, 70, 71, 72, 73, 74, 75, 76, 77, 78, 79, 80, 81, 82, 83, 84, 85, 86, 87, 88, 89, 90]⟩ 1223⟩, ⟨PyData.keyHash P ⟨#[97, 115, 99, 105, 105, 95, 108, 101, 116, 116, 101, 114, 115]⟩, .str ⟨#[97, 115, 99, 105, 105, 95, 108, 101, 116, 116, 101, 114, 115]⟩ 1226, .str ⟨#[97, 98, 99, 100, 101, 102, 103, 104, 105, 106, 107, 108, 109, 110, 111, 112, 113, 114, 115, 116, 117, 118, 119, 120, 121, 122, 65, 66, 67, 68, 69, 70, 71, 72, 73, 74, 75, 76, 77, 78, 79, 80, 81, 82, 83, 84, 85, 86, 87, 88, 89, 90]⟩ 1225⟩, ⟨PyData.keyHash P ⟨#[100, 105, 103, 105, 116, 115]⟩, .str ⟨#[100, 105, 103, 105, 116, 115]⟩ 1228, .str ⟨#[48, 49, 50, 51, 52, 53, 54, 55, 56, 57]⟩ 1227⟩, ⟨PyData.keyHash P ⟨#[113, 117, 111, 116, 101]⟩, .str ⟨#[113, 117, 111, 116, 101]⟩ 1734, .ref 37⟩, ⟨PyData.keyHash P ⟨#[95, 81, 85, 79, 80, 82, 73, 95, 66, 79, 68, 89, 95, 69, 78, 67, 79, 68, 69, 95, 77, 65, 80]⟩, .str ⟨#[95, 81, 85, 79, 80, 82, 73, 95, 66, 79, 68, 89, 95, 69, 78, 67, 79, 68, 69, 95, 77, 65, 80]⟩ 1735, .ref 39⟩]).toArray 22, #[]⟩
noncomputable def o12_39 (P : Params) : Obj := ⟨.none, none, .fields ([.int 16 0, .int 0 0, .ref 36]).toArray, #[]⟩
noncomputable def o31_40 (P : Params) : Obj := ⟨.type "tuple", none, .seq ([]).toArray 0, #[]⟩
noncomputable def o32_41 (P : Params) : Obj := ⟨.none, none, .fields ([]).toArray, #[]⟩
noncomputable def o33_42 (P : Params) : Obj := ⟨.type "tuple", none, .seq ([.str ⟨#[99]⟩ 1731]).toArray 0, #[]⟩
noncomputable def o34_43 (P : Params) : Obj := ⟨.type "tuple", none, .seq ([]).toArray 0, #[]⟩
noncomputable def o35_44 (P : Params) : Obj := ⟨.none, none, .func { name := ⟨#[113, 117, 111, 116, 101]⟩, qualname := ⟨#[113, 117, 111, 116, 101]⟩, params := fArgs (stm 13), body := .stmts (fBody (stm 13)), scope := fScope (stm 13), globals := 0, closure := [], defaults := .none, kwdefaults := .none, doc := .none, pyModule := .none, annotations := none, code := .none, closureTuple := .none, builtins := 0 }, #[]⟩
noncomputable def o36_45 (P : Params) : Obj := ⟨.type "code", none, .fields ([.str ⟨#[113, 117, 111, 116, 101]⟩ 1728, .str ⟨#[113, 117, 111, 116, 101]⟩ 1729, .str ⟨#[47, 99, 108, 97, 105, 109, 47, 99, 117, 116, 46, 112, 121]⟩ 1730, .int 16 0, .int 1 0, .int 0 0, .int 0 0, .int 3 0, .ref 31, .bool true, .int 181 0, .ref 32, .none, .ref 33, .ref 34, .ref 35, .int 1732 0, .int 16 0, .str ⟨#[47, 99, 108, 97, 105, 109, 47, 99, 117, 116, 46, 112, 121]⟩ 1733]).toArray, #[]⟩
noncomputable def o37_46 (P : Params) : Obj := ⟨.type "function", none, .func { name := ⟨#[113, 117, 111, 116, 101]⟩, qualname := ⟨#[113, 117, 111, 116, 101]⟩, params := fArgs (stm 13), body := .stmts (fBody (stm 13)), scope := fScope (stm 13), globals := 3, closure := [], defaults := .none, kwdefaults := .none, doc := .none, pyModule := .str ⟨#[99, 112, 121, 51, 49, 51, 46, 101, 109, 97, 105, 108, 46, 113, 117, 111, 112, 114, 105, 109, 105, 109, 101]⟩ 1229, annotations := none, code := .ref 36, closureTuple := .none, builtins := 0 }, #[]⟩
noncomputable def o38_47 (P : Params) : Obj := ⟨.type "slice", none, .fields ([.none, .none, .none]).toArray, #[]⟩
noncomputable def o39_48 (P : Params) : Obj := ⟨.type "list", none, .seq ([.str ⟨#[61, 48, 48]⟩ 197, .str ⟨#[61, 48, 49]⟩ 201, .str ⟨#[61, 48, 50]⟩ 205, .str ⟨#[61, 48, 51]⟩ 209, .str ⟨#[61, 48, 52]⟩ 213, .str ⟨#[61, 48, 53]⟩ 217, .str ⟨#[61, 48, 54]⟩ 221, .str ⟨#[61, 48, 55]⟩ 225, .str ⟨#[61, 48, 56]⟩ 229, .str ⟨#[9]⟩ 1727, .str ⟨#[10]⟩ 1742, .str ⟨#[61, 48, 66]⟩ 241, .str ⟨#[61, 48, 67]⟩ 245, .str ⟨#[13]⟩ 1739, .str ⟨#[61, 48, 69]⟩ 253, .str ⟨#[61, 48, 70]⟩ 257, .str ⟨#[61, 49, 48]⟩ 261, .str ⟨#[61, 49, 49]⟩ 265, .str ⟨#[61, 49, 50]⟩ 269, .str ⟨#[61, 49, 51]⟩ 273, .str ⟨#[61, 49, 52]⟩ 277, .str ⟨#[61, 49, 53]⟩ 281, .str ⟨#[61, 49, 54]⟩ 285, .str ⟨#[61, 49, 55]⟩ 289, .str ⟨#[61, 49, 56]⟩ 293, .str ⟨#[61, 49, 57]⟩ 297, .str ⟨#[61, 49, 65]⟩ 301, .str ⟨#[61, 49, 66]⟩ 305, .str ⟨#[61, 49, 67]⟩ 309, .str ⟨#[61, 49, 68]⟩ 313, .str ⟨#[61, 49, 69]⟩ 317, .str ⟨#[61, 49, 70]⟩ 321, .str ⟨#[32]⟩ 1445, .str ⟨#[33]⟩ 1448, .str ⟨#[34]⟩ 1451, .str ⟨#[35]⟩ 1454, .str ⟨#[36]⟩ 1457, .str ⟨#[37]⟩ 1460, .str ⟨#[38]⟩ 1463, .str ⟨#[39]⟩ 1466, .str ⟨#[40]⟩ 1469, .str ⟨#[41]⟩ 1472, .str ⟨#[42]⟩ 1475, .str ⟨#[43]⟩ 1478, .str ⟨#[44]⟩ 1481, .str ⟨#[45]⟩ 1484, .str ⟨#[46]⟩ 1487, .str ⟨#[47]⟩ 1490, .str ⟨#[48]⟩ 1493, .str ⟨#[49]⟩ 1496, .str ⟨#[50]⟩ 1499, .str ⟨#[51]⟩ 1502, .str ⟨#[52]⟩ 1505, .str ⟨#[53]⟩ 1508, .str ⟨#[54]⟩ 1511, .str ⟨#[55]⟩ 1514, .str ⟨#[56]⟩ 1517, .str ⟨#[57]⟩ 1520, .str ⟨#[58]⟩ 1523, .str ⟨#[59]⟩ 1526, .str ⟨#[60]⟩ 1529, .str ⟨#[61, 51, 68]⟩ 441, .str ⟨#[62]⟩ 1532, .str ⟨#[63]⟩ 1535, .str ⟨#[64]⟩ 1538, .str ⟨#[65]⟩ 1541, .str ⟨#[66]⟩ 1544, .str ⟨#[67]⟩ 1547, .str ⟨#[68]⟩ 1550, .str ⟨#[69]⟩ 1553, .str ⟨#[70]⟩ 1556, .str ⟨#[71]⟩ 1559, .str ⟨#[72]⟩ 1562, .str ⟨#[73]⟩ 1565, .str ⟨#[74]⟩ 1568, .str ⟨#[75]⟩ 1571, .str ⟨#[76]⟩ 1574, .str ⟨#[77]⟩ 1577, .str ⟨#[78]⟩ 1580, .str ⟨#[79]⟩ 1583, .str ⟨#[80]⟩ 1586, .str ⟨#[81]⟩ 1589, .str ⟨#[82]⟩ 1592, .str ⟨#[83]⟩ 1595, .str ⟨#[84]⟩ 1598, .str ⟨#[85]⟩ 1601, .str ⟨#[86]⟩ 1604, .str ⟨#[87]⟩ 1607, .str ⟨#[88]⟩ 1610, .str ⟨#[89]⟩ 1613, .str ⟨#[90]⟩ 1616, .str ⟨#[91]⟩ 1619, .str ⟨#[92]⟩ 1622, .str ⟨#[93]⟩ 1625, .str ⟨#[94]⟩ 1628, .str ⟨#[95]⟩ 1631, .str ⟨#[96]⟩ 1634, .str ⟨#[97]⟩ 1637, .str ⟨#[98]⟩ 1640, .str ⟨#[99]⟩ 1643, .str ⟨#[100]⟩ 1646, .str ⟨#[101]⟩ 1649, .str ⟨#[102]⟩ 1652, .str ⟨#[103]⟩ 1655, .str ⟨#[104]⟩ 1658, .str ⟨#[105]⟩ 1661, .str ⟨#[106]⟩ 1664, .str ⟨#[107]⟩ 1667, .str ⟨#[108]⟩ 1670, .str ⟨#[109]⟩ 1673, .str ⟨#[110]⟩ 1676, .str ⟨#[111]⟩ 1679, .str ⟨#[112]⟩ 1682, .str ⟨#[113]⟩ 1685, .str ⟨#[114]⟩ 1688, .str ⟨#[115]⟩ 1691, .str ⟨#[116]⟩ 1694, .str ⟨#[117]⟩ 1697, .str ⟨#[118]⟩ 1700, .str ⟨#[119]⟩ 1703, .str ⟨#[120]⟩ 1706, .str ⟨#[121]⟩ 1709, .str ⟨#[122]⟩ 1712, .str ⟨#[123]⟩ 1715, .str ⟨#[124]⟩ 1718, .str ⟨#[125]⟩ 1721, .str ⟨#[126]⟩ 1724, .str ⟨#[61, 55, 70]⟩ 705, .str ⟨#[61, 56, 48]⟩ 709, .str ⟨#[61, 56, 49]⟩ 713, .str ⟨#[61, 56, 50]⟩ 717, .str ⟨#[61, 56, 51]⟩ 721, .str ⟨#[61, 56, 52]⟩ 725, .str ⟨#[61, 56, 53]⟩ 729, .str ⟨#[61, 56, 54]⟩ 733, .str ⟨#[61, 56, 55]⟩ 737, .str ⟨#[61, 56, 56]⟩ 741, .str ⟨#[61, 56, 57]⟩ 745, .str ⟨#[61, 56, 65]⟩ 749, .str ⟨#[61, 56, 66]⟩ 753, .str ⟨#[61, 56, 67]⟩ 757, .str ⟨#[61, 56, 68]⟩ 761, .str ⟨#[61, 56, 69]⟩ 765, .str ⟨#[61, 56, 70]⟩ 769, .str ⟨#[61, 57, 48]⟩ 773, .str ⟨#[61, 57, 49]⟩ 777, .str ⟨#[61, 57, 50]⟩ 781, .str ⟨#[61, 57, 51]⟩ 785, .str ⟨#[61, 57, 52]⟩ 789, .str ⟨#[61, 57, 53]⟩ 793, .str ⟨#[61, 57, 54]⟩ 797, .str ⟨#[61, 57, 55]⟩ 801, .str ⟨#[61, 57, 56]⟩ 805, .str ⟨#[61, 57, 57]⟩ 809, .str ⟨#[61, 57, 65]⟩ 813, .str ⟨#[61, 57, 66]⟩ 817, .str ⟨#[61, 57, 67]⟩ 821, .str ⟨#[61, 57, 68]⟩ 825, .str ⟨#[61, 57, 69]⟩ 829, .str ⟨#[61, 57, 70]⟩ 833, .str ⟨#[61, 65, 48]⟩ 837, .str ⟨#[61, 65, 49]⟩ 841, .str ⟨#[61, 65, 50]⟩ 845, .str ⟨#[61, 65, 51]⟩ 849, .str ⟨#[61, 65, 52]⟩ 853, .str ⟨#[61, 65, 53]⟩ 857, .str ⟨#[61, 65, 54]⟩ 861, .str ⟨#[61, 65, 55]⟩ 865, .str ⟨#[61, 65, 56]⟩ 869, .str ⟨#[61, 65, 57]⟩ 873, .str ⟨#[61, 65, 65]⟩ 877, .str ⟨#[61, 65, 66]⟩ 881, .str ⟨#[61, 65, 67]⟩ 885, .str ⟨#[61, 65, 68]⟩ 889, .str ⟨#[61, 65, 69]⟩ 893, .str ⟨#[61, 65, 70]⟩ 897, .str ⟨#[61, 66, 48]⟩ 901, .str ⟨#[61, 66, 49]⟩ 905, .str ⟨#[61, 66, 50]⟩ 909, .str ⟨#[61, 66, 51]⟩ 913, .str ⟨#[61, 66, 52]⟩ 917, .str ⟨#[61, 66, 53]⟩ 921, .str ⟨#[61, 66, 54]⟩ 925, .str ⟨#[61, 66, 55]⟩ 929, .str ⟨#[61, 66, 56]⟩ 933, .str ⟨#[61, 66, 57]⟩ 937, .str ⟨#[61, 66, 65]⟩ 941, .str ⟨#[61, 66, 66]⟩ 945, .str ⟨#[61, 66, 67]⟩ 949, .str ⟨#[61, 66, 68]⟩ 953, .str ⟨#[61, 66, 69]⟩ 957, .str ⟨#[61, 66, 70]⟩ 961, .str ⟨#[61, 67, 48]⟩ 965, .str ⟨#[61, 67, 49]⟩ 969, .str ⟨#[61, 67, 50]⟩ 973, .str ⟨#[61, 67, 51]⟩ 977, .str ⟨#[61, 67, 52]⟩ 981, .str ⟨#[61, 67, 53]⟩ 985, .str ⟨#[61, 67, 54]⟩ 989, .str ⟨#[61, 67, 55]⟩ 993, .str ⟨#[61, 67, 56]⟩ 997, .str ⟨#[61, 67, 57]⟩ 1001, .str ⟨#[61, 67, 65]⟩ 1005, .str ⟨#[61, 67, 66]⟩ 1009, .str ⟨#[61, 67, 67]⟩ 1013, .str ⟨#[61, 67, 68]⟩ 1017, .str ⟨#[61, 67, 69]⟩ 1021, .str ⟨#[61, 67, 70]⟩ 1025, .str ⟨#[61, 68, 48]⟩ 1029, .str ⟨#[61, 68, 49]⟩ 1033, .str ⟨#[61, 68, 50]⟩ 1037, .str ⟨#[61, 68, 51]⟩ 1041, .str ⟨#[61, 68, 52]⟩ 1045, .str ⟨#[61, 68, 53]⟩ 1049, .str ⟨#[61, 68, 54]⟩ 1053, .str ⟨#[61, 68, 55]⟩ 1057, .str ⟨#[61, 68, 56]⟩ 1061, .str ⟨#[61, 68, 57]⟩ 1065, .str ⟨#[61, 68, 65]⟩ 1069, .str ⟨#[61, 68, 66]⟩ 1073, .str ⟨#[61, 68, 67]⟩ 1077, .str ⟨#[61, 68, 68]⟩ 1081, .str ⟨#[61, 68, 69]⟩ 1085, .str ⟨#[61, 68, 70]⟩ 1089, .str ⟨#[61, 69, 48]⟩ 1093, .str ⟨#[61, 69, 49]⟩ 1097, .str ⟨#[61, 69, 50]⟩ 1101, .str ⟨#[61, 69, 51]⟩ 1105, .str ⟨#[61, 69, 52]⟩ 1109, .str ⟨#[61, 69, 53]⟩ 1113, .str ⟨#[61, 69, 54]⟩ 1117, .str ⟨#[61, 69, 55]⟩ 1121, .str ⟨#[61, 69, 56]⟩ 1125, .str ⟨#[61, 69, 57]⟩ 1129, .str ⟨#[61, 69, 65]⟩ 1133, .str ⟨#[61, 69, 66]⟩ 1137, .str ⟨#[61, 69, 67]⟩ 1141, .str ⟨#[61, 69, 68]⟩ 1145, .str ⟨#[61, 69, 69]⟩ 1149, .str ⟨#[61, 69, 70]⟩ 1153, .str ⟨#[61, 70, 48]⟩ 1157, .str ⟨#[61, 70, 49]⟩ 1161, .str ⟨#[61, 70, 50]⟩ 1165, .str ⟨#[61, 70, 51]⟩ 1169, .str ⟨#[61, 70, 52]⟩ 1173, .str ⟨#[61, 70, 53]⟩ 1177, .str ⟨#[61, 70, 54]⟩ 1181, .str ⟨#[61, 70, 55]⟩ 1185, .str ⟨#[61, 70, 56]⟩ 1189, .str ⟨#[61, 70, 57]⟩ 1193, .str ⟨#[61, 70, 65]⟩ 1197, .str ⟨#[61, 70, 66]⟩ 1201, .str ⟨#[61, 70, 67]⟩ 1205, .str ⟨#[61, 70, 68]⟩ 1209, .str ⟨#[61, 70, 69]⟩ 1213, .str ⟨#[61, 70, 70]⟩ 1217]).toArray 0, #[]⟩
noncomputable def o40_49 (P : Params) : Obj := ⟨.type "bytes_iterator", none, .fields ([.none, .int 2 0]).toArray, #[]⟩
noncomputable def o41_50 (P : Params) : Obj := ⟨.type "tuple", none, .seq ([]).toArray 0, #[]⟩
noncomputable def o42_51 (P : Params) : Obj := ⟨.type "StopIteration", none, .fields ([.ref 41, .none, .none, .none, .bool false, .none]).toArray, #[]⟩
noncomputable def tr_s16 (P : Params) : BT := (.node (boot_o_0 P) (.node (boot_o_1 P) (.node (o3_38 P) (.node (boot_o_7 P) (.node (o15_10 P) (.node (o31_40 P) .nil .nil) .nil) (.node (o23_19 P) (.node (o39_48 P) .nil .nil) .nil)) (.node (o11_0 P) (.node (o19_14 P) (.node (o35_44 P) .nil .nil) .nil) (.node (o27_28 P) .nil .nil))) (.node (boot_o_5 P) (.node (boot_o_9 P) (.node (o17_12 P) (.node (o33_42 P) .nil .nil) .nil) (.node (o25_26 P) (.node (o41_50 P) .nil .nil) .nil)) (.node (o13_2 P) (.node (o21_17 P) (.node (o37_46 P) .nil .nil) .nil) (.node (o29_36 P) .nil .nil)))) (.node (boot_o_2 P) (.node (boot_o_4 P) (.node (boot_o_8 P) (.node (o16_11 P) (.node (o32_41 P) .nil .nil) .nil) (.node (o24_34 P) (.node (o40_49 P) .nil .nil) .nil)) (.node (o12_39 P) (.node (o20_15 P) (.node (o36_45 P) .nil .nil) .nil) (.node (o28_35 P) .nil .nil))) (.node (boot_o_6 P) (.node (boot_o_10 P) (.node (o18_13 P) (.node (o34_43 P) .nil .nil) .nil) (.node (o26_27 P) (.node (o42_51 P) .nil .nil) .nil)) (.node (o14_3 P) (.node (o22_29 P) (.node (o38_47 P) .nil .nil) .nil) (.node (o30_37 P) .nil .nil)))))
noncomputable def s16 (w : World) (os : OsState) : SharedT := ⟨tr_s16 w.params, 43, life0, Array.mk [], boot_drawn, 1743, os⟩
noncomputable def gr13_sts : List Stmt := [stm 13, stm 14, stm 15, stm 16]
theorem gr13_qf (w : World) (os : OsState) : PySem.W.Fast.tw10110043849684766642 PySem.W.Fast.tw14364793385576792824 PR (w.withFollow "special-get-raises" false) 11 ann0 1 220 (s12 (w.withFollow "special-get-raises" false) os) ⟨(PySem.W.Fast.tw12563942051412417395 gr13_sts env0).wrap doneF deadEnd id id, cE, ⟨14, 9, 14, 110⟩, B0⟩ = some (.next, s16 (w.withFollow "special-get-raises" false) os, cE, ⟨21, 4, 21, 5⟩) := by kernel_rfl
theorem gr13_qt (w : World) (os : OsState) : PySem.W.Fast.tw10110043849684766642 PySem.W.Fast.tw14364793385576792824 PR (w.withFollow "special-get-raises" true) 11 ann0 1 220 (s12 (w.withFollow "special-get-raises" true) os) ⟨(PySem.W.Fast.tw12563942051412417395 gr13_sts env0).wrap doneF deadEnd id id, cE, ⟨14, 9, 14, 110⟩, B0⟩ = some (.next, s16 (w.withFollow "special-get-raises" true) os, cE, ⟨21, 4, 21, 5⟩) := by kernel_rfl
def gr13_P (w : World) : Prop := ∀ os : OsState, segRun treeTable PR w 11 ann0 1 220 (s12 w os).abs (piecesOf gr13_sts env0 cE ⟨14, 9, 14, 110⟩ B0) = some (.next, (s16 w os).abs, cE, ⟨21, 4, 21, 5⟩)
theorem gr13_all (w : World) : gr13_P w := (byRow2 "special-get-raises" (P := fun w => gr13_P w) (fun w => (fun os => startR (gr13_qf w os))) (fun w => (fun os => startR (gr13_qt w os))) w)
noncomputable def o3_52 (P : Params) : Obj := ⟨.type "dict", none, .dict ([⟨PyData.keyHash P ⟨#[95, 95, 110, 97, 109, 101, 95, 95]⟩, .str ⟨#[95, 95, 110, 97, 109, 101, 95, 95]⟩ 165, .str ⟨#[108, 97, 119, 95, 100, 112, 48, 48, 50, 48, 95, 48, 50]⟩ 1763⟩, ⟨PyData.keyHash P ⟨#[95, 95, 100, 111, 99, 95, 95]⟩, .str ⟨#[95, 95, 100, 111, 99, 95, 95]⟩ 166, .none⟩, ⟨PyData.keyHash P ⟨#[95, 95, 112, 97, 99, 107, 97, 103, 101, 95, 95]⟩, .str ⟨#[95, 95, 112, 97, 99, 107, 97, 103, 101, 95, 95]⟩ 167, .none⟩, ⟨PyData.keyHash P ⟨#[95, 95, 108, 111, 97, 100, 101, 114, 95, 95]⟩, .str ⟨#[95, 95, 108, 111, 97, 100, 101, 114, 95, 95]⟩ 168, .builtin "__main__.__loader__#opaque"⟩, ⟨PyData.keyHash P ⟨#[95, 95, 115, 112, 101, 99, 95, 95]⟩, .str ⟨#[95, 95, 115, 112, 101, 99, 95, 95]⟩ 169, .none⟩, ⟨PyData.keyHash P ⟨#[95, 95, 97, 110, 110, 111, 116, 97, 116, 105, 111, 110, 115, 95, 95]⟩, .str ⟨#[95, 95, 97, 110, 110, 111, 116, 97, 116, 105, 111, 110, 115, 95, 95]⟩ 170, .ref 6⟩, ⟨PyData.keyHash P ⟨#[95, 95, 98, 117, 105, 108, 116, 105, 110, 115, 95, 95]⟩, .str ⟨#[95, 95, 98, 117, 105, 108, 116, 105, 110, 115, 95, 95]⟩ 171, .ref 4⟩, ⟨PyData.keyHash P ⟨#[95, 95, 102, 105, 108, 101, 95, 95]⟩, .str ⟨#[95, 95, 102, 105, 108, 101, 95, 95]⟩ 173, .str ⟨#[47, 99, 108, 97, 105, 109, 47, 99, 117, 116, 46, 112, 121]⟩ 172⟩, ⟨PyData.keyHash P ⟨#[95, 95, 99, 97, 99, 104, 101, 100, 95, 95]⟩, .str ⟨#[95, 95, 99, 97, 99, 104, 101, 100, 95, 95]⟩ 174, .none⟩, ⟨PyData.keyHash P ⟨#[67, 82, 76, 70]⟩, .str ⟨#[67, 82, 76, 70]⟩ 188, .str ⟨#[13, 10]⟩ 187⟩, ⟨PyData.keyHash P ⟨#[78, 76]⟩, .str ⟨#[78, 76]⟩ 190, .str ⟨#[10]⟩ 189⟩, ⟨PyData.keyHash P ⟨#[95, 81, 85, 79, 80, 82, 73, 95, 77, 65, 80]⟩, .str ⟨#[95, 81, 85, 79, 80, 82, 73, 95, 77, 65, 80]⟩ 1218, .ref 17⟩, ⟨PyData.keyHash P ⟨#[95, 81, 85, 79, 80, 82, 73, 95, 72, 69, 65, 68, 69, 82, 95, 77, 65, 80]⟩, .str ⟨#[95, 81, 85, 79, 80, 82, 73, 95, 72, 69, 65, 68, 69, 82, 95, 77, 65, 80]⟩ 1219, .ref 22⟩, ⟨PyData.keyHash P ⟨#[95, 81, 85, 79, 80, 82, 73, 95, 66, 79, 68, 89, 95, 77, 65, 80]⟩, .str ⟨#[95, 81, 85, 79, 80, 82, 73, 95, 66, 79, 68, 89, 95, 77, 65, 80]⟩ 1220, .ref 24⟩, ⟨PyData.keyHash P ⟨#[97, 115, 99, 105, 105, 95, 108, 111, 119, 101, 114, 99, 97, 115, 101]⟩, .str ⟨#[97, 115, 99, 105, 105, 95, 108, 111, 119, 101, 114, 99, 97, 115, 101]⟩ 1222, .str ⟨#[97, 98, 99, 100, 101, 102, 103, 104, 105, 106, 107, 108, 109, 110, 111, 112, 113, 114, 115, 116, 117, 118, 119, 120, 121, 122]⟩ 1221⟩, ⟨PyData.keyHash P ⟨#[97, 115, 99, 105, 105, 95, 117, 112, 112, 101, 114, 99, 97, 115, 101]⟩, .str ⟨#[97, 115, 99, 105, 105, 95, 117, 112, 112, 101, 114, 99, 97, 115, 101]⟩ 1224, .str ⟨#[65, 66, 67, 68, 69, 70, 71, 72, 73, 74, 75, 76, 77, 78, 79, 80, 81, 82, 83, 84, 85, 86, 87, 88, 89, 90]⟩ 1223⟩, ⟨PyData.keyHash P ⟨#[97, 115, 99, 105, 105, 95, 108, 101, 116, 116, 101, 114, 115]⟩, .str ⟨#[97, 115, 99, 105, 105, 95, 108, 101, 116, 116, 101, 114, 115]⟩ 1226, .str ⟨#[97, 98, 99, 100, 101, 102, 103, 104, 105, 106, 107, 108, 109, 110, 111, 112, 113, 114, 115, 116, 117, 118, 119, 120, 121, 122, 65, 66, 67, 68, 69, 70, 71, 72, 73, 74, 75, 76, 77, 78, 79, 80, 81, 82, 83, 84, 85, 86, 87, 88, 89, 90]⟩ 1225⟩, ⟨PyData.keyHash P ⟨#[100, 105, 103, 105, 116, 115]⟩, .str ⟨#[100, 105, 103, 105, 116, 115]⟩ 1228, .str ⟨#[48, 49, 50, 51, 52, 53, 54, 55, 56, 57]⟩ 1227⟩, ⟨PyData.keyHash P ⟨#[113, 117, 111, 116, 101]⟩, .str ⟨#[113, 117, 111, 116, 101]⟩ 1734, .ref 37⟩, ⟨PyData.keyHash P ⟨#[95, 81, 85, 79, 80, 82, 73, 95, 66, 79, 68, 89, 95, 69, 78, 67, 79, 68, 69, 95, 77, 65, 80]⟩, .str ⟨#[95, 81, 85, 79, 80, 82, 73, 95, 66, 79, 68, 89, 95, 69, 78, 67, 79, 68, 69, 95, 77, 65, 80]⟩ 1735, .ref 39⟩, ⟨PyData.keyHash P ⟨#[98, 111, 100, 121, 95, 101, 110, 99, 111, 100, 101]⟩, .str ⟨#[98, 111, 100, 121, 95, 101, 110, 99, 111, 100, 101]⟩ 1762, .ref 50⟩, ⟨PyData.keyHash P ⟨#[95, 108, 97, 119, 95, 116, 101, 120, 116]⟩, .str ⟨#[95, 108, 97, 119, 95, 116, 101, 120, 116]⟩ 1775, .ref 57⟩, ⟨PyData.keyHash P ⟨#[95, 108, 97, 119, 95, 114, 101, 97, 100]⟩, .str ⟨#[95, 108, 97, 119, 95, 114, 101, 97, 100]⟩ 1781, .ref 62⟩, ⟨PyData.keyHash P ⟨#[95, 108, 97, 119, 95, 98, 101, 115, 116]⟩, .str ⟨#[95, 108, 97, 119, 95, 98, 101, 115, 116]⟩ 1787, .ref 67⟩, ⟨PyData.keyHash P ⟨#[108, 97, 119]⟩, .str ⟨#[108, 97, 119]⟩ 1793, .ref 72⟩]).toArray 27, #[]⟩
noncomputable def o12_53 (P : Params) : Obj := ⟨.none, none, .fields ([.int 16 0, .int 0 0, .ref 36, .int 22 0, .int 0 0, .ref 49, .int 61 0, .int 0 0, .ref 56, .int 69 0, .int 0 0, .ref 61, .int 79 0, .int 0 0, .ref 66, .int 100 0, .int 0 0, .ref 71]).toArray, #[]⟩
noncomputable def o43_54 (P : Params) : Obj := ⟨.type "tuple", none, .seq ([.int 76 1743, .str ⟨#[10]⟩ 189]).toArray 0, #[]⟩
noncomputable def o44_55 (P : Params) : Obj := ⟨.type "tuple", none, .seq ([]).toArray 0, #[]⟩
noncomputable def o45_56 (P : Params) : Obj := ⟨.none, none, .fields ([]).toArray, #[]⟩
noncomputable def o46_57 (P : Params) : Obj := ⟨.type "tuple", none, .seq ([.str ⟨#[98, 111, 100, 121]⟩ 1747, .str ⟨#[109, 97, 120, 108, 105, 110, 101, 108, 101, 110]⟩ 1748, .str ⟨#[101, 111, 108]⟩ 1749, .str ⟨#[115, 111, 102, 116, 95, 98, 114, 101, 97, 107]⟩ 1750, .str ⟨#[109, 97, 120, 108, 105, 110, 101, 108, 101, 110, 49]⟩ 1751, .str ⟨#[101, 110, 99, 111, 100, 101, 100, 95, 98, 111, 100, 121]⟩ 1752, .str ⟨#[97, 112, 112, 101, 110, 100]⟩ 1753, .str ⟨#[108, 105, 110, 101]⟩ 1754, .str ⟨#[115, 116, 97, 114, 116]⟩ 1755, .str ⟨#[108, 97, 115, 116, 115, 116, 97, 114, 116]⟩ 1756, .str ⟨#[115, 116, 111, 112]⟩ 1757, .str ⟨#[114, 111, 111, 109]⟩ 1758, .str ⟨#[113]⟩ 1759]).toArray 0, #[]⟩
noncomputable def o47_58 (P : Params) : Obj := ⟨.type "tuple", none, .seq ([]).toArray 0, #[]⟩
noncomputable def o48_59 (P : Params) : Obj := ⟨.none, none, .func { name := ⟨#[98, 111, 100, 121, 95, 101, 110, 99, 111, 100, 101]⟩, qualname := ⟨#[98, 111, 100, 121, 95, 101, 110, 99, 111, 100, 101]⟩, params := fArgs (stm 17), body := .stmts (fBody (stm 17)), scope := fScope (stm 17), globals := 0, closure := [], defaults := .none, kwdefaults := .none, doc := .none, pyModule := .none, annotations := none, code := .none, closureTuple := .none, builtins := 0 }, #[]⟩
noncomputable def o49_60 (P : Params) : Obj := ⟨.type "code", none, .fields ([.str ⟨#[98, 111, 100, 121, 95, 101, 110, 99, 111, 100, 101]⟩ 1744, .str ⟨#[98, 111, 100, 121, 95, 101, 110, 99, 111, 100, 101]⟩ 1745, .str ⟨#[47, 99, 108, 97, 105, 109, 47, 99, 117, 116, 46, 112, 121]⟩ 1746, .int 22 0, .int 3 0, .int 0 0, .int 0 0, .int 3 0, .ref 44, .bool true, .int 181 0, .ref 45, .none, .ref 46, .ref 47, .ref 48, .int 1760 0, .int 22 0, .str ⟨#[47, 99, 108, 97, 105, 109, 47, 99, 117, 116, 46, 112, 121]⟩ 1761]).toArray, #[]⟩
noncomputable def o50_61 (P : Params) : Obj := ⟨.type "function", none, .func { name := ⟨#[98, 111, 100, 121, 95, 101, 110, 99, 111, 100, 101]⟩, qualname := ⟨#[98, 111, 100, 121, 95, 101, 110, 99, 111, 100, 101]⟩, params := fArgs (stm 17), body := .stmts (fBody (stm 17)), scope := fScope (stm 17), globals := 3, closure := [], defaults := .ref 43, kwdefaults := .none, doc := .none, pyModule := .str ⟨#[99, 112, 121, 51, 49, 51, 46, 101, 109, 97, 105, 108, 46, 113, 117, 111, 112, 114, 105, 109, 105, 109, 101]⟩ 1229, annotations := none, code := .ref 49, closureTuple := .none, builtins := 0 }, #[]⟩
noncomputable def o51_62 (P : Params) : Obj := ⟨.type "tuple", none, .seq ([]).toArray 0, #[]⟩
noncomputable def o52_63 (P : Params) : Obj := ⟨.none, none, .fields ([]).toArray, #[]⟩
noncomputable def o53_64 (P : Params) : Obj := ⟨.type "tuple", none, .seq ([.str ⟨#[110, 117, 109, 98, 101, 114, 115]⟩ 1768, .str ⟨#[115, 105, 103, 110, 115]⟩ 1769, .str ⟨#[110, 117, 109, 98, 101, 114]⟩ 1770, .str ⟨#[114, 101, 115, 116]⟩ 1771, .str ⟨#[102, 105, 103, 117, 114, 101]⟩ 1772]).toArray 0, #[]⟩
noncomputable def o54_65 (P : Params) : Obj := ⟨.type "tuple", none, .seq ([]).toArray 0, #[]⟩
noncomputable def o55_66 (P : Params) : Obj := ⟨.none, none, .func { name := ⟨#[95, 108, 97, 119, 95, 116, 101, 120, 116]⟩, qualname := ⟨#[95, 108, 97, 119, 95, 116, 101, 120, 116]⟩, params := fArgs (stm 19), body := .stmts (fBody (stm 19)), scope := fScope (stm 19), globals := 0, closure := [], defaults := .none, kwdefaults := .none, doc := .none, pyModule := .none, annotations := none, code := .none, closureTuple := .none, builtins := 0 }, #[]⟩
noncomputable def o56_67 (P : Params) : Obj := ⟨.type "code", none, .fields ([.str ⟨#[95, 108, 97, 119, 95, 116, 101, 120, 116]⟩ 1765, .str ⟨#[95, 108, 97, 119, 95, 116, 101, 120, 116]⟩ 1766, .str ⟨#[47, 99, 108, 97, 105, 109, 47, 99, 117, 116, 46, 112, 121]⟩ 1767, .int 61 0, .int 1 0, .int 0 0, .int 0 0, .int 3 0, .ref 51, .bool true, .int 181 0, .ref 52, .none, .ref 53, .ref 54, .ref 55, .int 1773 0, .int 61 0, .str ⟨#[47, 99, 108, 97, 105, 109, 47, 99, 117, 116, 46, 112, 121]⟩ 1774]).toArray, #[]⟩
noncomputable def o57_68 (P : Params) : Obj := ⟨.type "function", none, .func { name := ⟨#[95, 108, 97, 119, 95, 116, 101, 120, 116]⟩, qualname := ⟨#[95, 108, 97, 119, 95, 116, 101, 120, 116]⟩, params := fArgs (stm 19), body := .stmts (fBody (stm 19)), scope := fScope (stm 19), globals := 3, closure := [], defaults := .none, kwdefaults := .none, doc := .none, pyModule := .str ⟨#[108, 97, 119, 95, 100, 112, 48, 48, 50, 48, 95, 48, 50]⟩ 1763, annotations := none, code := .ref 56, closureTuple := .none, builtins := 0 }, #[]⟩
noncomputable def o58_69 (P : Params) : Obj := ⟨.type "tuple", none, .seq ([]).toArray 0, #[]⟩
noncomputable def o59_70 (P : Params) : Obj := ⟨.none, none, .fields ([]).toArray, #[]⟩
noncomputable def o60_71 (P : Params) : Obj := ⟨.none, none, .func { name := ⟨#[95, 108, 97, 119, 95, 114, 101, 97, 100]⟩, qualname := ⟨#[95, 108, 97, 119, 95, 114, 101, 97, 100]⟩, params := fArgs (stm 20), body := .stmts (fBody (stm 20)), scope := fScope (stm 20), globals := 0, closure := [], defaults := .none, kwdefaults := .none, doc := .none, pyModule := .none, annotations := none, code := .none, closureTuple := .none, builtins := 0 }, #[]⟩
noncomputable def o61_72 (P : Params) : Obj := ⟨.type "code", none, .fields ([.str ⟨#[95, 108, 97, 119, 95, 114, 101, 97, 100]⟩ 1776, .str ⟨#[95, 108, 97, 119, 95, 114, 101, 97, 100]⟩ 1777, .str ⟨#[47, 99, 108, 97, 105, 109, 47, 99, 117, 116, 46, 112, 121]⟩ 1778, .int 69 0, .int 1 0, .int 0 0, .int 0 0, .int 3 0, .ref 58, .bool true, .int 181 0, .ref 59, .none, .none, .none, .ref 60, .int 1779 0, .int 69 0, .str ⟨#[47, 99, 108, 97, 105, 109, 47, 99, 117, 116, 46, 112, 121]⟩ 1780]).toArray, #[]⟩
noncomputable def o62_73 (P : Params) : Obj := ⟨.type "function", none, .func { name := ⟨#[95, 108, 97, 119, 95, 114, 101, 97, 100]⟩, qualname := ⟨#[95, 108, 97, 119, 95, 114, 101, 97, 100]⟩, params := fArgs (stm 20), body := .stmts (fBody (stm 20)), scope := fScope (stm 20), globals := 3, closure := [], defaults := .none, kwdefaults := .none, doc := .none, pyModule := .str ⟨#[108, 97, 119, 95, 100, 112, 48, 48, 50, 48, 95, 48, 50]⟩ 1763, annotations := none, code := .ref 61, closureTuple := .none, builtins := 0 }, #[]⟩
noncomputable def o63_74 (P : Params) : Obj := ⟨.type "tuple", none, .seq ([]).toArray 0, #[]⟩
noncomputable def o64_75 (P : Params) : Obj := ⟨.none, none, .fields ([]).toArray, #[]⟩
noncomputable def o65_76 (P : Params) : Obj := ⟨.none, none, .func { name := ⟨#[95, 108, 97, 119, 95, 98, 101, 115, 116]⟩, qualname := ⟨#[95, 108, 97, 119, 95, 98, 101, 115, 116]⟩, params := fArgs (stm 21), body := .stmts (fBody (stm 21)), scope := fScope (stm 21), globals := 0, closure := [], defaults := .none, kwdefaults := .none, doc := .none, pyModule := .none, annotations := none, code := .none, closureTuple := .none, builtins := 0 }, #[]⟩
noncomputable def o66_77 (P : Params) : Obj := ⟨.type "code", none, .fields ([.str ⟨#[95, 108, 97, 119, 95, 98, 101, 115, 116]⟩ 1782, .str ⟨#[95, 108, 97, 119, 95, 98, 101, 115, 116]⟩ 1783, .str ⟨#[47, 99, 108, 97, 105, 109, 47, 99, 117, 116, 46, 112, 121]⟩ 1784, .int 79 0, .int 2 0, .int 0 0, .int 0 0, .int 3 0, .ref 63, .bool true, .int 181 0, .ref 64, .none, .none, .none, .ref 65, .int 1785 0, .int 79 0, .str ⟨#[47, 99, 108, 97, 105, 109, 47, 99, 117, 116, 46, 112, 121]⟩ 1786]).toArray, #[]⟩
noncomputable def o67_78 (P : Params) : Obj := ⟨.type "function", none, .func { name := ⟨#[95, 108, 97, 119, 95, 98, 101, 115, 116]⟩, qualname := ⟨#[95, 108, 97, 119, 95, 98, 101, 115, 116]⟩, params := fArgs (stm 21), body := .stmts (fBody (stm 21)), scope := fScope (stm 21), globals := 3, closure := [], defaults := .none, kwdefaults := .none, doc := .none, pyModule := .str ⟨#[108, 97, 119, 95, 100, 112, 48, 48, 50, 48, 95, 48, 50]⟩ 1763, annotations := none, code := .ref 66, closureTuple := .none, builtins := 0 }, #[]⟩
noncomputable def o68_79 (P : Params) : Obj := ⟨.type "tuple", none, .seq ([]).toArray 0, #[]⟩
noncomputable def o69_80 (P : Params) : Obj := ⟨.none, none, .fields ([]).toArray, #[]⟩
noncomputable def o70_81 (P : Params) : Obj := ⟨.none, none, .func { name := ⟨#[108, 97, 119]⟩, qualname := ⟨#[108, 97, 119]⟩, params := fArgs (stm 22), body := .stmts (fBody (stm 22)), scope := fScope (stm 22), globals := 0, closure := [], defaults := .none, kwdefaults := .none, doc := .none, pyModule := .none, annotations := none, code := .none, closureTuple := .none, builtins := 0 }, #[]⟩
noncomputable def o71_82 (P : Params) : Obj := ⟨.type "code", none, .fields ([.str ⟨#[108, 97, 119]⟩ 1788, .str ⟨#[108, 97, 119]⟩ 1789, .str ⟨#[47, 99, 108, 97, 105, 109, 47, 99, 117, 116, 46, 112, 121]⟩ 1790, .int 100 0, .int 1 0, .int 0 0, .int 0 0, .int 3 0, .ref 68, .bool true, .int 181 0, .ref 69, .none, .none, .none, .ref 70, .int 1791 0, .int 100 0, .str ⟨#[47, 99, 108, 97, 105, 109, 47, 99, 117, 116, 46, 112, 121]⟩ 1792]).toArray, #[]⟩
noncomputable def o72_83 (P : Params) : Obj := ⟨.type "function", none, .func { name := ⟨#[108, 97, 119]⟩, qualname := ⟨#[108, 97, 119]⟩, params := fArgs (stm 22), body := .stmts (fBody (stm 22)), scope := fScope (stm 22), globals := 3, closure := [], defaults := .none, kwdefaults := .none, doc := .none, pyModule := .str ⟨#[108, 97, 119, 95, 100, 112, 48, 48, 50, 48, 95, 48, 50]⟩ 1763, annotations := none, code := .ref 71, closureTuple := .none, builtins := 0 }, #[]⟩
noncomputable def tr_s22 (P : Params) : BT := (.node (boot_o_0 P) (.node (boot_o_1 P) (.node (o3_52 P) (.node (boot_o_7 P) (.node (o15_10 P) (.node (o31_40 P) (.node (o63_74 P) .nil .nil) .nil) (.node (o47_58 P) .nil .nil)) (.node (o23_19 P) (.node (o39_48 P) (.node (o71_82 P) .nil .nil) .nil) (.node (o55_66 P) .nil .nil))) (.node (o11_0 P) (.node (o19_14 P) (.node (o35_44 P) (.node (o67_78 P) .nil .nil) .nil) (.node (o51_62 P) .nil .nil)) (.node (o27_28 P) (.node (o43_54 P) .nil .nil) (.node (o59_70 P) .nil .nil)))) (.node (boot_o_5 P) (.node (boot_o_9 P) (.node (o17_12 P) (.node (o33_42 P) (.node (o65_76 P) .nil .nil) .nil) (.node (o49_60 P) .nil .nil)) (.node (o25_26 P) (.node (o41_50 P) .nil .nil) (.node (o57_68 P) .nil .nil))) (.node (o13_2 P) (.node (o21_17 P) (.node (o37_46 P) (.node (o69_80 P) .nil .nil) .nil) (.node (o53_64 P) .nil .nil)) (.node (o29_36 P) (.node (o45_56 P) .nil .nil) (.node (o61_72 P) .nil .nil))))) (.node (boot_o_2 P) (.node (boot_o_4 P) (.node (boot_o_8 P) (.node (o16_11 P) (.node (o32_41 P) (.node (o64_75 P) .nil .nil) .nil) (.node (o48_59 P) .nil .nil)) (.node (o24_34 P) (.node (o40_49 P) (.node (o72_83 P) .nil .nil) .nil) (.node (o56_67 P) .nil .nil))) (.node (o12_53 P) (.node (o20_15 P) (.node (o36_45 P) (.node (o68_79 P) .nil .nil) .nil) (.node (o52_63 P) .nil .nil)) (.node (o28_35 P) (.node (o44_55 P) .nil .nil) (.node (o60_71 P) .nil .nil)))) (.node (boot_o_6 P) (.node (boot_o_10 P) (.node (o18_13 P) (.node (o34_43 P) (.node (o66_77 P) .nil .nil) .nil) (.node (o50_61 P) .nil .nil)) (.node (o26_27 P) (.node (o42_51 P) .nil .nil) (.node (o58_69 P) .nil .nil))) (.node (o14_3 P) (.node (o22_29 P) (.node (o38_47 P) (.node (o70_81 P) .nil .nil) .nil) (.node (o54_65 P) .nil .nil)) (.node (o30_37 P) (.node (o46_57 P) .nil .nil) (.node (o62_73 P) .nil .nil))))))
noncomputable def s22 (w : World) (os : OsState) : SharedT := ⟨tr_s22 w.params, 73, life0, Array.mk [], boot_drawn, 1794, os⟩
noncomputable def gr17_sts : List Stmt := [stm 17, stm 18, stm 19, stm 20, stm 21, stm 22]
theorem gr17_q (w : World) (os : OsState) : PySem.W.Fast.tw10110043849684766642 PySem.W.Fast.tw14364793385576792824 PR w 11 ann0 1 166 (s16 w os) ⟨(PySem.W.Fast.tw12563942051412417395 gr17_sts env0).wrap doneF deadEnd id id, cE, ⟨21, 4, 21, 5⟩, B0⟩ = some (.next, s22 w os, cE, ⟨100, 0, 120, 64⟩) := by kernel_rfl
def gr17_P (w : World) : Prop := ∀ os : OsState, segRun treeTable PR w 11 ann0 1 166 (s16 w os).abs (piecesOf gr17_sts env0 cE ⟨21, 4, 21, 5⟩ B0) = some (.next, (s22 w os).abs, cE, ⟨100, 0, 120, 64⟩)
theorem gr17_all (w : World) : gr17_P w := (fun os => startR (gr17_q w os))
theorem fin1 (w : World) (os : OsState) : topRun treeTable PR w 11 ann0 2 (s22 w os).abs ⟨doneF .next, cE, ⟨100, 0, 120, 64⟩, B0⟩ = some (s22 w os).abs := by kernel_rfl
theorem body_cut : behindTheImports PR = (gr0_sts ++ (lp2_sts ++ (gr3_sts ++ (lp10_sts ++ (gr11_sts ++ (lp12_sts ++ (gr13_sts ++ (gr17_sts ++ [])))))))) := by kernel_rfl
theorem run1 (w : World) (os : OsState) : topRun treeTable PR w 11 ann0 17486 (st0 w os) (topStub PR) = some (s22 w os).abs := by
  refine go_top (n := 12) (N := 17474) (pre1 w os) ?_
  refine piece_block (n := 1) (N := 17473) (block1 w os) ?_
  rw [body_cut]
  exact (piece_app (n := 19) (l := gr0_sts) (gr0_all w os) (piece_app (n := 9552) (l := lp2_sts) (lp2_all w os) (piece_app (n := 109) (l := gr3_sts) (gr3_all w os) (piece_app (n := 3077) (l := lp10_sts) (lp10_all w os) (piece_app (n := 25) (l := gr11_sts) (gr11_all w os) (piece_app (n := 4303) (l := lp12_sts) (lp12_all w os) (piece_app (n := 220) (l := gr13_sts) (gr13_all w os) (piece_app (n := 166) (l := gr17_sts) (gr17_all w os) (piece_nil (fin1 w os))))))))))
-- M 17486 n0 11 last s22
noncomputable def Hf (P : Params) : Heap := ⟨Array.mk [boot_o_0 P, boot_o_1 P, boot_o_2 P, o3_52 P, boot_o_4 P, boot_o_5 P, boot_o_6 P, boot_o_7 P, boot_o_8 P, boot_o_9 P, boot_o_10 P, o11_0 P, o12_53 P, o13_2 P, o14_3 P, o15_10 P, o16_11 P, o17_12 P, o18_13 P, o19_14 P, o20_15 P, o21_17 P, o22_29 P, o23_19 P, o24_34 P, o25_26 P, o26_27 P, o27_28 P, o28_35 P, o29_36 P, o30_37 P, o31_40 P, o32_41 P, o33_42 P, o34_43 P, o35_44 P, o36_45 P, o37_46 P, o38_47 P, o39_48 P, o40_49 P, o41_50 P, o42_51 P, o43_54 P, o44_55 P, o45_56 P, o46_57 P, o47_58 P, o48_59 P, o49_60 P, o50_61 P, o51_62 P, o52_63 P, o53_64 P, o54_65 P, o55_66 P, o56_67 P, o57_68 P, o58_69 P, o59_70 P, o60_71 P, o61_72 P, o62_73 P, o63_74 P, o64_75 P, o65_76 P, o66_77 P, o67_78 P, o68_79 P, o69_80 P, o70_81 P, o71_82 P, o72_83 P], life0⟩
noncomputable def sF (w : World) (os : OsState) : Shared := ⟨Hf w.params, Array.mk [], boot_drawn, 1794, os⟩
theorem sF_eq (w : World) (os : OsState) : (s22 w os).abs = sF w os := by kernel_rfl
theorem run1F (w : World) (os : OsState) : topRun treeTable PR w 11 ann0 17486 (st0 w os) (topStub PR) = some (sF w os) := by rw [run1, sF_eq]
end Mine
end
section
set_option maxRecDepth 100000
set_option maxHeartbeats 4000000
namespace Mine
open PySem PySem.W PySem.Calls PyProof.Rows
noncomputable def vq : Program := { PR with main := { PR.main with body := [stm 22] } }
noncomputable def looseN : List Str := ["CRLF", "NL", "_QUOPRI_MAP", "_QUOPRI_HEADER_MAP", "_QUOPRI_BODY_MAP", "ascii_lowercase", "ascii_uppercase", "ascii_letters", "digits", "quote", "_QUOPRI_BODY_ENCODE_MAP", "body_encode", "_law_text", "_law_read", "_law_best"]
theorem opens1 (w : World) : importEnds PySem.W.Fast.tw14364793385576792824 (opening PR) w 600 (start (opening PR)).1 (start (opening PR)).2 = some ⟨boot_heap w.params, Array.mk [], boot_drawn, boot_toks, (start (opening PR)).1.os⟩ := by kernel_rfl
theorem open1 : ∀ w : World, (fencedOpening treeTable PR w 34972).map (fun s => (s.heap, s.gens, s.drawn, s.toks)) = some (boot_heap w.params, Array.mk [], boot_drawn, boot_toks) :=
  open_cut (M := 600) (by rw [PySem.W.Fast.te14364793385576792824]; exact opens1) (by decide) (fun _ => by kernel_rfl)
theorem size1 (w : World) : ((boot_heap w.params).isNs mainGlobals && (Array.mk [] : Array GenState).size == 0, (boot_heap w.params).objs.size, (boot_heap w.params).nsMap mainGlobals "__annotations__") = (true, 11, ann0) := by
  rw [PySem.W.Fast.te8920871248978507458]; kernel_rfl
theorem look_a (w : World) (os : OsState) : (staticsOk (importedModules PR.main.body) (boot_heap w.params) (Hf w.params) && namesBound PR (Hf w.params) && gensDone (sF w os) && laidKept (boot_heap w.params) (Hf w.params)) = true := by
  kernel_rfl
theorem look_b (w : World) (os : OsState) : PySem.W.Fast.tw4187177175401517315 vq looseN (importedModules PR.main.body) (fun s => recOk [] s) true (sF w os) = openGood vq looseN := by
  kernel_rfl
theorem left1 : LeftO PR vq looseN (fun s => recOk [] s) (fun s => s.heap) (fun w => Hf w.params) 34972 :=
  LeftO.of_pieces (H₀ := boot_heap) (H₁ := Hf) (gs₀ := Array.mk []) (gs₁ := Array.mk []) (d₀ := boot_drawn) (d₁ := boot_drawn) (k₀ := boot_toks) (m₀ := 11) (ann := ann0) (M := 17486) open1 size1 run1F (by decide)
    (fun w => funext fun os => Prod.ext (look_a w os) (Prod.ext (by
      show openSeen vq looseN (importedModules PR.main.body) (fun s => recOk [] s) true (sF w os) = openGood vq looseN
      rw [PySem.W.Fast.te4187177175401517315]; exact look_b w os) rfl))
end Mine
end
section
set_option maxRecDepth 100000
set_option maxHeartbeats 4000000
namespace Mine
open PySem PySem.W PySem.Calls PyProof.Rows

/-- the objects that the top has left stand in the heap -/
def TopH (w : World) (h : Heap) : Prop := ∀ b o, (Hf w.params).get? b = some o → h.get? b = some o
theorem TopH.keeps {w : World} {h h' : Heap} (Y : TopH w h) (k : ∀ b o, h.get? b = some o → h'.get? b = some o) : TopH w h' := fun b o e => k b o (Y b o e)

abbrev TopT (mean : ExcName → Option Value) (mg mb : Str → Option Value) (h : Heap) : Prop := Top vq (looseW vq looseN) mean mg mb h

structure Ext (s s' : Shared) : Prop where
  keep : ∀ b o, s.heap.get? b = some o → s'.heap.get? b = some o
  same : ∃ h tk, s' = { s with heap := h, toks := tk }
theorem Ext.refl (s : Shared) : Ext s s := ⟨fun _ _ e => e, ⟨s.heap, s.toks, rfl⟩⟩
theorem Ext.trans {s s' s'' : Shared} (a : Ext s s') (b : Ext s' s'') : Ext s s'' := by
  obtain ⟨k, h, t, rfl⟩ := a
  obtain ⟨k', h', t', rfl⟩ := b
  exact ⟨fun x o e => k' x o (k x o e), ⟨h', t', rfl⟩⟩
theorem Ext.of_fr {s s' : Shared} {L : Addr} {m : Str → Option Value} (F : Fr s.heap L s'.heap m) (hs : ∃ h tk, s' = { s with heap := h, toks := tk }) : Ext s s' := ⟨F.keep, hs⟩
theorem fr_ext {h₀ : Heap} {L : Addr} {m : Str → Option Value} {s s' : Shared} (F : Fr h₀ L s.heap m) (x : Ext s s') : Fr h₀ L s'.heap m :=
  ⟨F.ns.at' fun o e => x.keep _ o e, fun b o e => x.keep b o (F.keep b o e), F.above⟩
theorem news_ext {h₀ : Heap} {L : Addr} {news : List (Addr × Obj)} {s s' : Shared} (N : News h₀ L s.heap news) (x : Ext s s') : News h₀ L s'.heap news :=
  fun p hp => ⟨x.keep _ _ (N p hp).1, (N p hp).2⟩
theorem fr_top {w : World} {h₀ h : Heap} {L : Addr} {m : Str → Option Value} (F : Fr h₀ L h m) (Y : TopH w h₀) : TopH w h := Y.keeps F.keep

/-- what is around a call of ours -/
structure Room (A : Around) (n : Nat) : Prop where
  hh : A.handled = none
  hd : A.depth + n < recursionLimit

/-- what is around the body of a def that is called under A -/
structure In1 (A A' : Around) : Prop where
  hh : A'.handled = A.handled
  hd : A'.depth = A.depth + 1
  hu : A'.units = A.units + 3
/-- a call of a def without cells -/
theorem call_def {prog : Program} {w : World} {A : Around} {s : Shared} {Q : Value → Shared → Prop} {E : Value → Shared → Prop} {a : Addr} {o : Obj} {fd : FuncData} {body : List Stmt} {args : List Value} {binds : List (Str × Value)}
    (hroom : A.depth < recursionLimit) (ho : s.heap.get? a = some o) (hdata : o.data = .func fd) (hlim : s.heap.NoLimit) (hcd : s.heap.CodeRec fd.code fd.qualname)
    (hbody : fd.body = .stmts body) (henv : ∀ L, callEnv fd L a = envOf fd.qualname fd.scope L a fd.code) (hbind : BindsTo s fd ⟨args, []⟩ binds)
    (hcell : ∀ x ∈ fd.scope.names, x.2 ≠ .cell) (hloc : ∀ x ∈ binds, fd.scope.names.lookup x.1 = some .local)
    (h : ∀ L s₁ A', Fr s.heap L s₁.heap (fun x => binds.reverse.lookup x) → (∃ h tk, s₁ = { s with heap := h, toks := tk }) → In1 A A' →
      wpAny (model prog w) A' (execs body (envOf fd.qualname fd.scope L a fd.code)) (fun f s' => Q (match f with | .ret v => v | _ => .none) s') (fun _ _ => False) s₁)
    (hco : fd.scope.isCoroutine = false) (hgen : fd.scope.isGenerator = false) (hk : fd.scope.kind = .function) :
    wpAny (model prog w) A (call (.ref a) args) Q E s := by
  refine wpAny_call (codeAny_call_def (body := body) hroom ho hdata hlim hcd hbody hbind hcell hloc (fun h₁ hns hk₁ => ?_) hco hgen hk)
  rw [henv]
  exact wpAny_mono (h s.heap.objs.size _ _ ⟨hns, hk₁, Nat.le_refl _⟩ ⟨_, _, rfl⟩ ⟨rfl, rfl, rfl⟩) (fun f s' q => q) (fun _ _ x => x.elim)
abbrev mp (l : List (Str × Value)) : Str → Option Value := fun y => l.lookup y
abbrev SameBut' (s s' : Shared) : Prop := ∃ h tk, s' = { s with heap := h, toks := tk }
end Mine
end
section
set_option maxRecDepth 100000
set_option maxHeartbeats 4000000
namespace Mine
open PySem PySem.W PySem.Calls PyProof.Rows
noncomputable def gN (P : Params) : Str → Option Value := (Hf P).nsMap mainGlobals
theorem isNs_Hf (P : Params) : (Hf P).isNs mainGlobals = true := by kernel_rfl
theorem TopH.ns {w : World} {h : Heap} (Y : TopH w h) : h.Ns mainGlobals (gN w.params) := by
  obtain ⟨o, es, ep, ho, r⟩ := Heap.Ns.of_isNs (isNs_Hf w.params)
  exact ⟨o, es, ep, Y _ _ ho, r⟩
theorem g_CRLF (P : Params) : gN P "CRLF" = some (.str "\r\n" 187) := by kernel_rfl
theorem g_MAP (P : Params) : gN P "_QUOPRI_MAP" = some (.ref 17) := by kernel_rfl
theorem g_BEM (P : Params) : gN P "_QUOPRI_BODY_ENCODE_MAP" = some (.ref 39) := by kernel_rfl
theorem g_quote (P : Params) : gN P "quote" = some (.ref 37) := by kernel_rfl
theorem g_be (P : Params) : gN P "body_encode" = some (.ref 50) := by kernel_rfl
theorem g_text (P : Params) : gN P "_law_text" = some (.ref 57) := by kernel_rfl
theorem g_read (P : Params) : gN P "_law_read" = some (.ref 62) := by kernel_rfl
theorem g_best (P : Params) : gN P "_law_best" = some (.ref 67) := by kernel_rfl
theorem g_law (P : Params) : gN P "law" = some (.ref 72) := by kernel_rfl
end Mine
end
section
set_option maxRecDepth 100000
set_option maxHeartbeats 1000000
namespace Mine
open PySem PySem.Calls PyProof.Rows PySem.Builtin PySem.Builtin.Str
theorem gm_translate {M : Model} {A : Around} {E : Value → Shared → Prop} {s : Shared} {x : Str} {t : Tok} {pl : Sem Bool} {Q : Value × List Value → Shared → Prop} (h : Q (.builtin "str.translate", [.str x t]) s) :
    wpAny M A (getMethod (.str x t) "translate" pl) Q E s := by
  with_reducible exact GM.of (.str x t) (typeIs_str _ _ _) F.slot_str_translate F.type_str_translate GM.noRef h
theorem lookup_text {prog : Program} {w : World} {A : Around} {E : Value → Shared → Prop} {s : Shared} {a : Addr} {vs : List Value} (hl : s.heap.IsList a vs.toArray) {c : Nat} {y : Str} {t : Tok} (hc : vs[c]? = some (.str y t)) (hlt : c < 1000000)
    {Q : Mapped → Shared → Prop} (h : ∀ tk, Q (.text y) { s with toks := tk }) : wpAny (model prog w) A (tableLookup (.ref a) c) Q E s := by
  unfold tableLookup
  refine wpAny_bind (wpAny_attempt (wpAny_bind (wpAny_mkInt ?_)))
  refine wpAny_getItem_list (items := vs.toArray) (l := a) (k := (c : Int)) (x := .str y t) hl (by omega) (by omega) (by simpa using hc) ?_
  show wpAny _ _ (pure (Mapped.text y)) _ _ _
  exact wpAny_pure (h _)
noncomputable def trS (y : Nat → Str) (l : List Nat) : List Nat := l.flatMap fun c => (y c).cps.toList
theorem foldl_cps (l : List Str) (t : Str) : (t :: l).reverse.foldl (fun (acc : Array Nat) p => acc ++ p.cps) #[] = l.reverse.foldl (fun (acc : Array Nat) p => acc ++ p.cps) #[] ++ t.cps := by
  simp [List.foldl_append]
structure TrI (y : Nat → Str) (x : Str) (s : Shared) (rest : List Nat) (b : List Str × Nat × Bool × List (Nat × Option Nat) × Bool) (s' : Shared) : Prop where
  st : ∃ tk, s' = { s with toks := tk }
  pre : ∃ pre, x.cps.toList = pre ++ rest ∧ b.1.reverse.foldl (fun (acc : Array Nat) p => acc ++ p.cps) #[] = (trS y pre).toArray ∧ b.2.1 = (trS y pre).length
  drop : b.2.2.2.2 = false
  known : ∀ p ∈ b.2.2.2.1, ∃ d, p.2 = some d ∧ y p.1 = ⟨#[d]⟩
theorem trS_len {y : Nat → Str} (hy : ∀ c, c < 256 → (y c).length ≤ 3) : ∀ l : List Nat, (∀ c ∈ l, c < 256) → (trS y l).length ≤ 3 * l.length
  | [], _ => by simp [trS]
  | c :: l, h => by
    have := trS_len hy l fun d hd => h d (.tail _ hd)
    have h1 := hy c (h c (.head _))
    unfold Str.length at h1
    simp only [trS, List.flatMap_cons, List.length_append, List.length_cons, Array.length_toList] at this ⊢
    omega
theorem trS_snoc (y : Nat → Str) (l : List Nat) (c : Nat) : trS y (l ++ [c]) = trS y l ++ (y c).cps.toList := by simp [trS]
theorem TrI.push {y : Nat → Str} {x : Str} {s : Shared} {c : Nat} {rest : List Nat} {b : List Str × Nat × Bool × List (Nat × Option Nat) × Bool} {s' s'' : Shared} (I : TrI y x s (c :: rest) b s') (f : Bool) (known : List (Nat × Option Nat)) (hk : ∀ p ∈ known, ∃ d, p.2 = some d ∧ y p.1 = ⟨#[d]⟩)
    {t : Str} (ht : t = y c) (hs : ∃ tk, s'' = { s' with toks := tk }) : TrI y x s rest (t :: b.1, b.2.1 + t.length, f, known, false) s'' := by
  obtain ⟨⟨tk, rfl⟩, ⟨pre, h1, h2, h3⟩, hd, _⟩ := I
  obtain ⟨tk', rfl⟩ := hs
  subst ht
  refine ⟨⟨tk', rfl⟩, ⟨pre ++ [c], by simp [h1], ?_, ?_⟩, rfl, hk⟩
  · rw [foldl_cps, h2, trS_snoc]
    simp
  · rw [trS_snoc, h3, List.length_append, Array.length_toList]; rfl
theorem str_one {x : Str} (h : x.cps.size = 1) : ∃ d, x = ⟨#[d]⟩ := by
  obtain ⟨⟨l⟩⟩ := x
  match l, h with
  | [d], _ => exact ⟨d, rfl⟩
theorem mem_of_lookup {c : Nat} {a : Option Nat} : ∀ {l : List (Nat × Option Nat)}, l.lookup c = some a → (c, a) ∈ l
  | [], h => by cases h
  | (k, v) :: l, h => by
    rw [List.lookup_cons] at h
    cases hk : c == k with
    | true => rw [hk] at h; cases h; rw [eq_of_beq hk]; exact .head _
    | false => rw [hk] at h; exact .tail _ (mem_of_lookup h)
theorem translate_tree {prog : Program} {w : World} {A : Around} {E : Value → Shared → Prop} {s : Shared} {a : Addr} {vs : List Value} {y : Nat → Str} {x : Str} {t : Tok} (hl : s.heap.IsList a vs.toArray)
    (hvs : ∀ c, c < 256 → ∃ t, vs[c]? = some (.str (y c) t)) (hy : ∀ c, c < 256 → (y c).length ≤ 3) (hx : ∀ c ∈ x.cps.toList, c < 256) (hlen : x.length ≤ 4000) (h0 : x.length ≠ 0)
    {Q : Fin → Shared → Prop} (h : ∀ tok tk, Q (.done (.ret (.str ⟨(trS y x.cps.toList).toArray⟩ tok))) { s with toks := tk }) :
    wpAny (model prog w) A («str.translate» ⟨[.str x t, .ref a], []⟩) Q E s := by
  unfold «str.translate»
  refine wpAny_bind ?_
  show wpAny _ _ (pure (Value.str x t, x, Value.ref a)) _ _ _
  refine wpAny_pure ?_
  dsimp only
  rw [if_neg (by simpa using h0)]
  refine wpAny_bind ?_
  rw [← Array.forIn_toList]
  refine wpAny_forIn_list _ (TrI y x s) _ ?_ ?_ _ _ ?_
  · intro c rest b s' I
    obtain ⟨⟨tk, rfl⟩, ⟨pre, h1, h2, h3⟩, hd, hk⟩ := id I
    have hc : c < 256 := hx c (by rw [h1]; simp)
    have hpre : (trS y pre).length ≤ 3 * 4000 := by
      have := trS_len hy pre fun d hd' => hx d (by rw [h1]; simp [hd'])
      have hl' : pre.length ≤ x.length := by
        have := congrArg List.length h1
        simp only [Array.length_toList, List.length_append, List.length_cons] at this
        show pre.length ≤ x.cps.size; omega
      omega
    obtain ⟨tc, hvc⟩ := hvs c hc
    obtain ⟨pieces, total, fast, known, ad⟩ := b
    dsimp only at h3 hd hk h2 ⊢
    subst hd
    have htl : tooLong total = false := by unfold tooLong; rw [sizeLine_eq]; simp; omega
    rw [if_neg (by rw [htl]; decide)]
    cases fast with
    | false =>
      simp only [Bool.false_eq_true, if_false]
      refine wpAny_bind (lookup_text (s := { s with toks := tk }) hl hvc (by omega) fun tk'' => ?_)
      exact wpAny_pure (I.push false known hk rfl ⟨tk'', rfl⟩)
    | true =>
      simp only [Bool.false_eq_true, if_false, if_true]
      cases hlk : List.lookup c known with
      | some q =>
        obtain ⟨d, hq, hyd⟩ := hk _ (mem_of_lookup hlk)
        dsimp only at hq hyd
        subst hq
        show wpAny _ _ (pure (ForInStep.yield ((⟨#[d]⟩ : Str) :: pieces, total + 1, true, known, false))) _ _ _
        exact wpAny_pure (I.push true known hk hyd.symm ⟨tk, rfl⟩)
      | none =>
        refine wpAny_bind (lookup_text (s := { s with toks := tk }) hl hvc (by omega) fun tk'' => ?_)
        dsimp only
        by_cases hone : ((y c).length == 1 && (y c).cps.all fun x => decide (x < 128)) = true
        · rw [if_pos hone]
          have hl1 : (y c).cps.size = 1 := by
            have := (Bool.and_eq_true_iff.mp hone).1
            simpa [Str.length] using this
          obtain ⟨d, hd⟩ := str_one hl1
          have hq : (y c).cps[0]? = some d := by rw [hd]; rfl
          rw [hq]
          show wpAny _ _ (pure (ForInStep.yield ((⟨#[d]⟩ : Str) :: pieces, total + 1, true, (c, some d) :: known, false))) _ _ _
          refine wpAny_pure (I.push true ((c, some d) :: known) ?_ hd.symm ⟨tk'', rfl⟩)
          intro p hp
          rcases List.mem_cons.mp hp with rfl | hp
          · exact ⟨d, rfl, hd⟩
          · exact hk p hp
        · rw [if_neg hone]
          refine wpAny_bind (wpAny_pure ?_)
          dsimp only
          refine wpAny_bind (wpAny_rule ?_)
          refine wpAny_bind (lookup_text (s := { s with toks := tk'' }) hl hvc (by omega) fun tk3 => ?_)
          exact wpAny_pure (I.push false known hk rfl ⟨tk3, rfl⟩)
  · intro b s' I
    obtain ⟨⟨tk, rfl⟩, ⟨pre, h1, h2, h3⟩, hd, hk⟩ := I
    rw [List.append_nil] at h1
    subst h1
    have hpre := trS_len hy _ hx
    have hl' : x.cps.toList.length ≤ 4000 := by rw [Array.length_toList]; exact hlen
    have htl : tooLong b.2.1 = false := by unfold tooLong; rw [sizeLine_eq, h3]; simp; omega
    show wpAny _ _ (if tooLong b.2.1 = true then _ else _) _ _ _
    rw [if_neg (by rw [htl]; decide), h2]
    exact wpAny_bind (wpAny_mkStr (wpAny_pure (h _ _)) (by show (trS y x.cps.toList).toArray.size ≤ _; rw [sizeLine_eq, List.size_toArray]; omega))
  · exact ⟨⟨s.toks, rfl⟩, ⟨[], rfl, rfl, rfl⟩, rfl, fun _ hp => nomatch hp⟩
theorem translate_call {prog : Program} {w : World} {A : Around} {E : Value → Shared → Prop} {s : Shared} {a : Addr} {vs : List Value} {y : Nat → Str} {x : Str} {t : Tok} (hl : s.heap.IsList a vs.toArray)
    (hvs : ∀ c, c < 256 → ∃ t, vs[c]? = some (.str (y c) t)) (hy : ∀ c, c < 256 → (y c).length ≤ 3) (hx : ∀ c ∈ x.cps.toList, c < 256) (hlen : x.length ≤ 4000) (h0 : x.length ≠ 0)
    {Q : Value → Shared → Prop} (h : ∀ tok tk, Q (.str ⟨(trS y x.cps.toList).toArray⟩ tok) { s with toks := tk }) :
    wpAny (model prog w) A (call (.builtin "str.translate") [.str x t, .ref a]) Q E s :=
  call_meetsIn (S := fun A R s' => s' = s ∧ ∀ tok tk, R (.ok (.ret (.str ⟨(trS y x.cps.toList).toArray⟩ tok))) { s with toks := tk }) F.slot_str_translate (typeIs_str _ _ _) F.entry_str_translate (F.args_str_translate_2 _ _)
    (fun A R s' hs => by
      obtain ⟨rfl, hs⟩ := hs
      exact translate_tree hl hvs hy hx hlen h0 fun tok tk => hs tok tk) ⟨rfl, fun tok tk => h tok tk⟩
end Mine
end
section
set_option maxRecDepth 100000
set_option maxHeartbeats 4000000
namespace Mine
open PySem PySem.W PySem.Calls PyProof.Rows
noncomputable def hexD (d : Nat) : Nat := if d < 10 then 48 + d else 55 + d
end Mine
end
section
set_option maxRecDepth 100000
set_option maxHeartbeats 1000000
namespace Mine
open PySem PySem.Calls PyProof.Rows PySem.Builtin PySem.Builtin.ObjectAttr
noncomputable def bmObj (l : Addr) : Obj := { cls := .type "builtin_function_or_method", data := .fields #[.builtin "list.append", .ref l] }
theorem slot_mdget : Slot "method_descriptor" "__get__" "method_descriptor.__get__" := .of (owner := "method_descriptor") (n := "__get__") (by rw [typeLookup_type, builtinLookup_eq_fast]; kernel_rfl) (by decide +kernel) (by decide +kernel) (by decide +kernel)
  (by first | exact .inl (by decide +kernel) | exact .inr (by decide +kernel)) (by rw [isSubtype_type]; kernel_rfl)
theorem entry_mdget : entryFor table "method_descriptor.__get__" = some Builtin.«method_descriptor.__get__» := entryFor_of_tree (by kernel_rfl)
theorem args_mdget (a b c : Value) : argsOk "method_descriptor.__get__" ⟨[a, b, c], []⟩ := by unfold argsOk; kernel_rfl
theorem md_noset : typeLookup (.type "method_descriptor") "__set__" = pure none := by rw [typeLookup_type, builtinLookup_eq_fast]; kernel_rfl
theorem md_nodel : typeLookup (.type "method_descriptor") "__delete__" = pure none := by rw [typeLookup_type, builtinLookup_eq_fast]; kernel_rfl
theorem sub_list : isSubtype (.type "list") (.type "list") = pure true := by rw [isSubtype_type]; kernel_rfl
theorem md_type : typeOf (.builtin "list.append") = pure (.type "method_descriptor") := F.type_list_append
theorem Looks_md (s : Shared) : s.TypeIs (.builtin "list.append") "method_descriptor" := md_type
section
variable {prog : Program} {w : World} {A : Around} {E : Value → Shared → Prop} {s : Shared}
theorem mdget_tree {l : Addr} {o : Obj} {Q : PySem.Fin → Shared → Prop} (ho : s.heap.get? l = some o) (hc : o.cls = .type "list")
    (h : Q (.done (.ret (.ref s.heap.objs.size))) { s with heap := s.heap.push (bmObj l) }) :
    wpAny (model prog w) A («method_descriptor.__get__» ⟨[.builtin "list.append", .ref l, .type "list"], []⟩) Q E s := by
  have hT : s.TypeIs (.ref l) "list" := ⟨_, ho, hc⟩
  unfold «method_descriptor.__get__»
  refine wpAny_bind ?_
  show wpAny _ _ (pure (Value.builtin "list.append", some (Value.ref l), some (Value.type "list"))) _ _ _
  refine wpAny_pure ?_
  dsimp only
  rw [if_neg (by decide +kernel)]
  refine wpAny_bind ?_
  refine wpAny_bind ?_
  refine wpAny_of_eq (show _ = pure ((Str.ofString "append"), Value.type "list") by kernel_rfl) ?_
  dsimp only
  refine wpAny_bind (wpAny_isInstance (U := "list") (b := true) hT ?_ ?_)
  · exact sub_list
  · refine wpAny_pure (wpAny_bind ?_)
    refine wpAny_newObj_type ?_ (by first | exact trivial | rfl | (show 2 ≤ 6; decide) | simp [sizeOk])
    exact wpAny_pure h
theorem ga_tree {l : Addr} {o : Obj} {xs : Array Value} {k : Nat} {u : Tok} {Q : PySem.Fin → Shared → Prop} (ho : s.heap.get? l = some o) (hc : o.cls = .type "list") (hd : o.dict = none) (hdat : o.data = .seq xs k)
    (h : Q (.done (.ret (.ref s.heap.objs.size))) { s with heap := s.heap.push (bmObj l) }) :
    wpAny (model prog w) A («object.__getattribute__» ⟨[.ref l, .str "append" u], []⟩) Q E s := by
  obtain ⟨c, dct, dat, sl⟩ := o
  simp only at hc hdat hd
  subst hc hdat hd
  obtain ⟨hp, g, d, tk, os⟩ := s
  have hT : (⟨hp, g, d, tk, os⟩ : Shared).TypeIs (.ref l) "list" := ⟨_, ho, rfl⟩
  have f1 := F.slot_list_append.lookup
  have f2 := slot_mdget.lookup
  have f3 := md_noset
  have f4 := md_nodel
  have f5 := md_type
  unfold «object.__getattribute__»
  repeat (any_goals (first | assumption | ((with_reducible show wpAny _ _ (call (Value.builtin "method_descriptor.__get__") _ _) _ _ _); refine wpAny_call_entry slot_mdget (Looks_md _) entry_mdget (mdget_tree ho rfl ⟨_, rfl, ?_⟩) (args_mdget _ _ _)) | wp_step))
  all_goals exact h
theorem getAttr_append {l : Addr} {o : Obj} {xs : Array Value} {k : Nat} {Q : Value → Shared → Prop} (ho : s.heap.get? l = some o) (hc : o.cls = .type "list") (hd : o.dict = none) (hdat : o.data = .seq xs k)
    (h : Q (.ref s.heap.objs.size) { s with heap := s.heap.push (bmObj l), toks := s.toks + 1 }) :
    wpAny (model prog w) A (getAttr (.ref l) "append" true) Q E s := by
  obtain ⟨c, dct, dat, sl⟩ := o
  simp only at hc hdat hd
  subst hc hdat hd
  obtain ⟨hp, g, d, tk, os⟩ := s
  have hT : ∀ tk', (⟨hp, g, d, tk', os⟩ : Shared).TypeIs (.ref l) "list" := fun _ => ⟨_, ho, rfl⟩
  have f3 := F.slot_list_getattribute.lookup
  have f4 := F.slot_list_getattribute.bind (.ref l)
  have f5 := am_list_getattr_none
  unfold getAttr getAttrBy
  repeat (any_goals (first | assumption | exact hT _ | ((with_reducible show wpAny _ _ (call (Value.builtin "list.__getattribute__") _ _) _ _ _); refine wpAny_call_entry F.slot_list_getattribute (hT _) am_entry_list_getattribute (ga_tree ho rfl rfl rfl ⟨_, rfl, ?_⟩) (F.args_list_getattribute_2 _ _)) | wp_step))
theorem callWith_bm {M : Model} {pos : Pos} {bm : Addr} {args : List (Bool × Sem Value)} {Q : Value → Shared → Prop} (hplain : args.any (·.1) = false)
    (h : wpAny M A (evalArgs (.ref bm) true args []) (fun x s₁ => (∃ l, s₁.heap.get? bm = some (bmObj l)) ∧ wpAny M A (call (.ref bm) x.pos x.kw) Q E s₁) E s) :
    wpAny M A (callWith pos (.ref bm) [] args []) Q E s := by
  unfold callWith
  refine wpAny_bind (wpAny_holding (wpAny_mono h (fun x s₁ h₁ => wpAny_bind (wpAny_standAt ?_)) fun _ _ x => x))
  have tail : ∀ {t : Sem Value}, wpAny M A t Q E s₁ → wpAny M A (t >>= fun r => holding [r] point >>= fun _ => pure r) Q E s₁ :=
    fun ht => wpAny_bind (wpAny_mono ht (fun r s₂ hr => wpAny_bind (wpAny_holding (wpAny_point (wpAny_pure hr)))) fun _ _ x => x)
  simp only [hplain, List.any_nil, Bool.or_false]
  refine wpAny_bind (m := keeperOf (.ref bm)) ?_
  unfold keeperOf
  obtain ⟨⟨l, hl⟩, h₂⟩ := h₁
  refine wpAny_bind (wpAny_load hl ?_)
  exact wpAny_pure (tail h₂)
theorem chk_append (l : Addr) (x : Value) : (match Manifest.signature? "list.append" with | none => pure () | some sig => Bind.checkArgs "list.append" { sig with full := toString (Bind.lastOf "list") ++ toString "." ++ toString (Bind.lastOf "list.append") } ⟨[.ref l, x], []⟩) = (pure () : Sem Unit) := by
  rw [signature?_of (id := "list.append") (n := ['d', 'n', 'e', 'p', 'p', 'a']) (o := ['t', 's', 'i', 'l']) (by kernel_rfl) F.owner_list]; kernel_rfl
theorem sub_list_module : isSubtype (.type "list") (.type "module") = pure false := by rw [isSubtype_type]; kernel_rfl
theorem kind_append : builtinKind "list.append" = some .method := by decide +kernel
theorem bound_check {l : Addr} {xs : Array Value} {n : Nat} {x : Value} {Q : Unit → Shared → Prop} (ho : s.heap.get? l = some { cls := .type "list", data := .seq xs n }) (h : Q () s) : wpAny (model prog w) A (checkBoundCall "list.append" ⟨[.ref l, x], []⟩) Q E s := by
  obtain ⟨hp, g, d, tk, os⟩ := s
  have hT : (⟨hp, g, d, tk, os⟩ : Shared).TypeIs (.ref l) "list" := ⟨_, ho, rfl⟩
  have hk := chk_append l x
  unfold checkBoundCall
  revert hk
  cases Manifest.signature? "list.append" with
  | none => intro _; exact wpAny_pure h
  | some sig =>
    intro hk
    dsimp only at hk ⊢
    rw [kind_append]
    dsimp only
    rw [if_neg (by decide)]
    refine wpAny_bind (wpAny_isInstance hT sub_list_module ?_)
    rw [if_neg (by decide +kernel)]
    refine wpAny_bind ?_
    unfold isType
    repeat (any_goals (first | assumption | wp_step))
theorem call_bm {bm l : Addr} {its : Array Value} {n : Nat} {x : Value} {Q : Value → Shared → Prop} (hb : s.heap.get? bm = some (bmObj l)) (ho : s.heap.get? l = some { cls := .type "list", data := .seq its n })
    (h : ∀ h', Heap.SameBut l s.heap h' → h'.get? l = some { cls := .type "list", data := .seq (its.push x) (n + 1) } → Q .none { s with heap := h' })
    (hsz : its.size ≤ sizeLine := by size_fits) : wpAny (model prog w) A (call (.ref bm) [x]) Q E s := by
  refine wpAny_call (codeAny_of_tree ?_)
  show wpAny _ _ (callAny (.ref bm) _) _ _ _
  unfold callAny
  refine wpAny_bind (wpAny_load hb ?_)
  dsimp only [bmObj]
  refine wpAny_bind (bound_check ho ?_)
  refine wpAny_pure ⟨plainId_quiet (by decide +kernel) _, ?_⟩
  show codeAny _ _ (.builtin "list.append" ⟨[.ref l, x], []⟩) _ _
  refine codeAny_builtin F.entry_list_append ?_
  show wpAny _ _ (updateSeq l (·.push x) >>= fun _ => ret .none) _ _ s
  refine wpAny_bind ?_
  refine wpAny_updateSeq ho rfl (wpAny_pure (h _ (Heap.SameBut.update ..) ?_))
  rw [Heap.get?_update_self _ ho (by rw [mapSeq_push]; rfl), mapSeq_push]
end
end Mine
end
section
set_option maxRecDepth 100000
set_option maxHeartbeats 1000000
namespace Mine
open PySem PySem.W PySem.Calls PyProof.Rows
section
variable {prog : Program} {w : World} {A : Around} {E : Value → Shared → Prop} {s : Shared} {env : Env} {h₀ : Heap} {x : Str} {body : List Stmt} {Q : Flow → Shared → Prop}

/-- the state behind a turn of a while: the invariant at a lesser measure -/
def Dec (I : Nat → Shared → Prop) (n : Nat) (s : Shared) : Prop := ∃ m, m < n ∧ I m s
/-- a while whose turns raise nothing, by an invariant over the whole state and a measure -/
theorem while_any {test : PySem.Expr} {pos : Pos} (I : Nat → Shared → Prop)
    (turn : ∀ n s, I n s → wpAny (model prog w) A (isTrue test env (eval test env)) (fun b s₂ =>
        if b then wpAny (model prog w) A (execs body env) (fun f s₃ => match f with
            | .next | .cont => Dec I n s₃
            | .brk => Q .next s₃
            | .ret v => Q (.ret v) s₃) (fun _ _ => False) s₂
        else Q .next s₂) (fun _ _ => False) s)
    (n : Nat) (h : I n s) : wpAny (model prog w) A (exec (.While test body [] pos) env) Q E s := by
  refine wpAny_While (codeAny_whileLoop (fun n s => I n s) (fun n s hI => ?_) n h)
  refine wpAny_mono (turn n s hI) (fun b s₂ h₂ => ?_) fun _ _ z => z.elim
  cases b with
  | true =>
    simp only [if_true] at h₂ ⊢
    refine wpAny_mono h₂ (fun f s₃ h₃ => ?_) fun _ _ z => z.elim
    cases f <;> exact h₃
  | false =>
    simp only [Bool.false_eq_true, if_false] at h₂ ⊢
    exact wpAny_execs_nil h₂

/-- what the turn of a for is to leave behind -/
theorem loop_at {I : Addr} {fp wr : List Addr} {n : Nat} {P : Nat → Value → Prop} {St : Nat → Heap → Prop} {m₀ : Str → Option Value} {news : List (Addr × Obj)} (W : Walks prog w A I fp wr n P St)
    (hLf : env.locals ∉ fp) (hwr : ∀ b ∈ wr, h₀.get? b = none) (hnf : ∀ p ∈ news, p.1 ∉ fp) (hst : St 0 s.heap) (F : Fr h₀ env.locals s.heap m₀) (N : News h₀ env.locals s.heap news)
    (J : Nat → (Str → Option Value) → List (Addr × Obj) → Prop) (h0 : J 0 m₀ news)
    (turn : ∀ i v m₁ news₁ h tk own, i < n → P i v → news₁.map (·.1) = news.map (·.1) → OwnOff own (news.map (·.1)) → J i m₁ news₁ → Fr h₀ env.locals h (fun y => if y = x then some v else m₁ y) → News h₀ env.locals h (news₁ ++ own) →
      wpAny (model prog w) A (execs body env) (InvPostN h₀ env.locals (J (i + 1)) own (news.map (·.1)) { s with heap := h, toks := tk } Q) E { s with heap := h, toks := tk })
    (done : ∀ m₁ news₁ h tk, J n m₁ news₁ → news₁.map (·.1) = news.map (·.1) → Fr h₀ env.locals h m₁ → News h₀ env.locals h news₁ → Q .next { s with heap := h, toks := tk }) :
    LoopAtV prog w A h₀ env x body Q E (.ref I) s := by
  have key : ∀ {a b : List (Addr × Obj)}, a.map (·.1) = b.map (·.1) → ∀ p ∈ a, ∃ q ∈ b, q.1 = p.1 := fun e p hp => by
    have : p.1 ∈ List.map (fun q : Addr × Obj => q.1) _ := List.mem_map.mpr ⟨p, hp, rfl⟩
    rw [e] at this
    obtain ⟨q, hq, e'⟩ := List.mem_map.mp this
    exact ⟨q, hq, e'⟩
  refine ⟨I, fp, wr, n, P, St, m₀, news, fun i m₁ news₁ => news₁.map (·.1) = news.map (·.1) ∧ J i m₁ news₁, rfl, W, hLf, hwr, fun p hp hq => hnf p hp (W.sub _ hq), hst, F, N, ⟨rfl, h0⟩, ?_, ?_⟩
  · rintro i v m₁ news₁ s₁ own ⟨hh', tk', rfl⟩ hin hP ⟨hadr, hJ⟩ hoff hown _ _ _ F₁ N₁
    have hsep : OwnOff own (news.map (·.1)) := fun p hp b hb e => by
      obtain ⟨q, hq, rfl⟩ := List.mem_map.mp hb
      exact hnf q hq (e ▸ hown p hp)
    have N₂ : News h₀ env.locals hh' (news₁ ++ own) := fun p hp => N₁ p ((List.mem_append.mp hp).elim (fun h => List.mem_append.mpr (.inr h)) fun h => List.mem_append.mpr (.inl h))
    refine wpAny_mono (turn i v m₁ news₁ hh' tk' own hin hP hadr hsep hJ F₁ N₂) (fun f s₂ p => ?_) fun _ _ e => e
    have fin : InvEndN h₀ env.locals (J (i + 1)) own (news.map (·.1)) { s with heap := hh', toks := tk' } s₂ → LoopStepU h₀ env.locals wr own (fun m₁ news₁ => news₁.map (·.1) = news.map (·.1) ∧ J (i + 1) m₁ news₁) { s with heap := hh', toks := tk' } .next s₂ := by
      rintro ⟨h', tk, m', news', nx, e, F', N', hn, ho, ha, hm⟩
      refine ⟨rfl, h', tk, m', nx, e, F', fun p hp => N' p ((List.mem_append.mp hp).elim (ho p) (hn p)), fun p hp hq => ?_, ha, hm⟩
      obtain ⟨q, hq1, hq2⟩ := key ha p hp
      exact hnf q hq1 (by rw [hq2]; exact W.sub _ hq)
    cases f with
    | ret v => exact .ret p
    | brk => exact .brk p
    | next => exact .next (fin p)
    | cont => exact .cont (fin p)
  · rintro h' tk m' news' F' N' _ ⟨ha, hJ⟩
    exact done m' news' h' tk hJ ha F' N'

/-- a for over a list that stands in the heap, whatever its items -/
theorem iter_list {l : Addr} {vs : List Value} {m₀ : Str → Option Value} {news : List (Addr × Obj)} (J : Nat → (Str → Option Value) → List (Addr × Obj) → Prop) (hh : A.handled = none)
    (hl : s.heap.IsList l vs.toArray) (hlL : l ≠ env.locals) (hlN : ∀ p ∈ news, p.1 ≠ l) (F : Fr h₀ env.locals s.heap m₀) (N : News h₀ env.locals s.heap news) (hj : J 0 m₀ news)
    (turn : ∀ i v m₁ news₁ h tk own, vs[i]? = some v → news₁.map (·.1) = news.map (·.1) → OwnOff own (news.map (·.1)) → J i m₁ news₁ → Fr h₀ env.locals h (fun y => if y = x then some v else m₁ y) → News h₀ env.locals h (news₁ ++ own) →
      wpAny (model prog w) A (execs body env) (InvPostN h₀ env.locals (J (i + 1)) own (news.map (·.1)) { s with heap := h, toks := tk } Q) E { s with heap := h, toks := tk })
    (done : ∀ m₁ news₁ h tk, J vs.length m₁ news₁ → news₁.map (·.1) = news.map (·.1) → Fr h₀ env.locals h m₁ → News h₀ env.locals h news₁ → Q .next { s with heap := h, toks := tk }) :
    wpAny (model prog w) A (pyIter (.ref l)) (fun it s₂ => LoopAtV prog w A h₀ env x body Q E it s₂) E s := by
  obtain ⟨ol, hol, _⟩ := id hl
  have hne : l ≠ s.heap.objs.size := Nat.ne_of_lt (Heap.lt_size hol)
  refine wpAny_pyIter_list hl ?_
  have W := Walks.list (prog := prog) (w := w) hh s.heap.objs.size l hne vs.toArray
  rw [List.size_toArray] at W
  refine loop_at (s := { s with heap := _ }) W ?_ ?_ ?_ ⟨⟨_, Heap.get?_push_size _ rfl, rfl, rfl⟩, hl.at fun o e => Heap.get?_push_of_some _ e⟩ (F.push _) (fun p hp => ⟨Heap.get?_push_of_some _ (N p hp).1, (N p hp).2⟩) J hj ?_ ?_
  · intro hm
    rcases List.mem_cons.mp hm with e | hm
    · exact absurd F.ns.lt (e ▸ Nat.lt_irrefl _)
    · exact hlL (List.mem_singleton.mp hm).symm
  · intro b hb
    rw [List.mem_singleton.mp hb]
    exact next_is_new F
  · intro p hp hm
    rcases List.mem_cons.mp hm with e | hm
    · exact absurd (Heap.lt_size (N p hp).1) (e ▸ Nat.lt_irrefl _)
    · exact hlN p hp (List.mem_singleton.mp hm)
  · intro i v m₁ news₁ h tk own _ hP
    exact turn i v m₁ news₁ h tk own (by simpa using hP)
  · exact done
end
end Mine
end
section
set_option maxRecDepth 100000
set_option maxHeartbeats 1000000
namespace Mine
open PySem PySem.W PySem.Calls PyProof.Rows
/-- a text by its signs -/
noncomputable def mkS (l : List Nat) : Str := ⟨l.toArray⟩
theorem mkS_toList (l : List Nat) : (mkS l).cps.toList = l := rfl
theorem mkS_length (l : List Nat) : (mkS l).length = l.length := by simp [mkS, Str.length]
theorem mkS_of (x : Str) : mkS x.cps.toList = x := by cases x; simp [mkS]
theorem mkS_inj {a b : List Nat} (h : mkS a = mkS b) : a = b := by
  have := congrArg (fun x : Str => x.cps.toList) h
  exact this
theorem mkS_append (a b : List Nat) : mkS a ++ mkS b = mkS (a ++ b) := by
  show (⟨a.toArray ++ b.toArray⟩ : Str) = _
  simp [mkS]
theorem slice_ss (l : List Nat) {a b : Nat} (hab : a ≤ b) (hb : b ≤ l.length) : Txt.slice (mkS l) (some (a : Int)) (some (b : Int)) = mkS ((l.drop a).take (b - a)) :=
  StrLaws.sliceText_nat (mkS l) hab (by rw [mkS_length]; exact hb)
theorem slice_sn (l : List Nat) {a : Nat} (ha : a ≤ l.length) : Txt.slice (mkS l) (some (a : Int)) none = mkS (l.drop a) := by
  have h := StrLaws.sliceText_from (x := mkS l) (i := (a : Int)) ⟨by omega, by rw [mkS_toList]; omega⟩
  refine h.trans ?_
  rw [mkS_toList]
  congr 2
  rw [List.take_of_length_le (by simp)]
  rfl
theorem slice_sm (l : List Nat) {a : Nat} (ha : a < l.length) : Txt.slice (mkS l) (some (a : Int)) (some (-1)) = mkS ((l.drop a).dropLast) := by
  have e : Txt.slice (mkS l) (some (a : Int)) (some (-1)) = Txt.slice (mkS l) (some (a : Int)) (some ((l.length - 1 : Nat) : Int)) := by
    unfold Txt.slice
    have : Builtin.Str.strSliceIndices (some (a : Int)) (some (-1)) 1 (mkS l).length = Builtin.Str.strSliceIndices (some (a : Int)) (some ((l.length - 1 : Nat) : Int)) 1 (mkS l).length := by
      rw [mkS_length]
      simp only [Builtin.Str.strSliceIndices]
      have h1 : ¬ (((l.length - 1 : Nat) : Int) < 0) := by omega
      have h2 : ((-1 : Int) < 0) := by decide
      simp only [h1, h2, if_true, if_false, show (1 : Int) > 0 by decide]
      congr 1
      omega
    rw [this]
  rw [e, slice_ss l (by omega) (by omega)]
  rw [List.dropLast_eq_take, List.length_drop]
  congr 2
  omega
theorem item_at (l : List Nat) {i : Int} {c : Nat} (h0 : 0 ≤ i) (h : l[i.toNat]? = some c) : Txt.item (mkS l) i = mkS [c] := by
  have hlt : i.toNat < l.length := (List.getElem?_eq_some_iff.mp h).1
  have : Txt.charAt (mkS l) i = some c := StrLaws.at_nonneg h0 (by show l.toArray[i.toNat]? = some c; simpa using h)
  unfold Txt.item
  rw [this]; rfl
theorem item_last (l : List Nat) {c : Nat} (h : l.getLast? = some c) : Txt.item (mkS l) (-1) = mkS [c] := by
  have hne : l ≠ [] := by rintro rfl; cases h
  have hlen : 0 < l.length := List.length_pos_iff.mpr hne
  have : Txt.charAt (mkS l) (-1) = some c := by
    have e : seqIndex? (-1) l.length = some (l.length - 1) := by
      unfold seqIndex?
      have h1 : (decide (0 ≤ ((-1 : Int) + (l.length : Int))) && decide ((-1 : Int) + (l.length : Int) < (l.length : Int))) = true := by
        rw [Bool.and_eq_true]; exact ⟨decide_eq_true (by omega), decide_eq_true (by omega)⟩
      simp only [show ((-1 : Int) < 0) by decide, if_true, h1]
      congr 1
      omega
    unfold Txt.charAt
    rw [mkS_length, e]
    rw [List.getLast?_eq_getElem?] at h
    show l.toArray[l.length - 1]? = some c
    simpa using h
  unfold Txt.item
  rw [this]; rfl
section
variable {prog : Program} {w : World} {A : Around} {E : Value → Shared → Prop} {s : Shared} {value slice : PySem.Expr} {t u : Tok} {Q : Value → Shared → Prop}
theorem item_mk {l : List Nat} {i : Int} {c : Nat} (h0 : 0 ≤ i) (hc : l[i.toNat]? = some c) (hlt : l.length ≤ 100000000) (h : Q (.str (mkS [c]) s.toks) { s with toks := s.toks + 1 })
    (hs : subscripted slice false (.str (mkS l) t) (.int i u) = operate [.str (mkS l) t, .int i u] (getItem (.str (mkS l) t) (.int i u)) := by with_unfolding_all rfl)
    (ht : ∀ r, letTemporaryGo value (.str (mkS l) t) r = pure () := by intro _; with_unfolding_all rfl) :
    wpAny (model prog w) A (subscriptTail value slice (.str (mkS l) t) (.int i u)) Q E s := by
  have hlt' : i.toNat < l.length := (List.getElem?_eq_some_iff.mp hc).1
  have hl := mkS_length l
  refine item_str (fitsSsize_of (N := 9223372036854775808) (by omega) (by omega) (Int.le_refl _)) (by omega) (by omega) (fun _ => ?_) hs ht
  rw [item_at l h0 hc]; exact h
theorem item_mk_last {l : List Nat} {c : Nat} (hc : l.getLast? = some c) (hlt : l.length ≤ 100000000) (h : Q (.str (mkS [c]) s.toks) { s with toks := s.toks + 1 })
    (hs : subscripted slice false (.str (mkS l) t) (.int (-1) u) = operate [.str (mkS l) t, .int (-1) u] (getItem (.str (mkS l) t) (.int (-1) u)) := by with_unfolding_all rfl)
    (ht : ∀ r, letTemporaryGo value (.str (mkS l) t) r = pure () := by intro _; with_unfolding_all rfl) :
    wpAny (model prog w) A (subscriptTail value slice (.str (mkS l) t) (.int (-1) u)) Q E s := by
  have hl := mkS_length l
  have hne : l ≠ [] := by rintro rfl; cases hc
  have hlen : 0 < l.length := List.length_pos_iff.mpr hne
  refine item_str (fitsSsize_of (N := 9223372036854775808) (by omega) (by omega) (Int.le_refl _)) (by omega) (by omega) (fun _ => ?_) hs ht
  rw [item_last l hc]; exact h
end
theorem beq_eq_sign (c : Nat) : (mkS [c] == Str.ofString "=") = decide (c = 61) := by
  have e : Str.ofString "=" = mkS [61] := by decide +kernel
  rw [e]
  by_cases h : c = 61
  · subst h; simp
  · rw [decide_eq_false h]
    exact beq_eq_false_iff_ne.mpr fun q => h (by have := mkS_inj q; simpa using this)
/-- the soft-broken lines of one encoded line, and what is left for the last -/
noncomputable def softF : Nat → Nat → List Nat → List (List Nat) × List Nat
  | 0, _, r => ([], r)
  | k + 1, n, r =>
    if n < r.length ∧ 4 ≤ n then
      if r[n - 3]? = some 61 then (r.take (n - 2) :: (softF k n (r.drop (n - 3))).1, (softF k n (r.drop (n - 3))).2)
      else if r[n - 2]? = some 61 then (r.take (n - 1) :: (softF k n (r.drop (n - 2))).1, (softF k n (r.drop (n - 2))).2)
      else ((r.take (n - 1) ++ [61]) :: (softF k n (r.drop (n - 1))).1, (softF k n (r.drop (n - 1))).2)
    else ([], r)
@[irreducible] noncomputable def soft (n : Nat) (r : List Nat) : List (List Nat) × List Nat := softF r.length n r
theorem drop_le {r : List Nat} {k m : Nat} (h : r.length ≤ k + 1) (hm : 0 < m) : (r.drop m).length ≤ k := by rw [List.length_drop]; omega
theorem softF_any : ∀ (k j n : Nat) (r : List Nat), r.length ≤ k → r.length ≤ j → softF k n r = softF j n r
  | 0, 0, _, _, _, _ => rfl
  | 0, j + 1, n, r, h, _ => by unfold softF; rw [if_neg fun q => by omega]
  | k + 1, 0, n, r, _, h => by unfold softF; rw [if_neg fun q => by omega]
  | k + 1, j + 1, n, r, h, h' => by
    unfold softF
    by_cases q : n < r.length ∧ 4 ≤ n
    · have f : ∀ m, 0 < m → softF k n (r.drop m) = softF j n (r.drop m) := fun m hm => softF_any k j n _ (drop_le h hm) (drop_le h' hm)
      rw [f (n - 3) (by omega), f (n - 2) (by omega), f (n - 1) (by omega)]
    · rw [if_neg q, if_neg q]
theorem soft_eq (n : Nat) (r : List Nat) : soft n r = if n < r.length ∧ 4 ≤ n then
      if r[n - 3]? = some 61 then (r.take (n - 2) :: (soft n (r.drop (n - 3))).1, (soft n (r.drop (n - 3))).2)
      else if r[n - 2]? = some 61 then (r.take (n - 1) :: (soft n (r.drop (n - 2))).1, (soft n (r.drop (n - 2))).2)
      else ((r.take (n - 1) ++ [61]) :: (soft n (r.drop (n - 1))).1, (soft n (r.drop (n - 1))).2)
    else ([], r) := by
  have e : soft n r = softF (r.length + 1) n r := by unfold soft; exact softF_any _ _ n r (Nat.le_refl _) (Nat.le_succ _)
  have f : ∀ m, soft n (r.drop m) = softF r.length n (r.drop m) := fun m => by
    unfold soft; exact softF_any _ _ n _ (Nat.le_refl _) (by rw [List.length_drop]; omega)
  rw [e, f, f, f, softF]
theorem soft_ind (n : Nat) {P : List Nat → List (List Nat) × List Nat → Prop}
    (c1 : ∀ r, n < r.length → 4 ≤ n → P (r.drop (n - 3)) (soft n (r.drop (n - 3))) → P r (r.take (n - 2) :: (soft n (r.drop (n - 3))).1, (soft n (r.drop (n - 3))).2))
    (c2 : ∀ r, n < r.length → 4 ≤ n → P (r.drop (n - 2)) (soft n (r.drop (n - 2))) → P r (r.take (n - 1) :: (soft n (r.drop (n - 2))).1, (soft n (r.drop (n - 2))).2))
    (c3 : ∀ r, n < r.length → 4 ≤ n → P (r.drop (n - 1)) (soft n (r.drop (n - 1))) → P r ((r.take (n - 1) ++ [61]) :: (soft n (r.drop (n - 1))).1, (soft n (r.drop (n - 1))).2))
    (c4 : ∀ r, P r ([], r)) : ∀ (k : Nat) (r : List Nat), r.length ≤ k → P r (soft n r)
  | 0, r, h => by rw [soft_eq, if_neg fun q => by omega]; exact c4 r
  | k + 1, r, h => by
    rw [soft_eq]
    by_cases q : n < r.length ∧ 4 ≤ n
    · have f : ∀ m, 0 < m → P (r.drop m) (soft n (r.drop m)) := fun m hm => soft_ind n c1 c2 c3 c4 k _ (drop_le h hm)
      rw [if_pos q]
      split
      · exact c1 r q.1 q.2 (f _ (by omega))
      · split
        · exact c2 r q.1 q.2 (f _ (by omega))
        · exact c3 r q.1 q.2 (f _ (by omega))
    · rw [if_neg q]; exact c4 r
theorem soft_stop {n : Nat} {r : List Nat} (h : ¬ n < r.length) : soft n r = ([], r) := by rw [soft_eq, if_neg (fun q => h q.1)]
theorem soft_one {n : Nat} {l : List Nat} {a : Nat} (h4 : 4 ≤ n) (h : n < (l.drop a).length) (hc : l[a + (n - 3)]? = some 61) :
    soft n (l.drop a) = ((l.drop a).take (n - 2) :: (soft n (l.drop (a + (n - 3)))).1, (soft n (l.drop (a + (n - 3)))).2) := by
  rw [soft_eq, if_pos ⟨h, h4⟩, if_pos (by rw [List.getElem?_drop]; exact hc), List.drop_drop]
theorem soft_two {n : Nat} {l : List Nat} {a : Nat} (h4 : 4 ≤ n) (h : n < (l.drop a).length) (hc : l[a + (n - 3)]? ≠ some 61) (hd : l[a + (n - 2)]? = some 61) :
    soft n (l.drop a) = ((l.drop a).take (n - 1) :: (soft n (l.drop (a + (n - 2)))).1, (soft n (l.drop (a + (n - 2)))).2) := by
  rw [soft_eq, if_pos ⟨h, h4⟩, if_neg (by rw [List.getElem?_drop]; exact hc), if_pos (by rw [List.getElem?_drop]; exact hd), List.drop_drop]
theorem soft_three {n : Nat} {l : List Nat} {a : Nat} (h4 : 4 ≤ n) (h : n < (l.drop a).length) (hc : l[a + (n - 3)]? ≠ some 61) (hd : l[a + (n - 2)]? ≠ some 61) :
    soft n (l.drop a) = (((l.drop a).take (n - 1) ++ [61]) :: (soft n (l.drop (a + (n - 1)))).1, (soft n (l.drop (a + (n - 1)))).2) := by
  rw [soft_eq, if_pos ⟨h, h4⟩, if_neg (by rw [List.getElem?_drop]; exact hc), if_neg (by rw [List.getElem?_drop]; exact hd), List.drop_drop]
theorem soft_rest (n : Nat) (r : List Nat) (hr : r ≠ []) : (soft n r).2 ≠ [] :=
  soft_ind n (P := fun r o => r ≠ [] → o.2 ≠ []) (fun r h h4 ih _ => ih (List.ne_nil_of_length_pos (by rw [List.length_drop]; omega))) (fun r h h4 ih _ => ih (List.ne_nil_of_length_pos (by rw [List.length_drop]; omega)))
    (fun r h h4 ih _ => ih (List.ne_nil_of_length_pos (by rw [List.length_drop]; omega))) (fun r h => h) _ r (Nat.le_refl _) hr
end Mine
end
section
set_option maxRecDepth 100000
set_option maxHeartbeats 4000000
namespace Mine
open PySem PySem.W PySem.Calls PyProof.Rows
noncomputable def sBody : Stmt → List Stmt
  | .For _ _ b _ _ => b
  | .While _ b _ _ => b
  | .If _ b _ _ => b
  | _ => []
noncomputable def nth (l : List Stmt) (i : Nat) : Stmt := match l[i]? with | some s => s | none => .Pass default
noncomputable def over (l : List (Str × Value)) (m : Str → Option Value) : Str → Option Value := fun y => match l.lookup y with | some v => some v | none => m y
theorem over_eq {l : List (Str × Value)} {m : Str → Option Value} (h : ∀ p ∈ l, m p.1 = some p.2) : over l m = m := by
  funext y
  unfold over
  induction l with
  | nil => rfl
  | cons p l ih =>
    rw [List.lookup_cons]
    cases hk : y == p.1 with
    | true => dsimp only; rw [eq_of_beq hk]; exact (h p (.head _)).symm
    | false => exact ih fun q hq => h q (.tail _ hq)
theorem fr_over {h₀ h : Heap} {L : Addr} {m : Str → Option Value} {l : List (Str × Value)} (F : Fr h₀ L h m) (hm : ∀ p ∈ l, m p.1 = some p.2) : Fr h₀ L h (over l m) := (over_eq hm).symm ▸ F
abbrev lst (vs : List Value) (ep : Nat) : Obj := { cls := .type "list", data := .seq vs.toArray ep }
theorem News.sub {h₀ h : Heap} {L : Addr} {a b : List (Addr × Obj)} (N : News h₀ L h a) (hs : ∀ p ∈ b, p ∈ a) : News h₀ L h b := fun p hp => N p (hs p hp)
section
variable {prog : Program} {w : World} {A : Around} {E : Value → Shared → Prop} {s : Shared} {h₀ : Heap} {L : Addr} {m : Str → Option Value}
/-- encoded_body.append as a value -/
theorem bm_make {eb : Addr} {its : Array Value} {n : Nat} {rest : List (Addr × Obj)} {Q : Value → Shared → Prop} (F : Fr h₀ L s.heap m) (N : News h₀ L s.heap ((eb, { cls := .type "list", data := .seq its n }) :: rest))
    (h : ∀ h', Fr h₀ L h' m → News h₀ L h' ((s.heap.objs.size, bmObj eb) :: (eb, { cls := .type "list", data := .seq its n }) :: rest) → Q (.ref s.heap.objs.size) { s with heap := h', toks := s.toks + 1 }) :
    wpAny (model prog w) A (getAttr (.ref eb) "append" true) Q E s :=
  getAttr_append (N.get (.head _)) rfl rfl rfl (h _ (F.push _) (N.push F _))
/-- append(x) through it -/
theorem bm_step {eb bm : Addr} {vs : List Value} {n : Nat} {own : List (Addr × Obj)} {x : Value} {Q : Value → Shared → Prop} (F : Fr h₀ L s.heap m) (N : News h₀ L s.heap ((eb, lst vs n) :: (bm, bmObj eb) :: own))
    (hne : bm ≠ eb) (hoff : ∀ p ∈ own, p.1 ≠ eb) (hsz : vs.length ≤ 1000000)
    (h : ∀ h', Fr h₀ L h' m → News h₀ L h' ((eb, lst (vs ++ [x]) (n + 1)) :: (bm, bmObj eb) :: own) → Q .none { s with heap := h' }) :
    wpAny (model prog w) A (call (.ref bm) [x]) Q E s := by
  have he := N _ (.head _)
  refine call_bm (N.get (.tail _ (.head _))) (N.get (.head _)) (fun h' hs ho => ?_) (by rw [List.size_toArray, sizeLine_eq]; omega)
  refine h h' (F.change hs he.2.1 he.2.2) (fun p hp => ?_)
  rcases List.mem_cons.mp hp with rfl | hp
  · refine ⟨by rw [ho]; simp, he.2⟩
  · have hpe : p.1 ≠ eb := by
      rcases List.mem_cons.mp hp with rfl | hp
      · exact hne
      · exact hoff p hp
    exact ⟨(hs.2 p.1 hpe).trans (N p (.tail _ hp)).1, (N p (.tail _ hp)).2⟩
def AtBm (M : Model) (A : Around) (Q : Value → Shared → Prop) (E : Value → Shared → Prop) (bm : Addr) (vs : List Value) (s₁ : Shared) : Prop := (∃ l, s₁.heap.get? bm = some (bmObj l)) ∧ wpAny M A (call (.ref bm) vs) Q E s₁
def AtFn (M : Model) (A : Around) (Q : Value → Shared → Prop) (E : Value → Shared → Prop) (f : Addr) (vs : List Value) (s₁ : Shared) : Prop := (∃ o fd, s₁.heap.get? f = some o ∧ o.data = .func fd) ∧ wpAny M A (call (.ref f) vs) Q E s₁
theorem at_bm {eb bm : Addr} {vs : List Value} {n : Nat} {own : List (Addr × Obj)} {x : Value} {Q : Value → Shared → Prop} (F : Fr h₀ L s.heap m) (N : News h₀ L s.heap ((eb, lst vs n) :: (bm, bmObj eb) :: own))
    (hne : bm ≠ eb) (hoff : ∀ p ∈ own, p.1 ≠ eb) (hsz : vs.length ≤ 1000000)
    (h : ∀ h', Fr h₀ L h' m → News h₀ L h' ((eb, lst (vs ++ [x]) (n + 1)) :: (bm, bmObj eb) :: own) → Q .none { s with heap := h' }) : AtBm (model prog w) A Q E bm [x] s :=
  ⟨⟨eb, N.get (.tail _ (.head _))⟩, bm_step F N hne hoff hsz h⟩
theorem callWith_bm1 {M : Model} {env : Env} {pos : Pos} {bm : Addr} {e : PySem.Expr} {Q : Value → Shared → Prop}
    (h : wpAny M A (spliced (backTo pos (starEach [e] env))) (fun vs s₁ => AtBm M A Q E bm vs s₁) E s)
    (he : starEach [e] env = (false, eval e env) :: starEach [] env := by rfl) :
    wpAny M A (callWith pos (.ref bm) [] (backTo pos (starEach [e] env)) []) Q E s := by
  rw [he] at h ⊢
  exact callWith_bm rfl (evalArgs_plain h)
/-- a call of a def of the text's, by its value -/
theorem callWith_fn {M : Model} {env : Env} {pos : Pos} {f : Addr} {e : PySem.Expr} {rest : List PySem.Expr} {Q : Value → Shared → Prop}
    (h : wpAny M A (spliced (backTo pos (starEach (e :: rest) env))) (fun vs s₁ => AtFn M A Q E f vs s₁) E s)
    (he : starEach (e :: rest) env = (false, eval e env) :: starEach rest env := by rfl) (hplain : (backTo pos (starEach rest env)).any (·.1) = false := by rfl) :
    wpAny M A (callWith pos (.ref f) [] (backTo pos (starEach (e :: rest) env)) []) Q E s := by
  rw [he] at h ⊢
  have h' := wpAny_mono h (Q' := fun vs s₁ => ∃ o fd, (s₁.heap.get? f = some o ∧ o.data = .func fd) ∧ wpAny M A (call (.ref f) vs) Q E s₁) (fun vs s₁ z => by obtain ⟨⟨o, fd, hz⟩, z⟩ := z; exact ⟨o, fd, hz, z⟩) fun _ _ z => z
  unfold callWith
  refine wpAny_bind (wpAny_holding (wpAny_mono (evalArgs_plain (Q := fun x s₁ => ∃ o fd, (s₁.heap.get? f = some o ∧ o.data = .func fd) ∧ wpAny M A (call (.ref f) x.pos x.kw) Q E s₁) h') (fun x s₁ h₁ => ?_) fun _ _ z => z))
  obtain ⟨o, fd, h1, h2⟩ := h₁
  refine wpAny_bind (wpAny_standAt ?_)
  have tail : ∀ {t : Sem Value}, wpAny M A t Q E s₁ → wpAny M A (t >>= fun r => holding [r] point >>= fun _ => pure r) Q E s₁ :=
    fun ht => wpAny_bind (wpAny_mono ht (fun r s₂ hr => wpAny_bind (wpAny_holding (wpAny_point (wpAny_pure hr)))) fun _ _ x => x)
  have hst : (backTo pos ((false, eval e env) :: starEach rest env)).any (·.1) = false := by show (false || (backTo pos (starEach rest env)).any (·.1)) = false; rw [hplain]; rfl
  simp only [hst, List.any_nil, Bool.or_false]
  refine wpAny_bind (m := keeperOf (.ref f)) ?_
  unfold keeperOf
  refine wpAny_bind (wpAny_load h1.1 ?_)
  rw [h1.2]
  refine wpAny_pure ?_
  first
    | refine wpAny_ite ?_
    | skip
  split <;> first
    | exact tail h2
    | exact tail (by unfold callMarked; exact wpAny_keep h2)
theorem len_news {l : Addr} {vs : List Value} {ep : Nat} {news : List (Addr × Obj)} {Q : Value → Shared → Prop} (N : News h₀ L s.heap news) (hm : (l, lst vs ep) ∈ news) (hl : vs.length ≤ 100000000)
    (h : ∀ u tk, Q (.int (vs.length : Nat) u) { s with toks := tk }) : wpAny (model prog w) A (call (.builtin "len") [.ref l]) Q E s := by
  refine len_list (items := vs.toArray) ⟨_, N.get hm, rfl, ep, rfl⟩ (by rw [List.size_toArray]; omega) ?_
  rw [List.size_toArray]
  exact h _ _
theorem app_news {l : Addr} {vs : List Value} {ep : Nat} {own : List (Addr × Obj)} {x : Value} {Q : Value → Shared → Prop} (F : Fr h₀ L s.heap m) (N : News h₀ L s.heap ((l, lst vs ep) :: own)) (hoff : ∀ p ∈ own, p.1 ≠ l) (hsz : vs.length ≤ 1000000)
    (h : ∀ h', Fr h₀ L h' m → News h₀ L h' ((l, lst (vs ++ [x]) (ep + 1)) :: own) → Q .none { s with heap := h' }) : wpAny (model prog w) A (call (.builtin "list.append") [.ref l, x]) Q E s := by
  refine append_head F N hoff (fun h' F' N' => h h' F' ?_) (by rw [List.size_toArray, sizeLine_eq]; omega)
  rwa [List.push_toArray] at N'
end
end Mine
end
section
set_option maxRecDepth 100000
set_option maxHeartbeats 4000000
namespace Mine
open PySem PySem.W PySem.Calls PyProof.Rows
/-- a call of a def with one cell that is no parameter -/
theorem call_defC {prog : Program} {w : World} {A : Around} {s : Shared} {Q : Value → Shared → Prop} {E : Value → Shared → Prop} {a : Addr} {o : Obj} {fd : FuncData} {body : List Stmt} {args : List Value} {binds : List (Str × Value)} {cn : Str}
    (hroom : A.depth < recursionLimit) (ho : s.heap.get? a = some o) (hdata : o.data = .func fd) (hlim : s.heap.NoLimit) (hcd : s.heap.CodeRec fd.code fd.qualname)
    (hbody : fd.body = .stmts body) (henv : ∀ L, callEnvC fd L a = envOfC fd.qualname fd.scope L a fd.code) (hbind : bindArgs fd ⟨args, []⟩ = pure binds) (hclo : fd.closure = [])
    (hcells : ∀ n, cellsFrom n fd.scope.names [] = [(cn, n)]) (hloc : ∀ x ∈ binds, fd.scope.names.lookup x.1 = some .local) (hcn : ∀ L, bindC (envOfC fd.qualname fd.scope L a fd.code).kindOf binds (fun _ => none) cn = none)
    (h : ∀ L s₁ A' oc, Fr s.heap L s₁.heap (bindL (envOfC fd.qualname fd.scope L a fd.code).kindOf binds fun _ => none) → News s.heap L s₁.heap [(L + 1, oc)] → oc.data = .cell none → SameBut' s s₁ → In1 A A' →
      wpAny (model prog w) A' (execs body (envOfC fd.qualname fd.scope L a fd.code)) (fun f s' => Q (match f with | .ret v => v | _ => .none) s') (fun _ _ => False) s₁)
    (hco : fd.scope.isCoroutine = false) (hgen : fd.scope.isGenerator = false) (hk : fd.scope.kind = .function) :
    wpAny (model prog w) A (call (.ref a) args) Q E s := by
  refine wpAny_call (codeAny_call_cells (body := body) hroom ho hdata hlim hcd hbody hbind hclo (fun x hx => .inl (hloc x hx)) (fun s₁ x => ?_) hco hgen hk)
  rw [henv] at x ⊢
  have hc := x.cell cn (s.heap.objs.size + 1) (by show (cellsFrom _ fd.scope.names []).lookup cn = _; rw [hcells]; simp)
  rw [hcn] at hc
  obtain ⟨oc, hoc, hocd⟩ := hc
  refine wpAny_mono (h s.heap.objs.size s₁ _ oc ⟨x.toInCall.ns, x.toInCall.keep, Nat.le_refl _⟩ ?_ hocd x.toInCall.same ⟨rfl, rfl, rfl⟩) (fun f s' q => q) (fun _ _ z => z.elim)
  intro p hp
  rw [List.mem_singleton.mp hp]
  refine ⟨hoc, by simp, ?_⟩
  cases hq : s.heap.get? (s.heap.objs.size + 1) with
  | none => rfl
  | some o' => exact (Nat.lt_irrefl _ (Nat.lt_trans (Nat.lt_succ_self _) (Heap.lt_size hq))).elim
section
variable {prog : Program} {w : World} {A : Around} {E : Value → Shared → Prop} {s : Shared} {env : Env} {x : Str} {pos : Pos} {v : Value} {Q : Value → Shared → Prop} {m : Str → Option Value}
/-- a name, by what the heap holds; for any frame -/
theorem nm_local (hk : env.scope.kind = .function) (hx : env.kindOf x = some .local) (hn : s.heap.Ns env.locals m) (hv : m x = some v) (h : Q v s) (hd : (x == ("__debug__" : Str)) = false := by decide) :
    wpAny (model prog w) A (eval (.Name x pos) env) Q E s := wpAny_Name (wpAny_loadName_local hk hx hn hv h) hd
theorem nm_cell {c : Addr} (hk : env.scope.kind = .function) (hx : env.kindOf x = some .cell) (hc : env.cells.lookup x = some c) (hn : s.heap.IsCell c (some v)) (h : Q v s) (hd : (x == ("__debug__" : Str)) = false := by decide) :
    wpAny (model prog w) A (eval (.Name x pos) env) Q E s := wpAny_Name (wpAny_loadName_cell hk hx hc hn h) hd
theorem nm_glob (hk : env.scope.kind = .function) (hx : env.kindOf x = some .globalImplicit) (hg : env.globals = mainGlobals) (Y : TopH w s.heap) (hv : gN w.params x = some v) (h : Q v s) (hd : (x == ("__debug__" : Str)) = false := by decide) :
    wpAny (model prog w) A (eval (.Name x pos) env) Q E s := Name_function_global hk hx (loadGlobal_global (hg ▸ Y.ns) hv h) hd
theorem nm_boot {mean mg mb} {h₀ : Heap} (hk : env.scope.kind = .function) (hx : env.kindOf x = some .globalImplicit) (hg : env.globals = mainGlobals) (hb : env.builtins = builtinsNs) (T : Top vq (looseW vq looseN) mean mg mb h₀)
    (keep : ∀ b o, h₀.get? b = some o → s.heap.get? b = some o) (Y : TopH w s.heap) (hv : gN w.params x = none) (hbo : bootBuiltins x = some v) (hn : x ≠ "__name__") (h : Q v s) (hd : (x == ("__debug__" : Str)) = false := by decide) :
    wpAny (model prog w) A (eval (.Name x pos) env) Q E s :=
  Name_function_global hk hx (loadGlobal_builtin (hg ▸ Y.ns) hv (hb ▸ T.b.keeps keep) ((T.builtins x hn).trans hbo) h) hd
end
theorem gn_len (P : Params) : gN P "len" = none := by kernel_rfl
theorem gn_chr (P : Params) : gN P "chr" = none := by kernel_rfl
theorem gn_range (P : Params) : gN P "range" = none := by kernel_rfl
theorem gn_ValueError (P : Params) : gN P "ValueError" = none := by kernel_rfl
theorem bo_len : bootBuiltins "len" = some (.builtin "len") := by kernel_rfl
theorem bo_chr : bootBuiltins "chr" = some (.builtin "chr") := by kernel_rfl
theorem bo_range : bootBuiltins "range" = some (.type "range") := by kernel_rfl
end Mine
end
section
set_option maxRecDepth 100000
set_option maxHeartbeats 4000000
namespace Mine
theorem anew11 : True := by
  w_top off
  first | walk1 | trivial
open PySem PySem.W PySem.Calls PyProof.Rows
noncomputable def beBase (B eol : Str) (n : Int) (eb bm : Addr) (tb te tn ts tm : Tok) : List (Str × Value) := [("body", .str B tb), ("eol", .str eol te), ("maxlinelen", .int n tn), ("soft_break", .str (Str.ofString "=" ++ eol) ts), ("maxlinelen1", .int (n - 1) tm), ("encoded_body", .ref eb), ("append", .ref bm)]
noncomputable def beLine (B eol : Str) (n : Int) (eb bm : Addr) (tb te tn ts tm : Tok) (l : List Nat) (tl tz : Tok) : List (Str × Value) :=
  [("body", .str B tb), ("eol", .str eol te), ("maxlinelen", .int n tn), ("soft_break", .str (Str.ofString "=" ++ eol) ts), ("maxlinelen1", .int (n - 1) tm), ("encoded_body", .ref eb), ("append", .ref bm), ("line", .str (mkS l) tl), ("laststart", .int ((l.length : Int) - 1 - n) tz)]
def BeI (s₀ : Shared) (L : Addr) (B eol : Str) (n : Nat) (eb bm : Addr) (tb te tn ts tm : Tok) (l : List Nat) (tl tz : Tok) (own : List (Addr × Obj)) (tgt : List Str) (k : Nat) (s : Shared) : Prop :=
  ∃ (a : Nat) (t : Tok) (vs : List Value) (ep : Nat) (os : List Str) (m : Str → Option Value), SameBut' s₀ s ∧ Fr s₀.heap L s.heap m ∧ (∀ p ∈ beLine B eol n eb bm tb te tn ts tm l tl tz, m p.1 = some p.2) ∧ m "start" = some (.int (a : Int) t) ∧
    News s₀.heap L s.heap ((eb, lst vs ep) :: (bm, bmObj eb) :: own) ∧ StrsAre vs os ∧ os ++ (soft n (l.drop a)).1.map mkS = tgt ∧ (soft n (l.drop a)).2 = (soft n l).2 ∧ a ≤ l.length ∧ k = l.length - a
local macro_rules | `(tactic| walk_at "callWith") => `(tactic| ((with_reducible show wpAny _ _ (callWith _ (Value.ref _) [] _ _) _ _ _); refine callWith_bm1 ?_))
local macro_rules | `(tactic| walk_at "known") => `(tactic| (repeat' (first | exact List.forall_mem_nil _ | refine List.forall_mem_cons.mpr ⟨rfl, ?_⟩)))
local macro_rules | `(tactic| walk_at "AtBm") => `(tactic| (refine at_bm (by assumption) (by assumption) (by assumption) (by assumption) (by omega) ?_; intro _ _ _; dsimp only))
theorem beI_next {s₀ s : Shared} {L : Addr} {B eol : Str} {n : Nat} {eb bm : Addr} {tb te tn ts tm : Tok} {l : List Nat} {tl tz : Tok} {own : List (Addr × Obj)} {tgt os : List Str} {vs : List Value} {ep a a' : Nat} {m : Str → Option Value} {i : Int} {t t' : Tok} {x : Str} {pc : List Nat}
    (F : Fr s₀.heap L s.heap m) (N : News s₀.heap L s.heap ((eb, lst (vs ++ [.str x t']) ep) :: (bm, bmObj eb) :: own)) (e : SameBut' s₀ s) (hm : ∀ p ∈ beLine B eol n eb bm tb te tn ts tm l tl tz, m p.1 = some p.2) (hst : m "start" = some (.int i t)) (hi : i = (a' : Int))
    (hv : StrsAre vs os) (ho : os ++ (soft n (l.drop a)).1.map mkS = tgt) (ho2 : (soft n (l.drop a)).2 = (soft n l).2) (hx : x = mkS pc) (hs : soft n (l.drop a) = (pc :: (soft n (l.drop a')).1, (soft n (l.drop a')).2)) (ha : a < a') (ha' : a' ≤ l.length) :
    Dec (BeI s₀ L B eol n eb bm tb te tn ts tm l tl tz own tgt) (l.length - a) s := by
  subst hi hx
  rw [hs] at ho ho2
  exact ⟨l.length - a', by omega, a', t, _, ep, os ++ [mkS pc], m, e, F, hm, hst, N, hv.append' (.cons _ _ .nil), by rw [List.append_assoc]; exact ho, ho2, ha', rfl⟩
theorem be_while {w : World} {A : Around} {s₀ s : Shared} {L : Addr} {nm : Str} {Q : Flow → Shared → Prop} {E : Value → Shared → Prop} {mean mg mb} {B eol : Str} {n : Nat} {eb bm : Addr} {tb te tn ts tm tl tz : Tok} {l : List Nat}
    (T : Top vq (looseW vq looseN) mean mg mb s₀.heap) {own : List (Addr × Obj)} (hne : bm ≠ eb) (hoff : ∀ p ∈ own, p.1 ≠ eb) (hn : 4 ≤ n) (hl : l.length ≤ 12000)
    {vs : List Value} {ep : Nat} {os tgt : List Str} (htgt : tgt.length ≤ 1000000) {m : Str → Option Value} {t : Tok}
    (F : Fr s₀.heap L s.heap m) (hm : ∀ p ∈ beLine B eol n eb bm tb te tn ts tm l tl tz, m p.1 = some p.2) (hst : m "start" = some (.int 0 t))
    (N : News s₀.heap L s.heap ((eb, lst vs ep) :: (bm, bmObj eb) :: own)) (hv : StrsAre vs os) (ho : os ++ (soft n l).1.map mkS = tgt) (e : SameBut' s₀ s)
    (h : ∀ s' m' vs' ep' (a : Nat) t', SameBut' s₀ s' → Fr s₀.heap L s'.heap m' → (∀ p ∈ beLine B eol n eb bm tb te tn ts tm l tl tz, m' p.1 = some p.2) → m' "start" = some (.int (a : Int) t') →
      News s₀.heap L s'.heap ((eb, lst vs' ep') :: (bm, bmObj eb) :: own) → StrsAre vs' tgt → l.drop a = (soft n l).2 → (l.drop a).length ≤ n → a ≤ l.length → Q .next s') :
    wpAny (model PR w) A (exec (nth (sBody (nth (fBody (stm 17)) 7)) 2) (envOf nm (fScope (stm 17)) L 50 (.ref 49))) Q E s := by
  w_on
  refine while_any (BeI s₀ L B eol n eb bm tb te tn ts tm l tl tz own tgt) ?_ (l.length - 0) ⟨0, t, vs, ep, os, m, e, F, hm, hst, N, hv, ho, rfl, Nat.zero_le _, rfl⟩
  rintro k s ⟨a, t, vs, ep, os, m, ⟨hp, tk, rfl⟩, F, hm, hst, N, hv, ho, ho2, ha, rfl⟩
  have F0 : Fr s₀.heap L hp m := F
  clear F
  have F1 := fr_over (l := ("start", .int (a : Int) t) :: beLine B eol n eb bm tb te tn ts tm l tl tz) F0 (fun p hp => by
    rcases List.mem_cons.mp hp with rfl | hp
    · exact hst
    · exact hm p hp)
  unfold beLine at F1
  have hos : os.length ≤ tgt.length := by rw [← ho, List.length_append]; omega
  have hvl := hv.length
  have hml : (mkS l).length ≤ 12000 := by rw [mkS_length]; exact hl
  repeat' walk1
  · have hle : (a : Int) ≤ (l.length : Int) - 1 - n := by assumption
    have hlt : n < (l.drop a).length := by rw [List.length_drop]; omega
    obtain ⟨c, hc⟩ : ∃ c, l[a + (n - 3)]? = some c := ⟨l[a + (n - 3)]'(by omega), by simp⟩
    obtain ⟨d, hd⟩ : ∃ d, l[a + (n - 2)]? = some d := ⟨l[a + (n - 2)]'(by omega), by simp⟩
    have i1 : ((a : Int) + ((n : Int) - 1) - 2).toNat = a + (n - 3) := by omega
    have i2 : ((a : Int) + ((n : Int) - 1) - 1).toNat = a + (n - 2) := by omega
    refine item_mk (c := c) (by omega) (by rw [i1]; exact hc) (by omega) ?_
    dsimp only
    repeat' walk1
    · have h61 : c = 61 := by have q : (mkS [c] == Str.ofString "=") = true := by assumption
                              rw [beq_eq_sign] at q; exact of_decide_eq_true q
      subst h61
      refine beI_next (a := a) (a' := a + (n - 3)) (pc := (l.drop a).take (n - 2)) (by assumption) (by assumption) ⟨_, _, rfl⟩ ?_ rfl (by omega) hv ho ho2 ?_ (soft_one hn hlt hc) (by omega) (by omega)
      · unfold beLine; walk_at "known"
      · rw [show ((a : Int) + ((n : Int) - 1) - 1) = ((a + (n - 2) : Nat) : Int) by omega, slice_ss l (by omega) (by omega)]; congr 2; omega
    · have hc61 : c ≠ 61 := by have q : (mkS [c] == Str.ofString "=") = false := by assumption
                               rw [beq_eq_sign] at q; exact of_decide_eq_false q
      have hcn : l[a + (n - 3)]? ≠ some 61 := by rw [hc]; simpa using hc61
      refine item_mk (c := d) (by omega) (by rw [i2]; exact hd) (by omega) ?_
      dsimp only
      repeat' walk1
      · have h61 : d = 61 := by have q : (mkS [d] == Str.ofString "=") = true := by assumption
                                rw [beq_eq_sign] at q; exact of_decide_eq_true q
        subst h61
        refine beI_next (a := a) (a' := a + (n - 2)) (pc := (l.drop a).take (n - 1)) (by assumption) (by assumption) ⟨_, _, rfl⟩ ?_ rfl (by omega) hv ho ho2 ?_ (soft_two hn hlt hcn hd) (by omega) (by omega)
        · unfold beLine; walk_at "known"
        · rw [show ((a : Int) + ((n : Int) - 1)) = ((a + (n - 1) : Nat) : Int) by omega, slice_ss l (by omega) (by omega)]; congr 2; omega
      · have hd61 : d ≠ 61 := by have q : (mkS [d] == Str.ofString "=") = false := by assumption
                                 rw [beq_eq_sign] at q; exact of_decide_eq_false q
        refine beI_next (a := a) (a' := a + (n - 1)) (pc := (l.drop a).take (n - 1) ++ [61]) (by assumption) (by assumption) ⟨_, _, rfl⟩ ?_ rfl (by omega) hv ho ho2 ?_ (soft_three hn hlt hcn (by rw [hd]; simpa using hd61)) (by omega) (by omega)
        · unfold beLine; walk_at "known"
        · rw [show ((a : Int) + ((n : Int) - 1)) = ((a + (n - 1) : Nat) : Int) by omega, slice_ss l (by omega) (by omega), show Str.ofString "=" = mkS [61] by decide +kernel, mkS_append]; congr 3; omega
  · have hle : ¬ (a : Int) ≤ (l.length : Int) - 1 - n := by assumption
    have hlt : ¬ n < (l.drop a).length := by rw [List.length_drop]; omega
    rw [soft_stop hlt] at ho ho2
    refine h _ m vs ep a t ⟨_, _, rfl⟩ F0 hm hst N ?_ ho2 (by omega) ha
    rw [← ho]; simpa using hv
end Mine
end
section
set_option maxRecDepth 100000
set_option maxHeartbeats 4000000
namespace Mine
theorem anew12 : True := by
  w_top off
  first | walk1 | trivial
open PySem PySem.W PySem.Calls PyProof.Rows
section
variable {prog : Program} {w : World} {A : Around} {E : Value → Shared → Prop} {s : Shared}
theorem list_item {value slice : PySem.Expr} {l : Addr} {vs : List Value} {k : Int} {u : Tok} {v : Value} {Q : Value → Shared → Prop} (hl : s.heap.IsList l vs.toArray) (h0 : 0 ≤ k) (hhi : k < 2 ^ 63) (hx : vs[k.toNat]? = some v) (h : Q v s)
    (hs : subscripted slice false (.ref l) (.int k u) = operate [.ref l, .int k u] (getItem (.ref l) (.int k u)) := by with_unfolding_all rfl) :
    wpAny (model prog w) A (subscriptTail value slice (.ref l) (.int k u)) Q E s :=
  tail_any hl.typeIs slot_list_getitem.lookup (wpAny_getItem_list hl h0 hhi (by simpa using hx) h) hs
end
noncomputable def hexS (c : Nat) : Str := ⟨#[61, hexD (c / 16), hexD (c % 16)]⟩
noncomputable def qmp : List Value := match (Hf (aWorld 1).params).get? 17 with | some ⟨_, _, .seq xs _, _⟩ => xs.toList | _ => []
theorem qmp_is {w : World} {h : Heap} (Y : TopH w h) : h.IsList 17 qmp.toArray := ⟨_, Y 17 _ rfl, rfl, 256, by kernel_rfl⟩
theorem qmp_get (c : Nat) (hc : c < 256) : ∃ t, qmp[c]? = some (.str (hexS c) t) := by
  have : ∀ c : Fin 256, (match qmp[c.val]? with | some (.str x _) => x == hexS c.val | _ => false) = true := by decide +kernel
  have h := this ⟨c, hc⟩
  dsimp only at h
  split at h
  · rename_i x t e; rw [e]; exact ⟨t, by rw [eq_of_beq h]⟩
  · cases h
local macro_rules | `(tactic| walk_at "eval Name") => `(tactic| ((with_reducible show wpAny _ _ (eval (PySem.Expr.Name (Str.ofString "_QUOPRI_MAP") _) _) _ _ _); refine ld_global_at (by assumption) (TopH.ns (by assumption)) (g_MAP _) ?_))
theorem quote_body {w : World} {A : Around} {s₀ s : Shared} {L : Addr} {nm : Str} {Q : Value → Shared → Prop} {mean mg mb} {c : Nat} {t1 : Tok} (T : Top vq (looseW vq looseN) mean mg mb s₀.heap) (Y : TopH w s₀.heap)
    (F : Fr s₀.heap L s.heap (mp [("c", .str (mkS [c]) t1)])) (e : SameBut' s₀ s) (hc : c < 256)
    (h : ∀ tok s', Ext s₀ s' → Q (.str (hexS c) tok) s') :
    wpAny (model PR w) A (execs (fBody (stm 13)) (envOf nm (fScope (stm 13)) L 37 (.ref 36))) (fun f s' => Q (match f with | .ret v => v | _ => .none) s') (fun _ _ => False) s := by
  w_on
  obtain ⟨h', tk', rfl⟩ := e
  obtain ⟨tc, hq⟩ := qmp_get c hc
  have hl1 : (mkS [c]).length = 1 := rfl
  refine wpAny_execs_cons ?_
  repeat' walk1
  have hg : (mkS [c]).cps.getD 0 0 = c := rfl
  rw [hg]
  refine list_item (vs := qmp) ?hl (by omega) (by omega) (by simpa using hq) ?_
  case hl => exact qmp_is (fr_top F Y)
  exact h _ _ ⟨F.keep, ⟨_, _, rfl⟩⟩
theorem quote_spec {w : World} {A : Around} {s : Shared} {Q : Value → Shared → Prop} {E : Value → Shared → Prop} {mean mg mb} {c : Nat} {t1 : Tok} (T : Top vq (looseW vq looseN) mean mg mb s.heap) (Y : TopH w s.heap)
    (hroom : A.depth < recursionLimit) (hc : c < 256) (h : ∀ tok s', Ext s s' → Q (.str (hexS c) tok) s') : wpAny (model PR w) A (call (.ref 37) [.str (mkS [c]) t1]) Q E s :=
  call_def (binds := [("c", .str (mkS [c]) t1)]) hroom (Y 37 _ rfl) rfl T.nolimit ⟨36, _, _, _, rfl, Y 36 _ rfl, rfl, rfl⟩ rfl (fun _ => rfl) (BindsTo.of_eq rfl) (by decide +kernel) (locs rfl)
    (fun L s₁ A' F e _ => quote_body T Y F e hc h) rfl rfl rfl
theorem at_quote {w : World} {A : Around} {s : Shared} {h₀ : Heap} {L : Addr} {m : Str → Option Value} {Q : Value → Shared → Prop} {E : Value → Shared → Prop} {mean mg mb} {c : Nat} {t1 : Tok} (T : Top vq (looseW vq looseN) mean mg mb h₀) (Y : TopH w h₀) (F : Fr h₀ L s.heap m)
    (hroom : A.depth < recursionLimit) (hc : c < 256) (h : ∀ tok s', Ext s s' → Q (.str (hexS c) tok) s') : AtFn (model PR w) A Q E 37 [.str (mkS [c]) t1] s :=
  ⟨⟨_, _, fr_top F Y 37 _ rfl, rfl⟩, quote_spec (T.keeps F.keep) (fr_top F Y) hroom hc h⟩
end Mine
end
section
open PySem PySem.W PySem.Calls PyProof.Rows Mine
local macro_rules | `(tactic| walk_at "known") => `(tactic| (repeat' (first | exact List.forall_mem_nil _ | refine List.forall_mem_cons.mpr ⟨rfl, ?_⟩)))
section
set_option maxRecDepth 100000
set_option maxHeartbeats 4000000
namespace Mine
theorem anew13 : True := by
  w_top off
  first | walk1 | trivial
open PySem PySem.W PySem.Calls PyProof.Rows
noncomputable def hexL (c : Nat) : List Nat := [61, hexD (c / 16), hexD (c % 16)]
noncomputable def lineTail (n : Nat) (eol l r : List Nat) : List Nat := match l.getLast? with
  | some c => if c = 32 ∨ c = 9 then (if r.length + 2 ≤ n then r.dropLast ++ hexL c else if r.length + 1 = n then r.dropLast ++ ([c] ++ ([61] ++ eol)) else r.dropLast ++ (([61] ++ eol) ++ hexL c)) else r
  | none => r
noncomputable def lineOut (n : Nat) (eol l : List Nat) : List (List Nat) := (soft n l).1 ++ [lineTail n eol l (soft n l).2]
local macro_rules | `(tactic| walk_at "eval Name") => `(tactic| ((with_reducible show wpAny _ _ (eval (PySem.Expr.Name (Str.ofString "quote") _) _) _ _ _); refine ld_global_at (by assumption) (TopH.ns (by assumption)) (g_quote _) ?_))
local macro_rules | `(tactic| walk_at "callWith") => `(tactic| ((with_reducible show wpAny _ _ (callWith _ (Value.ref _) [] _ _) _ _ _); (fail_if_success (with_reducible show wpAny _ _ (callWith _ (Value.ref 37) [] _ _) _ _ _)); refine callWith_bm1 ?_))
local macro_rules | `(tactic| walk_at "AtBm") => `(tactic| (refine at_bm (by assumption) (by assumption) (by assumption) (by assumption) (by omega) ?_; intro _ _ _; dsimp only))
local macro_rules | `(tactic| walk_at "callWith") => `(tactic| ((with_reducible show wpAny _ _ (callWith _ (Value.ref 37) [] _ _) _ _ _); refine callWith_fn ?_))
theorem blank_in (c : Nat) (hc : c < 256) : (Builtin.Str.occurrences (Str.ofString " \t") (mkS [c]) 0 (Str.ofString " \t").length 1).isEmpty = !(c == 32 || c == 9) := by
  have : ∀ c : Fin 256, (Builtin.Str.occurrences (Str.ofString " \t") (mkS [c.val]) 0 (Str.ofString " \t").length 1).isEmpty = !(c.val == 32 || c.val == 9) := by decide +kernel
  exact this ⟨c, hc⟩
theorem strs_line {vs : List Value} {os : List Str} {n : Nat} {ee l : List Nat} {x : Str} {t : Tok} (hv : StrsAre vs (os ++ (soft n l).1.map mkS)) (hx : x = mkS (lineTail n ee l (soft n l).2)) : StrsAre (vs ++ [.str x t]) (os ++ (lineOut n ee l).map mkS) := by
  subst hx
  unfold lineOut
  rw [List.map_append, ← List.append_assoc]
  exact hv.append' (.cons _ _ .nil)
theorem tail_plain {n : Nat} {ee l r : List Nat} {c : Nat} (hc : l.getLast? = some c) (h : ¬ (c = 32 ∨ c = 9)) : lineTail n ee l r = r := by unfold lineTail; rw [hc]; dsimp only; rw [if_neg h]
theorem tail_nil {n : Nat} {ee r : List Nat} : lineTail n ee [] r = r := rfl
theorem be_line {w : World} {A : Around} {s₀ s : Shared} {L : Addr} {nm : Str} {Q : Flow → Shared → Prop} {E : Value → Shared → Prop} {mean mg mb} {B : Str} {ee : List Nat} {n : Nat} {eb bm : Addr} {tb te tn ts tm tl : Tok} {l : List Nat}
    (T : Top vq (looseW vq looseN) mean mg mb s₀.heap) (Y : TopH w s₀.heap) (hroom : A.depth < recursionLimit) {own : List (Addr × Obj)} (hne : bm ≠ eb) (hoff : ∀ p ∈ own, p.1 ≠ eb) (hn : 4 ≤ n) (hl : l.length ≤ 12000) (hl8 : ∀ c ∈ l, c < 256) (he : ee.length ≤ 2)
    {vs : List Value} {ep : Nat} {os : List Str} (hos : (os ++ (lineOut n ee l).map mkS).length ≤ 1000000) {m : Str → Option Value}
    (F : Fr s₀.heap L s.heap (fun y => if y = "line" then some (.str (mkS l) tl) else m y)) (hm : ∀ p ∈ beBase B (mkS ee) n eb bm tb te tn ts tm, m p.1 = some p.2)
    (N : News s₀.heap L s.heap ((eb, lst vs ep) :: (bm, bmObj eb) :: own)) (hv : StrsAre vs os) (e : SameBut' s₀ s)
    (h : ∀ s' m' vs' ep', SameBut' s₀ s' → Fr s₀.heap L s'.heap m' → (∀ p ∈ beBase B (mkS ee) n eb bm tb te tn ts tm, m' p.1 = some p.2) →
      News s₀.heap L s'.heap ((eb, lst vs' ep') :: (bm, bmObj eb) :: own) → StrsAre vs' (os ++ (lineOut n ee l).map mkS) → Q .next s') :
    wpAny (model PR w) A (execs (sBody (nth (fBody (stm 17)) 7)) (envOf nm (fScope (stm 17)) L 50 (.ref 49))) Q E s := by
  w_on
  obtain ⟨hp, tk, rfl⟩ := e
  rw [← over_eq hm] at F
  unfold beBase at F
  have hml : (mkS l).length ≤ 12000 := by rw [mkS_length]; exact hl
  have hme : (mkS ee).length ≤ 2 := by rw [mkS_length]; exact he
  refine wpAny_execs_cons ?_
  iterate 20 (walk1)
  have hlo : (lineOut n ee l).length = (soft n l).1.length + 1 := by unfold lineOut; rw [List.length_append]; rfl
  rw [List.length_append, List.length_map, hlo] at hos
  refine' be_while (l := l) (B := B) (eol := mkS ee) (n := n) (os := os) (tgt := os ++ (soft n l).1.map mkS) (tb := tb) (te := te) (tn := tn) (ts := ts) (tm := tm) (tl := tl) T hne hoff hn hl ?htgt (by assumption) ?hm' rfl (by assumption) hv rfl ⟨_, _, rfl⟩ ?_
  case htgt => rw [List.length_append, List.length_map]; omega
  case hm' => unfold beLine; walk_at "known"
  clear F N hm
  rename_i F0 N0
  clear F0 N0
  rintro s' m' vs' ep' a t' ⟨hp', tk', rfl⟩ F hm hst N hv' hr hrn ha
  dsimp only at F
  have F1 := fr_over (l := ("start", .int (a : Int) t') :: _) F (List.forall_mem_cons.mpr ⟨hst, hm⟩)
  clear F
  unfold beLine at F1
  dsimp only
  have hlen := mkS_length l
  have hvl := hv'.length
  rw [List.length_append, List.length_map] at hvl
  have hrl : (l.drop a).length = l.length - a := List.length_drop
  by_cases hl0 : l = []
  · subst hl0
    simp only [List.length_nil] at hlen
    repeat' walk1
    refine h _ _ _ _ ⟨_, _, rfl⟩ (by assumption) ?_ (by assumption) (strs_line hv' ?_)
    · unfold beBase; walk_at "known"
    · rw [tail_nil, ← hr]; exact slice_sn _ (by omega)
  · obtain ⟨c, hc⟩ : ∃ c, l.getLast? = some c := ⟨_, List.getLast?_eq_some_getLast hl0⟩
    have hc8 : c < 256 := hl8 c (List.mem_of_getLast? hc)
    have hlp : 0 < l.length := List.length_pos_iff.mpr hl0
    have hit := item_last l hc
    have hal : a < l.length := by have q := soft_rest n l hl0; rw [← hr] at q; have := List.length_pos_iff.mpr q; omega
    have hbl := blank_in c hc8
    repeat' walk1
    · have ho : (Builtin.Str.occurrences (Str.ofString " \t") (Txt.item (mkS l) (-1)) 0 (Str.ofString " \t").length 1).isEmpty = true := by assumption
      rw [hit, hbl] at ho
      have hnb : ¬ (c = 32 ∨ c = 9) := by simpa using ho
      refine h _ _ _ _ ⟨_, _, rfl⟩ (by assumption) ?_ (by assumption) (strs_line hv' ?_)
      · unfold beBase; walk_at "known"
      · rw [tail_plain hc hnb, ← hr]; exact slice_sn l ha
    · have ho : (Builtin.Str.occurrences (Str.ofString " \t") (Txt.item (mkS l) (-1)) 0 (Str.ofString " \t").length 1).isEmpty = false := by assumption
      have hb : c = 32 ∨ c = 9 := by rw [hit, hbl] at ho; by_cases q : c = 32; exact .inl q; exact .inr (by simpa [q] using ho)
      have h3 : (3 : Int) ≤ (a : Int) - ((l.length : Int) - 1 - (n : Int)) := by assumption
      rw [hit]
      refine at_quote T Y (by assumption) hroom hc8 fun tok s' x => ?_
      have F' := fr_ext (by assumption) x
      have N' := news_ext (by assumption) x
      obtain ⟨_, hp2, tk2, rfl⟩ := x
      dsimp only at F' N' ⊢
      have hx3 : (hexS c).length ≤ 3 := Nat.le_refl 3
      repeat' walk1
      refine h _ _ _ _ ⟨_, _, rfl⟩ (by assumption) ?_ (by assumption) (strs_line hv' ?_)
      · unfold beBase; walk_at "known"
      · unfold lineTail
        rw [hc]; dsimp only
        rw [if_pos hb, ← hr, if_pos (by omega), slice_sm l (by omega)]
        exact mkS_append _ (hexL c)
    · have ho : (Builtin.Str.occurrences (Str.ofString " \t") (Txt.item (mkS l) (-1)) 0 (Str.ofString " \t").length 1).isEmpty = false := by assumption
      have hb : c = 32 ∨ c = 9 := by rw [hit, hbl] at ho; by_cases q : c = 32; exact .inl q; exact .inr (by simpa [q] using ho)
      have h3 : ¬ (3 : Int) ≤ (a : Int) - ((l.length : Int) - 1 - (n : Int)) := by assumption
      have h2 : (a : Int) - ((l.length : Int) - 1 - (n : Int)) = 2 := by assumption
      refine h _ _ _ _ ⟨_, _, rfl⟩ (by assumption) ?_ (by assumption) (strs_line hv' ?_)
      · unfold beBase; walk_at "known"
      · unfold lineTail
        rw [hc]; dsimp only
        rw [if_pos hb, ← hr, if_neg (by omega), if_pos (by omega), slice_sm l (by omega), hit, show Str.ofString "=" = mkS [61] by decide +kernel, mkS_append, mkS_append, mkS_append]
    · have ho : (Builtin.Str.occurrences (Str.ofString " \t") (Txt.item (mkS l) (-1)) 0 (Str.ofString " \t").length 1).isEmpty = false := by assumption
      have hb : c = 32 ∨ c = 9 := by rw [hit, hbl] at ho; by_cases q : c = 32; exact .inl q; exact .inr (by simpa [q] using ho)
      have h3 : ¬ (3 : Int) ≤ (a : Int) - ((l.length : Int) - 1 - (n : Int)) := by assumption
      have h2 : (a : Int) - ((l.length : Int) - 1 - (n : Int)) ≠ 2 := by assumption
      rw [hit]
      refine at_quote T Y (by assumption) hroom hc8 fun tok s' x => ?_
      have F' := fr_ext (by assumption) x
      have N' := news_ext (by assumption) x
      obtain ⟨_, hp2, tk2, rfl⟩ := x
      dsimp only at F' N' ⊢
      have hx3 : (hexS c).length ≤ 3 := Nat.le_refl 3
      repeat' walk1
      refine h _ _ _ _ ⟨_, _, rfl⟩ (by assumption) ?_ (by assumption) (strs_line hv' ?_)
      · unfold beBase; walk_at "known"
      · unfold lineTail
        rw [hc]; dsimp only
        rw [if_pos hb, ← hr, if_neg (by omega), if_neg (by omega), slice_sm l (by omega), show Str.ofString "=" = mkS [61] by decide +kernel, show hexS c = mkS (hexL c) from rfl, mkS_append, mkS_append, mkS_append]
    · exfalso
      have : ((mkS l).length : Int) = 0 := by assumption
      omega
end Mine
end
section
set_option maxRecDepth 100000
set_option maxHeartbeats 4000000
namespace Mine
theorem anew14 : True := by
  w_top off
  first | walk1 | trivial
open PySem PySem.W PySem.Calls PyProof.Rows
noncomputable def encS (c : Nat) : Str := if c = 10 || c = 13 || c = 9 || (decide (32 ≤ c) && decide (c < 127) && c != 61) then ⟨#[c]⟩ else ⟨#[61, hexD (c / 16), hexD (c % 16)]⟩
noncomputable def bem : List Value := match (Hf (aWorld 1).params).get? 39 with | some ⟨_, _, .seq xs _, _⟩ => xs.toList | _ => []
theorem bem_is {w : World} {h : Heap} (Y : TopH w h) : h.IsList 39 bem.toArray := ⟨_, Y 39 _ rfl, rfl, 0, by kernel_rfl⟩
theorem bem_get (c : Nat) (hc : c < 256) : ∃ t, bem[c]? = some (.str (encS c) t) := by
  have : ∀ c : Fin 256, (match bem[c.val]? with | some (.str x _) => x == encS c.val | _ => false) = true := by decide +kernel
  have h := this ⟨c, hc⟩
  dsimp only at h
  split at h
  · rename_i x t e; rw [e]; exact ⟨t, by rw [eq_of_beq h]⟩
  · cases h
theorem encS_len (c : Nat) (_ : c < 256) : (encS c).length ≤ 3 := by
  unfold encS
  split
  · exact (by decide : 1 ≤ 3)
  · exact (by decide : 3 ≤ 3)
noncomputable def encL (c : Nat) : List Nat := (encS c).cps.toList
noncomputable def encT (x : List Nat) : List Nat := x.flatMap encL
theorem encT_eq (x : List Nat) : trS encS x = encT x := rfl
noncomputable def outs (n : Nat) (ee : List Nat) (ls : List Str) : List Str := ls.flatMap fun l => (lineOut n ee l.cps.toList).map mkS
noncomputable def trailS (b : List Nat) : List Str := match b.getLast? with | some c => if c = 13 ∨ c = 10 then [mkS []] else [] | none => []
noncomputable def beItems (n : Nat) (ee b : List Nat) : List Str := outs n ee (Txt.lines (mkS b)) ++ trailS b
theorem crlf_in (c : Nat) (hc : c < 256) : (Builtin.Str.occurrences (Str.ofString "\r\n") (mkS [c]) 0 (Str.ofString "\r\n").length 1).isEmpty = !(c == 13 || c == 10) := by
  have : ∀ c : Fin 256, (Builtin.Str.occurrences (Str.ofString "\r\n") (mkS [c.val]) 0 (Str.ofString "\r\n").length 1).isEmpty = !(c.val == 13 || c.val == 10) := by decide +kernel
  exact this ⟨c, hc⟩
theorem outs_take {n : Nat} {ee : List Nat} {ls : List Str} {i : Nat} {y : Str} (h : ls[i]? = some y) : outs n ee (ls.take (i + 1)) = outs n ee (ls.take i) ++ (lineOut n ee y.cps.toList).map mkS := by
  unfold outs
  rw [List.take_add_one, h]; simp
theorem mem_lines {b : List Nat} {y : Str} (hy : y ∈ Txt.lines (mkS b)) {c : Nat} (hc : c ∈ y.cps.toList) : c ∈ b := by
  unfold Txt.lines at hy
  split at hy
  · rw [List.mem_singleton] at hy; subst hy; exact hc
  · unfold linesOf at hy
    obtain ⟨p, _, rfl⟩ := List.mem_map.mp hy
    rw [StrLaws.strSub_toList] at hc
    exact List.mem_of_mem_drop (List.mem_of_mem_take hc)
theorem outs_mono {n : Nat} {ee : List Nat} {ls : List Str} (k : Nat) : (outs n ee (ls.take k)).length ≤ (outs n ee ls).length := by
  have e : outs n ee ls = outs n ee (ls.take k) ++ outs n ee (ls.drop k) := by unfold outs; rw [← List.flatMap_append, List.take_append_drop]
  rw [e, List.length_append]; omega
theorem hexD_lt (d : Nat) (h : d < 16) : hexD d < 256 := by unfold hexD; split <;> omega
theorem encL_lt (c : Nat) (hc : c < 256) : ∀ d ∈ encL c, d < 256 := by
  intro d hd
  unfold encL encS at hd
  split at hd
  · have : d = c := by simpa using hd
    omega
  · have h1 := hexD_lt (c / 16) (by omega)
    have h2 := hexD_lt (c % 16) (by omega)
    have : d = 61 ∨ d = hexD (c / 16) ∨ d = hexD (c % 16) := by simpa using hd
    omega
theorem encT_lt {x : List Nat} (hx : ∀ c ∈ x, c < 256) : ∀ d ∈ encT x, d < 256 := by
  intro d hd
  obtain ⟨c, hc, hd⟩ := List.mem_flatMap.mp hd
  exact encL_lt c (hx c hc) d hd
theorem encT_ne {x : List Nat} (hx : x ≠ []) : encT x ≠ [] := by
  obtain ⟨c, t, rfl⟩ := List.exists_cons_of_ne_nil hx
  intro h
  have : encL c = [] := (List.append_eq_nil_iff.mp h).1
  unfold encL encS at this
  split at this <;> simp at this
theorem bm_ne {h₀ h : Heap} {L eb bm : Addr} {its : Array Value} {n : Nat} {rest : List (Addr × Obj)} (N : News h₀ L h ((bm, bmObj eb) :: (eb, { cls := .type "list", data := .seq its n }) :: rest)) : bm ≠ eb := fun q => by
  have a := (N _ (.head _)).1
  have b := (N _ (.tail _ (.head _))).1
  dsimp only at a b
  rw [q, b] at a
  exact absurd (congrArg Obj.cls (Option.some.inj a)) (show ¬ (Value.type "list" = Value.type "builtin_function_or_method") by decide)
local macro_rules | `(tactic| walk_at "eval Name") => `(tactic| ((with_reducible show wpAny _ _ (eval (PySem.Expr.Name (Str.ofString "_QUOPRI_BODY_ENCODE_MAP") _) _) _ _ _); refine ld_global_at (by assumption) (TopH.ns (by assumption)) (g_BEM _) ?_))
local macro_rules | `(tactic| walk_at "eval Name") => `(tactic| ((with_reducible show wpAny _ _ (eval (PySem.Expr.Name (Str.ofString "CRLF") _) _) _ _ _); refine ld_global_at (by assumption) (TopH.ns (by assumption)) (g_CRLF _) ?_))
local macro_rules | `(tactic| walk_at "callWith") => `(tactic| ((with_reducible show wpAny _ _ (callWith _ (Value.ref _) [] _ _) _ _ _); refine callWith_bm1 ?_))
local macro_rules | `(tactic| walk_at "getMethod str") => `(tactic| refine gm_translate ?_)
local macro_rules | `(tactic| walk_at "exec For") => `(tactic| (refine For_invV _ rfl rfl ?_))
theorem be_tail {w : World} {A : Around} {s₀ s : Shared} {L : Addr} {nm : Str} {Q : Value → Shared → Prop} {mean mg mb} {b ee : List Nat} {n : Nat} {eb bm : Addr} {tb te tn ts tm : Tok} {m : Str → Option Value} (T : Top vq (looseW vq looseN) mean mg mb s₀.heap)
    (Y : TopH w s₀.heap) (hh : A.handled = none) (hroom : A.depth < recursionLimit) (F : Fr s₀.heap L s.heap m) (hm : ∀ p ∈ beBase (mkS b) (mkS ee) n eb bm tb te tn ts tm, m p.1 = some p.2)
    (N : News s₀.heap L s.heap [(eb, lst [] 0), (bm, bmObj eb)]) (hne : bm ≠ eb) (e : SameBut' s₀ s) (hn : 4 ≤ n) (hb : b.length ≤ 12000) (hb8 : ∀ c ∈ b, c < 256) (hb0 : b ≠ []) (he : ee.length ≤ 2)
    (hw : ((beItems n ee b).map (·.length)).sum + (beItems n ee b).length * 64 ≤ 16777216)
    (h : ∀ tok s', Ext s₀ s' → Q (.str (Txt.join (mkS ee) (beItems n ee b)) tok) s') :
    wpAny (model PR w) A (execs ((fBody (stm 17)).drop 7) (envOf nm (fScope (stm 17)) L 50 (.ref 49))) (fun f s' => Q (match f with | .ret v => v | _ => .none) s') (fun _ _ => False) s := by
  w_on
  obtain ⟨hp, tk, rfl⟩ := e
  have hbl : (mkS b).length ≤ 12000 := by rw [mkS_length]; exact hb
  have hmb := mkS_length b
  have hme : (mkS ee).length ≤ 2 := by rw [mkS_length]; exact he
  have hbp : 0 < b.length := List.length_pos_iff.mpr hb0
  rw [← over_eq hm] at F
  unfold beBase at F
  have hlt : ∀ p ∈ [(eb, lst [] 0), (bm, bmObj eb)], p.1 < hp.objs.size := fun p hp => Heap.lt_size (N p hp).1
  refine wpAny_execs_cons ?_
  refine For_invV s₀.heap rfl rfl ?_
  repeat' walk1
  rename_i l hw5 kk hlines hstrs hshort hisl F2 N3
  dsimp only at hisl F2 N3 ⊢
  have hlL := (N3 _ (.head _)).2.1
  have N4 := News.sub (b := [(eb, lst [] 0), (bm, bmObj eb)]) N3 (fun p hp => .tail _ hp)
  clear N3
  refine iter_list (vs := strValues l) (fun i m news => ∃ vs ep, news = [(eb, lst vs ep), (bm, bmObj eb)] ∧ StrsAre vs (outs n ee ((Txt.lines (mkS b)).take i)) ∧ ∀ p ∈ beBase (mkS b) (mkS ee) n eb bm tb te tn ts tm, m p.1 = some p.2) hh hisl hlL (fun p hp => Nat.ne_of_lt (hlt p hp)) F2 N4 ⟨[], 0, rfl, .nil, ?_⟩ ?_ ?_
  · unfold beBase; walk_at "known"
  · rintro i v m₁ news₁ h' tk' own hv hadr hoff ⟨vs, ep, rfl, hv', hm'⟩ F' N'
    obtain ⟨y, t, rfl, hy⟩ := hstrs.item i v hv
    have hyl : y ∈ l.map (·.1) := List.mem_of_getElem? hy
    rw [hlines] at hy
    rw [← mkS_of y] at F'
    refine be_line (B := mkS b) (l := y.cps.toList) T Y hroom hne (fun p hp => hoff p hp eb (.head _)) hn ?_ ?_ he (os := outs n ee ((Txt.lines (mkS b)).take i)) ?_ F' hm' N' hv' ⟨_, _, rfl⟩ ?_
    · have := hshort y hyl; rw [Array.length_toList]; show y.length ≤ _; omega
    · intro c hc
      exact hb8 c (mem_lines (by rw [← hlines]; exact hyl) hc)
    · rw [← outs_take hy]
      have := outs_mono (n := n) (ee := ee) (ls := Txt.lines (mkS b)) (i + 1)
      have h2 : (outs n ee (Txt.lines (mkS b))).length ≤ (beItems n ee b).length := by unfold beItems; rw [List.length_append]; omega
      omega
    · rintro s' m' vs' ep' ⟨h2, tk2, rfl⟩ F2 hm2 N2 hv2
      rw [← outs_take hy] at hv2
      exact ⟨h2, tk2, m', _, [(eb, lst vs' ep'), (bm, bmObj eb)], rfl, F2, N2, fun p hp => List.mem_append_left _ hp, fun p hp => List.mem_append_right [(eb, lst vs' ep'), (bm, bmObj eb)] hp, rfl, vs', ep', rfl, hv2, hm2⟩
  · rintro m₁ news₁ h' tk' ⟨vs, ep, rfl, hv, hm'⟩ _ F' N'
    have hlen : (strValues l).length = (Txt.lines (mkS b)).length := by rw [← hlines, hstrs.length]
    rw [hlen, List.take_length] at hv
    rw [← over_eq hm'] at F'
    unfold beBase at F'
    dsimp only
    obtain ⟨c, hc⟩ : ∃ c, b.getLast? = some c := ⟨_, List.getLast?_eq_some_getLast hb0⟩
    have hc8 : c < 256 := hb8 c (List.mem_of_getLast? hc)
    have hit := item_last b hc
    have hbl := crlf_in c hc8
    have hvl := hv.length
    have hol : (outs n ee (Txt.lines (mkS b))).length ≤ (beItems n ee b).length := by unfold beItems; rw [List.length_append]; omega
    have hvs : vs.length ≤ 1000000 := by omega
    repeat' walk1
    · have ho : (Builtin.Str.occurrences (Str.ofString "\r\n") (Txt.item (mkS b) (-1)) 0 (Str.ofString "\r\n").length 1).isEmpty = true := by assumption
      rw [hit, hbl] at ho
      have hnb : ¬ (c = 13 ∨ c = 10) := by simpa using ho
      have hbi : beItems n ee b = outs n ee (Txt.lines (mkS b)) := by unfold beItems trailS; rw [hc]; dsimp only; rw [if_neg hnb, List.append_nil]
      rw [hbi] at hw h
      refine join_listC (items := vs.toArray) ⟨_, (N' _ (.head _)).1, rfl, ep, rfl⟩ (by simpa using hv) (by omega) hw fun t' k => ?_
      exact h _ _ ⟨F'.keep, ⟨_, _, rfl⟩⟩
    · have ho : (Builtin.Str.occurrences (Str.ofString "\r\n") (Txt.item (mkS b) (-1)) 0 (Str.ofString "\r\n").length 1).isEmpty = false := by assumption
      have hb : c = 13 ∨ c = 10 := by rw [hit, hbl] at ho; by_cases q : c = 13; exact .inl q; exact .inr (by simpa [q] using ho)
      have hbi : beItems n ee b = outs n ee (Txt.lines (mkS b)) ++ [mkS []] := by unfold beItems trailS; rw [hc]; dsimp only; rw [if_pos hb]
      rw [hbi] at hw h
      refine at_bm F' N' hne (fun _ h => nomatch h) hvs ?_
      intro h3 F3 N3
      dsimp only
      repeat' walk1
      refine join_listC (items := (vs ++ [Value.str (mkS []) _]).toArray) ⟨_, (N3 _ (.head _)).1, rfl, ep + 1, rfl⟩ (by simpa using hv.append' (.cons (mkS []) _ .nil)) (by omega) hw fun t' k => ?_
      exact h _ _ ⟨F3.keep, ⟨_, _, rfl⟩⟩
theorem be_main {w : World} {A : Around} {s₀ s : Shared} {L : Addr} {nm : Str} {Q : Value → Shared → Prop} {mean mg mb} {x ee : List Nat} {n : Nat} {t1 t2 t3 : Tok} (T : Top vq (looseW vq looseN) mean mg mb s₀.heap)
    (Y : TopH w s₀.heap) (hh : A.handled = none) (hroom : A.depth < recursionLimit)
    (F : Fr s₀.heap L s.heap (mp [("eol", .str (mkS ee) t3), ("maxlinelen", .int (n : Int) t2), ("body", .str (mkS x) t1)])) (e : SameBut' s₀ s) (hn : 4 ≤ n) (hx : x.length ≤ 4000) (hx8 : ∀ c ∈ x, c < 256) (hx0 : x ≠ []) (he : ee.length ≤ 2)
    (hw : ((beItems n ee (encT x)).map (·.length)).sum + (beItems n ee (encT x)).length * 64 ≤ 16777216)
    (h : ∀ tok s', Ext s₀ s' → Q (.str (Txt.join (mkS ee) (beItems n ee (encT x))) tok) s') :
    wpAny (model PR w) A (execs (fBody (stm 17)) (envOf nm (fScope (stm 17)) L 50 (.ref 49))) (fun f s' => Q (match f with | .ret v => v | _ => .none) s') (fun _ _ => False) s := by
  w_on
  obtain ⟨hp, tk, rfl⟩ := e
  have N : News s₀.heap L hp [] := .nil
  have hmx := mkS_length x
  have hmxl : (mkS x).length ≤ 4000 := by omega
  have hme : (mkS ee).length ≤ 2 := by rw [mkS_length]; exact he
  have hxl : 0 < x.length := List.length_pos_iff.mpr hx0
  refine wpAny_execs_cons ?_
  repeat' walk1
  · exfalso; omega
  · dsimp only [List.cons_append, List.nil_append]
    refine translate_call (y := encS) ?hl bem_get encS_len hx8 hmxl (by omega) fun tok tk => ?_
    case hl => exact bem_is (fr_top F Y)
    rw [mkS_toList, encT_eq]
    have hb : (⟨(encT x).toArray⟩ : Str) = mkS (encT x) := rfl
    rw [hb]
    dsimp only
    have hbl : (mkS (encT x)).length ≤ 12000 := by rw [mkS_length]; have := trS_len encS_len x hx8; rw [encT_eq] at this; omega
    repeat' walk1
    refine bm_make (by assumption) (by assumption) ?_
    intro h1 F1 N1
    have hne := bm_ne N1
    have N2 := News.sub (b := [(_, lst [] 0), (_, bmObj _)]) N1 (by intro p hp; rcases List.mem_cons.mp hp with rfl | hp; exact .tail _ (.head _); rw [List.mem_singleton.mp hp]; exact .head _)
    dsimp only at F1 N2 hne ⊢
    clear N1
    walk1
    dsimp only
    refine' be_tail (b := encT x) (eb := _) (bm := _) T Y hh hroom (by assumption) ?hm (by assumption) hne ⟨_, _, rfl⟩ hn ?_ ?_ ?_ he hw h
    case hm => unfold beBase; walk_at "known"
    · rw [mkS_length] at hbl; exact hbl
    · exact encT_lt hx8
    · exact encT_ne hx0
  · exfalso; omega
end Mine
end
end
section
set_option maxRecDepth 100000
set_option maxHeartbeats 1000000
namespace Mine
open PySem PySem.W PySem.Calls PyProof.Rows PySem.StrLaws PySem.Builtin.Str
/-- splitlines, where CR, LF and CRLF alone end a line -/
noncomputable def goL : List Nat → List Nat → List (List Nat)
  | cur, [] => if cur = [] then [] else [cur]
  | cur, 13 :: 10 :: t => cur :: goL [] t
  | cur, 13 :: t => cur :: goL [] t
  | cur, 10 :: t => cur :: goL [] t
  | cur, c :: t => goL (cur ++ [c]) t
theorem goL_crlf (cur t : List Nat) : goL cur (13 :: 10 :: t) = cur :: goL [] t := by rw [goL]
theorem goL_cr (cur t : List Nat) (h : t.head? ≠ some 10) : goL cur (13 :: t) = cur :: goL [] t := by
  cases t with
  | nil => simp [goL]
  | cons d t => rw [goL]; intro r hr; cases hr; exact h rfl
theorem goL_lf (cur t : List Nat) : goL cur (10 :: t) = cur :: goL [] t := by rw [goL]
theorem goL_other (cur t : List Nat) (c : Nat) (h1 : c ≠ 13) (h2 : c ≠ 10) : goL cur (c :: t) = goL (cur ++ [c]) t := by
  rw [goL]
  · intro r hc; exact absurd hc h1
  · exact h1
  · exact h2
noncomputable def spanS (b : List Nat) (p : Nat × Nat × Nat) : Str := strSub (mkS b) p.1 p.2.1
theorem strSub_mk (b : List Nat) (i j : Nat) : strSub (mkS b) i j = mkS ((b.drop i).take (j - i)) := by
  have h := strSub_toList (mkS b) i j
  rw [mkS_toList] at h
  rw [← h, mkS_of]
theorem ls_go (b : List Nat) (hB : ∀ c ∈ b, Unicode.isLineBreak c = (c == 10 || c == 13)) : ∀ (m cur : Nat) (lines : Array (Nat × Nat × Nat)) (start : Nat), cur + m = b.length →
    (start ≤ cur → (lsEnd (mkS b) (Id.run (forIn (m := Id) (List.range' cur m) ((lines, start) : LsSt) (lsBody (mkS b))))).map (spanS b) = lines.toList.map (spanS b) ++ (goL ((b.drop start).take (cur - start)) (b.drop cur)).map mkS) ∧
    (start = cur + 1 → b[cur]? = some 10 → (lsEnd (mkS b) (Id.run (forIn (m := Id) (List.range' cur m) ((lines, start) : LsSt) (lsBody (mkS b))))).map (spanS b) = lines.toList.map (spanS b) ++ (goL [] (b.drop (cur + 1))).map mkS)
  | 0, cur, lines, start, hm => by
    have hlen := mkS_length b
    refine ⟨fun hs => ?_, fun hs h10 => ?_⟩
    · show (lsEnd (mkS b) (lines, start)).map (spanS b) = _
      unfold lsEnd
      dsimp only
      have hd : b.drop cur = [] := List.drop_eq_nil_of_le (by omega)
      rw [hd, goL]
      by_cases hlt : start < (mkS b).length
      · rw [if_pos hlt, Array.toList_push, List.map_append]
        have hne : (b.drop start).take (cur - start) ≠ [] := List.ne_nil_of_length_pos (by rw [List.length_take, List.length_drop]; omega)
        rw [if_neg hne]
        have : spanS b (start, (mkS b).length, (mkS b).length) = mkS ((b.drop start).take (cur - start)) := by
          unfold spanS; rw [strSub_mk]; congr 2; show (mkS b).length - start = cur - start; omega
        simp [this]
      · rw [if_neg hlt]
        have he : (b.drop start).take (cur - start) = [] := by rw [show cur - start = 0 by omega]; rfl
        rw [if_pos he]; simp
    · have := (List.getElem?_eq_some_iff.mp h10).1
      omega
  | m + 1, cur, lines, start, hm => by
    have hlen := mkS_length b
    have hcl : cur < b.length := by omega
    obtain ⟨c, hc⟩ : ∃ c, b[cur]? = some c := ⟨b[cur], by simp⟩
    have hcb : c ∈ b := List.mem_of_getElem? hc
    have hgd : (mkS b).cps.getD cur 0 = c := by
      show b.toArray.getD cur 0 = c
      simp [Array.getD, hcl]
      have := hc
      rw [List.getElem?_eq_getElem hcl] at this
      exact Option.some.inj this
    have hdc : b.drop cur = c :: b.drop (cur + 1) := by
      rw [List.drop_eq_getElem_cons hcl]
      have := hc
      rw [List.getElem?_eq_getElem hcl] at this
      rw [Option.some.inj this]
    have hg1 : (mkS b).cps[cur + 1]? = b[cur + 1]? := by show b.toArray[cur + 1]? = _; simp
    have step : ∀ st : LsSt, Id.run (forIn (m := Id) (List.range' cur (m + 1)) st (lsBody (mkS b))) =
        Id.run (forIn (m := Id) (List.range' (cur + 1) m) (if (decide (st.snd ≤ cur) && Unicode.isLineBreak c) = true then (st.fst.push (st.snd, cur, lsNext (mkS b) cur), lsNext (mkS b) cur) else (st.fst, st.snd)) (lsBody (mkS b))) := by
      intro st
      rw [List.range'_succ, List.forIn_cons]
      conv => lhs; unfold lsBody
      rw [hgd]
      split <;> rfl
    refine ⟨fun hs => ?_, fun hs h10 => ?_⟩
    · rw [step, hdc]
      dsimp only
      by_cases hbr : c = 10 ∨ c = 13
      · have hcond : (decide (start ≤ cur) && Unicode.isLineBreak c) = true := by
          rw [hB c hcb, Bool.and_eq_true]
          exact ⟨decide_eq_true hs, by rcases hbr with rfl | rfl <;> rfl⟩
        rw [if_pos hcond]
        have hpush : spanS b (start, cur, lsNext (mkS b) cur) = mkS ((b.drop start).take (cur - start)) := strSub_mk _ _ _
        by_cases h1310 : c = 13 ∧ b[cur + 1]? = some 10
        · have hnx : lsNext (mkS b) cur = cur + 2 := by unfold lsNext; rw [hgd, hg1, h1310.1, h1310.2]; rfl
          obtain ⟨rfl, h10⟩ := h1310
          have hl2 : cur + 1 < b.length := (List.getElem?_eq_some_iff.mp h10).1
          have hd2 : b.drop (cur + 1) = 10 :: b.drop (cur + 2) := by
            rw [List.drop_eq_getElem_cons hl2]
            rw [List.getElem?_eq_getElem hl2] at h10
            rw [Option.some.inj h10]
          rw [hnx]
          rw [hnx] at hpush
          rw [((ls_go b hB m (cur + 1) _ (cur + 2) (by omega)).2 rfl h10), hd2, goL_crlf]
          simp [hpush]
        · have hnx : lsNext (mkS b) cur = cur + 1 := by
            unfold lsNext; rw [hgd, hg1]
            rw [if_neg]
            intro hq
            rw [Bool.and_eq_true] at hq
            exact h1310 ⟨eq_of_beq hq.1, eq_of_beq hq.2⟩
          rw [hnx]
          rw [hnx] at hpush
          rw [((ls_go b hB m (cur + 1) _ (cur + 1) (by omega)).1 (Nat.le_refl _))]
          have hgo : goL ((b.drop start).take (cur - start)) (c :: b.drop (cur + 1)) = (b.drop start).take (cur - start) :: goL [] (b.drop (cur + 1)) := by
            rcases hbr with rfl | rfl
            · exact goL_lf _ _
            · refine goL_cr _ _ fun q => h1310 ⟨rfl, ?_⟩
              rw [List.head?_drop] at q; exact q
          rw [hgo, Nat.sub_self, List.take_zero]
          simp [hpush]
      · have hcond : ¬ (decide (start ≤ cur) && Unicode.isLineBreak c) = true := by
          rw [hB c hcb, Bool.and_eq_true]
          rintro ⟨_, q⟩
          exact hbr (by simpa using q)
        rw [if_neg hcond, ((ls_go b hB m (cur + 1) _ start (by omega)).1 (by omega)), goL_other _ _ c (fun q => hbr (.inr q)) (fun q => hbr (.inl q))]
        congr 3
        rw [show cur + 1 - start = (cur - start) + 1 by omega, List.take_add_one]
        congr 1
        rw [List.getElem?_drop, show start + (cur - start) = cur by omega, hc]; rfl
    · rw [step]
      dsimp only
      have hcond : ¬ (decide (start ≤ cur) && Unicode.isLineBreak c) = true := by
        rw [Bool.and_eq_true, decide_eq_true_eq]; rintro ⟨q, _⟩; omega
      rw [if_neg hcond, ((ls_go b hB m (cur + 1) _ start (by omega)).1 (by omega))]
      rw [hs, Nat.sub_self, List.take_zero]
theorem lines_go (b : List Nat) (hB : ∀ c ∈ b, Unicode.isLineBreak c = (c == 10 || c == 13)) : Txt.lines (mkS b) = (goL [] b).map mkS := by
  have h := (ls_go b hB b.length 0 #[] 0 (by omega)).1 (Nat.le_refl _)
  rw [show (#[] : Array (Nat × Nat × Nat)).toList.map (spanS b) = [] from rfl, List.nil_append, List.drop_zero, Nat.sub_self, List.take_zero] at h
  have e : linesOf (mkS b) = (lineSpans (mkS b)).map (spanS b) := by
    unfold linesOf lineCuts
    rw [List.map_map]
    rfl
  rw [ls_eq, mkS_length] at e
  rw [← h, ← e]
  unfold Txt.lines
  split
  · rename_i hq
    have hq' := eq_of_beq hq
    unfold linesOf
    rw [hq']
    show [mkS b] = [strSub (mkS b) 0 (mkS b).length]
    rw [strSub_mk, mkS_length, List.drop_zero, Nat.sub_zero, List.take_length]
  · rfl
end Mine
end
section
set_option maxRecDepth 100000
set_option maxHeartbeats 1000000
namespace Mine
open PySem PySem.W PySem.Calls PyProof.Rows
/-- the rows of a text: CRLF, CR and LF part them alike -/
noncomputable def rowsA : List Nat → List Nat → List (List Nat)
  | cur, [] => [cur]
  | cur, 13 :: 10 :: t => cur :: rowsA [] t
  | cur, 13 :: t => cur :: rowsA [] t
  | cur, 10 :: t => cur :: rowsA [] t
  | cur, c :: t => rowsA (cur ++ [c]) t
noncomputable def rowsOf (x : List Nat) : List (List Nat) := rowsA [] x
theorem rowsA_crlf (cur t : List Nat) : rowsA cur (13 :: 10 :: t) = cur :: rowsA [] t := by rw [rowsA]
theorem rowsA_cr (cur t : List Nat) (h : t.head? ≠ some 10) : rowsA cur (13 :: t) = cur :: rowsA [] t := by
  cases t with
  | nil => simp [rowsA]
  | cons d t => rw [rowsA]; intro r hr; cases hr; exact h rfl
theorem rowsA_lf (cur t : List Nat) : rowsA cur (10 :: t) = cur :: rowsA [] t := by rw [rowsA]
theorem rowsA_other (cur t : List Nat) (c : Nat) (h1 : c ≠ 13) (h2 : c ≠ 10) : rowsA cur (c :: t) = rowsA (cur ++ [c]) t := by
  rw [rowsA]
  · intro r hc; exact absurd hc h1
  · exact h1
  · exact h2
noncomputable def crlfB (c : Nat) : Bool := c == 13 || c == 10
noncomputable def trail (x : List Nat) : List (List Nat) := match x.getLast? with | some c => if c = 13 ∨ c = 10 then [[]] else [] | none => []
theorem encL_nl {c : Nat} (h : c = 13 ∨ c = 10) : encL c = [c] := by rcases h with rfl | rfl <;> rfl
theorem hexD_ge (d : Nat) : 48 ≤ hexD d := by unfold hexD; split <;> omega
theorem encL_other {c : Nat} (h1 : c ≠ 13) (h2 : c ≠ 10) : ∀ d ∈ encL c, d ≠ 13 ∧ d ≠ 10 := by
  intro d hd
  unfold encL encS at hd
  have g1 := hexD_ge (c / 16)
  have g2 := hexD_ge (c % 16)
  split at hd
  · have : d = c := by simpa using hd
    subst this; exact ⟨h1, h2⟩
  · have : d = 61 ∨ d = hexD (c / 16) ∨ d = hexD (c % 16) := by simpa using hd
    omega
theorem encL_ne (c : Nat) : encL c ≠ [] := by unfold encL encS; split <;> simp
theorem goL_append : ∀ (e cur t : List Nat), (∀ d ∈ e, d ≠ 13 ∧ d ≠ 10) → goL cur (e ++ t) = goL (cur ++ e) t
  | [], cur, t, _ => by simp
  | d :: e, cur, t, h => by
    rw [List.cons_append, goL_other _ _ d (h d (.head _)).1 (h d (.head _)).2, goL_append e _ t fun q hq => h q (.tail _ hq)]
    simp
theorem trail_cons {c : Nat} {t : List Nat} (h : t ≠ []) : trail (c :: t) = trail t := by
  unfold trail; rw [List.getLast?_cons]; cases ht : t.getLast? with
  | none => exact absurd (List.getLast?_eq_none_iff.mp ht) h
  | some d => rfl
theorem encT_cons (c : Nat) (t : List Nat) : encT (c :: t) = encL c ++ encT t := rfl
theorem encT_append (a b : List Nat) : encT (a ++ b) = encT a ++ encT b := by unfold encT; simp
theorem encT_head {t : List Nat} (h : t.head? ≠ some 10) : (encT t).head? ≠ some 10 := by
  cases t with
  | nil => simp [encT]
  | cons c t =>
    rw [encT_cons]
    have hc : c ≠ 10 := fun q => h (by rw [q]; rfl)
    by_cases h13 : c = 13
    · subst h13; simp [encL_nl]
    · obtain ⟨d, r, hd⟩ := List.exists_cons_of_ne_nil (encL_ne c)
      rw [hd]
      intro q
      have : d = 10 := by simpa using q
      exact (encL_other h13 hc d (by rw [hd]; exact .head _)).2 this
theorem goL_rows : ∀ (k : Nat) (x cur : List Nat), x.length ≤ k → (x ≠ [] ∨ cur ≠ []) → goL (encT cur) (encT x) ++ trail x = (rowsA cur x).map encT
  | 0, x, cur, hk, hne => by
    have hx : x = [] := List.length_eq_zero_iff.mp (by omega)
    subst hx
    have hc : cur ≠ [] := hne.resolve_left fun q => q rfl
    show goL (encT cur) [] ++ [] = [encT cur]
    rw [goL, if_neg (encT_ne hc), List.append_nil]
  | k + 1, [], cur, hk, hne => by
    have hc : cur ≠ [] := hne.resolve_left fun q => q rfl
    show goL (encT cur) [] ++ [] = [encT cur]
    rw [goL, if_neg (encT_ne hc), List.append_nil]
  | k + 1, c :: t, cur, hk, hne => by
    have hk' : t.length ≤ k := by simpa using hk
    have nl : ∀ (t' : List Nat), t'.length ≤ k → goL [] (encT t') ++ (if t' = [] then [[]] else trail t') = (rowsA [] t').map encT := by
      intro t' ht'
      by_cases h0 : t' = []
      · subst h0; rfl
      · rw [if_neg h0]; exact goL_rows k t' [] ht' (.inl h0)
    by_cases h13 : c = 13
    · subst h13
      by_cases h10 : ∃ r, t = 10 :: r
      · obtain ⟨r, rfl⟩ := h10
        rw [rowsA_crlf, show encT (13 :: 10 :: r) = 13 :: 10 :: encT r from rfl, goL_crlf, List.map_cons, ← nl r (by simp at hk'; omega), List.cons_append]
        congr 2
        by_cases h0 : r = []
        · subst h0; rfl
        · rw [if_neg h0, trail_cons (by simp), trail_cons h0]
      · have hh : t.head? ≠ some 10 := by
          intro q
          cases t with
          | nil => cases q
          | cons d t => exact h10 ⟨t, by rw [show d = 10 by simpa using q]⟩
        rw [rowsA_cr _ _ hh, show encT (13 :: t) = 13 :: encT t from rfl, goL_cr _ _ (encT_head hh), List.map_cons, ← nl t hk', List.cons_append]
        congr 2
        by_cases h0 : t = []
        · subst h0; rfl
        · rw [if_neg h0, trail_cons h0]
    · by_cases h10 : c = 10
      · subst h10
        rw [rowsA_lf, show encT (10 :: t) = 10 :: encT t from rfl, goL_lf, List.map_cons, ← nl t hk', List.cons_append]
        congr 2
        by_cases h0 : t = []
        · subst h0; rfl
        · rw [if_neg h0, trail_cons h0]
      · rw [rowsA_other _ _ c h13 h10, encT_cons, goL_append _ _ _ (encL_other h13 h10), ← show encT (cur ++ [c]) = encT cur ++ encL c by rw [encT_append]; simp [encT], ← goL_rows k t (cur ++ [c]) hk' (.inr (by simp))]
        congr 1
        by_cases h0 : t = []
        · subst h0
          unfold trail
          simp [h13, h10]
        · rw [trail_cons h0]
theorem encL_chars {c : Nat} (hc : c < 256) : ∀ d ∈ encL c, d = 9 ∨ d = 10 ∨ d = 13 ∨ (32 ≤ d ∧ d < 127) := by
  intro d hd
  unfold encL encS at hd
  split at hd
  · rename_i h
    have : d = c := by simpa using hd
    subst this
    simp at h
    omega
  · have h1 : hexD (c / 16) < 127 := by unfold hexD; split <;> omega
    have g1 := hexD_ge (c / 16)
    have g2 := hexD_ge (c % 16)
    have h2 : hexD (c % 16) < 127 := by unfold hexD; split <;> omega
    have : d = 61 ∨ d = hexD (c / 16) ∨ d = hexD (c % 16) := by simpa using hd
    omega
theorem encT_breaks {x : List Nat} (hx : ∀ c ∈ x, c < 256) : ∀ c ∈ encT x, Unicode.isLineBreak c = (c == 10 || c == 13) := by
  intro d hd
  obtain ⟨c, hc, hd⟩ := List.mem_flatMap.mp hd
  have h := encL_chars (hx c hc) d hd
  have all : ∀ d : Fin 127, (d.val = 9 ∨ d.val = 10 ∨ d.val = 13 ∨ 32 ≤ d.val) → Unicode.isLineBreak d.val = (d.val == 10 || d.val == 13) := by decide +kernel
  exact all ⟨d, by omega⟩ (by show d = 9 ∨ d = 10 ∨ d = 13 ∨ 32 ≤ d; omega)
theorem lineOut_nil (n : Nat) (ee : List Nat) : lineOut n ee [] = [[]] := by
  unfold lineOut
  rw [soft_stop (by simp)]
  rfl
noncomputable def outRow (n : Nat) (ee row : List Nat) : List (List Nat) := lineOut n ee (encT row)
noncomputable def outRows (n : Nat) (ee : List Nat) (rows : List (List Nat)) : List (List Nat) := rows.flatMap (outRow n ee)
theorem last_enc {x : List Nat} (hx : x ≠ []) : trailS (encT x) = (trail x).map mkS := by
  unfold trailS
  obtain ⟨x', c, rfl⟩ : ∃ x' c, x = x' ++ [c] := ⟨x.dropLast, x.getLast hx, (List.dropLast_concat_getLast hx).symm⟩
  have e1 : encT (x' ++ [c]) = encT x' ++ encL c := by rw [encT_append]; simp [encT]
  have e2 : (encT x' ++ encL c).getLast? = (encL c).getLast? := by
    rw [List.getLast?_append]
    cases h : (encL c).getLast? with
    | none => exact absurd (List.getLast?_eq_none_iff.mp h) (encL_ne c)
    | some d => rfl
  have e3 : trail (x' ++ [c]) = if c = 13 ∨ c = 10 then [[]] else [] := by unfold trail; simp
  rw [e1, e2, e3]
  by_cases h : c = 13 ∨ c = 10
  · rw [if_pos h, encL_nl h]
    show (if c = 13 ∨ c = 10 then [mkS []] else []) = _
    rw [if_pos h]; rfl
  · rw [if_neg h]
    cases hd : (encL c).getLast? with
    | none => rfl
    | some d =>
      have := encL_other (fun q => h (.inl q)) (fun q => h (.inr q)) d (List.mem_of_getLast? hd)
      show (if d = 13 ∨ d = 10 then [mkS []] else []) = _
      rw [if_neg (by omega)]; rfl
theorem beItems_rows {n : Nat} {ee x : List Nat} (hx0 : x ≠ []) (hx : ∀ c ∈ x, c < 256) : beItems n ee (encT x) = (outRows n ee (rowsOf x)).map mkS := by
  unfold beItems
  rw [last_enc hx0, lines_go _ (encT_breaks hx)]
  have hg := goL_rows x.length x [] (Nat.le_refl _) (.inl hx0)
  have e1 : outs n ee ((goL [] (encT x)).map mkS) = ((goL [] (encT x)).flatMap (lineOut n ee)).map mkS := by
    unfold outs
    rw [List.flatMap_map, List.map_flatMap]
    rfl
  have e2 : (trail x).map mkS = ((trail x).flatMap (lineOut n ee)).map mkS := by
    unfold trail
    split
    · split
      · rw [List.flatMap_cons, lineOut_nil]; rfl
      · rfl
    · rfl
  rw [e1, e2, ← List.map_append, ← List.flatMap_append]
  have hg' : goL [] (encT x) ++ trail x = (rowsA [] x).map encT := hg
  rw [hg']
  unfold outRows outRow rowsOf
  rw [List.flatMap_map]
theorem soft_count (n : Nat) (r : List Nat) : (soft n r).1.length ≤ r.length ∧ ((soft n r).1.map (·.length)).sum + (soft n r).2.length ≤ 2 * r.length := by
  refine soft_ind n (P := fun r o => o.1.length ≤ r.length ∧ (o.1.map (·.length)).sum + o.2.length ≤ 2 * r.length) ?_ ?_ ?_ (fun r => by simp; omega) _ r (Nat.le_refl _)
  · intro r h h4 ih
    rw [List.length_drop] at ih
    simp only [List.length_cons, List.map_cons, List.sum_cons, List.length_take]
    omega
  · intro r h h4 ih
    rw [List.length_drop] at ih
    simp only [List.length_cons, List.map_cons, List.sum_cons, List.length_take]
    omega
  · intro r h h4 ih
    rw [List.length_drop] at ih
    simp only [List.length_cons, List.map_cons, List.sum_cons, List.length_append, List.length_take, List.length_nil]
    omega
theorem tail_count {n : Nat} {ee l r : List Nat} (he : ee.length ≤ 2) : (lineTail n ee l r).length ≤ r.length + 6 := by
  unfold lineTail
  split
  · split
    · split
      · simp [hexL]; omega
      · split
        · simp; omega
        · simp [hexL]; omega
    · omega
  · omega
theorem lineOut_count {n : Nat} {ee l : List Nat} (he : ee.length ≤ 2) : (lineOut n ee l).length ≤ l.length + 1 ∧ ((lineOut n ee l).map (·.length)).sum ≤ 2 * l.length + 6 := by
  have h := soft_count n l
  have ht := tail_count (n := n) (l := l) (r := (soft n l).2) he
  unfold lineOut
  rw [List.length_append, List.map_append, List.sum_append]
  simp only [List.length_cons, List.length_nil, List.map_cons, List.map_nil, List.sum_cons, List.sum_nil]
  omega
theorem encL_len {c : Nat} : (encL c).length ≤ 3 := by
  unfold encL encS; split
  · exact (by decide : 1 ≤ 3)
  · exact (by decide : 3 ≤ 3)
theorem encT_len (x : List Nat) : (encT x).length ≤ 3 * x.length := by
  induction x with
  | nil => exact Nat.le_refl _
  | cons c t ih => rw [encT_cons, List.length_append, List.length_cons]; have := encL_len (c := c); omega
noncomputable def rowSum (rows : List (List Nat)) : Nat := (rows.map (·.length)).sum
theorem rowsA_count : ∀ (k : Nat) (x cur : List Nat), x.length ≤ k → (rowsA cur x).length ≤ x.length + 1 ∧ rowSum (rowsA cur x) ≤ cur.length + x.length
  | 0, x, cur, hk => by
    have hx : x = [] := List.length_eq_zero_iff.mp (by omega)
    subst hx; simp [rowsA, rowSum]
  | k + 1, [], cur, hk => by simp [rowsA, rowSum]
  | k + 1, c :: t, cur, hk => by
    have hk' : t.length ≤ k := by simpa using hk
    by_cases h13 : c = 13
    · subst h13
      by_cases h10 : ∃ r, t = 10 :: r
      · obtain ⟨r, rfl⟩ := h10
        rw [rowsA_crlf]
        have := rowsA_count k r [] (by simp at hk'; omega)
        simp only [List.length_cons, rowSum, List.map_cons, List.sum_cons, List.length_nil] at this ⊢
        omega
      · have hh : t.head? ≠ some 10 := by
          intro q
          cases t with
          | nil => cases q
          | cons d t => exact h10 ⟨t, by rw [show d = 10 by simpa using q]⟩
        rw [rowsA_cr _ _ hh]
        have := rowsA_count k t [] hk'
        simp only [List.length_cons, rowSum, List.map_cons, List.sum_cons, List.length_nil] at this ⊢
        omega
    · by_cases h10 : c = 10
      · subst h10
        rw [rowsA_lf]
        have := rowsA_count k t [] hk'
        simp only [List.length_cons, rowSum, List.map_cons, List.sum_cons, List.length_nil] at this ⊢
        omega
      · rw [rowsA_other _ _ c h13 h10]
        have := rowsA_count k t (cur ++ [c]) hk'
        simp only [List.length_append, List.length_cons, List.length_nil] at this ⊢
        omega
theorem outRows_count {n : Nat} {ee : List Nat} (he : ee.length ≤ 2) : ∀ rows : List (List Nat), (outRows n ee rows).length ≤ 3 * rowSum rows + rows.length ∧ ((outRows n ee rows).map (·.length)).sum ≤ 6 * rowSum rows + 6 * rows.length
  | [] => by simp [outRows, rowSum]
  | r :: rows => by
    have ih := outRows_count (n := n) he rows
    have h1 := lineOut_count (n := n) (l := encT r) he
    have h2 := encT_len r
    have e : outRows n ee (r :: rows) = outRow n ee r ++ outRows n ee rows := rfl
    rw [e, List.length_append, List.map_append, List.sum_append]
    unfold outRow
    simp only [rowSum, List.map_cons, List.sum_cons, List.length_cons] at ih ⊢
    omega
theorem weight_ok {n : Nat} {ee x : List Nat} (he : ee.length ≤ 2) (hx : x.length ≤ 4000) :
    (((outRows n ee (rowsOf x)).map mkS).map (·.length)).sum + ((outRows n ee (rowsOf x)).map mkS).length * 64 ≤ 16777216 := by
  have h1 := outRows_count (n := n) he (rowsOf x)
  have h2 := rowsA_count x.length x [] (Nat.le_refl _)
  have e : ((outRows n ee (rowsOf x)).map mkS).map (·.length) = (outRows n ee (rowsOf x)).map (·.length) := by
    rw [List.map_map]; exact List.map_congr_left fun l _ => mkS_length l
  rw [e, List.length_map]
  unfold rowsOf at h1 ⊢
  simp only [List.length_nil] at h2
  omega
end Mine
end
section
set_option maxRecDepth 100000
set_option maxHeartbeats 1000000
namespace Mine
open PySem PySem.W PySem.Calls PyProof.Rows
/-- one octet's signs: itself, or = and two figures -/
def Tk (sg : List Nat) : Prop := (∃ c, sg = [c] ∧ c ≠ 61) ∨ (∃ a b, sg = [61, a, b] ∧ a ≠ 61 ∧ b ≠ 61)
theorem Tk.len {sg : List Nat} (h : Tk sg) : 1 ≤ sg.length ∧ sg.length ≤ 3 := by
  rcases h with ⟨c, rfl, _⟩ | ⟨a, b, rfl, _⟩ <;> simp
theorem split_at (m : Nat) : ∀ (sgs : List (List Nat)) (k : Nat), k ≤ m → m < k + sgs.flatten.length → ∃ p sg q, sgs = p ++ sg :: q ∧ k + p.flatten.length ≤ m ∧ m < k + p.flatten.length + sg.length
  | [], k, h1, h2 => by simp at h2; omega
  | sg :: sgs, k, h1, h2 => by
    by_cases h : m < k + sg.length
    · exact ⟨[], sg, sgs, rfl, by simpa using h1, by simpa using h⟩
    · rw [List.flatten_cons, List.length_append] at h2
      obtain ⟨p, g, q, e, a, b⟩ := split_at m sgs (k + sg.length) (by omega) (by omega)
      refine ⟨sg :: p, g, q, by rw [e]; rfl, ?_, ?_⟩
      · rw [List.flatten_cons, List.length_append]; omega
      · rw [List.flatten_cons, List.length_append]; omega
theorem tk_ends {g : List Nat} (h : Tk g) : (∀ i, i + 1 = g.length → g[i]? ≠ some 61) ∧ (∀ i, i + 2 = g.length → g[i]? ≠ some 61) := by
  rcases h with ⟨c, rfl, hc⟩ | ⟨a, b, rfl, ha, hb⟩
  · refine ⟨fun i hi => ?_, fun i hi => ?_⟩
    · obtain rfl : i = 0 := by simpa using hi
      simpa using hc
    · simp at hi
  · refine ⟨fun i hi => ?_, fun i hi => ?_⟩
    · obtain rfl : i = 2 := by simpa using hi
      simpa using hb
    · obtain rfl : i = 1 := by simpa using hi
      simpa using ha
theorem ends_ok : ∀ (p : List (List Nat)), (∀ g ∈ p, Tk g) → (∀ i, i + 1 = p.flatten.length → p.flatten[i]? ≠ some 61) ∧ (∀ i, i + 2 = p.flatten.length → p.flatten[i]? ≠ some 61)
  | [], _ => by constructor <;> · intro i hi; simp
  | g :: p, hT => by
    obtain ⟨i1, i2⟩ := ends_ok p fun x hx => hT x (.tail _ hx)
    obtain ⟨g1, g2⟩ := tk_ends (hT g (.head _))
    have gl := (hT g (.head _)).len
    rw [List.flatten_cons, List.length_append]
    refine ⟨fun i hi => ?_, fun i hi => ?_⟩
    · by_cases h : i < g.length
      · rw [List.getElem?_append_left h]; exact g1 i (by omega)
      · rw [List.getElem?_append_right (by omega)]; exact i1 _ (by omega)
    · by_cases h : i < g.length
      · rw [List.getElem?_append_left h]
        by_cases h' : i + 1 = g.length
        · exact g1 i h'
        · exact g2 i (by omega)
      · rw [List.getElem?_append_right (by omega)]; exact i2 _ (by omega)
theorem soft_split {n : Nat} (hn : 4 ≤ n) {sgs : List (List Nat)} (hT : ∀ g ∈ sgs, Tk g) (hlt : n < sgs.flatten.length) :
    ∃ p sg q, sgs = p ++ sg :: q ∧ p ≠ [] ∧ p.flatten.length ≤ n - 1 ∧ n - 1 < p.flatten.length + sg.length ∧ soft n sgs.flatten = ((p.flatten ++ [61]) :: (soft n (sg :: q).flatten).1, (soft n (sg :: q).flatten).2) := by
  obtain ⟨p, sg, q, e, h1, h2⟩ := split_at (n - 1) sgs 0 (by omega) (by omega)
  rw [Nat.zero_add] at h1 h2
  have hsg := hT sg (by rw [e]; simp)
  have hl := hsg.len
  have hp : p ≠ [] := by
    rintro rfl
    simp at h2
    omega
  refine ⟨p, sg, q, e, hp, h1, h2, ?_⟩
  obtain ⟨e1, e2⟩ := ends_ok p fun x hx => hT x (by rw [e]; exact List.mem_append_left _ hx)
  have hf : sgs.flatten = p.flatten ++ (sg :: q).flatten := by rw [e, List.flatten_append]
  rw [hf] at hlt ⊢
  have lt' : n < ((p.flatten ++ (sg :: q).flatten).drop 0).length := by simpa using hlt
  have three : p.flatten.length = n - 1 → soft n (p.flatten ++ (sg :: q).flatten) = ((p.flatten ++ [61]) :: (soft n (sg :: q).flatten).1, (soft n (sg :: q).flatten).2) := fun hP => by
    have := soft_three (l := p.flatten ++ (sg :: q).flatten) (a := 0) hn lt' (by
      rw [Nat.zero_add, List.getElem?_append_left (by omega)]; exact e2 _ (by omega)) (by
      rw [Nat.zero_add, List.getElem?_append_left (by omega)]; exact e1 _ (by omega))
    rw [List.drop_zero, Nat.zero_add, List.take_left' hP, List.drop_left' hP] at this
    exact this
  rcases hsg with ⟨c, rfl, hc⟩ | ⟨a, b, rfl, ha, hb⟩
  · have h2' : n - 1 < p.flatten.length + 1 := h2
    exact three (by omega)
  · have h2' : n - 1 < p.flatten.length + 3 := h2
    have hP : p.flatten.length = n - 3 ∨ p.flatten.length = n - 2 ∨ p.flatten.length = n - 1 := by omega
    have re : p.flatten ++ ([61, a, b] :: q).flatten = (p.flatten ++ [61]) ++ ([a, b] ++ q.flatten) := by simp
    have h61 : (p.flatten ++ ([61, a, b] :: q).flatten)[p.flatten.length]? = some 61 := by
      rw [List.getElem?_append_right (Nat.le_refl _), Nat.sub_self]; rfl
    rcases hP with hP | hP | hP
    · have := soft_one (l := p.flatten ++ ([61, a, b] :: q).flatten) (a := 0) hn lt' (by rw [Nat.zero_add, ← hP]; exact h61)
      rw [List.drop_zero, Nat.zero_add, List.drop_left' hP] at this
      rw [this]
      congr 2
      rw [re]
      exact List.take_left' (by rw [List.length_append, List.length_singleton]; omega)
    · have := soft_two (l := p.flatten ++ ([61, a, b] :: q).flatten) (a := 0) hn lt' (by
        rw [Nat.zero_add, List.getElem?_append_left (by omega)]; exact e1 _ (by omega)) (by rw [Nat.zero_add, ← hP]; exact h61)
      rw [List.drop_zero, Nat.zero_add, List.drop_left' hP] at this
      rw [this]
      congr 2
      rw [re]
      exact List.take_left' (by rw [List.length_append, List.length_singleton]; omega)
    · exact three hP
/-- texts parted by ee -/
noncomputable def jn (ee : List Nat) : List (List Nat) → List Nat
  | [] => []
  | [a] => a
  | a :: b :: t => a ++ ee ++ jn ee (b :: t)
theorem jn_cons {ee a : List Nat} {t : List (List Nat)} (h : t ≠ []) : jn ee (a :: t) = a ++ ee ++ jn ee t := by
  cases t with
  | nil => exact absurd rfl h
  | cons b t => rfl
theorem jn_append {ee : List Nat} : ∀ {xs ys : List (List Nat)}, xs ≠ [] → ys ≠ [] → jn ee (xs ++ ys) = jn ee xs ++ ee ++ jn ee ys
  | [], _, h, _ => absurd rfl h
  | [a], ys, _, hy => by rw [List.singleton_append, jn_cons hy]; rfl
  | a :: b :: t, ys, _, hy => by
    rw [List.cons_append, jn_cons (by simp), jn_append (xs := b :: t) (by simp) hy, jn_cons (t := b :: t) (by simp)]
    simp
theorem jn_flat {ee : List Nat} {α : Type} {f g : α → List (List Nat)} : ∀ {rows : List α}, (∀ r ∈ rows, f r ≠ [] ∧ g r ≠ [] ∧ jn ee (f r) = jn ee (g r)) → jn ee (rows.flatMap f) = jn ee (rows.flatMap g)
  | [], _ => rfl
  | [r], h => by simpa using (h r (.head _)).2.2
  | r :: r' :: rows, h => by
    have ih := jn_flat (ee := ee) (rows := r' :: rows) fun x hx => h x (.tail _ hx)
    obtain ⟨a, b, c⟩ := h r (.head _)
    obtain ⟨a', b', _⟩ := h r' (.tail _ (.head _))
    rw [List.flatMap_cons, List.flatMap_cons (f := g)]
    rw [jn_append a (by simp [a']), jn_append b (by simp [b']), c, ih]
theorem join_mk (ee : List Nat) : ∀ ls : List (List Nat), Txt.join (mkS ee) (ls.map mkS) = mkS (jn ee ls) := by
  have key : ∀ (xs : List (List Nat)) (acc : List Nat), (xs.map mkS).foldl (fun (acc : Array Nat) p => acc ++ (mkS ee).cps ++ p.cps) acc.toArray = (jn ee (acc :: xs)).toArray := by
    intro xs
    induction xs with
    | nil => intro acc; rfl
    | cons c xs ih =>
      intro acc
      rw [List.map_cons, List.foldl_cons]
      have : acc.toArray ++ (mkS ee).cps ++ (mkS c).cps = (acc ++ ee ++ c).toArray := by simp [mkS]
      rw [this, ih]
      cases xs with
      | nil => rfl
      | cons d xs => simp [jn]
  intro ls
  cases ls with
  | nil => rfl
  | cons c xs =>
    show (⟨((xs.map mkS)).foldl (fun acc p => acc ++ (mkS ee).cps ++ p.cps) (mkS c).cps⟩ : Str) = _
    exact congrArg Str.mk (key xs c)
end Mine
end
section
set_option maxRecDepth 100000
set_option maxHeartbeats 1000000
namespace Mine
open PySem PySem.W PySem.Calls PyProof.Rows PySem.StrLaws PySem.Builtin.Str
/-- the parts of a text between the places of y (k signs of the last one are still to be passed over) -/
noncomputable def splA (y : List Nat) : List Nat → Nat → List Nat → List (List Nat)
  | cur, _, [] => [cur]
  | cur, k + 1, _ :: t => splA y cur k t
  | cur, 0, c :: t => if (c :: t).take y.length = y then cur :: splA y [] (y.length - 1) t else splA y (cur ++ [c]) 0 t
/-- the text with z in the places of y -/
noncomputable def rep (y z : List Nat) : Nat → List Nat → List Nat
  | _, [] => []
  | k + 1, _ :: t => rep y z k t
  | 0, c :: t => if (c :: t).take y.length = y then z ++ rep y z (y.length - 1) t else c :: rep y z 0 t
theorem splA_ne (y : List Nat) : ∀ (cur : List Nat) (k : Nat) (l : List Nat), splA y cur k l ≠ []
  | _, _, [] => by unfold splA; simp
  | cur, k + 1, _ :: t => by unfold splA; exact splA_ne y cur k t
  | cur, 0, c :: t => by
    unfold splA
    split
    · simp
    · exact splA_ne y _ 0 t
theorem jn_spl (y z : List Nat) : ∀ (cur : List Nat) (k : Nat) (l : List Nat), jn z (splA y cur k l) = cur ++ rep y z k l
  | cur, _, [] => by unfold splA rep; simp [jn]
  | cur, k + 1, _ :: t => by unfold splA rep; exact jn_spl y z cur k t
  | cur, 0, c :: t => by
    unfold splA rep
    split
    · rw [jn_cons (splA_ne _ _ _ _), jn_spl y z [] _ t]; simp
    · rw [jn_spl y z _ 0 t]; simp
theorem subAt_mk (x y : List Nat) (i : Nat) : subAt (mkS x) (mkS y) i = ((x.drop i).take y.length == y) := by
  rw [subAt_eq, mkS_toList, mkS_toList, mkS_length]
theorem occ_go (x y : List Nat) (hy : y ≠ []) : ∀ (m cur : Nat) (found : Array Nat) (free : Nat), cur + m = x.length + 1 → found.size ≤ cur →
    ∃ C, (forIn (m := Id) (List.range' cur m) (found, free) (occBody (mkS x) (mkS y) x.length (x.length + 1))).run.fst.toList = found.toList ++ C ∧
      (∀ a, free ≤ cur → a ≤ cur → partsFrom (mkS x) y.length a C = (splA y ((x.drop a).take (cur - a)) 0 (x.drop cur)).map mkS) ∧
      (cur ≤ free → free ≤ x.length → partsFrom (mkS x) y.length free C = (splA y [] (free - cur) (x.drop cur)).map mkS)
  | 0, cur, found, free, hm, hf => by
    refine ⟨[], ?_, fun a h1 h2 => ?_, fun h1 h2 => by omega⟩
    · show found.toList = found.toList ++ []
      simp
    · have hd : x.drop cur = [] := List.drop_eq_nil_of_le (by omega)
      rw [hd]
      show [strSub (mkS x) a (mkS x).length] = [mkS _]
      rw [strSub_mk, mkS_length]
      congr 2
      rw [List.take_of_length_le (by rw [List.length_drop]; omega), List.take_of_length_le (by rw [List.length_drop]; omega)]
  | m + 1, cur, found, free, hm, hf => by
    have hyl : 0 < y.length := List.length_pos_iff.mpr hy
    rw [List.range'_succ, List.forIn_cons]
    unfold occBody
    rw [subAt_mk, mkS_length]
    by_cases hc : ((found.size < x.length + 1 ∧ free ≤ cur) ∧ cur + y.length ≤ x.length) ∧ ((x.drop cur).take y.length == y) = true
    · rw [if_pos hc]
      obtain ⟨C, e, _, h2⟩ := occ_go x y hy m (cur + 1) (found.push cur) (cur + y.length) (by omega) (by rw [Array.size_push]; omega)
      refine ⟨cur :: C, ?_, fun a hf1 ha => ?_, fun hf1 hf2 => ?_⟩
      · show (forIn (m := Id) (List.range' (cur + 1) m) (found.push cur, cur + y.length) (occBody (mkS x) (mkS y) x.length (x.length + 1))).run.fst.toList = _
        rw [e, Array.toList_push, List.append_assoc]; rfl
      · have hlt : cur < x.length := by omega
        have hcd : x.drop cur = x[cur] :: x.drop (cur + 1) := List.drop_eq_getElem_cons hlt
        have hpre : (x[cur] :: x.drop (cur + 1)).take y.length = y := by rw [← hcd]; exact eq_of_beq hc.2
        rw [hcd, splA, if_pos hpre, List.map_cons]
        show strSub (mkS x) a cur :: partsFrom (mkS x) y.length (cur + y.length) C = _
        rw [strSub_mk, h2 (by omega) hc.1.2]
        congr 3
        omega
      · obtain rfl : free = cur := by omega
        have hlt : free < x.length := by omega
        have hcd : x.drop free = x[free] :: x.drop (free + 1) := List.drop_eq_getElem_cons hlt
        have hpre : (x[free] :: x.drop (free + 1)).take y.length = y := by rw [← hcd]; exact eq_of_beq hc.2
        rw [Nat.sub_self, hcd, splA, if_pos hpre, List.map_cons]
        show strSub (mkS x) free free :: partsFrom (mkS x) y.length (free + y.length) C = _
        rw [strSub_mk, h2 (by omega) hc.1.2, Nat.sub_self, List.take_zero]
        congr 3
        omega
    · rw [if_neg hc]
      obtain ⟨C, e, h1, h2⟩ := occ_go x y hy m (cur + 1) found free (by omega) (by omega)
      have one : ∀ a, free ≤ cur → a ≤ cur → partsFrom (mkS x) y.length a C = (splA y ((x.drop a).take (cur - a)) 0 (x.drop cur)).map mkS := fun a hf1 ha => by
        rw [h1 a (by omega) (by omega)]
        by_cases hlt : cur < x.length
        · have hcd : x.drop cur = x[cur] :: x.drop (cur + 1) := List.drop_eq_getElem_cons hlt
          have hpre : ¬ (x[cur] :: x.drop (cur + 1)).take y.length = y := fun q => hc ⟨⟨⟨by omega, hf1⟩, by
            have := congrArg List.length q
            rw [List.length_take, ← hcd, List.length_drop] at this
            omega⟩, by rw [hcd, q]; simp⟩
          conv => rhs; rw [hcd, splA, if_neg hpre]
          congr 2
          rw [show cur + 1 - a = (cur - a) + 1 by omega, List.take_add_one]
          congr 1
          rw [List.getElem?_drop, show a + (cur - a) = cur by omega, List.getElem?_eq_getElem hlt]; rfl
        · have hd1 : x.drop cur = [] := List.drop_eq_nil_of_le (by omega)
          have hd2 : x.drop (cur + 1) = [] := List.drop_eq_nil_of_le (by omega)
          rw [hd1, hd2, splA, splA]
          congr 2
          rw [List.take_of_length_le (by rw [List.length_drop]; omega), List.take_of_length_le (by rw [List.length_drop]; omega)]
      refine ⟨C, ?_, one, fun hf1 hf2 => ?_⟩
      · exact e
      · by_cases hq : free = cur
        · subst hq
          rw [one free (Nat.le_refl _) (Nat.le_refl _), Nat.sub_self, List.take_zero]
        · have hlt : cur < x.length := by omega
          have hcd : x.drop cur = x[cur] :: x.drop (cur + 1) := List.drop_eq_getElem_cons hlt
          rw [h2 (by omega) hf2, hcd, show free - cur = (free - (cur + 1)) + 1 by omega, splA]
theorem occ_parts (x y : List Nat) (hy : y ≠ []) : partsFrom (mkS x) y.length 0 (occurrences (mkS x) (mkS y) 0 (mkS x).length ((mkS x).length + 1)) = (splA y [] 0 x).map mkS := by
  rw [occ_eq, mkS_length]
  obtain ⟨C, e, h1, _⟩ := occ_go x y hy (x.length + 1 - 0) 0 #[] 0 (by omega) (Nat.le_refl _)
  rw [e]
  have := h1 0 (Nat.le_refl _) (Nat.le_refl _)
  rw [Nat.sub_self, List.take_zero, List.drop_zero] at this
  simpa using this
theorem kind_one {y : List Nat} (h : ∀ c ∈ y, c < 256) : Builtin.Str.strKind (mkS y) = 1 := by
  unfold Builtin.Str.strKind
  rw [if_pos]
  rw [Array.all_eq_true']
  intro c hc
  exact decide_eq_true (h c (by simpa [mkS] using hc))
theorem kind_pos (x : Str) : 1 ≤ Builtin.Str.strKind x := by unfold Builtin.Str.strKind; split <;> (try split) <;> omega
theorem split_mk (x y : List Nat) (hy : y ≠ []) (hk : ∀ c ∈ y, c < 256) : Txt.split (mkS x) (mkS y) = (splA y [] 0 x).map mkS := by
  have hp := occ_parts x y hy
  have hlen := mkS_length y
  unfold Txt.split
  split
  · rename_i h
    rw [Bool.or_eq_true, decide_eq_true_eq, decide_eq_true_eq, kind_one hk] at h
    have hk1 := kind_pos (mkS x)
    have hlt : (mkS x).length < (mkS y).length := h.resolve_right (by omega)
    obtain ⟨f, hc⟩ := occ_chain (mkS x) (mkS y) ((mkS x).length + 1)
    cases ho : occurrences (mkS x) (mkS y) 0 (mkS x).length ((mkS x).length + 1) with
    | nil =>
      rw [ho] at hp
      rw [← hp]
      show [mkS x] = [strSub (mkS x) 0 (mkS x).length]
      rw [sub_whole]
    | cons i r =>
      rw [ho] at hc
      have := hc.2.1.1
      omega
  · split
    · rename_i h
      rw [List.isEmpty_iff.mp h] at hp
      rw [← hp]
      show [mkS x] = [strSub (mkS x) 0 (mkS x).length]
      rw [sub_whole]
    · rw [partsBetween_eq, hlen]; exact hp
theorem replace_mk (x y z : List Nat) (hy : y ≠ []) : Txt.replace (mkS x) (mkS y) (mkS z) = mkS (rep y z 0 x) := by
  have hp := occ_parts x y hy
  have hlen := mkS_length y
  have hj := jn_spl y z [] 0 x
  rw [List.nil_append] at hj
  have hyl : 0 < y.length := List.length_pos_iff.mpr hy
  have h0 : ((mkS y).length == 0) = false := by rw [hlen]; exact beq_eq_false_iff_ne.mpr (by omega)
  unfold Txt.replace
  rw [h0, Bool.false_and, Bool.or_false]
  split
  · rename_i h
    rw [List.isEmpty_iff.mp h] at hp
    rw [← hj]
    have e : splA y [] 0 x = [x] := by
      have : [strSub (mkS x) 0 (mkS x).length] = (splA y [] 0 x).map mkS := hp
      rw [sub_whole] at this
      cases hs : splA y [] 0 x with
      | nil => rw [hs] at this; cases this
      | cons a l =>
        rw [hs] at this
        cases l with
        | nil => 
          have := List.cons.inj this
          rw [mkS_inj this.1]
        | cons b l => cases this
    rw [e]; rfl
  · rw [partsBetween_eq, hlen, hp, ← hj]; exact join_mk z _
theorem rows_spl : ∀ (k : Nat) (x cur : List Nat), x.length ≤ k → splA [10] cur 0 (rep [13] [10] 0 (rep [13, 10] [10] 0 x)) = rowsA cur x
  | _, [], cur, _ => rfl
  | 0, c :: t, cur, hk => by simp at hk
  | k + 1, c :: t, cur, hk => by
    have hk' : t.length ≤ k := by simpa using hk
    have nl : ∀ (l : List Nat), splA [10] cur 0 (10 :: l) = cur :: splA [10] [] 0 l := fun l => by
      rw [splA, if_pos (by simp)]; rfl
    by_cases h13 : c = 13
    · subst h13
      by_cases h10 : ∃ r, t = 10 :: r
      · obtain ⟨r, rfl⟩ := h10
        rw [rowsA_crlf, ← rows_spl k r [] (by simp at hk'; omega)]
        have e1 : rep [13, 10] [10] 0 (13 :: 10 :: r) = 10 :: rep [13, 10] [10] 0 r := by
          rw [rep, if_pos (by simp)]
          show [10] ++ rep [13, 10] [10] 1 (10 :: r) = _
          rw [rep]; rfl
        have e2 : ∀ l, rep [13] [10] 0 (10 :: l) = 10 :: rep [13] [10] 0 l := fun l => by rw [rep, if_neg (by simp)]
        rw [e1, e2, nl]
      · have hh : t.head? ≠ some 10 := by
          intro q
          cases t with
          | nil => cases q
          | cons d t => exact h10 ⟨t, by rw [show d = 10 by simpa using q]⟩
        rw [rowsA_cr _ _ hh, ← rows_spl k t [] hk']
        have e1 : rep [13, 10] [10] 0 (13 :: t) = 13 :: rep [13, 10] [10] 0 t := by
          rw [rep, if_neg]
          intro q
          cases t with
          | nil => simp at q
          | cons d t => simp at q; exact hh (by rw [q]; rfl)
        have e2 : ∀ l, rep [13] [10] 0 (13 :: l) = 10 :: rep [13] [10] 0 l := fun l => by rw [rep, if_pos (by simp)]; rfl
        rw [e1, e2, nl]
    · by_cases h10 : c = 10
      · subst h10
        rw [rowsA_lf, ← rows_spl k t [] hk']
        have e1 : rep [13, 10] [10] 0 (10 :: t) = 10 :: rep [13, 10] [10] 0 t := by rw [rep, if_neg (by simp)]
        have e2 : ∀ l, rep [13] [10] 0 (10 :: l) = 10 :: rep [13] [10] 0 l := fun l => by rw [rep, if_neg (by simp)]
        rw [e1, e2, nl]
      · rw [rowsA_other _ _ c h13 h10, ← rows_spl k t (cur ++ [c]) hk']
        have e1 : rep [13, 10] [10] 0 (c :: t) = c :: rep [13, 10] [10] 0 t := by rw [rep, if_neg (by simp [h13])]
        have e2 : ∀ l, rep [13] [10] 0 (c :: l) = c :: rep [13] [10] 0 l := fun l => by rw [rep, if_neg (by simp [h13])]
        rw [e1, e2, splA, if_neg (by simp [h10])]
/-- the law's rows -/
theorem law_rows (x : List Nat) : Txt.split (Txt.replace (Txt.replace (mkS x) (mkS [13, 10]) (mkS [10])) (mkS [13]) (mkS [10])) (mkS [10]) = (rowsOf x).map mkS := by
  rw [replace_mk _ _ _ (by simp), replace_mk _ _ _ (by simp), split_mk _ _ (by simp) (by simp)]
  congr 1
  exact rows_spl x.length x [] (Nat.le_refl _)
theorem rep_len (y z : List Nat) (hz : z.length ≤ 1) : ∀ (k : Nat) (l : List Nat), (rep y z k l).length ≤ l.length
  | _, [] => by unfold rep; exact Nat.le_refl _
  | k + 1, _ :: t => by unfold rep; have := rep_len y z hz k t; rw [List.length_cons]; omega
  | 0, c :: t => by
    unfold rep
    split
    · have := rep_len y z hz (y.length - 1) t; rw [List.length_append, List.length_cons]; omega
    · have := rep_len y z hz 0 t; rw [List.length_cons, List.length_cons]; omega
end Mine
end
section
set_option maxRecDepth 100000
set_option maxHeartbeats 4000000
namespace Mine
theorem anew19 : True := by
  w_top off
  first | walk1 | trivial
open PySem PySem.W PySem.Calls PyProof.Rows
noncomputable def chS (c : Nat) : Str := mkS [c]
def TxI (s₀ : Shared) (L sg : Addr) (own : List (Addr × Obj)) (k : Nat) (s : Shared) : Prop :=
  ∃ (r : Int) (t : Tok) (vs : List Value) (ep : Nat) (xs : List Nat) (m : Str → Option Value), SameBut' s₀ s ∧ Fr s₀.heap L s.heap m ∧ m "signs" = some (.ref sg) ∧ m "rest" = some (.int r t) ∧ 0 ≤ r ∧
    News s₀.heap L s.heap ((sg, lst vs ep) :: own) ∧ StrsAre vs (xs.map chS) ∧ xs.length ≤ 4000 ∧ (∀ c ∈ xs, c < 256) ∧ k = r.toNat
theorem menu8 (k : Nat) (hk : k < 8) : ∃ c, c < 256 ∧ Txt.item (Str.ofString " \t\r\n=aZ.") (k : Int) = chS c := by
  have : ∀ k : Fin 8, (match Txt.item (Str.ofString " \t\r\n=aZ.") ((k.val : Nat) : Int) with | ⟨⟨[c]⟩⟩ => decide (c < 256) | _ => false) = true := by decide +kernel
  have h := this ⟨k, hk⟩
  dsimp only at h
  split at h
  · rename_i c e; exact ⟨c, of_decide_eq_true h, e⟩
  · cases h
theorem fdiv_less {r : Int} (h : 0 < r) : 0 ≤ (r - 1).fdiv 320 ∧ ((r - 1).fdiv 320).toNat < r.toNat := by
  rw [Int.fdiv_eq_ediv_of_nonneg _ (by decide : (0 : Int) ≤ 320)]
  omega
theorem tx_next {s₀ s : Shared} {L sg : Addr} {own : List (Addr × Obj)} {r : Int} {t' : Tok} {vs : List Value} {ep : Nat} {xs : List Nat} {m : Str → Option Value} {x : Str} {tx : Tok} {c : Nat}
    (F : Fr s₀.heap L s.heap m) (N : News s₀.heap L s.heap ((sg, lst (vs ++ [.str x tx]) ep) :: own)) (e : SameBut' s₀ s) (hm1 : m "signs" = some (.ref sg)) (hm2 : m "rest" = some (.int ((r - 1).fdiv 320) t')) (hpos : 0 < r)
    (hv : StrsAre vs (xs.map chS)) (hxl : xs.length < 4000) (hx8 : ∀ c ∈ xs, c < 256) (hx : x = chS c) (hc : c < 256) : Dec (TxI s₀ L sg own) r.toNat s := by
  subst hx
  have hd := fdiv_less hpos
  refine ⟨_, hd.2, (r - 1).fdiv 320, t', _, ep, xs ++ [c], m, e, F, hm1, hm2, hd.1, N, ?_, by rw [List.length_append, List.length_singleton]; omega, ?_, rfl⟩
  · rw [List.map_append]; exact hv.append' (.cons _ _ .nil)
  · intro d hd
    rcases List.mem_append.mp hd with hd | hd
    · exact hx8 d hd
    · rw [List.mem_singleton.mp hd]; exact hc
local macro_rules | `(tactic| walk_at "assign Tuple") => `(tactic| ((with_reducible show wpAny _ _ (assign (PySem.Expr.Tuple _ _ _) _ (Value.ref _)) _ _ _); refine unpackN_ (by assumption) (by assumption) (News.isTup (by assumption) (by first | exact .head _ | exact .tail _ (.head _))) (by assumption) (by rfl) (by rfl) ?_; intro _ _ _))
theorem tx_while {w : World} {A : Around} {s₀ s : Shared} {L sg : Addr} {nm : Str} {Q : Flow → Shared → Prop} {E : Value → Shared → Prop} {mean mg mb}
    (T : Top vq (looseW vq looseN) mean mg mb s₀.heap) (hh : A.handled = none) {own : List (Addr × Obj)} (hoff : ∀ p ∈ own, p.1 ≠ sg) {k : Nat} (hI : TxI s₀ L sg own k s) 
    (h : ∀ s' k', TxI s₀ L sg own k' s' → Q .next s') :
    wpAny (model PR w) A (exec (nth (sBody (nth (fBody (stm 19)) 1)) 1) (envOf nm (fScope (stm 19)) L 57 (.ref 56))) Q E s := by
  w_on
  refine while_any (TxI s₀ L sg own) ?_ k hI
  clear hI
  rintro k s ⟨r, t, vs, ep, xs, m, ⟨hp, tk, rfl⟩, F0, hm1, hm2, hr, N, hv, hxl, hx8, rfl⟩
  have F1 : Fr s₀.heap L hp (over [("signs", .ref sg), ("rest", .int r t)] m) := fr_over F0 (List.forall_mem_cons.mpr ⟨hm1, List.forall_mem_cons.mpr ⟨hm2, List.forall_mem_nil _⟩⟩)
  have hvl := hv.length
  rw [List.length_map] at hvl
  have hq0 : 0 ≤ (r - 1).fmod 320 := Int.fmod_nonneg_of_pos _ (by decide)
  have hq1 : (r - 1).fmod 320 < 320 := Int.fmod_lt_of_pos _ (by decide)
  repeat' walk1
  · have hpos : 0 < r := by assumption
    refine len_news (vs := vs) (ep := ep) N (.head _) (by omega) fun u tk => ?_
    dsimp only
    repeat' walk1
    · dsimp only [List.cons_append, List.nil_append]
      refine app_news (vs := vs) (ep := ep) (own := own) (by assumption) (News.sub (by assumption) (fun p hp => List.Mem.tail _ hp)) hoff (by omega) ?_
      intro h3 F3 N3
      dsimp only
      repeat' walk1
      exact tx_next F3 N3 ⟨_, _, rfl⟩ rfl rfl hpos hv (by omega) hx8 (c := ((r - 1).fmod 320 - 64).toNat) rfl (by omega)
    · have hlen : (Str.ofString " \t\r\n=aZ.").length = 8 := by decide +kernel
      have hq : ((r - 1).fmod 320).fmod 8 = ((((r - 1).fmod 320).toNat % 8 : Nat) : Int) := by rw [Int.fmod_eq_emod_of_nonneg _ (by decide : (0 : Int) ≤ 8)]; omega
      rw [hq]
      refine item_str (fitsSsize_of (N := 9223372036854775808) (by omega) (by omega) (Int.le_refl _)) (by omega) (by omega) (fun _ => ?_)
      obtain ⟨c, hc8, hc⟩ := menu8 (((r - 1).fmod 320).toNat % 8) (by omega)
      rw [hc]
      dsimp only
      repeat' walk1
      dsimp only [List.cons_append, List.nil_append]
      refine app_news (vs := vs) (ep := ep) (own := own) (by assumption) (News.sub (by assumption) (fun p hp => List.Mem.tail _ hp)) hoff (by omega) ?_
      intro h3 F3 N3
      dsimp only
      repeat' walk1
      exact tx_next F3 N3 ⟨_, _, rfl⟩ rfl rfl hpos hv (by omega) hx8 (c := c) rfl hc8
    · exact h _ r.toNat ⟨r, t, vs, ep, xs, m, ⟨_, _, rfl⟩, F0, hm1, hm2, hr, N, hv, hxl, hx8, rfl⟩
  · exact h _ r.toNat ⟨r, t, vs, ep, xs, m, ⟨_, _, rfl⟩, F0, hm1, hm2, hr, N, hv, hxl, hx8, rfl⟩
end Mine
end
section
set_option maxRecDepth 100000
set_option maxHeartbeats 4000000
namespace Mine
theorem anew20 : True := by
  w_top off
  first | walk1 | trivial
open PySem PySem.W PySem.Calls PyProof.Rows
theorem join_chs (xs : List Nat) : Txt.join (mkS []) (xs.map chS) = mkS xs := by
  have key : ∀ (xs : List Nat) (acc : Array Nat), (xs.map chS).foldl (fun (acc : Array Nat) p => acc ++ (mkS []).cps ++ p.cps) acc = acc ++ xs.toArray := by
    intro xs
    induction xs with
    | nil => intro acc; simp
    | cons c xs ih => intro acc; rw [List.map_cons, List.foldl_cons, ih]; simp [mkS, chS]
  cases xs with
  | nil => rfl
  | cons c xs =>
    show (⟨((xs.map chS)).foldl (fun acc p => acc ++ (mkS []).cps ++ p.cps) (chS c).cps⟩ : Str) = _
    rw [key]
    simp [mkS, chS]
theorem tx_body {w : World} {A : Around} {s₀ s : Shared} {L l : Addr} {nm : Str} {Q : Value → Shared → Prop} {mean mg mb} {vs : List Value} {ns : List Int} (T : Top vq (looseW vq looseN) mean mg mb s₀.heap) (hh : A.handled = none)
    (F : Fr s₀.heap L s.heap (mp [("numbers", .ref l)])) (hl : s₀.heap.IsList l vs.toArray) (hi : IntsAre vs ns) (e : SameBut' s₀ s)
    (h : ∀ x tok s', Ext s₀ s' → x.length ≤ 4000 → (∀ c ∈ x, c < 256) → Q (.str (mkS x) tok) s') :
    wpAny (model PR w) A (execs (fBody (stm 19)) (envOf nm (fScope (stm 19)) L 57 (.ref 56))) (fun f s' => Q (match f with | .ret v => v | _ => .none) s') (fun _ _ => False) s := by
  w_on
  obtain ⟨hp, tk, rfl⟩ := e
  have N : News s₀.heap L hp [] := .nil
  have hlt : l < s₀.heap.objs.size := by obtain ⟨o, ho, _⟩ := hl; exact Heap.lt_size ho
  have hlL : l ≠ L := Nat.ne_of_lt (Nat.lt_of_lt_of_le hlt F.above)
  refine wpAny_execs_cons ?_
  iterate 5 walk1
  rename_i h1 F1 N1 h2 F2 N2
  dsimp only at F2 N2 ⊢
  clear F1 N1 N
  have hsg : l ≠ hp.objs.size := Nat.ne_of_lt (Nat.lt_trans (Nat.lt_of_lt_of_le hlt F.above) F.ns.lt)
  generalize hp.objs.size = sg at F2 N2 hsg
  refine wpAny_execs_cons ?_
  refine For_invV s₀.heap rfl rfl ?_
  walk1
  refine iter_list (vs := vs) (fun i m news => ∃ ws ep xs, news = [(sg, lst ws ep)] ∧ StrsAre ws (xs.map chS) ∧ xs.length ≤ 4000 ∧ (∀ c ∈ xs, c < 256) ∧ m "signs" = some (.ref sg)) hh (hl.at fun o e => F2.keep l o e) hlL
    (fun p hp => by rw [List.mem_singleton.mp hp]; exact hsg.symm) F2 N2 ⟨[], 0, [], rfl, .nil, Nat.zero_le _, (fun _ h => nomatch h), rfl⟩ ?_ ?_
  · rintro i v m₁ news₁ h' tk' own hvi hadr hoff ⟨ws, ep, xs, rfl, hv, hxl, hx8, hm⟩ F' N'
    obtain ⟨t, hx⟩ := hi.get i (ns[i]'(by have := (List.getElem?_eq_some_iff.mp hvi).1; rw [hi.length] at this; exact this)) (by simp)
    generalize (ns[i]'(by have := (List.getElem?_eq_some_iff.mp hvi).1; rw [hi.length] at this; exact this)) = n at hx
    rw [hvi] at hx
    obtain rfl : v = .int n t := Option.some.inj hx
    rw [← over_eq (l := [("signs", .ref sg)]) (m := m₁) (List.forall_mem_cons.mpr ⟨hm, List.forall_mem_nil _⟩)] at F'
    clear F2 N2 F
    refine wpAny_execs_cons ?_
    replace F' : Fr s₀.heap L h' _ := F'
    replace N' : News s₀.heap L h' ((sg, lst ws ep) :: own) := N'
    iterate 10 walk1
    refine tx_while (sg := sg) (own := own) (k := _) T hh (fun p hp => hoff p hp sg (.head _)) ⟨_, _, ws, ep, xs, _, ⟨_, _, rfl⟩, by assumption, rfl, rfl, by split <;> omega, by assumption, hv, hxl, hx8, rfl⟩ ?_
    rintro s' k' ⟨r, t2, ws', ep', xs', m', ⟨h3, tk3, rfl⟩, F3, hm3, _, _, N3, hv3, hxl3, hx83, _⟩
    dsimp only
    repeat' walk1
    exact ⟨h3, _, m', _, [(sg, lst ws' ep')], rfl, F3, N3, fun p hp => by rw [List.mem_singleton.mp hp]; exact .head _, fun p hp => .tail _ hp, rfl, ws', ep', xs', rfl, hv3, hxl3, hx83, hm3⟩
  · rintro m₁ news₁ h' tk' ⟨ws, ep, xs, rfl, hv, hxl, hx8, hm⟩ _ F' N'
    rw [← over_eq (l := [("signs", .ref sg)]) (m := m₁) (List.forall_mem_cons.mpr ⟨hm, List.forall_mem_nil _⟩)] at F'
    clear F2 N2 F
    replace F' : Fr s₀.heap L h' _ := F'
    replace N' : News s₀.heap L h' [(sg, lst ws ep)] := N'
    dsimp only
    repeat' walk1
    have hsum : ((xs.map chS).map (·.length)).sum = xs.length := by
      rw [List.map_map]
      clear hv hxl hx8
      induction xs with
      | nil => rfl
      | cons c xs ih => rw [List.map_cons, List.sum_cons, ih, List.length_cons]; show 1 + _ = _; omega
    refine join_listC (x := mkS []) (items := ws.toArray) ⟨_, (N' _ (.head _)).1, rfl, ep, rfl⟩ (by simpa using hv) (by decide) (by rw [hsum, List.length_map]; omega) fun t' k => ?_
    rw [join_chs]
    exact h _ _ _ ⟨F'.keep, ⟨_, _, rfl⟩⟩ hxl hx8
theorem tx_call {w : World} {A : Around} {s : Shared} {Q : Value → Shared → Prop} {E : Value → Shared → Prop} {mean mg mb} {l : Addr} {vs : List Value} {ns : List Int} (T : Top vq (looseW vq looseN) mean mg mb s.heap) (Y : TopH w s.heap)
    (hh : A.handled = none) (hroom : A.depth < recursionLimit) (hl : s.heap.IsList l vs.toArray) (hi : IntsAre vs ns)
    (h : ∀ x tok s', Ext s s' → x.length ≤ 4000 → (∀ c ∈ x, c < 256) → Q (.str (mkS x) tok) s') : wpAny (model PR w) A (call (.ref 57) [.ref l]) Q E s :=
  call_def (binds := [("numbers", .ref l)]) hroom (Y 57 _ rfl) rfl T.nolimit ⟨56, _, _, _, rfl, Y 56 _ rfl, rfl, rfl⟩ rfl (fun _ => rfl) (BindsTo.of_eq rfl) (by decide +kernel) (locs rfl)
    (fun L s₁ A' F e a => tx_body T (by rw [a.hh]; exact hh) F hl hi e h) rfl rfl rfl
end Mine
end
section
set_option maxRecDepth 100000
set_option maxHeartbeats 4000000
namespace Mine
theorem anew21 : True := by
  w_top off
  first | walk1 | trivial
open PySem PySem.W PySem.Calls PyProof.Rows
noncomputable def beRes (n : Nat) (ee x : List Nat) : Str := Txt.join (mkS ee) ((outRows n ee (rowsOf x)).map mkS)
theorem beRes_nil (n : Nat) (ee : List Nat) : beRes n ee [] = mkS [] := by
  have e : outRows n ee (rowsOf []) = [[]] := by
    show outRow n ee [] ++ [] = [[]]
    unfold outRow
    rw [show encT [] = [] from rfl, lineOut_nil]; rfl
  unfold beRes
  rw [e]; rfl
theorem be_empty {w : World} {A : Around} {s₀ s : Shared} {L : Addr} {nm : Str} {Q : Value → Shared → Prop} {ee : List Nat} {n : Nat} {t1 t2 t3 : Tok}
    (F : Fr s₀.heap L s.heap (mp [("eol", .str (mkS ee) t3), ("maxlinelen", .int (n : Int) t2), ("body", .str (mkS []) t1)])) (e : SameBut' s₀ s) (hn : 4 ≤ n)
    (h : ∀ tok s', Ext s₀ s' → Q (.str (mkS []) tok) s') :
    wpAny (model PR w) A (execs (fBody (stm 17)) (envOf nm (fScope (stm 17)) L 50 (.ref 49))) (fun f s' => Q (match f with | .ret v => v | _ => .none) s') (fun _ _ => False) s := by
  w_on
  obtain ⟨hp, tk, rfl⟩ := e
  have hl0 : (mkS []).length = 0 := rfl
  refine wpAny_execs_cons ?_
  repeat' walk1
  · exfalso; omega
  · exact h _ _ ⟨F.keep, ⟨_, _, rfl⟩⟩
theorem be_body {w : World} {A : Around} {s₀ s : Shared} {L : Addr} {nm : Str} {Q : Value → Shared → Prop} {mean mg mb} {x ee : List Nat} {n : Nat} {t1 t2 t3 : Tok} (T : Top vq (looseW vq looseN) mean mg mb s₀.heap)
    (Y : TopH w s₀.heap) (hh : A.handled = none) (hroom : A.depth < recursionLimit)
    (F : Fr s₀.heap L s.heap (mp [("eol", .str (mkS ee) t3), ("maxlinelen", .int (n : Int) t2), ("body", .str (mkS x) t1)])) (e : SameBut' s₀ s) (hn : 4 ≤ n) (hx : x.length ≤ 4000) (hx8 : ∀ c ∈ x, c < 256) (he : ee.length ≤ 2)
    (h : ∀ tok s', Ext s₀ s' → Q (.str (beRes n ee x) tok) s') :
    wpAny (model PR w) A (execs (fBody (stm 17)) (envOf nm (fScope (stm 17)) L 50 (.ref 49))) (fun f s' => Q (match f with | .ret v => v | _ => .none) s') (fun _ _ => False) s := by
  by_cases hx0 : x = []
  · subst hx0
    rw [beRes_nil] at h
    exact be_empty F e hn h
  · refine be_main T Y hh hroom F e hn hx hx8 hx0 he ?_ ?_
    · rw [beItems_rows hx0 hx8]; exact weight_ok he hx
    · rw [beItems_rows hx0 hx8]; exact h
theorem be_call3 {w : World} {A : Around} {s : Shared} {Q : Value → Shared → Prop} {E : Value → Shared → Prop} {mean mg mb} {x ee : List Nat} {n : Nat} {t1 t2 t3 : Tok} (T : Top vq (looseW vq looseN) mean mg mb s.heap)
    (Y : TopH w s.heap) (hh : A.handled = none) (hroom : A.depth + 1 < recursionLimit) (hn : 4 ≤ n) (hx : x.length ≤ 4000) (hx8 : ∀ c ∈ x, c < 256) (he : ee.length ≤ 2)
    (h : ∀ tok s', Ext s s' → Q (.str (beRes n ee x) tok) s') : wpAny (model PR w) A (call (.ref 50) [.str (mkS x) t1, .int (n : Int) t2, .str (mkS ee) t3]) Q E s :=
  call_def (binds := [("body", .str (mkS x) t1), ("maxlinelen", .int (n : Int) t2), ("eol", .str (mkS ee) t3)]) (by omega) (Y 50 _ rfl) rfl T.nolimit ⟨49, _, _, _, rfl, Y 49 _ rfl, rfl, rfl⟩ rfl (fun _ => rfl)
    (BindsTo.of_defaults (T := 43) rfl (Y 43 _ rfl) rfl rfl rfl) (by decide +kernel) (locs rfl)
    (fun L s₁ A' F e a => be_body T Y (by rw [a.hh]; exact hh) (by rw [a.hd]; exact hroom) F e hn hx hx8 he h) rfl rfl rfl
theorem be_call1 {w : World} {A : Around} {s : Shared} {Q : Value → Shared → Prop} {E : Value → Shared → Prop} {mean mg mb} {x : List Nat} {t1 : Tok} (T : Top vq (looseW vq looseN) mean mg mb s.heap)
    (Y : TopH w s.heap) (hh : A.handled = none) (hroom : A.depth + 1 < recursionLimit) (hx : x.length ≤ 4000) (hx8 : ∀ c ∈ x, c < 256)
    (h : ∀ tok s', Ext s s' → Q (.str (beRes 76 [10] x) tok) s') : wpAny (model PR w) A (call (.ref 50) [.str (mkS x) t1]) Q E s :=
  call_def (binds := [("body", .str (mkS x) t1), ("maxlinelen", .int ((76 : Nat) : Int) 1743), ("eol", .str (mkS [10]) 189)]) (by omega) (Y 50 _ rfl) rfl T.nolimit ⟨49, _, _, _, rfl, Y 49 _ rfl, rfl, rfl⟩ rfl (fun _ => rfl)
    (BindsTo.of_defaults (T := 43) rfl (Y 43 _ rfl) rfl rfl rfl) (by decide +kernel) (locs rfl)
    (fun L s₁ A' F e a => be_body T Y (by rw [a.hh]; exact hh) (by rw [a.hd]; exact hroom) F e (by decide) hx hx8 (by decide) h) rfl rfl rfl
end Mine
end
section
set_option maxRecDepth 100000
set_option maxHeartbeats 1000000
namespace Mine
open PySem PySem.W PySem.Calls PyProof.Rows
theorem comp_news {h₀ : Heap} {L : Addr} {s₂ : Shared} {m : Str → Option Value} {news : List (Addr × Obj)} {wr : List Addr} {D : Addr} {h' : Heap} {ys : Array Value} (F : Fr h₀ L s₂.heap m) (N : News h₀ L s₂.heap news)
    (hwr : ∀ b ∈ wr, b ≠ L ∧ h₀.get? b = none ∧ ∀ p ∈ news, p.1 ≠ b) (hD : s₂.heap.get? D = none) (hpl : h'.PlainList D ys) (keep : ∀ b o, b ∉ wr → s₂.heap.get? b = some o → h'.get? b = some o) :
    Fr h₀ L h' m ∧ ∃ n, News h₀ L h' ((D, lst ys.toList n) :: news) := by
  obtain ⟨n, hn⟩ := hpl
  have F' : Fr h₀ L h' m := ⟨F.ns.at' fun o e => keep L o (fun q => (hwr L q).1 rfl) e, fun b o e => keep b o (fun q => by rw [(hwr b q).2.1] at e; cases e) (F.keep b o e), F.above⟩
  refine ⟨F', n, fun p hp => ?_⟩
  rcases List.mem_cons.mp hp with rfl | hp
  · refine ⟨by simpa using hn, fun q => ?_, ?_⟩
    · dsimp only at q
      rw [q] at hD
      obtain ⟨o, _, _, ho, _⟩ := F.ns
      rw [hD] at ho; cases ho
    · cases q : h₀.get? D with
      | none => rfl
      | some o => have := F.keep D o q; rw [hD] at this; cases this
  · exact ⟨keep _ _ (fun q => (hwr p.1 q).2.2 p hp rfl) (N p hp).1, (N p hp).2⟩

theorem walks_lt {prog : Program} {w : World} {A : Around} {I : Addr} {fp wr : List Addr} {n : Nat} {P : Nat → Value → Prop} {St : Nat → Heap → Prop} (W : Walks prog w A I fp wr n P St) : Walks prog w A I fp wr n (fun i v => i < n ∧ P i v) St :=
  { W with item := fun i s Q E hi st hQ => W.item i s Q E hi st fun v h' tk hP => hQ v h' tk ⟨hi, hP⟩ }
def KT (b : Bool) (s : Shared) (ok : Bool) (s' : Shared) : Prop := ok = b ∧ Keeps s s'
def KF (F : Value → Value → Prop) (v : Value) (s : Shared) (y : Value) (s' : Shared) : Prop := F v y ∧ Keeps s s'
theorem fr_low {h₀ h : Heap} {L : Addr} {m : Str → Option Value} (F : Fr h₀ L h m) (news : List (Addr × Obj)) (N : News h₀ L h news) : ∀ b ∈ [h.objs.size], b ≠ L ∧ h₀.get? b = none ∧ ∀ p ∈ news, p.1 ≠ b := by
  intro b hb
  rw [List.mem_singleton.mp hb]
  exact ⟨fun e => absurd F.ns.lt (e ▸ Nat.lt_irrefl _), next_is_new F, fun p hp e => absurd (Heap.lt_size (N p hp).1) (e ▸ Nat.lt_irrefl _)⟩
theorem comp_news2 {h₀ : Heap} {L : Addr} {s₂ : Shared} {m m' : Str → Option Value} {news : List (Addr × Obj)} {wr : List Addr} {D : Addr} {h' : Heap} {ys : Array Value} (F : Fr h₀ L s₂.heap m) (N : News h₀ L s₂.heap news)
    (hwr : ∀ b ∈ wr, b ≠ L ∧ h₀.get? b = none ∧ ∀ p ∈ news, p.1 ≠ b) (hD : s₂.heap.get? D = none) (hpl : h'.PlainList D ys) (hn : h'.Ns L m') (keep : ∀ b o, b ≠ L → b ∉ wr → s₂.heap.get? b = some o → h'.get? b = some o) :
    Fr h₀ L h' m' ∧ ∃ n, News h₀ L h' ((D, lst ys.toList n) :: news) := by
  obtain ⟨n, hpn⟩ := hpl
  have hL0 : h₀.get? L = none := by
    cases q : h₀.get? L with
    | none => rfl
    | some o => exact absurd (Heap.lt_size q) (Nat.not_lt.mpr F.above)
  have F' : Fr h₀ L h' m' := ⟨hn, fun b o e => keep b o (by rintro rfl; rw [hL0] at e; cases e) (fun q => by rw [(hwr b q).2.1] at e; cases e) (F.keep b o e), F.above⟩
  refine ⟨F', n, fun p hp => ?_⟩
  rcases List.mem_cons.mp hp with rfl | hp
  · refine ⟨by simpa using hpn, fun q => ?_, ?_⟩
    · dsimp only at q
      rw [q] at hD
      obtain ⟨o, _, _, ho, _⟩ := F.ns
      rw [hD] at ho; cases ho
    · cases q : h₀.get? D with
      | none => rfl
      | some o => have := F.keep D o q; rw [hD] at this; cases this
  · exact ⟨keep _ _ (N p hp).2.1 (fun q => (hwr p.1 q).2.2 p hp rfl) (N p hp).1, (N p hp).2⟩
theorem rep1 {w : World} {A : Around} {E : Value → Shared → Prop} {s : Shared} {x : List Nat} {ys zs : Str} {t u v : Tok} {Q : Value → Shared → Prop} (y z : List Nat) (ey : ys = mkS y) (ez : zs = mkS z) (hu : u ≠ 0) (hv : v ≠ 0) (huv : u ≠ v) (hy : y ≠ []) (hyz : (mkS y == mkS z) = false) (hx : x.length ≤ 4000) (hz : z.length ≤ 1) (hs : 1 ≤ s.toks)
    (hq : ∀ t' k, 1 ≤ k → Q (.str (mkS (rep y z 0 x)) t') { s with toks := k }) : wpAny (model PR w) A (call (.builtin "str.replace") [.str (mkS x) t, .str ys u, .str zs v]) Q E s := by
  subst ey ez
  refine wpAny_with_toks (n := 1) hs ?_
  refine SC.replaceW hu hv huv hyz (by rw [mkS_length]; omega) (by rw [mkS_length]; omega) fun t' k hk => ?_
  rw [replace_mk _ _ _ hy]
  exact hq t' k hk
theorem spl1 {w : World} {A : Around} {E : Value → Shared → Prop} {s : Shared} {h₀ : Heap} {L : Addr} {m : Str → Option Value} {news : List (Addr × Obj)} {x : List Nat} {ys : Str} {t u : Tok} {Q : Value → Shared → Prop} (y : List Nat) (F : Fr h₀ L s.heap m) (N : News h₀ L s.heap news) (ey : ys = mkS y) (hy : y ≠ []) (hk : ∀ c ∈ y, c < 256) (hx : x.length ≤ 100000)
    (h : ∀ h' k vs, StrsAre vs ((splA y [] 0 x).map mkS) → Fr h₀ L h' m → News h₀ L h' ((s.heap.objs.size, lst vs 0) :: news) → Q (.ref s.heap.objs.size) { s with heap := h', toks := k }) :
    wpAny (model PR w) A (call (.builtin "str.split") [.str (mkS x) t, .str ys u]) Q E s := by
  subst ey
  have hyl := List.length_pos_iff.mpr hy
  refine splitN1A F N (by rw [mkS_length]; exact beq_eq_false_iff_ne.mpr (by omega)) (fun l h' k e hS _ _ F' N' => ?_) (by rw [mkS_length, sizeLine_eq]; omega)
  rw [split_mk x y hy hk] at e
  rw [e] at hS
  exact h h' k _ hS F' N'
theorem o_crlf : Str.ofString "\r\n" = mkS [13, 10] := by decide +kernel
theorem o_cr : Str.ofString "\r" = mkS [13] := by decide +kernel
theorem o_lf : Str.ofString "\n" = mkS [10] := by decide +kernel
theorem cell_of {h₀ h : Heap} {L c : Addr} {news : List (Addr × Obj)} {oc : Obj} {v : Value} (N : News h₀ L h news) (hoc : oc.data = .cell (some v)) (hm : (c, oc) ∈ news) : h.IsCell c (some v) := ⟨oc, (N _ hm).1, hoc⟩
theorem mp_two (a b : Str) (v u : Value) : (fun y => if y = a then some v else if y = b then some u else none) = mp [(a, v), (b, u)] := by
  funext y
  show _ = List.lookup y [(a, v), (b, u)]
  rw [List.lookup_cons, List.lookup_cons]
  by_cases h1 : y = a
  · subst h1; simp
  · rw [if_neg h1, beq_eq_false_iff_ne.mpr h1]
    by_cases h2 : y = b
    · subst h2; simp
    · rw [if_neg h2, beq_eq_false_iff_ne.mpr h2]; rfl
theorem bind_two {k : Str → Option NameKind} (a b : Str) (v u : Value) (ha : k a = some .local) (hb : k b = some .local) : bindL k [(a, v), (b, u)] (fun _ => none) = mp [(b, u), (a, v)] := by
  rw [bindL, if_pos ha, bindL, if_pos hb, bindL]
  exact mp_two b a u v
theorem bind_one {k : Str → Option NameKind} (a : Str) (v : Value) (ha : k a = some .local) : bindL k [(a, v)] (fun _ => none) = mp [(a, v)] := by
  rw [bindL, if_pos ha, bindL]
  funext y
  show _ = List.lookup y [(a, v)]
  rw [List.lookup_cons]
  by_cases h1 : y = a
  · subst h1; simp
  · rw [if_neg h1, beq_eq_false_iff_ne.mpr h1]; rfl
end Mine
end
section
set_option maxRecDepth 100000
set_option maxHeartbeats 1000000
namespace Mine
open PySem PySem.W PySem.Calls PyProof.Rows
/-- pairs (lines, signs), the first ahead -/
def lx (p q : Nat × Nat) : Prop := p.1 < q.1 ∨ (p.1 = q.1 ∧ p.2 ≤ q.2)
noncomputable def pa (p q : Nat × Nat) : Nat × Nat := (p.1 + q.1, p.2 + q.2)
theorem lx.refl (p : Nat × Nat) : lx p p := .inr ⟨rfl, Nat.le_refl _⟩
theorem lx.trans {p q r : Nat × Nat} (a : lx p q) (b : lx q r) : lx p r := by unfold lx at *; omega
theorem lx.antisymm {p q : Nat × Nat} (a : lx p q) (b : lx q p) : p = q := by
  obtain ⟨p1, p2⟩ := p
  obtain ⟨q1, q2⟩ := q
  unfold lx at *
  dsimp only at a b
  rw [show p1 = q1 by omega, show p2 = q2 by omega]
theorem lx.total (p q : Nat × Nat) : lx p q ∨ lx q p := by unfold lx; omega
theorem lx_up {p q r : Nat × Nat} (a : lx p q) (h1 : q.1 ≤ r.1) (h2 : q.2 ≤ r.2) : lx p r := by unfold lx at *; omega
theorem lx_lt {p q r : Nat × Nat} (a : lx p q) (h1 : q.1 < r.1) : lx p r := by unfold lx at *; omega
theorem lx_dn {p q r : Nat × Nat} (a : lx p q) (h1 : r.1 ≤ p.1) (h2 : r.2 ≤ p.2) : lx r q := by unfold lx at *; omega
theorem lx_c2 {g x y c d : Nat × Nat} (h : lx g x) (k : lx c d) (h1 : x.1 + d.1 ≤ y.1 + c.1) (h2 : x.2 + d.2 ≤ y.2 + c.2) : lx g y := by unfold lx at *; omega
theorem lx.add {p q r : Nat × Nat} (a : lx p q) : lx (pa r p) (pa r q) := by unfold lx pa at *; dsimp only; omega
theorem lx.addr {p q r : Nat × Nat} (a : lx p q) : lx (pa p r) (pa q r) := by unfold lx pa at *; dsimp only; omega
/-- what is still to come (lines, signs) from fill u on, by the greedy way; ws: the octets' least widths; bl: the last is a blank or tab -/
noncomputable def gc (n : Nat) (bl : Bool) : List Nat → Nat → Nat × Nat
  | [], _ => (0, 0)
  | [w], u => if bl then (if u + 3 ≤ n then (0, 3) else if u + 2 ≤ n then (1, 2) else (1, 4)) else if u + w ≤ n then (0, w) else (1, 1 + w)
  | w :: w' :: ws, u => if u + w ≤ n - 1 then pa (0, w) (gc n bl (w' :: ws) (u + w)) else pa (1, 1 + w) (gc n bl (w' :: ws) w)
section
variable {n : Nat} {bl : Bool}
theorem gc_mono (hn : 4 ≤ n) : ∀ (ws : List Nat), (∀ w ∈ ws, 1 ≤ w ∧ w ≤ 3) →
    (∀ u u', u ≤ u' → u' ≤ n - 1 → lx (gc n bl ws u) (gc n bl ws u')) ∧ (∀ u, u ≤ n - 1 → lx (gc n bl ws u) (pa (1, 1) (gc n bl ws 0)))
  | [], _ => ⟨fun _ _ _ _ => .refl _, fun _ _ => .inl (by unfold gc pa; dsimp only; omega)⟩
  | [w], h => by
    have hw := h w (.head _)
    refine ⟨fun u u' hu hu' => ?_, fun u hu => ?_⟩
    · unfold gc
      cases bl with
      | true => simp only [if_true]; (repeat' split) <;> first | exact .refl _ | (unfold lx; dsimp only; omega)
      | false => simp only [Bool.false_eq_true, if_false]; (repeat' split) <;> first | exact .refl _ | (unfold lx; dsimp only; omega)
    · unfold gc pa
      cases bl with
      | true => simp only [if_true]; (repeat' split) <;> first | exact .refl _ | (unfold lx; dsimp only; omega)
      | false => simp only [Bool.false_eq_true, if_false]; (repeat' split) <;> first | exact .refl _ | (unfold lx; dsimp only; omega)
  | w :: w' :: ws, h => by
    have hw := h w (.head _)
    obtain ⟨m1, m2⟩ := gc_mono hn (w' :: ws) fun x hx => h x (.tail _ hx)
    have key : ∀ v, v ≤ n - 1 → lx (gc n bl (w' :: ws) v) (pa (1, 1) (gc n bl (w' :: ws) w)) := fun v hv =>
      (m2 v hv).trans (lx.add (m1 0 w (Nat.zero_le _) (by omega)))
    have e0 : gc n bl (w :: w' :: ws) 0 = pa (0, w) (gc n bl (w' :: ws) w) := by
      rw [gc, if_pos (by omega), Nat.zero_add]
    refine ⟨fun u u' hu hu' => ?_, fun u hu => ?_⟩
    · rw [gc, gc]
      by_cases h1 : u + w ≤ n - 1
      · rw [if_pos h1]
        by_cases h2 : u' + w ≤ n - 1
        · rw [if_pos h2]; exact lx.add (m1 _ _ (by omega) h2)
        · rw [if_neg h2]
          have := key (u + w) h1
          unfold lx pa at *; dsimp only at *; omega
      · rw [if_neg h1, if_neg (by omega)]; exact .refl _
    · rw [e0, gc]
      by_cases h1 : u + w ≤ n - 1
      · rw [if_pos h1]
        have := key (u + w) h1
        unfold lx pa at *; dsimp only at *; omega
      · rw [if_neg h1]; unfold lx pa; dsimp only; omega
end
/-- the forms of an octet: (width, lines more) -/
noncomputable def plainC (c : Nat) : Bool := c == 9 || (decide (31 < c) && decide (c < 127) && c != 61)
noncomputable def blankC (c : Nat) : Bool := c == 32 || c == 9
noncomputable def formsOf (c : Nat) (last : Bool) : List (Nat × Nat) := (3, 0) :: if blankC c && last then [(2, 1)] else if plainC c then [(1, 0)] else []
noncomputable def widthC (c : Nat) : Nat := if plainC c then 1 else 3
noncomputable def stepsOf (n u : Nat) (v : Nat × Nat) (f : Nat × Nat) : List (Nat × (Nat × Nat)) :=
  (if u + f.1 ≤ n then [(u + f.1, (v.1 + f.2, v.2 + f.1))] else []) ++ (if u + 1 ≤ n then [(f.1, (v.1 + 1 + f.2, v.2 + 1 + f.1))] else [])
noncomputable def candsOf (n : Nat) (fs : List (Nat × Nat)) (W : List (Nat × (Nat × Nat))) : List (Nat × (Nat × Nat)) := W.flatMap fun e => fs.flatMap (stepsOf n e.1 e.2)
noncomputable def ltW (p q : Nat × Nat) : Bool := decide (p.1 < q.1) || (p.1 == q.1 && decide (p.2 < q.2))
noncomputable def minW (p q : Nat × Nat) : Nat × Nat := if ltW q p then q else p
noncomputable def getW (W : List (Nat × (Nat × Nat))) (k : Nat) (d : Nat × Nat) : Nat × Nat := match W.find? (fun e => e.1 = k) with | some e => e.2 | none => d
noncomputable def setW (W : List (Nat × (Nat × Nat))) (k : Nat) (v : Nat × Nat) : List (Nat × (Nat × Nat)) :=
  if W.any (fun e => e.1 = k) then W.map (fun e => if e.1 = k then (e.1, v) else e) else W ++ [(k, v)]
noncomputable def putW (W : List (Nat × (Nat × Nat))) (c : Nat × (Nat × Nat)) : List (Nat × (Nat × Nat)) := setW W c.1 (minW (getW W c.1 c.2) c.2)
noncomputable def formsAt (x : List Nat) (k : Nat) : List (Nat × Nat) := formsOf (x.getD k 0) (k + 1 == x.length)
noncomputable def turnW (n : Nat) (fs : List (Nat × Nat)) (W : List (Nat × (Nat × Nat))) : List (Nat × (Nat × Nat)) := (candsOf n fs W).foldl putW []
noncomputable def waysAt (n : Nat) (x : List Nat) : Nat → List (Nat × (Nat × Nat))
  | 0 => [(0, (1, 0))]
  | k + 1 => turnW n (formsAt x k) (waysAt n x k)
theorem ltW_iff (p q : Nat × Nat) : ltW p q = true ↔ ¬ lx q p := by
  unfold ltW lx
  simp only [Bool.or_eq_true, Bool.and_eq_true, decide_eq_true_eq, beq_iff_eq]
  omega
theorem minW_le (p q : Nat × Nat) : lx (minW p q) p ∧ lx (minW p q) q := by
  unfold minW
  split
  · rename_i h
    rw [ltW_iff] at h
    exact ⟨(lx.total q p).resolve_right h, .refl _⟩
  · rename_i h
    rw [ltW_iff, Classical.not_not] at h
    exact ⟨.refl _, h⟩
theorem minW_or (p q : Nat × Nat) : minW p q = p ∨ minW p q = q := by unfold minW; split <;> simp
theorem getW_mem {W : List (Nat × (Nat × Nat))} {k : Nat} {d : Nat × Nat} : (k, getW W k d) ∈ W ∨ (getW W k d = d ∧ ∀ e ∈ W, e.1 ≠ k) := by
  unfold getW
  split
  · rename_i e h
    have h1 := List.find?_some h
    have h2 := List.mem_of_find?_eq_some h
    simp at h1
    rw [← h1]
    exact .inl h2
  · rename_i h
    exact .inr ⟨rfl, fun e he q => by
      have := List.find?_eq_none.mp h e he
      simp [q] at this⟩
theorem mem_setW {W : List (Nat × (Nat × Nat))} {k : Nat} {v : Nat × Nat} {e : Nat × (Nat × Nat)} (h : e ∈ setW W k v) : e ∈ W ∨ e = (k, v) := by
  unfold setW at h
  split at h
  · obtain ⟨a, ha, rfl⟩ := List.mem_map.mp h
    split
    · rename_i q; exact .inr (by rw [q])
    · exact .inl ha
  · rcases List.mem_append.mp h with h | h
    · exact .inl h
    · exact .inr (List.mem_singleton.mp h)
theorem setW_has (W : List (Nat × (Nat × Nat))) (k : Nat) (v : Nat × Nat) : (k, v) ∈ setW W k v := by
  unfold setW
  split
  · rename_i h
    obtain ⟨a, ha, hk⟩ := List.any_eq_true.mp h
    simp at hk
    exact List.mem_map.mpr ⟨a, ha, by rw [if_pos hk, hk]⟩
  · exact List.mem_append_right _ (.head _)
theorem setW_old {W : List (Nat × (Nat × Nat))} {k : Nat} {v : Nat × Nat} {e : Nat × (Nat × Nat)} (h : e ∈ W) (hk : e.1 ≠ k) : e ∈ setW W k v := by
  unfold setW
  split
  · exact List.mem_map.mpr ⟨e, h, by rw [if_neg hk]⟩
  · exact List.mem_append_left _ h
def KeysOk (W : List (Nat × (Nat × Nat))) : Prop := (W.map (·.1)).Nodup
theorem getW_of {d : Nat × Nat} : ∀ {W : List (Nat × (Nat × Nat))} {e : Nat × (Nat × Nat)}, KeysOk W → e ∈ W → getW W e.1 d = e.2
  | [], _, _, h => by cases h
  | a :: W, e, hk, h => by
    unfold KeysOk at hk
    rw [List.map_cons, List.nodup_cons] at hk
    by_cases q : a.1 = e.1
    · rcases List.mem_cons.mp h with rfl | h
      · unfold getW; simp
      · exact absurd (List.mem_map.mpr ⟨e, h, q.symm⟩) hk.1
    · rcases List.mem_cons.mp h with rfl | h
      · exact absurd rfl q
      · have := getW_of (d := d) (W := W) hk.2 h
        unfold getW at this ⊢
        rw [List.find?_cons_of_neg (by simpa using q)]
        exact this
theorem setW_keys {W : List (Nat × (Nat × Nat))} {k : Nat} {v : Nat × Nat} (h : KeysOk W) : KeysOk (setW W k v) := by
  unfold setW
  split
  · have : (W.map (fun e => if e.1 = k then (e.1, v) else e)).map (·.1) = W.map (·.1) := by
      rw [List.map_map]
      exact List.map_congr_left fun e _ => by
        show (if e.1 = k then (e.1, v) else e).1 = e.1
        split <;> rfl
    unfold KeysOk
    rw [this]; exact h
  · rename_i hn
    unfold KeysOk at h ⊢
    rw [List.map_append, List.nodup_append]
    refine ⟨h, by simp, fun a ha b hb => ?_⟩
    obtain ⟨e, he, rfl⟩ := List.mem_map.mp ha
    simp at hb
    subst hb
    intro q
    exact hn (List.any_eq_true.mpr ⟨e, he, by simpa using q⟩)
theorem put_fold : ∀ (cs : List (Nat × (Nat × Nat))) (W : List (Nat × (Nat × Nat))), KeysOk W →
    KeysOk (cs.foldl putW W) ∧ (∀ e ∈ cs.foldl putW W, e ∈ W ∨ e ∈ cs) ∧ (∀ c, c ∈ W ∨ c ∈ cs → ∃ v, (c.1, v) ∈ cs.foldl putW W ∧ lx v c.2)
  | [], W, hk => ⟨hk, fun e h => .inl h, fun c h => by rcases h with h | h; exact ⟨c.2, h, .refl _⟩; cases h⟩
  | c :: cs, W, hk => by
    obtain ⟨i0, i1, i2⟩ := put_fold cs (putW W c) (setW_keys hk)
    rw [List.foldl_cons]
    refine ⟨i0, fun e h => ?_, fun d hd => ?_⟩
    · rcases i1 e h with h | h
      · rcases mem_setW h with h | h
        · exact .inl h
        · rcases minW_or (getW W c.1 c.2) c.2 with q | q
          · rw [q] at h
            rcases getW_mem (W := W) (k := c.1) (d := c.2) with g | g
            · rw [h]; exact .inl g
            · rw [g.1] at h; rw [h]; exact .inr (.head _)
          · rw [q] at h; rw [h]; exact .inr (.head _)
      · exact .inr (.tail _ h)
    · have hput : (c.1, minW (getW W c.1 c.2) c.2) ∈ putW W c := setW_has _ _ _
      have hc := minW_le (getW W c.1 c.2) c.2
      rcases hd with hd | hd
      · by_cases hq : d.1 = c.1
        · obtain ⟨v, hv, hl⟩ := i2 _ (.inl hput)
          have hg : getW W c.1 c.2 = d.2 := by rw [← hq]; exact getW_of hk hd
          rw [hq]
          exact ⟨v, hv, hl.trans (by rw [← hg]; exact hc.1)⟩
        · exact i2 d (.inl (setW_old hd hq))
      · rcases List.mem_cons.mp hd with rfl | hd
        · obtain ⟨v, hv, hl⟩ := i2 _ (.inl hput)
          exact ⟨v, hv, hl.trans hc.2⟩
        · exact i2 d (.inr hd)
/-- one octet of the table -/
noncomputable def restW (x : List Nat) (k : Nat) : List Nat := (x.drop k).map widthC
noncomputable def blLast (x : List Nat) : Bool := match x.getLast? with | some c => blankC c | none => false
noncomputable def bestG (n : Nat) (x : List Nat) : Nat × Nat := pa (1, 0) (gc n (blLast x) (x.map widthC) 0)
structure TabOk (n : Nat) (x : List Nat) (k : Nat) (W : List (Nat × (Nat × Nat))) : Prop where
  keys : KeysOk W
  low : ∀ e ∈ W, e.1 ≤ n ∧ ((e.1 ≤ n - 1 ∨ k = x.length) → lx (bestG n x) (pa e.2 (gc n (blLast x) (restW x k) e.1)))
  high : ∃ e ∈ W, (e.1 ≤ n - 1 ∨ k = x.length) ∧ lx (pa e.2 (gc n (blLast x) (restW x k) e.1)) (bestG n x)
theorem widthC_or (c : Nat) : widthC c = 1 ∨ widthC c = 3 := by unfold widthC; split <;> simp
theorem mem_steps {n u : Nat} {v f : Nat × Nat} {e : Nat × (Nat × Nat)} : e ∈ stepsOf n u v f ↔ (u + f.1 ≤ n ∧ e = (u + f.1, (v.1 + f.2, v.2 + f.1))) ∨ (u + 1 ≤ n ∧ e = (f.1, (v.1 + 1 + f.2, v.2 + 1 + f.1))) := by
  unfold stepsOf
  rw [List.mem_append]
  constructor
  · rintro (h | h) <;> split at h
    · exact .inl ⟨by assumption, List.mem_singleton.mp h⟩
    · cases h
    · exact .inr ⟨by assumption, List.mem_singleton.mp h⟩
    · cases h
  · rintro (⟨h, rfl⟩ | ⟨h, rfl⟩)
    · exact .inl (by rw [if_pos h]; exact .head _)
    · exact .inr (by rw [if_pos h]; exact .head _)
theorem gc_pa (p q r : Nat × Nat) : pa (pa p q) r = pa p (pa q r) := by unfold pa; simp; omega
/-- one step of the table keeps the bounds -/
theorem tab_step {n : Nat} (hn : 4 ≤ n) {x : List Nat} {k : Nat} (hk : k < x.length) {W : List (Nat × (Nat × Nat))} (h : TabOk n x k W) : TabOk n x (k + 1) (turnW n (formsAt x k) W) := by
  obtain ⟨c, hc⟩ : ∃ c, x[k]? = some c := ⟨x[k], by simp⟩
  have hcD : x.getD k 0 = c := by rw [List.getD_eq_getElem?_getD, hc]; rfl
  have hd : x.drop k = c :: x.drop (k + 1) := by
    rw [List.drop_eq_getElem_cons hk]
    rw [List.getElem?_eq_getElem hk] at hc
    rw [Option.some.inj hc]
  have hrest : restW x k = widthC c :: restW x (k + 1) := by unfold restW; rw [hd]; rfl
  have hmono := gc_mono (n := n) (bl := blLast x) hn (restW x (k + 1)) fun w hw => by
    obtain ⟨d, _, rfl⟩ := List.mem_map.mp hw
    have := widthC_or d
    omega
  obtain ⟨kf, f1, f2⟩ := put_fold (candsOf n (formsAt x k) W) [] List.nodup_nil
  have hw := widthC_or c
  by_cases hlast : k + 1 = x.length
  · -- the last octet
    have hr0 : restW x (k + 1) = [] := by unfold restW; rw [List.drop_eq_nil_of_le (by omega)]; rfl
    have hgl : x.getLast? = some c := by rw [List.getLast?_eq_getElem?, ← hlast]; exact hc
    have hbl : blLast x = blankC c := by unfold blLast; rw [hgl]
    have hF : formsAt x k = (3, 0) :: if blankC c = true then [(2, 1)] else if plainC c = true then [(1, 0)] else [] := by
      unfold formsAt formsOf
      rw [hcD, hlast]
      simp
    refine ⟨kf, fun e he => ?_, ?_⟩
    · rcases f1 e he with he | he
      · cases he
      obtain ⟨⟨u, v⟩, hm, he⟩ := List.mem_flatMap.mp he
      obtain ⟨f, hf, he⟩ := List.mem_flatMap.mp he
      rw [mem_steps] at he
      dsimp only at he
      have hl := (h.low _ hm).2
      rw [hrest, hr0, gc, hbl] at hl
      rw [hr0, gc]
      have hff : f = (3, 0) ∨ (blankC c = true ∧ f = (2, 1)) ∨ (blankC c = false ∧ plainC c = true ∧ f = (1, 0)) := by
        rw [hF] at hf
        rcases List.mem_cons.mp hf with hf | hf
        · exact .inl hf
        · split at hf
          · rename_i q; exact .inr (.inl ⟨q, List.mem_singleton.mp hf⟩)
          · rename_i q
            split at hf
            · rename_i q'; exact .inr (.inr ⟨by simpa using q, q', List.mem_singleton.mp hf⟩)
            · cases hf
      have hpw : plainC c = true → widthC c = 1 := fun q => by unfold widthC; rw [if_pos q]
      have hnw : plainC c = false → widthC c = 3 := fun q => by unfold widthC; rw [if_neg (by simp [q])]
      rcases hff with rfl | ⟨hb, rfl⟩ | ⟨hb, hp, rfl⟩
      · dsimp only at he
        cases hbb : blankC c with
        | true =>
          rw [hbb] at hl
          simp only [if_true] at hl
          rcases he with ⟨hu, rfl⟩ | ⟨hu, rfl⟩
          · refine ⟨hu, fun _ => ?_⟩
            have := hl (.inl (by (try dsimp only); omega))
            (try dsimp only at this)
            rw [if_pos (by omega)] at this
            first | exact lx_up this (by unfold pa; (try dsimp only); omega) (by unfold pa; (try dsimp only); omega) | exact lx_lt this (by unfold pa; (try dsimp only); omega) | (unfold lx at this ⊢; (try unfold pa at this); (try unfold pa); (try dsimp only at this); (try dsimp only); omega)
          · refine ⟨by dsimp only; omega, fun _ => ?_⟩
            have := hl (.inl (by (try dsimp only); omega))
            (try dsimp only at this)
            repeat' split at this
            all_goals (first | exact lx_up this (by unfold pa; (try dsimp only); omega) (by unfold pa; (try dsimp only); omega) | exact lx_lt this (by unfold pa; (try dsimp only); omega) | (unfold lx at this ⊢; (try unfold pa at this); (try unfold pa); (try dsimp only at this); (try dsimp only); omega))
        | false =>
          rw [hbb] at hl
          simp only [Bool.false_eq_true, if_false] at hl
          rcases he with ⟨hu, rfl⟩ | ⟨hu, rfl⟩
          · refine ⟨hu, fun _ => ?_⟩
            have := hl (.inl (by (try dsimp only); omega))
            (try dsimp only at this)
            repeat' split at this
            all_goals (first | exact lx_up this (by unfold pa; (try dsimp only); omega) (by unfold pa; (try dsimp only); omega) | exact lx_lt this (by unfold pa; (try dsimp only); omega) | (unfold lx at this ⊢; (try unfold pa at this); (try unfold pa); (try dsimp only at this); (try dsimp only); omega))
          · refine ⟨by dsimp only; omega, fun _ => ?_⟩
            have := hl (.inl (by (try dsimp only); omega))
            (try dsimp only at this)
            repeat' split at this
            all_goals (first | exact lx_up this (by unfold pa; (try dsimp only); omega) (by unfold pa; (try dsimp only); omega) | exact lx_lt this (by unfold pa; (try dsimp only); omega) | (unfold lx at this ⊢; (try unfold pa at this); (try unfold pa); (try dsimp only at this); (try dsimp only); omega))
      · rw [hb] at hl
        simp only [if_true] at hl
        dsimp only at he
        rcases he with ⟨hu, rfl⟩ | ⟨hu, rfl⟩
        · refine ⟨hu, fun _ => ?_⟩
          have := hl (.inl (by (try dsimp only); omega))
          (try dsimp only at this)
          repeat' split at this
          all_goals (first | exact lx_up this (by unfold pa; (try dsimp only); omega) (by unfold pa; (try dsimp only); omega) | exact lx_lt this (by unfold pa; (try dsimp only); omega) | (unfold lx at this ⊢; (try unfold pa at this); (try unfold pa); (try dsimp only at this); (try dsimp only); omega))
        · refine ⟨by dsimp only; omega, fun _ => ?_⟩
          have := hl (.inl (by (try dsimp only); omega))
          (try dsimp only at this)
          repeat' split at this
          all_goals (first | exact lx_up this (by unfold pa; (try dsimp only); omega) (by unfold pa; (try dsimp only); omega) | exact lx_lt this (by unfold pa; (try dsimp only); omega) | (unfold lx at this ⊢; (try unfold pa at this); (try unfold pa); (try dsimp only at this); (try dsimp only); omega))
      · rw [hb] at hl
        simp only [Bool.false_eq_true, if_false] at hl
        rw [hpw hp] at hl
        dsimp only at he
        rcases he with ⟨hu, rfl⟩ | ⟨hu, rfl⟩
        · refine ⟨hu, fun _ => ?_⟩
          have := hl (.inl (by (try dsimp only); omega))
          (try dsimp only at this)
          repeat' split at this
          all_goals (first | exact lx_up this (by unfold pa; (try dsimp only); omega) (by unfold pa; (try dsimp only); omega) | exact lx_lt this (by unfold pa; (try dsimp only); omega) | (unfold lx at this ⊢; (try unfold pa at this); (try unfold pa); (try dsimp only at this); (try dsimp only); omega))
        · refine ⟨by dsimp only; omega, fun _ => ?_⟩
          have := hl (.inl (by (try dsimp only); omega))
          (try dsimp only at this)
          repeat' split at this
          all_goals (first | exact lx_up this (by unfold pa; (try dsimp only); omega) (by unfold pa; (try dsimp only); omega) | exact lx_lt this (by unfold pa; (try dsimp only); omega) | (unfold lx at this ⊢; (try unfold pa at this); (try unfold pa); (try dsimp only at this); (try dsimp only); omega))
    · obtain ⟨⟨u, v⟩, hm, hu, hg⟩ := h.high
      have hu' : u ≤ n - 1 := hu.resolve_right (by omega)
      rw [hrest, hr0, gc, hbl] at hg
      dsimp only at hg
      -- the greedy's own step is one of the candidates
      have fin : ∀ (f : Nat × Nat) (e : Nat × (Nat × Nat)), f ∈ formsAt x k → e ∈ stepsOf n u v f → lx e.2 (bestG n x) → ∃ e ∈ turnW n (formsAt x k) W, (e.1 ≤ n - 1 ∨ k + 1 = x.length) ∧ lx (pa e.2 (gc n (blLast x) (restW x (k + 1)) e.1)) (bestG n x) := fun f e hf he hle => by
        obtain ⟨v', hv', hl'⟩ := f2 e (.inr (List.mem_flatMap.mpr ⟨(u, v), hm, List.mem_flatMap.mpr ⟨f, hf, he⟩⟩))
        refine ⟨_, hv', .inr hlast, ?_⟩
        rw [hr0, gc]
        have := hl'.trans hle
        first | exact lx_up this (by unfold pa; (try dsimp only); omega) (by unfold pa; (try dsimp only); omega) | exact lx_lt this (by unfold pa; (try dsimp only); omega) | (unfold lx at this ⊢; (try unfold pa at this); (try unfold pa); (try dsimp only at this); (try dsimp only); omega)
      have h3 : (3, 0) ∈ formsAt x k := by rw [hF]; exact .head _
      cases hbb : blankC c with
      | true =>
        rw [hbb] at hg hF
        simp only [if_true] at hg hF
        have h2 : (2, 1) ∈ formsAt x k := by rw [hF]; exact .tail _ (.head _)
        split at hg
        · exact fin (3, 0) _ h3 (mem_steps.mpr (.inl ⟨by assumption, rfl⟩)) (by first | exact lx_dn hg (by unfold pa; (try dsimp only); omega) (by unfold pa; (try dsimp only); omega) | (unfold lx at hg ⊢; (try unfold pa at hg); (try unfold pa); (try dsimp only at hg); (try dsimp only); omega))
        · split at hg
          · exact fin (2, 1) _ h2 (mem_steps.mpr (.inl ⟨by assumption, rfl⟩)) (by first | exact lx_dn hg (by unfold pa; (try dsimp only); omega) (by unfold pa; (try dsimp only); omega) | (unfold lx at hg ⊢; (try unfold pa at hg); (try unfold pa); (try dsimp only at hg); (try dsimp only); omega))
          · exact fin (3, 0) _ h3 (mem_steps.mpr (.inr ⟨by omega, rfl⟩)) (by first | exact lx_dn hg (by unfold pa; (try dsimp only); omega) (by unfold pa; (try dsimp only); omega) | (unfold lx at hg ⊢; (try unfold pa at hg); (try unfold pa); (try dsimp only at hg); (try dsimp only); omega))
      | false =>
        rw [hbb] at hg hF
        simp only [Bool.false_eq_true, if_false] at hg hF
        have hwf : (widthC c, 0) ∈ formsAt x k := by
          rw [hF]
          unfold widthC
          split
          · exact .tail _ (.head _)
          · exact .head _
        split at hg
        · exact fin _ _ hwf (mem_steps.mpr (.inl ⟨by assumption, rfl⟩)) (by first | exact lx_dn hg (by unfold pa; (try dsimp only); omega) (by unfold pa; (try dsimp only); omega) | (unfold lx at hg ⊢; (try unfold pa at hg); (try unfold pa); (try dsimp only at hg); (try dsimp only); omega))
        · exact fin _ _ hwf (mem_steps.mpr (.inr ⟨by omega, rfl⟩)) (by first | exact lx_dn hg (by unfold pa; (try dsimp only); omega) (by unfold pa; (try dsimp only); omega) | (unfold lx at hg ⊢; (try unfold pa at hg); (try unfold pa); (try dsimp only at hg); (try dsimp only); omega))
  · -- not the last
    have hF : formsAt x k = (3, 0) :: if plainC c = true then [(1, 0)] else [] := by
      unfold formsAt formsOf
      rw [hcD]
      have : (k + 1 == x.length) = false := beq_eq_false_iff_ne.mpr hlast
      rw [this]
      simp
    obtain ⟨w', ws, hws⟩ : ∃ w' ws, restW x (k + 1) = w' :: ws := by
      have : restW x (k + 1) ≠ [] := by
        unfold restW
        intro q
        have := List.map_eq_nil_iff.mp q
        have := congrArg List.length this
        rw [List.length_drop] at this
        simp at this
        omega
      exact List.exists_cons_of_ne_nil this
    rw [hws] at hmono
    obtain ⟨m1, m2⟩ := hmono
    refine ⟨kf, fun e he => ?_, ?_⟩
    · rcases f1 e he with he | he
      · cases he
      obtain ⟨⟨u, v⟩, hm, he⟩ := List.mem_flatMap.mp he
      obtain ⟨f, hf, he⟩ := List.mem_flatMap.mp he
      rw [mem_steps] at he
      dsimp only at he
      have hl := (h.low _ hm).2
      rw [hrest, hws, gc] at hl
      rw [hws]
      have hfw : f.2 = 0 ∧ widthC c ≤ f.1 ∧ f.1 ≤ 3 := by
        rw [hF] at hf
        rcases List.mem_cons.mp hf with rfl | hf
        · refine ⟨rfl, ?_, Nat.le_refl _⟩
          dsimp only; omega
        · split at hf
          · rename_i q
            rw [List.mem_singleton.mp hf]
            refine ⟨rfl, ?_, by decide⟩
            unfold widthC; rw [if_pos q]; exact Nat.le_refl _
          · cases hf
      obtain ⟨f, fm⟩ := f
      dsimp only at hfw he
      obtain ⟨rfl, hf1, hf3⟩ := hfw
      rcases he with ⟨hu, rfl⟩ | ⟨hu, rfl⟩
      · refine ⟨hu, fun hq => ?_⟩
        dsimp only at hq ⊢
        have hq' : u + f ≤ n - 1 := hq.resolve_right hlast
        have := hl (.inl (by (try dsimp only); omega))
        (try dsimp only at this)
        rw [if_pos (by omega)] at this
        have hm1 := m1 (u + widthC c) (u + f) (by omega) hq'
        exact lx_c2 this hm1 (by unfold pa; (try dsimp only); omega) (by unfold pa; (try dsimp only); omega)
      · refine ⟨by dsimp only; omega, fun hq => ?_⟩
        dsimp only at hq ⊢
        have := hl (.inl (by (try dsimp only); omega))
        (try dsimp only at this)
        have hm1 := m1 (widthC c) f hf1 (by omega)
        split at this
        · have hk2 := (m2 (u + widthC c) (by assumption)).trans (lx.add (m1 0 (widthC c) (Nat.zero_le _) (by omega)))
          exact lx_c2 this (hk2.trans (lx.add hm1)) (by unfold pa; (try dsimp only); omega) (by unfold pa; (try dsimp only); omega)
        · exact lx_c2 this hm1 (by unfold pa; (try dsimp only); omega) (by unfold pa; (try dsimp only); omega)
    · obtain ⟨⟨u, v⟩, hm, hu, hg⟩ := h.high
      have hu' : u ≤ n - 1 := hu.resolve_right (by omega)
      rw [hrest, hws, gc] at hg
      dsimp only at hg
      have fin : ∀ (f : Nat × Nat) (e : Nat × (Nat × Nat)), f ∈ formsAt x k → e ∈ stepsOf n u v f → e.1 ≤ n - 1 → lx (pa e.2 (gc n (blLast x) (w' :: ws) e.1)) (bestG n x) → ∃ e ∈ turnW n (formsAt x k) W, (e.1 ≤ n - 1 ∨ k + 1 = x.length) ∧ lx (pa e.2 (gc n (blLast x) (restW x (k + 1)) e.1)) (bestG n x) := fun f e hf he h1 hle => by
        obtain ⟨v', hv', hl'⟩ := f2 e (.inr (List.mem_flatMap.mpr ⟨(u, v), hm, List.mem_flatMap.mpr ⟨f, hf, he⟩⟩))
        refine ⟨_, hv', .inl h1, ?_⟩
        rw [hws]
        exact (lx.addr hl').trans hle
      have hwf : (widthC c, 0) ∈ formsAt x k := by
        rw [hF]
        unfold widthC
        split
        · exact .tail _ (.head _)
        · exact .head _
      split at hg
      · refine fin _ _ hwf (mem_steps.mpr (.inl ⟨by dsimp only; omega, rfl⟩)) (by dsimp only; assumption) ?_
        first | exact lx_dn hg (by unfold pa; (try dsimp only); omega) (by unfold pa; (try dsimp only); omega) | (unfold lx at hg ⊢; (try unfold pa at hg); (try unfold pa); (try dsimp only at hg); (try dsimp only); omega)
      · refine fin _ _ hwf (mem_steps.mpr (.inr ⟨by omega, rfl⟩)) (by (try dsimp only); omega) ?_
        first | exact lx_dn hg (by unfold pa; (try dsimp only); omega) (by unfold pa; (try dsimp only); omega) | (unfold lx at hg ⊢; (try unfold pa at hg); (try unfold pa); (try dsimp only at hg); (try dsimp only); omega)
theorem tab_at {n : Nat} (hn : 4 ≤ n) (x : List Nat) : ∀ k, k ≤ x.length → TabOk n x k (waysAt n x k)
  | 0, _ => by
    refine ⟨by unfold KeysOk waysAt; simp, fun e he => ?_, ⟨_, .head _, .inl (by (try dsimp only); omega), .refl _⟩⟩
    rw [List.mem_singleton.mp he]
    exact ⟨Nat.zero_le _, fun _ => .refl _⟩
  | k + 1, hk => tab_step hn (by omega) (tab_at hn x k (by omega))
/-- the least entry at the end is the greedy's -/
theorem tab_end {n : Nat} (hn : 4 ≤ n) (x : List Nat) {v : Nat × Nat} (hv : ∃ u, (u, v) ∈ waysAt n x x.length) (hmin : ∀ e ∈ waysAt n x x.length, lx v e.2) : v = bestG n x := by
  have h := tab_at hn x x.length (Nat.le_refl _)
  have hr0 : restW x x.length = [] := by unfold restW; rw [List.drop_length]; rfl
  obtain ⟨u, hu⟩ := hv
  have h1 := (h.low _ hu).2 (.inr rfl)
  obtain ⟨e, he, _, h2⟩ := h.high
  have h3 := hmin e he
  rw [hr0, gc] at h1 h2
  refine lx.antisymm (h3.trans ?_) ?_
  · unfold lx pa at *; dsimp only at *; omega
  · unfold lx pa at *; dsimp only at *; omega
end Mine
end
section
set_option maxRecDepth 100000
set_option maxHeartbeats 1000000
set_option linter.unusedVariables false
namespace Mine
open PySem PySem.W PySem.Calls PyProof.Rows
/-- a pair of ints as a tuple in the heap -/
def IsP (h : Heap) (a : Addr) (p : Nat × Nat) : Prop := ∃ o n t u, h.get? a = some o ∧ o.cls = .type "tuple" ∧ o.data = .seq #[.int (p.1 : Int) t, .int (p.2 : Int) u] n
theorem IsP.typeIs {s : Shared} {a : Addr} {p : Nat × Nat} (h : IsP s.heap a p) : s.TypeIs (.ref a) "tuple" := let ⟨o, _, _, _, ho, hc, _⟩ := h; ⟨o, ho, hc⟩
theorem IsP.keep {h h' : Heap} {a : Addr} {p : Nat × Nat} (x : IsP h a p) (k : ∀ o, h.get? a = some o → h'.get? a = some o) : IsP h' a p := let ⟨o, n, t, u, ho, r⟩ := x; ⟨o, n, t, u, k o ho, r⟩
section
variable {prog : Program} {w : World} {A : Around} {E : Value → Shared → Prop} {s : Shared}
theorem tuple_lt_tree {a b : Addr} {p q : Nat × Nat} {P : PySem.Fin → Shared → Prop} (hx : IsP s.heap a p) (hy : IsP s.heap b q) (h : P (.done (.ret (.bool (ltW p q)))) s) :
    wpAny (model prog w) A (Builtin.«tuple.__lt__» ⟨[.ref a, .ref b], []⟩) P E s := by
  have hTb := hy.typeIs
  obtain ⟨oa, na, t1, t2, hoa, _, hda⟩ := hx
  obtain ⟨ob, nb, u1, u2, hob, _, hdb⟩ := hy
  show wpAny _ _ (isInstance (.ref b) (.type "tuple") >>= _) _ _ s
  refine wpAny_bind (wpAny_isInstance hTb isSubtype_tuple_tuple ?_)
  simp only [Bool.not_true, Bool.false_eq_true, if_false]
  refine wpAny_bind (wpAny_tupleItemsOf hoa hda ?_)
  refine wpAny_bind (wpAny_tupleItemsOf hob hdb ?_)
  refine wpAny_bind ?_
  show wpAny _ _ (forIn [(Value.int (p.1 : Int) t1, Value.int (q.1 : Int) u1), (Value.int (p.2 : Int) t2, Value.int (q.2 : Int) u2)] _ _) _ _ s
  rw [List.forIn_cons]
  refine wpAny_bind (wpAny_bind (wpAny_eqBool_int ?_))
  by_cases h1 : p.1 = q.1
  · have e1 : ((p.1 : Int) == (q.1 : Int)) = true := by simp [h1]
    rw [e1]
    simp only [Bool.not_true, Bool.false_eq_true, if_false]
    refine wpAny_pure ?_
    dsimp only
    rw [List.forIn_cons]
    refine wpAny_bind (wpAny_bind (wpAny_eqBool_int ?_))
    by_cases h2 : p.2 = q.2
    · have e2 : ((p.2 : Int) == (q.2 : Int)) = true := by simp [h2]
      rw [e2]
      simp only [Bool.not_true, Bool.false_eq_true, if_false]
      refine wpAny_pure ?_
      dsimp only
      rw [List.forIn_nil]
      refine wpAny_pure ?_
      dsimp only
      refine wpAny_pure ?_
      have : ltW p q = false := by unfold ltW; simp [h1, h2]
      rw [this] at h
      exact h
    · have e2 : ((p.2 : Int) == (q.2 : Int)) = false := by simp; omega
      rw [e2]
      simp only [Bool.not_false, if_true]
      refine wpAny_bind (wpAny_rule (wpAny_bind ?_))
      show wpAny _ _ (richCompare .Lt _ _) _ _ s
      refine wpAny_lt_int (wpAny_pure (wpAny_pure (wpAny_pure ?_)))
      have : ltW p q = decide ((p.2 : Int) < (q.2 : Int)) := by
        unfold ltW; simp [h1]
      rw [this] at h
      exact h
  · have e1 : ((p.1 : Int) == (q.1 : Int)) = false := by simp; omega
    rw [e1]
    simp only [Bool.not_false, if_true]
    refine wpAny_bind (wpAny_rule (wpAny_bind ?_))
    show wpAny _ _ (richCompare .Lt _ _) _ _ s
    refine wpAny_lt_int (wpAny_pure (wpAny_pure (wpAny_pure ?_)))
    have : ltW p q = decide ((p.1 : Int) < (q.1 : Int)) := by
      unfold ltW; simp [h1]
    rw [this] at h
    exact h
theorem tuple_lt {a b : Addr} {p q : Nat × Nat} {Q : Value → Shared → Prop} (hu : A.units < cLine) (hx : IsP s.heap a p) (hy : IsP s.heap b q) (h : Q (.bool (ltW p q)) s) :
    wpAny (model prog w) A (richCompare .Lt (.ref a) (.ref b)) Q E s :=
  wpAny_richCompare_same_room (op := .Lt) hx.typeIs hy.typeIs F.slot_tuple_lt
    (wpAny_call_entry F.slot_tuple_lt hx.typeIs F.entry_tuple_lt (tuple_lt_tree hx hy ⟨_, rfl, (fun e => nomatch e), h⟩) (F.args_tuple_lt_2 _ _)) hu
end
end Mine
end
section
set_option maxRecDepth 100000
set_option maxHeartbeats 1000000
set_option linter.unusedVariables false
namespace Mine
open PySem PySem.W PySem.Calls PyProof.Rows
/-- the place of the first least among the first k + 1 -/
noncomputable def bestAt (bt : Nat → Nat → Bool) : Nat → Nat
  | 0 => 0
  | k + 1 => if bt (k + 1) (bestAt bt k) then k + 1 else bestAt bt k
theorem bestAt_le (bt : Nat → Nat → Bool) : ∀ k, bestAt bt k ≤ k
  | 0 => Nat.le_refl _
  | k + 1 => by
    have := bestAt_le bt k
    unfold bestAt
    split <;> omega
/-- the heap lets any two items be compared -/
def CmpH (prog : Program) (w : World) (A : Around) (H : Heap → Prop) (P : Nat → Value → Prop) (bt : Nat → Nat → Bool) : Prop :=
  ∀ i j vi vj (s : Shared) (Q : Value → Shared → Prop) (E : Value → Shared → Prop), H s.heap → P i vi → P j vj → Q (.bool (bt i j)) s → wpAny (model prog w) A (richCompare .Lt vi vj) Q E s
section
variable {prog : Program} {w : World} {A : Around} {R : Result → Shared → Prop} {I : Addr} {fp wr : List Addr} {n : Nat} {P : Nat → Value → Prop} {St : Nat → Heap → Prop} {H : Heap → Prop}
theorem loopH (W : Walks prog w A.in1 I fp wr n P St) (bt : Nat → Nat → Bool) (hcmp : CmpH prog w A.in1 H P bt) (S : Addr) (hSf : S ∉ fp)
    (hH : ∀ h h' : Heap, H h → (∀ b o, b ∉ wr → b ≠ S → h.get? b = some o → h'.get? b = some o) → H h') :
    ∀ (k j : Nat) (s : Shared) (vb : Value) (c : Nat), j + 1 + k = n → St (j + 1) s.heap → P (bestAt bt j) vb → H s.heap →
    s.heap.get? S = some { cls := .type "list", dict := none, data := .seq #[vb, vb] c, slots := #[] } →
    (∀ v h' tk, P (bestAt bt (n - 1)) v → (∀ b o, b ∉ wr → b ≠ S → s.heap.get? b = some o → h'.get? b = some o) → R (.ok (.ret v)) { s with heap := h', toks := tk }) →
    codeAny (model prog w) A (.builtin "min.loop" ⟨[.ref I, .none, .ref S], []⟩) R s := by
  have hSw : S ∉ wr := fun h => hSf (W.sub _ h)
  have hname : (toString "min" ++ toString ".loop" : String) = "min.loop" := by decide
  intro k
  induction k with
  | zero =>
    intro j s vb c hk hst hPb hHs hS hR
    obtain rfl : j + 1 = n := by omega
    refine codeAny_builtin F.entry_min_loop ?_
    rw [Around.under_plainId F.plain_min_loop _]
    show wpAny _ A.in1 (seqItems? (.ref S) >>= _) _ _ s
    refine wpAny_bind (wpAny_seqItems hS rfl ?_)
    show wpAny _ A.in1 (tryCatch (pyNext (.ref I)) _ >>= _) _ _ s
    refine wpAny_bind (wpAny_tryCatch (W.done s _ _ hst fun h' tk hk' => ?_))
    have hS' := hk' S _ hSw hS
    show wpAny _ A.in1 (updateSeq S (fun _ => #[]) >>= _) _ _ _
    refine wpAny_bind (wpAny_updateSeq hS' rfl (wpAny_bind (wpAny_letGo (wpAny_pure ?_))))
    exact hR vb _ tk hPb fun b o hbw hbS e => (Heap.get?_update_other _ _ (Ne.symm hbS)).trans (hk' b o hbw e)
  | succ k ih =>
    intro j s vb c hk hst hPb hHs hS hR
    refine codeAny_builtin F.entry_min_loop ?_
    rw [Around.under_plainId F.plain_min_loop _]
    show wpAny _ A.in1 (seqItems? (.ref S) >>= _) _ _ s
    refine wpAny_bind (wpAny_seqItems hS rfl ?_)
    show wpAny _ A.in1 (tryCatch (pyNext (.ref I)) _ >>= _) _ _ s
    refine wpAny_bind (wpAny_tryCatch (W.item (j + 1) s _ _ (by omega) hst fun v h' tk hP hst' hk' => ?_))
    have hS' := hk' S _ hSw hS
    have hH' : H h' := hH _ _ hHs fun b o hb _ e => hk' b o hb e
    show wpAny _ A.in1 (tryCatch (holding [v, v] (richCompare .Lt v vb >>= _)) _ >>= _) _ _ _
    refine wpAny_bind (wpAny_tryCatch (wpAny_holding (wpAny_bind (hcmp (j + 1) (bestAt bt j) v vb _ _ _ hH' hP hPb ?_))))
    refine wpAny_bind (wpAny_holding (wpAny_truthy_bool (wpAny_bind (wpAny_letGo (wpAny_pure ?_)))))
    have hbs : bestAt bt (j + 1) = if bt (j + 1) (bestAt bt j) then j + 1 else bestAt bt j := rfl
    cases hb : bt (j + 1) (bestAt bt j) with
    | true =>
      rw [hb] at hbs
      simp only [if_true] at hbs ⊢
      refine wpAny_bind (wpAny_updateSeq hS' rfl (wpAny_bind (wpAny_letGo ?_)))
      rw [hname]
      have ko : ∀ b o, b ≠ S → h'.get? b = some o → (h'.update S (Obj.mapSeq fun _ => #[v, v])).get? b = some o := fun b o hbS e => (Heap.get?_update_other _ _ (Ne.symm hbS)).trans e
      refine wpAny_pure ⟨plainId_quiet F.plain_min_loop _, ih (j + 1) _ v _ (by omega) (W.frame _ _ _ hst' fun b hbf o e => ?_) (by rw [hbs]; exact hP) (hH _ _ hH' fun b o _ hbS e => ?_) (Heap.get?_update_self _ hS' rfl) fun v' h'' tk'' hP' hk'' => ?_⟩
      · exact (Heap.get?_update_other _ _ (fun h : S = b => hSf (by rw [h]; exact hbf))).trans e
      · exact (Heap.get?_update_other _ _ (Ne.symm hbS)).trans e
      · exact hR v' h'' tk'' hP' fun b o hbw hbS e => hk'' b o hbw hbS ((Heap.get?_update_other _ _ (Ne.symm hbS)).trans (hk' b o hbw e))
    | false =>
      rw [hb] at hbs
      simp only [Bool.false_eq_true, if_false] at hbs ⊢
      refine wpAny_bind (wpAny_letGo ?_)
      rw [hname]
      refine wpAny_pure ⟨plainId_quiet F.plain_min_loop _, ih (j + 1) _ vb c (by omega) hst' (by rw [hbs]; exact hPb) hH' hS' fun v' h'' tk'' hP' hk'' => ?_⟩
      exact hR v' h'' tk'' hP' fun b o hbw hbS e => hk'' b o hbw hbS (hk' b o hbw e)
theorem loopH_first (W : Walks prog w A.in1 I fp wr n P St) (bt : Nat → Nat → Bool) (hcmp : CmpH prog w A.in1 H P bt) (S : Addr) (hSf : S ∉ fp) (hn : 0 < n)
    (hH : ∀ h h' : Heap, H h → (∀ b o, b ∉ wr → b ≠ S → h.get? b = some o → h'.get? b = some o) → H h') {s : Shared} {c : Nat} (hst : St 0 s.heap) (hHs : H s.heap)
    (hS : s.heap.get? S = some { cls := .type "list", dict := none, data := .seq #[] c, slots := #[] })
    (hR : ∀ v h' tk, P (bestAt bt (n - 1)) v → (∀ b o, b ∉ wr → b ≠ S → s.heap.get? b = some o → h'.get? b = some o) → R (.ok (.ret v)) { s with heap := h', toks := tk }) :
    codeAny (model prog w) A (.builtin "min.loop" ⟨[.ref I, .none, .ref S], []⟩) R s := by
  have hSw : S ∉ wr := fun h => hSf (W.sub _ h)
  have hname : (toString "min" ++ toString ".loop" : String) = "min.loop" := by decide
  refine codeAny_builtin F.entry_min_loop ?_
  rw [Around.under_plainId F.plain_min_loop _]
  show wpAny _ A.in1 (seqItems? (.ref S) >>= _) _ _ s
  refine wpAny_bind (wpAny_seqItems hS rfl ?_)
  show wpAny _ A.in1 (tryCatch (pyNext (.ref I)) _ >>= _) _ _ s
  refine wpAny_bind (wpAny_tryCatch (W.item 0 s _ _ hn hst fun v h' tk hP hst' hk' => ?_))
  have hS' := hk' S _ hSw hS
  have hH' : H h' := hH _ _ hHs fun b o hb _ e => hk' b o hb e
  show wpAny _ A.in1 (updateSeq S (fun _ => #[v, v]) >>= _) _ _ _
  refine wpAny_bind (wpAny_updateSeq hS' rfl ?_)
  rw [hname]
  refine wpAny_pure ⟨plainId_quiet F.plain_min_loop _, loopH W bt hcmp S hSf hH (n - 1) 0 _ v _ (by omega) (W.frame _ _ _ hst' fun b hbf o e => ?_) hP (hH _ _ hH' fun b o _ hbS e => ?_) (Heap.get?_update_self _ hS' rfl) fun v' h'' tk'' hP' hk'' => ?_⟩
  · exact (Heap.get?_update_other _ _ (fun h : S = b => hSf (by rw [h]; exact hbf))).trans e
  · exact (Heap.get?_update_other _ _ (Ne.symm hbS)).trans e
  · exact hR v' h'' tk'' hP' fun b o hbw hbS e => hk'' b o hbw hbS ((Heap.get?_update_other _ _ (Ne.symm hbS)).trans (hk' b o hbw e))
end
section
variable {prog : Program} {w : World} {A : Around} {E : Value → Shared → Prop} {s : Shared}
/-- min of a list of pairs that stands in the heap -/
theorem min_pairs {l : Addr} {vs : List Value} {ps : List (Nat × Nat)} {Q : Value → Shared → Prop} (hh : A.handled = none) (hu : A.units + 1 < cLine) (hl : s.heap.IsList l vs.toArray) (hlen : vs.length = ps.length) (hne : 0 < ps.length)
    (hv : ∀ (i : Nat) (v : Value), vs[i]? = some v → ∃ a p, v = .ref a ∧ ps[i]? = some p ∧ IsP s.heap a p)
    (h : ∀ i v h' tk, i < ps.length → vs[i]? = some v → i = bestAt (fun i j => ltW (ps.getD i (0, 0)) (ps.getD j (0, 0))) (ps.length - 1) → (∀ b o, s.heap.get? b = some o → h'.get? b = some o) → Q v { s with heap := h', toks := tk }) :
    wpAny (model prog w) A (call (.builtin "min") [.ref l]) Q E s := by
  have hname : (toString "min" ++ toString ".loop" : String) = "min.loop" := by decide
  refine call_function_tree F.kind_min F.plain_min F.entry_min (F.args_min1 _) ?_
  show wpAny _ A.in1 (Builtin.Builtins.bindParams "min" ["key", "default"] 0 ⟨[], []⟩ >>= _) _ _ s
  refine wpAny_bind (wpAny_of_eq (show Builtin.Builtins.bindParams "min" ["key", "default"] 0 ⟨[], []⟩ = pure [none, none] from rfl) ?_)
  refine wpAny_bind (wpAny_pure ?_)
  obtain ⟨ol, hol, _⟩ := id hl
  have hlne : l ≠ s.heap.objs.size := Nat.ne_of_lt (Heap.lt_size hol)
  refine wpAny_bind (wpAny_pyIter_list hl ?_)
  refine wpAny_bind (wpAny_newObj_type ?_)
  rw [hname]
  have W := Walks.list (prog := prog) (w := w) (A := A.in1) hh s.heap.objs.size l hlne vs.toArray
  have hsz : vs.toArray.size = vs.length := by simp
  rw [hsz] at W
  refine wpAny_pure ⟨plainId_quiet F.plain_min_loop _, loopH_first (n := vs.length) (H := fun h => ∀ b o, s.heap.get? b = some o → h.get? b = some o) W (fun i j => ltW (ps.getD i (0, 0)) (ps.getD j (0, 0))) ?_ (s.heap.push _).objs.size ?_ (by omega) ?_ ?_ ?_ (Heap.get?_push_size _ rfl) ?_⟩
  · intro i j vi vj s' Q' E' hH hi hj hq
    obtain ⟨a, p, rfl, hp, hP⟩ := hv i vi (by simpa using hi)
    obtain ⟨b, q, rfl, hq', hP'⟩ := hv j vj (by simpa using hj)
    have ei : ps.getD i (0, 0) = p := by rw [List.getD_eq_getElem?_getD, hp]; rfl
    have ej : ps.getD j (0, 0) = q := by rw [List.getD_eq_getElem?_getD, hq']; rfl
    dsimp only at hq
    rw [ei, ej] at hq
    exact tuple_lt hu (hP.keep fun o e => hH _ o e) (hP'.keep fun o e => hH _ o e) hq
  · intro q
    rw [Heap.size_push] at q
    rcases List.mem_cons.mp q with q | q
    · exact absurd q (Nat.succ_ne_self _)
    · have h1 := Heap.lt_size hol
      rw [← List.mem_singleton.mp q] at h1
      exact absurd (Nat.lt_trans (Nat.lt_succ_self _) h1) (Nat.lt_irrefl _)
  · intro h h' hH hk b o e
    have := Heap.lt_size e
    refine hk b o (fun q => ?_) (by rw [Heap.size_push]; exact Nat.ne_of_lt (Nat.lt_succ_of_lt this)) (hH b o e)
    rw [List.mem_singleton.mp q] at this; exact Nat.lt_irrefl _ this
  · refine ⟨⟨_, Heap.get?_push_of_some _ (Heap.get?_push_size _ rfl), rfl, rfl⟩, hl.at fun o e => Heap.get?_push_of_some _ (Heap.get?_push_of_some _ e)⟩
  · intro b o e
    exact Heap.get?_push_of_some _ (Heap.get?_push_of_some _ e)
  · intro v h' tk hP hk
    have hb := bestAt_le (fun i j => ltW (ps.getD i (0, 0)) (ps.getD j (0, 0))) (vs.length - 1)
    refine h (bestAt (fun i j => ltW (ps.getD i (0, 0)) (ps.getD j (0, 0))) (vs.length - 1)) v h' tk ?_ (by simpa using hP) (by rw [hlen]) (fun b o e => ?_)
    · omega
    · have := Heap.lt_size e
      refine hk b o (fun q => ?_) (by rw [Heap.size_push]; exact Nat.ne_of_lt (Nat.lt_succ_of_lt this)) (Heap.get?_push_of_some _ (Heap.get?_push_of_some _ e))
      rw [List.mem_singleton.mp q] at this; exact Nat.lt_irrefl _ this
/-- min of two pairs -/
theorem min_two_pairs {a b : Addr} {p q : Nat × Nat} {Q : Value → Shared → Prop} (hh : A.handled = none) (hu : A.units + 1 < cLine) (hx : IsP s.heap a p) (hy : IsP s.heap b q)
    (h : ∀ h' tk, (∀ b o, s.heap.get? b = some o → h'.get? b = some o) → Q (.ref (if ltW q p then b else a)) { s with heap := h', toks := tk }) :
    wpAny (model prog w) A (call (.builtin "min") [.ref a, .ref b]) Q E s := by
  have hname : (toString "min" ++ toString ".loop" : String) = "min.loop" := by decide
  refine call_function_tree F.kind_min F.plain_min F.entry_min (F.args_min2 _ _) ?_
  show wpAny _ A.in1 (Builtin.Builtins.bindParams "min" ["key", "default"] 0 ⟨[], []⟩ >>= _) _ _ s
  refine wpAny_bind (wpAny_of_eq (show Builtin.Builtins.bindParams "min" ["key", "default"] 0 ⟨[], []⟩ = pure [none, none] from rfl) ?_)
  show wpAny _ A.in1 (newTuple [.ref a, .ref b] >>= _) _ _ s
  refine wpAny_bind (wpAny_newObj_type ?_)
  have ht : (s.heap.push { cls := .type "tuple", data := .seq #[.ref a, .ref b] }).get? s.heap.objs.size = some { cls := .type "tuple", data := .seq #[.ref a, .ref b] } := Heap.get?_push_size _ rfl
  refine wpAny_bind (wpAny_pyIter_tuple (t := s.heap.objs.size) (items := #[.ref a, .ref b]) ⟨_, ht, rfl, _, rfl⟩ ?_)
  refine wpAny_bind (wpAny_newObj_type ?_)
  rw [hname]
  have hne : s.heap.objs.size ≠ (s.heap.push { cls := .type "tuple", data := .seq #[.ref a, .ref b] }).objs.size := by rw [Heap.size_push]; exact Nat.ne_of_lt (Nat.lt_succ_self _)
  have W := Walks.tuple (prog := prog) (w := w) (A := A.in1) hh (s.heap.push { cls := .type "tuple", data := .seq #[.ref a, .ref b] }).objs.size s.heap.objs.size hne #[.ref a, .ref b]
  have hP : ∀ (i : Nat) (v : Value), (#[Value.ref a, .ref b] : Array Value)[i]? = some v → (i = 0 ∧ v = .ref a) ∨ (i = 1 ∧ v = .ref b) := fun i v hv => by
    match i, hv with
    | 0, hv => exact .inl ⟨rfl, (Option.some.inj hv).symm⟩
    | 1, hv => exact .inr ⟨rfl, (Option.some.inj hv).symm⟩
    | i + 2, hv => simp at hv
  have hcmp : CmpH prog w A.in1 (fun h => ∀ b o, s.heap.get? b = some o → h.get? b = some o) (fun i v => (#[Value.ref a, .ref b] : Array Value)[i]? = some v) (fun i j => ltW (if i = 0 then p else q) (if j = 0 then p else q)) := by
    intro i j vi vj s' Q' E' hH hi hj hq
    dsimp only at hq
    rcases hP i vi hi with ⟨rfl, rfl⟩ | ⟨rfl, rfl⟩ <;> rcases hP j vj hj with ⟨rfl, rfl⟩ | ⟨rfl, rfl⟩
    · exact tuple_lt hu (hx.keep fun o e => hH _ o e) (hx.keep fun o e => hH _ o e) hq
    · exact tuple_lt hu (hx.keep fun o e => hH _ o e) (hy.keep fun o e => hH _ o e) hq
    · exact tuple_lt hu (hy.keep fun o e => hH _ o e) (hx.keep fun o e => hH _ o e) hq
    · exact tuple_lt hu (hy.keep fun o e => hH _ o e) (hy.keep fun o e => hH _ o e) hq
  refine wpAny_pure ⟨plainId_quiet F.plain_min_loop _, loopH_first (n := 2) (H := fun h => ∀ b o, s.heap.get? b = some o → h.get? b = some o) W _ hcmp _ ?_ (by decide) ?_ ?_ ?_ (Heap.get?_push_size _ rfl) ?_⟩
  · intro m
    dsimp only at m
    simp only [Heap.size_push, List.mem_cons, List.not_mem_nil, or_false] at m
    rcases m with m | m
    · exact absurd m (Nat.succ_ne_self _)
    · exact absurd m (Nat.ne_of_gt (Nat.lt_trans (Nat.lt_succ_self _) (Nat.lt_succ_self _)))
  · intro h h' hH hk b o e
    have := Heap.lt_size e
    refine hk b o (fun q => ?_) (by rw [Heap.size_push, Heap.size_push]; exact Nat.ne_of_lt (Nat.lt_trans this (Nat.lt_trans (Nat.lt_succ_self _) (Nat.lt_succ_self _)))) (hH b o e)
    rw [List.mem_singleton.mp q, Heap.size_push] at this; exact absurd (Nat.lt_trans (Nat.lt_succ_self _) this) (Nat.lt_irrefl _)
  · exact ⟨⟨_, Heap.get?_push_of_some _ (Heap.get?_push_size _ rfl), rfl, rfl⟩, ⟨_, Heap.get?_push_of_some _ (Heap.get?_push_of_some _ ht), rfl, _, rfl⟩⟩
  · intro b o e
    exact Heap.get?_push_of_some _ (Heap.get?_push_of_some _ (Heap.get?_push_of_some _ e))
  · intro v h' tk hv hk
    have hbv : v = .ref (if ltW q p then b else a) := by
      have e : bestAt (fun i j => ltW (if i = 0 then p else q) (if j = 0 then p else q)) (2 - 1) = if ltW q p then 1 else 0 := rfl
      rw [e] at hv
      by_cases hq : ltW q p = true
      · rw [if_pos hq] at hv ⊢
        rcases hP _ v hv with ⟨q', _⟩ | ⟨_, rfl⟩
        · cases q'
        · rfl
      · rw [if_neg hq] at hv ⊢
        rcases hP _ v hv with ⟨_, rfl⟩ | ⟨q', _⟩
        · rfl
        · cases q'
    subst hbv
    refine h h' tk fun b o e => ?_
    have := Heap.lt_size e
    refine hk b o (fun q => ?_) (by rw [Heap.size_push, Heap.size_push]; exact Nat.ne_of_lt (Nat.lt_trans this (Nat.lt_trans (Nat.lt_succ_self _) (Nat.lt_succ_self _)))) (Heap.get?_push_of_some _ (Heap.get?_push_of_some _ (Heap.get?_push_of_some _ e)))
    rw [List.mem_singleton.mp q, Heap.size_push] at this; exact absurd (Nat.lt_trans (Nat.lt_succ_self _) this) (Nat.lt_irrefl _)
end
theorem bestAt_min (ps : List (Nat × Nat)) : ∀ k j, j ≤ k → lx (ps.getD (bestAt (fun i j => ltW (ps.getD i (0, 0)) (ps.getD j (0, 0))) k) (0, 0)) (ps.getD j (0, 0))
  | 0, j, hj => by
    obtain rfl : j = 0 := by omega
    exact .refl _
  | k + 1, j, hj => by
    have ih := bestAt_min ps k
    unfold bestAt
    by_cases h : ltW (ps.getD (k + 1) (0, 0)) (ps.getD (bestAt (fun i j => ltW (ps.getD i (0, 0)) (ps.getD j (0, 0))) k) (0, 0)) = true
    · rw [if_pos h]
      rw [ltW_iff] at h
      by_cases hq : j = k + 1
      · subst hq; exact .refl _
      · exact ((lx.total _ _).resolve_right h).trans (ih j (by omega))
    · rw [if_neg h]
      rw [ltW_iff, Classical.not_not] at h
      by_cases hq : j = k + 1
      · subst hq; exact h
      · exact ih j (by omega)
end Mine
end
section
set_option maxRecDepth 100000
set_option maxHeartbeats 1000000
set_option linter.unusedVariables false
namespace Mine
open PySem PySem.W PySem.Calls PyProof.Rows
/-- no iterator -/
def NI (o : Obj) : Prop := ∀ vs, o.data ≠ .fields vs
/-- what is left behind a turn of a for whose objects may grow in number -/
def TurnG (h₀ : Heap) (L : Addr) (J : (Str → Option Value) → List (Addr × Obj) → Prop) (own old : List (Addr × Obj)) (s₁ : Shared) (Q : Flow → Shared → Prop) (f : Flow) (s' : Shared) : Prop :=
  match f with
  | .ret v => Q (.ret v) s'
  | .brk => Q .next s'
  | _ => ∃ h' tk m' news', s' = { s₁ with heap := h', toks := tk } ∧ Fr h₀ L h' m' ∧ News h₀ L h' (news' ++ own) ∧ (∀ p ∈ news', (∃ q ∈ old, q.1 = p.1) ∨ NI p.2) ∧ J m' news'
section
variable {prog : Program} {w : World} {A : Around} {E : Value → Shared → Prop} {s : Shared} {env : Env} {h₀ : Heap} {target : PySem.Expr} {body : List Stmt} {Q : Flow → Shared → Prop}
theorem forG {I : Addr} {fp wr : List Addr} {n : Nat} {P : Nat → Value → Prop} {St : Nat → Heap → Prop} {m₀ : Str → Option Value} {news : List (Addr × Obj)} (W : Walks prog w A I fp wr n P St)
    (hthere : ∀ i h, St i h → ∀ b ∈ wr, ∃ o vs, h.get? b = some o ∧ o.data = .fields vs) (hLf : env.locals ∉ fp) (hwr : ∀ b ∈ wr, h₀.get? b = none) (hnw : ∀ p ∈ news, p.1 ∉ wr) (hst : St 0 s.heap) (F : Fr h₀ env.locals s.heap m₀) (N : News h₀ env.locals s.heap news)
    (J : Nat → (Str → Option Value) → List (Addr × Obj) → Prop) (h0 : J 0 m₀ news) (hE : PassesOwn (model prog w) A env E) (ht : ∀ i v (s' : Shared) (Q' : Unit → Shared → Prop) (E' : Value → Shared → Prop), P i v → St (i + 1) s'.heap → Q' () s' → wpAny (model prog w) A (letOwnedTupleGo target (.ref I) v) Q' E' s')
    (turn : ∀ i v m₁ news₁ s₁ own, (∃ h tk, s₁ = { s with heap := h, toks := tk }) → i < n → P i v → J i m₁ news₁ → (∀ p ∈ own, p.1 ∈ fp) → (∀ b ∈ fp, h₀.get? b = none → ∀ o, s₁.heap.get? b = some o → (b, o) ∈ own) → Fr h₀ env.locals s₁.heap m₁ → News h₀ env.locals s₁.heap (news₁ ++ own) →
      wpAny (model prog w) A (assign target env v) (fun _ s₂ => wpAny (model prog w) A (execs body env) (TurnG h₀ env.locals (J (i + 1)) own news₁ s₁ Q) E s₂) E s₁)
    (done : ∀ m₁ news₁ h tk, J n m₁ news₁ → Fr h₀ env.locals h m₁ → News h₀ env.locals h news₁ → Q .next { s with heap := h, toks := tk }) :
    codeAny (model prog w) A (.forLoop target (.ref I) body [] env) (fun r s' => match r with | .ok f => Q f s' | .error e => cameBackBy (model prog w) A env E e s') s := by
  have hLw : env.locals ∉ wr := fun h => hLf (W.sub _ h)
  have old : ∀ b o, h₀.get? b = some o → b ∉ wr := fun b o e hb => by rw [hwr b hb] at e; cases e
  refine codeAny_forLoop_any
    (fun k s' => ∃ h' tk m' news' i, s' = { s with heap := h', toks := tk } ∧ St i h' ∧ Fr h₀ env.locals h' m' ∧ News h₀ env.locals h' news' ∧ (∀ p ∈ news', p.1 ∉ wr) ∧ J i m' news' ∧ i ≤ n ∧ k = n + 1 - i) ?_ (n + 1)
    ⟨s.heap, s.toks, m₀, news, 0, rfl, hst, F, N, hnw, h0, Nat.zero_le _, rfl⟩
  rintro k s' ⟨h', tk, m', news', i, rfl, hst', F', N', hnw', hJ, hi, rfl⟩
  have next : ∀ h₁ : Heap, (∀ b o, b ∉ wr → h'.get? b = some o → h₁.get? b = some o) → Fr h₀ env.locals h₁ m' ∧ News h₀ env.locals h₁ news' := fun h₁ hk₁ =>
    ⟨⟨F'.ns.at' fun o e => hk₁ _ o hLw e, fun b o e => hk₁ b o (old b o e) (F'.keep b o e), F'.above⟩, fun p hp => ⟨hk₁ _ _ (hnw' p hp) (N' p hp).1, (N' p hp).2⟩⟩
  by_cases hlt : i < n
  · refine W.item i _ _ _ hlt hst' fun v h₁ tk₁ hP hst₁ hk₁ => ?_
    obtain ⟨F₁, N₁⟩ := next h₁ hk₁
    have Nown : News h₀ env.locals h₁ (ownOf h₀ fp h₁) := news_ownOf hLf
    have hback : ∀ h₃ : Heap, (∀ p ∈ ownOf h₀ fp h₁, h₃.get? p.1 = some p.2) → (∀ b o, h₀.get? b = some o → h₃.get? b = some o) → St (i + 1) h₃ := fun h₃ ho hk => by
      refine W.frame _ _ _ hst₁ fun b hb o e => ?_
      cases hn : h₀.get? b with
      | some o₀ =>
        have : o₀ = o := by have := F₁.keep b o₀ hn; rw [e] at this; exact (Option.some.inj this).symm
        exact this ▸ hk b o₀ hn
      | none => exact ho _ (mem_ownOf hb hn e)
    have hoff : ∀ {q : List (Addr × Obj)} {h₃ : Heap}, News h₀ env.locals h₃ (q ++ ownOf h₀ fp h₁) → (∀ p ∈ q, (∃ q ∈ news', q.1 = p.1) ∨ NI p.2) → ∀ p ∈ q, p.1 ∉ wr := fun N₃ h p hp hw => by
      rcases h p hp with ⟨q, hq, e⟩ | e
      · exact hnw' q hq (e ▸ hw)
      · obtain ⟨o, vs, ho, hv⟩ := hthere _ _ hst₁ _ hw
        have hm := mem_ownOf (W.sub _ hw) (hwr _ hw) ho
        have h1 := (N₃ p (List.mem_append_left _ hp)).1
        have h2 := (N₃ _ (List.mem_append_right _ hm)).1
        dsimp only at h2
        rw [h1] at h2
        exact e vs (by rw [Option.some.inj h2]; exact hv)
    have fin : ∀ f s₃, TurnG h₀ env.locals (J (i + 1)) (ownOf h₀ fp h₁) news' { s with heap := h₁, toks := tk₁ } Q f s₃ → (match f with
        | .next | .cont => ∃ m, m < n + 1 - i ∧ ∃ h' tk m' news' i, s₃ = { s with heap := h', toks := tk } ∧ St i h' ∧ Fr h₀ env.locals h' m' ∧ News h₀ env.locals h' news' ∧ (∀ p ∈ news', p.1 ∉ wr) ∧ J i m' news' ∧ i ≤ n ∧ m = n + 1 - i
        | .brk => Q .next s₃
        | .ret v => Q (.ret v) s₃) := fun f s₃ h₃ => by
      cases f with
      | ret v => exact h₃
      | brk => exact h₃
      | cont =>
        obtain ⟨h₄, tk₄, m₂, news₂, rfl, F₃, N₃, ha₃, hJ₃⟩ := h₃
        exact ⟨n + 1 - (i + 1), by omega, h₄, tk₄, m₂, news₂, i + 1, rfl, hback h₄ (fun p hp => (N₃ p (List.mem_append_right _ hp)).1) F₃.keep, F₃, fun p hp => N₃ p (List.mem_append_left _ hp), hoff N₃ ha₃, hJ₃, hlt, rfl⟩
      | next =>
        obtain ⟨h₄, tk₄, m₂, news₂, rfl, F₃, N₃, ha₃, hJ₃⟩ := h₃
        exact ⟨n + 1 - (i + 1), by omega, h₄, tk₄, m₂, news₂, i + 1, rfl, hback h₄ (fun p hp => (N₃ p (List.mem_append_right _ hp)).1) F₃.keep, F₃, fun p hp => N₃ p (List.mem_append_left _ hp), hoff N₃ ha₃, hJ₃, hlt, rfl⟩
    have hturn := turn i v m' news' { s with heap := h₁, toks := tk₁ } (ownOf h₀ fp h₁) ⟨_, _, rfl⟩ hlt hP hJ ownOf_sub (fun b hb hn o e => mem_ownOf hb hn e) F₁ (fun p hp => (List.mem_append.mp hp).elim (N₁ p) (Nown p))
    refine ht i v _ _ _ hP hst₁ ?_
    exact wpAny_passesOwn hE (wpAny_mono hturn (fun _ s₂ h₂ => wpAny_passesOwn hE (wpAny_mono h₂ (fun f s₃ h₃ => fin f s₃ h₃) fun _ _ e => e)) fun _ _ e => e)
  · have hin : i = n := by omega
    subst hin
    refine W.done _ _ _ hst' fun h₁ tk₁ hk₁ => wpAny_execs_nil ?_
    obtain ⟨F₁, N₁⟩ := next h₁ hk₁
    exact done m' news' h₁ tk₁ hJ F₁ N₁
/-- a for over a list in the heap; the target is a name or a tuple of names -/
theorem iterG_list {l : Addr} {vs : List Value} {m₀ : Str → Option Value} {news : List (Addr × Obj)} (J : Nat → (Str → Option Value) → List (Addr × Obj) → Prop) (hh : A.handled = none)
    (hl : s.heap.IsList l vs.toArray) (hlL : l ≠ env.locals) (F : Fr h₀ env.locals s.heap m₀) (N : News h₀ env.locals s.heap news) (h0 : J 0 m₀ news) (hE : PassesOwn (model prog w) A env E)
    (ht : ∀ (a : Addr) (v : Value) (i : Nat) (s' : Shared) (Q' : Unit → Shared → Prop) (E' : Value → Shared → Prop), vs[i]? = some v → s'.heap.IsListIter a l (i + 1) → Q' () s' → wpAny (model prog w) A (letOwnedTupleGo target (.ref a) v) Q' E' s')
    (turn : ∀ i v m₁ news₁ s₁ own, (∃ h tk, s₁ = { s with heap := h, toks := tk }) → vs[i]? = some v → J i m₁ news₁ → (∀ p ∈ own, p.1 = s.heap.objs.size ∨ p.1 = l) → (∀ o, h₀.get? l = none → s₁.heap.get? l = some o → (l, o) ∈ own) → Fr h₀ env.locals s₁.heap m₁ → News h₀ env.locals s₁.heap (news₁ ++ own) →
      wpAny (model prog w) A (assign target env v) (fun _ s₂ => wpAny (model prog w) A (execs body env) (TurnG h₀ env.locals (J (i + 1)) own news₁ s₁ Q) E s₂) E s₁)
    (done : ∀ m₁ news₁ h tk, J vs.length m₁ news₁ → Fr h₀ env.locals h m₁ → News h₀ env.locals h news₁ → Q .next { s with heap := h, toks := tk }) :
    wpAny (model prog w) A (pyIter (.ref l)) (fun it s₂ => codeAny (model prog w) A (.forLoop target it body [] env) (fun r s' => match r with | .ok f => Q f s' | .error e => cameBackBy (model prog w) A env E e s') s₂) E s := by
  obtain ⟨ol, hol, _⟩ := id hl
  have hne : l ≠ s.heap.objs.size := Nat.ne_of_lt (Heap.lt_size hol)
  refine wpAny_pyIter_list hl ?_
  have W := Walks.list (prog := prog) (w := w) hh s.heap.objs.size l hne vs.toArray
  have hsz : vs.toArray.size = vs.length := by simp
  rw [hsz] at W
  refine forG (s := { s with heap := _ }) W (fun i h st b hb => ?_) ?_ ?_ ?_ ⟨⟨_, Heap.get?_push_size _ rfl, rfl, rfl⟩, hl.at fun o e => Heap.get?_push_of_some _ e⟩ (F.push _) (fun p hp => ⟨Heap.get?_push_of_some _ (N p hp).1, (N p hp).2⟩) J h0 hE ?_ ?_ ?_
  · rw [List.mem_singleton.mp hb]; obtain ⟨o, ho, _, hv⟩ := st.1; exact ⟨o, _, ho, hv⟩
  · intro hm
    rcases List.mem_cons.mp hm with e | hm
    · exact absurd F.ns.lt (e ▸ Nat.lt_irrefl _)
    · exact hlL (List.mem_singleton.mp hm).symm
  · intro b hb
    rw [List.mem_singleton.mp hb]
    exact next_is_new F
  · intro p hp hm
    exact absurd (Heap.lt_size (N p hp).1) ((List.mem_singleton.mp hm) ▸ Nat.lt_irrefl _)
  · intro i v s' Q' E' hP st hq
    exact ht _ v i s' Q' E' (by simpa using hP) st.1 hq
  · rintro i v m₁ news₁ s₁ own hs hin hP hJ hown hown2 F₁ N₁
    refine turn i v m₁ news₁ s₁ own hs (by simpa using hP) hJ (fun p hp => ?_) (fun o hn ho => hown2 l (by simp) hn o ho) F₁ N₁
    have := hown p hp
    simpa using this
  · exact done
/-- a for over the keys of a dict in the heap -/
theorem iterG_dict {d : Addr} {K : Type} [DecidableEq K] {knd : KeyKind prog w K} {kvs : List (K × Value)} {x : Str} {px : Pos} {m₀ : Str → Option Value} {news : List (Addr × Obj)} (J : Nat → (Str → Option Value) → List (Addr × Obj) → Prop) (hh : A.handled = none)
    (hd : s.heap.DictOf knd d kvs) (lo : (d == sysModules) = false) (hdL : d ≠ env.locals) (F : Fr h₀ env.locals s.heap m₀) (N : News h₀ env.locals s.heap news) (h0 : J 0 m₀ news) (hE : PassesOwn (model prog w) A env E)
    (turn : ∀ i v k z m₁ news₁ s₁ own, (∃ h tk, s₁ = { s with heap := h, toks := tk }) → kvs[i]? = some (k, z) → knd.is k v = true → J i m₁ news₁ → (∀ p ∈ own, p.1 = s.heap.objs.size ∨ p.1 = d) → (∀ o, h₀.get? d = none → s₁.heap.get? d = some o → (d, o) ∈ own) → Fr h₀ env.locals s₁.heap m₁ → News h₀ env.locals s₁.heap (news₁ ++ own) →
      wpAny (model prog w) A (assign (.Name x px) env v) (fun _ s₂ => wpAny (model prog w) A (execs body env) (TurnG h₀ env.locals (J (i + 1)) own news₁ s₁ Q) E s₂) E s₁)
    (done : ∀ m₁ news₁ h tk, J kvs.length m₁ news₁ → Fr h₀ env.locals h m₁ → News h₀ env.locals h news₁ → Q .next { s with heap := h, toks := tk }) :
    wpAny (model prog w) A (pyIter (.ref d)) (fun it s₂ => codeAny (model prog w) A (.forLoop (.Name x px) it body [] env) (fun r s' => match r with | .ok f => Q f s' | .error e => cameBackBy (model prog w) A env E e s') s₂) E s := by
  obtain ⟨ep, hat⟩ := hd.dictAt
  have hne : d ≠ s.heap.objs.size := Nat.ne_of_lt hat.lt_size
  refine wpAny_pyIter_dict lo hat ?_
  have W := Walks.dictKeys (prog := prog) (w := w) (knd := knd) hh s.heap.objs.size d hne kvs ep
  refine forG (s := { s with heap := _ }) W (fun i h st b hb => ?_) ?_ ?_ ?_ ⟨⟨_, Heap.get?_push_size _ rfl, rfl, rfl⟩, hat.push _⟩ (F.push _) (fun p hp => ⟨Heap.get?_push_of_some _ (N p hp).1, (N p hp).2⟩) J h0 hE ?_ ?_ ?_
  · rw [List.mem_singleton.mp hb]; obtain ⟨o, ho, _, hv⟩ := st.1; exact ⟨o, _, ho, hv⟩
  · intro hm
    rcases List.mem_cons.mp hm with e | hm
    · exact absurd F.ns.lt (e ▸ Nat.lt_irrefl _)
    · exact hdL (List.mem_singleton.mp hm).symm
  · intro b hb
    rw [List.mem_singleton.mp hb]
    exact next_is_new F
  · intro p hp hm
    exact absurd (Heap.lt_size (N p hp).1) ((List.mem_singleton.mp hm) ▸ Nat.lt_irrefl _)
  · intro i v s' Q' E' hP st hq
    exact wpAny_of_eq rfl hq
  · rintro i v m₁ news₁ s₁ own hs hin ⟨k, z, hkz, hkv⟩ hJ hown hown2 F₁ N₁
    refine turn i v k z m₁ news₁ s₁ own hs hkz hkv hJ (fun p hp => ?_) (fun o hn ho => hown2 d (by simp) hn o ho) F₁ N₁
    have := hown p hp
    simpa using this
  · exact done
/-- a for over a range 0, 1, .. in the heap -/
theorem iterG_range {r : Addr} {n : Nat} {t₁ u₁ v₁ : Tok} {x : Str} {px : Pos} {m₀ : Str → Option Value} {news : List (Addr × Obj)} (J : Nat → (Str → Option Value) → List (Addr × Obj) → Prop) (hh : A.handled = none)
    (hr : IsRange s.heap r 0 (n : Int) 1 t₁ u₁ v₁) (hsmall : Builtin.Range.small 0 (n : Int) 1 = true) (hsz : Builtin.Range.rangeSize 0 (n : Int) 1 = (n : Int)) (F : Fr h₀ env.locals s.heap m₀) (N : News h₀ env.locals s.heap news) (h0 : J 0 m₀ news) (hE : PassesOwn (model prog w) A env E)
    (turn : ∀ i t m₁ news₁ s₁ own, (∃ h tk, s₁ = { s with heap := h, toks := tk }) → i < n → J i m₁ news₁ → (∀ p ∈ own, p.1 = s.heap.objs.size) → Fr h₀ env.locals s₁.heap m₁ → News h₀ env.locals s₁.heap (news₁ ++ own) →
      wpAny (model prog w) A (assign (.Name x px) env (.int (i : Int) t)) (fun _ s₂ => wpAny (model prog w) A (execs body env) (TurnG h₀ env.locals (J (i + 1)) own news₁ s₁ Q) E s₂) E s₁)
    (done : ∀ m₁ news₁ h tk, J n m₁ news₁ → Fr h₀ env.locals h m₁ → News h₀ env.locals h news₁ → Q .next { s with heap := h, toks := tk }) :
    wpAny (model prog w) A (pyIter (.ref r)) (fun it s₂ => codeAny (model prog w) A (.forLoop (.Name x px) it body [] env) (fun r s' => match r with | .ok f => Q f s' | .error e => cameBackBy (model prog w) A env E e s') s₂) E s := by
  refine wpAny_pyIter_range hr hsmall ?_
  have W := Walks.range (prog := prog) (w := w) hh s.heap.objs.size 0 1 n
  refine forG (s := { s with heap := _ }) W (fun i h st b hb => ?_) ?_ ?_ ?_ ?_ (F.push _) (fun p hp => ⟨Heap.get?_push_of_some _ (N p hp).1, (N p hp).2⟩) J h0 hE ?_ ?_ ?_
  · rw [List.mem_singleton.mp hb]; exact ⟨_, _, st, rfl⟩
  · intro hm
    exact absurd F.ns.lt ((List.mem_singleton.mp hm) ▸ Nat.lt_irrefl _)
  · intro b hb
    rw [List.mem_singleton.mp hb]
    exact next_is_new F
  · intro p hp hm
    exact absurd (Heap.lt_size (N p hp).1) ((List.mem_singleton.mp hm) ▸ Nat.lt_irrefl _)
  · rw [hsz]
    have e : ((n : Int) - ((0 : Nat) : Int)) = (n : Int) := by omega
    show IsRangeIter _ _ _ _ _
    rw [e]
    exact Heap.get?_push_size _ rfl
  · intro i v s' Q' E' hP st hq
    exact wpAny_of_eq rfl hq
  · rintro i v m₁ news₁ s₁ own hs hin ⟨t, rfl⟩ hJ hown hown2 F₁ N₁
    have e : (0 : Int) + (i : Int) * 1 = (i : Int) := by omega
    rw [e]
    exact turn i t m₁ news₁ s₁ own hs hin hJ (fun p hp => List.mem_singleton.mp (hown p hp)) F₁ N₁
  · exact done
end
end Mine
end
section
set_option maxRecDepth 100000
set_option maxHeartbeats 1000000
namespace Mine
open PySem PySem.W PySem.Calls PyProof.Rows
/-- one turn of the law's greedy lines: what is done, the line that grows, what is left -/
noncomputable def lStep (n : Nat) (st : List (List Nat) × List Nat × Nat) (sg : List Nat) : List (List Nat) × List Nat × Nat :=
  if st.2.1.length + st.2.2 > n ∧ (st.2.1 ++ sg).length > n - 1 then (st.1 ++ [st.2.1 ++ [61]], sg, st.2.2 - sg.length) else (st.1, st.2.1 ++ sg, st.2.2 - sg.length)
noncomputable def octL (c : Nat) : List Nat := encL c
theorem octL_len (c : Nat) : (octL c).length ≤ 3 := encL_len
noncomputable def lTail (x : List Nat) : Nat := match x.getLast? with | some c => if c = 32 ∨ c = 9 then 2 else 0 | none => 0
noncomputable def lenS (sgs : List (List Nat)) : Nat := (sgs.map List.length).sum
theorem sum_mkS (sgs : List (List Nat)) : ((sgs.map mkS).map (·.length)).sum = lenS sgs := by
  unfold lenS; rw [List.map_map]; exact congrArg List.sum (List.map_congr_left fun c _ => mkS_length c)
theorem lenS_oct (x : List Nat) : lenS (x.map octL) ≤ 3 * x.length := by
  unfold lenS
  induction x with
  | nil => exact Nat.le_refl _
  | cons c x ih => have := octL_len c; rw [List.map_cons, List.map_cons, List.sum_cons, List.length_cons]; omega
theorem join_nil (sgs : List (List Nat)) : Txt.join (mkS []) (sgs.map mkS) = mkS sgs.flatten := by
  have key : ∀ (xs : List (List Nat)) (acc : Array Nat), (xs.map mkS).foldl (fun (acc : Array Nat) p => acc ++ (mkS []).cps ++ p.cps) acc = acc ++ xs.flatten.toArray := by
    intro xs
    induction xs with
    | nil => intro acc; simp
    | cons c xs ih => intro acc; rw [List.map_cons, List.foldl_cons, ih]; simp [mkS]
  cases sgs with
  | nil => rfl
  | cons c xs =>
    show (⟨((xs.map mkS)).foldl (fun acc p => acc ++ (mkS []).cps ++ p.cps) (mkS c).cps⟩ : Str) = _
    rw [key]
    simp [mkS]
theorem lenS_flat (sgs : List (List Nat)) : sgs.flatten.length = lenS sgs := List.length_flatten
theorem pick_init (us : List Value) (v : Value) : slicePick (us ++ [v]).toArray none (some (-1)) none = us.toArray := by
  have := slicePick_butLast (us ++ [v]).toArray 1 (Nat.le_refl _)
  refine this.trans ?_
  simp
theorem slice_init (l : List Nat) : Txt.slice (mkS l) none (some (-1)) = mkS l.dropLast := by
  by_cases h : l = []
  · subst h; rfl
  · have hl : 0 < l.length := List.length_pos_iff.mpr h
    have := slice_sm l (a := 0) hl
    rw [List.drop_zero] at this
    rw [← this]
    rfl
theorem lStep_left (n : Nat) (st : List (List Nat) × List Nat × Nat) (sg : List Nat) : (lStep n st sg).2.2 = st.2.2 - sg.length := by unfold lStep; split <;> rfl
theorem lStep_cur (n : Nat) (st : List (List Nat) × List Nat × Nat) (sg : List Nat) : (lStep n st sg).2.1.length ≤ st.2.1.length + sg.length := by
  unfold lStep; split
  · dsimp only; omega
  · dsimp only; rw [List.length_append]; omega
theorem lStep_done (n : Nat) (st : List (List Nat) × List Nat × Nat) (sg : List Nat) : (lStep n st sg).1.length ≤ st.1.length + 1 := by
  unfold lStep; split
  · dsimp only; rw [List.length_append]; exact Nat.le_refl _
  · dsimp only; omega
noncomputable def lRun (n t : Nat) (sgs : List (List Nat)) : List (List Nat) × List Nat × Nat := sgs.foldl (lStep n) ([], [], t)
theorem fold_facts (n : Nat) : ∀ (sgs : List (List Nat)) (st : List (List Nat) × List Nat × Nat), (sgs.foldl (lStep n) st).2.2 = st.2.2 - lenS sgs ∧ (sgs.foldl (lStep n) st).2.1.length ≤ st.2.1.length + lenS sgs ∧ (sgs.foldl (lStep n) st).1.length ≤ st.1.length + sgs.length
  | [], st => ⟨rfl, Nat.le_refl _, Nat.le_refl _⟩
  | sg :: sgs, st => by
    obtain ⟨a, b, c⟩ := fold_facts n sgs (lStep n st sg)
    have h1 := lStep_left n st sg
    have h2 := lStep_cur n st sg
    have h3 := lStep_done n st sg
    have h4 : lenS (sg :: sgs) = sg.length + lenS sgs := rfl
    rw [List.foldl_cons, List.length_cons]
    refine ⟨by omega, by omega, by omega⟩
theorem lenS_split (sgs : List (List Nat)) (i : Nat) : lenS (sgs.take i) + lenS (sgs.drop i) = lenS sgs := by
  unfold lenS
  rw [← List.sum_append, ← List.map_append, List.take_append_drop]
theorem lRun_take {n t : Nat} {sgs : List (List Nat)} {i : Nat} {sg : List Nat} (h : sgs[i]? = some sg) : lRun n t (sgs.take (i + 1)) = lStep n (lRun n t (sgs.take i)) sg := by
  unfold lRun
  rw [List.take_add_one, h]; simp
noncomputable def lEnds (n : Nat) (x : List Nat) (done : List (List Nat)) (cur : List Nat) (lf : Nat) : List (List Nat) :=
  if lf = 2 ∧ cur.length + 2 > n then done ++ [cur ++ [61], []] else if lf = 2 then done ++ [cur.dropLast ++ (hexS (x.getLastD 0)).cps.toList] else done ++ [cur]
noncomputable def lLines (n : Nat) (x : List Nat) : List (List Nat) :=
  lEnds n x (lRun n (lenS (x.map octL) + lTail x) (x.map octL)).1 (lRun n (lenS (x.map octL) + lTail x) (x.map octL)).2.1 (lTail x)
end Mine
end
section
set_option maxRecDepth 100000
set_option maxHeartbeats 1000000
namespace Mine
open PySem PySem.W PySem.Calls PyProof.Rows
noncomputable def lrun (n t : Nat) (sgs : List (List Nat)) : List (List Nat) × List Nat × Nat := lRun n (lenS sgs + t) sgs
theorem lenS_cons (sg : List Nat) (sgs : List (List Nat)) : lenS (sg :: sgs) = sg.length + lenS sgs := rfl
theorem lenS_app (a b : List (List Nat)) : lenS (a ++ b) = lenS a + lenS b := by unfold lenS; rw [List.map_append, List.sum_append]
theorem fold_done (n : Nat) (d : List (List Nat)) : ∀ (sgs : List (List Nat)) (d' : List (List Nat)) (cur : List Nat) (lf : Nat), sgs.foldl (lStep n) (d ++ d', cur, lf) = (d ++ (sgs.foldl (lStep n) (d', cur, lf)).1, (sgs.foldl (lStep n) (d', cur, lf)).2)
  | [], _, _, _ => rfl
  | sg :: sgs, d', cur, lf => by
    have : lStep n (d ++ d', cur, lf) sg = (d ++ (lStep n (d', cur, lf) sg).1, (lStep n (d', cur, lf) sg).2) := by
      unfold lStep; dsimp only; split <;> simp
    rw [List.foldl_cons, List.foldl_cons, this]
    exact fold_done n d sgs _ _ _
theorem fold_go (n : Nat) : ∀ (p : List (List Nat)) (cur : List Nat) (lf : Nat), (cur.length + lf ≤ n ∨ cur.length + lenS p ≤ n - 1) → lenS p ≤ lf → p.foldl (lStep n) ([], cur, lf) = ([], cur ++ p.flatten, lf - lenS p)
  | [], cur, lf, _, _ => by simp [lenS]
  | sg :: p, cur, lf, h, hl => by
    rw [lenS_cons] at h hl
    have hst : lStep n ([], cur, lf) sg = ([], cur ++ sg, lf - sg.length) := by
      unfold lStep; dsimp only; rw [if_neg]; rw [List.length_append]; omega
    rw [List.foldl_cons, hst, fold_go n p _ _ (by rw [List.length_append]; omega) (by omega), lenS_cons]
    rw [List.flatten_cons, List.append_assoc, Nat.sub_sub]
theorem run_split {n t : Nat} (hn : 4 ≤ n) {p : List (List Nat)} {sg : List Nat} {q : List (List Nat)} (hs : sg.length ≤ 3) (h1 : p.flatten.length ≤ n - 1) (h2 : n - 1 < p.flatten.length + sg.length) (hlt : n < lenS (p ++ sg :: q) + t) :
    lrun n t (p ++ sg :: q) = ((p.flatten ++ [61]) :: (lrun n t (sg :: q)).1, (lrun n t (sg :: q)).2) := by
  have hp := lenS_flat p
  unfold lrun lRun
  rw [List.foldl_append, fold_go n p [] _ (.inr (by rw [List.length_nil]; omega)) (by rw [lenS_app]; omega)]
  rw [List.nil_append, List.foldl_cons, List.foldl_cons]
  rw [lenS_app, lenS_cons] at hlt ⊢
  have s1 : lStep n ([], p.flatten, lenS p + (sg.length + lenS q) + t - lenS p) sg = ([p.flatten ++ [61]], sg, lenS q + t) := by
    unfold lStep; dsimp only
    rw [if_pos (by rw [List.length_append]; omega), List.nil_append]
    congr 2
    omega
  have s2 : lStep n ([], [], sg.length + lenS q + t) sg = ([], sg, lenS q + t) := by
    unfold lStep; dsimp only
    rw [if_neg (by rw [List.length_append, List.length_nil]; omega), List.nil_append]
    congr 2
    omega
  rw [s1, s2]
  exact fold_done n [p.flatten ++ [61]] q [] sg (lenS q + t)
theorem soft_run {n t : Nat} (hn : 4 ≤ n) : ∀ (k : Nat) (sgs : List (List Nat)), sgs.length ≤ k → (∀ g ∈ sgs, Tk g) →
    ∃ S p q, sgs = p ++ q ∧ (sgs ≠ [] → q ≠ []) ∧ soft n sgs.flatten = (S, q.flatten) ∧ lenS q ≤ n ∧ lrun n t sgs = (S ++ (lrun n t q).1, (lrun n t q).2)
  | 0, sgs, hk, _ => by
    have : sgs = [] := List.length_eq_zero_iff.mp (by omega)
    subst this
    exact ⟨[], [], [], rfl, fun h => h, soft_stop (by simp), Nat.zero_le _, rfl⟩
  | k + 1, sgs, hk, hT => by
    by_cases hlt : n < sgs.flatten.length
    · obtain ⟨p, sg, q, rfl, hp, h1, h2, hs⟩ := soft_split hn hT hlt
      have hl := List.length_pos_iff.mpr hp
      obtain ⟨S, p', q', e, hq, hs', hle, hr⟩ := soft_run (t := t) hn k (sg :: q) (by rw [List.length_append] at hk; omega) fun g hg => hT g (List.mem_append_right _ hg)
      refine ⟨(p.flatten ++ [61]) :: S, p ++ p', q', by rw [e, List.append_assoc], fun _ => hq (by simp), ?_, hle, ?_⟩
      · rw [hs, hs']
      · have := lenS_flat (p ++ sg :: q)
        rw [run_split hn (hT sg (by simp)).len.2 h1 h2 (by omega), hr]; rfl
    · exact ⟨[], [], sgs, rfl, fun h => h, soft_stop hlt, by have := lenS_flat sgs; omega, rfl⟩
theorem jn_two (ee a b : List Nat) : ∀ S : List (List Nat), jn ee (S ++ [a, b]) = jn ee (S ++ [a ++ ee ++ b])
  | [] => by simp [jn]
  | s :: S => by
    rw [List.cons_append, List.cons_append, jn_cons (by simp), jn_cons (by simp), jn_two ee a b S]
theorem oct_enc {c : Nat} (_ : c < 256) (_ : c ≠ 13) (_ : c ≠ 10) : octL c = encL c := rfl
theorem hexD_61 (d : Nat) : hexD d ≠ 61 := by unfold hexD; split <;> omega
theorem enc_tk (c : Nat) : Tk (encL c) := by
  unfold encL encS
  split
  · rename_i h
    refine .inl ⟨c, rfl, ?_⟩
    rintro rfl
    simp at h
  · exact .inr ⟨_, _, rfl, hexD_61 _, hexD_61 _⟩
theorem enc_flat {x : List Nat} (h : ∀ c ∈ x, c < 256 ∧ c ≠ 13 ∧ c ≠ 10) : encT x = (x.map octL).flatten := by
  unfold encT
  rw [← List.flatMap_def]
  induction x with
  | nil => rfl
  | cons c x ih =>
    have hc := h c (.head _)
    rw [List.flatMap_cons, List.flatMap_cons, oct_enc hc.1 hc.2.1 hc.2.2, ih fun d hd => h d (.tail _ hd)]
theorem enc_last {x : List Nat} {c : Nat} (h : x.getLast? = some c) : (encT x).getLast? = (encL c).getLast? := by
  obtain ⟨y, rfl⟩ : ∃ y, x = y ++ [c] := by
    have hne : x ≠ [] := by rintro rfl; cases h
    refine ⟨x.dropLast, ?_⟩
    rw [List.getLast?_eq_some_getLast hne] at h
    rw [← Option.some.inj h]; exact (List.dropLast_concat_getLast hne).symm
  rw [encT_append, List.getLast?_append]
  have : encT [c] = encL c := by unfold encT; simp
  rw [this]
  cases hq : (encL c).getLast? with
  | none => exact absurd (List.getLast?_eq_none_iff.mp hq) (encL_ne c)
  | some d => rfl
theorem encL_blank {c : Nat} (h : c = 32 ∨ c = 9) : encL c = [c] := by rcases h with rfl | rfl <;> rfl
theorem encL_last {c d : Nat} (h : ¬ (c = 32 ∨ c = 9)) (hd : (encL c).getLast? = some d) : ¬ (d = 32 ∨ d = 9) := by
  unfold encL encS at hd
  split at hd
  · have : c = d := by simpa using hd
    omega
  · have : hexD (c % 16) = d := by simpa using hd
    have := hexD_ge (c % 16)
    omega
/-- the lines of the code and of the law, joined, are one text -/
theorem row_eq {n : Nat} (hn : 4 ≤ n) (ee : List Nat) {x : List Nat} (h : ∀ c ∈ x, c < 256 ∧ c ≠ 13 ∧ c ≠ 10) : jn ee (lineOut n ee (encT x)) = jn ee (lLines n x) := by
  have hT : ∀ g ∈ x.map octL, Tk g := fun g hg => by
    obtain ⟨c, hc, rfl⟩ := List.mem_map.mp hg
    have := h c hc
    rw [oct_enc this.1 this.2.1 this.2.2]; exact enc_tk c
  have he := enc_flat h
  by_cases hb : ∃ c, x.getLast? = some c ∧ (c = 32 ∨ c = 9)
  · obtain ⟨c, hl, hc⟩ := hb
    have ht : lTail x = 2 := by unfold lTail; rw [hl]; dsimp only; rw [if_pos hc]
    obtain ⟨S, p, q, e, hq, hs, hle, hr⟩ := soft_run (t := 2) hn (x.map octL).length (x.map octL) (Nat.le_refl _) hT
    have hx0 : x ≠ [] := by rintro rfl; cases hl
    have hq0 : q ≠ [] := hq (by simpa using hx0)
    have hxl : (x.map octL).getLast? = some [c] := by
      rw [List.getLast?_map, hl, Option.map_some, oct_enc (h c (List.mem_of_getLast? hl)).1 (by omega) (by omega), encL_blank hc]
    obtain ⟨q0, rfl⟩ : ∃ q0, q = q0 ++ [[c]] := by
      refine ⟨q.dropLast, ?_⟩
      have : (p ++ q).getLast? = some (q.getLast hq0) := by
        rw [List.getLast?_append, List.getLast?_eq_some_getLast hq0]; rfl
      rw [← e, hxl] at this
      rw [Option.some.inj this]; exact (List.dropLast_concat_getLast hq0).symm
    have hlen : lenS (q0 ++ [[c]]) = lenS q0 + 1 := by rw [lenS_app]; rfl
    have hfl := lenS_flat (q0 ++ [[c]])
    have hfl0 := lenS_flat q0
    have hfe : (q0 ++ [[c]]).flatten = q0.flatten ++ [c] := by simp
    have hel : (encT x).getLast? = some c := by rw [enc_last hl, encL_blank hc]; rfl
    have hlD : x.getLastD 0 = c := by rw [List.getLastD_eq_getLast?, hl]; rfl
    have hhx : (hexS c).cps.toList = hexL c := rfl
    have hL : lLines n x = lEnds n x (S ++ (lrun n 2 (q0 ++ [[c]])).1) (lrun n 2 (q0 ++ [[c]])).2.1 2 := by
      unfold lLines
      rw [ht]
      have : lRun n (lenS (x.map octL) + 2) (x.map octL) = lrun n 2 (x.map octL) := rfl
      rw [this, hr]
    have hO : lineOut n ee (encT x) = S ++ [lineTail n ee (encT x) (q0.flatten ++ [c])] := by
      unfold lineOut
      rw [he, hs, hfe]
    rw [hO, hL]
    unfold lineTail lEnds
    rw [hel, hlD, hhx]
    dsimp only
    rw [if_pos hc, List.dropLast_concat]
    have hl1 : (q0.flatten ++ [c]).length = lenS q0 + 1 := by rw [List.length_append, hfl0]; rfl
    have hgo : lenS q0 + 1 ≤ n - 1 → lrun n 2 (q0 ++ [[c]]) = ([], q0.flatten ++ [c], 2) := fun hle => by
      unfold lrun lRun
      rw [fold_go n _ [] _ (.inr (by rw [List.length_nil]; omega)) (by omega), List.nil_append, hfe]
      congr 2
      omega
    by_cases h1 : lenS q0 + 3 ≤ n
    · rw [hgo (by omega), if_pos (by omega)]
      dsimp only
      rw [if_neg (by omega), if_pos rfl, List.append_nil, List.dropLast_concat]
    · by_cases h2 : lenS q0 + 2 = n
      · rw [hgo (by omega), if_neg (by omega), if_pos (by omega)]
        dsimp only
        rw [if_pos (by omega), List.append_nil, jn_two]
        simp
      · have h3 : lenS q0 + 1 = n := by omega
        have hrs : lrun n 2 (q0 ++ [[c]]) = ([q0.flatten ++ [61]], [c], 2) := by
          rw [run_split hn (by simp) (by omega) (by rw [hfl0]; show _ < _ + 1; omega) (by omega)]
          have : lrun n 2 [[c]] = ([], [c], 2) := by
            unfold lrun lRun
            rw [fold_go n _ [] _ (.inr (by show 0 + 1 ≤ _; omega)) (by omega)]
            rfl
          rw [this]
        rw [hrs, if_neg (by omega), if_neg (by omega)]
        dsimp only
        rw [if_neg (by show ¬ (2 = 2 ∧ 1 + 2 > n); omega), if_pos rfl]
        show jn ee _ = jn ee ((S ++ [q0.flatten ++ [61]]) ++ [[] ++ hexL c])
        have e2 : (S ++ [q0.flatten ++ [61]]) ++ [[] ++ hexL c] = S ++ [q0.flatten ++ [61], hexL c] := by simp
        rw [e2, jn_two]
        simp
  · obtain ⟨S, p, q, e, hq, hs, hle, hr⟩ := soft_run (t := 0) hn (x.map octL).length (x.map octL) (Nat.le_refl _) hT
    have ht : lTail x = 0 := by
      unfold lTail
      split
      · rename_i c hc
        rw [if_neg fun z => hb ⟨c, hc, z⟩]
      · rfl
    have hL : lLines n x = lEnds n x (S ++ (lrun n 0 q).1) (lrun n 0 q).2.1 0 := by
      unfold lLines
      rw [ht]
      have : lRun n (lenS (x.map octL) + 0) (x.map octL) = lrun n 0 (x.map octL) := rfl
      rw [this, hr]
    have hg : lrun n 0 q = ([], q.flatten, 0) := by
      unfold lrun lRun
      rw [fold_go n _ [] _ (.inl (by rw [List.length_nil]; omega)) (by omega), List.nil_append]
      congr 2
      omega
    have hO : lineOut n ee (encT x) = S ++ [lineTail n ee (encT x) q.flatten] := by
      unfold lineOut
      rw [he, hs]
    have hlt : lineTail n ee (encT x) q.flatten = q.flatten := by
      unfold lineTail
      split
      · rename_i d hd
        rw [if_neg]
        cases hx : x.getLast? with
        | none => rw [List.getLast?_eq_none_iff.mp hx] at hd; cases hd
        | some c =>
          rw [enc_last hx] at hd
          exact encL_last (fun z => hb ⟨c, hx, z⟩) hd
      · rfl
    rw [hO, hL, hg, hlt]
    unfold lEnds
    dsimp only
    rw [if_neg (by omega), if_neg (by omega), List.append_nil]
theorem rows_ok : ∀ (k : Nat) (x cur : List Nat), x.length ≤ k → (∀ c ∈ x, c < 256) → (∀ c ∈ cur, c < 256 ∧ c ≠ 13 ∧ c ≠ 10) → ∀ r ∈ rowsA cur x, ∀ c ∈ r, c < 256 ∧ c ≠ 13 ∧ c ≠ 10
  | _, [], cur, _, _, hc => by
    intro r hr
    rw [rowsA, List.mem_singleton] at hr
    subst hr; exact hc
  | 0, c :: t, cur, hk, _, _ => by simp at hk
  | k + 1, c :: t, cur, hk, hx, hc => by
    have hk' : t.length ≤ k := by simpa using hk
    have hn : ∀ c ∈ ([] : List Nat), c < 256 ∧ c ≠ 13 ∧ c ≠ 10 := fun _ q => by cases q
    have hxt : ∀ c ∈ t, c < 256 := fun d hd => hx d (.tail _ hd)
    intro r hr
    by_cases h13 : c = 13
    · subst h13
      by_cases h10 : ∃ r, t = 10 :: r
      · obtain ⟨t', rfl⟩ := h10
        rw [rowsA_crlf] at hr
        rcases List.mem_cons.mp hr with rfl | hr
        · exact hc
        · exact rows_ok k t' [] (by simp at hk'; omega) (fun d hd => hxt d (.tail _ hd)) hn r hr
      · have hh : t.head? ≠ some 10 := by
          intro q
          cases t with
          | nil => cases q
          | cons d t => exact h10 ⟨t, by rw [show d = 10 by simpa using q]⟩
        rw [rowsA_cr _ _ hh] at hr
        rcases List.mem_cons.mp hr with rfl | hr
        · exact hc
        · exact rows_ok k t [] hk' hxt hn r hr
    · by_cases h10 : c = 10
      · subst h10
        rw [rowsA_lf] at hr
        rcases List.mem_cons.mp hr with rfl | hr
        · exact hc
        · exact rows_ok k t [] hk' hxt hn r hr
      · rw [rowsA_other _ _ c h13 h10] at hr
        refine rows_ok k t (cur ++ [c]) hk' hxt (fun d hd => ?_) r hr
        rcases List.mem_append.mp hd with hd | hd
        · exact hc d hd
        · rw [List.mem_singleton.mp hd]; exact ⟨hx c (.head _), h13, h10⟩
theorem lLines_ne (n : Nat) (x : List Nat) : lLines n x ≠ [] := by unfold lLines lEnds; split <;> (try split) <;> simp
theorem beRes_eq {n : Nat} (hn : 4 ≤ n) (ee : List Nat) {x : List Nat} (hx : ∀ c ∈ x, c < 256) : beRes n ee x = mkS (jn ee ((rowsOf x).flatMap (lLines n))) := by
  unfold beRes
  rw [join_mk]
  congr 1
  unfold outRows
  refine jn_flat fun r hr => ⟨by unfold outRow lineOut; simp, lLines_ne n r, ?_⟩
  exact row_eq hn ee (rows_ok x.length x [] (Nat.le_refl _) hx (fun _ q => by cases q) r hr)
end Mine
end
section
set_option maxRecDepth 100000
set_option maxHeartbeats 1000000
namespace Mine
open PySem PySem.W PySem.Calls PyProof.Rows
theorem fold_tot (n : Nat) : ∀ (sgs : List (List Nat)) (st : List (List Nat) × List Nat × Nat), lenS (sgs.foldl (lStep n) st).1 + (sgs.foldl (lStep n) st).2.1.length ≤ lenS st.1 + st.2.1.length + lenS sgs + sgs.length
  | [], st => by simp [lenS]
  | sg :: sgs, st => by
    have ih := fold_tot n sgs (lStep n st sg)
    rw [List.foldl_cons, lenS_cons, List.length_cons]
    have : lenS (lStep n st sg).1 + (lStep n st sg).2.1.length ≤ lenS st.1 + st.2.1.length + sg.length + 1 := by
      unfold lStep
      split
      · dsimp only
        rw [lenS_app, lenS_cons, List.length_append]
        show _ + (_ + 1 + 0) + _ ≤ _
        omega
      · dsimp only; rw [List.length_append]; omega
    omega
theorem lLines_count (n : Nat) (x : List Nat) : (lLines n x).length ≤ x.length + 2 ∧ lenS (lLines n x) ≤ 4 * x.length + 4 := by
  have h1 := fold_facts n (x.map octL) ([], [], lenS (x.map octL) + lTail x)
  have h2 := fold_tot n (x.map octL) ([], [], lenS (x.map octL) + lTail x)
  have h3 := lenS_oct x
  rw [List.length_map] at h1 h2
  simp only [List.length_nil, Nat.zero_add] at h1 h2
  have e0 : lenS [] = 0 := rfl
  rw [e0] at h2
  unfold lLines lRun lEnds
  generalize (x.map octL).foldl (lStep n) ([], [], lenS (x.map octL) + lTail x) = st at h1 h2
  obtain ⟨done, cur, lf⟩ := st
  dsimp only at h1 h2 ⊢
  split
  · rw [List.length_append, lenS_app, lenS_cons, lenS_cons, List.length_append]
    show _ + 2 ≤ _ ∧ _ + (_ + 1 + (0 + 0)) ≤ _
    omega
  · split
    · rw [List.length_append, lenS_app, lenS_cons, List.length_append, List.length_dropLast]
      show _ + 1 ≤ _ ∧ _ + (_ + 3 + 0) ≤ _
      omega
    · rw [List.length_append, lenS_app, lenS_cons]
      show _ + 1 ≤ _ ∧ _ + (_ + 0) ≤ _
      omega
theorem lrows_count (n : Nat) : ∀ rows : List (List Nat), (rows.flatMap (lLines n)).length ≤ rowSum rows + 2 * rows.length ∧ lenS (rows.flatMap (lLines n)) ≤ 4 * rowSum rows + 4 * rows.length
  | [] => by simp [rowSum, lenS]
  | r :: rows => by
    have ih := lrows_count n rows
    have h1 := lLines_count n r
    rw [List.flatMap_cons, List.length_append, lenS_app]
    simp only [rowSum, List.map_cons, List.sum_cons, List.length_cons] at ih ⊢
    omega
theorem lrows_weight {n : Nat} {x : List Nat} (hx : x.length ≤ 4000) :
    ((((rowsOf x).flatMap (lLines n)).map mkS).map (·.length)).sum + (((rowsOf x).flatMap (lLines n)).map mkS).length * 64 ≤ 16777216 ∧ ((rowsOf x).flatMap (lLines n)).length ≤ 12100 := by
  have h1 := lrows_count n (rowsOf x)
  have h2 := rowsA_count x.length x [] (Nat.le_refl _)
  rw [sum_mkS, List.length_map]
  unfold rowsOf at h1 ⊢
  simp only [List.length_nil] at h2
  omega
theorem rows_short : ∀ {x : List Nat} {r : List Nat}, r ∈ rowsOf x → r.length ≤ x.length := by
  intro x r hr
  have h2 := rowsA_count x.length x [] (Nat.le_refl _)
  simp only [List.length_nil, Nat.zero_add] at h2
  have : ∀ (l : List (List Nat)), r ∈ l → r.length ≤ rowSum l := by
    intro l
    induction l with
    | nil => intro h; cases h
    | cons a l ih =>
      intro h
      simp only [rowSum, List.map_cons, List.sum_cons] at ih ⊢
      rcases List.mem_cons.mp h with rfl | h
      · omega
      · have := ih h; omega
  have := this _ hr
  unfold rowsOf at this
  omega
theorem rows_fine {x : List Nat} (hx : x.length ≤ 4000) (hx8 : ∀ c ∈ x, c < 256) : ∀ r ∈ rowsOf x, r.length ≤ 4000 ∧ ∀ c ∈ r, c < 256 := fun r hr =>
  ⟨Nat.le_trans (rows_short hr) hx, fun c hc => (rows_ok x.length x [] (Nat.le_refl _) hx8 (fun _ q => by cases q) r hr c hc).1⟩
end Mine
end
section
set_option maxRecDepth 100000
set_option maxHeartbeats 1000000
namespace Mine
open PySem PySem.W PySem.Calls PyProof.Rows
def OkC (c : Nat) : Prop := c < 256 ∧ c ≠ 13 ∧ c ≠ 10
theorem oct_plain {c : Nat} (h : OkC c) (hp : plainC c = true) : octL c = [c] := by
  unfold octL encL encS
  rw [if_pos]
  unfold plainC at hp
  simp at hp ⊢
  omega
theorem oct_hex {c : Nat} (h : OkC c) (hp : plainC c = false) : octL c = hexL c := by
  unfold octL encL encS
  rw [if_neg]
  · rfl
  · obtain ⟨_, h1, h2⟩ := h
    unfold plainC at hp
    intro q
    simp at hp q
    omega
theorem oct_width {c : Nat} (h : OkC c) : (octL c).length = widthC c := by
  unfold widthC
  cases hp : plainC c with
  | true => rw [oct_plain h hp]; rfl
  | false => rw [oct_hex h hp]; rfl
theorem blank_plain {c : Nat} (h : blankC c = true) : plainC c = true ∧ (c = 32 ∨ c = 9) := by
  unfold blankC at h
  unfold plainC
  simp at h
  rcases h with rfl | rfl <;> simp
theorem tail_bl (x : List Nat) : lTail x = if blLast x then 2 else 0 := by
  unfold lTail blLast
  cases x.getLast? with
  | none => rfl
  | some c =>
    dsimp only
    unfold blankC
    by_cases h : c = 32 ∨ c = 9
    · rw [if_pos h, if_pos (by simpa using h)]
    · rw [if_neg h, if_neg (by simpa using h)]
theorem hexS_len (c : Nat) : (hexS c).cps.toList.length = 3 := rfl
/-- lines and signs of the law's greedy lines -/
theorem cost_go {n : Nat} (hn : 4 ≤ n) (x : List Nat) : ∀ (y : List Nat) (done : List (List Nat)) (cur : List Nat), y ≠ [] → (∀ c ∈ y, OkC c) → y.getLast? = x.getLast? → cur.length ≤ n - 1 →
    ∃ st, st = (y.map octL).foldl (lStep n) (done, cur, lenS (y.map octL) + lTail x) ∧
      ((lEnds n x st.1 st.2.1 (lTail x)).length, lenS (lEnds n x st.1 st.2.1 (lTail x))) = pa (done.length + 1, lenS done + cur.length) (gc n (blLast x) (y.map widthC) cur.length)
  | [], _, _, h, _, _, _ => absurd rfl h
  | [c], done, cur, _, hy, hl, hc => by
    refine ⟨_, rfl, ?_⟩
    have hw := oct_width (hy c (.head _))
    have hwo := widthC_or c
    have hl' : x.getLast? = some c := by rw [← hl]; rfl
    rw [tail_bl]
    show ((lEnds n x (lStep n (done, cur, (octL c).length + 0 + _) (octL c)).1 (lStep n (done, cur, (octL c).length + 0 + _) (octL c)).2.1 _).length, lenS (lEnds n x (lStep n (done, cur, (octL c).length + 0 + _) (octL c)).1 (lStep n (done, cur, (octL c).length + 0 + _) (octL c)).2.1 _)) = pa _ (gc n _ [widthC c] _)
    have hbl : blLast x = blankC c := by unfold blLast; rw [hl']
    rw [hbl, gc]
    have e1 : ∀ l : List Nat, lenS [l] = l.length := fun l => by unfold lenS; simp
    have e2 : ∀ l : List Nat, lenS [l, []] = l.length := fun l => by unfold lenS; simp
    cases hb : blankC c with
    | true =>
      obtain ⟨hp, _⟩ := blank_plain hb
      have ho : octL c = [c] := oct_plain (hy c (.head _)) hp
      simp only [if_true]
      rw [ho]
      unfold lStep
      dsimp only [List.length_cons, List.length_nil]
      by_cases h3 : cur.length + 3 ≤ n
      · rw [if_neg (by rw [List.length_append]; simp; omega), if_pos h3]
        dsimp only
        unfold lEnds
        rw [if_neg (by rw [List.length_append]; simp; omega), if_pos rfl, List.dropLast_concat, List.length_append, lenS_app, e1, List.length_append, hexS_len]
        unfold pa; simp; omega
      · by_cases h2 : cur.length + 2 ≤ n
        · rw [if_neg (by rw [List.length_append]; simp; omega), if_neg h3, if_pos h2]
          dsimp only
          unfold lEnds
          rw [if_pos (by rw [List.length_append]; simp; omega), List.length_append, lenS_app, e2, List.length_append, List.length_append]
          unfold pa; simp; omega
        · rw [if_pos (by rw [List.length_append]; simp; omega), if_neg h3, if_neg h2]
          dsimp only
          unfold lEnds
          rw [if_neg (by simp; omega), if_pos rfl, List.length_append, lenS_app, e1, List.length_append, lenS_app, e1, List.length_append, List.length_append, hexS_len]
          unfold pa; simp; omega
    | false =>
      simp only [Bool.false_eq_true, if_false]
      unfold lStep
      dsimp only
      by_cases h1 : cur.length + widthC c ≤ n
      · rw [if_neg (by rw [List.length_append]; omega), if_pos h1]
        dsimp only
        unfold lEnds
        rw [if_neg (by omega), if_neg (by omega), List.length_append, lenS_app, e1, List.length_append]
        unfold pa; simp; omega
      · rw [if_pos (by rw [List.length_append]; omega), if_neg h1]
        dsimp only
        unfold lEnds
        rw [if_neg (by omega), if_neg (by omega), List.length_append, lenS_app, e1, List.length_append, lenS_app, e1, List.length_append]
        unfold pa; simp; omega
  | c :: c' :: r, done, cur, _, hy, hl, hc => by
    have hw := oct_width (hy c (.head _))
    have hw' := oct_width (hy c' (.tail _ (.head _)))
    have hwo := widthC_or c
    have hwo' := widthC_or c'
    have hy' : ∀ d ∈ c' :: r, OkC d := fun d hd => hy d (.tail _ hd)
    have hl' : (c' :: r).getLast? = x.getLast? := by rw [← hl]; simp
    have hS : lenS ((c :: c' :: r).map octL) = (octL c).length + lenS ((c' :: r).map octL) := rfl
    have hS' : lenS ((c' :: r).map octL) = (octL c').length + lenS (r.map octL) := rfl
    have hgc : gc n (blLast x) ((c :: c' :: r).map widthC) cur.length = if cur.length + widthC c ≤ n - 1 then pa (0, widthC c) (gc n (blLast x) ((c' :: r).map widthC) (cur.length + widthC c)) else pa (1, 1 + widthC c) (gc n (blLast x) ((c' :: r).map widthC) (widthC c)) := by
      rw [List.map_cons, List.map_cons, gc]
    rw [hgc]
    by_cases h1 : cur.length + widthC c ≤ n - 1
    · obtain ⟨st, e, h⟩ := cost_go hn x (c' :: r) done (cur ++ octL c) (by simp) hy' hl' (by rw [List.length_append]; omega)
      refine ⟨st, ?_, ?_⟩
      · rw [e]
        show _ = ((c' :: r).map octL).foldl (lStep n) (lStep n (done, cur, lenS ((c :: c' :: r).map octL) + lTail x) (octL c))
        have hst : lStep n (done, cur, lenS ((c :: c' :: r).map octL) + lTail x) (octL c) = (done, cur ++ octL c, lenS ((c' :: r).map octL) + lTail x) := by
          unfold lStep
          dsimp only
          rw [if_neg (by rw [List.length_append]; omega)]
          congr 2
          omega
        rw [hst]
      · rw [h, if_pos h1, List.length_append, hw]
        unfold pa; simp; omega
    · obtain ⟨st, e, h⟩ := cost_go hn x (c' :: r) (done ++ [cur ++ [61]]) (octL c) (by simp) hy' hl' (by omega)
      refine ⟨st, ?_, ?_⟩
      · rw [e]
        show _ = ((c' :: r).map octL).foldl (lStep n) (lStep n (done, cur, lenS ((c :: c' :: r).map octL) + lTail x) (octL c))
        have hst : lStep n (done, cur, lenS ((c :: c' :: r).map octL) + lTail x) (octL c) = (done ++ [cur ++ [61]], octL c, lenS ((c' :: r).map octL) + lTail x) := by
          unfold lStep
          dsimp only
          rw [if_pos (by rw [List.length_append]; omega)]
          congr 2
          omega
        rw [hst]
      · rw [h, if_neg h1, hw, List.length_append, lenS_app]
        have e1 : lenS [cur ++ [61]] = cur.length + 1 := by unfold lenS; simp
        rw [e1]
        unfold pa; simp; omega
theorem lines_best {n : Nat} (hn : 4 ≤ n) {x : List Nat} (hx : ∀ c ∈ x, OkC c) : ((lLines n x).length, lenS (lLines n x)) = bestG n x := by
  by_cases h0 : x = []
  · subst h0; rfl
  · obtain ⟨st, e, h⟩ := cost_go hn x x [] [] h0 hx rfl (by simp)
    unfold lLines lRun bestG
    rw [← e, h]
    rfl
end Mine
end
section
set_option maxRecDepth 100000
set_option maxHeartbeats 1000000
set_option linter.unusedVariables false
namespace Mine
open PySem PySem.W PySem.Calls PyProof.Rows
/-- sg spells the octet c -/
def Sp (c : Nat) (sg : List Nat) : Prop := sg = hexL c ∨ (sg = [c] ∧ plainC c = true)
inductive Spell : List Nat → List (List Nat) → Prop
  | nil : Spell [] []
  | cons {c : Nat} {sg : List Nat} {x : List Nat} {ts : List (List Nat)} : Sp c sg → Spell x ts → Spell (c :: x) (sg :: ts)
theorem Spell.split : ∀ {x : List Nat} {a b : List (List Nat)}, Spell x (a ++ b) → ∃ x1 x2, x = x1 ++ x2 ∧ Spell x1 a ∧ Spell x2 b
  | x, [], b, h => ⟨[], x, rfl, .nil, h⟩
  | x, sg :: a, b, h => by
    cases h with
    | cons hs h =>
      obtain ⟨x1, x2, rfl, h1, h2⟩ := h.split
      exact ⟨_ :: x1, x2, rfl, .cons hs h1, h2⟩
theorem Spell.append : ∀ {x y : List Nat} {a b : List (List Nat)}, Spell x a → Spell y b → Spell (x ++ y) (a ++ b)
  | _, _, _, _, .nil, h => h
  | _, _, _, _, .cons s h1, h2 => .cons s (h1.append h2)
theorem spell_oct : ∀ {x : List Nat}, (∀ c ∈ x, OkC c) → Spell x (x.map octL)
  | [], _ => .nil
  | c :: x, h => by
    refine .cons ?_ (spell_oct fun d hd => h d (.tail _ hd))
    cases hp : plainC c with
    | true => exact .inr ⟨oct_plain (h c (.head _)) hp, hp⟩
    | false => exact .inl (oct_hex (h c (.head _)) hp)
theorem Sp.tk {c : Nat} {sg : List Nat} (h : Sp c sg) : Tk sg := by
  rcases h with rfl | ⟨rfl, hp⟩
  · exact .inr ⟨_, _, rfl, hexD_61 _, hexD_61 _⟩
  · refine .inl ⟨c, rfl, ?_⟩
    rintro rfl
    revert hp; decide
theorem Spell.tk {x : List Nat} {ts : List (List Nat)} (h : Spell x ts) : ∀ g ∈ ts, Tk g := by
  induction h with
  | nil => intro g hg; cases hg
  | cons hs _ ih =>
    intro g hg
    rcases List.mem_cons.mp hg with rfl | hg
    · exact hs.tk
    · exact ih g hg
/-- signs that a line may bear -/
def LineC (d : Nat) : Prop := d = 9 ∨ (31 < d ∧ d < 127)
theorem hexD_line {d : Nat} (h : d < 16) : LineC (hexD d) := by unfold hexD LineC; split <;> omega
theorem Sp.line {c : Nat} {sg : List Nat} (hc : c < 256) (h : Sp c sg) : ∀ d ∈ sg, LineC d := by
  rcases h with rfl | ⟨rfl, hp⟩
  · intro d hd
    have : d = 61 ∨ d = hexD (c / 16) ∨ d = hexD (c % 16) := by simpa [hexL] using hd
    rcases this with rfl | rfl | rfl
    · exact .inr (by decide)
    · exact hexD_line (by omega)
    · exact hexD_line (by omega)
  · intro d hd
    rw [List.mem_singleton.mp hd]
    unfold plainC at hp
    simp at hp
    unfold LineC; omega
theorem Spell.line {x : List Nat} {ts : List (List Nat)} (h : Spell x ts) : (∀ c ∈ x, c < 256) → ∀ d ∈ ts.flatten, LineC d := by
  induction h with
  | nil => intro _ d hd; cases hd
  | cons hs _ ih =>
    intro hx d hd
    rw [List.flatten_cons] at hd
    rcases List.mem_append.mp hd with hd | hd
    · exact hs.line (hx _ (.head _)) d hd
    · exact ih (fun c hc => hx c (.tail _ hc)) d hd
theorem flat_last61 {ts : List (List Nat)} (h : ∀ g ∈ ts, Tk g) : ts.flatten.getLast? ≠ some 61 := by
  have := (ends_ok ts h).1
  intro q
  rw [List.getLast?_eq_getElem?] at q
  have hl : ts.flatten.length - 1 < ts.flatten.length := by
    obtain ⟨hlt, _⟩ := List.getElem?_eq_some_iff.mp q
    exact hlt
  exact this _ (by omega) q
structure Shape (n : Nat) (x : List Nat) (gs : List (List (List Nat))) (q : List (List Nat)) : Prop where
  lines : lLines n x = gs.map (fun p => p.flatten ++ [61]) ++ [q.flatten]
  spell : Spell x (gs.flatten ++ q)
  soft : ∀ p ∈ gs, p.flatten.length + 1 ≤ n
  last : q.flatten.length ≤ n
  blank : ∀ c, q.flatten.getLast? = some c → c ≠ 32 ∧ c ≠ 9
structure FInv (n : Nat) (st : List (List Nat) × List Nat × Nat) (pre : List (List Nat)) (gs : List (List (List Nat))) (q : List (List Nat)) : Prop where
  done : st.1 = gs.map (fun p => p.flatten ++ [61])
  cur : st.2.1 = q.flatten
  all : gs.flatten ++ q = pre
  soft : ∀ p ∈ gs, p.flatten.length + 1 ≤ n
  ne : pre ≠ [] → q ≠ []
  fits : q.flatten.length ≤ n - 1 ∨ q.flatten.length + st.2.2 ≤ n
theorem fold_inv {n t : Nat} (hn : 4 ≤ n) : ∀ (post pre : List (List Nat)) (st : List (List Nat) × List Nat × Nat) (gs : List (List (List Nat))) (q : List (List Nat)), FInv n st pre gs q → st.2.2 = lenS post + t → (∀ g ∈ post, g.length ≤ 3) →
    ∃ gs' q', FInv n (post.foldl (lStep n) st) (pre ++ post) gs' q'
  | [], pre, st, gs, q, h, _, _ => ⟨gs, q, by rw [List.append_nil]; exact h⟩
  | sg :: post, pre, st, gs, q, h, hl, h3 => by
    have hsg := h3 sg (.head _)
    rw [lenS_cons] at hl
    have hc : st.2.1.length = q.flatten.length := by rw [h.cur]
    have hf := h.fits
    have hnext : ∃ gs' q', FInv n (lStep n st sg) (pre ++ [sg]) gs' q' ∧ (lStep n st sg).2.2 = lenS post + t := by
      unfold lStep
      split
      · rename_i hb
        rw [List.length_append] at hb
        refine ⟨gs ++ [q], [sg], ⟨?_, ?_, ?_, ?_, fun _ => by simp, ?_⟩, ?_⟩
        · dsimp only
          rw [h.done, h.cur, List.map_append]; rfl
        · simp
        · rw [List.flatten_append, ← h.all]; simp
        · intro p hp
          rcases List.mem_append.mp hp with hp | hp
          · exact h.soft p hp
          · rw [List.mem_singleton.mp hp]; omega
        · refine .inl ?_
          have : ([sg] : List (List Nat)).flatten.length = sg.length := by simp
          omega
        · dsimp only; omega
      · rename_i hb
        rw [List.length_append] at hb
        refine ⟨gs, q ++ [sg], ⟨h.done, ?_, ?_, h.soft, fun _ => by simp, ?_⟩, ?_⟩
        · dsimp only
          rw [h.cur]; simp
        · rw [← h.all]; simp
        · dsimp only
          have : (q ++ [sg]).flatten.length = q.flatten.length + sg.length := by rw [List.flatten_append, List.length_append]; simp
          omega
        · dsimp only; omega
    obtain ⟨gs1, q1, hi, hl1⟩ := hnext
    obtain ⟨gs2, q2, hr⟩ := fold_inv hn post (pre ++ [sg]) (lStep n st sg) gs1 q1 hi hl1 fun g hg => h3 g (.tail _ hg)
    refine ⟨gs2, q2, ?_⟩
    rw [List.append_assoc] at hr
    exact hr
theorem shape_of {n : Nat} (hn : 4 ≤ n) {x : List Nat} (hx : ∀ c ∈ x, OkC c) : ∃ gs q, Shape n x gs q := by
  obtain ⟨gs, q, h⟩ := fold_inv (n := n) (t := lTail x) hn (x.map octL) [] ([], [], lenS (x.map octL) + lTail x) [] [] ⟨rfl, rfl, rfl, fun _ h => (by cases h), fun h => h, .inl (by simp)⟩ rfl (fun g hg => by
    obtain ⟨c, _, rfl⟩ := List.mem_map.mp hg
    exact octL_len c)
  have hlf := (fold_facts n (x.map octL) ([], [], lenS (x.map octL) + lTail x)).1
  dsimp only at hlf
  rw [List.nil_append] at h
  have hL : lLines n x = lEnds n x ((x.map octL).foldl (lStep n) ([], [], lenS (x.map octL) + lTail x)).1 ((x.map octL).foldl (lStep n) ([], [], lenS (x.map octL) + lTail x)).2.1 (lTail x) := rfl
  generalize (x.map octL).foldl (lStep n) ([], [], lenS (x.map octL) + lTail x) = st at h hlf hL
  have hS := spell_oct hx
  have hf := h.fits
  have hlf' : st.2.2 = lTail x := by omega
  rw [h.done, h.cur] at hL
  unfold lEnds at hL
  by_cases hb : ∃ c, x.getLast? = some c ∧ (c = 32 ∨ c = 9)
  · obtain ⟨c, hl, hc⟩ := hb
    have ht : lTail x = 2 := by unfold lTail; rw [hl]; dsimp only; rw [if_pos hc]
    have hx0 : x ≠ [] := by rintro rfl; cases hl
    have hq0 : q ≠ [] := h.ne (by simpa using hx0)
    obtain ⟨y, rfl⟩ : ∃ y, x = y ++ [c] := by
      refine ⟨x.dropLast, ?_⟩
      rw [List.getLast?_eq_some_getLast hx0] at hl
      rw [← Option.some.inj hl]; exact (List.dropLast_concat_getLast hx0).symm
    have hco : octL c = [c] := by
      have := hx c (by simp)
      exact encL_blank hc
    rw [ht] at hL
    by_cases h2 : q.flatten.length + 2 > n
    · rw [if_pos ⟨rfl, h2⟩] at hL
      refine ⟨gs ++ [q], [], ⟨?_, ?_, ?_, by simp, ?_⟩⟩
      · rw [hL]; simp
      · rw [List.append_nil, List.flatten_append]
        have : gs.flatten ++ [q].flatten = (y ++ [c]).map octL := by rw [← h.all]; simp
        rw [this]; exact hS
      · intro p hp
        rcases List.mem_append.mp hp with hp | hp
        · exact h.soft p hp
        · rw [List.mem_singleton.mp hp]; omega
      · intro d hd; cases hd
    · rw [if_neg (fun q => h2 q.2), if_pos rfl] at hL
      have hall := h.all
      rw [List.map_append, List.map_singleton, hco] at hall
      obtain ⟨q1, rfl⟩ : ∃ q1, q = q1 ++ [[c]] := by
        refine ⟨q.dropLast, ?_⟩
        have e : (gs.flatten ++ q).getLast? = some (q.getLast hq0) := by
          rw [List.getLast?_append, List.getLast?_eq_some_getLast hq0]; rfl
        rw [hall] at e
        simp at e
        rw [e]; exact (List.dropLast_concat_getLast hq0).symm
      have hy : gs.flatten ++ q1 = y.map octL := by
        rw [← List.append_assoc] at hall
        exact (List.append_inj' hall rfl).1
      have hD : (y ++ [c]).getLastD 0 = c := by rw [List.getLastD_eq_getLast?]; simp
      have hfl : (q1 ++ [[c]]).flatten = q1.flatten ++ [c] := by simp
      refine ⟨gs, q1 ++ [hexL c], ⟨?_, ?_, h.soft, ?_, ?_⟩⟩
      · rw [hL, hD, hfl, List.dropLast_concat]
        have : (q1 ++ [hexL c]).flatten = q1.flatten ++ hexL c := by simp
        rw [this]; rfl
      · rw [← List.append_assoc, hy]
        exact (spell_oct fun d hd => hx d (by simp [hd])).append (.cons (.inl rfl) .nil)
      · rw [hfl, List.length_append] at h2
        have : (q1 ++ [hexL c]).flatten.length = q1.flatten.length + 3 := by rw [List.flatten_append, List.length_append]; rfl
        have e1 : [c].length = 1 := rfl
        omega
      · intro d hd
        have : (q1 ++ [hexL c]).flatten = q1.flatten ++ hexL c := by simp
        rw [this, List.getLast?_append] at hd
        have hd' : hexD (c % 16) = d := by simpa [hexL] using hd
        have := hexD_ge (c % 16)
        omega
  · have ht : lTail x = 0 := by
      unfold lTail
      split
      · rename_i c hc
        rw [if_neg fun z => hb ⟨c, hc, z⟩]
      · rfl
    rw [ht] at hL hlf'
    rw [if_neg (by omega), if_neg (by omega)] at hL
    refine ⟨gs, q, ⟨hL, by rw [h.all]; exact hS, h.soft, by omega, ?_⟩⟩
    intro d hd
    have hq0 : q ≠ [] := by rintro rfl; cases hd
    have e : (gs.flatten ++ q).flatten.getLast? = some d := by
      rw [List.flatten_append, List.getLast?_append, hd]; rfl
    rw [h.all, ← enc_flat hx] at e
    cases hxl : x.getLast? with
    | none => rw [List.getLast?_eq_none_iff.mp hxl] at e; cases e
    | some c =>
      rw [enc_last hxl] at e
      have := encL_last (fun z => hb ⟨c, hxl, z⟩) e
      omega
end Mine
end
section
set_option maxRecDepth 100000
set_option maxHeartbeats 1000000
set_option linter.unusedVariables false
namespace Mine
open PySem PySem.W PySem.Calls PyProof.Rows
/-- the place of a sign among 0..9A..F -/
noncomputable def hexV (c : Nat) : Option Nat := if 48 ≤ c ∧ c < 58 then some (c - 48) else if 65 ≤ c ∧ c < 71 then some (c - 55) else none
theorem hexV_D {d : Nat} (h : d < 16) : hexV (hexD d) = some d := by
  unfold hexV hexD
  by_cases q : d < 10
  · rw [if_pos q, if_pos (by omega)]; congr 1; omega
  · rw [if_neg q, if_neg (by omega), if_pos (by omega)]; congr 1; omega
theorem hexV_lt {c v : Nat} (h : hexV c = some v) : v < 16 := by
  unfold hexV at h
  split at h
  · cases h; omega
  · split at h
    · cases h; omega
    · cases h
/-- what the law reads out of a row's parts -/
noncomputable def readGo : List Nat → List (List Nat) → Option (List Nat)
  | acc, [] => some acc
  | acc, p :: ps => match p with
    | a :: b :: rest => match hexV a, hexV b with
      | some u, some v => readGo (acc ++ [16 * u + v] ++ rest) ps
      | _, _ => none
    | _ => none
noncomputable def readP : List (List Nat) → Option (List Nat)
  | p :: ps => readGo p ps
  | [] => none
noncomputable def readL (r : List Nat) : Option (List Nat) := readP (splA [61] [] 0 r)
theorem splA_cur (y a : List Nat) : ∀ (cur : List Nat) (k : Nat) (l : List Nat) (p : List Nat) (ps : List (List Nat)), splA y cur k l = p :: ps → splA y (a ++ cur) k l = (a ++ p) :: ps
  | cur, k, [], p, ps, h => by
    unfold splA at h ⊢
    have := List.cons.inj h
    rw [this.1, this.2]
  | cur, k + 1, _ :: t, p, ps, h => by
    unfold splA at h ⊢
    exact splA_cur y a cur k t p ps h
  | cur, 0, c :: t, p, ps, h => by
    unfold splA at h ⊢
    split
    · rename_i q
      rw [if_pos q] at h
      have := List.cons.inj h
      rw [this.1, this.2]
    · rename_i q
      rw [if_neg q] at h
      rw [List.append_assoc]
      exact splA_cur y a (cur ++ [c]) 0 t p ps h
noncomputable def readH (acc : List Nat) : List (List Nat) → Option (List Nat)
  | p :: ps => readGo (acc ++ p) ps
  | [] => none
theorem spl_skip {c : Nat} (h : c ≠ 61) (cur t : List Nat) : splA [61] cur 0 (c :: t) = splA [61] (cur ++ [c]) 0 t := by
  rw [splA, if_neg (by simp [h])]
theorem read_spell {x : List Nat} {ts : List (List Nat)} (h : Spell x ts) : (∀ c ∈ x, c < 256) → ∀ acc cur, readH acc (splA [61] cur 0 ts.flatten) = some (acc ++ cur ++ x) := by
  induction h with
  | nil => intro _ acc cur; show readGo (acc ++ cur) [] = _; rw [readGo, List.append_nil]
  | @cons c sg x ts hs _ ih =>
    intro hx acc cur
    have ih' := ih fun d hd => hx d (.tail _ hd)
    have hc := hx c (.head _)
    rw [List.flatten_cons]
    rcases hs with rfl | ⟨rfl, hp⟩
    · show readH acc (splA [61] cur 0 (61 :: hexD (c / 16) :: hexD (c % 16) :: ts.flatten)) = _
      rw [splA, if_pos (by simp)]
      show readGo (acc ++ cur) (splA [61] [] 0 (hexD (c / 16) :: hexD (c % 16) :: ts.flatten)) = _
      rw [spl_skip (hexD_61 _), spl_skip (hexD_61 _)]
      obtain ⟨p, ps, e⟩ := List.exists_cons_of_ne_nil (splA_ne [61] [] 0 ts.flatten)
      have e2 := splA_cur [61] ([] ++ [hexD (c / 16)] ++ [hexD (c % 16)]) [] 0 ts.flatten p ps e
      rw [List.append_nil] at e2
      rw [e2]
      show readGo (acc ++ cur) ((hexD (c / 16) :: hexD (c % 16) :: p) :: ps) = _
      rw [readGo, hexV_D (by omega), hexV_D (by omega)]
      dsimp only
      have e3 : 16 * (c / 16) + c % 16 = c := by omega
      rw [e3]
      have := ih' (acc ++ cur ++ [c]) []
      rw [e] at this
      have h2 : readGo (acc ++ cur ++ [c] ++ p) ps = some (acc ++ cur ++ [c] ++ [] ++ x) := this
      rw [h2]; simp
    · have hc61 : c ≠ 61 := by rintro rfl; revert hp; decide
      show readH acc (splA [61] cur 0 (c :: ts.flatten)) = _
      rw [spl_skip hc61, ih' acc (cur ++ [c])]
      simp
theorem read_of {x : List Nat} {ts : List (List Nat)} (h : Spell x ts) (hx : ∀ c ∈ x, c < 256) : readL ts.flatten = some x := by
  have := read_spell h hx [] []
  unfold readL
  obtain ⟨p, ps, e⟩ := List.exists_cons_of_ne_nil (splA_ne [61] [] 0 ts.flatten)
  rw [e] at this ⊢
  exact this
/-- the line ends that the law has -/
def Eol (ee : List Nat) : Prop := ee = [10] ∨ ee = [13, 10] ∨ ee = [13]
theorem Eol.head {ee : List Nat} (h : Eol ee) : ∃ e0 r, ee = e0 :: r ∧ (e0 = 10 ∨ e0 = 13) ∧ ee.length ≤ 2 ∧ ∀ c ∈ ee, c = 10 ∨ c = 13 := by
  rcases h with rfl | rfl | rfl
  · exact ⟨10, [], rfl, .inl rfl, by decide, by simp⟩
  · exact ⟨13, [10], rfl, .inr rfl, by decide, by simp⟩
  · exact ⟨13, [], rfl, .inr rfl, by decide, by simp⟩
theorem spl_line {ee : List Nat} (he : Eol ee) : ∀ (l cur R : List Nat), (∀ c ∈ l, c ≠ 10 ∧ c ≠ 13) → splA ee cur 0 (l ++ R) = splA ee (cur ++ l) 0 R
  | [], cur, R, _ => by simp
  | c :: l, cur, R, h => by
    obtain ⟨e0, r, rfl, h0, _⟩ := he.head
    have hc := h c (.head _)
    rw [List.cons_append, splA, if_neg, spl_line he l (cur ++ [c]) R fun d hd => h d (.tail _ hd)]
    · simp
    · intro q
      rw [List.length_cons, List.take_succ_cons] at q
      have := (List.cons.inj q).1
      omega
theorem spl_eol {ee : List Nat} (he : Eol ee) (cur R : List Nat) : splA ee cur 0 (ee ++ R) = cur :: splA ee [] 0 R := by
  rcases he with rfl | rfl | rfl
  · rw [List.singleton_append, splA, if_pos (by simp)]; rfl
  · show splA [13, 10] cur 0 (13 :: 10 :: R) = _
    rw [splA, if_pos (by simp)]
    show cur :: splA [13, 10] [] 1 (10 :: R) = _
    rw [splA]
  · rw [List.singleton_append, splA, if_pos (by simp)]; rfl
theorem spl_jn {ee : List Nat} (he : Eol ee) : ∀ (Ls : List (List Nat)), Ls ≠ [] → (∀ l ∈ Ls, ∀ c ∈ l, c ≠ 10 ∧ c ≠ 13) → splA ee [] 0 (jn ee Ls) = Ls
  | [], h, _ => absurd rfl h
  | [l], _, h => by
    have := spl_line he l [] [] (h l (.head _))
    rw [List.append_nil] at this
    show splA ee [] 0 l = [l]
    rw [this, splA]; rfl
  | l :: l' :: Ls, _, h => by
    have ih := spl_jn he (l' :: Ls) (by simp) fun a ha => h a (.tail _ ha)
    rw [jn_cons (by simp), List.append_assoc, spl_line he _ _ _ (h l (.head _)), spl_eol he, ih]
    simp
/-- taking out the soft breaks -/
theorem rep_tok {ee : List Nat} (he : Eol ee) {sg : List Nat} {c : Nat} (hc : c < 256) (h : Sp c sg) (R : List Nat) : rep (61 :: ee) [] 0 (sg ++ R) = sg ++ rep (61 :: ee) [] 0 R := by
  obtain ⟨e0, r, rfl, h0, _⟩ := he.head
  have skip : ∀ (d : Nat) (R : List Nat), d ≠ 61 → rep (61 :: e0 :: r) [] 0 (d :: R) = d :: rep (61 :: e0 :: r) [] 0 R := fun d R hd => by
    rw [rep, if_neg]
    intro q
    rw [List.length_cons, List.take_succ_cons] at q
    exact hd (List.cons.inj q).1
  rcases h with rfl | ⟨rfl, hp⟩
  · show rep (61 :: e0 :: r) [] 0 (61 :: hexD (c / 16) :: hexD (c % 16) :: R) = 61 :: hexD (c / 16) :: hexD (c % 16) :: _
    rw [rep, if_neg, skip _ _ (hexD_61 _), skip _ _ (hexD_61 _)]
    · rfl
    · intro q
      rw [List.length_cons, List.take_succ_cons, List.length_cons, List.take_succ_cons] at q
      have := (List.cons.inj (List.cons.inj q).2).1
      have := hexD_ge (c / 16)
      omega
  · show rep (61 :: e0 :: r) [] 0 (c :: R) = _
    rw [skip]
    · rfl
    · rintro rfl; revert hp; decide
theorem rep_toks {ee : List Nat} (he : Eol ee) {x : List Nat} {ts : List (List Nat)} (h : Spell x ts) : (∀ c ∈ x, c < 256) → ∀ R, rep (61 :: ee) [] 0 (ts.flatten ++ R) = ts.flatten ++ rep (61 :: ee) [] 0 R := by
  induction h with
  | nil => intro _ R; rfl
  | cons hs _ ih =>
    intro hx R
    rw [List.flatten_cons, List.append_assoc, rep_tok he (hx _ (.head _)) hs, ih (fun d hd => hx d (.tail _ hd)), List.append_assoc]
theorem rep_skip (y z : List Nat) : ∀ (a R : List Nat), rep y z a.length (a ++ R) = rep y z 0 R
  | [], R => rfl
  | c :: a, R => by rw [List.cons_append, List.length_cons, rep]; exact rep_skip y z a R
theorem rep_soft (ee R : List Nat) : rep (61 :: ee) [] 0 (61 :: (ee ++ R)) = rep (61 :: ee) [] 0 R := by
  rw [rep, if_pos (by rw [List.length_cons, List.take_succ_cons, List.take_left' rfl])]
  rw [List.nil_append, List.length_cons, Nat.add_sub_cancel]
  exact rep_skip _ _ ee R
theorem rep_hard {ee : List Nat} (he : Eol ee) (R : List Nat) : rep (61 :: ee) [] 0 (ee ++ R) = ee ++ rep (61 :: ee) [] 0 R := by
  rcases he with rfl | rfl | rfl
  · rw [List.singleton_append, rep, if_neg (by simp)]; rfl
  · show rep [61, 13, 10] [] 0 (13 :: 10 :: R) = _
    rw [rep, if_neg (by simp), rep, if_neg (by simp)]; rfl
  · rw [List.singleton_append, rep, if_neg (by simp)]; rfl
/-- the lines of one row, their soft breaks taken out -/
theorem rep_row {ee : List Nat} (he : Eol ee) {q : List (List Nat)} : ∀ {gs : List (List (List Nat))} {x : List Nat}, Spell x (gs.flatten ++ q) → (∀ c ∈ x, c < 256) → ∀ R, rep (61 :: ee) [] 0 (jn ee (gs.map (fun p => p.flatten ++ [61]) ++ [q.flatten]) ++ R) = (gs.flatten ++ q).flatten ++ rep (61 :: ee) [] 0 R
  | [], x, h, hx, R => rep_toks he h hx R
  | p :: gs, x, h, hx, R => by
    rw [List.flatten_cons, List.append_assoc] at h
    obtain ⟨x1, x2, rfl, h1, h2⟩ := h.split
    have ih := rep_row he h2 (fun c hc => hx c (List.mem_append_right _ hc)) R
    rw [List.map_cons, List.cons_append, jn_cons (by simp)]
    have e : p.flatten ++ [61] ++ ee ++ jn ee (gs.map (fun p => p.flatten ++ [61]) ++ [q.flatten]) ++ R = p.flatten ++ (61 :: (ee ++ (jn ee (gs.map (fun p => p.flatten ++ [61]) ++ [q.flatten]) ++ R))) := by simp
    rw [e, rep_toks he h1 (fun c hc => hx c (List.mem_append_left _ hc)), rep_soft, ih]
    simp
/-- the law's rows again: the lines' soft breaks taken out, cut at the line ends -/
theorem rep_rows {ee : List Nat} (he : Eol ee) {n : Nat} (hn : 4 ≤ n) : ∀ (rows : List (List Nat)), (∀ r ∈ rows, ∀ c ∈ r, OkC c) →
    ∃ fs : List (List Nat), fs.length = rows.length ∧ (rows ≠ [] → rep (61 :: ee) [] 0 (jn ee (rows.flatMap (lLines n))) = jn ee fs) ∧ (∀ f ∈ fs, ∀ c ∈ f, c ≠ 10 ∧ c ≠ 13) ∧ fs.map readL = rows.map some
  | [], _ => ⟨[], rfl, fun h => absurd rfl h, fun _ h => (by cases h), rfl⟩
  | r :: rows, h => by
    have hr := h r (.head _)
    obtain ⟨gs, q, sh⟩ := shape_of hn hr
    obtain ⟨fs, hl, e, h1, h2⟩ := rep_rows he hn rows fun a ha => h a (.tail _ ha)
    have hx : ∀ c ∈ r, c < 256 := fun c hc => (hr c hc).1
    refine ⟨(gs.flatten ++ q).flatten :: fs, by rw [List.length_cons, List.length_cons, hl], fun _ => ?_, ?_, ?_⟩
    · cases rows with
      | nil =>
        have hf : fs = [] := List.length_eq_zero_iff.mp (by rw [hl]; rfl)
        subst hf
        have := rep_row he sh.spell hx []
        rw [← sh.lines, List.append_nil] at this
        rw [List.flatMap_cons, List.flatMap_nil, List.append_nil, this]
        unfold rep; rw [List.append_nil]; rfl
      | cons r' rows =>
        have hf : fs ≠ [] := List.ne_nil_of_length_pos (by rw [hl]; simp)
        have hne : (List.flatMap (lLines n) (r' :: rows)) ≠ [] := by rw [List.flatMap_cons]; simp [lLines_ne]
        rw [List.flatMap_cons, jn_append (lLines_ne n r) hne, List.append_assoc, sh.lines]
        rw [rep_row he sh.spell hx, rep_hard he, e (by simp), jn_cons hf]
        simp
    · intro f hf c hc
      rcases List.mem_cons.mp hf with rfl | hf
      · have := sh.spell.line hx c hc
        unfold LineC at this
        omega
      · exact h1 f hf c hc
    · rw [List.map_cons, List.map_cons, h2, read_of sh.spell hx]
/-- what the law asks of one line -/
structure LineOk (n : Nat) (l : List Nat) : Prop where
  len : l.length ≤ n
  blank : ∀ c, l.getLast? = some c → c ≠ 32 ∧ c ≠ 9
  signs : ∀ c ∈ l, LineC c
  reads : (readL (if l.getLast? = some 61 then l.dropLast else l)).isSome = true
theorem line_ok {n : Nat} (hn : 4 ≤ n) {x : List Nat} (hx : ∀ c ∈ x, OkC c) : ∀ l ∈ lLines n x, LineOk n l := by
  obtain ⟨gs, q, sh⟩ := shape_of hn hx
  have h8 : ∀ c ∈ x, c < 256 := fun c hc => (hx c hc).1
  intro l hl
  rw [sh.lines] at hl
  rcases List.mem_append.mp hl with hl | hl
  · obtain ⟨p, hp, rfl⟩ := List.mem_map.mp hl
    obtain ⟨g1, g2, rfl⟩ := List.append_of_mem hp
    have hs := sh.spell
    rw [List.flatten_append, List.flatten_cons, List.append_assoc, List.append_assoc] at hs
    obtain ⟨x1, x2, rfl, _, h2⟩ := hs.split
    obtain ⟨x3, x4, rfl, h3, _⟩ := h2.split
    have h83 : ∀ c ∈ x3, c < 256 := fun c hc => h8 c (by simp [hc])
    refine ⟨by rw [List.length_append]; exact sh.soft p hp, ?_, ?_, ?_⟩
    · intro c hc
      have : c = 61 := by simpa using hc.symm
      omega
    · intro c hc
      rcases List.mem_append.mp hc with hc | hc
      · exact h3.line h83 c hc
      · rw [List.mem_singleton.mp hc]; exact .inr (by decide)
    · rw [if_pos (by simp), List.dropLast_concat, read_of h3 h83]; rfl
  · rw [List.mem_singleton.mp hl]
    obtain ⟨x1, x2, rfl, _, h2⟩ := sh.spell.split
    have h82 : ∀ c ∈ x2, c < 256 := fun c hc => h8 c (by simp [hc])
    refine ⟨sh.last, sh.blank, h2.line h82, ?_⟩
    rw [if_neg (flat_last61 h2.tk), read_of h2 h82]; rfl
theorem line_free {n : Nat} (hn : 4 ≤ n) {rows : List (List Nat)} (h : ∀ r ∈ rows, ∀ c ∈ r, OkC c) : ∀ l ∈ rows.flatMap (lLines n), LineOk n l ∧ ∀ c ∈ l, c ≠ 10 ∧ c ≠ 13 := by
  intro l hl
  obtain ⟨r, hr, hl⟩ := List.mem_flatMap.mp hl
  have := line_ok hn (h r hr) l hl
  refine ⟨this, fun c hc => ?_⟩
  have := this.signs c hc
  unfold LineC at this
  omega
end Mine
end
section
set_option maxRecDepth 100000
set_option maxHeartbeats 1000000
namespace Mine
open PySem PySem.W PySem.Calls PyProof.Rows
theorem slice_upto (l : List Nat) (b : Nat) : Txt.slice (mkS l) none (some (b : Int)) = mkS (l.take b) := by
  have key : ∀ b : Nat, b ≤ l.length → Txt.slice (mkS l) none (some (b : Int)) = mkS (l.take b) := fun b hb => by
    have h := StrLaws.sliceText_to (x := mkS l) (j := (b : Int)) ⟨by omega, by rw [mkS_toList]; omega⟩
    refine h.trans ?_
    rw [mkS_toList, List.drop_zero]
    have : ((b : Int) - 0).toNat = b := by omega
    rw [this]; rfl
  by_cases hb : b ≤ l.length
  · exact key b hb
  · rw [List.take_of_length_le (by omega)]
    have e : Txt.slice (mkS l) none (some (b : Int)) = Txt.slice (mkS l) none (some ((l.length : Nat) : Int)) := by
      unfold Txt.slice
      have : Builtin.Str.strSliceIndices none (some (b : Int)) 1 (mkS l).length = Builtin.Str.strSliceIndices none (some ((l.length : Nat) : Int)) 1 (mkS l).length := by
        rw [mkS_length]
        simp only [Builtin.Str.strSliceIndices]
        have h1 : ¬ (((l.length : Nat) : Int) < 0) := by omega
        have h2 : ¬ ((b : Int) < 0) := by omega
        simp only [h1, h2, if_true, if_false, show (1 : Int) > 0 by decide]
        congr 1
        omega
      rw [this]
    rw [e, key l.length (Nat.le_refl _), List.take_length]
theorem slice_last (l : List Nat) : Txt.slice (mkS l) (some (-1)) none = mkS (l.drop (l.length - 1)) := by
  by_cases h : l = []
  · subst h; rfl
  · have hl : 0 < l.length := List.length_pos_iff.mpr h
    have h2 := StrLaws.sliceText_neg_lo (mkS l) none (i := -1) (by decide) (by rw [mkS_length]; omega)
    have e : (-1 : Int) + ((mkS l).length : Nat) = ((l.length - 1 : Nat) : Int) := by rw [mkS_length]; omega
    rw [e] at h2
    exact h2.trans (slice_sn l (by omega))
theorem last_drop (l : List Nat) : l.drop (l.length - 1) = match l.getLast? with | some c => [c] | none => [] := by
  by_cases h : l = []
  · subst h; rfl
  · obtain ⟨y, c, rfl⟩ : ∃ y c, l = y ++ [c] := ⟨l.dropLast, l.getLast h, (List.dropLast_concat_getLast h).symm⟩
    simp
end Mine
end
section
set_option maxRecDepth 100000
set_option maxHeartbeats 1000000
set_option linter.unusedVariables false
namespace Mine
theorem anew34 : True := by
  w_top off
  first | walk1 | trivial
open PySem PySem.W PySem.Calls PyProof.Rows
noncomputable abbrev rdEnv (nm : Str) (L : Addr) : Env := envX nm (fScope (stm 20)) L 62 (.ref 61) [("figures", L + 1)]
noncomputable def fv (c : Nat) : Int := match hexV c with | some v => (v : Int) | none => -1
theorem find_fig {c : Nat} (hc : c < 256) : Txt.find (Str.ofString "0123456789ABCDEF") (mkS [c]) = fv c := by
  have : ∀ c : Fin 256, Txt.find (Str.ofString "0123456789ABCDEF") (mkS [c.val]) = fv c.val := by decide +kernel
  exact this ⟨c, hc⟩
def fF (v y : Value) : Prop := ∃ (c : Nat) (t u : Tok), v = .str (mkS [c]) t ∧ y = .int (fv c) u
theorem ints_of_row : ∀ (x : List Nat) (vs ys : List Value), vs.length = x.length → (∀ (j : Nat) (v : Value), vs[j]? = some v → ∃ c u, x[j]? = some c ∧ v = .str (mkS [c]) u) → Paired fF (vs.filter fun _ => true) ys → IntsAre ys (x.map fv)
  | [], vs, ys, hl, hv, hp => by
    rw [List.length_eq_zero_iff.mp hl] at hp
    cases hp
    exact .nil
  | c :: x, [], ys, hl, hv, hp => by cases hl
  | c :: x, v :: vs, ys, hl, hv, hp => by
    obtain ⟨c', t, e, rfl⟩ := hv 0 v rfl
    cases Option.some.inj e
    cases hp with
    | cons hf hp =>
      obtain ⟨k, t', u, e, rfl⟩ := hf
      injection e with e _
      cases mkS_inj e
      exact .cons _ _ (ints_of_row x vs _ (Nat.succ.inj hl) (fun j v hj => hv (j + 1) v hj) hp)
local macro_rules | `(tactic| walk_at "eval Name") => `(tactic| first
  | refine nameX_L (by assumption) rfl ?_
  | refine nm_local rfl rfl (by assumption) (by assumption) ?_
  | refine nm_cell rfl rfl rfl (by assumption) ?_)
theorem rd_pair {w : World} {A : Around} {s₀ s : Shared} {L : Addr} {nm : Str} {Q : Flow → Shared → Prop} {E : Value → Shared → Prop} {m : Str → Option Value} {news : List (Addr × Obj)}
    (hh : A.handled = none) (F : Fr s₀.heap L s.heap m) (N : News s₀.heap L s.heap news) {p : List Nat} {tx : Tok} {tp : Tok} {oc : Obj} (hx : p.length ≤ 100000) (hx8 : ∀ c ∈ p, c < 256) (hm : m "part" = some (.str (mkS p) tx))
    (hoc : (L + 1, oc) ∈ news) (hoc' : oc.data = .cell (some (.str (Str.ofString "0123456789ABCDEF") tp)))
    (h : ∀ D h' tk ys n, Fr s₀.heap L h' (fun z => if z = "pair" then some (.ref D) else m z) → News s₀.heap L h' ((D, lst ys n) :: news) → IntsAre ys ((p.take 2).map fv) → Q .next { s with heap := h', toks := tk }) :
    wpAny (model PR w) A (exec (nth (sBody (nth (fBody (stm 20)) 3)) 0) (rdEnv nm L)) Q E s := by
  w_on
  refine wpAny_Assign_ListComp_free (cl := [("figures", L + 1)]) (fun _ => true) fF ?hsw ?hclos ?hcell ?hkind ?hnames ?hx ?hy ?hp ?_
  case hsw => rfl
  case hclos => rfl
  case hcell => decide +kernel
  case hkind => rfl
  case hnames => decide +kernel
  case hx => rfl
  case hy => rfl
  case hp => rfl
  have hmp := mkS_length p
  have ho := over_eq (l := [("part", .str (mkS p) tx)]) (m := m) (List.forall_mem_cons.mpr ⟨hm, List.forall_mem_nil _⟩)
  rw [← ho] at F
  repeat' walk1
  rename_i h1 t1 k1 F1 N1 _
  rw [ho] at F1
  have e2 : Txt.slice (mkS p) none (some 2) = mkS (p.take 2) := slice_upto p 2
  rw [e2]
  dsimp only
  have hl2 : (p.take 2).length ≤ 2 := List.length_take_le _ _
  have h82 : ∀ c ∈ p.take 2, c < 256 := fun c hc => hx8 c (List.mem_of_mem_take hc)
  generalize p.take 2 = x at hl2 h82 h ⊢
  refine wpAny_pyIter_str fun o St W hst => ?_
  refine ⟨_, _, _, _, _, _, m, rfl, walks_lt (W A hh), by rw [sizeLine_eq]; show x.toArray.size ≤ _; simp; omega, hst, ?_, ?_, ?_, ⟨?_, ?_⟩, ?_⟩
  · intro b hb; rw [List.mem_singleton.mp hb, Heap.size_push]; exact Nat.lt_succ_self _
  · intro q
    have q' : L = h1.objs.size := List.mem_singleton.mp q
    exact absurd F1.ns.lt (by rw [q']; exact Nat.lt_irrefl _)
  · exact (F1.push _).ns
  · intro C i v s₃ m₃ E' hC hP hn hm hk ht
    exact wpAny_tests_nil ⟨rfl, _, _, rfl, fun _ _ e => e⟩
  · intro C i v s₃ m₃ E' hC hP hp hn hm hk ht
    obtain ⟨hi, c, u, hc, rfl⟩ := hP
    have hc8 : c < 256 := h82 c (List.mem_of_getElem? (by have hc' : x.toArray[i]? = some c := hc; simpa using hc'))
    have hcl : s₃.heap.IsCell (L + 1) (some (.str (Str.ofString "0123456789ABCDEF") tp)) := ⟨oc, hk _ _ (fun q => by
      rw [List.mem_singleton] at q
      have := Heap.lt_size (N1 _ hoc).1
      rw [q] at this; exact absurd this (Nat.lt_irrefl _)) (Heap.get?_push_of_some _ (N1 _ hoc).1), hoc'⟩
    refine wpAny_mono (Q := fun y s₄ => KF fF (.str (mkS [c]) u) s₃ y s₄) ?_ (fun _ _ z => z) (fun _ _ z => z)
    clear F1 N1 hk
    repeat' walk1
    have hfd : Txt.find (Str.ofString "0123456789ABCDEF") ⟨#[c]⟩ = fv c := find_fig hc8
    rw [hfd]
    exact ⟨⟨_, _, _, rfl, rfl⟩, _, _, rfl, fun _ _ e => e⟩
  · intro D h' tk ys vs hD hl hpl hvl hP hF hn hk
    obtain ⟨F₂, n₂, N₂⟩ := comp_news2 (s₂ := { s with heap := h1.push o, toks := _ }) (F1.push _) (fun p hp => ⟨Heap.get?_push_of_some _ (N1 p hp).1, (N1 p hp).2⟩) (fr_low F1 news N1) hD hpl hn hk
    exact h D h' tk _ n₂ F₂ N₂ (ints_of_row x vs _ (by rw [hvl]; rfl) (fun j v e => by
      obtain ⟨_, c, u, hc, rfl⟩ := hP j v e
      exact ⟨c, u, by have hc' : x.toArray[j]? = some c := hc; simpa using hc', rfl⟩) hF)
end Mine
end
section
set_option maxRecDepth 100000
set_option maxHeartbeats 1000000
set_option linter.unusedVariables false
namespace Mine
theorem anew35 : True := by
  w_top off
  first | walk1 | trivial
open PySem PySem.W PySem.Calls PyProof.Rows
noncomputable def stepR (acc p : List Nat) : Option (List Nat) := match p with
  | a :: b :: rest => match hexV a, hexV b with
    | some u, some v => some (acc ++ [16 * u + v] ++ rest)
    | _, _ => none
  | _ => none
theorem readGo_cons (acc p : List Nat) (ps : List (List Nat)) : readGo acc (p :: ps) = match stepR acc p with | some a => readGo a ps | none => none := by
  rcases p with _ | ⟨a, _ | ⟨b, rest⟩⟩
  · simp [readGo, stepR]
  · simp [readGo, stepR]
  · simp only [readGo, stepR]
    cases hexV a <;> cases hexV b <;> rfl
theorem fv_neg {c : Nat} : fv c < 0 ↔ hexV c = none := by
  unfold fv
  cases hexV c with
  | none => simp
  | some v => simp
theorem fv_val {c v : Nat} (h : hexV c = some v) : fv c = v := by unfold fv; rw [h]
theorem gn_min (P : Params) : gN P "min" = none := by kernel_rfl
theorem bo_min : bootBuiltins "min" = some (.builtin "min") := by kernel_rfl
local macro_rules | `(tactic| walk_at "eval Name") => `(tactic| first
  | refine nm_local rfl rfl (Fr.ns (by assumption)) rfl ?_
  | ((with_reducible show wpAny _ _ (eval (PySem.Expr.Name (Str.ofString "len") _) _) _ _ _); refine nm_boot rfl rfl rfl rfl (by assumption) (Fr.keep (by assumption)) (fr_top (by assumption) (by assumption)) (gn_len _) bo_len (by decide) ?_)
  | ((with_reducible show wpAny _ _ (eval (PySem.Expr.Name (Str.ofString "min") _) _) _ _ _); refine nm_boot rfl rfl rfl rfl (by assumption) (Fr.keep (by assumption)) (fr_top (by assumption) (by assumption)) (gn_min _) bo_min (by decide) ?_)
  | ((with_reducible show wpAny _ _ (eval (PySem.Expr.Name (Str.ofString "chr") _) _) _ _ _); refine nm_boot rfl rfl rfl rfl (by assumption) (Fr.keep (by assumption)) (fr_top (by assumption) (by assumption)) (gn_chr _) bo_chr (by decide) ?_))
local macro_rules | `(tactic| walk_at "storeName") => `(tactic| (refine storeX_L (by assumption) (by assumption) ?_; intro _ _ _))
theorem rd_turn {w : World} {A : Around} {s₀ s : Shared} {L : Addr} {nm : Str} {Q : Flow → Shared → Prop} {E : Value → Shared → Prop} {mean mg mb} {m : Str → Option Value} {news : List (Addr × Obj)} (T : Top vq (looseW vq looseN) mean mg mb s₀.heap) (Y : TopH w s₀.heap)
    (hh : A.handled = none) {p acc : List Nat} {tx ta : Tok} {tp : Tok} {oc : Obj} (F : Fr s₀.heap L s.heap (over [("part", .str (mkS p) tx), ("read", .str (mkS acc) ta)] m)) (N : News s₀.heap L s.heap news) (hx : p.length ≤ 100000) (ha : acc.length ≤ 100000) (hx8 : ∀ c ∈ p, c < 256)
    (hoc : (L + 1, oc) ∈ news) (hoc' : oc.data = .cell (some (.str (Str.ofString "0123456789ABCDEF") tp)))
    (hnone : stepR acc p = none → ∀ h' tk, (∀ b o, s₀.heap.get? b = some o → h'.get? b = some o) → Q (.ret .none) { s with heap := h', toks := tk })
    (hsome : ∀ a, stepR acc p = some a → ∀ h' tk m' t', Fr s₀.heap L h' m' → m' "read" = some (.str (mkS a) t') → News s₀.heap L h' news → Q .next { s with heap := h', toks := tk }) :
    wpAny (model PR w) A (execs (sBody (nth (fBody (stm 20)) 3)) (rdEnv nm L)) Q E s := by
  w_on
  have hmp := mkS_length p
  have hma := mkS_length acc
  refine wpAny_execs_cons ?_
  refine rd_pair hh F N hx hx8 rfl hoc hoc' ?_
  intro D h1 tk1 ys k F1 N1 hI
  have hlen := hI.length
  rw [List.length_map, List.length_take] at hlen
  dsimp only
  clear F
  have N2 : News s₀.heap L h1 news := News.sub N1 fun p hp => .tail _ hp
  rcases p with _ | ⟨a, _ | ⟨b, rest⟩⟩
  · repeat' walk1
    refine len_news (vs := ys) (ep := k) N1 (.head _) (by omega) fun u tk => ?_
    dsimp only
    repeat' walk1
    · exact hnone rfl _ _ F1.keep
    · exfalso; simp at hlen; subst hlen; simp at *
  · repeat' walk1
    refine len_news (vs := ys) (ep := k) N1 (.head _) (by omega) fun u tk => ?_
    dsimp only
    repeat' walk1
    · exact hnone rfl _ _ F1.keep
    · exfalso; simp at hlen; omega
  · repeat' walk1
    refine len_news (vs := ys) (ep := k) N1 (.head _) (by omega) fun u tk => ?_
    dsimp only
    repeat' walk1
    · exfalso; simp at hlen; omega
    · have hI' : IntsAre ys [fv a, fv b] := hI
      refine min_list_N hh F1 N1 ⟨_, (N1 _ (.head _)).1, rfl, k, rfl⟩ hI' (by simp) ?_
      intro h2 M tM tk2 F2 N3 hM hle
      have hMa := hle (fv a) (by simp)
      have hMb := hle (fv b) (by simp)
      have hMor : M = fv a ∨ M = fv b := by simpa using hM
      have N4 : News s₀.heap L h2 news := News.sub N3 fun p hp => .tail _ hp
      clear F1 N1 N2
      dsimp only
      iterate 5 walk1
      · repeat' walk1
        refine hnone ?_ _ _ F2.keep
        unfold stepR
        dsimp only
        rcases hMor with q | q
        · rw [fv_neg.mp (by omega : fv a < 0)]
        · rw [fv_neg.mp (by omega : fv b < 0)]
          cases hexV a <;> rfl
      · obtain ⟨va, hva⟩ : ∃ v, hexV a = some v := by
          cases hq : hexV a with
          | none => have := fv_neg.mpr hq; omega
          | some v => exact ⟨v, rfl⟩
        obtain ⟨vb, hvb⟩ : ∃ v, hexV b = some v := by
          cases hq : hexV b with
          | none => have := fv_neg.mpr hq; omega
          | some v => exact ⟨v, rfl⟩
        have hva16 := hexV_lt hva
        have hvb16 := hexV_lt hvb
        rw [fv_val hva, fv_val hvb] at hI'
        cases hI' with
        | cons _ ta1 hI2 =>
        cases hI2 with
        | cons _ tb1 hI3 =>
        cases hI3
        clear N4
        repeat' walk1
        have hval : 16 * (List.map fv (List.take 2 (a :: b :: rest))).getD (Int.toNat 0) 0 + (List.map fv (List.take 2 (a :: b :: rest))).getD (Int.toNat 1) 0 = ((16 * va + vb : Nat) : Int) := by
          show 16 * fv a + fv b = _
          rw [fv_val hva, fv_val hvb]; omega
        rw [hval]
        dsimp only
        repeat' walk1
        (with_reducible rename News _ _ _ _ => N5)
        have hst : stepR acc (a :: b :: rest) = some (acc ++ [16 * va + vb] ++ rest) := by
          unfold stepR; dsimp only; rw [hva, hvb]
        have e1 : Txt.slice (mkS (a :: b :: rest)) (some 2) none = mkS rest := slice_sn (a :: b :: rest) (a := 2) (by simp)
        have e2 : mkS acc ++ (⟨#[((16 * va + vb : Nat) : Int).toNat]⟩ : Str) ++ mkS rest = mkS (acc ++ [16 * va + vb] ++ rest) := by
          rw [Int.toNat_natCast]
          show mkS acc ++ mkS [16 * va + vb] ++ mkS rest = _
          rw [mkS_append, mkS_append]
        refine' hsome _ hst _ _ _ _ (by assumption) ?hrd (News.sub N5 fun p hp => .tail _ hp)
        case hrd =>
          rw [← e2, ← e1]
          rfl
end Mine
end
section
set_option maxRecDepth 100000
set_option maxHeartbeats 1000000
set_option linter.unusedVariables false
namespace Mine
theorem anew36 : True := by
  w_top off
  first | walk1 | trivial
open PySem PySem.W PySem.Calls PyProof.Rows
noncomputable abbrev bsEnv (nm : Str) (L : Addr) : Env := envX nm (fScope (stm 21)) L 67 (.ref 66) [("ways", L + 1)]
/-- an object that is a pair of ints -/
def PairO (o : Obj) (p : Nat × Nat) : Prop := ∃ n t u, o = { cls := .type "tuple", data := .seq #[.int (p.1 : Int) t, .int (p.2 : Int) u] n }
/-- a table of the law: the dict's pairs and what they mean -/
inductive DW (news : List (Addr × Obj)) : List (Int × Value) → List (Nat × (Nat × Nat)) → Prop
  | nil : DW news [] []
  | cons {k : Nat} {v : Nat × Nat} {a : Addr} {o : Obj} {kvs : List (Int × Value)} {W : List (Nat × (Nat × Nat))} : (a, o) ∈ news → PairO o v → DW news kvs W → DW news (((k : Int), .ref a) :: kvs) ((k, v) :: W)
theorem DW.length {news : List (Addr × Obj)} {kvs : List (Int × Value)} {W : List (Nat × (Nat × Nat))} (h : DW news kvs W) : kvs.length = W.length := by
  induction h with
  | nil => rfl
  | cons _ _ _ ih => rw [List.length_cons, List.length_cons, ih]
theorem DW.sub {a b : List (Addr × Obj)} {kvs : List (Int × Value)} {W : List (Nat × (Nat × Nat))} (h : DW a kvs W) (hs : ∀ p ∈ a, p ∈ b) : DW b kvs W := by
  induction h with
  | nil => exact .nil
  | cons hm hp _ ih => exact .cons (hs _ hm) hp ih
theorem DW.item {news : List (Addr × Obj)} {kvs : List (Int × Value)} {W : List (Nat × (Nat × Nat))} (h : DW news kvs W) : ∀ {i : Nat} {k : Int} {z : Value}, kvs[i]? = some (k, z) → ∃ u v a o, W[i]? = some (u, v) ∧ k = (u : Int) ∧ z = .ref a ∧ (a, o) ∈ news ∧ PairO o v := by
  induction h with
  | nil => intro i k z h; cases h
  | @cons u v a o kvs W hm hp _ ih =>
    intro i k z h
    cases i with
    | zero =>
      have := Option.some.inj h
      injection this with h1 h2
      exact ⟨u, v, a, o, rfl, h1.symm, h2.symm, hm, hp⟩
    | succ i => exact ih h
theorem DW.value {news : List (Addr × Obj)} {kvs : List (Int × Value)} {W : List (Nat × (Nat × Nat))} (h : DW news kvs W) (k : Nat) : (∃ a o v, valueAt kvs (k : Int) = some (.ref a) ∧ (a, o) ∈ news ∧ PairO o v ∧ ∀ d, getW W k d = v) ∨ (valueAt kvs (k : Int) = none ∧ ∀ d, getW W k d = d) := by
  induction h with
  | nil => exact .inr ⟨rfl, fun _ => rfl⟩
  | @cons u v a o kvs W hm hp _ ih =>
    by_cases hk : u = k
    · subst hk
      refine .inl ⟨a, o, v, ?_, hm, hp, fun d => ?_⟩
      · unfold valueAt; simp
      · unfold getW; simp
    · have e1 : valueAt (((u : Int), Value.ref a) :: kvs) (k : Int) = valueAt kvs (k : Int) := by
        unfold valueAt
        rw [List.find?_cons_of_neg (by simp; omega)]
      have e2 : ∀ d, getW ((u, v) :: W) k d = getW W k d := fun d => by
        unfold getW
        rw [List.find?_cons_of_neg (by simpa using hk)]
      rw [e1]
      simp only [e2]
      exact ih
theorem DW.any {news : List (Addr × Obj)} {kvs : List (Int × Value)} {W : List (Nat × (Nat × Nat))} (h : DW news kvs W) (k : Nat) : kvs.any (fun kv => kv.1 = (k : Int)) = W.any (fun e => e.1 = k) := by
  induction h with
  | nil => rfl
  | @cons u v a o kvs W _ _ _ ih =>
    rw [List.any_cons, List.any_cons, ih]
    congr 1
    by_cases hk : u = k
    · simp [hk]
    · rw [decide_eq_false hk, decide_eq_false (by omega)]
theorem DW.stored {news : List (Addr × Obj)} {kvs : List (Int × Value)} {W : List (Nat × (Nat × Nat))} (h : DW news kvs W) {k : Nat} {v : Nat × Nat} {a : Addr} {o : Obj} (hm : (a, o) ∈ news) (hp : PairO o v) : DW news (stored kvs (k : Int) (.ref a)) (setW W k v) := by
  have hmap : DW news (kvs.map fun kv => if kv.1 = (k : Int) then (kv.1, .ref a) else kv) (W.map fun e => if e.1 = k then (e.1, v) else e) := by
    induction h with
    | nil => exact .nil
    | @cons u v' a' o' kvs W hm' hp' _ ih =>
      rw [List.map_cons, List.map_cons]
      dsimp only
      by_cases hk : u = k
      · rw [if_pos (by omega), if_pos hk]; exact .cons hm hp ih
      · rw [if_neg (by omega), if_neg hk]; exact .cons hm' hp' ih
  have happ : DW news (kvs ++ [((k : Int), .ref a)]) (W ++ [(k, v)]) := by
    clear hmap
    induction h with
    | nil => exact .cons hm hp .nil
    | cons hm' hp' _ ih => exact .cons hm' hp' ih
  unfold PySem.stored setW
  rw [h.any k]
  split
  · exact hmap
  · exact happ
theorem PairO.isP {h₀ h : Heap} {L a : Addr} {o : Obj} {p : Nat × Nat} {news : List (Addr × Obj)} (N : News h₀ L h news) (hm : (a, o) ∈ news) (hp : PairO o p) : IsP h a p := by
  obtain ⟨n, t, u, rfl⟩ := hp
  exact ⟨_, n, t, u, (N _ hm).1, rfl, rfl⟩
def keepAll (h h' : Heap) : Prop := ∀ b o, h.get? b = some o → h'.get? b = some o
theorem fr_keep {h₀ h h' : Heap} {L : Addr} {m : Str → Option Value} (F : Fr h₀ L h m) (k : keepAll h h') : Fr h₀ L h' m := ⟨F.ns.at' fun o e => k _ o e, fun b o e => k b o (F.keep b o e), F.above⟩
theorem news_keep {h₀ h h' : Heap} {L : Addr} {news : List (Addr × Obj)} (N : News h₀ L h news) (k : keepAll h h') : News h₀ L h' news := fun p hp => ⟨k _ _ (N p hp).1, (N p hp).2⟩
local macro_rules | `(tactic| walk_at "eval Name") => `(tactic| first
  | refine nm_local rfl rfl (Fr.ns (by assumption)) rfl ?_
  | ((with_reducible show wpAny _ _ (eval (PySem.Expr.Name (Str.ofString "min") _) _) _ _ _); refine nm_boot rfl rfl rfl rfl (by assumption) (Fr.keep (by assumption)) (fr_top (by assumption) (by assumption)) (gn_min _) bo_min (by decide) ?_))
/-- after[fill] = min(after.get(fill, way), way) -/
theorem bs_put {w : World} {A : Around} {s₀ s : Shared} {L D : Addr} {nm : Str} {Q : Flow → Shared → Prop} {E : Value → Shared → Prop} {mean mg mb} {m : Str → Option Value} {rest tb : List (Addr × Obj)} (htb : ∀ p ∈ tb, p ∈ rest) (T : Top vq (looseW vq looseN) mean mg mb s₀.heap) (Y : TopH w s₀.heap)
    (hh : A.handled = none) (hu : A.units + 1 < cLine) {o : Obj} {kvs : List (Int × Value)} {W : List (Nat × (Nat × Nat))} {f : Nat} {v : Nat × Nat} {a : Addr} {oa : Obj} {tf : Tok}
    (F : Fr s₀.heap L s.heap (over [("after", .ref D), ("fill", .int (f : Int) tf), ("way", .ref a)] m)) (N : News s₀.heap L s.heap ((D, o) :: rest)) (hoff : ∀ p ∈ rest, p.1 ≠ D) (lo : (D == sysModules) = false) (hd : o.IsDictOf (intKind PR w) kvs) (hW : DW tb kvs W) (hWl : W.length ≤ 1000)
    (ha : (a, oa) ∈ tb) (hpa : PairO oa v)
    (h : ∀ h' tk o' kvs', Fr s₀.heap L h' (over [("after", .ref D), ("fill", .int (f : Int) tf), ("way", .ref a)] m) → News s₀.heap L h' ((D, o') :: rest) → o'.IsDictOf (intKind PR w) kvs' → DW tb kvs' (putW W (f, v)) → Q .next { s with heap := h', toks := tk }) :
    wpAny (model PR w) A (execs (sBody (nth (sBody (nth (sBody (nth (sBody (nth (fBody (stm 21)) 1)) 3)) 1)) 3)) (bsEnv nm L)) Q E s := by
  w_on
  have hki : (intKind PR w).is (f : Int) (.int (f : Int) tf) = true := intKind_is _ _ _ _
  have hpay := PairO.isP N (.tail _ (htb _ ha)) hpa
  refine wpAny_execs_cons ?_
  iterate 7 walk1
  refine kdg_method (knd := intKind PR w) N (.head _) hd ?_
  dsimp only
  iterate 6 walk1
  obtain ⟨ax, ox, hval, hmx, hpx⟩ : ∃ ax ox, (valueAt kvs (f : Int)).getD (.ref a) = .ref ax ∧ (ax, ox) ∈ tb ∧ PairO ox (getW W f v) := by
    rcases hW.value f with ⟨a', o', v', e1, e2, e3, e4⟩ | ⟨e1, e2⟩
    · exact ⟨a', o', by rw [e1]; rfl, e2, by rw [e4]; exact e3⟩
    · exact ⟨a, oa, by rw [e1]; rfl, ha, by rw [e2]; exact hpa⟩
  have hpxp := PairO.isP N (.tail _ (htb _ hmx)) hpx
  refine kdg_get2 (knd := intKind PR w) (key := .int (f : Int) tf) (dflt := .ref a) N (.head _) hd lo hki _ rfl ?_
  rw [hval]
  try dsimp only
  iterate 3 walk1
  refine min_two_pairs hh hu hpxp hpay ?_
  intro h1 tk1 hk1
  have F1 := fr_keep F hk1
  have N1 := news_keep N hk1
  -- what min gives
  obtain ⟨az, oz, hz, hmz, hpz⟩ : ∃ az oz, (if ltW v (getW W f v) = true then a else ax) = az ∧ (az, oz) ∈ tb ∧ PairO oz (minW (getW W f v) v) := by
    unfold minW
    by_cases hq : ltW v (getW W f v) = true
    · rw [if_pos hq, if_pos hq]; exact ⟨a, oa, rfl, ha, hpa⟩
    · rw [if_neg hq, if_neg hq]; exact ⟨ax, ox, rfl, hmx, hpx⟩
  rw [hz]
  clear F N
  dsimp only
  repeat' walk1
  have hkl := hW.length
  refine kda_set (knd := intKind PR w) (g := fun o' => (D, o') :: rest) F1 N1 (.head hoff) hd hki (by rw [sizeLine_eq]; omega) ?_
  intro h2 o2 F2 N2 hd2
  dsimp only
  walk1
  exact h _ _ o2 _ F2 N2 hd2 (hW.stored hmz hpz)
end Mine
end
section
open PySem PySem.W PySem.Calls PyProof.Rows Mine
local macro_rules | `(tactic| walk_at "storeName") => `(tactic| (refine storeX_L (by assumption) (by assumption) ?_; intro _ _ _))
local macro_rules | `(tactic| walk_at "known") => `(tactic| (repeat' (first | exact List.forall_mem_nil _ | refine List.forall_mem_cons.mpr ⟨rfl, ?_⟩)))
section
set_option maxRecDepth 100000
set_option maxHeartbeats 1000000
set_option linter.unusedVariables false
namespace Mine
theorem anew37 : True := by
  w_top off
  first | walk1 | trivial
open PySem PySem.W PySem.Calls PyProof.Rows
/-- an object (fill, way) whose way is a pair that stands in the ledger -/
def StepO (news : List (Addr × Obj)) (o : Obj) (c : Nat × (Nat × Nat)) : Prop := ∃ n t a oa, o = { cls := .type "tuple", data := .seq #[.int (c.1 : Int) t, .ref a] n } ∧ (a, oa) ∈ news ∧ PairO oa c.2
inductive StepsAre (news : List (Addr × Obj)) : List Value → List (Nat × (Nat × Nat)) → Prop
  | nil : StepsAre news [] []
  | cons {b : Addr} {o : Obj} {c : Nat × (Nat × Nat)} {vs : List Value} {cs : List (Nat × (Nat × Nat))} : (b, o) ∈ news → StepO news o c → StepsAre news vs cs → StepsAre news (.ref b :: vs) (c :: cs)
theorem StepsAre.length {news : List (Addr × Obj)} {vs : List Value} {cs : List (Nat × (Nat × Nat))} (h : StepsAre news vs cs) : vs.length = cs.length := by
  induction h with
  | nil => rfl
  | cons _ _ _ ih => rw [List.length_cons, List.length_cons, ih]
theorem StepsAre.item {news : List (Addr × Obj)} {vs : List Value} {cs : List (Nat × (Nat × Nat))} (h : StepsAre news vs cs) : ∀ {i : Nat} {v : Value}, vs[i]? = some v → ∃ b o c, v = .ref b ∧ cs[i]? = some c ∧ (b, o) ∈ news ∧ StepO news o c := by
  induction h with
  | nil => intro i v h; cases h
  | @cons b o c vs cs hm hs _ ih =>
    intro i v h
    cases i with
    | zero => exact ⟨b, o, c, (Option.some.inj h).symm, rfl, hm, hs⟩
    | succ i => exact ih h
/-- the names that the inner loops only read -/
noncomputable def bsBase (D S Fm : Addr) (n u Ln Sg wd mo : Nat) (t0 t1 t2 t3 t4 t5 tr : Tok) (rS : Str) : List (Str × Value) :=
  [("length", .int (n : Int) t0), ("used", .int (u : Int) t1), ("lines", .int (Ln : Int) t2), ("signs", .int (Sg : Int) t3), ("width", .int (wd : Int) t4), ("more", .int (mo : Int) t5), ("after", .ref D), ("steps", .ref S), ("forms", .ref Fm), ("row", .str rS tr)]
theorem setW_len (W : List (Nat × (Nat × Nat))) (k : Nat) (v : Nat × Nat) : (setW W k v).length ≤ W.length + 1 := by
  unfold setW; split
  · rw [List.length_map]; omega
  · rw [List.length_append]; exact Nat.le_refl _
theorem fold_len : ∀ (cs : List (Nat × (Nat × Nat))) (W : List (Nat × (Nat × Nat))), (cs.foldl putW W).length ≤ W.length + cs.length
  | [], W => Nat.le_refl _
  | c :: cs, W => by
    have := fold_len cs (putW W c)
    have h2 := setW_len W c.1 (minW (getW W c.1 c.2) c.2)
    rw [List.foldl_cons, List.length_cons]
    unfold putW at *
    omega
def TupO (o : Obj) : Prop := o.cls = .type "tuple" ∧ NI o
def Fresh (a b : List (Addr × Obj)) : Prop := ∀ p ∈ b, p ∈ a ∨ TupO p.2
theorem Fresh.refl (a : List (Addr × Obj)) : Fresh a a := fun p hp => .inl hp
theorem Fresh.trans {a b c : List (Addr × Obj)} (x : Fresh a b) (y : Fresh b c) : Fresh a c := fun p hp => (y p hp).elim (x p) .inr
local macro_rules | `(tactic| walk_at "eval Name") => `(tactic| first
  | refine nm_local rfl rfl (Fr.ns (by assumption)) rfl ?_)
theorem tup_unpack {w : World} {A : Around} {E : Value → Shared → Prop} {s : Shared} {h₀ : Heap} {L a : Addr} {m : Str → Option Value} {env : Env} {news : List (Addr × Obj)} {x y : Str} {p1 p2 pos : Pos} {k} {v1 v2 : Value} {n : Nat} {Q : Unit → Shared → Prop} (hh : A.handled = none) (F : Fr h₀ L s.heap m) (N : News h₀ L s.heap news)
    (hm : (a, ({ cls := .type "tuple", data := .seq #[v1, v2] n } : Obj)) ∈ news)
    (h : ∀ h', Fr h₀ L h' m → News h₀ L h' news → wpAny (model PR w) A (storeName env x v1) (fun _ s₂ => wpAny (model PR w) A (storeName env y v2) Q E s₂) E { s with heap := h' }) :
    wpAny (model PR w) A (assign (.Tuple [.Name x p1, .Name y p2] k pos) env (.ref a)) Q E s := by
  refine unpackN_ F N (News.isTup N hm) hh rfl rfl fun h' F' N' => ?_
  show wpAny _ _ (assignInOrder [assign (.Name x p1) env, assign (.Name y p2) env] [v1, v2]) _ _ _
  refine wpAny_bind (wpAny_holding (wpAny_assign_Name (wpAny_mono (h h' F' N') (fun _ s₂ h₂ => ?_) fun _ _ e => e)))
  exact wpAny_bind (wpAny_holding (wpAny_assign_Name (wpAny_mono h₂ (fun _ s₃ h₃ => wpAny_pure h₃) fun _ _ e => e)))
theorem bs_loop {w : World} {A : Around} {s₀ s : Shared} {L D S Fm : Addr} {nm : Str} {Q : Flow → Shared → Prop} {E : Value → Shared → Prop} {mean mg mb} {m : Str → Option Value} {rest : List (Addr × Obj)} (T : Top vq (looseW vq looseN) mean mg mb s₀.heap) (Y : TopH w s₀.heap) (hE : PassesOwn (model PR w) A (bsEnv nm L) E)
    (hh : A.handled = none) (hu : A.units + 1 < cLine) {o : Obj} {kvs : List (Int × Value)} {W : List (Nat × (Nat × Nat))} {n u Ln Sg wd mo : Nat} {t0 t1 t2 t3 t4 t5 tr : Tok} {rS : Str} {vs : List Value} {cs : List (Nat × (Nat × Nat))} {ep : Nat}
    (F : Fr s₀.heap L s.heap m) (hm : ∀ p ∈ bsBase D S Fm n u Ln Sg wd mo t0 t1 t2 t3 t4 t5 tr rS, m p.1 = some p.2) (N : News s₀.heap L s.heap ((D, o) :: rest)) (hoff : ∀ p ∈ rest, p.1 ≠ D) (lo : (D == sysModules) = false) (hd : o.IsDictOf (intKind PR w) kvs) (hW : DW rest kvs W) (hWl : W.length + cs.length ≤ 1000)
    (hS : (S, lst vs ep) ∈ rest) (hcs : StepsAre rest vs cs)
    (h : ∀ h' tk m' o' kvs', Fr s₀.heap L h' m' → (∀ p ∈ bsBase D S Fm n u Ln Sg wd mo t0 t1 t2 t3 t4 t5 tr rS, m' p.1 = some p.2) → News s₀.heap L h' ((D, o') :: rest) → o'.IsDictOf (intKind PR w) kvs' → DW rest kvs' (cs.foldl putW W) → Q .next { s with heap := h', toks := tk }) :
    wpAny (model PR w) A (execs ((sBody (nth (sBody (nth (sBody (nth (fBody (stm 21)) 1)) 3)) 1)).drop 3) (bsEnv nm L)) Q E s := by
  w_on
  rw [← over_eq hm] at F
  unfold bsBase at F
  refine wpAny_execs_cons ?_
  refine wpAny_For ?_
  walk1
  have hcl := hcs.length
  have hDlt := Heap.lt_size (N _ (.head _)).1
  refine iterG_list (vs := vs) (fun i m news => ∃ o' kvs', news = (D, o') :: rest ∧ o'.IsDictOf (intKind PR w) kvs' ∧ DW rest kvs' ((cs.take i).foldl putW W) ∧ ∀ p ∈ bsBase D S Fm n u Ln Sg wd mo t0 t1 t2 t3 t4 t5 tr rS, m p.1 = some p.2) hh
    ⟨_, (N _ (.tail _ hS)).1, rfl, ep, rfl⟩ (N _ (.tail _ hS)).2.1 F N ⟨o, kvs, rfl, hd, hW, ?_⟩ hE ?_ ?_ ?_
  · unfold bsBase; walk_at "known"
  · intro a v i s' Q' E' hv hit hq
    obtain ⟨b, _, _, rfl, _⟩ := hcs.item hv
    exact wpAny_letOwnedTupleGo_listiter hit hq
  · rintro i v m₁ news₁ s₁ own ⟨h1, tk1, rfl⟩ hv ⟨o', kvs', rfl, hd', hW', hm'⟩ hown hown2 F₁ N₁
    obtain ⟨b, ob, ⟨f, wv⟩, rfl, hc, hmb, hso⟩ := hcs.item hv
    obtain ⟨nn, tt, aa, oa, rfl, haa, hpa⟩ := hso
    clear F N
    dsimp only at F₁ N₁
    rw [← over_eq hm'] at F₁
    unfold bsBase at F₁
    have N2 : News s₀.heap L h1 ((D, o') :: (rest ++ own)) := N₁
    refine tup_unpack hh F₁ N2 (.tail _ (List.mem_append_left _ hmb)) ?_
    intro h2 F2 N3
    iterate 2 walk1
    rename_i h3 _ _ h4 F4 N4
    have F5 := fr_over (l := [("after", .ref D), ("fill", .int (f : Int) tt), ("way", .ref aa)]) F4 (by walk_at "known")
    have hl1 := fold_len (cs.take i) W
    have hl2 := List.length_take_le i cs
    have hl3 : (cs.take i).length ≤ cs.length := by rw [List.length_take]; omega
    have hoff' : ∀ p ∈ rest ++ own, p.1 ≠ D := fun p hp => by
      rcases List.mem_append.mp hp with hp | hp
      · exact hoff p hp
      · intro q
        rcases hown p hp with e | e
        · exact absurd hDlt (by rw [← q, e]; exact Nat.lt_irrefl _)
        · exact hoff _ hS (e ▸ q)
    refine bs_put (tb := rest) (fun p hp => List.mem_append_left _ hp) T Y hh hu F5 N4 hoff' lo hd' hW' (by omega) haa hpa ?_
    intro h5 tk5 o5 kvs5 F6 N6 hd6 hW6
    refine ⟨h5, _, _, (D, o5) :: rest, rfl, F6, N6, ?_, o5, kvs5, rfl, hd6, ?_, ?_⟩
    · intro p hp
      rcases List.mem_cons.mp hp with rfl | hp
      · exact .inl ⟨_, .head _, rfl⟩
      · exact .inl ⟨p, .tail _ hp, rfl⟩
    · rw [List.take_add_one, hc, List.foldl_append]; exact hW6
    · unfold bsBase; walk_at "known"
  · rintro m₁ news₁ h1 tk1 ⟨o', kvs', rfl, hd', hW', hm'⟩ F₁ N₁
    rw [hcl, List.take_length] at hW'
    exact wpAny_execs_nil (h _ _ _ _ _ F₁ hm' N₁ hd' hW')
end Mine
end
section
set_option maxRecDepth 100000
set_option maxHeartbeats 1000000
set_option linter.unusedVariables false
namespace Mine
theorem anew38 : True := by
  w_top off
  first | walk1 | trivial
open PySem PySem.W PySem.Calls PyProof.Rows
noncomputable def bsB0 (D Fm : Addr) (n u Ln Sg wd mo : Nat) (t0 t1 t2 t3 t4 t5 tr : Tok) (rS : Str) : List (Str × Value) :=
  [("length", .int (n : Int) t0), ("used", .int (u : Int) t1), ("lines", .int (Ln : Int) t2), ("signs", .int (Sg : Int) t3), ("width", .int (wd : Int) t4), ("more", .int (mo : Int) t5), ("after", .ref D), ("forms", .ref Fm), ("row", .str rS tr)]
local macro_rules | `(tactic| walk_at "eval Name") => `(tactic| first
  | refine nm_local rfl rfl (Fr.ns (by assumption)) rfl ?_)
theorem StepsAre.sub {a b : List (Addr × Obj)} {vs : List Value} {cs : List (Nat × (Nat × Nat))} (h : StepsAre a vs cs) (hs : ∀ p ∈ a, p ∈ b) : StepsAre b vs cs := by
  induction h with
  | nil => exact .nil
  | cons hm ho _ ih =>
    obtain ⟨n, t, x, ox, e, hx, hp⟩ := ho
    exact .cons (hs _ hm) ⟨n, t, x, ox, e, hs _ hx, hp⟩ ih
theorem StepsAre.snoc {a : List (Addr × Obj)} {vs : List Value} {cs : List (Nat × (Nat × Nat))} (h : StepsAre a vs cs) {b : Addr} {o : Obj} {c : Nat × (Nat × Nat)} (hm : (b, o) ∈ a) (ho : StepO a o c) : StepsAre a (vs ++ [.ref b]) (cs ++ [c]) := by
  induction h with
  | nil => exact .cons hm ho .nil
  | cons hm' ho' _ ih => exact .cons hm' ho' ih
/-- two objects of the ledger of unlike data lie apart -/
theorem ne_of_kind {h₀ h : Heap} {L a b : Addr} {oa ob : Obj} {news : List (Addr × Obj)} (N : News h₀ L h news) (ha : (a, oa) ∈ news) (hb : (b, ob) ∈ news) (hne : oa.cls ≠ ob.cls) : a ≠ b := by
  intro q
  subst q
  have h1 := (N _ ha).1
  have h2 := (N _ hb).1
  dsimp only at h1 h2
  rw [h1] at h2
  exact hne (by rw [Option.some.inj h2])
theorem app_two {w : World} {A : Around} {E : Value → Shared → Prop} {s : Shared} {h₀ : Heap} {L l : Addr} {m : Str → Option Value} {vs : List Value} {ep : Nat} {own : List (Addr × Obj)} {a b : Addr} {oa ob : Obj} {v : Value} {Q : Value → Shared → Prop} (F : Fr h₀ L s.heap m) (N : News h₀ L s.heap ((a, oa) :: (b, ob) :: (l, lst vs ep) :: own))
    (ha : oa.cls ≠ .type "list") (hb : ob.cls ≠ .type "list") (hoff : ∀ p ∈ own, p.1 ≠ l) (hsz : vs.length ≤ 1000000)
    (h : ∀ h', Fr h₀ L h' m → News h₀ L h' ((l, lst (vs ++ [v]) (ep + 1)) :: (a, oa) :: (b, ob) :: own) → Q .none { s with heap := h' }) : wpAny (model PR w) A (call (.builtin "list.append") [.ref l, v]) Q E s := by
  refine app_news (vs := vs) (ep := ep) (own := (a, oa) :: (b, ob) :: own) F (News.sub N ?_) ?_ hsz h
  · intro p hp
    rcases List.mem_cons.mp hp with rfl | hp
    · exact .tail _ (.tail _ (.head _))
    · rcases List.mem_cons.mp hp with rfl | hp
      · exact .head _
      · rcases List.mem_cons.mp hp with rfl | hp
        · exact .tail _ (.head _)
        · exact .tail _ (.tail _ (.tail _ hp))
  · intro p hp
    rcases List.mem_cons.mp hp with rfl | hp
    · exact ne_of_kind N (.head _) (.tail _ (.tail _ (.head _))) ha
    · rcases List.mem_cons.mp hp with rfl | hp
      · exact ne_of_kind N (.tail _ (.head _)) (.tail _ (.tail _ (.head _))) hb
      · exact hoff p hp
theorem add_end {h₀ : Heap} {L D S : Addr} {m : Str → Option Value} {o : Obj} {rest : List (Addr × Obj)} {cs cs' : List (Nat × (Nat × Nat))} {vs : List Value} {P : Heap → Nat → Prop}
    (h : ∀ h' tk ep' vs' rest', Fr h₀ L h' m → News h₀ L h' ((S, lst vs' ep') :: (D, o) :: rest') → (∀ p ∈ rest, p ∈ rest') → Fresh rest rest' → StepsAre rest' vs' cs' → P h' tk)
    {h3 : Heap} {tk3 ep3 : Nat} {a b : Addr} {oa ob : Obj} {c : Nat × (Nat × Nat)} (F3 : Fr h₀ L h3 m) (N3 : News h₀ L h3 ((S, lst (vs ++ [.ref a]) ep3) :: (a, oa) :: (b, ob) :: (D, o) :: rest)) (ha : TupO oa) (hb : TupO ob) (hcs : StepsAre rest vs cs) (hs : StepO ((a, oa) :: (b, ob) :: rest) oa c) (e : cs' = cs ++ [c]) : P h3 tk3 := by
  subst e
  refine h h3 tk3 ep3 (vs ++ [.ref a]) ((a, oa) :: (b, ob) :: rest) F3 (News.sub N3 ?_) (fun p hp => .tail _ (.tail _ hp)) ?_ ((hcs.sub fun p hp => .tail _ (.tail _ hp)).snoc (.head _) hs)
  · intro p hp
    rcases List.mem_cons.mp hp with rfl | hp
    · exact .head _
    · rcases List.mem_cons.mp hp with rfl | hp
      · exact .tail _ (.tail _ (.tail _ (.head _)))
      · rcases List.mem_cons.mp hp with rfl | hp
        · exact .tail _ (.head _)
        · rcases List.mem_cons.mp hp with rfl | hp
          · exact .tail _ (.tail _ (.head _))
          · exact .tail _ (.tail _ (.tail _ (.tail _ hp)))
  · intro p hp
    rcases List.mem_cons.mp hp with rfl | hp
    · exact .inr ha
    · rcases List.mem_cons.mp hp with rfl | hp
      · exact .inr hb
      · exact .inl hp
theorem fr_un {h₀ h : Heap} {L : Addr} {m : Str → Option Value} {l : List (Str × Value)} (hm : ∀ p ∈ l, m p.1 = some p.2) (F : Fr h₀ L h (over l m)) : Fr h₀ L h m := over_eq hm ▸ F
noncomputable abbrev bsBlock : List Stmt := sBody (nth (sBody (nth (sBody (nth (fBody (stm 21)) 1)) 3)) 1)
theorem bs_add1 {w : World} {A : Around} {s₀ s : Shared} {L D S Fm : Addr} {nm : Str} {Q : Flow → Shared → Prop} {E : Value → Shared → Prop} {m : Str → Option Value} {rest : List (Addr × Obj)}
    (hh : A.handled = none) {o : Obj} {n u Ln Sg wd mo : Nat} {t0 t1 t2 t3 t4 t5 tr : Tok} {rS : Str} {vs : List Value} {cs : List (Nat × (Nat × Nat))} {ep : Nat}
    (F : Fr s₀.heap L s.heap m) (hm : ∀ p ∈ bsBase D S Fm n u Ln Sg wd mo t0 t1 t2 t3 t4 t5 tr rS, m p.1 = some p.2) (N : News s₀.heap L s.heap ((S, lst vs ep) :: (D, o) :: rest)) (hoff : ∀ p ∈ (D, o) :: rest, p.1 ≠ S) (hcs : StepsAre rest vs cs) (hvl : vs.length ≤ 10)
    (h : ∀ h' tk ep' vs' rest', Fr s₀.heap L h' m → News s₀.heap L h' ((S, lst vs' ep') :: (D, o) :: rest') → (∀ p ∈ rest, p ∈ rest') → Fresh rest rest' → StepsAre rest' vs' (cs ++ if u + wd ≤ n then [(u + wd, (Ln + mo, Sg + wd))] else []) → wpAny (model PR w) A (execs (bsBlock.drop 2) (bsEnv nm L)) Q E { s with heap := h', toks := tk }) :
    wpAny (model PR w) A (execs (bsBlock.drop 1) (bsEnv nm L)) Q E s := by
  w_on
  rw [← over_eq hm] at F
  unfold bsBase at F
  refine wpAny_execs_cons ?_
  iterate 10 walk1
  · repeat' walk1
    rename_i h1 _ N1 h2 F2 N2
    refine app_two F2 N2 (by intro q; injection q with q; revert q; decide) (by intro q; injection q with q; revert q; decide) hoff (by omega) ?_
    intro h3 F3 N3
    dsimp only
    walk1
    refine add_end (P := fun h' tk => wpAny (model PR w) A (execs (bsBlock.drop 2) (bsEnv nm L)) Q E { s with heap := h', toks := tk }) h (fr_un hm F3) N3 ⟨rfl, fun _ q => by cases q⟩ ⟨rfl, fun _ q => by cases q⟩ hcs (c := (u + wd, (Ln + mo, Sg + wd))) ⟨0, _, _, _, rfl, .tail _ (.head _), 0, _, _, rfl⟩ ?_
    rw [if_pos (by omega)]
  · walk1
    refine h _ _ _ _ _ (fr_un hm F) N (fun p hp => hp) (fun p hp => .inl hp) ?_
    rw [if_neg (by omega), List.append_nil]; exact hcs
theorem bs_add2 {w : World} {A : Around} {s₀ s : Shared} {L D S Fm : Addr} {nm : Str} {Q : Flow → Shared → Prop} {E : Value → Shared → Prop} {m : Str → Option Value} {rest : List (Addr × Obj)}
    (hh : A.handled = none) {o : Obj} {n u Ln Sg wd mo : Nat} {t0 t1 t2 t3 t4 t5 tr : Tok} {rS : Str} {vs : List Value} {cs : List (Nat × (Nat × Nat))} {ep : Nat}
    (F : Fr s₀.heap L s.heap m) (hm : ∀ p ∈ bsBase D S Fm n u Ln Sg wd mo t0 t1 t2 t3 t4 t5 tr rS, m p.1 = some p.2) (N : News s₀.heap L s.heap ((S, lst vs ep) :: (D, o) :: rest)) (hoff : ∀ p ∈ (D, o) :: rest, p.1 ≠ S) (hcs : StepsAre rest vs cs) (hvl : vs.length ≤ 10)
    (h : ∀ h' tk ep' vs' rest', Fr s₀.heap L h' m → News s₀.heap L h' ((S, lst vs' ep') :: (D, o) :: rest') → (∀ p ∈ rest, p ∈ rest') → Fresh rest rest' → StepsAre rest' vs' (cs ++ if u + 1 ≤ n then [(wd, (Ln + 1 + mo, Sg + 1 + wd))] else []) → wpAny (model PR w) A (execs (bsBlock.drop 3) (bsEnv nm L)) Q E { s with heap := h', toks := tk }) :
    wpAny (model PR w) A (execs (bsBlock.drop 2) (bsEnv nm L)) Q E s := by
  w_on
  rw [← over_eq hm] at F
  unfold bsBase at F
  refine wpAny_execs_cons ?_
  iterate 10 walk1
  · repeat' walk1
    rename_i h1 _ N1 h2 F2 N2
    refine app_two F2 N2 (by intro q; injection q with q; revert q; decide) (by intro q; injection q with q; revert q; decide) hoff (by omega) ?_
    intro h3 F3 N3
    dsimp only
    walk1
    refine add_end (P := fun h' tk => wpAny (model PR w) A (execs (bsBlock.drop 3) (bsEnv nm L)) Q E { s with heap := h', toks := tk }) h (fr_un hm F3) N3 ⟨rfl, fun _ q => by cases q⟩ ⟨rfl, fun _ q => by cases q⟩ hcs (c := (wd, (Ln + 1 + mo, Sg + 1 + wd))) ⟨0, _, _, _, rfl, .tail _ (.head _), 0, _, _, rfl⟩ ?_
    rw [if_pos (by omega)]
  · walk1
    refine h _ _ _ _ _ (fr_un hm F) N (fun p hp => hp) (fun p hp => .inl hp) ?_
    rw [if_neg (by omega), List.append_nil]; exact hcs
theorem DW.drop {S : Addr} {l : Obj} {r : List (Addr × Obj)} {kvs : List (Int × Value)} {W : List (Nat × (Nat × Nat))} (h : DW ((S, l) :: r) kvs W) (hl : l.cls ≠ .type "tuple") : DW r kvs W := by
  induction h with
  | nil => exact .nil
  | cons hm hp _ ih =>
    refine .cons ?_ hp ih
    rcases List.mem_cons.mp hm with e | hm
    · exfalso
      obtain ⟨_, _, _, rfl⟩ := hp
      injection e with _ e
      exact hl (by rw [← e])
    · exact hm
theorem bs_inner {w : World} {A : Around} {s₀ s : Shared} {L D Fm : Addr} {nm : Str} {Q : Flow → Shared → Prop} {E : Value → Shared → Prop} {mean mg mb} {m : Str → Option Value} {rest : List (Addr × Obj)} (T : Top vq (looseW vq looseN) mean mg mb s₀.heap) (Y : TopH w s₀.heap) (hE : PassesOwn (model PR w) A (bsEnv nm L) E)
    (hh : A.handled = none) (hu : A.units + 1 < cLine) {o : Obj} {kvs : List (Int × Value)} {W : List (Nat × (Nat × Nat))} {n u Ln Sg wd mo : Nat} {t0 t1 t2 t3 t4 t5 tr : Tok} {rS : Str}
    (F : Fr s₀.heap L s.heap m) (hm : ∀ p ∈ bsB0 D Fm n u Ln Sg wd mo t0 t1 t2 t3 t4 t5 tr rS, m p.1 = some p.2) (N : News s₀.heap L s.heap ((D, o) :: rest)) (hoff : ∀ p ∈ rest, p.1 ≠ D) (lo : (D == sysModules) = false) (hd : o.IsDictOf (intKind PR w) kvs) (hW : DW rest kvs W) (hWl : W.length ≤ 900)
    (h : ∀ h' tk m' o' kvs' rest', Fr s₀.heap L h' m' → (∀ p ∈ bsB0 D Fm n u Ln Sg wd mo t0 t1 t2 t3 t4 t5 tr rS, m' p.1 = some p.2) → News s₀.heap L h' ((D, o') :: rest') → (∀ p ∈ rest, p ∈ rest') → Fresh rest rest' → o'.IsDictOf (intKind PR w) kvs' → DW rest' kvs' ((stepsOf n u (Ln, Sg) (wd, mo)).foldl putW W) → Q .next { s with heap := h', toks := tk }) :
    wpAny (model PR w) A (execs bsBlock (bsEnv nm L)) Q E s := by
  w_on
  have hocls : o.cls = .type "dict" := by obtain ⟨_, _, hx, _⟩ := hd; exact hx.1
  rw [← over_eq hm] at F
  unfold bsB0 at F
  refine wpAny_execs_cons ?_
  have hS0 : ∀ p ∈ (D, o) :: rest, p.1 ≠ s.heap.objs.size := fun p hp => Nat.ne_of_lt (Heap.lt_size (N p hp).1)
  iterate 4 walk1
  rename_i h1 F1 N1
  generalize s.heap.objs.size = S at N1 hS0 ⊢
  walk1
  rename_i h2 F2 N2
  have hm2 : ∀ p ∈ bsBase D S Fm n u Ln Sg wd mo t0 t1 t2 t3 t4 t5 tr rS, (fun y => if y = (Str.ofString "steps") then some (Value.ref S) else over [(Str.ofString "length", Value.int (n : Int) t0), ("used", .int (u : Int) t1), ("lines", .int (Ln : Int) t2), ("signs", .int (Sg : Int) t3), ("width", .int (wd : Int) t4), ("more", .int (mo : Int) t5), ("after", .ref D), ("forms", .ref Fm), ("row", .str rS tr)] m y) p.1 = some p.2 := by
    unfold bsBase; walk_at "known"
  refine bs_add1 (vs := []) (cs := []) hh F2 hm2 N2 hS0 .nil (by decide) ?_
  intro h3 tk3 ep3 vs3 rest3 F3 N3 hs3 hf3 hc3
  have hS3 : ∀ p ∈ (D, o) :: rest3, p.1 ≠ S := fun p hp => by
    rcases List.mem_cons.mp hp with rfl | hp
    · exact hS0 _ (.head _)
    · rcases hf3 p hp with q | q
      · exact hS0 p (.tail _ q)
      · exact ne_of_kind N3 (.tail _ (.tail _ hp)) (.head _) (by rw [q.1]; intro e; injection e with e; revert e; decide)
  refine bs_add2 hh F3 hm2 N3 hS3 hc3 (by have := hc3.length; rw [List.nil_append] at this; split at this <;> simp only [List.length_cons, List.length_nil] at this <;> omega) ?_
  intro h4 tk4 ep4 vs4 rest4 F4 N4 hs4 hf4 hc4
  have hoff4 : ∀ p ∈ (S, lst vs4 ep4) :: rest4, p.1 ≠ D := fun p hp => by
    rcases List.mem_cons.mp hp with rfl | hp
    · exact (hS0 _ (.head _)).symm
    · rcases (hf3.trans hf4) p hp with q | q
      · exact hoff p q
      · exact ne_of_kind N4 (.tail _ (.tail _ hp)) (.tail _ (.head _)) (by rw [q.1, hocls]; intro e; injection e with e; revert e; decide)
  have hcs : [] ++ (if u + wd ≤ n then [(u + wd, (Ln + mo, Sg + wd))] else []) ++ (if u + 1 ≤ n then [(wd, (Ln + 1 + mo, Sg + 1 + wd))] else []) = stepsOf n u (Ln, Sg) (wd, mo) := rfl
  rw [hcs] at hc4
  have hcl : (stepsOf n u (Ln, Sg) (wd, mo)).length ≤ 2 := by unfold stepsOf; split <;> split <;> simp
  have N5 : News s₀.heap L h4 ((D, o) :: (S, lst vs4 ep4) :: rest4) := News.sub N4 fun p hp => by
    rcases List.mem_cons.mp hp with rfl | hp
    · exact .tail _ (.head _)
    · rcases List.mem_cons.mp hp with rfl | hp
      · exact .head _
      · exact .tail _ (.tail _ hp)
  refine bs_loop (vs := vs4) (ep := ep4) T Y hE hh hu F4 hm2 N5 hoff4 lo hd (hW.sub fun p hp => .tail _ (hs4 p (hs3 p hp))) (by omega) (.head _) (hc4.sub fun p hp => .tail _ hp) ?_
  intro h6 tk6 m6 o6 kvs6 F6 hm6 N6 hd6 hW6
  refine h h6 tk6 m6 o6 kvs6 rest4 F6 (fun p hp => hm6 p ?_) (News.sub N6 fun p hp => ?_) (fun p hp => hs4 p (hs3 p hp)) (hf3.trans hf4) hd6 (hW6.drop (by intro e; injection e with e; revert e; decide))
  · unfold bsB0 at hp
    unfold bsBase
    simp only [List.mem_cons, List.not_mem_nil, or_false] at hp ⊢
    rcases hp with h | h | h | h | h | h | h | h | h <;> simp [h]
  · rcases List.mem_cons.mp hp with rfl | hp
    · exact .head _
    · exact .tail _ (.tail _ hp)
end Mine
end
section
set_option maxRecDepth 100000
set_option maxHeartbeats 1000000
set_option linter.unusedVariables false
namespace Mine
theorem anew39 : True := by
  w_top off
  first | walk1 | trivial
open PySem PySem.W PySem.Calls PyProof.Rows
noncomputable def isTupB (o : Obj) : Bool := match o.cls, o.data with
  | .type s, .seq _ _ => s == "tuple"
  | _, _ => false
theorem isTupB_tup {o : Obj} (h : isTupB o = true) : TupO o := by
  unfold isTupB at h
  split at h
  · rename_i s _ _ hc hd
    exact ⟨by rw [hc, eq_of_beq h], fun vs q => by rw [hd] at q; cases q⟩
  · cases h
theorem PairO.tup {o : Obj} {p : Nat × Nat} (h : PairO o p) : isTupB o = true := by obtain ⟨_, _, _, rfl⟩ := h; rfl
theorem DW.filter {news base : List (Addr × Obj)} {kvs : List (Int × Value)} {W : List (Nat × (Nat × Nat))} (h : DW news kvs W) : DW (base ++ news.filter fun p => isTupB p.2) kvs W := by
  induction h with
  | nil => exact .nil
  | cons hm hp _ ih => exact .cons (List.mem_append_right _ (List.mem_filter.mpr ⟨hm, hp.tup⟩)) hp ih
/-- a list of pairs of ints, each in the ledger -/
inductive FormsAre (news : List (Addr × Obj)) : List Value → List (Nat × Nat) → Prop
  | nil : FormsAre news [] []
  | cons {b : Addr} {o : Obj} {f : Nat × Nat} {vs : List Value} {fs : List (Nat × Nat)} : (b, o) ∈ news → PairO o f → FormsAre news vs fs → FormsAre news (.ref b :: vs) (f :: fs)
theorem FormsAre.length {news : List (Addr × Obj)} {vs : List Value} {fs : List (Nat × Nat)} (h : FormsAre news vs fs) : vs.length = fs.length := by
  induction h with
  | nil => rfl
  | cons _ _ _ ih => rw [List.length_cons, List.length_cons, ih]
theorem FormsAre.item {news : List (Addr × Obj)} {vs : List Value} {fs : List (Nat × Nat)} (h : FormsAre news vs fs) : ∀ {i : Nat} {v : Value}, vs[i]? = some v → ∃ b o f, v = .ref b ∧ fs[i]? = some f ∧ (b, o) ∈ news ∧ PairO o f := by
  induction h with
  | nil => intro i v h; cases h
  | @cons b o f vs fs hm hp _ ih =>
    intro i v h
    cases i with
    | zero => exact ⟨b, o, f, (Option.some.inj h).symm, rfl, hm, hp⟩
    | succ i => exact ih h
noncomputable def bsC0 (D Fm : Addr) (n u Ln Sg : Nat) (t0 t1 t2 t3 tr : Tok) (rS : Str) : List (Str × Value) :=
  [("length", .int (n : Int) t0), ("used", .int (u : Int) t1), ("lines", .int (Ln : Int) t2), ("signs", .int (Sg : Int) t3), ("after", .ref D), ("forms", .ref Fm), ("row", .str rS tr)]
local macro_rules | `(tactic| walk_at "eval Name") => `(tactic| first
  | refine nm_local rfl rfl (Fr.ns (by assumption)) rfl ?_)
theorem steps_len (n u : Nat) (v f : Nat × Nat) : (stepsOf n u v f).length ≤ 2 := by unfold stepsOf; split <;> split <;> simp
theorem flat_steps_len (n u : Nat) (v : Nat × Nat) : ∀ fs : List (Nat × Nat), (fs.flatMap (stepsOf n u v)).length ≤ 2 * fs.length
  | [] => by simp
  | f :: fs => by
    have := flat_steps_len n u v fs
    have h2 := steps_len n u v f
    rw [List.flatMap_cons, List.length_append, List.length_cons]; omega
theorem bs_forms {w : World} {A : Around} {s₀ s : Shared} {L D Fm : Addr} {nm : Str} {Q : Flow → Shared → Prop} {E : Value → Shared → Prop} {mean mg mb} {m : Str → Option Value} {base tups : List (Addr × Obj)} (T : Top vq (looseW vq looseN) mean mg mb s₀.heap) (Y : TopH w s₀.heap) (hE : PassesOwn (model PR w) A (bsEnv nm L) E)
    (hh : A.handled = none) (hu : A.units + 1 < cLine) {o : Obj} {kvs : List (Int × Value)} {W : List (Nat × (Nat × Nat))} {n u Ln Sg : Nat} {t0 t1 t2 t3 tr : Tok} {rS : Str} {fvs : List Value} {fs : List (Nat × Nat)} {fep : Nat}
    (F : Fr s₀.heap L s.heap m) (hm : ∀ p ∈ bsC0 D Fm n u Ln Sg t0 t1 t2 t3 tr rS, m p.1 = some p.2) (N : News s₀.heap L s.heap ((D, o) :: (base ++ tups))) (htup : ∀ p ∈ tups, TupO p.2) (hoff : ∀ p ∈ base, p.1 ≠ D) (lo : (D == sysModules) = false) (hd : o.IsDictOf (intKind PR w) kvs) (hW : DW (base ++ tups) kvs W) (hWl : W.length + 2 * fs.length ≤ 900)
    (hFm : (Fm, lst fvs fep) ∈ base) (hfs : FormsAre base fvs fs)
    (h : ∀ h' tk m' o' kvs' tups', Fr s₀.heap L h' m' → (∀ p ∈ bsC0 D Fm n u Ln Sg t0 t1 t2 t3 tr rS, m' p.1 = some p.2) → News s₀.heap L h' ((D, o') :: (base ++ tups')) → (∀ p ∈ tups', TupO p.2) → o'.IsDictOf (intKind PR w) kvs' → DW (base ++ tups') kvs' ((fs.flatMap (stepsOf n u (Ln, Sg))).foldl putW W) → Q .next { s with heap := h', toks := tk }) :
    wpAny (model PR w) A (execs ((sBody (nth (sBody (nth (fBody (stm 21)) 1)) 3)).drop 1) (bsEnv nm L)) Q E s := by
  w_on
  rw [← over_eq hm] at F
  unfold bsC0 at F
  refine wpAny_execs_cons ?_
  refine wpAny_For ?_
  walk1
  have hfl := hfs.length
  have hDlt := Heap.lt_size (N _ (.head _)).1
  refine iterG_list (vs := fvs) (fun i m news => ∃ o' kvs' tups', news = (D, o') :: (base ++ tups') ∧ (∀ p ∈ tups', TupO p.2) ∧ o'.IsDictOf (intKind PR w) kvs' ∧ DW (base ++ tups') kvs' (((fs.take i).flatMap (stepsOf n u (Ln, Sg))).foldl putW W) ∧ ∀ p ∈ bsC0 D Fm n u Ln Sg t0 t1 t2 t3 tr rS, m p.1 = some p.2) hh
    ⟨_, (N _ (.tail _ (List.mem_append_left _ hFm))).1, rfl, fep, rfl⟩ (N _ (.tail _ (List.mem_append_left _ hFm))).2.1 F N ⟨o, kvs, tups, rfl, htup, hd, hW, ?_⟩ hE ?_ ?_ ?_
  · unfold bsC0; walk_at "known"
  · intro a v i s' Q' E' hv hit hq
    obtain ⟨b, _, _, rfl, _⟩ := hfs.item hv
    exact wpAny_letOwnedTupleGo_listiter hit hq
  · rintro i v m₁ news₁ s₁ own ⟨h1, tk1, rfl⟩ hv ⟨o', kvs', tups', rfl, htup', hd', hW', hm'⟩ hown hown2 F₁ N₁
    obtain ⟨b, ob, ⟨wd, mo⟩, rfl, hf, hmb, hpo⟩ := hfs.item hv
    obtain ⟨nn, t4, t5, rfl⟩ := hpo
    clear F N
    dsimp only at F₁ N₁
    rw [← over_eq hm'] at F₁
    unfold bsC0 at F₁
    have N2 : News s₀.heap L h1 ((D, o') :: ((base ++ tups') ++ own)) := N₁
    refine tup_unpack hh F₁ N2 (.tail _ (List.mem_append_left _ (List.mem_append_left _ hmb))) ?_
    intro h2 F2 N3
    iterate 2 walk1
    rename_i h3 _ _ h4 F4 N4
    have hocls : o'.cls = .type "dict" := by obtain ⟨_, _, hx, _⟩ := hd'; exact hx.1
    have hoff' : ∀ p ∈ (base ++ tups') ++ own, p.1 ≠ D := fun p hp => by
      rcases List.mem_append.mp hp with hp | hp
      · rcases List.mem_append.mp hp with hp | hp
        · exact hoff p hp
        · exact ne_of_kind N4 (.tail _ (List.mem_append_left _ (List.mem_append_right _ hp))) (.head _) (by rw [(htup' p hp).1, hocls]; intro e; injection e with e; revert e; decide)
      · intro q
        rcases hown p hp with e | e
        · exact absurd hDlt (by rw [← q, e]; exact Nat.lt_irrefl _)
        · exact hoff _ hFm (e ▸ q)
    have hl1 := fold_len ((fs.take i).flatMap (stepsOf n u (Ln, Sg))) W
    have hl2 := flat_steps_len n u (Ln, Sg) (fs.take i)
    have hl3 : (fs.take i).length ≤ fs.length := by rw [List.length_take]; omega
    refine bs_inner (D := D) (Fm := Fm) (n := n) (u := u) (Ln := Ln) (Sg := Sg) (wd := wd) (mo := mo) (t0 := t0) (t1 := t1) (t2 := t2) (t3 := t3) (t4 := t4) (t5 := t5) (tr := tr) (rS := rS) T Y hE hh hu F4 (by unfold bsB0; walk_at "known") N4 hoff' lo hd' (hW'.sub fun p hp => List.mem_append_left _ hp) (by omega) ?_
    intro h5 tk5 m5 o5 kvs5 rest5 F5 hm5 N5 hs5 hf5 hd5 hW5
    refine ⟨h5, tk5, m5, (D, o5) :: (base ++ rest5.filter fun p => isTupB p.2), rfl, F5, fun p hp => ?_, fun p hp => ?_, o5, kvs5, _, rfl, fun p hp => isTupB_tup (List.mem_filter.mp hp).2, hd5, ?_, fun p hp => hm5 p ?_⟩
    · rw [List.cons_append] at hp
      rcases List.mem_cons.mp hp with rfl | hp
      · exact N5 _ (.head _)
      · rcases List.mem_append.mp hp with hp | hp
        · rcases List.mem_append.mp hp with hp | hp
          · exact N5 p (.tail _ (hs5 p (List.mem_append_left _ (List.mem_append_left _ hp))))
          · exact N5 p (.tail _ (List.mem_filter.mp hp).1)
        · exact N5 p (.tail _ (hs5 p (List.mem_append_right _ hp)))
    · rcases List.mem_cons.mp hp with rfl | hp
      · exact .inl ⟨_, .head _, rfl⟩
      · rcases List.mem_append.mp hp with hp | hp
        · exact .inl ⟨p, .tail _ (List.mem_append_left _ hp), rfl⟩
        · exact .inr (isTupB_tup (List.mem_filter.mp hp).2).2
    · rw [List.take_add_one, hf, List.flatMap_append, List.foldl_append]
      have : (some (wd, mo) : Option (Nat × Nat)).toList.flatMap (stepsOf n u (Ln, Sg)) = stepsOf n u (Ln, Sg) (wd, mo) := by simp
      rw [this]
      exact hW5.filter
    · unfold bsC0 at hp
      unfold bsB0
      simp only [List.mem_cons, List.not_mem_nil, or_false] at hp ⊢
      rcases hp with h | h | h | h | h | h | h <;> simp [h]
  · rintro m₁ news₁ h1 tk1 ⟨o', kvs', tups', rfl, htup', hd', hW', hm'⟩ F₁ N₁
    rw [hfl, List.take_length] at hW'
    exact wpAny_execs_nil (h _ _ _ _ _ _ F₁ hm' N₁ htup' hd' hW')
end Mine
end
section
set_option maxRecDepth 100000
set_option maxHeartbeats 1000000
set_option linter.unusedVariables false
namespace Mine
theorem anew40 : True := by
  w_top off
  first | walk1 | trivial
open PySem PySem.W PySem.Calls PyProof.Rows
noncomputable def bsD0 (D Fm : Addr) (n : Nat) (t0 tr : Tok) (rS : Str) : List (Str × Value) := [("length", .int (n : Int) t0), ("after", .ref D), ("forms", .ref Fm), ("row", .str rS tr)]
local macro_rules | `(tactic| walk_at "eval Name") => `(tactic| first
  | refine nm_local rfl rfl (Fr.ns (by assumption)) rfl ?_
  | refine nm_cell rfl rfl rfl (by assumption) ?_)
theorem cands_len (n : Nat) (fs : List (Nat × Nat)) : ∀ W : List (Nat × (Nat × Nat)), (candsOf n fs W).length ≤ 2 * fs.length * W.length
  | [] => by unfold candsOf; simp
  | e :: W => by
    have ih := cands_len n fs W
    unfold candsOf at ih ⊢
    have h2 := flat_steps_len n e.1 e.2 fs
    rw [List.flatMap_cons, List.length_append, List.length_cons, Nat.mul_succ]; omega
theorem FormsAre.sub {a b : List (Addr × Obj)} {vs : List Value} {fs : List (Nat × Nat)} (h : FormsAre a vs fs) (hs : ∀ p ∈ a, p ∈ b) : FormsAre b vs fs := by
  induction h with
  | nil => exact .nil
  | cons hm hp _ ih => exact .cons (hs _ hm) hp ih
theorem DW.only {a b : List (Addr × Obj)} {kvs : List (Int × Value)} {W : List (Nat × (Nat × Nat))} (h : DW a kvs W) (hs : ∀ p ∈ a, TupO p.2 → p ∈ b) : DW b kvs W := by
  induction h with
  | nil => exact .nil
  | cons hm hp _ ih => exact .cons (hs _ hm (isTupB_tup hp.tup)) hp ih
theorem bs_used {w : World} {A : Around} {s₀ s : Shared} {L D Dw Fm : Addr} {nm : Str} {Q : Flow → Shared → Prop} {E : Value → Shared → Prop} {mean mg mb} {m : Str → Option Value} {base tups : List (Addr × Obj)} (T : Top vq (looseW vq looseN) mean mg mb s₀.heap) (Y : TopH w s₀.heap) (hE : PassesOwn (model PR w) A (bsEnv nm L) E)
    (hh : A.handled = none) (hu : A.units + 1 < cLine) {o ow oc : Obj} {kvsW : List (Int × Value)} {Ww : List (Nat × (Nat × Nat))} {n : Nat} {t0 tr : Tok} {rS : Str} {fvs : List Value} {fs : List (Nat × Nat)} {fep : Nat}
    (F : Fr s₀.heap L s.heap m) (hm : ∀ p ∈ bsD0 D Fm n t0 tr rS, m p.1 = some p.2) (N : News s₀.heap L s.heap ((D, o) :: (base ++ tups))) (htup : ∀ p ∈ tups, TupO p.2) (hoff : ∀ p ∈ base, p.1 ≠ D) (lo : (D == sysModules) = false) (hd : o.IsDictOf (intKind PR w) [])
    (hFm : (Fm, lst fvs fep) ∈ base) (hfs : FormsAre base fvs fs) (hfl : fs.length ≤ 2) (hDw : (Dw, ow) ∈ base) (low : (Dw == sysModules) = false) (hdw : ow.IsDictOf (intKind PR w) kvsW) (hWw : DW base kvsW Ww) (hWl : Ww.length ≤ 101) (hoc : (L + 1, oc) ∈ base) (hoc' : oc.data = .cell (some (.ref Dw)))
    (h : ∀ h' tk m' o' kvs' tups', Fr s₀.heap L h' m' → (∀ p ∈ bsD0 D Fm n t0 tr rS, m' p.1 = some p.2) → News s₀.heap L h' ((D, o') :: (base ++ tups')) → (∀ p ∈ tups', TupO p.2) → o'.IsDictOf (intKind PR w) kvs' → DW (base ++ tups') kvs' (turnW n fs Ww) → wpAny (model PR w) A (execs ((sBody (nth (fBody (stm 21)) 1)).drop 4) (bsEnv nm L)) Q E { s with heap := h', toks := tk }) :
    wpAny (model PR w) A (execs ((sBody (nth (fBody (stm 21)) 1)).drop 3) (bsEnv nm L)) Q E s := by
  w_on
  have hcell : s.heap.IsCell (L + 1) (some (.ref Dw)) := cell_of N hoc' (.tail _ (List.mem_append_left _ hoc))
  rw [← over_eq hm] at F
  unfold bsD0 at F
  refine wpAny_execs_cons ?_
  refine wpAny_For ?_
  walk1
  have hwl := hWw.length
  have hDlt := Heap.lt_size (N _ (.head _)).1
  refine iterG_dict (knd := intKind PR w) (kvs := kvsW) (fun i m news => ∃ o' kvs' tups', news = (D, o') :: (base ++ tups') ∧ (∀ p ∈ tups', TupO p.2) ∧ o'.IsDictOf (intKind PR w) kvs' ∧ DW (base ++ tups') kvs' ((candsOf n fs (Ww.take i)).foldl putW []) ∧ ∀ p ∈ bsD0 D Fm n t0 tr rS, m p.1 = some p.2) hh
    (kda_dict N (.tail _ (List.mem_append_left _ hDw)) hdw) low (N _ (.tail _ (List.mem_append_left _ hDw))).2.1 F N ⟨o, [], tups, rfl, htup, hd, .nil, ?_⟩ hE ?_ ?_
  · unfold bsD0; walk_at "known"
  · rintro i v k z m₁ news₁ s₁ own ⟨h1, tk1, rfl⟩ hkz hkv ⟨o', kvs', tups', rfl, htup', hd', hW', hm'⟩ hown hown2 F₁ N₁
    obtain ⟨u, ⟨Ln, Sg⟩, a, oa, hwi, rfl, rfl, hma, hpa⟩ := hWw.item hkz
    obtain ⟨t1, rfl⟩ := Value.isInt_shape hkv
    clear F N hcell
    dsimp only at F₁ N₁
    rw [← over_eq hm'] at F₁
    unfold bsD0 at F₁
    have N2 : News s₀.heap L h1 ((D, o') :: ((base ++ tups') ++ own)) := N₁
    clear N₁
    refine wpAny_assign_Name ?_
    walk1
    rename_i h2 F2 N3
    have hcell : h2.IsCell (L + 1) (some (.ref Dw)) := cell_of N3 hoc' (.tail _ (List.mem_append_left _ (List.mem_append_left _ hoc)))
    refine wpAny_execs_cons ?_
    clear F₁ N2
    iterate 4 walk1
    have hnd : (kvsW.map (·.1)).Nodup := by obtain ⟨_, _, _, _, _, _, hn⟩ := hdw; exact hn
    refine kda_item (knd := intKind PR w) N3 (.tail _ (List.mem_append_left _ (List.mem_append_left _ hDw))) hdw (intKind_is _ _ _ _) (valueAt_of_get hnd hkz) ?_
    obtain ⟨nn, t2, t3, rfl⟩ := hpa
    refine tup_unpack hh F2 N3 (.tail _ (List.mem_append_left _ (List.mem_append_left _ hma))) ?_
    intro h3 F3 N4
    clear F2 N3 hcell
    dsimp only at F3 N4 ⊢
    iterate 2 walk1
    rename_i h4 _ _ h5 F5 N5
    have hl1 := fold_len (candsOf n fs (Ww.take i)) []
    have hl2 := cands_len n fs (Ww.take i)
    have hl3 : (Ww.take i).length ≤ Ww.length := by rw [List.length_take]; omega
    have hl4 : 2 * fs.length * (Ww.take i).length ≤ 4 * 101 := Nat.mul_le_mul (by omega) (by omega)
    rw [List.length_nil] at hl1
    have hocls : o'.cls = .type "dict" := by obtain ⟨_, _, hx, _⟩ := hd'; exact hx.1
    have hoff' : ∀ p ∈ base ++ own, p.1 ≠ D := fun p hp => by
      rcases List.mem_append.mp hp with hp | hp
      · exact hoff p hp
      · intro q
        rcases hown p hp with e | e
        · exact absurd hDlt (by rw [← q, e]; exact Nat.lt_irrefl _)
        · exact hoff _ hDw (e ▸ q)
    have N6 : News s₀.heap L h5 ((D, o') :: ((base ++ own) ++ tups')) := News.sub N5 fun p hp => by
      rcases List.mem_cons.mp hp with rfl | hp
      · exact .head _
      · refine .tail _ ?_
        rcases List.mem_append.mp hp with hp | hp
        · rcases List.mem_append.mp hp with hp | hp
          · exact List.mem_append_left _ (List.mem_append_left _ hp)
          · exact List.mem_append_right _ hp
        · exact List.mem_append_left _ (List.mem_append_right _ hp)
    have hsub : ∀ p ∈ base ++ tups', p ∈ (base ++ own) ++ tups' := fun p hp => by
      rcases List.mem_append.mp hp with hp | hp
      · exact List.mem_append_left _ (List.mem_append_left _ hp)
      · exact List.mem_append_right _ hp
    refine bs_forms (base := base ++ own) (tups := tups') (D := D) (Fm := Fm) (n := n) (u := u) (Ln := Ln) (Sg := Sg) (t0 := t0) (t1 := t1) (t2 := t2) (t3 := t3) (tr := tr) (rS := rS) (fvs := fvs) (fs := fs) (fep := fep) T Y hE hh hu F5 (by unfold bsC0; walk_at "known") N6 htup' hoff' lo hd' (hW'.sub hsub) (by omega) (List.mem_append_left _ hFm) (hfs.sub fun p hp => List.mem_append_left _ hp) ?_
    intro h7 tk7 m7 o7 kvs7 tups7 F7 hm7 N7 htup7 hd7 hW7
    refine ⟨h7, tk7, m7, (D, o7) :: (base ++ ((base ++ own) ++ tups7).filter fun p => isTupB p.2), rfl, F7, fun p hp => ?_, fun p hp => ?_, o7, kvs7, _, rfl, fun p hp => isTupB_tup (List.mem_filter.mp hp).2, hd7, ?_, fun p hp => hm7 p ?_⟩
    · rw [List.cons_append] at hp
      rcases List.mem_cons.mp hp with rfl | hp
      · exact N7 _ (.head _)
      · rcases List.mem_append.mp hp with hp | hp
        · rcases List.mem_append.mp hp with hp | hp
          · exact N7 p (.tail _ (List.mem_append_left _ (List.mem_append_left _ hp)))
          · exact N7 p (.tail _ (List.mem_filter.mp hp).1)
        · exact N7 p (.tail _ (List.mem_append_left _ (List.mem_append_right _ hp)))
    · rcases List.mem_cons.mp hp with rfl | hp
      · exact .inl ⟨_, .head _, rfl⟩
      · rcases List.mem_append.mp hp with hp | hp
        · exact .inl ⟨p, .tail _ (List.mem_append_left _ hp), rfl⟩
        · exact .inr (isTupB_tup (List.mem_filter.mp hp).2).2
    · have e : (candsOf n fs (Ww.take (i + 1))).foldl putW [] = (fs.flatMap (stepsOf n u (Ln, Sg))).foldl putW ((candsOf n fs (Ww.take i)).foldl putW []) := by
        unfold candsOf
        rw [List.take_add_one, hwi, List.flatMap_append, List.foldl_append]
        simp
      rw [e]
      exact hW7.filter
    · unfold bsD0 at hp
      unfold bsC0
      simp only [List.mem_cons, List.not_mem_nil, or_false] at hp ⊢
      rcases hp with h | h | h | h <;> simp [h]
  · rintro m₁ news₁ h1 tk1 ⟨o', kvs', tups', rfl, htup', hd', hW', hm'⟩ F₁ N₁
    rw [hwl, List.take_length] at hW'
    exact h _ _ _ _ _ _ F₁ hm' N₁ htup' hd' hW'
end Mine
end
section
set_option maxRecDepth 100000
set_option maxHeartbeats 4000000
set_option linter.unusedVariables false
namespace Mine
theorem anew41 : True := by
  w_top off
  first | walk1 | trivial
open PySem PySem.W PySem.Calls PyProof.Rows
theorem gn_ord (P : Params) : gN P "ord" = none := by kernel_rfl
theorem bo_ord : bootBuiltins "ord" = some (.builtin "ord") := by kernel_rfl
local macro_rules | `(tactic| walk_at "eval Name") => `(tactic| first
  | refine nm_local rfl rfl (Fr.ns (by assumption)) rfl ?_
  | refine nm_cell rfl rfl rfl (by assumption) ?_
  | ((with_reducible show wpAny _ _ (eval (PySem.Expr.Name (Str.ofString "len") _) _) _ _ _); refine nm_boot rfl rfl rfl rfl (by assumption) (Fr.keep (by assumption)) (fr_top (by assumption) (by assumption)) (gn_len _) bo_len (by decide) ?_)
  | ((with_reducible show wpAny _ _ (eval (PySem.Expr.Name (Str.ofString "ord") _) _) _ _ _); refine nm_boot rfl rfl rfl rfl (by assumption) (Fr.keep (by assumption)) (fr_top (by assumption) (by assumption)) (gn_ord _) bo_ord (by decide) ?_))
noncomputable def bsE0 (x : List Nat) (n k : Nat) (tr t0 tk : Tok) : List (Str × Value) := [("row", .str (mkS x) tr), ("length", .int (n : Int) t0), ("k", .int (k : Int) tk)]
local macro_rules | `(tactic| walk_at "subscriptTail Name Name str int") => `(tactic| (refine item_mk (by omega) (by assumption) (by omega) ?_))
theorem o_tab : Str.ofString "\t" = mkS [9] := by decide +kernel
theorem fo_blank {c : Nat} {l : Bool} (h : (blankC c && l) = true) : formsOf c l = [(3, 0), (2, 1)] := by unfold formsOf; rw [if_pos h]
theorem fo_plain {c : Nat} {l : Bool} (h : (blankC c && l) = false) (h2 : plainC c = true) : formsOf c l = [(3, 0), (1, 0)] := by unfold formsOf; rw [if_neg (by rw [h]; decide), if_pos h2]
theorem fo_none {c : Nat} {l : Bool} (h : (blankC c && l) = false) (h2 : plainC c = false) : formsOf c l = [(3, 0)] := by unfold formsOf; rw [if_neg (by rw [h]; decide), if_neg (by rw [h2]; decide)]
theorem pl_yes {c : Nat} (h : (c != 61) = true) (h1 : 31 < c) (h2 : c < 127) : plainC c = true := by unfold plainC; rw [h, decide_eq_true h1, decide_eq_true h2]; simp
theorem pl_no {c : Nat} (h : (c == 9) = false) (h1 : ¬ 31 < c ∨ ¬ c < 127 ∨ (c != 61) = false) : plainC c = false := by
  unfold plainC
  rw [h, Bool.false_or]
  rcases h1 with q | q | q
  · rw [decide_eq_false q]; rfl
  · rw [decide_eq_false q]; simp
  · rw [q]; simp
theorem app_one {w : World} {A : Around} {E : Value → Shared → Prop} {s : Shared} {h₀ : Heap} {L l : Addr} {m : Str → Option Value} {vs : List Value} {ep : Nat} {own : List (Addr × Obj)} {a : Addr} {oa : Obj} {v : Value} {Q : Value → Shared → Prop} (F : Fr h₀ L s.heap m) (N : News h₀ L s.heap ((a, oa) :: (l, lst vs ep) :: own))
    (ha : oa.cls ≠ .type "list") (hoff : ∀ p ∈ own, p.1 ≠ l) (hsz : vs.length ≤ 1000000)
    (h : ∀ h', Fr h₀ L h' m → News h₀ L h' ((l, lst (vs ++ [v]) (ep + 1)) :: (a, oa) :: own) → Q .none { s with heap := h' }) : wpAny (model PR w) A (call (.builtin "list.append") [.ref l, v]) Q E s := by
  refine app_news (vs := vs) (ep := ep) (own := (a, oa) :: own) F (News.sub N ?_) ?_ hsz h
  · intro p hp
    rcases List.mem_cons.mp hp with rfl | hp
    · exact .tail _ (.head _)
    · rcases List.mem_cons.mp hp with rfl | hp
      · exact .head _
      · exact .tail _ (.tail _ hp)
  · intro p hp
    rcases List.mem_cons.mp hp with rfl | hp
    · exact ne_of_kind N (.head _) (.tail _ (.head _)) ha
    · exact hoff p hp
/-- an end of the two tests: nothing more, or one form more -/
theorem end_none {h₀ h' : Heap} {L Fm b3 : Addr} {m' : Str → Option Value} {base : List (Addr × Obj)} {o3 : Obj} {ep : Nat} {fo : List (Nat × Nat)} {P : Heap → Nat → Prop}
    (h : ∀ h' tk' fvs fep tups, Fr h₀ L h' m' → News h₀ L h' ((Fm, lst fvs fep) :: (tups ++ base)) → (∀ p ∈ tups, TupO p.2) → FormsAre tups fvs fo → P h' tk') (F : Fr h₀ L h' m') (N : News h₀ L h' ((Fm, lst [.ref b3] ep) :: (b3, o3) :: base)) (ho3 : PairO o3 (3, 0)) (e : fo = [(3, 0)]) {tk : Nat} : P h' tk := by
  subst e
  exact h h' tk _ _ [(b3, o3)] F N (fun p hp => by rw [List.mem_singleton.mp hp]; exact isTupB_tup ho3.tup) (.cons (.head _) ho3 .nil)
theorem end_one {h₀ h' : Heap} {L Fm b3 b : Addr} {m' : Str → Option Value} {base : List (Addr × Obj)} {o3 ob : Obj} {ep : Nat} {f : Nat × Nat} {fo : List (Nat × Nat)} {P : Heap → Nat → Prop}
    (h : ∀ h' tk' fvs fep tups, Fr h₀ L h' m' → News h₀ L h' ((Fm, lst fvs fep) :: (tups ++ base)) → (∀ p ∈ tups, TupO p.2) → FormsAre tups fvs fo → P h' tk') (F : Fr h₀ L h' m') (N : News h₀ L h' ((Fm, lst ([.ref b3] ++ [.ref b]) ep) :: (b, ob) :: (b3, o3) :: base)) (ho3 : PairO o3 (3, 0)) (hob : PairO ob f) (e : fo = [(3, 0), f]) {tk : Nat} : P h' tk := by
  subst e
  refine h h' tk _ _ [(b, ob), (b3, o3)] F N (fun p hp => ?_) (.cons (.tail _ (.head _)) ho3 (.cons (.head _) hob .nil))
  rcases List.mem_cons.mp hp with rfl | hp
  · exact isTupB_tup hob.tup
  · rw [List.mem_singleton.mp hp]; exact isTupB_tup ho3.tup
theorem bs_if {w : World} {A : Around} {s₀ s : Shared} {L Fm b3 : Addr} {nm : Str} {Q : Flow → Shared → Prop} {E : Value → Shared → Prop} {mean mg mb} {m : Str → Option Value} {base : List (Addr × Obj)} {o3 : Obj} {ep : Nat} (T : Top vq (looseW vq looseN) mean mg mb s₀.heap) (Y : TopH w s₀.heap)
    (hh : A.handled = none) {x : List Nat} {n k c : Nat} {tr t0 tk : Tok} (hx : x.length ≤ 4000) (hk : x[k]? = some c) (hc : c < 256)
    (F : Fr s₀.heap L s.heap (over (("forms", .ref Fm) :: bsE0 x n k tr t0 tk) m)) (N : News s₀.heap L s.heap ((Fm, lst [.ref b3] ep) :: (b3, o3) :: base)) (ho3 : PairO o3 (3, 0)) (hoff : ∀ p ∈ base, p.1 ≠ Fm)
    (h : ∀ h' tk' fvs fep tups, Fr s₀.heap L h' (over (("forms", .ref Fm) :: bsE0 x n k tr t0 tk) m) → News s₀.heap L h' ((Fm, lst fvs fep) :: (tups ++ base)) → (∀ p ∈ tups, TupO p.2) → FormsAre tups fvs (formsOf c (k + 1 == x.length)) → Q .next { s with heap := h', toks := tk' }) :
    wpAny (model PR w) A (exec (nth (sBody (nth (fBody (stm 21)) 1)) 1) (bsEnv nm L)) Q E s := by
  w_on
  unfold bsE0 at F
  have hmx := mkS_length x
  have hkl := (List.getElem?_eq_some_iff.mp hk).1
  have hk' : x[((k : Nat) : Int).toNat]? = some c := by simpa using hk
  have hbl := blank_in c hc
  have hlc : (mkS [c]).length = 1 := rfl
  have hB : ∀ b, (Builtin.Str.occurrences (Str.ofString " \t") (mkS [c]) 0 (Str.ofString " \t").length 1).isEmpty = b → blankC c = !b := fun b e => by
    rw [← e, hbl]; unfold blankC; cases (c == 32 || c == 9) <;> rfl
  have h9 : ∀ b, (mkS [c] == Str.ofString "\t") = b → (c == 9) = b := fun b e => by
    rw [← e, o_tab]
    by_cases q : c = 9
    · subst q; rfl
    · rw [beq_eq_false_iff_ne.mpr q]
      exact (beq_eq_false_iff_ne.mpr fun z => q (by have := mkS_inj z; simpa using this)).symm
  have h61 : ∀ b, (mkS [c] != Str.ofString "=") = b → (c != 61) = b := fun b e => by
    rw [← e]
    unfold bne
    rw [beq_eq_sign]
    by_cases q : c = 61
    · subst q; rfl
    · rw [beq_eq_false_iff_ne.mpr q, decide_eq_false q]
  have hg : (mkS [c]).cps.getD 0 0 = c := rfl
  have hb3 : b3 ≠ Fm := ne_of_kind N (.tail _ (.head _)) (.head _) (by rw [(isTupB_tup ho3.tup).1]; intro q; injection q with q; revert q; decide)
  clear hbl
  refine wpAny_If ?_
  repeat' walk1
  all_goals first
    | (refine end_none (P := fun h' tk' => Q .next { s with heap := h', toks := tk' }) h F N ho3 ?_
       refine fo_none ?_ ?_)
    | (refine app_one (by assumption) (by assumption) (by intro q; injection q with q; revert q; decide) (fun p hp => (List.mem_cons.mp hp).elim (fun e => by rw [e]; exact hb3) (hoff p)) (by simp) ?_
       intro h5 F5 N5
       dsimp only
       repeat' walk1
       first
         | (refine end_one (f := (1, 0)) (P := fun h' tk' => Q .next { s with heap := h', toks := tk' }) h F5 N5 ho3 ⟨0, _, _, rfl⟩ ?_; refine fo_plain ?_ ?_)
         | (refine end_one (f := (2, 1)) (P := fun h' tk' => Q .next { s with heap := h', toks := tk' }) h F5 N5 ho3 ⟨0, _, _, rfl⟩ ?_; refine fo_blank ?_))
  all_goals first
    | ((with_reducible show (blankC _ && _) = false); rw [hB _ (by assumption)]; rfl)
    | ((with_reducible show (blankC _ && _) = false); rw [show (k + 1 == x.length) = false from beq_eq_false_iff_ne.mpr (by omega), Bool.and_false])
    | ((with_reducible show (blankC _ && _) = true); rw [hB _ (by assumption), show (k + 1 == x.length) = true from beq_iff_eq.mpr (by omega)]; rfl)
    | ((with_reducible show plainC _ = _); unfold plainC; rw [h9 _ (by assumption)]; rfl)
    | ((with_reducible show plainC _ = true); exact pl_yes (h61 _ (by assumption)) (by omega) (by omega))
    | ((with_reducible show plainC _ = false); exact pl_no (h9 _ (by assumption)) (.inl (by omega)))
    | ((with_reducible show plainC _ = false); exact pl_no (h9 _ (by assumption)) (.inr (.inl (by omega))))
    | ((with_reducible show plainC _ = false); exact pl_no (h9 _ (by assumption)) (.inr (.inr (h61 _ (by assumption)))))
end Mine
end
section
set_option maxRecDepth 100000
set_option maxHeartbeats 1000000
set_option linter.unusedVariables false
namespace Mine
theorem anew42 : True := by
  w_top off
  first | walk1 | trivial
open PySem PySem.W PySem.Calls PyProof.Rows
local macro_rules | `(tactic| walk_at "eval Name") => `(tactic| first
  | refine nm_local rfl rfl (Fr.ns (by assumption)) rfl ?_
  | refine nm_cell rfl rfl rfl (by assumption) ?_)
theorem bs_mk {w : World} {A : Around} {s₀ s : Shared} {L : Addr} {nm : Str} {Q : Flow → Shared → Prop} {E : Value → Shared → Prop} {mean mg mb} {m : Str → Option Value} {base : List (Addr × Obj)} (T : Top vq (looseW vq looseN) mean mg mb s₀.heap) (Y : TopH w s₀.heap)
    (hh : A.handled = none) {x : List Nat} {n k c : Nat} {tr t0 tk : Tok} (hx : x.length ≤ 4000) (hk : x[k]? = some c) (hc : c < 256)
    (F : Fr s₀.heap L s.heap m) (hm : ∀ p ∈ bsE0 x n k tr t0 tk, m p.1 = some p.2) (N : News s₀.heap L s.heap base)
    (h : ∀ h' tk' m' Fm fvs fep tups, Fr s₀.heap L h' m' → (∀ p ∈ (Str.ofString "forms", Value.ref Fm) :: bsE0 x n k tr t0 tk, m' p.1 = some p.2) → News s₀.heap L h' ((Fm, lst fvs fep) :: (tups ++ base)) → (∀ p ∈ tups, TupO p.2) → (∀ p ∈ base, p.1 ≠ Fm) → FormsAre tups fvs (formsOf c (k + 1 == x.length)) → wpAny (model PR w) A (execs ((sBody (nth (fBody (stm 21)) 1)).drop 2) (bsEnv nm L)) Q E { s with heap := h', toks := tk' }) :
    wpAny (model PR w) A (execs (sBody (nth (fBody (stm 21)) 1)) (bsEnv nm L)) Q E s := by
  w_on
  rw [← over_eq hm] at F
  unfold bsE0 at F
  refine wpAny_execs_cons ?_
  iterate 12 walk1
  rename_i h1 F1 N1 h2 F2 N2
  have hlt : ∀ p ∈ base, p.1 ≠ h1.objs.size := fun p hp => Nat.ne_of_lt (Heap.lt_size (N1 p (.tail _ hp)).1)
  dsimp only at N2 F2 ⊢
  generalize h1.objs.size = Fm at N2 hlt ⊢
  clear F1 N1
  walk1
  rename_i h3 F3 N3
  refine wpAny_execs_cons ?_
  refine bs_if (x := x) (n := n) (k := k) (c := c) (tr := tr) (t0 := t0) (tk := tk) (Fm := Fm) T Y hh hx hk hc (fr_over F3 (by unfold bsE0; walk_at "known")) N3 ⟨0, _, _, rfl⟩ hlt ?_
  intro h4 tk4 fvs fep tups F4 N4 ht4 hf4
  dsimp only
  exact h _ _ _ Fm fvs fep tups F4 (by unfold bsE0; walk_at "known") N4 ht4 hlt hf4
end Mine
end
section
set_option maxRecDepth 100000
set_option maxHeartbeats 1000000
set_option linter.unusedVariables false
namespace Mine
theorem anew43 : True := by
  w_top off
  first | walk1 | trivial
open PySem PySem.W PySem.Calls PyProof.Rows
local macro_rules | `(tactic| walk_at "eval Name") => `(tactic| first
  | refine nm_local rfl rfl (Fr.ns (by assumption)) rfl ?_
  | refine nm_cell rfl rfl rfl (by assumption) ?_)
theorem bs_dict {w : World} {A : Around} {s₀ s : Shared} {L : Addr} {nm : Str} {Q : Flow → Shared → Prop} {E : Value → Shared → Prop} {mean mg mb} {m : Str → Option Value} {base : List (Addr × Obj)} (T : Top vq (looseW vq looseN) mean mg mb s₀.heap) (Y : TopH w s₀.heap)
    (hh : A.handled = none) (F : Fr s₀.heap L s.heap m) (N : News s₀.heap L s.heap base)
    (h : ∀ h' tk' D o, Fr s₀.heap L h' (fun y => if y = "after" then some (.ref D) else m y) → News s₀.heap L h' ((D, o) :: base) → (∀ p ∈ base, p.1 ≠ D) → (D == sysModules) = false → o.IsDictOf (intKind PR w) [] → wpAny (model PR w) A (execs ((sBody (nth (fBody (stm 21)) 1)).drop 3) (bsEnv nm L)) Q E { s with heap := h', toks := tk' }) :
    wpAny (model PR w) A (execs ((sBody (nth (fBody (stm 21)) 1)).drop 2) (bsEnv nm L)) Q E s := by
  w_on
  refine wpAny_execs_cons ?_
  walk1
  refine Dict_empty_made2 F N (modules_low T.nolimit) ?_
  intro h1 o F1 N1 lo _ _ hd _ hoff
  clear F N
  dsimp only
  walk1
  rename_i h2 F2 N2
  exact h _ _ _ _ F2 N2 hoff lo hd
theorem store_ways {w : World} {A : Around} {E : Value → Shared → Prop} {s : Shared} {h₀ : Heap} {L : Addr} {m : Str → Option Value} {nm : Str} {v : Value} {v₀ : Option Value} {oc : Obj} {rest : List (Addr × Obj)} {Q : Unit → Shared → Prop} (F : Fr h₀ L s.heap m) (N : News h₀ L s.heap ((L + 1, oc) :: rest)) (hoff : ∀ p ∈ rest, p.1 ≠ L + 1) (hoc : oc.data = .cell v₀)
    (h : ∀ h' o', Fr h₀ L h' m → News h₀ L h' ((L + 1, o') :: rest) → o'.data = .cell (some v) → Q () { s with heap := h' }) : wpAny (model PR w) A (storeName (bsEnv nm L) "ways" v) Q E s :=
  storeX_C (g := fun o' => (L + 1, o') :: rest) F N rfl (.head hoff) hoc h rfl rfl
theorem nodup_bound : ∀ (n : Nat) (l : List Nat), l.Nodup → (∀ x ∈ l, x < n) → l.length ≤ n
  | 0, l, _, h => by
    cases l with
    | nil => exact Nat.le_refl _
    | cons a l => exact absurd (h a (.head _)) (Nat.not_lt_zero _)
  | n + 1, l, hn, h => by
    by_cases hm : n ∈ l
    · have h1 := nodup_bound n (l.erase n) (hn.erase n) fun x hx => by
        have hx' := (List.Nodup.mem_erase_iff hn).mp hx
        have := h x hx'.2
        have := hx'.1
        omega
      have h2 := List.length_erase_of_mem hm
      omega
    · have := nodup_bound n l hn fun x hx => by
        have h1 := h x hx
        have : x ≠ n := fun q => hm (q ▸ hx)
        omega
      omega
theorem tab_len {n : Nat} (hn : 4 ≤ n) {x : List Nat} {k : Nat} (hk : k ≤ x.length) : (waysAt n x k).length ≤ n + 1 := by
  have h := tab_at hn x k hk
  have := nodup_bound (n + 1) ((waysAt n x k).map fun e => e.1) (show ((waysAt n x k).map (·.1)).Nodup from h.keys) fun u hu => by
    obtain ⟨e, he, rfl⟩ := List.mem_map.mp hu
    have := (h.low e he).1
    omega
  rwa [List.length_map] at this
theorem forms_len (c : Nat) (l : Bool) : (formsOf c l).length ≤ 2 := by
  unfold formsOf
  split
  · simp
  · split <;> simp
noncomputable def bsR0 (x : List Nat) (n : Nat) (tr t0 : Tok) : List (Str × Value) := [("row", .str (mkS x) tr), ("length", .int (n : Int) t0)]
/-- one octet of the row -/
theorem bs_turn {w : World} {A : Around} {s₀ s : Shared} {L Dw : Addr} {nm : Str} {Q : Flow → Shared → Prop} {E : Value → Shared → Prop} {mean mg mb} {m : Str → Option Value} {own tups : List (Addr × Obj)} (T : Top vq (looseW vq looseN) mean mg mb s₀.heap) (Y : TopH w s₀.heap) (hE : PassesOwn (model PR w) A (bsEnv nm L) E)
    (hh : A.handled = none) (hu : A.units + 1 < cLine) {oc ow : Obj} {kvsW : List (Int × Value)} {x : List Nat} {n k c : Nat} {tr t0 tk : Tok} (hn : 4 ≤ n) (hn1 : n ≤ 100) (hx : x.length ≤ 4000) (hk : x[k]? = some c) (hc : c < 256)
    (F : Fr s₀.heap L s.heap m) (hm : ∀ p ∈ bsE0 x n k tr t0 tk, m p.1 = some p.2) (N : News s₀.heap L s.heap ((L + 1, oc) :: (Dw, ow) :: tups ++ own)) (htup : ∀ p ∈ tups, TupO p.2) (hown : ∀ p ∈ own, p.1 ≠ L + 1) (hoc : oc.data = .cell (some (.ref Dw))) (low : (Dw == sysModules) = false) (hdw : ow.IsDictOf (intKind PR w) kvsW) (hWw : DW tups kvsW (waysAt n x k))
    (h : ∀ h' tk' m' oc' D o kvs' tups', Fr s₀.heap L h' m' → (∀ p ∈ bsR0 x n tr t0, m' p.1 = some p.2) → News s₀.heap L h' ((L + 1, oc') :: (D, o) :: tups' ++ own) → (∀ p ∈ tups', TupO p.2) → oc'.data = .cell (some (.ref D)) → (D == sysModules) = false → o.IsDictOf (intKind PR w) kvs' → DW tups' kvs' (waysAt n x (k + 1)) → Q .next { s with heap := h', toks := tk' }) :
    wpAny (model PR w) A (execs (sBody (nth (fBody (stm 21)) 1)) (bsEnv nm L)) Q E s := by
  w_on
  have hfo : formsOf c (k + 1 == x.length) = formsAt x k := by
    unfold formsAt
    rw [List.getD_eq_getElem?_getD, hk]; rfl
  have hkl := (List.getElem?_eq_some_iff.mp hk).1
  have hlen := tab_len hn (x := x) (k := k) (by omega)
  have hocK : ∀ {h' : Heap} {news : List (Addr × Obj)} {a : Addr} {o' : Obj}, News s₀.heap L h' news → (L + 1, oc) ∈ news → (a, o') ∈ news → o'.data ≠ oc.data → a ≠ L + 1 := fun N h1 h2 hne q => by
    subst q
    have e1 := (N _ h1).1
    have e2 := (N _ h2).1
    dsimp only at e1 e2
    rw [e1] at e2
    exact hne (by rw [Option.some.inj e2])
  refine bs_mk T Y hh hx hk hc F hm N ?_
  intro h1 tk1 m1 Fm fvs fep ftups F1 hm1 N1 hft hoffF hfs
  refine bs_dict T Y hh F1 N1 ?_
  intro h2 tk2 D o F2 N2 hoffD lo hd
  -- the objects that the loops only read
  let base := (Fm, lst fvs fep) :: (ftups ++ ((L + 1, oc) :: (Dw, ow) :: tups ++ own))
  have hbase : (Fm, lst fvs fep) :: (ftups ++ ((L + 1, oc) :: (Dw, ow) :: tups ++ own)) = base := rfl
  refine bs_used (base := base) (tups := []) (D := D) (Dw := Dw) (Fm := Fm) (n := n) (t0 := t0) (tr := tr) (rS := mkS x) (fvs := fvs) (fs := formsAt x k) (fep := fep) (oc := oc) (ow := ow) (kvsW := kvsW) (Ww := waysAt n x k) T Y hE hh hu F2 ?_ (by rw [List.append_nil]; exact N2) (fun _ q => by cases q) hoffD lo hd (.head _) (by rw [← hfo]; exact hfs.sub fun p hp => .tail _ (List.mem_append_left _ hp)) (by rw [← hfo]; exact forms_len _ _)
    (.tail _ (List.mem_append_right _ (.tail _ (.head _)))) low hdw (hWw.sub fun p hp => .tail _ (List.mem_append_right _ (.tail _ (.tail _ (List.mem_append_left _ hp))))) (by omega) (.tail _ (List.mem_append_right _ (.head _))) hoc ?_
  · unfold bsD0
    refine List.forall_mem_cons.mpr ⟨?_, List.forall_mem_cons.mpr ⟨rfl, List.forall_mem_cons.mpr ⟨?_, List.forall_mem_cons.mpr ⟨?_, List.forall_mem_nil _⟩⟩⟩⟩
    · exact hm1 _ (.tail _ (.tail _ (.head _)))
    · exact hm1 _ (.head _)
    · exact hm1 _ (.tail _ (.head _))
  · intro h3 tk3 m3 o3 kvs3 tups3 F3 hm3 N3 ht3 hd3 hW3
    have hd3d : o3.data ≠ oc.data := by
      obtain ⟨es, ep, _, hdat, _⟩ := hd3
      rw [hdat, hoc]; intro q; cases q
    have hWf : DW ((base ++ tups3).filter fun p => isTupB p.2) kvs3 (waysAt n x (k + 1)) := DW.filter (news := base ++ tups3) (base := []) hW3
    have N4 : News s₀.heap L h3 ((L + 1, oc) :: ((D, o3) :: ((base ++ tups3).filter fun p => isTupB p.2) ++ own)) := News.sub N3 fun p hp => by
      rcases List.mem_cons.mp hp with rfl | hp
      · exact .tail _ (List.mem_append_left _ (.tail _ (List.mem_append_right _ (.head _))))
      · rw [List.cons_append] at hp
        rcases List.mem_cons.mp hp with rfl | hp
        · exact .head _
        · rcases List.mem_append.mp hp with hp | hp
          · exact .tail _ (List.mem_filter.mp hp).1
          · exact .tail _ (List.mem_append_left _ (.tail _ (List.mem_append_right _ (.tail _ (.tail _ (List.mem_append_right _ hp))))))
    have hoff4 : ∀ p ∈ (D, o3) :: ((base ++ tups3).filter fun p => isTupB p.2) ++ own, p.1 ≠ L + 1 := fun p hp => by
      rw [List.cons_append] at hp
      rcases List.mem_cons.mp hp with rfl | hp
      · exact hocK N4 (.head _) (.tail _ (.head _)) hd3d
      · rcases List.mem_append.mp hp with hp | hp
        · refine hocK (o' := p.2) N4 (.head _) (.tail _ (.tail _ (List.mem_append_left _ hp))) ?_
          have := (List.mem_filter.mp hp).2
          intro q
          unfold isTupB at this
          rw [q, hoc] at this
          split at this
          · rename_i e; cases e
          · cases this
        · exact hown p hp
    rw [← over_eq hm3] at F3
    unfold bsD0 at F3
    clear F F1 F2 N N1 N2 N3
    refine wpAny_execs_cons ?_
    iterate 2 walk1
    refine store_ways F3 N4 hoff4 hoc ?_
    intro h5 o5 F5 N5 ho5
    dsimp only
    walk1
    exact h _ _ _ o5 D o3 kvs3 ((base ++ tups3).filter fun p => isTupB p.2) F5 (by unfold bsR0; walk_at "known") N5 (fun p hp => isTupB_tup (List.mem_filter.mp hp).2) ho5 lo hd3 hWf
end Mine
end
section
set_option maxRecDepth 100000
set_option maxHeartbeats 1000000
set_option linter.unusedVariables false
namespace Mine
theorem anew44 : True := by
  w_top off
  first | walk1 | trivial
open PySem PySem.W PySem.Calls PyProof.Rows
local macro_rules | `(tactic| walk_at "eval Name") => `(tactic| first
  | refine nm_local rfl rfl (Fr.ns (by assumption)) rfl ?_
  | refine nm_cell rfl rfl rfl (by assumption) ?_
  | ((with_reducible show wpAny _ _ (eval (PySem.Expr.Name (Str.ofString "len") _) _) _ _ _); refine nm_boot rfl rfl rfl rfl (by assumption) (Fr.keep (by assumption)) (fr_top (by assumption) (by assumption)) (gn_len _) bo_len (by decide) ?_)
  | ((with_reducible show wpAny _ _ (eval (PySem.Expr.Name (Str.ofString "range") _) _) _ _ _); refine nm_boot rfl rfl rfl rfl (by assumption) (Fr.keep (by assumption)) (fr_top (by assumption) (by assumption)) (gn_range _) bo_range (by decide) ?_))
theorem start_news {h₀ h2 h3 : Heap} {L D a : Addr} {oa od oc o3 : Obj} {m : Str → Option Value} {es : Array DictEntry} {ep : Nat} (F2 : Fr h₀ L h2 m) (N2 : News h₀ L h2 [(a, oa), (D, od), (L + 1, oc)]) (hpa : PairO oa (1, 0)) (hod : od.data = .dict es ep) (hoc : oc.data = .cell none) (hs3 : Heap.SameBut D h2 h3) (ho3 : h3.get? D = some o3) :
    Fr h₀ L h3 m ∧ News h₀ L h3 ((L + 1, oc) :: [(D, o3), (a, oa)]) ∧ ∀ p ∈ [(D, o3), (a, oa)], p.1 ≠ L + 1 := by
  have hoad : oa.data ≠ oc.data := by obtain ⟨_, _, _, rfl⟩ := hpa; rw [hoc]; intro q; cases q
  have hdd : od.data ≠ oc.data := by rw [hod, hoc]; intro q; cases q
  have had : oa.data ≠ od.data := by obtain ⟨_, _, _, rfl⟩ := hpa; rw [hod]; intro q; cases q
  have apart : ∀ {x y : Addr} {ox oy : Obj}, (x, ox) ∈ [(a, oa), (D, od), (L + 1, oc)] → (y, oy) ∈ [(a, oa), (D, od), (L + 1, oc)] → ox.data ≠ oy.data → x ≠ y := fun h1 h2 hne q => by
    subst q
    have e1 := (N2 _ h1).1
    have e2 := (N2 _ h2).1
    dsimp only at e1 e2
    rw [e1] at e2
    exact hne (by rw [Option.some.inj e2])
  have haD : a ≠ D := apart (.head _) (.tail _ (.head _)) had
  have haL : a ≠ L + 1 := apart (.head _) (.tail _ (.tail _ (.head _))) hoad
  have hDL : D ≠ L + 1 := apart (.tail _ (.head _)) (.tail _ (.tail _ (.head _))) hdd
  have hm := N2 _ (.tail _ (.head _))
  refine ⟨F2.change hs3 hm.2.1 hm.2.2, fun p hp => ?_, fun p hp => ?_⟩
  · rcases List.mem_cons.mp hp with rfl | hp
    · exact ⟨(hs3.2 _ hDL.symm).trans (N2 _ (.tail _ (.tail _ (.head _)))).1, (N2 _ (.tail _ (.tail _ (.head _)))).2⟩
    · rcases List.mem_cons.mp hp with rfl | hp
      · exact ⟨ho3, hm.2⟩
      · rw [List.mem_singleton.mp hp]
        exact ⟨(hs3.2 _ haD).trans (N2 _ (.head _)).1, (N2 _ (.head _)).2⟩
  · rcases List.mem_cons.mp hp with rfl | hp
    · exact hDL
    · rw [List.mem_singleton.mp hp]; exact haL
theorem bs_start {w : World} {A : Around} {s₀ s : Shared} {L : Addr} {nm : Str} {Q : Flow → Shared → Prop} {E : Value → Shared → Prop} {mean mg mb} {m : Str → Option Value} {oc : Obj} (T : Top vq (looseW vq looseN) mean mg mb s₀.heap) (Y : TopH w s₀.heap)
    (hh : A.handled = none) (F : Fr s₀.heap L s.heap m) (N : News s₀.heap L s.heap [(L + 1, oc)]) (hoc : oc.data = .cell none)
    (h : ∀ h' tk' oc' D o kvs' tups', Fr s₀.heap L h' m → News s₀.heap L h' ((L + 1, oc') :: (D, o) :: tups') → (∀ p ∈ tups', TupO p.2) → oc'.data = .cell (some (.ref D)) → (D == sysModules) = false → o.IsDictOf (intKind PR w) kvs' → DW tups' kvs' [(0, (1, 0))] → wpAny (model PR w) A (execs ((fBody (stm 21)).drop 1) (bsEnv nm L)) Q E { s with heap := h', toks := tk' }) :
    wpAny (model PR w) A (execs (fBody (stm 21)) (bsEnv nm L)) Q E s := by
  w_on
  refine wpAny_execs_cons ?_
  walk1
  refine wpAny_Dict_walk (knd := intKind PR w) rfl rfl (by simp) (by decide) ?_
  have F1 := F.push { cls := .type "dict", data := .dict #[] }
  have N1 := News.push F N { cls := .type "dict", data := .dict #[] }
  have hDn : ∀ p ∈ [(L + 1, oc)], p.1 ≠ s.heap.objs.size := fun p hp => Nat.ne_of_lt (Heap.lt_size (N p hp).1)
  have lo : (s.heap.objs.size == sysModules) = false := F.notModules (modules_low T.nolimit)
  have hD0 : (s.heap.push { cls := .type "dict", data := .dict #[] }).DictOf (intKind PR w) s.heap.objs.size [] := Heap.DictOf.new s.heap
  clear F N
  refine pairTrees_cons_walk ?_
  iterate 8 walk1
  rename_i h2 F2 N2
  refine pairTrees_nil_walk ?_
  dsimp only at F2 N2 ⊢
  generalize (s.heap.push { cls := .type "dict", data := .dict #[] }).objs.size = a at N2 ⊢
  obtain ⟨oa, od, N3, hpa, hod, hod2⟩ : ∃ oa od, News s₀.heap L h2 [(a, oa), (s.heap.objs.size, od), (L + 1, oc)] ∧ PairO oa (1, 0) ∧ od = { cls := .type "dict", data := .dict #[] } ∧ od.data = .dict #[] 0 := ⟨_, _, N2, ⟨0, _, _, rfl⟩, rfl, rfl⟩
  clear N2 F1 N1
  have hD2 : h2.DictOf (intKind PR w) s.heap.objs.size [] := by
    obtain ⟨o, ho, hd⟩ := Heap.dictOf_iff.mp hD0
    rw [Heap.get?_push_size _ rfl] at ho
    exact Heap.dictOf_iff.mpr ⟨_, (N3 _ (.tail _ (.head _))).1, by rw [hod, Option.some.inj ho]; exact hd⟩
  refine ⟨[((0 : Int), .ref a)], ⟨intKind_is _ _ _ _, rfl, trivial⟩, hD2, ?_⟩
  intro h3 hD3 hs3
  obtain ⟨o3, ho3, hd3⟩ := Heap.dictOf_iff.mp hD3
  have hmg : merged ([] : List (Int × Value)) [((0 : Int), .ref a)] = [((0 : Int), .ref a)] := rfl
  rw [hmg] at hd3
  obtain ⟨F4, N4, hoff4⟩ := start_news F2 N3 hpa hod2 hoc hs3 ho3
  refine store_ways F4 N4 hoff4 hoc ?_
  intro h5 o5 F5 N5 ho5
  exact h _ _ o5 _ o3 _ [(a, oa)] F5 N5 (fun p hp => by rw [List.mem_singleton.mp hp]; exact isTupB_tup hpa.tup) ho5 lo hd3 (.cons (.head _) hpa .nil)
end Mine
end
section
set_option maxRecDepth 100000
set_option maxHeartbeats 1000000
set_option linter.unusedVariables false
namespace Mine
theorem anew45 : True := by
  w_top off
  first | walk1 | trivial
open PySem PySem.W PySem.Calls PyProof.Rows
local macro_rules | `(tactic| walk_at "eval Name") => `(tactic| first
  | refine nm_local rfl rfl (Fr.ns (by assumption)) rfl ?_
  | refine nm_cell rfl rfl rfl (by assumption) ?_
  | ((with_reducible show wpAny _ _ (eval (PySem.Expr.Name (Str.ofString "len") _) _) _ _ _); refine nm_boot rfl rfl rfl rfl (by assumption) (Fr.keep (by assumption)) (fr_top (by assumption) (by assumption)) (gn_len _) bo_len (by decide) ?_)
  | ((with_reducible show wpAny _ _ (eval (PySem.Expr.Name (Str.ofString "range") _) _) _ _ _); refine nm_boot rfl rfl rfl rfl (by assumption) (Fr.keep (by assumption)) (fr_top (by assumption) (by assumption)) (gn_range _) bo_range (by decide) ?_))
theorem bs_rows {w : World} {A : Around} {s₀ s : Shared} {L Dw : Addr} {nm : Str} {Q : Flow → Shared → Prop} {E : Value → Shared → Prop} {mean mg mb} {m : Str → Option Value} {tups : List (Addr × Obj)} (T : Top vq (looseW vq looseN) mean mg mb s₀.heap) (Y : TopH w s₀.heap) (hE : PassesOwn (model PR w) A (bsEnv nm L) E)
    (hh : A.handled = none) (hu : A.units + 1 < cLine) {oc ow : Obj} {kvsW : List (Int × Value)} {x : List Nat} {n : Nat} {tr t0 : Tok} (hn : 4 ≤ n) (hn1 : n ≤ 100) (hx : x.length ≤ 4000) (hx8 : ∀ c ∈ x, c < 256)
    (F : Fr s₀.heap L s.heap m) (hm : ∀ p ∈ bsR0 x n tr t0, m p.1 = some p.2) (N : News s₀.heap L s.heap ((L + 1, oc) :: (Dw, ow) :: tups)) (htup : ∀ p ∈ tups, TupO p.2) (hoc : oc.data = .cell (some (.ref Dw))) (low : (Dw == sysModules) = false) (hdw : ow.IsDictOf (intKind PR w) kvsW) (hWw : DW tups kvsW [(0, (1, 0))])
    (h : ∀ h' tk' m' oc' D o kvs' tups', Fr s₀.heap L h' m' → News s₀.heap L h' ((L + 1, oc') :: (D, o) :: tups') → (∀ p ∈ tups', TupO p.2) → oc'.data = .cell (some (.ref D)) → (D == sysModules) = false → o.IsDictOf (intKind PR w) kvs' → DW tups' kvs' (waysAt n x x.length) → wpAny (model PR w) A (execs ((fBody (stm 21)).drop 2) (bsEnv nm L)) Q E { s with heap := h', toks := tk' }) :
    wpAny (model PR w) A (execs ((fBody (stm 21)).drop 1) (bsEnv nm L)) Q E s := by
  w_on
  rw [← over_eq hm] at F
  unfold bsR0 at F
  have hmx := mkS_length x
  refine wpAny_execs_cons ?_
  refine wpAny_For ?_
  repeat' walk1
  rename_i h1 tk1 t₁ u₁ v₁ hr F1 N1 hk1
  rw [hmx] at hr
  dsimp only at hr F1 N1 ⊢
  have N1c := N1 _ (.head _)
  have hrs : Builtin.Range.rangeSize 0 (x.length : Int) 1 = (x.length : Int) := by
    unfold Builtin.Range.rangeSize
    rw [if_pos (by decide)]
    split
    · rw [Int.ediv_one]; omega
    · omega
  refine iterG_range (n := x.length) (fun k m news => ∃ oc' D o kvs' tups', news = (L + 1, oc') :: (D, o) :: tups' ∧ (∀ p ∈ tups', TupO p.2) ∧ oc'.data = .cell (some (.ref D)) ∧ (D == sysModules) = false ∧ o.IsDictOf (intKind PR w) kvs' ∧ DW tups' kvs' (waysAt n x k) ∧ ∀ p ∈ bsR0 x n tr t0, m p.1 = some p.2) hh hr
    (small_one (by decide) (by decide) (by omega) (by omega)) hrs F1 N1 ⟨oc, Dw, ow, kvsW, tups, rfl, htup, hoc, low, hdw, hWw, by unfold bsR0; walk_at "known"⟩ hE ?_ ?_
  · rintro k t m₁ news₁ s₁ own ⟨h2, tk2, rfl⟩ hk ⟨oc', D, o, kvs', tups', rfl, htup', hoc', lo', hd', hW', hm'⟩ hown F₂ N₂
    obtain ⟨c, hc⟩ : ∃ c, x[k]? = some c := ⟨x[k], by simp [hk]⟩
    rw [← over_eq hm'] at F₂
    unfold bsR0 at F₂
    dsimp only at F₂ N₂
    clear F1 N1
    refine wpAny_assign_Name ?_
    walk1
    rename_i h3 F3 N3
    have hownc : ∀ p ∈ own, p.1 ≠ L + 1 := fun p hp q => by
      have h1' := hown p hp
      have h2' := Heap.lt_size (N1c.1)
      rw [← q, h1'] at h2'
      exact absurd h2' (Nat.lt_irrefl _)
    refine bs_turn (own := own) (tups := tups') (Dw := D) (x := x) (n := n) (k := k) (c := c) (tr := tr) (t0 := t0) (tk := t) T Y hE hh hu hn hn1 hx hc (hx8 c (List.mem_of_getElem? hc)) F3 (by unfold bsE0; walk_at "known") N3 htup' hownc hoc' lo' hd' hW' ?_
    intro h4 tk4 m4 oc4 D4 o4 kvs4 tups4 F4 hm4 N4 ht4 hoc4 lo4 hd4 hW4
    refine ⟨h4, tk4, m4, (L + 1, oc4) :: (D4, o4) :: tups4, rfl, F4, N4, fun p hp => ?_, oc4, D4, o4, kvs4, tups4, rfl, ht4, hoc4, lo4, hd4, hW4, hm4⟩
    rcases List.mem_cons.mp hp with rfl | hp
    · exact .inl ⟨_, .head _, rfl⟩
    · rcases List.mem_cons.mp hp with rfl | hp
      · refine .inr fun vs q => ?_
        obtain ⟨_, _, _, hdat, _⟩ := hd4
        rw [hdat] at q; cases q
      · exact .inr (ht4 p hp).2
  · rintro m₁ news₁ h2 tk2 ⟨oc', D, o, kvs', tups', rfl, htup', hoc', lo', hd', hW', hm'⟩ F₂ N₂
    exact h _ _ _ _ _ _ _ _ F₂ N₂ htup' hoc' lo' hd' hW'
end Mine
end
end
section
set_option maxRecDepth 100000
set_option maxHeartbeats 1000000
set_option linter.unusedVariables false
namespace Mine
theorem anew46 : True := by
  w_top off
  first | walk1 | trivial
open PySem PySem.W PySem.Calls PyProof.Rows
local macro_rules | `(tactic| walk_at "eval Name") => `(tactic| first
  | refine nm_local rfl rfl (Fr.ns (by assumption)) rfl ?_
  | refine nm_local rfl rfl (by assumption) (by assumption) ?_
  | refine nm_cell rfl rfl rfl (by assumption) ?_
  | ((with_reducible show wpAny _ _ (eval (PySem.Expr.Name (Str.ofString "min") _) _) _ _ _); refine nm_boot rfl rfl rfl rfl (by assumption) (Fr.keep (by assumption)) (fr_top (by assumption) (by assumption)) (gn_min _) bo_min (by decide) ?_))
def fU (kvs : List (Int × Value)) (v y : Value) : Prop := ∃ (u : Int) (t : Tok), v = .int u t ∧ valueAt kvs u = some y
theorem pair_vals {kvs : List (Int × Value)} (hnd : (kvs.map (·.1)).Nodup) : ∀ (vs ys : List Value), Paired (fU kvs) (vs.filter fun _ => true) ys → (∀ (j : Nat) (v : Value), vs[j]? = some v → ∃ k x, kvs[j]? = some (k, x) ∧ Value.isInt k v = true) → ys.length = vs.length ∧ ∀ (j : Nat) (y : Value), ys[j]? = some y → ∃ k, kvs[j]? = some (k, y) := by
  have key : ∀ (vs ys : List Value) (d : Nat), Paired (fU kvs) (vs.filter fun _ => true) ys → (∀ (j : Nat) (v : Value), vs[j]? = some v → ∃ k x, kvs[d + j]? = some (k, x) ∧ Value.isInt k v = true) → ys.length = vs.length ∧ ∀ (j : Nat) (y : Value), ys[j]? = some y → ∃ k, kvs[d + j]? = some (k, y) := by
    intro vs
    induction vs with
    | nil =>
      intro ys d hp _
      cases hp
      exact ⟨rfl, fun j y h => by cases h⟩
    | cons v vs ih =>
      intro ys d hp hv
      cases hp with
      | @cons _ y _ ys hf hp =>
        obtain ⟨i1, i2⟩ := ih ys (d + 1) hp fun j v hj => by
          obtain ⟨k, x, h1, h2⟩ := hv (j + 1) v hj
          exact ⟨k, x, by rw [show d + 1 + j = d + (j + 1) by omega]; exact h1, h2⟩
        refine ⟨by rw [List.length_cons, List.length_cons, i1], fun j z hj => ?_⟩
        cases j with
        | zero =>
          have hz := Option.some.inj hj
          subst hz
          obtain ⟨u, t, rfl, hu⟩ := hf
          obtain ⟨k, x, h1, h2⟩ := hv 0 _ rfl
          obtain ⟨t', e⟩ := Value.isInt_shape h2
          injection e with e1 e2
          subst e1
          have := valueAt_of_get hnd h1
          rw [hu] at this
          exact ⟨u, by rw [Option.some.inj this]; exact h1⟩
        | succ j =>
          obtain ⟨k, hk⟩ := i2 j z hj
          exact ⟨k, by rw [show d + (j + 1) = d + 1 + j by omega]; exact hk⟩
  intro vs ys hp hv
  have := key vs ys 0 hp fun j v hj => by rw [Nat.zero_add]; exact hv j v hj
  simpa using this
theorem bs_ret {w : World} {A : Around} {s₀ s : Shared} {L D : Addr} {nm : Str} {Q : Flow → Shared → Prop} {E : Value → Shared → Prop} {mean mg mb} {m : Str → Option Value} {tups : List (Addr × Obj)} (T : Top vq (looseW vq looseN) mean mg mb s₀.heap) (Y : TopH w s₀.heap)
    (hh : A.handled = none) (hu : A.units + 1 < cLine) {oc o : Obj} {kvs : List (Int × Value)} {W : List (Nat × (Nat × Nat))} (hne : W ≠ []) (hWl : W.length ≤ 101)
    (F : Fr s₀.heap L s.heap m) (N : News s₀.heap L s.heap ((L + 1, oc) :: (D, o) :: tups)) (hoc : oc.data = .cell (some (.ref D))) (lo : (D == sysModules) = false) (hd : o.IsDictOf (intKind PR w) kvs) (hW : DW tups kvs W)
    (h : ∀ h' tk' a v, (∀ b o, s₀.heap.get? b = some o → h'.get? b = some o) → IsP h' a v → s₀.heap.get? a = none → (∃ u, (u, v) ∈ W) → (∀ e ∈ W, lx v e.2) → Q (.ret (.ref a)) { s with heap := h', toks := tk' }) :
    wpAny (model PR w) A (execs ((fBody (stm 21)).drop 2) (bsEnv nm L)) Q E s := by
  w_on
  have hcell : s.heap.IsCell (L + 1) (some (.ref D)) := cell_of N hoc (.head _)
  have hnd : (kvs.map (·.1)).Nodup := by obtain ⟨_, _, _, _, _, _, hn⟩ := hd; exact hn
  have hwl := hW.length
  refine wpAny_execs_cons ?_
  iterate 5 walk1
  refine wpAny_ListComp_free (cl := [("ways", L + 1)]) (fun _ => true) (fU kvs) ?hclos ?hcell ?hkind ?hnames ?hx ?_
  case hclos => rfl
  case hcell => decide +kernel
  case hkind => rfl
  case hnames => decide +kernel
  case hx => rfl
  refine nm_cell rfl rfl rfl hcell ?_
  have hDm := N _ (.tail _ (.head _))
  have hdd : s.heap.DictOf (intKind PR w) D kvs := Heap.dictOf_iff.mpr ⟨o, hDm.1, hd⟩
  obtain ⟨ep, hat⟩ := hdd.dictAt
  have hneD : D ≠ s.heap.objs.size := Nat.ne_of_lt hat.lt_size
  refine wpAny_pyIter_dict lo hat ?_
  have Wk := walks_lt (Walks.dictKeys (prog := PR) (w := w) (A := A) (knd := intKind PR w) hh s.heap.objs.size D hneD kvs ep)
  refine ⟨_, _, _, _, _, _, rfl, Wk, by rw [sizeLine_eq]; omega, ?_, ?_, ⟨?_, ?_⟩, ?_⟩
  · exact ⟨⟨_, Heap.get?_push_size _ rfl, rfl, rfl⟩, hat.push _⟩
  · intro b hb
    rw [Heap.size_push]
    rcases List.mem_cons.mp hb with rfl | hb
    · exact Nat.lt_succ_self _
    · rw [List.mem_singleton.mp hb]; exact Nat.lt_succ_of_lt hat.lt_size
  · intro C i v s₃ m₃ E' hC hP hn hm hk ht
    exact wpAny_tests_nil ⟨rfl, _, _, rfl, fun _ _ e => e⟩
  · intro C i v s₃ m₃ E' hC hP hp hn hm hk ht
    obtain ⟨hi, k, z, hkz, hkv⟩ := hP
    obtain ⟨t, rfl⟩ := Value.isInt_shape hkv
    have keep3 : ∀ b o, s.heap.get? b = some o → s₃.heap.get? b = some o := fun b o e => hk b o (fun q => by
      rw [List.mem_singleton] at q
      have := Heap.lt_size e
      rw [q] at this; exact absurd this (Nat.lt_irrefl _)) (Heap.get?_push_of_some _ e)
    have hcl : s₃.heap.IsCell (L + 1) (some (.ref D)) := ⟨oc, keep3 _ _ (N _ (.head _)).1, hoc⟩
    refine wpAny_mono (Q := fun y s₄ => KF (fU kvs) (.int k t) s₃ y s₄) ?_ (fun _ _ z => z) (fun _ _ z => z)
    have hD3 : s₃.heap.DictOf (intKind PR w) D kvs := Heap.dictOf_iff.mpr ⟨o, keep3 _ _ hDm.1, hd⟩
    clear F N hk hcell
    repeat' walk1
    refine subscriptTail_builtin hD3.typeIs slot_dict_getitem.lookup (wpAny_getItem_of (knd := intKind PR w) (intKind_is _ _ _ _) hD3.mapOf (valueAt_of_get hnd hkz) ?_) ?_ ?_
    · exact ⟨⟨k, t, rfl, valueAt_of_get hnd hkz⟩, _, _, rfl, fun _ _ e => e⟩
    · with_unfolding_all rfl
    · intro _; with_unfolding_all rfl
  · intro D' h' tk ys vs hD' hl hpl hvl hP hF hk
    obtain ⟨hyl, hyv⟩ := pair_vals hnd vs ys.toList hF (fun j v e => (hP j v e).2)
    have keep' : ∀ b o, s.heap.get? b = some o → h'.get? b = some o := fun b o e => hk b o (fun q => by
      rw [List.mem_singleton] at q
      have := Heap.lt_size e
      rw [q] at this; exact absurd this (Nat.lt_irrefl _)) (Heap.get?_push_of_some _ e)
    dsimp only
    walk1
    refine min_pairs (vs := ys.toList) (ps := W.map (·.2)) hh hu (by simpa using hl) (by rw [hyl, hvl, List.length_map, hwl]) (by rw [List.length_map]; exact List.length_pos_iff.mpr hne) ?_ ?_
    · intro i v hv
      obtain ⟨k, hkv⟩ := hyv i v hv
      obtain ⟨u, v', a, oa, h1, _, rfl, hma, hpa⟩ := hW.item hkv
      refine ⟨a, v', rfl, by rw [List.getElem?_map, h1]; rfl, ?_⟩
      exact (PairO.isP N (.tail _ (.tail _ hma)) hpa).keep fun o e => keep' _ o e
    · intro i v h'' tk'' hi hv hbest hk''
      obtain ⟨k, hkv⟩ := hyv i v hv
      obtain ⟨u, v', a, oa, h1, _, rfl, hma, hpa⟩ := hW.item hkv
      have hpi : (W.map (·.2)).getD i (0, 0) = v' := by rw [List.getD_eq_getElem?_getD, List.getElem?_map, h1]; rfl
      refine h h'' tk'' a v' (fun b o e => hk'' b o (keep' b o (F.keep b o e))) ?_ (N _ (.tail _ (.tail _ hma))).2.2 ⟨u, List.mem_of_getElem? h1⟩ fun e he => ?_
      · exact (PairO.isP N (.tail _ (.tail _ hma)) hpa).keep fun o e => hk'' _ o (keep' _ o e)
      · obtain ⟨j, hj⟩ := List.mem_iff_getElem?.mp he
        have hjl := (List.getElem?_eq_some_iff.mp hj).1
        have := bestAt_min (W.map (·.2)) ((W.map (·.2)).length - 1) j (by rw [List.length_map]; omega)
        rw [← hbest, hpi] at this
        have hpj : (W.map (·.2)).getD j (0, 0) = e.2 := by rw [List.getD_eq_getElem?_getD, List.getElem?_map, hj]; rfl
        rw [hpj] at this
        exact this
end Mine
end
section
set_option maxRecDepth 100000
set_option maxHeartbeats 1000000
set_option linter.unusedVariables false
namespace Mine
open PySem PySem.W PySem.Calls PyProof.Rows
theorem turn_ne {n : Nat} {x : List Nat} (hn : 4 ≤ n) {k : Nat} (hk : k ≤ x.length) : waysAt n x k ≠ [] := by
  obtain ⟨e, he, _⟩ := (tab_at hn x k hk).high
  intro q
  rw [q] at he; cases he
theorem bs_body {w : World} {A : Around} {s₀ s : Shared} {L : Addr} {nm : Str} {Q : Value → Shared → Prop} {mean mg mb} {oc : Obj} {x : List Nat} {n : Nat} {t1 t2 : Tok} (T : Top vq (looseW vq looseN) mean mg mb s₀.heap) (Y : TopH w s₀.heap)
    (hh : A.handled = none) (hu : A.units + 1 < cLine) (hn : 4 ≤ n) (hn1 : n ≤ 100) (hx : x.length ≤ 4000) (hx8 : ∀ c ∈ x, c < 256)
    (F : Fr s₀.heap L s.heap (mp [("length", .int (n : Int) t2), ("row", .str (mkS x) t1)])) (N : News s₀.heap L s.heap [(L + 1, oc)]) (hoc : oc.data = .cell none) (e : SameBut' s₀ s)
    (h : ∀ s' a, Ext s₀ s' → IsP s'.heap a (bestG n x) → s₀.heap.get? a = none → Q (.ref a) s') :
    wpAny (model PR w) A (execs (fBody (stm 21)) (bsEnv nm L)) (fun f s' => Q (match f with | .ret v => v | _ => .none) s') (fun _ _ => False) s := by
  have hE : PassesOwn (model PR w) A (bsEnv nm L) (fun _ _ => False) := by passes_own
  refine @bs_start w A s₀ s L nm _ (fun _ _ => False) mean mg mb _ oc T Y hh F N hoc fun h1 tk1 oc1 D o kvs tups F1 N1 ht1 hoc1 lo1 hd1 hW1 => ?_
  refine bs_rows (s₀ := s₀) (s := { s with heap := h1, toks := tk1 }) (L := L) (nm := nm) (x := x) (n := n) (tr := t1) (t0 := t2) T Y hE hh hu hn hn1 hx hx8 F1 ?_ N1 ht1 hoc1 lo1 hd1 hW1 fun h2 tk2 m2 oc2 D2 o2 kvs2 tups2 F2 N2 ht2 hoc2 lo2 hd2 hW2 => ?_
  · unfold bsR0
    refine List.forall_mem_cons.mpr ⟨rfl, List.forall_mem_cons.mpr ⟨rfl, List.forall_mem_nil _⟩⟩
  · have hlen := tab_len hn (x := x) (k := x.length) (Nat.le_refl _)
    refine bs_ret (s₀ := s₀) (s := { s with heap := h2, toks := tk2 }) (L := L) (nm := nm) T Y hh hu (turn_ne hn (Nat.le_refl _)) (by omega) F2 N2 hoc2 lo2 hd2 hW2 fun h3 tk3 a v hk hP hna hmem hmin => ?_
    have hv := tab_end hn x hmem hmin
    subst hv
    obtain ⟨hp, tk, rfl⟩ := e
    exact h _ a ⟨hk, ⟨_, _, rfl⟩⟩ hP hna
theorem bs_call {w : World} {A : Around} {s : Shared} {Q : Value → Shared → Prop} {E : Value → Shared → Prop} {mean mg mb} {x : List Nat} {n : Nat} {t1 t2 : Tok} (T : Top vq (looseW vq looseN) mean mg mb s.heap)
    (Y : TopH w s.heap) (hh : A.handled = none) (hroom : A.depth < recursionLimit) (hu : A.units + 4 < cLine) (hn : 4 ≤ n) (hn1 : n ≤ 100) (hx : x.length ≤ 4000) (hx8 : ∀ c ∈ x, c < 256)
    (h : ∀ s' a, Ext s s' → IsP s'.heap a (bestG n x) → s.heap.get? a = none → Q (.ref a) s') : wpAny (model PR w) A (call (.ref 67) [.str (mkS x) t1, .int (n : Int) t2]) Q E s := by
  refine call_defC (binds := [("row", .str (mkS x) t1), ("length", .int (n : Int) t2)]) (cn := "ways") hroom (Y 67 _ rfl) rfl T.nolimit ⟨66, _, _, _, rfl, Y 66 _ rfl, rfl, rfl⟩ rfl (fun _ => rfl)
    rfl rfl (fun _ => rfl) (locs rfl) (fun _ => rfl) ?_ rfl rfl rfl
  intro L s₁ A' oc F N hoc e a
  have F1 : Fr s.heap L s₁.heap (mp [("length", .int (n : Int) t2), ("row", .str (mkS x) t1)]) := by
    rw [← bind_two (k := (envOfC ⟨#[95, 108, 97, 119, 95, 98, 101, 115, 116]⟩ (fScope (stm 21)) L 67 (.ref 66)).kindOf) "row" "length" _ _ rfl rfl]; exact F
  have e1 : envOfC ⟨#[95, 108, 97, 119, 95, 98, 101, 115, 116]⟩ (fScope (stm 21)) L 67 (.ref 66) = bsEnv ⟨#[95, 108, 97, 119, 95, 98, 101, 115, 116]⟩ L := rfl
  show wpAny (model PR w) A' (execs (fBody (stm 21)) (envOfC ⟨#[95, 108, 97, 119, 95, 98, 101, 115, 116]⟩ (fScope (stm 21)) L 67 (.ref 66))) _ _ s₁
  rw [e1]
  exact @bs_body w A' s s₁ L ⟨#[95, 108, 97, 119, 95, 98, 101, 115, 116]⟩ Q mean mg mb oc x n t1 t2 T Y (by rw [a.hh]; exact hh) (by rw [a.hu]; omega) hn hn1 hx hx8 F1 N hoc e h
end Mine
end
section
open PySem PySem.W PySem.Calls PyProof.Rows Mine
local macro_rules | `(tactic| walk_at "storeName") => `(tactic| (refine storeX_L (by assumption) (by assumption) ?_; intro _ _ _))
section
set_option maxRecDepth 100000
set_option maxHeartbeats 1000000
set_option linter.unusedVariables false
namespace Mine
theorem anew48 : True := by
  w_top off
  first | walk1 | trivial
open PySem PySem.W PySem.Calls PyProof.Rows
theorem splA_len (y : List Nat) : ∀ (cur : List Nat) (k : Nat) (l : List Nat), lenS (splA y cur k l) ≤ cur.length + l.length
  | cur, k, [] => by unfold splA lenS; simp
  | cur, k + 1, _ :: t => by unfold splA; have := splA_len y cur k t; rw [List.length_cons]; omega
  | cur, 0, c :: t => by
    unfold splA
    split
    · have := splA_len y [] (y.length - 1) t
      rw [lenS_cons, List.length_cons]; simp at this; omega
    · have := splA_len y (cur ++ [c]) 0 t
      rw [List.length_append] at this
      simp at this ⊢; omega
theorem splA_cnt (y : List Nat) : ∀ (cur : List Nat) (k : Nat) (l : List Nat), (splA y cur k l).length ≤ l.length + 1
  | cur, k, [] => by unfold splA; simp
  | cur, k + 1, _ :: t => by unfold splA; have := splA_cnt y cur k t; rw [List.length_cons]; omega
  | cur, 0, c :: t => by
    unfold splA
    split
    · have := splA_cnt y [] (y.length - 1) t
      rw [List.length_cons, List.length_cons]; omega
    · have := splA_cnt y (cur ++ [c]) 0 t
      rw [List.length_cons]; omega
theorem splA_mem (y : List Nat) : ∀ (cur : List Nat) (k : Nat) (l : List Nat), ∀ p ∈ splA y cur k l, ∀ c ∈ p, c ∈ cur ∨ c ∈ l
  | cur, k, [], p, hp, c, hc => by
    unfold splA at hp
    rw [List.mem_singleton.mp hp] at hc; exact .inl hc
  | cur, k + 1, d :: t, p, hp, c, hc => by
    unfold splA at hp
    rcases splA_mem y cur k t p hp c hc with h | h
    · exact .inl h
    · exact .inr (.tail _ h)
  | cur, 0, d :: t, p, hp, c, hc => by
    unfold splA at hp
    split at hp
    · rcases List.mem_cons.mp hp with rfl | hp
      · exact .inl hc
      · rcases splA_mem y [] _ t p hp c hc with h | h
        · cases h
        · exact .inr (.tail _ h)
    · rcases splA_mem y _ 0 t p hp c hc with h | h
      · rcases List.mem_append.mp h with h | h
        · exact .inl h
        · rw [List.mem_singleton.mp h]; exact .inr (.head _)
      · exact .inr (.tail _ h)
theorem stepR_len {acc p a : List Nat} (h : stepR acc p = some a) : a.length ≤ acc.length + p.length := by
  unfold stepR at h
  rcases p with _ | ⟨x, _ | ⟨y, rest⟩⟩
  · cases h
  · cases h
  · dsimp only at h
    cases hx : hexV x with
    | none => rw [hx] at h; cases h
    | some u =>
      cases hy : hexV y with
      | none => rw [hx, hy] at h; cases h
      | some v =>
        rw [hx, hy] at h
        cases h
        simp
theorem mem_lenS {p : List Nat} {ps : List (List Nat)} (h : p ∈ ps) : p.length ≤ lenS ps := by
  induction ps with
  | nil => cases h
  | cons a ps ih =>
    rw [lenS_cons]
    rcases List.mem_cons.mp h with rfl | h
    · omega
    · have := ih h; omega
local macro_rules | `(tactic| walk_at "eval Name") => `(tactic| first
  | refine nm_local rfl rfl (Fr.ns (by assumption)) rfl ?_)
theorem store_fig {w : World} {A : Around} {E : Value → Shared → Prop} {s : Shared} {h₀ : Heap} {L : Addr} {m : Str → Option Value} {nm : Str} {v : Value} {oc : Obj} {Q : Unit → Shared → Prop} (F : Fr h₀ L s.heap m) (N : News h₀ L s.heap [(L + 1, oc)]) (hoc : oc.data = .cell none)
    (h : ∀ h' o', Fr h₀ L h' m → News h₀ L h' [(L + 1, o')] → o'.data = .cell (some v) → Q () { s with heap := h' }) : wpAny (model PR w) A (storeName (rdEnv nm L) "figures" v) Q E s :=
  storeX_C (g := fun o' => [(L + 1, o')]) F N rfl (by constructor; intro p hp; cases hp) hoc h rfl rfl
theorem o_eq : Str.ofString "=" = mkS [61] := by decide +kernel
theorem rd_body {w : World} {A : Around} {s₀ s : Shared} {L : Addr} {nm : Str} {Q : Value → Shared → Prop} {mean mg mb} {r : List Nat} {t1 : Tok} {oc : Obj} (T : Top vq (looseW vq looseN) mean mg mb s₀.heap)
    (Y : TopH w s₀.heap) (hh : A.handled = none)
    (F : Fr s₀.heap L s.heap (mp [("row", .str (mkS r) t1)])) (N : News s₀.heap L s.heap [(L + 1, oc)]) (hoc : oc.data = .cell none) (e : SameBut' s₀ s) (hr : r.length ≤ 50000) (hr8 : ∀ c ∈ r, c < 256)
    (h : ∀ tok s', Ext s₀ s' → Q (match readL r with | some x => .str (mkS x) tok | none => .none) s') :
    wpAny (model PR w) A (execs (fBody (stm 20)) (rdEnv nm L)) (fun f s' => Q (match f with | .ret v => v | _ => .none) s') (fun _ _ => False) s := by
  w_on
  obtain ⟨hp, tk, rfl⟩ := e
  have hmr := mkS_length r
  refine wpAny_execs_cons ?_
  iterate 2 walk1
  refine store_fig F N hoc ?_
  intro h1 o1 F1 N1 ho1
  clear F N
  dsimp only
  iterate 9 walk1
  refine spl1 [61] F1 N1 o_eq (by simp) (by simp) (by omega) ?_
  intro h2 k2 vs hS F2 N2
  clear F1 N1
  obtain ⟨p0, ps, hsp⟩ := List.exists_cons_of_ne_nil (splA_ne [61] [] 0 r)
  have hlS := splA_len [61] [] 0 r
  have hmem := splA_mem [61] [] 0 r
  have hcnt := splA_cnt [61] [] 0 r
  have hrd : readL r = readGo p0 ps := by unfold readL; rw [hsp]; rfl
  rw [hsp] at hS hlS hmem hcnt
  rw [List.length_cons] at hcnt
  rw [lenS_cons] at hlS
  simp only [List.length_nil, Nat.zero_add] at hlS
  cases hS with
  | @cons _ t0 us _ hS =>
  have hSl := hS.length
  rw [List.length_map] at hSl
  dsimp only at F2 N2 ⊢
  iterate 6 walk1
  (with_reducible rename News _ _ _ _ => N3)
  (with_reducible rename Fr _ _ _ (fun _ => _) => F3)
  refine list_item (vs := .str (mkS p0) t0 :: us) (k := 0) (v := .str (mkS p0) t0) ⟨_, (N3 _ (.head _)).1, rfl, _, rfl⟩ (by decide) (by decide) rfl ?_
  clear F2 N2
  walk1
  clear F3 N3
  (with_reducible rename News _ _ _ _ => N3)
  (with_reducible rename Fr _ _ _ (fun _ => _) => F3)
  have hl3 := News.isList N3 (.head _)
  have hlen3 : (Value.str (mkS p0) t0 :: us).length ≤ 60000 := by rw [List.length_cons]; omega
  have hlen4 : (Value.str (mkS p0) t0 :: us).toArray.size ≤ 60000 := hlen3
  refine wpAny_execs_cons ?_
  refine For_invV s₀.heap rfl rfl ?_
  repeat' walk1
  (with_reducible rename News _ _ _ _ => N4)
  (with_reducible rename Fr _ _ _ (fun _ => _) => F4)
  have hsl : slicePick (Value.str (mkS p0) t0 :: us).toArray (some 1) none none = us.toArray := slicePick_from' (Value.str (mkS p0) t0 :: us).toArray 1
  rw [hsl] at N4
  have hl4 : _ := (N4 _ (.head _)).1
  have N5 := News.sub (b := [(L + 1, o1)]) N4 (by intro p hp; rw [List.mem_singleton.mp hp]; exact .tail _ (.tail _ (.head _)))
  clear F3 N3
  dsimp only at hl4 F4 N4 N5 ⊢
  refine iter_list (vs := us) (fun i m news => ∃ acc ta, news = [(L + 1, o1)] ∧ m "read" = some (.str (mkS acc) ta) ∧ readGo p0 ps = readGo acc (ps.drop i) ∧ acc.length ≤ p0.length + lenS (ps.take i)) hh ⟨_, hl4, rfl, _, rfl⟩ ?hL (fun p hp => ?hN) F4 N5 ⟨p0, t0, rfl, rfl, rfl, by omega⟩ ?_ ?_
  case hL => exact (N4 _ (.head _)).2.1
  case hN =>
    rw [List.mem_singleton.mp hp]
    intro q
    have h5 := (N5 _ (.head _)).1
    dsimp only at q h5
    rw [q, hl4] at h5
    have := Option.some.inj h5
    rw [← this] at ho1
    cases ho1
  · rintro i v m₁ news₁ h' tk' own hv hadr hoff ⟨acc, ta, rfl, hm, hgo, hal⟩ F' N'
    obtain ⟨y, t, rfl, hy⟩ := hS.item i v hv
    rw [List.getElem?_map] at hy
    obtain ⟨p, hpi, rfl⟩ := Option.map_eq_some_iff.mp hy
    have hpm : p ∈ ps := List.mem_of_getElem? hpi
    have hpl := mem_lenS hpm
    have hspl := lenS_split ps i
    have hdr : ps.drop i = p :: ps.drop (i + 1) := by
      obtain ⟨hlt, he⟩ := List.getElem?_eq_some_iff.mp hpi
      rw [List.drop_eq_getElem_cons hlt, he]
    rw [hdr, readGo_cons] at hgo
    rw [hdr, lenS_cons] at hspl
    clear F4 N4 N5
    have F5 := fr_over (l := [("part", .str (mkS p) t), ("read", .str (mkS acc) ta)]) F' (List.forall_mem_cons.mpr ⟨rfl, List.forall_mem_cons.mpr ⟨hm, List.forall_mem_nil _⟩⟩)
    refine rd_turn (oc := o1) T Y hh F5 N' (by omega) (by omega) (fun c hc => ?_) (List.mem_append_left _ (.head _)) ho1 ?_ ?_
    · rcases hmem p (.tail _ hpm) c hc with q | q
      · cases q
      · exact hr8 c q
    · intro hnone h'' tk'' hk
      rw [hnone] at hgo
      rw [hrd, hgo] at h
      exact h 0 _ ⟨hk, ⟨_, _, rfl⟩⟩
    · intro a ha h'' tk'' m' t' F'' hm' N''
      rw [ha] at hgo
      have hal2 := stepR_len ha
      have htk : lenS (ps.take (i + 1)) = lenS (ps.take i) + p.length := by
        have := lenS_split ps (i + 1)
        omega
      exact ⟨h'', tk'', m', _, [(L + 1, o1)], rfl, F'', N'', fun p hp => List.mem_append_left _ hp, fun p hp => List.mem_append_right _ hp, rfl, a, t', rfl, hm', hgo, by omega⟩
  · rintro m₁ news₁ h' tk' ⟨acc, ta, rfl, hm, hgo, hal⟩ _ F' N'
    rw [hSl, List.drop_length, readGo] at hgo
    rw [hrd, hgo] at h
    rw [← over_eq (l := [("read", .str (mkS acc) ta)]) (m := m₁) (List.forall_mem_cons.mpr ⟨hm, List.forall_mem_nil _⟩)] at F'
    clear F4 N4 N5
    dsimp only
    repeat' walk1
    exact h _ _ ⟨F'.keep, ⟨_, _, rfl⟩⟩
theorem rd_call {w : World} {A : Around} {s : Shared} {Q : Value → Shared → Prop} {E : Value → Shared → Prop} {mean mg mb} {r : List Nat} {t1 : Tok} (T : Top vq (looseW vq looseN) mean mg mb s.heap)
    (Y : TopH w s.heap) (hh : A.handled = none) (hroom : A.depth < recursionLimit) (hr : r.length ≤ 50000) (hr8 : ∀ c ∈ r, c < 256)
    (h : ∀ tok s', Ext s s' → Q (match readL r with | some x => .str (mkS x) tok | none => .none) s') : wpAny (model PR w) A (call (.ref 62) [.str (mkS r) t1]) Q E s :=
  call_defC (binds := [("row", .str (mkS r) t1)]) (cn := "figures") hroom (Y 62 _ rfl) rfl T.nolimit ⟨61, _, _, _, rfl, Y 61 _ rfl, rfl, rfl⟩ rfl (fun _ => rfl)
    rfl rfl (fun _ => rfl) (locs rfl) (fun _ => rfl)
    (fun L s₁ A' oc F N hoc e a => rd_body T Y (by rw [a.hh]; exact hh) (by rw [← bind_one (k := (envOfC _ (fScope (stm 20)) L 62 (.ref 61)).kindOf) "row" _ rfl]; exact F) N hoc e hr hr8 h) rfl rfl rfl
end Mine
end
section
set_option maxRecDepth 100000
set_option maxHeartbeats 1000000
set_option linter.unusedVariables false
namespace Mine
theorem anew49 : True := by
  w_top off
  first | walk1 | trivial
open PySem PySem.W PySem.Calls PyProof.Rows
noncomputable abbrev lawEnv (nm : Str) (L : Addr) : Env := envX nm (fScope (stm 22)) L 72 (.ref 71) [("length", L + 1)]
theorem with_toksQ {α : Type} {M : Model} {A : Around} {s : Shared} {t : Sem α} {Q : α → Shared → Prop} {E : Value → Shared → Prop} {n : Nat} (hn : n ≤ s.toks) (h : wpAny M A t (fun a s' => n ≤ s'.toks → Q a s') E s) : wpAny M A t Q E s :=
  wpAny_mono (wpAny_toks_of hn h) (fun _ _ x => x.2 x.1) (fun _ _ x => x.2)
theorem gn_abs (P : Params) : gN P "abs" = none := by kernel_rfl
theorem bo_abs : bootBuiltins "abs" = some (.builtin "abs") := by kernel_rfl
local macro_rules | `(tactic| walk_at "eval Name") => `(tactic| first
  | refine nm_local rfl rfl (Fr.ns (by assumption)) rfl ?_
  | ((with_reducible show wpAny _ _ (eval (PySem.Expr.Name (Str.ofString "len") _) _) _ _ _); refine nm_boot rfl rfl rfl rfl (by assumption) (Fr.keep (by assumption)) (fr_top (by assumption) (by assumption)) (gn_len _) bo_len (by decide) ?_)
  | ((with_reducible show wpAny _ _ (eval (PySem.Expr.Name (Str.ofString "abs") _) _) _ _ _); refine nm_boot rfl rfl rfl rfl (by assumption) (Fr.keep (by assumption)) (fr_top (by assumption) (by assumption)) (gn_abs _) bo_abs (by decide) ?_)
  | ((with_reducible show wpAny _ _ (eval (PySem.Expr.Name (Str.ofString "_law_text") _) _) _ _ _); refine nm_glob rfl rfl rfl (fr_top (by assumption) (by assumption)) (g_text _) ?_))
local macro_rules | `(tactic| walk_at "callWith") => `(tactic| ((with_reducible show wpAny _ _ (callWith _ (Value.ref 57) [] _ _) _ _ _); refine callWith_fn ?_))
local macro_rules | `(tactic| walk_at "known") => `(tactic| (repeat' (first | exact List.forall_mem_nil _ | refine List.forall_mem_cons.mpr ⟨rfl, ?_⟩)))
theorem head_int {vs : List Value} {ns : List Int} (hi : IntsAre vs ns) (t : Tok) : ∃ hd th, (vs ++ [Value.int 16 t])[((0 : Int)).toNat]? = some (.int hd th) := by
  cases hi with
  | nil => exact ⟨16, t, rfl⟩
  | cons n t' _ => exact ⟨n, t', rfl⟩
theorem eol_pick {k : Int} (h0 : 0 ≤ k) (h1 : k < 3) (t1 t2 t3 : Tok) : ∃ ee te, ([Value.str (Str.ofString "\n") t1, .str (Str.ofString "\r\n") t2, .str (Str.ofString "\r") t3] : List Value)[k.toNat]? = some (.str (mkS ee) te) ∧ Eol ee := by
  have : k.toNat = 0 ∨ k.toNat = 1 ∨ k.toNat = 2 := by omega
  rcases this with h | h | h <;> rw [h]
  · exact ⟨[10], t1, rfl, .inl rfl⟩
  · exact ⟨[13, 10], t2, rfl, .inr (.inl rfl)⟩
  · exact ⟨[13], t3, rfl, .inr (.inr rfl)⟩
theorem law_p0 {w : World} {A : Around} {s₀ s : Shared} {L l : Addr} {nm : Str} {Q : Flow → Shared → Prop} {E : Value → Shared → Prop} {mean mg mb} {vs : List Value} {ns : List Int} {oc : Obj} (T : Top vq (looseW vq looseN) mean mg mb s₀.heap)
    (Y : TopH w s₀.heap) (hh : A.handled = none)
    (F : Fr s₀.heap L s.heap (mp [("script", .ref l)])) (N : News s₀.heap L s.heap [(L + 1, oc)]) (e : SameBut' s₀ s) (hl : s₀.heap.IsList l vs.toArray) (hi : IntsAre vs ns) (hlen : vs.length ≤ 63)
    (h : ∀ s' m' hd th ee te, SameBut' s₀ s' → 1 ≤ s'.toks → Eol ee → Fr s₀.heap L s'.heap m' → (∀ p ∈ [(("script" : Str), Value.ref l), ("head", .int hd th), ("eol", .str (mkS ee) te)], m' p.1 = some p.2) → News s₀.heap L s'.heap [(L + 1, oc)] →
      wpAny (model PR w) A (execs ((fBody (stm 22)).drop 2) (lawEnv nm L)) Q E s') :
    wpAny (model PR w) A (execs (fBody (stm 22)) (lawEnv nm L)) Q E s := by
  w_on
  obtain ⟨hp, tk, rfl⟩ := e
  have hl' : hp.IsList l vs.toArray := hl.at fun o e => F.keep _ o e
  refine wpAny_execs_cons ?_
  iterate 11 walk1
  (with_reducible rename News _ _ _ _ => hN)
  obtain ⟨hd, th, hv0⟩ := head_int hi (tk + 0)
  refine list_item (vs := vs ++ [.int 16 _]) (k := 0) (v := .int hd th) ⟨_, (hN _ (.head _)).1, rfl, _, rfl⟩ (by decide) (by decide) hv0 ?_
  have N2 : News s₀.heap L _ [(L + 1, oc)] := News.sub hN fun p hp => .tail _ (.tail _ hp)
  clear hN
  have hm0 : 0 ≤ hd.fmod 3 := Int.fmod_nonneg_of_pos _ (by decide)
  have hm1 : hd.fmod 3 < 3 := Int.fmod_lt_of_pos _ (by decide)
  dsimp only at N2 ⊢
  iterate 17 walk1
  (with_reducible rename News _ _ _ _ => hN)
  dsimp only at hN ⊢
  obtain ⟨ee, te, hve, hel⟩ := eol_pick hm0 hm1 _ _ _
  refine list_item (k := hd.fmod 3) (v := .str (mkS ee) te) ⟨_, (hN _ (.head _)).1, rfl, _, rfl⟩ hm0 (by omega) hve ?_
  have N3 : News s₀.heap L _ [(L + 1, oc)] := News.sub hN fun p hp => .tail _ hp
  clear hN
  try dsimp only
  walk1
  refine' h _ _ hd th ee te ⟨_, _, rfl⟩ ?_ hel (by assumption) ?_ (by assumption)
  · dsimp only; omega
  · walk_at "known"
theorem store_len {w : World} {A : Around} {E : Value → Shared → Prop} {s : Shared} {h₀ : Heap} {L : Addr} {m : Str → Option Value} {nm : Str} {v : Value} {oc : Obj} {Q : Unit → Shared → Prop} (F : Fr h₀ L s.heap m) (N : News h₀ L s.heap [(L + 1, oc)]) (hoc : oc.data = .cell none)
    (h : ∀ h' o', Fr h₀ L h' m → News h₀ L h' [(L + 1, o')] → o'.data = .cell (some v) → Q () { s with heap := h' }) : wpAny (model PR w) A (storeName (lawEnv nm L) "length" v) Q E s :=
  storeX_C (g := fun o' => [(L + 1, o')]) F N rfl (by constructor; intro p hp; cases hp) hoc h rfl rfl
theorem cell_nat {d : Data} {z : Int} {t : Tok} (h : d = .cell (some (.int (4 + z) t))) (h0 : 0 ≤ z) : d = .cell (some (.int (((4 + z).toNat : Nat) : Int) t)) := by
  rw [h, Int.toNat_of_nonneg (by omega)]
theorem nat_lo {z : Int} (h0 : 0 ≤ z) : 4 ≤ (4 + z).toNat := by omega
theorem nat_hi {z b : Int} (h0 : z < b) (hb : b ≤ 97) : (4 + z).toNat ≤ 100 := by omega
theorem law_p1 {w : World} {A : Around} {s₀ s : Shared} {L l : Addr} {nm : Str} {Q : Flow → Shared → Prop} {E : Value → Shared → Prop} {mean mg mb} {oc : Obj} {m : Str → Option Value} {hd : Int} {th te : Tok} {ee : List Nat} (T : Top vq (looseW vq looseN) mean mg mb s₀.heap)
    (Y : TopH w s₀.heap) (hh : A.handled = none)
    (F : Fr s₀.heap L s.heap m) (hm : ∀ p ∈ [(("script" : Str), Value.ref l), ("head", .int hd th), ("eol", .str (mkS ee) te)], m p.1 = some p.2) (N : News s₀.heap L s.heap [(L + 1, oc)]) (hoc : oc.data = .cell none) (e : SameBut' s₀ s) (htk : 1 ≤ s.toks)
    (h : ∀ s' oc' (n : Nat) tn, SameBut' s₀ s' → 1 ≤ s'.toks → 4 ≤ n → n ≤ 100 → oc'.data = .cell (some (.int (n : Int) tn)) → Fr s₀.heap L s'.heap m → News s₀.heap L s'.heap [(L + 1, oc')] →
      wpAny (model PR w) A (execs ((fBody (stm 22)).drop 3) (lawEnv nm L)) Q E s') :
    wpAny (model PR w) A (execs ((fBody (stm 22)).drop 2) (lawEnv nm L)) Q E s := by
  w_on
  obtain ⟨hp, tk, rfl⟩ := e
  rw [← over_eq hm] at F
  dsimp only at htk
  refine wpAny_execs_cons ?_
  repeat' walk1
  all_goals refine store_len F N hoc ?_
  all_goals intro h' o' F' N' ho'
  all_goals rw [over_eq hm] at F'
  · have h0 := Int.fmod_nonneg_of_pos ((if hd < 0 then -hd else hd).fdiv 12) (show (0:Int) < 97 by decide)
    have h1 := Int.fmod_lt_of_pos ((if hd < 0 then -hd else hd).fdiv 12) (show (0:Int) < 97 by decide)
    refine h _ o' _ _ ⟨_, _, rfl⟩ ?_ (nat_lo h0) (nat_hi h1 (by decide)) (cell_nat ho' h0) F' N'
    clear h F' N' ho' h0 h1
    dsimp only; omega
  · have h0 := Int.fmod_nonneg_of_pos (hd.fdiv 12) (show (0:Int) < 9 by decide)
    have h1 := Int.fmod_lt_of_pos (hd.fdiv 12) (show (0:Int) < 9 by decide)
    refine h _ o' _ _ ⟨_, _, rfl⟩ ?_ (nat_lo h0) (nat_hi h1 (by decide)) (cell_nat ho' h0) F' N'
    clear h F' N' ho' h0 h1
    dsimp only; omega
theorem at_text {w : World} {A : Around} {s : Shared} {h₀ : Heap} {L l : Addr} {m : Str → Option Value} {news : List (Addr × Obj)} {Q : Value → Shared → Prop} {E : Value → Shared → Prop} {mean mg mb} {vs : List Value} {ns : List Int} (T : Top vq (looseW vq looseN) mean mg mb h₀) (Y : TopH w h₀) (F : Fr h₀ L s.heap m) (N : News h₀ L s.heap news)
    (hh : A.handled = none) (hroom : A.depth < recursionLimit) (hl : s.heap.IsList l vs.toArray) (hi : IntsAre vs ns) (hs : 1 ≤ s.toks)
    (h : ∀ x tok h' tk, 1 ≤ tk → x.length ≤ 4000 → (∀ c ∈ x, c < 256) → Fr h₀ L h' m → News h₀ L h' news → Q (.str (mkS x) tok) { s with heap := h', toks := tk }) : AtFn (model PR w) A Q E 57 [.ref l] s := by
  have Ys := fr_top F Y
  refine ⟨⟨_, _, Ys 57 _ rfl, rfl⟩, wpAny_with_toks (n := 1) hs ?_⟩
  refine tx_call (T.keeps F.keep) Ys hh hroom hl hi fun x tok s' X hx hx8 ht => ?_
  have F' := fr_ext F X
  have N' := news_ext N X
  obtain ⟨_, h', tk, rfl⟩ := X
  exact h x tok h' tk ht hx hx8 F' N'
noncomputable def cafe : List Nat := [97, 32, 233, 98, 32, 13, 10, 32, 10, 13, 61]
theorem o_cafe : Str.ofString "a éb \r\n \n\r=" = mkS cafe := by decide +kernel
theorem law_p2 {w : World} {A : Around} {s₀ s : Shared} {L l : Addr} {nm : Str} {Q : Flow → Shared → Prop} {E : Value → Shared → Prop} {mean mg mb} {oc : Obj} {m : Str → Option Value} {te : Tok} {ee : List Nat} {vs : List Value} {ns : List Int} (T : Top vq (looseW vq looseN) mean mg mb s₀.heap)
    (Y : TopH w s₀.heap) (hh : A.handled = none) (hroom : A.depth < recursionLimit) (hl : s₀.heap.IsList l vs.toArray) (hi : IntsAre vs ns) (hlen : vs.length ≤ 63)
    (F : Fr s₀.heap L s.heap m) (hm : ∀ p ∈ [(("script" : Str), Value.ref l), ("eol", .str (mkS ee) te)], m p.1 = some p.2) (N : News s₀.heap L s.heap [(L + 1, oc)]) (e : SameBut' s₀ s) (htk : 1 ≤ s.toks)
    (h : ∀ s' m' x tx, SameBut' s₀ s' → 1 ≤ s'.toks → x.length ≤ 4000 → (∀ c ∈ x, c < 256) → Fr s₀.heap L s'.heap m' → (∀ p ∈ [(("text" : Str), Value.str (mkS x) tx), ("eol", .str (mkS ee) te)], m' p.1 = some p.2) → News s₀.heap L s'.heap [(L + 1, oc)] →
      wpAny (model PR w) A (execs ((fBody (stm 22)).drop 4) (lawEnv nm L)) Q E s') :
    wpAny (model PR w) A (execs ((fBody (stm 22)).drop 3) (lawEnv nm L)) Q E s := by
  w_on
  obtain ⟨hp, tk, rfl⟩ := e
  have hl' : hp.IsList l vs.toArray := hl.at fun o e => F.keep _ o e
  rw [← over_eq hm] at F
  dsimp only at htk
  refine wpAny_execs_cons ?_
  repeat' walk1
  refine len_list (items := vs.toArray) hl' (by rw [List.size_toArray]; omega) ?_
  rw [List.size_toArray]
  dsimp only
  iterate 4 walk1
  · repeat' walk1
    (with_reducible rename Fr _ _ _ (over _ _) => F2)
    (with_reducible rename News _ _ _ _ => N2)
    have hsl : slicePick vs.toArray (some 1) none none = (vs.drop 1).toArray := slicePick_from' vs.toArray 1
    rw [hsl] at N2
    have N3 : News s₀.heap L _ [(L + 1, oc)] := News.sub N2 fun p hp => .tail _ hp
    have hd : IntsAre (vs.drop 1) (ns.drop 1) := by cases hi with | nil => exact .nil | cons _ _ hi => exact hi
    refine at_text T Y F2 N3 hh hroom ⟨_, (N2 _ (.head _)).1, rfl, _, rfl⟩ hd (by dsimp only; omega) ?_
    intro x tok h2 tk2 ht hx hx8 F3 N4
    clear F2 N2 N3 F N
    dsimp only
    walk1
    refine' h _ _ x tok ⟨_, _, rfl⟩ ?_ hx hx8 (by assumption) ?_ (by assumption)
    · dsimp only; omega
    · walk_at "known"
  · walk1
    walk1
    refine' h _ _ cafe _ ⟨_, _, rfl⟩ ?a (by decide) (by decide) (by assumption) ?b (by assumption)
    case b =>
      refine List.forall_mem_cons.mpr ⟨?_, ?_⟩
      · rw [← o_cafe]; rfl
      · walk_at "known"
    case a => dsimp only; omega
local macro_rules | `(tactic| walk_at "call builtin:str.replace") => `(tactic| (refine rep1 [13, 10] [10] o_crlf o_lf (Nat.pos_iff_ne_zero.mp ?_) (Nat.pos_iff_ne_zero.mp ?_) (Nat.ne_of_lt ?_) (by simp) (by decide) ?_ (by decide) ?_ ?_; (iterate 3 (· dsimp only; omega)); (· omega); (· dsimp only; omega); intro _ _ _; dsimp only))
local macro_rules | `(tactic| walk_at "call builtin:str.replace") => `(tactic| (refine rep1 [13] [10] o_cr o_lf (Nat.pos_iff_ne_zero.mp ?_) (Nat.pos_iff_ne_zero.mp ?_) (Nat.ne_of_lt ?_) (by simp) (by decide) ?_ (by decide) ?_ ?_; (iterate 3 (· dsimp only; omega)); (· omega); (· dsimp only; omega); intro _ _ _; dsimp only))
local macro_rules | `(tactic| walk_at "call builtin:str.split") => `(tactic| (refine spl1 [10] (by assumption) (by assumption) o_lf (by simp) (by simp) ?_ ?_; (· omega); intro _ _ _ _ _ _; dsimp only))
noncomputable def lawBase (x ee : List Nat) (R : Addr) (tx te : Tok) : List (Str × Value) := [("text", .str (mkS x) tx), ("eol", .str (mkS ee) te), ("rows", .ref R)]
local macro_rules | `(tactic| walk_at "known") => `(tactic| (repeat' (first | exact List.forall_mem_nil _ | refine List.forall_mem_cons.mpr ⟨rfl, ?_⟩)))
theorem law_d {w : World} {A : Around} {s₀ s : Shared} {L : Addr} {nm : Str} {Q : Flow → Shared → Prop} {E : Value → Shared → Prop} {mean mg mb} {m : Str → Option Value} {oc : Obj} {x ee : List Nat} {tx te : Tok} (T : Top vq (looseW vq looseN) mean mg mb s₀.heap)
    (Y : TopH w s₀.heap) (hh : A.handled = none)
    (F : Fr s₀.heap L s.heap (over [("text", .str (mkS x) tx), ("eol", .str (mkS ee) te)] m)) (N : News s₀.heap L s.heap [(L + 1, oc)]) (e : SameBut' s₀ s) (hx : x.length ≤ 4000) (htk : 1 ≤ s.toks)
    (h : ∀ s' m' R vs ep, SameBut' s₀ s' → 1 ≤ s'.toks → Fr s₀.heap L s'.heap m' → (∀ p ∈ lawBase x ee R tx te, m' p.1 = some p.2) → News s₀.heap L s'.heap [(R, lst vs ep), (L + 1, oc)] → StrsAre vs ((rowsOf x).map mkS) → wpAny (model PR w) A (execs ((fBody (stm 22)).drop 5) (lawEnv nm L)) Q E s') :
    wpAny (model PR w) A (execs ((fBody (stm 22)).drop 4) (lawEnv nm L)) Q E s := by
  w_on
  obtain ⟨hp, tk, rfl⟩ := e
  have hmx := mkS_length x
  dsimp only at htk
  have hr1 := rep_len [13, 10] [10] (by decide) 0 x
  have hr2 := rep_len [13] [10] (by decide) 0 (rep [13, 10] [10] 0 x)
  refine wpAny_execs_cons ?_
  refine with_toksQ (n := 1) htk ?_
  iterate 28 walk1
  intro ht
  (with_reducible rename StrsAre _ _ => hS)
  rw [rows_spl x.length x [] (Nat.le_refl _)] at hS
  refine' h _ _ _ _ _ ⟨_, _, rfl⟩ ht (by assumption) ?_ (by assumption) hS
  unfold lawBase
  walk_at "known"
end Mine
end
section
set_option maxRecDepth 100000
set_option maxHeartbeats 1000000
set_option linter.unusedVariables false
namespace Mine
theorem anew50 : True := by
  w_top off
  first | walk1 | trivial
open PySem PySem.W PySem.Calls PyProof.Rows
local macro_rules | `(tactic| walk_at "eval Name") => `(tactic| first
  | refine nm_local rfl rfl (Fr.ns (by assumption)) rfl ?_
  | refine nm_cell rfl rfl rfl (cell_of (by assumption) (by assumption) (by first | exact .head _ | exact .tail _ (.head _) | exact .tail _ (.tail _ (.head _)))) ?_
  | ((with_reducible show wpAny _ _ (eval (PySem.Expr.Name (Str.ofString "body_encode") _) _) _ _ _); refine nm_glob rfl rfl rfl (fr_top (by assumption) (by assumption)) (g_be _) ?_))
local macro_rules | `(tactic| walk_at "callWith") => `(tactic| ((with_reducible show wpAny _ _ (callWith _ (Value.ref 50) [] _ _) _ _ _); refine callWith_fn ?_))
local macro_rules | `(tactic| walk_at "known") => `(tactic| (repeat' (first | exact List.forall_mem_nil _ | refine List.forall_mem_cons.mpr ⟨rfl, ?_⟩)))
theorem at_be3 {w : World} {A : Around} {s : Shared} {h₀ : Heap} {L : Addr} {m : Str → Option Value} {news : List (Addr × Obj)} {Q : Value → Shared → Prop} {E : Value → Shared → Prop} {mean mg mb} {x ee : List Nat} {n : Nat} {t1 t2 t3 : Tok} (T : Top vq (looseW vq looseN) mean mg mb h₀) (Y : TopH w h₀) (F : Fr h₀ L s.heap m) (N : News h₀ L s.heap news)
    (hh : A.handled = none) (hroom : A.depth + 1 < recursionLimit) (hn : 4 ≤ n) (hx : x.length ≤ 4000) (hx8 : ∀ c ∈ x, c < 256) (he : ee.length ≤ 2)
    (h : ∀ tok h' tk, Fr h₀ L h' m → News h₀ L h' news → Q (.str (beRes n ee x) tok) { s with heap := h', toks := tk }) : AtFn (model PR w) A Q E 50 [.str (mkS x) t1, .int (n : Int) t2, .str (mkS ee) t3] s := by
  have Ys := fr_top F Y
  refine ⟨⟨_, _, Ys 50 _ rfl, rfl⟩, be_call3 (T.keeps F.keep) Ys hh hroom hn hx hx8 he fun tok s' X => ?_⟩
  have F' := fr_ext F X
  have N' := news_ext N X
  obtain ⟨_, h', tk, rfl⟩ := X
  exact h tok h' tk F' N'
noncomputable def linesOf (n : Nat) (x : List Nat) : List (List Nat) := (rowsOf x).flatMap (lLines n)
theorem jn_len {ee : List Nat} (he : ee.length ≤ 2) : ∀ Ls : List (List Nat), (jn ee Ls).length ≤ lenS Ls + 2 * Ls.length
  | [] => Nat.zero_le _
  | [l] => by
    show l.length ≤ lenS [l] + 2 * 1
    rw [lenS_cons]; omega
  | l :: l' :: Ls => by
    have ih := jn_len he (l' :: Ls)
    rw [jn_cons (by simp), List.length_append, List.length_append, lenS_cons, List.length_cons]
    omega
theorem told_len {n : Nat} {x ee : List Nat} (hx : x.length ≤ 4000) (he : ee.length ≤ 2) : (jn ee (linesOf n x)).length ≤ 60000 := by
  have h1 := lrows_count n (rowsOf x)
  have h2 := rowsA_count x.length x [] (Nat.le_refl _)
  have h3 := jn_len he (linesOf n x)
  unfold linesOf at h3 ⊢
  unfold rowsOf at h1 h3 ⊢
  simp only [List.length_nil] at h2
  omega
theorem rows_okc {x : List Nat} (hx8 : ∀ c ∈ x, c < 256) : ∀ r ∈ rowsOf x, ∀ c ∈ r, OkC c := fun r hr c hc => rows_ok x.length x [] (Nat.le_refl _) hx8 (fun _ q => by cases q) r hr c hc
theorem rows_ne (x : List Nat) : rowsOf x ≠ [] := by
  have := splA_ne [10] [] 0 (rep [13] [10] 0 (rep [13, 10] [10] 0 x))
  rw [rows_spl x.length x [] (Nat.le_refl _)] at this
  exact this
theorem lines_ne (n : Nat) (x : List Nat) : linesOf n x ≠ [] := by
  unfold linesOf
  obtain ⟨r, rs, e⟩ := List.exists_cons_of_ne_nil (rows_ne x)
  rw [e, List.flatMap_cons]
  intro q
  exact lLines_ne n r (List.append_eq_nil_iff.mp q).1
noncomputable def lawB (n : Nat) (x ee : List Nat) (R Ln : Addr) (tt te : Tok) : List (Str × Value) := [("eol", .str (mkS ee) te), ("rows", .ref R), ("told", .str (mkS (jn ee (linesOf n x))) tt), ("lines", .ref Ln)]
theorem law_5 {w : World} {A : Around} {s₀ s : Shared} {L R : Addr} {nm : Str} {Q : Flow → Shared → Prop} {E : Value → Shared → Prop} {mean mg mb} {m : Str → Option Value} {oc : Obj} {x ee : List Nat} {tx te tn : Tok} {n : Nat} {vs : List Value} {ep : Nat} (T : Top vq (looseW vq looseN) mean mg mb s₀.heap)
    (Y : TopH w s₀.heap) (hh : A.handled = none) (hroom : A.depth + 1 < recursionLimit) (hn : 4 ≤ n) (hoc : oc.data = .cell (some (.int (n : Int) tn)))
    (F : Fr s₀.heap L s.heap m) (hm : ∀ p ∈ lawBase x ee R tx te, m p.1 = some p.2) (N : News s₀.heap L s.heap [(R, lst vs ep), (L + 1, oc)]) (e : SameBut' s₀ s) (htk : 1 ≤ s.toks) (hx : x.length ≤ 4000) (hx8 : ∀ c ∈ x, c < 256) (he : Eol ee)
    (h : ∀ s' m' tt Ln ws, SameBut' s₀ s' → 1 ≤ s'.toks → Fr s₀.heap L s'.heap m' → (∀ p ∈ lawB n x ee R Ln tt te, m' p.1 = some p.2) → News s₀.heap L s'.heap [(Ln, lst ws 0), (R, lst vs ep), (L + 1, oc)] → StrsAre ws ((linesOf n x).map mkS) →
      wpAny (model PR w) A (execs ((fBody (stm 22)).drop 7) (lawEnv nm L)) Q E s') :
    wpAny (model PR w) A (execs ((fBody (stm 22)).drop 5) (lawEnv nm L)) Q E s := by
  w_on
  obtain ⟨hp, tk, rfl⟩ := e
  rw [← over_eq hm] at F
  unfold lawBase at F
  obtain ⟨e0, er, hee, _, hel, hec⟩ := he.head
  refine wpAny_execs_cons ?_
  refine with_toksQ (n := 1) htk ?_
  repeat' walk1
  refine at_be3 T Y F N hh hroom hn hx hx8 hel fun tok h' tk' F' N' => ?_
  rw [beRes_eq hn ee hx8]
  dsimp only
  clear F N
  walk1
  clear F' N'
  intro ht
  refine wpAny_execs_cons ?_
  refine with_toksQ (n := 1) ht ?_
  repeat' walk1
  (with_reducible rename Fr _ _ _ (fun _ => _) => F2)
  (with_reducible rename News _ _ _ _ => N')
  refine spl1 ee F2 N' rfl (by rw [hee]; simp) (fun c hc => by rcases hec c hc with q | q <;> omega) (Nat.le_trans (told_len hx hel) (by decide)) ?_
  intro h2 k2 ws hS F3 N3
  rw [spl_jn he ((rowsOf x).flatMap (lLines n)) (lines_ne n x) (fun l hl => (line_free hn (rows_okc hx8) l hl).2)] at hS
  clear F2 N'
  dsimp only
  walk1
  intro ht2
  refine' h _ _ tok _ ws ⟨_, _, rfl⟩ ht2 (by assumption) ?_ (by assumption) hS
  unfold lawB
  walk_at "known"
end Mine
end
end
section
set_option maxRecDepth 100000
set_option maxHeartbeats 1000000
set_option linter.unusedVariables false
namespace Mine
theorem anew51 : True := by
  w_top off
  first | walk1 | trivial
open PySem PySem.W PySem.Calls PyProof.Rows
noncomputable def compS : PySem.Expr := match nth (sBody (nth (fBody (stm 22)) 7)) 1 with
  | .If (.Compare e _ _ _) _ _ _ => e
  | _ => .Constant .none 0 default
local macro_rules | `(tactic| walk_at "eval Name") => `(tactic| first
  | refine nm_local rfl rfl (by assumption) (by assumption) ?_
  | ((with_reducible show wpAny _ _ (eval (PySem.Expr.Name (Str.ofString "ord") _) _) _ _ _); refine nm_boot rfl rfl rfl rfl (by assumption) (by assumption) (by assumption) (gn_ord _) bo_ord (by decide) ?_))
theorem ln_comp {w : World} {A : Around} {s₀ s : Shared} {L : Addr} {nm : Str} {Q : Value → Shared → Prop} {E : Value → Shared → Prop} {mean mg mb} {m : Str → Option Value} {news : List (Addr × Obj)} (T : Top vq (looseW vq looseN) mean mg mb s₀.heap)
    (Y : TopH w s₀.heap) (hh : A.handled = none) (F : Fr s₀.heap L s.heap m) (N : News s₀.heap L s.heap news) {l : List Nat} {tl : Tok} (hm : m "line" = some (.str (mkS l) tl)) (hl : l.length ≤ 50000) (hs : ∀ c ∈ l, LineC c)
    (h : ∀ D h' tk n, Fr s₀.heap L h' m → News s₀.heap L h' ((D, lst [] n) :: news) → Q (.ref D) { s with heap := h', toks := tk }) :
    wpAny (model PR w) A (eval compS (lawEnv nm L)) Q E s := by
  w_on
  refine wpAny_ListComp_free (cl := []) (fun _ => false) (fun _ _ => True) ?hclos ?hcell ?hkind ?hnames ?hx ?_
  case hclos => rfl
  case hcell => decide +kernel
  case hkind => rfl
  case hnames => decide +kernel
  case hx => rfl
  refine nm_local rfl rfl F.ns hm ?_
  refine wpAny_pyIter_str fun o St W hst => ?_
  refine ⟨_, _, _, _, _, _, rfl, walks_lt (W A hh), by rw [sizeLine_eq]; show l.toArray.size ≤ _; simp; omega, hst, ?_, ⟨?_, ?_⟩, ?_⟩
  · intro b hb; rw [List.mem_singleton.mp hb, Heap.size_push]; exact Nat.lt_succ_self _
  · intro C i v s₃ m₃ E' hC hP hn hm hk ht
    refine wpAny_tests_one ?_
    obtain ⟨hi, c, u, hc, rfl⟩ := hP
    have hcm : LineC c := hs c (List.mem_of_getElem? (by have hc' : l.toArray[i]? = some c := hc; simpa using hc'))
    have k₃ : ∀ b o, s₀.heap.get? b = some o → s₃.heap.get? b = some o := fun b o e => hk b o (fun q => by
      rw [List.mem_singleton] at q
      have := next_is_new F
      subst q
      rw [this] at e; cases e) (Heap.get?_push_of_some _ (F.keep b o e))
    have Y₃ : TopH w s₃.heap := fun b o e => k₃ b o (Y b o e)
    refine wpAny_mono (Q := fun ok s₄ => KT false s₃ ok s₄) ?_ (fun _ _ z => z) (fun _ _ z => z)
    clear F N hk
    repeat' walk1
    all_goals first
      | exact ⟨rfl, _, _, rfl, fun _ _ e => e⟩
      | (exfalso
         rcases hcm with rfl | ⟨ha, hb⟩
         · (rename_i q _; revert q; decide +kernel)
         · omega)
      | (exfalso
         rcases hcm with rfl | ⟨ha, hb⟩
         · (rename_i q _ _; revert q; decide +kernel)
         · omega)
  · intro C i v s₃ m₃ E' hC hP hp hn hm hk ht
    cases hp
  · intro D h' tk ys vs hD hl hpl hvl hP hF hk
    obtain ⟨F₂, n₂, N₂⟩ := comp_news (s₂ := { s with heap := s.heap.push o, toks := _ }) (F.push _) (fun p hp => ⟨Heap.get?_push_of_some _ (N p hp).1, (N p hp).2⟩) (fr_low F news N) hD hpl hk
    have e0 : vs.filter (fun _ => false) = [] := by simp
    rw [e0] at hF
    have hy : ys.toList = [] := by generalize ys.toList = z at hF; cases hF; rfl
    rw [hy] at N₂
    exact h D h' tk n₂ F₂ N₂
end Mine
end
section
open PySem PySem.W PySem.Calls PyProof.Rows Mine
local macro_rules | `(tactic| walk_at "storeName") => `(tactic| (refine storeX_L (by assumption) (by assumption) ?_; intro _ _ _))
section
set_option maxRecDepth 100000
set_option maxHeartbeats 400000
set_option linter.unusedVariables false
namespace Mine
theorem anew52 : True := by
  w_top off
  first | walk1 | trivial
open PySem PySem.W PySem.Calls PyProof.Rows
theorem blank_no {n : Nat} {l : List Nat} (hl : LineOk n l) : ([Str.ofString " ", Str.ofString "\t"].any fun x => x == Txt.slice (mkS l) (some (-1)) none) = false := by
  have o1 : Str.ofString " " = mkS [32] := by decide +kernel
  have hb := hl.blank
  rw [slice_last, last_drop, o1, o_tab]
  cases q : l.getLast? with
  | none => decide +kernel
  | some c =>
    obtain ⟨h1, h2⟩ := hb c q
    have e1 : (mkS [32] == mkS [c]) = false := beq_eq_false_iff_ne.mpr fun e => h1 (List.cons.inj (mkS_inj e)).1.symm
    have e2 : (mkS [9] == mkS [c]) = false := beq_eq_false_iff_ne.mpr fun e => h2 (List.cons.inj (mkS_inj e)).1.symm
    show ((mkS [32] == mkS [c]) || ((mkS [9] == mkS [c]) || false)) = false
    rw [e1, e2]; rfl
theorem eq_last (l : List Nat) : (Txt.slice (mkS l) (some (-1)) none == Str.ofString "=") = decide (l.getLast? = some 61) := by
  have o1 : Str.ofString "=" = mkS [61] := by decide +kernel
  rw [slice_last, last_drop, o1]
  cases q : l.getLast? with
  | none => decide +kernel
  | some c =>
    by_cases h : c = 61
    · subst h; simp
    · have e1 : (mkS [c] == mkS [61]) = false := beq_eq_false_iff_ne.mpr fun e => h (List.cons.inj (mkS_inj e)).1
      show (mkS [c] == mkS [61]) = _
      rw [e1]; simp [h]
theorem at_rd {w : World} {A : Around} {s : Shared} {h₀ : Heap} {L : Addr} {m : Str → Option Value} {news : List (Addr × Obj)} {Q : Value → Shared → Prop} {E : Value → Shared → Prop} {mean mg mb} {r x : List Nat} {t1 : Tok} (T : Top vq (looseW vq looseN) mean mg mb h₀) (Y : TopH w h₀) (F : Fr h₀ L s.heap m) (N : News h₀ L s.heap news)
    (hh : A.handled = none) (hroom : A.depth < recursionLimit) (hr : r.length ≤ 50000) (hr8 : ∀ c ∈ r, c < 256) (hrd : readL r = some x)
    (h : ∀ tok h' tk, Fr h₀ L h' m → News h₀ L h' news → Q (.str (mkS x) tok) { s with heap := h', toks := tk }) : AtFn (model PR w) A Q E 62 [.str (mkS r) t1] s := by
  have Ys := fr_top F Y
  refine ⟨⟨_, _, Ys 62 _ rfl, rfl⟩, rd_call (T.keeps F.keep) Ys hh hroom hr hr8 fun tok s' X => ?_⟩
  rw [hrd]
  have F' := fr_ext F X
  have N' := news_ext N X
  obtain ⟨_, h', tk, rfl⟩ := X
  exact h tok h' tk F' N'
local macro_rules | `(tactic| walk_at "eval Name") => `(tactic| first
  | refine nm_local rfl rfl (Fr.ns (by assumption)) rfl ?_
  | refine nm_cell rfl rfl rfl (cell_of (by assumption) (by assumption) (by assumption)) ?_
  | ((with_reducible show wpAny _ _ (eval (PySem.Expr.Name (Str.ofString "len") _) _) _ _ _); refine nm_boot rfl rfl rfl rfl (by assumption) (Fr.keep (by assumption)) (fr_top (by assumption) (by assumption)) (gn_len _) bo_len (by decide) ?_)
  | ((with_reducible show wpAny _ _ (eval (PySem.Expr.Name (Str.ofString "_law_read") _) _) _ _ _); refine nm_glob rfl rfl rfl (fr_top (by assumption) (by assumption)) (g_read _) ?_))
local macro_rules | `(tactic| walk_at "callWith") => `(tactic| ((with_reducible show wpAny _ _ (callWith _ (Value.ref 62) [] _ _) _ _ _); refine callWith_fn ?_))
def LnPost (h₀ : Heap) (L : Addr) (m : Str → Option Value) (news : List (Addr × Obj)) (s : Shared) (f : Flow) (s' : Shared) : Prop := f = .next ∧ ∃ h' tk, s' = { s with heap := h', toks := tk } ∧ Fr h₀ L h' m ∧ News h₀ L h' news
theorem ln_turn {w : World} {A : Around} {s₀ s : Shared} {L : Addr} {nm : Str} {Q : Flow → Shared → Prop} {E : Value → Shared → Prop} {mean mg mb} {m : Str → Option Value} {oc : Obj} {l : List Nat} {tl tn : Tok} {n : Nat} {news : List (Addr × Obj)} (T : Top vq (looseW vq looseN) mean mg mb s₀.heap)
    (Y : TopH w s₀.heap) (hh : A.handled = none) (hroom : A.depth < recursionLimit) (hu : A.units + 64 < cLine) (hoc : oc.data = .cell (some (.int (n : Int) tn))) (hmem : (L + 1, oc) ∈ news) (hl : LineOk n l) (hl2 : l.length ≤ 50000) (hl8 : ∀ c ∈ l, c < 256)
    (F : Fr s₀.heap L s.heap (over [("line", .str (mkS l) tl)] m)) (N : News s₀.heap L s.heap news)
    (h : ∀ h' tk, Fr s₀.heap L h' (over [("line", .str (mkS l) tl)] m) → News s₀.heap L h' news → Q .next { s with heap := h', toks := tk }) :
    wpAny (model PR w) A (execs (sBody (nth (fBody (stm 22)) 7)) (lawEnv nm L)) Q E s := by
  w_on
  have hml := mkS_length l
  refine wpAny_execs_cons ?_
  refine wpAny_mono (Q := LnPost s₀.heap L (over [("line", .str (mkS l) tl)] m) news s) (E := E) ?_ ?_ (fun _ _ z => z)
  · clear h
    repeat' walk1
    · exfalso; have := hl.len; omega
    · exfalso; rename_i q; rw [blank_no hl] at q; cases q
    · refine ⟨rfl, _, _, rfl, by assumption, ?_⟩
      (with_reducible rename News _ _ _ _ => N2)
      exact News.sub N2 (fun p hp => by first | exact hp | exact .tail _ hp | exact .tail _ (.tail _ hp))
  rintro f s' ⟨rfl, h1, tk1, rfl, F1, N1⟩
  clear F N
  dsimp only
  refine wpAny_execs_cons ?_
  refine wpAny_mono (Q := LnPost s₀.heap L (over [("line", .str (mkS l) tl)] m) news s) (E := E) ?_ ?_ (fun _ _ z => z)
  · clear h
    iterate 2 walk1
    refine ln_comp T Y hh F1 N1 rfl hl2 hl.signs ?_
    intro D h3 tk3 k F4 N4
    clear F1 N1
    dsimp only
    iterate 3 walk1
    (with_reducible rename Fr _ _ _ _ => F5)
    (with_reducible rename News _ _ _ _ => N5)
    refine ke_ne_ints (xs := []) (ys := []) (ns := []) (ms := []) (News.isList N5 (.tail _ (.head _))) (News.isList N5 (.head _)) .nil .nil hu ?_
    repeat' walk1
    refine ⟨rfl, _, _, rfl, F5, News.sub N5 (fun p hp => .tail _ (.tail _ hp))⟩
  rintro f s' ⟨rfl, h1, tk1, rfl, F2, N2⟩
  clear F1 N1
  dsimp only
  refine wpAny_execs_cons ?_
  refine wpAny_mono (Q := LnPost s₀.heap L (over [("line", .str (mkS l) tl)] m) news s) (E := E) ?_ ?_ (fun _ _ z => z)
  · clear h
    repeat' walk1
    · rename_i q _ _ _ F5 N5 _
      rw [eq_last] at q
      have q := of_decide_eq_true q
      have hr := hl.reads
      rw [if_pos q] at hr
      obtain ⟨y, hy⟩ := Option.isSome_iff_exists.mp hr
      rw [slice_init]
      refine at_rd (x := y) T Y F5 N5 hh hroom (by rw [List.length_dropLast]; omega) (fun c hc => hl8 c ((List.dropLast_sublist _).subset hc)) hy ?_
      intro tok h6 tk6 F6 N6
      dsimp only
      repeat' walk1
      exact ⟨rfl, _, _, rfl, F6, N6⟩
    · rename_i q
      rw [eq_last] at q
      have q := of_decide_eq_false q
      have hr := hl.reads
      rw [if_neg q] at hr
      obtain ⟨y, hy⟩ := Option.isSome_iff_exists.mp hr
      (with_reducible rename Fr _ _ _ _ => F5)
      (with_reducible rename News _ _ _ _ => N5)
      refine at_rd (x := y) T Y F5 N5 hh hroom hl2 hl8 hy ?_
      intro tok h6 tk6 F6 N6
      dsimp only
      repeat' walk1
      exact ⟨rfl, _, _, rfl, F6, N6⟩
  rintro f s' ⟨rfl, h1, tk1, rfl, F3, N3⟩
  dsimp only
  exact wpAny_execs_nil (h h1 tk1 F3 N3)
end Mine
end
section
set_option maxRecDepth 100000
set_option maxHeartbeats 400000
set_option linter.unusedVariables false
namespace Mine
theorem anew53 : True := by
  w_top off
  first | walk1 | trivial
open PySem PySem.W PySem.Calls PyProof.Rows
local macro_rules | `(tactic| walk_at "eval Name") => `(tactic| first
  | refine nm_local rfl rfl (Fr.ns (by assumption)) rfl ?_)
local macro_rules | `(tactic| walk_at "known") => `(tactic| (repeat' (first | exact List.forall_mem_nil _ | refine List.forall_mem_cons.mpr ⟨rfl, ?_⟩)))
theorem line_fine {n : Nat} (hn : 4 ≤ n) (hn1 : n ≤ 100) {x : List Nat} (hx8 : ∀ c ∈ x, c < 256) {l : List Nat} (h : l ∈ linesOf n x) : LineOk n l ∧ l.length ≤ 50000 ∧ ∀ c ∈ l, c < 256 := by
  have h1 := (line_free hn (rows_okc hx8) l h).1
  refine ⟨h1, by have := h1.len; omega, fun c hc => ?_⟩
  rcases h1.signs c hc with q | q <;> omega
theorem law_7 {w : World} {A : Around} {s₀ s : Shared} {L R Ln : Addr} {nm : Str} {Q : Flow → Shared → Prop} {E : Value → Shared → Prop} {mean mg mb} {m : Str → Option Value} {oc : Obj} {x ee : List Nat} {tt te tn : Tok} {n : Nat} {vs ws : List Value} {ep : Nat} (T : Top vq (looseW vq looseN) mean mg mb s₀.heap)
    (Y : TopH w s₀.heap) (hE : PassesOwn (model PR w) A (lawEnv nm L) E) (hh : A.handled = none) (hroom : A.depth < recursionLimit) (hu : A.units + 64 < cLine) (hn : 4 ≤ n) (hn1 : n ≤ 100) (hoc : oc.data = .cell (some (.int (n : Int) tn)))
    (F : Fr s₀.heap L s.heap m) (hm : ∀ p ∈ lawB n x ee R Ln tt te, m p.1 = some p.2) (N : News s₀.heap L s.heap [(Ln, lst ws 0), (R, lst vs ep), (L + 1, oc)]) (hS : StrsAre ws ((linesOf n x).map mkS)) (e : SameBut' s₀ s) (htk : 1 ≤ s.toks) (hx8 : ∀ c ∈ x, c < 256)
    (h : ∀ s' m', SameBut' s₀ s' → 1 ≤ s'.toks → Fr s₀.heap L s'.heap m' → (∀ p ∈ lawB n x ee R Ln tt te, m' p.1 = some p.2) → News s₀.heap L s'.heap [(Ln, lst ws 0), (R, lst vs ep), (L + 1, oc)] →
      wpAny (model PR w) A (execs ((fBody (stm 22)).drop 8) (lawEnv nm L)) Q E s') :
    wpAny (model PR w) A (execs ((fBody (stm 22)).drop 7) (lawEnv nm L)) Q E s := by
  w_on
  obtain ⟨hp, tk, rfl⟩ := e
  rw [← over_eq hm] at F
  unfold lawB at F
  refine wpAny_execs_cons ?_
  refine with_toksQ (n := 1) htk ?_
  refine wpAny_For ?_
  walk1
  refine iterG_list (vs := ws) (fun i m news => news = [(Ln, lst ws 0), (R, lst vs ep), (L + 1, oc)] ∧ ∀ p ∈ lawB n x ee R Ln tt te, m p.1 = some p.2) hh
    ⟨_, (N _ (.head _)).1, rfl, _, rfl⟩ (N _ (.head _)).2.1 F N ⟨rfl, ?_⟩ hE ?_ ?_ ?_
  · unfold lawB; walk_at "known"
  · intro a v i s' Q' E' hv hit hq
    exact wpAny_of_eq rfl hq
  · rintro i v m₁ news₁ s₁ own ⟨h1, tk1, rfl⟩ hv ⟨rfl, hm'⟩ hown hown2 F₁ N₁
    obtain ⟨y, t, rfl, hy⟩ := hS.item i v hv
    rw [List.getElem?_map] at hy
    obtain ⟨l, hli, rfl⟩ := Option.map_eq_some_iff.mp hy
    obtain ⟨hl, hl2, hl8⟩ := line_fine hn hn1 hx8 (List.mem_of_getElem? hli)
    clear F N
    dsimp only at F₁ N₁
    rw [← over_eq hm'] at F₁
    unfold lawB at F₁
    iterate 2 walk1
    clear F₁ N₁
    (with_reducible rename Fr _ _ _ _ => F4)
    (with_reducible rename News _ _ _ _ => N4)
    have F5 := fr_over (l := [("line", .str (mkS l) t)]) F4 (by walk_at "known")
    refine ln_turn (oc := oc) (tn := tn) (l := l) (tl := t) T Y hh hroom hu hoc (List.mem_append_left _ (.tail _ (.tail _ (.head _)))) hl hl2 hl8 F5 N4 ?_
    intro h' tk' F6 N6
    refine ⟨h', tk', _, [(Ln, lst ws 0), (R, lst vs ep), (L + 1, oc)], rfl, F6, N6, fun p hp => .inl ⟨p, hp, rfl⟩, rfl, ?_⟩
    unfold lawB; walk_at "known"
  · rintro m₁ news₁ h1 tk1 ⟨rfl, hm'⟩ F₁ N₁
    intro ht
    exact h _ m₁ ⟨_, _, rfl⟩ ht F₁ hm' N₁
end Mine
end
end
section
set_option maxRecDepth 100000
set_option maxHeartbeats 400000
set_option linter.unusedVariables false
namespace Mine
theorem anew54 : True := by
  w_top off
  first | walk1 | trivial
open PySem PySem.W PySem.Calls PyProof.Rows
noncomputable def compR : PySem.Expr := match nth (fBody (stm 22)) 8 with
  | .If (.Compare e _ _ _) _ _ _ => e
  | _ => .Constant .none 0 default
def gR (v y : Value) : Prop := ∃ (r x : List Nat) (t u : Tok), v = .str (mkS r) t ∧ readL r = some x ∧ y = .str (mkS x) u
theorem reads_of : ∀ (fs rows : List (List Nat)) (vs ys : List Value), fs.map readL = rows.map some → vs.length = fs.length → (∀ (j : Nat) (v : Value), vs[j]? = some v → ∃ r t, fs[j]? = some r ∧ v = .str (mkS r) t) → Paired gR (vs.filter fun _ => true) ys → StrsAre ys (rows.map mkS)
  | [], rows, vs, ys, hr, hl, hv, hp => by
    have : rows = [] := by cases rows with | nil => rfl | cons _ _ => cases hr
    subst this
    rw [List.length_eq_zero_iff.mp hl] at hp
    cases hp
    exact .nil
  | f :: fs, [], vs, ys, hr, hl, hv, hp => by cases hr
  | f :: fs, r :: rows, [], ys, hr, hl, hv, hp => by cases hl
  | f :: fs, r :: rows, v :: vs, ys, hr, hl, hv, hp => by
    obtain ⟨f', t, e, rfl⟩ := hv 0 v rfl
    cases Option.some.inj e
    rw [List.map_cons, List.map_cons] at hr
    obtain ⟨h1, h2⟩ := List.cons.inj hr
    cases hp with
    | cons hf hp =>
      obtain ⟨f2, x2, t2, u2, e2, hr2, rfl⟩ := hf
      injection e2 with e2 _
      cases mkS_inj e2
      rw [h1] at hr2
      cases Option.some.inj hr2
      exact .cons _ _ (reads_of fs rows vs _ h2 (Nat.succ.inj hl) (fun j v hj => hv (j + 1) v hj) hp)
theorem spell_len {x : List Nat} {ts : List (List Nat)} (h : Spell x ts) : ts.flatten.length ≤ 3 * x.length := by
  induction h with
  | nil => exact Nat.zero_le _
  | cons hs h ih =>
    rw [List.flatten_cons, List.length_append, List.length_cons]
    rcases hs with rfl | ⟨rfl, _⟩
    · show 3 + _ ≤ _
      omega
    · rw [List.length_singleton]; omega
theorem rep_rows2 {ee : List Nat} (he : Eol ee) {n : Nat} (hn : 4 ≤ n) : ∀ (rows : List (List Nat)), (∀ r ∈ rows, ∀ c ∈ r, OkC c) → (∀ r ∈ rows, r.length ≤ 4000) →
    ∃ fs : List (List Nat), fs.length = rows.length ∧ (rows ≠ [] → rep (61 :: ee) [] 0 (jn ee (rows.flatMap (lLines n))) = jn ee fs) ∧ (∀ f ∈ fs, (∀ c ∈ f, c ≠ 10 ∧ c ≠ 13) ∧ (∀ c ∈ f, c < 256) ∧ f.length ≤ 50000) ∧ fs.map readL = rows.map some
  | [], _, _ => ⟨[], rfl, fun h => absurd rfl h, fun _ h => (by cases h), rfl⟩
  | r :: rows, h, h4 => by
    have hr := h r (.head _)
    obtain ⟨gs, q, sh⟩ := shape_of hn hr
    obtain ⟨fs, hl, e, h1, h2⟩ := rep_rows2 he hn rows (fun a ha => h a (.tail _ ha)) (fun a ha => h4 a (.tail _ ha))
    have hx : ∀ c ∈ r, c < 256 := fun c hc => (hr c hc).1
    refine ⟨(gs.flatten ++ q).flatten :: fs, by rw [List.length_cons, List.length_cons, hl], fun _ => ?_, ?_, ?_⟩
    · cases rows with
      | nil =>
        have hf : fs = [] := List.length_eq_zero_iff.mp (by rw [hl]; rfl)
        subst hf
        have := rep_row he sh.spell hx []
        rw [← sh.lines, List.append_nil] at this
        rw [List.flatMap_cons, List.flatMap_nil, List.append_nil, this]
        unfold rep; rw [List.append_nil]; rfl
      | cons r' rows =>
        have hf : fs ≠ [] := List.ne_nil_of_length_pos (by rw [hl]; simp)
        have hne : (List.flatMap (lLines n) (r' :: rows)) ≠ [] := by rw [List.flatMap_cons]; simp [lLines_ne]
        rw [List.flatMap_cons, jn_append (lLines_ne n r) hne, List.append_assoc, sh.lines]
        rw [rep_row he sh.spell hx, rep_hard he, e (by simp), jn_cons hf]
        simp
    · intro f hf
      rcases List.mem_cons.mp hf with rfl | hf
      · have hq := sh.spell.line hx
        unfold LineC at hq
        refine ⟨fun c hc => ?_, fun c hc => ?_, ?_⟩
        · have := hq c hc; omega
        · have := hq c hc; omega
        · have := spell_len sh.spell
          have := h4 r (.head _)
          omega
      · exact h1 f hf
    · rw [List.map_cons, List.map_cons, h2, read_of sh.spell hx]
theorem rep3 {w : World} {A : Around} {E : Value → Shared → Prop} {s : Shared} {x : List Nat} {ys zs : Str} {t u v : Tok} {Q : Value → Shared → Prop} (y z : List Nat) (ey : ys = mkS y) (ez : zs = mkS z) (hu : u ≠ 0) (hv : v ≠ 0) (huv : u ≠ v) (hy : y ≠ []) (hyz : (mkS y == mkS z) = false) (hx : x.length ≤ 100000) (hz : z.length ≤ 1)
    (hq : ∀ t' k, Q (.str (mkS (rep y z 0 x)) t') { s with toks := k }) : wpAny (model PR w) A (call (.builtin "str.replace") [.str (mkS x) t, .str ys u, .str zs v]) Q E s := by
  subst ey ez
  refine SC.replaceW hu hv huv hyz (by rw [mkS_length]; omega) (by rw [mkS_length]; omega) fun t' k => ?_
  rw [replace_mk _ _ _ hy]
  exact hq t' k
theorem add_fresh {w : World} {A : Around} {E : Value → Shared → Prop} {s : Shared} {x y : List Nat} {t u : Tok} {xs : Str} {Q : Value → Shared → Prop} (ex : xs = mkS x) (hx : x ≠ []) (hy : y ≠ []) (hl : x.length + y.length ≤ 1000) (h2 : x.length + y.length ≠ 1)
    (h : Q (.str (mkS (x ++ y)) s.toks) { s with toks := s.toks + 1 }) : wpAny (model PR w) A (binaryOp .Add (.str xs t) (.str (mkS y) u)) Q E s := by
  subst ex
  have h1 := List.length_pos_iff.mpr hx
  have h3 := List.length_pos_iff.mpr hy
  have ha : mkS x ++ mkS y = mkS (x ++ y) := mkS_append x y
  refine P.add_str ?_
  rw [if_neg (by rw [mkS_length]; simp; omega), if_neg (by rw [mkS_length]; simp; omega), ha]
  refine ⟨?_, ?_⟩
  · rw [mkS_length, List.length_append, sizeLine_eq]; omega
  · exact h
local macro_rules | `(tactic| walk_at "binaryOp Add str str") => `(tactic| (refine add_fresh (x := [61]) o_eq (by simp) (by assumption) (by assumption) (by assumption) ?_))
local macro_rules | `(tactic| walk_at "eval Name") => `(tactic| first
  | refine nm_local rfl rfl (Fr.ns (by assumption)) rfl ?_
  | refine nm_local rfl rfl (by assumption) (by assumption) ?_
  | ((with_reducible show wpAny _ _ (eval (PySem.Expr.Name (Str.ofString "_law_read") _) _) _ _ _); refine nm_glob rfl rfl rfl (by assumption) (g_read _) ?_))
local macro_rules | `(tactic| walk_at "callWith") => `(tactic| ((with_reducible show wpAny _ _ (callWith _ (Value.ref 62) [] _ _) _ _ _); refine callWith_fn ?_))
theorem law_compR {w : World} {A : Around} {s₀ s : Shared} {L R Ln : Addr} {nm : Str} {Q : Value → Shared → Prop} {E : Value → Shared → Prop} {mean mg mb} {m : Str → Option Value} {news : List (Addr × Obj)} {n : Nat} {x ee : List Nat} {tt te : Tok} (T : Top vq (looseW vq looseN) mean mg mb s₀.heap)
    (Y : TopH w s₀.heap) (hh : A.handled = none) (hroom : A.depth < recursionLimit) (hn : 4 ≤ n) (hx : x.length ≤ 4000) (hx8 : ∀ c ∈ x, c < 256) (he : Eol ee) (htk : 1 ≤ s.toks) (F : Fr s₀.heap L s.heap (over (lawB n x ee R Ln tt te) m)) (N : News s₀.heap L s.heap news)
    (h : ∀ D h' tk ys k, Fr s₀.heap L h' (over (lawB n x ee R Ln tt te) m) → News s₀.heap L h' ((D, lst ys k) :: news) → StrsAre ys ((rowsOf x).map mkS) → Q (.ref D) { s with heap := h', toks := tk }) :
    wpAny (model PR w) A (eval compR (lawEnv nm L)) Q E s := by
  w_on
  unfold lawB at F
  obtain ⟨e0, er, hee, _, hel, hec⟩ := he.head
  refine wpAny_ListComp_free (cl := []) (fun _ => true) gR ?hclos ?hcell ?hkind ?hnames ?hx ?_
  case hclos => rfl
  case hcell => decide +kernel
  case hkind => rfl
  case hnames => decide +kernel
  case hx => rfl
  have hme := mkS_length ee
  have htl := told_len (n := n) (ee := ee) hx hel
  have hene : ee ≠ [] := by rw [hee]; simp
  have hep := List.length_pos_iff.mpr hene
  have ha1 : [61].length + ee.length ≤ 1000 := by rw [List.length_singleton]; omega
  have ha2 : [61].length + ee.length ≠ 1 := by rw [List.length_singleton]; omega
  repeat' walk1
  have o_nil : Str.ofString "" = mkS [] := by decide +kernel
  refine rep3 ([61] ++ ee) [] rfl o_nil ?_ ?_ ?_ (by simp) (beq_eq_false_iff_ne.mpr fun q => by have := mkS_inj q; simp at this) (Nat.le_trans htl (by decide)) (by decide) ?_
  · dsimp only; exact Nat.succ_ne_zero _
  · dsimp only; exact Nat.succ_ne_zero _
  · dsimp only; exact Nat.ne_of_lt (Nat.lt_succ_self _)
  intro t' k
  dsimp only
  obtain ⟨fs, hfl, hfe, hff, hfr⟩ := rep_rows2 he hn (rowsOf x) (rows_okc hx8) (fun r hr => (rows_fine hx hx8 r hr).1)
  have hfe' : rep ([61] ++ ee) [] 0 (jn ee (linesOf n x)) = jn ee fs := hfe (rows_ne x)
  have hfne : fs ≠ [] := by intro q; rw [q] at hfl; exact rows_ne x (List.length_eq_zero_iff.mp hfl.symm)
  have hrl := rep_len ([61] ++ ee) [] (by simp) 0 (jn ee (linesOf n x))
  rw [hfe'] at hrl ⊢
  repeat' walk1
  refine spl1 ee F N rfl hene (fun c hc => by rcases hec c hc with q | q <;> omega) (by omega) ?_
  intro h2 k2 ws hS F2 N2
  rw [spl_jn he fs hfne (fun f hf => (hff f hf).1)] at hS
  clear F N
  dsimp only
  have hfl2 := splA_cnt ee [] 0 (jn ee fs)
  rw [spl_jn he fs hfne (fun f hf => (hff f hf).1)] at hfl2
  generalize hW : s.heap.objs.size = W at N2 ⊢
  have hRl : h2.IsList W ws.toArray := ⟨_, (N2 _ (.head _)).1, rfl, _, rfl⟩
  refine wpAny_pyIter_list hRl ?_
  dsimp only
  have hRne : W ≠ h2.objs.size := Nat.ne_of_lt (Heap.lt_size (N2 _ (.head _)).1)
  have Wk := walks_lt (Walks.list (prog := PR) (w := w) (A := A) hh h2.objs.size W hRne ws.toArray)
  have hvr : ∀ (j : Nat) (v : Value), ws.toArray[j]? = some v → ∃ r t, fs[j]? = some r ∧ v = .str (mkS r) t := fun j v hj => by
    obtain ⟨y, t, rfl, hy⟩ := hS.item j v (by simpa using hj)
    rw [List.getElem?_map] at hy
    obtain ⟨r, hr, rfl⟩ := Option.map_eq_some_iff.mp hy
    exact ⟨r, t, hr, rfl⟩
  have hvl : ws.length = fs.length := by rw [hS.length, List.length_map]
  refine ⟨_, _, _, _, _, _, rfl, Wk, by rw [sizeLine_eq, List.size_toArray]; omega, ?_, ?_, ⟨?_, ?_⟩, ?_⟩
  · exact ⟨⟨_, Heap.get?_push_size _ rfl, rfl, rfl⟩, hRl.at fun o e => Heap.get?_push_of_some _ e⟩
  · intro b hb
    rw [Heap.size_push]
    rcases List.mem_cons.mp hb with rfl | hb
    · exact Nat.lt_succ_self _
    · rw [List.mem_singleton.mp hb]; exact Nat.lt_succ_of_lt (Heap.lt_size (N2 _ (.head _)).1)
  · intro C i v s₃ m₃ E' hC hP hn hm hk ht
    exact wpAny_tests_nil ⟨rfl, _, _, rfl, fun _ _ e => e⟩
  · intro C i v s₃ m₃ E' hC hP hp hn hm hk ht
    obtain ⟨hi, hP⟩ := hP
    obtain ⟨r, t, hr, rfl⟩ := hvr i v hP
    obtain ⟨_, hr2, hr3⟩ := hff r (List.mem_of_getElem? hr)
    have k₃ : ∀ b o, s₀.heap.get? b = some o → s₃.heap.get? b = some o := fun b o e => hk b o (fun q => by
      rw [List.mem_singleton] at q
      have := next_is_new F2
      subst q
      rw [this] at e; cases e) (Heap.get?_push_of_some _ (F2.keep b o e))
    have Y₃ : TopH w s₃.heap := fun b o e => k₃ b o (Y b o e)
    obtain ⟨y, hy⟩ : ∃ y, readL r = some y := by
      have h1 : (fs.map readL)[i]? = some (readL r) := by rw [List.getElem?_map, hr]; rfl
      rw [hfr, List.getElem?_map] at h1
      obtain ⟨y, _, e⟩ := Option.map_eq_some_iff.mp h1
      exact ⟨y, e.symm⟩
    refine wpAny_mono (Q := fun y s₄ => KF gR (.str (mkS r) t) s₃ y s₄) ?_ (fun _ _ z => z) (fun _ _ z => z)
    clear F2 N2 hk Wk
    repeat' walk1
    refine ⟨⟨_, _, Y₃ 62 _ rfl, rfl⟩, rd_call (T.keeps k₃) Y₃ hh hroom hr3 hr2 fun tok s' X => ?_⟩
    rw [hy]
    obtain ⟨X, h', tk, rfl⟩ := X
    exact ⟨⟨r, y, t, tok, rfl, hy, rfl⟩, _, _, rfl, X⟩
  · intro D h' tk ys us hD hl hpl hul hP hF hk
    obtain ⟨F₂, n₂, N₂⟩ := comp_news (s₂ := { s with heap := h2.push _, toks := k2 }) (F2.push _) (fun p hp => ⟨Heap.get?_push_of_some _ (N2 p hp).1, (N2 p hp).2⟩) (fr_low F2 _ N2) hD hpl hk
    have N3 := News.sub (b := (D, lst ys.toList n₂) :: news) N₂ (fun p hp => by
      rcases List.mem_cons.mp hp with rfl | hp
      · exact .head _
      · exact .tail _ (.tail _ hp))
    exact h D h' tk _ n₂ F₂ N3 (reads_of fs (rowsOf x) us _ hfr (by rw [hul, List.size_toArray, hvl]) (fun j v e => hvr j v (hP j v e).2) hF)
end Mine
end
section
set_option maxRecDepth 100000
set_option maxHeartbeats 400000
set_option linter.unusedVariables false
namespace Mine
theorem anew55 : True := by
  w_top off
  first | walk1 | trivial
open PySem PySem.W PySem.Calls PyProof.Rows
theorem ne_strs {prog : Program} {w : World} {A : Around} {E : Value → Shared → Prop} {s : Shared} {a b : Addr} {xs ys : List Value} {ss : List Str} {Q : Value → Shared → Prop} (ha : s.heap.IsList a xs.toArray) (hb : s.heap.IsList b ys.toArray) (hx : StrsAre xs ss) (hy : StrsAre ys ss) (hu : A.units < cLine) (h : Q (.bool false) s) :
    wpAny (model prog w) A (compareOp .NotEq (.ref a) (.ref b)) Q E s := by
  have h1 := hx.length
  have h2 := hy.length
  have hr := SeqAt.RcNeAt.lists (A := A) (s := s) (e := fun _ => true) ha hb (by simp; omega) hu (fun j j1 j2 => by
    have q1 : xs[j]? = some (xs.toArray[j]) := by rw [← List.getElem?_toArray]; exact Array.getElem?_eq_getElem j1
    have q2 : ys[j]? = some (ys.toArray[j]) := by rw [← List.getElem?_toArray]; exact Array.getElem?_eq_getElem j2
    obtain ⟨y, t, e1, g1⟩ := hx.item j _ q1
    obtain ⟨z, u, e2, g2⟩ := hy.item j _ q2
    rw [g1] at g2
    cases Option.some.inj g2
    rw [e1, e2]
    have := SeqAt.EqAt.str_str (A := A.in1) (s := s) y t y u
    rwa [beq_self_eq_true] at this)
  have e : (!(List.range xs.toArray.size).all fun _ => true) = false := by simp
  rw [e] at hr
  exact EqBoolInt.of_rcne hr h
local macro_rules | `(tactic| walk_at "eval Name") => `(tactic| first
  | refine nm_local rfl rfl (Fr.ns (by assumption)) rfl ?_)
theorem law_8 {w : World} {A : Around} {s₀ s : Shared} {L R Ln : Addr} {nm : Str} {Q : Flow → Shared → Prop} {E : Value → Shared → Prop} {mean mg mb} {m : Str → Option Value} {oc : Obj} {x ee : List Nat} {tt te tn : Tok} {n : Nat} {vs ws : List Value} {ep : Nat} (T : Top vq (looseW vq looseN) mean mg mb s₀.heap)
    (Y : TopH w s₀.heap) (hh : A.handled = none) (hroom : A.depth < recursionLimit) (hu : A.units < cLine) (hn : 4 ≤ n) (hx : x.length ≤ 4000) (hx8 : ∀ c ∈ x, c < 256) (he : Eol ee)
    (F : Fr s₀.heap L s.heap m) (hm : ∀ p ∈ lawB n x ee R Ln tt te, m p.1 = some p.2) (N : News s₀.heap L s.heap [(Ln, lst ws 0), (R, lst vs ep), (L + 1, oc)]) (hv : StrsAre vs ((rowsOf x).map mkS)) (e : SameBut' s₀ s) (htk : 1 ≤ s.toks)
    (h : ∀ s', SameBut' s₀ s' → Fr s₀.heap L s'.heap m → News s₀.heap L s'.heap [(Ln, lst ws 0), (R, lst vs ep), (L + 1, oc)] →
      wpAny (model PR w) A (execs ((fBody (stm 22)).drop 9) (lawEnv nm L)) Q E s') :
    wpAny (model PR w) A (execs ((fBody (stm 22)).drop 8) (lawEnv nm L)) Q E s := by
  w_on
  obtain ⟨hp, tk, rfl⟩ := e
  rw [← over_eq hm] at F
  refine wpAny_execs_cons ?_
  refine wpAny_mono (Q := LnPost s₀.heap L (over (lawB n x ee R Ln tt te) m) [(Ln, lst ws 0), (R, lst vs ep), (L + 1, oc)] s₀) (E := E) ?_ ?_ (fun _ _ z => z)
  · clear h
    iterate 2 walk1
    refine law_compR T Y hh hroom hn hx hx8 he htk F N ?_
    intro D h3 tk3 ys k F4 N4 hys
    clear F N
    dsimp only
    unfold lawB at F4
    walk1
    refine ne_strs (News.isList N4 (.head _)) (News.isList N4 (.tail _ (.tail _ (.head _)))) hys hv hu ?_
    repeat' walk1
    exact ⟨rfl, _, _, rfl, F4, News.sub N4 (fun p hp => .tail _ hp)⟩
  rintro f s' ⟨rfl, h1, tk1, rfl, F1, N1⟩
  rw [over_eq hm] at F1
  dsimp only
  exact h _ ⟨_, _, rfl⟩ F1 N1
end Mine
end
section
set_option maxRecDepth 100000
set_option maxHeartbeats 400000
set_option linter.unusedVariables false
namespace Mine
open PySem PySem.W PySem.Calls PyProof.Rows
/-- an assigned comprehension over a list, with free names, that makes tuples -/
theorem Assign_comp_tup {prog : Program} {w : World} {A : Around} {E : Value → Shared → Prop} {env : Env} {s : Shared} {elt iter : PySem.Expr} {x y : Str} {px py : Pos} {scope : Scope} {cl : List (Str × Addr)} {pos spos : Pos} {Q : Flow → Shared → Prop}
    (G : Value → Array Value → Prop) (hh : A.handled = none)
    (hsw : swapsWith (.ListComp elt [⟨.Name x px, iter, [], 0⟩] scope pos) (some (.Name y py)) spos.line env = pure true)
    (hclos : closureFor scope env = pure cl) (hcell : ∀ z ∈ scope.names, z.2 ≠ .cell) (hkind : scope.kind = .function)
    (hnames : ∀ z ∈ scope.names, z.2 = .local → scope.names.lookup z.1 = some .local) (hx : scope.names.lookup x = some .local)
    (hy : env.kindOf y = some .local) (hp : (env.scope.kind == .class || (env.scope.kind == .module && env.locals != env.globals)) = false)
    (h : wpAny (model prog w) A (eval iter env) (fun xv s₁ => ∃ ax items m, xv = .ref ax ∧ s₁.heap.IsList ax items ∧ items.size ≤ sizeLine ∧ s₁.heap.Ns env.locals m ∧
      (∀ C v s₃ m₃ E', s₁.heap.objs.size ≤ C → v ∈ items → s₃.heap.Ns C m₃ → m₃ x = some v → (∀ b o, s₁.heap.get? b = some o → s₃.heap.get? b = some o) →
        wpAny (model prog w) A (eval elt (compEnvC scope cl C env)) (fun r s₄ => (∃ T vs, r = .ref T ∧ s₃.heap.get? T = none ∧ s₄.heap.IsTuple T vs ∧ G v vs) ∧ Keeps s₃ s₄) E' s₃) ∧
      (∀ D h' tk ys, s₁.heap.get? D = none → h'.IsList D ys → Paired (TupIs G h') items.toList ys.toList → h'.Ns env.locals (fun z => if z = y then some (.ref D) else m z) → (∀ b o, b ≠ env.locals → s₁.heap.get? b = some o → h'.get? b = some o) → Q .next { s₁ with heap := h', toks := tk })) E s)
    (hs : ∀ x, foldedSetIterable iter env x = pure x := by intro _; rfl) :
    wpAny (model prog w) A (exec (.Assign [.Name y py] (.ListComp elt [⟨.Name x px, iter, [], 0⟩] scope pos) spos) env) Q E s := by
  rw [exec_Assign_Name_used _ _ _ _ hsw]
  refine wpAny_bind (wpAny_standAt (wpAny_bind ?_))
  show wpAny _ A (do let _ ← comprehension (.ListComp elt [⟨.Name x px, iter, [], 0⟩] scope pos) scope env _ (newList []) false (eval iter env) (some (assign (.Name y py) env))) _ _ s
  refine wpAny_bind (wpAny_mono (wpAny_comprehension_free (use := some (assign (.Name y py) env)) (Q := fun _ s' => Q .next s') rfl hs hclos hkind hnames
    (wpAny_mono h (fun xv s₁ h₁ => ?_) fun _ _ e => e)) (fun _ s' hq => wpAny_pure (wpAny_pure hq)) fun _ _ e => e)
  obtain ⟨ax, items, m, rfl, hl, hsz, hn, helt, hQ⟩ := h₁
  refine wpAny_pyIter_list hl (wpAny_newObj_type (wpAny_newFunctionEnv hcell (by intro y hy; simp at hy) (fun h₁ hns₁ hsb₁ => ?_) hkind))
  dsimp only at hns₁ hsb₁ ⊢
  obtain ⟨ol, hol, hol'⟩ := id hl
  have hax : ax < s₁.heap.objs.size := Heap.lt_size hol
  generalize hH1 : s₁.heap.push { cls := .type "list_iterator", data := .fields #[.ref ax, .int 0 0] } = H1 at hns₁ hsb₁ ⊢
  have hD : H1.objs.size = s₁.heap.objs.size + 1 := by rw [← hH1, Heap.size_push]
  generalize hH2 : H1.push { cls := .type "list", dict := none, data := .seq ([] : List Value).toArray } = H2 at hns₁ hsb₁ ⊢
  have hC : H2.objs.size = s₁.heap.objs.size + 2 := by rw [← hH2, Heap.size_push, hD]
  have hDI : H1.objs.size ≠ s₁.heap.objs.size := by rw [hD]; exact Nat.succ_ne_self _
  have hDC : H1.objs.size ≠ H2.objs.size := by rw [hD, hC]; exact Nat.ne_of_lt (Nat.lt_succ_self _)
  have hIC : s₁.heap.objs.size ≠ H2.objs.size := by rw [hC]; exact Nat.ne_of_lt (Nat.lt_succ_of_lt (Nat.lt_succ_self _))
  have hCle : s₁.heap.objs.size ≤ H2.objs.size := by rw [hC]; exact Nat.le_add_right _ 2
  have below : ∀ b, b < s₁.heap.objs.size → b ≠ H2.objs.size ∧ b ≠ s₁.heap.objs.size ∧ b ≠ H1.objs.size := fun b hb =>
    ⟨by rw [hC]; exact Nat.ne_of_lt (Nat.lt_succ_of_lt (Nat.lt_succ_of_lt hb)), Nat.ne_of_lt hb, by rw [hD]; exact Nat.ne_of_lt (Nat.lt_succ_of_lt hb)⟩
  have old : ∀ b o, s₁.heap.get? b = some o → h₁.get? b = some o := fun b o e =>
    hsb₁.extBut b o (below b (Heap.lt_size e)).1 (Heap.get?_push_of_some _ (hH2 ▸ Heap.get?_push_of_some _ (hH1 ▸ Heap.get?_push_of_some _ e)))
  have hit : h₁.IsListIter s₁.heap.objs.size ax 0 :=
    ⟨_, hsb₁.extBut _ _ hIC (Heap.get?_push_of_some _ (hH2 ▸ Heap.get?_push_of_some _ (hH1 ▸ Heap.get?_push_size _ rfl))), rfl, rfl⟩
  have hacc : h₁.IsList H1.objs.size #[] := ⟨_, hsb₁.extBut _ _ hDC (Heap.get?_push_of_some _ (hH2 ▸ Heap.get?_push_size _ rfl)), rfl, _, rfl⟩
  have hl₁ : h₁.IsList ax items := ⟨ol, old _ _ hol, hol'⟩
  have fresh : ∀ a, s₁.heap.objs.size ≤ a → s₁.heap.get? a = none := fun a ha => by
    cases e : s₁.heap.get? a with
    | none => rfl
    | some o' => exact absurd (Heap.lt_size e) (Nat.not_lt.mpr ha)
  have hnD : s₁.heap.get? H1.objs.size = none := fresh _ (by rw [hD]; exact Nat.le_succ _)
  have hnC : s₁.heap.get? H2.objs.size = none := fresh _ hCle
  have loop : ∀ s₂ : Shared, s₂ = { s₁ with heap := h₁, toks := s₁.toks + ([] : List (Str × Value)).length } →
      codeAny (model prog w) A (.compLoop (.ListComp elt [⟨.Name x px, iter, [], 0⟩] scope pos) 0 (.ref s₁.heap.objs.size) (.ref H1.objs.size) (compEnvC scope cl H2.objs.size env))
        (compPost (model prog w) A E (some (assign (.Name y py) env)) (fun _ s' => Q .next s') (.ref H1.objs.size) H2.objs.size) s₂ := by
    rintro s₂ rfl
    refine codeAny_compLoop_tup (hsz := hsz) (cenv := compEnvC scope cl H2.objs.size env) (fun _ => true) G hh (lookup_relabel_local hx) (by simp [compEnvC, relabel, hkind]) hDI hDC hIC (below ax hax).2.1 (below ax hax).1 (below ax hax).2.2 hit hl₁ hacc hns₁
      (fun v s₂ m₂ hv hn hm hk => wpAny_tests_nil ⟨rfl, _, _, rfl, fun _ _ e => e⟩)
      (fun v s₂ m₂ hv hpv hn hm hk => helt _ v s₂ m₂ _ hCle hv hn hm fun b o e => hk b o (below b (Heap.lt_size e)).1 (below b (Heap.lt_size e)).2.1 (below b (Heap.lt_size e)).2.2 (old b o e)) fun h' tk m' ys hnC' ha hF hk => ?_
    have hk' : ∀ b o, s₁.heap.get? b = some o → h'.get? b = some o := fun b o e => hk b o (below b (Heap.lt_size e)).1 (below b (Heap.lt_size e)).2.1 (below b (Heap.lt_size e)).2.2 (old b o e)
    have hLC : env.locals ≠ H2.objs.size := by intro q; obtain ⟨o, _, _, ho, _⟩ := hn; rw [q, hnC] at ho; cases ho
    have hLD : env.locals ≠ H1.objs.size := by intro q; obtain ⟨o, _, _, ho, _⟩ := hn; rw [q, hnD] at ho; cases ho
    show wpAny _ A (assign (.Name y py) env (.ref _)) _ _ _
    refine wpAny_assign_Name (wpAny_storeName_local hy (hn.at' fun o e => hk' _ o e) (fun h₂ hn₂ hs₂ => ?_) hp)
    refine ⟨m', hnC'.sameBut hs₂ (Ne.symm hLC), fun h₃ hs₃ => ?_⟩
    have hnL : h'.Ns env.locals m := hn.at' fun o e => hk' _ o e
    refine hQ _ h₃ _ ys hnD ((ha.extBut hs₂.extBut (Ne.symm hLD)).extBut hs₃.extBut hDC) ?_ (hn₂.sameBut hs₃ hLC) fun b o hbL e => hs₃.extBut b o (fun q => by rw [q, hnC] at e; cases e) (hs₂.extBut b o hbL (hk' b o e))
    have e0 : items.toList.filter (fun _ => true) = items.toList := by simp
    rw [e0] at hF
    refine hF.mono fun v z hz => ?_
    obtain ⟨T, vs, rfl, hTC, hTI, hTD, hT, hG⟩ := hz
    refine ⟨T, vs, rfl, ?_, hG⟩
    have hTL : T ≠ env.locals := by
      intro q
      obtain ⟨o, ho, hc, _⟩ := hT
      obtain ⟨o2, _, _, ho2, hc2⟩ := hnL
      rw [q, ho2] at ho
      cases Option.some.inj ho
      simp_all
    obtain ⟨o, ho, r⟩ := hT
    exact ⟨o, hs₃.extBut T o hTC (hs₂.extBut T o hTL ho), r⟩
  exact codeAny_compStart_list (loop _ rfl) (wpAny_pyIter_listiter hit (loop _ rfl))
end Mine
end
section
set_option maxRecDepth 100000
set_option maxHeartbeats 400000
set_option linter.unusedVariables false
namespace Mine
theorem anew57 : True := by
  w_top off
  first | walk1 | trivial
open PySem PySem.W PySem.Calls PyProof.Rows
def gB (n : Nat) (v : Value) (its : Array Value) : Prop := ∃ (r : List Nat) (t a b : Tok), v = .str (mkS r) t ∧ its = #[.int ((bestG n r).1 : Int) a, .int ((bestG n r).2 : Int) b]
def KG (n : Nat) (v : Value) (s₃ : Shared) (r : Value) (s₄ : Shared) : Prop := (∃ T vs, r = .ref T ∧ s₃.heap.get? T = none ∧ s₄.heap.IsTuple T vs ∧ gB n v vs) ∧ Keeps s₃ s₄
local macro_rules | `(tactic| walk_at "eval Name") => `(tactic| first
  | refine nm_local rfl rfl (by assumption) (by assumption) ?_
  | refine nm_cell rfl rfl rfl (by assumption) ?_
  | ((with_reducible show wpAny _ _ (eval (PySem.Expr.Name (Str.ofString "_law_best") _) _) _ _ _); refine nm_glob rfl rfl rfl (by assumption) (g_best _) ?_))
local macro_rules | `(tactic| walk_at "callWith") => `(tactic| ((with_reducible show wpAny _ _ (callWith _ (Value.ref 67) [] _ _) _ _ _); refine callWith_fn ?_))
theorem law_9 {w : World} {A : Around} {s₀ s : Shared} {L R Ln : Addr} {nm : Str} {Q : Flow → Shared → Prop} {E : Value → Shared → Prop} {mean mg mb} {m : Str → Option Value} {oc : Obj} {x ee : List Nat} {tt te tn : Tok} {n : Nat} {vs ws : List Value} {ep : Nat} (T : Top vq (looseW vq looseN) mean mg mb s₀.heap)
    (Y : TopH w s₀.heap) (hh : A.handled = none) (hroom : A.depth < recursionLimit) (hu : A.units + 4 < cLine) (hn : 4 ≤ n) (hn1 : n ≤ 100) (hx : x.length ≤ 4000) (hx8 : ∀ c ∈ x, c < 256) (hoc : oc.data = .cell (some (.int (n : Int) tn)))
    (F : Fr s₀.heap L s.heap m) (hm : ∀ p ∈ lawB n x ee R Ln tt te, m p.1 = some p.2) (N : News s₀.heap L s.heap [(Ln, lst ws 0), (R, lst vs ep), (L + 1, oc)]) (hv : StrsAre vs ((rowsOf x).map mkS)) (e : SameBut' s₀ s)
    (h : ∀ s' D ys, SameBut' s₀ s' → Fr s₀.heap L s'.heap (fun z => if z = "least" then some (.ref D) else m z) → News s₀.heap L s'.heap [(Ln, lst ws 0)] → s'.heap.IsList D ys.toArray → Paired (TupIs (gB n) s'.heap) vs ys →
      wpAny (model PR w) A (execs ((fBody (stm 22)).drop 10) (lawEnv nm L)) Q E s') :
    wpAny (model PR w) A (execs ((fBody (stm 22)).drop 9) (lawEnv nm L)) Q E s := by
  w_on
  obtain ⟨hp, tk, rfl⟩ := e
  refine wpAny_execs_cons ?_
  refine Assign_comp_tup (cl := [("length", L + 1)]) (gB n) hh ?hsw ?hclos ?hcell ?hkind ?hnames ?hx ?hy ?hp ?_
  case hsw => rfl
  case hclos => rfl
  case hcell => decide +kernel
  case hkind => rfl
  case hnames => decide +kernel
  case hx => rfl
  case hy => rfl
  case hp => rfl
  refine nm_local rfl rfl F.ns (hm ("rows", .ref R) (.tail _ (.head _))) ?_
  have hvl : vs.length = (rowsOf x).length := by rw [hv.length, List.length_map]
  have hcnt := rowsA_count x.length x [] (Nat.le_refl _)
  have hrc : (rowsOf x).length ≤ 4001 := by unfold rowsOf; simp only [List.length_nil] at hcnt; omega
  refine ⟨R, vs.toArray, m, rfl, ⟨_, (N _ (.tail _ (.head _))).1, rfl, ep, rfl⟩, by rw [sizeLine_eq, List.size_toArray]; omega, F.ns, ?_, ?_⟩
  · intro C v s₃ m₃ E' hC hvm hns hmx hk
    obtain ⟨i, hi⟩ := List.getElem?_of_mem (by simpa using hvm : v ∈ vs)
    obtain ⟨y, t, rfl, hy⟩ := hv.item i v hi
    rw [List.getElem?_map] at hy
    obtain ⟨r, hr, rfl⟩ := Option.map_eq_some_iff.mp hy
    obtain ⟨hr1, hr2⟩ := rows_fine hx hx8 r (List.mem_of_getElem? hr)
    have k₃ : ∀ b o, s₀.heap.get? b = some o → s₃.heap.get? b = some o := fun b o e => hk b o (F.keep b o e)
    have Y₃ : TopH w s₃.heap := fun b o e => k₃ b o (Y b o e)
    have hcl : s₃.heap.IsCell (L + 1) (some (.int (n : Int) tn)) := ⟨oc, hk _ _ (N _ (.tail _ (.tail _ (.head _)))).1, hoc⟩
    refine wpAny_mono (Q := fun r' s₄ => KG n (.str (mkS r) t) s₃ r' s₄) ?_ (fun _ _ z => z) (fun _ _ z => z)
    clear F N hk
    repeat' walk1
    refine ⟨⟨_, _, Y₃ 67 _ rfl, rfl⟩, bs_call (T.keeps k₃) Y₃ hh hroom hu hn hn1 hr1 hr2 fun s' a X hP hna => ?_⟩
    obtain ⟨o, nn, ta, tb, ho, hcls, hd⟩ := hP
    obtain ⟨X, h', tk, rfl⟩ := X
    exact ⟨⟨a, _, rfl, hna, ⟨o, ho, hcls, nn, hd⟩, r, t, ta, tb, rfl, rfl⟩, _, _, rfl, X⟩
  · intro D h' tk' ys hD hl hF hns hk
    have hne : Ln ≠ L := (N _ (.head _)).2.1
    refine h { s₀ with heap := h', toks := tk' } D ys.toList ⟨_, _, rfl⟩ ⟨hns, fun b o e => hk b o (fun q => ?_) (F.keep b o e), F.above⟩ ?_ (by simpa using hl) (by simpa using hF)
    · have q' : b = L := q
      have := Heap.lt_size e
      have h2 := F.above
      exact absurd this (by rw [q']; exact Nat.not_lt.mpr h2)
    · intro p hp
      rw [List.mem_singleton.mp hp]
      exact ⟨hk _ _ hne (N _ (.head _)).1, (N _ (.head _)).2⟩
end Mine
end
section
set_option maxRecDepth 100000
set_option maxHeartbeats 400000
set_option linter.unusedVariables false
namespace Mine
theorem anew58 : True := by
  w_top off
  first | walk1 | trivial
open PySem PySem.W PySem.Calls PyProof.Rows
section
variable {prog : Program} {w : World} {A : Around} {E : Value → Shared → Prop} {s : Shared}
theorem tup_item {value slice : PySem.Expr} {l : Addr} {items : Array Value} {k : Int} {u : Tok} {j : Nat} {v : Value} {Q : Value → Shared → Prop} (hl : IsTup s.heap l items) (h0 : -(2 ^ 63) ≤ k) (hhi : k < 2 ^ 63) (hj : seqIndex? k items.size = some j) (hx : items[j]? = some v) (h : Q v s)
    (hs : subscripted slice false (.ref l) (.int k u) = operate [.ref l, .int k u] (getItem (.ref l) (.int k u)) := by with_unfolding_all rfl) :
    wpAny (model prog w) A (subscriptTail value slice (.ref l) (.int k u)) Q E s :=
  tail_any hl.typeIs slot_tuple_getitem.lookup (getItem_tuple hl h0 hhi hj hx h) hs
theorem sum_keep {ns : List Int} {l : Addr} {vs : List Value} {Q : Value → Shared → Prop} (hh : A.handled = none) (hl : s.heap.IsList l vs.toArray) (hi : IntsAre vs ns)
    (h : ∀ h' tk t', (∀ b o, s.heap.get? b = some o → h'.get? b = some o) → Q (.int ns.sum t') { s with heap := h', toks := tk }) : wpAny (model prog w) A (call (.builtin "sum") [.ref l]) Q E s := by
  obtain ⟨xs, hx⟩ := hi.allInts.items
  have hl' : s.heap.IsList l (intItems xs) := hx ▸ hl
  refine sum_intListG hh hl' fun h' tk t' hk => ?_
  have e1 : ns = xs.toList.map (·.1) := by
    rw [← nums_intItems, ← hx]
    exact (show numsOf vs.toArray.toList = ns from hi.numsOf).symm
  have e2 : preSum (numAt xs) xs.size = ns.sum := by
    rw [preSum_eq, List.take_of_length_le (by simp), e1]
  rw [e2]
  exact h h' tk t' hk
end
theorem gn_sum (P : Params) : gN P "sum" = none := by kernel_rfl
theorem bo_sum : bootBuiltins "sum" = some (.builtin "sum") := by kernel_rfl
theorem tup_keep {n : Nat} {h h' : Heap} {vs ys : List Value} (P : Paired (TupIs (gB n) h) vs ys) (k : ∀ b o, h.get? b = some o → h'.get? b = some o) : Paired (TupIs (gB n) h') vs ys :=
  P.mono fun v y ⟨T, its, e, ⟨o, ho, r⟩, g⟩ => ⟨T, its, e, ⟨o, k T o ho, r⟩, g⟩
noncomputable def compW0 : PySem.Expr := match nth (fBody (stm 22)) 10 with
  | .If (.Compare _ _ [.Call _ [e] _ _] _) _ _ _ => e
  | _ => .Constant .none 0 default
noncomputable def compW1 : PySem.Expr := match nth (fBody (stm 22)) 11 with
  | .Return (some (.Compare _ _ [.Call _ [e] _ _] _)) _ => e
  | _ => .Constant .none 0 default
local macro_rules | `(tactic| walk_at "eval Name") => `(tactic| first
  | refine nm_local rfl rfl (by assumption) (by assumption) ?_)
def fW0 (h : Heap) (v y : Value) : Prop := ∃ (T : Addr) (a b : Int) (ta tb tc : Tok), v = .ref T ∧ h.IsTuple T #[.int a ta, .int b tb] ∧ y = .int a tc
theorem ints_W0 {n : Nat} {h : Heap} : ∀ {vs ys : List Value}, Paired (TupIs (gB n) h) vs ys → ∀ {rows : List (List Nat)}, StrsAre vs (rows.map mkS) → ∀ {zs : List Value}, Paired (fW0 h) ys zs → IntsAre zs (rows.map fun r => ((bestG n r).1 : Int)) := by
  intro vs ys hP
  induction hP with
  | nil =>
    intro rows hv zs hz
    cases hz
    cases rows with
    | nil => exact .nil
    | cons r rows => cases hv
  | cons ht hP ih =>
    intro rows hv zs hz
    cases rows with
    | nil => cases hv
    | cons r rows =>
      cases hz with
      | cons hf hz =>
        obtain ⟨T, its, rfl, ⟨o, ho, hc, k, hd⟩, r', t, a, b, e, rfl⟩ := ht
        obtain ⟨T2, a2, b2, ta, tb, tc, e2, ⟨o2, ho2, _, k2, hd2⟩, rfl⟩ := hf
        injection e2 with e2
        subst e2
        rw [ho] at ho2
        cases Option.some.inj ho2
        rw [hd] at hd2
        injection hd2 with hd2 _
        have hd3 := congrArg Array.toList hd2
        simp at hd3
        rw [List.map_cons] at hv
        rcases hv with _ | ⟨_, t5, hv⟩
        injection e with e _
        cases mkS_inj e
        rw [← hd3.1.1]
        exact .cons _ _ (ih hv hz)
theorem law_W0 {w : World} {A : Around} {s₀ s : Shared} {L D : Addr} {nm : Str} {Q : Value → Shared → Prop} {E : Value → Shared → Prop} {m : Str → Option Value} {news : List (Addr × Obj)} {n : Nat} {vs ys : List Value} {rows : List (List Nat)}
    (hh : A.handled = none) (F : Fr s₀.heap L s.heap m) (N : News s₀.heap L s.heap news) (hm : m "least" = some (.ref D)) (hD : s.heap.IsList D ys.toArray) (hP : Paired (TupIs (gB n) s.heap) vs ys) (hv : StrsAre vs (rows.map mkS)) (hrc : rows.length ≤ 4001)
    (h : ∀ D' h' tk zs, (∀ b o, s.heap.get? b = some o → h'.get? b = some o) → h'.IsList D' zs.toArray → IntsAre zs (rows.map fun r => ((bestG n r).1 : Int)) → Fr s₀.heap L h' m → News s₀.heap L h' news → Q (.ref D') { s with heap := h', toks := tk }) :
    wpAny (model PR w) A (eval compW0 (lawEnv nm L)) Q E s := by
  w_on
  have hyl : ys.length = rows.length := by rw [← hP.length, hv.length, List.length_map]
  refine wpAny_ListComp_free (cl := []) (fun _ => true) (fW0 s.heap) ?hclos ?hcell ?hkind ?hnames ?hx ?_
  case hclos => rfl
  case hcell => decide +kernel
  case hkind => rfl
  case hnames => decide +kernel
  case hx => rfl
  refine nm_local rfl rfl F.ns hm ?_
  refine wpAny_pyIter_list hD ?_
  have hDlt : D < s.heap.objs.size := by obtain ⟨o, ho, _⟩ := hD; exact Heap.lt_size ho
  have Wk := walks_lt (Walks.list (prog := PR) (w := w) (A := A) hh s.heap.objs.size D (Nat.ne_of_lt hDlt) ys.toArray)
  refine ⟨_, _, _, _, _, _, rfl, Wk, by rw [sizeLine_eq, List.size_toArray]; omega, ?_, ?_, ⟨?_, ?_⟩, ?_⟩
  · exact ⟨⟨_, Heap.get?_push_size _ rfl, rfl, rfl⟩, hD.at fun o e => Heap.get?_push_of_some _ e⟩
  · intro b hb
    rw [Heap.size_push]
    rcases List.mem_cons.mp hb with rfl | hb
    · exact Nat.lt_succ_self _
    · rw [List.mem_singleton.mp hb]; exact Nat.lt_succ_of_lt hDlt
  · intro C i v s₃ m₃ E' hC hQ hn hm hk ht
    exact wpAny_tests_nil ⟨rfl, _, _, rfl, fun _ _ e => e⟩
  · intro C i v s₃ m₃ E' hC hQ hp hn hm hk ht
    obtain ⟨hi, hQ⟩ := hQ
    obtain ⟨u, T, its, rfl, ⟨o, ho, hc, k, hd⟩, r, t, a, b, e, rfl⟩ := Paired.right hP v (List.mem_of_getElem? (by simpa using hQ))
    have hT3 : IsTup s₃.heap T #[.int ((bestG n r).1 : Int) a, .int ((bestG n r).2 : Int) b] := ⟨o, hk _ _ (fun q => by
      rw [List.mem_singleton] at q
      have := Heap.lt_size ho
      rw [q] at this; exact absurd this (Nat.lt_irrefl _)) (Heap.get?_push_of_some _ ho), hc, k, hd⟩
    refine wpAny_mono (Q := fun y s₄ => KF (fW0 s.heap) (.ref T) s₃ y s₄) ?_ (fun _ _ z => z) (fun _ _ z => z)
    clear F N hk Wk
    iterate 3 walk1
    refine tup_item hT3 (by decide) (by decide) (j := 0) rfl rfl ?_
    exact ⟨⟨T, _, _, a, b, _, rfl, ⟨o, ho, hc, k, hd⟩, rfl⟩, _, _, rfl, fun _ _ e => e⟩
  · intro D' h' tk zs us hD' hl hpl hul hQ hF hk
    obtain ⟨F₂, n₂, N₂⟩ := comp_news (s₂ := { s with heap := s.heap.push _, toks := _ }) (F.push _) (fun p hp => ⟨Heap.get?_push_of_some _ (N p hp).1, (N p hp).2⟩) (fr_low F _ N) hD' hpl hk
    have hus : us = ys := by
      refine List.ext_getElem? fun j => ?_
      have hul' : us.length = ys.length := by rw [hul, List.size_toArray]
      cases q : us[j]? with
      | some v => have := (hQ j v q).2; simpa using this.symm
      | none => rw [List.getElem?_eq_none_iff] at q; symm; rw [List.getElem?_eq_none_iff]; omega
    have e0 : us.filter (fun _ => true) = ys := by rw [hus]; simp
    rw [e0] at hF
    exact h D' h' tk zs.toList (fun b o e => hk b o (fun q => by
      rw [List.mem_singleton] at q
      have := Heap.lt_size e
      rw [q] at this; exact absurd this (Nat.lt_irrefl _)) (Heap.get?_push_of_some _ e)) (by simpa using hl) (ints_W0 hP hv hF) F₂ (News.sub N₂ fun p hp => .tail _ hp)
def fW1 (h : Heap) (v y : Value) : Prop := ∃ (T : Addr) (a b : Int) (ta tb tc : Tok), v = .ref T ∧ h.IsTuple T #[.int a ta, .int b tb] ∧ y = .int b tc
theorem ints_W1 {n : Nat} {h : Heap} : ∀ {vs ys : List Value}, Paired (TupIs (gB n) h) vs ys → ∀ {rows : List (List Nat)}, StrsAre vs (rows.map mkS) → ∀ {zs : List Value}, Paired (fW1 h) ys zs → IntsAre zs (rows.map fun r => ((bestG n r).2 : Int)) := by
  intro vs ys hP
  induction hP with
  | nil =>
    intro rows hv zs hz
    cases hz
    cases rows with
    | nil => exact .nil
    | cons r rows => cases hv
  | cons ht hP ih =>
    intro rows hv zs hz
    cases rows with
    | nil => cases hv
    | cons r rows =>
      cases hz with
      | cons hf hz =>
        obtain ⟨T, its, rfl, ⟨o, ho, hc, k, hd⟩, r', t, a, b, e, rfl⟩ := ht
        obtain ⟨T2, a2, b2, ta, tb, tc, e2, ⟨o2, ho2, _, k2, hd2⟩, rfl⟩ := hf
        injection e2 with e2
        subst e2
        rw [ho] at ho2
        cases Option.some.inj ho2
        rw [hd] at hd2
        injection hd2 with hd2 _
        have hd3 := congrArg Array.toList hd2
        simp at hd3
        rw [List.map_cons] at hv
        rcases hv with _ | ⟨_, t5, hv⟩
        injection e with e _
        cases mkS_inj e
        rw [← hd3.2.1]
        exact .cons _ _ (ih hv hz)
theorem law_W1 {w : World} {A : Around} {s₀ s : Shared} {L D : Addr} {nm : Str} {Q : Value → Shared → Prop} {E : Value → Shared → Prop} {m : Str → Option Value} {news : List (Addr × Obj)} {n : Nat} {vs ys : List Value} {rows : List (List Nat)}
    (hh : A.handled = none) (F : Fr s₀.heap L s.heap m) (N : News s₀.heap L s.heap news) (hm : m "least" = some (.ref D)) (hD : s.heap.IsList D ys.toArray) (hP : Paired (TupIs (gB n) s.heap) vs ys) (hv : StrsAre vs (rows.map mkS)) (hrc : rows.length ≤ 4001)
    (h : ∀ D' h' tk zs, (∀ b o, s.heap.get? b = some o → h'.get? b = some o) → h'.IsList D' zs.toArray → IntsAre zs (rows.map fun r => ((bestG n r).2 : Int)) → Fr s₀.heap L h' m → News s₀.heap L h' news → Q (.ref D') { s with heap := h', toks := tk }) :
    wpAny (model PR w) A (eval compW1 (lawEnv nm L)) Q E s := by
  w_on
  have hyl : ys.length = rows.length := by rw [← hP.length, hv.length, List.length_map]
  refine wpAny_ListComp_free (cl := []) (fun _ => true) (fW1 s.heap) ?hclos ?hcell ?hkind ?hnames ?hx ?_
  case hclos => rfl
  case hcell => decide +kernel
  case hkind => rfl
  case hnames => decide +kernel
  case hx => rfl
  refine nm_local rfl rfl F.ns hm ?_
  refine wpAny_pyIter_list hD ?_
  have hDlt : D < s.heap.objs.size := by obtain ⟨o, ho, _⟩ := hD; exact Heap.lt_size ho
  have Wk := walks_lt (Walks.list (prog := PR) (w := w) (A := A) hh s.heap.objs.size D (Nat.ne_of_lt hDlt) ys.toArray)
  refine ⟨_, _, _, _, _, _, rfl, Wk, by rw [sizeLine_eq, List.size_toArray]; omega, ?_, ?_, ⟨?_, ?_⟩, ?_⟩
  · exact ⟨⟨_, Heap.get?_push_size _ rfl, rfl, rfl⟩, hD.at fun o e => Heap.get?_push_of_some _ e⟩
  · intro b hb
    rw [Heap.size_push]
    rcases List.mem_cons.mp hb with rfl | hb
    · exact Nat.lt_succ_self _
    · rw [List.mem_singleton.mp hb]; exact Nat.lt_succ_of_lt hDlt
  · intro C i v s₃ m₃ E' hC hQ hn hm hk ht
    exact wpAny_tests_nil ⟨rfl, _, _, rfl, fun _ _ e => e⟩
  · intro C i v s₃ m₃ E' hC hQ hp hn hm hk ht
    obtain ⟨hi, hQ⟩ := hQ
    obtain ⟨u, T, its, rfl, ⟨o, ho, hc, k, hd⟩, r, t, a, b, e, rfl⟩ := Paired.right hP v (List.mem_of_getElem? (by simpa using hQ))
    have hT3 : IsTup s₃.heap T #[.int ((bestG n r).1 : Int) a, .int ((bestG n r).2 : Int) b] := ⟨o, hk _ _ (fun q => by
      rw [List.mem_singleton] at q
      have := Heap.lt_size ho
      rw [q] at this; exact absurd this (Nat.lt_irrefl _)) (Heap.get?_push_of_some _ ho), hc, k, hd⟩
    refine wpAny_mono (Q := fun y s₄ => KF (fW1 s.heap) (.ref T) s₃ y s₄) ?_ (fun _ _ z => z) (fun _ _ z => z)
    clear F N hk Wk
    iterate 3 walk1
    refine tup_item hT3 (by decide) (by decide) (j := 1) rfl rfl ?_
    exact ⟨⟨T, _, _, a, b, _, rfl, ⟨o, ho, hc, k, hd⟩, rfl⟩, _, _, rfl, fun _ _ e => e⟩
  · intro D' h' tk zs us hD' hl hpl hul hQ hF hk
    obtain ⟨F₂, n₂, N₂⟩ := comp_news (s₂ := { s with heap := s.heap.push _, toks := _ }) (F.push _) (fun p hp => ⟨Heap.get?_push_of_some _ (N p hp).1, (N p hp).2⟩) (fr_low F _ N) hD' hpl hk
    have hus : us = ys := by
      refine List.ext_getElem? fun j => ?_
      have hul' : us.length = ys.length := by rw [hul, List.size_toArray]
      cases q : us[j]? with
      | some v => have := (hQ j v q).2; simpa using this.symm
      | none => rw [List.getElem?_eq_none_iff] at q; symm; rw [List.getElem?_eq_none_iff]; omega
    have e0 : us.filter (fun _ => true) = ys := by rw [hus]; simp
    rw [e0] at hF
    exact h D' h' tk zs.toList (fun b o e => hk b o (fun q => by
      rw [List.mem_singleton] at q
      have := Heap.lt_size e
      rw [q] at this; exact absurd this (Nat.lt_irrefl _)) (Heap.get?_push_of_some _ e)) (by simpa using hl) (ints_W1 hP hv hF) F₂ (News.sub N₂ fun p hp => .tail _ hp)
end Mine
end
section
set_option maxRecDepth 100000
set_option maxHeartbeats 400000
set_option linter.unusedVariables false
namespace Mine
theorem anew59 : True := by
  w_top off
  first | walk1 | trivial
open PySem PySem.W PySem.Calls PyProof.Rows
theorem lines_sum {n : Nat} (hn : 4 ≤ n) : ∀ (rows : List (List Nat)), (∀ r ∈ rows, ∀ c ∈ r, OkC c) →
    ((rows.flatMap (lLines n)).length : Int) = (rows.map fun r => ((bestG n r).1 : Int)).sum ∧ (lenS (rows.flatMap (lLines n)) : Int) = (rows.map fun r => ((bestG n r).2 : Int)).sum
  | [], _ => ⟨rfl, rfl⟩
  | r :: rows, h => by
    have ih := lines_sum hn rows fun a ha => h a (.tail _ ha)
    have hb := lines_best hn (h r (.head _))
    have h1 : (lLines n r).length = (bestG n r).1 := congrArg Prod.fst hb
    have h2 : lenS (lLines n r) = (bestG n r).2 := congrArg Prod.snd hb
    rw [List.flatMap_cons, List.length_append, lenS_app, List.map_cons, List.sum_cons, List.map_cons, List.sum_cons, ← h1, ← h2, ← ih.1, ← ih.2]
    exact ⟨by omega, by omega⟩
def TenPost (h₀ : Heap) (L : Addr) (m : Str → Option Value) (news : List (Addr × Obj)) (s₀ s : Shared) (f : Flow) (s' : Shared) : Prop := f = .next ∧ ∃ h' tk, s' = { s₀ with heap := h', toks := tk } ∧ Fr h₀ L h' m ∧ News h₀ L h' news ∧ ∀ b o, s.heap.get? b = some o → h'.get? b = some o
local macro_rules | `(tactic| walk_at "eval Name") => `(tactic| first
  | refine nm_local rfl rfl (Fr.ns (by assumption)) rfl ?_
  | ((with_reducible show wpAny _ _ (eval (PySem.Expr.Name (Str.ofString "len") _) _) _ _ _); refine nm_boot rfl rfl rfl rfl (by assumption) (Fr.keep (by assumption)) (fr_top (by assumption) (by assumption)) (gn_len _) bo_len (by decide) ?_)
  | ((with_reducible show wpAny _ _ (eval (PySem.Expr.Name (Str.ofString "sum") _) _) _ _ _); refine nm_boot rfl rfl rfl rfl (by assumption) (Fr.keep (by assumption)) (fr_top (by assumption) (by assumption)) (gn_sum _) bo_sum (by decide) ?_))
theorem law_10 {w : World} {A : Around} {s₀ s : Shared} {L Ln D : Addr} {nm : Str} {Q : Flow → Shared → Prop} {E : Value → Shared → Prop} {mean mg mb} {m : Str → Option Value} {x : List Nat} {n : Nat} {vs ws ys : List Value} (T : Top vq (looseW vq looseN) mean mg mb s₀.heap)
    (Y : TopH w s₀.heap) (hh : A.handled = none) (hn : 4 ≤ n) (hx : x.length ≤ 4000) (hx8 : ∀ c ∈ x, c < 256)
    (F : Fr s₀.heap L s.heap (over [("lines", .ref Ln), ("least", .ref D)] m)) (N : News s₀.heap L s.heap [(Ln, lst ws 0)]) (hS : StrsAre ws ((linesOf n x).map mkS)) (hv : StrsAre vs ((rowsOf x).map mkS)) (hD : s.heap.IsList D ys.toArray) (hP : Paired (TupIs (gB n) s.heap) vs ys) (e : SameBut' s₀ s)
    (h : ∀ s', Ext s₀ s' → Q (.ret (.bool true)) s') :
    wpAny (model PR w) A (execs ((fBody (stm 22)).drop 10) (lawEnv nm L)) Q E s := by
  w_on
  obtain ⟨hp, tk, rfl⟩ := e
  have hcnt := rowsA_count x.length x [] (Nat.le_refl _)
  have hrc : (rowsOf x).length ≤ 4001 := by unfold rowsOf; simp only [List.length_nil] at hcnt; omega
  have hls := lines_sum hn (rowsOf x) (rows_okc hx8)
  have hwl : ws.length = (linesOf n x).length := by rw [hS.length, List.length_map]
  have hlw := lrows_weight (n := n) hx
  have hwl2 : ws.length ≤ 12100 := by rw [hwl]; exact hlw.2
  have hlw1 : (((linesOf n x).map mkS).map (·.length)).sum + ((linesOf n x).map mkS).length * 64 ≤ 16777216 := hlw.1
  refine wpAny_execs_cons ?_
  refine wpAny_mono (Q := TenPost s₀.heap L (over [("lines", .ref Ln), ("least", .ref D)] m) [(Ln, lst ws 0)] s₀ { s₀ with heap := hp, toks := tk }) (E := E) ?_ ?_ (fun _ _ z => z)
  · clear h
    have hv2 : StrsAre vs ((rowsOf x).map mkS) ∧ True := ⟨hv, trivial⟩
    clear hv
    iterate 13 walk1
    refine law_W0 (n := n) (ys := ys) (vs := vs) (rows := rowsOf x) hh F N rfl hD hP hv2.1 hrc ?_
    intro D2 h2 tk2 zs k2 hD2 hi2 F2 N2
    clear F N
    dsimp only at k2 hD2 F2 N2 ⊢
    iterate 1 walk1
    refine sum_keep hh hD2 hi2 ?_
    intro h3 tk3 t3 k3
    have F3 := F2.keeps k3
    have N3 := N2.grown k3
    clear F2 N2
    dsimp only at k3 F3 N3 ⊢
    have hne : (((List.map mkS (linesOf n x)).length : Nat) : Int) = (List.map (fun r => ((bestG n r).1 : Int)) (rowsOf x)).sum := by rw [List.length_map]; exact hls.1
    rw [← hne]
    repeat' walk1
    · rename_i hf
      exfalso
      simp at hf
    · exact ⟨rfl, _, _, rfl, F3, N3, fun b o e => k3 b o (k2 b o e)⟩
  rintro f s' ⟨rfl, h1, tk1, rfl, F1, N1, k1⟩
  have hD1 : h1.IsList D ys.toArray := hD.at fun o e => k1 _ o e
  have hP1 := tup_keep hP k1
  clear F N hD hP
  dsimp only at k1 ⊢
  refine wpAny_execs_cons ?_
  have hv2 : StrsAre vs ((rowsOf x).map mkS) ∧ True := ⟨hv, trivial⟩
  clear hv
  iterate 13 walk1
  refine join_listC (items := ws.toArray) (ys := (linesOf n x).map mkS) ⟨_, (N1 _ (.head _)).1, rfl, _, rfl⟩ (by simpa using hS) (by decide) hlw1 fun t' k' => ?_
  have o_nil : Str.ofString "" = mkS [] := by decide +kernel
  rw [o_nil, join_nil]
  have hfl := lenS_flat (linesOf n x)
  have hfm := mkS_length (linesOf n x).flatten
  have hfb : (mkS (linesOf n x).flatten).length ≤ 1000000 := by
    have hc := lrows_count n (rowsOf x)
    have hc2 : lenS (linesOf n x) ≤ 4 * rowSum (rowsOf x) + 4 * (rowsOf x).length := hc.2
    have h3 : rowSum (rowsOf x) ≤ 4000 := by unfold rowsOf; simp only [List.length_nil] at hcnt; omega
    rw [hfm, hfl]; omega
  dsimp only
  iterate 6 walk1
  refine law_W1 (n := n) (ys := ys) (vs := vs) (rows := rowsOf x) hh F1 N1 rfl hD1 hP1 hv2.1 hrc ?_
  intro D2 h2 tk2 zs k2 hD2 hi2 F2 N2
  clear F1 N1
  dsimp only at k2 hD2 F2 N2 ⊢
  walk1
  refine sum_keep hh hD2 hi2 ?_
  intro h3 tk3 t3 k3
  have F3 := F2.keeps k3
  clear F2 N2
  dsimp only at k3 F3 ⊢
  have hne : (((mkS (linesOf n x).flatten).length : Nat) : Int) = (List.map (fun r => ((bestG n r).2 : Int)) (rowsOf x)).sum := by rw [hfm, hfl]; exact hls.2
  rw [← hne]
  repeat' walk1
  try rw [beq_self_eq_true]
  try rw [decide_eq_true rfl]
  exact h _ ⟨F3.keep, ⟨_, _, rfl⟩⟩
end Mine
end
section
set_option maxRecDepth 100000
set_option maxHeartbeats 4000000
namespace Mine
open PySem PySem.W PySem.Calls PyProof.Rows
theorem hw1 : PySem.Challenge.rw_dp0020_02.row.toRowW.promised := by w_witness2
theorem top1 (walk : WalkO vq looseN (fun _ _ => True) (fun w h => ∀ b o, (Hf w.params).get? b = some o → h.get? b = some o) PySem.Challenge.rw_dp0020_02.row.toRowW
      { name := "law", params := fArgs (stm 22), body := fBody (stm 22), scope := fScope (stm 22), pos := ⟨100, 0, 120, 64⟩ } [] fun f vs => PySem.call f vs) : PySem.Challenge.rw_dp0020_02.Holds := by
  w_on
  o_law
  refine holds_open (q := vq) (loose := looseN) (Xt := fun s => recOk [] s) (XP := fun _ _ => True) (Yf := fun s => s.heap) (Ya := fun w => Hf w.params)
    (YP := fun w h => ∀ b o, (Hf w.params).get? b = some o → h.get? b = some o) (N := 34972) left1 (fun w s e b o h => e ▸ h) (fun w h h' y k b o e => k b o (y b o e)) (fun _ _ => trivial) (fun _ _ _ _ _ => trivial)
    (by kernel_rfl) (by kernel_rfl) (by kernel_rfl) (fun s e => recFacts_of e) (by rfl) (by assumption) (by decide +kernel) ⟨rfl, rfl, rfl, rfl, rfl, by decide +kernel⟩ hw1 walk
end Mine
end
section
set_option maxRecDepth 100000
set_option maxHeartbeats 4000000
set_option linter.unusedVariables false
namespace Mine
open PySem PySem.W PySem.Calls PyProof.Rows
theorem law_call {w : World} {s : Shared} {Q : Value → Shared → Prop} {E : Value → Shared → Prop} {mean mg mb} {l : Addr} {vs : List Value} {ns : List Int} (T : Top vq (looseW vq looseN) mean mg mb s.heap) (Y : TopH w s.heap)
    (hl : s.heap.IsList l vs.toArray) (hi : IntsAre vs ns) (hlen : vs.length ≤ 63) (h : ∀ s', Ext s s' → Q (.bool true) s') : wpAny (model PR w) callerA (call (.ref 72) [.ref l]) Q E s := by
  have K := below_caller s.heap
  have hr : callerA.depth + 2 < recursionLimit := by decide +kernel
  refine wpAny_call (codeAny_call_cells (a := 72) (body := fBody (stm 22)) (binds := [("script", .ref l)]) (by omega) (Y 72 _ rfl) rfl T.nolimit ⟨71, _, _, _, rfl, Y 71 _ rfl, rfl, rfl⟩ rfl rfl rfl (fun x hx => .inl (locs rfl x hx)) (fun s₁ x => ?_) rfl rfl rfl)
  have hc := x.cell "length" (s.heap.objs.size + 1) rfl
  obtain ⟨oc, hoc, hocd⟩ := hc
  have hhD : (callerA.deeper (lawEnv "law" s.heap.objs.size)).handled = none := rfl
  have hrD : (callerA.deeper (lawEnv "law" s.heap.objs.size)).depth < recursionLimit := by show callerA.depth + 1 < _; omega
  have F : Fr s.heap s.heap.objs.size s₁.heap (mp [("script", .ref l)]) := by
    have F0 : Fr s.heap s.heap.objs.size s₁.heap _ := ⟨x.toInCall.ns, x.toInCall.keep, Nat.le_refl _⟩
    have e : (bindL (lawEnv "law" s.heap.objs.size).kindOf [("script", .ref l)] fun _ => none) = mp [("script", .ref l)] := bind_one "script" _ rfl
    rw [← e]; exact F0
  have N : News s.heap s.heap.objs.size s₁.heap [(s.heap.objs.size + 1, oc)] := by
    intro p hp
    rw [List.mem_singleton.mp hp]
    refine ⟨hoc, by simp, ?_⟩
    cases hq : s.heap.get? (s.heap.objs.size + 1) with
    | none => rfl
    | some o' => exact (Nat.lt_irrefl _ (Nat.lt_trans (Nat.lt_succ_self _) (Heap.lt_size hq))).elim
  have hoc0 : oc.data = .cell none := hocd
  have e := x.toInCall.same
  refine wpAny_mono (Q := fun f s' => f = .ret (.bool true) ∧ Ext s s') (E := fun _ _ => False) ?_ (fun f s' q => ?_) (fun _ _ z => z.elim)
  · show wpAny (model PR w) (callerA.deeper (lawEnv "law" s.heap.objs.size)) (execs (fBody (stm 22)) (lawEnv "law" s.heap.objs.size)) _ _ s₁
    refine law_p0 T Y hhD F N e hl hi hlen fun s2 m2 hd th ee te e2 t2 hee F2 hm2 N2 => ?_
    refine law_p1 T Y hhD F2 hm2 N2 hoc0 e2 t2 fun s3 oc3 n tn e3 t3 hn hn1 hoc3 F3 N3 => ?_
    refine law_p2 (ee := ee) (te := te) T Y hhD hrD hl hi hlen F3 (fun p hp => ?_) N3 e3 t3 fun s4 m4 x tx e4 t4 hx hx8 F4 hm4 N4 => ?_
    · rcases List.mem_cons.mp hp with rfl | hp
      · exact hm2 _ (.head _)
      · rw [List.mem_singleton.mp hp]; exact hm2 _ (.tail _ (.tail _ (.head _)))
    have hE : PassesOwn (model PR w) (callerA.deeper (lawEnv "law" s.heap.objs.size)) (lawEnv "law" s.heap.objs.size) (fun _ _ => False) := by passes_own
    have hu : (callerA.deeper (lawEnv "law" s.heap.objs.size)).units + 64 < cLine := by
      have h0 : callerA.units + 3 + 64 < cLine := by decide +kernel
      exact h0
    have hu4 : (callerA.deeper (lawEnv "law" s.heap.objs.size)).units + 4 < cLine := by omega
    have hu0 : (callerA.deeper (lawEnv "law" s.heap.objs.size)).units < cLine := by omega
    have hrD1 : (callerA.deeper (lawEnv "law" s.heap.objs.size)).depth + 1 < recursionLimit := by show callerA.depth + 1 + 1 < _; omega
    refine law_d T Y hhD (fr_over F4 hm4) N4 e4 hx t4 fun s5 m5 R vs' ep e5 t5 F5 hm5 N5 hv => ?_
    refine law_5 (n := n) T Y hhD hrD1 hn hoc3 F5 hm5 N5 e5 t5 hx hx8 hee fun s6 m6 tt Ln ws e6 t6 F6 hm6 N6 hS => ?_
    refine law_7 T Y hE hhD hrD hu hn hn1 hoc3 F6 hm6 N6 hS e6 t6 hx8 fun s7 m7 e7 t7 F7 hm7 N7 => ?_
    refine law_8 (tn := tn) T Y hhD hrD hu0 hn hx hx8 hee F7 hm7 N7 hv e7 t7 fun s8 e8 F8 N8 => ?_
    refine law_9 T Y hhD hrD hu4 hn hn1 hx hx8 hoc3 F8 hm7 N8 hv e8 fun s9 D ys e9 F9 N9 hD hP => ?_
    refine law_10 T Y hhD hn hx hx8 (fr_over F9 ?_) N9 hS hv hD hP e9 fun s' X => ⟨rfl, X⟩
    refine List.forall_mem_cons.mpr ⟨?_, List.forall_mem_cons.mpr ⟨rfl, List.forall_mem_nil _⟩⟩
    exact hm7 ("lines", .ref Ln) (.tail _ (.tail _ (.tail _ (.head _))))
  · obtain ⟨rfl, X⟩ := q
    exact h s' X
theorem walk2 : WalkO vq looseN (fun _ _ => True) (fun w h => ∀ b o, (Hf w.params).get? b = some o → h.get? b = some o) PySem.Challenge.rw_dp0020_02.row.toRowW
      { name := "law", params := fArgs (stm 22), body := fBody (stm 22), scope := fScope (stm 22), pos := ⟨100, 0, 120, 64⟩ } [] fun f vs => PySem.call f vs := by
  w_on
  intro w s₀ s₁ mg mb G Y fa o pm cd doc dV kV ho hd hcd hD hmg hg args vals as hpre hlay hrd hwl hlo
  refine Ground.open G ?_
  intro T B D TE TW
  wrow_args hpre hlay hrd hwl hlo
  have hmg' : gN w.params "law" = some (.ref fa) := by
    rw [(TopH.ns (w := w) Y).eq_nsMap, ← Heap.Ns.eq_nsMap T.g]; exact hmg
  rw [g_law] at hmg'
  obtain rfl : 72 = fa := by injection hmg' with q; injection q
  rename_i ns _ _ _ _ _ _ _ l vs _ hL _ _ _ hI _ hlen _
  refine law_call T Y hL hI (by rw [hI.length]; omega) fun s' X => ?_
  obtain ⟨k, hp', tk, rfl⟩ := X
  refine GoodW.toG ⟨.inl ⟨.bool true, .bool true, [], rfl, fun _ => rfl, .bool true, ?_, fun _ => ⟨.nil, fun _ h => nomatch h⟩⟩, k, rfl, hg⟩
  exact postW_of (by wrow_shape) (by wtm_val) (by first | rfl | (str_meet; first | done | w_fin))
theorem holds2 : PySem.Challenge.rw_dp0020_02.Holds := top1 walk2
end Mine
end
theorem PySem.Challenge.cw_dp0020_02_holds : PySem.Challenge.rw_dp0020_02.Holds :=
  Mine.holds2
