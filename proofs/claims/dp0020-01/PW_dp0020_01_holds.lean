import PyProof.Rows.All
import Wide.All
import OpenK.AllK
import Wide.FinOn
import PySem.Challenge.RW_dp0020_01
set_option Elab.async false
section
set_option maxRecDepth 100000
set_option maxHeartbeats 4000000
set_option linter.unusedVariables false
namespace Mine
open PySem PySem.W PySem.Calls PyProof.Rows
noncomputable def mixL (k : Nat) : List Nat → List Value → List Value → List Value
  | r :: rs, x :: xs, y :: ys => (match Nat.ble r k with | true => y | false => x) :: mixL k rs xs ys
  | _, _, _ => []
theorem goT {p : Program} {w : World} {n b k : Nat} {a : Option Value} {s : SharedT} {t : Thread} {r : Option (SharedT × Thread)}
    (h : PySem.W.Fast.tw10295753902157049106 PySem.W.Fast.tw14364793385576792824 p w n a b k s t = r) : segGoT treeTable p w n a b k s t = r := by
  rw [PySem.W.Fast.te10295753902157049106, PySem.W.Fast.te14364793385576792824]; exact h
theorem runT {p : Program} {w : World} {n b k : Nat} {a : Option Value} {s : SharedT} {t : Thread} {r : Option (Flow × SharedT × Code × Pos)}
    (h : PySem.W.Fast.tw10110043849684766642 PySem.W.Fast.tw14364793385576792824 p w n a b k s t = r) : segRunT treeTable p w n a b k s t = r := by
  rw [PySem.W.Fast.te10110043849684766642, PySem.W.Fast.te14364793385576792824]; exact h
theorem startT {p : Program} {w : World} {n b k N : Nat} {a : Option Value} {s s' : SharedT} {l : List Stmt} {env : Env} {c : Code} {pos : Pos} {B : List Frame} {T : Thread} {r : Flow × Shared × Code × Pos}
    (h : PySem.W.Fast.tw10295753902157049106 PySem.W.Fast.tw14364793385576792824 p w n a b k s ⟨(PySem.W.Fast.tw12563942051412417395 l env).wrap doneF deadEnd id id, c, pos, B⟩ = some (s', T))
    (g : segRun treeTable p w n a b N s'.abs T = some r) : segRun treeTable p w n a b (k + N) s.abs (piecesOf l env c pos B) = some r := by
  refine seg_go (s' := s'.abs) (t' := T) (segGo_of (goT ?_)) g
  rw [← h, ← PySem.W.Fast.te12563942051412417395]
theorem startR {p : Program} {w : World} {n b k : Nat} {a : Option Value} {s s' : SharedT} {l : List Stmt} {env : Env} {c c' : Code} {pos q : Pos} {B : List Frame} {f : Flow}
    (h : PySem.W.Fast.tw10110043849684766642 PySem.W.Fast.tw14364793385576792824 p w n a b k s ⟨(PySem.W.Fast.tw12563942051412417395 l env).wrap doneF deadEnd id id, c, pos, B⟩ = some (f, s', c', q)) :
    segRun treeTable p w n a b k s.abs (piecesOf l env c pos B) = some (f, s'.abs, c', q) := by
  refine segRun_of (runT ?_)
  rw [← h, ← PySem.W.Fast.te12563942051412417395]
theorem segRun_mono {tb : String → Option Builtin} {p : Program} {w : World} {n₀ : Nat} {ann : Option Value} {b : Nat} (k : Nat) : ∀ (n : Nat) (s : Shared) (t : Thread) (r : Flow × Shared × Code × Pos),
    segRun tb p w n₀ ann b n s t = some r → segRun tb p w n₀ ann b (n + k) s t = some r
  | 0, _, _, _, h => by simp [segRun] at h
  | n + 1, s, t, r, h => by
    rw [show n + 1 + k = n + k + 1 by omega]
    unfold segRun at h ⊢
    cases he : endAt b t with
    | some f => rw [he] at h; exact h
    | none =>
      rw [he] at h
      cases hk : stepOk n₀ ann t with
      | false => rw [hk] at h; cases h
      | true =>
        rw [hk] at h
        cases hs : step (denote tb) p w s t with
        | halt o s₂ => rw [hs] at h; cases h
        | go s₂ t₂ => rw [hs] at h; exact segRun_mono k n s₂ t₂ r h
theorem segRun_up {tb : String → Option Builtin} {p : Program} {w : World} {n₀ : Nat} {ann : Option Value} {b n m : Nat} {s : Shared} {t : Thread} {r : Flow × Shared × Code × Pos} (hm : n ≤ m)
    (h : segRun tb p w n₀ ann b n s t = some r) : segRun tb p w n₀ ann b m s t = some r := by
  have := segRun_mono (m - n) n s t r h
  rwa [show n + (m - n) = m by omega] at this
abbrev PR : Program := PySem.Challenge.pw_dp0020_01
noncomputable def stm (i : Nat) : Stmt := match PR.main.body[i]? with | some s => s | none => .Pass default
noncomputable def fArgs : Stmt → Arguments | .FunctionDef _ a _ _ _ _ _ _ _ _ => a | _ => default
noncomputable def fBody : Stmt → List Stmt | .FunctionDef _ _ b _ _ _ _ _ _ _ => b | _ => []
noncomputable def fScope : Stmt → Scope | .FunctionDef _ _ _ _ _ _ s _ _ _ => s | _ => default
noncomputable def env0 : Env := { scope := PR.main.scope, locals := mainNs, globals := mainNs, cells := [], code := .ref 13, frame := some 14 }
noncomputable def cE : Code := .body (behindTheImports PR) env0
abbrev ann0 : Option Value := (some (.ref 6))
abbrev qE : Pos := ⟨0, 0, 0, 0⟩
abbrev B0 : List Frame := [topFrame qE]
noncomputable def life0 : Life := (boot_heap (aWorld 1).params).life
noncomputable def st0 (w : World) (os : OsState) : Shared := ⟨boot_heap w.params, Array.mk [], boot_drawn, boot_toks, os⟩
noncomputable def o11_0 (P : Params) : Obj := ⟨.type "tuple", none, .seq ([]).toArray 0, #[]⟩
noncomputable def o12_1 (P : Params) : Obj := ⟨.none, none, .fields ([]).toArray, #[]⟩
noncomputable def o13_2 (P : Params) : Obj := ⟨.type "code", none, .fields ([.str ⟨#[60, 109, 111, 100, 117, 108, 101, 62]⟩ 182, .str ⟨#[60, 109, 111, 100, 117, 108, 101, 62]⟩ 183, .str ⟨#[47, 99, 108, 97, 105, 109, 47, 99, 117, 116, 46, 112, 121]⟩ 184, .int 1 0, .int 0 0, .int 0 0, .int 0 0, .int 0 0, .ref 11, .bool false, .int 181 0, .ref 12, .none, .none, .none, .none, .int 185 0, .int 1 0, .str ⟨#[47, 99, 108, 97, 105, 109, 47, 99, 117, 116, 46, 112, 121]⟩ 186]).toArray, #[]⟩
noncomputable def o14_3 (P : Params) : Obj := ⟨.type "frame", none, .plain, #[(some (.ref 13)), (some (.ref 3)), (some (.ref 3)), none, (some (.str ⟨#[95, 95, 109, 97, 105, 110, 95, 95]⟩ 164)), none, (some (.ref 0))]⟩
noncomputable def tr_sA (P : Params) : BT := (.node (boot_o_0 P) (.node (boot_o_1 P) (.node (boot_o_3 P) (.node (boot_o_7 P) .nil .nil) (.node (o11_0 P) .nil .nil)) (.node (boot_o_5 P) (.node (boot_o_9 P) .nil .nil) (.node (o13_2 P) .nil .nil))) (.node (boot_o_2 P) (.node (boot_o_4 P) (.node (boot_o_8 P) .nil .nil) (.node (o12_1 P) .nil .nil)) (.node (boot_o_6 P) (.node (boot_o_10 P) .nil .nil) (.node (o14_3 P) .nil .nil))))
noncomputable def sA (w : World) (os : OsState) : SharedT := ⟨tr_sA w.params, 15, life0, Array.mk [], boot_drawn, 187, os⟩
theorem pre1 (w : World) (os : OsState) : topGo treeTable PR w 11 ann0 12 (st0 w os) (topStub PR) = some ((sA w os).abs, ⟨denote treeTable cE, cE, ⟨0, 0, 0, 0⟩, B0⟩) := by
  have h : PySem.W.Fast.tw15667345088766844465 PySem.W.Fast.tw14364793385576792824 PR w 11 ann0 12 (st0 w os) (topStub PR) = some ((sA w os).abs, ⟨PySem.W.Fast.tw11892475500146522536 PySem.W.Fast.tw14364793385576792824 cE, cE, ⟨0, 0, 0, 0⟩, B0⟩) := by kernel_rfl
  rw [PySem.W.Fast.te15667345088766844465, PySem.W.Fast.te14364793385576792824, PySem.W.Fast.te11892475500146522536]; exact h
theorem block1 (w : World) (os : OsState) : segRun treeTable PR w 11 ann0 1 1 (sA w os).abs (blockOf (behindTheImports PR) env0 cE ⟨0, 0, 0, 0⟩ B0) = some (.next, (sA w os).abs, cE, ⟨0, 0, 0, 0⟩) := by kernel_rfl
noncomputable def o3_4 (P : Params) : Obj := ⟨.type "dict", none, .dict ([⟨PyData.keyHash P ⟨#[95, 95, 110, 97, 109, 101, 95, 95]⟩, .str ⟨#[95, 95, 110, 97, 109, 101, 95, 95]⟩ 165, .str ⟨#[95, 95, 109, 97, 105, 110, 95, 95]⟩ 164⟩, ⟨PyData.keyHash P ⟨#[95, 95, 100, 111, 99, 95, 95]⟩, .str ⟨#[95, 95, 100, 111, 99, 95, 95]⟩ 166, .none⟩, ⟨PyData.keyHash P ⟨#[95, 95, 112, 97, 99, 107, 97, 103, 101, 95, 95]⟩, .str ⟨#[95, 95, 112, 97, 99, 107, 97, 103, 101, 95, 95]⟩ 167, .none⟩, ⟨PyData.keyHash P ⟨#[95, 95, 108, 111, 97, 100, 101, 114, 95, 95]⟩, .str ⟨#[95, 95, 108, 111, 97, 100, 101, 114, 95, 95]⟩ 168, .builtin "__main__.__loader__#opaque"⟩, ⟨PyData.keyHash P ⟨#[95, 95, 115, 112, 101, 99, 95, 95]⟩, .str ⟨#[95, 95, 115, 112, 101, 99, 95, 95]⟩ 169, .none⟩, ⟨PyData.keyHash P ⟨#[95, 95, 97, 110, 110, 111, 116, 97, 116, 105, 111, 110, 115, 95, 95]⟩, .str ⟨#[95, 95, 97, 110, 110, 111, 116, 97, 116, 105, 111, 110, 115, 95, 95]⟩ 170, .ref 6⟩, ⟨PyData.keyHash P ⟨#[95, 95, 98, 117, 105, 108, 116, 105, 110, 115, 95, 95]⟩, .str ⟨#[95, 95, 98, 117, 105, 108, 116, 105, 110, 115, 95, 95]⟩ 171, .ref 4⟩, ⟨PyData.keyHash P ⟨#[95, 95, 102, 105, 108, 101, 95, 95]⟩, .str ⟨#[95, 95, 102, 105, 108, 101, 95, 95]⟩ 173, .str ⟨#[47, 99, 108, 97, 105, 109, 47, 99, 117, 116, 46, 112, 121]⟩ 172⟩, ⟨PyData.keyHash P ⟨#[95, 95, 99, 97, 99, 104, 101, 100, 95, 95]⟩, .str ⟨#[95, 95, 99, 97, 99, 104, 101, 100, 95, 95]⟩ 174, .none⟩, ⟨PyData.keyHash P ⟨#[67, 82, 76, 70]⟩, .str ⟨#[67, 82, 76, 70]⟩ 188, .str ⟨#[13, 10]⟩ 187⟩, ⟨PyData.keyHash P ⟨#[78, 76]⟩, .str ⟨#[78, 76]⟩ 190, .str ⟨#[10]⟩ 189⟩]).toArray 11, #[]⟩
noncomputable def tr_s1 (P : Params) : BT := (.node (boot_o_0 P) (.node (boot_o_1 P) (.node (o3_4 P) (.node (boot_o_7 P) .nil .nil) (.node (o11_0 P) .nil .nil)) (.node (boot_o_5 P) (.node (boot_o_9 P) .nil .nil) (.node (o13_2 P) .nil .nil))) (.node (boot_o_2 P) (.node (boot_o_4 P) (.node (boot_o_8 P) .nil .nil) (.node (o12_1 P) .nil .nil)) (.node (boot_o_6 P) (.node (boot_o_10 P) .nil .nil) (.node (o14_3 P) .nil .nil))))
noncomputable def s1 (w : World) (os : OsState) : SharedT := ⟨tr_s1 w.params, 15, life0, Array.mk [], boot_drawn, 191, os⟩
noncomputable def gr0_sts : List Stmt := [stm 0, stm 1]
theorem gr0_q (w : World) (os : OsState) : PySem.W.Fast.tw10110043849684766642 PySem.W.Fast.tw14364793385576792824 PR w 11 ann0 1 19 (sA w os) ⟨(PySem.W.Fast.tw12563942051412417395 gr0_sts env0).wrap doneF deadEnd id id, cE, ⟨0, 0, 0, 0⟩, B0⟩ = some (.next, s1 w os, cE, ⟨2, 0, 2, 2⟩) := by kernel_rfl
def gr0_P (w : World) : Prop := ∀ os : OsState, segRun treeTable PR w 11 ann0 1 19 (sA w os).abs (piecesOf gr0_sts env0 cE ⟨0, 0, 0, 0⟩ B0) = some (.next, (s1 w os).abs, cE, ⟨2, 0, 2, 2⟩)
theorem gr0_all (w : World) : gr0_P w := (fun os => startR (gr0_q w os))
noncomputable def o15_5 (P : Params) : Obj := ⟨.type "range", none, .fields ([.int 0 192, .int 256 191, .int 1 193]).toArray, #[]⟩
noncomputable def o16_6 (P : Params) : Obj := ⟨.type "range_iterator", none, .fields ([.int 1 0, .int 255 0, .int 1 0]).toArray, #[]⟩
noncomputable def o17_7 (P : Params) : Obj := ⟨.type "list", none, .seq ([.str ⟨#[61, 48, 48]⟩ 197]).toArray 1, #[]⟩
noncomputable def o18_8 (P : Params) : Obj := ⟨.type "dict", none, .dict ([⟨PyData.keyHash P ⟨#[99]⟩, .str ⟨#[99]⟩ 195, .int 0 194⟩]).toArray 1, #[]⟩
noncomputable def tr_lp2 (P : Params) (a16 a17 a18 : Obj) : BT := (.node (boot_o_0 P) (.node (boot_o_1 P) (.node (o3_4 P) (.node (boot_o_7 P) (.node (o15_5 P) .nil .nil) .nil) (.node (o11_0 P) .nil .nil)) (.node (boot_o_5 P) (.node (boot_o_9 P) (.node (a17) .nil .nil) .nil) (.node (o13_2 P) .nil .nil))) (.node (boot_o_2 P) (.node (boot_o_4 P) (.node (boot_o_8 P) (.node (a16) .nil .nil) .nil) (.node (o12_1 P) .nil .nil)) (.node (boot_o_6 P) (.node (boot_o_10 P) (.node (a18) .nil .nil) .nil) (.node (o14_3 P) .nil .nil))))
noncomputable def lp2_y17 : List Value := [.str ⟨#[61, 48, 48]⟩ 197, .str ⟨#[61, 48, 49]⟩ 201, .str ⟨#[61, 48, 50]⟩ 205, .str ⟨#[61, 48, 51]⟩ 209, .str ⟨#[61, 48, 52]⟩ 213, .str ⟨#[61, 48, 53]⟩ 217, .str ⟨#[61, 48, 54]⟩ 221, .str ⟨#[61, 48, 55]⟩ 225, .str ⟨#[61, 48, 56]⟩ 229, .str ⟨#[61, 48, 57]⟩ 233, .str ⟨#[61, 48, 65]⟩ 237, .str ⟨#[61, 48, 66]⟩ 241, .str ⟨#[61, 48, 67]⟩ 245, .str ⟨#[61, 48, 68]⟩ 249, .str ⟨#[61, 48, 69]⟩ 253, .str ⟨#[61, 48, 70]⟩ 257, .str ⟨#[61, 49, 48]⟩ 261, .str ⟨#[61, 49, 49]⟩ 265, .str ⟨#[61, 49, 50]⟩ 269, .str ⟨#[61, 49, 51]⟩ 273, .str ⟨#[61, 49, 52]⟩ 277, .str ⟨#[61, 49, 53]⟩ 281, .str ⟨#[61, 49, 54]⟩ 285, .str ⟨#[61, 49, 55]⟩ 289, .str ⟨#[61, 49, 56]⟩ 293, .str ⟨#[61, 49, 57]⟩ 297, .str ⟨#[61, 49, 65]⟩ 301, .str ⟨#[61, 49, 66]⟩ 305, .str ⟨#[61, 49, 67]⟩ 309, .str ⟨#[61, 49, 68]⟩ 313, .str ⟨#[61, 49, 69]⟩ 317, .str ⟨#[61, 49, 70]⟩ 321, .str ⟨#[61, 50, 48]⟩ 325, .str ⟨#[61, 50, 49]⟩ 329, .str ⟨#[61, 50, 50]⟩ 333, .str ⟨#[61, 50, 51]⟩ 337, .str ⟨#[61, 50, 52]⟩ 341, .str ⟨#[61, 50, 53]⟩ 345, .str ⟨#[61, 50, 54]⟩ 349, .str ⟨#[61, 50, 55]⟩ 353, .str ⟨#[61, 50, 56]⟩ 357, .str ⟨#[61, 50, 57]⟩ 361, .str ⟨#[61, 50, 65]⟩ 365, .str ⟨#[61, 50, 66]⟩ 369, .str ⟨#[61, 50, 67]⟩ 373, .str ⟨#[61, 50, 68]⟩ 377, .str ⟨#[61, 50, 69]⟩ 381, .str ⟨#[61, 50, 70]⟩ 385, .str ⟨#[61, 51, 48]⟩ 389, .str ⟨#[61, 51, 49]⟩ 393, .str ⟨#[61, 51, 50]⟩ 397, .str ⟨#[61, 51, 51]⟩ 401, .str ⟨#[61, 51, 52]⟩ 405, .str ⟨#[61, 51, 53]⟩ 409, .str ⟨#[61, 51, 54]⟩ 413, .str ⟨#[61, 51, 55]⟩ 417, .str ⟨#[61, 51, 56]⟩ 421, .str ⟨#[61, 51, 57]⟩ 425, .str ⟨#[61, 51, 65]⟩ 429, .str ⟨#[61, 51, 66]⟩ 433, .str ⟨#[61, 51, 67]⟩ 437, .str ⟨#[61, 51, 68]⟩ 441, .str ⟨#[61, 51, 69]⟩ 445, .str ⟨#[61, 51, 70]⟩ 449, .str ⟨#[61, 52, 48]⟩ 453, .str ⟨#[61, 52, 49]⟩ 457, .str ⟨#[61, 52, 50]⟩ 461, .str ⟨#[61, 52, 51]⟩ 465, .str ⟨#[61, 52, 52]⟩ 469, .str ⟨#[61, 52, 53]⟩ 473, .str ⟨#[61, 52, 54]⟩ 477, .str ⟨#[61, 52, 55]⟩ 481, .str ⟨#[61, 52, 56]⟩ 485, .str ⟨#[61, 52, 57]⟩ 489, .str ⟨#[61, 52, 65]⟩ 493, .str ⟨#[61, 52, 66]⟩ 497, .str ⟨#[61, 52, 67]⟩ 501, .str ⟨#[61, 52, 68]⟩ 505, .str ⟨#[61, 52, 69]⟩ 509, .str ⟨#[61, 52, 70]⟩ 513, .str ⟨#[61, 53, 48]⟩ 517, .str ⟨#[61, 53, 49]⟩ 521, .str ⟨#[61, 53, 50]⟩ 525, .str ⟨#[61, 53, 51]⟩ 529, .str ⟨#[61, 53, 52]⟩ 533, .str ⟨#[61, 53, 53]⟩ 537, .str ⟨#[61, 53, 54]⟩ 541, .str ⟨#[61, 53, 55]⟩ 545, .str ⟨#[61, 53, 56]⟩ 549, .str ⟨#[61, 53, 57]⟩ 553, .str ⟨#[61, 53, 65]⟩ 557, .str ⟨#[61, 53, 66]⟩ 561, .str ⟨#[61, 53, 67]⟩ 565, .str ⟨#[61, 53, 68]⟩ 569, .str ⟨#[61, 53, 69]⟩ 573, .str ⟨#[61, 53, 70]⟩ 577, .str ⟨#[61, 54, 48]⟩ 581, .str ⟨#[61, 54, 49]⟩ 585, .str ⟨#[61, 54, 50]⟩ 589, .str ⟨#[61, 54, 51]⟩ 593, .str ⟨#[61, 54, 52]⟩ 597, .str ⟨#[61, 54, 53]⟩ 601, .str ⟨#[61, 54, 54]⟩ 605, .str ⟨#[61, 54, 55]⟩ 609, .str ⟨#[61, 54, 56]⟩ 613, .str ⟨#[61, 54, 57]⟩ 617, .str ⟨#[61, 54, 65]⟩ 621, .str ⟨#[61, 54, 66]⟩ 625, .str ⟨#[61, 54, 67]⟩ 629, .str ⟨#[61, 54, 68]⟩ 633, .str ⟨#[61, 54, 69]⟩ 637, .str ⟨#[61, 54, 70]⟩ 641, .str ⟨#[61, 55, 48]⟩ 645, .str ⟨#[61, 55, 49]⟩ 649, .str ⟨#[61, 55, 50]⟩ 653, .str ⟨#[61, 55, 51]⟩ 657, .str ⟨#[61, 55, 52]⟩ 661, .str ⟨#[61, 55, 53]⟩ 665, .str ⟨#[61, 55, 54]⟩ 669, .str ⟨#[61, 55, 55]⟩ 673, .str ⟨#[61, 55, 56]⟩ 677, .str ⟨#[61, 55, 57]⟩ 681, .str ⟨#[61, 55, 65]⟩ 685, .str ⟨#[61, 55, 66]⟩ 689, .str ⟨#[61, 55, 67]⟩ 693, .str ⟨#[61, 55, 68]⟩ 697, .str ⟨#[61, 55, 69]⟩ 701, .str ⟨#[61, 55, 70]⟩ 705, .str ⟨#[61, 56, 48]⟩ 709, .str ⟨#[61, 56, 49]⟩ 713, .str ⟨#[61, 56, 50]⟩ 717, .str ⟨#[61, 56, 51]⟩ 721, .str ⟨#[61, 56, 52]⟩ 725, .str ⟨#[61, 56, 53]⟩ 729, .str ⟨#[61, 56, 54]⟩ 733, .str ⟨#[61, 56, 55]⟩ 737, .str ⟨#[61, 56, 56]⟩ 741, .str ⟨#[61, 56, 57]⟩ 745, .str ⟨#[61, 56, 65]⟩ 749, .str ⟨#[61, 56, 66]⟩ 753, .str ⟨#[61, 56, 67]⟩ 757, .str ⟨#[61, 56, 68]⟩ 761, .str ⟨#[61, 56, 69]⟩ 765, .str ⟨#[61, 56, 70]⟩ 769, .str ⟨#[61, 57, 48]⟩ 773, .str ⟨#[61, 57, 49]⟩ 777, .str ⟨#[61, 57, 50]⟩ 781, .str ⟨#[61, 57, 51]⟩ 785, .str ⟨#[61, 57, 52]⟩ 789, .str ⟨#[61, 57, 53]⟩ 793, .str ⟨#[61, 57, 54]⟩ 797, .str ⟨#[61, 57, 55]⟩ 801, .str ⟨#[61, 57, 56]⟩ 805, .str ⟨#[61, 57, 57]⟩ 809, .str ⟨#[61, 57, 65]⟩ 813, .str ⟨#[61, 57, 66]⟩ 817, .str ⟨#[61, 57, 67]⟩ 821, .str ⟨#[61, 57, 68]⟩ 825, .str ⟨#[61, 57, 69]⟩ 829, .str ⟨#[61, 57, 70]⟩ 833, .str ⟨#[61, 65, 48]⟩ 837, .str ⟨#[61, 65, 49]⟩ 841, .str ⟨#[61, 65, 50]⟩ 845, .str ⟨#[61, 65, 51]⟩ 849, .str ⟨#[61, 65, 52]⟩ 853, .str ⟨#[61, 65, 53]⟩ 857, .str ⟨#[61, 65, 54]⟩ 861, .str ⟨#[61, 65, 55]⟩ 865, .str ⟨#[61, 65, 56]⟩ 869, .str ⟨#[61, 65, 57]⟩ 873, .str ⟨#[61, 65, 65]⟩ 877, .str ⟨#[61, 65, 66]⟩ 881, .str ⟨#[61, 65, 67]⟩ 885, .str ⟨#[61, 65, 68]⟩ 889, .str ⟨#[61, 65, 69]⟩ 893, .str ⟨#[61, 65, 70]⟩ 897, .str ⟨#[61, 66, 48]⟩ 901, .str ⟨#[61, 66, 49]⟩ 905, .str ⟨#[61, 66, 50]⟩ 909, .str ⟨#[61, 66, 51]⟩ 913, .str ⟨#[61, 66, 52]⟩ 917, .str ⟨#[61, 66, 53]⟩ 921, .str ⟨#[61, 66, 54]⟩ 925, .str ⟨#[61, 66, 55]⟩ 929, .str ⟨#[61, 66, 56]⟩ 933, .str ⟨#[61, 66, 57]⟩ 937, .str ⟨#[61, 66, 65]⟩ 941, .str ⟨#[61, 66, 66]⟩ 945, .str ⟨#[61, 66, 67]⟩ 949, .str ⟨#[61, 66, 68]⟩ 953, .str ⟨#[61, 66, 69]⟩ 957, .str ⟨#[61, 66, 70]⟩ 961, .str ⟨#[61, 67, 48]⟩ 965, .str ⟨#[61, 67, 49]⟩ 969, .str ⟨#[61, 67, 50]⟩ 973, .str ⟨#[61, 67, 51]⟩ 977, .str ⟨#[61, 67, 52]⟩ 981, .str ⟨#[61, 67, 53]⟩ 985, .str ⟨#[61, 67, 54]⟩ 989, .str ⟨#[61, 67, 55]⟩ 993, .str ⟨#[61, 67, 56]⟩ 997, .str ⟨#[61, 67, 57]⟩ 1001, .str ⟨#[61, 67, 65]⟩ 1005, .str ⟨#[61, 67, 66]⟩ 1009, .str ⟨#[61, 67, 67]⟩ 1013, .str ⟨#[61, 67, 68]⟩ 1017, .str ⟨#[61, 67, 69]⟩ 1021, .str ⟨#[61, 67, 70]⟩ 1025, .str ⟨#[61, 68, 48]⟩ 1029, .str ⟨#[61, 68, 49]⟩ 1033, .str ⟨#[61, 68, 50]⟩ 1037, .str ⟨#[61, 68, 51]⟩ 1041, .str ⟨#[61, 68, 52]⟩ 1045, .str ⟨#[61, 68, 53]⟩ 1049, .str ⟨#[61, 68, 54]⟩ 1053, .str ⟨#[61, 68, 55]⟩ 1057, .str ⟨#[61, 68, 56]⟩ 1061, .str ⟨#[61, 68, 57]⟩ 1065, .str ⟨#[61, 68, 65]⟩ 1069, .str ⟨#[61, 68, 66]⟩ 1073, .str ⟨#[61, 68, 67]⟩ 1077, .str ⟨#[61, 68, 68]⟩ 1081, .str ⟨#[61, 68, 69]⟩ 1085, .str ⟨#[61, 68, 70]⟩ 1089, .str ⟨#[61, 69, 48]⟩ 1093, .str ⟨#[61, 69, 49]⟩ 1097, .str ⟨#[61, 69, 50]⟩ 1101, .str ⟨#[61, 69, 51]⟩ 1105, .str ⟨#[61, 69, 52]⟩ 1109, .str ⟨#[61, 69, 53]⟩ 1113, .str ⟨#[61, 69, 54]⟩ 1117, .str ⟨#[61, 69, 55]⟩ 1121, .str ⟨#[61, 69, 56]⟩ 1125, .str ⟨#[61, 69, 57]⟩ 1129, .str ⟨#[61, 69, 65]⟩ 1133, .str ⟨#[61, 69, 66]⟩ 1137, .str ⟨#[61, 69, 67]⟩ 1141, .str ⟨#[61, 69, 68]⟩ 1145, .str ⟨#[61, 69, 69]⟩ 1149, .str ⟨#[61, 69, 70]⟩ 1153, .str ⟨#[61, 70, 48]⟩ 1157, .str ⟨#[61, 70, 49]⟩ 1161, .str ⟨#[61, 70, 50]⟩ 1165, .str ⟨#[61, 70, 51]⟩ 1169, .str ⟨#[61, 70, 52]⟩ 1173, .str ⟨#[61, 70, 53]⟩ 1177, .str ⟨#[61, 70, 54]⟩ 1181, .str ⟨#[61, 70, 55]⟩ 1185, .str ⟨#[61, 70, 56]⟩ 1189, .str ⟨#[61, 70, 57]⟩ 1193, .str ⟨#[61, 70, 65]⟩ 1197, .str ⟨#[61, 70, 66]⟩ 1201, .str ⟨#[61, 70, 67]⟩ 1205, .str ⟨#[61, 70, 68]⟩ 1209, .str ⟨#[61, 70, 69]⟩ 1213, .str ⟨#[61, 70, 70]⟩ 1217]
noncomputable def lp2_s1 (w : World) (os : OsState) : SharedT := let P := w.params; ⟨tr_lp2 P (⟨.type "range_iterator", none, .fields ([.int 1 0, .int 255 0, .int 1 0]).toArray, #[]⟩) (⟨.type "list", none, .seq (lp2_y17.take 1).toArray 1, #[]⟩) (⟨.type "dict", none, .dict ([⟨PyData.keyHash P ⟨#[99]⟩, .str ⟨#[99]⟩ 195, .int 0 194⟩]).toArray 1, #[]⟩), 19, life0, Array.mk [], boot_drawn, 198, os⟩
noncomputable def lp2_sts : List Stmt := [stm 2]
noncomputable def lp2_T : Thread := match PySem.W.Fast.tw10295753902157049106 PySem.W.Fast.tw14364793385576792824 PR (aWorld 1) 11 ann0 1 79 (s1 (aWorld 1) {}) ⟨(PySem.W.Fast.tw12563942051412417395 lp2_sts env0).wrap doneF deadEnd id id, cE, ⟨2, 0, 2, 2⟩, B0⟩ with | some r => r.2 | none => ⟨.raise .none, cE, default, []⟩
theorem lp2_start_ff (w : World) (os : OsState) : PySem.W.Fast.tw10295753902157049106 PySem.W.Fast.tw14364793385576792824 PR ((w.withFollow "comprehension-iter-twice" false).withFollow "special-get-raises" false) 11 ann0 1 89 (s1 ((w.withFollow "comprehension-iter-twice" false).withFollow "special-get-raises" false) os) ⟨(PySem.W.Fast.tw12563942051412417395 lp2_sts env0).wrap doneF deadEnd id id, cE, ⟨2, 0, 2, 2⟩, B0⟩ = some (lp2_s1 ((w.withFollow "comprehension-iter-twice" false).withFollow "special-get-raises" false) os, lp2_T) := by kernel_rfl
theorem lp2_start_tf (w : World) (os : OsState) : PySem.W.Fast.tw10295753902157049106 PySem.W.Fast.tw14364793385576792824 PR ((w.withFollow "comprehension-iter-twice" true).withFollow "special-get-raises" false) 11 ann0 1 79 (s1 ((w.withFollow "comprehension-iter-twice" true).withFollow "special-get-raises" false) os) ⟨(PySem.W.Fast.tw12563942051412417395 lp2_sts env0).wrap doneF deadEnd id id, cE, ⟨2, 0, 2, 2⟩, B0⟩ = some (lp2_s1 ((w.withFollow "comprehension-iter-twice" true).withFollow "special-get-raises" false) os, lp2_T) := by kernel_rfl
theorem lp2_start_ft (w : World) (os : OsState) : PySem.W.Fast.tw10295753902157049106 PySem.W.Fast.tw14364793385576792824 PR ((w.withFollow "comprehension-iter-twice" false).withFollow "special-get-raises" true) 11 ann0 1 89 (s1 ((w.withFollow "comprehension-iter-twice" false).withFollow "special-get-raises" true) os) ⟨(PySem.W.Fast.tw12563942051412417395 lp2_sts env0).wrap doneF deadEnd id id, cE, ⟨2, 0, 2, 2⟩, B0⟩ = some (lp2_s1 ((w.withFollow "comprehension-iter-twice" false).withFollow "special-get-raises" true) os, lp2_T) := by kernel_rfl
theorem lp2_start_tt (w : World) (os : OsState) : PySem.W.Fast.tw10295753902157049106 PySem.W.Fast.tw14364793385576792824 PR ((w.withFollow "comprehension-iter-twice" true).withFollow "special-get-raises" true) 11 ann0 1 79 (s1 ((w.withFollow "comprehension-iter-twice" true).withFollow "special-get-raises" true) os) ⟨(PySem.W.Fast.tw12563942051412417395 lp2_sts env0).wrap doneF deadEnd id id, cE, ⟨2, 0, 2, 2⟩, B0⟩ = some (lp2_s1 ((w.withFollow "comprehension-iter-twice" true).withFollow "special-get-raises" true) os, lp2_T) := by kernel_rfl
noncomputable def lp2_s9 (w : World) (os : OsState) : SharedT := let P := w.params; ⟨tr_lp2 P (⟨.type "range_iterator", none, .fields ([.int 9 0, .int 247 0, .int 1 0]).toArray, #[]⟩) (⟨.type "list", none, .seq (lp2_y17.take 9).toArray 9, #[]⟩) (⟨.type "dict", none, .dict ([⟨PyData.keyHash P ⟨#[99]⟩, .str ⟨#[99]⟩ 195, .int 8 226⟩]).toArray 1, #[]⟩), 19, life0, Array.mk [], boot_drawn, 230, os⟩
theorem lp2_go1 (w : World) (os : OsState) : PySem.W.Fast.tw10295753902157049106 PySem.W.Fast.tw14364793385576792824 PR w 11 ann0 1 296 (lp2_s1 w os) lp2_T = some (lp2_s9 w os, lp2_T) := by kernel_rfl
noncomputable def lp2_s17 (w : World) (os : OsState) : SharedT := let P := w.params; ⟨tr_lp2 P (⟨.type "range_iterator", none, .fields ([.int 17 0, .int 239 0, .int 1 0]).toArray, #[]⟩) (⟨.type "list", none, .seq (lp2_y17.take 17).toArray 17, #[]⟩) (⟨.type "dict", none, .dict ([⟨PyData.keyHash P ⟨#[99]⟩, .str ⟨#[99]⟩ 195, .int 16 258⟩]).toArray 1, #[]⟩), 19, life0, Array.mk [], boot_drawn, 262, os⟩
theorem lp2_go9 (w : World) (os : OsState) : PySem.W.Fast.tw10295753902157049106 PySem.W.Fast.tw14364793385576792824 PR w 11 ann0 1 296 (lp2_s9 w os) lp2_T = some (lp2_s17 w os, lp2_T) := by kernel_rfl
noncomputable def lp2_s25 (w : World) (os : OsState) : SharedT := let P := w.params; ⟨tr_lp2 P (⟨.type "range_iterator", none, .fields ([.int 25 0, .int 231 0, .int 1 0]).toArray, #[]⟩) (⟨.type "list", none, .seq (lp2_y17.take 25).toArray 25, #[]⟩) (⟨.type "dict", none, .dict ([⟨PyData.keyHash P ⟨#[99]⟩, .str ⟨#[99]⟩ 195, .int 24 290⟩]).toArray 1, #[]⟩), 19, life0, Array.mk [], boot_drawn, 294, os⟩
theorem lp2_go17 (w : World) (os : OsState) : PySem.W.Fast.tw10295753902157049106 PySem.W.Fast.tw14364793385576792824 PR w 11 ann0 1 296 (lp2_s17 w os) lp2_T = some (lp2_s25 w os, lp2_T) := by kernel_rfl
noncomputable def lp2_s33 (w : World) (os : OsState) : SharedT := let P := w.params; ⟨tr_lp2 P (⟨.type "range_iterator", none, .fields ([.int 33 0, .int 223 0, .int 1 0]).toArray, #[]⟩) (⟨.type "list", none, .seq (lp2_y17.take 33).toArray 33, #[]⟩) (⟨.type "dict", none, .dict ([⟨PyData.keyHash P ⟨#[99]⟩, .str ⟨#[99]⟩ 195, .int 32 322⟩]).toArray 1, #[]⟩), 19, life0, Array.mk [], boot_drawn, 326, os⟩
theorem lp2_go25 (w : World) (os : OsState) : PySem.W.Fast.tw10295753902157049106 PySem.W.Fast.tw14364793385576792824 PR w 11 ann0 1 296 (lp2_s25 w os) lp2_T = some (lp2_s33 w os, lp2_T) := by kernel_rfl
noncomputable def lp2_s41 (w : World) (os : OsState) : SharedT := let P := w.params; ⟨tr_lp2 P (⟨.type "range_iterator", none, .fields ([.int 41 0, .int 215 0, .int 1 0]).toArray, #[]⟩) (⟨.type "list", none, .seq (lp2_y17.take 41).toArray 41, #[]⟩) (⟨.type "dict", none, .dict ([⟨PyData.keyHash P ⟨#[99]⟩, .str ⟨#[99]⟩ 195, .int 40 354⟩]).toArray 1, #[]⟩), 19, life0, Array.mk [], boot_drawn, 358, os⟩
theorem lp2_go33 (w : World) (os : OsState) : PySem.W.Fast.tw10295753902157049106 PySem.W.Fast.tw14364793385576792824 PR w 11 ann0 1 296 (lp2_s33 w os) lp2_T = some (lp2_s41 w os, lp2_T) := by kernel_rfl
noncomputable def lp2_s49 (w : World) (os : OsState) : SharedT := let P := w.params; ⟨tr_lp2 P (⟨.type "range_iterator", none, .fields ([.int 49 0, .int 207 0, .int 1 0]).toArray, #[]⟩) (⟨.type "list", none, .seq (lp2_y17.take 49).toArray 49, #[]⟩) (⟨.type "dict", none, .dict ([⟨PyData.keyHash P ⟨#[99]⟩, .str ⟨#[99]⟩ 195, .int 48 386⟩]).toArray 1, #[]⟩), 19, life0, Array.mk [], boot_drawn, 390, os⟩
theorem lp2_go41 (w : World) (os : OsState) : PySem.W.Fast.tw10295753902157049106 PySem.W.Fast.tw14364793385576792824 PR w 11 ann0 1 296 (lp2_s41 w os) lp2_T = some (lp2_s49 w os, lp2_T) := by kernel_rfl
noncomputable def lp2_s57 (w : World) (os : OsState) : SharedT := let P := w.params; ⟨tr_lp2 P (⟨.type "range_iterator", none, .fields ([.int 57 0, .int 199 0, .int 1 0]).toArray, #[]⟩) (⟨.type "list", none, .seq (lp2_y17.take 57).toArray 57, #[]⟩) (⟨.type "dict", none, .dict ([⟨PyData.keyHash P ⟨#[99]⟩, .str ⟨#[99]⟩ 195, .int 56 418⟩]).toArray 1, #[]⟩), 19, life0, Array.mk [], boot_drawn, 422, os⟩
theorem lp2_go49 (w : World) (os : OsState) : PySem.W.Fast.tw10295753902157049106 PySem.W.Fast.tw14364793385576792824 PR w 11 ann0 1 296 (lp2_s49 w os) lp2_T = some (lp2_s57 w os, lp2_T) := by kernel_rfl
noncomputable def lp2_s65 (w : World) (os : OsState) : SharedT := let P := w.params; ⟨tr_lp2 P (⟨.type "range_iterator", none, .fields ([.int 65 0, .int 191 0, .int 1 0]).toArray, #[]⟩) (⟨.type "list", none, .seq (lp2_y17.take 65).toArray 65, #[]⟩) (⟨.type "dict", none, .dict ([⟨PyData.keyHash P ⟨#[99]⟩, .str ⟨#[99]⟩ 195, .int 64 450⟩]).toArray 1, #[]⟩), 19, life0, Array.mk [], boot_drawn, 454, os⟩
theorem lp2_go57 (w : World) (os : OsState) : PySem.W.Fast.tw10295753902157049106 PySem.W.Fast.tw14364793385576792824 PR w 11 ann0 1 296 (lp2_s57 w os) lp2_T = some (lp2_s65 w os, lp2_T) := by kernel_rfl
noncomputable def lp2_s73 (w : World) (os : OsState) : SharedT := let P := w.params; ⟨tr_lp2 P (⟨.type "range_iterator", none, .fields ([.int 73 0, .int 183 0, .int 1 0]).toArray, #[]⟩) (⟨.type "list", none, .seq (lp2_y17.take 73).toArray 73, #[]⟩) (⟨.type "dict", none, .dict ([⟨PyData.keyHash P ⟨#[99]⟩, .str ⟨#[99]⟩ 195, .int 72 482⟩]).toArray 1, #[]⟩), 19, life0, Array.mk [], boot_drawn, 486, os⟩
theorem lp2_go65 (w : World) (os : OsState) : PySem.W.Fast.tw10295753902157049106 PySem.W.Fast.tw14364793385576792824 PR w 11 ann0 1 296 (lp2_s65 w os) lp2_T = some (lp2_s73 w os, lp2_T) := by kernel_rfl
noncomputable def lp2_s81 (w : World) (os : OsState) : SharedT := let P := w.params; ⟨tr_lp2 P (⟨.type "range_iterator", none, .fields ([.int 81 0, .int 175 0, .int 1 0]).toArray, #[]⟩) (⟨.type "list", none, .seq (lp2_y17.take 81).toArray 81, #[]⟩) (⟨.type "dict", none, .dict ([⟨PyData.keyHash P ⟨#[99]⟩, .str ⟨#[99]⟩ 195, .int 80 514⟩]).toArray 1, #[]⟩), 19, life0, Array.mk [], boot_drawn, 518, os⟩
theorem lp2_go73 (w : World) (os : OsState) : PySem.W.Fast.tw10295753902157049106 PySem.W.Fast.tw14364793385576792824 PR w 11 ann0 1 296 (lp2_s73 w os) lp2_T = some (lp2_s81 w os, lp2_T) := by kernel_rfl
noncomputable def lp2_s89 (w : World) (os : OsState) : SharedT := let P := w.params; ⟨tr_lp2 P (⟨.type "range_iterator", none, .fields ([.int 89 0, .int 167 0, .int 1 0]).toArray, #[]⟩) (⟨.type "list", none, .seq (lp2_y17.take 89).toArray 89, #[]⟩) (⟨.type "dict", none, .dict ([⟨PyData.keyHash P ⟨#[99]⟩, .str ⟨#[99]⟩ 195, .int 88 546⟩]).toArray 1, #[]⟩), 19, life0, Array.mk [], boot_drawn, 550, os⟩
theorem lp2_go81 (w : World) (os : OsState) : PySem.W.Fast.tw10295753902157049106 PySem.W.Fast.tw14364793385576792824 PR w 11 ann0 1 296 (lp2_s81 w os) lp2_T = some (lp2_s89 w os, lp2_T) := by kernel_rfl
noncomputable def lp2_s97 (w : World) (os : OsState) : SharedT := let P := w.params; ⟨tr_lp2 P (⟨.type "range_iterator", none, .fields ([.int 97 0, .int 159 0, .int 1 0]).toArray, #[]⟩) (⟨.type "list", none, .seq (lp2_y17.take 97).toArray 97, #[]⟩) (⟨.type "dict", none, .dict ([⟨PyData.keyHash P ⟨#[99]⟩, .str ⟨#[99]⟩ 195, .int 96 578⟩]).toArray 1, #[]⟩), 19, life0, Array.mk [], boot_drawn, 582, os⟩
theorem lp2_go89 (w : World) (os : OsState) : PySem.W.Fast.tw10295753902157049106 PySem.W.Fast.tw14364793385576792824 PR w 11 ann0 1 296 (lp2_s89 w os) lp2_T = some (lp2_s97 w os, lp2_T) := by kernel_rfl
noncomputable def lp2_s105 (w : World) (os : OsState) : SharedT := let P := w.params; ⟨tr_lp2 P (⟨.type "range_iterator", none, .fields ([.int 105 0, .int 151 0, .int 1 0]).toArray, #[]⟩) (⟨.type "list", none, .seq (lp2_y17.take 105).toArray 105, #[]⟩) (⟨.type "dict", none, .dict ([⟨PyData.keyHash P ⟨#[99]⟩, .str ⟨#[99]⟩ 195, .int 104 610⟩]).toArray 1, #[]⟩), 19, life0, Array.mk [], boot_drawn, 614, os⟩
theorem lp2_go97 (w : World) (os : OsState) : PySem.W.Fast.tw10295753902157049106 PySem.W.Fast.tw14364793385576792824 PR w 11 ann0 1 296 (lp2_s97 w os) lp2_T = some (lp2_s105 w os, lp2_T) := by kernel_rfl
noncomputable def lp2_s113 (w : World) (os : OsState) : SharedT := let P := w.params; ⟨tr_lp2 P (⟨.type "range_iterator", none, .fields ([.int 113 0, .int 143 0, .int 1 0]).toArray, #[]⟩) (⟨.type "list", none, .seq (lp2_y17.take 113).toArray 113, #[]⟩) (⟨.type "dict", none, .dict ([⟨PyData.keyHash P ⟨#[99]⟩, .str ⟨#[99]⟩ 195, .int 112 642⟩]).toArray 1, #[]⟩), 19, life0, Array.mk [], boot_drawn, 646, os⟩
theorem lp2_go105 (w : World) (os : OsState) : PySem.W.Fast.tw10295753902157049106 PySem.W.Fast.tw14364793385576792824 PR w 11 ann0 1 296 (lp2_s105 w os) lp2_T = some (lp2_s113 w os, lp2_T) := by kernel_rfl
noncomputable def lp2_s121 (w : World) (os : OsState) : SharedT := let P := w.params; ⟨tr_lp2 P (⟨.type "range_iterator", none, .fields ([.int 121 0, .int 135 0, .int 1 0]).toArray, #[]⟩) (⟨.type "list", none, .seq (lp2_y17.take 121).toArray 121, #[]⟩) (⟨.type "dict", none, .dict ([⟨PyData.keyHash P ⟨#[99]⟩, .str ⟨#[99]⟩ 195, .int 120 674⟩]).toArray 1, #[]⟩), 19, life0, Array.mk [], boot_drawn, 678, os⟩
theorem lp2_go113 (w : World) (os : OsState) : PySem.W.Fast.tw10295753902157049106 PySem.W.Fast.tw14364793385576792824 PR w 11 ann0 1 296 (lp2_s113 w os) lp2_T = some (lp2_s121 w os, lp2_T) := by kernel_rfl
noncomputable def lp2_s129 (w : World) (os : OsState) : SharedT := let P := w.params; ⟨tr_lp2 P (⟨.type "range_iterator", none, .fields ([.int 129 0, .int 127 0, .int 1 0]).toArray, #[]⟩) (⟨.type "list", none, .seq (lp2_y17.take 129).toArray 129, #[]⟩) (⟨.type "dict", none, .dict ([⟨PyData.keyHash P ⟨#[99]⟩, .str ⟨#[99]⟩ 195, .int 128 706⟩]).toArray 1, #[]⟩), 19, life0, Array.mk [], boot_drawn, 710, os⟩
theorem lp2_go121 (w : World) (os : OsState) : PySem.W.Fast.tw10295753902157049106 PySem.W.Fast.tw14364793385576792824 PR w 11 ann0 1 296 (lp2_s121 w os) lp2_T = some (lp2_s129 w os, lp2_T) := by kernel_rfl
noncomputable def lp2_s137 (w : World) (os : OsState) : SharedT := let P := w.params; ⟨tr_lp2 P (⟨.type "range_iterator", none, .fields ([.int 137 0, .int 119 0, .int 1 0]).toArray, #[]⟩) (⟨.type "list", none, .seq (lp2_y17.take 137).toArray 137, #[]⟩) (⟨.type "dict", none, .dict ([⟨PyData.keyHash P ⟨#[99]⟩, .str ⟨#[99]⟩ 195, .int 136 738⟩]).toArray 1, #[]⟩), 19, life0, Array.mk [], boot_drawn, 742, os⟩
theorem lp2_go129 (w : World) (os : OsState) : PySem.W.Fast.tw10295753902157049106 PySem.W.Fast.tw14364793385576792824 PR w 11 ann0 1 296 (lp2_s129 w os) lp2_T = some (lp2_s137 w os, lp2_T) := by kernel_rfl
noncomputable def lp2_s145 (w : World) (os : OsState) : SharedT := let P := w.params; ⟨tr_lp2 P (⟨.type "range_iterator", none, .fields ([.int 145 0, .int 111 0, .int 1 0]).toArray, #[]⟩) (⟨.type "list", none, .seq (lp2_y17.take 145).toArray 145, #[]⟩) (⟨.type "dict", none, .dict ([⟨PyData.keyHash P ⟨#[99]⟩, .str ⟨#[99]⟩ 195, .int 144 770⟩]).toArray 1, #[]⟩), 19, life0, Array.mk [], boot_drawn, 774, os⟩
theorem lp2_go137 (w : World) (os : OsState) : PySem.W.Fast.tw10295753902157049106 PySem.W.Fast.tw14364793385576792824 PR w 11 ann0 1 296 (lp2_s137 w os) lp2_T = some (lp2_s145 w os, lp2_T) := by kernel_rfl
noncomputable def lp2_s153 (w : World) (os : OsState) : SharedT := let P := w.params; ⟨tr_lp2 P (⟨.type "range_iterator", none, .fields ([.int 153 0, .int 103 0, .int 1 0]).toArray, #[]⟩) (⟨.type "list", none, .seq (lp2_y17.take 153).toArray 153, #[]⟩) (⟨.type "dict", none, .dict ([⟨PyData.keyHash P ⟨#[99]⟩, .str ⟨#[99]⟩ 195, .int 152 802⟩]).toArray 1, #[]⟩), 19, life0, Array.mk [], boot_drawn, 806, os⟩
theorem lp2_go145 (w : World) (os : OsState) : PySem.W.Fast.tw10295753902157049106 PySem.W.Fast.tw14364793385576792824 PR w 11 ann0 1 296 (lp2_s145 w os) lp2_T = some (lp2_s153 w os, lp2_T) := by kernel_rfl
noncomputable def lp2_s161 (w : World) (os : OsState) : SharedT := let P := w.params; ⟨tr_lp2 P (⟨.type "range_iterator", none, .fields ([.int 161 0, .int 95 0, .int 1 0]).toArray, #[]⟩) (⟨.type "list", none, .seq (lp2_y17.take 161).toArray 161, #[]⟩) (⟨.type "dict", none, .dict ([⟨PyData.keyHash P ⟨#[99]⟩, .str ⟨#[99]⟩ 195, .int 160 834⟩]).toArray 1, #[]⟩), 19, life0, Array.mk [], boot_drawn, 838, os⟩
theorem lp2_go153 (w : World) (os : OsState) : PySem.W.Fast.tw10295753902157049106 PySem.W.Fast.tw14364793385576792824 PR w 11 ann0 1 296 (lp2_s153 w os) lp2_T = some (lp2_s161 w os, lp2_T) := by kernel_rfl
noncomputable def lp2_s169 (w : World) (os : OsState) : SharedT := let P := w.params; ⟨tr_lp2 P (⟨.type "range_iterator", none, .fields ([.int 169 0, .int 87 0, .int 1 0]).toArray, #[]⟩) (⟨.type "list", none, .seq (lp2_y17.take 169).toArray 169, #[]⟩) (⟨.type "dict", none, .dict ([⟨PyData.keyHash P ⟨#[99]⟩, .str ⟨#[99]⟩ 195, .int 168 866⟩]).toArray 1, #[]⟩), 19, life0, Array.mk [], boot_drawn, 870, os⟩
theorem lp2_go161 (w : World) (os : OsState) : PySem.W.Fast.tw10295753902157049106 PySem.W.Fast.tw14364793385576792824 PR w 11 ann0 1 296 (lp2_s161 w os) lp2_T = some (lp2_s169 w os, lp2_T) := by kernel_rfl
noncomputable def lp2_s177 (w : World) (os : OsState) : SharedT := let P := w.params; ⟨tr_lp2 P (⟨.type "range_iterator", none, .fields ([.int 177 0, .int 79 0, .int 1 0]).toArray, #[]⟩) (⟨.type "list", none, .seq (lp2_y17.take 177).toArray 177, #[]⟩) (⟨.type "dict", none, .dict ([⟨PyData.keyHash P ⟨#[99]⟩, .str ⟨#[99]⟩ 195, .int 176 898⟩]).toArray 1, #[]⟩), 19, life0, Array.mk [], boot_drawn, 902, os⟩
theorem lp2_go169 (w : World) (os : OsState) : PySem.W.Fast.tw10295753902157049106 PySem.W.Fast.tw14364793385576792824 PR w 11 ann0 1 296 (lp2_s169 w os) lp2_T = some (lp2_s177 w os, lp2_T) := by kernel_rfl
noncomputable def lp2_s185 (w : World) (os : OsState) : SharedT := let P := w.params; ⟨tr_lp2 P (⟨.type "range_iterator", none, .fields ([.int 185 0, .int 71 0, .int 1 0]).toArray, #[]⟩) (⟨.type "list", none, .seq (lp2_y17.take 185).toArray 185, #[]⟩) (⟨.type "dict", none, .dict ([⟨PyData.keyHash P ⟨#[99]⟩, .str ⟨#[99]⟩ 195, .int 184 930⟩]).toArray 1, #[]⟩), 19, life0, Array.mk [], boot_drawn, 934, os⟩
theorem lp2_go177 (w : World) (os : OsState) : PySem.W.Fast.tw10295753902157049106 PySem.W.Fast.tw14364793385576792824 PR w 11 ann0 1 296 (lp2_s177 w os) lp2_T = some (lp2_s185 w os, lp2_T) := by kernel_rfl
noncomputable def lp2_s193 (w : World) (os : OsState) : SharedT := let P := w.params; ⟨tr_lp2 P (⟨.type "range_iterator", none, .fields ([.int 193 0, .int 63 0, .int 1 0]).toArray, #[]⟩) (⟨.type "list", none, .seq (lp2_y17.take 193).toArray 193, #[]⟩) (⟨.type "dict", none, .dict ([⟨PyData.keyHash P ⟨#[99]⟩, .str ⟨#[99]⟩ 195, .int 192 962⟩]).toArray 1, #[]⟩), 19, life0, Array.mk [], boot_drawn, 966, os⟩
theorem lp2_go185 (w : World) (os : OsState) : PySem.W.Fast.tw10295753902157049106 PySem.W.Fast.tw14364793385576792824 PR w 11 ann0 1 296 (lp2_s185 w os) lp2_T = some (lp2_s193 w os, lp2_T) := by kernel_rfl
noncomputable def lp2_s201 (w : World) (os : OsState) : SharedT := let P := w.params; ⟨tr_lp2 P (⟨.type "range_iterator", none, .fields ([.int 201 0, .int 55 0, .int 1 0]).toArray, #[]⟩) (⟨.type "list", none, .seq (lp2_y17.take 201).toArray 201, #[]⟩) (⟨.type "dict", none, .dict ([⟨PyData.keyHash P ⟨#[99]⟩, .str ⟨#[99]⟩ 195, .int 200 994⟩]).toArray 1, #[]⟩), 19, life0, Array.mk [], boot_drawn, 998, os⟩
theorem lp2_go193 (w : World) (os : OsState) : PySem.W.Fast.tw10295753902157049106 PySem.W.Fast.tw14364793385576792824 PR w 11 ann0 1 296 (lp2_s193 w os) lp2_T = some (lp2_s201 w os, lp2_T) := by kernel_rfl
noncomputable def lp2_s209 (w : World) (os : OsState) : SharedT := let P := w.params; ⟨tr_lp2 P (⟨.type "range_iterator", none, .fields ([.int 209 0, .int 47 0, .int 1 0]).toArray, #[]⟩) (⟨.type "list", none, .seq (lp2_y17.take 209).toArray 209, #[]⟩) (⟨.type "dict", none, .dict ([⟨PyData.keyHash P ⟨#[99]⟩, .str ⟨#[99]⟩ 195, .int 208 1026⟩]).toArray 1, #[]⟩), 19, life0, Array.mk [], boot_drawn, 1030, os⟩
theorem lp2_go201 (w : World) (os : OsState) : PySem.W.Fast.tw10295753902157049106 PySem.W.Fast.tw14364793385576792824 PR w 11 ann0 1 296 (lp2_s201 w os) lp2_T = some (lp2_s209 w os, lp2_T) := by kernel_rfl
noncomputable def lp2_s217 (w : World) (os : OsState) : SharedT := let P := w.params; ⟨tr_lp2 P (⟨.type "range_iterator", none, .fields ([.int 217 0, .int 39 0, .int 1 0]).toArray, #[]⟩) (⟨.type "list", none, .seq (lp2_y17.take 217).toArray 217, #[]⟩) (⟨.type "dict", none, .dict ([⟨PyData.keyHash P ⟨#[99]⟩, .str ⟨#[99]⟩ 195, .int 216 1058⟩]).toArray 1, #[]⟩), 19, life0, Array.mk [], boot_drawn, 1062, os⟩
theorem lp2_go209 (w : World) (os : OsState) : PySem.W.Fast.tw10295753902157049106 PySem.W.Fast.tw14364793385576792824 PR w 11 ann0 1 296 (lp2_s209 w os) lp2_T = some (lp2_s217 w os, lp2_T) := by kernel_rfl
noncomputable def lp2_s225 (w : World) (os : OsState) : SharedT := let P := w.params; ⟨tr_lp2 P (⟨.type "range_iterator", none, .fields ([.int 225 0, .int 31 0, .int 1 0]).toArray, #[]⟩) (⟨.type "list", none, .seq (lp2_y17.take 225).toArray 225, #[]⟩) (⟨.type "dict", none, .dict ([⟨PyData.keyHash P ⟨#[99]⟩, .str ⟨#[99]⟩ 195, .int 224 1090⟩]).toArray 1, #[]⟩), 19, life0, Array.mk [], boot_drawn, 1094, os⟩
theorem lp2_go217 (w : World) (os : OsState) : PySem.W.Fast.tw10295753902157049106 PySem.W.Fast.tw14364793385576792824 PR w 11 ann0 1 296 (lp2_s217 w os) lp2_T = some (lp2_s225 w os, lp2_T) := by kernel_rfl
noncomputable def lp2_s233 (w : World) (os : OsState) : SharedT := let P := w.params; ⟨tr_lp2 P (⟨.type "range_iterator", none, .fields ([.int 233 0, .int 23 0, .int 1 0]).toArray, #[]⟩) (⟨.type "list", none, .seq (lp2_y17.take 233).toArray 233, #[]⟩) (⟨.type "dict", none, .dict ([⟨PyData.keyHash P ⟨#[99]⟩, .str ⟨#[99]⟩ 195, .int 232 1122⟩]).toArray 1, #[]⟩), 19, life0, Array.mk [], boot_drawn, 1126, os⟩
theorem lp2_go225 (w : World) (os : OsState) : PySem.W.Fast.tw10295753902157049106 PySem.W.Fast.tw14364793385576792824 PR w 11 ann0 1 296 (lp2_s225 w os) lp2_T = some (lp2_s233 w os, lp2_T) := by kernel_rfl
noncomputable def lp2_s241 (w : World) (os : OsState) : SharedT := let P := w.params; ⟨tr_lp2 P (⟨.type "range_iterator", none, .fields ([.int 241 0, .int 15 0, .int 1 0]).toArray, #[]⟩) (⟨.type "list", none, .seq (lp2_y17.take 241).toArray 241, #[]⟩) (⟨.type "dict", none, .dict ([⟨PyData.keyHash P ⟨#[99]⟩, .str ⟨#[99]⟩ 195, .int 240 1154⟩]).toArray 1, #[]⟩), 19, life0, Array.mk [], boot_drawn, 1158, os⟩
theorem lp2_go233 (w : World) (os : OsState) : PySem.W.Fast.tw10295753902157049106 PySem.W.Fast.tw14364793385576792824 PR w 11 ann0 1 296 (lp2_s233 w os) lp2_T = some (lp2_s241 w os, lp2_T) := by kernel_rfl
noncomputable def lp2_s249 (w : World) (os : OsState) : SharedT := let P := w.params; ⟨tr_lp2 P (⟨.type "range_iterator", none, .fields ([.int 249 0, .int 7 0, .int 1 0]).toArray, #[]⟩) (⟨.type "list", none, .seq (lp2_y17.take 249).toArray 249, #[]⟩) (⟨.type "dict", none, .dict ([⟨PyData.keyHash P ⟨#[99]⟩, .str ⟨#[99]⟩ 195, .int 248 1186⟩]).toArray 1, #[]⟩), 19, life0, Array.mk [], boot_drawn, 1190, os⟩
theorem lp2_go241 (w : World) (os : OsState) : PySem.W.Fast.tw10295753902157049106 PySem.W.Fast.tw14364793385576792824 PR w 11 ann0 1 296 (lp2_s241 w os) lp2_T = some (lp2_s249 w os, lp2_T) := by kernel_rfl
noncomputable def lp2_s256 (w : World) (os : OsState) : SharedT := let P := w.params; ⟨tr_lp2 P (⟨.type "range_iterator", none, .fields ([.int 256 0, .int 0 0, .int 1 0]).toArray, #[]⟩) (⟨.type "list", none, .seq (lp2_y17.take 256).toArray 256, #[]⟩) (⟨.type "dict", none, .dict ([⟨PyData.keyHash P ⟨#[99]⟩, .str ⟨#[99]⟩ 195, .int 255 1214⟩]).toArray 1, #[]⟩), 19, life0, Array.mk [], boot_drawn, 1218, os⟩
theorem lp2_go249 (w : World) (os : OsState) : PySem.W.Fast.tw10295753902157049106 PySem.W.Fast.tw14364793385576792824 PR w 11 ann0 1 259 (lp2_s249 w os) lp2_T = some (lp2_s256 w os, lp2_T) := by kernel_rfl
noncomputable def o3_9 (P : Params) : Obj := ⟨.type "dict", none, .dict ([⟨PyData.keyHash P ⟨#[95, 95, 110, 97, 109, 101, 95, 95]⟩, .str ⟨#[95, 95, 110, 97, 109, 101, 95, 95]⟩ 165, .str ⟨#[95, 95, 109, 97, 105, 110, 95, 95]⟩ 164⟩, ⟨PyData.keyHash P ⟨#[95, 95, 100, 111, 99, 95, 95]⟩, .str ⟨#[95, 95, 100, 111, 99, 95, 95]⟩ 166, .none⟩, ⟨PyData.keyHash P ⟨#[95, 95, 112, 97, 99, 107, 97, 103, 101, 95, 95]⟩, .str ⟨#[95, 95, 112, 97, 99, 107, 97, 103, 101, 95, 95]⟩ 167, .none⟩, ⟨PyData.keyHash P ⟨#[95, 95, 108, 111, 97, 100, 101, 114, 95, 95]⟩, .str ⟨#[95, 95, 108, 111, 97, 100, 101, 114, 95, 95]⟩ 168, .builtin "__main__.__loader__#opaque"⟩, ⟨PyData.keyHash P ⟨#[95, 95, 115, 112, 101, 99, 95, 95]⟩, .str ⟨#[95, 95, 115, 112, 101, 99, 95, 95]⟩ 169, .none⟩, ⟨PyData.keyHash P ⟨#[95, 95, 97, 110, 110, 111, 116, 97, 116, 105, 111, 110, 115, 95, 95]⟩, .str ⟨#[95, 95, 97, 110, 110, 111, 116, 97, 116, 105, 111, 110, 115, 95, 95]⟩ 170, .ref 6⟩, ⟨PyData.keyHash P ⟨#[95, 95, 98, 117, 105, 108, 116, 105, 110, 115, 95, 95]⟩, .str ⟨#[95, 95, 98, 117, 105, 108, 116, 105, 110, 115, 95, 95]⟩ 171, .ref 4⟩, ⟨PyData.keyHash P ⟨#[95, 95, 102, 105, 108, 101, 95, 95]⟩, .str ⟨#[95, 95, 102, 105, 108, 101, 95, 95]⟩ 173, .str ⟨#[47, 99, 108, 97, 105, 109, 47, 99, 117, 116, 46, 112, 121]⟩ 172⟩, ⟨PyData.keyHash P ⟨#[95, 95, 99, 97, 99, 104, 101, 100, 95, 95]⟩, .str ⟨#[95, 95, 99, 97, 99, 104, 101, 100, 95, 95]⟩ 174, .none⟩, ⟨PyData.keyHash P ⟨#[67, 82, 76, 70]⟩, .str ⟨#[67, 82, 76, 70]⟩ 188, .str ⟨#[13, 10]⟩ 187⟩, ⟨PyData.keyHash P ⟨#[78, 76]⟩, .str ⟨#[78, 76]⟩ 190, .str ⟨#[10]⟩ 189⟩, ⟨PyData.keyHash P ⟨#[95, 81, 85, 79, 80, 82, 73, 95, 77, 65, 80]⟩, .str ⟨#[95, 81, 85, 79, 80, 82, 73, 95, 77, 65, 80]⟩ 1218, .ref 17⟩]).toArray 12, #[]⟩
noncomputable def o15_10 (P : Params) : Obj := ⟨.type "range", none, .fields ([.int 0 192, .int 256 191, .int 1 193]).toArray, #[]⟩
noncomputable def o16_11 (P : Params) : Obj := ⟨.type "range_iterator", none, .fields ([.int 256 0, .int 0 0, .int 1 0]).toArray, #[]⟩
noncomputable def o17_12 (P : Params) : Obj := ⟨.type "list", none, .seq ([.str ⟨#[61, 48, 48]⟩ 197, .str ⟨#[61, 48, 49]⟩ 201, .str ⟨#[61, 48, 50]⟩ 205, .str ⟨#[61, 48, 51]⟩ 209, .str ⟨#[61, 48, 52]⟩ 213, .str ⟨#[61, 48, 53]⟩ 217, .str ⟨#[61, 48, 54]⟩ 221, .str ⟨#[61, 48, 55]⟩ 225, .str ⟨#[61, 48, 56]⟩ 229, .str ⟨#[61, 48, 57]⟩ 233, .str ⟨#[61, 48, 65]⟩ 237, .str ⟨#[61, 48, 66]⟩ 241, .str ⟨#[61, 48, 67]⟩ 245, .str ⟨#[61, 48, 68]⟩ 249, .str ⟨#[61, 48, 69]⟩ 253, .str ⟨#[61, 48, 70]⟩ 257, .str ⟨#[61, 49, 48]⟩ 261, .str ⟨#[61, 49, 49]⟩ 265, .str ⟨#[61, 49, 50]⟩ 269, .str ⟨#[61, 49, 51]⟩ 273, .str ⟨#[61, 49, 52]⟩ 277, .str ⟨#[61, 49, 53]⟩ 281, .str ⟨#[61, 49, 54]⟩ 285, .str ⟨#[61, 49, 55]⟩ 289, .str ⟨#[61, 49, 56]⟩ 293, .str ⟨#[61, 49, 57]⟩ 297, .str ⟨#[61, 49, 65]⟩ 301, .str ⟨#[61, 49, 66]⟩ 305, .str ⟨#[61, 49, 67]⟩ 309, .str ⟨#[61, 49, 68]⟩ 313, .str ⟨#[61, 49, 69]⟩ 317, .str ⟨#[61, 49, 70]⟩ 321, .str ⟨#[61, 50, 48]⟩ 325, .str ⟨#[61, 50, 49]⟩ 329, .str ⟨#[61, 50, 50]⟩ 333, .str ⟨#[61, 50, 51]⟩ 337, .str ⟨#[61, 50, 52]⟩ 341, .str ⟨#[61, 50, 53]⟩ 345, .str ⟨#[61, 50, 54]⟩ 349, .str ⟨#[61, 50, 55]⟩ 353, .str ⟨#[61, 50, 56]⟩ 357, .str ⟨#[61, 50, 57]⟩ 361, .str ⟨#[61, 50, 65]⟩ 365, .str ⟨#[61, 50, 66]⟩ 369, .str ⟨#[61, 50, 67]⟩ 373, .str ⟨#[61, 50, 68]⟩ 377, .str ⟨#[61, 50, 69]⟩ 381, .str ⟨#[61, 50, 70]⟩ 385, .str ⟨#[61, 51, 48]⟩ 389, .str ⟨#[61, 51, 49]⟩ 393, .str ⟨#[61, 51, 50]⟩ 397, .str ⟨#[61, 51, 51]⟩ 401, .str ⟨#[61, 51, 52]⟩ 405, .str ⟨#[61, 51, 53]⟩ 409, .str ⟨#[61, 51, 54]⟩ 413, .str ⟨#[61, 51, 55]⟩ 417, .str ⟨#[61, 51, 56]⟩ 421, .str ⟨#[61, 51, 57]⟩ 425, .str ⟨#[61, 51, 65]⟩ 429, .str ⟨#[61, 51, 66]⟩ 433, .str ⟨#[61, 51, 67]⟩ 437, .str ⟨#[61, 51, 68]⟩ 441, .str ⟨#[61, 51, 69]⟩ 445, .str ⟨#[61, 51, 70]⟩ 449, .str ⟨#[61, 52, 48]⟩ 453, .str ⟨#[61, 52, 49]⟩ 457, .str ⟨#[61, 52, 50]⟩ 461, .str ⟨#[61, 52, 51]⟩ 465, .str ⟨#[61, 52, 52]⟩ 469, .str ⟨#[61, 52, 53]⟩ 473, .str ⟨#[61, 52, 54]⟩ 477, .str ⟨#[61, 52, 55]⟩ 481, .str ⟨#[61, 52, 56]⟩ 485, .str ⟨#[61, 52, 57]⟩ 489, .str ⟨#[61, 52, 65]⟩ 493, .str ⟨#[61, 52, 66]⟩ 497, .str ⟨#[61, 52, 67]⟩ 501, .str ⟨#[61, 52, 68]⟩ 505, .str ⟨#[61, 52, 69]⟩ 509, .str ⟨#[61, 52, 70]⟩ 513, .str ⟨#[61, 53, 48]⟩ 517, .str ⟨#[61, 53, 49]⟩ 521, .str ⟨#[61, 53, 50]⟩ 525, .str ⟨#[61, 53, 51]⟩ 529, .str ⟨#[61, 53, 52]⟩ 533, .str ⟨#[61, 53, 53]⟩ 537, .str ⟨#[61, 53, 54]⟩ 541, .str ⟨#[61, 53, 55]⟩ 545, .str ⟨#[61, 53, 56]⟩ 549, .str ⟨#[61, 53, 57]⟩ 553, .str ⟨#[61, 53, 65]⟩ 557, .str ⟨#[61, 53, 66]⟩ 561, .str ⟨#[61, 53, 67]⟩ 565, .str ⟨#[61, 53, 68]⟩ 569, .str ⟨#[61, 53, 69]⟩ 573, .str ⟨#[61, 53, 70]⟩ 577, .str ⟨#[61, 54, 48]⟩ 581, .str ⟨#[61, 54, 49]⟩ 585, .str ⟨#[61, 54, 50]⟩ 589, .str ⟨#[61, 54, 51]⟩ 593, .str ⟨#[61, 54, 52]⟩ 597, .str ⟨#[61, 54, 53]⟩ 601, .str ⟨#[61, 54, 54]⟩ 605, .str ⟨#[61, 54, 55]⟩ 609, .str ⟨#[61, 54, 56]⟩ 613, .str ⟨#[61, 54, 57]⟩ 617, .str ⟨#[61, 54, 65]⟩ 621, .str ⟨#[61, 54, 66]⟩ 625, .str ⟨#[61, 54, 67]⟩ 629, .str ⟨#[61, 54, 68]⟩ 633, .str ⟨#[61, 54, 69]⟩ 637, .str ⟨#[61, 54, 70]⟩ 641, .str ⟨#[61, 55, 48]⟩ 645, .str ⟨#[61, 55, 49]⟩ 649, .str ⟨#[61, 55, 50]⟩ 653, .str ⟨#[61, 55, 51]⟩ 657, .str ⟨#[61, 55, 52]⟩ 661, .str ⟨#[61, 55, 53]⟩ 665, .str ⟨#[61, 55, 54]⟩ 669, .str ⟨#[61, 55, 55]⟩ 673, .str ⟨#[61, 55, 56]⟩ 677, .str ⟨#[61, 55, 57]⟩ 681, .str ⟨#[61, 55, 65]⟩ 685, .str ⟨#[61, 55, 66]⟩ 689, .str ⟨#[61, 55, 67]⟩ 693, .str ⟨#[61, 55, 68]⟩ 697, .str ⟨#[61, 55, 69]⟩ 701, .str ⟨#[61, 55, 70]⟩ 705, .str ⟨#[61, 56, 48]⟩ 709, .str ⟨#[61, 56, 49]⟩ 713, .str ⟨#[61, 56, 50]⟩ 717, .str ⟨#[61, 56, 51]⟩ 721, .str ⟨#[61, 56, 52]⟩ 725, .str ⟨#[61, 56, 53]⟩ 729, .str ⟨#[61, 56, 54]⟩ 733, .str ⟨#[61, 56, 55]⟩ 737, .str ⟨#[61, 56, 56]⟩ 741, .str ⟨#[61, 56, 57]⟩ 745, .str ⟨#[61, 56, 65]⟩ 749, .str ⟨#[61, 56, 66]⟩ 753, .str ⟨#[61, 56, 67]⟩ 757, .str ⟨#[61, 56, 68]⟩ 761, .str ⟨#[61, 56, 69]⟩ 765, .str ⟨#[61, 56, 70]⟩ 769, .str ⟨#[61, 57, 48]⟩ 773, .str ⟨#[61, 57, 49]⟩ 777, .str ⟨#[61, 57, 50]⟩ 781, .str ⟨#[61, 57, 51]⟩ 785, .str ⟨#[61, 57, 52]⟩ 789, .str ⟨#[61, 57, 53]⟩ 793, .str ⟨#[61, 57, 54]⟩ 797, .str ⟨#[61, 57, 55]⟩ 801, .str ⟨#[61, 57, 56]⟩ 805, .str ⟨#[61, 57, 57]⟩ 809, .str ⟨#[61, 57, 65]⟩ 813, .str ⟨#[61, 57, 66]⟩ 817, .str ⟨#[61, 57, 67]⟩ 821, .str ⟨#[61, 57, 68]⟩ 825, .str ⟨#[61, 57, 69]⟩ 829, .str ⟨#[61, 57, 70]⟩ 833, .str ⟨#[61, 65, 48]⟩ 837, .str ⟨#[61, 65, 49]⟩ 841, .str ⟨#[61, 65, 50]⟩ 845, .str ⟨#[61, 65, 51]⟩ 849, .str ⟨#[61, 65, 52]⟩ 853, .str ⟨#[61, 65, 53]⟩ 857, .str ⟨#[61, 65, 54]⟩ 861, .str ⟨#[61, 65, 55]⟩ 865, .str ⟨#[61, 65, 56]⟩ 869, .str ⟨#[61, 65, 57]⟩ 873, .str ⟨#[61, 65, 65]⟩ 877, .str ⟨#[61, 65, 66]⟩ 881, .str ⟨#[61, 65, 67]⟩ 885, .str ⟨#[61, 65, 68]⟩ 889, .str ⟨#[61, 65, 69]⟩ 893, .str ⟨#[61, 65, 70]⟩ 897, .str ⟨#[61, 66, 48]⟩ 901, .str ⟨#[61, 66, 49]⟩ 905, .str ⟨#[61, 66, 50]⟩ 909, .str ⟨#[61, 66, 51]⟩ 913, .str ⟨#[61, 66, 52]⟩ 917, .str ⟨#[61, 66, 53]⟩ 921, .str ⟨#[61, 66, 54]⟩ 925, .str ⟨#[61, 66, 55]⟩ 929, .str ⟨#[61, 66, 56]⟩ 933, .str ⟨#[61, 66, 57]⟩ 937, .str ⟨#[61, 66, 65]⟩ 941, .str ⟨#[61, 66, 66]⟩ 945, .str ⟨#[61, 66, 67]⟩ 949, .str ⟨#[61, 66, 68]⟩ 953, .str ⟨#[61, 66, 69]⟩ 957, .str ⟨#[61, 66, 70]⟩ 961, .str ⟨#[61, 67, 48]⟩ 965, .str ⟨#[61, 67, 49]⟩ 969, .str ⟨#[61, 67, 50]⟩ 973, .str ⟨#[61, 67, 51]⟩ 977, .str ⟨#[61, 67, 52]⟩ 981, .str ⟨#[61, 67, 53]⟩ 985, .str ⟨#[61, 67, 54]⟩ 989, .str ⟨#[61, 67, 55]⟩ 993, .str ⟨#[61, 67, 56]⟩ 997, .str ⟨#[61, 67, 57]⟩ 1001, .str ⟨#[61, 67, 65]⟩ 1005, .str ⟨#[61, 67, 66]⟩ 1009, .str ⟨#[61, 67, 67]⟩ 1013, .str ⟨#[61, 67, 68]⟩ 1017, .str ⟨#[61, 67, 69]⟩ 1021, .str ⟨#[61, 67, 70]⟩ 1025, .str ⟨#[61, 68, 48]⟩ 1029, .str ⟨#[61, 68, 49]⟩ 1033, .str ⟨#[61, 68, 50]⟩ 1037, .str ⟨#[61, 68, 51]⟩ 1041, .str ⟨#[61, 68, 52]⟩ 1045, .str ⟨#[61, 68, 53]⟩ 1049, .str ⟨#[61, 68, 54]⟩ 1053, .str ⟨#[61, 68, 55]⟩ 1057, .str ⟨#[61, 68, 56]⟩ 1061, .str ⟨#[61, 68, 57]⟩ 1065, .str ⟨#[61, 68, 65]⟩ 1069, .str ⟨#[61, 68, 66]⟩ 1073, .str ⟨#[61, 68, 67]⟩ 1077, .str ⟨#[61, 68, 68]⟩ 1081, .str ⟨#[61, 68, 69]⟩ 1085, .str ⟨#[61, 68, 70]⟩ 1089, .str ⟨#[61, 69, 48]⟩ 1093, .str ⟨#[61, 69, 49]⟩ 1097, .str ⟨#[61, 69, 50]⟩ 1101, .str ⟨#[61, 69, 51]⟩ 1105, .str ⟨#[61, 69, 52]⟩ 1109, .str ⟨#[61, 69, 53]⟩ 1113, .str ⟨#[61, 69, 54]⟩ 1117, .str ⟨#[61, 69, 55]⟩ 1121, .str ⟨#[61, 69, 56]⟩ 1125, .str ⟨#[61, 69, 57]⟩ 1129, .str ⟨#[61, 69, 65]⟩ 1133, .str ⟨#[61, 69, 66]⟩ 1137, .str ⟨#[61, 69, 67]⟩ 1141, .str ⟨#[61, 69, 68]⟩ 1145, .str ⟨#[61, 69, 69]⟩ 1149, .str ⟨#[61, 69, 70]⟩ 1153, .str ⟨#[61, 70, 48]⟩ 1157, .str ⟨#[61, 70, 49]⟩ 1161, .str ⟨#[61, 70, 50]⟩ 1165, .str ⟨#[61, 70, 51]⟩ 1169, .str ⟨#[61, 70, 52]⟩ 1173, .str ⟨#[61, 70, 53]⟩ 1177, .str ⟨#[61, 70, 54]⟩ 1181, .str ⟨#[61, 70, 55]⟩ 1185, .str ⟨#[61, 70, 56]⟩ 1189, .str ⟨#[61, 70, 57]⟩ 1193, .str ⟨#[61, 70, 65]⟩ 1197, .str ⟨#[61, 70, 66]⟩ 1201, .str ⟨#[61, 70, 67]⟩ 1205, .str ⟨#[61, 70, 68]⟩ 1209, .str ⟨#[61, 70, 69]⟩ 1213, .str ⟨#[61, 70, 70]⟩ 1217]).toArray 256, #[]⟩
noncomputable def o18_13 (P : Params) : Obj := ⟨.type "dict", none, .dict ([]).toArray 2, #[]⟩
noncomputable def o19_14 (P : Params) : Obj := ⟨.type "tuple", none, .seq ([]).toArray 0, #[]⟩
noncomputable def o20_15 (P : Params) : Obj := ⟨.type "StopIteration", none, .fields ([.ref 19, .none, .none, .none, .bool false, .none]).toArray, #[]⟩
noncomputable def tr_s2 (P : Params) : BT := (.node (boot_o_0 P) (.node (boot_o_1 P) (.node (o3_9 P) (.node (boot_o_7 P) (.node (o15_10 P) .nil .nil) .nil) (.node (o11_0 P) (.node (o19_14 P) .nil .nil) .nil)) (.node (boot_o_5 P) (.node (boot_o_9 P) (.node (o17_12 P) .nil .nil) .nil) (.node (o13_2 P) .nil .nil))) (.node (boot_o_2 P) (.node (boot_o_4 P) (.node (boot_o_8 P) (.node (o16_11 P) .nil .nil) .nil) (.node (o12_1 P) (.node (o20_15 P) .nil .nil) .nil)) (.node (boot_o_6 P) (.node (boot_o_10 P) (.node (o18_13 P) .nil .nil) .nil) (.node (o14_3 P) .nil .nil))))
noncomputable def s2 (w : World) (os : OsState) : SharedT := ⟨tr_s2 w.params, 21, life0, Array.mk [], boot_drawn, 1219, os⟩
theorem lp2_end (w : World) (os : OsState) : PySem.W.Fast.tw10110043849684766642 PySem.W.Fast.tw14364793385576792824 PR w 11 ann0 1 28 (lp2_s256 w os) lp2_T = some (.next, s2 w os, cE, ⟨3, 0, 3, 11⟩) := by kernel_rfl
theorem lp2_rest (w : World) (os : OsState) : segRun treeTable PR w 11 ann0 1 9463 (lp2_s1 w os).abs lp2_T = some (.next, (s2 w os).abs, cE, ⟨3, 0, 3, 11⟩) := (seg_go (n := 296) (segGo_of (goT (lp2_go1 w os))) (seg_go (n := 296) (segGo_of (goT (lp2_go9 w os))) (seg_go (n := 296) (segGo_of (goT (lp2_go17 w os))) (seg_go (n := 296) (segGo_of (goT (lp2_go25 w os))) (seg_go (n := 296) (segGo_of (goT (lp2_go33 w os))) (seg_go (n := 296) (segGo_of (goT (lp2_go41 w os))) (seg_go (n := 296) (segGo_of (goT (lp2_go49 w os))) (seg_go (n := 296) (segGo_of (goT (lp2_go57 w os))) (seg_go (n := 296) (segGo_of (goT (lp2_go65 w os))) (seg_go (n := 296) (segGo_of (goT (lp2_go73 w os))) (seg_go (n := 296) (segGo_of (goT (lp2_go81 w os))) (seg_go (n := 296) (segGo_of (goT (lp2_go89 w os))) (seg_go (n := 296) (segGo_of (goT (lp2_go97 w os))) (seg_go (n := 296) (segGo_of (goT (lp2_go105 w os))) (seg_go (n := 296) (segGo_of (goT (lp2_go113 w os))) (seg_go (n := 296) (segGo_of (goT (lp2_go121 w os))) (seg_go (n := 296) (segGo_of (goT (lp2_go129 w os))) (seg_go (n := 296) (segGo_of (goT (lp2_go137 w os))) (seg_go (n := 296) (segGo_of (goT (lp2_go145 w os))) (seg_go (n := 296) (segGo_of (goT (lp2_go153 w os))) (seg_go (n := 296) (segGo_of (goT (lp2_go161 w os))) (seg_go (n := 296) (segGo_of (goT (lp2_go169 w os))) (seg_go (n := 296) (segGo_of (goT (lp2_go177 w os))) (seg_go (n := 296) (segGo_of (goT (lp2_go185 w os))) (seg_go (n := 296) (segGo_of (goT (lp2_go193 w os))) (seg_go (n := 296) (segGo_of (goT (lp2_go201 w os))) (seg_go (n := 296) (segGo_of (goT (lp2_go209 w os))) (seg_go (n := 296) (segGo_of (goT (lp2_go217 w os))) (seg_go (n := 296) (segGo_of (goT (lp2_go225 w os))) (seg_go (n := 296) (segGo_of (goT (lp2_go233 w os))) (seg_go (n := 296) (segGo_of (goT (lp2_go241 w os))) (seg_go (n := 259) (segGo_of (goT (lp2_go249 w os))) (segRun_of (runT (lp2_end w os)))))))))))))))))))))))))))))))))))
def lp2_P (w : World) : Prop := ∀ os : OsState, segRun treeTable PR w 11 ann0 1 9552 (s1 w os).abs (piecesOf lp2_sts env0 cE ⟨2, 0, 2, 2⟩ B0) = some (.next, (s2 w os).abs, cE, ⟨3, 0, 3, 11⟩)
theorem lp2_start_ff_a (w : World) (os : OsState) : segRun treeTable PR ((w.withFollow "comprehension-iter-twice" false).withFollow "special-get-raises" false) 11 ann0 1 (89 + 9463) (s1 ((w.withFollow "comprehension-iter-twice" false).withFollow "special-get-raises" false) os).abs (piecesOf lp2_sts env0 cE ⟨2, 0, 2, 2⟩ B0) = some (.next, (s2 ((w.withFollow "comprehension-iter-twice" false).withFollow "special-get-raises" false) os).abs, cE, ⟨3, 0, 3, 11⟩) := startT (s' := lp2_s1 ((w.withFollow "comprehension-iter-twice" false).withFollow "special-get-raises" false) os) (T := lp2_T) (lp2_start_ff w os) (lp2_rest ((w.withFollow "comprehension-iter-twice" false).withFollow "special-get-raises" false) os)
theorem lp2_start_ff_b (w : World) : lp2_P ((w.withFollow "comprehension-iter-twice" false).withFollow "special-get-raises" false) := fun os => segRun_up (n := 89 + 9463) (m := 9552) (Nat.le_of_ble_eq_true (by kernel_rfl)) (lp2_start_ff_a w os)
theorem lp2_start_tf_a (w : World) (os : OsState) : segRun treeTable PR ((w.withFollow "comprehension-iter-twice" true).withFollow "special-get-raises" false) 11 ann0 1 (79 + 9463) (s1 ((w.withFollow "comprehension-iter-twice" true).withFollow "special-get-raises" false) os).abs (piecesOf lp2_sts env0 cE ⟨2, 0, 2, 2⟩ B0) = some (.next, (s2 ((w.withFollow "comprehension-iter-twice" true).withFollow "special-get-raises" false) os).abs, cE, ⟨3, 0, 3, 11⟩) := startT (s' := lp2_s1 ((w.withFollow "comprehension-iter-twice" true).withFollow "special-get-raises" false) os) (T := lp2_T) (lp2_start_tf w os) (lp2_rest ((w.withFollow "comprehension-iter-twice" true).withFollow "special-get-raises" false) os)
theorem lp2_start_tf_b (w : World) : lp2_P ((w.withFollow "comprehension-iter-twice" true).withFollow "special-get-raises" false) := fun os => segRun_up (n := 79 + 9463) (m := 9552) (Nat.le_of_ble_eq_true (by kernel_rfl)) (lp2_start_tf_a w os)
theorem lp2_start_ft_a (w : World) (os : OsState) : segRun treeTable PR ((w.withFollow "comprehension-iter-twice" false).withFollow "special-get-raises" true) 11 ann0 1 (89 + 9463) (s1 ((w.withFollow "comprehension-iter-twice" false).withFollow "special-get-raises" true) os).abs (piecesOf lp2_sts env0 cE ⟨2, 0, 2, 2⟩ B0) = some (.next, (s2 ((w.withFollow "comprehension-iter-twice" false).withFollow "special-get-raises" true) os).abs, cE, ⟨3, 0, 3, 11⟩) := startT (s' := lp2_s1 ((w.withFollow "comprehension-iter-twice" false).withFollow "special-get-raises" true) os) (T := lp2_T) (lp2_start_ft w os) (lp2_rest ((w.withFollow "comprehension-iter-twice" false).withFollow "special-get-raises" true) os)
theorem lp2_start_ft_b (w : World) : lp2_P ((w.withFollow "comprehension-iter-twice" false).withFollow "special-get-raises" true) := fun os => segRun_up (n := 89 + 9463) (m := 9552) (Nat.le_of_ble_eq_true (by kernel_rfl)) (lp2_start_ft_a w os)
theorem lp2_start_tt_a (w : World) (os : OsState) : segRun treeTable PR ((w.withFollow "comprehension-iter-twice" true).withFollow "special-get-raises" true) 11 ann0 1 (79 + 9463) (s1 ((w.withFollow "comprehension-iter-twice" true).withFollow "special-get-raises" true) os).abs (piecesOf lp2_sts env0 cE ⟨2, 0, 2, 2⟩ B0) = some (.next, (s2 ((w.withFollow "comprehension-iter-twice" true).withFollow "special-get-raises" true) os).abs, cE, ⟨3, 0, 3, 11⟩) := startT (s' := lp2_s1 ((w.withFollow "comprehension-iter-twice" true).withFollow "special-get-raises" true) os) (T := lp2_T) (lp2_start_tt w os) (lp2_rest ((w.withFollow "comprehension-iter-twice" true).withFollow "special-get-raises" true) os)
theorem lp2_start_tt_b (w : World) : lp2_P ((w.withFollow "comprehension-iter-twice" true).withFollow "special-get-raises" true) := fun os => segRun_up (n := 79 + 9463) (m := 9552) (Nat.le_of_ble_eq_true (by kernel_rfl)) (lp2_start_tt_a w os)
theorem lp2_all (w : World) : lp2_P w := (byRow2 "special-get-raises" (P := fun w => lp2_P w) (fun w => (byRow2 "comprehension-iter-twice" (P := fun w => lp2_P (w.withFollow "special-get-raises" false)) (fun w => (lp2_start_ff_b w)) (fun w => (lp2_start_tf_b w)) w)) (fun w => (byRow2 "comprehension-iter-twice" (P := fun w => lp2_P (w.withFollow "special-get-raises" true)) (fun w => (lp2_start_ft_b w)) (fun w => (lp2_start_tt_b w)) w)) w)
noncomputable def o3_16 (P : Params) : Obj := ⟨.type "dict", none, .dict ([⟨PyData.keyHash P ⟨#[95, 95, 110, 97, 109, 101, 95, 95]⟩, .str ⟨#[95, 95, 110, 97, 109, 101, 95, 95]⟩ 165, .str ⟨#[99, 112, 121, 51, 49, 51, 46, 101, 109, 97, 105, 108, 46, 113, 117, 111, 112, 114, 105, 109, 105, 109, 101]⟩ 1229⟩, ⟨PyData.keyHash P ⟨#[95, 95, 100, 111, 99, 95, 95]⟩, .str ⟨#[95, 95, 100, 111, 99, 95, 95]⟩ 166, .none⟩, ⟨PyData.keyHash P ⟨#[95, 95, 112, 97, 99, 107, 97, 103, 101, 95, 95]⟩, .str ⟨#[95, 95, 112, 97, 99, 107, 97, 103, 101, 95, 95]⟩ 167, .none⟩, ⟨PyData.keyHash P ⟨#[95, 95, 108, 111, 97, 100, 101, 114, 95, 95]⟩, .str ⟨#[95, 95, 108, 111, 97, 100, 101, 114, 95, 95]⟩ 168, .builtin "__main__.__loader__#opaque"⟩, ⟨PyData.keyHash P ⟨#[95, 95, 115, 112, 101, 99, 95, 95]⟩, .str ⟨#[95, 95, 115, 112, 101, 99, 95, 95]⟩ 169, .none⟩, ⟨PyData.keyHash P ⟨#[95, 95, 97, 110, 110, 111, 116, 97, 116, 105, 111, 110, 115, 95, 95]⟩, .str ⟨#[95, 95, 97, 110, 110, 111, 116, 97, 116, 105, 111, 110, 115, 95, 95]⟩ 170, .ref 6⟩, ⟨PyData.keyHash P ⟨#[95, 95, 98, 117, 105, 108, 116, 105, 110, 115, 95, 95]⟩, .str ⟨#[95, 95, 98, 117, 105, 108, 116, 105, 110, 115, 95, 95]⟩ 171, .ref 4⟩, ⟨PyData.keyHash P ⟨#[95, 95, 102, 105, 108, 101, 95, 95]⟩, .str ⟨#[95, 95, 102, 105, 108, 101, 95, 95]⟩ 173, .str ⟨#[47, 99, 108, 97, 105, 109, 47, 99, 117, 116, 46, 112, 121]⟩ 172⟩, ⟨PyData.keyHash P ⟨#[95, 95, 99, 97, 99, 104, 101, 100, 95, 95]⟩, .str ⟨#[95, 95, 99, 97, 99, 104, 101, 100, 95, 95]⟩ 174, .none⟩, ⟨PyData.keyHash P ⟨#[67, 82, 76, 70]⟩, .str ⟨#[67, 82, 76, 70]⟩ 188, .str ⟨#[13, 10]⟩ 187⟩, ⟨PyData.keyHash P ⟨#[78, 76]⟩, .str ⟨#[78, 76]⟩ 190, .str ⟨#[10]⟩ 189⟩, ⟨PyData.keyHash P ⟨#[95, 81, 85, 79, 80, 82, 73, 95, 77, 65, 80]⟩, .str ⟨#[95, 81, 85, 79, 80, 82, 73, 95, 77, 65, 80]⟩ 1218, .ref 17⟩, ⟨PyData.keyHash P ⟨#[95, 81, 85, 79, 80, 82, 73, 95, 72, 69, 65, 68, 69, 82, 95, 77, 65, 80]⟩, .str ⟨#[95, 81, 85, 79, 80, 82, 73, 95, 72, 69, 65, 68, 69, 82, 95, 77, 65, 80]⟩ 1219, .ref 22⟩, ⟨PyData.keyHash P ⟨#[95, 81, 85, 79, 80, 82, 73, 95, 66, 79, 68, 89, 95, 77, 65, 80]⟩, .str ⟨#[95, 81, 85, 79, 80, 82, 73, 95, 66, 79, 68, 89, 95, 77, 65, 80]⟩ 1220, .ref 24⟩, ⟨PyData.keyHash P ⟨#[97, 115, 99, 105, 105, 95, 108, 111, 119, 101, 114, 99, 97, 115, 101]⟩, .str ⟨#[97, 115, 99, 105, 105, 95, 108, 111, 119, 101, 114, 99, 97, 115, 101]⟩ 1222, .str ⟨#[97, 98, 99, 100, 101, 102, 103, 104, 105, 106, 107, 108, 109, 110, 111, 112, 113, 114, 115, 116, 117, 118, 119, 120, 121, 122]⟩ 1221⟩, ⟨PyData.keyHash P ⟨#[97, 115, 99, 105, 105, 95, 117, 112, 112, 101, 114, 99, 97, 115, 101]⟩, .str ⟨#[97, 115, 99, 105, 105, 95, 117, 112, 112, 101, 114, 99, 97, 115, 101]⟩ 1224, .str ⟨#[65, 66, 67, 68, 69, 70, 71, 72, 73, 74, 75, 76, 77, 78, 79, 80, 81, 82, 83, 84, 85, 86, 87, 88, 89, 90]⟩ 1223⟩, ⟨PyData.keyHash P ⟨#[97, 115, 99, 105, 105, 95, 108, 101, 116, 116, 101, 114, 115]⟩, .str ⟨#[97, 115, 99, 105, 105, 95, 108, 101, 116, 116, 101, 114, 115]⟩ 1226, .str ⟨#[97, 98, 99, 100, 101, 102, 103, 104, 105, 106, 107, 108, 109, 110, 111, 112, 113, 114, 115, 116, 117, 118, 119, 120, 121, 122, 65, 66, 67, 68, 69, 70, 71, 72, 73, 74, 75, 76, 77, 78, 79, 80, 81, 82, 83, 84, 85, 86, 87, 88, 89, 90]⟩ 1225⟩, ⟨PyData.keyHash P ⟨#[100, 105, 103, 105, 116, 115]⟩, .str ⟨#[100, 105, 103, 105, 116, 115]⟩ 1228, .str ⟨#[48, 49, 50, 51, 52, 53, 54, 55, 56, 57]⟩ 1227⟩]).toArray 18, #[]⟩
noncomputable def o21_17 (P : Params) : Obj := ⟨.type "slice", none, .fields ([.none, .none, .none]).toArray, #[]⟩
noncomputable def o22_18 (P : Params) : Obj := ⟨.type "list", none, .seq ([.str ⟨#[61, 48, 48]⟩ 197, .str ⟨#[61, 48, 49]⟩ 201, .str ⟨#[61, 48, 50]⟩ 205, .str ⟨#[61, 48, 51]⟩ 209, .str ⟨#[61, 48, 52]⟩ 213, .str ⟨#[61, 48, 53]⟩ 217, .str ⟨#[61, 48, 54]⟩ 221, .str ⟨#[61, 48, 55]⟩ 225, .str ⟨#[61, 48, 56]⟩ 229, .str ⟨#[61, 48, 57]⟩ 233, .str ⟨#[61, 48, 65]⟩ 237, .str ⟨#[61, 48, 66]⟩ 241, .str ⟨#[61, 48, 67]⟩ 245, .str ⟨#[61, 48, 68]⟩ 249, .str ⟨#[61, 48, 69]⟩ 253, .str ⟨#[61, 48, 70]⟩ 257, .str ⟨#[61, 49, 48]⟩ 261, .str ⟨#[61, 49, 49]⟩ 265, .str ⟨#[61, 49, 50]⟩ 269, .str ⟨#[61, 49, 51]⟩ 273, .str ⟨#[61, 49, 52]⟩ 277, .str ⟨#[61, 49, 53]⟩ 281, .str ⟨#[61, 49, 54]⟩ 285, .str ⟨#[61, 49, 55]⟩ 289, .str ⟨#[61, 49, 56]⟩ 293, .str ⟨#[61, 49, 57]⟩ 297, .str ⟨#[61, 49, 65]⟩ 301, .str ⟨#[61, 49, 66]⟩ 305, .str ⟨#[61, 49, 67]⟩ 309, .str ⟨#[61, 49, 68]⟩ 313, .str ⟨#[61, 49, 69]⟩ 317, .str ⟨#[61, 49, 70]⟩ 321, .str ⟨#[61, 50, 48]⟩ 325, .str ⟨#[61, 50, 49]⟩ 329, .str ⟨#[61, 50, 50]⟩ 333, .str ⟨#[61, 50, 51]⟩ 337, .str ⟨#[61, 50, 52]⟩ 341, .str ⟨#[61, 50, 53]⟩ 345, .str ⟨#[61, 50, 54]⟩ 349, .str ⟨#[61, 50, 55]⟩ 353, .str ⟨#[61, 50, 56]⟩ 357, .str ⟨#[61, 50, 57]⟩ 361, .str ⟨#[61, 50, 65]⟩ 365, .str ⟨#[61, 50, 66]⟩ 369, .str ⟨#[61, 50, 67]⟩ 373, .str ⟨#[61, 50, 68]⟩ 377, .str ⟨#[61, 50, 69]⟩ 381, .str ⟨#[61, 50, 70]⟩ 385, .str ⟨#[61, 51, 48]⟩ 389, .str ⟨#[61, 51, 49]⟩ 393, .str ⟨#[61, 51, 50]⟩ 397, .str ⟨#[61, 51, 51]⟩ 401, .str ⟨#[61, 51, 52]⟩ 405, .str ⟨#[61, 51, 53]⟩ 409, .str ⟨#[61, 51, 54]⟩ 413, .str ⟨#[61, 51, 55]⟩ 417, .str ⟨#[61, 51, 56]⟩ 421, .str ⟨#[61, 51, 57]⟩ 425, .str ⟨#[61, 51, 65]⟩ 429, .str ⟨#[61, 51, 66]⟩ 433, .str ⟨#[61, 51, 67]⟩ 437, .str ⟨#[61, 51, 68]⟩ 441, .str ⟨#[61, 51, 69]⟩ 445, .str ⟨#[61, 51, 70]⟩ 449, .str ⟨#[61, 52, 48]⟩ 453, .str ⟨#[61, 52, 49]⟩ 457, .str ⟨#[61, 52, 50]⟩ 461, .str ⟨#[61, 52, 51]⟩ 465, .str ⟨#[61, 52, 52]⟩ 469, .str ⟨#[61, 52, 53]⟩ 473, .str ⟨#[61, 52, 54]⟩ 477, .str ⟨#[61, 52, 55]⟩ 481, .str ⟨#[61, 52, 56]⟩ 485, .str ⟨#[61, 52, 57]⟩ 489, .str ⟨#[61, 52, 65]⟩ 493, .str ⟨#[61, 52, 66]⟩ 497, .str ⟨#[61, 52, 67]⟩ 501, .str ⟨#[61, 52, 68]⟩ 505, .str ⟨#[61, 52, 69]⟩ 509, .str ⟨#[61, 52, 70]⟩ 513, .str ⟨#[61, 53, 48]⟩ 517, .str ⟨#[61, 53, 49]⟩ 521, .str ⟨#[61, 53, 50]⟩ 525, .str ⟨#[61, 53, 51]⟩ 529, .str ⟨#[61, 53, 52]⟩ 533, .str ⟨#[61, 53, 53]⟩ 537, .str ⟨#[61, 53, 54]⟩ 541, .str ⟨#[61, 53, 55]⟩ 545, .str ⟨#[61, 53, 56]⟩ 549, .str ⟨#[61, 53, 57]⟩ 553, .str ⟨#[61, 53, 65]⟩ 557, .str ⟨#[61, 53, 66]⟩ 561, .str ⟨#[61, 53, 67]⟩ 565, .str ⟨#[61, 53, 68]⟩ 569, .str ⟨#[61, 53, 69]⟩ 573, .str ⟨#[61, 53, 70]⟩ 577, .str ⟨#[61, 54, 48]⟩ 581, .str ⟨#[61, 54, 49]⟩ 585, .str ⟨#[61, 54, 50]⟩ 589, .str ⟨#[61, 54, 51]⟩ 593, .str ⟨#[61, 54, 52]⟩ 597, .str ⟨#[61, 54, 53]⟩ 601, .str ⟨#[61, 54, 54]⟩ 605, .str ⟨#[61, 54, 55]⟩ 609, .str ⟨#[61, 54, 56]⟩ 613, .str ⟨#[61, 54, 57]⟩ 617, .str ⟨#[61, 54, 65]⟩ 621, .str ⟨#[61, 54, 66]⟩ 625, .str ⟨#[61, 54, 67]⟩ 629, .str ⟨#[61, 54, 68]⟩ 633, .str ⟨#[61, 54, 69]⟩ 637, .str ⟨#[61, 54, 70]⟩ 641, .str ⟨#[61, 55, 48]⟩ 645, .str ⟨#[61, 55, 49]⟩ 649, .str ⟨#[61, 55, 50]⟩ 653, .str ⟨#[61, 55, 51]⟩ 657, .str ⟨#[61, 55, 52]⟩ 661, .str ⟨#[61, 55, 53]⟩ 665, .str ⟨#[61, 55, 54]⟩ 669, .str ⟨#[61, 55, 55]⟩ 673, .str ⟨#[61, 55, 56]⟩ 677, .str ⟨#[61, 55, 57]⟩ 681, .str ⟨#[61, 55, 65]⟩ 685, .str ⟨#[61, 55, 66]⟩ 689, .str ⟨#[61, 55, 67]⟩ 693, .str ⟨#[61, 55, 68]⟩ 697, .str ⟨#[61, 55, 69]⟩ 701, .str ⟨#[61, 55, 70]⟩ 705, .str ⟨#[61, 56, 48]⟩ 709, .str ⟨#[61, 56, 49]⟩ 713, .str ⟨#[61, 56, 50]⟩ 717, .str ⟨#[61, 56, 51]⟩ 721, .str ⟨#[61, 56, 52]⟩ 725, .str ⟨#[61, 56, 53]⟩ 729, .str ⟨#[61, 56, 54]⟩ 733, .str ⟨#[61, 56, 55]⟩ 737, .str ⟨#[61, 56, 56]⟩ 741, .str ⟨#[61, 56, 57]⟩ 745, .str ⟨#[61, 56, 65]⟩ 749, .str ⟨#[61, 56, 66]⟩ 753, .str ⟨#[61, 56, 67]⟩ 757, .str ⟨#[61, 56, 68]⟩ 761, .str ⟨#[61, 56, 69]⟩ 765, .str ⟨#[61, 56, 70]⟩ 769, .str ⟨#[61, 57, 48]⟩ 773, .str ⟨#[61, 57, 49]⟩ 777, .str ⟨#[61, 57, 50]⟩ 781, .str ⟨#[61, 57, 51]⟩ 785, .str ⟨#[61, 57, 52]⟩ 789, .str ⟨#[61, 57, 53]⟩ 793, .str ⟨#[61, 57, 54]⟩ 797, .str ⟨#[61, 57, 55]⟩ 801, .str ⟨#[61, 57, 56]⟩ 805, .str ⟨#[61, 57, 57]⟩ 809, .str ⟨#[61, 57, 65]⟩ 813, .str ⟨#[61, 57, 66]⟩ 817, .str ⟨#[61, 57, 67]⟩ 821, .str ⟨#[61, 57, 68]⟩ 825, .str ⟨#[61, 57, 69]⟩ 829, .str ⟨#[61, 57, 70]⟩ 833, .str ⟨#[61, 65, 48]⟩ 837, .str ⟨#[61, 65, 49]⟩ 841, .str ⟨#[61, 65, 50]⟩ 845, .str ⟨#[61, 65, 51]⟩ 849, .str ⟨#[61, 65, 52]⟩ 853, .str ⟨#[61, 65, 53]⟩ 857, .str ⟨#[61, 65, 54]⟩ 861, .str ⟨#[61, 65, 55]⟩ 865, .str ⟨#[61, 65, 56]⟩ 869, .str ⟨#[61, 65, 57]⟩ 873, .str ⟨#[61, 65, 65]⟩ 877, .str ⟨#[61, 65, 66]⟩ 881, .str ⟨#[61, 65, 67]⟩ 885, .str ⟨#[61, 65, 68]⟩ 889, .str ⟨#[61, 65, 69]⟩ 893, .str ⟨#[61, 65, 70]⟩ 897, .str ⟨#[61, 66, 48]⟩ 901, .str ⟨#[61, 66, 49]⟩ 905, .str ⟨#[61, 66, 50]⟩ 909, .str ⟨#[61, 66, 51]⟩ 913, .str ⟨#[61, 66, 52]⟩ 917, .str ⟨#[61, 66, 53]⟩ 921, .str ⟨#[61, 66, 54]⟩ 925, .str ⟨#[61, 66, 55]⟩ 929, .str ⟨#[61, 66, 56]⟩ 933, .str ⟨#[61, 66, 57]⟩ 937, .str ⟨#[61, 66, 65]⟩ 941, .str ⟨#[61, 66, 66]⟩ 945, .str ⟨#[61, 66, 67]⟩ 949, .str ⟨#[61, 66, 68]⟩ 953, .str ⟨#[61, 66, 69]⟩ 957, .str ⟨#[61, 66, 70]⟩ 961, .str ⟨#[61, 67, 48]⟩ 965, .str ⟨#[61, 67, 49]⟩ 969, .str ⟨#[61, 67, 50]⟩ 973, .str ⟨#[61, 67, 51]⟩ 977, .str ⟨#[61, 67, 52]⟩ 981, .str ⟨#[61, 67, 53]⟩ 985, .str ⟨#[61, 67, 54]⟩ 989, .str ⟨#[61, 67, 55]⟩ 993, .str ⟨#[61, 67, 56]⟩ 997, .str ⟨#[61, 67, 57]⟩ 1001, .str ⟨#[61, 67, 65]⟩ 1005, .str ⟨#[61, 67, 66]⟩ 1009, .str ⟨#[61, 67, 67]⟩ 1013, .str ⟨#[61, 67, 68]⟩ 1017, .str ⟨#[61, 67, 69]⟩ 1021, .str ⟨#[61, 67, 70]⟩ 1025, .str ⟨#[61, 68, 48]⟩ 1029, .str ⟨#[61, 68, 49]⟩ 1033, .str ⟨#[61, 68, 50]⟩ 1037, .str ⟨#[61, 68, 51]⟩ 1041, .str ⟨#[61, 68, 52]⟩ 1045, .str ⟨#[61, 68, 53]⟩ 1049, .str ⟨#[61, 68, 54]⟩ 1053, .str ⟨#[61, 68, 55]⟩ 1057, .str ⟨#[61, 68, 56]⟩ 1061, .str ⟨#[61, 68, 57]⟩ 1065, .str ⟨#[61, 68, 65]⟩ 1069, .str ⟨#[61, 68, 66]⟩ 1073, .str ⟨#[61, 68, 67]⟩ 1077, .str ⟨#[61, 68, 68]⟩ 1081, .str ⟨#[61, 68, 69]⟩ 1085, .str ⟨#[61, 68, 70]⟩ 1089, .str ⟨#[61, 69, 48]⟩ 1093, .str ⟨#[61, 69, 49]⟩ 1097, .str ⟨#[61, 69, 50]⟩ 1101, .str ⟨#[61, 69, 51]⟩ 1105, .str ⟨#[61, 69, 52]⟩ 1109, .str ⟨#[61, 69, 53]⟩ 1113, .str ⟨#[61, 69, 54]⟩ 1117, .str ⟨#[61, 69, 55]⟩ 1121, .str ⟨#[61, 69, 56]⟩ 1125, .str ⟨#[61, 69, 57]⟩ 1129, .str ⟨#[61, 69, 65]⟩ 1133, .str ⟨#[61, 69, 66]⟩ 1137, .str ⟨#[61, 69, 67]⟩ 1141, .str ⟨#[61, 69, 68]⟩ 1145, .str ⟨#[61, 69, 69]⟩ 1149, .str ⟨#[61, 69, 70]⟩ 1153, .str ⟨#[61, 70, 48]⟩ 1157, .str ⟨#[61, 70, 49]⟩ 1161, .str ⟨#[61, 70, 50]⟩ 1165, .str ⟨#[61, 70, 51]⟩ 1169, .str ⟨#[61, 70, 52]⟩ 1173, .str ⟨#[61, 70, 53]⟩ 1177, .str ⟨#[61, 70, 54]⟩ 1181, .str ⟨#[61, 70, 55]⟩ 1185, .str ⟨#[61, 70, 56]⟩ 1189, .str ⟨#[61, 70, 57]⟩ 1193, .str ⟨#[61, 70, 65]⟩ 1197, .str ⟨#[61, 70, 66]⟩ 1201, .str ⟨#[61, 70, 67]⟩ 1205, .str ⟨#[61, 70, 68]⟩ 1209, .str ⟨#[61, 70, 69]⟩ 1213, .str ⟨#[61, 70, 70]⟩ 1217]).toArray 0, #[]⟩
noncomputable def o23_19 (P : Params) : Obj := ⟨.type "slice", none, .fields ([.none, .none, .none]).toArray, #[]⟩
noncomputable def o24_20 (P : Params) : Obj := ⟨.type "list", none, .seq ([.str ⟨#[61, 48, 48]⟩ 197, .str ⟨#[61, 48, 49]⟩ 201, .str ⟨#[61, 48, 50]⟩ 205, .str ⟨#[61, 48, 51]⟩ 209, .str ⟨#[61, 48, 52]⟩ 213, .str ⟨#[61, 48, 53]⟩ 217, .str ⟨#[61, 48, 54]⟩ 221, .str ⟨#[61, 48, 55]⟩ 225, .str ⟨#[61, 48, 56]⟩ 229, .str ⟨#[61, 48, 57]⟩ 233, .str ⟨#[61, 48, 65]⟩ 237, .str ⟨#[61, 48, 66]⟩ 241, .str ⟨#[61, 48, 67]⟩ 245, .str ⟨#[61, 48, 68]⟩ 249, .str ⟨#[61, 48, 69]⟩ 253, .str ⟨#[61, 48, 70]⟩ 257, .str ⟨#[61, 49, 48]⟩ 261, .str ⟨#[61, 49, 49]⟩ 265, .str ⟨#[61, 49, 50]⟩ 269, .str ⟨#[61, 49, 51]⟩ 273, .str ⟨#[61, 49, 52]⟩ 277, .str ⟨#[61, 49, 53]⟩ 281, .str ⟨#[61, 49, 54]⟩ 285, .str ⟨#[61, 49, 55]⟩ 289, .str ⟨#[61, 49, 56]⟩ 293, .str ⟨#[61, 49, 57]⟩ 297, .str ⟨#[61, 49, 65]⟩ 301, .str ⟨#[61, 49, 66]⟩ 305, .str ⟨#[61, 49, 67]⟩ 309, .str ⟨#[61, 49, 68]⟩ 313, .str ⟨#[61, 49, 69]⟩ 317, .str ⟨#[61, 49, 70]⟩ 321, .str ⟨#[61, 50, 48]⟩ 325, .str ⟨#[61, 50, 49]⟩ 329, .str ⟨#[61, 50, 50]⟩ 333, .str ⟨#[61, 50, 51]⟩ 337, .str ⟨#[61, 50, 52]⟩ 341, .str ⟨#[61, 50, 53]⟩ 345, .str ⟨#[61, 50, 54]⟩ 349, .str ⟨#[61, 50, 55]⟩ 353, .str ⟨#[61, 50, 56]⟩ 357, .str ⟨#[61, 50, 57]⟩ 361, .str ⟨#[61, 50, 65]⟩ 365, .str ⟨#[61, 50, 66]⟩ 369, .str ⟨#[61, 50, 67]⟩ 373, .str ⟨#[61, 50, 68]⟩ 377, .str ⟨#[61, 50, 69]⟩ 381, .str ⟨#[61, 50, 70]⟩ 385, .str ⟨#[61, 51, 48]⟩ 389, .str ⟨#[61, 51, 49]⟩ 393, .str ⟨#[61, 51, 50]⟩ 397, .str ⟨#[61, 51, 51]⟩ 401, .str ⟨#[61, 51, 52]⟩ 405, .str ⟨#[61, 51, 53]⟩ 409, .str ⟨#[61, 51, 54]⟩ 413, .str ⟨#[61, 51, 55]⟩ 417, .str ⟨#[61, 51, 56]⟩ 421, .str ⟨#[61, 51, 57]⟩ 425, .str ⟨#[61, 51, 65]⟩ 429, .str ⟨#[61, 51, 66]⟩ 433, .str ⟨#[61, 51, 67]⟩ 437, .str ⟨#[61, 51, 68]⟩ 441, .str ⟨#[61, 51, 69]⟩ 445, .str ⟨#[61, 51, 70]⟩ 449, .str ⟨#[61, 52, 48]⟩ 453, .str ⟨#[61, 52, 49]⟩ 457, .str ⟨#[61, 52, 50]⟩ 461, .str ⟨#[61, 52, 51]⟩ 465, .str ⟨#[61, 52, 52]⟩ 469, .str ⟨#[61, 52, 53]⟩ 473, .str ⟨#[61, 52, 54]⟩ 477, .str ⟨#[61, 52, 55]⟩ 481, .str ⟨#[61, 52, 56]⟩ 485, .str ⟨#[61, 52, 57]⟩ 489, .str ⟨#[61, 52, 65]⟩ 493, .str ⟨#[61, 52, 66]⟩ 497, .str ⟨#[61, 52, 67]⟩ 501, .str ⟨#[61, 52, 68]⟩ 505, .str ⟨#[61, 52, 69]⟩ 509, .str ⟨#[61, 52, 70]⟩ 513, .str ⟨#[61, 53, 48]⟩ 517, .str ⟨#[61, 53, 49]⟩ 521, .str ⟨#[61, 53, 50]⟩ 525, .str ⟨#[61, 53, 51]⟩ 529, .str ⟨#[61, 53, 52]⟩ 533, .str ⟨#[61, 53, 53]⟩ 537, .str ⟨#[61, 53, 54]⟩ 541, .str ⟨#[61, 53, 55]⟩ 545, .str ⟨#[61, 53, 56]⟩ 549, .str ⟨#[61, 53, 57]⟩ 553, .str ⟨#[61, 53, 65]⟩ 557, .str ⟨#[61, 53, 66]⟩ 561, .str ⟨#[61, 53, 67]⟩ 565, .str ⟨#[61, 53, 68]⟩ 569, .str ⟨#[61, 53, 69]⟩ 573, .str ⟨#[61, 53, 70]⟩ 577, .str ⟨#[61, 54, 48]⟩ 581, .str ⟨#[61, 54, 49]⟩ 585, .str ⟨#[61, 54, 50]⟩ 589, .str ⟨#[61, 54, 51]⟩ 593, .str ⟨#[61, 54, 52]⟩ 597, .str ⟨#[61, 54, 53]⟩ 601, .str ⟨#[61, 54, 54]⟩ 605, .str ⟨#[61, 54, 55]⟩ 609, .str ⟨#[61, 54, 56]⟩ 613, .str ⟨#[61, 54, 57]⟩ 617, .str ⟨#[61, 54, 65]⟩ 621, .str ⟨#[61, 54, 66]⟩ 625, .str ⟨#[61, 54, 67]⟩ 629, .str ⟨#[61, 54, 68]⟩ 633, .str ⟨#[61, 54, 69]⟩ 637, .str ⟨#[61, 54, 70]⟩ 641, .str ⟨#[61, 55, 48]⟩ 645, .str ⟨#[61, 55, 49]⟩ 649, .str ⟨#[61, 55, 50]⟩ 653, .str ⟨#[61, 55, 51]⟩ 657, .str ⟨#[61, 55, 52]⟩ 661, .str ⟨#[61, 55, 53]⟩ 665, .str ⟨#[61, 55, 54]⟩ 669, .str ⟨#[61, 55, 55]⟩ 673, .str ⟨#[61, 55, 56]⟩ 677, .str ⟨#[61, 55, 57]⟩ 681, .str ⟨#[61, 55, 65]⟩ 685, .str ⟨#[61, 55, 66]⟩ 689, .str ⟨#[61, 55, 67]⟩ 693, .str ⟨#[61, 55, 68]⟩ 697, .str ⟨#[61, 55, 69]⟩ 701, .str ⟨#[61, 55, 70]⟩ 705, .str ⟨#[61, 56, 48]⟩ 709, .str ⟨#[61, 56, 49]⟩ 713, .str ⟨#[61, 56, 50]⟩ 717, .str ⟨#[61, 56, 51]⟩ 721, .str ⟨#[61, 56, 52]⟩ 725, .str ⟨#[61, 56, 53]⟩ 729, .str ⟨#[61, 56, 54]⟩ 733, .str ⟨#[61, 56, 55]⟩ 737, .str ⟨#[61, 56, 56]⟩ 741, .str ⟨#[61, 56, 57]⟩ 745, .str ⟨#[61, 56, 65]⟩ 749, .str ⟨#[61, 56, 66]⟩ 753, .str ⟨#[61, 56, 67]⟩ 757, .str ⟨#[61, 56, 68]⟩ 761, .str ⟨#[61, 56, 69]⟩ 765, .str ⟨#[61, 56, 70]⟩ 769, .str ⟨#[61, 57, 48]⟩ 773, .str ⟨#[61, 57, 49]⟩ 777, .str ⟨#[61, 57, 50]⟩ 781, .str ⟨#[61, 57, 51]⟩ 785, .str ⟨#[61, 57, 52]⟩ 789, .str ⟨#[61, 57, 53]⟩ 793, .str ⟨#[61, 57, 54]⟩ 797, .str ⟨#[61, 57, 55]⟩ 801, .str ⟨#[61, 57, 56]⟩ 805, .str ⟨#[61, 57, 57]⟩ 809, .str ⟨#[61, 57, 65]⟩ 813, .str ⟨#[61, 57, 66]⟩ 817, .str ⟨#[61, 57, 67]⟩ 821, .str ⟨#[61, 57, 68]⟩ 825, .str ⟨#[61, 57, 69]⟩ 829, .str ⟨#[61, 57, 70]⟩ 833, .str ⟨#[61, 65, 48]⟩ 837, .str ⟨#[61, 65, 49]⟩ 841, .str ⟨#[61, 65, 50]⟩ 845, .str ⟨#[61, 65, 51]⟩ 849, .str ⟨#[61, 65, 52]⟩ 853, .str ⟨#[61, 65, 53]⟩ 857, .str ⟨#[61, 65, 54]⟩ 861, .str ⟨#[61, 65, 55]⟩ 865, .str ⟨#[61, 65, 56]⟩ 869, .str ⟨#[61, 65, 57]⟩ 873, .str ⟨#[61, 65, 65]⟩ 877, .str ⟨#[61, 65, 66]⟩ 881, .str ⟨#[61, 65, 67]⟩ 885, .str ⟨#[61, 65, 68]⟩ 889, .str ⟨#[61, 65, 69]⟩ 893, .str ⟨#[61, 65, 70]⟩ 897, .str ⟨#[61, 66, 48]⟩ 901, .str ⟨#[61, 66, 49]⟩ 905, .str ⟨#[61, 66, 50]⟩ 909, .str ⟨#[61, 66, 51]⟩ 913, .str ⟨#[61, 66, 52]⟩ 917, .str ⟨#[61, 66, 53]⟩ 921, .str ⟨#[61, 66, 54]⟩ 925, .str ⟨#[61, 66, 55]⟩ 929, .str ⟨#[61, 66, 56]⟩ 933, .str ⟨#[61, 66, 57]⟩ 937, .str ⟨#[61, 66, 65]⟩ 941, .str ⟨#[61, 66, 66]⟩ 945, .str ⟨#[61, 66, 67]⟩ 949, .str ⟨#[61, 66, 68]⟩ 953, .str ⟨#[61, 66, 69]⟩ 957, .str ⟨#[61, 66, 70]⟩ 961, .str ⟨#[61, 67, 48]⟩ 965, .str ⟨#[61, 67, 49]⟩ 969, .str ⟨#[61, 67, 50]⟩ 973, .str ⟨#[61, 67, 51]⟩ 977, .str ⟨#[61, 67, 52]⟩ 981, .str ⟨#[61, 67, 53]⟩ 985, .str ⟨#[61, 67, 54]⟩ 989, .str ⟨#[61, 67, 55]⟩ 993, .str ⟨#[61, 67, 56]⟩ 997, .str ⟨#[61, 67, 57]⟩ 1001, .str ⟨#[61, 67, 65]⟩ 1005, .str ⟨#[61, 67, 66]⟩ 1009, .str ⟨#[61, 67, 67]⟩ 1013, .str ⟨#[61, 67, 68]⟩ 1017, .str ⟨#[61, 67, 69]⟩ 1021, .str ⟨#[61, 67, 70]⟩ 1025, .str ⟨#[61, 68, 48]⟩ 1029, .str ⟨#[61, 68, 49]⟩ 1033, .str ⟨#[61, 68, 50]⟩ 1037, .str ⟨#[61, 68, 51]⟩ 1041, .str ⟨#[61, 68, 52]⟩ 1045, .str ⟨#[61, 68, 53]⟩ 1049, .str ⟨#[61, 68, 54]⟩ 1053, .str ⟨#[61, 68, 55]⟩ 1057, .str ⟨#[61, 68, 56]⟩ 1061, .str ⟨#[61, 68, 57]⟩ 1065, .str ⟨#[61, 68, 65]⟩ 1069, .str ⟨#[61, 68, 66]⟩ 1073, .str ⟨#[61, 68, 67]⟩ 1077, .str ⟨#[61, 68, 68]⟩ 1081, .str ⟨#[61, 68, 69]⟩ 1085, .str ⟨#[61, 68, 70]⟩ 1089, .str ⟨#[61, 69, 48]⟩ 1093, .str ⟨#[61, 69, 49]⟩ 1097, .str ⟨#[61, 69, 50]⟩ 1101, .str ⟨#[61, 69, 51]⟩ 1105, .str ⟨#[61, 69, 52]⟩ 1109, .str ⟨#[61, 69, 53]⟩ 1113, .str ⟨#[61, 69, 54]⟩ 1117, .str ⟨#[61, 69, 55]⟩ 1121, .str ⟨#[61, 69, 56]⟩ 1125, .str ⟨#[61, 69, 57]⟩ 1129, .str ⟨#[61, 69, 65]⟩ 1133, .str ⟨#[61, 69, 66]⟩ 1137, .str ⟨#[61, 69, 67]⟩ 1141, .str ⟨#[61, 69, 68]⟩ 1145, .str ⟨#[61, 69, 69]⟩ 1149, .str ⟨#[61, 69, 70]⟩ 1153, .str ⟨#[61, 70, 48]⟩ 1157, .str ⟨#[61, 70, 49]⟩ 1161, .str ⟨#[61, 70, 50]⟩ 1165, .str ⟨#[61, 70, 51]⟩ 1169, .str ⟨#[61, 70, 52]⟩ 1173, .str ⟨#[61, 70, 53]⟩ 1177, .str ⟨#[61, 70, 54]⟩ 1181, .str ⟨#[61, 70, 55]⟩ 1185, .str ⟨#[61, 70, 56]⟩ 1189, .str ⟨#[61, 70, 57]⟩ 1193, .str ⟨#[61, 70, 65]⟩ 1197, .str ⟨#[61, 70, 66]⟩ 1201, .str ⟨#[61, 70, 67]⟩ 1205, .str ⟨#[61, 70, 68]⟩ 1209, .str ⟨#[61, 70, 69]⟩ 1213, .str ⟨#[61, 70, 70]⟩ 1217]).toArray 0, #[]⟩
noncomputable def tr_s9 (P : Params) : BT := (.node (boot_o_0 P) (.node (boot_o_1 P) (.node (o3_16 P) (.node (boot_o_7 P) (.node (o15_10 P) .nil .nil) (.node (o23_19 P) .nil .nil)) (.node (o11_0 P) (.node (o19_14 P) .nil .nil) .nil)) (.node (boot_o_5 P) (.node (boot_o_9 P) (.node (o17_12 P) .nil .nil) .nil) (.node (o13_2 P) (.node (o21_17 P) .nil .nil) .nil))) (.node (boot_o_2 P) (.node (boot_o_4 P) (.node (boot_o_8 P) (.node (o16_11 P) .nil .nil) (.node (o24_20 P) .nil .nil)) (.node (o12_1 P) (.node (o20_15 P) .nil .nil) .nil)) (.node (boot_o_6 P) (.node (boot_o_10 P) (.node (o18_13 P) .nil .nil) .nil) (.node (o14_3 P) (.node (o22_18 P) .nil .nil) .nil))))
noncomputable def s9 (w : World) (os : OsState) : SharedT := ⟨tr_s9 w.params, 25, life0, Array.mk [], boot_drawn, 1231, os⟩
noncomputable def gr3_sts : List Stmt := [stm 3, stm 4, stm 5, stm 6, stm 7, stm 8, stm 9]
theorem gr3_q (w : World) (os : OsState) : PySem.W.Fast.tw10110043849684766642 PySem.W.Fast.tw14364793385576792824 PR w 11 ann0 1 109 (s2 w os) ⟨(PySem.W.Fast.tw12563942051412417395 gr3_sts env0).wrap doneF deadEnd id id, cE, ⟨3, 0, 3, 11⟩, B0⟩ = some (.next, s9 w os, cE, ⟨10, 0, 10, 8⟩) := by kernel_rfl
def gr3_P (w : World) : Prop := ∀ os : OsState, segRun treeTable PR w 11 ann0 1 109 (s2 w os).abs (piecesOf gr3_sts env0 cE ⟨3, 0, 3, 11⟩ B0) = some (.next, (s9 w os).abs, cE, ⟨10, 0, 10, 8⟩)
theorem gr3_all (w : World) : gr3_P w := (fun os => startR (gr3_q w os))
noncomputable def o3_21 (P : Params) : Obj := ⟨.type "dict", none, .dict ([⟨PyData.keyHash P ⟨#[95, 95, 110, 97, 109, 101, 95, 95]⟩, .str ⟨#[95, 95, 110, 97, 109, 101, 95, 95]⟩ 165, .str ⟨#[99, 112, 121, 51, 49, 51, 46, 101, 109, 97, 105, 108, 46, 113, 117, 111, 112, 114, 105, 109, 105, 109, 101]⟩ 1229⟩, ⟨PyData.keyHash P ⟨#[95, 95, 100, 111, 99, 95, 95]⟩, .str ⟨#[95, 95, 100, 111, 99, 95, 95]⟩ 166, .none⟩, ⟨PyData.keyHash P ⟨#[95, 95, 112, 97, 99, 107, 97, 103, 101, 95, 95]⟩, .str ⟨#[95, 95, 112, 97, 99, 107, 97, 103, 101, 95, 95]⟩ 167, .none⟩, ⟨PyData.keyHash P ⟨#[95, 95, 108, 111, 97, 100, 101, 114, 95, 95]⟩, .str ⟨#[95, 95, 108, 111, 97, 100, 101, 114, 95, 95]⟩ 168, .builtin "__main__.__loader__#opaque"⟩, ⟨PyData.keyHash P ⟨#[95, 95, 115, 112, 101, 99, 95, 95]⟩, .str ⟨#[95, 95, 115, 112, 101, 99, 95, 95]⟩ 169, .none⟩, ⟨PyData.keyHash P ⟨#[95, 95, 97, 110, 110, 111, 116, 97, 116, 105, 111, 110, 115, 95, 95]⟩, .str ⟨#[95, 95, 97, 110, 110, 111, 116, 97, 116, 105, 111, 110, 115, 95, 95]⟩ 170, .ref 6⟩, ⟨PyData.keyHash P ⟨#[95, 95, 98, 117, 105, 108, 116, 105, 110, 115, 95, 95]⟩, .str ⟨#[95, 95, 98, 117, 105, 108, 116, 105, 110, 115, 95, 95]⟩ 171, .ref 4⟩, ⟨PyData.keyHash P ⟨#[95, 95, 102, 105, 108, 101, 95, 95]⟩, .str ⟨#[95, 95, 102, 105, 108, 101, 95, 95]⟩ 173, .str ⟨#[47, 99, 108, 97, 105, 109, 47, 99, 117, 116, 46, 112, 121]⟩ 172⟩, ⟨PyData.keyHash P ⟨#[95, 95, 99, 97, 99, 104, 101, 100, 95, 95]⟩, .str ⟨#[95, 95, 99, 97, 99, 104, 101, 100, 95, 95]⟩ 174, .none⟩, ⟨PyData.keyHash P ⟨#[67, 82, 76, 70]⟩, .str ⟨#[67, 82, 76, 70]⟩ 188, .str ⟨#[13, 10]⟩ 187⟩, ⟨PyData.keyHash P ⟨#[78, 76]⟩, .str ⟨#[78, 76]⟩ 190, .str ⟨#[10]⟩ 189⟩, ⟨PyData.keyHash P ⟨#[95, 81, 85, 79, 80, 82, 73, 95, 77, 65, 80]⟩, .str ⟨#[95, 81, 85, 79, 80, 82, 73, 95, 77, 65, 80]⟩ 1218, .ref 17⟩, ⟨PyData.keyHash P ⟨#[95, 81, 85, 79, 80, 82, 73, 95, 72, 69, 65, 68, 69, 82, 95, 77, 65, 80]⟩, .str ⟨#[95, 81, 85, 79, 80, 82, 73, 95, 72, 69, 65, 68, 69, 82, 95, 77, 65, 80]⟩ 1219, .ref 22⟩, ⟨PyData.keyHash P ⟨#[95, 81, 85, 79, 80, 82, 73, 95, 66, 79, 68, 89, 95, 77, 65, 80]⟩, .str ⟨#[95, 81, 85, 79, 80, 82, 73, 95, 66, 79, 68, 89, 95, 77, 65, 80]⟩ 1220, .ref 24⟩, ⟨PyData.keyHash P ⟨#[97, 115, 99, 105, 105, 95, 108, 111, 119, 101, 114, 99, 97, 115, 101]⟩, .str ⟨#[97, 115, 99, 105, 105, 95, 108, 111, 119, 101, 114, 99, 97, 115, 101]⟩ 1222, .str ⟨#[97, 98, 99, 100, 101, 102, 103, 104, 105, 106, 107, 108, 109, 110, 111, 112, 113, 114, 115, 116, 117, 118, 119, 120, 121, 122]⟩ 1221⟩, ⟨PyData.keyHash P ⟨#[97, 115, 99, 105, 105, 95, 117, 112, 112, 101, 114, 99, 97, 115, 101]⟩, .str ⟨#[97, 115, 99, 105, 105, 95, 117, 112, 112, 101, 114, 99, 97, 115, 101]⟩ 1224, .str ⟨#[65, 66, 67, 68, 69, 70, 71, 72, 73, 74, 75, 76, 77, 78, 79, 80, 81, 82, 83, 84, 85, 86, 87, 88, 89, 90]⟩ 1223⟩, ⟨PyData.keyHash P ⟨#[97, 115, 99, 105, 105, 95, 108, 101, 116, 116, 101, 114, 115]⟩, .str ⟨#[97, 115, 99, 105, 105, 95, 108, 101, 116, 116, 101, 114, 115]⟩ 1226, .str ⟨#[97, 98, 99, 100, 101, 102, 103, 104, 105, 106, 107, 108, 109, 110, 111, 112, 113, 114, 115, 116, 117, 118, 119, 120, 121, 122, 65, 66, 67, 68, 69, 70, 71, 72, 73, 74, 75, 76, 77, 78, 79, 80, 81, 82, 83, 84, 85, 86, 87, 88, 89, 90]⟩ 1225⟩, ⟨PyData.keyHash P ⟨#[100, 105, 103, 105, 116, 115]⟩, .str ⟨#[100, 105, 103, 105, 116, 115]⟩ 1228, .str ⟨#[48, 49, 50, 51, 52, 53, 54, 55, 56, 57]⟩ 1227⟩, ⟨PyData.keyHash P ⟨#[99]⟩, .str ⟨#[99]⟩ 1239, .int 45 1238⟩]).toArray 19, #[]⟩
noncomputable def o22_22 (P : Params) : Obj := ⟨.type "list", none, .seq ([.str ⟨#[61, 48, 48]⟩ 197, .str ⟨#[61, 48, 49]⟩ 201, .str ⟨#[61, 48, 50]⟩ 205, .str ⟨#[61, 48, 51]⟩ 209, .str ⟨#[61, 48, 52]⟩ 213, .str ⟨#[61, 48, 53]⟩ 217, .str ⟨#[61, 48, 54]⟩ 221, .str ⟨#[61, 48, 55]⟩ 225, .str ⟨#[61, 48, 56]⟩ 229, .str ⟨#[61, 48, 57]⟩ 233, .str ⟨#[61, 48, 65]⟩ 237, .str ⟨#[61, 48, 66]⟩ 241, .str ⟨#[61, 48, 67]⟩ 245, .str ⟨#[61, 48, 68]⟩ 249, .str ⟨#[61, 48, 69]⟩ 253, .str ⟨#[61, 48, 70]⟩ 257, .str ⟨#[61, 49, 48]⟩ 261, .str ⟨#[61, 49, 49]⟩ 265, .str ⟨#[61, 49, 50]⟩ 269, .str ⟨#[61, 49, 51]⟩ 273, .str ⟨#[61, 49, 52]⟩ 277, .str ⟨#[61, 49, 53]⟩ 281, .str ⟨#[61, 49, 54]⟩ 285, .str ⟨#[61, 49, 55]⟩ 289, .str ⟨#[61, 49, 56]⟩ 293, .str ⟨#[61, 49, 57]⟩ 297, .str ⟨#[61, 49, 65]⟩ 301, .str ⟨#[61, 49, 66]⟩ 305, .str ⟨#[61, 49, 67]⟩ 309, .str ⟨#[61, 49, 68]⟩ 313, .str ⟨#[61, 49, 69]⟩ 317, .str ⟨#[61, 49, 70]⟩ 321, .str ⟨#[61, 50, 48]⟩ 325, .str ⟨#[61, 50, 49]⟩ 329, .str ⟨#[61, 50, 50]⟩ 333, .str ⟨#[61, 50, 51]⟩ 337, .str ⟨#[61, 50, 52]⟩ 341, .str ⟨#[61, 50, 53]⟩ 345, .str ⟨#[61, 50, 54]⟩ 349, .str ⟨#[61, 50, 55]⟩ 353, .str ⟨#[61, 50, 56]⟩ 357, .str ⟨#[61, 50, 57]⟩ 361, .str ⟨#[61, 50, 65]⟩ 365, .str ⟨#[61, 50, 66]⟩ 369, .str ⟨#[61, 50, 67]⟩ 373, .str ⟨#[45]⟩ 1240, .str ⟨#[61, 50, 69]⟩ 381, .str ⟨#[61, 50, 70]⟩ 385, .str ⟨#[61, 51, 48]⟩ 389, .str ⟨#[61, 51, 49]⟩ 393, .str ⟨#[61, 51, 50]⟩ 397, .str ⟨#[61, 51, 51]⟩ 401, .str ⟨#[61, 51, 52]⟩ 405, .str ⟨#[61, 51, 53]⟩ 409, .str ⟨#[61, 51, 54]⟩ 413, .str ⟨#[61, 51, 55]⟩ 417, .str ⟨#[61, 51, 56]⟩ 421, .str ⟨#[61, 51, 57]⟩ 425, .str ⟨#[61, 51, 65]⟩ 429, .str ⟨#[61, 51, 66]⟩ 433, .str ⟨#[61, 51, 67]⟩ 437, .str ⟨#[61, 51, 68]⟩ 441, .str ⟨#[61, 51, 69]⟩ 445, .str ⟨#[61, 51, 70]⟩ 449, .str ⟨#[61, 52, 48]⟩ 453, .str ⟨#[61, 52, 49]⟩ 457, .str ⟨#[61, 52, 50]⟩ 461, .str ⟨#[61, 52, 51]⟩ 465, .str ⟨#[61, 52, 52]⟩ 469, .str ⟨#[61, 52, 53]⟩ 473, .str ⟨#[61, 52, 54]⟩ 477, .str ⟨#[61, 52, 55]⟩ 481, .str ⟨#[61, 52, 56]⟩ 485, .str ⟨#[61, 52, 57]⟩ 489, .str ⟨#[61, 52, 65]⟩ 493, .str ⟨#[61, 52, 66]⟩ 497, .str ⟨#[61, 52, 67]⟩ 501, .str ⟨#[61, 52, 68]⟩ 505, .str ⟨#[61, 52, 69]⟩ 509, .str ⟨#[61, 52, 70]⟩ 513, .str ⟨#[61, 53, 48]⟩ 517, .str ⟨#[61, 53, 49]⟩ 521, .str ⟨#[61, 53, 50]⟩ 525, .str ⟨#[61, 53, 51]⟩ 529, .str ⟨#[61, 53, 52]⟩ 533, .str ⟨#[61, 53, 53]⟩ 537, .str ⟨#[61, 53, 54]⟩ 541, .str ⟨#[61, 53, 55]⟩ 545, .str ⟨#[61, 53, 56]⟩ 549, .str ⟨#[61, 53, 57]⟩ 553, .str ⟨#[61, 53, 65]⟩ 557, .str ⟨#[61, 53, 66]⟩ 561, .str ⟨#[61, 53, 67]⟩ 565, .str ⟨#[61, 53, 68]⟩ 569, .str ⟨#[61, 53, 69]⟩ 573, .str ⟨#[61, 53, 70]⟩ 577, .str ⟨#[61, 54, 48]⟩ 581, .str ⟨#[61, 54, 49]⟩ 585, .str ⟨#[61, 54, 50]⟩ 589, .str ⟨#[61, 54, 51]⟩ 593, .str ⟨#[61, 54, 52]⟩ 597, .str ⟨#[61, 54, 53]⟩ 601, .str ⟨#[61, 54, 54]⟩ 605, .str ⟨#[61, 54, 55]⟩ 609, .str ⟨#[61, 54, 56]⟩ 613, .str ⟨#[61, 54, 57]⟩ 617, .str ⟨#[61, 54, 65]⟩ 621, .str ⟨#[61, 54, 66]⟩ 625, .str ⟨#[61, 54, 67]⟩ 629, .str ⟨#[61, 54, 68]⟩ 633, .str ⟨#[61, 54, 69]⟩ 637, .str ⟨#[61, 54, 70]⟩ 641, .str ⟨#[61, 55, 48]⟩ 645, .str ⟨#[61, 55, 49]⟩ 649, .str ⟨#[61, 55, 50]⟩ 653, .str ⟨#[61, 55, 51]⟩ 657, .str ⟨#[61, 55, 52]⟩ 661, .str ⟨#[61, 55, 53]⟩ 665, .str ⟨#[61, 55, 54]⟩ 669, .str ⟨#[61, 55, 55]⟩ 673, .str ⟨#[61, 55, 56]⟩ 677, .str ⟨#[61, 55, 57]⟩ 681, .str ⟨#[61, 55, 65]⟩ 685, .str ⟨#[61, 55, 66]⟩ 689, .str ⟨#[61, 55, 67]⟩ 693, .str ⟨#[61, 55, 68]⟩ 697, .str ⟨#[61, 55, 69]⟩ 701, .str ⟨#[61, 55, 70]⟩ 705, .str ⟨#[61, 56, 48]⟩ 709, .str ⟨#[61, 56, 49]⟩ 713, .str ⟨#[61, 56, 50]⟩ 717, .str ⟨#[61, 56, 51]⟩ 721, .str ⟨#[61, 56, 52]⟩ 725, .str ⟨#[61, 56, 53]⟩ 729, .str ⟨#[61, 56, 54]⟩ 733, .str ⟨#[61, 56, 55]⟩ 737, .str ⟨#[61, 56, 56]⟩ 741, .str ⟨#[61, 56, 57]⟩ 745, .str ⟨#[61, 56, 65]⟩ 749, .str ⟨#[61, 56, 66]⟩ 753, .str ⟨#[61, 56, 67]⟩ 757, .str ⟨#[61, 56, 68]⟩ 761, .str ⟨#[61, 56, 69]⟩ 765, .str ⟨#[61, 56, 70]⟩ 769, .str ⟨#[61, 57, 48]⟩ 773, .str ⟨#[61, 57, 49]⟩ 777, .str ⟨#[61, 57, 50]⟩ 781, .str ⟨#[61, 57, 51]⟩ 785, .str ⟨#[61, 57, 52]⟩ 789, .str ⟨#[61, 57, 53]⟩ 793, .str ⟨#[61, 57, 54]⟩ 797, .str ⟨#[61, 57, 55]⟩ 801, .str ⟨#[61, 57, 56]⟩ 805, .str ⟨#[61, 57, 57]⟩ 809, .str ⟨#[61, 57, 65]⟩ 813, .str ⟨#[61, 57, 66]⟩ 817, .str ⟨#[61, 57, 67]⟩ 821, .str ⟨#[61, 57, 68]⟩ 825, .str ⟨#[61, 57, 69]⟩ 829, .str ⟨#[61, 57, 70]⟩ 833, .str ⟨#[61, 65, 48]⟩ 837, .str ⟨#[61, 65, 49]⟩ 841, .str ⟨#[61, 65, 50]⟩ 845, .str ⟨#[61, 65, 51]⟩ 849, .str ⟨#[61, 65, 52]⟩ 853, .str ⟨#[61, 65, 53]⟩ 857, .str ⟨#[61, 65, 54]⟩ 861, .str ⟨#[61, 65, 55]⟩ 865, .str ⟨#[61, 65, 56]⟩ 869, .str ⟨#[61, 65, 57]⟩ 873, .str ⟨#[61, 65, 65]⟩ 877, .str ⟨#[61, 65, 66]⟩ 881, .str ⟨#[61, 65, 67]⟩ 885, .str ⟨#[61, 65, 68]⟩ 889, .str ⟨#[61, 65, 69]⟩ 893, .str ⟨#[61, 65, 70]⟩ 897, .str ⟨#[61, 66, 48]⟩ 901, .str ⟨#[61, 66, 49]⟩ 905, .str ⟨#[61, 66, 50]⟩ 909, .str ⟨#[61, 66, 51]⟩ 913, .str ⟨#[61, 66, 52]⟩ 917, .str ⟨#[61, 66, 53]⟩ 921, .str ⟨#[61, 66, 54]⟩ 925, .str ⟨#[61, 66, 55]⟩ 929, .str ⟨#[61, 66, 56]⟩ 933, .str ⟨#[61, 66, 57]⟩ 937, .str ⟨#[61, 66, 65]⟩ 941, .str ⟨#[61, 66, 66]⟩ 945, .str ⟨#[61, 66, 67]⟩ 949, .str ⟨#[61, 66, 68]⟩ 953, .str ⟨#[61, 66, 69]⟩ 957, .str ⟨#[61, 66, 70]⟩ 961, .str ⟨#[61, 67, 48]⟩ 965, .str ⟨#[61, 67, 49]⟩ 969, .str ⟨#[61, 67, 50]⟩ 973, .str ⟨#[61, 67, 51]⟩ 977, .str ⟨#[61, 67, 52]⟩ 981, .str ⟨#[61, 67, 53]⟩ 985, .str ⟨#[61, 67, 54]⟩ 989, .str ⟨#[61, 67, 55]⟩ 993, .str ⟨#[61, 67, 56]⟩ 997, .str ⟨#[61, 67, 57]⟩ 1001, .str ⟨#[61, 67, 65]⟩ 1005, .str ⟨#[61, 67, 66]⟩ 1009, .str ⟨#[61, 67, 67]⟩ 1013, .str ⟨#[61, 67, 68]⟩ 1017, .str ⟨#[61, 67, 69]⟩ 1021, .str ⟨#[61, 67, 70]⟩ 1025, .str ⟨#[61, 68, 48]⟩ 1029, .str ⟨#[61, 68, 49]⟩ 1033, .str ⟨#[61, 68, 50]⟩ 1037, .str ⟨#[61, 68, 51]⟩ 1041, .str ⟨#[61, 68, 52]⟩ 1045, .str ⟨#[61, 68, 53]⟩ 1049, .str ⟨#[61, 68, 54]⟩ 1053, .str ⟨#[61, 68, 55]⟩ 1057, .str ⟨#[61, 68, 56]⟩ 1061, .str ⟨#[61, 68, 57]⟩ 1065, .str ⟨#[61, 68, 65]⟩ 1069, .str ⟨#[61, 68, 66]⟩ 1073, .str ⟨#[61, 68, 67]⟩ 1077, .str ⟨#[61, 68, 68]⟩ 1081, .str ⟨#[61, 68, 69]⟩ 1085, .str ⟨#[61, 68, 70]⟩ 1089, .str ⟨#[61, 69, 48]⟩ 1093, .str ⟨#[61, 69, 49]⟩ 1097, .str ⟨#[61, 69, 50]⟩ 1101, .str ⟨#[61, 69, 51]⟩ 1105, .str ⟨#[61, 69, 52]⟩ 1109, .str ⟨#[61, 69, 53]⟩ 1113, .str ⟨#[61, 69, 54]⟩ 1117, .str ⟨#[61, 69, 55]⟩ 1121, .str ⟨#[61, 69, 56]⟩ 1125, .str ⟨#[61, 69, 57]⟩ 1129, .str ⟨#[61, 69, 65]⟩ 1133, .str ⟨#[61, 69, 66]⟩ 1137, .str ⟨#[61, 69, 67]⟩ 1141, .str ⟨#[61, 69, 68]⟩ 1145, .str ⟨#[61, 69, 69]⟩ 1149, .str ⟨#[61, 69, 70]⟩ 1153, .str ⟨#[61, 70, 48]⟩ 1157, .str ⟨#[61, 70, 49]⟩ 1161, .str ⟨#[61, 70, 50]⟩ 1165, .str ⟨#[61, 70, 51]⟩ 1169, .str ⟨#[61, 70, 52]⟩ 1173, .str ⟨#[61, 70, 53]⟩ 1177, .str ⟨#[61, 70, 54]⟩ 1181, .str ⟨#[61, 70, 55]⟩ 1185, .str ⟨#[61, 70, 56]⟩ 1189, .str ⟨#[61, 70, 57]⟩ 1193, .str ⟨#[61, 70, 65]⟩ 1197, .str ⟨#[61, 70, 66]⟩ 1201, .str ⟨#[61, 70, 67]⟩ 1205, .str ⟨#[61, 70, 68]⟩ 1209, .str ⟨#[61, 70, 69]⟩ 1213, .str ⟨#[61, 70, 70]⟩ 1217]).toArray 0, #[]⟩
noncomputable def o25_23 (P : Params) : Obj := ⟨.type "bytes_iterator", none, .fields ([.bytes #[45, 33, 42, 43, 47, 97, 98, 99, 100, 101, 102, 103, 104, 105, 106, 107, 108, 109, 110, 111, 112, 113, 114, 115, 116, 117, 118, 119, 120, 121, 122, 65, 66, 67, 68, 69, 70, 71, 72, 73, 74, 75, 76, 77, 78, 79, 80, 81, 82, 83, 84, 85, 86, 87, 88, 89, 90, 48, 49, 50, 51, 52, 53, 54, 55, 56, 57] 1237, .int 1 0]).toArray, #[]⟩
noncomputable def tr_lp10 (P : Params) (a3 a22 a25 : Obj) : BT := (.node (boot_o_0 P) (.node (boot_o_1 P) (.node (a3) (.node (boot_o_7 P) (.node (o15_10 P) .nil .nil) (.node (o23_19 P) .nil .nil)) (.node (o11_0 P) (.node (o19_14 P) .nil .nil) .nil)) (.node (boot_o_5 P) (.node (boot_o_9 P) (.node (o17_12 P) .nil .nil) (.node (a25) .nil .nil)) (.node (o13_2 P) (.node (o21_17 P) .nil .nil) .nil))) (.node (boot_o_2 P) (.node (boot_o_4 P) (.node (boot_o_8 P) (.node (o16_11 P) .nil .nil) (.node (o24_20 P) .nil .nil)) (.node (o12_1 P) (.node (o20_15 P) .nil .nil) .nil)) (.node (boot_o_6 P) (.node (boot_o_10 P) (.node (o18_13 P) .nil .nil) .nil) (.node (o14_3 P) (.node (a22) .nil .nil) .nil))))
noncomputable def lp10_r22 : List Nat := [9999, 9999, 9999, 9999, 9999, 9999, 9999, 9999, 9999, 9999, 9999, 9999, 9999, 9999, 9999, 9999, 9999, 9999, 9999, 9999, 9999, 9999, 9999, 9999, 9999, 9999, 9999, 9999, 9999, 9999, 9999, 9999, 9999, 2, 9999, 9999, 9999, 9999, 9999, 9999, 9999, 9999, 3, 4, 9999, 9999, 9999, 5, 58, 59, 60, 61, 62, 63, 64, 65, 66, 67, 9999, 9999, 9999, 9999, 9999, 9999, 9999, 32, 33, 34, 35, 36, 37, 38, 39, 40, 41, 42, 43, 44, 45, 46, 47, 48, 49, 50, 51, 52, 53, 54, 55, 56, 57, 9999, 9999, 9999, 9999, 9999, 9999, 6, 7, 8, 9, 10, 11, 12, 13, 14, 15, 16, 17, 18, 19, 20, 21, 22, 23, 24, 25, 26, 27, 28, 29, 30, 31, 9999, 9999, 9999, 9999, 9999, 9999, 9999, 9999, 9999, 9999, 9999, 9999, 9999, 9999, 9999, 9999, 9999, 9999, 9999, 9999, 9999, 9999, 9999, 9999, 9999, 9999, 9999, 9999, 9999, 9999, 9999, 9999, 9999, 9999, 9999, 9999, 9999, 9999, 9999, 9999, 9999, 9999, 9999, 9999, 9999, 9999, 9999, 9999, 9999, 9999, 9999, 9999, 9999, 9999, 9999, 9999, 9999, 9999, 9999, 9999, 9999, 9999, 9999, 9999, 9999, 9999, 9999, 9999, 9999, 9999, 9999, 9999, 9999, 9999, 9999, 9999, 9999, 9999, 9999, 9999, 9999, 9999, 9999, 9999, 9999, 9999, 9999, 9999, 9999, 9999, 9999, 9999, 9999, 9999, 9999, 9999, 9999, 9999, 9999, 9999, 9999, 9999, 9999, 9999, 9999, 9999, 9999, 9999, 9999, 9999, 9999, 9999, 9999, 9999, 9999, 9999, 9999, 9999, 9999, 9999, 9999, 9999, 9999, 9999, 9999, 9999, 9999, 9999, 9999, 9999, 9999, 9999, 9999]
noncomputable def lp10_x22 : List Value := [.str ⟨#[61, 48, 48]⟩ 197, .str ⟨#[61, 48, 49]⟩ 201, .str ⟨#[61, 48, 50]⟩ 205, .str ⟨#[61, 48, 51]⟩ 209, .str ⟨#[61, 48, 52]⟩ 213, .str ⟨#[61, 48, 53]⟩ 217, .str ⟨#[61, 48, 54]⟩ 221, .str ⟨#[61, 48, 55]⟩ 225, .str ⟨#[61, 48, 56]⟩ 229, .str ⟨#[61, 48, 57]⟩ 233, .str ⟨#[61, 48, 65]⟩ 237, .str ⟨#[61, 48, 66]⟩ 241, .str ⟨#[61, 48, 67]⟩ 245, .str ⟨#[61, 48, 68]⟩ 249, .str ⟨#[61, 48, 69]⟩ 253, .str ⟨#[61, 48, 70]⟩ 257, .str ⟨#[61, 49, 48]⟩ 261, .str ⟨#[61, 49, 49]⟩ 265, .str ⟨#[61, 49, 50]⟩ 269, .str ⟨#[61, 49, 51]⟩ 273, .str ⟨#[61, 49, 52]⟩ 277, .str ⟨#[61, 49, 53]⟩ 281, .str ⟨#[61, 49, 54]⟩ 285, .str ⟨#[61, 49, 55]⟩ 289, .str ⟨#[61, 49, 56]⟩ 293, .str ⟨#[61, 49, 57]⟩ 297, .str ⟨#[61, 49, 65]⟩ 301, .str ⟨#[61, 49, 66]⟩ 305, .str ⟨#[61, 49, 67]⟩ 309, .str ⟨#[61, 49, 68]⟩ 313, .str ⟨#[61, 49, 69]⟩ 317, .str ⟨#[61, 49, 70]⟩ 321, .str ⟨#[61, 50, 48]⟩ 325, .str ⟨#[61, 50, 49]⟩ 329, .str ⟨#[61, 50, 50]⟩ 333, .str ⟨#[61, 50, 51]⟩ 337, .str ⟨#[61, 50, 52]⟩ 341, .str ⟨#[61, 50, 53]⟩ 345, .str ⟨#[61, 50, 54]⟩ 349, .str ⟨#[61, 50, 55]⟩ 353, .str ⟨#[61, 50, 56]⟩ 357, .str ⟨#[61, 50, 57]⟩ 361, .str ⟨#[61, 50, 65]⟩ 365, .str ⟨#[61, 50, 66]⟩ 369, .str ⟨#[61, 50, 67]⟩ 373, .str ⟨#[45]⟩ 1240, .str ⟨#[61, 50, 69]⟩ 381, .str ⟨#[61, 50, 70]⟩ 385, .str ⟨#[61, 51, 48]⟩ 389, .str ⟨#[61, 51, 49]⟩ 393, .str ⟨#[61, 51, 50]⟩ 397, .str ⟨#[61, 51, 51]⟩ 401, .str ⟨#[61, 51, 52]⟩ 405, .str ⟨#[61, 51, 53]⟩ 409, .str ⟨#[61, 51, 54]⟩ 413, .str ⟨#[61, 51, 55]⟩ 417, .str ⟨#[61, 51, 56]⟩ 421, .str ⟨#[61, 51, 57]⟩ 425, .str ⟨#[61, 51, 65]⟩ 429, .str ⟨#[61, 51, 66]⟩ 433, .str ⟨#[61, 51, 67]⟩ 437, .str ⟨#[61, 51, 68]⟩ 441, .str ⟨#[61, 51, 69]⟩ 445, .str ⟨#[61, 51, 70]⟩ 449, .str ⟨#[61, 52, 48]⟩ 453, .str ⟨#[61, 52, 49]⟩ 457, .str ⟨#[61, 52, 50]⟩ 461, .str ⟨#[61, 52, 51]⟩ 465, .str ⟨#[61, 52, 52]⟩ 469, .str ⟨#[61, 52, 53]⟩ 473, .str ⟨#[61, 52, 54]⟩ 477, .str ⟨#[61, 52, 55]⟩ 481, .str ⟨#[61, 52, 56]⟩ 485, .str ⟨#[61, 52, 57]⟩ 489, .str ⟨#[61, 52, 65]⟩ 493, .str ⟨#[61, 52, 66]⟩ 497, .str ⟨#[61, 52, 67]⟩ 501, .str ⟨#[61, 52, 68]⟩ 505, .str ⟨#[61, 52, 69]⟩ 509, .str ⟨#[61, 52, 70]⟩ 513, .str ⟨#[61, 53, 48]⟩ 517, .str ⟨#[61, 53, 49]⟩ 521, .str ⟨#[61, 53, 50]⟩ 525, .str ⟨#[61, 53, 51]⟩ 529, .str ⟨#[61, 53, 52]⟩ 533, .str ⟨#[61, 53, 53]⟩ 537, .str ⟨#[61, 53, 54]⟩ 541, .str ⟨#[61, 53, 55]⟩ 545, .str ⟨#[61, 53, 56]⟩ 549, .str ⟨#[61, 53, 57]⟩ 553, .str ⟨#[61, 53, 65]⟩ 557, .str ⟨#[61, 53, 66]⟩ 561, .str ⟨#[61, 53, 67]⟩ 565, .str ⟨#[61, 53, 68]⟩ 569, .str ⟨#[61, 53, 69]⟩ 573, .str ⟨#[61, 53, 70]⟩ 577, .str ⟨#[61, 54, 48]⟩ 581, .str ⟨#[61, 54, 49]⟩ 585, .str ⟨#[61, 54, 50]⟩ 589, .str ⟨#[61, 54, 51]⟩ 593, .str ⟨#[61, 54, 52]⟩ 597, .str ⟨#[61, 54, 53]⟩ 601, .str ⟨#[61, 54, 54]⟩ 605, .str ⟨#[61, 54, 55]⟩ 609, .str ⟨#[61, 54, 56]⟩ 613, .str ⟨#[61, 54, 57]⟩ 617, .str ⟨#[61, 54, 65]⟩ 621, .str ⟨#[61, 54, 66]⟩ 625, .str ⟨#[61, 54, 67]⟩ 629, .str ⟨#[61, 54, 68]⟩ 633, .str ⟨#[61, 54, 69]⟩ 637, .str ⟨#[61, 54, 70]⟩ 641, .str ⟨#[61, 55, 48]⟩ 645, .str ⟨#[61, 55, 49]⟩ 649, .str ⟨#[61, 55, 50]⟩ 653, .str ⟨#[61, 55, 51]⟩ 657, .str ⟨#[61, 55, 52]⟩ 661, .str ⟨#[61, 55, 53]⟩ 665, .str ⟨#[61, 55, 54]⟩ 669, .str ⟨#[61, 55, 55]⟩ 673, .str ⟨#[61, 55, 56]⟩ 677, .str ⟨#[61, 55, 57]⟩ 681, .str ⟨#[61, 55, 65]⟩ 685, .str ⟨#[61, 55, 66]⟩ 689, .str ⟨#[61, 55, 67]⟩ 693, .str ⟨#[61, 55, 68]⟩ 697, .str ⟨#[61, 55, 69]⟩ 701, .str ⟨#[61, 55, 70]⟩ 705, .str ⟨#[61, 56, 48]⟩ 709, .str ⟨#[61, 56, 49]⟩ 713, .str ⟨#[61, 56, 50]⟩ 717, .str ⟨#[61, 56, 51]⟩ 721, .str ⟨#[61, 56, 52]⟩ 725, .str ⟨#[61, 56, 53]⟩ 729, .str ⟨#[61, 56, 54]⟩ 733, .str ⟨#[61, 56, 55]⟩ 737, .str ⟨#[61, 56, 56]⟩ 741, .str ⟨#[61, 56, 57]⟩ 745, .str ⟨#[61, 56, 65]⟩ 749, .str ⟨#[61, 56, 66]⟩ 753, .str ⟨#[61, 56, 67]⟩ 757, .str ⟨#[61, 56, 68]⟩ 761, .str ⟨#[61, 56, 69]⟩ 765, .str ⟨#[61, 56, 70]⟩ 769, .str ⟨#[61, 57, 48]⟩ 773, .str ⟨#[61, 57, 49]⟩ 777, .str ⟨#[61, 57, 50]⟩ 781, .str ⟨#[61, 57, 51]⟩ 785, .str ⟨#[61, 57, 52]⟩ 789, .str ⟨#[61, 57, 53]⟩ 793, .str ⟨#[61, 57, 54]⟩ 797, .str ⟨#[61, 57, 55]⟩ 801, .str ⟨#[61, 57, 56]⟩ 805, .str ⟨#[61, 57, 57]⟩ 809, .str ⟨#[61, 57, 65]⟩ 813, .str ⟨#[61, 57, 66]⟩ 817, .str ⟨#[61, 57, 67]⟩ 821, .str ⟨#[61, 57, 68]⟩ 825, .str ⟨#[61, 57, 69]⟩ 829, .str ⟨#[61, 57, 70]⟩ 833, .str ⟨#[61, 65, 48]⟩ 837, .str ⟨#[61, 65, 49]⟩ 841, .str ⟨#[61, 65, 50]⟩ 845, .str ⟨#[61, 65, 51]⟩ 849, .str ⟨#[61, 65, 52]⟩ 853, .str ⟨#[61, 65, 53]⟩ 857, .str ⟨#[61, 65, 54]⟩ 861, .str ⟨#[61, 65, 55]⟩ 865, .str ⟨#[61, 65, 56]⟩ 869, .str ⟨#[61, 65, 57]⟩ 873, .str ⟨#[61, 65, 65]⟩ 877, .str ⟨#[61, 65, 66]⟩ 881, .str ⟨#[61, 65, 67]⟩ 885, .str ⟨#[61, 65, 68]⟩ 889, .str ⟨#[61, 65, 69]⟩ 893, .str ⟨#[61, 65, 70]⟩ 897, .str ⟨#[61, 66, 48]⟩ 901, .str ⟨#[61, 66, 49]⟩ 905, .str ⟨#[61, 66, 50]⟩ 909, .str ⟨#[61, 66, 51]⟩ 913, .str ⟨#[61, 66, 52]⟩ 917, .str ⟨#[61, 66, 53]⟩ 921, .str ⟨#[61, 66, 54]⟩ 925, .str ⟨#[61, 66, 55]⟩ 929, .str ⟨#[61, 66, 56]⟩ 933, .str ⟨#[61, 66, 57]⟩ 937, .str ⟨#[61, 66, 65]⟩ 941, .str ⟨#[61, 66, 66]⟩ 945, .str ⟨#[61, 66, 67]⟩ 949, .str ⟨#[61, 66, 68]⟩ 953, .str ⟨#[61, 66, 69]⟩ 957, .str ⟨#[61, 66, 70]⟩ 961, .str ⟨#[61, 67, 48]⟩ 965, .str ⟨#[61, 67, 49]⟩ 969, .str ⟨#[61, 67, 50]⟩ 973, .str ⟨#[61, 67, 51]⟩ 977, .str ⟨#[61, 67, 52]⟩ 981, .str ⟨#[61, 67, 53]⟩ 985, .str ⟨#[61, 67, 54]⟩ 989, .str ⟨#[61, 67, 55]⟩ 993, .str ⟨#[61, 67, 56]⟩ 997, .str ⟨#[61, 67, 57]⟩ 1001, .str ⟨#[61, 67, 65]⟩ 1005, .str ⟨#[61, 67, 66]⟩ 1009, .str ⟨#[61, 67, 67]⟩ 1013, .str ⟨#[61, 67, 68]⟩ 1017, .str ⟨#[61, 67, 69]⟩ 1021, .str ⟨#[61, 67, 70]⟩ 1025, .str ⟨#[61, 68, 48]⟩ 1029, .str ⟨#[61, 68, 49]⟩ 1033, .str ⟨#[61, 68, 50]⟩ 1037, .str ⟨#[61, 68, 51]⟩ 1041, .str ⟨#[61, 68, 52]⟩ 1045, .str ⟨#[61, 68, 53]⟩ 1049, .str ⟨#[61, 68, 54]⟩ 1053, .str ⟨#[61, 68, 55]⟩ 1057, .str ⟨#[61, 68, 56]⟩ 1061, .str ⟨#[61, 68, 57]⟩ 1065, .str ⟨#[61, 68, 65]⟩ 1069, .str ⟨#[61, 68, 66]⟩ 1073, .str ⟨#[61, 68, 67]⟩ 1077, .str ⟨#[61, 68, 68]⟩ 1081, .str ⟨#[61, 68, 69]⟩ 1085, .str ⟨#[61, 68, 70]⟩ 1089, .str ⟨#[61, 69, 48]⟩ 1093, .str ⟨#[61, 69, 49]⟩ 1097, .str ⟨#[61, 69, 50]⟩ 1101, .str ⟨#[61, 69, 51]⟩ 1105, .str ⟨#[61, 69, 52]⟩ 1109, .str ⟨#[61, 69, 53]⟩ 1113, .str ⟨#[61, 69, 54]⟩ 1117, .str ⟨#[61, 69, 55]⟩ 1121, .str ⟨#[61, 69, 56]⟩ 1125, .str ⟨#[61, 69, 57]⟩ 1129, .str ⟨#[61, 69, 65]⟩ 1133, .str ⟨#[61, 69, 66]⟩ 1137, .str ⟨#[61, 69, 67]⟩ 1141, .str ⟨#[61, 69, 68]⟩ 1145, .str ⟨#[61, 69, 69]⟩ 1149, .str ⟨#[61, 69, 70]⟩ 1153, .str ⟨#[61, 70, 48]⟩ 1157, .str ⟨#[61, 70, 49]⟩ 1161, .str ⟨#[61, 70, 50]⟩ 1165, .str ⟨#[61, 70, 51]⟩ 1169, .str ⟨#[61, 70, 52]⟩ 1173, .str ⟨#[61, 70, 53]⟩ 1177, .str ⟨#[61, 70, 54]⟩ 1181, .str ⟨#[61, 70, 55]⟩ 1185, .str ⟨#[61, 70, 56]⟩ 1189, .str ⟨#[61, 70, 57]⟩ 1193, .str ⟨#[61, 70, 65]⟩ 1197, .str ⟨#[61, 70, 66]⟩ 1201, .str ⟨#[61, 70, 67]⟩ 1205, .str ⟨#[61, 70, 68]⟩ 1209, .str ⟨#[61, 70, 69]⟩ 1213, .str ⟨#[61, 70, 70]⟩ 1217]
noncomputable def lp10_y22 : List Value := [.str ⟨#[61, 48, 48]⟩ 197, .str ⟨#[61, 48, 49]⟩ 201, .str ⟨#[61, 48, 50]⟩ 205, .str ⟨#[61, 48, 51]⟩ 209, .str ⟨#[61, 48, 52]⟩ 213, .str ⟨#[61, 48, 53]⟩ 217, .str ⟨#[61, 48, 54]⟩ 221, .str ⟨#[61, 48, 55]⟩ 225, .str ⟨#[61, 48, 56]⟩ 229, .str ⟨#[61, 48, 57]⟩ 233, .str ⟨#[61, 48, 65]⟩ 237, .str ⟨#[61, 48, 66]⟩ 241, .str ⟨#[61, 48, 67]⟩ 245, .str ⟨#[61, 48, 68]⟩ 249, .str ⟨#[61, 48, 69]⟩ 253, .str ⟨#[61, 48, 70]⟩ 257, .str ⟨#[61, 49, 48]⟩ 261, .str ⟨#[61, 49, 49]⟩ 265, .str ⟨#[61, 49, 50]⟩ 269, .str ⟨#[61, 49, 51]⟩ 273, .str ⟨#[61, 49, 52]⟩ 277, .str ⟨#[61, 49, 53]⟩ 281, .str ⟨#[61, 49, 54]⟩ 285, .str ⟨#[61, 49, 55]⟩ 289, .str ⟨#[61, 49, 56]⟩ 293, .str ⟨#[61, 49, 57]⟩ 297, .str ⟨#[61, 49, 65]⟩ 301, .str ⟨#[61, 49, 66]⟩ 305, .str ⟨#[61, 49, 67]⟩ 309, .str ⟨#[61, 49, 68]⟩ 313, .str ⟨#[61, 49, 69]⟩ 317, .str ⟨#[61, 49, 70]⟩ 321, .str ⟨#[61, 50, 48]⟩ 325, .str ⟨#[33]⟩ 1243, .str ⟨#[61, 50, 50]⟩ 333, .str ⟨#[61, 50, 51]⟩ 337, .str ⟨#[61, 50, 52]⟩ 341, .str ⟨#[61, 50, 53]⟩ 345, .str ⟨#[61, 50, 54]⟩ 349, .str ⟨#[61, 50, 55]⟩ 353, .str ⟨#[61, 50, 56]⟩ 357, .str ⟨#[61, 50, 57]⟩ 361, .str ⟨#[42]⟩ 1246, .str ⟨#[43]⟩ 1249, .str ⟨#[61, 50, 67]⟩ 373, .str ⟨#[45]⟩ 1240, .str ⟨#[61, 50, 69]⟩ 381, .str ⟨#[47]⟩ 1252, .str ⟨#[48]⟩ 1411, .str ⟨#[49]⟩ 1414, .str ⟨#[50]⟩ 1417, .str ⟨#[51]⟩ 1420, .str ⟨#[52]⟩ 1423, .str ⟨#[53]⟩ 1426, .str ⟨#[54]⟩ 1429, .str ⟨#[55]⟩ 1432, .str ⟨#[56]⟩ 1435, .str ⟨#[57]⟩ 1438, .str ⟨#[61, 51, 65]⟩ 429, .str ⟨#[61, 51, 66]⟩ 433, .str ⟨#[61, 51, 67]⟩ 437, .str ⟨#[61, 51, 68]⟩ 441, .str ⟨#[61, 51, 69]⟩ 445, .str ⟨#[61, 51, 70]⟩ 449, .str ⟨#[61, 52, 48]⟩ 453, .str ⟨#[65]⟩ 1333, .str ⟨#[66]⟩ 1336, .str ⟨#[67]⟩ 1339, .str ⟨#[68]⟩ 1342, .str ⟨#[69]⟩ 1345, .str ⟨#[70]⟩ 1348, .str ⟨#[71]⟩ 1351, .str ⟨#[72]⟩ 1354, .str ⟨#[73]⟩ 1357, .str ⟨#[74]⟩ 1360, .str ⟨#[75]⟩ 1363, .str ⟨#[76]⟩ 1366, .str ⟨#[77]⟩ 1369, .str ⟨#[78]⟩ 1372, .str ⟨#[79]⟩ 1375, .str ⟨#[80]⟩ 1378, .str ⟨#[81]⟩ 1381, .str ⟨#[82]⟩ 1384, .str ⟨#[83]⟩ 1387, .str ⟨#[84]⟩ 1390, .str ⟨#[85]⟩ 1393, .str ⟨#[86]⟩ 1396, .str ⟨#[87]⟩ 1399, .str ⟨#[88]⟩ 1402, .str ⟨#[89]⟩ 1405, .str ⟨#[90]⟩ 1408, .str ⟨#[61, 53, 66]⟩ 561, .str ⟨#[61, 53, 67]⟩ 565, .str ⟨#[61, 53, 68]⟩ 569, .str ⟨#[61, 53, 69]⟩ 573, .str ⟨#[61, 53, 70]⟩ 577, .str ⟨#[61, 54, 48]⟩ 581, .str ⟨#[97]⟩ 1255, .str ⟨#[98]⟩ 1258, .str ⟨#[99]⟩ 1261, .str ⟨#[100]⟩ 1264, .str ⟨#[101]⟩ 1267, .str ⟨#[102]⟩ 1270, .str ⟨#[103]⟩ 1273, .str ⟨#[104]⟩ 1276, .str ⟨#[105]⟩ 1279, .str ⟨#[106]⟩ 1282, .str ⟨#[107]⟩ 1285, .str ⟨#[108]⟩ 1288, .str ⟨#[109]⟩ 1291, .str ⟨#[110]⟩ 1294, .str ⟨#[111]⟩ 1297, .str ⟨#[112]⟩ 1300, .str ⟨#[113]⟩ 1303, .str ⟨#[114]⟩ 1306, .str ⟨#[115]⟩ 1309, .str ⟨#[116]⟩ 1312, .str ⟨#[117]⟩ 1315, .str ⟨#[118]⟩ 1318, .str ⟨#[119]⟩ 1321, .str ⟨#[120]⟩ 1324, .str ⟨#[121]⟩ 1327, .str ⟨#[122]⟩ 1330, .str ⟨#[61, 55, 66]⟩ 689, .str ⟨#[61, 55, 67]⟩ 693, .str ⟨#[61, 55, 68]⟩ 697, .str ⟨#[61, 55, 69]⟩ 701, .str ⟨#[61, 55, 70]⟩ 705, .str ⟨#[61, 56, 48]⟩ 709, .str ⟨#[61, 56, 49]⟩ 713, .str ⟨#[61, 56, 50]⟩ 717, .str ⟨#[61, 56, 51]⟩ 721, .str ⟨#[61, 56, 52]⟩ 725, .str ⟨#[61, 56, 53]⟩ 729, .str ⟨#[61, 56, 54]⟩ 733, .str ⟨#[61, 56, 55]⟩ 737, .str ⟨#[61, 56, 56]⟩ 741, .str ⟨#[61, 56, 57]⟩ 745, .str ⟨#[61, 56, 65]⟩ 749, .str ⟨#[61, 56, 66]⟩ 753, .str ⟨#[61, 56, 67]⟩ 757, .str ⟨#[61, 56, 68]⟩ 761, .str ⟨#[61, 56, 69]⟩ 765, .str ⟨#[61, 56, 70]⟩ 769, .str ⟨#[61, 57, 48]⟩ 773, .str ⟨#[61, 57, 49]⟩ 777, .str ⟨#[61, 57, 50]⟩ 781, .str ⟨#[61, 57, 51]⟩ 785, .str ⟨#[61, 57, 52]⟩ 789, .str ⟨#[61, 57, 53]⟩ 793, .str ⟨#[61, 57, 54]⟩ 797, .str ⟨#[61, 57, 55]⟩ 801, .str ⟨#[61, 57, 56]⟩ 805, .str ⟨#[61, 57, 57]⟩ 809, .str ⟨#[61, 57, 65]⟩ 813, .str ⟨#[61, 57, 66]⟩ 817, .str ⟨#[61, 57, 67]⟩ 821, .str ⟨#[61, 57, 68]⟩ 825, .str ⟨#[61, 57, 69]⟩ 829, .str ⟨#[61, 57, 70]⟩ 833, .str ⟨#[61, 65, 48]⟩ 837, .str ⟨#[61, 65, 49]⟩ 841, .str ⟨#[61, 65, 50]⟩ 845, .str ⟨#[61, 65, 51]⟩ 849, .str ⟨#[61, 65, 52]⟩ 853, .str ⟨#[61, 65, 53]⟩ 857, .str ⟨#[61, 65, 54]⟩ 861, .str ⟨#[61, 65, 55]⟩ 865, .str ⟨#[61, 65, 56]⟩ 869, .str ⟨#[61, 65, 57]⟩ 873, .str ⟨#[61, 65, 65]⟩ 877, .str ⟨#[61, 65, 66]⟩ 881, .str ⟨#[61, 65, 67]⟩ 885, .str ⟨#[61, 65, 68]⟩ 889, .str ⟨#[61, 65, 69]⟩ 893, .str ⟨#[61, 65, 70]⟩ 897, .str ⟨#[61, 66, 48]⟩ 901, .str ⟨#[61, 66, 49]⟩ 905, .str ⟨#[61, 66, 50]⟩ 909, .str ⟨#[61, 66, 51]⟩ 913, .str ⟨#[61, 66, 52]⟩ 917, .str ⟨#[61, 66, 53]⟩ 921, .str ⟨#[61, 66, 54]⟩ 925, .str ⟨#[61, 66, 55]⟩ 929, .str ⟨#[61, 66, 56]⟩ 933, .str ⟨#[61, 66, 57]⟩ 937, .str ⟨#[61, 66, 65]⟩ 941, .str ⟨#[61, 66, 66]⟩ 945, .str ⟨#[61, 66, 67]⟩ 949, .str ⟨#[61, 66, 68]⟩ 953, .str ⟨#[61, 66, 69]⟩ 957, .str ⟨#[61, 66, 70]⟩ 961, .str ⟨#[61, 67, 48]⟩ 965, .str ⟨#[61, 67, 49]⟩ 969, .str ⟨#[61, 67, 50]⟩ 973, .str ⟨#[61, 67, 51]⟩ 977, .str ⟨#[61, 67, 52]⟩ 981, .str ⟨#[61, 67, 53]⟩ 985, .str ⟨#[61, 67, 54]⟩ 989, .str ⟨#[61, 67, 55]⟩ 993, .str ⟨#[61, 67, 56]⟩ 997, .str ⟨#[61, 67, 57]⟩ 1001, .str ⟨#[61, 67, 65]⟩ 1005, .str ⟨#[61, 67, 66]⟩ 1009, .str ⟨#[61, 67, 67]⟩ 1013, .str ⟨#[61, 67, 68]⟩ 1017, .str ⟨#[61, 67, 69]⟩ 1021, .str ⟨#[61, 67, 70]⟩ 1025, .str ⟨#[61, 68, 48]⟩ 1029, .str ⟨#[61, 68, 49]⟩ 1033, .str ⟨#[61, 68, 50]⟩ 1037, .str ⟨#[61, 68, 51]⟩ 1041, .str ⟨#[61, 68, 52]⟩ 1045, .str ⟨#[61, 68, 53]⟩ 1049, .str ⟨#[61, 68, 54]⟩ 1053, .str ⟨#[61, 68, 55]⟩ 1057, .str ⟨#[61, 68, 56]⟩ 1061, .str ⟨#[61, 68, 57]⟩ 1065, .str ⟨#[61, 68, 65]⟩ 1069, .str ⟨#[61, 68, 66]⟩ 1073, .str ⟨#[61, 68, 67]⟩ 1077, .str ⟨#[61, 68, 68]⟩ 1081, .str ⟨#[61, 68, 69]⟩ 1085, .str ⟨#[61, 68, 70]⟩ 1089, .str ⟨#[61, 69, 48]⟩ 1093, .str ⟨#[61, 69, 49]⟩ 1097, .str ⟨#[61, 69, 50]⟩ 1101, .str ⟨#[61, 69, 51]⟩ 1105, .str ⟨#[61, 69, 52]⟩ 1109, .str ⟨#[61, 69, 53]⟩ 1113, .str ⟨#[61, 69, 54]⟩ 1117, .str ⟨#[61, 69, 55]⟩ 1121, .str ⟨#[61, 69, 56]⟩ 1125, .str ⟨#[61, 69, 57]⟩ 1129, .str ⟨#[61, 69, 65]⟩ 1133, .str ⟨#[61, 69, 66]⟩ 1137, .str ⟨#[61, 69, 67]⟩ 1141, .str ⟨#[61, 69, 68]⟩ 1145, .str ⟨#[61, 69, 69]⟩ 1149, .str ⟨#[61, 69, 70]⟩ 1153, .str ⟨#[61, 70, 48]⟩ 1157, .str ⟨#[61, 70, 49]⟩ 1161, .str ⟨#[61, 70, 50]⟩ 1165, .str ⟨#[61, 70, 51]⟩ 1169, .str ⟨#[61, 70, 52]⟩ 1173, .str ⟨#[61, 70, 53]⟩ 1177, .str ⟨#[61, 70, 54]⟩ 1181, .str ⟨#[61, 70, 55]⟩ 1185, .str ⟨#[61, 70, 56]⟩ 1189, .str ⟨#[61, 70, 57]⟩ 1193, .str ⟨#[61, 70, 65]⟩ 1197, .str ⟨#[61, 70, 66]⟩ 1201, .str ⟨#[61, 70, 67]⟩ 1205, .str ⟨#[61, 70, 68]⟩ 1209, .str ⟨#[61, 70, 69]⟩ 1213, .str ⟨#[61, 70, 70]⟩ 1217]
noncomputable def lp10_s1 (w : World) (os : OsState) : SharedT := let P := w.params; ⟨tr_lp10 P (⟨.type "dict", none, .dict ([⟨PyData.keyHash P ⟨#[95, 95, 110, 97, 109, 101, 95, 95]⟩, .str ⟨#[95, 95, 110, 97, 109, 101, 95, 95]⟩ 165, .str ⟨#[99, 112, 121, 51, 49, 51, 46, 101, 109, 97, 105, 108, 46, 113, 117, 111, 112, 114, 105, 109, 105, 109, 101]⟩ 1229⟩, ⟨PyData.keyHash P ⟨#[95, 95, 100, 111, 99, 95, 95]⟩, .str ⟨#[95, 95, 100, 111, 99, 95, 95]⟩ 166, .none⟩, ⟨PyData.keyHash P ⟨#[95, 95, 112, 97, 99, 107, 97, 103, 101, 95, 95]⟩, .str ⟨#[95, 95, 112, 97, 99, 107, 97, 103, 101, 95, 95]⟩ 167, .none⟩, ⟨PyData.keyHash P ⟨#[95, 95, 108, 111, 97, 100, 101, 114, 95, 95]⟩, .str ⟨#[95, 95, 108, 111, 97, 100, 101, 114, 95, 95]⟩ 168, .builtin "__main__.__loader__#opaque"⟩, ⟨PyData.keyHash P ⟨#[95, 95, 115, 112, 101, 99, 95, 95]⟩, .str ⟨#[95, 95, 115, 112, 101, 99, 95, 95]⟩ 169, .none⟩, ⟨PyData.keyHash P ⟨#[95, 95, 97, 110, 110, 111, 116, 97, 116, 105, 111, 110, 115, 95, 95]⟩, .str ⟨#[95, 95, 97, 110, 110, 111, 116, 97, 116, 105, 111, 110, 115, 95, 95]⟩ 170, .ref 6⟩, ⟨PyData.keyHash P ⟨#[95, 95, 98, 117, 105, 108, 116, 105, 110, 115, 95, 95]⟩, .str ⟨#[95, 95, 98, 117, 105, 108, 116, 105, 110, 115, 95, 95]⟩ 171, .ref 4⟩, ⟨PyData.keyHash P ⟨#[95, 95, 102, 105, 108, 101, 95, 95]⟩, .str ⟨#[95, 95, 102, 105, 108, 101, 95, 95]⟩ 173, .str ⟨#[47, 99, 108, 97, 105, 109, 47, 99, 117, 116, 46, 112, 121]⟩ 172⟩, ⟨PyData.keyHash P ⟨#[95, 95, 99, 97, 99, 104, 101, 100, 95, 95]⟩, .str ⟨#[95, 95, 99, 97, 99, 104, 101, 100, 95, 95]⟩ 174, .none⟩, ⟨PyData.keyHash P ⟨#[67, 82, 76, 70]⟩, .str ⟨#[67, 82, 76, 70]⟩ 188, .str ⟨#[13, 10]⟩ 187⟩, ⟨PyData.keyHash P ⟨#[78, 76]⟩, .str ⟨#[78, 76]⟩ 190, .str ⟨#[10]⟩ 189⟩, ⟨PyData.keyHash P ⟨#[95, 81, 85, 79, 80, 82, 73, 95, 77, 65, 80]⟩, .str ⟨#[95, 81, 85, 79, 80, 82, 73, 95, 77, 65, 80]⟩ 1218, .ref 17⟩, ⟨PyData.keyHash P ⟨#[95, 81, 85, 79, 80, 82, 73, 95, 72, 69, 65, 68, 69, 82, 95, 77, 65, 80]⟩, .str ⟨#[95, 81, 85, 79, 80, 82, 73, 95, 72, 69, 65, 68, 69, 82, 95, 77, 65, 80]⟩ 1219, .ref 22⟩, ⟨PyData.keyHash P ⟨#[95, 81, 85, 79, 80, 82, 73, 95, 66, 79, 68, 89, 95, 77, 65, 80]⟩, .str ⟨#[95, 81, 85, 79, 80, 82, 73, 95, 66, 79, 68, 89, 95, 77, 65, 80]⟩ 1220, .ref 24⟩, ⟨PyData.keyHash P ⟨#[97, 115, 99, 105, 105, 95, 108, 111, 119, 101, 114, 99, 97, 115, 101]⟩, .str ⟨#[97, 115, 99, 105, 105, 95, 108, 111, 119, 101, 114, 99, 97, 115, 101]⟩ 1222, .str ⟨#[97, 98, 99, 100, 101, 102, 103, 104, 105, 106, 107, 108, 109, 110, 111, 112, 113, 114, 115, 116, 117, 118, 119, 120, 121, 122]⟩ 1221⟩, ⟨PyData.keyHash P ⟨#[97, 115, 99, 105, 105, 95, 117, 112, 112, 101, 114, 99, 97, 115, 101]⟩, .str ⟨#[97, 115, 99, 105, 105, 95, 117, 112, 112, 101, 114, 99, 97, 115, 101]⟩ 1224, .str ⟨#[65, 66, 67, 68, 69, 70, 71, 72, 73, 74, 75, 76, 77, 78, 79, 80, 81, 82, 83, 84, 85, 86, 87, 88, 89, 90]⟩ 1223⟩, ⟨PyData.keyHash P ⟨#[97, 115, 99, 105, 105, 95, 108, 101, 116, 116, 101, 114, 115]⟩, .str ⟨#[97, 115, 99, 105, 105, 95, 108, 101, 116, 116, 101, 114, 115]⟩ 1226, .str ⟨#[97, 98, 99, 100, 101, 102, 103, 104, 105, 106, 107, 108, 109, 110, 111, 112, 113, 114, 115, 116, 117, 118, 119, 120, 121, 122, 65, 66, 67, 68, 69, 70, 71, 72, 73, 74, 75, 76, 77, 78, 79, 80, 81, 82, 83, 84, 85, 86, 87, 88, 89, 90]⟩ 1225⟩, ⟨PyData.keyHash P ⟨#[100, 105, 103, 105, 116, 115]⟩, .str ⟨#[100, 105, 103, 105, 116, 115]⟩ 1228, .str ⟨#[48, 49, 50, 51, 52, 53, 54, 55, 56, 57]⟩ 1227⟩, ⟨PyData.keyHash P ⟨#[99]⟩, .str ⟨#[99]⟩ 1239, .int 45 1238⟩]).toArray 19, #[]⟩) (⟨.type "list", none, .seq (mixL 1 lp10_r22 lp10_x22 lp10_y22).toArray 0, #[]⟩) (⟨.type "bytes_iterator", none, .fields ([.bytes #[45, 33, 42, 43, 47, 97, 98, 99, 100, 101, 102, 103, 104, 105, 106, 107, 108, 109, 110, 111, 112, 113, 114, 115, 116, 117, 118, 119, 120, 121, 122, 65, 66, 67, 68, 69, 70, 71, 72, 73, 74, 75, 76, 77, 78, 79, 80, 81, 82, 83, 84, 85, 86, 87, 88, 89, 90, 48, 49, 50, 51, 52, 53, 54, 55, 56, 57] 1237, .int 1 0]).toArray, #[]⟩), 26, life0, Array.mk [], boot_drawn, 1241, os⟩
noncomputable def lp10_sts : List Stmt := [stm 10]
noncomputable def lp10_T : Thread := match PySem.W.Fast.tw10295753902157049106 PySem.W.Fast.tw14364793385576792824 PR (aWorld 1) 11 ann0 1 89 (s9 (aWorld 1) {}) ⟨(PySem.W.Fast.tw12563942051412417395 lp10_sts env0).wrap doneF deadEnd id id, cE, ⟨10, 0, 10, 8⟩, B0⟩ with | some r => r.2 | none => ⟨.raise .none, cE, default, []⟩
theorem lp10_start_f (w : World) (os : OsState) : PySem.W.Fast.tw10295753902157049106 PySem.W.Fast.tw14364793385576792824 PR (w.withFollow "special-get-raises" false) 11 ann0 1 89 (s9 (w.withFollow "special-get-raises" false) os) ⟨(PySem.W.Fast.tw12563942051412417395 lp10_sts env0).wrap doneF deadEnd id id, cE, ⟨10, 0, 10, 8⟩, B0⟩ = some (lp10_s1 (w.withFollow "special-get-raises" false) os, lp10_T) := by kernel_rfl
theorem lp10_start_t (w : World) (os : OsState) : PySem.W.Fast.tw10295753902157049106 PySem.W.Fast.tw14364793385576792824 PR (w.withFollow "special-get-raises" true) 11 ann0 1 89 (s9 (w.withFollow "special-get-raises" true) os) ⟨(PySem.W.Fast.tw12563942051412417395 lp10_sts env0).wrap doneF deadEnd id id, cE, ⟨10, 0, 10, 8⟩, B0⟩ = some (lp10_s1 (w.withFollow "special-get-raises" true) os, lp10_T) := by kernel_rfl
noncomputable def lp10_s9 (w : World) (os : OsState) : SharedT := let P := w.params; ⟨tr_lp10 P (⟨.type "dict", none, .dict ([⟨PyData.keyHash P ⟨#[95, 95, 110, 97, 109, 101, 95, 95]⟩, .str ⟨#[95, 95, 110, 97, 109, 101, 95, 95]⟩ 165, .str ⟨#[99, 112, 121, 51, 49, 51, 46, 101, 109, 97, 105, 108, 46, 113, 117, 111, 112, 114, 105, 109, 105, 109, 101]⟩ 1229⟩, ⟨PyData.keyHash P ⟨#[95, 95, 100, 111, 99, 95, 95]⟩, .str ⟨#[95, 95, 100, 111, 99, 95, 95]⟩ 166, .none⟩, ⟨PyData.keyHash P ⟨#[95, 95, 112, 97, 99, 107, 97, 103, 101, 95, 95]⟩, .str ⟨#[95, 95, 112, 97, 99, 107, 97, 103, 101, 95, 95]⟩ 167, .none⟩, ⟨PyData.keyHash P ⟨#[95, 95, 108, 111, 97, 100, 101, 114, 95, 95]⟩, .str ⟨#[95, 95, 108, 111, 97, 100, 101, 114, 95, 95]⟩ 168, .builtin "__main__.__loader__#opaque"⟩, ⟨PyData.keyHash P ⟨#[95, 95, 115, 112, 101, 99, 95, 95]⟩, .str ⟨#[95, 95, 115, 112, 101, 99, 95, 95]⟩ 169, .none⟩, ⟨PyData.keyHash P ⟨#[95, 95, 97, 110, 110, 111, 116, 97, 116, 105, 111, 110, 115, 95, 95]⟩, .str ⟨#[95, 95, 97, 110, 110, 111, 116, 97, 116, 105, 111, 110, 115, 95, 95]⟩ 170, .ref 6⟩, ⟨PyData.keyHash P ⟨#[95, 95, 98, 117, 105, 108, 116, 105, 110, 115, 95, 95]⟩, .str ⟨#[95, 95, 98, 117, 105, 108, 116, 105, 110, 115, 95, 95]⟩ 171, .ref 4⟩, ⟨PyData.keyHash P ⟨#[95, 95, 102, 105, 108, 101, 95, 95]⟩, .str ⟨#[95, 95, 102, 105, 108, 101, 95, 95]⟩ 173, .str ⟨#[47, 99, 108, 97, 105, 109, 47, 99, 117, 116, 46, 112, 121]⟩ 172⟩, ⟨PyData.keyHash P ⟨#[95, 95, 99, 97, 99, 104, 101, 100, 95, 95]⟩, .str ⟨#[95, 95, 99, 97, 99, 104, 101, 100, 95, 95]⟩ 174, .none⟩, ⟨PyData.keyHash P ⟨#[67, 82, 76, 70]⟩, .str ⟨#[67, 82, 76, 70]⟩ 188, .str ⟨#[13, 10]⟩ 187⟩, ⟨PyData.keyHash P ⟨#[78, 76]⟩, .str ⟨#[78, 76]⟩ 190, .str ⟨#[10]⟩ 189⟩, ⟨PyData.keyHash P ⟨#[95, 81, 85, 79, 80, 82, 73, 95, 77, 65, 80]⟩, .str ⟨#[95, 81, 85, 79, 80, 82, 73, 95, 77, 65, 80]⟩ 1218, .ref 17⟩, ⟨PyData.keyHash P ⟨#[95, 81, 85, 79, 80, 82, 73, 95, 72, 69, 65, 68, 69, 82, 95, 77, 65, 80]⟩, .str ⟨#[95, 81, 85, 79, 80, 82, 73, 95, 72, 69, 65, 68, 69, 82, 95, 77, 65, 80]⟩ 1219, .ref 22⟩, ⟨PyData.keyHash P ⟨#[95, 81, 85, 79, 80, 82, 73, 95, 66, 79, 68, 89, 95, 77, 65, 80]⟩, .str ⟨#[95, 81, 85, 79, 80, 82, 73, 95, 66, 79, 68, 89, 95, 77, 65, 80]⟩ 1220, .ref 24⟩, ⟨PyData.keyHash P ⟨#[97, 115, 99, 105, 105, 95, 108, 111, 119, 101, 114, 99, 97, 115, 101]⟩, .str ⟨#[97, 115, 99, 105, 105, 95, 108, 111, 119, 101, 114, 99, 97, 115, 101]⟩ 1222, .str ⟨#[97, 98, 99, 100, 101, 102, 103, 104, 105, 106, 107, 108, 109, 110, 111, 112, 113, 114, 115, 116, 117, 118, 119, 120, 121, 122]⟩ 1221⟩, ⟨PyData.keyHash P ⟨#[97, 115, 99, 105, 105, 95, 117, 112, 112, 101, 114, 99, 97, 115, 101]⟩, .str ⟨#[97, 115, 99, 105, 105, 95, 117, 112, 112, 101, 114, 99, 97, 115, 101]⟩ 1224, .str ⟨#[65, 66, 67, 68, 69, 70, 71, 72, 73, 74, 75, 76, 77, 78, 79, 80, 81, 82, 83, 84, 85, 86, 87, 88, 89, 90]⟩ 1223⟩, ⟨PyData.keyHash P ⟨#[97, 115, 99, 105, 105, 95, 108, 101, 116, 116, 101, 114, 115]⟩, .str ⟨#[97, 115, 99, 105, 105, 95, 108, 101, 116, 116, 101, 114, 115]⟩ 1226, .str ⟨#[97, 98, 99, 100, 101, 102, 103, 104, 105, 106, 107, 108, 109, 110, 111, 112, 113, 114, 115, 116, 117, 118, 119, 120, 121, 122, 65, 66, 67, 68, 69, 70, 71, 72, 73, 74, 75, 76, 77, 78, 79, 80, 81, 82, 83, 84, 85, 86, 87, 88, 89, 90]⟩ 1225⟩, ⟨PyData.keyHash P ⟨#[100, 105, 103, 105, 116, 115]⟩, .str ⟨#[100, 105, 103, 105, 116, 115]⟩ 1228, .str ⟨#[48, 49, 50, 51, 52, 53, 54, 55, 56, 57]⟩ 1227⟩, ⟨PyData.keyHash P ⟨#[99]⟩, .str ⟨#[99]⟩ 1239, .int 100 1262⟩]).toArray 19, #[]⟩) (⟨.type "list", none, .seq (mixL 9 lp10_r22 lp10_x22 lp10_y22).toArray 0, #[]⟩) (⟨.type "bytes_iterator", none, .fields ([.bytes #[45, 33, 42, 43, 47, 97, 98, 99, 100, 101, 102, 103, 104, 105, 106, 107, 108, 109, 110, 111, 112, 113, 114, 115, 116, 117, 118, 119, 120, 121, 122, 65, 66, 67, 68, 69, 70, 71, 72, 73, 74, 75, 76, 77, 78, 79, 80, 81, 82, 83, 84, 85, 86, 87, 88, 89, 90, 48, 49, 50, 51, 52, 53, 54, 55, 56, 57] 1237, .int 9 0]).toArray, #[]⟩), 26, life0, Array.mk [], boot_drawn, 1265, os⟩
theorem lp10_go1 (w : World) (os : OsState) : PySem.W.Fast.tw10295753902157049106 PySem.W.Fast.tw14364793385576792824 PR w 11 ann0 1 360 (lp10_s1 w os) lp10_T = some (lp10_s9 w os, lp10_T) := by kernel_rfl
noncomputable def lp10_s17 (w : World) (os : OsState) : SharedT := let P := w.params; ⟨tr_lp10 P (⟨.type "dict", none, .dict ([⟨PyData.keyHash P ⟨#[95, 95, 110, 97, 109, 101, 95, 95]⟩, .str ⟨#[95, 95, 110, 97, 109, 101, 95, 95]⟩ 165, .str ⟨#[99, 112, 121, 51, 49, 51, 46, 101, 109, 97, 105, 108, 46, 113, 117, 111, 112, 114, 105, 109, 105, 109, 101]⟩ 1229⟩, ⟨PyData.keyHash P ⟨#[95, 95, 100, 111, 99, 95, 95]⟩, .str ⟨#[95, 95, 100, 111, 99, 95, 95]⟩ 166, .none⟩, ⟨PyData.keyHash P ⟨#[95, 95, 112, 97, 99, 107, 97, 103, 101, 95, 95]⟩, .str ⟨#[95, 95, 112, 97, 99, 107, 97, 103, 101, 95, 95]⟩ 167, .none⟩, ⟨PyData.keyHash P ⟨#[95, 95, 108, 111, 97, 100, 101, 114, 95, 95]⟩, .str ⟨#[95, 95, 108, 111, 97, 100, 101, 114, 95, 95]⟩ 168, .builtin "__main__.__loader__#opaque"⟩, ⟨PyData.keyHash P ⟨#[95, 95, 115, 112, 101, 99, 95, 95]⟩, .str ⟨#[95, 95, 115, 112, 101, 99, 95, 95]⟩ 169, .none⟩, ⟨PyData.keyHash P ⟨#[95, 95, 97, 110, 110, 111, 116, 97, 116, 105, 111, 110, 115, 95, 95]⟩, .str ⟨#[95, 95, 97, 110, 110, 111, 116, 97, 116, 105, 111, 110, 115, 95, 95]⟩ 170, .ref 6⟩, ⟨PyData.keyHash P ⟨#[95, 95, 98, 117, 105, 108, 116, 105, 110, 115, 95, 95]⟩, .str ⟨#[95, 95, 98, 117, 105, 108, 116, 105, 110, 115, 95, 95]⟩ 171, .ref 4⟩, ⟨PyData.keyHash P ⟨#[95, 95, 102, 105, 108, 101, 95, 95]⟩, .str ⟨#[95, 95, 102, 105, 108, 101, 95, 95]⟩ 173, .str ⟨#[47, 99, 108, 97, 105, 109, 47, 99, 117, 116, 46, 112, 121]⟩ 172⟩, ⟨PyData.keyHash P ⟨#[95, 95, 99, 97, 99, 104, 101, 100, 95, 95]⟩, .str ⟨#[95, 95, 99, 97, 99, 104, 101, 100, 95, 95]⟩ 174, .none⟩, ⟨PyData.keyHash P ⟨#[67, 82, 76, 70]⟩, .str ⟨#[67, 82, 76, 70]⟩ 188, .str ⟨#[13, 10]⟩ 187⟩, ⟨PyData.keyHash P ⟨#[78, 76]⟩, .str ⟨#[78, 76]⟩ 190, .str ⟨#[10]⟩ 189⟩, ⟨PyData.keyHash P ⟨#[95, 81, 85, 79, 80, 82, 73, 95, 77, 65, 80]⟩, .str ⟨#[95, 81, 85, 79, 80, 82, 73, 95, 77, 65, 80]⟩ 1218, .ref 17⟩, ⟨PyData.keyHash P ⟨#[95, 81, 85, 79, 80, 82, 73, 95, 72, 69, 65, 68, 69, 82, 95, 77, 65, 80]⟩, .str ⟨#[95, 81, 85, 79, 80, 82, 73, 95, 72, 69, 65, 68, 69, 82, 95, 77, 65, 80]⟩ 1219, .ref 22⟩, ⟨PyData.keyHash P ⟨#[95, 81, 85, 79, 80, 82, 73, 95, 66, 79, 68, 89, 95, 77, 65, 80]⟩, .str ⟨#[95, 81, 85, 79, 80, 82, 73, 95, 66, 79, 68, 89, 95, 77, 65, 80]⟩ 1220, .ref 24⟩, ⟨PyData.keyHash P ⟨#[97, 115, 99, 105, 105, 95, 108, 111, 119, 101, 114, 99, 97, 115, 101]⟩, .str ⟨#[97, 115, 99, 105, 105, 95, 108, 111, 119, 101, 114, 99, 97, 115, 101]⟩ 1222, .str ⟨#[97, 98, 99, 100, 101, 102, 103, 104, 105, 106, 107, 108, 109, 110, 111, 112, 113, 114, 115, 116, 117, 118, 119, 120, 121, 122]⟩ 1221⟩, ⟨PyData.keyHash P ⟨#[97, 115, 99, 105, 105, 95, 117, 112, 112, 101, 114, 99, 97, 115, 101]⟩, .str ⟨#[97, 115, 99, 105, 105, 95, 117, 112, 112, 101, 114, 99, 97, 115, 101]⟩ 1224, .str ⟨#[65, 66, 67, 68, 69, 70, 71, 72, 73, 74, 75, 76, 77, 78, 79, 80, 81, 82, 83, 84, 85, 86, 87, 88, 89, 90]⟩ 1223⟩, ⟨PyData.keyHash P ⟨#[97, 115, 99, 105, 105, 95, 108, 101, 116, 116, 101, 114, 115]⟩, .str ⟨#[97, 115, 99, 105, 105, 95, 108, 101, 116, 116, 101, 114, 115]⟩ 1226, .str ⟨#[97, 98, 99, 100, 101, 102, 103, 104, 105, 106, 107, 108, 109, 110, 111, 112, 113, 114, 115, 116, 117, 118, 119, 120, 121, 122, 65, 66, 67, 68, 69, 70, 71, 72, 73, 74, 75, 76, 77, 78, 79, 80, 81, 82, 83, 84, 85, 86, 87, 88, 89, 90]⟩ 1225⟩, ⟨PyData.keyHash P ⟨#[100, 105, 103, 105, 116, 115]⟩, .str ⟨#[100, 105, 103, 105, 116, 115]⟩ 1228, .str ⟨#[48, 49, 50, 51, 52, 53, 54, 55, 56, 57]⟩ 1227⟩, ⟨PyData.keyHash P ⟨#[99]⟩, .str ⟨#[99]⟩ 1239, .int 108 1286⟩]).toArray 19, #[]⟩) (⟨.type "list", none, .seq (mixL 17 lp10_r22 lp10_x22 lp10_y22).toArray 0, #[]⟩) (⟨.type "bytes_iterator", none, .fields ([.bytes #[45, 33, 42, 43, 47, 97, 98, 99, 100, 101, 102, 103, 104, 105, 106, 107, 108, 109, 110, 111, 112, 113, 114, 115, 116, 117, 118, 119, 120, 121, 122, 65, 66, 67, 68, 69, 70, 71, 72, 73, 74, 75, 76, 77, 78, 79, 80, 81, 82, 83, 84, 85, 86, 87, 88, 89, 90, 48, 49, 50, 51, 52, 53, 54, 55, 56, 57] 1237, .int 17 0]).toArray, #[]⟩), 26, life0, Array.mk [], boot_drawn, 1289, os⟩
theorem lp10_go9 (w : World) (os : OsState) : PySem.W.Fast.tw10295753902157049106 PySem.W.Fast.tw14364793385576792824 PR w 11 ann0 1 360 (lp10_s9 w os) lp10_T = some (lp10_s17 w os, lp10_T) := by kernel_rfl
noncomputable def lp10_s25 (w : World) (os : OsState) : SharedT := let P := w.params; ⟨tr_lp10 P (⟨.type "dict", none, .dict ([⟨PyData.keyHash P ⟨#[95, 95, 110, 97, 109, 101, 95, 95]⟩, .str ⟨#[95, 95, 110, 97, 109, 101, 95, 95]⟩ 165, .str ⟨#[99, 112, 121, 51, 49, 51, 46, 101, 109, 97, 105, 108, 46, 113, 117, 111, 112, 114, 105, 109, 105, 109, 101]⟩ 1229⟩, ⟨PyData.keyHash P ⟨#[95, 95, 100, 111, 99, 95, 95]⟩, .str ⟨#[95, 95, 100, 111, 99, 95, 95]⟩ 166, .none⟩, ⟨PyData.keyHash P ⟨#[95, 95, 112, 97, 99, 107, 97, 103, 101, 95, 95]⟩, .str ⟨#[95, 95, 112, 97, 99, 107, 97, 103, 101, 95, 95]⟩ 167, .none⟩, ⟨PyData.keyHash P ⟨#[95, 95, 108, 111, 97, 100, 101, 114, 95, 95]⟩, .str ⟨#[95, 95, 108, 111, 97, 100, 101, 114, 95, 95]⟩ 168, .builtin "__main__.__loader__#opaque"⟩, ⟨PyData.keyHash P ⟨#[95, 95, 115, 112, 101, 99, 95, 95]⟩, .str ⟨#[95, 95, 115, 112, 101, 99, 95, 95]⟩ 169, .none⟩, ⟨PyData.keyHash P ⟨#[95, 95, 97, 110, 110, 111, 116, 97, 116, 105, 111, 110, 115, 95, 95]⟩, .str ⟨#[95, 95, 97, 110, 110, 111, 116, 97, 116, 105, 111, 110, 115, 95, 95]⟩ 170, .ref 6⟩, ⟨PyData.keyHash P ⟨#[95, 95, 98, 117, 105, 108, 116, 105, 110, 115, 95, 95]⟩, .str ⟨#[95, 95, 98, 117, 105, 108, 116, 105, 110, 115, 95, 95]⟩ 171, .ref 4⟩, ⟨PyData.keyHash P ⟨#[95, 95, 102, 105, 108, 101, 95, 95]⟩, .str ⟨#[95, 95, 102, 105, 108, 101, 95, 95]⟩ 173, .str ⟨#[47, 99, 108, 97, 105, 109, 47, 99, 117, 116, 46, 112, 121]⟩ 172⟩, ⟨PyData.keyHash P ⟨#[95, 95, 99, 97, 99, 104, 101, 100, 95, 95]⟩, .str ⟨#[95, 95, 99, 97, 99, 104, 101, 100, 95, 95]⟩ 174, .none⟩, ⟨PyData.keyHash P ⟨#[67, 82, 76, 70]⟩, .str ⟨#[67, 82, 76, 70]⟩ 188, .str ⟨#[13, 10]⟩ 187⟩, ⟨PyData.keyHash P ⟨#[78, 76]⟩, .str ⟨#[78, 76]⟩ 190, .str ⟨#[10]⟩ 189⟩, ⟨PyData.keyHash P ⟨#[95, 81, 85, 79, 80, 82, 73, 95, 77, 65, 80]⟩, .str ⟨#[95, 81, 85, 79, 80, 82, 73, 95, 77, 65, 80]⟩ 1218, .ref 17⟩, ⟨PyData.keyHash P ⟨#[95, 81, 85, 79, 80, 82, 73, 95, 72, 69, 65, 68, 69, 82, 95, 77, 65, 80]⟩, .str ⟨#[95, 81, 85, 79, 80, 82, 73, 95, 72, 69, 65, 68, 69, 82, 95, 77, 65, 80]⟩ 1219, .ref 22⟩, ⟨PyData.keyHash P ⟨#[95, 81, 85, 79, 80, 82, 73, 95, 66, 79, 68, 89, 95, 77, 65, 80]⟩, .str ⟨#[95, 81, 85, 79, 80, 82, 73, 95, 66, 79, 68, 89, 95, 77, 65, 80]⟩ 1220, .ref 24⟩, ⟨PyData.keyHash P ⟨#[97, 115, 99, 105, 105, 95, 108, 111, 119, 101, 114, 99, 97, 115, 101]⟩, .str ⟨#[97, 115, 99, 105, 105, 95, 108, 111, 119, 101, 114, 99, 97, 115, 101]⟩ 1222, .str ⟨#[97, 98, 99, 100, 101, 102, 103, 104, 105, 106, 107, 108, 109, 110, 111, 112, 113, 114, 115, 116, 117, 118, 119, 120, 121, 122]⟩ 1221⟩, ⟨PyData.keyHash P ⟨#[97, 115, 99, 105, 105, 95, 117, 112, 112, 101, 114, 99, 97, 115, 101]⟩, .str ⟨#[97, 115, 99, 105, 105, 95, 117, 112, 112, 101, 114, 99, 97, 115, 101]⟩ 1224, .str ⟨#[65, 66, 67, 68, 69, 70, 71, 72, 73, 74, 75, 76, 77, 78, 79, 80, 81, 82, 83, 84, 85, 86, 87, 88, 89, 90]⟩ 1223⟩, ⟨PyData.keyHash P ⟨#[97, 115, 99, 105, 105, 95, 108, 101, 116, 116, 101, 114, 115]⟩, .str ⟨#[97, 115, 99, 105, 105, 95, 108, 101, 116, 116, 101, 114, 115]⟩ 1226, .str ⟨#[97, 98, 99, 100, 101, 102, 103, 104, 105, 106, 107, 108, 109, 110, 111, 112, 113, 114, 115, 116, 117, 118, 119, 120, 121, 122, 65, 66, 67, 68, 69, 70, 71, 72, 73, 74, 75, 76, 77, 78, 79, 80, 81, 82, 83, 84, 85, 86, 87, 88, 89, 90]⟩ 1225⟩, ⟨PyData.keyHash P ⟨#[100, 105, 103, 105, 116, 115]⟩, .str ⟨#[100, 105, 103, 105, 116, 115]⟩ 1228, .str ⟨#[48, 49, 50, 51, 52, 53, 54, 55, 56, 57]⟩ 1227⟩, ⟨PyData.keyHash P ⟨#[99]⟩, .str ⟨#[99]⟩ 1239, .int 116 1310⟩]).toArray 19, #[]⟩) (⟨.type "list", none, .seq (mixL 25 lp10_r22 lp10_x22 lp10_y22).toArray 0, #[]⟩) (⟨.type "bytes_iterator", none, .fields ([.bytes #[45, 33, 42, 43, 47, 97, 98, 99, 100, 101, 102, 103, 104, 105, 106, 107, 108, 109, 110, 111, 112, 113, 114, 115, 116, 117, 118, 119, 120, 121, 122, 65, 66, 67, 68, 69, 70, 71, 72, 73, 74, 75, 76, 77, 78, 79, 80, 81, 82, 83, 84, 85, 86, 87, 88, 89, 90, 48, 49, 50, 51, 52, 53, 54, 55, 56, 57] 1237, .int 25 0]).toArray, #[]⟩), 26, life0, Array.mk [], boot_drawn, 1313, os⟩
theorem lp10_go17 (w : World) (os : OsState) : PySem.W.Fast.tw10295753902157049106 PySem.W.Fast.tw14364793385576792824 PR w 11 ann0 1 360 (lp10_s17 w os) lp10_T = some (lp10_s25 w os, lp10_T) := by kernel_rfl
noncomputable def lp10_s33 (w : World) (os : OsState) : SharedT := let P := w.params; ⟨tr_lp10 P (⟨.type "dict", none, .dict ([⟨PyData.keyHash P ⟨#[95, 95, 110, 97, 109, 101, 95, 95]⟩, .str ⟨#[95, 95, 110, 97, 109, 101, 95, 95]⟩ 165, .str ⟨#[99, 112, 121, 51, 49, 51, 46, 101, 109, 97, 105, 108, 46, 113, 117, 111, 112, 114, 105, 109, 105, 109, 101]⟩ 1229⟩, ⟨PyData.keyHash P ⟨#[95, 95, 100, 111, 99, 95, 95]⟩, .str ⟨#[95, 95, 100, 111, 99, 95, 95]⟩ 166, .none⟩, ⟨PyData.keyHash P ⟨#[95, 95, 112, 97, 99, 107, 97, 103, 101, 95, 95]⟩, .str ⟨#[95, 95, 112, 97, 99, 107, 97, 103, 101, 95, 95]⟩ 167, .none⟩, ⟨PyData.keyHash P ⟨#[95, 95, 108, 111, 97, 100, 101, 114, 95, 95]⟩, .str ⟨#[95, 95, 108, 111, 97, 100, 101, 114, 95, 95]⟩ 168, .builtin "__main__.__loader__#opaque"⟩, ⟨PyData.keyHash P ⟨#[95, 95, 115, 112, 101, 99, 95, 95]⟩, .str ⟨#[95, 95, 115, 112, 101, 99, 95, 95]⟩ 169, .none⟩, ⟨PyData.keyHash P ⟨#[95, 95, 97, 110, 110, 111, 116, 97, 116, 105, 111, 110, 115, 95, 95]⟩, .str ⟨#[95, 95, 97, 110, 110, 111, 116, 97, 116, 105, 111, 110, 115, 95, 95]⟩ 170, .ref 6⟩, ⟨PyData.keyHash P ⟨#[95, 95, 98, 117, 105, 108, 116, 105, 110, 115, 95, 95]⟩, .str ⟨#[95, 95, 98, 117, 105, 108, 116, 105, 110, 115, 95, 95]⟩ 171, .ref 4⟩, ⟨PyData.keyHash P ⟨#[95, 95, 102, 105, 108, 101, 95, 95]⟩, .str ⟨#[95, 95, 102, 105, 108, 101, 95, 95]⟩ 173, .str ⟨#[47, 99, 108, 97, 105, 109, 47, 99, 117, 116, 46, 112, 121]⟩ 172⟩, ⟨PyData.keyHash P ⟨#[95, 95, 99, 97, 99, 104, 101, 100, 95, 95]⟩, .str ⟨#[95, 95, 99, 97, 99, 104, 101, 100, 95, 95]⟩ 174, .none⟩, ⟨PyData.keyHash P ⟨#[67, 82, 76, 70]⟩, .str ⟨#[67, 82, 76, 70]⟩ 188, .str ⟨#[13, 10]⟩ 187⟩, ⟨PyData.keyHash P ⟨#[78, 76]⟩, .str ⟨#[78, 76]⟩ 190, .str ⟨#[10]⟩ 189⟩, ⟨PyData.keyHash P ⟨#[95, 81, 85, 79, 80, 82, 73, 95, 77, 65, 80]⟩, .str ⟨#[95, 81, 85, 79, 80, 82, 73, 95, 77, 65, 80]⟩ 1218, .ref 17⟩, ⟨PyData.keyHash P ⟨#[95, 81, 85, 79, 80, 82, 73, 95, 72, 69, 65, 68, 69, 82, 95, 77, 65, 80]⟩, .str ⟨#[95, 81, 85, 79, 80, 82, 73, 95, 72, 69, 65, 68, 69, 82, 95, 77, 65, 80]⟩ 1219, .ref 22⟩, ⟨PyData.keyHash P ⟨#[95, 81, 85, 79, 80, 82, 73, 95, 66, 79, 68, 89, 95, 77, 65, 80]⟩, .str ⟨#[95, 81, 85, 79, 80, 82, 73, 95, 66, 79, 68, 89, 95, 77, 65, 80]⟩ 1220, .ref 24⟩, ⟨PyData.keyHash P ⟨#[97, 115, 99, 105, 105, 95, 108, 111, 119, 101, 114, 99, 97, 115, 101]⟩, .str ⟨#[97, 115, 99, 105, 105, 95, 108, 111, 119, 101, 114, 99, 97, 115, 101]⟩ 1222, .str ⟨#[97, 98, 99, 100, 101, 102, 103, 104, 105, 106, 107, 108, 109, 110, 111, 112, 113, 114, 115, 116, 117, 118, 119, 120, 121, 122]⟩ 1221⟩, ⟨PyData.keyHash P ⟨#[97, 115, 99, 105, 105, 95, 117, 112, 112, 101, 114, 99, 97, 115, 101]⟩, .str ⟨#[97, 115, 99, 105, 105, 95, 117, 112, 112, 101, 114, 99, 97, 115, 101]⟩ 1224, .str ⟨#[65, 66, 67, 68, 69, 70, 71, 72, 73, 74, 75, 76, 77, 78, 79, 80, 81, 82, 83, 84, 85, 86, 87, 88, 89, 90]⟩ 1223⟩, ⟨PyData.keyHash P ⟨#[97, 115, 99, 105, 105, 95, 108, 101, 116, 116, 101, 114, 115]⟩, .str ⟨#[97, 115, 99, 105, 105, 95, 108, 101, 116, 116, 101, 114, 115]⟩ 1226, .str ⟨#[97, 98, 99, 100, 101, 102, 103, 104, 105, 106, 107, 108, 109, 110, 111, 112, 113, 114, 115, 116, 117, 118, 119, 120, 121, 122, 65, 66, 67, 68, 69, 70, 71, 72, 73, 74, 75, 76, 77, 78, 79, 80, 81, 82, 83, 84, 85, 86, 87, 88, 89, 90]⟩ 1225⟩, ⟨PyData.keyHash P ⟨#[100, 105, 103, 105, 116, 115]⟩, .str ⟨#[100, 105, 103, 105, 116, 115]⟩ 1228, .str ⟨#[48, 49, 50, 51, 52, 53, 54, 55, 56, 57]⟩ 1227⟩, ⟨PyData.keyHash P ⟨#[99]⟩, .str ⟨#[99]⟩ 1239, .int 66 1334⟩]).toArray 19, #[]⟩) (⟨.type "list", none, .seq (mixL 33 lp10_r22 lp10_x22 lp10_y22).toArray 0, #[]⟩) (⟨.type "bytes_iterator", none, .fields ([.bytes #[45, 33, 42, 43, 47, 97, 98, 99, 100, 101, 102, 103, 104, 105, 106, 107, 108, 109, 110, 111, 112, 113, 114, 115, 116, 117, 118, 119, 120, 121, 122, 65, 66, 67, 68, 69, 70, 71, 72, 73, 74, 75, 76, 77, 78, 79, 80, 81, 82, 83, 84, 85, 86, 87, 88, 89, 90, 48, 49, 50, 51, 52, 53, 54, 55, 56, 57] 1237, .int 33 0]).toArray, #[]⟩), 26, life0, Array.mk [], boot_drawn, 1337, os⟩
theorem lp10_go25 (w : World) (os : OsState) : PySem.W.Fast.tw10295753902157049106 PySem.W.Fast.tw14364793385576792824 PR w 11 ann0 1 360 (lp10_s25 w os) lp10_T = some (lp10_s33 w os, lp10_T) := by kernel_rfl
noncomputable def lp10_s41 (w : World) (os : OsState) : SharedT := let P := w.params; ⟨tr_lp10 P (⟨.type "dict", none, .dict ([⟨PyData.keyHash P ⟨#[95, 95, 110, 97, 109, 101, 95, 95]⟩, .str ⟨#[95, 95, 110, 97, 109, 101, 95, 95]⟩ 165, .str ⟨#[99, 112, 121, 51, 49, 51, 46, 101, 109, 97, 105, 108, 46, 113, 117, 111, 112, 114, 105, 109, 105, 109, 101]⟩ 1229⟩, ⟨PyData.keyHash P ⟨#[95, 95, 100, 111, 99, 95, 95]⟩, .str ⟨#[95, 95, 100, 111, 99, 95, 95]⟩ 166, .none⟩, ⟨PyData.keyHash P ⟨#[95, 95, 112, 97, 99, 107, 97, 103, 101, 95, 95]⟩, .str ⟨#[95, 95, 112, 97, 99, 107, 97, 103, 101, 95, 95]⟩ 167, .none⟩, ⟨PyData.keyHash P ⟨#[95, 95, 108, 111, 97, 100, 101, 114, 95, 95]⟩, .str ⟨#[95, 95, 108, 111, 97, 100, 101, 114, 95, 95]⟩ 168, .builtin "__main__.__loader__#opaque"⟩, ⟨PyData.keyHash P ⟨#[95, 95, 115, 112, 101, 99, 95, 95]⟩, .str ⟨#[95, 95, 115, 112, 101, 99, 95, 95]⟩ 169, .none⟩, ⟨PyData.keyHash P ⟨#[95, 95, 97, 110, 110, 111, 116, 97, 116, 105, 111, 110, 115, 95, 95]⟩, .str ⟨#[95, 95, 97, 110, 110, 111, 116, 97, 116, 105, 111, 110, 115, 95, 95]⟩ 170, .ref 6⟩, ⟨PyData.keyHash P ⟨#[95, 95, 98, 117, 105, 108, 116, 105, 110, 115, 95, 95]⟩, .str ⟨#[95, 95, 98, 117, 105, 108, 116, 105, 110, 115, 95, 95]⟩ 171, .ref 4⟩, ⟨PyData.keyHash P ⟨#[95, 95, 102, 105, 108, 101, 95, 95]⟩, .str ⟨#[95, 95, 102, 105, 108, 101, 95, 95]⟩ 173, .str ⟨#[47, 99, 108, 97, 105, 109, 47, 99, 117, 116, 46, 112, 121]⟩ 172⟩, ⟨PyData.keyHash P ⟨#[95, 95, 99, 97, 99, 104, 101, 100, 95, 95]⟩, .str ⟨#[95, 95, 99, 97, 99, 104, 101, 100, 95, 95]⟩ 174, .none⟩, ⟨PyData.keyHash P ⟨#[67, 82, 76, 70]⟩, .str ⟨#[67, 82, 76, 70]⟩ 188, .str ⟨#[13, 10]⟩ 187⟩, ⟨PyData.keyHash P ⟨#[78, 76]⟩, .str ⟨#[78, 76]⟩ 190, .str ⟨#[10]⟩ 189⟩, ⟨PyData.keyHash P ⟨#[95, 81, 85, 79, 80, 82, 73, 95, 77, 65, 80]⟩, .str ⟨#[95, 81, 85, 79, 80, 82, 73, 95, 77, 65, 80]⟩ 1218, .ref 17⟩, ⟨PyData.keyHash P ⟨#[95, 81, 85, 79, 80, 82, 73, 95, 72, 69, 65, 68, 69, 82, 95, 77, 65, 80]⟩, .str ⟨#[95, 81, 85, 79, 80, 82, 73, 95, 72, 69, 65, 68, 69, 82, 95, 77, 65, 80]⟩ 1219, .ref 22⟩, ⟨PyData.keyHash P ⟨#[95, 81, 85, 79, 80, 82, 73, 95, 66, 79, 68, 89, 95, 77, 65, 80]⟩, .str ⟨#[95, 81, 85, 79, 80, 82, 73, 95, 66, 79, 68, 89, 95, 77, 65, 80]⟩ 1220, .ref 24⟩, ⟨PyData.keyHash P ⟨#[97, 115, 99, 105, 105, 95, 108, 111, 119, 101, 114, 99, 97, 115, 101]⟩, .str ⟨#[97, 115, 99, 105, 105, 95, 108, 111, 119, 101, 114, 99, 97, 115, 101]⟩ 1222, .str ⟨#[97, 98, 99, 100, 101, 102, 103, 104, 105, 106, 107, 108, 109, 110, 111, 112, 113, 114, 115, 116, 117, 118, 119, 120, 121, 122]⟩ 1221⟩, ⟨PyData.keyHash P ⟨#[97, 115, 99, 105, 105, 95, 117, 112, 112, 101, 114, 99, 97, 115, 101]⟩, .str ⟨#[97, 115, 99, 105, 105, 95, 117, 112, 112, 101, 114, 99, 97, 115, 101]⟩ 1224, .str ⟨#[65, 66, 67, 68, 69, 70, 71, 72, 73, 74, 75, 76, 77, 78, 79, 80, 81, 82, 83, 84, 85, 86, 87, 88, 89, 90]⟩ 1223⟩, ⟨PyData.keyHash P ⟨#[97, 115, 99, 105, 105, 95, 108, 101, 116, 116, 101, 114, 115]⟩, .str ⟨#[97, 115, 99, 105, 105, 95, 108, 101, 116, 116, 101, 114, 115]⟩ 1226, .str ⟨#[97, 98, 99, 100, 101, 102, 103, 104, 105, 106, 107, 108, 109, 110, 111, 112, 113, 114, 115, 116, 117, 118, 119, 120, 121, 122, 65, 66, 67, 68, 69, 70, 71, 72, 73, 74, 75, 76, 77, 78, 79, 80, 81, 82, 83, 84, 85, 86, 87, 88, 89, 90]⟩ 1225⟩, ⟨PyData.keyHash P ⟨#[100, 105, 103, 105, 116, 115]⟩, .str ⟨#[100, 105, 103, 105, 116, 115]⟩ 1228, .str ⟨#[48, 49, 50, 51, 52, 53, 54, 55, 56, 57]⟩ 1227⟩, ⟨PyData.keyHash P ⟨#[99]⟩, .str ⟨#[99]⟩ 1239, .int 74 1358⟩]).toArray 19, #[]⟩) (⟨.type "list", none, .seq (mixL 41 lp10_r22 lp10_x22 lp10_y22).toArray 0, #[]⟩) (⟨.type "bytes_iterator", none, .fields ([.bytes #[45, 33, 42, 43, 47, 97, 98, 99, 100, 101, 102, 103, 104, 105, 106, 107, 108, 109, 110, 111, 112, 113, 114, 115, 116, 117, 118, 119, 120, 121, 122, 65, 66, 67, 68, 69, 70, 71, 72, 73, 74, 75, 76, 77, 78, 79, 80, 81, 82, 83, 84, 85, 86, 87, 88, 89, 90, 48, 49, 50, 51, 52, 53, 54, 55, 56, 57] 1237, .int 41 0]).toArray, #[]⟩), 26, life0, Array.mk [], boot_drawn, 1361, os⟩
theorem lp10_go33 (w : World) (os : OsState) : PySem.W.Fast.tw10295753902157049106 PySem.W.Fast.tw14364793385576792824 PR w 11 ann0 1 360 (lp10_s33 w os) lp10_T = some (lp10_s41 w os, lp10_T) := by kernel_rfl
noncomputable def lp10_s49 (w : World) (os : OsState) : SharedT := let P := w.params; ⟨tr_lp10 P (⟨.type "dict", none, .dict ([⟨PyData.keyHash P ⟨#[95, 95, 110, 97, 109, 101, 95, 95]⟩, .str ⟨#[95, 95, 110, 97, 109, 101, 95, 95]⟩ 165, .str ⟨#[99, 112, 121, 51, 49, 51, 46, 101, 109, 97, 105, 108, 46, 113, 117, 111, 112, 114, 105, 109, 105, 109, 101]⟩ 1229⟩, ⟨PyData.keyHash P ⟨#[95, 95, 100, 111, 99, 95, 95]⟩, .str ⟨#[95, 95, 100, 111, 99, 95, 95]⟩ 166, .none⟩, ⟨PyData.keyHash P ⟨#[95, 95, 112, 97, 99, 107, 97, 103, 101, 95, 95]⟩, .str ⟨#[95, 95, 112, 97, 99, 107, 97, 103, 101, 95, 95]⟩ 167, .none⟩, ⟨PyData.keyHash P ⟨#[95, 95, 108, 111, 97, 100, 101, 114, 95, 95]⟩, .str ⟨#[95, 95, 108, 111, 97, 100, 101, 114, 95, 95]⟩ 168, .builtin "__main__.__loader__#opaque"⟩, ⟨PyData.keyHash P ⟨#[95, 95, 115, 112, 101, 99, 95, 95]⟩, .str ⟨#[95, 95, 115, 112, 101, 99, 95, 95]⟩ 169, .none⟩, ⟨PyData.keyHash P ⟨#[95, 95, 97, 110, 110, 111, 116, 97, 116, 105, 111, 110, 115, 95, 95]⟩, .str ⟨#[95, 95, 97, 110, 110, 111, 116, 97, 116, 105, 111, 110, 115, 95, 95]⟩ 170, .ref 6⟩, ⟨PyData.keyHash P ⟨#[95, 95, 98, 117, 105, 108, 116, 105, 110, 115, 95, 95]⟩, .str ⟨#[95, 95, 98, 117, 105, 108, 116, 105, 110, 115, 95, 95]⟩ 171, .ref 4⟩, ⟨PyData.keyHash P ⟨#[95, 95, 102, 105, 108, 101, 95, 95]⟩, .str ⟨#[95, 95, 102, 105, 108, 101, 95, 95]⟩ 173, .str ⟨#[47, 99, 108, 97, 105, 109, 47, 99, 117, 116, 46, 112, 121]⟩ 172⟩, ⟨PyData.keyHash P ⟨#[95, 95, 99, 97, 99, 104, 101, 100, 95, 95]⟩, .str ⟨#[95, 95, 99, 97, 99, 104, 101, 100, 95, 95]⟩ 174, .none⟩, ⟨PyData.keyHash P ⟨#[67, 82, 76, 70]⟩, .str ⟨#[67, 82, 76, 70]⟩ 188, .str ⟨#[13, 10]⟩ 187⟩, ⟨PyData.keyHash P ⟨#[78, 76]⟩, .str ⟨#[78, 76]⟩ 190, .str ⟨#[10]⟩ 189⟩, ⟨PyData.keyHash P ⟨#[95, 81, 85, 79, 80, 82, 73, 95, 77, 65, 80]⟩, .str ⟨#[95, 81, 85, 79, 80, 82, 73, 95, 77, 65, 80]⟩ 1218, .ref 17⟩, ⟨PyData.keyHash P ⟨#[95, 81, 85, 79, 80, 82, 73, 95, 72, 69, 65, 68, 69, 82, 95, 77, 65, 80]⟩, .str ⟨#[95, 81, 85, 79, 80, 82, 73, 95, 72, 69, 65, 68, 69, 82, 95, 77, 65, 80]⟩ 1219, .ref 22⟩, ⟨PyData.keyHash P ⟨#[95, 81, 85, 79, 80, 82, 73, 95, 66, 79, 68, 89, 95, 77, 65, 80]⟩, .str ⟨#[95, 81, 85, 79, 80, 82, 73, 95, 66, 79, 68, 89, 95, 77, 65, 80]⟩ 1220, .ref 24⟩, ⟨PyData.keyHash P ⟨#[97, 115, 99, 105, 105, 95, 108, 111, 119, 101, 114, 99, 97, 115, 101]⟩, .str ⟨#[97, 115, 99, 105, 105, 95, 108, 111, 119, 101, 114, 99, 97, 115, 101]⟩ 1222, .str ⟨#[97, 98, 99, 100, 101, 102, 103, 104, 105, 106, 107, 108, 109, 110, 111, 112, 113, 114, 115, 116, 117, 118, 119, 120, 121, 122]⟩ 1221⟩, ⟨PyData.keyHash P ⟨#[97, 115, 99, 105, 105, 95, 117, 112, 112, 101, 114, 99, 97, 115, 101]⟩, .str ⟨#[97, 115, 99, 105, 105, 95, 117, 112, 112, 101, 114, 99, 97, 115, 101]⟩ 1224, .str ⟨#[65, 66, 67, 68, 69, 70, 71, 72, 73, 74, 75, 76, 77, 78, 79, 80, 81, 82, 83, 84, 85, 86, 87, 88, 89, 90]⟩ 1223⟩, ⟨PyData.keyHash P ⟨#[97, 115, 99, 105, 105, 95, 108, 101, 116, 116, 101, 114, 115]⟩, .str ⟨#[97, 115, 99, 105, 105, 95, 108, 101, 116, 116, 101, 114, 115]⟩ 1226, .str ⟨#[97, 98, 99, 100, 101, 102, 103, 104, 105, 106, 107, 108, 109, 110, 111, 112, 113, 114, 115, 116, 117, 118, 119, 120, 121, 122, 65, 66, 67, 68, 69, 70, 71, 72, 73, 74, 75, 76, 77, 78, 79, 80, 81, 82, 83, 84, 85, 86, 87, 88, 89, 90]⟩ 1225⟩, ⟨PyData.keyHash P ⟨#[100, 105, 103, 105, 116, 115]⟩, .str ⟨#[100, 105, 103, 105, 116, 115]⟩ 1228, .str ⟨#[48, 49, 50, 51, 52, 53, 54, 55, 56, 57]⟩ 1227⟩, ⟨PyData.keyHash P ⟨#[99]⟩, .str ⟨#[99]⟩ 1239, .int 82 1382⟩]).toArray 19, #[]⟩) (⟨.type "list", none, .seq (mixL 49 lp10_r22 lp10_x22 lp10_y22).toArray 0, #[]⟩) (⟨.type "bytes_iterator", none, .fields ([.bytes #[45, 33, 42, 43, 47, 97, 98, 99, 100, 101, 102, 103, 104, 105, 106, 107, 108, 109, 110, 111, 112, 113, 114, 115, 116, 117, 118, 119, 120, 121, 122, 65, 66, 67, 68, 69, 70, 71, 72, 73, 74, 75, 76, 77, 78, 79, 80, 81, 82, 83, 84, 85, 86, 87, 88, 89, 90, 48, 49, 50, 51, 52, 53, 54, 55, 56, 57] 1237, .int 49 0]).toArray, #[]⟩), 26, life0, Array.mk [], boot_drawn, 1385, os⟩
theorem lp10_go41 (w : World) (os : OsState) : PySem.W.Fast.tw10295753902157049106 PySem.W.Fast.tw14364793385576792824 PR w 11 ann0 1 360 (lp10_s41 w os) lp10_T = some (lp10_s49 w os, lp10_T) := by kernel_rfl
noncomputable def lp10_s57 (w : World) (os : OsState) : SharedT := let P := w.params; ⟨tr_lp10 P (⟨.type "dict", none, .dict ([⟨PyData.keyHash P ⟨#[95, 95, 110, 97, 109, 101, 95, 95]⟩, .str ⟨#[95, 95, 110, 97, 109, 101, 95, 95]⟩ 165, .str ⟨#[99, 112, 121, 51, 49, 51, 46, 101, 109, 97, 105, 108, 46, 113, 117, 111, 112, 114, 105, 109, 105, 109, 101]⟩ 1229⟩, ⟨PyData.keyHash P ⟨#[95, 95, 100, 111, 99, 95, 95]⟩, .str ⟨#[95, 95, 100, 111, 99, 95, 95]⟩ 166, .none⟩, ⟨PyData.keyHash P ⟨#[95, 95, 112, 97, 99, 107, 97, 103, 101, 95, 95]⟩, .str ⟨#[95, 95, 112, 97, 99, 107, 97, 103, 101, 95, 95]⟩ 167, .none⟩, ⟨PyData.keyHash P ⟨#[95, 95, 108, 111, 97, 100, 101, 114, 95, 95]⟩, .str ⟨#[95, 95, 108, 111, 97, 100, 101, 114, 95, 95]⟩ 168, .builtin "__main__.__loader__#opaque"⟩, ⟨PyData.keyHash P ⟨#[95, 95, 115, 112, 101, 99, 95, 95]⟩, .str ⟨#[95, 95, 115, 112, 101, 99, 95, 95]⟩ 169, .none⟩, ⟨PyData.keyHash P ⟨#[95, 95, 97, 110, 110, 111, 116, 97, 116, 105, 111, 110, 115, 95, 95]⟩, .str ⟨#[95, 95, 97, 110, 110, 111, 116, 97, 116, 105, 111, 110, 115, 95, 95]⟩ 170, .ref 6⟩, ⟨PyData.keyHash P ⟨#[95, 95, 98, 117, 105, 108, 116, 105, 110, 115, 95, 95]⟩, .str ⟨#[95, 95, 98, 117, 105, 108, 116, 105, 110, 115, 95, 95]⟩ 171, .ref 4⟩, ⟨PyData.keyHash P ⟨#[95, 95, 102, 105, 108, 101, 95, 95]⟩, .str ⟨#[95, 95, 102, 105, 108, 101, 95, 95]⟩ 173, .str ⟨#[47, 99, 108, 97, 105, 109, 47, 99, 117, 116, 46, 112, 121]⟩ 172⟩, ⟨PyData.keyHash P ⟨#[95, 95, 99, 97, 99, 104, 101, 100, 95, 95]⟩, .str ⟨#[95, 95, 99, 97, 99, 104, 101, 100, 95, 95]⟩ 174, .none⟩, ⟨PyData.keyHash P ⟨#[67, 82, 76, 70]⟩, .str ⟨#[67, 82, 76, 70]⟩ 188, .str ⟨#[13, 10]⟩ 187⟩, ⟨PyData.keyHash P ⟨#[78, 76]⟩, .str ⟨#[78, 76]⟩ 190, .str ⟨#[10]⟩ 189⟩, ⟨PyData.keyHash P ⟨#[95, 81, 85, 79, 80, 82, 73, 95, 77, 65, 80]⟩, .str ⟨#[95, 81, 85, 79, 80, 82, 73, 95, 77, 65, 80]⟩ 1218, .ref 17⟩, ⟨PyData.keyHash P ⟨#[95, 81, 85, 79, 80, 82, 73, 95, 72, 69, 65, 68, 69, 82, 95, 77, 65, 80]⟩, .str ⟨#[95, 81, 85, 79, 80, 82, 73, 95, 72, 69, 65, 68, 69, 82, 95, 77, 65, 80]⟩ 1219, .ref 22⟩, ⟨PyData.keyHash P ⟨#[95, 81, 85, 79, 80, 82, 73, 95, 66, 79, 68, 89, 95, 77, 65, 80]⟩, .str ⟨#[95, 81, 85, 79, 80, 82, 73, 95, 66, 79, 68, 89, 95, 77, 65, 80]⟩ 1220, .ref 24⟩, ⟨PyData.keyHash P ⟨#[97, 115, 99, 105, 105, 95, 108, 111, 119, 101, 114, 99, 97, 115, 101]⟩, .str ⟨#[97, 115, 99, 105, 105, 95, 108, 111, 119, 101, 114, 99, 97, 115, 101]⟩ 1222, .str ⟨#[97, 98, 99, 100, 101, 102, 103, 104, 105, 106, 107, 108, 109, 110, 111, 112, 113, 114, 115, 116, 117, 118, 119, 120, 121, 122]⟩ 1221⟩, ⟨PyData.keyHash P ⟨#[97, 115, 99, 105, 105, 95, 117, 112, 112, 101, 114, 99, 97, 115, 101]⟩, .str ⟨#[97, 115, 99, 105, 105, 95, 117, 112, 112, 101, 114, 99, 97, 115, 101]⟩ 1224, .str ⟨#[65, 66, 67, 68, 69, 70, 71, 72, 73, 74, 75, 76, 77, 78, 79, 80, 81, 82, 83, 84, 85, 86, 87, 88, 89, 90]⟩ 1223⟩, ⟨PyData.keyHash P ⟨#[97, 115, 99, 105, 105, 95, 108, 101, 116, 116, 101, 114, 115]⟩, .str ⟨#[97, 115, 99, 105, 105, 95, 108, 101, 116, 116, 101, 114, 115]⟩ 1226, .str ⟨#[97, 98, 99, 100, 101, 102, 103, 104, 105, 106, 107, 108, 109, 110, 111, 112, 113, 114, 115, 116, 117, 118, 119, 120, 121, 122, 65, 66, 67, 68, 69, 70, 71, 72, 73, 74, 75, 76, 77, 78, 79, 80, 81, 82, 83, 84, 85, 86, 87, 88, 89, 90]⟩ 1225⟩, ⟨PyData.keyHash P ⟨#[100, 105, 103, 105, 116, 115]⟩, .str ⟨#[100, 105, 103, 105, 116, 115]⟩ 1228, .str ⟨#[48, 49, 50, 51, 52, 53, 54, 55, 56, 57]⟩ 1227⟩, ⟨PyData.keyHash P ⟨#[99]⟩, .str ⟨#[99]⟩ 1239, .int 90 1406⟩]).toArray 19, #[]⟩) (⟨.type "list", none, .seq (mixL 57 lp10_r22 lp10_x22 lp10_y22).toArray 0, #[]⟩) (⟨.type "bytes_iterator", none, .fields ([.bytes #[45, 33, 42, 43, 47, 97, 98, 99, 100, 101, 102, 103, 104, 105, 106, 107, 108, 109, 110, 111, 112, 113, 114, 115, 116, 117, 118, 119, 120, 121, 122, 65, 66, 67, 68, 69, 70, 71, 72, 73, 74, 75, 76, 77, 78, 79, 80, 81, 82, 83, 84, 85, 86, 87, 88, 89, 90, 48, 49, 50, 51, 52, 53, 54, 55, 56, 57] 1237, .int 57 0]).toArray, #[]⟩), 26, life0, Array.mk [], boot_drawn, 1409, os⟩
theorem lp10_go49 (w : World) (os : OsState) : PySem.W.Fast.tw10295753902157049106 PySem.W.Fast.tw14364793385576792824 PR w 11 ann0 1 360 (lp10_s49 w os) lp10_T = some (lp10_s57 w os, lp10_T) := by kernel_rfl
noncomputable def lp10_s65 (w : World) (os : OsState) : SharedT := let P := w.params; ⟨tr_lp10 P (⟨.type "dict", none, .dict ([⟨PyData.keyHash P ⟨#[95, 95, 110, 97, 109, 101, 95, 95]⟩, .str ⟨#[95, 95, 110, 97, 109, 101, 95, 95]⟩ 165, .str ⟨#[99, 112, 121, 51, 49, 51, 46, 101, 109, 97, 105, 108, 46, 113, 117, 111, 112, 114, 105, 109, 105, 109, 101]⟩ 1229⟩, ⟨PyData.keyHash P ⟨#[95, 95, 100, 111, 99, 95, 95]⟩, .str ⟨#[95, 95, 100, 111, 99, 95, 95]⟩ 166, .none⟩, ⟨PyData.keyHash P ⟨#[95, 95, 112, 97, 99, 107, 97, 103, 101, 95, 95]⟩, .str ⟨#[95, 95, 112, 97, 99, 107, 97, 103, 101, 95, 95]⟩ 167, .none⟩, ⟨PyData.keyHash P ⟨#[95, 95, 108, 111, 97, 100, 101, 114, 95, 95]⟩, .str ⟨#[95, 95, 108, 111, 97, 100, 101, 114, 95, 95]⟩ 168, .builtin "__main__.__loader__#opaque"⟩, ⟨PyData.keyHash P ⟨#[95, 95, 115, 112, 101, 99, 95, 95]⟩, .str ⟨#[95, 95, 115, 112, 101, 99, 95, 95]⟩ 169, .none⟩, ⟨PyData.keyHash P ⟨#[95, 95, 97, 110, 110, 111, 116, 97, 116, 105, 111, 110, 115, 95, 95]⟩, .str ⟨#[95, 95, 97, 110, 110, 111, 116, 97, 116, 105, 111, 110, 115, 95, 95]⟩ 170, .ref 6⟩, ⟨PyData.keyHash P ⟨#[95, 95, 98, 117, 105, 108, 116, 105, 110, 115, 95, 95]⟩, .str ⟨#[95, 95, 98, 117, 105, 108, 116, 105, 110, 115, 95, 95]⟩ 171, .ref 4⟩, ⟨PyData.keyHash P ⟨#[95, 95, 102, 105, 108, 101, 95, 95]⟩, .str ⟨#[95, 95, 102, 105, 108, 101, 95, 95]⟩ 173, .str ⟨#[47, 99, 108, 97, 105, 109, 47, 99, 117, 116, 46, 112, 121]⟩ 172⟩, ⟨PyData.keyHash P ⟨#[95, 95, 99, 97, 99, 104, 101, 100, 95, 95]⟩, .str ⟨#[95, 95, 99, 97, 99, 104, 101, 100, 95, 95]⟩ 174, .none⟩, ⟨PyData.keyHash P ⟨#[67, 82, 76, 70]⟩, .str ⟨#[67, 82, 76, 70]⟩ 188, .str ⟨#[13, 10]⟩ 187⟩, ⟨PyData.keyHash P ⟨#[78, 76]⟩, .str ⟨#[78, 76]⟩ 190, .str ⟨#[10]⟩ 189⟩, ⟨PyData.keyHash P ⟨#[95, 81, 85, 79, 80, 82, 73, 95, 77, 65, 80]⟩, .str ⟨#[95, 81, 85, 79, 80, 82, 73, 95, 77, 65, 80]⟩ 1218, .ref 17⟩, ⟨PyData.keyHash P ⟨#[95, 81, 85, 79, 80, 82, 73, 95, 72, 69, 65, 68, 69, 82, 95, 77, 65, 80]⟩, .str ⟨#[95, 81, 85, 79, 80, 82, 73, 95, 72, 69, 65, 68, 69, 82, 95, 77, 65, 80]⟩ 1219, .ref 22⟩, ⟨PyData.keyHash P ⟨#[95, 81, 85, 79, 80, 82, 73, 95, 66, 79, 68, 89, 95, 77, 65, 80]⟩, .str ⟨#[95, 81, 85, 79, 80, 82, 73, 95, 66, 79, 68, 89, 95, 77, 65, 80]⟩ 1220, .ref 24⟩, ⟨PyData.keyHash P ⟨#[97, 115, 99, 105, 105, 95, 108, 111, 119, 101, 114, 99, 97, 115, 101]⟩, .str ⟨#[97, 115, 99, 105, 105, 95, 108, 111, 119, 101, 114, 99, 97, 115, 101]⟩ 1222, .str ⟨#[97, 98, 99, 100, 101, 102, 103, 104, 105, 106, 107, 108, 109, 110, 111, 112, 113, 114, 115, 116, 117, 118, 119, 120, 121, 122]⟩ 1221⟩, ⟨PyData.keyHash P ⟨#[97, 115, 99, 105, 105, 95, 117, 112, 112, 101, 114, 99, 97, 115, 101]⟩, .str ⟨#[97, 115, 99, 105, 105, 95, 117, 112, 112, 101, 114, 99, 97, 115, 101]⟩ 1224, .str ⟨#[65, 66, 67, 68, 69, 70, 71, 72, 73, 74, 75, 76, 77, 78, 79, 80, 81, 82, 83, 84, 85, 86, 87, 88, 89, 90]⟩ 1223⟩, ⟨PyData.keyHash P ⟨#[97, 115, 99, 105, 105, 95, 108, 101, 116, 116, 101, 114, 115]⟩, .str ⟨#[97, 115, 99, 105, 105, 95, 108, 101, 116, 116, 101, 114, 115]⟩ 1226, .str ⟨#[97, 98, 99, 100, 101, 102, 103, 104, 105, 106, 107, 108, 109, 110, 111, 112, 113, 114, 115, 116, 117, 118, 119, 120, 121, 122, 65, 66, 67, 68, 69, 70, 71, 72, 73, 74, 75, 76, 77, 78, 79, 80, 81, 82, 83, 84, 85, 86, 87, 88, 89, 90]⟩ 1225⟩, ⟨PyData.keyHash P ⟨#[100, 105, 103, 105, 116, 115]⟩, .str ⟨#[100, 105, 103, 105, 116, 115]⟩ 1228, .str ⟨#[48, 49, 50, 51, 52, 53, 54, 55, 56, 57]⟩ 1227⟩, ⟨PyData.keyHash P ⟨#[99]⟩, .str ⟨#[99]⟩ 1239, .int 55 1430⟩]).toArray 19, #[]⟩) (⟨.type "list", none, .seq (mixL 65 lp10_r22 lp10_x22 lp10_y22).toArray 0, #[]⟩) (⟨.type "bytes_iterator", none, .fields ([.bytes #[45, 33, 42, 43, 47, 97, 98, 99, 100, 101, 102, 103, 104, 105, 106, 107, 108, 109, 110, 111, 112, 113, 114, 115, 116, 117, 118, 119, 120, 121, 122, 65, 66, 67, 68, 69, 70, 71, 72, 73, 74, 75, 76, 77, 78, 79, 80, 81, 82, 83, 84, 85, 86, 87, 88, 89, 90, 48, 49, 50, 51, 52, 53, 54, 55, 56, 57] 1237, .int 65 0]).toArray, #[]⟩), 26, life0, Array.mk [], boot_drawn, 1433, os⟩
theorem lp10_go57 (w : World) (os : OsState) : PySem.W.Fast.tw10295753902157049106 PySem.W.Fast.tw14364793385576792824 PR w 11 ann0 1 360 (lp10_s57 w os) lp10_T = some (lp10_s65 w os, lp10_T) := by kernel_rfl
noncomputable def lp10_s67 (w : World) (os : OsState) : SharedT := let P := w.params; ⟨tr_lp10 P (⟨.type "dict", none, .dict ([⟨PyData.keyHash P ⟨#[95, 95, 110, 97, 109, 101, 95, 95]⟩, .str ⟨#[95, 95, 110, 97, 109, 101, 95, 95]⟩ 165, .str ⟨#[99, 112, 121, 51, 49, 51, 46, 101, 109, 97, 105, 108, 46, 113, 117, 111, 112, 114, 105, 109, 105, 109, 101]⟩ 1229⟩, ⟨PyData.keyHash P ⟨#[95, 95, 100, 111, 99, 95, 95]⟩, .str ⟨#[95, 95, 100, 111, 99, 95, 95]⟩ 166, .none⟩, ⟨PyData.keyHash P ⟨#[95, 95, 112, 97, 99, 107, 97, 103, 101, 95, 95]⟩, .str ⟨#[95, 95, 112, 97, 99, 107, 97, 103, 101, 95, 95]⟩ 167, .none⟩, ⟨PyData.keyHash P ⟨#[95, 95, 108, 111, 97, 100, 101, 114, 95, 95]⟩, .str ⟨#[95, 95, 108, 111, 97, 100, 101, 114, 95, 95]⟩ 168, .builtin "__main__.__loader__#opaque"⟩, ⟨PyData.keyHash P ⟨#[95, 95, 115, 112, 101, 99, 95, 95]⟩, .str ⟨#[95, 95, 115, 112, 101, 99, 95, 95]⟩ 169, .none⟩, ⟨PyData.keyHash P ⟨#[95, 95, 97, 110, 110, 111, 116, 97, 116, 105, 111, 110, 115, 95, 95]⟩, .str ⟨#[95, 95, 97, 110, 110, 111, 116, 97, 116, 105, 111, 110, 115, 95, 95]⟩ 170, .ref 6⟩, ⟨PyData.keyHash P ⟨#[95, 95, 98, 117, 105, 108, 116, 105, 110, 115, 95, 95]⟩, .str ⟨#[95, 95, 98, 117, 105, 108, 116, 105, 110, 115, 95, 95]⟩ 171, .ref 4⟩, ⟨PyData.keyHash P ⟨#[95, 95, 102, 105, 108, 101, 95, 95]⟩, .str ⟨#[95, 95, 102, 105, 108, 101, 95, 95]⟩ 173, .str ⟨#[47, 99, 108, 97, 105, 109, 47, 99, 117, 116, 46, 112, 121]⟩ 172⟩, ⟨PyData.keyHash P ⟨#[95, 95, 99, 97, 99, 104, 101, 100, 95, 95]⟩, .str ⟨#[95, 95, 99, 97, 99, 104, 101, 100, 95, 95]⟩ 174, .none⟩, ⟨PyData.keyHash P ⟨#[67, 82, 76, 70]⟩, .str ⟨#[67, 82, 76, 70]⟩ 188, .str ⟨#[13, 10]⟩ 187⟩, ⟨PyData.keyHash P ⟨#[78, 76]⟩, .str ⟨#[78, 76]⟩ 190, .str ⟨#[10]⟩ 189⟩, ⟨PyData.keyHash P ⟨#[95, 81, 85, 79, 80, 82, 73, 95, 77, 65, 80]⟩, .str ⟨#[95, 81, 85, 79, 80, 82, 73, 95, 77, 65, 80]⟩ 1218, .ref 17⟩, ⟨PyData.keyHash P ⟨#[95, 81, 85, 79, 80, 82, 73, 95, 72, 69, 65, 68, 69, 82, 95, 77, 65, 80]⟩, .str ⟨#[95, 81, 85, 79, 80, 82, 73, 95, 72, 69, 65, 68, 69, 82, 95, 77, 65, 80]⟩ 1219, .ref 22⟩, ⟨PyData.keyHash P ⟨#[95, 81, 85, 79, 80, 82, 73, 95, 66, 79, 68, 89, 95, 77, 65, 80]⟩, .str ⟨#[95, 81, 85, 79, 80, 82, 73, 95, 66, 79, 68, 89, 95, 77, 65, 80]⟩ 1220, .ref 24⟩, ⟨PyData.keyHash P ⟨#[97, 115, 99, 105, 105, 95, 108, 111, 119, 101, 114, 99, 97, 115, 101]⟩, .str ⟨#[97, 115, 99, 105, 105, 95, 108, 111, 119, 101, 114, 99, 97, 115, 101]⟩ 1222, .str ⟨#[97, 98, 99, 100, 101, 102, 103, 104, 105, 106, 107, 108, 109, 110, 111, 112, 113, 114, 115, 116, 117, 118, 119, 120, 121, 122]⟩ 1221⟩, ⟨PyData.keyHash P ⟨#[97, 115, 99, 105, 105, 95, 117, 112, 112, 101, 114, 99, 97, 115, 101]⟩, .str ⟨#[97, 115, 99, 105, 105, 95, 117, 112, 112, 101, 114, 99, 97, 115, 101]⟩ 1224, .str ⟨#[65, 66, 67, 68, 69, 70, 71, 72, 73, 74, 75, 76, 77, 78, 79, 80, 81, 82, 83, 84, 85, 86, 87, 88, 89, 90]⟩ 1223⟩, ⟨PyData.keyHash P ⟨#[97, 115, 99, 105, 105, 95, 108, 101, 116, 116, 101, 114, 115]⟩, .str ⟨#[97, 115, 99, 105, 105, 95, 108, 101, 116, 116, 101, 114, 115]⟩ 1226, .str ⟨#[97, 98, 99, 100, 101, 102, 103, 104, 105, 106, 107, 108, 109, 110, 111, 112, 113, 114, 115, 116, 117, 118, 119, 120, 121, 122, 65, 66, 67, 68, 69, 70, 71, 72, 73, 74, 75, 76, 77, 78, 79, 80, 81, 82, 83, 84, 85, 86, 87, 88, 89, 90]⟩ 1225⟩, ⟨PyData.keyHash P ⟨#[100, 105, 103, 105, 116, 115]⟩, .str ⟨#[100, 105, 103, 105, 116, 115]⟩ 1228, .str ⟨#[48, 49, 50, 51, 52, 53, 54, 55, 56, 57]⟩ 1227⟩, ⟨PyData.keyHash P ⟨#[99]⟩, .str ⟨#[99]⟩ 1239, .int 57 1436⟩]).toArray 19, #[]⟩) (⟨.type "list", none, .seq (mixL 67 lp10_r22 lp10_x22 lp10_y22).toArray 0, #[]⟩) (⟨.type "bytes_iterator", none, .fields ([.bytes #[45, 33, 42, 43, 47, 97, 98, 99, 100, 101, 102, 103, 104, 105, 106, 107, 108, 109, 110, 111, 112, 113, 114, 115, 116, 117, 118, 119, 120, 121, 122, 65, 66, 67, 68, 69, 70, 71, 72, 73, 74, 75, 76, 77, 78, 79, 80, 81, 82, 83, 84, 85, 86, 87, 88, 89, 90, 48, 49, 50, 51, 52, 53, 54, 55, 56, 57] 1237, .int 67 0]).toArray, #[]⟩), 26, life0, Array.mk [], boot_drawn, 1439, os⟩
theorem lp10_go65 (w : World) (os : OsState) : PySem.W.Fast.tw10295753902157049106 PySem.W.Fast.tw14364793385576792824 PR w 11 ann0 1 90 (lp10_s65 w os) lp10_T = some (lp10_s67 w os, lp10_T) := by kernel_rfl
noncomputable def o3_24 (P : Params) : Obj := ⟨.type "dict", none, .dict ([⟨PyData.keyHash P ⟨#[95, 95, 110, 97, 109, 101, 95, 95]⟩, .str ⟨#[95, 95, 110, 97, 109, 101, 95, 95]⟩ 165, .str ⟨#[99, 112, 121, 51, 49, 51, 46, 101, 109, 97, 105, 108, 46, 113, 117, 111, 112, 114, 105, 109, 105, 109, 101]⟩ 1229⟩, ⟨PyData.keyHash P ⟨#[95, 95, 100, 111, 99, 95, 95]⟩, .str ⟨#[95, 95, 100, 111, 99, 95, 95]⟩ 166, .none⟩, ⟨PyData.keyHash P ⟨#[95, 95, 112, 97, 99, 107, 97, 103, 101, 95, 95]⟩, .str ⟨#[95, 95, 112, 97, 99, 107, 97, 103, 101, 95, 95]⟩ 167, .none⟩, ⟨PyData.keyHash P ⟨#[95, 95, 108, 111, 97, 100, 101, 114, 95, 95]⟩, .str ⟨#[95, 95, 108, 111, 97, 100, 101, 114, 95, 95]⟩ 168, .builtin "__main__.__loader__#opaque"⟩, ⟨PyData.keyHash P ⟨#[95, 95, 115, 112, 101, 99, 95, 95]⟩, .str ⟨#[95, 95, 115, 112, 101, 99, 95, 95]⟩ 169, .none⟩, ⟨PyData.keyHash P ⟨#[95, 95, 97, 110, 110, 111, 116, 97, 116, 105, 111, 110, 115, 95, 95]⟩, .str ⟨#[95, 95, 97, 110, 110, 111, 116, 97, 116, 105, 111, 110, 115, 95, 95]⟩ 170, .ref 6⟩, ⟨PyData.keyHash P ⟨#[95, 95, 98, 117, 105, 108, 116, 105, 110, 115, 95, 95]⟩, .str ⟨#[95, 95, 98, 117, 105, 108, 116, 105, 110, 115, 95, 95]⟩ 171, .ref 4⟩, ⟨PyData.keyHash P ⟨#[95, 95, 102, 105, 108, 101, 95, 95]⟩, .str ⟨#[95, 95, 102, 105, 108, 101, 95, 95]⟩ 173, .str ⟨#[47, 99, 108, 97, 105, 109, 47, 99, 117, 116, 46, 112, 121]⟩ 172⟩, ⟨PyData.keyHash P ⟨#[95, 95, 99, 97, 99, 104, 101, 100, 95, 95]⟩, .str ⟨#[95, 95, 99, 97, 99, 104, 101, 100, 95, 95]⟩ 174, .none⟩, ⟨PyData.keyHash P ⟨#[67, 82, 76, 70]⟩, .str ⟨#[67, 82, 76, 70]⟩ 188, .str ⟨#[13, 10]⟩ 187⟩, ⟨PyData.keyHash P ⟨#[78, 76]⟩, .str ⟨#[78, 76]⟩ 190, .str ⟨#[10]⟩ 189⟩, ⟨PyData.keyHash P ⟨#[95, 81, 85, 79, 80, 82, 73, 95, 77, 65, 80]⟩, .str ⟨#[95, 81, 85, 79, 80, 82, 73, 95, 77, 65, 80]⟩ 1218, .ref 17⟩, ⟨PyData.keyHash P ⟨#[95, 81, 85, 79, 80, 82, 73, 95, 72, 69, 65, 68, 69, 82, 95, 77, 65, 80]⟩, .str ⟨#[95, 81, 85, 79, 80, 82, 73, 95, 72, 69, 65, 68, 69, 82, 95, 77, 65, 80]⟩ 1219, .ref 22⟩, ⟨PyData.keyHash P ⟨#[95, 81, 85, 79, 80, 82, 73, 95, 66, 79, 68, 89, 95, 77, 65, 80]⟩, .str ⟨#[95, 81, 85, 79, 80, 82, 73, 95, 66, 79, 68, 89, 95, 77, 65, 80]⟩ 1220, .ref 24⟩, ⟨PyData.keyHash P ⟨#[97, 115, 99, 105, 105, 95, 108, 111, 119, 101, 114, 99, 97, 115, 101]⟩, .str ⟨#[97, 115, 99, 105, 105, 95, 108, 111, 119, 101, 114, 99, 97, 115, 101]⟩ 1222, .str ⟨#[97, 98, 99, 100, 101, 102, 103, 104, 105, 106, 107, 108, 109, 110, 111, 112, 113, 114, 115, 116, 117, 118, 119, 120, 121, 122]⟩ 1221⟩, ⟨PyData.keyHash P ⟨#[97, 115, 99, 105, 105, 95, 117, 112, 112, 101, 114, 99, 97, 115, 101]⟩, .str ⟨#[97, 115, 99, 105, 105, 95, 117, 112, 112, 101, 114, 99, 97, 115, 101]⟩ 1224, .str ⟨#[65, 66, 67, 68, 69, 70, 71, 72, 73, 74, 75, 76, 77, 78, 79, 80, 81, 82, 83, 84, 85, 86, 87, 88, 89, 90]⟩ 1223⟩, ⟨PyData.keyHash P ⟨#[97, 115, 99, 105, 105, 95, 108, 101, 116, 116, 101, 114, 115]⟩, .str ⟨#[97, 115, 99, 105, 105, 95, 108, 101, 116, 116, 101, 114, 115]⟩ 1226, .str ⟨#[97, 98, 99, 100, 101, 102, 103, 104, 105, 106, 107, 108, 109, 110, 111, 112, 113, 114, 115, 116, 117, 118, 119, 120, 121, 122, 65, 66, 67, 68, 69, 70, 71, 72, 73, 74, 75, 76, 77, 78, 79, 80, 81, 82, 83, 84, 85, 86, 87, 88, 89, 90]⟩ 1225⟩, ⟨PyData.keyHash P ⟨#[100, 105, 103, 105, 116, 115]⟩, .str ⟨#[100, 105, 103, 105, 116, 115]⟩ 1228, .str ⟨#[48, 49, 50, 51, 52, 53, 54, 55, 56, 57]⟩ 1227⟩, ⟨PyData.keyHash P ⟨#[99]⟩, .str ⟨#[99]⟩ 1239, .int 57 1436⟩]).toArray 19, #[]⟩
noncomputable def o22_25 (P : Params) : Obj := ⟨.type "list", none, .seq ([.str ⟨#[61, 48, 48]⟩ 197, .str ⟨#[61, 48, 49]⟩ 201, .str ⟨#[61, 48, 50]⟩ 205, .str ⟨#[61, 48, 51]⟩ 209, .str ⟨#[61, 48, 52]⟩ 213, .str ⟨#[61, 48, 53]⟩ 217, .str ⟨#[61, 48, 54]⟩ 221, .str ⟨#[61, 48, 55]⟩ 225, .str ⟨#[61, 48, 56]⟩ 229, .str ⟨#[61, 48, 57]⟩ 233, .str ⟨#[61, 48, 65]⟩ 237, .str ⟨#[61, 48, 66]⟩ 241, .str ⟨#[61, 48, 67]⟩ 245, .str ⟨#[61, 48, 68]⟩ 249, .str ⟨#[61, 48, 69]⟩ 253, .str ⟨#[61, 48, 70]⟩ 257, .str ⟨#[61, 49, 48]⟩ 261, .str ⟨#[61, 49, 49]⟩ 265, .str ⟨#[61, 49, 50]⟩ 269, .str ⟨#[61, 49, 51]⟩ 273, .str ⟨#[61, 49, 52]⟩ 277, .str ⟨#[61, 49, 53]⟩ 281, .str ⟨#[61, 49, 54]⟩ 285, .str ⟨#[61, 49, 55]⟩ 289, .str ⟨#[61, 49, 56]⟩ 293, .str ⟨#[61, 49, 57]⟩ 297, .str ⟨#[61, 49, 65]⟩ 301, .str ⟨#[61, 49, 66]⟩ 305, .str ⟨#[61, 49, 67]⟩ 309, .str ⟨#[61, 49, 68]⟩ 313, .str ⟨#[61, 49, 69]⟩ 317, .str ⟨#[61, 49, 70]⟩ 321, .str ⟨#[61, 50, 48]⟩ 325, .str ⟨#[33]⟩ 1243, .str ⟨#[61, 50, 50]⟩ 333, .str ⟨#[61, 50, 51]⟩ 337, .str ⟨#[61, 50, 52]⟩ 341, .str ⟨#[61, 50, 53]⟩ 345, .str ⟨#[61, 50, 54]⟩ 349, .str ⟨#[61, 50, 55]⟩ 353, .str ⟨#[61, 50, 56]⟩ 357, .str ⟨#[61, 50, 57]⟩ 361, .str ⟨#[42]⟩ 1246, .str ⟨#[43]⟩ 1249, .str ⟨#[61, 50, 67]⟩ 373, .str ⟨#[45]⟩ 1240, .str ⟨#[61, 50, 69]⟩ 381, .str ⟨#[47]⟩ 1252, .str ⟨#[48]⟩ 1411, .str ⟨#[49]⟩ 1414, .str ⟨#[50]⟩ 1417, .str ⟨#[51]⟩ 1420, .str ⟨#[52]⟩ 1423, .str ⟨#[53]⟩ 1426, .str ⟨#[54]⟩ 1429, .str ⟨#[55]⟩ 1432, .str ⟨#[56]⟩ 1435, .str ⟨#[57]⟩ 1438, .str ⟨#[61, 51, 65]⟩ 429, .str ⟨#[61, 51, 66]⟩ 433, .str ⟨#[61, 51, 67]⟩ 437, .str ⟨#[61, 51, 68]⟩ 441, .str ⟨#[61, 51, 69]⟩ 445, .str ⟨#[61, 51, 70]⟩ 449, .str ⟨#[61, 52, 48]⟩ 453, .str ⟨#[65]⟩ 1333, .str ⟨#[66]⟩ 1336, .str ⟨#[67]⟩ 1339, .str ⟨#[68]⟩ 1342, .str ⟨#[69]⟩ 1345, .str ⟨#[70]⟩ 1348, .str ⟨#[71]⟩ 1351, .str ⟨#[72]⟩ 1354, .str ⟨#[73]⟩ 1357, .str ⟨#[74]⟩ 1360, .str ⟨#[75]⟩ 1363, .str ⟨#[76]⟩ 1366, .str ⟨#[77]⟩ 1369, .str ⟨#[78]⟩ 1372, .str ⟨#[79]⟩ 1375, .str ⟨#[80]⟩ 1378, .str ⟨#[81]⟩ 1381, .str ⟨#[82]⟩ 1384, .str ⟨#[83]⟩ 1387, .str ⟨#[84]⟩ 1390, .str ⟨#[85]⟩ 1393, .str ⟨#[86]⟩ 1396, .str ⟨#[87]⟩ 1399, .str ⟨#[88]⟩ 1402, .str ⟨#[89]⟩ 1405, .str ⟨#[90]⟩ 1408, .str ⟨#[61, 53, 66]⟩ 561, .str ⟨#[61, 53, 67]⟩ 565, .str ⟨#[61, 53, 68]⟩ 569, .str ⟨#[61, 53, 69]⟩ 573, .str ⟨#[61, 53, 70]⟩ 577, .str ⟨#[61, 54, 48]⟩ 581, .str ⟨#[97]⟩ 1255, .str ⟨#[98]⟩ 1258, .str ⟨#[99]⟩ 1261, .str ⟨#[100]⟩ 1264, .str ⟨#[101]⟩ 1267, .str ⟨#[102]⟩ 1270, .str ⟨#[103]⟩ 1273, .str ⟨#[104]⟩ 1276, .str ⟨#[105]⟩ 1279, .str ⟨#[106]⟩ 1282, .str ⟨#[107]⟩ 1285, .str ⟨#[108]⟩ 1288, .str ⟨#[109]⟩ 1291, .str ⟨#[110]⟩ 1294, .str ⟨#[111]⟩ 1297, .str ⟨#[112]⟩ 1300, .str ⟨#[113]⟩ 1303, .str ⟨#[114]⟩ 1306, .str ⟨#[115]⟩ 1309, .str ⟨#[116]⟩ 1312, .str ⟨#[117]⟩ 1315, .str ⟨#[118]⟩ 1318, .str ⟨#[119]⟩ 1321, .str ⟨#[120]⟩ 1324, .str ⟨#[121]⟩ 1327, .str ⟨#[122]⟩ 1330, .str ⟨#[61, 55, 66]⟩ 689, .str ⟨#[61, 55, 67]⟩ 693, .str ⟨#[61, 55, 68]⟩ 697, .str ⟨#[61, 55, 69]⟩ 701, .str ⟨#[61, 55, 70]⟩ 705, .str ⟨#[61, 56, 48]⟩ 709, .str ⟨#[61, 56, 49]⟩ 713, .str ⟨#[61, 56, 50]⟩ 717, .str ⟨#[61, 56, 51]⟩ 721, .str ⟨#[61, 56, 52]⟩ 725, .str ⟨#[61, 56, 53]⟩ 729, .str ⟨#[61, 56, 54]⟩ 733, .str ⟨#[61, 56, 55]⟩ 737, .str ⟨#[61, 56, 56]⟩ 741, .str ⟨#[61, 56, 57]⟩ 745, .str ⟨#[61, 56, 65]⟩ 749, .str ⟨#[61, 56, 66]⟩ 753, .str ⟨#[61, 56, 67]⟩ 757, .str ⟨#[61, 56, 68]⟩ 761, .str ⟨#[61, 56, 69]⟩ 765, .str ⟨#[61, 56, 70]⟩ 769, .str ⟨#[61, 57, 48]⟩ 773, .str ⟨#[61, 57, 49]⟩ 777, .str ⟨#[61, 57, 50]⟩ 781, .str ⟨#[61, 57, 51]⟩ 785, .str ⟨#[61, 57, 52]⟩ 789, .str ⟨#[61, 57, 53]⟩ 793, .str ⟨#[61, 57, 54]⟩ 797, .str ⟨#[61, 57, 55]⟩ 801, .str ⟨#[61, 57, 56]⟩ 805, .str ⟨#[61, 57, 57]⟩ 809, .str ⟨#[61, 57, 65]⟩ 813, .str ⟨#[61, 57, 66]⟩ 817, .str ⟨#[61, 57, 67]⟩ 821, .str ⟨#[61, 57, 68]⟩ 825, .str ⟨#[61, 57, 69]⟩ 829, .str ⟨#[61, 57, 70]⟩ 833, .str ⟨#[61, 65, 48]⟩ 837, .str ⟨#[61, 65, 49]⟩ 841, .str ⟨#[61, 65, 50]⟩ 845, .str ⟨#[61, 65, 51]⟩ 849, .str ⟨#[61, 65, 52]⟩ 853, .str ⟨#[61, 65, 53]⟩ 857, .str ⟨#[61, 65, 54]⟩ 861, .str ⟨#[61, 65, 55]⟩ 865, .str ⟨#[61, 65, 56]⟩ 869, .str ⟨#[61, 65, 57]⟩ 873, .str ⟨#[61, 65, 65]⟩ 877, .str ⟨#[61, 65, 66]⟩ 881, .str ⟨#[61, 65, 67]⟩ 885, .str ⟨#[61, 65, 68]⟩ 889, .str ⟨#[61, 65, 69]⟩ 893, .str ⟨#[61, 65, 70]⟩ 897, .str ⟨#[61, 66, 48]⟩ 901, .str ⟨#[61, 66, 49]⟩ 905, .str ⟨#[61, 66, 50]⟩ 909, .str ⟨#[61, 66, 51]⟩ 913, .str ⟨#[61, 66, 52]⟩ 917, .str ⟨#[61, 66, 53]⟩ 921, .str ⟨#[61, 66, 54]⟩ 925, .str ⟨#[61, 66, 55]⟩ 929, .str ⟨#[61, 66, 56]⟩ 933, .str ⟨#[61, 66, 57]⟩ 937, .str ⟨#[61, 66, 65]⟩ 941, .str ⟨#[61, 66, 66]⟩ 945, .str ⟨#[61, 66, 67]⟩ 949, .str ⟨#[61, 66, 68]⟩ 953, .str ⟨#[61, 66, 69]⟩ 957, .str ⟨#[61, 66, 70]⟩ 961, .str ⟨#[61, 67, 48]⟩ 965, .str ⟨#[61, 67, 49]⟩ 969, .str ⟨#[61, 67, 50]⟩ 973, .str ⟨#[61, 67, 51]⟩ 977, .str ⟨#[61, 67, 52]⟩ 981, .str ⟨#[61, 67, 53]⟩ 985, .str ⟨#[61, 67, 54]⟩ 989, .str ⟨#[61, 67, 55]⟩ 993, .str ⟨#[61, 67, 56]⟩ 997, .str ⟨#[61, 67, 57]⟩ 1001, .str ⟨#[61, 67, 65]⟩ 1005, .str ⟨#[61, 67, 66]⟩ 1009, .str ⟨#[61, 67, 67]⟩ 1013, .str ⟨#[61, 67, 68]⟩ 1017, .str ⟨#[61, 67, 69]⟩ 1021, .str ⟨#[61, 67, 70]⟩ 1025, .str ⟨#[61, 68, 48]⟩ 1029, .str ⟨#[61, 68, 49]⟩ 1033, .str ⟨#[61, 68, 50]⟩ 1037, .str ⟨#[61, 68, 51]⟩ 1041, .str ⟨#[61, 68, 52]⟩ 1045, .str ⟨#[61, 68, 53]⟩ 1049, .str ⟨#[61, 68, 54]⟩ 1053, .str ⟨#[61, 68, 55]⟩ 1057, .str ⟨#[61, 68, 56]⟩ 1061, .str ⟨#[61, 68, 57]⟩ 1065, .str ⟨#[61, 68, 65]⟩ 1069, .str ⟨#[61, 68, 66]⟩ 1073, .str ⟨#[61, 68, 67]⟩ 1077, .str ⟨#[61, 68, 68]⟩ 1081, .str ⟨#[61, 68, 69]⟩ 1085, .str ⟨#[61, 68, 70]⟩ 1089, .str ⟨#[61, 69, 48]⟩ 1093, .str ⟨#[61, 69, 49]⟩ 1097, .str ⟨#[61, 69, 50]⟩ 1101, .str ⟨#[61, 69, 51]⟩ 1105, .str ⟨#[61, 69, 52]⟩ 1109, .str ⟨#[61, 69, 53]⟩ 1113, .str ⟨#[61, 69, 54]⟩ 1117, .str ⟨#[61, 69, 55]⟩ 1121, .str ⟨#[61, 69, 56]⟩ 1125, .str ⟨#[61, 69, 57]⟩ 1129, .str ⟨#[61, 69, 65]⟩ 1133, .str ⟨#[61, 69, 66]⟩ 1137, .str ⟨#[61, 69, 67]⟩ 1141, .str ⟨#[61, 69, 68]⟩ 1145, .str ⟨#[61, 69, 69]⟩ 1149, .str ⟨#[61, 69, 70]⟩ 1153, .str ⟨#[61, 70, 48]⟩ 1157, .str ⟨#[61, 70, 49]⟩ 1161, .str ⟨#[61, 70, 50]⟩ 1165, .str ⟨#[61, 70, 51]⟩ 1169, .str ⟨#[61, 70, 52]⟩ 1173, .str ⟨#[61, 70, 53]⟩ 1177, .str ⟨#[61, 70, 54]⟩ 1181, .str ⟨#[61, 70, 55]⟩ 1185, .str ⟨#[61, 70, 56]⟩ 1189, .str ⟨#[61, 70, 57]⟩ 1193, .str ⟨#[61, 70, 65]⟩ 1197, .str ⟨#[61, 70, 66]⟩ 1201, .str ⟨#[61, 70, 67]⟩ 1205, .str ⟨#[61, 70, 68]⟩ 1209, .str ⟨#[61, 70, 69]⟩ 1213, .str ⟨#[61, 70, 70]⟩ 1217]).toArray 0, #[]⟩
noncomputable def o25_26 (P : Params) : Obj := ⟨.type "bytes_iterator", none, .fields ([.none, .int 67 0]).toArray, #[]⟩
noncomputable def o26_27 (P : Params) : Obj := ⟨.type "tuple", none, .seq ([]).toArray 0, #[]⟩
noncomputable def o27_28 (P : Params) : Obj := ⟨.type "StopIteration", none, .fields ([.ref 26, .none, .none, .none, .bool false, .none]).toArray, #[]⟩
noncomputable def tr_s10 (P : Params) : BT := (.node (boot_o_0 P) (.node (boot_o_1 P) (.node (o3_24 P) (.node (boot_o_7 P) (.node (o15_10 P) .nil .nil) (.node (o23_19 P) .nil .nil)) (.node (o11_0 P) (.node (o19_14 P) .nil .nil) (.node (o27_28 P) .nil .nil))) (.node (boot_o_5 P) (.node (boot_o_9 P) (.node (o17_12 P) .nil .nil) (.node (o25_26 P) .nil .nil)) (.node (o13_2 P) (.node (o21_17 P) .nil .nil) .nil))) (.node (boot_o_2 P) (.node (boot_o_4 P) (.node (boot_o_8 P) (.node (o16_11 P) .nil .nil) (.node (o24_20 P) .nil .nil)) (.node (o12_1 P) (.node (o20_15 P) .nil .nil) .nil)) (.node (boot_o_6 P) (.node (boot_o_10 P) (.node (o18_13 P) .nil .nil) (.node (o26_27 P) .nil .nil)) (.node (o14_3 P) (.node (o22_25 P) .nil .nil) .nil))))
noncomputable def s10 (w : World) (os : OsState) : SharedT := ⟨tr_s10 w.params, 28, life0, Array.mk [], boot_drawn, 1439, os⟩
theorem lp10_end (w : World) (os : OsState) : PySem.W.Fast.tw10110043849684766642 PySem.W.Fast.tw14364793385576792824 PR w 11 ann0 1 18 (lp10_s67 w os) lp10_T = some (.next, s10 w os, cE, ⟨11, 9, 11, 74⟩) := by kernel_rfl
theorem lp10_rest (w : World) (os : OsState) : segRun treeTable PR w 11 ann0 1 2988 (lp10_s1 w os).abs lp10_T = some (.next, (s10 w os).abs, cE, ⟨11, 9, 11, 74⟩) := (seg_go (n := 360) (segGo_of (goT (lp10_go1 w os))) (seg_go (n := 360) (segGo_of (goT (lp10_go9 w os))) (seg_go (n := 360) (segGo_of (goT (lp10_go17 w os))) (seg_go (n := 360) (segGo_of (goT (lp10_go25 w os))) (seg_go (n := 360) (segGo_of (goT (lp10_go33 w os))) (seg_go (n := 360) (segGo_of (goT (lp10_go41 w os))) (seg_go (n := 360) (segGo_of (goT (lp10_go49 w os))) (seg_go (n := 360) (segGo_of (goT (lp10_go57 w os))) (seg_go (n := 90) (segGo_of (goT (lp10_go65 w os))) (segRun_of (runT (lp10_end w os))))))))))))
def lp10_P (w : World) : Prop := ∀ os : OsState, segRun treeTable PR w 11 ann0 1 3077 (s9 w os).abs (piecesOf lp10_sts env0 cE ⟨10, 0, 10, 8⟩ B0) = some (.next, (s10 w os).abs, cE, ⟨11, 9, 11, 74⟩)
theorem lp10_start_f_a (w : World) (os : OsState) : segRun treeTable PR (w.withFollow "special-get-raises" false) 11 ann0 1 (89 + 2988) (s9 (w.withFollow "special-get-raises" false) os).abs (piecesOf lp10_sts env0 cE ⟨10, 0, 10, 8⟩ B0) = some (.next, (s10 (w.withFollow "special-get-raises" false) os).abs, cE, ⟨11, 9, 11, 74⟩) := startT (s' := lp10_s1 (w.withFollow "special-get-raises" false) os) (T := lp10_T) (lp10_start_f w os) (lp10_rest (w.withFollow "special-get-raises" false) os)
theorem lp10_start_f_b (w : World) : lp10_P (w.withFollow "special-get-raises" false) := fun os => segRun_up (n := 89 + 2988) (m := 3077) (Nat.le_of_ble_eq_true (by kernel_rfl)) (lp10_start_f_a w os)
theorem lp10_start_t_a (w : World) (os : OsState) : segRun treeTable PR (w.withFollow "special-get-raises" true) 11 ann0 1 (89 + 2988) (s9 (w.withFollow "special-get-raises" true) os).abs (piecesOf lp10_sts env0 cE ⟨10, 0, 10, 8⟩ B0) = some (.next, (s10 (w.withFollow "special-get-raises" true) os).abs, cE, ⟨11, 9, 11, 74⟩) := startT (s' := lp10_s1 (w.withFollow "special-get-raises" true) os) (T := lp10_T) (lp10_start_t w os) (lp10_rest (w.withFollow "special-get-raises" true) os)
theorem lp10_start_t_b (w : World) : lp10_P (w.withFollow "special-get-raises" true) := fun os => segRun_up (n := 89 + 2988) (m := 3077) (Nat.le_of_ble_eq_true (by kernel_rfl)) (lp10_start_t_a w os)
theorem lp10_all (w : World) : lp10_P w := (byRow2 "special-get-raises" (P := fun w => lp10_P w) (fun w => (lp10_start_f_b w)) (fun w => (lp10_start_t_b w)) w)
noncomputable def o22_29 (P : Params) : Obj := ⟨.type "list", none, .seq ([.str ⟨#[61, 48, 48]⟩ 197, .str ⟨#[61, 48, 49]⟩ 201, .str ⟨#[61, 48, 50]⟩ 205, .str ⟨#[61, 48, 51]⟩ 209, .str ⟨#[61, 48, 52]⟩ 213, .str ⟨#[61, 48, 53]⟩ 217, .str ⟨#[61, 48, 54]⟩ 221, .str ⟨#[61, 48, 55]⟩ 225, .str ⟨#[61, 48, 56]⟩ 229, .str ⟨#[61, 48, 57]⟩ 233, .str ⟨#[61, 48, 65]⟩ 237, .str ⟨#[61, 48, 66]⟩ 241, .str ⟨#[61, 48, 67]⟩ 245, .str ⟨#[61, 48, 68]⟩ 249, .str ⟨#[61, 48, 69]⟩ 253, .str ⟨#[61, 48, 70]⟩ 257, .str ⟨#[61, 49, 48]⟩ 261, .str ⟨#[61, 49, 49]⟩ 265, .str ⟨#[61, 49, 50]⟩ 269, .str ⟨#[61, 49, 51]⟩ 273, .str ⟨#[61, 49, 52]⟩ 277, .str ⟨#[61, 49, 53]⟩ 281, .str ⟨#[61, 49, 54]⟩ 285, .str ⟨#[61, 49, 55]⟩ 289, .str ⟨#[61, 49, 56]⟩ 293, .str ⟨#[61, 49, 57]⟩ 297, .str ⟨#[61, 49, 65]⟩ 301, .str ⟨#[61, 49, 66]⟩ 305, .str ⟨#[61, 49, 67]⟩ 309, .str ⟨#[61, 49, 68]⟩ 313, .str ⟨#[61, 49, 69]⟩ 317, .str ⟨#[61, 49, 70]⟩ 321, .str ⟨#[95]⟩ 1439, .str ⟨#[33]⟩ 1243, .str ⟨#[61, 50, 50]⟩ 333, .str ⟨#[61, 50, 51]⟩ 337, .str ⟨#[61, 50, 52]⟩ 341, .str ⟨#[61, 50, 53]⟩ 345, .str ⟨#[61, 50, 54]⟩ 349, .str ⟨#[61, 50, 55]⟩ 353, .str ⟨#[61, 50, 56]⟩ 357, .str ⟨#[61, 50, 57]⟩ 361, .str ⟨#[42]⟩ 1246, .str ⟨#[43]⟩ 1249, .str ⟨#[61, 50, 67]⟩ 373, .str ⟨#[45]⟩ 1240, .str ⟨#[61, 50, 69]⟩ 381, .str ⟨#[47]⟩ 1252, .str ⟨#[48]⟩ 1411, .str ⟨#[49]⟩ 1414, .str ⟨#[50]⟩ 1417, .str ⟨#[51]⟩ 1420, .str ⟨#[52]⟩ 1423, .str ⟨#[53]⟩ 1426, .str ⟨#[54]⟩ 1429, .str ⟨#[55]⟩ 1432, .str ⟨#[56]⟩ 1435, .str ⟨#[57]⟩ 1438, .str ⟨#[61, 51, 65]⟩ 429, .str ⟨#[61, 51, 66]⟩ 433, .str ⟨#[61, 51, 67]⟩ 437, .str ⟨#[61, 51, 68]⟩ 441, .str ⟨#[61, 51, 69]⟩ 445, .str ⟨#[61, 51, 70]⟩ 449, .str ⟨#[61, 52, 48]⟩ 453, .str ⟨#[65]⟩ 1333, .str ⟨#[66]⟩ 1336, .str ⟨#[67]⟩ 1339, .str ⟨#[68]⟩ 1342, .str ⟨#[69]⟩ 1345, .str ⟨#[70]⟩ 1348, .str ⟨#[71]⟩ 1351, .str ⟨#[72]⟩ 1354, .str ⟨#[73]⟩ 1357, .str ⟨#[74]⟩ 1360, .str ⟨#[75]⟩ 1363, .str ⟨#[76]⟩ 1366, .str ⟨#[77]⟩ 1369, .str ⟨#[78]⟩ 1372, .str ⟨#[79]⟩ 1375, .str ⟨#[80]⟩ 1378, .str ⟨#[81]⟩ 1381, .str ⟨#[82]⟩ 1384, .str ⟨#[83]⟩ 1387, .str ⟨#[84]⟩ 1390, .str ⟨#[85]⟩ 1393, .str ⟨#[86]⟩ 1396, .str ⟨#[87]⟩ 1399, .str ⟨#[88]⟩ 1402, .str ⟨#[89]⟩ 1405, .str ⟨#[90]⟩ 1408, .str ⟨#[61, 53, 66]⟩ 561, .str ⟨#[61, 53, 67]⟩ 565, .str ⟨#[61, 53, 68]⟩ 569, .str ⟨#[61, 53, 69]⟩ 573, .str ⟨#[61, 53, 70]⟩ 577, .str ⟨#[61, 54, 48]⟩ 581, .str ⟨#[97]⟩ 1255, .str ⟨#[98]⟩ 1258, .str ⟨#[99]⟩ 1261, .str ⟨#[100]⟩ 1264, .str ⟨#[101]⟩ 1267, .str ⟨#[102]⟩ 1270, .str ⟨#[103]⟩ 1273, .str ⟨#[104]⟩ 1276, .str ⟨#[105]⟩ 1279, .str ⟨#[106]⟩ 1282, .str ⟨#[107]⟩ 1285, .str ⟨#[108]⟩ 1288, .str ⟨#[109]⟩ 1291, .str ⟨#[110]⟩ 1294, .str ⟨#[111]⟩ 1297, .str ⟨#[112]⟩ 1300, .str ⟨#[113]⟩ 1303, .str ⟨#[114]⟩ 1306, .str ⟨#[115]⟩ 1309, .str ⟨#[116]⟩ 1312, .str ⟨#[117]⟩ 1315, .str ⟨#[118]⟩ 1318, .str ⟨#[119]⟩ 1321, .str ⟨#[120]⟩ 1324, .str ⟨#[121]⟩ 1327, .str ⟨#[122]⟩ 1330, .str ⟨#[61, 55, 66]⟩ 689, .str ⟨#[61, 55, 67]⟩ 693, .str ⟨#[61, 55, 68]⟩ 697, .str ⟨#[61, 55, 69]⟩ 701, .str ⟨#[61, 55, 70]⟩ 705, .str ⟨#[61, 56, 48]⟩ 709, .str ⟨#[61, 56, 49]⟩ 713, .str ⟨#[61, 56, 50]⟩ 717, .str ⟨#[61, 56, 51]⟩ 721, .str ⟨#[61, 56, 52]⟩ 725, .str ⟨#[61, 56, 53]⟩ 729, .str ⟨#[61, 56, 54]⟩ 733, .str ⟨#[61, 56, 55]⟩ 737, .str ⟨#[61, 56, 56]⟩ 741, .str ⟨#[61, 56, 57]⟩ 745, .str ⟨#[61, 56, 65]⟩ 749, .str ⟨#[61, 56, 66]⟩ 753, .str ⟨#[61, 56, 67]⟩ 757, .str ⟨#[61, 56, 68]⟩ 761, .str ⟨#[61, 56, 69]⟩ 765, .str ⟨#[61, 56, 70]⟩ 769, .str ⟨#[61, 57, 48]⟩ 773, .str ⟨#[61, 57, 49]⟩ 777, .str ⟨#[61, 57, 50]⟩ 781, .str ⟨#[61, 57, 51]⟩ 785, .str ⟨#[61, 57, 52]⟩ 789, .str ⟨#[61, 57, 53]⟩ 793, .str ⟨#[61, 57, 54]⟩ 797, .str ⟨#[61, 57, 55]⟩ 801, .str ⟨#[61, 57, 56]⟩ 805, .str ⟨#[61, 57, 57]⟩ 809, .str ⟨#[61, 57, 65]⟩ 813, .str ⟨#[61, 57, 66]⟩ 817, .str ⟨#[61, 57, 67]⟩ 821, .str ⟨#[61, 57, 68]⟩ 825, .str ⟨#[61, 57, 69]⟩ 829, .str ⟨#[61, 57, 70]⟩ 833, .str ⟨#[61, 65, 48]⟩ 837, .str ⟨#[61, 65, 49]⟩ 841, .str ⟨#[61, 65, 50]⟩ 845, .str ⟨#[61, 65, 51]⟩ 849, .str ⟨#[61, 65, 52]⟩ 853, .str ⟨#[61, 65, 53]⟩ 857, .str ⟨#[61, 65, 54]⟩ 861, .str ⟨#[61, 65, 55]⟩ 865, .str ⟨#[61, 65, 56]⟩ 869, .str ⟨#[61, 65, 57]⟩ 873, .str ⟨#[61, 65, 65]⟩ 877, .str ⟨#[61, 65, 66]⟩ 881, .str ⟨#[61, 65, 67]⟩ 885, .str ⟨#[61, 65, 68]⟩ 889, .str ⟨#[61, 65, 69]⟩ 893, .str ⟨#[61, 65, 70]⟩ 897, .str ⟨#[61, 66, 48]⟩ 901, .str ⟨#[61, 66, 49]⟩ 905, .str ⟨#[61, 66, 50]⟩ 909, .str ⟨#[61, 66, 51]⟩ 913, .str ⟨#[61, 66, 52]⟩ 917, .str ⟨#[61, 66, 53]⟩ 921, .str ⟨#[61, 66, 54]⟩ 925, .str ⟨#[61, 66, 55]⟩ 929, .str ⟨#[61, 66, 56]⟩ 933, .str ⟨#[61, 66, 57]⟩ 937, .str ⟨#[61, 66, 65]⟩ 941, .str ⟨#[61, 66, 66]⟩ 945, .str ⟨#[61, 66, 67]⟩ 949, .str ⟨#[61, 66, 68]⟩ 953, .str ⟨#[61, 66, 69]⟩ 957, .str ⟨#[61, 66, 70]⟩ 961, .str ⟨#[61, 67, 48]⟩ 965, .str ⟨#[61, 67, 49]⟩ 969, .str ⟨#[61, 67, 50]⟩ 973, .str ⟨#[61, 67, 51]⟩ 977, .str ⟨#[61, 67, 52]⟩ 981, .str ⟨#[61, 67, 53]⟩ 985, .str ⟨#[61, 67, 54]⟩ 989, .str ⟨#[61, 67, 55]⟩ 993, .str ⟨#[61, 67, 56]⟩ 997, .str ⟨#[61, 67, 57]⟩ 1001, .str ⟨#[61, 67, 65]⟩ 1005, .str ⟨#[61, 67, 66]⟩ 1009, .str ⟨#[61, 67, 67]⟩ 1013, .str ⟨#[61, 67, 68]⟩ 1017, .str ⟨#[61, 67, 69]⟩ 1021, .str ⟨#[61, 67, 70]⟩ 1025, .str ⟨#[61, 68, 48]⟩ 1029, .str ⟨#[61, 68, 49]⟩ 1033, .str ⟨#[61, 68, 50]⟩ 1037, .str ⟨#[61, 68, 51]⟩ 1041, .str ⟨#[61, 68, 52]⟩ 1045, .str ⟨#[61, 68, 53]⟩ 1049, .str ⟨#[61, 68, 54]⟩ 1053, .str ⟨#[61, 68, 55]⟩ 1057, .str ⟨#[61, 68, 56]⟩ 1061, .str ⟨#[61, 68, 57]⟩ 1065, .str ⟨#[61, 68, 65]⟩ 1069, .str ⟨#[61, 68, 66]⟩ 1073, .str ⟨#[61, 68, 67]⟩ 1077, .str ⟨#[61, 68, 68]⟩ 1081, .str ⟨#[61, 68, 69]⟩ 1085, .str ⟨#[61, 68, 70]⟩ 1089, .str ⟨#[61, 69, 48]⟩ 1093, .str ⟨#[61, 69, 49]⟩ 1097, .str ⟨#[61, 69, 50]⟩ 1101, .str ⟨#[61, 69, 51]⟩ 1105, .str ⟨#[61, 69, 52]⟩ 1109, .str ⟨#[61, 69, 53]⟩ 1113, .str ⟨#[61, 69, 54]⟩ 1117, .str ⟨#[61, 69, 55]⟩ 1121, .str ⟨#[61, 69, 56]⟩ 1125, .str ⟨#[61, 69, 57]⟩ 1129, .str ⟨#[61, 69, 65]⟩ 1133, .str ⟨#[61, 69, 66]⟩ 1137, .str ⟨#[61, 69, 67]⟩ 1141, .str ⟨#[61, 69, 68]⟩ 1145, .str ⟨#[61, 69, 69]⟩ 1149, .str ⟨#[61, 69, 70]⟩ 1153, .str ⟨#[61, 70, 48]⟩ 1157, .str ⟨#[61, 70, 49]⟩ 1161, .str ⟨#[61, 70, 50]⟩ 1165, .str ⟨#[61, 70, 51]⟩ 1169, .str ⟨#[61, 70, 52]⟩ 1173, .str ⟨#[61, 70, 53]⟩ 1177, .str ⟨#[61, 70, 54]⟩ 1181, .str ⟨#[61, 70, 55]⟩ 1185, .str ⟨#[61, 70, 56]⟩ 1189, .str ⟨#[61, 70, 57]⟩ 1193, .str ⟨#[61, 70, 65]⟩ 1197, .str ⟨#[61, 70, 66]⟩ 1201, .str ⟨#[61, 70, 67]⟩ 1205, .str ⟨#[61, 70, 68]⟩ 1209, .str ⟨#[61, 70, 69]⟩ 1213, .str ⟨#[61, 70, 70]⟩ 1217]).toArray 0, #[]⟩
noncomputable def tr_s11 (P : Params) : BT := (.node (boot_o_0 P) (.node (boot_o_1 P) (.node (o3_24 P) (.node (boot_o_7 P) (.node (o15_10 P) .nil .nil) (.node (o23_19 P) .nil .nil)) (.node (o11_0 P) (.node (o19_14 P) .nil .nil) (.node (o27_28 P) .nil .nil))) (.node (boot_o_5 P) (.node (boot_o_9 P) (.node (o17_12 P) .nil .nil) (.node (o25_26 P) .nil .nil)) (.node (o13_2 P) (.node (o21_17 P) .nil .nil) .nil))) (.node (boot_o_2 P) (.node (boot_o_4 P) (.node (boot_o_8 P) (.node (o16_11 P) .nil .nil) (.node (o24_20 P) .nil .nil)) (.node (o12_1 P) (.node (o20_15 P) .nil .nil) .nil)) (.node (boot_o_6 P) (.node (boot_o_10 P) (.node (o18_13 P) .nil .nil) (.node (o26_27 P) .nil .nil)) (.node (o14_3 P) (.node (o22_29 P) .nil .nil) .nil))))
noncomputable def s11 (w : World) (os : OsState) : SharedT := ⟨tr_s11 w.params, 28, life0, Array.mk [], boot_drawn, 1442, os⟩
noncomputable def gr11_sts : List Stmt := [stm 11]
theorem gr11_q (w : World) (os : OsState) : PySem.W.Fast.tw10110043849684766642 PySem.W.Fast.tw14364793385576792824 PR w 11 ann0 1 25 (s10 w os) ⟨(PySem.W.Fast.tw12563942051412417395 gr11_sts env0).wrap doneF deadEnd id id, cE, ⟨11, 9, 11, 74⟩, B0⟩ = some (.next, s11 w os, cE, ⟨13, 0, 13, 28⟩) := by kernel_rfl
def gr11_P (w : World) : Prop := ∀ os : OsState, segRun treeTable PR w 11 ann0 1 25 (s10 w os).abs (piecesOf gr11_sts env0 cE ⟨11, 9, 11, 74⟩ B0) = some (.next, (s11 w os).abs, cE, ⟨13, 0, 13, 28⟩)
theorem gr11_all (w : World) : gr11_P w := (fun os => startR (gr11_q w os))
noncomputable def o3_30 (P : Params) : Obj := ⟨.type "dict", none, .dict ([⟨PyData.keyHash P ⟨#[95, 95, 110, 97, 109, 101, 95, 95]⟩, .str ⟨#[95, 95, 110, 97, 109, 101, 95, 95]⟩ 165, .str ⟨#[99, 112, 121, 51, 49, 51, 46, 101, 109, 97, 105, 108, 46, 113, 117, 111, 112, 114, 105, 109, 105, 109, 101]⟩ 1229⟩, ⟨PyData.keyHash P ⟨#[95, 95, 100, 111, 99, 95, 95]⟩, .str ⟨#[95, 95, 100, 111, 99, 95, 95]⟩ 166, .none⟩, ⟨PyData.keyHash P ⟨#[95, 95, 112, 97, 99, 107, 97, 103, 101, 95, 95]⟩, .str ⟨#[95, 95, 112, 97, 99, 107, 97, 103, 101, 95, 95]⟩ 167, .none⟩, ⟨PyData.keyHash P ⟨#[95, 95, 108, 111, 97, 100, 101, 114, 95, 95]⟩, .str ⟨#[95, 95, 108, 111, 97, 100, 101, 114, 95, 95]⟩ 168, .builtin "__main__.__loader__#opaque"⟩, ⟨PyData.keyHash P ⟨#[95, 95, 115, 112, 101, 99, 95, 95]⟩, .str ⟨#[95, 95, 115, 112, 101, 99, 95, 95]⟩ 169, .none⟩, ⟨PyData.keyHash P ⟨#[95, 95, 97, 110, 110, 111, 116, 97, 116, 105, 111, 110, 115, 95, 95]⟩, .str ⟨#[95, 95, 97, 110, 110, 111, 116, 97, 116, 105, 111, 110, 115, 95, 95]⟩ 170, .ref 6⟩, ⟨PyData.keyHash P ⟨#[95, 95, 98, 117, 105, 108, 116, 105, 110, 115, 95, 95]⟩, .str ⟨#[95, 95, 98, 117, 105, 108, 116, 105, 110, 115, 95, 95]⟩ 171, .ref 4⟩, ⟨PyData.keyHash P ⟨#[95, 95, 102, 105, 108, 101, 95, 95]⟩, .str ⟨#[95, 95, 102, 105, 108, 101, 95, 95]⟩ 173, .str ⟨#[47, 99, 108, 97, 105, 109, 47, 99, 117, 116, 46, 112, 121]⟩ 172⟩, ⟨PyData.keyHash P ⟨#[95, 95, 99, 97, 99, 104, 101, 100, 95, 95]⟩, .str ⟨#[95, 95, 99, 97, 99, 104, 101, 100, 95, 95]⟩ 174, .none⟩, ⟨PyData.keyHash P ⟨#[67, 82, 76, 70]⟩, .str ⟨#[67, 82, 76, 70]⟩ 188, .str ⟨#[13, 10]⟩ 187⟩, ⟨PyData.keyHash P ⟨#[78, 76]⟩, .str ⟨#[78, 76]⟩ 190, .str ⟨#[10]⟩ 189⟩, ⟨PyData.keyHash P ⟨#[95, 81, 85, 79, 80, 82, 73, 95, 77, 65, 80]⟩, .str ⟨#[95, 81, 85, 79, 80, 82, 73, 95, 77, 65, 80]⟩ 1218, .ref 17⟩, ⟨PyData.keyHash P ⟨#[95, 81, 85, 79, 80, 82, 73, 95, 72, 69, 65, 68, 69, 82, 95, 77, 65, 80]⟩, .str ⟨#[95, 81, 85, 79, 80, 82, 73, 95, 72, 69, 65, 68, 69, 82, 95, 77, 65, 80]⟩ 1219, .ref 22⟩, ⟨PyData.keyHash P ⟨#[95, 81, 85, 79, 80, 82, 73, 95, 66, 79, 68, 89, 95, 77, 65, 80]⟩, .str ⟨#[95, 81, 85, 79, 80, 82, 73, 95, 66, 79, 68, 89, 95, 77, 65, 80]⟩ 1220, .ref 24⟩, ⟨PyData.keyHash P ⟨#[97, 115, 99, 105, 105, 95, 108, 111, 119, 101, 114, 99, 97, 115, 101]⟩, .str ⟨#[97, 115, 99, 105, 105, 95, 108, 111, 119, 101, 114, 99, 97, 115, 101]⟩ 1222, .str ⟨#[97, 98, 99, 100, 101, 102, 103, 104, 105, 106, 107, 108, 109, 110, 111, 112, 113, 114, 115, 116, 117, 118, 119, 120, 121, 122]⟩ 1221⟩, ⟨PyData.keyHash P ⟨#[97, 115, 99, 105, 105, 95, 117, 112, 112, 101, 114, 99, 97, 115, 101]⟩, .str ⟨#[97, 115, 99, 105, 105, 95, 117, 112, 112, 101, 114, 99, 97, 115, 101]⟩ 1224, .str ⟨#[65, 66, 67, 68, 69, 70, 71, 72, 73, 74, 75, 76, 77, 78, 79, 80, 81, 82, 83, 84, 85, 86, 87, 88, 89, 90]⟩ 1223⟩, ⟨PyData.keyHash P ⟨#[97, 115, 99, 105, 105, 95, 108, 101, 116, 116, 101, 114, 115]⟩, .str ⟨#[97, 115, 99, 105, 105, 95, 108, 101, 116, 116, 101, 114, 115]⟩ 1226, .str ⟨#[97, 98, 99, 100, 101, 102, 103, 104, 105, 106, 107, 108, 109, 110, 111, 112, 113, 114, 115, 116, 117, 118, 119, 120, 121, 122, 65, 66, 67, 68, 69, 70, 71, 72, 73, 74, 75, 76, 77, 78, 79, 80, 81, 82, 83, 84, 85, 86, 87, 88, 89, 90]⟩ 1225⟩, ⟨PyData.keyHash P ⟨#[100, 105, 103, 105, 116, 115]⟩, .str ⟨#[100, 105, 103, 105, 116, 115]⟩ 1228, .str ⟨#[48, 49, 50, 51, 52, 53, 54, 55, 56, 57]⟩ 1227⟩, ⟨PyData.keyHash P ⟨#[99]⟩, .str ⟨#[99]⟩ 1239, .int 32 1443⟩]).toArray 19, #[]⟩
noncomputable def o24_31 (P : Params) : Obj := ⟨.type "list", none, .seq ([.str ⟨#[61, 48, 48]⟩ 197, .str ⟨#[61, 48, 49]⟩ 201, .str ⟨#[61, 48, 50]⟩ 205, .str ⟨#[61, 48, 51]⟩ 209, .str ⟨#[61, 48, 52]⟩ 213, .str ⟨#[61, 48, 53]⟩ 217, .str ⟨#[61, 48, 54]⟩ 221, .str ⟨#[61, 48, 55]⟩ 225, .str ⟨#[61, 48, 56]⟩ 229, .str ⟨#[61, 48, 57]⟩ 233, .str ⟨#[61, 48, 65]⟩ 237, .str ⟨#[61, 48, 66]⟩ 241, .str ⟨#[61, 48, 67]⟩ 245, .str ⟨#[61, 48, 68]⟩ 249, .str ⟨#[61, 48, 69]⟩ 253, .str ⟨#[61, 48, 70]⟩ 257, .str ⟨#[61, 49, 48]⟩ 261, .str ⟨#[61, 49, 49]⟩ 265, .str ⟨#[61, 49, 50]⟩ 269, .str ⟨#[61, 49, 51]⟩ 273, .str ⟨#[61, 49, 52]⟩ 277, .str ⟨#[61, 49, 53]⟩ 281, .str ⟨#[61, 49, 54]⟩ 285, .str ⟨#[61, 49, 55]⟩ 289, .str ⟨#[61, 49, 56]⟩ 293, .str ⟨#[61, 49, 57]⟩ 297, .str ⟨#[61, 49, 65]⟩ 301, .str ⟨#[61, 49, 66]⟩ 305, .str ⟨#[61, 49, 67]⟩ 309, .str ⟨#[61, 49, 68]⟩ 313, .str ⟨#[61, 49, 69]⟩ 317, .str ⟨#[61, 49, 70]⟩ 321, .str ⟨#[32]⟩ 1445, .str ⟨#[61, 50, 49]⟩ 329, .str ⟨#[61, 50, 50]⟩ 333, .str ⟨#[61, 50, 51]⟩ 337, .str ⟨#[61, 50, 52]⟩ 341, .str ⟨#[61, 50, 53]⟩ 345, .str ⟨#[61, 50, 54]⟩ 349, .str ⟨#[61, 50, 55]⟩ 353, .str ⟨#[61, 50, 56]⟩ 357, .str ⟨#[61, 50, 57]⟩ 361, .str ⟨#[61, 50, 65]⟩ 365, .str ⟨#[61, 50, 66]⟩ 369, .str ⟨#[61, 50, 67]⟩ 373, .str ⟨#[61, 50, 68]⟩ 377, .str ⟨#[61, 50, 69]⟩ 381, .str ⟨#[61, 50, 70]⟩ 385, .str ⟨#[61, 51, 48]⟩ 389, .str ⟨#[61, 51, 49]⟩ 393, .str ⟨#[61, 51, 50]⟩ 397, .str ⟨#[61, 51, 51]⟩ 401, .str ⟨#[61, 51, 52]⟩ 405, .str ⟨#[61, 51, 53]⟩ 409, .str ⟨#[61, 51, 54]⟩ 413, .str ⟨#[61, 51, 55]⟩ 417, .str ⟨#[61, 51, 56]⟩ 421, .str ⟨#[61, 51, 57]⟩ 425, .str ⟨#[61, 51, 65]⟩ 429, .str ⟨#[61, 51, 66]⟩ 433, .str ⟨#[61, 51, 67]⟩ 437, .str ⟨#[61, 51, 68]⟩ 441, .str ⟨#[61, 51, 69]⟩ 445, .str ⟨#[61, 51, 70]⟩ 449, .str ⟨#[61, 52, 48]⟩ 453, .str ⟨#[61, 52, 49]⟩ 457, .str ⟨#[61, 52, 50]⟩ 461, .str ⟨#[61, 52, 51]⟩ 465, .str ⟨#[61, 52, 52]⟩ 469, .str ⟨#[61, 52, 53]⟩ 473, .str ⟨#[61, 52, 54]⟩ 477, .str ⟨#[61, 52, 55]⟩ 481, .str ⟨#[61, 52, 56]⟩ 485, .str ⟨#[61, 52, 57]⟩ 489, .str ⟨#[61, 52, 65]⟩ 493, .str ⟨#[61, 52, 66]⟩ 497, .str ⟨#[61, 52, 67]⟩ 501, .str ⟨#[61, 52, 68]⟩ 505, .str ⟨#[61, 52, 69]⟩ 509, .str ⟨#[61, 52, 70]⟩ 513, .str ⟨#[61, 53, 48]⟩ 517, .str ⟨#[61, 53, 49]⟩ 521, .str ⟨#[61, 53, 50]⟩ 525, .str ⟨#[61, 53, 51]⟩ 529, .str ⟨#[61, 53, 52]⟩ 533, .str ⟨#[61, 53, 53]⟩ 537, .str ⟨#[61, 53, 54]⟩ 541, .str ⟨#[61, 53, 55]⟩ 545, .str ⟨#[61, 53, 56]⟩ 549, .str ⟨#[61, 53, 57]⟩ 553, .str ⟨#[61, 53, 65]⟩ 557, .str ⟨#[61, 53, 66]⟩ 561, .str ⟨#[61, 53, 67]⟩ 565, .str ⟨#[61, 53, 68]⟩ 569, .str ⟨#[61, 53, 69]⟩ 573, .str ⟨#[61, 53, 70]⟩ 577, .str ⟨#[61, 54, 48]⟩ 581, .str ⟨#[61, 54, 49]⟩ 585, .str ⟨#[61, 54, 50]⟩ 589, .str ⟨#[61, 54, 51]⟩ 593, .str ⟨#[61, 54, 52]⟩ 597, .str ⟨#[61, 54, 53]⟩ 601, .str ⟨#[61, 54, 54]⟩ 605, .str ⟨#[61, 54, 55]⟩ 609, .str ⟨#[61, 54, 56]⟩ 613, .str ⟨#[61, 54, 57]⟩ 617, .str ⟨#[61, 54, 65]⟩ 621, .str ⟨#[61, 54, 66]⟩ 625, .str ⟨#[61, 54, 67]⟩ 629, .str ⟨#[61, 54, 68]⟩ 633, .str ⟨#[61, 54, 69]⟩ 637, .str ⟨#[61, 54, 70]⟩ 641, .str ⟨#[61, 55, 48]⟩ 645, .str ⟨#[61, 55, 49]⟩ 649, .str ⟨#[61, 55, 50]⟩ 653, .str ⟨#[61, 55, 51]⟩ 657, .str ⟨#[61, 55, 52]⟩ 661, .str ⟨#[61, 55, 53]⟩ 665, .str ⟨#[61, 55, 54]⟩ 669, .str ⟨#[61, 55, 55]⟩ 673, .str ⟨#[61, 55, 56]⟩ 677, .str ⟨#[61, 55, 57]⟩ 681, .str ⟨#[61, 55, 65]⟩ 685, .str ⟨#[61, 55, 66]⟩ 689, .str ⟨#[61, 55, 67]⟩ 693, .str ⟨#[61, 55, 68]⟩ 697, .str ⟨#[61, 55, 69]⟩ 701, .str ⟨#[61, 55, 70]⟩ 705, .str ⟨#[61, 56, 48]⟩ 709, .str ⟨#[61, 56, 49]⟩ 713, .str ⟨#[61, 56, 50]⟩ 717, .str ⟨#[61, 56, 51]⟩ 721, .str ⟨#[61, 56, 52]⟩ 725, .str ⟨#[61, 56, 53]⟩ 729, .str ⟨#[61, 56, 54]⟩ 733, .str ⟨#[61, 56, 55]⟩ 737, .str ⟨#[61, 56, 56]⟩ 741, .str ⟨#[61, 56, 57]⟩ 745, .str ⟨#[61, 56, 65]⟩ 749, .str ⟨#[61, 56, 66]⟩ 753, .str ⟨#[61, 56, 67]⟩ 757, .str ⟨#[61, 56, 68]⟩ 761, .str ⟨#[61, 56, 69]⟩ 765, .str ⟨#[61, 56, 70]⟩ 769, .str ⟨#[61, 57, 48]⟩ 773, .str ⟨#[61, 57, 49]⟩ 777, .str ⟨#[61, 57, 50]⟩ 781, .str ⟨#[61, 57, 51]⟩ 785, .str ⟨#[61, 57, 52]⟩ 789, .str ⟨#[61, 57, 53]⟩ 793, .str ⟨#[61, 57, 54]⟩ 797, .str ⟨#[61, 57, 55]⟩ 801, .str ⟨#[61, 57, 56]⟩ 805, .str ⟨#[61, 57, 57]⟩ 809, .str ⟨#[61, 57, 65]⟩ 813, .str ⟨#[61, 57, 66]⟩ 817, .str ⟨#[61, 57, 67]⟩ 821, .str ⟨#[61, 57, 68]⟩ 825, .str ⟨#[61, 57, 69]⟩ 829, .str ⟨#[61, 57, 70]⟩ 833, .str ⟨#[61, 65, 48]⟩ 837, .str ⟨#[61, 65, 49]⟩ 841, .str ⟨#[61, 65, 50]⟩ 845, .str ⟨#[61, 65, 51]⟩ 849, .str ⟨#[61, 65, 52]⟩ 853, .str ⟨#[61, 65, 53]⟩ 857, .str ⟨#[61, 65, 54]⟩ 861, .str ⟨#[61, 65, 55]⟩ 865, .str ⟨#[61, 65, 56]⟩ 869, .str ⟨#[61, 65, 57]⟩ 873, .str ⟨#[61, 65, 65]⟩ 877, .str ⟨#[61, 65, 66]⟩ 881, .str ⟨#[61, 65, 67]⟩ 885, .str ⟨#[61, 65, 68]⟩ 889, .str ⟨#[61, 65, 69]⟩ 893, .str ⟨#[61, 65, 70]⟩ 897, .str ⟨#[61, 66, 48]⟩ 901, .str ⟨#[61, 66, 49]⟩ 905, .str ⟨#[61, 66, 50]⟩ 909, .str ⟨#[61, 66, 51]⟩ 913, .str ⟨#[61, 66, 52]⟩ 917, .str ⟨#[61, 66, 53]⟩ 921, .str ⟨#[61, 66, 54]⟩ 925, .str ⟨#[61, 66, 55]⟩ 929, .str ⟨#[61, 66, 56]⟩ 933, .str ⟨#[61, 66, 57]⟩ 937, .str ⟨#[61, 66, 65]⟩ 941, .str ⟨#[61, 66, 66]⟩ 945, .str ⟨#[61, 66, 67]⟩ 949, .str ⟨#[61, 66, 68]⟩ 953, .str ⟨#[61, 66, 69]⟩ 957, .str ⟨#[61, 66, 70]⟩ 961, .str ⟨#[61, 67, 48]⟩ 965, .str ⟨#[61, 67, 49]⟩ 969, .str ⟨#[61, 67, 50]⟩ 973, .str ⟨#[61, 67, 51]⟩ 977, .str ⟨#[61, 67, 52]⟩ 981, .str ⟨#[61, 67, 53]⟩ 985, .str ⟨#[61, 67, 54]⟩ 989, .str ⟨#[61, 67, 55]⟩ 993, .str ⟨#[61, 67, 56]⟩ 997, .str ⟨#[61, 67, 57]⟩ 1001, .str ⟨#[61, 67, 65]⟩ 1005, .str ⟨#[61, 67, 66]⟩ 1009, .str ⟨#[61, 67, 67]⟩ 1013, .str ⟨#[61, 67, 68]⟩ 1017, .str ⟨#[61, 67, 69]⟩ 1021, .str ⟨#[61, 67, 70]⟩ 1025, .str ⟨#[61, 68, 48]⟩ 1029, .str ⟨#[61, 68, 49]⟩ 1033, .str ⟨#[61, 68, 50]⟩ 1037, .str ⟨#[61, 68, 51]⟩ 1041, .str ⟨#[61, 68, 52]⟩ 1045, .str ⟨#[61, 68, 53]⟩ 1049, .str ⟨#[61, 68, 54]⟩ 1053, .str ⟨#[61, 68, 55]⟩ 1057, .str ⟨#[61, 68, 56]⟩ 1061, .str ⟨#[61, 68, 57]⟩ 1065, .str ⟨#[61, 68, 65]⟩ 1069, .str ⟨#[61, 68, 66]⟩ 1073, .str ⟨#[61, 68, 67]⟩ 1077, .str ⟨#[61, 68, 68]⟩ 1081, .str ⟨#[61, 68, 69]⟩ 1085, .str ⟨#[61, 68, 70]⟩ 1089, .str ⟨#[61, 69, 48]⟩ 1093, .str ⟨#[61, 69, 49]⟩ 1097, .str ⟨#[61, 69, 50]⟩ 1101, .str ⟨#[61, 69, 51]⟩ 1105, .str ⟨#[61, 69, 52]⟩ 1109, .str ⟨#[61, 69, 53]⟩ 1113, .str ⟨#[61, 69, 54]⟩ 1117, .str ⟨#[61, 69, 55]⟩ 1121, .str ⟨#[61, 69, 56]⟩ 1125, .str ⟨#[61, 69, 57]⟩ 1129, .str ⟨#[61, 69, 65]⟩ 1133, .str ⟨#[61, 69, 66]⟩ 1137, .str ⟨#[61, 69, 67]⟩ 1141, .str ⟨#[61, 69, 68]⟩ 1145, .str ⟨#[61, 69, 69]⟩ 1149, .str ⟨#[61, 69, 70]⟩ 1153, .str ⟨#[61, 70, 48]⟩ 1157, .str ⟨#[61, 70, 49]⟩ 1161, .str ⟨#[61, 70, 50]⟩ 1165, .str ⟨#[61, 70, 51]⟩ 1169, .str ⟨#[61, 70, 52]⟩ 1173, .str ⟨#[61, 70, 53]⟩ 1177, .str ⟨#[61, 70, 54]⟩ 1181, .str ⟨#[61, 70, 55]⟩ 1185, .str ⟨#[61, 70, 56]⟩ 1189, .str ⟨#[61, 70, 57]⟩ 1193, .str ⟨#[61, 70, 65]⟩ 1197, .str ⟨#[61, 70, 66]⟩ 1201, .str ⟨#[61, 70, 67]⟩ 1205, .str ⟨#[61, 70, 68]⟩ 1209, .str ⟨#[61, 70, 69]⟩ 1213, .str ⟨#[61, 70, 70]⟩ 1217]).toArray 0, #[]⟩
noncomputable def o28_32 (P : Params) : Obj := ⟨.type "bytes_iterator", none, .fields ([.bytes #[32, 33, 34, 35, 36, 37, 38, 39, 40, 41, 42, 43, 44, 45, 46, 47, 48, 49, 50, 51, 52, 53, 54, 55, 56, 57, 58, 59, 60, 62, 63, 64, 65, 66, 67, 68, 69, 70, 71, 72, 73, 74, 75, 76, 77, 78, 79, 80, 81, 82, 83, 84, 85, 86, 87, 88, 89, 90, 91, 92, 93, 94, 95, 96, 97, 98, 99, 100, 101, 102, 103, 104, 105, 106, 107, 108, 109, 110, 111, 112, 113, 114, 115, 116, 117, 118, 119, 120, 121, 122, 123, 124, 125, 126, 9] 1442, .int 1 0]).toArray, #[]⟩
noncomputable def tr_lp12 (P : Params) (a3 a24 a28 : Obj) : BT := (.node (boot_o_0 P) (.node (boot_o_1 P) (.node (a3) (.node (boot_o_7 P) (.node (o15_10 P) .nil .nil) (.node (o23_19 P) .nil .nil)) (.node (o11_0 P) (.node (o19_14 P) .nil .nil) (.node (o27_28 P) .nil .nil))) (.node (boot_o_5 P) (.node (boot_o_9 P) (.node (o17_12 P) .nil .nil) (.node (o25_26 P) .nil .nil)) (.node (o13_2 P) (.node (o21_17 P) .nil .nil) .nil))) (.node (boot_o_2 P) (.node (boot_o_4 P) (.node (boot_o_8 P) (.node (o16_11 P) .nil .nil) (.node (a24) .nil .nil)) (.node (o12_1 P) (.node (o20_15 P) .nil .nil) (.node (a28) .nil .nil))) (.node (boot_o_6 P) (.node (boot_o_10 P) (.node (o18_13 P) .nil .nil) (.node (o26_27 P) .nil .nil)) (.node (o14_3 P) (.node (o22_29 P) .nil .nil) .nil))))
noncomputable def lp12_r24 : List Nat := [9999, 9999, 9999, 9999, 9999, 9999, 9999, 9999, 9999, 95, 9999, 9999, 9999, 9999, 9999, 9999, 9999, 9999, 9999, 9999, 9999, 9999, 9999, 9999, 9999, 9999, 9999, 9999, 9999, 9999, 9999, 9999, 9999, 2, 3, 4, 5, 6, 7, 8, 9, 10, 11, 12, 13, 14, 15, 16, 17, 18, 19, 20, 21, 22, 23, 24, 25, 26, 27, 28, 29, 9999, 30, 31, 32, 33, 34, 35, 36, 37, 38, 39, 40, 41, 42, 43, 44, 45, 46, 47, 48, 49, 50, 51, 52, 53, 54, 55, 56, 57, 58, 59, 60, 61, 62, 63, 64, 65, 66, 67, 68, 69, 70, 71, 72, 73, 74, 75, 76, 77, 78, 79, 80, 81, 82, 83, 84, 85, 86, 87, 88, 89, 90, 91, 92, 93, 94, 9999, 9999, 9999, 9999, 9999, 9999, 9999, 9999, 9999, 9999, 9999, 9999, 9999, 9999, 9999, 9999, 9999, 9999, 9999, 9999, 9999, 9999, 9999, 9999, 9999, 9999, 9999, 9999, 9999, 9999, 9999, 9999, 9999, 9999, 9999, 9999, 9999, 9999, 9999, 9999, 9999, 9999, 9999, 9999, 9999, 9999, 9999, 9999, 9999, 9999, 9999, 9999, 9999, 9999, 9999, 9999, 9999, 9999, 9999, 9999, 9999, 9999, 9999, 9999, 9999, 9999, 9999, 9999, 9999, 9999, 9999, 9999, 9999, 9999, 9999, 9999, 9999, 9999, 9999, 9999, 9999, 9999, 9999, 9999, 9999, 9999, 9999, 9999, 9999, 9999, 9999, 9999, 9999, 9999, 9999, 9999, 9999, 9999, 9999, 9999, 9999, 9999, 9999, 9999, 9999, 9999, 9999, 9999, 9999, 9999, 9999, 9999, 9999, 9999, 9999, 9999, 9999, 9999, 9999, 9999, 9999, 9999, 9999, 9999, 9999, 9999, 9999, 9999, 9999]
noncomputable def lp12_x24 : List Value := [.str ⟨#[61, 48, 48]⟩ 197, .str ⟨#[61, 48, 49]⟩ 201, .str ⟨#[61, 48, 50]⟩ 205, .str ⟨#[61, 48, 51]⟩ 209, .str ⟨#[61, 48, 52]⟩ 213, .str ⟨#[61, 48, 53]⟩ 217, .str ⟨#[61, 48, 54]⟩ 221, .str ⟨#[61, 48, 55]⟩ 225, .str ⟨#[61, 48, 56]⟩ 229, .str ⟨#[61, 48, 57]⟩ 233, .str ⟨#[61, 48, 65]⟩ 237, .str ⟨#[61, 48, 66]⟩ 241, .str ⟨#[61, 48, 67]⟩ 245, .str ⟨#[61, 48, 68]⟩ 249, .str ⟨#[61, 48, 69]⟩ 253, .str ⟨#[61, 48, 70]⟩ 257, .str ⟨#[61, 49, 48]⟩ 261, .str ⟨#[61, 49, 49]⟩ 265, .str ⟨#[61, 49, 50]⟩ 269, .str ⟨#[61, 49, 51]⟩ 273, .str ⟨#[61, 49, 52]⟩ 277, .str ⟨#[61, 49, 53]⟩ 281, .str ⟨#[61, 49, 54]⟩ 285, .str ⟨#[61, 49, 55]⟩ 289, .str ⟨#[61, 49, 56]⟩ 293, .str ⟨#[61, 49, 57]⟩ 297, .str ⟨#[61, 49, 65]⟩ 301, .str ⟨#[61, 49, 66]⟩ 305, .str ⟨#[61, 49, 67]⟩ 309, .str ⟨#[61, 49, 68]⟩ 313, .str ⟨#[61, 49, 69]⟩ 317, .str ⟨#[61, 49, 70]⟩ 321, .str ⟨#[32]⟩ 1445, .str ⟨#[61, 50, 49]⟩ 329, .str ⟨#[61, 50, 50]⟩ 333, .str ⟨#[61, 50, 51]⟩ 337, .str ⟨#[61, 50, 52]⟩ 341, .str ⟨#[61, 50, 53]⟩ 345, .str ⟨#[61, 50, 54]⟩ 349, .str ⟨#[61, 50, 55]⟩ 353, .str ⟨#[61, 50, 56]⟩ 357, .str ⟨#[61, 50, 57]⟩ 361, .str ⟨#[61, 50, 65]⟩ 365, .str ⟨#[61, 50, 66]⟩ 369, .str ⟨#[61, 50, 67]⟩ 373, .str ⟨#[61, 50, 68]⟩ 377, .str ⟨#[61, 50, 69]⟩ 381, .str ⟨#[61, 50, 70]⟩ 385, .str ⟨#[61, 51, 48]⟩ 389, .str ⟨#[61, 51, 49]⟩ 393, .str ⟨#[61, 51, 50]⟩ 397, .str ⟨#[61, 51, 51]⟩ 401, .str ⟨#[61, 51, 52]⟩ 405, .str ⟨#[61, 51, 53]⟩ 409, .str ⟨#[61, 51, 54]⟩ 413, .str ⟨#[61, 51, 55]⟩ 417, .str ⟨#[61, 51, 56]⟩ 421, .str ⟨#[61, 51, 57]⟩ 425, .str ⟨#[61, 51, 65]⟩ 429, .str ⟨#[61, 51, 66]⟩ 433, .str ⟨#[61, 51, 67]⟩ 437, .str ⟨#[61, 51, 68]⟩ 441, .str ⟨#[61, 51, 69]⟩ 445, .str ⟨#[61, 51, 70]⟩ 449, .str ⟨#[61, 52, 48]⟩ 453, .str ⟨#[61, 52, 49]⟩ 457, .str ⟨#[61, 52, 50]⟩ 461, .str ⟨#[61, 52, 51]⟩ 465, .str ⟨#[61, 52, 52]⟩ 469, .str ⟨#[61, 52, 53]⟩ 473, .str ⟨#[61, 52, 54]⟩ 477, .str ⟨#[61, 52, 55]⟩ 481, .str ⟨#[61, 52, 56]⟩ 485, .str ⟨#[61, 52, 57]⟩ 489, .str ⟨#[61, 52, 65]⟩ 493, .str ⟨#[61, 52, 66]⟩ 497, .str ⟨#[61, 52, 67]⟩ 501, .str ⟨#[61, 52, 68]⟩ 505, .str ⟨#[61, 52, 69]⟩ 509, .str ⟨#[61, 52, 70]⟩ 513, .str ⟨#[61, 53, 48]⟩ 517, .str ⟨#[61, 53, 49]⟩ 521, .str ⟨#[61, 53, 50]⟩ 525, .str ⟨#[61, 53, 51]⟩ 529, .str ⟨#[61, 53, 52]⟩ 533, .str ⟨#[61, 53, 53]⟩ 537, .str ⟨#[61, 53, 54]⟩ 541, .str ⟨#[61, 53, 55]⟩ 545, .str ⟨#[61, 53, 56]⟩ 549, .str ⟨#[61, 53, 57]⟩ 553, .str ⟨#[61, 53, 65]⟩ 557, .str ⟨#[61, 53, 66]⟩ 561, .str ⟨#[61, 53, 67]⟩ 565, .str ⟨#[61, 53, 68]⟩ 569, .str ⟨#[61, 53, 69]⟩ 573, .str ⟨#[61, 53, 70]⟩ 577, .str ⟨#[61, 54, 48]⟩ 581, .str ⟨#[61, 54, 49]⟩ 585, .str ⟨#[61, 54, 50]⟩ 589, .str ⟨#[61, 54, 51]⟩ 593, .str ⟨#[61, 54, 52]⟩ 597, .str ⟨#[61, 54, 53]⟩ 601, .str ⟨#[61, 54, 54]⟩ 605, .str ⟨#[61, 54, 55]⟩ 609, .str ⟨#[61, 54, 56]⟩ 613, .str ⟨#[61, 54, 57]⟩ 617, .str ⟨#[61, 54, 65]⟩ 621, .str ⟨#[61, 54, 66]⟩ 625, .str ⟨#[61, 54, 67]⟩ 629, .str ⟨#[61, 54, 68]⟩ 633, .str ⟨#[61, 54, 69]⟩ 637, .str ⟨#[61, 54, 70]⟩ 641, .str ⟨#[61, 55, 48]⟩ 645, .str ⟨#[61, 55, 49]⟩ 649, .str ⟨#[61, 55, 50]⟩ 653, .str ⟨#[61, 55, 51]⟩ 657, .str ⟨#[61, 55, 52]⟩ 661, .str ⟨#[61, 55, 53]⟩ 665, .str ⟨#[61, 55, 54]⟩ 669, .str ⟨#[61, 55, 55]⟩ 673, .str ⟨#[61, 55, 56]⟩ 677, .str ⟨#[61, 55, 57]⟩ 681, .str ⟨#[61, 55, 65]⟩ 685, .str ⟨#[61, 55, 66]⟩ 689, .str ⟨#[61, 55, 67]⟩ 693, .str ⟨#[61, 55, 68]⟩ 697, .str ⟨#[61, 55, 69]⟩ 701, .str ⟨#[61, 55, 70]⟩ 705, .str ⟨#[61, 56, 48]⟩ 709, .str ⟨#[61, 56, 49]⟩ 713, .str ⟨#[61, 56, 50]⟩ 717, .str ⟨#[61, 56, 51]⟩ 721, .str ⟨#[61, 56, 52]⟩ 725, .str ⟨#[61, 56, 53]⟩ 729, .str ⟨#[61, 56, 54]⟩ 733, .str ⟨#[61, 56, 55]⟩ 737, .str ⟨#[61, 56, 56]⟩ 741, .str ⟨#[61, 56, 57]⟩ 745, .str ⟨#[61, 56, 65]⟩ 749, .str ⟨#[61, 56, 66]⟩ 753, .str ⟨#[61, 56, 67]⟩ 757, .str ⟨#[61, 56, 68]⟩ 761, .str ⟨#[61, 56, 69]⟩ 765, .str ⟨#[61, 56, 70]⟩ 769, .str ⟨#[61, 57, 48]⟩ 773, .str ⟨#[61, 57, 49]⟩ 777, .str ⟨#[61, 57, 50]⟩ 781, .str ⟨#[61, 57, 51]⟩ 785, .str ⟨#[61, 57, 52]⟩ 789, .str ⟨#[61, 57, 53]⟩ 793, .str ⟨#[61, 57, 54]⟩ 797, .str ⟨#[61, 57, 55]⟩ 801, .str ⟨#[61, 57, 56]⟩ 805, .str ⟨#[61, 57, 57]⟩ 809, .str ⟨#[61, 57, 65]⟩ 813, .str ⟨#[61, 57, 66]⟩ 817, .str ⟨#[61, 57, 67]⟩ 821, .str ⟨#[61, 57, 68]⟩ 825, .str ⟨#[61, 57, 69]⟩ 829, .str ⟨#[61, 57, 70]⟩ 833, .str ⟨#[61, 65, 48]⟩ 837, .str ⟨#[61, 65, 49]⟩ 841, .str ⟨#[61, 65, 50]⟩ 845, .str ⟨#[61, 65, 51]⟩ 849, .str ⟨#[61, 65, 52]⟩ 853, .str ⟨#[61, 65, 53]⟩ 857, .str ⟨#[61, 65, 54]⟩ 861, .str ⟨#[61, 65, 55]⟩ 865, .str ⟨#[61, 65, 56]⟩ 869, .str ⟨#[61, 65, 57]⟩ 873, .str ⟨#[61, 65, 65]⟩ 877, .str ⟨#[61, 65, 66]⟩ 881, .str ⟨#[61, 65, 67]⟩ 885, .str ⟨#[61, 65, 68]⟩ 889, .str ⟨#[61, 65, 69]⟩ 893, .str ⟨#[61, 65, 70]⟩ 897, .str ⟨#[61, 66, 48]⟩ 901, .str ⟨#[61, 66, 49]⟩ 905, .str ⟨#[61, 66, 50]⟩ 909, .str ⟨#[61, 66, 51]⟩ 913, .str ⟨#[61, 66, 52]⟩ 917, .str ⟨#[61, 66, 53]⟩ 921, .str ⟨#[61, 66, 54]⟩ 925, .str ⟨#[61, 66, 55]⟩ 929, .str ⟨#[61, 66, 56]⟩ 933, .str ⟨#[61, 66, 57]⟩ 937, .str ⟨#[61, 66, 65]⟩ 941, .str ⟨#[61, 66, 66]⟩ 945, .str ⟨#[61, 66, 67]⟩ 949, .str ⟨#[61, 66, 68]⟩ 953, .str ⟨#[61, 66, 69]⟩ 957, .str ⟨#[61, 66, 70]⟩ 961, .str ⟨#[61, 67, 48]⟩ 965, .str ⟨#[61, 67, 49]⟩ 969, .str ⟨#[61, 67, 50]⟩ 973, .str ⟨#[61, 67, 51]⟩ 977, .str ⟨#[61, 67, 52]⟩ 981, .str ⟨#[61, 67, 53]⟩ 985, .str ⟨#[61, 67, 54]⟩ 989, .str ⟨#[61, 67, 55]⟩ 993, .str ⟨#[61, 67, 56]⟩ 997, .str ⟨#[61, 67, 57]⟩ 1001, .str ⟨#[61, 67, 65]⟩ 1005, .str ⟨#[61, 67, 66]⟩ 1009, .str ⟨#[61, 67, 67]⟩ 1013, .str ⟨#[61, 67, 68]⟩ 1017, .str ⟨#[61, 67, 69]⟩ 1021, .str ⟨#[61, 67, 70]⟩ 1025, .str ⟨#[61, 68, 48]⟩ 1029, .str ⟨#[61, 68, 49]⟩ 1033, .str ⟨#[61, 68, 50]⟩ 1037, .str ⟨#[61, 68, 51]⟩ 1041, .str ⟨#[61, 68, 52]⟩ 1045, .str ⟨#[61, 68, 53]⟩ 1049, .str ⟨#[61, 68, 54]⟩ 1053, .str ⟨#[61, 68, 55]⟩ 1057, .str ⟨#[61, 68, 56]⟩ 1061, .str ⟨#[61, 68, 57]⟩ 1065, .str ⟨#[61, 68, 65]⟩ 1069, .str ⟨#[61, 68, 66]⟩ 1073, .str ⟨#[61, 68, 67]⟩ 1077, .str ⟨#[61, 68, 68]⟩ 1081, .str ⟨#[61, 68, 69]⟩ 1085, .str ⟨#[61, 68, 70]⟩ 1089, .str ⟨#[61, 69, 48]⟩ 1093, .str ⟨#[61, 69, 49]⟩ 1097, .str ⟨#[61, 69, 50]⟩ 1101, .str ⟨#[61, 69, 51]⟩ 1105, .str ⟨#[61, 69, 52]⟩ 1109, .str ⟨#[61, 69, 53]⟩ 1113, .str ⟨#[61, 69, 54]⟩ 1117, .str ⟨#[61, 69, 55]⟩ 1121, .str ⟨#[61, 69, 56]⟩ 1125, .str ⟨#[61, 69, 57]⟩ 1129, .str ⟨#[61, 69, 65]⟩ 1133, .str ⟨#[61, 69, 66]⟩ 1137, .str ⟨#[61, 69, 67]⟩ 1141, .str ⟨#[61, 69, 68]⟩ 1145, .str ⟨#[61, 69, 69]⟩ 1149, .str ⟨#[61, 69, 70]⟩ 1153, .str ⟨#[61, 70, 48]⟩ 1157, .str ⟨#[61, 70, 49]⟩ 1161, .str ⟨#[61, 70, 50]⟩ 1165, .str ⟨#[61, 70, 51]⟩ 1169, .str ⟨#[61, 70, 52]⟩ 1173, .str ⟨#[61, 70, 53]⟩ 1177, .str ⟨#[61, 70, 54]⟩ 1181, .str ⟨#[61, 70, 55]⟩ 1185, .str ⟨#[61, 70, 56]⟩ 1189, .str ⟨#[61, 70, 57]⟩ 1193, .str ⟨#[61, 70, 65]⟩ 1197, .str ⟨#[61, 70, 66]⟩ 1201, .str ⟨#[61, 70, 67]⟩ 1205, .str ⟨#[61, 70, 68]⟩ 1209, .str ⟨#[61, 70, 69]⟩ 1213, .str ⟨#[61, 70, 70]⟩ 1217]
noncomputable def lp12_y24 : List Value := [.str ⟨#[61, 48, 48]⟩ 197, .str ⟨#[61, 48, 49]⟩ 201, .str ⟨#[61, 48, 50]⟩ 205, .str ⟨#[61, 48, 51]⟩ 209, .str ⟨#[61, 48, 52]⟩ 213, .str ⟨#[61, 48, 53]⟩ 217, .str ⟨#[61, 48, 54]⟩ 221, .str ⟨#[61, 48, 55]⟩ 225, .str ⟨#[61, 48, 56]⟩ 229, .str ⟨#[9]⟩ 1727, .str ⟨#[61, 48, 65]⟩ 237, .str ⟨#[61, 48, 66]⟩ 241, .str ⟨#[61, 48, 67]⟩ 245, .str ⟨#[61, 48, 68]⟩ 249, .str ⟨#[61, 48, 69]⟩ 253, .str ⟨#[61, 48, 70]⟩ 257, .str ⟨#[61, 49, 48]⟩ 261, .str ⟨#[61, 49, 49]⟩ 265, .str ⟨#[61, 49, 50]⟩ 269, .str ⟨#[61, 49, 51]⟩ 273, .str ⟨#[61, 49, 52]⟩ 277, .str ⟨#[61, 49, 53]⟩ 281, .str ⟨#[61, 49, 54]⟩ 285, .str ⟨#[61, 49, 55]⟩ 289, .str ⟨#[61, 49, 56]⟩ 293, .str ⟨#[61, 49, 57]⟩ 297, .str ⟨#[61, 49, 65]⟩ 301, .str ⟨#[61, 49, 66]⟩ 305, .str ⟨#[61, 49, 67]⟩ 309, .str ⟨#[61, 49, 68]⟩ 313, .str ⟨#[61, 49, 69]⟩ 317, .str ⟨#[61, 49, 70]⟩ 321, .str ⟨#[32]⟩ 1445, .str ⟨#[33]⟩ 1448, .str ⟨#[34]⟩ 1451, .str ⟨#[35]⟩ 1454, .str ⟨#[36]⟩ 1457, .str ⟨#[37]⟩ 1460, .str ⟨#[38]⟩ 1463, .str ⟨#[39]⟩ 1466, .str ⟨#[40]⟩ 1469, .str ⟨#[41]⟩ 1472, .str ⟨#[42]⟩ 1475, .str ⟨#[43]⟩ 1478, .str ⟨#[44]⟩ 1481, .str ⟨#[45]⟩ 1484, .str ⟨#[46]⟩ 1487, .str ⟨#[47]⟩ 1490, .str ⟨#[48]⟩ 1493, .str ⟨#[49]⟩ 1496, .str ⟨#[50]⟩ 1499, .str ⟨#[51]⟩ 1502, .str ⟨#[52]⟩ 1505, .str ⟨#[53]⟩ 1508, .str ⟨#[54]⟩ 1511, .str ⟨#[55]⟩ 1514, .str ⟨#[56]⟩ 1517, .str ⟨#[57]⟩ 1520, .str ⟨#[58]⟩ 1523, .str ⟨#[59]⟩ 1526, .str ⟨#[60]⟩ 1529, .str ⟨#[61, 51, 68]⟩ 441, .str ⟨#[62]⟩ 1532, .str ⟨#[63]⟩ 1535, .str ⟨#[64]⟩ 1538, .str ⟨#[65]⟩ 1541, .str ⟨#[66]⟩ 1544, .str ⟨#[67]⟩ 1547, .str ⟨#[68]⟩ 1550, .str ⟨#[69]⟩ 1553, .str ⟨#[70]⟩ 1556, .str ⟨#[71]⟩ 1559, .str ⟨#[72]⟩ 1562, .str ⟨#[73]⟩ 1565, .str ⟨#[74]⟩ 1568, .str ⟨#[75]⟩ 1571, .str ⟨#[76]⟩ 1574, .str ⟨#[77]⟩ 1577, .str ⟨#[78]⟩ 1580, .str ⟨#[79]⟩ 1583, .str ⟨#[80]⟩ 1586, .str ⟨#[81]⟩ 1589, .str ⟨#[82]⟩ 1592, .str ⟨#[83]⟩ 1595, .str ⟨#[84]⟩ 1598, .str ⟨#[85]⟩ 1601, .str ⟨#[86]⟩ 1604, .str ⟨#[87]⟩ 1607, .str ⟨#[88]⟩ 1610, .str ⟨#[89]⟩ 1613, .str ⟨#[90]⟩ 1616, .str ⟨#[91]⟩ 1619, .str ⟨#[92]⟩ 1622, .str ⟨#[93]⟩ 1625, .str ⟨#[94]⟩ 1628, .str ⟨#[95]⟩ 1631, .str ⟨#[96]⟩ 1634, .str ⟨#[97]⟩ 1637, .str ⟨#[98]⟩ 1640, .str ⟨#[99]⟩ 1643, .str ⟨#[100]⟩ 1646, .str ⟨#[101]⟩ 1649, .str ⟨#[102]⟩ 1652, .str ⟨#[103]⟩ 1655, .str ⟨#[104]⟩ 1658, .str ⟨#[105]⟩ 1661, .str ⟨#[106]⟩ 1664, .str ⟨#[107]⟩ 1667, .str ⟨#[108]⟩ 1670, .str ⟨#[109]⟩ 1673, .str ⟨#[110]⟩ 1676, .str ⟨#[111]⟩ 1679, .str ⟨#[112]⟩ 1682, .str ⟨#[113]⟩ 1685, .str ⟨#[114]⟩ 1688, .str ⟨#[115]⟩ 1691, .str ⟨#[116]⟩ 1694, .str ⟨#[117]⟩ 1697, .str ⟨#[118]⟩ 1700, .str ⟨#[119]⟩ 1703, .str ⟨#[120]⟩ 1706, .str ⟨#[121]⟩ 1709, .str ⟨#[122]⟩ 1712, .str ⟨#[123]⟩ 1715, .str ⟨#[124]⟩ 1718, .str ⟨#[125]⟩ 1721, .str ⟨#[126]⟩ 1724, .str ⟨#[61, 55, 70]⟩ 705, .str ⟨#[61, 56, 48]⟩ 709, .str ⟨#[61, 56, 49]⟩ 713, .str ⟨#[61, 56, 50]⟩ 717, .str ⟨#[61, 56, 51]⟩ 721, .str ⟨#[61, 56, 52]⟩ 725, .str ⟨#[61, 56, 53]⟩ 729, .str ⟨#[61, 56, 54]⟩ 733, .str ⟨#[61, 56, 55]⟩ 737, .str ⟨#[61, 56, 56]⟩ 741, .str ⟨#[61, 56, 57]⟩ 745, .str ⟨#[61, 56, 65]⟩ 749, .str ⟨#[61, 56, 66]⟩ 753, .str ⟨#[61, 56, 67]⟩ 757, .str ⟨#[61, 56, 68]⟩ 761, .str ⟨#[61, 56, 69]⟩ 765, .str ⟨#[61, 56, 70]⟩ 769, .str ⟨#[61, 57, 48]⟩ 773, .str ⟨#[61, 57, 49]⟩ 777, .str ⟨#[61, 57, 50]⟩ 781, .str ⟨#[61, 57, 51]⟩ 785, .str ⟨#[61, 57, 52]⟩ 789, .str ⟨#[61, 57, 53]⟩ 793, .str ⟨#[61, 57, 54]⟩ 797, .str ⟨#[61, 57, 55]⟩ 801, .str ⟨#[61, 57, 56]⟩ 805, .str ⟨#[61, 57, 57]⟩ 809, .str ⟨#[61, 57, 65]⟩ 813, .str ⟨#[61, 57, 66]⟩ 817, .str ⟨#[61, 57, 67]⟩ 821, .str ⟨#[61, 57, 68]⟩ 825, .str ⟨#[61, 57, 69]⟩ 829, .str ⟨#[61, 57, 70]⟩ 833, .str ⟨#[61, 65, 48]⟩ 837, .str ⟨#[61, 65, 49]⟩ 841, .str ⟨#[61, 65, 50]⟩ 845, .str ⟨#[61, 65, 51]⟩ 849, .str ⟨#[61, 65, 52]⟩ 853, .str ⟨#[61, 65, 53]⟩ 857, .str ⟨#[61, 65, 54]⟩ 861, .str ⟨#[61, 65, 55]⟩ 865, .str ⟨#[61, 65, 56]⟩ 869, .str ⟨#[61, 65, 57]⟩ 873, .str ⟨#[61, 65, 65]⟩ 877, .str ⟨#[61, 65, 66]⟩ 881, .str ⟨#[61, 65, 67]⟩ 885, .str ⟨#[61, 65, 68]⟩ 889, .str ⟨#[61, 65, 69]⟩ 893, .str ⟨#[61, 65, 70]⟩ 897, .str ⟨#[61, 66, 48]⟩ 901, .str ⟨#[61, 66, 49]⟩ 905, .str ⟨#[61, 66, 50]⟩ 909, .str ⟨#[61, 66, 51]⟩ 913, .str ⟨#[61, 66, 52]⟩ 917, .str ⟨#[61, 66, 53]⟩ 921, .str ⟨#[61, 66, 54]⟩ 925, .str ⟨#[61, 66, 55]⟩ 929, .str ⟨#[61, 66, 56]⟩ 933, .str ⟨#[61, 66, 57]⟩ 937, .str ⟨#[61, 66, 65]⟩ 941, .str ⟨#[61, 66, 66]⟩ 945, .str ⟨#[61, 66, 67]⟩ 949, .str ⟨#[61, 66, 68]⟩ 953, .str ⟨#[61, 66, 69]⟩ 957, .str ⟨#[61, 66, 70]⟩ 961, .str ⟨#[61, 67, 48]⟩ 965, .str ⟨#[61, 67, 49]⟩ 969, .str ⟨#[61, 67, 50]⟩ 973, .str ⟨#[61, 67, 51]⟩ 977, .str ⟨#[61, 67, 52]⟩ 981, .str ⟨#[61, 67, 53]⟩ 985, .str ⟨#[61, 67, 54]⟩ 989, .str ⟨#[61, 67, 55]⟩ 993, .str ⟨#[61, 67, 56]⟩ 997, .str ⟨#[61, 67, 57]⟩ 1001, .str ⟨#[61, 67, 65]⟩ 1005, .str ⟨#[61, 67, 66]⟩ 1009, .str ⟨#[61, 67, 67]⟩ 1013, .str ⟨#[61, 67, 68]⟩ 1017, .str ⟨#[61, 67, 69]⟩ 1021, .str ⟨#[61, 67, 70]⟩ 1025, .str ⟨#[61, 68, 48]⟩ 1029, .str ⟨#[61, 68, 49]⟩ 1033, .str ⟨#[61, 68, 50]⟩ 1037, .str ⟨#[61, 68, 51]⟩ 1041, .str ⟨#[61, 68, 52]⟩ 1045, .str ⟨#[61, 68, 53]⟩ 1049, .str ⟨#[61, 68, 54]⟩ 1053, .str ⟨#[61, 68, 55]⟩ 1057, .str ⟨#[61, 68, 56]⟩ 1061, .str ⟨#[61, 68, 57]⟩ 1065, .str ⟨#[61, 68, 65]⟩ 1069, .str ⟨#[61, 68, 66]⟩ 1073, .str ⟨#[61, 68, 67]⟩ 1077, .str ⟨#[61, 68, 68]⟩ 1081, .str ⟨#[61, 68, 69]⟩ 1085, .str ⟨#[61, 68, 70]⟩ 1089, .str ⟨#[61, 69, 48]⟩ 1093, .str ⟨#[61, 69, 49]⟩ 1097, .str ⟨#[61, 69, 50]⟩ 1101, .str ⟨#[61, 69, 51]⟩ 1105, .str ⟨#[61, 69, 52]⟩ 1109, .str ⟨#[61, 69, 53]⟩ 1113, .str ⟨#[61, 69, 54]⟩ 1117, .str ⟨#[61, 69, 55]⟩ 1121, .str ⟨#[61, 69, 56]⟩ 1125, .str ⟨#[61, 69, 57]⟩ 1129, .str ⟨#[61, 69, 65]⟩ 1133, .str ⟨#[61, 69, 66]⟩ 1137, .str ⟨#[61, 69, 67]⟩ 1141, .str ⟨#[61, 69, 68]⟩ 1145, .str ⟨#[61, 69, 69]⟩ 1149, .str ⟨#[61, 69, 70]⟩ 1153, .str ⟨#[61, 70, 48]⟩ 1157, .str ⟨#[61, 70, 49]⟩ 1161, .str ⟨#[61, 70, 50]⟩ 1165, .str ⟨#[61, 70, 51]⟩ 1169, .str ⟨#[61, 70, 52]⟩ 1173, .str ⟨#[61, 70, 53]⟩ 1177, .str ⟨#[61, 70, 54]⟩ 1181, .str ⟨#[61, 70, 55]⟩ 1185, .str ⟨#[61, 70, 56]⟩ 1189, .str ⟨#[61, 70, 57]⟩ 1193, .str ⟨#[61, 70, 65]⟩ 1197, .str ⟨#[61, 70, 66]⟩ 1201, .str ⟨#[61, 70, 67]⟩ 1205, .str ⟨#[61, 70, 68]⟩ 1209, .str ⟨#[61, 70, 69]⟩ 1213, .str ⟨#[61, 70, 70]⟩ 1217]
noncomputable def lp12_s1 (w : World) (os : OsState) : SharedT := let P := w.params; ⟨tr_lp12 P (⟨.type "dict", none, .dict ([⟨PyData.keyHash P ⟨#[95, 95, 110, 97, 109, 101, 95, 95]⟩, .str ⟨#[95, 95, 110, 97, 109, 101, 95, 95]⟩ 165, .str ⟨#[99, 112, 121, 51, 49, 51, 46, 101, 109, 97, 105, 108, 46, 113, 117, 111, 112, 114, 105, 109, 105, 109, 101]⟩ 1229⟩, ⟨PyData.keyHash P ⟨#[95, 95, 100, 111, 99, 95, 95]⟩, .str ⟨#[95, 95, 100, 111, 99, 95, 95]⟩ 166, .none⟩, ⟨PyData.keyHash P ⟨#[95, 95, 112, 97, 99, 107, 97, 103, 101, 95, 95]⟩, .str ⟨#[95, 95, 112, 97, 99, 107, 97, 103, 101, 95, 95]⟩ 167, .none⟩, ⟨PyData.keyHash P ⟨#[95, 95, 108, 111, 97, 100, 101, 114, 95, 95]⟩, .str ⟨#[95, 95, 108, 111, 97, 100, 101, 114, 95, 95]⟩ 168, .builtin "__main__.__loader__#opaque"⟩, ⟨PyData.keyHash P ⟨#[95, 95, 115, 112, 101, 99, 95, 95]⟩, .str ⟨#[95, 95, 115, 112, 101, 99, 95, 95]⟩ 169, .none⟩, ⟨PyData.keyHash P ⟨#[95, 95, 97, 110, 110, 111, 116, 97, 116, 105, 111, 110, 115, 95, 95]⟩, .str ⟨#[95, 95, 97, 110, 110, 111, 116, 97, 116, 105, 111, 110, 115, 95, 95]⟩ 170, .ref 6⟩, ⟨PyData.keyHash P ⟨#[95, 95, 98, 117, 105, 108, 116, 105, 110, 115, 95, 95]⟩, .str ⟨#[95, 95, 98, 117, 105, 108, 116, 105, 110, 115, 95, 95]⟩ 171, .ref 4⟩, ⟨PyData.keyHash P ⟨#[95, 95, 102, 105, 108, 101, 95, 95]⟩, .str ⟨#[95, 95, 102, 105, 108, 101, 95, 95]⟩ 173, .str ⟨#[47, 99, 108, 97, 105, 109, 47, 99, 117, 116, 46, 112, 121]⟩ 172⟩, ⟨PyData.keyHash P ⟨#[95, 95, 99, 97, 99, 104, 101, 100, 95, 95]⟩, .str ⟨#[95, 95, 99, 97, 99, 104, 101, 100, 95, 95]⟩ 174, .none⟩, ⟨PyData.keyHash P ⟨#[67, 82, 76, 70]⟩, .str ⟨#[67, 82, 76, 70]⟩ 188, .str ⟨#[13, 10]⟩ 187⟩, ⟨PyData.keyHash P ⟨#[78, 76]⟩, .str ⟨#[78, 76]⟩ 190, .str ⟨#[10]⟩ 189⟩, ⟨PyData.keyHash P ⟨#[95, 81, 85, 79, 80, 82, 73, 95, 77, 65, 80]⟩, .str ⟨#[95, 81, 85, 79, 80, 82, 73, 95, 77, 65, 80]⟩ 1218, .ref 17⟩, ⟨PyData.keyHash P ⟨#[95, 81, 85, 79, 80, 82, 73, 95, 72, 69, 65, 68, 69, 82, 95, 77, 65, 80]⟩, .str ⟨#[95, 81, 85, 79, 80, 82, 73, 95, 72, 69, 65, 68, 69, 82, 95, 77, 65, 80]⟩ 1219, .ref 22⟩, ⟨PyData.keyHash P ⟨#[95, 81, 85, 79, 80, 82, 73, 95, 66, 79, 68, 89, 95, 77, 65, 80]⟩, .str ⟨#[95, 81, 85, 79, 80, 82, 73, 95, 66, 79, 68, 89, 95, 77, 65, 80]⟩ 1220, .ref 24⟩, ⟨PyData.keyHash P ⟨#[97, 115, 99, 105, 105, 95, 108, 111, 119, 101, 114, 99, 97, 115, 101]⟩, .str ⟨#[97, 115, 99, 105, 105, 95, 108, 111, 119, 101, 114, 99, 97, 115, 101]⟩ 1222, .str ⟨#[97, 98, 99, 100, 101, 102, 103, 104, 105, 106, 107, 108, 109, 110, 111, 112, 113, 114, 115, 116, 117, 118, 119, 120, 121, 122]⟩ 1221⟩, ⟨PyData.keyHash P ⟨#[97, 115, 99, 105, 105, 95, 117, 112, 112, 101, 114, 99, 97, 115, 101]⟩, .str ⟨#[97, 115, 99, 105, 105, 95, 117, 112, 112, 101, 114, 99, 97, 115, 101]⟩ 1224, .str ⟨#[65, 66, 67, 68, 69, 70, 71, 72, 73, 74, 75, 76, 77, 78, 79, 80, 81, 82, 83, 84, 85, 86, 87, 88, 89, 90]⟩ 1223⟩, ⟨PyData.keyHash P ⟨#[97, 115, 99, 105, 105, 95, 108, 101, 116, 116, 101, 114, 115]⟩, .str ⟨#[97, 115, 99, 105, 105, 95, 108, 101, 116, 116, 101, 114, 115]⟩ 1226, .str ⟨#[97, 98, 99, 100, 101, 102, 103, 104, 105, 106, 107, 108, 109, 110, 111, 112, 113, 114, 115, 116, 117, 118, 119, 120, 121, 122, 65, 66, 67, 68, 69, 70, 71, 72, 73, 74, 75, 76, 77, 78, 79, 80, 81, 82, 83, 84, 85, 86, 87, 88, 89, 90]⟩ 1225⟩, ⟨PyData.keyHash P ⟨#[100, 105, 103, 105, 116, 115]⟩, .str ⟨#[100, 105, 103, 105, 116, 115]⟩ 1228, .str ⟨#[48, 49, 50, 51, 52, 53, 54, 55, 56, 57]⟩ 1227⟩, ⟨PyData.keyHash P ⟨#[99]⟩, .str ⟨#[99]⟩ 1239, .int 32 1443⟩]).toArray 19, #[]⟩) (⟨.type "list", none, .seq (mixL 1 lp12_r24 lp12_x24 lp12_y24).toArray 0, #[]⟩) (⟨.type "bytes_iterator", none, .fields ([.bytes #[32, 33, 34, 35, 36, 37, 38, 39, 40, 41, 42, 43, 44, 45, 46, 47, 48, 49, 50, 51, 52, 53, 54, 55, 56, 57, 58, 59, 60, 62, 63, 64, 65, 66, 67, 68, 69, 70, 71, 72, 73, 74, 75, 76, 77, 78, 79, 80, 81, 82, 83, 84, 85, 86, 87, 88, 89, 90, 91, 92, 93, 94, 95, 96, 97, 98, 99, 100, 101, 102, 103, 104, 105, 106, 107, 108, 109, 110, 111, 112, 113, 114, 115, 116, 117, 118, 119, 120, 121, 122, 123, 124, 125, 126, 9] 1442, .int 1 0]).toArray, #[]⟩), 29, life0, Array.mk [], boot_drawn, 1446, os⟩
noncomputable def lp12_sts : List Stmt := [stm 12]
noncomputable def lp12_T : Thread := match PySem.W.Fast.tw10295753902157049106 PySem.W.Fast.tw14364793385576792824 PR (aWorld 1) 11 ann0 1 55 (s11 (aWorld 1) {}) ⟨(PySem.W.Fast.tw12563942051412417395 lp12_sts env0).wrap doneF deadEnd id id, cE, ⟨13, 0, 13, 28⟩, B0⟩ with | some r => r.2 | none => ⟨.raise .none, cE, default, []⟩
theorem lp12_start_f (w : World) (os : OsState) : PySem.W.Fast.tw10295753902157049106 PySem.W.Fast.tw14364793385576792824 PR (w.withFollow "special-get-raises" false) 11 ann0 1 55 (s11 (w.withFollow "special-get-raises" false) os) ⟨(PySem.W.Fast.tw12563942051412417395 lp12_sts env0).wrap doneF deadEnd id id, cE, ⟨13, 0, 13, 28⟩, B0⟩ = some (lp12_s1 (w.withFollow "special-get-raises" false) os, lp12_T) := by kernel_rfl
theorem lp12_start_t (w : World) (os : OsState) : PySem.W.Fast.tw10295753902157049106 PySem.W.Fast.tw14364793385576792824 PR (w.withFollow "special-get-raises" true) 11 ann0 1 55 (s11 (w.withFollow "special-get-raises" true) os) ⟨(PySem.W.Fast.tw12563942051412417395 lp12_sts env0).wrap doneF deadEnd id id, cE, ⟨13, 0, 13, 28⟩, B0⟩ = some (lp12_s1 (w.withFollow "special-get-raises" true) os, lp12_T) := by kernel_rfl
noncomputable def lp12_s9 (w : World) (os : OsState) : SharedT := let P := w.params; ⟨tr_lp12 P (⟨.type "dict", none, .dict ([⟨PyData.keyHash P ⟨#[95, 95, 110, 97, 109, 101, 95, 95]⟩, .str ⟨#[95, 95, 110, 97, 109, 101, 95, 95]⟩ 165, .str ⟨#[99, 112, 121, 51, 49, 51, 46, 101, 109, 97, 105, 108, 46, 113, 117, 111, 112, 114, 105, 109, 105, 109, 101]⟩ 1229⟩, ⟨PyData.keyHash P ⟨#[95, 95, 100, 111, 99, 95, 95]⟩, .str ⟨#[95, 95, 100, 111, 99, 95, 95]⟩ 166, .none⟩, ⟨PyData.keyHash P ⟨#[95, 95, 112, 97, 99, 107, 97, 103, 101, 95, 95]⟩, .str ⟨#[95, 95, 112, 97, 99, 107, 97, 103, 101, 95, 95]⟩ 167, .none⟩, ⟨PyData.keyHash P ⟨#[95, 95, 108, 111, 97, 100, 101, 114, 95, 95]⟩, .str ⟨#[95, 95, 108, 111, 97, 100, 101, 114, 95, 95]⟩ 168, .builtin "__main__.__loader__#opaque"⟩, ⟨PyData.keyHash P ⟨#[95, 95, 115, 112, 101, 99, 95, 95]⟩, .str ⟨#[95, 95, 115, 112, 101, 99, 95, 95]⟩ 169, .none⟩, ⟨PyData.keyHash P ⟨#[95, 95, 97, 110, 110, 111, 116, 97, 116, 105, 111, 110, 115, 95, 95]⟩, .str ⟨#[95, 95, 97, 110, 110, 111, 116, 97, 116, 105, 111, 110, 115, 95, 95]⟩ 170, .ref 6⟩, ⟨PyData.keyHash P ⟨#[95, 95, 98, 117, 105, 108, 116, 105, 110, 115, 95, 95]⟩, .str ⟨#[95, 95, 98, 117, 105, 108, 116, 105, 110, 115, 95, 95]⟩ 171, .ref 4⟩, ⟨PyData.keyHash P ⟨#[95, 95, 102, 105, 108, 101, 95, 95]⟩, .str ⟨#[95, 95, 102, 105, 108, 101, 95, 95]⟩ 173, .str ⟨#[47, 99, 108, 97, 105, 109, 47, 99, 117, 116, 46, 112, 121]⟩ 172⟩, ⟨PyData.keyHash P ⟨#[95, 95, 99, 97, 99, 104, 101, 100, 95, 95]⟩, .str ⟨#[95, 95, 99, 97, 99, 104, 101, 100, 95, 95]⟩ 174, .none⟩, ⟨PyData.keyHash P ⟨#[67, 82, 76, 70]⟩, .str ⟨#[67, 82, 76, 70]⟩ 188, .str ⟨#[13, 10]⟩ 187⟩, ⟨PyData.keyHash P ⟨#[78, 76]⟩, .str ⟨#[78, 76]⟩ 190, .str ⟨#[10]⟩ 189⟩, ⟨PyData.keyHash P ⟨#[95, 81, 85, 79, 80, 82, 73, 95, 77, 65, 80]⟩, .str ⟨#[95, 81, 85, 79, 80, 82, 73, 95, 77, 65, 80]⟩ 1218, .ref 17⟩, ⟨PyData.keyHash P ⟨#[95, 81, 85, 79, 80, 82, 73, 95, 72, 69, 65, 68, 69, 82, 95, 77, 65, 80]⟩, .str ⟨#[95, 81, 85, 79, 80, 82, 73, 95, 72, 69, 65, 68, 69, 82, 95, 77, 65, 80]⟩ 1219, .ref 22⟩, ⟨PyData.keyHash P ⟨#[95, 81, 85, 79, 80, 82, 73, 95, 66, 79, 68, 89, 95, 77, 65, 80]⟩, .str ⟨#[95, 81, 85, 79, 80, 82, 73, 95, 66, 79, 68, 89, 95, 77, 65, 80]⟩ 1220, .ref 24⟩, ⟨PyData.keyHash P ⟨#[97, 115, 99, 105, 105, 95, 108, 111, 119, 101, 114, 99, 97, 115, 101]⟩, .str ⟨#[97, 115, 99, 105, 105, 95, 108, 111, 119, 101, 114, 99, 97, 115, 101]⟩ 1222, .str ⟨#[97, 98, 99, 100, 101, 102, 103, 104, 105, 106, 107, 108, 109, 110, 111, 112, 113, 114, 115, 116, 117, 118, 119, 120, 121, 122]⟩ 1221⟩, ⟨PyData.keyHash P ⟨#[97, 115, 99, 105, 105, 95, 117, 112, 112, 101, 114, 99, 97, 115, 101]⟩, .str ⟨#[97, 115, 99, 105, 105, 95, 117, 112, 112, 101, 114, 99, 97, 115, 101]⟩ 1224, .str ⟨#[65, 66, 67, 68, 69, 70, 71, 72, 73, 74, 75, 76, 77, 78, 79, 80, 81, 82, 83, 84, 85, 86, 87, 88, 89, 90]⟩ 1223⟩, ⟨PyData.keyHash P ⟨#[97, 115, 99, 105, 105, 95, 108, 101, 116, 116, 101, 114, 115]⟩, .str ⟨#[97, 115, 99, 105, 105, 95, 108, 101, 116, 116, 101, 114, 115]⟩ 1226, .str ⟨#[97, 98, 99, 100, 101, 102, 103, 104, 105, 106, 107, 108, 109, 110, 111, 112, 113, 114, 115, 116, 117, 118, 119, 120, 121, 122, 65, 66, 67, 68, 69, 70, 71, 72, 73, 74, 75, 76, 77, 78, 79, 80, 81, 82, 83, 84, 85, 86, 87, 88, 89, 90]⟩ 1225⟩, ⟨PyData.keyHash P ⟨#[100, 105, 103, 105, 116, 115]⟩, .str ⟨#[100, 105, 103, 105, 116, 115]⟩ 1228, .str ⟨#[48, 49, 50, 51, 52, 53, 54, 55, 56, 57]⟩ 1227⟩, ⟨PyData.keyHash P ⟨#[99]⟩, .str ⟨#[99]⟩ 1239, .int 40 1467⟩]).toArray 19, #[]⟩) (⟨.type "list", none, .seq (mixL 9 lp12_r24 lp12_x24 lp12_y24).toArray 0, #[]⟩) (⟨.type "bytes_iterator", none, .fields ([.bytes #[32, 33, 34, 35, 36, 37, 38, 39, 40, 41, 42, 43, 44, 45, 46, 47, 48, 49, 50, 51, 52, 53, 54, 55, 56, 57, 58, 59, 60, 62, 63, 64, 65, 66, 67, 68, 69, 70, 71, 72, 73, 74, 75, 76, 77, 78, 79, 80, 81, 82, 83, 84, 85, 86, 87, 88, 89, 90, 91, 92, 93, 94, 95, 96, 97, 98, 99, 100, 101, 102, 103, 104, 105, 106, 107, 108, 109, 110, 111, 112, 113, 114, 115, 116, 117, 118, 119, 120, 121, 122, 123, 124, 125, 126, 9] 1442, .int 9 0]).toArray, #[]⟩), 29, life0, Array.mk [], boot_drawn, 1470, os⟩
theorem lp12_go1 (w : World) (os : OsState) : PySem.W.Fast.tw10295753902157049106 PySem.W.Fast.tw14364793385576792824 PR w 11 ann0 1 360 (lp12_s1 w os) lp12_T = some (lp12_s9 w os, lp12_T) := by kernel_rfl
noncomputable def lp12_s17 (w : World) (os : OsState) : SharedT := let P := w.params; ⟨tr_lp12 P (⟨.type "dict", none, .dict ([⟨PyData.keyHash P ⟨#[95, 95, 110, 97, 109, 101, 95, 95]⟩, .str ⟨#[95, 95, 110, 97, 109, 101, 95, 95]⟩ 165, .str ⟨#[99, 112, 121, 51, 49, 51, 46, 101, 109, 97, 105, 108, 46, 113, 117, 111, 112, 114, 105, 109, 105, 109, 101]⟩ 1229⟩, ⟨PyData.keyHash P ⟨#[95, 95, 100, 111, 99, 95, 95]⟩, .str ⟨#[95, 95, 100, 111, 99, 95, 95]⟩ 166, .none⟩, ⟨PyData.keyHash P ⟨#[95, 95, 112, 97, 99, 107, 97, 103, 101, 95, 95]⟩, .str ⟨#[95, 95, 112, 97, 99, 107, 97, 103, 101, 95, 95]⟩ 167, .none⟩, ⟨PyData.keyHash P ⟨#[95, 95, 108, 111, 97, 100, 101, 114, 95, 95]⟩, .str ⟨#[95, 95, 108, 111, 97, 100, 101, 114, 95, 95]⟩ 168, .builtin "__main__.__loader__#opaque"⟩, ⟨PyData.keyHash P ⟨#[95, 95, 115, 112, 101, 99, 95, 95]⟩, .str ⟨#[95, 95, 115, 112, 101, 99, 95, 95]⟩ 169, .none⟩, ⟨PyData.keyHash P ⟨#[95, 95, 97, 110, 110, 111, 116, 97, 116, 105, 111, 110, 115, 95, 95]⟩, .str ⟨#[95, 95, 97, 110, 110, 111, 116, 97, 116, 105, 111, 110, 115, 95, 95]⟩ 170, .ref 6⟩, ⟨PyData.keyHash P ⟨#[95, 95, 98, 117, 105, 108, 116, 105, 110, 115, 95, 95]⟩, .str ⟨#[95, 95, 98, 117, 105, 108, 116, 105, 110, 115, 95, 95]⟩ 171, .ref 4⟩, ⟨PyData.keyHash P ⟨#[95, 95, 102, 105, 108, 101, 95, 95]⟩, .str ⟨#[95, 95, 102, 105, 108, 101, 95, 95]⟩ 173, .str ⟨#[47, 99, 108, 97, 105, 109, 47, 99, 117, 116, 46, 112, 121]⟩ 172⟩, ⟨PyData.keyHash P ⟨#[95, 95, 99, 97, 99, 104, 101, 100, 95, 95]⟩, .str ⟨#[95, 95, 99, 97, 99, 104, 101, 100, 95, 95]⟩ 174, .none⟩, ⟨PyData.keyHash P ⟨#[67, 82, 76, 70]⟩, .str ⟨#[67, 82, 76, 70]⟩ 188, .str ⟨#[13, 10]⟩ 187⟩, ⟨PyData.keyHash P ⟨#[78, 76]⟩, .str ⟨#[78, 76]⟩ 190, .str ⟨#[10]⟩ 189⟩, ⟨PyData.keyHash P ⟨#[95, 81, 85, 79, 80, 82, 73, 95, 77, 65, 80]⟩, .str ⟨#[95, 81, 85, 79, 80, 82, 73, 95, 77, 65, 80]⟩ 1218, .ref 17⟩, ⟨PyData.keyHash P ⟨#[95, 81, 85, 79, 80, 82, 73, 95, 72, 69, 65, 68, 69, 82, 95, 77, 65, 80]⟩, .str ⟨#[95, 81, 85, 79, 80, 82, 73, 95, 72, 69, 65, 68, 69, 82, 95, 77, 65, 80]⟩ 1219, .ref 22⟩, ⟨PyData.keyHash P ⟨#[95, 81, 85, 79, 80, 82, 73, 95, 66, 79, 68, 89, 95, 77, 65, 80]⟩, .str ⟨#[95, 81, 85, 79, 80, 82, 73, 95, 66, 79, 68, 89, 95, 77, 65, 80]⟩ 1220, .ref 24⟩, ⟨PyData.keyHash P ⟨#[97, 115, 99, 105, 105, 95, 108, 111, 119, 101, 114, 99, 97, 115, 101]⟩, .str ⟨#[97, 115, 99, 105, 105, 95, 108, 111, 119, 101, 114, 99, 97, 115, 101]⟩ 1222, .str ⟨#[97, 98, 99, 100, 101, 102, 103, 104, 105, 106, 107, 108, 109, 110, 111, 112, 113, 114, 115, 116, 117, 118, 119, 120, 121, 122]⟩ 1221⟩, ⟨PyData.keyHash P ⟨#[97, 115, 99, 105, 105, 95, 117, 112, 112, 101, 114, 99, 97, 115, 101]⟩, .str ⟨#[97, 115, 99, 105, 105, 95, 117, 112, 112, 101, 114, 99, 97, 115, 101]⟩ 1224, .str ⟨#[65, 66, 67, 68, 69, 70, 71, 72, 73, 74, 75, 76, 77, 78, 79, 80, 81, 82, 83, 84, 85, 86, 87, 88, 89, 90]⟩ 1223⟩, ⟨PyData.keyHash P ⟨#[97, 115, 99, 105, 105, 95, 108, 101, 116, 116, 101, 114, 115]⟩, .str ⟨#[97, 115, 99, 105, 105, 95, 108, 101, 116, 116, 101, 114, 115]⟩ 1226, .str ⟨#[97, 98, 99, 100, 101, 102, 103, 104, 105, 106, 107, 108, 109, 110, 111, 112, 113, 114, 115, 116, 117, 118, 119, 120, 121, 122, 65, 66, 67, 68, 69, 70, 71, 72, 73, 74, 75, 76, 77, 78, 79, 80, 81, 82, 83, 84, 85, 86, 87, 88, 89, 90]⟩ 1225⟩, ⟨PyData.keyHash P ⟨#[100, 105, 103, 105, 116, 115]⟩, .str ⟨#[100, 105, 103, 105, 116, 115]⟩ 1228, .str ⟨#[48, 49, 50, 51, 52, 53, 54, 55, 56, 57]⟩ 1227⟩, ⟨PyData.keyHash P ⟨#[99]⟩, .str ⟨#[99]⟩ 1239, .int 48 1491⟩]).toArray 19, #[]⟩) (⟨.type "list", none, .seq (mixL 17 lp12_r24 lp12_x24 lp12_y24).toArray 0, #[]⟩) (⟨.type "bytes_iterator", none, .fields ([.bytes #[32, 33, 34, 35, 36, 37, 38, 39, 40, 41, 42, 43, 44, 45, 46, 47, 48, 49, 50, 51, 52, 53, 54, 55, 56, 57, 58, 59, 60, 62, 63, 64, 65, 66, 67, 68, 69, 70, 71, 72, 73, 74, 75, 76, 77, 78, 79, 80, 81, 82, 83, 84, 85, 86, 87, 88, 89, 90, 91, 92, 93, 94, 95, 96, 97, 98, 99, 100, 101, 102, 103, 104, 105, 106, 107, 108, 109, 110, 111, 112, 113, 114, 115, 116, 117, 118, 119, 120, 121, 122, 123, 124, 125, 126, 9] 1442, .int 17 0]).toArray, #[]⟩), 29, life0, Array.mk [], boot_drawn, 1494, os⟩
theorem lp12_go9 (w : World) (os : OsState) : PySem.W.Fast.tw10295753902157049106 PySem.W.Fast.tw14364793385576792824 PR w 11 ann0 1 360 (lp12_s9 w os) lp12_T = some (lp12_s17 w os, lp12_T) := by kernel_rfl
noncomputable def lp12_s25 (w : World) (os : OsState) : SharedT := let P := w.params; ⟨tr_lp12 P (⟨.type "dict", none, .dict ([⟨PyData.keyHash P ⟨#[95, 95, 110, 97, 109, 101, 95, 95]⟩, .str ⟨#[95, 95, 110, 97, 109, 101, 95, 95]⟩ 165, .str ⟨#[99, 112, 121, 51, 49, 51, 46, 101, 109, 97, 105, 108, 46, 113, 117, 111, 112, 114, 105, 109, 105, 109, 101]⟩ 1229⟩, ⟨PyData.keyHash P ⟨#[95, 95, 100, 111, 99, 95, 95]⟩, .str ⟨#[95, 95, 100, 111, 99, 95, 95]⟩ 166, .none⟩, ⟨PyData.keyHash P ⟨#[95, 95, 112, 97, 99, 107, 97, 103, 101, 95, 95]⟩, .str ⟨#[95, 95, 112, 97, 99, 107, 97, 103, 101, 95, 95]⟩ 167, .none⟩, ⟨PyData.keyHash P ⟨#[95, 95, 108, 111, 97, 100, 101, 114, 95, 95]⟩, .str ⟨#[95, 95, 108, 111, 97, 100, 101, 114, 95, 95]⟩ 168, .builtin "__main__.__loader__#opaque"⟩, ⟨PyData.keyHash P ⟨#[95, 95, 115, 112, 101, 99, 95, 95]⟩, .str ⟨#[95, 95, 115, 112, 101, 99, 95, 95]⟩ 169, .none⟩, ⟨PyData.keyHash P ⟨#[95, 95, 97, 110, 110, 111, 116, 97, 116, 105, 111, 110, 115, 95, 95]⟩, .str ⟨#[95, 95, 97, 110, 110, 111, 116, 97, 116, 105, 111, 110, 115, 95, 95]⟩ 170, .ref 6⟩, ⟨PyData.keyHash P ⟨#[95, 95, 98, 117, 105, 108, 116, 105, 110, 115, 95, 95]⟩, .str ⟨#[95, 95, 98, 117, 105, 108, 116, 105, 110, 115, 95, 95]⟩ 171, .ref 4⟩, ⟨PyData.keyHash P ⟨#[95, 95, 102, 105, 108, 101, 95, 95]⟩, .str ⟨#[95, 95, 102, 105, 108, 101, 95, 95]⟩ 173, .str ⟨#[47, 99, 108, 97, 105, 109, 47, 99, 117, 116, 46, 112, 121]⟩ 172⟩, ⟨PyData.keyHash P ⟨#[95, 95, 99, 97, 99, 104, 101, 100, 95, 95]⟩, .str ⟨#[95, 95, 99, 97, 99, 104, 101, 100, 95, 95]⟩ 174, .none⟩, ⟨PyData.keyHash P ⟨#[67, 82, 76, 70]⟩, .str ⟨#[67, 82, 76, 70]⟩ 188, .str ⟨#[13, 10]⟩ 187⟩, ⟨PyData.keyHash P ⟨#[78, 76]⟩, .str ⟨#[78, 76]⟩ 190, .str ⟨#[10]⟩ 189⟩, ⟨PyData.keyHash P ⟨#[95, 81, 85, 79, 80, 82, 73, 95, 77, 65, 80]⟩, .str ⟨#[95, 81, 85, 79, 80, 82, 73, 95, 77, 65, 80]⟩ 1218, .ref 17⟩, ⟨PyData.keyHash P ⟨#[95, 81, 85, 79, 80, 82, 73, 95, 72, 69, 65, 68, 69, 82, 95, 77, 65, 80]⟩, .str ⟨#[95, 81, 85, 79, 80, 82, 73, 95, 72, 69, 65, 68, 69, 82, 95, 77, 65, 80]⟩ 1219, .ref 22⟩, ⟨PyData.keyHash P ⟨#[95, 81, 85, 79, 80, 82, 73, 95, 66, 79, 68, 89, 95, 77, 65, 80]⟩, .str ⟨#[95, 81, 85, 79, 80, 82, 73, 95, 66, 79, 68, 89, 95, 77, 65, 80]⟩ 1220, .ref 24⟩, ⟨PyData.keyHash P ⟨#[97, 115, 99, 105, 105, 95, 108, 111, 119, 101, 114, 99, 97, 115, 101]⟩, .str ⟨#[97, 115, 99, 105, 105, 95, 108, 111, 119, 101, 114, 99, 97, 115, 101]⟩ 1222, .str ⟨#[97, 98, 99, 100, 101, 102, 103, 104, 105, 106, 107, 108, 109, 110, 111, 112, 113, 114, 115, 116, 117, 118, 119, 120, 121, 122]⟩ 1221⟩, ⟨PyData.keyHash P ⟨#[97, 115, 99, 105, 105, 95, 117, 112, 112, 101, 114, 99, 97, 115, 101]⟩, .str ⟨#[97, 115, 99, 105, 105, 95, 117, 112, 112, 101, 114, 99, 97, 115, 101]⟩ 1224, .str ⟨#[65, 66, 67, 68, 69, 70, 71, 72, 73, 74, 75, 76, 77, 78, 79, 80, 81, 82, 83, 84, 85, 86, 87, 88, 89, 90]⟩ 1223⟩, ⟨PyData.keyHash P ⟨#[97, 115, 99, 105, 105, 95, 108, 101, 116, 116, 101, 114, 115]⟩, .str ⟨#[97, 115, 99, 105, 105, 95, 108, 101, 116, 116, 101, 114, 115]⟩ 1226, .str ⟨#[97, 98, 99, 100, 101, 102, 103, 104, 105, 106, 107, 108, 109, 110, 111, 112, 113, 114, 115, 116, 117, 118, 119, 120, 121, 122, 65, 66, 67, 68, 69, 70, 71, 72, 73, 74, 75, 76, 77, 78, 79, 80, 81, 82, 83, 84, 85, 86, 87, 88, 89, 90]⟩ 1225⟩, ⟨PyData.keyHash P ⟨#[100, 105, 103, 105, 116, 115]⟩, .str ⟨#[100, 105, 103, 105, 116, 115]⟩ 1228, .str ⟨#[48, 49, 50, 51, 52, 53, 54, 55, 56, 57]⟩ 1227⟩, ⟨PyData.keyHash P ⟨#[99]⟩, .str ⟨#[99]⟩ 1239, .int 56 1515⟩]).toArray 19, #[]⟩) (⟨.type "list", none, .seq (mixL 25 lp12_r24 lp12_x24 lp12_y24).toArray 0, #[]⟩) (⟨.type "bytes_iterator", none, .fields ([.bytes #[32, 33, 34, 35, 36, 37, 38, 39, 40, 41, 42, 43, 44, 45, 46, 47, 48, 49, 50, 51, 52, 53, 54, 55, 56, 57, 58, 59, 60, 62, 63, 64, 65, 66, 67, 68, 69, 70, 71, 72, 73, 74, 75, 76, 77, 78, 79, 80, 81, 82, 83, 84, 85, 86, 87, 88, 89, 90, 91, 92, 93, 94, 95, 96, 97, 98, 99, 100, 101, 102, 103, 104, 105, 106, 107, 108, 109, 110, 111, 112, 113, 114, 115, 116, 117, 118, 119, 120, 121, 122, 123, 124, 125, 126, 9] 1442, .int 25 0]).toArray, #[]⟩), 29, life0, Array.mk [], boot_drawn, 1518, os⟩
theorem lp12_go17 (w : World) (os : OsState) : PySem.W.Fast.tw10295753902157049106 PySem.W.Fast.tw14364793385576792824 PR w 11 ann0 1 360 (lp12_s17 w os) lp12_T = some (lp12_s25 w os, lp12_T) := by kernel_rfl
noncomputable def lp12_s33 (w : World) (os : OsState) : SharedT := let P := w.params; ⟨tr_lp12 P (⟨.type "dict", none, .dict ([⟨PyData.keyHash P ⟨#[95, 95, 110, 97, 109, 101, 95, 95]⟩, .str ⟨#[95, 95, 110, 97, 109, 101, 95, 95]⟩ 165, .str ⟨#[99, 112, 121, 51, 49, 51, 46, 101, 109, 97, 105, 108, 46, 113, 117, 111, 112, 114, 105, 109, 105, 109, 101]⟩ 1229⟩, ⟨PyData.keyHash P ⟨#[95, 95, 100, 111, 99, 95, 95]⟩, .str ⟨#[95, 95, 100, 111, 99, 95, 95]⟩ 166, .none⟩, ⟨PyData.keyHash P ⟨#[95, 95, 112, 97, 99, 107, 97, 103, 101, 95, 95]⟩, .str ⟨#[95, 95, 112, 97, 99, 107, 97, 103, 101, 95, 95]⟩ 167, .none⟩, ⟨PyData.keyHash P ⟨#[95, 95, 108, 111, 97, 100, 101, 114, 95, 95]⟩, .str ⟨#[95, 95, 108, 111, 97, 100, 101, 114, 95, 95]⟩ 168, .builtin "__main__.__loader__#opaque"⟩, ⟨PyData.keyHash P ⟨#[95, 95, 115, 112, 101, 99, 95, 95]⟩, .str ⟨#[95, 95, 115, 112, 101, 99, 95, 95]⟩ 169, .none⟩, ⟨PyData.keyHash P ⟨#[95, 95, 97, 110, 110, 111, 116, 97, 116, 105, 111, 110, 115, 95, 95]⟩, .str ⟨#[95, 95, 97, 110, 110, 111, 116, 97, 116, 105, 111, 110, 115, 95, 95]⟩ 170, .ref 6⟩, ⟨PyData.keyHash P ⟨#[95, 95, 98, 117, 105, 108, 116, 105, 110, 115, 95, 95]⟩, .str ⟨#[95, 95, 98, 117, 105, 108, 116, 105, 110, 115, 95, 95]⟩ 171, .ref 4⟩, ⟨PyData.keyHash P ⟨#[95, 95, 102, 105, 108, 101, 95, 95]⟩, .str ⟨#[95, 95, 102, 105, 108, 101, 95, 95]⟩ 173, .str ⟨#[47, 99, 108, 97, 105, 109, 47, 99, 117, 116, 46, 112, 121]⟩ 172⟩, ⟨PyData.keyHash P ⟨#[95, 95, 99, 97, 99, 104, 101, 100, 95, 95]⟩, .str ⟨#[95, 95, 99, 97, 99, 104, 101, 100, 95, 95]⟩ 174, .none⟩, ⟨PyData.keyHash P ⟨#[67, 82, 76, 70]⟩, .str ⟨#[67, 82, 76, 70]⟩ 188, .str ⟨#[13, 10]⟩ 187⟩, ⟨PyData.keyHash P ⟨#[78, 76]⟩, .str ⟨#[78, 76]⟩ 190, .str ⟨#[10]⟩ 189⟩, ⟨PyData.keyHash P ⟨#[95, 81, 85, 79, 80, 82, 73, 95, 77, 65, 80]⟩, .str ⟨#[95, 81, 85, 79, 80, 82, 73, 95, 77, 65, 80]⟩ 1218, .ref 17⟩, ⟨PyData.keyHash P ⟨#[95, 81, 85, 79, 80, 82, 73, 95, 72, 69, 65, 68, 69, 82, 95, 77, 65, 80]⟩, .str ⟨#[95, 81, 85, 79, 80, 82, 73, 95, 72, 69, 65, 68, 69, 82, 95, 77, 65, 80]⟩ 1219, .ref 22⟩, ⟨PyData.keyHash P ⟨#[95, 81, 85, 79, 80, 82, 73, 95, 66, 79, 68, 89, 95, 77, 65, 80]⟩, .str ⟨#[95, 81, 85, 79, 80, 82, 73, 95, 66, 79, 68, 89, 95, 77, 65, 80]⟩ 1220, .ref 24⟩, ⟨PyData.keyHash P ⟨#[97, 115, 99, 105, 105, 95, 108, 111, 119, 101, 114, 99, 97, 115, 101]⟩, .str ⟨#[97, 115, 99, 105, 105, 95, 108, 111, 119, 101, 114, 99, 97, 115, 101]⟩ 1222, .str ⟨#[97, 98, 99, 100, 101, 102, 103, 104, 105, 106, 107, 108, 109, 110, 111, 112, 113, 114, 115, 116, 117, 118, 119, 120, 121, 122]⟩ 1221⟩, ⟨PyData.keyHash P ⟨#[97, 115, 99, 105, 105, 95, 117, 112, 112, 101, 114, 99, 97, 115, 101]⟩, .str ⟨#[97, 115, 99, 105, 105, 95, 117, 112, 112, 101, 114, 99, 97, 115, 101]⟩ 1224, .str ⟨#[65, 66, 67, 68, 69, 70, 71, 72, 73, 74, 75, 76, 77, 78, 79, 80, 81, 82, 83, 84, 85, 86, 87, 88, 89, 90]⟩ 1223⟩, ⟨PyData.keyHash P ⟨#[97, 115, 99, 105, 105, 95, 108, 101, 116, 116, 101, 114, 115]⟩, .str ⟨#[97, 115, 99, 105, 105, 95, 108, 101, 116, 116, 101, 114, 115]⟩ 1226, .str ⟨#[97, 98, 99, 100, 101, 102, 103, 104, 105, 106, 107, 108, 109, 110, 111, 112, 113, 114, 115, 116, 117, 118, 119, 120, 121, 122, 65, 66, 67, 68, 69, 70, 71, 72, 73, 74, 75, 76, 77, 78, 79, 80, 81, 82, 83, 84, 85, 86, 87, 88, 89, 90]⟩ 1225⟩, ⟨PyData.keyHash P ⟨#[100, 105, 103, 105, 116, 115]⟩, .str ⟨#[100, 105, 103, 105, 116, 115]⟩ 1228, .str ⟨#[48, 49, 50, 51, 52, 53, 54, 55, 56, 57]⟩ 1227⟩, ⟨PyData.keyHash P ⟨#[99]⟩, .str ⟨#[99]⟩ 1239, .int 65 1539⟩]).toArray 19, #[]⟩) (⟨.type "list", none, .seq (mixL 33 lp12_r24 lp12_x24 lp12_y24).toArray 0, #[]⟩) (⟨.type "bytes_iterator", none, .fields ([.bytes #[32, 33, 34, 35, 36, 37, 38, 39, 40, 41, 42, 43, 44, 45, 46, 47, 48, 49, 50, 51, 52, 53, 54, 55, 56, 57, 58, 59, 60, 62, 63, 64, 65, 66, 67, 68, 69, 70, 71, 72, 73, 74, 75, 76, 77, 78, 79, 80, 81, 82, 83, 84, 85, 86, 87, 88, 89, 90, 91, 92, 93, 94, 95, 96, 97, 98, 99, 100, 101, 102, 103, 104, 105, 106, 107, 108, 109, 110, 111, 112, 113, 114, 115, 116, 117, 118, 119, 120, 121, 122, 123, 124, 125, 126, 9] 1442, .int 33 0]).toArray, #[]⟩), 29, life0, Array.mk [], boot_drawn, 1542, os⟩
theorem lp12_go25 (w : World) (os : OsState) : PySem.W.Fast.tw10295753902157049106 PySem.W.Fast.tw14364793385576792824 PR w 11 ann0 1 360 (lp12_s25 w os) lp12_T = some (lp12_s33 w os, lp12_T) := by kernel_rfl
noncomputable def lp12_s41 (w : World) (os : OsState) : SharedT := let P := w.params; ⟨tr_lp12 P (⟨.type "dict", none, .dict ([⟨PyData.keyHash P ⟨#[95, 95, 110, 97, 109, 101, 95, 95]⟩, .str ⟨#[95, 95, 110, 97, 109, 101, 95, 95]⟩ 165, .str ⟨#[99, 112, 121, 51, 49, 51, 46, 101, 109, 97, 105, 108, 46, 113, 117, 111, 112, 114, 105, 109, 105, 109, 101]⟩ 1229⟩, ⟨PyData.keyHash P ⟨#[95, 95, 100, 111, 99, 95, 95]⟩, .str ⟨#[95, 95, 100, 111, 99, 95, 95]⟩ 166, .none⟩, ⟨PyData.keyHash P ⟨#[95, 95, 112, 97, 99, 107, 97, 103, 101, 95, 95]⟩, .str ⟨#[95, 95, 112, 97, 99, 107, 97, 103, 101, 95, 95]⟩ 167, .none⟩, ⟨PyData.keyHash P ⟨#[95, 95, 108, 111, 97, 100, 101, 114, 95, 95]⟩, .str ⟨#[95, 95, 108, 111, 97, 100, 101, 114, 95, 95]⟩ 168, .builtin "__main__.__loader__#opaque"⟩, ⟨PyData.keyHash P ⟨#[95, 95, 115, 112, 101, 99, 95, 95]⟩, .str ⟨#[95, 95, 115, 112, 101, 99, 95, 95]⟩ 169, .none⟩, ⟨PyData.keyHash P ⟨#[95, 95, 97, 110, 110, 111, 116, 97, 116, 105, 111, 110, 115, 95, 95]⟩, .str ⟨#[95, 95, 97, 110, 110, 111, 116, 97, 116, 105, 111, 110, 115, 95, 95]⟩ 170, .ref 6⟩, ⟨PyData.keyHash P ⟨#[95, 95, 98, 117, 105, 108, 116, 105, 110, 115, 95, 95]⟩, .str ⟨#[95, 95, 98, 117, 105, 108, 116, 105, 110, 115, 95, 95]⟩ 171, .ref 4⟩, ⟨PyData.keyHash P ⟨#[95, 95, 102, 105, 108, 101, 95, 95]⟩, .str ⟨#[95, 95, 102, 105, 108, 101, 95, 95]⟩ 173, .str ⟨#[47, 99, 108, 97, 105, 109, 47, 99, 117, 116, 46, 112, 121]⟩ 172⟩, ⟨PyData.keyHash P ⟨#[95, 95, 99, 97, 99, 104, 101, 100, 95, 95]⟩, .str ⟨#[95, 95, 99, 97, 99, 104, 101, 100, 95, 95]⟩ 174, .none⟩, ⟨PyData.keyHash P ⟨#[67, 82, 76, 70]⟩, .str ⟨#[67, 82, 76, 70]⟩ 188, .str ⟨#[13, 10]⟩ 187⟩, ⟨PyData.keyHash P ⟨#[78, 76]⟩, .str ⟨#[78, 76]⟩ 190, .str ⟨#[10]⟩ 189⟩, ⟨PyData.keyHash P ⟨#[95, 81, 85, 79, 80, 82, 73, 95, 77, 65, 80]⟩, .str ⟨#[95, 81, 85, 79, 80, 82, 73, 95, 77, 65, 80]⟩ 1218, .ref 17⟩, ⟨PyData.keyHash P ⟨#[95, 81, 85, 79, 80, 82, 73, 95, 72, 69, 65, 68, 69, 82, 95, 77, 65, 80]⟩, .str ⟨#[95, 81, 85, 79, 80, 82, 73, 95, 72, 69, 65, 68, 69, 82, 95, 77, 65, 80]⟩ 1219, .ref 22⟩, ⟨PyData.keyHash P ⟨#[95, 81, 85, 79, 80, 82, 73, 95, 66, 79, 68, 89, 95, 77, 65, 80]⟩, .str ⟨#[95, 81, 85, 79, 80, 82, 73, 95, 66, 79, 68, 89, 95, 77, 65, 80]⟩ 1220, .ref 24⟩, ⟨PyData.keyHash P ⟨#[97, 115, 99, 105, 105, 95, 108, 111, 119, 101, 114, 99, 97, 115, 101]⟩, .str ⟨#[97, 115, 99, 105, 105, 95, 108, 111, 119, 101, 114, 99, 97, 115, 101]⟩ 1222, .str ⟨#[97, 98, 99, 100, 101, 102, 103, 104, 105, 106, 107, 108, 109, 110, 111, 112, 113, 114, 115, 116, 117, 118, 119, 120, 121, 122]⟩ 1221⟩, ⟨PyData.keyHash P ⟨#[97, 115, 99, 105, 105, 95, 117, 112, 112, 101, 114, 99, 97, 115, 101]⟩, .str ⟨#[97, 115, 99, 105, 105, 95, 117, 112, 112, 101, 114, 99, 97, 115, 101]⟩ 1224, .str ⟨#[65, 66, 67, 68, 69, 70, 71, 72, 73, 74, 75, 76, 77, 78, 79, 80, 81, 82, 83, 84, 85, 86, 87, 88, 89, 90]⟩ 1223⟩, ⟨PyData.keyHash P ⟨#[97, 115, 99, 105, 105, 95, 108, 101, 116, 116, 101, 114, 115]⟩, .str ⟨#[97, 115, 99, 105, 105, 95, 108, 101, 116, 116, 101, 114, 115]⟩ 1226, .str ⟨#[97, 98, 99, 100, 101, 102, 103, 104, 105, 106, 107, 108, 109, 110, 111, 112, 113, 114, 115, 116, 117, 118, 119, 120, 121, 122, 65, 66, 67, 68, 69, 70, 71, 72, 73, 74, 75, 76, 77, 78, 79, 80, 81, 82, 83, 84, 85, 86, 87, 88, 89, 90]⟩ 1225⟩, ⟨PyData.keyHash P ⟨#[100, 105, 103, 105, 116, 115]⟩, .str ⟨#[100, 105, 103, 105, 116, 115]⟩ 1228, .str ⟨#[48, 49, 50, 51, 52, 53, 54, 55, 56, 57]⟩ 1227⟩, ⟨PyData.keyHash P ⟨#[99]⟩, .str ⟨#[99]⟩ 1239, .int 73 1563⟩]).toArray 19, #[]⟩) (⟨.type "list", none, .seq (mixL 41 lp12_r24 lp12_x24 lp12_y24).toArray 0, #[]⟩) (⟨.type "bytes_iterator", none, .fields ([.bytes #[32, 33, 34, 35, 36, 37, 38, 39, 40, 41, 42, 43, 44, 45, 46, 47, 48, 49, 50, 51, 52, 53, 54, 55, 56, 57, 58, 59, 60, 62, 63, 64, 65, 66, 67, 68, 69, 70, 71, 72, 73, 74, 75, 76, 77, 78, 79, 80, 81, 82, 83, 84, 85, 86, 87, 88, 89, 90, 91, 92, 93, 94, 95, 96, 97, 98, 99, 100, 101, 102, 103, 104, 105, 106, 107, 108, 109, 110, 111, 112, 113, 114, 115, 116, 117, 118, 119, 120, 121, 122, 123, 124, 125, 126, 9] 1442, .int 41 0]).toArray, #[]⟩), 29, life0, Array.mk [], boot_drawn, 1566, os⟩
theorem lp12_go33 (w : World) (os : OsState) : PySem.W.Fast.tw10295753902157049106 PySem.W.Fast.tw14364793385576792824 PR w 11 ann0 1 360 (lp12_s33 w os) lp12_T = some (lp12_s41 w os, lp12_T) := by kernel_rfl
noncomputable def lp12_s49 (w : World) (os : OsState) : SharedT := let P := w.params; ⟨tr_lp12 P (⟨.type "dict", none, .dict ([⟨PyData.keyHash P ⟨#[95, 95, 110, 97, 109, 101, 95, 95]⟩, .str ⟨#[95, 95, 110, 97, 109, 101, 95, 95]⟩ 165, .str ⟨#[99, 112, 121, 51, 49, 51, 46, 101, 109, 97, 105, 108, 46, 113, 117, 111, 112, 114, 105, 109, 105, 109, 101]⟩ 1229⟩, ⟨PyData.keyHash P ⟨#[95, 95, 100, 111, 99, 95, 95]⟩, .str ⟨#[95, 95, 100, 111, 99, 95, 95]⟩ 166, .none⟩, ⟨PyData.keyHash P ⟨#[95, 95, 112, 97, 99, 107, 97, 103, 101, 95, 95]⟩, .str ⟨#[95, 95, 112, 97, 99, 107, 97, 103, 101, 95, 95]⟩ 167, .none⟩, ⟨PyData.keyHash P ⟨#[95, 95, 108, 111, 97, 100, 101, 114, 95, 95]⟩, .str ⟨#[95, 95, 108, 111, 97, 100, 101, 114, 95, 95]⟩ 168, .builtin "__main__.__loader__#opaque"⟩, ⟨PyData.keyHash P ⟨#[95, 95, 115, 112, 101, 99, 95, 95]⟩, .str ⟨#[95, 95, 115, 112, 101, 99, 95, 95]⟩ 169, .none⟩, ⟨PyData.keyHash P ⟨#[95, 95, 97, 110, 110, 111, 116, 97, 116, 105, 111, 110, 115, 95, 95]⟩, .str ⟨#[95, 95, 97, 110, 110, 111, 116, 97, 116, 105, 111, 110, 115, 95, 95]⟩ 170, .ref 6⟩, ⟨PyData.keyHash P ⟨#[95, 95, 98, 117, 105, 108, 116, 105, 110, 115, 95, 95]⟩, .str ⟨#[95, 95, 98, 117, 105, 108, 116, 105, 110, 115, 95, 95]⟩ 171, .ref 4⟩, ⟨PyData.keyHash P ⟨#[95, 95, 102, 105, 108, 101, 95, 95]⟩, .str ⟨#[95, 95, 102, 105, 108, 101, 95, 95]⟩ 173, .str ⟨#[47, 99, 108, 97, 105, 109, 47, 99, 117, 116, 46, 112, 121]⟩ 172⟩, ⟨PyData.keyHash P ⟨#[95, 95, 99, 97, 99, 104, 101, 100, 95, 95]⟩, .str ⟨#[95, 95, 99, 97, 99, 104, 101, 100, 95, 95]⟩ 174, .none⟩, ⟨PyData.keyHash P ⟨#[67, 82, 76, 70]⟩, .str ⟨#[67, 82, 76, 70]⟩ 188, .str ⟨#[13, 10]⟩ 187⟩, ⟨PyData.keyHash P ⟨#[78, 76]⟩, .str ⟨#[78, 76]⟩ 190, .str ⟨#[10]⟩ 189⟩, ⟨PyData.keyHash P ⟨#[95, 81, 85, 79, 80, 82, 73, 95, 77, 65, 80]⟩, .str ⟨#[95, 81, 85, 79, 80, 82, 73, 95, 77, 65, 80]⟩ 1218, .ref 17⟩, ⟨PyData.keyHash P ⟨#[95, 81, 85, 79, 80, 82, 73, 95, 72, 69, 65, 68, 69, 82, 95, 77, 65, 80]⟩, .str ⟨#[95, 81, 85, 79, 80, 82, 73, 95, 72, 69, 65, 68, 69, 82, 95, 77, 65, 80]⟩ 1219, .ref 22⟩, ⟨PyData.keyHash P ⟨#[95, 81, 85, 79, 80, 82, 73, 95, 66, 79, 68, 89, 95, 77, 65, 80]⟩, .str ⟨#[95, 81, 85, 79, 80, 82, 73, 95, 66, 79, 68, 89, 95, 77, 65, 80]⟩ 1220, .ref 24⟩, ⟨PyData.keyHash P ⟨#[97, 115, 99, 105, 105, 95, 108, 111, 119, 101, 114, 99, 97, 115, 101]⟩, .str ⟨#[97, 115, 99, 105, 105, 95, 108, 111, 119, 101, 114, 99, 97, 115, 101]⟩ 1222, .str ⟨#[97, 98, 99, 100, 101, 102, 103, 104, 105, 106, 107, 108, 109, 110, 111, 112, 113, 114, 115, 116, 117, 118, 119, 120, 121, 122]⟩ 1221⟩, ⟨PyData.keyHash P ⟨#[97, 115, 99, 105, 105, 95, 117, 112, 112, 101, 114, 99, 97, 115, 101]⟩, .str ⟨#[97, 115, 99, 105, 105, 95, 117, 112, 112, 101, 114, 99, 97, 115, 101]⟩ 1224, .str ⟨#[65, 66, 67, 68, 69, 70, 71, 72, 73, 74, 75, 76, 77, 78, 79, 80, 81, 82, 83, 84, 85, 86, 87, 88, 89, 90]⟩ 1223⟩, ⟨PyData.keyHash P ⟨#[97, 115, 99, 105, 105, 95, 108, 101, 116, 116, 101, 114, 115]⟩, .str ⟨#[97, 115, 99, 105, 105, 95, 108, 101, 116, 116, 101, 114, 115]⟩ 1226, .str ⟨#[97, 98, 99, 100, 101, 102, 103, 104, 105, 106, 107, 108, 109, 110, 111, 112, 113, 114, 115, 116, 117, 118, 119, 120, 121, 122, 65, 66, 67, 68, 69, 70, 71, 72, 73, 74, 75, 76, 77, 78, 79, 80, 81, 82, 83, 84, 85, 86, 87, 88, 89, 90]⟩ 1225⟩, ⟨PyData.keyHash P ⟨#[100, 105, 103, 105, 116, 115]⟩, .str ⟨#[100, 105, 103, 105, 116, 115]⟩ 1228, .str ⟨#[48, 49, 50, 51, 52, 53, 54, 55, 56, 57]⟩ 1227⟩, ⟨PyData.keyHash P ⟨#[99]⟩, .str ⟨#[99]⟩ 1239, .int 81 1587⟩]).toArray 19, #[]⟩) (⟨.type "list", none, .seq (mixL 49 lp12_r24 lp12_x24 lp12_y24).toArray 0, #[]⟩) (⟨.type "bytes_iterator", none, .fields ([.bytes #[32, 33, 34, 35, 36, 37, 38, 39, 40, 41, 42, 43, 44, 45, 46, 47, 48, 49, 50, 51, 52, 53, 54, 55, 56, 57, 58, 59, 60, 62, 63, 64, 65, 66, 67, 68, 69, 70, 71, 72, 73, 74, 75, 76, 77, 78, 79, 80, 81, 82, 83, 84, 85, 86, 87, 88, 89, 90, 91, 92, 93, 94, 95, 96, 97, 98, 99, 100, 101, 102, 103, 104, 105, 106, 107, 108, 109, 110, 111, 112, 113, 114, 115, 116, 117, 118, 119, 120, 121, 122, 123, 124, 125, 126, 9] 1442, .int 49 0]).toArray, #[]⟩), 29, life0, Array.mk [], boot_drawn, 1590, os⟩
theorem lp12_go41 (w : World) (os : OsState) : PySem.W.Fast.tw10295753902157049106 PySem.W.Fast.tw14364793385576792824 PR w 11 ann0 1 360 (lp12_s41 w os) lp12_T = some (lp12_s49 w os, lp12_T) := by kernel_rfl
noncomputable def lp12_s57 (w : World) (os : OsState) : SharedT := let P := w.params; ⟨tr_lp12 P (⟨.type "dict", none, .dict ([⟨PyData.keyHash P ⟨#[95, 95, 110, 97, 109, 101, 95, 95]⟩, .str ⟨#[95, 95, 110, 97, 109, 101, 95, 95]⟩ 165, .str ⟨#[99, 112, 121, 51, 49, 51, 46, 101, 109, 97, 105, 108, 46, 113, 117, 111, 112, 114, 105, 109, 105, 109, 101]⟩ 1229⟩, ⟨PyData.keyHash P ⟨#[95, 95, 100, 111, 99, 95, 95]⟩, .str ⟨#[95, 95, 100, 111, 99, 95, 95]⟩ 166, .none⟩, ⟨PyData.keyHash P ⟨#[95, 95, 112, 97, 99, 107, 97, 103, 101, 95, 95]⟩, .str ⟨#[95, 95, 112, 97, 99, 107, 97, 103, 101, 95, 95]⟩ 167, .none⟩, ⟨PyData.keyHash P ⟨#[95, 95, 108, 111, 97, 100, 101, 114, 95, 95]⟩, .str ⟨#[95, 95, 108, 111, 97, 100, 101, 114, 95, 95]⟩ 168, .builtin "__main__.__loader__#opaque"⟩, ⟨PyData.keyHash P ⟨#[95, 95, 115, 112, 101, 99, 95, 95]⟩, .str ⟨#[95, 95, 115, 112, 101, 99, 95, 95]⟩ 169, .none⟩, ⟨PyData.keyHash P ⟨#[95, 95, 97, 110, 110, 111, 116, 97, 116, 105, 111, 110, 115, 95, 95]⟩, .str ⟨#[95, 95, 97, 110, 110, 111, 116, 97, 116, 105, 111, 110, 115, 95, 95]⟩ 170, .ref 6⟩, ⟨PyData.keyHash P ⟨#[95, 95, 98, 117, 105, 108, 116, 105, 110, 115, 95, 95]⟩, .str ⟨#[95, 95, 98, 117, 105, 108, 116, 105, 110, 115, 95, 95]⟩ 171, .ref 4⟩, ⟨PyData.keyHash P ⟨#[95, 95, 102, 105, 108, 101, 95, 95]⟩, .str ⟨#[95, 95, 102, 105, 108, 101, 95, 95]⟩ 173, .str ⟨#[47, 99, 108, 97, 105, 109, 47, 99, 117, 116, 46, 112, 121]⟩ 172⟩, ⟨PyData.keyHash P ⟨#[95, 95, 99, 97, 99, 104, 101, 100, 95, 95]⟩, .str ⟨#[95, 95, 99, 97, 99, 104, 101, 100, 95, 95]⟩ 174, .none⟩, ⟨PyData.keyHash P ⟨#[67, 82, 76, 70]⟩, .str ⟨#[67, 82, 76, 70]⟩ 188, .str ⟨#[13, 10]⟩ 187⟩, ⟨PyData.keyHash P ⟨#[78, 76]⟩, .str ⟨#[78, 76]⟩ 190, .str ⟨#[10]⟩ 189⟩, ⟨PyData.keyHash P ⟨#[95, 81, 85, 79, 80, 82, 73, 95, 77, 65, 80]⟩, .str ⟨#[95, 81, 85, 79, 80, 82, 73, 95, 77, 65, 80]⟩ 1218, .ref 17⟩, ⟨PyData.keyHash P ⟨#[95, 81, 85, 79, 80, 82, 73, 95, 72, 69, 65, 68, 69, 82, 95, 77, 65, 80]⟩, .str ⟨#[95, 81, 85, 79, 80, 82, 73, 95, 72, 69, 65, 68, 69, 82, 95, 77, 65, 80]⟩ 1219, .ref 22⟩, ⟨PyData.keyHash P ⟨#[95, 81, 85, 79, 80, 82, 73, 95, 66, 79, 68, 89, 95, 77, 65, 80]⟩, .str ⟨#[95, 81, 85, 79, 80, 82, 73, 95, 66, 79, 68, 89, 95, 77, 65, 80]⟩ 1220, .ref 24⟩, ⟨PyData.keyHash P ⟨#[97, 115, 99, 105, 105, 95, 108, 111, 119, 101, 114, 99, 97, 115, 101]⟩, .str ⟨#[97, 115, 99, 105, 105, 95, 108, 111, 119, 101, 114, 99, 97, 115, 101]⟩ 1222, .str ⟨#[97, 98, 99, 100, 101, 102, 103, 104, 105, 106, 107, 108, 109, 110, 111, 112, 113, 114, 115, 116, 117, 118, 119, 120, 121, 122]⟩ 1221⟩, ⟨PyData.keyHash P ⟨#[97, 115, 99, 105, 105, 95, 117, 112, 112, 101, 114, 99, 97, 115, 101]⟩, .str ⟨#[97, 115, 99, 105, 105, 95, 117, 112, 112, 101, 114, 99, 97, 115, 101]⟩ 1224, .str ⟨#[65, 66, 67, 68, 69, 70, 71, 72, 73, 74, 75, 76, 77, 78, 79, 80, 81, 82, 83, 84, 85, 86, 87, 88, 89, 90]⟩ 1223⟩, ⟨PyData.keyHash P ⟨#[97, 115, 99, 105, 105, 95, 108, 101, 116, 116, 101, 114, 115]⟩, .str ⟨#[97, 115, 99, 105, 105, 95, 108, 101, 116, 116, 101, 114, 115]⟩ 1226, .str ⟨#[97, 98, 99, 100, 101, 102, 103, 104, 105, 106, 107, 108, 109, 110, 111, 112, 113, 114, 115, 116, 117, 118, 119, 120, 121, 122, 65, 66, 67, 68, 69, 70, 71, 72, 73, 74, 75, 76, 77, 78, 79, 80, 81, 82, 83, 84, 85, 86, 87, 88, 89, 90]⟩ 1225⟩, ⟨PyData.keyHash P ⟨#[100, 105, 103, 105, 116, 115]⟩, .str ⟨#[100, 105, 103, 105, 116, 115]⟩ 1228, .str ⟨#[48, 49, 50, 51, 52, 53, 54, 55, 56, 57]⟩ 1227⟩, ⟨PyData.keyHash P ⟨#[99]⟩, .str ⟨#[99]⟩ 1239, .int 89 1611⟩]).toArray 19, #[]⟩) (⟨.type "list", none, .seq (mixL 57 lp12_r24 lp12_x24 lp12_y24).toArray 0, #[]⟩) (⟨.type "bytes_iterator", none, .fields ([.bytes #[32, 33, 34, 35, 36, 37, 38, 39, 40, 41, 42, 43, 44, 45, 46, 47, 48, 49, 50, 51, 52, 53, 54, 55, 56, 57, 58, 59, 60, 62, 63, 64, 65, 66, 67, 68, 69, 70, 71, 72, 73, 74, 75, 76, 77, 78, 79, 80, 81, 82, 83, 84, 85, 86, 87, 88, 89, 90, 91, 92, 93, 94, 95, 96, 97, 98, 99, 100, 101, 102, 103, 104, 105, 106, 107, 108, 109, 110, 111, 112, 113, 114, 115, 116, 117, 118, 119, 120, 121, 122, 123, 124, 125, 126, 9] 1442, .int 57 0]).toArray, #[]⟩), 29, life0, Array.mk [], boot_drawn, 1614, os⟩
theorem lp12_go49 (w : World) (os : OsState) : PySem.W.Fast.tw10295753902157049106 PySem.W.Fast.tw14364793385576792824 PR w 11 ann0 1 360 (lp12_s49 w os) lp12_T = some (lp12_s57 w os, lp12_T) := by kernel_rfl
noncomputable def lp12_s65 (w : World) (os : OsState) : SharedT := let P := w.params; ⟨tr_lp12 P (⟨.type "dict", none, .dict ([⟨PyData.keyHash P ⟨#[95, 95, 110, 97, 109, 101, 95, 95]⟩, .str ⟨#[95, 95, 110, 97, 109, 101, 95, 95]⟩ 165, .str ⟨#[99, 112, 121, 51, 49, 51, 46, 101, 109, 97, 105, 108, 46, 113, 117, 111, 112, 114, 105, 109, 105, 109, 101]⟩ 1229⟩, ⟨PyData.keyHash P ⟨#[95, 95, 100, 111, 99, 95, 95]⟩, .str ⟨#[95, 95, 100, 111, 99, 95, 95]⟩ 166, .none⟩, ⟨PyData.keyHash P ⟨#[95, 95, 112, 97, 99, 107, 97, 103, 101, 95, 95]⟩, .str ⟨#[95, 95, 112, 97, 99, 107, 97, 103, 101, 95, 95]⟩ 167, .none⟩, ⟨PyData.keyHash P ⟨#[95, 95, 108, 111, 97, 100, 101, 114, 95, 95]⟩, .str ⟨#[95, 95, 108, 111, 97, 100, 101, 114, 95, 95]⟩ 168, .builtin "__main__.__loader__#opaque"⟩, ⟨PyData.keyHash P ⟨#[95, 95, 115, 112, 101, 99, 95, 95]⟩, .str ⟨#[95, 95, 115, 112, 101, 99, 95, 95]⟩ 169, .none⟩, ⟨PyData.keyHash P ⟨#[95, 95, 97, 110, 110, 111, 116, 97, 116, 105, 111, 110, 115, 95, 95]⟩, .str ⟨#[95, 95, 97, 110, 110, 111, 116, 97, 116, 105, 111, 110, 115, 95, 95]⟩ 170, .ref 6⟩, ⟨PyData.keyHash P ⟨#[95, 95, 98, 117, 105, 108, 116, 105, 110, 115, 95, 95]⟩, .str ⟨#[95, 95, 98, 117, 105, 108, 116, 105, 110, 115, 95, 95]⟩ 171, .ref 4⟩, ⟨PyData.keyHash P ⟨#[95, 95, 102, 105, 108, 101, 95, 95]⟩, .str ⟨#[95, 95, 102, 105, 108, 101, 95, 95]⟩ 173, .str ⟨#[47, 99, 108, 97, 105, 109, 47, 99, 117, 116, 46, 112, 121]⟩ 172⟩, ⟨PyData.keyHash P ⟨#[95, 95, 99, 97, 99, 104, 101, 100, 95, 95]⟩, .str ⟨#[95, 95, 99, 97, 99, 104, 101, 100, 95, 95]⟩ 174, .none⟩, ⟨PyData.keyHash P ⟨#[67, 82, 76, 70]⟩, .str ⟨#[67, 82, 76, 70]⟩ 188, .str ⟨#[13, 10]⟩ 187⟩, ⟨PyData.keyHash P ⟨#[78, 76]⟩, .str ⟨#[78, 76]⟩ 190, .str ⟨#[10]⟩ 189⟩, ⟨PyData.keyHash P ⟨#[95, 81, 85, 79, 80, 82, 73, 95, 77, 65, 80]⟩, .str ⟨#[95, 81, 85, 79, 80, 82, 73, 95, 77, 65, 80]⟩ 1218, .ref 17⟩, ⟨PyData.keyHash P ⟨#[95, 81, 85, 79, 80, 82, 73, 95, 72, 69, 65, 68, 69, 82, 95, 77, 65, 80]⟩, .str ⟨#[95, 81, 85, 79, 80, 82, 73, 95, 72, 69, 65, 68, 69, 82, 95, 77, 65, 80]⟩ 1219, .ref 22⟩, ⟨PyData.keyHash P ⟨#[95, 81, 85, 79, 80, 82, 73, 95, 66, 79, 68, 89, 95, 77, 65, 80]⟩, .str ⟨#[95, 81, 85, 79, 80, 82, 73, 95, 66, 79, 68, 89, 95, 77, 65, 80]⟩ 1220, .ref 24⟩, ⟨PyData.keyHash P ⟨#[97, 115, 99, 105, 105, 95, 108, 111, 119, 101, 114, 99, 97, 115, 101]⟩, .str ⟨#[97, 115, 99, 105, 105, 95, 108, 111, 119, 101, 114, 99, 97, 115, 101]⟩ 1222, .str ⟨#[97, 98, 99, 100, 101, 102, 103, 104, 105, 106, 107, 108, 109, 110, 111, 112, 113, 114, 115, 116, 117, 118, 119, 120, 121, 122]⟩ 1221⟩, ⟨PyData.keyHash P ⟨#[97, 115, 99, 105, 105, 95, 117, 112, 112, 101, 114, 99, 97, 115, 101]⟩, .str ⟨#[97, 115, 99, 105, 105, 95, 117, 112, 112, 101, 114, 99, 97, 115, 101]⟩ 1224, .str ⟨#[65, 66, 67, 68, 69, 70, 71, 72, 73, 74, 75, 76, 77, 78, 79, 80, 81, 82, 83, 84, 85, 86, 87, 88, 89, 90]⟩ 1223⟩, ⟨PyData.keyHash P ⟨#[97, 115, 99, 105, 105, 95, 108, 101, 116, 116, 101, 114, 115]⟩, .str ⟨#[97, 115, 99, 105, 105, 95, 108, 101, 116, 116, 101, 114, 115]⟩ 1226, .str ⟨#[97, 98, 99, 100, 101, 102, 103, 104, 105, 106, 107, 108, 109, 110, 111, 112, 113, 114, 115, 116, 117, 118, 119, 120, 121, 122, 65, 66, 67, 68, 69, 70, 71, 72, 73, 74, 75, 76, 77, 78, 79, 80, 81, 82, 83, 84, 85, 86, 87, 88, 89, 90]⟩ 1225⟩, ⟨PyData.keyHash P ⟨#[100, 105, 103, 105, 116, 115]⟩, .str ⟨#[100, 105, 103, 105, 116, 115]⟩ 1228, .str ⟨#[48, 49, 50, 51, 52, 53, 54, 55, 56, 57]⟩ 1227⟩, ⟨PyData.keyHash P ⟨#[99]⟩, .str ⟨#[99]⟩ 1239, .int 97 1635⟩]).toArray 19, #[]⟩) (⟨.type "list", none, .seq (mixL 65 lp12_r24 lp12_x24 lp12_y24).toArray 0, #[]⟩) (⟨.type "bytes_iterator", none, .fields ([.bytes #[32, 33, 34, 35, 36, 37, 38, 39, 40, 41, 42, 43, 44, 45, 46, 47, 48, 49, 50, 51, 52, 53, 54, 55, 56, 57, 58, 59, 60, 62, 63, 64, 65, 66, 67, 68, 69, 70, 71, 72, 73, 74, 75, 76, 77, 78, 79, 80, 81, 82, 83, 84, 85, 86, 87, 88, 89, 90, 91, 92, 93, 94, 95, 96, 97, 98, 99, 100, 101, 102, 103, 104, 105, 106, 107, 108, 109, 110, 111, 112, 113, 114, 115, 116, 117, 118, 119, 120, 121, 122, 123, 124, 125, 126, 9] 1442, .int 65 0]).toArray, #[]⟩), 29, life0, Array.mk [], boot_drawn, 1638, os⟩
theorem lp12_go57 (w : World) (os : OsState) : PySem.W.Fast.tw10295753902157049106 PySem.W.Fast.tw14364793385576792824 PR w 11 ann0 1 360 (lp12_s57 w os) lp12_T = some (lp12_s65 w os, lp12_T) := by kernel_rfl
noncomputable def lp12_s73 (w : World) (os : OsState) : SharedT := let P := w.params; ⟨tr_lp12 P (⟨.type "dict", none, .dict ([⟨PyData.keyHash P ⟨#[95, 95, 110, 97, 109, 101, 95, 95]⟩, .str ⟨#[95, 95, 110, 97, 109, 101, 95, 95]⟩ 165, .str ⟨#[99, 112, 121, 51, 49, 51, 46, 101, 109, 97, 105, 108, 46, 113, 117, 111, 112, 114, 105, 109, 105, 109, 101]⟩ 1229⟩, ⟨PyData.keyHash P ⟨#[95, 95, 100, 111, 99, 95, 95]⟩, .str ⟨#[95, 95, 100, 111, 99, 95, 95]⟩ 166, .none⟩, ⟨PyData.keyHash P ⟨#[95, 95, 112, 97, 99, 107, 97, 103, 101, 95, 95]⟩, .str ⟨#[95, 95, 112, 97, 99, 107, 97, 103, 101, 95, 95]⟩ 167, .none⟩, ⟨PyData.keyHash P ⟨#[95, 95, 108, 111, 97, 100, 101, 114, 95, 95]⟩, .str ⟨#[95, 95, 108, 111, 97, 100, 101, 114, 95, 95]⟩ 168, .builtin "__main__.__loader__#opaque"⟩, ⟨PyData.keyHash P ⟨#[95, 95, 115, 112, 101, 99, 95, 95]⟩, .str ⟨#[95, 95, 115, 112, 101, 99, 95, 95]⟩ 169, .none⟩, ⟨PyData.keyHash P ⟨#[95, 95, 97, 110, 110, 111, 116, 97, 116, 105, 111, 110, 115, 95, 95]⟩, .str ⟨#[95, 95, 97, 110, 110, 111, 116, 97, 116, 105, 111, 110, 115, 95, 95]⟩ 170, .ref 6⟩, ⟨PyData.keyHash P ⟨#[95, 95, 98, 117, 105, 108, 116, 105, 110, 115, 95, 95]⟩, .str ⟨#[95, 95, 98, 117, 105, 108, 116, 105, 110, 115, 95, 95]⟩ 171, .ref 4⟩, ⟨PyData.keyHash P ⟨#[95, 95, 102, 105, 108, 101, 95, 95]⟩, .str ⟨#[95, 95, 102, 105, 108, 101, 95, 95]⟩ 173, .str ⟨#[47, 99, 108, 97, 105, 109, 47, 99, 117, 116, 46, 112, 121]⟩ 172⟩, ⟨PyData.keyHash P ⟨#[95, 95, 99, 97, 99, 104, 101, 100, 95, 95]⟩, .str ⟨#[95, 95, 99, 97, 99, 104, 101, 100, 95, 95]⟩ 174, .none⟩, ⟨PyData.keyHash P ⟨#[67, 82, 76, 70]⟩, .str ⟨#[67, 82, 76, 70]⟩ 188, .str ⟨#[13, 10]⟩ 187⟩, ⟨PyData.keyHash P ⟨#[78, 76]⟩, .str ⟨#[78, 76]⟩ 190, .str ⟨#[10]⟩ 189⟩, ⟨PyData.keyHash P ⟨#[95, 81, 85, 79, 80, 82, 73, 95, 77, 65, 80]⟩, .str ⟨#[95, 81, 85, 79, 80, 82, 73, 95, 77, 65, 80]⟩ 1218, .ref 17⟩, ⟨PyData.keyHash P ⟨#[95, 81, 85, 79, 80, 82, 73, 95, 72, 69, 65, 68, 69, 82, 95, 77, 65, 80]⟩, .str ⟨#[95, 81, 85, 79, 80, 82, 73, 95, 72, 69, 65, 68, 69, 82, 95, 77, 65, 80]⟩ 1219, .ref 22⟩, ⟨PyData.keyHash P ⟨#[95, 81, 85, 79, 80, 82, 73, 95, 66, 79, 68, 89, 95, 77, 65, 80]⟩, .str ⟨#[95, 81, 85, 79, 80, 82, 73, 95, 66, 79, 68, 89, 95, 77, 65, 80]⟩ 1220, .ref 24⟩, ⟨PyData.keyHash P ⟨#[97, 115, 99, 105, 105, 95, 108, 111, 119, 101, 114, 99, 97, 115, 101]⟩, .str ⟨#[97, 115, 99, 105, 105, 95, 108, 111, 119, 101, 114, 99, 97, 115, 101]⟩ 1222, .str ⟨#[97, 98, 99, 100, 101, 102, 103, 104, 105, 106, 107, 108, 109, 110, 111, 112, 113, 114, 115, 116, 117, 118, 119, 120, 121, 122]⟩ 1221⟩, ⟨PyData.keyHash P ⟨#[97, 115, 99, 105, 105, 95, 117, 112, 112, 101, 114, 99, 97, 115, 101]⟩, .str ⟨#[97, 115, 99, 105, 105, 95, 117, 112, 112, 101, 114, 99, 97, 115, 101]⟩ 1224, .str ⟨#[65, 66, 67, 68, 69, 70, 71, 72, 73, 74, 75, 76, 77, 78, 79, 80, 81, 82, 83, 84, 85, 86, 87, 88, 89, 90]⟩ 1223⟩, ⟨PyData.keyHash P ⟨#[97, 115, 99, 105, 105, 95, 108, 101, 116, 116, 101, 114, 115]⟩, .str ⟨#[97, 115, 99, 105, 105, 95, 108, 101, 116, 116, 101, 114, 115]⟩ 1226, .str ⟨#[97, 98, 99, 100, 101, 102, 103, 104, 105, 106, 107, 108, 109, 110, 111, 112, 113, 114, 115, 116, 117, 118, 119, 120, 121, 122, 65, 66, 67, 68, 69, 70, 71, 72, 73, 74, 75, 76, 77, 78, 79, 80, 81, 82, 83, 84, 85, 86, 87, 88, 89, 90]⟩ 1225⟩, ⟨PyData.keyHash P ⟨#[100, 105, 103, 105, 116, 115]⟩, .str ⟨#[100, 105, 103, 105, 116, 115]⟩ 1228, .str ⟨#[48, 49, 50, 51, 52, 53, 54, 55, 56, 57]⟩ 1227⟩, ⟨PyData.keyHash P ⟨#[99]⟩, .str ⟨#[99]⟩ 1239, .int 105 1659⟩]).toArray 19, #[]⟩) (⟨.type "list", none, .seq (mixL 73 lp12_r24 lp12_x24 lp12_y24).toArray 0, #[]⟩) (⟨.type "bytes_iterator", none, .fields ([.bytes #[32, 33, 34, 35, 36, 37, 38, 39, 40, 41, 42, 43, 44, 45, 46, 47, 48, 49, 50, 51, 52, 53, 54, 55, 56, 57, 58, 59, 60, 62, 63, 64, 65, 66, 67, 68, 69, 70, 71, 72, 73, 74, 75, 76, 77, 78, 79, 80, 81, 82, 83, 84, 85, 86, 87, 88, 89, 90, 91, 92, 93, 94, 95, 96, 97, 98, 99, 100, 101, 102, 103, 104, 105, 106, 107, 108, 109, 110, 111, 112, 113, 114, 115, 116, 117, 118, 119, 120, 121, 122, 123, 124, 125, 126, 9] 1442, .int 73 0]).toArray, #[]⟩), 29, life0, Array.mk [], boot_drawn, 1662, os⟩
theorem lp12_go65 (w : World) (os : OsState) : PySem.W.Fast.tw10295753902157049106 PySem.W.Fast.tw14364793385576792824 PR w 11 ann0 1 360 (lp12_s65 w os) lp12_T = some (lp12_s73 w os, lp12_T) := by kernel_rfl
noncomputable def lp12_s81 (w : World) (os : OsState) : SharedT := let P := w.params; ⟨tr_lp12 P (⟨.type "dict", none, .dict ([⟨PyData.keyHash P ⟨#[95, 95, 110, 97, 109, 101, 95, 95]⟩, .str ⟨#[95, 95, 110, 97, 109, 101, 95, 95]⟩ 165, .str ⟨#[99, 112, 121, 51, 49, 51, 46, 101, 109, 97, 105, 108, 46, 113, 117, 111, 112, 114, 105, 109, 105, 109, 101]⟩ 1229⟩, ⟨PyData.keyHash P ⟨#[95, 95, 100, 111, 99, 95, 95]⟩, .str ⟨#[95, 95, 100, 111, 99, 95, 95]⟩ 166, .none⟩, ⟨PyData.keyHash P ⟨#[95, 95, 112, 97, 99, 107, 97, 103, 101, 95, 95]⟩, .str ⟨#[95, 95, 112, 97, 99, 107, 97, 103, 101, 95, 95]⟩ 167, .none⟩, ⟨PyData.keyHash P ⟨#[95, 95, 108, 111, 97, 100, 101, 114, 95, 95]⟩, .str ⟨#[95, 95, 108, 111, 97, 100, 101, 114, 95, 95]⟩ 168, .builtin "__main__.__loader__#opaque"⟩, ⟨PyData.keyHash P ⟨#[95, 95, 115, 112, 101, 99, 95, 95]⟩, .str ⟨#[95, 95, 115, 112, 101, 99, 95, 95]⟩ 169, .none⟩, ⟨PyData.keyHash P ⟨#[95, 95, 97, 110, 110, 111, 116, 97, 116, 105, 111, 110, 115, 95, 95]⟩, .str ⟨#[95, 95, 97, 110, 110, 111, 116, 97, 116, 105, 111, 110, 115, 95, 95]⟩ 170, .ref 6⟩, ⟨PyData.keyHash P ⟨#[95, 95, 98, 117, 105, 108, 116, 105, 110, 115, 95, 95]⟩, .str ⟨#[95, 95, 98, 117, 105, 108, 116, 105, 110, 115, 95, 95]⟩ 171, .ref 4⟩, ⟨PyData.keyHash P ⟨#[95, 95, 102, 105, 108, 101, 95, 95]⟩, .str ⟨#[95, 95, 102, 105, 108, 101, 95, 95]⟩ 173, .str ⟨#[47, 99, 108, 97, 105, 109, 47, 99, 117, 116, 46, 112, 121]⟩ 172⟩, ⟨PyData.keyHash P ⟨#[95, 95, 99, 97, 99, 104, 101, 100, 95, 95]⟩, .str ⟨#[95, 95, 99, 97, 99, 104, 101, 100, 95, 95]⟩ 174, .none⟩, ⟨PyData.keyHash P ⟨#[67, 82, 76, 70]⟩, .str ⟨#[67, 82, 76, 70]⟩ 188, .str ⟨#[13, 10]⟩ 187⟩, ⟨PyData.keyHash P ⟨#[78, 76]⟩, .str ⟨#[78, 76]⟩ 190, .str ⟨#[10]⟩ 189⟩, ⟨PyData.keyHash P ⟨#[95, 81, 85, 79, 80, 82, 73, 95, 77, 65, 80]⟩, .str ⟨#[95, 81, 85, 79, 80, 82, 73, 95, 77, 65, 80]⟩ 1218, .ref 17⟩, ⟨PyData.keyHash P ⟨#[95, 81, 85, 79, 80, 82, 73, 95, 72, 69, 65, 68, 69, 82, 95, 77, 65, 80]⟩, .str ⟨#[95, 81, 85, 79, 80, 82, 73, 95, 72, 69, 65, 68, 69, 82, 95, 77, 65, 80]⟩ 1219, .ref 22⟩, ⟨PyData.keyHash P ⟨#[95, 81, 85, 79, 80, 82, 73, 95, 66, 79, 68, 89, 95, 77, 65, 80]⟩, .str ⟨#[95, 81, 85, 79, 80, 82, 73, 95, 66, 79, 68, 89, 95, 77, 65, 80]⟩ 1220, .ref 24⟩, ⟨PyData.keyHash P ⟨#[97, 115, 99, 105, 105, 95, 108, 111, 119, 101, 114, 99, 97, 115, 101]⟩, .str ⟨#[97, 115, 99, 105, 105, 95, 108, 111, 119, 101, 114, 99, 97, 115, 101]⟩ 1222, .str ⟨#[97, 98, 99, 100, 101, 102, 103, 104, 105, 106, 107, 108, 109, 110, 111, 112, 113, 114, 115, 116, 117, 118, 119, 120, 121, 122]⟩ 1221⟩, ⟨PyData.keyHash P ⟨#[97, 115, 99, 105, 105, 95, 117, 112, 112, 101, 114, 99, 97, 115, 101]⟩, .str ⟨#[97, 115, 99, 105, 105, 95, 117, 112, 112, 101, 114, 99, 97, 115, 101]⟩ 1224, .str ⟨#[65, 66, 67, 68, 69, 70, 71, 72, 73, 74, 75, 76, 77, 78, 79, 80, 81, 82, 83, 84, 85, 86, 87, 88, 89, 90]⟩ 1223⟩, ⟨PyData.keyHash P ⟨#[97, 115, 99, 105, 105, 95, 108, 101, 116, 116, 101, 114, 115]⟩, .str ⟨#[97, 115, 99, 105, 105, 95, 108, 101, 116, 116, 101, 114, 115]⟩ 1226, .str ⟨#[97, 98, 99, 100, 101, 102, 103, 104, 105, 106, 107, 108, 109, 110, 111, 112, 113, 114, 115, 116, 117, 118, 119, 120, 121, 122, 65, 66, 67, 68, 69, 70, 71, 72, 73, 74, 75, 76, 77, 78, 79, 80, 81, 82, 83, 84, 85, 86, 87, 88, 89, 90]⟩ 1225⟩, ⟨PyData.keyHash P ⟨#[100, 105, 103, 105, 116, 115]⟩, .str ⟨#[100, 105, 103, 105, 116, 115]⟩ 1228, .str ⟨#[48, 49, 50, 51, 52, 53, 54, 55, 56, 57]⟩ 1227⟩, ⟨PyData.keyHash P ⟨#[99]⟩, .str ⟨#[99]⟩ 1239, .int 113 1683⟩]).toArray 19, #[]⟩) (⟨.type "list", none, .seq (mixL 81 lp12_r24 lp12_x24 lp12_y24).toArray 0, #[]⟩) (⟨.type "bytes_iterator", none, .fields ([.bytes #[32, 33, 34, 35, 36, 37, 38, 39, 40, 41, 42, 43, 44, 45, 46, 47, 48, 49, 50, 51, 52, 53, 54, 55, 56, 57, 58, 59, 60, 62, 63, 64, 65, 66, 67, 68, 69, 70, 71, 72, 73, 74, 75, 76, 77, 78, 79, 80, 81, 82, 83, 84, 85, 86, 87, 88, 89, 90, 91, 92, 93, 94, 95, 96, 97, 98, 99, 100, 101, 102, 103, 104, 105, 106, 107, 108, 109, 110, 111, 112, 113, 114, 115, 116, 117, 118, 119, 120, 121, 122, 123, 124, 125, 126, 9] 1442, .int 81 0]).toArray, #[]⟩), 29, life0, Array.mk [], boot_drawn, 1686, os⟩
theorem lp12_go73 (w : World) (os : OsState) : PySem.W.Fast.tw10295753902157049106 PySem.W.Fast.tw14364793385576792824 PR w 11 ann0 1 360 (lp12_s73 w os) lp12_T = some (lp12_s81 w os, lp12_T) := by kernel_rfl
noncomputable def lp12_s89 (w : World) (os : OsState) : SharedT := let P := w.params; ⟨tr_lp12 P (⟨.type "dict", none, .dict ([⟨PyData.keyHash P ⟨#[95, 95, 110, 97, 109, 101, 95, 95]⟩, .str ⟨#[95, 95, 110, 97, 109, 101, 95, 95]⟩ 165, .str ⟨#[99, 112, 121, 51, 49, 51, 46, 101, 109, 97, 105, 108, 46, 113, 117, 111, 112, 114, 105, 109, 105, 109, 101]⟩ 1229⟩, ⟨PyData.keyHash P ⟨#[95, 95, 100, 111, 99, 95, 95]⟩, .str ⟨#[95, 95, 100, 111, 99, 95, 95]⟩ 166, .none⟩, ⟨PyData.keyHash P ⟨#[95, 95, 112, 97, 99, 107, 97, 103, 101, 95, 95]⟩, .str ⟨#[95, 95, 112, 97, 99, 107, 97, 103, 101, 95, 95]⟩ 167, .none⟩, ⟨PyData.keyHash P ⟨#[95, 95, 108, 111, 97, 100, 101, 114, 95, 95]⟩, .str ⟨#[95, 95, 108, 111, 97, 100, 101, 114, 95, 95]⟩ 168, .builtin "__main__.__loader__#opaque"⟩, ⟨PyData.keyHash P ⟨#[95, 95, 115, 112, 101, 99, 95, 95]⟩, .str ⟨#[95, 95, 115, 112, 101, 99, 95, 95]⟩ 169, .none⟩, ⟨PyData.keyHash P ⟨#[95, 95, 97, 110, 110, 111, 116, 97, 116, 105, 111, 110, 115, 95, 95]⟩, .str ⟨#[95, 95, 97, 110, 110, 111, 116, 97, 116, 105, 111, 110, 115, 95, 95]⟩ 170, .ref 6⟩, ⟨PyData.keyHash P ⟨#[95, 95, 98, 117, 105, 108, 116, 105, 110, 115, 95, 95]⟩, .str ⟨#[95, 95, 98, 117, 105, 108, 116, 105, 110, 115, 95, 95]⟩ 171, .ref 4⟩, ⟨PyData.keyHash P ⟨#[95, 95, 102, 105, 108, 101, 95, 95]⟩, .str ⟨#[95, 95, 102, 105, 108, 101, 95, 95]⟩ 173, .str ⟨#[47, 99, 108, 97, 105, 109, 47, 99, 117, 116, 46, 112, 121]⟩ 172⟩, ⟨PyData.keyHash P ⟨#[95, 95, 99, 97, 99, 104, 101, 100, 95, 95]⟩, .str ⟨#[95, 95, 99, 97, 99, 104, 101, 100, 95, 95]⟩ 174, .none⟩, ⟨PyData.keyHash P ⟨#[67, 82, 76, 70]⟩, .str ⟨#[67, 82, 76, 70]⟩ 188, .str ⟨#[13, 10]⟩ 187⟩, ⟨PyData.keyHash P ⟨#[78, 76]⟩, .str ⟨#[78, 76]⟩ 190, .str ⟨#[10]⟩ 189⟩, ⟨PyData.keyHash P ⟨#[95, 81, 85, 79, 80, 82, 73, 95, 77, 65, 80]⟩, .str ⟨#[95, 81, 85, 79, 80, 82, 73, 95, 77, 65, 80]⟩ 1218, .ref 17⟩, ⟨PyData.keyHash P ⟨#[95, 81, 85, 79, 80, 82, 73, 95, 72, 69, 65, 68, 69, 82, 95, 77, 65, 80]⟩, .str ⟨#[95, 81, 85, 79, 80, 82, 73, 95, 72, 69, 65, 68, 69, 82, 95, 77, 65, 80]⟩ 1219, .ref 22⟩, ⟨PyData.keyHash P ⟨#[95, 81, 85, 79, 80, 82, 73, 95, 66, 79, 68, 89, 95, 77, 65, 80]⟩, .str ⟨#[95, 81, 85, 79, 80, 82, 73, 95, 66, 79, 68, 89, 95, 77, 65, 80]⟩ 1220, .ref 24⟩, ⟨PyData.keyHash P ⟨#[97, 115, 99, 105, 105, 95, 108, 111, 119, 101, 114, 99, 97, 115, 101]⟩, .str ⟨#[97, 115, 99, 105, 105, 95, 108, 111, 119, 101, 114, 99, 97, 115, 101]⟩ 1222, .str ⟨#[97, 98, 99, 100, 101, 102, 103, 104, 105, 106, 107, 108, 109, 110, 111, 112, 113, 114, 115, 116, 117, 118, 119, 120, 121, 122]⟩ 1221⟩, ⟨PyData.keyHash P ⟨#[97, 115, 99, 105, 105, 95, 117, 112, 112, 101, 114, 99, 97, 115, 101]⟩, .str ⟨#[97, 115, 99, 105, 105, 95, 117, 112, 112, 101, 114, 99, 97, 115, 101]⟩ 1224, .str ⟨#[65, 66, 67, 68, 69, 70, 71, 72, 73, 74, 75, 76, 77, 78, 79, 80, 81, 82, 83, 84, 85, 86, 87, 88, 89, 90]⟩ 1223⟩, ⟨PyData.keyHash P ⟨#[97, 115, 99, 105, 105, 95, 108, 101, 116, 116, 101, 114, 115]⟩, .str ⟨#[97, 115, 99, 105, 105, 95, 108, 101, 116, 116, 101, 114, 115]⟩ 1226, .str ⟨#[97, 98, 99, 100, 101, 102, 103, 104, 105, 106, 107, 108, 109, 110, 111, 112, 113, 114, 115, 116, 117, 118, 119, 120, 121, 122, 65, 66, 67, 68, 69, 70, 71, 72, 73, 74, 75, 76, 77, 78, 79, 80, 81, 82, 83, 84, 85, 86, 87, 88, 89, 90]⟩ 1225⟩, ⟨PyData.keyHash P ⟨#[100, 105, 103, 105, 116, 115]⟩, .str ⟨#[100, 105, 103, 105, 116, 115]⟩ 1228, .str ⟨#[48, 49, 50, 51, 52, 53, 54, 55, 56, 57]⟩ 1227⟩, ⟨PyData.keyHash P ⟨#[99]⟩, .str ⟨#[99]⟩ 1239, .int 121 1707⟩]).toArray 19, #[]⟩) (⟨.type "list", none, .seq (mixL 89 lp12_r24 lp12_x24 lp12_y24).toArray 0, #[]⟩) (⟨.type "bytes_iterator", none, .fields ([.bytes #[32, 33, 34, 35, 36, 37, 38, 39, 40, 41, 42, 43, 44, 45, 46, 47, 48, 49, 50, 51, 52, 53, 54, 55, 56, 57, 58, 59, 60, 62, 63, 64, 65, 66, 67, 68, 69, 70, 71, 72, 73, 74, 75, 76, 77, 78, 79, 80, 81, 82, 83, 84, 85, 86, 87, 88, 89, 90, 91, 92, 93, 94, 95, 96, 97, 98, 99, 100, 101, 102, 103, 104, 105, 106, 107, 108, 109, 110, 111, 112, 113, 114, 115, 116, 117, 118, 119, 120, 121, 122, 123, 124, 125, 126, 9] 1442, .int 89 0]).toArray, #[]⟩), 29, life0, Array.mk [], boot_drawn, 1710, os⟩
theorem lp12_go81 (w : World) (os : OsState) : PySem.W.Fast.tw10295753902157049106 PySem.W.Fast.tw14364793385576792824 PR w 11 ann0 1 360 (lp12_s81 w os) lp12_T = some (lp12_s89 w os, lp12_T) := by kernel_rfl
noncomputable def lp12_s95 (w : World) (os : OsState) : SharedT := let P := w.params; ⟨tr_lp12 P (⟨.type "dict", none, .dict ([⟨PyData.keyHash P ⟨#[95, 95, 110, 97, 109, 101, 95, 95]⟩, .str ⟨#[95, 95, 110, 97, 109, 101, 95, 95]⟩ 165, .str ⟨#[99, 112, 121, 51, 49, 51, 46, 101, 109, 97, 105, 108, 46, 113, 117, 111, 112, 114, 105, 109, 105, 109, 101]⟩ 1229⟩, ⟨PyData.keyHash P ⟨#[95, 95, 100, 111, 99, 95, 95]⟩, .str ⟨#[95, 95, 100, 111, 99, 95, 95]⟩ 166, .none⟩, ⟨PyData.keyHash P ⟨#[95, 95, 112, 97, 99, 107, 97, 103, 101, 95, 95]⟩, .str ⟨#[95, 95, 112, 97, 99, 107, 97, 103, 101, 95, 95]⟩ 167, .none⟩, ⟨PyData.keyHash P ⟨#[95, 95, 108, 111, 97, 100, 101, 114, 95, 95]⟩, .str ⟨#[95, 95, 108, 111, 97, 100, 101, 114, 95, 95]⟩ 168, .builtin "__main__.__loader__#opaque"⟩, ⟨PyData.keyHash P ⟨#[95, 95, 115, 112, 101, 99, 95, 95]⟩, .str ⟨#[95, 95, 115, 112, 101, 99, 95, 95]⟩ 169, .none⟩, ⟨PyData.keyHash P ⟨#[95, 95, 97, 110, 110, 111, 116, 97, 116, 105, 111, 110, 115, 95, 95]⟩, .str ⟨#[95, 95, 97, 110, 110, 111, 116, 97, 116, 105, 111, 110, 115, 95, 95]⟩ 170, .ref 6⟩, ⟨PyData.keyHash P ⟨#[95, 95, 98, 117, 105, 108, 116, 105, 110, 115, 95, 95]⟩, .str ⟨#[95, 95, 98, 117, 105, 108, 116, 105, 110, 115, 95, 95]⟩ 171, .ref 4⟩, ⟨PyData.keyHash P ⟨#[95, 95, 102, 105, 108, 101, 95, 95]⟩, .str ⟨#[95, 95, 102, 105, 108, 101, 95, 95]⟩ 173, .str ⟨#[47, 99, 108, 97, 105, 109, 47, 99, 117, 116, 46, 112, 121]⟩ 172⟩, ⟨PyData.keyHash P ⟨#[95, 95, 99, 97, 99, 104, 101, 100, 95, 95]⟩, .str ⟨#[95, 95, 99, 97, 99, 104, 101, 100, 95, 95]⟩ 174, .none⟩, ⟨PyData.keyHash P ⟨#[67, 82, 76, 70]⟩, .str ⟨#[67, 82, 76, 70]⟩ 188, .str ⟨#[13, 10]⟩ 187⟩, ⟨PyData.keyHash P ⟨#[78, 76]⟩, .str ⟨#[78, 76]⟩ 190, .str ⟨#[10]⟩ 189⟩, ⟨PyData.keyHash P ⟨#[95, 81, 85, 79, 80, 82, 73, 95, 77, 65, 80]⟩, .str ⟨#[95, 81, 85, 79, 80, 82, 73, 95, 77, 65, 80]⟩ 1218, .ref 17⟩, ⟨PyData.keyHash P ⟨#[95, 81, 85, 79, 80, 82, 73, 95, 72, 69, 65, 68, 69, 82, 95, 77, 65, 80]⟩, .str ⟨#[95, 81, 85, 79, 80, 82, 73, 95, 72, 69, 65, 68, 69, 82, 95, 77, 65, 80]⟩ 1219, .ref 22⟩, ⟨PyData.keyHash P ⟨#[95, 81, 85, 79, 80, 82, 73, 95, 66, 79, 68, 89, 95, 77, 65, 80]⟩, .str ⟨#[95, 81, 85, 79, 80, 82, 73, 95, 66, 79, 68, 89, 95, 77, 65, 80]⟩ 1220, .ref 24⟩, ⟨PyData.keyHash P ⟨#[97, 115, 99, 105, 105, 95, 108, 111, 119, 101, 114, 99, 97, 115, 101]⟩, .str ⟨#[97, 115, 99, 105, 105, 95, 108, 111, 119, 101, 114, 99, 97, 115, 101]⟩ 1222, .str ⟨#[97, 98, 99, 100, 101, 102, 103, 104, 105, 106, 107, 108, 109, 110, 111, 112, 113, 114, 115, 116, 117, 118, 119, 120, 121, 122]⟩ 1221⟩, ⟨PyData.keyHash P ⟨#[97, 115, 99, 105, 105, 95, 117, 112, 112, 101, 114, 99, 97, 115, 101]⟩, .str ⟨#[97, 115, 99, 105, 105, 95, 117, 112, 112, 101, 114, 99, 97, 115, 101]⟩ 1224, .str ⟨#[65, 66, 67, 68, 69, 70, 71, 72, 73, 74, 75, 76, 77, 78, 79, 80, 81, 82, 83, 84, 85, 86, 87, 88, 89, 90]⟩ 1223⟩, ⟨PyData.keyHash P ⟨#[97, 115, 99, 105, 105, 95, 108, 101, 116, 116, 101, 114, 115]⟩, .str ⟨#[97, 115, 99, 105, 105, 95, 108, 101, 116, 116, 101, 114, 115]⟩ 1226, .str ⟨#[97, 98, 99, 100, 101, 102, 103, 104, 105, 106, 107, 108, 109, 110, 111, 112, 113, 114, 115, 116, 117, 118, 119, 120, 121, 122, 65, 66, 67, 68, 69, 70, 71, 72, 73, 74, 75, 76, 77, 78, 79, 80, 81, 82, 83, 84, 85, 86, 87, 88, 89, 90]⟩ 1225⟩, ⟨PyData.keyHash P ⟨#[100, 105, 103, 105, 116, 115]⟩, .str ⟨#[100, 105, 103, 105, 116, 115]⟩ 1228, .str ⟨#[48, 49, 50, 51, 52, 53, 54, 55, 56, 57]⟩ 1227⟩, ⟨PyData.keyHash P ⟨#[99]⟩, .str ⟨#[99]⟩ 1239, .int 9 1725⟩]).toArray 19, #[]⟩) (⟨.type "list", none, .seq (mixL 95 lp12_r24 lp12_x24 lp12_y24).toArray 0, #[]⟩) (⟨.type "bytes_iterator", none, .fields ([.bytes #[32, 33, 34, 35, 36, 37, 38, 39, 40, 41, 42, 43, 44, 45, 46, 47, 48, 49, 50, 51, 52, 53, 54, 55, 56, 57, 58, 59, 60, 62, 63, 64, 65, 66, 67, 68, 69, 70, 71, 72, 73, 74, 75, 76, 77, 78, 79, 80, 81, 82, 83, 84, 85, 86, 87, 88, 89, 90, 91, 92, 93, 94, 95, 96, 97, 98, 99, 100, 101, 102, 103, 104, 105, 106, 107, 108, 109, 110, 111, 112, 113, 114, 115, 116, 117, 118, 119, 120, 121, 122, 123, 124, 125, 126, 9] 1442, .int 95 0]).toArray, #[]⟩), 29, life0, Array.mk [], boot_drawn, 1728, os⟩
theorem lp12_go89 (w : World) (os : OsState) : PySem.W.Fast.tw10295753902157049106 PySem.W.Fast.tw14364793385576792824 PR w 11 ann0 1 270 (lp12_s89 w os) lp12_T = some (lp12_s95 w os, lp12_T) := by kernel_rfl
noncomputable def o3_33 (P : Params) : Obj := ⟨.type "dict", none, .dict ([⟨PyData.keyHash P ⟨#[95, 95, 110, 97, 109, 101, 95, 95]⟩, .str ⟨#[95, 95, 110, 97, 109, 101, 95, 95]⟩ 165, .str ⟨#[99, 112, 121, 51, 49, 51, 46, 101, 109, 97, 105, 108, 46, 113, 117, 111, 112, 114, 105, 109, 105, 109, 101]⟩ 1229⟩, ⟨PyData.keyHash P ⟨#[95, 95, 100, 111, 99, 95, 95]⟩, .str ⟨#[95, 95, 100, 111, 99, 95, 95]⟩ 166, .none⟩, ⟨PyData.keyHash P ⟨#[95, 95, 112, 97, 99, 107, 97, 103, 101, 95, 95]⟩, .str ⟨#[95, 95, 112, 97, 99, 107, 97, 103, 101, 95, 95]⟩ 167, .none⟩, ⟨PyData.keyHash P ⟨#[95, 95, 108, 111, 97, 100, 101, 114, 95, 95]⟩, .str ⟨#[95, 95, 108, 111, 97, 100, 101, 114, 95, 95]⟩ 168, .builtin "__main__.__loader__#opaque"⟩, ⟨PyData.keyHash P ⟨#[95, 95, 115, 112, 101, 99, 95, 95]⟩, .str ⟨#[95, 95, 115, 112, 101, 99, 95, 95]⟩ 169, .none⟩, ⟨PyData.keyHash P ⟨#[95, 95, 97, 110, 110, 111, 116, 97, 116, 105, 111, 110, 115, 95, 95]⟩, .str ⟨#[95, 95, 97, 110, 110, 111, 116, 97, 116, 105, 111, 110, 115, 95, 95]⟩ 170, .ref 6⟩, ⟨PyData.keyHash P ⟨#[95, 95, 98, 117, 105, 108, 116, 105, 110, 115, 95, 95]⟩, .str ⟨#[95, 95, 98, 117, 105, 108, 116, 105, 110, 115, 95, 95]⟩ 171, .ref 4⟩, ⟨PyData.keyHash P ⟨#[95, 95, 102, 105, 108, 101, 95, 95]⟩, .str ⟨#[95, 95, 102, 105, 108, 101, 95, 95]⟩ 173, .str ⟨#[47, 99, 108, 97, 105, 109, 47, 99, 117, 116, 46, 112, 121]⟩ 172⟩, ⟨PyData.keyHash P ⟨#[95, 95, 99, 97, 99, 104, 101, 100, 95, 95]⟩, .str ⟨#[95, 95, 99, 97, 99, 104, 101, 100, 95, 95]⟩ 174, .none⟩, ⟨PyData.keyHash P ⟨#[67, 82, 76, 70]⟩, .str ⟨#[67, 82, 76, 70]⟩ 188, .str ⟨#[13, 10]⟩ 187⟩, ⟨PyData.keyHash P ⟨#[78, 76]⟩, .str ⟨#[78, 76]⟩ 190, .str ⟨#[10]⟩ 189⟩, ⟨PyData.keyHash P ⟨#[95, 81, 85, 79, 80, 82, 73, 95, 77, 65, 80]⟩, .str ⟨#[95, 81, 85, 79, 80, 82, 73, 95, 77, 65, 80]⟩ 1218, .ref 17⟩, ⟨PyData.keyHash P ⟨#[95, 81, 85, 79, 80, 82, 73, 95, 72, 69, 65, 68, 69, 82, 95, 77, 65, 80]⟩, .str ⟨#[95, 81, 85, 79, 80, 82, 73, 95, 72, 69, 65, 68, 69, 82, 95, 77, 65, 80]⟩ 1219, .ref 22⟩, ⟨PyData.keyHash P ⟨#[95, 81, 85, 79, 80, 82, 73, 95, 66, 79, 68, 89, 95, 77, 65, 80]⟩, .str ⟨#[95, 81, 85, 79, 80, 82, 73, 95, 66, 79, 68, 89, 95, 77, 65, 80]⟩ 1220, .ref 24⟩, ⟨PyData.keyHash P ⟨#[97, 115, 99, 105, 105, 95, 108, 111, 119, 101, 114, 99, 97, 115, 101]⟩, .str ⟨#[97, 115, 99, 105, 105, 95, 108, 111, 119, 101, 114, 99, 97, 115, 101]⟩ 1222, .str ⟨#[97, 98, 99, 100, 101, 102, 103, 104, 105, 106, 107, 108, 109, 110, 111, 112, 113, 114, 115, 116, 117, 118, 119, 120, 121, 122]⟩ 1221⟩, ⟨PyData.keyHash P ⟨#[97, 115, 99, 105, 105, 95, 117, 112, 112, 101, 114, 99, 97, 115, 101]⟩, .str ⟨#[97, 115, 99, 105, 105, 95, 117, 112, 112, 101, 114, 99, 97, 115, 101]⟩ 1224, .str ⟨#[65, 66, 67, 68, 69, 70, 71, 72, 73, 74, 75, 76, 77, 78, 79, 80, 81, 82, 83, 84, 85, 86, 87, 88, 89, 90]⟩ 1223⟩, ⟨PyData.keyHash P ⟨#[97, 115, 99, 105, 105, 95, 108, 101, 116, 116, 101, 114, 115]⟩, .str ⟨#[97, 115, 99, 105, 105, 95, 108, 101, 116, 116, 101, 114, 115]⟩ 1226, .str ⟨#[97, 98, 99, 100, 101, 102, 103, 104, 105, 106, 107, 108, 109, 110, 111, 112, 113, 114, 115, 116, 117, 118, 119, 120, 121, 122, 65, 66, 67, 68, 69, 70, 71, 72, 73, 74, 75, 76, 77, 78, 79, 80, 81, 82, 83, 84, 85, 86, 87, 88, 89, 90]⟩ 1225⟩, ⟨PyData.keyHash P ⟨#[100, 105, 103, 105, 116, 115]⟩, .str ⟨#[100, 105, 103, 105, 116, 115]⟩ 1228, .str ⟨#[48, 49, 50, 51, 52, 53, 54, 55, 56, 57]⟩ 1227⟩, ⟨PyData.keyHash P ⟨#[99]⟩, .str ⟨#[99]⟩ 1239, .int 9 1725⟩]).toArray 19, #[]⟩
noncomputable def o24_34 (P : Params) : Obj := ⟨.type "list", none, .seq ([.str ⟨#[61, 48, 48]⟩ 197, .str ⟨#[61, 48, 49]⟩ 201, .str ⟨#[61, 48, 50]⟩ 205, .str ⟨#[61, 48, 51]⟩ 209, .str ⟨#[61, 48, 52]⟩ 213, .str ⟨#[61, 48, 53]⟩ 217, .str ⟨#[61, 48, 54]⟩ 221, .str ⟨#[61, 48, 55]⟩ 225, .str ⟨#[61, 48, 56]⟩ 229, .str ⟨#[9]⟩ 1727, .str ⟨#[61, 48, 65]⟩ 237, .str ⟨#[61, 48, 66]⟩ 241, .str ⟨#[61, 48, 67]⟩ 245, .str ⟨#[61, 48, 68]⟩ 249, .str ⟨#[61, 48, 69]⟩ 253, .str ⟨#[61, 48, 70]⟩ 257, .str ⟨#[61, 49, 48]⟩ 261, .str ⟨#[61, 49, 49]⟩ 265, .str ⟨#[61, 49, 50]⟩ 269, .str ⟨#[61, 49, 51]⟩ 273, .str ⟨#[61, 49, 52]⟩ 277, .str ⟨#[61, 49, 53]⟩ 281, .str ⟨#[61, 49, 54]⟩ 285, .str ⟨#[61, 49, 55]⟩ 289, .str ⟨#[61, 49, 56]⟩ 293, .str ⟨#[61, 49, 57]⟩ 297, .str ⟨#[61, 49, 65]⟩ 301, .str ⟨#[61, 49, 66]⟩ 305, .str ⟨#[61, 49, 67]⟩ 309, .str ⟨#[61, 49, 68]⟩ 313, .str ⟨#[61, 49, 69]⟩ 317, .str ⟨#[61, 49, 70]⟩ 321, .str ⟨#[32]⟩ 1445, .str ⟨#[33]⟩ 1448, .str ⟨#[34]⟩ 1451, .str ⟨#[35]⟩ 1454, .str ⟨#[36]⟩ 1457, .str ⟨#[37]⟩ 1460, .str ⟨#[38]⟩ 1463, .str ⟨#[39]⟩ 1466, .str ⟨#[40]⟩ 1469, .str ⟨#[41]⟩ 1472, .str ⟨#[42]⟩ 1475, .str ⟨#[43]⟩ 1478, .str ⟨#[44]⟩ 1481, .str ⟨#[45]⟩ 1484, .str ⟨#[46]⟩ 1487, .str ⟨#[47]⟩ 1490, .str ⟨#[48]⟩ 1493, .str ⟨#[49]⟩ 1496, .str ⟨#[50]⟩ 1499, .str ⟨#[51]⟩ 1502, .str ⟨#[52]⟩ 1505, .str ⟨#[53]⟩ 1508, .str ⟨#[54]⟩ 1511, .str ⟨#[55]⟩ 1514, .str ⟨#[56]⟩ 1517, .str ⟨#[57]⟩ 1520, .str ⟨#[58]⟩ 1523, .str ⟨#[59]⟩ 1526, .str ⟨#[60]⟩ 1529, .str ⟨#[61, 51, 68]⟩ 441, .str ⟨#[62]⟩ 1532, .str ⟨#[63]⟩ 1535, .str ⟨#[64]⟩ 1538, .str ⟨#[65]⟩ 1541, .str ⟨#[66]⟩ 1544, .str ⟨#[67]⟩ 1547, .str ⟨#[68]⟩ 1550, .str ⟨#[69]⟩ 1553, .str ⟨#[70]⟩ 1556, .str ⟨#[71]⟩ 1559, .str ⟨#[72]⟩ 1562, .str ⟨#[73]⟩ 1565, .str ⟨#[74]⟩ 1568, .str ⟨#[75]⟩ 1571, .str ⟨#[76]⟩ 1574, .str ⟨#[77]⟩ 1577, .str ⟨#[78]⟩ 1580, .str ⟨#[79]⟩ 1583, .str ⟨#[80]⟩ 1586, .str ⟨#[81]⟩ 1589, .str ⟨#[82]⟩ 1592, .str ⟨#[83]⟩ 1595, .str ⟨#[84]⟩ 1598, .str ⟨#[85]⟩ 1601, .str ⟨#[86]⟩ 1604, .str ⟨#[87]⟩ 1607, .str ⟨#[88]⟩ 1610, .str ⟨#[89]⟩ 1613, .str ⟨#[90]⟩ 1616, .str ⟨#[91]⟩ 1619, .str ⟨#[92]⟩ 1622, .str ⟨#[93]⟩ 1625, .str ⟨#[94]⟩ 1628, .str ⟨#[95]⟩ 1631, .str ⟨#[96]⟩ 1634, .str ⟨#[97]⟩ 1637, .str ⟨#[98]⟩ 1640, .str ⟨#[99]⟩ 1643, .str ⟨#[100]⟩ 1646, .str ⟨#[101]⟩ 1649, .str ⟨#[102]⟩ 1652, .str ⟨#[103]⟩ 1655, .str ⟨#[104]⟩ 1658, .str ⟨#[105]⟩ 1661, .str ⟨#[106]⟩ 1664, .str ⟨#[107]⟩ 1667, .str ⟨#[108]⟩ 1670, .str ⟨#[109]⟩ 1673, .str ⟨#[110]⟩ 1676, .str ⟨#[111]⟩ 1679, .str ⟨#[112]⟩ 1682, .str ⟨#[113]⟩ 1685, .str ⟨#[114]⟩ 1688, .str ⟨#[115]⟩ 1691, .str ⟨#[116]⟩ 1694, .str ⟨#[117]⟩ 1697, .str ⟨#[118]⟩ 1700, .str ⟨#[119]⟩ 1703, .str ⟨#[120]⟩ 1706, .str ⟨#[121]⟩ 1709, .str ⟨#[122]⟩ 1712, .str ⟨#[123]⟩ 1715, .str ⟨#[124]⟩ 1718, .str ⟨#[125]⟩ 1721, .str ⟨#[126]⟩ 1724, .str ⟨#[61, 55, 70]⟩ 705, .str ⟨#[61, 56, 48]⟩ 709, .str ⟨#[61, 56, 49]⟩ 713, .str ⟨#[61, 56, 50]⟩ 717, .str ⟨#[61, 56, 51]⟩ 721, .str ⟨#[61, 56, 52]⟩ 725, .str ⟨#[61, 56, 53]⟩ 729, .str ⟨#[61, 56, 54]⟩ 733, .str ⟨#[61, 56, 55]⟩ 737, .str ⟨#[61, 56, 56]⟩ 741, .str ⟨#[61, 56, 57]⟩ 745, .str ⟨#[61, 56, 65]⟩ 749, .str ⟨#[61, 56, 66]⟩ 753, .str ⟨#[61, 56, 67]⟩ 757, .str ⟨#[61, 56, 68]⟩ 761, .str ⟨#[61, 56, 69]⟩ 765, .str ⟨#[61, 56, 70]⟩ 769, .str ⟨#[61, 57, 48]⟩ 773, .str ⟨#[61, 57, 49]⟩ 777, .str ⟨#[61, 57, 50]⟩ 781, .str ⟨#[61, 57, 51]⟩ 785, .str ⟨#[61, 57, 52]⟩ 789, .str ⟨#[61, 57, 53]⟩ 793, .str ⟨#[61, 57, 54]⟩ 797, .str ⟨#[61, 57, 55]⟩ 801, .str ⟨#[61, 57, 56]⟩ 805, .str ⟨#[61, 57, 57]⟩ 809, .str ⟨#[61, 57, 65]⟩ 813, .str ⟨#[61, 57, 66]⟩ 817, .str ⟨#[61, 57, 67]⟩ 821, .str ⟨#[61, 57, 68]⟩ 825, .str ⟨#[61, 57, 69]⟩ 829, .str ⟨#[61, 57, 70]⟩ 833, .str ⟨#[61, 65, 48]⟩ 837, .str ⟨#[61, 65, 49]⟩ 841, .str ⟨#[61, 65, 50]⟩ 845, .str ⟨#[61, 65, 51]⟩ 849, .str ⟨#[61, 65, 52]⟩ 853, .str ⟨#[61, 65, 53]⟩ 857, .str ⟨#[61, 65, 54]⟩ 861, .str ⟨#[61, 65, 55]⟩ 865, .str ⟨#[61, 65, 56]⟩ 869, .str ⟨#[61, 65, 57]⟩ 873, .str ⟨#[61, 65, 65]⟩ 877, .str ⟨#[61, 65, 66]⟩ 881, .str ⟨#[61, 65, 67]⟩ 885, .str ⟨#[61, 65, 68]⟩ 889, .str ⟨#[61, 65, 69]⟩ 893, .str ⟨#[61, 65, 70]⟩ 897, .str ⟨#[61, 66, 48]⟩ 901, .str ⟨#[61, 66, 49]⟩ 905, .str ⟨#[61, 66, 50]⟩ 909, .str ⟨#[61, 66, 51]⟩ 913, .str ⟨#[61, 66, 52]⟩ 917, .str ⟨#[61, 66, 53]⟩ 921, .str ⟨#[61, 66, 54]⟩ 925, .str ⟨#[61, 66, 55]⟩ 929, .str ⟨#[61, 66, 56]⟩ 933, .str ⟨#[61, 66, 57]⟩ 937, .str ⟨#[61, 66, 65]⟩ 941, .str ⟨#[61, 66, 66]⟩ 945, .str ⟨#[61, 66, 67]⟩ 949, .str ⟨#[61, 66, 68]⟩ 953, .str ⟨#[61, 66, 69]⟩ 957, .str ⟨#[61, 66, 70]⟩ 961, .str ⟨#[61, 67, 48]⟩ 965, .str ⟨#[61, 67, 49]⟩ 969, .str ⟨#[61, 67, 50]⟩ 973, .str ⟨#[61, 67, 51]⟩ 977, .str ⟨#[61, 67, 52]⟩ 981, .str ⟨#[61, 67, 53]⟩ 985, .str ⟨#[61, 67, 54]⟩ 989, .str ⟨#[61, 67, 55]⟩ 993, .str ⟨#[61, 67, 56]⟩ 997, .str ⟨#[61, 67, 57]⟩ 1001, .str ⟨#[61, 67, 65]⟩ 1005, .str ⟨#[61, 67, 66]⟩ 1009, .str ⟨#[61, 67, 67]⟩ 1013, .str ⟨#[61, 67, 68]⟩ 1017, .str ⟨#[61, 67, 69]⟩ 1021, .str ⟨#[61, 67, 70]⟩ 1025, .str ⟨#[61, 68, 48]⟩ 1029, .str ⟨#[61, 68, 49]⟩ 1033, .str ⟨#[61, 68, 50]⟩ 1037, .str ⟨#[61, 68, 51]⟩ 1041, .str ⟨#[61, 68, 52]⟩ 1045, .str ⟨#[61, 68, 53]⟩ 1049, .str ⟨#[61, 68, 54]⟩ 1053, .str ⟨#[61, 68, 55]⟩ 1057, .str ⟨#[61, 68, 56]⟩ 1061, .str ⟨#[61, 68, 57]⟩ 1065, .str ⟨#[61, 68, 65]⟩ 1069, .str ⟨#[61, 68, 66]⟩ 1073, .str ⟨#[61, 68, 67]⟩ 1077, .str ⟨#[61, 68, 68]⟩ 1081, .str ⟨#[61, 68, 69]⟩ 1085, .str ⟨#[61, 68, 70]⟩ 1089, .str ⟨#[61, 69, 48]⟩ 1093, .str ⟨#[61, 69, 49]⟩ 1097, .str ⟨#[61, 69, 50]⟩ 1101, .str ⟨#[61, 69, 51]⟩ 1105, .str ⟨#[61, 69, 52]⟩ 1109, .str ⟨#[61, 69, 53]⟩ 1113, .str ⟨#[61, 69, 54]⟩ 1117, .str ⟨#[61, 69, 55]⟩ 1121, .str ⟨#[61, 69, 56]⟩ 1125, .str ⟨#[61, 69, 57]⟩ 1129, .str ⟨#[61, 69, 65]⟩ 1133, .str ⟨#[61, 69, 66]⟩ 1137, .str ⟨#[61, 69, 67]⟩ 1141, .str ⟨#[61, 69, 68]⟩ 1145, .str ⟨#[61, 69, 69]⟩ 1149, .str ⟨#[61, 69, 70]⟩ 1153, .str ⟨#[61, 70, 48]⟩ 1157, .str ⟨#[61, 70, 49]⟩ 1161, .str ⟨#[61, 70, 50]⟩ 1165, .str ⟨#[61, 70, 51]⟩ 1169, .str ⟨#[61, 70, 52]⟩ 1173, .str ⟨#[61, 70, 53]⟩ 1177, .str ⟨#[61, 70, 54]⟩ 1181, .str ⟨#[61, 70, 55]⟩ 1185, .str ⟨#[61, 70, 56]⟩ 1189, .str ⟨#[61, 70, 57]⟩ 1193, .str ⟨#[61, 70, 65]⟩ 1197, .str ⟨#[61, 70, 66]⟩ 1201, .str ⟨#[61, 70, 67]⟩ 1205, .str ⟨#[61, 70, 68]⟩ 1209, .str ⟨#[61, 70, 69]⟩ 1213, .str ⟨#[61, 70, 70]⟩ 1217]).toArray 0, #[]⟩
noncomputable def o28_35 (P : Params) : Obj := ⟨.type "bytes_iterator", none, .fields ([.none, .int 95 0]).toArray, #[]⟩
noncomputable def o29_36 (P : Params) : Obj := ⟨.type "tuple", none, .seq ([]).toArray 0, #[]⟩
noncomputable def o30_37 (P : Params) : Obj := ⟨.type "StopIteration", none, .fields ([.ref 29, .none, .none, .none, .bool false, .none]).toArray, #[]⟩
noncomputable def tr_s12 (P : Params) : BT := (.node (boot_o_0 P) (.node (boot_o_1 P) (.node (o3_33 P) (.node (boot_o_7 P) (.node (o15_10 P) .nil .nil) (.node (o23_19 P) .nil .nil)) (.node (o11_0 P) (.node (o19_14 P) .nil .nil) (.node (o27_28 P) .nil .nil))) (.node (boot_o_5 P) (.node (boot_o_9 P) (.node (o17_12 P) .nil .nil) (.node (o25_26 P) .nil .nil)) (.node (o13_2 P) (.node (o21_17 P) .nil .nil) (.node (o29_36 P) .nil .nil)))) (.node (boot_o_2 P) (.node (boot_o_4 P) (.node (boot_o_8 P) (.node (o16_11 P) .nil .nil) (.node (o24_34 P) .nil .nil)) (.node (o12_1 P) (.node (o20_15 P) .nil .nil) (.node (o28_35 P) .nil .nil))) (.node (boot_o_6 P) (.node (boot_o_10 P) (.node (o18_13 P) .nil .nil) (.node (o26_27 P) .nil .nil)) (.node (o14_3 P) (.node (o22_29 P) .nil .nil) (.node (o30_37 P) .nil .nil)))))
noncomputable def s12 (w : World) (os : OsState) : SharedT := ⟨tr_s12 w.params, 31, life0, Array.mk [], boot_drawn, 1728, os⟩
theorem lp12_end (w : World) (os : OsState) : PySem.W.Fast.tw10110043849684766642 PySem.W.Fast.tw14364793385576792824 PR w 11 ann0 1 18 (lp12_s95 w os) lp12_T = some (.next, s12 w os, cE, ⟨14, 9, 14, 110⟩) := by kernel_rfl
theorem lp12_rest (w : World) (os : OsState) : segRun treeTable PR w 11 ann0 1 4248 (lp12_s1 w os).abs lp12_T = some (.next, (s12 w os).abs, cE, ⟨14, 9, 14, 110⟩) := (seg_go (n := 360) (segGo_of (goT (lp12_go1 w os))) (seg_go (n := 360) (segGo_of (goT (lp12_go9 w os))) (seg_go (n := 360) (segGo_of (goT (lp12_go17 w os))) (seg_go (n := 360) (segGo_of (goT (lp12_go25 w os))) (seg_go (n := 360) (segGo_of (goT (lp12_go33 w os))) (seg_go (n := 360) (segGo_of (goT (lp12_go41 w os))) (seg_go (n := 360) (segGo_of (goT (lp12_go49 w os))) (seg_go (n := 360) (segGo_of (goT (lp12_go57 w os))) (seg_go (n := 360) (segGo_of (goT (lp12_go65 w os))) (seg_go (n := 360) (segGo_of (goT (lp12_go73 w os))) (seg_go (n := 360) (segGo_of (goT (lp12_go81 w os))) (seg_go (n := 270) (segGo_of (goT (lp12_go89 w os))) (segRun_of (runT (lp12_end w os)))))))))))))))
def lp12_P (w : World) : Prop := ∀ os : OsState, segRun treeTable PR w 11 ann0 1 4303 (s11 w os).abs (piecesOf lp12_sts env0 cE ⟨13, 0, 13, 28⟩ B0) = some (.next, (s12 w os).abs, cE, ⟨14, 9, 14, 110⟩)
theorem lp12_start_f_a (w : World) (os : OsState) : segRun treeTable PR (w.withFollow "special-get-raises" false) 11 ann0 1 (55 + 4248) (s11 (w.withFollow "special-get-raises" false) os).abs (piecesOf lp12_sts env0 cE ⟨13, 0, 13, 28⟩ B0) = some (.next, (s12 (w.withFollow "special-get-raises" false) os).abs, cE, ⟨14, 9, 14, 110⟩) := startT (s' := lp12_s1 (w.withFollow "special-get-raises" false) os) (T := lp12_T) (lp12_start_f w os) (lp12_rest (w.withFollow "special-get-raises" false) os)
theorem lp12_start_f_b (w : World) : lp12_P (w.withFollow "special-get-raises" false) := fun os => segRun_up (n := 55 + 4248) (m := 4303) (Nat.le_of_ble_eq_true (by kernel_rfl)) (lp12_start_f_a w os)
theorem lp12_start_t_a (w : World) (os : OsState) : segRun treeTable PR (w.withFollow "special-get-raises" true) 11 ann0 1 (55 + 4248) (s11 (w.withFollow "special-get-raises" true) os).abs (piecesOf lp12_sts env0 cE ⟨13, 0, 13, 28⟩ B0) = some (.next, (s12 (w.withFollow "special-get-raises" true) os).abs, cE, ⟨14, 9, 14, 110⟩) := startT (s' := lp12_s1 (w.withFollow "special-get-raises" true) os) (T := lp12_T) (lp12_start_t w os) (lp12_rest (w.withFollow "special-get-raises" true) os)
theorem lp12_start_t_b (w : World) : lp12_P (w.withFollow "special-get-raises" true) := fun os => segRun_up (n := 55 + 4248) (m := 4303) (Nat.le_of_ble_eq_true (by kernel_rfl)) (lp12_start_t_a w os)
theorem lp12_all (w : World) : lp12_P w := (byRow2 "special-get-raises" (P := fun w => lp12_P w) (fun w => (lp12_start_f_b w)) (fun w => (lp12_start_t_b w)) w)
noncomputable def o3_38 (P : Params) : Obj := ⟨.type "dict", none, .dict ([⟨PyData.keyHash P ⟨#[95, 95, 110, 97, 109, 101, 95, 95]⟩, .str ⟨#[95, 95, 110, 97, 109, 101, 95, 95]⟩ 165, .str ⟨#[99, 112, 121, 51, 49, 51, 46, 101, 109, 97, 105, 108, 46, 113, 117, 111, 112, 114, 105, 109, 105, 109, 101]⟩ 1229⟩, ⟨PyData.keyHash P ⟨#[95, 95, 100, 111, 99, 95, 95]⟩, .str ⟨#[95, 95, 100, 111, 99, 95, 95]⟩ 166, .none⟩, ⟨PyData.keyHash P ⟨#[95, 95, 112, 97, 99, 107, 97, 103, 101, 95, 95]⟩, .str ⟨#[95, 95, 112, 97, 99, 107, 97, 103, 101, 95, 95]⟩ 167, .none⟩, ⟨PyData.keyHash P ⟨#[95, 95, 108, 111, 97, 100, 101, 114, 95, 95]⟩, .str ⟨#[95, 95, 108, 111, 97, 100, 101, 114, 95, 95]⟩ 168, .builtin "__main__.__loader__#opaque"⟩, ⟨PyData.keyHash P ⟨#[95, 95, 115, 112, 101, 99, 95, 95]⟩, .str ⟨#[95, 95, 115, 112, 101, 99, 95, 95]⟩ 169, .none⟩, ⟨PyData.keyHash P ⟨#[95, 95, 97, 110, 110, 111, 116, 97, 116, 105, 111, 110, 115, 95, 95]⟩, .str ⟨#[95, 95, 97, 110, 110, 111, 116, 97, 116, 105, 111, 110, 115, 95, 95]⟩ 170, .ref 6⟩, ⟨PyData.keyHash P ⟨#[95, 95, 98, 117, 105, 108, 116, 105, 110, 115, 95, 95]⟩, .str ⟨#[95, 95, 98, 117, 105, 108, 116, 105, 110, 115, 95, 95]⟩ 171, .ref 4⟩, ⟨PyData.keyHash P ⟨#[95, 95, 102, 105, 108, 101, 95, 95]⟩, .str ⟨#[95, 95, 102, 105, 108, 101, 95, 95]⟩ 173, .str ⟨#[47, 99, 108, 97, 105, 109, 47, 99, 117, 116, 46, 112, 121]⟩ 172⟩, ⟨PyData.keyHash P ⟨#[95, 95, 99, 97, 99, 104, 101, 100, 95, 95]⟩, .str ⟨#[95, 95, 99, 97, 99, 104, 101, 100, 95, 95]⟩ 174, .none⟩, ⟨PyData.keyHash P ⟨#[67, 82, 76, 70]⟩, .str ⟨#[67, 82, 76, 70]⟩ 188, .str ⟨#[13, 10]⟩ 187⟩, ⟨PyData.keyHash P ⟨#[78, 76]⟩, .str ⟨#[78, 76]⟩ 190, .str ⟨#[10]⟩ 189⟩, ⟨PyData.keyHash P ⟨#[95, 81, 85, 79, 80, 82, 73, 95, 77, 65, 80]⟩, .str ⟨#[95, 81, 85, 79, 80, 82, 73, 95, 77, 65, 80]⟩ 1218, .ref 17⟩, ⟨PyData.keyHash P ⟨#[95, 81, 85, 79, 80, 82, 73, 95, 72, 69, 65, 68, 69, 82, 95, 77, 65, 80]⟩, .str ⟨#[95, 81, 85, 79, 80, 82, 73, 95, 72, 69, 65, 68, 69, 82, 95, 77, 65, 80]⟩ 1219, .ref 22⟩, ⟨PyData.keyHash P ⟨#[95, 81, 85, 79, 80, 82, 73, 95, 66, 79, 68, 89, 95, 77, 65, 80]⟩, .str ⟨#[95, 81, 85, 79, 80, 82, 73, 95, 66, 79, 68, 89, 95, 77, 65, 80]⟩ 1220, .ref 24⟩, ⟨PyData.keyHash P ⟨#[97, 115, 99, 105, 105, 95, 108, 111, 119, 101, 114, 99, 97, 115, 101]⟩, .str ⟨#[97, 115, 99, 105, 105, 95, 108, 111, 119, 101, 114, 99, 97, 115, 101]⟩ 1222, .str ⟨#[97, 98, 99, 100, 101, 102, 103, 104, 105, 106, 107, 108, 109, 110, 111, 112, 113, 114, 115, 116, 117, 118, 119, 120, 121, 122]⟩ 1221⟩, ⟨PyData.keyHash P ⟨#[97, 115, 99, 105, 105, 95, 117, 112, 112, 101, 114, 99, 97, 115, 101]⟩, .str ⟨#[97, 115, 99, 105, 105, 95, 117, 112, 112, 101, 114, 99, 97, 115, 101]⟩ 1224, .str ⟨#[65, 66, 67, 68, 69, 70, 71, 72, 73, 74, 75, 76, 77, 78, 79, 80, 81, 82, 83, 84, 85, 86, 87, 88, 89, 90]⟩ 1223⟩, ⟨PyData.keyHash P ⟨#[97, 115, 99, 105, 105, 95, 108, 101, 116, 116, 101, 114, 115]⟩, .str ⟨#[97, 115, 99, 105, 105, 95, 108, 101, 116, 116, 101, 114, 115]⟩ 1226, .str ⟨#[97, 98, 99, 100, 101, 102, 103, 104, 105, 106, 107, 108, 109, 110, 111, 112, 113, 114, 115, 116, 117, 118, 119, 120, 121, 122, 65, 66, 67, 68, 69, 70, 71, 72, 73, 74, 75, 76, 77, 78, 79, 80, 81, 82, 83, 84, 85, 86, 87, 88, 89, 90]⟩ 1225⟩, ⟨PyData.keyHash P ⟨#[100, 105, 103, 105, 116, 115]⟩, .str ⟨#[100, 105, 103, 105, 116, 115]⟩ 1228, .str ⟨#[48, 49, 50, 51, 52, 53, 54, 55, 56, 57]⟩ 1227⟩, ⟨PyData.keyHash P ⟨#[113, 117, 111, 116, 101]⟩, .str ⟨#[113, 117, 111, 116, 101]⟩ 1734, .ref 37⟩, ⟨PyData.keyHash P ⟨#[95, 81, 85, 79, 80, 82, 73, 95, 66, 79, 68, 89, 95, 69, 78, 67, 79, 68, 69, 95, 77, 65, 80]⟩, .str ⟨#[95, 81, 85, 79, 80, 82, 73, 95, 66, 79, 68, 89, 95, 69, 78, 67, 79, 68, 69, 95, 77, 65, 80]⟩ 1735, .ref 39⟩]).toArray 22, #[]⟩
noncomputable def o12_39 (P : Params) : Obj := ⟨.none, none, .fields ([.int 16 0, .int 0 0, .ref 36]).toArray, #[]⟩
noncomputable def o31_40 (P : Params) : Obj := ⟨.type "tuple", none, .seq ([]).toArray 0, #[]⟩
noncomputable def o32_41 (P : Params) : Obj := ⟨.none, none, .fields ([]).toArray, #[]⟩
noncomputable def o33_42 (P : Params) : Obj := ⟨.type "tuple", none, .seq ([.str ⟨#[99]⟩ 1731]).toArray 0, #[]⟩
noncomputable def o34_43 (P : Params) : Obj := ⟨.type "tuple", none, .seq ([]).toArray 0, #[]⟩
noncomputable def o35_44 (P : Params) : Obj := ⟨.none, none, .func { name := ⟨#[113, 117, 111, 116, 101]⟩, qualname := ⟨#[113, 117, 111, 116, 101]⟩, params := fArgs (stm 13), body := .stmts (fBody (stm 13)), scope := fScope (stm 13), globals := 0, closure := [], defaults := .none, kwdefaults := .none, doc := .none, pyModule := .none, annotations := none, code := .none, closureTuple := .none, builtins := 0 }, #[]⟩
noncomputable def o36_45 (P : Params) : Obj := ⟨.type "code", none, .fields ([.str ⟨#[113, 117, 111, 116, 101]⟩ 1728, .str ⟨#[113, 117, 111, 116, 101]⟩ 1729, .str ⟨#[47, 99, 108, 97, 105, 109, 47, 99, 117, 116, 46, 112, 121]⟩ 1730, .int 16 0, .int 1 0, .int 0 0, .int 0 0, .int 3 0, .ref 31, .bool true, .int 181 0, .ref 32, .none, .ref 33, .ref 34, .ref 35, .int 1732 0, .int 16 0, .str ⟨#[47, 99, 108, 97, 105, 109, 47, 99, 117, 116, 46, 112, 121]⟩ 1733]).toArray, #[]⟩
noncomputable def o37_46 (P : Params) : Obj := ⟨.type "function", none, .func { name := ⟨#[113, 117, 111, 116, 101]⟩, qualname := ⟨#[113, 117, 111, 116, 101]⟩, params := fArgs (stm 13), body := .stmts (fBody (stm 13)), scope := fScope (stm 13), globals := 3, closure := [], defaults := .none, kwdefaults := .none, doc := .none, pyModule := .str ⟨#[99, 112, 121, 51, 49, 51, 46, 101, 109, 97, 105, 108, 46, 113, 117, 111, 112, 114, 105, 109, 105, 109, 101]⟩ 1229, annotations := none, code := .ref 36, closureTuple := .none, builtins := 0 }, #[]⟩
noncomputable def o38_47 (P : Params) : Obj := ⟨.type "slice", none, .fields ([.none, .none, .none]).toArray, #[]⟩
noncomputable def o39_48 (P : Params) : Obj := ⟨.type "list", none, .seq ([.str ⟨#[61, 48, 48]⟩ 197, .str ⟨#[61, 48, 49]⟩ 201, .str ⟨#[61, 48, 50]⟩ 205, .str ⟨#[61, 48, 51]⟩ 209, .str ⟨#[61, 48, 52]⟩ 213, .str ⟨#[61, 48, 53]⟩ 217, .str ⟨#[61, 48, 54]⟩ 221, .str ⟨#[61, 48, 55]⟩ 225, .str ⟨#[61, 48, 56]⟩ 229, .str ⟨#[9]⟩ 1727, .str ⟨#[10]⟩ 1742, .str ⟨#[61, 48, 66]⟩ 241, .str ⟨#[61, 48, 67]⟩ 245, .str ⟨#[13]⟩ 1739, .str ⟨#[61, 48, 69]⟩ 253, .str ⟨#[61, 48, 70]⟩ 257, .str ⟨#[61, 49, 48]⟩ 261, .str ⟨#[61, 49, 49]⟩ 265, .str ⟨#[61, 49, 50]⟩ 269, .str ⟨#[61, 49, 51]⟩ 273, .str ⟨#[61, 49, 52]⟩ 277, .str ⟨#[61, 49, 53]⟩ 281, .str ⟨#[61, 49, 54]⟩ 285, .str ⟨#[61, 49, 55]⟩ 289, .str ⟨#[61, 49, 56]⟩ 293, .str ⟨#[61, 49, 57]⟩ 297, .str ⟨#[61, 49, 65]⟩ 301, .str ⟨#[61, 49, 66]⟩ 305, .str ⟨#[61, 49, 67]⟩ 309, .str ⟨#[61, 49, 68]⟩ 313, .str ⟨#[61, 49, 69]⟩ 317, .str ⟨#[61, 49, 70]⟩ 321, .str ⟨#[32]⟩ 1445, .str ⟨#[33]⟩ 1448, .str ⟨#[34]⟩ 1451, .str ⟨#[35]⟩ 1454, .str ⟨#[36]⟩ 1457, .str ⟨#[37]⟩ 1460, .str ⟨#[38]⟩ 1463, .str ⟨#[39]⟩ 1466, .str ⟨#[40]⟩ 1469, .str ⟨#[41]⟩ 1472, .str ⟨#[42]⟩ 1475, .str ⟨#[43]⟩ 1478, .str ⟨#[44]⟩ 1481, .str ⟨#[45]⟩ 1484, .str ⟨#[46]⟩ 1487, .str ⟨#[47]⟩ 1490, .str ⟨#[48]⟩ 1493, .str ⟨#[49]⟩ 1496, .str ⟨#[50]⟩ 1499, .str ⟨#[51]⟩ 1502, .str ⟨#[52]⟩ 1505, .str ⟨#[53]⟩ 1508, .str ⟨#[54]⟩ 1511, .str ⟨#[55]⟩ 1514, .str ⟨#[56]⟩ 1517, .str ⟨#[57]⟩ 1520, .str ⟨#[58]⟩ 1523, .str ⟨#[59]⟩ 1526, .str ⟨#[60]⟩ 1529, .str ⟨#[61, 51, 68]⟩ 441, .str ⟨#[62]⟩ 1532, .str ⟨#[63]⟩ 1535, .str ⟨#[64]⟩ 1538, .str ⟨#[65]⟩ 1541, .str ⟨#[66]⟩ 1544, .str ⟨#[67]⟩ 1547, .str ⟨#[68]⟩ 1550, .str ⟨#[69]⟩ 1553, .str ⟨#[70]⟩ 1556, .str ⟨#[71]⟩ 1559, .str ⟨#[72]⟩ 1562, .str ⟨#[73]⟩ 1565, .str ⟨#[74]⟩ 1568, .str ⟨#[75]⟩ 1571, .str ⟨#[76]⟩ 1574, .str ⟨#[77]⟩ 1577, .str ⟨#[78]⟩ 1580, .str ⟨#[79]⟩ 1583, .str ⟨#[80]⟩ 1586, .str ⟨#[81]⟩ 1589, .str ⟨#[82]⟩ 1592, .str ⟨#[83]⟩ 1595, .str ⟨#[84]⟩ 1598, .str ⟨#[85]⟩ 1601, .str ⟨#[86]⟩ 1604, .str ⟨#[87]⟩ 1607, .str ⟨#[88]⟩ 1610, .str ⟨#[89]⟩ 1613, .str ⟨#[90]⟩ 1616, .str ⟨#[91]⟩ 1619, .str ⟨#[92]⟩ 1622, .str ⟨#[93]⟩ 1625, .str ⟨#[94]⟩ 1628, .str ⟨#[95]⟩ 1631, .str ⟨#[96]⟩ 1634, .str ⟨#[97]⟩ 1637, .str ⟨#[98]⟩ 1640, .str ⟨#[99]⟩ 1643, .str ⟨#[100]⟩ 1646, .str ⟨#[101]⟩ 1649, .str ⟨#[102]⟩ 1652, .str ⟨#[103]⟩ 1655, .str ⟨#[104]⟩ 1658, .str ⟨#[105]⟩ 1661, .str ⟨#[106]⟩ 1664, .str ⟨#[107]⟩ 1667, .str ⟨#[108]⟩ 1670, .str ⟨#[109]⟩ 1673, .str ⟨#[110]⟩ 1676, .str ⟨#[111]⟩ 1679, .str ⟨#[112]⟩ 1682, .str ⟨#[113]⟩ 1685, .str ⟨#[114]⟩ 1688, .str ⟨#[115]⟩ 1691, .str ⟨#[116]⟩ 1694, .str ⟨#[117]⟩ 1697, .str ⟨#[118]⟩ 1700, .str ⟨#[119]⟩ 1703, .str ⟨#[120]⟩ 1706, .str ⟨#[121]⟩ 1709, .str ⟨#[122]⟩ 1712, .str ⟨#[123]⟩ 1715, .str ⟨#[124]⟩ 1718, .str ⟨#[125]⟩ 1721, .str ⟨#[126]⟩ 1724, .str ⟨#[61, 55, 70]⟩ 705, .str ⟨#[61, 56, 48]⟩ 709, .str ⟨#[61, 56, 49]⟩ 713, .str ⟨#[61, 56, 50]⟩ 717, .str ⟨#[61, 56, 51]⟩ 721, .str ⟨#[61, 56, 52]⟩ 725, .str ⟨#[61, 56, 53]⟩ 729, .str ⟨#[61, 56, 54]⟩ 733, .str ⟨#[61, 56, 55]⟩ 737, .str ⟨#[61, 56, 56]⟩ 741, .str ⟨#[61, 56, 57]⟩ 745, .str ⟨#[61, 56, 65]⟩ 749, .str ⟨#[61, 56, 66]⟩ 753, .str ⟨#[61, 56, 67]⟩ 757, .str ⟨#[61, 56, 68]⟩ 761, .str ⟨#[61, 56, 69]⟩ 765, .str ⟨#[61, 56, 70]⟩ 769, .str ⟨#[61, 57, 48]⟩ 773, .str ⟨#[61, 57, 49]⟩ 777, .str ⟨#[61, 57, 50]⟩ 781, .str ⟨#[61, 57, 51]⟩ 785, .str ⟨#[61, 57, 52]⟩ 789, .str ⟨#[61, 57, 53]⟩ 793, .str ⟨#[61, 57, 54]⟩ 797, .str ⟨#[61, 57, 55]⟩ 801, .str ⟨#[61, 57, 56]⟩ 805, .str ⟨#[61, 57, 57]⟩ 809, .str ⟨#[61, 57, 65]⟩ 813, .str ⟨#[61, 57, 66]⟩ 817, .str ⟨#[61, 57, 67]⟩ 821, .str ⟨#[61, 57, 68]⟩ 825, .str ⟨#[61, 57, 69]⟩ 829, .str ⟨#[61, 57, 70]⟩ 833, .str ⟨#[61, 65, 48]⟩ 837, .str ⟨#[61, 65, 49]⟩ 841, .str ⟨#[61, 65, 50]⟩ 845, .str ⟨#[61, 65, 51]⟩ 849, .str ⟨#[61, 65, 52]⟩ 853, .str ⟨#[61, 65, 53]⟩ 857, .str ⟨#[61, 65, 54]⟩ 861, .str ⟨#[61, 65, 55]⟩ 865, .str ⟨#[61, 65, 56]⟩ 869, .str ⟨#[61, 65, 57]⟩ 873, .str ⟨#[61, 65, 65]⟩ 877, .str ⟨#[61, 65, 66]⟩ 881, .str ⟨#[61, 65, 67]⟩ 885, .str ⟨#[61, 65, 68]⟩ 889, .str ⟨#[61, 65, 69]⟩ 893, .str ⟨#[61, 65, 70]⟩ 897, .str ⟨#[61, 66, 48]⟩ 901, .str ⟨#[61, 66, 49]⟩ 905, .str ⟨#[61, 66, 50]⟩ 909, .str ⟨#[61, 66, 51]⟩ 913, .str ⟨#[61, 66, 52]⟩ 917, .str ⟨#[61, 66, 53]⟩ 921, .str ⟨#[61, 66, 54]⟩ 925, .str ⟨#[61, 66, 55]⟩ 929, .str ⟨#[61, 66, 56]⟩ 933, .str ⟨#[61, 66, 57]⟩ 937, .str ⟨#[61, 66, 65]⟩ 941, .str ⟨#[61, 66, 66]⟩ 945, .str ⟨#[61, 66, 67]⟩ 949, .str ⟨#[61, 66, 68]⟩ 953, .str ⟨#[61, 66, 69]⟩ 957, .str ⟨#[61, 66, 70]⟩ 961, .str ⟨#[61, 67, 48]⟩ 965, .str ⟨#[61, 67, 49]⟩ 969, .str ⟨#[61, 67, 50]⟩ 973, .str ⟨#[61, 67, 51]⟩ 977, .str ⟨#[61, 67, 52]⟩ 981, .str ⟨#[61, 67, 53]⟩ 985, .str ⟨#[61, 67, 54]⟩ 989, .str ⟨#[61, 67, 55]⟩ 993, .str ⟨#[61, 67, 56]⟩ 997, .str ⟨#[61, 67, 57]⟩ 1001, .str ⟨#[61, 67, 65]⟩ 1005, .str ⟨#[61, 67, 66]⟩ 1009, .str ⟨#[61, 67, 67]⟩ 1013, .str ⟨#[61, 67, 68]⟩ 1017, .str ⟨#[61, 67, 69]⟩ 1021, .str ⟨#[61, 67, 70]⟩ 1025, .str ⟨#[61, 68, 48]⟩ 1029, .str ⟨#[61, 68, 49]⟩ 1033, .str ⟨#[61, 68, 50]⟩ 1037, .str ⟨#[61, 68, 51]⟩ 1041, .str ⟨#[61, 68, 52]⟩ 1045, .str ⟨#[61, 68, 53]⟩ 1049, .str ⟨#[61, 68, 54]⟩ 1053, .str ⟨#[61, 68, 55]⟩ 1057, .str ⟨#[61, 68, 56]⟩ 1061, .str ⟨#[61, 68, 57]⟩ 1065, .str ⟨#[61, 68, 65]⟩ 1069, .str ⟨#[61, 68, 66]⟩ 1073, .str ⟨#[61, 68, 67]⟩ 1077, .str ⟨#[61, 68, 68]⟩ 1081, .str ⟨#[61, 68, 69]⟩ 1085, .str ⟨#[61, 68, 70]⟩ 1089, .str ⟨#[61, 69, 48]⟩ 1093, .str ⟨#[61, 69, 49]⟩ 1097, .str ⟨#[61, 69, 50]⟩ 1101, .str ⟨#[61, 69, 51]⟩ 1105, .str ⟨#[61, 69, 52]⟩ 1109, .str ⟨#[61, 69, 53]⟩ 1113, .str ⟨#[61, 69, 54]⟩ 1117, .str ⟨#[61, 69, 55]⟩ 1121, .str ⟨#[61, 69, 56]⟩ 1125, .str ⟨#[61, 69, 57]⟩ 1129, .str ⟨#[61, 69, 65]⟩ 1133, .str ⟨#[61, 69, 66]⟩ 1137, .str ⟨#[61, 69, 67]⟩ 1141, .str ⟨#[61, 69, 68]⟩ 1145, .str ⟨#[61, 69, 69]⟩ 1149, .str ⟨#[61, 69, 70]⟩ 1153, .str ⟨#[61, 70, 48]⟩ 1157, .str ⟨#[61, 70, 49]⟩ 1161, .str ⟨#[61, 70, 50]⟩ 1165, .str ⟨#[61, 70, 51]⟩ 1169, .str ⟨#[61, 70, 52]⟩ 1173, .str ⟨#[61, 70, 53]⟩ 1177, .str ⟨#[61, 70, 54]⟩ 1181, .str ⟨#[61, 70, 55]⟩ 1185, .str ⟨#[61, 70, 56]⟩ 1189, .str ⟨#[61, 70, 57]⟩ 1193, .str ⟨#[61, 70, 65]⟩ 1197, .str ⟨#[61, 70, 66]⟩ 1201, .str ⟨#[61, 70, 67]⟩ 1205, .str ⟨#[61, 70, 68]⟩ 1209, .str ⟨#[61, 70, 69]⟩ 1213, .str ⟨#[61, 70, 70]⟩ 1217]).toArray 0, #[]⟩
noncomputable def o40_49 (P : Params) : Obj := ⟨.type "bytes_iterator", none, .fields ([.none, .int 2 0]).toArray, #[]⟩
noncomputable def o41_50 (P : Params) : Obj := ⟨.type "tuple", none, .seq ([]).toArray 0, #[]⟩
noncomputable def o42_51 (P : Params) : Obj := ⟨.type "StopIteration", none, .fields ([.ref 41, .none, .none, .none, .bool false, .none]).toArray, #[]⟩
noncomputable def tr_s16 (P : Params) : BT := (.node (boot_o_0 P) (.node (boot_o_1 P) (.node (o3_38 P) (.node (boot_o_7 P) (.node (o15_10 P) (.node (o31_40 P) .nil .nil) .nil) (.node (o23_19 P) (.node (o39_48 P) .nil .nil) .nil)) (.node (o11_0 P) (.node (o19_14 P) (.node (o35_44 P) .nil .nil) .nil) (.node (o27_28 P) .nil .nil))) (.node (boot_o_5 P) (.node (boot_o_9 P) (.node (o17_12 P) (.node (o33_42 P) .nil .nil) .nil) (.node (o25_26 P) (.node (o41_50 P) .nil .nil) .nil)) (.node (o13_2 P) (.node (o21_17 P) (.node (o37_46 P) .nil .nil) .nil) (.node (o29_36 P) .nil .nil)))) (.node (boot_o_2 P) (.node (boot_o_4 P) (.node (boot_o_8 P) (.node (o16_11 P) (.node (o32_41 P) .nil .nil) .nil) (.node (o24_34 P) (.node (o40_49 P) .nil .nil) .nil)) (.node (o12_39 P) (.node (o20_15 P) (.node (o36_45 P) .nil .nil) .nil) (.node (o28_35 P) .nil .nil))) (.node (boot_o_6 P) (.node (boot_o_10 P) (.node (o18_13 P) (.node (o34_43 P) .nil .nil) .nil) (.node (o26_27 P) (.node (o42_51 P) .nil .nil) .nil)) (.node (o14_3 P) (.node (o22_29 P) (.node (o38_47 P) .nil .nil) .nil) (.node (o30_37 P) .nil .nil)))))
noncomputable def s16 (w : World) (os : OsState) : SharedT := ⟨tr_s16 w.params, 43, life0, Array.mk [], boot_drawn, 1743, os⟩
noncomputable def gr13_sts : List Stmt := [stm 13, stm 14, stm 15, stm 16]
theorem gr13_qf (w : World) (os : OsState) : PySem.W.Fast.tw10110043849684766642 PySem.W.Fast.tw14364793385576792824 PR (w.withFollow "special-get-raises" false) 11 ann0 1 220 (s12 (w.withFollow "special-get-raises" false) os) ⟨(PySem.W.Fast.tw12563942051412417395 gr13_sts env0).wrap doneF deadEnd id id, cE, ⟨14, 9, 14, 110⟩, B0⟩ = some (.next, s16 (w.withFollow "special-get-raises" false) os, cE, ⟨21, 4, 21, 5⟩) := by kernel_rfl
theorem gr13_qt (w : World) (os : OsState) : PySem.W.Fast.tw10110043849684766642 PySem.W.Fast.tw14364793385576792824 PR (w.withFollow "special-get-raises" true) 11 ann0 1 220 (s12 (w.withFollow "special-get-raises" true) os) ⟨(PySem.W.Fast.tw12563942051412417395 gr13_sts env0).wrap doneF deadEnd id id, cE, ⟨14, 9, 14, 110⟩, B0⟩ = some (.next, s16 (w.withFollow "special-get-raises" true) os, cE, ⟨21, 4, 21, 5⟩) := by kernel_rfl
def gr13_P (w : World) : Prop := ∀ os : OsState, segRun treeTable PR w 11 ann0 1 220 (s12 w os).abs (piecesOf gr13_sts env0 cE ⟨14, 9, 14, 110⟩ B0) = some (.next, (s16 w os).abs, cE, ⟨21, 4, 21, 5⟩)
theorem gr13_all (w : World) : gr13_P w := (byRow2 "special-get-raises" (P := fun w => gr13_P w) (fun w => (fun os => startR (gr13_qf w os))) (fun w => (fun os => startR (gr13_qt w os))) w)
noncomputable def o3_52 (P : Params) : Obj := ⟨.type "dict", none, .dict ([⟨PyData.keyHash P ⟨#[95, 95, 110, 97, 109, 101, 95, 95]⟩, .str ⟨#[95, 95, 110, 97, 109, 101, 95, 95]⟩ 165, .str ⟨#[108, 97, 119, 95, 100, 112, 48, 48, 50, 48, 95, 48, 49]⟩ 1763⟩, ⟨PyData.keyHash P ⟨#[95, 95, 100, 111, 99, 95, 95]⟩, .str ⟨#[95, 95, 100, 111, 99, 95, 95]⟩ 166, .none⟩, ⟨PyData.keyHash P ⟨#[95, 95, 112, 97, 99, 107, 97, 103, 101, 95, 95]⟩, .str ⟨#[95, 95, 112, 97, 99, 107, 97, 103, 101, 95, 95]⟩ 167, .none⟩, ⟨PyData.keyHash P ⟨#[95, 95, 108, 111, 97, 100, 101, 114, 95, 95]⟩, .str ⟨#[95, 95, 108, 111, 97, 100, 101, 114, 95, 95]⟩ 168, .builtin "__main__.__loader__#opaque"⟩, ⟨PyData.keyHash P ⟨#[95, 95, 115, 112, 101, 99, 95, 95]⟩, .str ⟨#[95, 95, 115, 112, 101, 99, 95, 95]⟩ 169, .none⟩, ⟨PyData.keyHash P ⟨#[95, 95, 97, 110, 110, 111, 116, 97, 116, 105, 111, 110, 115, 95, 95]⟩, .str ⟨#[95, 95, 97, 110, 110, 111, 116, 97, 116, 105, 111, 110, 115, 95, 95]⟩ 170, .ref 6⟩, ⟨PyData.keyHash P ⟨#[95, 95, 98, 117, 105, 108, 116, 105, 110, 115, 95, 95]⟩, .str ⟨#[95, 95, 98, 117, 105, 108, 116, 105, 110, 115, 95, 95]⟩ 171, .ref 4⟩, ⟨PyData.keyHash P ⟨#[95, 95, 102, 105, 108, 101, 95, 95]⟩, .str ⟨#[95, 95, 102, 105, 108, 101, 95, 95]⟩ 173, .str ⟨#[47, 99, 108, 97, 105, 109, 47, 99, 117, 116, 46, 112, 121]⟩ 172⟩, ⟨PyData.keyHash P ⟨#[95, 95, 99, 97, 99, 104, 101, 100, 95, 95]⟩, .str ⟨#[95, 95, 99, 97, 99, 104, 101, 100, 95, 95]⟩ 174, .none⟩, ⟨PyData.keyHash P ⟨#[67, 82, 76, 70]⟩, .str ⟨#[67, 82, 76, 70]⟩ 188, .str ⟨#[13, 10]⟩ 187⟩, ⟨PyData.keyHash P ⟨#[78, 76]⟩, .str ⟨#[78, 76]⟩ 190, .str ⟨#[10]⟩ 189⟩, ⟨PyData.keyHash P ⟨#[95, 81, 85, 79, 80, 82, 73, 95, 77, 65, 80]⟩, .str ⟨#[95, 81, 85, 79, 80, 82, 73, 95, 77, 65, 80]⟩ 1218, .ref 17⟩, ⟨PyData.keyHash P ⟨#[95, 81, 85, 79, 80, 82, 73, 95, 72, 69, 65, 68, 69, 82, 95, 77, 65, 80]⟩, .str ⟨#[95, 81, 85, 79, 80, 82, 73, 95, 72, 69, 65, 68, 69, 82, 95, 77, 65, 80]⟩ 1219, .ref 22⟩, ⟨PyData.keyHash P ⟨#[95, 81, 85, 79, 80, 82, 73, 95, 66, 79, 68, 89, 95, 77, 65, 80]⟩, .str ⟨#[95, 81, 85, 79, 80, 82, 73, 95, 66, 79, 68, 89, 95, 77, 65, 80]⟩ 1220, .ref 24⟩, ⟨PyData.keyHash P ⟨#[97, 115, 99, 105, 105, 95, 108, 111, 119, 101, 114, 99, 97, 115, 101]⟩, .str ⟨#[97, 115, 99, 105, 105, 95, 108, 111, 119, 101, 114, 99, 97, 115, 101]⟩ 1222, .str ⟨#[97, 98, 99, 100, 101, 102, 103, 104, 105, 106, 107, 108, 109, 110, 111, 112, 113, 114, 115, 116, 117, 118, 119, 120, 121, 122]⟩ 1221⟩, ⟨PyData.keyHash P ⟨#[97, 115, 99, 105, 105, 95, 117, 112, 112, 101, 114, 99, 97, 115, 101]⟩, .str ⟨#[97, 115, 99, 105, 105, 95, 117, 112, 112, 101, 114, 99, 97, 115, 101]⟩ 1224, .str ⟨#[65, 66, 67, 68, 69, 70, 71, 72, 73, 74, 75, 76, 77, 78, 79, 80, 81, 82, 83, 84, 85, 86, 87, 88, 89, 90]⟩ 1223⟩, ⟨PyData.keyHash P ⟨#[97, 115, 99, 105, 105, 95, 108, 101, 116, 116, 101, 114, 115]⟩, .str ⟨#[97, 115, 99, 105, 105, 95, 108, 101, 116, 116, 101, 114, 115]⟩ 1226, .str ⟨#[97, 98, 99, 100, 101, 102, 103, 104, 105, 106, 107, 108, 109, 110, 111, 112, 113, 114, 115, 116, 117, 118, 119, 120, 121, 122, 65, 66, 67, 68, 69, 70, 71, 72, 73, 74, 75, 76, 77, 78, 79, 80, 81, 82, 83, 84, 85, 86, 87, 88, 89, 90]⟩ 1225⟩, ⟨PyData.keyHash P ⟨#[100, 105, 103, 105, 116, 115]⟩, .str ⟨#[100, 105, 103, 105, 116, 115]⟩ 1228, .str ⟨#[48, 49, 50, 51, 52, 53, 54, 55, 56, 57]⟩ 1227⟩, ⟨PyData.keyHash P ⟨#[113, 117, 111, 116, 101]⟩, .str ⟨#[113, 117, 111, 116, 101]⟩ 1734, .ref 37⟩, ⟨PyData.keyHash P ⟨#[95, 81, 85, 79, 80, 82, 73, 95, 66, 79, 68, 89, 95, 69, 78, 67, 79, 68, 69, 95, 77, 65, 80]⟩, .str ⟨#[95, 81, 85, 79, 80, 82, 73, 95, 66, 79, 68, 89, 95, 69, 78, 67, 79, 68, 69, 95, 77, 65, 80]⟩ 1735, .ref 39⟩, ⟨PyData.keyHash P ⟨#[98, 111, 100, 121, 95, 101, 110, 99, 111, 100, 101]⟩, .str ⟨#[98, 111, 100, 121, 95, 101, 110, 99, 111, 100, 101]⟩ 1762, .ref 50⟩, ⟨PyData.keyHash P ⟨#[95, 108, 97, 119, 95, 116, 101, 120, 116]⟩, .str ⟨#[95, 108, 97, 119, 95, 116, 101, 120, 116]⟩ 1775, .ref 57⟩, ⟨PyData.keyHash P ⟨#[95, 108, 97, 119, 95, 111, 99, 116, 101, 116]⟩, .str ⟨#[95, 108, 97, 119, 95, 111, 99, 116, 101, 116]⟩ 1783, .ref 64⟩, ⟨PyData.keyHash P ⟨#[95, 108, 97, 119, 95, 108, 105, 110, 101, 115]⟩, .str ⟨#[95, 108, 97, 119, 95, 108, 105, 110, 101, 115]⟩ 1789, .ref 69⟩, ⟨PyData.keyHash P ⟨#[108, 97, 119]⟩, .str ⟨#[108, 97, 119]⟩ 1795, .ref 74⟩]).toArray 27, #[]⟩
noncomputable def o12_53 (P : Params) : Obj := ⟨.none, none, .fields ([.int 16 0, .int 0 0, .ref 36, .int 22 0, .int 0 0, .ref 49, .int 61 0, .int 0 0, .ref 56, .int 69 0, .int 0 0, .ref 63, .int 73 0, .int 0 0, .ref 68, .int 89 0, .int 0 0, .ref 73]).toArray, #[]⟩
noncomputable def o43_54 (P : Params) : Obj := ⟨.type "tuple", none, .seq ([.int 76 1743, .str ⟨#[10]⟩ 189]).toArray 0, #[]⟩
noncomputable def o44_55 (P : Params) : Obj := ⟨.type "tuple", none, .seq ([]).toArray 0, #[]⟩
noncomputable def o45_56 (P : Params) : Obj := ⟨.none, none, .fields ([]).toArray, #[]⟩
noncomputable def o46_57 (P : Params) : Obj := ⟨.type "tuple", none, .seq ([.str ⟨#[98, 111, 100, 121]⟩ 1747, .str ⟨#[109, 97, 120, 108, 105, 110, 101, 108, 101, 110]⟩ 1748, .str ⟨#[101, 111, 108]⟩ 1749, .str ⟨#[115, 111, 102, 116, 95, 98, 114, 101, 97, 107]⟩ 1750, .str ⟨#[109, 97, 120, 108, 105, 110, 101, 108, 101, 110, 49]⟩ 1751, .str ⟨#[101, 110, 99, 111, 100, 101, 100, 95, 98, 111, 100, 121]⟩ 1752, .str ⟨#[97, 112, 112, 101, 110, 100]⟩ 1753, .str ⟨#[108, 105, 110, 101]⟩ 1754, .str ⟨#[115, 116, 97, 114, 116]⟩ 1755, .str ⟨#[108, 97, 115, 116, 115, 116, 97, 114, 116]⟩ 1756, .str ⟨#[115, 116, 111, 112]⟩ 1757, .str ⟨#[114, 111, 111, 109]⟩ 1758, .str ⟨#[113]⟩ 1759]).toArray 0, #[]⟩
noncomputable def o47_58 (P : Params) : Obj := ⟨.type "tuple", none, .seq ([]).toArray 0, #[]⟩
noncomputable def o48_59 (P : Params) : Obj := ⟨.none, none, .func { name := ⟨#[98, 111, 100, 121, 95, 101, 110, 99, 111, 100, 101]⟩, qualname := ⟨#[98, 111, 100, 121, 95, 101, 110, 99, 111, 100, 101]⟩, params := fArgs (stm 17), body := .stmts (fBody (stm 17)), scope := fScope (stm 17), globals := 0, closure := [], defaults := .none, kwdefaults := .none, doc := .none, pyModule := .none, annotations := none, code := .none, closureTuple := .none, builtins := 0 }, #[]⟩
noncomputable def o49_60 (P : Params) : Obj := ⟨.type "code", none, .fields ([.str ⟨#[98, 111, 100, 121, 95, 101, 110, 99, 111, 100, 101]⟩ 1744, .str ⟨#[98, 111, 100, 121, 95, 101, 110, 99, 111, 100, 101]⟩ 1745, .str ⟨#[47, 99, 108, 97, 105, 109, 47, 99, 117, 116, 46, 112, 121]⟩ 1746, .int 22 0, .int 3 0, .int 0 0, .int 0 0, .int 3 0, .ref 44, .bool true, .int 181 0, .ref 45, .none, .ref 46, .ref 47, .ref 48, .int 1760 0, .int 22 0, .str ⟨#[47, 99, 108, 97, 105, 109, 47, 99, 117, 116, 46, 112, 121]⟩ 1761]).toArray, #[]⟩
noncomputable def o50_61 (P : Params) : Obj := ⟨.type "function", none, .func { name := ⟨#[98, 111, 100, 121, 95, 101, 110, 99, 111, 100, 101]⟩, qualname := ⟨#[98, 111, 100, 121, 95, 101, 110, 99, 111, 100, 101]⟩, params := fArgs (stm 17), body := .stmts (fBody (stm 17)), scope := fScope (stm 17), globals := 3, closure := [], defaults := .ref 43, kwdefaults := .none, doc := .none, pyModule := .str ⟨#[99, 112, 121, 51, 49, 51, 46, 101, 109, 97, 105, 108, 46, 113, 117, 111, 112, 114, 105, 109, 105, 109, 101]⟩ 1229, annotations := none, code := .ref 49, closureTuple := .none, builtins := 0 }, #[]⟩
noncomputable def o51_62 (P : Params) : Obj := ⟨.type "tuple", none, .seq ([]).toArray 0, #[]⟩
noncomputable def o52_63 (P : Params) : Obj := ⟨.none, none, .fields ([]).toArray, #[]⟩
noncomputable def o53_64 (P : Params) : Obj := ⟨.type "tuple", none, .seq ([.str ⟨#[110, 117, 109, 98, 101, 114, 115]⟩ 1768, .str ⟨#[115, 105, 103, 110, 115]⟩ 1769, .str ⟨#[110, 117, 109, 98, 101, 114]⟩ 1770, .str ⟨#[114, 101, 115, 116]⟩ 1771, .str ⟨#[102, 105, 103, 117, 114, 101]⟩ 1772]).toArray 0, #[]⟩
noncomputable def o54_65 (P : Params) : Obj := ⟨.type "tuple", none, .seq ([]).toArray 0, #[]⟩
noncomputable def o55_66 (P : Params) : Obj := ⟨.none, none, .func { name := ⟨#[95, 108, 97, 119, 95, 116, 101, 120, 116]⟩, qualname := ⟨#[95, 108, 97, 119, 95, 116, 101, 120, 116]⟩, params := fArgs (stm 19), body := .stmts (fBody (stm 19)), scope := fScope (stm 19), globals := 0, closure := [], defaults := .none, kwdefaults := .none, doc := .none, pyModule := .none, annotations := none, code := .none, closureTuple := .none, builtins := 0 }, #[]⟩
noncomputable def o56_67 (P : Params) : Obj := ⟨.type "code", none, .fields ([.str ⟨#[95, 108, 97, 119, 95, 116, 101, 120, 116]⟩ 1765, .str ⟨#[95, 108, 97, 119, 95, 116, 101, 120, 116]⟩ 1766, .str ⟨#[47, 99, 108, 97, 105, 109, 47, 99, 117, 116, 46, 112, 121]⟩ 1767, .int 61 0, .int 1 0, .int 0 0, .int 0 0, .int 3 0, .ref 51, .bool true, .int 181 0, .ref 52, .none, .ref 53, .ref 54, .ref 55, .int 1773 0, .int 61 0, .str ⟨#[47, 99, 108, 97, 105, 109, 47, 99, 117, 116, 46, 112, 121]⟩ 1774]).toArray, #[]⟩
noncomputable def o57_68 (P : Params) : Obj := ⟨.type "function", none, .func { name := ⟨#[95, 108, 97, 119, 95, 116, 101, 120, 116]⟩, qualname := ⟨#[95, 108, 97, 119, 95, 116, 101, 120, 116]⟩, params := fArgs (stm 19), body := .stmts (fBody (stm 19)), scope := fScope (stm 19), globals := 3, closure := [], defaults := .none, kwdefaults := .none, doc := .none, pyModule := .str ⟨#[108, 97, 119, 95, 100, 112, 48, 48, 50, 48, 95, 48, 49]⟩ 1763, annotations := none, code := .ref 56, closureTuple := .none, builtins := 0 }, #[]⟩
noncomputable def o58_69 (P : Params) : Obj := ⟨.type "tuple", none, .seq ([]).toArray 0, #[]⟩
noncomputable def o59_70 (P : Params) : Obj := ⟨.none, none, .fields ([]).toArray, #[]⟩
noncomputable def o60_71 (P : Params) : Obj := ⟨.type "tuple", none, .seq ([.str ⟨#[115, 105, 103, 110]⟩ 1779, .str ⟨#[112, 108, 97, 105, 110]⟩ 1780]).toArray 0, #[]⟩
noncomputable def o61_72 (P : Params) : Obj := ⟨.type "tuple", none, .seq ([]).toArray 0, #[]⟩
noncomputable def o62_73 (P : Params) : Obj := ⟨.none, none, .func { name := ⟨#[95, 108, 97, 119, 95, 111, 99, 116, 101, 116]⟩, qualname := ⟨#[95, 108, 97, 119, 95, 111, 99, 116, 101, 116]⟩, params := fArgs (stm 20), body := .stmts (fBody (stm 20)), scope := fScope (stm 20), globals := 0, closure := [], defaults := .none, kwdefaults := .none, doc := .none, pyModule := .none, annotations := none, code := .none, closureTuple := .none, builtins := 0 }, #[]⟩
noncomputable def o63_74 (P : Params) : Obj := ⟨.type "code", none, .fields ([.str ⟨#[95, 108, 97, 119, 95, 111, 99, 116, 101, 116]⟩ 1776, .str ⟨#[95, 108, 97, 119, 95, 111, 99, 116, 101, 116]⟩ 1777, .str ⟨#[47, 99, 108, 97, 105, 109, 47, 99, 117, 116, 46, 112, 121]⟩ 1778, .int 69 0, .int 2 0, .int 0 0, .int 0 0, .int 3 0, .ref 58, .bool true, .int 181 0, .ref 59, .none, .ref 60, .ref 61, .ref 62, .int 1781 0, .int 69 0, .str ⟨#[47, 99, 108, 97, 105, 109, 47, 99, 117, 116, 46, 112, 121]⟩ 1782]).toArray, #[]⟩
noncomputable def o64_75 (P : Params) : Obj := ⟨.type "function", none, .func { name := ⟨#[95, 108, 97, 119, 95, 111, 99, 116, 101, 116]⟩, qualname := ⟨#[95, 108, 97, 119, 95, 111, 99, 116, 101, 116]⟩, params := fArgs (stm 20), body := .stmts (fBody (stm 20)), scope := fScope (stm 20), globals := 3, closure := [], defaults := .none, kwdefaults := .none, doc := .none, pyModule := .str ⟨#[108, 97, 119, 95, 100, 112, 48, 48, 50, 48, 95, 48, 49]⟩ 1763, annotations := none, code := .ref 63, closureTuple := .none, builtins := 0 }, #[]⟩
noncomputable def o65_76 (P : Params) : Obj := ⟨.type "tuple", none, .seq ([]).toArray 0, #[]⟩
noncomputable def o66_77 (P : Params) : Obj := ⟨.none, none, .fields ([]).toArray, #[]⟩
noncomputable def o67_78 (P : Params) : Obj := ⟨.none, none, .func { name := ⟨#[95, 108, 97, 119, 95, 108, 105, 110, 101, 115]⟩, qualname := ⟨#[95, 108, 97, 119, 95, 108, 105, 110, 101, 115]⟩, params := fArgs (stm 21), body := .stmts (fBody (stm 21)), scope := fScope (stm 21), globals := 0, closure := [], defaults := .none, kwdefaults := .none, doc := .none, pyModule := .none, annotations := none, code := .none, closureTuple := .none, builtins := 0 }, #[]⟩
noncomputable def o68_79 (P : Params) : Obj := ⟨.type "code", none, .fields ([.str ⟨#[95, 108, 97, 119, 95, 108, 105, 110, 101, 115]⟩ 1784, .str ⟨#[95, 108, 97, 119, 95, 108, 105, 110, 101, 115]⟩ 1785, .str ⟨#[47, 99, 108, 97, 105, 109, 47, 99, 117, 116, 46, 112, 121]⟩ 1786, .int 73 0, .int 2 0, .int 0 0, .int 0 0, .int 3 0, .ref 65, .bool true, .int 181 0, .ref 66, .none, .none, .none, .ref 67, .int 1787 0, .int 73 0, .str ⟨#[47, 99, 108, 97, 105, 109, 47, 99, 117, 116, 46, 112, 121]⟩ 1788]).toArray, #[]⟩
noncomputable def o69_80 (P : Params) : Obj := ⟨.type "function", none, .func { name := ⟨#[95, 108, 97, 119, 95, 108, 105, 110, 101, 115]⟩, qualname := ⟨#[95, 108, 97, 119, 95, 108, 105, 110, 101, 115]⟩, params := fArgs (stm 21), body := .stmts (fBody (stm 21)), scope := fScope (stm 21), globals := 3, closure := [], defaults := .none, kwdefaults := .none, doc := .none, pyModule := .str ⟨#[108, 97, 119, 95, 100, 112, 48, 48, 50, 48, 95, 48, 49]⟩ 1763, annotations := none, code := .ref 68, closureTuple := .none, builtins := 0 }, #[]⟩
noncomputable def o70_81 (P : Params) : Obj := ⟨.type "tuple", none, .seq ([]).toArray 0, #[]⟩
noncomputable def o71_82 (P : Params) : Obj := ⟨.none, none, .fields ([]).toArray, #[]⟩
noncomputable def o72_83 (P : Params) : Obj := ⟨.none, none, .func { name := ⟨#[108, 97, 119]⟩, qualname := ⟨#[108, 97, 119]⟩, params := fArgs (stm 22), body := .stmts (fBody (stm 22)), scope := fScope (stm 22), globals := 0, closure := [], defaults := .none, kwdefaults := .none, doc := .none, pyModule := .none, annotations := none, code := .none, closureTuple := .none, builtins := 0 }, #[]⟩
noncomputable def o73_84 (P : Params) : Obj := ⟨.type "code", none, .fields ([.str ⟨#[108, 97, 119]⟩ 1790, .str ⟨#[108, 97, 119]⟩ 1791, .str ⟨#[47, 99, 108, 97, 105, 109, 47, 99, 117, 116, 46, 112, 121]⟩ 1792, .int 89 0, .int 1 0, .int 0 0, .int 0 0, .int 3 0, .ref 70, .bool true, .int 181 0, .ref 71, .none, .none, .none, .ref 72, .int 1793 0, .int 89 0, .str ⟨#[47, 99, 108, 97, 105, 109, 47, 99, 117, 116, 46, 112, 121]⟩ 1794]).toArray, #[]⟩
noncomputable def o74_85 (P : Params) : Obj := ⟨.type "function", none, .func { name := ⟨#[108, 97, 119]⟩, qualname := ⟨#[108, 97, 119]⟩, params := fArgs (stm 22), body := .stmts (fBody (stm 22)), scope := fScope (stm 22), globals := 3, closure := [], defaults := .none, kwdefaults := .none, doc := .none, pyModule := .str ⟨#[108, 97, 119, 95, 100, 112, 48, 48, 50, 48, 95, 48, 49]⟩ 1763, annotations := none, code := .ref 73, closureTuple := .none, builtins := 0 }, #[]⟩
noncomputable def tr_s22 (P : Params) : BT := (.node (boot_o_0 P) (.node (boot_o_1 P) (.node (o3_52 P) (.node (boot_o_7 P) (.node (o15_10 P) (.node (o31_40 P) (.node (o63_74 P) .nil .nil) .nil) (.node (o47_58 P) .nil .nil)) (.node (o23_19 P) (.node (o39_48 P) (.node (o71_82 P) .nil .nil) .nil) (.node (o55_66 P) .nil .nil))) (.node (o11_0 P) (.node (o19_14 P) (.node (o35_44 P) (.node (o67_78 P) .nil .nil) .nil) (.node (o51_62 P) .nil .nil)) (.node (o27_28 P) (.node (o43_54 P) .nil .nil) (.node (o59_70 P) .nil .nil)))) (.node (boot_o_5 P) (.node (boot_o_9 P) (.node (o17_12 P) (.node (o33_42 P) (.node (o65_76 P) .nil .nil) .nil) (.node (o49_60 P) .nil .nil)) (.node (o25_26 P) (.node (o41_50 P) (.node (o73_84 P) .nil .nil) .nil) (.node (o57_68 P) .nil .nil))) (.node (o13_2 P) (.node (o21_17 P) (.node (o37_46 P) (.node (o69_80 P) .nil .nil) .nil) (.node (o53_64 P) .nil .nil)) (.node (o29_36 P) (.node (o45_56 P) .nil .nil) (.node (o61_72 P) .nil .nil))))) (.node (boot_o_2 P) (.node (boot_o_4 P) (.node (boot_o_8 P) (.node (o16_11 P) (.node (o32_41 P) (.node (o64_75 P) .nil .nil) .nil) (.node (o48_59 P) .nil .nil)) (.node (o24_34 P) (.node (o40_49 P) (.node (o72_83 P) .nil .nil) .nil) (.node (o56_67 P) .nil .nil))) (.node (o12_53 P) (.node (o20_15 P) (.node (o36_45 P) (.node (o68_79 P) .nil .nil) .nil) (.node (o52_63 P) .nil .nil)) (.node (o28_35 P) (.node (o44_55 P) .nil .nil) (.node (o60_71 P) .nil .nil)))) (.node (boot_o_6 P) (.node (boot_o_10 P) (.node (o18_13 P) (.node (o34_43 P) (.node (o66_77 P) .nil .nil) .nil) (.node (o50_61 P) .nil .nil)) (.node (o26_27 P) (.node (o42_51 P) (.node (o74_85 P) .nil .nil) .nil) (.node (o58_69 P) .nil .nil))) (.node (o14_3 P) (.node (o22_29 P) (.node (o38_47 P) (.node (o70_81 P) .nil .nil) .nil) (.node (o54_65 P) .nil .nil)) (.node (o30_37 P) (.node (o46_57 P) .nil .nil) (.node (o62_73 P) .nil .nil))))))
noncomputable def s22 (w : World) (os : OsState) : SharedT := ⟨tr_s22 w.params, 75, life0, Array.mk [], boot_drawn, 1796, os⟩
noncomputable def gr17_sts : List Stmt := [stm 17, stm 18, stm 19, stm 20, stm 21, stm 22]
theorem gr17_q (w : World) (os : OsState) : PySem.W.Fast.tw10110043849684766642 PySem.W.Fast.tw14364793385576792824 PR w 11 ann0 1 170 (s16 w os) ⟨(PySem.W.Fast.tw12563942051412417395 gr17_sts env0).wrap doneF deadEnd id id, cE, ⟨21, 4, 21, 5⟩, B0⟩ = some (.next, s22 w os, cE, ⟨89, 0, 101, 102⟩) := by kernel_rfl
def gr17_P (w : World) : Prop := ∀ os : OsState, segRun treeTable PR w 11 ann0 1 170 (s16 w os).abs (piecesOf gr17_sts env0 cE ⟨21, 4, 21, 5⟩ B0) = some (.next, (s22 w os).abs, cE, ⟨89, 0, 101, 102⟩)
theorem gr17_all (w : World) : gr17_P w := (fun os => startR (gr17_q w os))
theorem fin1 (w : World) (os : OsState) : topRun treeTable PR w 11 ann0 2 (s22 w os).abs ⟨doneF .next, cE, ⟨89, 0, 101, 102⟩, B0⟩ = some (s22 w os).abs := by kernel_rfl
theorem body_cut : behindTheImports PR = (gr0_sts ++ (lp2_sts ++ (gr3_sts ++ (lp10_sts ++ (gr11_sts ++ (lp12_sts ++ (gr13_sts ++ (gr17_sts ++ [])))))))) := by kernel_rfl
theorem run1 (w : World) (os : OsState) : topRun treeTable PR w 11 ann0 17490 (st0 w os) (topStub PR) = some (s22 w os).abs := by
  refine go_top (n := 12) (N := 17478) (pre1 w os) ?_
  refine piece_block (n := 1) (N := 17477) (block1 w os) ?_
  rw [body_cut]
  exact (piece_app (n := 19) (l := gr0_sts) (gr0_all w os) (piece_app (n := 9552) (l := lp2_sts) (lp2_all w os) (piece_app (n := 109) (l := gr3_sts) (gr3_all w os) (piece_app (n := 3077) (l := lp10_sts) (lp10_all w os) (piece_app (n := 25) (l := gr11_sts) (gr11_all w os) (piece_app (n := 4303) (l := lp12_sts) (lp12_all w os) (piece_app (n := 220) (l := gr13_sts) (gr13_all w os) (piece_app (n := 170) (l := gr17_sts) (gr17_all w os) (piece_nil (fin1 w os))))))))))
-- M 17490 n0 11 last s22
noncomputable def Hf (P : Params) : Heap := ⟨Array.mk [boot_o_0 P, boot_o_1 P, boot_o_2 P, o3_52 P, boot_o_4 P, boot_o_5 P, boot_o_6 P, boot_o_7 P, boot_o_8 P, boot_o_9 P, boot_o_10 P, o11_0 P, o12_53 P, o13_2 P, o14_3 P, o15_10 P, o16_11 P, o17_12 P, o18_13 P, o19_14 P, o20_15 P, o21_17 P, o22_29 P, o23_19 P, o24_34 P, o25_26 P, o26_27 P, o27_28 P, o28_35 P, o29_36 P, o30_37 P, o31_40 P, o32_41 P, o33_42 P, o34_43 P, o35_44 P, o36_45 P, o37_46 P, o38_47 P, o39_48 P, o40_49 P, o41_50 P, o42_51 P, o43_54 P, o44_55 P, o45_56 P, o46_57 P, o47_58 P, o48_59 P, o49_60 P, o50_61 P, o51_62 P, o52_63 P, o53_64 P, o54_65 P, o55_66 P, o56_67 P, o57_68 P, o58_69 P, o59_70 P, o60_71 P, o61_72 P, o62_73 P, o63_74 P, o64_75 P, o65_76 P, o66_77 P, o67_78 P, o68_79 P, o69_80 P, o70_81 P, o71_82 P, o72_83 P, o73_84 P, o74_85 P], life0⟩
noncomputable def sF (w : World) (os : OsState) : Shared := ⟨Hf w.params, Array.mk [], boot_drawn, 1796, os⟩
theorem sF_eq (w : World) (os : OsState) : (s22 w os).abs = sF w os := by kernel_rfl
theorem run1F (w : World) (os : OsState) : topRun treeTable PR w 11 ann0 17490 (st0 w os) (topStub PR) = some (sF w os) := by rw [run1, sF_eq]
end Mine
end
section
set_option maxRecDepth 100000
set_option maxHeartbeats 4000000
namespace Mine
open PySem PySem.W PySem.Calls PyProof.Rows
noncomputable def vq : Program := { PR with main := { PR.main with body := [stm 22] } }
noncomputable def looseN : List Str := ["CRLF", "NL", "_QUOPRI_MAP", "_QUOPRI_HEADER_MAP", "_QUOPRI_BODY_MAP", "ascii_lowercase", "ascii_uppercase", "ascii_letters", "digits", "quote", "_QUOPRI_BODY_ENCODE_MAP", "body_encode", "_law_text", "_law_octet", "_law_lines"]
theorem opens1 (w : World) : importEnds PySem.W.Fast.tw14364793385576792824 (opening PR) w 600 (start (opening PR)).1 (start (opening PR)).2 = some ⟨boot_heap w.params, Array.mk [], boot_drawn, boot_toks, (start (opening PR)).1.os⟩ := by kernel_rfl
theorem open1 : ∀ w : World, (fencedOpening treeTable PR w 34980).map (fun s => (s.heap, s.gens, s.drawn, s.toks)) = some (boot_heap w.params, Array.mk [], boot_drawn, boot_toks) :=
  open_cut (M := 600) (by rw [PySem.W.Fast.te14364793385576792824]; exact opens1) (by decide) (fun _ => by kernel_rfl)
theorem size1 (w : World) : ((boot_heap w.params).isNs mainGlobals && (Array.mk [] : Array GenState).size == 0, (boot_heap w.params).objs.size, (boot_heap w.params).nsMap mainGlobals "__annotations__") = (true, 11, ann0) := by
  rw [PySem.W.Fast.te8920871248978507458]; kernel_rfl
theorem look_a (w : World) (os : OsState) : (staticsOk (importedModules PR.main.body) (boot_heap w.params) (Hf w.params) && namesBound PR (Hf w.params) && gensDone (sF w os) && laidKept (boot_heap w.params) (Hf w.params)) = true := by
  kernel_rfl
theorem look_b (w : World) (os : OsState) : PySem.W.Fast.tw4187177175401517315 vq looseN (importedModules PR.main.body) (fun s => recOk [] s) true (sF w os) = openGood vq looseN := by
  kernel_rfl
theorem left1 : LeftO PR vq looseN (fun s => recOk [] s) (fun s => s.heap) (fun w => Hf w.params) 34980 :=
  LeftO.of_pieces (H₀ := boot_heap) (H₁ := Hf) (gs₀ := Array.mk []) (gs₁ := Array.mk []) (d₀ := boot_drawn) (d₁ := boot_drawn) (k₀ := boot_toks) (m₀ := 11) (ann := ann0) (M := 17490) open1 size1 run1F (by decide)
    (fun w => funext fun os => Prod.ext (look_a w os) (Prod.ext (by
      show openSeen vq looseN (importedModules PR.main.body) (fun s => recOk [] s) true (sF w os) = openGood vq looseN
      rw [PySem.W.Fast.te4187177175401517315]; exact look_b w os) rfl))
end Mine
end
section
set_option maxRecDepth 100000
set_option maxHeartbeats 4000000
namespace Mine
open PySem PySem.W PySem.Calls PyProof.Rows

/-- the objects that the top has left stand in the heap -/
def TopH (w : World) (h : Heap) : Prop := ∀ b o, (Hf w.params).get? b = some o → h.get? b = some o
theorem TopH.keeps {w : World} {h h' : Heap} (Y : TopH w h) (k : ∀ b o, h.get? b = some o → h'.get? b = some o) : TopH w h' := fun b o e => k b o (Y b o e)

abbrev TopT (mean : ExcName → Option Value) (mg mb : Str → Option Value) (h : Heap) : Prop := Top vq (looseW vq looseN) mean mg mb h

structure Ext (s s' : Shared) : Prop where
  keep : ∀ b o, s.heap.get? b = some o → s'.heap.get? b = some o
  same : ∃ h tk, s' = { s with heap := h, toks := tk }
theorem Ext.refl (s : Shared) : Ext s s := ⟨fun _ _ e => e, ⟨s.heap, s.toks, rfl⟩⟩
theorem Ext.trans {s s' s'' : Shared} (a : Ext s s') (b : Ext s' s'') : Ext s s'' := by
  obtain ⟨k, h, t, rfl⟩ := a
  obtain ⟨k', h', t', rfl⟩ := b
  exact ⟨fun x o e => k' x o (k x o e), ⟨h', t', rfl⟩⟩
theorem Ext.of_fr {s s' : Shared} {L : Addr} {m : Str → Option Value} (F : Fr s.heap L s'.heap m) (hs : ∃ h tk, s' = { s with heap := h, toks := tk }) : Ext s s' := ⟨F.keep, hs⟩
theorem fr_ext {h₀ : Heap} {L : Addr} {m : Str → Option Value} {s s' : Shared} (F : Fr h₀ L s.heap m) (x : Ext s s') : Fr h₀ L s'.heap m :=
  ⟨F.ns.at' fun o e => x.keep _ o e, fun b o e => x.keep b o (F.keep b o e), F.above⟩
theorem news_ext {h₀ : Heap} {L : Addr} {news : List (Addr × Obj)} {s s' : Shared} (N : News h₀ L s.heap news) (x : Ext s s') : News h₀ L s'.heap news :=
  fun p hp => ⟨x.keep _ _ (N p hp).1, (N p hp).2⟩
theorem fr_top {w : World} {h₀ h : Heap} {L : Addr} {m : Str → Option Value} (F : Fr h₀ L h m) (Y : TopH w h₀) : TopH w h := Y.keeps F.keep

/-- what is around a call of ours -/
structure Room (A : Around) (n : Nat) : Prop where
  hh : A.handled = none
  hd : A.depth + n < recursionLimit

/-- what is around the body of a def that is called under A -/
structure In1 (A A' : Around) : Prop where
  hh : A'.handled = A.handled
  hd : A'.depth = A.depth + 1
  hu : A'.units = A.units + 3
/-- a call of a def without cells -/
theorem call_def {prog : Program} {w : World} {A : Around} {s : Shared} {Q : Value → Shared → Prop} {E : Value → Shared → Prop} {a : Addr} {o : Obj} {fd : FuncData} {body : List Stmt} {args : List Value} {binds : List (Str × Value)}
    (hroom : A.depth < recursionLimit) (ho : s.heap.get? a = some o) (hdata : o.data = .func fd) (hlim : s.heap.NoLimit) (hcd : s.heap.CodeRec fd.code fd.qualname)
    (hbody : fd.body = .stmts body) (henv : ∀ L, callEnv fd L a = envOf fd.qualname fd.scope L a fd.code) (hbind : BindsTo s fd ⟨args, []⟩ binds)
    (hcell : ∀ x ∈ fd.scope.names, x.2 ≠ .cell) (hloc : ∀ x ∈ binds, fd.scope.names.lookup x.1 = some .local)
    (h : ∀ L s₁ A', Fr s.heap L s₁.heap (fun x => binds.reverse.lookup x) → (∃ h tk, s₁ = { s with heap := h, toks := tk }) → In1 A A' →
      wpAny (model prog w) A' (execs body (envOf fd.qualname fd.scope L a fd.code)) (fun f s' => Q (match f with | .ret v => v | _ => .none) s') (fun _ _ => False) s₁)
    (hco : fd.scope.isCoroutine = false) (hgen : fd.scope.isGenerator = false) (hk : fd.scope.kind = .function) :
    wpAny (model prog w) A (call (.ref a) args) Q E s := by
  refine wpAny_call (codeAny_call_def (body := body) hroom ho hdata hlim hcd hbody hbind hcell hloc (fun h₁ hns hk₁ => ?_) hco hgen hk)
  rw [henv]
  exact wpAny_mono (h s.heap.objs.size _ _ ⟨hns, hk₁, Nat.le_refl _⟩ ⟨_, _, rfl⟩ ⟨rfl, rfl, rfl⟩) (fun f s' q => q) (fun _ _ x => x.elim)
abbrev mp (l : List (Str × Value)) : Str → Option Value := fun y => l.lookup y
abbrev SameBut' (s s' : Shared) : Prop := ∃ h tk, s' = { s with heap := h, toks := tk }
end Mine
end
section
set_option maxRecDepth 100000
set_option maxHeartbeats 4000000
namespace Mine
open PySem PySem.W PySem.Calls PyProof.Rows
noncomputable def gN (P : Params) : Str → Option Value := (Hf P).nsMap mainGlobals
theorem isNs_Hf (P : Params) : (Hf P).isNs mainGlobals = true := by kernel_rfl
theorem TopH.ns {w : World} {h : Heap} (Y : TopH w h) : h.Ns mainGlobals (gN w.params) := by
  obtain ⟨o, es, ep, ho, r⟩ := Heap.Ns.of_isNs (isNs_Hf w.params)
  exact ⟨o, es, ep, Y _ _ ho, r⟩
theorem g_CRLF (P : Params) : gN P "CRLF" = some (.str "\r\n" 187) := by kernel_rfl
theorem g_MAP (P : Params) : gN P "_QUOPRI_MAP" = some (.ref 17) := by kernel_rfl
theorem g_BEM (P : Params) : gN P "_QUOPRI_BODY_ENCODE_MAP" = some (.ref 39) := by kernel_rfl
theorem g_quote (P : Params) : gN P "quote" = some (.ref 37) := by kernel_rfl
theorem g_be (P : Params) : gN P "body_encode" = some (.ref 50) := by kernel_rfl
theorem g_text (P : Params) : gN P "_law_text" = some (.ref 57) := by kernel_rfl
theorem g_octet (P : Params) : gN P "_law_octet" = some (.ref 64) := by kernel_rfl
theorem g_lines (P : Params) : gN P "_law_lines" = some (.ref 69) := by kernel_rfl
end Mine
end
section
set_option maxRecDepth 100000
set_option maxHeartbeats 1000000
namespace Mine
open PySem PySem.Calls PyProof.Rows PySem.Builtin PySem.Builtin.Str
theorem gm_translate {M : Model} {A : Around} {E : Value → Shared → Prop} {s : Shared} {x : Str} {t : Tok} {pl : Sem Bool} {Q : Value × List Value → Shared → Prop} (h : Q (.builtin "str.translate", [.str x t]) s) :
    wpAny M A (getMethod (.str x t) "translate" pl) Q E s := by
  with_reducible exact GM.of (.str x t) (typeIs_str _ _ _) F.slot_str_translate F.type_str_translate GM.noRef h
theorem lookup_text {prog : Program} {w : World} {A : Around} {E : Value → Shared → Prop} {s : Shared} {a : Addr} {vs : List Value} (hl : s.heap.IsList a vs.toArray) {c : Nat} {y : Str} {t : Tok} (hc : vs[c]? = some (.str y t)) (hlt : c < 1000000)
    {Q : Mapped → Shared → Prop} (h : ∀ tk, Q (.text y) { s with toks := tk }) : wpAny (model prog w) A (tableLookup (.ref a) c) Q E s := by
  unfold tableLookup
  refine wpAny_bind (wpAny_attempt (wpAny_bind (wpAny_mkInt ?_)))
  refine wpAny_getItem_list (items := vs.toArray) (l := a) (k := (c : Int)) (x := .str y t) hl (by omega) (by omega) (by simpa using hc) ?_
  show wpAny _ _ (pure (Mapped.text y)) _ _ _
  exact wpAny_pure (h _)
noncomputable def trS (y : Nat → Str) (l : List Nat) : List Nat := l.flatMap fun c => (y c).cps.toList
theorem foldl_cps (l : List Str) (t : Str) : (t :: l).reverse.foldl (fun (acc : Array Nat) p => acc ++ p.cps) #[] = l.reverse.foldl (fun (acc : Array Nat) p => acc ++ p.cps) #[] ++ t.cps := by
  simp [List.foldl_append]
structure TrI (y : Nat → Str) (x : Str) (s : Shared) (rest : List Nat) (b : List Str × Nat × Bool × List (Nat × Option Nat) × Bool) (s' : Shared) : Prop where
  st : ∃ tk, s' = { s with toks := tk }
  pre : ∃ pre, x.cps.toList = pre ++ rest ∧ b.1.reverse.foldl (fun (acc : Array Nat) p => acc ++ p.cps) #[] = (trS y pre).toArray ∧ b.2.1 = (trS y pre).length
  drop : b.2.2.2.2 = false
  known : ∀ p ∈ b.2.2.2.1, ∃ d, p.2 = some d ∧ y p.1 = ⟨#[d]⟩
theorem trS_len {y : Nat → Str} (hy : ∀ c, c < 256 → (y c).length ≤ 3) : ∀ l : List Nat, (∀ c ∈ l, c < 256) → (trS y l).length ≤ 3 * l.length
  | [], _ => by simp [trS]
  | c :: l, h => by
    have := trS_len hy l fun d hd => h d (.tail _ hd)
    have h1 := hy c (h c (.head _))
    unfold Str.length at h1
    simp only [trS, List.flatMap_cons, List.length_append, List.length_cons, Array.length_toList] at this ⊢
    omega
theorem trS_snoc (y : Nat → Str) (l : List Nat) (c : Nat) : trS y (l ++ [c]) = trS y l ++ (y c).cps.toList := by simp [trS]
theorem TrI.push {y : Nat → Str} {x : Str} {s : Shared} {c : Nat} {rest : List Nat} {b : List Str × Nat × Bool × List (Nat × Option Nat) × Bool} {s' s'' : Shared} (I : TrI y x s (c :: rest) b s') (f : Bool) (known : List (Nat × Option Nat)) (hk : ∀ p ∈ known, ∃ d, p.2 = some d ∧ y p.1 = ⟨#[d]⟩)
    {t : Str} (ht : t = y c) (hs : ∃ tk, s'' = { s' with toks := tk }) : TrI y x s rest (t :: b.1, b.2.1 + t.length, f, known, false) s'' := by
  obtain ⟨⟨tk, rfl⟩, ⟨pre, h1, h2, h3⟩, hd, _⟩ := I
  obtain ⟨tk', rfl⟩ := hs
  subst ht
  refine ⟨⟨tk', rfl⟩, ⟨pre ++ [c], by simp [h1], ?_, ?_⟩, rfl, hk⟩
  · rw [foldl_cps, h2, trS_snoc]
    simp
  · rw [trS_snoc, h3, List.length_append, Array.length_toList]; rfl
theorem str_one {x : Str} (h : x.cps.size = 1) : ∃ d, x = ⟨#[d]⟩ := by
  obtain ⟨⟨l⟩⟩ := x
  match l, h with
  | [d], _ => exact ⟨d, rfl⟩
theorem mem_of_lookup {c : Nat} {a : Option Nat} : ∀ {l : List (Nat × Option Nat)}, l.lookup c = some a → (c, a) ∈ l
  | [], h => by cases h
  | (k, v) :: l, h => by
    rw [List.lookup_cons] at h
    cases hk : c == k with
    | true => rw [hk] at h; cases h; rw [eq_of_beq hk]; exact .head _
    | false => rw [hk] at h; exact .tail _ (mem_of_lookup h)
theorem translate_tree {prog : Program} {w : World} {A : Around} {E : Value → Shared → Prop} {s : Shared} {a : Addr} {vs : List Value} {y : Nat → Str} {x : Str} {t : Tok} (hl : s.heap.IsList a vs.toArray)
    (hvs : ∀ c, c < 256 → ∃ t, vs[c]? = some (.str (y c) t)) (hy : ∀ c, c < 256 → (y c).length ≤ 3) (hx : ∀ c ∈ x.cps.toList, c < 256) (hlen : x.length ≤ 4000) (h0 : x.length ≠ 0)
    {Q : Fin → Shared → Prop} (h : ∀ tok tk, Q (.done (.ret (.str ⟨(trS y x.cps.toList).toArray⟩ tok))) { s with toks := tk }) :
    wpAny (model prog w) A («str.translate» ⟨[.str x t, .ref a], []⟩) Q E s := by
  unfold «str.translate»
  refine wpAny_bind ?_
  show wpAny _ _ (pure (Value.str x t, x, Value.ref a)) _ _ _
  refine wpAny_pure ?_
  dsimp only
  rw [if_neg (by simpa using h0)]
  refine wpAny_bind ?_
  rw [← Array.forIn_toList]
  refine wpAny_forIn_list _ (TrI y x s) _ ?_ ?_ _ _ ?_
  · intro c rest b s' I
    obtain ⟨⟨tk, rfl⟩, ⟨pre, h1, h2, h3⟩, hd, hk⟩ := id I
    have hc : c < 256 := hx c (by rw [h1]; simp)
    have hpre : (trS y pre).length ≤ 3 * 4000 := by
      have := trS_len hy pre fun d hd' => hx d (by rw [h1]; simp [hd'])
      have hl' : pre.length ≤ x.length := by
        have := congrArg List.length h1
        simp only [Array.length_toList, List.length_append, List.length_cons] at this
        show pre.length ≤ x.cps.size; omega
      omega
    obtain ⟨tc, hvc⟩ := hvs c hc
    obtain ⟨pieces, total, fast, known, ad⟩ := b
    dsimp only at h3 hd hk h2 ⊢
    subst hd
    have htl : tooLong total = false := by unfold tooLong; rw [sizeLine_eq]; simp; omega
    rw [if_neg (by rw [htl]; decide)]
    cases fast with
    | false =>
      simp only [Bool.false_eq_true, if_false]
      refine wpAny_bind (lookup_text (s := { s with toks := tk }) hl hvc (by omega) fun tk'' => ?_)
      exact wpAny_pure (I.push false known hk rfl ⟨tk'', rfl⟩)
    | true =>
      simp only [Bool.false_eq_true, if_false, if_true]
      cases hlk : List.lookup c known with
      | some q =>
        obtain ⟨d, hq, hyd⟩ := hk _ (mem_of_lookup hlk)
        dsimp only at hq hyd
        subst hq
        show wpAny _ _ (pure (ForInStep.yield ((⟨#[d]⟩ : Str) :: pieces, total + 1, true, known, false))) _ _ _
        exact wpAny_pure (I.push true known hk hyd.symm ⟨tk, rfl⟩)
      | none =>
        refine wpAny_bind (lookup_text (s := { s with toks := tk }) hl hvc (by omega) fun tk'' => ?_)
        dsimp only
        by_cases hone : ((y c).length == 1 && (y c).cps.all fun x => decide (x < 128)) = true
        · rw [if_pos hone]
          have hl1 : (y c).cps.size = 1 := by
            have := (Bool.and_eq_true_iff.mp hone).1
            simpa [Str.length] using this
          obtain ⟨d, hd⟩ := str_one hl1
          have hq : (y c).cps[0]? = some d := by rw [hd]; rfl
          rw [hq]
          show wpAny _ _ (pure (ForInStep.yield ((⟨#[d]⟩ : Str) :: pieces, total + 1, true, (c, some d) :: known, false))) _ _ _
          refine wpAny_pure (I.push true ((c, some d) :: known) ?_ hd.symm ⟨tk'', rfl⟩)
          intro p hp
          rcases List.mem_cons.mp hp with rfl | hp
          · exact ⟨d, rfl, hd⟩
          · exact hk p hp
        · rw [if_neg hone]
          refine wpAny_bind (wpAny_pure ?_)
          dsimp only
          refine wpAny_bind (wpAny_rule ?_)
          refine wpAny_bind (lookup_text (s := { s with toks := tk'' }) hl hvc (by omega) fun tk3 => ?_)
          exact wpAny_pure (I.push false known hk rfl ⟨tk3, rfl⟩)
  · intro b s' I
    obtain ⟨⟨tk, rfl⟩, ⟨pre, h1, h2, h3⟩, hd, hk⟩ := I
    rw [List.append_nil] at h1
    subst h1
    have hpre := trS_len hy _ hx
    have hl' : x.cps.toList.length ≤ 4000 := by rw [Array.length_toList]; exact hlen
    have htl : tooLong b.2.1 = false := by unfold tooLong; rw [sizeLine_eq, h3]; simp; omega
    show wpAny _ _ (if tooLong b.2.1 = true then _ else _) _ _ _
    rw [if_neg (by rw [htl]; decide), h2]
    exact wpAny_bind (wpAny_mkStr (wpAny_pure (h _ _)) (by show (trS y x.cps.toList).toArray.size ≤ _; rw [sizeLine_eq, List.size_toArray]; omega))
  · exact ⟨⟨s.toks, rfl⟩, ⟨[], rfl, rfl, rfl⟩, rfl, fun _ hp => nomatch hp⟩
theorem translate_call {prog : Program} {w : World} {A : Around} {E : Value → Shared → Prop} {s : Shared} {a : Addr} {vs : List Value} {y : Nat → Str} {x : Str} {t : Tok} (hl : s.heap.IsList a vs.toArray)
    (hvs : ∀ c, c < 256 → ∃ t, vs[c]? = some (.str (y c) t)) (hy : ∀ c, c < 256 → (y c).length ≤ 3) (hx : ∀ c ∈ x.cps.toList, c < 256) (hlen : x.length ≤ 4000) (h0 : x.length ≠ 0)
    {Q : Value → Shared → Prop} (h : ∀ tok tk, Q (.str ⟨(trS y x.cps.toList).toArray⟩ tok) { s with toks := tk }) :
    wpAny (model prog w) A (call (.builtin "str.translate") [.str x t, .ref a]) Q E s :=
  call_meetsIn (S := fun A R s' => s' = s ∧ ∀ tok tk, R (.ok (.ret (.str ⟨(trS y x.cps.toList).toArray⟩ tok))) { s with toks := tk }) F.slot_str_translate (typeIs_str _ _ _) F.entry_str_translate (F.args_str_translate_2 _ _)
    (fun A R s' hs => by
      obtain ⟨rfl, hs⟩ := hs
      exact translate_tree hl hvs hy hx hlen h0 fun tok tk => hs tok tk) ⟨rfl, fun tok tk => h tok tk⟩
end Mine
end
section
set_option maxRecDepth 100000
set_option maxHeartbeats 4000000
namespace Mine
theorem anew5 : True := by
  w_top off
  first | walk1 | trivial
open PySem PySem.W PySem.Calls PyProof.Rows
noncomputable def hexD (d : Nat) : Nat := if d < 10 then 48 + d else 55 + d
noncomputable def octetS (pl : Str) (c : Nat) : Str := if (Builtin.Str.occurrences pl ⟨#[c]⟩ 0 pl.length 1).isEmpty then ⟨#[61, hexD (c / 16), hexD (c % 16)]⟩ else ⟨#[c]⟩
theorem item_hex (d : Nat) (hd : d < 16) : Txt.item (Str.ofString "0123456789ABCDEF") (d : Int) = ⟨#[hexD d]⟩ := by
  have : ∀ d : Fin 16, Txt.item (Str.ofString "0123456789ABCDEF") ((d.val : Nat) : Int) = ⟨#[hexD d.val]⟩ := by decide +kernel
  exact this ⟨d, hd⟩
theorem hex_tail {prog : Program} {w : World} {A : Around} {E : Value → Shared → Prop} {s : Shared} {value slice : Expr} {t u : Tok} {Q : Value → Shared → Prop} {i : Int} (d : Nat) (hi : i = (d : Int)) (hd : d < 16)
    (h : Q (.str ⟨#[hexD d]⟩ s.toks) { s with toks := s.toks + 1 })
    (hs : subscripted slice false (.str (Str.ofString "0123456789ABCDEF") t) (.int i u) = operate [.str (Str.ofString "0123456789ABCDEF") t, .int i u] (getItem (.str (Str.ofString "0123456789ABCDEF") t) (.int i u)) := by with_unfolding_all rfl)
    (ht : ∀ r, letTemporaryGo value (.str (Str.ofString "0123456789ABCDEF") t) r = pure () := by intro _; with_unfolding_all rfl) :
    wpAny (model prog w) A (subscriptTail value slice (.str (Str.ofString "0123456789ABCDEF") t) (.int i u)) Q E s := by
  have hl : (Str.ofString "0123456789ABCDEF").length = 16 := by decide +kernel
  subst hi
  refine item_str (fitsSsize_of (N := 9223372036854775808) (by omega) (by omega) (Int.le_refl _)) (by omega) (by omega) (fun _ => ?_) hs ht
  rw [item_hex d hd]; exact h
theorem octet_body {w : World} {A : Around} {s₀ s : Shared} {L : Addr} {nm : Str} {Q : Value → Shared → Prop} {mean mg mb} {c : Nat} {t1 t2 : Tok} {pl : Str} (T : Top vq (looseW vq looseN) mean mg mb s₀.heap)
    (F : Fr s₀.heap L s.heap (mp [("plain", .str pl t2), ("sign", .str ⟨#[c]⟩ t1)])) (e : SameBut' s₀ s) (hc : c < 256)
    (h : ∀ tok s', Ext s₀ s' → Q (.str (octetS pl c) tok) s') :
    wpAny (model PR w) A (execs (fBody (stm 20)) (envOf nm (fScope (stm 20)) L 64 (.ref 63))) (fun f s' => Q (match f with | .ret v => v | _ => .none) s') (fun _ _ => False) s := by
  w_on
  obtain ⟨h', tk', rfl⟩ := e
  have h16 : (c : Int).fdiv 16 = ((c / 16 : Nat) : Int) := by rw [Int.fdiv_eq_ediv_of_nonneg _ (by decide)]; omega
  have hm16 : (c : Int).fmod 16 = ((c % 16 : Nat) : Int) := by rw [Int.fmod_eq_emod_of_nonneg _ (by decide)]; omega
  refine wpAny_execs_cons ?_
  repeat' walk1
  · refine hex_tail (c / 16) h16 (by omega) ?_
    dsimp only
    repeat' walk1
    refine hex_tail (c % 16) hm16 (by omega) ?_
    dsimp only
    repeat' walk1
    have hq : octetS pl c = Str.ofString "=" ++ ⟨#[hexD (c / 16)]⟩ ++ ⟨#[hexD (c % 16)]⟩ := by
      unfold octetS
      rw [if_pos (by assumption)]; rfl
    rw [← hq]
    exact h _ _ ⟨F.keep, ⟨_, _, rfl⟩⟩
  · rename_i hf
    have hq : octetS pl c = ⟨#[c]⟩ := by
      unfold octetS
      rw [if_neg (by rw [hf]; decide)]
    show Q (.str ⟨#[c]⟩ t1) _
    rw [← hq]
    exact h _ _ ⟨F.keep, ⟨_, _, rfl⟩⟩
theorem octet_spec {w : World} {A : Around} {s : Shared} {Q : Value → Shared → Prop} {E : Value → Shared → Prop} {mean mg mb} {c : Nat} {t1 t2 : Tok} {pl : Str} (T : Top vq (looseW vq looseN) mean mg mb s.heap) (Y : TopH w s.heap)
    (hroom : A.depth < recursionLimit) (hc : c < 256)
    (h : ∀ tok s', Ext s s' → Q (.str (octetS pl c) tok) s') : wpAny (model PR w) A (call (.ref 64) [.str ⟨#[c]⟩ t1, .str pl t2]) Q E s :=
  call_def (binds := [("sign", .str ⟨#[c]⟩ t1), ("plain", .str pl t2)]) hroom (Y 64 _ rfl) rfl T.nolimit ⟨63, _, _, _, rfl, Y 63 _ rfl, rfl, rfl⟩ rfl (fun _ => rfl) (BindsTo.of_eq rfl) (by decide +kernel) (locs rfl)
    (fun L s₁ A' F e _ => octet_body T F e hc h) rfl rfl rfl
end Mine
end
section
set_option maxRecDepth 100000
set_option maxHeartbeats 1000000
namespace Mine
open PySem PySem.Calls PyProof.Rows PySem.Builtin PySem.Builtin.ObjectAttr
noncomputable def bmObj (l : Addr) : Obj := { cls := .type "builtin_function_or_method", data := .fields #[.builtin "list.append", .ref l] }
theorem slot_mdget : Slot "method_descriptor" "__get__" "method_descriptor.__get__" := .of (owner := "method_descriptor") (n := "__get__") (by rw [typeLookup_type, builtinLookup_eq_fast]; kernel_rfl) (by decide +kernel) (by decide +kernel) (by decide +kernel)
  (by first | exact .inl (by decide +kernel) | exact .inr (by decide +kernel)) (by rw [isSubtype_type]; kernel_rfl)
theorem entry_mdget : entryFor table "method_descriptor.__get__" = some Builtin.«method_descriptor.__get__» := entryFor_of_tree (by kernel_rfl)
theorem args_mdget (a b c : Value) : argsOk "method_descriptor.__get__" ⟨[a, b, c], []⟩ := by unfold argsOk; kernel_rfl
theorem md_noset : typeLookup (.type "method_descriptor") "__set__" = pure none := by rw [typeLookup_type, builtinLookup_eq_fast]; kernel_rfl
theorem md_nodel : typeLookup (.type "method_descriptor") "__delete__" = pure none := by rw [typeLookup_type, builtinLookup_eq_fast]; kernel_rfl
theorem sub_list : isSubtype (.type "list") (.type "list") = pure true := by rw [isSubtype_type]; kernel_rfl
theorem md_type : typeOf (.builtin "list.append") = pure (.type "method_descriptor") := F.type_list_append
theorem Looks_md (s : Shared) : s.TypeIs (.builtin "list.append") "method_descriptor" := md_type
section
variable {prog : Program} {w : World} {A : Around} {E : Value → Shared → Prop} {s : Shared}
theorem mdget_tree {l : Addr} {o : Obj} {Q : PySem.Fin → Shared → Prop} (ho : s.heap.get? l = some o) (hc : o.cls = .type "list")
    (h : Q (.done (.ret (.ref s.heap.objs.size))) { s with heap := s.heap.push (bmObj l) }) :
    wpAny (model prog w) A («method_descriptor.__get__» ⟨[.builtin "list.append", .ref l, .type "list"], []⟩) Q E s := by
  have hT : s.TypeIs (.ref l) "list" := ⟨_, ho, hc⟩
  unfold «method_descriptor.__get__»
  refine wpAny_bind ?_
  show wpAny _ _ (pure (Value.builtin "list.append", some (Value.ref l), some (Value.type "list"))) _ _ _
  refine wpAny_pure ?_
  dsimp only
  rw [if_neg (by decide +kernel)]
  refine wpAny_bind ?_
  refine wpAny_bind ?_
  refine wpAny_of_eq (show _ = pure ((Str.ofString "append"), Value.type "list") by kernel_rfl) ?_
  dsimp only
  refine wpAny_bind (wpAny_isInstance (U := "list") (b := true) hT ?_ ?_)
  · exact sub_list
  · refine wpAny_pure (wpAny_bind ?_)
    refine wpAny_newObj_type ?_ (by first | exact trivial | rfl | (show 2 ≤ 6; decide) | simp [sizeOk])
    exact wpAny_pure h
theorem ga_tree {l : Addr} {o : Obj} {xs : Array Value} {k : Nat} {u : Tok} {Q : PySem.Fin → Shared → Prop} (ho : s.heap.get? l = some o) (hc : o.cls = .type "list") (hd : o.dict = none) (hdat : o.data = .seq xs k)
    (h : Q (.done (.ret (.ref s.heap.objs.size))) { s with heap := s.heap.push (bmObj l) }) :
    wpAny (model prog w) A («object.__getattribute__» ⟨[.ref l, .str "append" u], []⟩) Q E s := by
  obtain ⟨c, dct, dat, sl⟩ := o
  simp only at hc hdat hd
  subst hc hdat hd
  obtain ⟨hp, g, d, tk, os⟩ := s
  have hT : (⟨hp, g, d, tk, os⟩ : Shared).TypeIs (.ref l) "list" := ⟨_, ho, rfl⟩
  have f1 := F.slot_list_append.lookup
  have f2 := slot_mdget.lookup
  have f3 := md_noset
  have f4 := md_nodel
  have f5 := md_type
  unfold «object.__getattribute__»
  repeat (any_goals (first | assumption | ((with_reducible show wpAny _ _ (call (Value.builtin "method_descriptor.__get__") _ _) _ _ _); refine wpAny_call_entry slot_mdget (Looks_md _) entry_mdget (mdget_tree ho rfl ⟨_, rfl, ?_⟩) (args_mdget _ _ _)) | wp_step))
  all_goals exact h
theorem getAttr_append {l : Addr} {o : Obj} {xs : Array Value} {k : Nat} {Q : Value → Shared → Prop} (ho : s.heap.get? l = some o) (hc : o.cls = .type "list") (hd : o.dict = none) (hdat : o.data = .seq xs k)
    (h : Q (.ref s.heap.objs.size) { s with heap := s.heap.push (bmObj l), toks := s.toks + 1 }) :
    wpAny (model prog w) A (getAttr (.ref l) "append" true) Q E s := by
  obtain ⟨c, dct, dat, sl⟩ := o
  simp only at hc hdat hd
  subst hc hdat hd
  obtain ⟨hp, g, d, tk, os⟩ := s
  have hT : ∀ tk', (⟨hp, g, d, tk', os⟩ : Shared).TypeIs (.ref l) "list" := fun _ => ⟨_, ho, rfl⟩
  have f3 := F.slot_list_getattribute.lookup
  have f4 := F.slot_list_getattribute.bind (.ref l)
  have f5 := am_list_getattr_none
  unfold getAttr getAttrBy
  repeat (any_goals (first | assumption | exact hT _ | ((with_reducible show wpAny _ _ (call (Value.builtin "list.__getattribute__") _ _) _ _ _); refine wpAny_call_entry F.slot_list_getattribute (hT _) am_entry_list_getattribute (ga_tree ho rfl rfl rfl ⟨_, rfl, ?_⟩) (F.args_list_getattribute_2 _ _)) | wp_step))
theorem callWith_bm {M : Model} {pos : Pos} {bm : Addr} {args : List (Bool × Sem Value)} {Q : Value → Shared → Prop} (hplain : args.any (·.1) = false)
    (h : wpAny M A (evalArgs (.ref bm) true args []) (fun x s₁ => (∃ l, s₁.heap.get? bm = some (bmObj l)) ∧ wpAny M A (call (.ref bm) x.pos x.kw) Q E s₁) E s) :
    wpAny M A (callWith pos (.ref bm) [] args []) Q E s := by
  unfold callWith
  refine wpAny_bind (wpAny_holding (wpAny_mono h (fun x s₁ h₁ => wpAny_bind (wpAny_standAt ?_)) fun _ _ x => x))
  have tail : ∀ {t : Sem Value}, wpAny M A t Q E s₁ → wpAny M A (t >>= fun r => holding [r] point >>= fun _ => pure r) Q E s₁ :=
    fun ht => wpAny_bind (wpAny_mono ht (fun r s₂ hr => wpAny_bind (wpAny_holding (wpAny_point (wpAny_pure hr)))) fun _ _ x => x)
  simp only [hplain, List.any_nil, Bool.or_false]
  refine wpAny_bind (m := keeperOf (.ref bm)) ?_
  unfold keeperOf
  obtain ⟨⟨l, hl⟩, h₂⟩ := h₁
  refine wpAny_bind (wpAny_load hl ?_)
  exact wpAny_pure (tail h₂)
theorem chk_append (l : Addr) (x : Value) : (match Manifest.signature? "list.append" with | none => pure () | some sig => Bind.checkArgs "list.append" { sig with full := toString (Bind.lastOf "list") ++ toString "." ++ toString (Bind.lastOf "list.append") } ⟨[.ref l, x], []⟩) = (pure () : Sem Unit) := by
  rw [signature?_of (id := "list.append") (n := ['d', 'n', 'e', 'p', 'p', 'a']) (o := ['t', 's', 'i', 'l']) (by kernel_rfl) F.owner_list]; kernel_rfl
theorem sub_list_module : isSubtype (.type "list") (.type "module") = pure false := by rw [isSubtype_type]; kernel_rfl
theorem kind_append : builtinKind "list.append" = some .method := by decide +kernel
theorem bound_check {l : Addr} {xs : Array Value} {n : Nat} {x : Value} {Q : Unit → Shared → Prop} (ho : s.heap.get? l = some { cls := .type "list", data := .seq xs n }) (h : Q () s) : wpAny (model prog w) A (checkBoundCall "list.append" ⟨[.ref l, x], []⟩) Q E s := by
  obtain ⟨hp, g, d, tk, os⟩ := s
  have hT : (⟨hp, g, d, tk, os⟩ : Shared).TypeIs (.ref l) "list" := ⟨_, ho, rfl⟩
  have hk := chk_append l x
  unfold checkBoundCall
  revert hk
  cases Manifest.signature? "list.append" with
  | none => intro _; exact wpAny_pure h
  | some sig =>
    intro hk
    dsimp only at hk ⊢
    rw [kind_append]
    dsimp only
    rw [if_neg (by decide)]
    refine wpAny_bind (wpAny_isInstance hT sub_list_module ?_)
    rw [if_neg (by decide +kernel)]
    refine wpAny_bind ?_
    unfold isType
    repeat (any_goals (first | assumption | wp_step))
theorem call_bm {bm l : Addr} {its : Array Value} {n : Nat} {x : Value} {Q : Value → Shared → Prop} (hb : s.heap.get? bm = some (bmObj l)) (ho : s.heap.get? l = some { cls := .type "list", data := .seq its n })
    (h : ∀ h', Heap.SameBut l s.heap h' → h'.get? l = some { cls := .type "list", data := .seq (its.push x) (n + 1) } → Q .none { s with heap := h' })
    (hsz : its.size ≤ sizeLine := by size_fits) : wpAny (model prog w) A (call (.ref bm) [x]) Q E s := by
  refine wpAny_call (codeAny_of_tree ?_)
  show wpAny _ _ (callAny (.ref bm) _) _ _ _
  unfold callAny
  refine wpAny_bind (wpAny_load hb ?_)
  dsimp only [bmObj]
  refine wpAny_bind (bound_check ho ?_)
  refine wpAny_pure ⟨plainId_quiet (by decide +kernel) _, ?_⟩
  show codeAny _ _ (.builtin "list.append" ⟨[.ref l, x], []⟩) _ _
  refine codeAny_builtin F.entry_list_append ?_
  show wpAny _ _ (updateSeq l (·.push x) >>= fun _ => ret .none) _ _ s
  refine wpAny_bind ?_
  refine wpAny_updateSeq ho rfl (wpAny_pure (h _ (Heap.SameBut.update ..) ?_))
  rw [Heap.get?_update_self _ ho (by rw [mapSeq_push]; rfl), mapSeq_push]
end
end Mine
end
section
set_option maxRecDepth 100000
set_option maxHeartbeats 1000000
namespace Mine
open PySem PySem.W PySem.Calls PyProof.Rows
section
variable {prog : Program} {w : World} {A : Around} {E : Value → Shared → Prop} {s : Shared} {env : Env} {h₀ : Heap} {x : Str} {body : List Stmt} {Q : Flow → Shared → Prop}

/-- the state behind a turn of a while: the invariant at a lesser measure -/
def Dec (I : Nat → Shared → Prop) (n : Nat) (s : Shared) : Prop := ∃ m, m < n ∧ I m s
/-- a while whose turns raise nothing, by an invariant over the whole state and a measure -/
theorem while_any {test : PySem.Expr} {pos : Pos} (I : Nat → Shared → Prop)
    (turn : ∀ n s, I n s → wpAny (model prog w) A (isTrue test env (eval test env)) (fun b s₂ =>
        if b then wpAny (model prog w) A (execs body env) (fun f s₃ => match f with
            | .next | .cont => Dec I n s₃
            | .brk => Q .next s₃
            | .ret v => Q (.ret v) s₃) (fun _ _ => False) s₂
        else Q .next s₂) (fun _ _ => False) s)
    (n : Nat) (h : I n s) : wpAny (model prog w) A (exec (.While test body [] pos) env) Q E s := by
  refine wpAny_While (codeAny_whileLoop (fun n s => I n s) (fun n s hI => ?_) n h)
  refine wpAny_mono (turn n s hI) (fun b s₂ h₂ => ?_) fun _ _ z => z.elim
  cases b with
  | true =>
    simp only [if_true] at h₂ ⊢
    refine wpAny_mono h₂ (fun f s₃ h₃ => ?_) fun _ _ z => z.elim
    cases f <;> exact h₃
  | false =>
    simp only [Bool.false_eq_true, if_false] at h₂ ⊢
    exact wpAny_execs_nil h₂

/-- what the turn of a for is to leave behind -/
theorem loop_at {I : Addr} {fp wr : List Addr} {n : Nat} {P : Nat → Value → Prop} {St : Nat → Heap → Prop} {m₀ : Str → Option Value} {news : List (Addr × Obj)} (W : Walks prog w A I fp wr n P St)
    (hLf : env.locals ∉ fp) (hwr : ∀ b ∈ wr, h₀.get? b = none) (hnf : ∀ p ∈ news, p.1 ∉ fp) (hst : St 0 s.heap) (F : Fr h₀ env.locals s.heap m₀) (N : News h₀ env.locals s.heap news)
    (J : Nat → (Str → Option Value) → List (Addr × Obj) → Prop) (h0 : J 0 m₀ news)
    (turn : ∀ i v m₁ news₁ h tk own, i < n → P i v → news₁.map (·.1) = news.map (·.1) → OwnOff own (news.map (·.1)) → J i m₁ news₁ → Fr h₀ env.locals h (fun y => if y = x then some v else m₁ y) → News h₀ env.locals h (news₁ ++ own) →
      wpAny (model prog w) A (execs body env) (InvPostN h₀ env.locals (J (i + 1)) own (news.map (·.1)) { s with heap := h, toks := tk } Q) E { s with heap := h, toks := tk })
    (done : ∀ m₁ news₁ h tk, J n m₁ news₁ → news₁.map (·.1) = news.map (·.1) → Fr h₀ env.locals h m₁ → News h₀ env.locals h news₁ → Q .next { s with heap := h, toks := tk }) :
    LoopAtV prog w A h₀ env x body Q E (.ref I) s := by
  have key : ∀ {a b : List (Addr × Obj)}, a.map (·.1) = b.map (·.1) → ∀ p ∈ a, ∃ q ∈ b, q.1 = p.1 := fun e p hp => by
    have : p.1 ∈ List.map (fun q : Addr × Obj => q.1) _ := List.mem_map.mpr ⟨p, hp, rfl⟩
    rw [e] at this
    obtain ⟨q, hq, e'⟩ := List.mem_map.mp this
    exact ⟨q, hq, e'⟩
  refine ⟨I, fp, wr, n, P, St, m₀, news, fun i m₁ news₁ => news₁.map (·.1) = news.map (·.1) ∧ J i m₁ news₁, rfl, W, hLf, hwr, fun p hp hq => hnf p hp (W.sub _ hq), hst, F, N, ⟨rfl, h0⟩, ?_, ?_⟩
  · rintro i v m₁ news₁ s₁ own ⟨hh', tk', rfl⟩ hin hP ⟨hadr, hJ⟩ hoff hown _ _ _ F₁ N₁
    have hsep : OwnOff own (news.map (·.1)) := fun p hp b hb e => by
      obtain ⟨q, hq, rfl⟩ := List.mem_map.mp hb
      exact hnf q hq (e ▸ hown p hp)
    have N₂ : News h₀ env.locals hh' (news₁ ++ own) := fun p hp => N₁ p ((List.mem_append.mp hp).elim (fun h => List.mem_append.mpr (.inr h)) fun h => List.mem_append.mpr (.inl h))
    refine wpAny_mono (turn i v m₁ news₁ hh' tk' own hin hP hadr hsep hJ F₁ N₂) (fun f s₂ p => ?_) fun _ _ e => e
    have fin : InvEndN h₀ env.locals (J (i + 1)) own (news.map (·.1)) { s with heap := hh', toks := tk' } s₂ → LoopStepU h₀ env.locals wr own (fun m₁ news₁ => news₁.map (·.1) = news.map (·.1) ∧ J (i + 1) m₁ news₁) { s with heap := hh', toks := tk' } .next s₂ := by
      rintro ⟨h', tk, m', news', nx, e, F', N', hn, ho, ha, hm⟩
      refine ⟨rfl, h', tk, m', nx, e, F', fun p hp => N' p ((List.mem_append.mp hp).elim (ho p) (hn p)), fun p hp hq => ?_, ha, hm⟩
      obtain ⟨q, hq1, hq2⟩ := key ha p hp
      exact hnf q hq1 (by rw [hq2]; exact W.sub _ hq)
    cases f with
    | ret v => exact .ret p
    | brk => exact .brk p
    | next => exact .next (fin p)
    | cont => exact .cont (fin p)
  · rintro h' tk m' news' F' N' _ ⟨ha, hJ⟩
    exact done m' news' h' tk hJ ha F' N'

/-- a for over a list that stands in the heap, whatever its items -/
theorem iter_list {l : Addr} {vs : List Value} {m₀ : Str → Option Value} {news : List (Addr × Obj)} (J : Nat → (Str → Option Value) → List (Addr × Obj) → Prop) (hh : A.handled = none)
    (hl : s.heap.IsList l vs.toArray) (hlL : l ≠ env.locals) (hlN : ∀ p ∈ news, p.1 ≠ l) (F : Fr h₀ env.locals s.heap m₀) (N : News h₀ env.locals s.heap news) (hj : J 0 m₀ news)
    (turn : ∀ i v m₁ news₁ h tk own, vs[i]? = some v → news₁.map (·.1) = news.map (·.1) → OwnOff own (news.map (·.1)) → J i m₁ news₁ → Fr h₀ env.locals h (fun y => if y = x then some v else m₁ y) → News h₀ env.locals h (news₁ ++ own) →
      wpAny (model prog w) A (execs body env) (InvPostN h₀ env.locals (J (i + 1)) own (news.map (·.1)) { s with heap := h, toks := tk } Q) E { s with heap := h, toks := tk })
    (done : ∀ m₁ news₁ h tk, J vs.length m₁ news₁ → news₁.map (·.1) = news.map (·.1) → Fr h₀ env.locals h m₁ → News h₀ env.locals h news₁ → Q .next { s with heap := h, toks := tk }) :
    wpAny (model prog w) A (pyIter (.ref l)) (fun it s₂ => LoopAtV prog w A h₀ env x body Q E it s₂) E s := by
  obtain ⟨ol, hol, _⟩ := id hl
  have hne : l ≠ s.heap.objs.size := Nat.ne_of_lt (Heap.lt_size hol)
  refine wpAny_pyIter_list hl ?_
  have W := Walks.list (prog := prog) (w := w) hh s.heap.objs.size l hne vs.toArray
  rw [List.size_toArray] at W
  refine loop_at (s := { s with heap := _ }) W ?_ ?_ ?_ ⟨⟨_, Heap.get?_push_size _ rfl, rfl, rfl⟩, hl.at fun o e => Heap.get?_push_of_some _ e⟩ (F.push _) (fun p hp => ⟨Heap.get?_push_of_some _ (N p hp).1, (N p hp).2⟩) J hj ?_ ?_
  · intro hm
    rcases List.mem_cons.mp hm with e | hm
    · exact absurd F.ns.lt (e ▸ Nat.lt_irrefl _)
    · exact hlL (List.mem_singleton.mp hm).symm
  · intro b hb
    rw [List.mem_singleton.mp hb]
    exact next_is_new F
  · intro p hp hm
    rcases List.mem_cons.mp hm with e | hm
    · exact absurd (Heap.lt_size (N p hp).1) (e ▸ Nat.lt_irrefl _)
    · exact hlN p hp (List.mem_singleton.mp hm)
  · intro i v m₁ news₁ h tk own _ hP
    exact turn i v m₁ news₁ h tk own (by simpa using hP)
  · exact done
end
end Mine
end
section
set_option maxRecDepth 100000
set_option maxHeartbeats 1000000
namespace Mine
open PySem PySem.W PySem.Calls PyProof.Rows
/-- a text by its signs -/
noncomputable def mkS (l : List Nat) : Str := ⟨l.toArray⟩
theorem mkS_toList (l : List Nat) : (mkS l).cps.toList = l := rfl
theorem mkS_length (l : List Nat) : (mkS l).length = l.length := by simp [mkS, Str.length]
theorem mkS_of (x : Str) : mkS x.cps.toList = x := by cases x; simp [mkS]
theorem mkS_inj {a b : List Nat} (h : mkS a = mkS b) : a = b := by
  have := congrArg (fun x : Str => x.cps.toList) h
  exact this
theorem mkS_append (a b : List Nat) : mkS a ++ mkS b = mkS (a ++ b) := by
  show (⟨a.toArray ++ b.toArray⟩ : Str) = _
  simp [mkS]
theorem slice_ss (l : List Nat) {a b : Nat} (hab : a ≤ b) (hb : b ≤ l.length) : Txt.slice (mkS l) (some (a : Int)) (some (b : Int)) = mkS ((l.drop a).take (b - a)) :=
  StrLaws.sliceText_nat (mkS l) hab (by rw [mkS_length]; exact hb)
theorem slice_sn (l : List Nat) {a : Nat} (ha : a ≤ l.length) : Txt.slice (mkS l) (some (a : Int)) none = mkS (l.drop a) := by
  have h := StrLaws.sliceText_from (x := mkS l) (i := (a : Int)) ⟨by omega, by rw [mkS_toList]; omega⟩
  refine h.trans ?_
  rw [mkS_toList]
  congr 2
  rw [List.take_of_length_le (by simp)]
  rfl
theorem slice_sm (l : List Nat) {a : Nat} (ha : a < l.length) : Txt.slice (mkS l) (some (a : Int)) (some (-1)) = mkS ((l.drop a).dropLast) := by
  have e : Txt.slice (mkS l) (some (a : Int)) (some (-1)) = Txt.slice (mkS l) (some (a : Int)) (some ((l.length - 1 : Nat) : Int)) := by
    unfold Txt.slice
    have : Builtin.Str.strSliceIndices (some (a : Int)) (some (-1)) 1 (mkS l).length = Builtin.Str.strSliceIndices (some (a : Int)) (some ((l.length - 1 : Nat) : Int)) 1 (mkS l).length := by
      rw [mkS_length]
      simp only [Builtin.Str.strSliceIndices]
      have h1 : ¬ (((l.length - 1 : Nat) : Int) < 0) := by omega
      have h2 : ((-1 : Int) < 0) := by decide
      simp only [h1, h2, if_true, if_false, show (1 : Int) > 0 by decide]
      congr 1
      omega
    rw [this]
  rw [e, slice_ss l (by omega) (by omega)]
  rw [List.dropLast_eq_take, List.length_drop]
  congr 2
  omega
theorem item_at (l : List Nat) {i : Int} {c : Nat} (h0 : 0 ≤ i) (h : l[i.toNat]? = some c) : Txt.item (mkS l) i = mkS [c] := by
  have hlt : i.toNat < l.length := (List.getElem?_eq_some_iff.mp h).1
  have : Txt.charAt (mkS l) i = some c := StrLaws.at_nonneg h0 (by show l.toArray[i.toNat]? = some c; simpa using h)
  unfold Txt.item
  rw [this]; rfl
theorem item_last (l : List Nat) {c : Nat} (h : l.getLast? = some c) : Txt.item (mkS l) (-1) = mkS [c] := by
  have hne : l ≠ [] := by rintro rfl; cases h
  have hlen : 0 < l.length := List.length_pos_iff.mpr hne
  have : Txt.charAt (mkS l) (-1) = some c := by
    have e : seqIndex? (-1) l.length = some (l.length - 1) := by
      unfold seqIndex?
      have h1 : (decide (0 ≤ ((-1 : Int) + (l.length : Int))) && decide ((-1 : Int) + (l.length : Int) < (l.length : Int))) = true := by
        rw [Bool.and_eq_true]; exact ⟨decide_eq_true (by omega), decide_eq_true (by omega)⟩
      simp only [show ((-1 : Int) < 0) by decide, if_true, h1]
      congr 1
      omega
    unfold Txt.charAt
    rw [mkS_length, e]
    rw [List.getLast?_eq_getElem?] at h
    show l.toArray[l.length - 1]? = some c
    simpa using h
  unfold Txt.item
  rw [this]; rfl
section
variable {prog : Program} {w : World} {A : Around} {E : Value → Shared → Prop} {s : Shared} {value slice : PySem.Expr} {t u : Tok} {Q : Value → Shared → Prop}
theorem item_mk {l : List Nat} {i : Int} {c : Nat} (h0 : 0 ≤ i) (hc : l[i.toNat]? = some c) (hlt : l.length ≤ 100000000) (h : Q (.str (mkS [c]) s.toks) { s with toks := s.toks + 1 })
    (hs : subscripted slice false (.str (mkS l) t) (.int i u) = operate [.str (mkS l) t, .int i u] (getItem (.str (mkS l) t) (.int i u)) := by with_unfolding_all rfl)
    (ht : ∀ r, letTemporaryGo value (.str (mkS l) t) r = pure () := by intro _; with_unfolding_all rfl) :
    wpAny (model prog w) A (subscriptTail value slice (.str (mkS l) t) (.int i u)) Q E s := by
  have hlt' : i.toNat < l.length := (List.getElem?_eq_some_iff.mp hc).1
  have hl := mkS_length l
  refine item_str (fitsSsize_of (N := 9223372036854775808) (by omega) (by omega) (Int.le_refl _)) (by omega) (by omega) (fun _ => ?_) hs ht
  rw [item_at l h0 hc]; exact h
theorem item_mk_last {l : List Nat} {c : Nat} (hc : l.getLast? = some c) (hlt : l.length ≤ 100000000) (h : Q (.str (mkS [c]) s.toks) { s with toks := s.toks + 1 })
    (hs : subscripted slice false (.str (mkS l) t) (.int (-1) u) = operate [.str (mkS l) t, .int (-1) u] (getItem (.str (mkS l) t) (.int (-1) u)) := by with_unfolding_all rfl)
    (ht : ∀ r, letTemporaryGo value (.str (mkS l) t) r = pure () := by intro _; with_unfolding_all rfl) :
    wpAny (model prog w) A (subscriptTail value slice (.str (mkS l) t) (.int (-1) u)) Q E s := by
  have hl := mkS_length l
  have hne : l ≠ [] := by rintro rfl; cases hc
  have hlen : 0 < l.length := List.length_pos_iff.mpr hne
  refine item_str (fitsSsize_of (N := 9223372036854775808) (by omega) (by omega) (Int.le_refl _)) (by omega) (by omega) (fun _ => ?_) hs ht
  rw [item_last l hc]; exact h
end
theorem beq_eq_sign (c : Nat) : (mkS [c] == Str.ofString "=") = decide (c = 61) := by
  have e : Str.ofString "=" = mkS [61] := by decide +kernel
  rw [e]
  by_cases h : c = 61
  · subst h; simp
  · rw [decide_eq_false h]
    exact beq_eq_false_iff_ne.mpr fun q => h (by have := mkS_inj q; simpa using this)
/-- the soft-broken lines of one encoded line, and what is left for the last -/
noncomputable def softF : Nat → Nat → List Nat → List (List Nat) × List Nat
  | 0, _, r => ([], r)
  | k + 1, n, r =>
    if n < r.length ∧ 4 ≤ n then
      if r[n - 3]? = some 61 then (r.take (n - 2) :: (softF k n (r.drop (n - 3))).1, (softF k n (r.drop (n - 3))).2)
      else if r[n - 2]? = some 61 then (r.take (n - 1) :: (softF k n (r.drop (n - 2))).1, (softF k n (r.drop (n - 2))).2)
      else ((r.take (n - 1) ++ [61]) :: (softF k n (r.drop (n - 1))).1, (softF k n (r.drop (n - 1))).2)
    else ([], r)
@[irreducible] noncomputable def soft (n : Nat) (r : List Nat) : List (List Nat) × List Nat := softF r.length n r
theorem drop_le {r : List Nat} {k m : Nat} (h : r.length ≤ k + 1) (hm : 0 < m) : (r.drop m).length ≤ k := by rw [List.length_drop]; omega
theorem softF_any : ∀ (k j n : Nat) (r : List Nat), r.length ≤ k → r.length ≤ j → softF k n r = softF j n r
  | 0, 0, _, _, _, _ => rfl
  | 0, j + 1, n, r, h, _ => by unfold softF; rw [if_neg fun q => by omega]
  | k + 1, 0, n, r, _, h => by unfold softF; rw [if_neg fun q => by omega]
  | k + 1, j + 1, n, r, h, h' => by
    unfold softF
    by_cases q : n < r.length ∧ 4 ≤ n
    · have f : ∀ m, 0 < m → softF k n (r.drop m) = softF j n (r.drop m) := fun m hm => softF_any k j n _ (drop_le h hm) (drop_le h' hm)
      rw [f (n - 3) (by omega), f (n - 2) (by omega), f (n - 1) (by omega)]
    · rw [if_neg q, if_neg q]
theorem soft_eq (n : Nat) (r : List Nat) : soft n r = if n < r.length ∧ 4 ≤ n then
      if r[n - 3]? = some 61 then (r.take (n - 2) :: (soft n (r.drop (n - 3))).1, (soft n (r.drop (n - 3))).2)
      else if r[n - 2]? = some 61 then (r.take (n - 1) :: (soft n (r.drop (n - 2))).1, (soft n (r.drop (n - 2))).2)
      else ((r.take (n - 1) ++ [61]) :: (soft n (r.drop (n - 1))).1, (soft n (r.drop (n - 1))).2)
    else ([], r) := by
  have e : soft n r = softF (r.length + 1) n r := by unfold soft; exact softF_any _ _ n r (Nat.le_refl _) (Nat.le_succ _)
  have f : ∀ m, soft n (r.drop m) = softF r.length n (r.drop m) := fun m => by
    unfold soft; exact softF_any _ _ n _ (Nat.le_refl _) (by rw [List.length_drop]; omega)
  rw [e, f, f, f, softF]
theorem soft_ind (n : Nat) {P : List Nat → List (List Nat) × List Nat → Prop}
    (c1 : ∀ r, n < r.length → 4 ≤ n → P (r.drop (n - 3)) (soft n (r.drop (n - 3))) → P r (r.take (n - 2) :: (soft n (r.drop (n - 3))).1, (soft n (r.drop (n - 3))).2))
    (c2 : ∀ r, n < r.length → 4 ≤ n → P (r.drop (n - 2)) (soft n (r.drop (n - 2))) → P r (r.take (n - 1) :: (soft n (r.drop (n - 2))).1, (soft n (r.drop (n - 2))).2))
    (c3 : ∀ r, n < r.length → 4 ≤ n → P (r.drop (n - 1)) (soft n (r.drop (n - 1))) → P r ((r.take (n - 1) ++ [61]) :: (soft n (r.drop (n - 1))).1, (soft n (r.drop (n - 1))).2))
    (c4 : ∀ r, P r ([], r)) : ∀ (k : Nat) (r : List Nat), r.length ≤ k → P r (soft n r)
  | 0, r, h => by rw [soft_eq, if_neg fun q => by omega]; exact c4 r
  | k + 1, r, h => by
    rw [soft_eq]
    by_cases q : n < r.length ∧ 4 ≤ n
    · have f : ∀ m, 0 < m → P (r.drop m) (soft n (r.drop m)) := fun m hm => soft_ind n c1 c2 c3 c4 k _ (drop_le h hm)
      rw [if_pos q]
      split
      · exact c1 r q.1 q.2 (f _ (by omega))
      · split
        · exact c2 r q.1 q.2 (f _ (by omega))
        · exact c3 r q.1 q.2 (f _ (by omega))
    · rw [if_neg q]; exact c4 r
theorem soft_stop {n : Nat} {r : List Nat} (h : ¬ n < r.length) : soft n r = ([], r) := by rw [soft_eq, if_neg (fun q => h q.1)]
theorem soft_one {n : Nat} {l : List Nat} {a : Nat} (h4 : 4 ≤ n) (h : n < (l.drop a).length) (hc : l[a + (n - 3)]? = some 61) :
    soft n (l.drop a) = ((l.drop a).take (n - 2) :: (soft n (l.drop (a + (n - 3)))).1, (soft n (l.drop (a + (n - 3)))).2) := by
  rw [soft_eq, if_pos ⟨h, h4⟩, if_pos (by rw [List.getElem?_drop]; exact hc), List.drop_drop]
theorem soft_two {n : Nat} {l : List Nat} {a : Nat} (h4 : 4 ≤ n) (h : n < (l.drop a).length) (hc : l[a + (n - 3)]? ≠ some 61) (hd : l[a + (n - 2)]? = some 61) :
    soft n (l.drop a) = ((l.drop a).take (n - 1) :: (soft n (l.drop (a + (n - 2)))).1, (soft n (l.drop (a + (n - 2)))).2) := by
  rw [soft_eq, if_pos ⟨h, h4⟩, if_neg (by rw [List.getElem?_drop]; exact hc), if_pos (by rw [List.getElem?_drop]; exact hd), List.drop_drop]
theorem soft_three {n : Nat} {l : List Nat} {a : Nat} (h4 : 4 ≤ n) (h : n < (l.drop a).length) (hc : l[a + (n - 3)]? ≠ some 61) (hd : l[a + (n - 2)]? ≠ some 61) :
    soft n (l.drop a) = (((l.drop a).take (n - 1) ++ [61]) :: (soft n (l.drop (a + (n - 1)))).1, (soft n (l.drop (a + (n - 1)))).2) := by
  rw [soft_eq, if_pos ⟨h, h4⟩, if_neg (by rw [List.getElem?_drop]; exact hc), if_neg (by rw [List.getElem?_drop]; exact hd), List.drop_drop]
theorem soft_rest (n : Nat) (r : List Nat) (hr : r ≠ []) : (soft n r).2 ≠ [] :=
  soft_ind n (P := fun r o => r ≠ [] → o.2 ≠ []) (fun r h h4 ih _ => ih (List.ne_nil_of_length_pos (by rw [List.length_drop]; omega))) (fun r h h4 ih _ => ih (List.ne_nil_of_length_pos (by rw [List.length_drop]; omega)))
    (fun r h h4 ih _ => ih (List.ne_nil_of_length_pos (by rw [List.length_drop]; omega))) (fun r h => h) _ r (Nat.le_refl _) hr
end Mine
end
section
set_option maxRecDepth 100000
set_option maxHeartbeats 4000000
namespace Mine
open PySem PySem.W PySem.Calls PyProof.Rows
noncomputable def sBody : Stmt → List Stmt
  | .For _ _ b _ _ => b
  | .While _ b _ _ => b
  | .If _ b _ _ => b
  | _ => []
noncomputable def nth (l : List Stmt) (i : Nat) : Stmt := match l[i]? with | some s => s | none => .Pass default
noncomputable def over (l : List (Str × Value)) (m : Str → Option Value) : Str → Option Value := fun y => match l.lookup y with | some v => some v | none => m y
theorem over_eq {l : List (Str × Value)} {m : Str → Option Value} (h : ∀ p ∈ l, m p.1 = some p.2) : over l m = m := by
  funext y
  unfold over
  induction l with
  | nil => rfl
  | cons p l ih =>
    rw [List.lookup_cons]
    cases hk : y == p.1 with
    | true => dsimp only; rw [eq_of_beq hk]; exact (h p (.head _)).symm
    | false => exact ih fun q hq => h q (.tail _ hq)
theorem fr_over {h₀ h : Heap} {L : Addr} {m : Str → Option Value} {l : List (Str × Value)} (F : Fr h₀ L h m) (hm : ∀ p ∈ l, m p.1 = some p.2) : Fr h₀ L h (over l m) := (over_eq hm).symm ▸ F
abbrev lst (vs : List Value) (ep : Nat) : Obj := { cls := .type "list", data := .seq vs.toArray ep }
theorem News.sub {h₀ h : Heap} {L : Addr} {a b : List (Addr × Obj)} (N : News h₀ L h a) (hs : ∀ p ∈ b, p ∈ a) : News h₀ L h b := fun p hp => N p (hs p hp)
section
variable {prog : Program} {w : World} {A : Around} {E : Value → Shared → Prop} {s : Shared} {h₀ : Heap} {L : Addr} {m : Str → Option Value}
/-- encoded_body.append as a value -/
theorem bm_make {eb : Addr} {its : Array Value} {n : Nat} {rest : List (Addr × Obj)} {Q : Value → Shared → Prop} (F : Fr h₀ L s.heap m) (N : News h₀ L s.heap ((eb, { cls := .type "list", data := .seq its n }) :: rest))
    (h : ∀ h', Fr h₀ L h' m → News h₀ L h' ((s.heap.objs.size, bmObj eb) :: (eb, { cls := .type "list", data := .seq its n }) :: rest) → Q (.ref s.heap.objs.size) { s with heap := h', toks := s.toks + 1 }) :
    wpAny (model prog w) A (getAttr (.ref eb) "append" true) Q E s :=
  getAttr_append (N.get (.head _)) rfl rfl rfl (h _ (F.push _) (N.push F _))
/-- append(x) through it -/
theorem bm_step {eb bm : Addr} {vs : List Value} {n : Nat} {own : List (Addr × Obj)} {x : Value} {Q : Value → Shared → Prop} (F : Fr h₀ L s.heap m) (N : News h₀ L s.heap ((eb, lst vs n) :: (bm, bmObj eb) :: own))
    (hne : bm ≠ eb) (hoff : ∀ p ∈ own, p.1 ≠ eb) (hsz : vs.length ≤ 1000000)
    (h : ∀ h', Fr h₀ L h' m → News h₀ L h' ((eb, lst (vs ++ [x]) (n + 1)) :: (bm, bmObj eb) :: own) → Q .none { s with heap := h' }) :
    wpAny (model prog w) A (call (.ref bm) [x]) Q E s := by
  have he := N _ (.head _)
  refine call_bm (N.get (.tail _ (.head _))) (N.get (.head _)) (fun h' hs ho => ?_) (by rw [List.size_toArray, sizeLine_eq]; omega)
  refine h h' (F.change hs he.2.1 he.2.2) (fun p hp => ?_)
  rcases List.mem_cons.mp hp with rfl | hp
  · refine ⟨by rw [ho]; simp, he.2⟩
  · have hpe : p.1 ≠ eb := by
      rcases List.mem_cons.mp hp with rfl | hp
      · exact hne
      · exact hoff p hp
    exact ⟨(hs.2 p.1 hpe).trans (N p (.tail _ hp)).1, (N p (.tail _ hp)).2⟩
def AtBm (M : Model) (A : Around) (Q : Value → Shared → Prop) (E : Value → Shared → Prop) (bm : Addr) (vs : List Value) (s₁ : Shared) : Prop := (∃ l, s₁.heap.get? bm = some (bmObj l)) ∧ wpAny M A (call (.ref bm) vs) Q E s₁
def AtFn (M : Model) (A : Around) (Q : Value → Shared → Prop) (E : Value → Shared → Prop) (f : Addr) (vs : List Value) (s₁ : Shared) : Prop := (∃ o fd, s₁.heap.get? f = some o ∧ o.data = .func fd) ∧ wpAny M A (call (.ref f) vs) Q E s₁
theorem at_bm {eb bm : Addr} {vs : List Value} {n : Nat} {own : List (Addr × Obj)} {x : Value} {Q : Value → Shared → Prop} (F : Fr h₀ L s.heap m) (N : News h₀ L s.heap ((eb, lst vs n) :: (bm, bmObj eb) :: own))
    (hne : bm ≠ eb) (hoff : ∀ p ∈ own, p.1 ≠ eb) (hsz : vs.length ≤ 1000000)
    (h : ∀ h', Fr h₀ L h' m → News h₀ L h' ((eb, lst (vs ++ [x]) (n + 1)) :: (bm, bmObj eb) :: own) → Q .none { s with heap := h' }) : AtBm (model prog w) A Q E bm [x] s :=
  ⟨⟨eb, N.get (.tail _ (.head _))⟩, bm_step F N hne hoff hsz h⟩
theorem callWith_bm1 {M : Model} {env : Env} {pos : Pos} {bm : Addr} {e : PySem.Expr} {Q : Value → Shared → Prop}
    (h : wpAny M A (spliced (backTo pos (starEach [e] env))) (fun vs s₁ => AtBm M A Q E bm vs s₁) E s)
    (he : starEach [e] env = (false, eval e env) :: starEach [] env := by rfl) :
    wpAny M A (callWith pos (.ref bm) [] (backTo pos (starEach [e] env)) []) Q E s := by
  rw [he] at h ⊢
  exact callWith_bm rfl (evalArgs_plain h)
/-- a call of a def of the text's, by its value -/
theorem callWith_fn {M : Model} {env : Env} {pos : Pos} {f : Addr} {e : PySem.Expr} {rest : List PySem.Expr} {Q : Value → Shared → Prop}
    (h : wpAny M A (spliced (backTo pos (starEach (e :: rest) env))) (fun vs s₁ => AtFn M A Q E f vs s₁) E s)
    (he : starEach (e :: rest) env = (false, eval e env) :: starEach rest env := by rfl) (hplain : (backTo pos (starEach rest env)).any (·.1) = false := by rfl) :
    wpAny M A (callWith pos (.ref f) [] (backTo pos (starEach (e :: rest) env)) []) Q E s := by
  rw [he] at h ⊢
  have h' := wpAny_mono h (Q' := fun vs s₁ => ∃ o fd, (s₁.heap.get? f = some o ∧ o.data = .func fd) ∧ wpAny M A (call (.ref f) vs) Q E s₁) (fun vs s₁ z => by obtain ⟨⟨o, fd, hz⟩, z⟩ := z; exact ⟨o, fd, hz, z⟩) fun _ _ z => z
  unfold callWith
  refine wpAny_bind (wpAny_holding (wpAny_mono (evalArgs_plain (Q := fun x s₁ => ∃ o fd, (s₁.heap.get? f = some o ∧ o.data = .func fd) ∧ wpAny M A (call (.ref f) x.pos x.kw) Q E s₁) h') (fun x s₁ h₁ => ?_) fun _ _ z => z))
  obtain ⟨o, fd, h1, h2⟩ := h₁
  refine wpAny_bind (wpAny_standAt ?_)
  have tail : ∀ {t : Sem Value}, wpAny M A t Q E s₁ → wpAny M A (t >>= fun r => holding [r] point >>= fun _ => pure r) Q E s₁ :=
    fun ht => wpAny_bind (wpAny_mono ht (fun r s₂ hr => wpAny_bind (wpAny_holding (wpAny_point (wpAny_pure hr)))) fun _ _ x => x)
  have hst : (backTo pos ((false, eval e env) :: starEach rest env)).any (·.1) = false := by show (false || (backTo pos (starEach rest env)).any (·.1)) = false; rw [hplain]; rfl
  simp only [hst, List.any_nil, Bool.or_false]
  refine wpAny_bind (m := keeperOf (.ref f)) ?_
  unfold keeperOf
  refine wpAny_bind (wpAny_load h1.1 ?_)
  rw [h1.2]
  refine wpAny_pure ?_
  first
    | refine wpAny_ite ?_
    | skip
  split <;> first
    | exact tail h2
    | exact tail (by unfold callMarked; exact wpAny_keep h2)
theorem len_news {l : Addr} {vs : List Value} {ep : Nat} {news : List (Addr × Obj)} {Q : Value → Shared → Prop} (N : News h₀ L s.heap news) (hm : (l, lst vs ep) ∈ news) (hl : vs.length ≤ 100000000)
    (h : ∀ u tk, Q (.int (vs.length : Nat) u) { s with toks := tk }) : wpAny (model prog w) A (call (.builtin "len") [.ref l]) Q E s := by
  refine len_list (items := vs.toArray) ⟨_, N.get hm, rfl, ep, rfl⟩ (by rw [List.size_toArray]; omega) ?_
  rw [List.size_toArray]
  exact h _ _
theorem app_news {l : Addr} {vs : List Value} {ep : Nat} {own : List (Addr × Obj)} {x : Value} {Q : Value → Shared → Prop} (F : Fr h₀ L s.heap m) (N : News h₀ L s.heap ((l, lst vs ep) :: own)) (hoff : ∀ p ∈ own, p.1 ≠ l) (hsz : vs.length ≤ 1000000)
    (h : ∀ h', Fr h₀ L h' m → News h₀ L h' ((l, lst (vs ++ [x]) (ep + 1)) :: own) → Q .none { s with heap := h' }) : wpAny (model prog w) A (call (.builtin "list.append") [.ref l, x]) Q E s := by
  refine append_head F N hoff (fun h' F' N' => h h' F' ?_) (by rw [List.size_toArray, sizeLine_eq]; omega)
  rwa [List.push_toArray] at N'
end
end Mine
end
section
set_option maxRecDepth 100000
set_option maxHeartbeats 4000000
namespace Mine
open PySem PySem.W PySem.Calls PyProof.Rows
/-- a call of a def with one cell that is no parameter -/
theorem call_defC {prog : Program} {w : World} {A : Around} {s : Shared} {Q : Value → Shared → Prop} {E : Value → Shared → Prop} {a : Addr} {o : Obj} {fd : FuncData} {body : List Stmt} {args : List Value} {binds : List (Str × Value)} {cn : Str}
    (hroom : A.depth < recursionLimit) (ho : s.heap.get? a = some o) (hdata : o.data = .func fd) (hlim : s.heap.NoLimit) (hcd : s.heap.CodeRec fd.code fd.qualname)
    (hbody : fd.body = .stmts body) (henv : ∀ L, callEnvC fd L a = envOfC fd.qualname fd.scope L a fd.code) (hbind : bindArgs fd ⟨args, []⟩ = pure binds) (hclo : fd.closure = [])
    (hcells : ∀ n, cellsFrom n fd.scope.names [] = [(cn, n)]) (hloc : ∀ x ∈ binds, fd.scope.names.lookup x.1 = some .local) (hcn : ∀ L, bindC (envOfC fd.qualname fd.scope L a fd.code).kindOf binds (fun _ => none) cn = none)
    (h : ∀ L s₁ A' oc, Fr s.heap L s₁.heap (bindL (envOfC fd.qualname fd.scope L a fd.code).kindOf binds fun _ => none) → News s.heap L s₁.heap [(L + 1, oc)] → oc.data = .cell none → SameBut' s s₁ → In1 A A' →
      wpAny (model prog w) A' (execs body (envOfC fd.qualname fd.scope L a fd.code)) (fun f s' => Q (match f with | .ret v => v | _ => .none) s') (fun _ _ => False) s₁)
    (hco : fd.scope.isCoroutine = false) (hgen : fd.scope.isGenerator = false) (hk : fd.scope.kind = .function) :
    wpAny (model prog w) A (call (.ref a) args) Q E s := by
  refine wpAny_call (codeAny_call_cells (body := body) hroom ho hdata hlim hcd hbody hbind hclo (fun x hx => .inl (hloc x hx)) (fun s₁ x => ?_) hco hgen hk)
  rw [henv] at x ⊢
  have hc := x.cell cn (s.heap.objs.size + 1) (by show (cellsFrom _ fd.scope.names []).lookup cn = _; rw [hcells]; simp)
  rw [hcn] at hc
  obtain ⟨oc, hoc, hocd⟩ := hc
  refine wpAny_mono (h s.heap.objs.size s₁ _ oc ⟨x.toInCall.ns, x.toInCall.keep, Nat.le_refl _⟩ ?_ hocd x.toInCall.same ⟨rfl, rfl, rfl⟩) (fun f s' q => q) (fun _ _ z => z.elim)
  intro p hp
  rw [List.mem_singleton.mp hp]
  refine ⟨hoc, by simp, ?_⟩
  cases hq : s.heap.get? (s.heap.objs.size + 1) with
  | none => rfl
  | some o' => exact (Nat.lt_irrefl _ (Nat.lt_trans (Nat.lt_succ_self _) (Heap.lt_size hq))).elim
section
variable {prog : Program} {w : World} {A : Around} {E : Value → Shared → Prop} {s : Shared} {env : Env} {x : Str} {pos : Pos} {v : Value} {Q : Value → Shared → Prop} {m : Str → Option Value}
/-- a name, by what the heap holds; for any frame -/
theorem nm_local (hk : env.scope.kind = .function) (hx : env.kindOf x = some .local) (hn : s.heap.Ns env.locals m) (hv : m x = some v) (h : Q v s) (hd : (x == ("__debug__" : Str)) = false := by decide) :
    wpAny (model prog w) A (eval (.Name x pos) env) Q E s := wpAny_Name (wpAny_loadName_local hk hx hn hv h) hd
theorem nm_cell {c : Addr} (hk : env.scope.kind = .function) (hx : env.kindOf x = some .cell) (hc : env.cells.lookup x = some c) (hn : s.heap.IsCell c (some v)) (h : Q v s) (hd : (x == ("__debug__" : Str)) = false := by decide) :
    wpAny (model prog w) A (eval (.Name x pos) env) Q E s := wpAny_Name (wpAny_loadName_cell hk hx hc hn h) hd
theorem nm_glob (hk : env.scope.kind = .function) (hx : env.kindOf x = some .globalImplicit) (hg : env.globals = mainGlobals) (Y : TopH w s.heap) (hv : gN w.params x = some v) (h : Q v s) (hd : (x == ("__debug__" : Str)) = false := by decide) :
    wpAny (model prog w) A (eval (.Name x pos) env) Q E s := Name_function_global hk hx (loadGlobal_global (hg ▸ Y.ns) hv h) hd
theorem nm_boot {mean mg mb} {h₀ : Heap} (hk : env.scope.kind = .function) (hx : env.kindOf x = some .globalImplicit) (hg : env.globals = mainGlobals) (hb : env.builtins = builtinsNs) (T : Top vq (looseW vq looseN) mean mg mb h₀)
    (keep : ∀ b o, h₀.get? b = some o → s.heap.get? b = some o) (Y : TopH w s.heap) (hv : gN w.params x = none) (hbo : bootBuiltins x = some v) (hn : x ≠ "__name__") (h : Q v s) (hd : (x == ("__debug__" : Str)) = false := by decide) :
    wpAny (model prog w) A (eval (.Name x pos) env) Q E s :=
  Name_function_global hk hx (loadGlobal_builtin (hg ▸ Y.ns) hv (hb ▸ T.b.keeps keep) ((T.builtins x hn).trans hbo) h) hd
end
theorem gn_len (P : Params) : gN P "len" = none := by kernel_rfl
theorem gn_chr (P : Params) : gN P "chr" = none := by kernel_rfl
theorem gn_range (P : Params) : gN P "range" = none := by kernel_rfl
theorem gn_ValueError (P : Params) : gN P "ValueError" = none := by kernel_rfl
theorem bo_len : bootBuiltins "len" = some (.builtin "len") := by kernel_rfl
theorem bo_chr : bootBuiltins "chr" = some (.builtin "chr") := by kernel_rfl
theorem bo_range : bootBuiltins "range" = some (.type "range") := by kernel_rfl
end Mine
end
section
set_option maxRecDepth 100000
set_option maxHeartbeats 4000000
namespace Mine
theorem anew11 : True := by
  w_top off
  first | walk1 | trivial
open PySem PySem.W PySem.Calls PyProof.Rows
noncomputable def chS (c : Nat) : Str := mkS [c]
def TxI (s₀ : Shared) (L sg : Addr) (own : List (Addr × Obj)) (k : Nat) (s : Shared) : Prop :=
  ∃ (r : Int) (t : Tok) (vs : List Value) (ep : Nat) (xs : List Nat) (m : Str → Option Value), SameBut' s₀ s ∧ Fr s₀.heap L s.heap m ∧ m "signs" = some (.ref sg) ∧ m "rest" = some (.int r t) ∧ 0 ≤ r ∧
    News s₀.heap L s.heap ((sg, lst vs ep) :: own) ∧ StrsAre vs (xs.map chS) ∧ xs.length ≤ 4000 ∧ (∀ c ∈ xs, c < 256) ∧ k = r.toNat
theorem menu8 (k : Nat) (hk : k < 8) : ∃ c, c < 256 ∧ Txt.item (Str.ofString " \t\r\n=aZ.") (k : Int) = chS c := by
  have : ∀ k : Fin 8, (match Txt.item (Str.ofString " \t\r\n=aZ.") ((k.val : Nat) : Int) with | ⟨⟨[c]⟩⟩ => decide (c < 256) | _ => false) = true := by decide +kernel
  have h := this ⟨k, hk⟩
  dsimp only at h
  split at h
  · rename_i c e; exact ⟨c, of_decide_eq_true h, e⟩
  · cases h
theorem fdiv_less {r : Int} (h : 0 < r) : 0 ≤ (r - 1).fdiv 320 ∧ ((r - 1).fdiv 320).toNat < r.toNat := by
  rw [Int.fdiv_eq_ediv_of_nonneg _ (by decide : (0 : Int) ≤ 320)]
  omega
theorem tx_next {s₀ s : Shared} {L sg : Addr} {own : List (Addr × Obj)} {r : Int} {t' : Tok} {vs : List Value} {ep : Nat} {xs : List Nat} {m : Str → Option Value} {x : Str} {tx : Tok} {c : Nat}
    (F : Fr s₀.heap L s.heap m) (N : News s₀.heap L s.heap ((sg, lst (vs ++ [.str x tx]) ep) :: own)) (e : SameBut' s₀ s) (hm1 : m "signs" = some (.ref sg)) (hm2 : m "rest" = some (.int ((r - 1).fdiv 320) t')) (hpos : 0 < r)
    (hv : StrsAre vs (xs.map chS)) (hxl : xs.length < 4000) (hx8 : ∀ c ∈ xs, c < 256) (hx : x = chS c) (hc : c < 256) : Dec (TxI s₀ L sg own) r.toNat s := by
  subst hx
  have hd := fdiv_less hpos
  refine ⟨_, hd.2, (r - 1).fdiv 320, t', _, ep, xs ++ [c], m, e, F, hm1, hm2, hd.1, N, ?_, by rw [List.length_append, List.length_singleton]; omega, ?_, rfl⟩
  · rw [List.map_append]; exact hv.append' (.cons _ _ .nil)
  · intro d hd
    rcases List.mem_append.mp hd with hd | hd
    · exact hx8 d hd
    · rw [List.mem_singleton.mp hd]; exact hc
local macro_rules | `(tactic| walk_at "assign Tuple") => `(tactic| ((with_reducible show wpAny _ _ (assign (PySem.Expr.Tuple _ _ _) _ (Value.ref _)) _ _ _); refine unpackN_ (by assumption) (by assumption) (News.isTup (by assumption) (by first | exact .head _ | exact .tail _ (.head _))) (by assumption) (by rfl) (by rfl) ?_; intro _ _ _))
theorem tx_while {w : World} {A : Around} {s₀ s : Shared} {L sg : Addr} {nm : Str} {Q : Flow → Shared → Prop} {E : Value → Shared → Prop} {mean mg mb}
    (T : Top vq (looseW vq looseN) mean mg mb s₀.heap) (hh : A.handled = none) {own : List (Addr × Obj)} (hoff : ∀ p ∈ own, p.1 ≠ sg) {k : Nat} (hI : TxI s₀ L sg own k s) 
    (h : ∀ s' k', TxI s₀ L sg own k' s' → Q .next s') :
    wpAny (model PR w) A (exec (nth (sBody (nth (fBody (stm 19)) 1)) 1) (envOf nm (fScope (stm 19)) L 57 (.ref 56))) Q E s := by
  w_on
  refine while_any (TxI s₀ L sg own) ?_ k hI
  clear hI
  rintro k s ⟨r, t, vs, ep, xs, m, ⟨hp, tk, rfl⟩, F0, hm1, hm2, hr, N, hv, hxl, hx8, rfl⟩
  have F1 : Fr s₀.heap L hp (over [("signs", .ref sg), ("rest", .int r t)] m) := fr_over F0 (List.forall_mem_cons.mpr ⟨hm1, List.forall_mem_cons.mpr ⟨hm2, List.forall_mem_nil _⟩⟩)
  have hvl := hv.length
  rw [List.length_map] at hvl
  have hq0 : 0 ≤ (r - 1).fmod 320 := Int.fmod_nonneg_of_pos _ (by decide)
  have hq1 : (r - 1).fmod 320 < 320 := Int.fmod_lt_of_pos _ (by decide)
  repeat' walk1
  · have hpos : 0 < r := by assumption
    refine len_news (vs := vs) (ep := ep) N (.head _) (by omega) fun u tk => ?_
    dsimp only
    repeat' walk1
    · dsimp only [List.cons_append, List.nil_append]
      refine app_news (vs := vs) (ep := ep) (own := own) (by assumption) (News.sub (by assumption) (fun p hp => List.Mem.tail _ hp)) hoff (by omega) ?_
      intro h3 F3 N3
      dsimp only
      repeat' walk1
      exact tx_next F3 N3 ⟨_, _, rfl⟩ rfl rfl hpos hv (by omega) hx8 (c := ((r - 1).fmod 320 - 64).toNat) rfl (by omega)
    · have hlen : (Str.ofString " \t\r\n=aZ.").length = 8 := by decide +kernel
      have hq : ((r - 1).fmod 320).fmod 8 = ((((r - 1).fmod 320).toNat % 8 : Nat) : Int) := by rw [Int.fmod_eq_emod_of_nonneg _ (by decide : (0 : Int) ≤ 8)]; omega
      rw [hq]
      refine item_str (fitsSsize_of (N := 9223372036854775808) (by omega) (by omega) (Int.le_refl _)) (by omega) (by omega) (fun _ => ?_)
      obtain ⟨c, hc8, hc⟩ := menu8 (((r - 1).fmod 320).toNat % 8) (by omega)
      rw [hc]
      dsimp only
      repeat' walk1
      dsimp only [List.cons_append, List.nil_append]
      refine app_news (vs := vs) (ep := ep) (own := own) (by assumption) (News.sub (by assumption) (fun p hp => List.Mem.tail _ hp)) hoff (by omega) ?_
      intro h3 F3 N3
      dsimp only
      repeat' walk1
      exact tx_next F3 N3 ⟨_, _, rfl⟩ rfl rfl hpos hv (by omega) hx8 (c := c) rfl hc8
    · exact h _ r.toNat ⟨r, t, vs, ep, xs, m, ⟨_, _, rfl⟩, F0, hm1, hm2, hr, N, hv, hxl, hx8, rfl⟩
  · exact h _ r.toNat ⟨r, t, vs, ep, xs, m, ⟨_, _, rfl⟩, F0, hm1, hm2, hr, N, hv, hxl, hx8, rfl⟩
end Mine
end
section
set_option maxRecDepth 100000
set_option maxHeartbeats 4000000
namespace Mine
theorem anew12 : True := by
  w_top off
  first | walk1 | trivial
open PySem PySem.W PySem.Calls PyProof.Rows
theorem comp_news {h₀ : Heap} {L : Addr} {s₂ : Shared} {m : Str → Option Value} {news : List (Addr × Obj)} {wr : List Addr} {D : Addr} {h' : Heap} {ys : Array Value} (F : Fr h₀ L s₂.heap m) (N : News h₀ L s₂.heap news)
    (hwr : ∀ b ∈ wr, b ≠ L ∧ h₀.get? b = none ∧ ∀ p ∈ news, p.1 ≠ b) (hD : s₂.heap.get? D = none) (hpl : h'.PlainList D ys) (keep : ∀ b o, b ∉ wr → s₂.heap.get? b = some o → h'.get? b = some o) :
    Fr h₀ L h' m ∧ ∃ n, News h₀ L h' ((D, lst ys.toList n) :: news) := by
  obtain ⟨n, hn⟩ := hpl
  have F' : Fr h₀ L h' m := ⟨F.ns.at' fun o e => keep L o (fun q => (hwr L q).1 rfl) e, fun b o e => keep b o (fun q => by rw [(hwr b q).2.1] at e; cases e) (F.keep b o e), F.above⟩
  refine ⟨F', n, fun p hp => ?_⟩
  rcases List.mem_cons.mp hp with rfl | hp
  · refine ⟨by simpa using hn, fun q => ?_, ?_⟩
    · dsimp only at q
      rw [q] at hD
      obtain ⟨o, _, _, ho, _⟩ := F.ns
      rw [hD] at ho; cases ho
    · cases q : h₀.get? D with
      | none => rfl
      | some o => have := F.keep D o q; rw [hD] at this; cases this
  · exact ⟨keep _ _ (fun q => (hwr p.1 q).2.2 p hp rfl) (N p hp).1, (N p hp).2⟩

noncomputable def plainL : List Nat := 9 :: (List.range' 32 95).filter (· != 61)
noncomputable def pK (v : Value) : Bool := match v with | .int k _ => k != 61 | _ => false
def fK (v y : Value) : Prop := ∃ (k : Nat) (t u : Tok), v = .int (k : Int) t ∧ y = .str (chS k) u
theorem strs_of_ints : ∀ (n a : Nat) (vs ys : List Value), vs.length = n → (∀ (j : Nat) (v : Value), vs[j]? = some v → ∃ t, v = .int ((a : Int) + (j : Nat) * 1) t) → Paired fK (vs.filter pK) ys → StrsAre ys (((List.range' a n).filter (· != 61)).map chS)
  | 0, a, vs, ys, hl, hv, hp => by
    rw [List.length_eq_zero_iff] at hl
    subst hl
    cases hp
    exact .nil
  | n + 1, a, [], ys, hl, hv, hp => by cases hl
  | n + 1, a, v :: vs, ys, hl, hv, hp => by
    obtain ⟨t, rfl⟩ := hv 0 v rfl
    have ih := fun ys => strs_of_ints n (a + 1) vs ys (Nat.succ.inj hl) (fun j v hj => by
      obtain ⟨t, rfl⟩ := hv (j + 1) v hj
      exact ⟨t, by congr 1; push_cast; omega⟩)
    have ea : ((a : Int) + ((0 : Nat) : Int) * 1) = (a : Int) := by omega
    rw [ea] at hp
    by_cases h : a = 61
    · subst h
      exact ih ys hp
    · have h1 : pK (.int (a : Int) t) = true := by
        show ((a : Int) != 61) = true
        rw [bne_iff_ne]; omega
      have h2 : (a != 61) = true := by rw [bne_iff_ne]; exact h
      rw [List.filter_cons_of_pos h1] at hp
      rw [List.range'_succ, List.filter_cons_of_pos (by exact h2)]
      cases hp with
      | cons hf hp =>
        obtain ⟨k, t', u, e, rfl⟩ := hf
        injection e with e _
        have : a = k := by omega
        subst this
        exact .cons _ _ (ih _ hp)
local macro_rules | `(tactic| walk_at "eval Name") => `(tactic| first
  | refine nameX_L (by assumption) rfl ?_
  | refine nm_boot rfl rfl rfl rfl (by assumption) (Fr.keep (by assumption)) (fr_top (by assumption) (by assumption)) (gn_len _) bo_len (by decide) ?_
  | refine nm_boot rfl rfl rfl rfl (by assumption) (Fr.keep (by assumption)) (fr_top (by assumption) (by assumption)) (gn_range _) bo_range (by decide) ?_
  | refine nm_glob rfl rfl rfl (fr_top (by assumption) (by assumption)) (g_octet _) ?_
  | refine nm_local rfl rfl (by assumption) (by assumption) ?_
  | refine nm_boot rfl rfl rfl rfl (by assumption) (by assumption) (by assumption) (gn_chr _) bo_chr (by decide) ?_)
local macro_rules | `(tactic| walk_at "storeName") => `(tactic| (refine storeX_L (by assumption) (by assumption) ?_; intro _ _ _))
theorem walks_lt {prog : Program} {w : World} {A : Around} {I : Addr} {fp wr : List Addr} {n : Nat} {P : Nat → Value → Prop} {St : Nat → Heap → Prop} (W : Walks prog w A I fp wr n P St) : Walks prog w A I fp wr n (fun i v => i < n ∧ P i v) St :=
  { W with item := fun i s Q E hi st hQ => W.item i s Q E hi st fun v h' tk hP => hQ v h' tk ⟨hi, hP⟩ }
def KT (b : Bool) (s : Shared) (ok : Bool) (s' : Shared) : Prop := ok = b ∧ Keeps s s'
def KF (F : Value → Value → Prop) (v : Value) (s : Shared) (y : Value) (s' : Shared) : Prop := F v y ∧ Keeps s s'
theorem fr_low {h₀ h : Heap} {L : Addr} {m : Str → Option Value} (F : Fr h₀ L h m) (news : List (Addr × Obj)) (N : News h₀ L h news) : ∀ b ∈ [h.objs.size], b ≠ L ∧ h₀.get? b = none ∧ ∀ p ∈ news, p.1 ≠ b := by
  intro b hb
  rw [List.mem_singleton.mp hb]
  exact ⟨fun e => absurd F.ns.lt (e ▸ Nat.lt_irrefl _), next_is_new F, fun p hp e => absurd (Heap.lt_size (N p hp).1) (e ▸ Nat.lt_irrefl _)⟩
theorem ll_plain {w : World} {A : Around} {s₀ s : Shared} {L : Addr} {nm : Str} {Q : Value → Shared → Prop} {E : Value → Shared → Prop} {mean mg mb} {m : Str → Option Value} {news : List (Addr × Obj)} {elt : PySem.Expr} (T : Top vq (looseW vq looseN) mean mg mb s₀.heap)
    (Y : TopH w s₀.heap) (hh : A.handled = none) (F : Fr s₀.heap L s.heap m) (N : News s₀.heap L s.heap news)
    (he : (match nth (fBody (stm 21)) 0 with | .Assign _ (.BinOp _ _ (.Call _ [e] _ _) _) _ => e | _ => .Constant .none 0 default) = elt)
    (h : ∀ D h' tk ys n, Fr s₀.heap L h' m → News s₀.heap L h' ((D, lst ys n) :: news) → StrsAre ys (plainL.tail.map chS) → Q (.ref D) { s with heap := h', toks := tk }) :
    wpAny (model PR w) A (eval elt (envX nm (fScope (stm 21)) L 69 (.ref 68) [("plain", L + 1)])) Q E s := by
  subst he
  w_on
  refine wpAny_ListComp_free (cl := []) pK fK ?hclos ?hcell ?hkind ?hnames ?hx ?_
  case hclos => rfl
  case hcell => decide +kernel
  case hkind => rfl
  case hnames => decide +kernel
  case hx => rfl
  iterate 8 walk1
  refine range2_rows F N fun h₁ tk₁ t₁ u₁ v₁ hr F₁ N₁ k₁ => ?_
  dsimp only
  refine wpAny_pyIter_range hr (by decide +kernel) ?_
  refine ⟨_, _, _, 95, _, _, rfl, walks_lt (Walks.range hh _ 32 1 95), by rw [sizeLine_eq]; omega, ?_, ?_, ⟨?_, ?_⟩, ?_⟩
  · exact Heap.get?_push_size _ rfl
  · intro b hb; rw [List.mem_singleton.mp hb, Heap.size_push]; exact Nat.lt_succ_self _
  · intro C i v s₃ m₃ E' hC hP hn hm hk ht
    refine wpAny_tests_one ?_
    obtain ⟨_, t, rfl⟩ := hP
    refine wpAny_mono (Q := fun ok s₄ => KT (pK (.int (32 + (i : Int) * 1) t)) s₃ ok s₄) ?_ (fun _ _ z => z) (fun _ _ z => z)
    repeat' walk1
    refine ⟨rfl, _, _, rfl, fun _ _ e => e⟩
  · intro C i v s₃ m₃ E' hC hP hp hn hm hk ht
    obtain ⟨hi, t, rfl⟩ := hP
    have k₃ : ∀ b o, s₀.heap.get? b = some o → s₃.heap.get? b = some o := fun b o e => hk b o (fun q => by
      rw [List.mem_singleton] at q
      have := next_is_new F₁
      subst q
      rw [this] at e; cases e) (Heap.get?_push_of_some _ (F₁.keep b o e))
    have Y₃ : TopH w s₃.heap := fun b o e => k₃ b o (Y b o e)
    refine wpAny_mono (Q := fun y s₄ => KF fK (.int (32 + (i : Int) * 1) t) s₃ y s₄) ?_ (fun _ _ z => z) (fun _ _ z => z)
    have ei : 32 + (i : Int) * 1 = ((32 + i : Nat) : Int) := by omega
    rw [ei] at hm ⊢
    clear F₁ N₁ hk k₁ F N
    repeat' walk1
    exact ⟨⟨_, _, _, rfl, rfl⟩, _, _, rfl, fun _ _ e => e⟩
  · intro D h' tk ys vs hD hl hpl hvl hP hF hk
    obtain ⟨F₂, n₂, N₂⟩ := comp_news (s₂ := { s with heap := h₁.push _, toks := _ }) (F₁.push _) (fun p hp => ⟨Heap.get?_push_of_some _ (N₁ p hp).1, (N₁ p hp).2⟩) (fr_low F₁ news N₁) hD hpl hk
    exact h D h' tk _ n₂ F₂ N₂ (strs_of_ints 95 32 vs _ hvl (fun j v e => (hP j v e).2) hF)
end Mine
end
section
set_option maxRecDepth 100000
set_option maxHeartbeats 4000000
namespace Mine
theorem anew13 : True := by
  w_top off
  first | walk1 | trivial
open PySem PySem.W PySem.Calls PyProof.Rows
theorem comp_news2 {h₀ : Heap} {L : Addr} {s₂ : Shared} {m m' : Str → Option Value} {news : List (Addr × Obj)} {wr : List Addr} {D : Addr} {h' : Heap} {ys : Array Value} (F : Fr h₀ L s₂.heap m) (N : News h₀ L s₂.heap news)
    (hwr : ∀ b ∈ wr, b ≠ L ∧ h₀.get? b = none ∧ ∀ p ∈ news, p.1 ≠ b) (hD : s₂.heap.get? D = none) (hpl : h'.PlainList D ys) (hn : h'.Ns L m') (keep : ∀ b o, b ≠ L → b ∉ wr → s₂.heap.get? b = some o → h'.get? b = some o) :
    Fr h₀ L h' m' ∧ ∃ n, News h₀ L h' ((D, lst ys.toList n) :: news) := by
  obtain ⟨n, hpn⟩ := hpl
  have hL0 : h₀.get? L = none := by
    cases q : h₀.get? L with
    | none => rfl
    | some o => exact absurd (Heap.lt_size q) (Nat.not_lt.mpr F.above)
  have F' : Fr h₀ L h' m' := ⟨hn, fun b o e => keep b o (by rintro rfl; rw [hL0] at e; cases e) (fun q => by rw [(hwr b q).2.1] at e; cases e) (F.keep b o e), F.above⟩
  refine ⟨F', n, fun p hp => ?_⟩
  rcases List.mem_cons.mp hp with rfl | hp
  · refine ⟨by simpa using hpn, fun q => ?_, ?_⟩
    · dsimp only at q
      rw [q] at hD
      obtain ⟨o, _, _, ho, _⟩ := F.ns
      rw [hD] at ho; cases ho
    · cases q : h₀.get? D with
      | none => rfl
      | some o => have := F.keep D o q; rw [hD] at this; cases this
  · exact ⟨keep _ _ (N p hp).2.1 (fun q => (hwr p.1 q).2.2 p hp rfl) (N p hp).1, (N p hp).2⟩
def fO (pl : Str) (v y : Value) : Prop := ∃ (c : Nat) (t u : Tok), v = .str (mkS [c]) t ∧ y = .str (octetS pl c) u
theorem strs_of_row {pl : Str} : ∀ (x : List Nat) (vs ys : List Value), vs.length = x.length → (∀ (j : Nat) (v : Value), vs[j]? = some v → ∃ c u, x[j]? = some c ∧ v = .str (mkS [c]) u) → Paired (fO pl) (vs.filter fun _ => true) ys → StrsAre ys (x.map (octetS pl))
  | [], vs, ys, hl, hv, hp => by
    rw [List.length_eq_zero_iff.mp hl] at hp
    cases hp
    exact .nil
  | c :: x, [], ys, hl, hv, hp => by cases hl
  | c :: x, v :: vs, ys, hl, hv, hp => by
    obtain ⟨c', t, e, rfl⟩ := hv 0 v rfl
    cases Option.some.inj e
    cases hp with
    | cons hf hp =>
      obtain ⟨k, t', u, e, rfl⟩ := hf
      injection e with e _
      cases mkS_inj e
      exact .cons _ _ (strs_of_row x vs _ (Nat.succ.inj hl) (fun j v hj => hv (j + 1) v hj) hp)
theorem at_octet {w : World} {A : Around} {s : Shared} {h₀ : Heap} {Q : Value → Shared → Prop} {E : Value → Shared → Prop} {mean mg mb} {c : Nat} {t1 t2 : Tok} {pl : Str} (T : Top vq (looseW vq looseN) mean mg mb h₀) (Y : TopH w s.heap) (keep : ∀ b o, h₀.get? b = some o → s.heap.get? b = some o)
    (hroom : A.depth < recursionLimit) (hc : c < 256) (h : ∀ tok s', Ext s s' → Q (.str (octetS pl c) tok) s') : AtFn (model PR w) A Q E 64 [.str (mkS [c]) t1, .str pl t2] s :=
  ⟨⟨_, _, Y 64 _ rfl, rfl⟩, octet_spec (T.keeps keep) Y hroom hc h⟩
local macro_rules | `(tactic| walk_at "eval Name") => `(tactic| first
  | refine nameX_L (by assumption) rfl ?_
  | refine nm_local rfl rfl (by assumption) (by assumption) ?_
  | refine nm_cell rfl rfl rfl (by assumption) ?_
  | refine nm_glob rfl rfl rfl (by assumption) (g_octet _) ?_)
local macro_rules | `(tactic| walk_at "callWith") => `(tactic| ((with_reducible show wpAny _ _ (callWith _ (Value.ref 64) [] _ _) _ _ _); refine callWith_fn ?_))
theorem ll_signs {w : World} {A : Around} {s₀ s : Shared} {L : Addr} {nm : Str} {Q : Flow → Shared → Prop} {E : Value → Shared → Prop} {mean mg mb} {m : Str → Option Value} {news : List (Addr × Obj)} (T : Top vq (looseW vq looseN) mean mg mb s₀.heap)
    (Y : TopH w s₀.heap) (hh : A.handled = none) (hroom : A.depth < recursionLimit) (F : Fr s₀.heap L s.heap m) (N : News s₀.heap L s.heap news) {x : List Nat} {tx : Tok} {pl : Str} {tp : Tok} {oc : Obj} (hx : x.length ≤ 4000) (hx8 : ∀ c ∈ x, c < 256) (hm : m "row" = some (.str (mkS x) tx))
    (hoc : (L + 1, oc) ∈ news) (hoc' : oc.data = .cell (some (.str pl tp)))
    (h : ∀ D h' tk ys n, Fr s₀.heap L h' (fun z => if z = "signs" then some (.ref D) else m z) → News s₀.heap L h' ((D, lst ys n) :: news) → StrsAre ys (x.map (octetS pl)) → Q .next { s with heap := h', toks := tk }) :
    wpAny (model PR w) A (exec (nth (fBody (stm 21)) 1) (envX nm (fScope (stm 21)) L 69 (.ref 68) [("plain", L + 1)])) Q E s := by
  w_on
  refine wpAny_Assign_ListComp_free (cl := [("plain", L + 1)]) (fun _ => true) (fO pl) ?hsw ?hclos ?hcell ?hkind ?hnames ?hx ?hy ?hp ?_
  case hsw => rfl
  case hclos => rfl
  case hcell => decide +kernel
  case hkind => rfl
  case hnames => decide +kernel
  case hx => rfl
  case hy => rfl
  case hp => rfl
  refine nm_local rfl rfl F.ns hm ?_
  refine wpAny_pyIter_str fun o St W hst => ?_
  refine ⟨_, _, _, _, _, _, m, rfl, walks_lt (W A hh), by rw [sizeLine_eq]; show x.toArray.size ≤ _; simp; omega, hst, ?_, ?_, ?_, ⟨?_, ?_⟩, ?_⟩
  · intro b hb; rw [List.mem_singleton.mp hb, Heap.size_push]; exact Nat.lt_succ_self _
  · intro q
    have q' : L = s.heap.objs.size := List.mem_singleton.mp q
    exact absurd F.ns.lt (by rw [q']; exact Nat.lt_irrefl _)
  · exact (F.push _).ns
  · intro C i v s₃ m₃ E' hC hP hn hm hk ht
    exact wpAny_tests_nil ⟨rfl, _, _, rfl, fun _ _ e => e⟩
  · intro C i v s₃ m₃ E' hC hP hp hn hm hk ht
    obtain ⟨hi, c, u, hc, rfl⟩ := hP
    have hc8 : c < 256 := hx8 c (List.mem_of_getElem? (by have hc' : x.toArray[i]? = some c := hc; simpa using hc'))
    have k₃ : ∀ b o, s₀.heap.get? b = some o → s₃.heap.get? b = some o := fun b o e => hk b o (fun q => by
      rw [List.mem_singleton] at q
      have := next_is_new F
      subst q
      rw [this] at e; cases e) (Heap.get?_push_of_some _ (F.keep b o e))
    have Y₃ : TopH w s₃.heap := fun b o e => k₃ b o (Y b o e)
    have hcl : s₃.heap.IsCell (L + 1) (some (.str pl tp)) := ⟨oc, hk _ _ (fun q => by
      rw [List.mem_singleton] at q
      have := Heap.lt_size (N _ hoc).1
      rw [q] at this; exact absurd this (Nat.lt_irrefl _)) (Heap.get?_push_of_some _ (N _ hoc).1), hoc'⟩
    refine wpAny_mono (Q := fun y s₄ => KF (fO pl) (.str (mkS [c]) u) s₃ y s₄) ?_ (fun _ _ z => z) (fun _ _ z => z)
    clear F N hk
    repeat' walk1
    refine at_octet T Y₃ k₃ hroom hc8 fun tok s' X => ?_
    obtain ⟨X, h', tk, rfl⟩ := X
    exact ⟨⟨_, _, _, rfl, rfl⟩, _, _, rfl, X⟩
  · intro D h' tk ys vs hD hl hpl hvl hP hF hn hk
    obtain ⟨F₂, n₂, N₂⟩ := comp_news2 (s₂ := { s with heap := s.heap.push o, toks := _ }) (F.push _) (fun p hp => ⟨Heap.get?_push_of_some _ (N p hp).1, (N p hp).2⟩) (fr_low F news N) hD hpl hn hk
    exact h D h' tk _ n₂ F₂ N₂ (strs_of_row x vs _ (by rw [hvl]; rfl) (fun j v e => by
      obtain ⟨_, c, u, hc, rfl⟩ := hP j v e
      exact ⟨c, u, by have hc' : x.toArray[j]? = some c := hc; simpa using hc', rfl⟩) hF)
end Mine
end
section
set_option maxRecDepth 100000
set_option maxHeartbeats 4000000
namespace Mine
theorem anew14 : True := by
  w_top off
  first | walk1 | trivial
open PySem PySem.W PySem.Calls PyProof.Rows
noncomputable def beBase (B eol : Str) (n : Int) (eb bm : Addr) (tb te tn ts tm : Tok) : List (Str × Value) := [("body", .str B tb), ("eol", .str eol te), ("maxlinelen", .int n tn), ("soft_break", .str (Str.ofString "=" ++ eol) ts), ("maxlinelen1", .int (n - 1) tm), ("encoded_body", .ref eb), ("append", .ref bm)]
noncomputable def beLine (B eol : Str) (n : Int) (eb bm : Addr) (tb te tn ts tm : Tok) (l : List Nat) (tl tz : Tok) : List (Str × Value) :=
  [("body", .str B tb), ("eol", .str eol te), ("maxlinelen", .int n tn), ("soft_break", .str (Str.ofString "=" ++ eol) ts), ("maxlinelen1", .int (n - 1) tm), ("encoded_body", .ref eb), ("append", .ref bm), ("line", .str (mkS l) tl), ("laststart", .int ((l.length : Int) - 1 - n) tz)]
def BeI (s₀ : Shared) (L : Addr) (B eol : Str) (n : Nat) (eb bm : Addr) (tb te tn ts tm : Tok) (l : List Nat) (tl tz : Tok) (own : List (Addr × Obj)) (tgt : List Str) (k : Nat) (s : Shared) : Prop :=
  ∃ (a : Nat) (t : Tok) (vs : List Value) (ep : Nat) (os : List Str) (m : Str → Option Value), SameBut' s₀ s ∧ Fr s₀.heap L s.heap m ∧ (∀ p ∈ beLine B eol n eb bm tb te tn ts tm l tl tz, m p.1 = some p.2) ∧ m "start" = some (.int (a : Int) t) ∧
    News s₀.heap L s.heap ((eb, lst vs ep) :: (bm, bmObj eb) :: own) ∧ StrsAre vs os ∧ os ++ (soft n (l.drop a)).1.map mkS = tgt ∧ (soft n (l.drop a)).2 = (soft n l).2 ∧ a ≤ l.length ∧ k = l.length - a
local macro_rules | `(tactic| walk_at "callWith") => `(tactic| ((with_reducible show wpAny _ _ (callWith _ (Value.ref _) [] _ _) _ _ _); refine callWith_bm1 ?_))
local macro_rules | `(tactic| walk_at "known") => `(tactic| (repeat' (first | exact List.forall_mem_nil _ | refine List.forall_mem_cons.mpr ⟨rfl, ?_⟩)))
local macro_rules | `(tactic| walk_at "AtBm") => `(tactic| (refine at_bm (by assumption) (by assumption) (by assumption) (by assumption) (by omega) ?_; intro _ _ _; dsimp only))
theorem beI_next {s₀ s : Shared} {L : Addr} {B eol : Str} {n : Nat} {eb bm : Addr} {tb te tn ts tm : Tok} {l : List Nat} {tl tz : Tok} {own : List (Addr × Obj)} {tgt os : List Str} {vs : List Value} {ep a a' : Nat} {m : Str → Option Value} {i : Int} {t t' : Tok} {x : Str} {pc : List Nat}
    (F : Fr s₀.heap L s.heap m) (N : News s₀.heap L s.heap ((eb, lst (vs ++ [.str x t']) ep) :: (bm, bmObj eb) :: own)) (e : SameBut' s₀ s) (hm : ∀ p ∈ beLine B eol n eb bm tb te tn ts tm l tl tz, m p.1 = some p.2) (hst : m "start" = some (.int i t)) (hi : i = (a' : Int))
    (hv : StrsAre vs os) (ho : os ++ (soft n (l.drop a)).1.map mkS = tgt) (ho2 : (soft n (l.drop a)).2 = (soft n l).2) (hx : x = mkS pc) (hs : soft n (l.drop a) = (pc :: (soft n (l.drop a')).1, (soft n (l.drop a')).2)) (ha : a < a') (ha' : a' ≤ l.length) :
    Dec (BeI s₀ L B eol n eb bm tb te tn ts tm l tl tz own tgt) (l.length - a) s := by
  subst hi hx
  rw [hs] at ho ho2
  exact ⟨l.length - a', by omega, a', t, _, ep, os ++ [mkS pc], m, e, F, hm, hst, N, hv.append' (.cons _ _ .nil), by rw [List.append_assoc]; exact ho, ho2, ha', rfl⟩
theorem be_while {w : World} {A : Around} {s₀ s : Shared} {L : Addr} {nm : Str} {Q : Flow → Shared → Prop} {E : Value → Shared → Prop} {mean mg mb} {B eol : Str} {n : Nat} {eb bm : Addr} {tb te tn ts tm tl tz : Tok} {l : List Nat}
    (T : Top vq (looseW vq looseN) mean mg mb s₀.heap) {own : List (Addr × Obj)} (hne : bm ≠ eb) (hoff : ∀ p ∈ own, p.1 ≠ eb) (hn : 4 ≤ n) (hl : l.length ≤ 12000)
    {vs : List Value} {ep : Nat} {os tgt : List Str} (htgt : tgt.length ≤ 1000000) {m : Str → Option Value} {t : Tok}
    (F : Fr s₀.heap L s.heap m) (hm : ∀ p ∈ beLine B eol n eb bm tb te tn ts tm l tl tz, m p.1 = some p.2) (hst : m "start" = some (.int 0 t))
    (N : News s₀.heap L s.heap ((eb, lst vs ep) :: (bm, bmObj eb) :: own)) (hv : StrsAre vs os) (ho : os ++ (soft n l).1.map mkS = tgt) (e : SameBut' s₀ s)
    (h : ∀ s' m' vs' ep' (a : Nat) t', SameBut' s₀ s' → Fr s₀.heap L s'.heap m' → (∀ p ∈ beLine B eol n eb bm tb te tn ts tm l tl tz, m' p.1 = some p.2) → m' "start" = some (.int (a : Int) t') →
      News s₀.heap L s'.heap ((eb, lst vs' ep') :: (bm, bmObj eb) :: own) → StrsAre vs' tgt → l.drop a = (soft n l).2 → (l.drop a).length ≤ n → a ≤ l.length → Q .next s') :
    wpAny (model PR w) A (exec (nth (sBody (nth (fBody (stm 17)) 7)) 2) (envOf nm (fScope (stm 17)) L 50 (.ref 49))) Q E s := by
  w_on
  refine while_any (BeI s₀ L B eol n eb bm tb te tn ts tm l tl tz own tgt) ?_ (l.length - 0) ⟨0, t, vs, ep, os, m, e, F, hm, hst, N, hv, ho, rfl, Nat.zero_le _, rfl⟩
  rintro k s ⟨a, t, vs, ep, os, m, ⟨hp, tk, rfl⟩, F, hm, hst, N, hv, ho, ho2, ha, rfl⟩
  have F0 : Fr s₀.heap L hp m := F
  clear F
  have F1 := fr_over (l := ("start", .int (a : Int) t) :: beLine B eol n eb bm tb te tn ts tm l tl tz) F0 (fun p hp => by
    rcases List.mem_cons.mp hp with rfl | hp
    · exact hst
    · exact hm p hp)
  unfold beLine at F1
  have hos : os.length ≤ tgt.length := by rw [← ho, List.length_append]; omega
  have hvl := hv.length
  have hml : (mkS l).length ≤ 12000 := by rw [mkS_length]; exact hl
  repeat' walk1
  · have hle : (a : Int) ≤ (l.length : Int) - 1 - n := by assumption
    have hlt : n < (l.drop a).length := by rw [List.length_drop]; omega
    obtain ⟨c, hc⟩ : ∃ c, l[a + (n - 3)]? = some c := ⟨l[a + (n - 3)]'(by omega), by simp⟩
    obtain ⟨d, hd⟩ : ∃ d, l[a + (n - 2)]? = some d := ⟨l[a + (n - 2)]'(by omega), by simp⟩
    have i1 : ((a : Int) + ((n : Int) - 1) - 2).toNat = a + (n - 3) := by omega
    have i2 : ((a : Int) + ((n : Int) - 1) - 1).toNat = a + (n - 2) := by omega
    refine item_mk (c := c) (by omega) (by rw [i1]; exact hc) (by omega) ?_
    dsimp only
    repeat' walk1
    · have h61 : c = 61 := by have q : (mkS [c] == Str.ofString "=") = true := by assumption
                              rw [beq_eq_sign] at q; exact of_decide_eq_true q
      subst h61
      refine beI_next (a := a) (a' := a + (n - 3)) (pc := (l.drop a).take (n - 2)) (by assumption) (by assumption) ⟨_, _, rfl⟩ ?_ rfl (by omega) hv ho ho2 ?_ (soft_one hn hlt hc) (by omega) (by omega)
      · unfold beLine; walk_at "known"
      · rw [show ((a : Int) + ((n : Int) - 1) - 1) = ((a + (n - 2) : Nat) : Int) by omega, slice_ss l (by omega) (by omega)]; congr 2; omega
    · have hc61 : c ≠ 61 := by have q : (mkS [c] == Str.ofString "=") = false := by assumption
                               rw [beq_eq_sign] at q; exact of_decide_eq_false q
      have hcn : l[a + (n - 3)]? ≠ some 61 := by rw [hc]; simpa using hc61
      refine item_mk (c := d) (by omega) (by rw [i2]; exact hd) (by omega) ?_
      dsimp only
      repeat' walk1
      · have h61 : d = 61 := by have q : (mkS [d] == Str.ofString "=") = true := by assumption
                                rw [beq_eq_sign] at q; exact of_decide_eq_true q
        subst h61
        refine beI_next (a := a) (a' := a + (n - 2)) (pc := (l.drop a).take (n - 1)) (by assumption) (by assumption) ⟨_, _, rfl⟩ ?_ rfl (by omega) hv ho ho2 ?_ (soft_two hn hlt hcn hd) (by omega) (by omega)
        · unfold beLine; walk_at "known"
        · rw [show ((a : Int) + ((n : Int) - 1)) = ((a + (n - 1) : Nat) : Int) by omega, slice_ss l (by omega) (by omega)]; congr 2; omega
      · have hd61 : d ≠ 61 := by have q : (mkS [d] == Str.ofString "=") = false := by assumption
                                 rw [beq_eq_sign] at q; exact of_decide_eq_false q
        refine beI_next (a := a) (a' := a + (n - 1)) (pc := (l.drop a).take (n - 1) ++ [61]) (by assumption) (by assumption) ⟨_, _, rfl⟩ ?_ rfl (by omega) hv ho ho2 ?_ (soft_three hn hlt hcn (by rw [hd]; simpa using hd61)) (by omega) (by omega)
        · unfold beLine; walk_at "known"
        · rw [show ((a : Int) + ((n : Int) - 1)) = ((a + (n - 1) : Nat) : Int) by omega, slice_ss l (by omega) (by omega), show Str.ofString "=" = mkS [61] by decide +kernel, mkS_append]; congr 3; omega
  · have hle : ¬ (a : Int) ≤ (l.length : Int) - 1 - n := by assumption
    have hlt : ¬ n < (l.drop a).length := by rw [List.length_drop]; omega
    rw [soft_stop hlt] at ho ho2
    refine h _ m vs ep a t ⟨_, _, rfl⟩ F0 hm hst N ?_ ho2 (by omega) ha
    rw [← ho]; simpa using hv
end Mine
end
section
set_option maxRecDepth 100000
set_option maxHeartbeats 4000000
namespace Mine
theorem anew15 : True := by
  w_top off
  first | walk1 | trivial
open PySem PySem.W PySem.Calls PyProof.Rows
section
variable {prog : Program} {w : World} {A : Around} {E : Value → Shared → Prop} {s : Shared}
theorem list_item {value slice : PySem.Expr} {l : Addr} {vs : List Value} {k : Int} {u : Tok} {v : Value} {Q : Value → Shared → Prop} (hl : s.heap.IsList l vs.toArray) (h0 : 0 ≤ k) (hhi : k < 2 ^ 63) (hx : vs[k.toNat]? = some v) (h : Q v s)
    (hs : subscripted slice false (.ref l) (.int k u) = operate [.ref l, .int k u] (getItem (.ref l) (.int k u)) := by with_unfolding_all rfl) :
    wpAny (model prog w) A (subscriptTail value slice (.ref l) (.int k u)) Q E s :=
  tail_any hl.typeIs slot_list_getitem.lookup (wpAny_getItem_list hl h0 hhi (by simpa using hx) h) hs
end
noncomputable def hexS (c : Nat) : Str := ⟨#[61, hexD (c / 16), hexD (c % 16)]⟩
noncomputable def qmp : List Value := match (Hf (aWorld 1).params).get? 17 with | some ⟨_, _, .seq xs _, _⟩ => xs.toList | _ => []
theorem qmp_is {w : World} {h : Heap} (Y : TopH w h) : h.IsList 17 qmp.toArray := ⟨_, Y 17 _ rfl, rfl, 256, by kernel_rfl⟩
theorem qmp_get (c : Nat) (hc : c < 256) : ∃ t, qmp[c]? = some (.str (hexS c) t) := by
  have : ∀ c : Fin 256, (match qmp[c.val]? with | some (.str x _) => x == hexS c.val | _ => false) = true := by decide +kernel
  have h := this ⟨c, hc⟩
  dsimp only at h
  split at h
  · rename_i x t e; rw [e]; exact ⟨t, by rw [eq_of_beq h]⟩
  · cases h
local macro_rules | `(tactic| walk_at "eval Name") => `(tactic| ((with_reducible show wpAny _ _ (eval (PySem.Expr.Name (Str.ofString "_QUOPRI_MAP") _) _) _ _ _); refine ld_global_at (by assumption) (TopH.ns (by assumption)) (g_MAP _) ?_))
theorem quote_body {w : World} {A : Around} {s₀ s : Shared} {L : Addr} {nm : Str} {Q : Value → Shared → Prop} {mean mg mb} {c : Nat} {t1 : Tok} (T : Top vq (looseW vq looseN) mean mg mb s₀.heap) (Y : TopH w s₀.heap)
    (F : Fr s₀.heap L s.heap (mp [("c", .str (mkS [c]) t1)])) (e : SameBut' s₀ s) (hc : c < 256)
    (h : ∀ tok s', Ext s₀ s' → Q (.str (hexS c) tok) s') :
    wpAny (model PR w) A (execs (fBody (stm 13)) (envOf nm (fScope (stm 13)) L 37 (.ref 36))) (fun f s' => Q (match f with | .ret v => v | _ => .none) s') (fun _ _ => False) s := by
  w_on
  obtain ⟨h', tk', rfl⟩ := e
  obtain ⟨tc, hq⟩ := qmp_get c hc
  have hl1 : (mkS [c]).length = 1 := rfl
  refine wpAny_execs_cons ?_
  repeat' walk1
  have hg : (mkS [c]).cps.getD 0 0 = c := rfl
  rw [hg]
  refine list_item (vs := qmp) ?hl (by omega) (by omega) (by simpa using hq) ?_
  case hl => exact qmp_is (fr_top F Y)
  exact h _ _ ⟨F.keep, ⟨_, _, rfl⟩⟩
theorem quote_spec {w : World} {A : Around} {s : Shared} {Q : Value → Shared → Prop} {E : Value → Shared → Prop} {mean mg mb} {c : Nat} {t1 : Tok} (T : Top vq (looseW vq looseN) mean mg mb s.heap) (Y : TopH w s.heap)
    (hroom : A.depth < recursionLimit) (hc : c < 256) (h : ∀ tok s', Ext s s' → Q (.str (hexS c) tok) s') : wpAny (model PR w) A (call (.ref 37) [.str (mkS [c]) t1]) Q E s :=
  call_def (binds := [("c", .str (mkS [c]) t1)]) hroom (Y 37 _ rfl) rfl T.nolimit ⟨36, _, _, _, rfl, Y 36 _ rfl, rfl, rfl⟩ rfl (fun _ => rfl) (BindsTo.of_eq rfl) (by decide +kernel) (locs rfl)
    (fun L s₁ A' F e _ => quote_body T Y F e hc h) rfl rfl rfl
theorem at_quote {w : World} {A : Around} {s : Shared} {h₀ : Heap} {L : Addr} {m : Str → Option Value} {Q : Value → Shared → Prop} {E : Value → Shared → Prop} {mean mg mb} {c : Nat} {t1 : Tok} (T : Top vq (looseW vq looseN) mean mg mb h₀) (Y : TopH w h₀) (F : Fr h₀ L s.heap m)
    (hroom : A.depth < recursionLimit) (hc : c < 256) (h : ∀ tok s', Ext s s' → Q (.str (hexS c) tok) s') : AtFn (model PR w) A Q E 37 [.str (mkS [c]) t1] s :=
  ⟨⟨_, _, fr_top F Y 37 _ rfl, rfl⟩, quote_spec (T.keeps F.keep) (fr_top F Y) hroom hc h⟩
end Mine
end
section
open PySem PySem.W PySem.Calls PyProof.Rows Mine
local macro_rules | `(tactic| walk_at "known") => `(tactic| (repeat' (first | exact List.forall_mem_nil _ | refine List.forall_mem_cons.mpr ⟨rfl, ?_⟩)))
section
set_option maxRecDepth 100000
set_option maxHeartbeats 4000000
namespace Mine
theorem anew16 : True := by
  w_top off
  first | walk1 | trivial
open PySem PySem.W PySem.Calls PyProof.Rows
noncomputable def hexL (c : Nat) : List Nat := [61, hexD (c / 16), hexD (c % 16)]
noncomputable def lineTail (n : Nat) (eol l r : List Nat) : List Nat := match l.getLast? with
  | some c => if c = 32 ∨ c = 9 then (if r.length + 2 ≤ n then r.dropLast ++ hexL c else if r.length + 1 = n then r.dropLast ++ ([c] ++ ([61] ++ eol)) else r.dropLast ++ (([61] ++ eol) ++ hexL c)) else r
  | none => r
noncomputable def lineOut (n : Nat) (eol l : List Nat) : List (List Nat) := (soft n l).1 ++ [lineTail n eol l (soft n l).2]
local macro_rules | `(tactic| walk_at "eval Name") => `(tactic| ((with_reducible show wpAny _ _ (eval (PySem.Expr.Name (Str.ofString "quote") _) _) _ _ _); refine ld_global_at (by assumption) (TopH.ns (by assumption)) (g_quote _) ?_))
local macro_rules | `(tactic| walk_at "callWith") => `(tactic| ((with_reducible show wpAny _ _ (callWith _ (Value.ref _) [] _ _) _ _ _); (fail_if_success (with_reducible show wpAny _ _ (callWith _ (Value.ref 37) [] _ _) _ _ _)); refine callWith_bm1 ?_))
local macro_rules | `(tactic| walk_at "AtBm") => `(tactic| (refine at_bm (by assumption) (by assumption) (by assumption) (by assumption) (by omega) ?_; intro _ _ _; dsimp only))
local macro_rules | `(tactic| walk_at "callWith") => `(tactic| ((with_reducible show wpAny _ _ (callWith _ (Value.ref 37) [] _ _) _ _ _); refine callWith_fn ?_))
theorem blank_in (c : Nat) (hc : c < 256) : (Builtin.Str.occurrences (Str.ofString " \t") (mkS [c]) 0 (Str.ofString " \t").length 1).isEmpty = !(c == 32 || c == 9) := by
  have : ∀ c : Fin 256, (Builtin.Str.occurrences (Str.ofString " \t") (mkS [c.val]) 0 (Str.ofString " \t").length 1).isEmpty = !(c.val == 32 || c.val == 9) := by decide +kernel
  exact this ⟨c, hc⟩
theorem strs_line {vs : List Value} {os : List Str} {n : Nat} {ee l : List Nat} {x : Str} {t : Tok} (hv : StrsAre vs (os ++ (soft n l).1.map mkS)) (hx : x = mkS (lineTail n ee l (soft n l).2)) : StrsAre (vs ++ [.str x t]) (os ++ (lineOut n ee l).map mkS) := by
  subst hx
  unfold lineOut
  rw [List.map_append, ← List.append_assoc]
  exact hv.append' (.cons _ _ .nil)
theorem tail_plain {n : Nat} {ee l r : List Nat} {c : Nat} (hc : l.getLast? = some c) (h : ¬ (c = 32 ∨ c = 9)) : lineTail n ee l r = r := by unfold lineTail; rw [hc]; dsimp only; rw [if_neg h]
theorem tail_nil {n : Nat} {ee r : List Nat} : lineTail n ee [] r = r := rfl
theorem be_line {w : World} {A : Around} {s₀ s : Shared} {L : Addr} {nm : Str} {Q : Flow → Shared → Prop} {E : Value → Shared → Prop} {mean mg mb} {B : Str} {ee : List Nat} {n : Nat} {eb bm : Addr} {tb te tn ts tm tl : Tok} {l : List Nat}
    (T : Top vq (looseW vq looseN) mean mg mb s₀.heap) (Y : TopH w s₀.heap) (hroom : A.depth < recursionLimit) {own : List (Addr × Obj)} (hne : bm ≠ eb) (hoff : ∀ p ∈ own, p.1 ≠ eb) (hn : 4 ≤ n) (hl : l.length ≤ 12000) (hl8 : ∀ c ∈ l, c < 256) (he : ee.length ≤ 2)
    {vs : List Value} {ep : Nat} {os : List Str} (hos : (os ++ (lineOut n ee l).map mkS).length ≤ 1000000) {m : Str → Option Value}
    (F : Fr s₀.heap L s.heap (fun y => if y = "line" then some (.str (mkS l) tl) else m y)) (hm : ∀ p ∈ beBase B (mkS ee) n eb bm tb te tn ts tm, m p.1 = some p.2)
    (N : News s₀.heap L s.heap ((eb, lst vs ep) :: (bm, bmObj eb) :: own)) (hv : StrsAre vs os) (e : SameBut' s₀ s)
    (h : ∀ s' m' vs' ep', SameBut' s₀ s' → Fr s₀.heap L s'.heap m' → (∀ p ∈ beBase B (mkS ee) n eb bm tb te tn ts tm, m' p.1 = some p.2) →
      News s₀.heap L s'.heap ((eb, lst vs' ep') :: (bm, bmObj eb) :: own) → StrsAre vs' (os ++ (lineOut n ee l).map mkS) → Q .next s') :
    wpAny (model PR w) A (execs (sBody (nth (fBody (stm 17)) 7)) (envOf nm (fScope (stm 17)) L 50 (.ref 49))) Q E s := by
  w_on
  obtain ⟨hp, tk, rfl⟩ := e
  rw [← over_eq hm] at F
  unfold beBase at F
  have hml : (mkS l).length ≤ 12000 := by rw [mkS_length]; exact hl
  have hme : (mkS ee).length ≤ 2 := by rw [mkS_length]; exact he
  refine wpAny_execs_cons ?_
  iterate 20 (walk1)
  have hlo : (lineOut n ee l).length = (soft n l).1.length + 1 := by unfold lineOut; rw [List.length_append]; rfl
  rw [List.length_append, List.length_map, hlo] at hos
  refine' be_while (l := l) (B := B) (eol := mkS ee) (n := n) (os := os) (tgt := os ++ (soft n l).1.map mkS) (tb := tb) (te := te) (tn := tn) (ts := ts) (tm := tm) (tl := tl) T hne hoff hn hl ?htgt (by assumption) ?hm' rfl (by assumption) hv rfl ⟨_, _, rfl⟩ ?_
  case htgt => rw [List.length_append, List.length_map]; omega
  case hm' => unfold beLine; walk_at "known"
  clear F N hm
  rename_i F0 N0
  clear F0 N0
  rintro s' m' vs' ep' a t' ⟨hp', tk', rfl⟩ F hm hst N hv' hr hrn ha
  dsimp only at F
  have F1 := fr_over (l := ("start", .int (a : Int) t') :: _) F (List.forall_mem_cons.mpr ⟨hst, hm⟩)
  clear F
  unfold beLine at F1
  dsimp only
  have hlen := mkS_length l
  have hvl := hv'.length
  rw [List.length_append, List.length_map] at hvl
  have hrl : (l.drop a).length = l.length - a := List.length_drop
  by_cases hl0 : l = []
  · subst hl0
    simp only [List.length_nil] at hlen
    repeat' walk1
    refine h _ _ _ _ ⟨_, _, rfl⟩ (by assumption) ?_ (by assumption) (strs_line hv' ?_)
    · unfold beBase; walk_at "known"
    · rw [tail_nil, ← hr]; exact slice_sn _ (by omega)
  · obtain ⟨c, hc⟩ : ∃ c, l.getLast? = some c := ⟨_, List.getLast?_eq_some_getLast hl0⟩
    have hc8 : c < 256 := hl8 c (List.mem_of_getLast? hc)
    have hlp : 0 < l.length := List.length_pos_iff.mpr hl0
    have hit := item_last l hc
    have hal : a < l.length := by have q := soft_rest n l hl0; rw [← hr] at q; have := List.length_pos_iff.mpr q; omega
    have hbl := blank_in c hc8
    repeat' walk1
    · have ho : (Builtin.Str.occurrences (Str.ofString " \t") (Txt.item (mkS l) (-1)) 0 (Str.ofString " \t").length 1).isEmpty = true := by assumption
      rw [hit, hbl] at ho
      have hnb : ¬ (c = 32 ∨ c = 9) := by simpa using ho
      refine h _ _ _ _ ⟨_, _, rfl⟩ (by assumption) ?_ (by assumption) (strs_line hv' ?_)
      · unfold beBase; walk_at "known"
      · rw [tail_plain hc hnb, ← hr]; exact slice_sn l ha
    · have ho : (Builtin.Str.occurrences (Str.ofString " \t") (Txt.item (mkS l) (-1)) 0 (Str.ofString " \t").length 1).isEmpty = false := by assumption
      have hb : c = 32 ∨ c = 9 := by rw [hit, hbl] at ho; by_cases q : c = 32; exact .inl q; exact .inr (by simpa [q] using ho)
      have h3 : (3 : Int) ≤ (a : Int) - ((l.length : Int) - 1 - (n : Int)) := by assumption
      rw [hit]
      refine at_quote T Y (by assumption) hroom hc8 fun tok s' x => ?_
      have F' := fr_ext (by assumption) x
      have N' := news_ext (by assumption) x
      obtain ⟨_, hp2, tk2, rfl⟩ := x
      dsimp only at F' N' ⊢
      have hx3 : (hexS c).length ≤ 3 := Nat.le_refl 3
      repeat' walk1
      refine h _ _ _ _ ⟨_, _, rfl⟩ (by assumption) ?_ (by assumption) (strs_line hv' ?_)
      · unfold beBase; walk_at "known"
      · unfold lineTail
        rw [hc]; dsimp only
        rw [if_pos hb, ← hr, if_pos (by omega), slice_sm l (by omega)]
        exact mkS_append _ (hexL c)
    · have ho : (Builtin.Str.occurrences (Str.ofString " \t") (Txt.item (mkS l) (-1)) 0 (Str.ofString " \t").length 1).isEmpty = false := by assumption
      have hb : c = 32 ∨ c = 9 := by rw [hit, hbl] at ho; by_cases q : c = 32; exact .inl q; exact .inr (by simpa [q] using ho)
      have h3 : ¬ (3 : Int) ≤ (a : Int) - ((l.length : Int) - 1 - (n : Int)) := by assumption
      have h2 : (a : Int) - ((l.length : Int) - 1 - (n : Int)) = 2 := by assumption
      refine h _ _ _ _ ⟨_, _, rfl⟩ (by assumption) ?_ (by assumption) (strs_line hv' ?_)
      · unfold beBase; walk_at "known"
      · unfold lineTail
        rw [hc]; dsimp only
        rw [if_pos hb, ← hr, if_neg (by omega), if_pos (by omega), slice_sm l (by omega), hit, show Str.ofString "=" = mkS [61] by decide +kernel, mkS_append, mkS_append, mkS_append]
    · have ho : (Builtin.Str.occurrences (Str.ofString " \t") (Txt.item (mkS l) (-1)) 0 (Str.ofString " \t").length 1).isEmpty = false := by assumption
      have hb : c = 32 ∨ c = 9 := by rw [hit, hbl] at ho; by_cases q : c = 32; exact .inl q; exact .inr (by simpa [q] using ho)
      have h3 : ¬ (3 : Int) ≤ (a : Int) - ((l.length : Int) - 1 - (n : Int)) := by assumption
      have h2 : (a : Int) - ((l.length : Int) - 1 - (n : Int)) ≠ 2 := by assumption
      rw [hit]
      refine at_quote T Y (by assumption) hroom hc8 fun tok s' x => ?_
      have F' := fr_ext (by assumption) x
      have N' := news_ext (by assumption) x
      obtain ⟨_, hp2, tk2, rfl⟩ := x
      dsimp only at F' N' ⊢
      have hx3 : (hexS c).length ≤ 3 := Nat.le_refl 3
      repeat' walk1
      refine h _ _ _ _ ⟨_, _, rfl⟩ (by assumption) ?_ (by assumption) (strs_line hv' ?_)
      · unfold beBase; walk_at "known"
      · unfold lineTail
        rw [hc]; dsimp only
        rw [if_pos hb, ← hr, if_neg (by omega), if_neg (by omega), slice_sm l (by omega), show Str.ofString "=" = mkS [61] by decide +kernel, show hexS c = mkS (hexL c) from rfl, mkS_append, mkS_append, mkS_append]
    · exfalso
      have : ((mkS l).length : Int) = 0 := by assumption
      omega
end Mine
end
section
set_option maxRecDepth 100000
set_option maxHeartbeats 4000000
namespace Mine
theorem anew17 : True := by
  w_top off
  first | walk1 | trivial
open PySem PySem.W PySem.Calls PyProof.Rows
noncomputable def encS (c : Nat) : Str := if c = 10 || c = 13 || c = 9 || (decide (32 ≤ c) && decide (c < 127) && c != 61) then ⟨#[c]⟩ else ⟨#[61, hexD (c / 16), hexD (c % 16)]⟩
noncomputable def bem : List Value := match (Hf (aWorld 1).params).get? 39 with | some ⟨_, _, .seq xs _, _⟩ => xs.toList | _ => []
theorem bem_is {w : World} {h : Heap} (Y : TopH w h) : h.IsList 39 bem.toArray := ⟨_, Y 39 _ rfl, rfl, 0, by kernel_rfl⟩
theorem bem_get (c : Nat) (hc : c < 256) : ∃ t, bem[c]? = some (.str (encS c) t) := by
  have : ∀ c : Fin 256, (match bem[c.val]? with | some (.str x _) => x == encS c.val | _ => false) = true := by decide +kernel
  have h := this ⟨c, hc⟩
  dsimp only at h
  split at h
  · rename_i x t e; rw [e]; exact ⟨t, by rw [eq_of_beq h]⟩
  · cases h
theorem encS_len (c : Nat) (_ : c < 256) : (encS c).length ≤ 3 := by
  unfold encS
  split
  · exact (by decide : 1 ≤ 3)
  · exact (by decide : 3 ≤ 3)
noncomputable def encL (c : Nat) : List Nat := (encS c).cps.toList
noncomputable def encT (x : List Nat) : List Nat := x.flatMap encL
theorem encT_eq (x : List Nat) : trS encS x = encT x := rfl
noncomputable def outs (n : Nat) (ee : List Nat) (ls : List Str) : List Str := ls.flatMap fun l => (lineOut n ee l.cps.toList).map mkS
noncomputable def trailS (b : List Nat) : List Str := match b.getLast? with | some c => if c = 13 ∨ c = 10 then [mkS []] else [] | none => []
noncomputable def beItems (n : Nat) (ee b : List Nat) : List Str := outs n ee (Txt.lines (mkS b)) ++ trailS b
theorem crlf_in (c : Nat) (hc : c < 256) : (Builtin.Str.occurrences (Str.ofString "\r\n") (mkS [c]) 0 (Str.ofString "\r\n").length 1).isEmpty = !(c == 13 || c == 10) := by
  have : ∀ c : Fin 256, (Builtin.Str.occurrences (Str.ofString "\r\n") (mkS [c.val]) 0 (Str.ofString "\r\n").length 1).isEmpty = !(c.val == 13 || c.val == 10) := by decide +kernel
  exact this ⟨c, hc⟩
theorem outs_take {n : Nat} {ee : List Nat} {ls : List Str} {i : Nat} {y : Str} (h : ls[i]? = some y) : outs n ee (ls.take (i + 1)) = outs n ee (ls.take i) ++ (lineOut n ee y.cps.toList).map mkS := by
  unfold outs
  rw [List.take_add_one, h]; simp
theorem mem_lines {b : List Nat} {y : Str} (hy : y ∈ Txt.lines (mkS b)) {c : Nat} (hc : c ∈ y.cps.toList) : c ∈ b := by
  unfold Txt.lines at hy
  split at hy
  · rw [List.mem_singleton] at hy; subst hy; exact hc
  · unfold linesOf at hy
    obtain ⟨p, _, rfl⟩ := List.mem_map.mp hy
    rw [StrLaws.strSub_toList] at hc
    exact List.mem_of_mem_drop (List.mem_of_mem_take hc)
theorem outs_mono {n : Nat} {ee : List Nat} {ls : List Str} (k : Nat) : (outs n ee (ls.take k)).length ≤ (outs n ee ls).length := by
  have e : outs n ee ls = outs n ee (ls.take k) ++ outs n ee (ls.drop k) := by unfold outs; rw [← List.flatMap_append, List.take_append_drop]
  rw [e, List.length_append]; omega
theorem hexD_lt (d : Nat) (h : d < 16) : hexD d < 256 := by unfold hexD; split <;> omega
theorem encL_lt (c : Nat) (hc : c < 256) : ∀ d ∈ encL c, d < 256 := by
  intro d hd
  unfold encL encS at hd
  split at hd
  · have : d = c := by simpa using hd
    omega
  · have h1 := hexD_lt (c / 16) (by omega)
    have h2 := hexD_lt (c % 16) (by omega)
    have : d = 61 ∨ d = hexD (c / 16) ∨ d = hexD (c % 16) := by simpa using hd
    omega
theorem encT_lt {x : List Nat} (hx : ∀ c ∈ x, c < 256) : ∀ d ∈ encT x, d < 256 := by
  intro d hd
  obtain ⟨c, hc, hd⟩ := List.mem_flatMap.mp hd
  exact encL_lt c (hx c hc) d hd
theorem encT_ne {x : List Nat} (hx : x ≠ []) : encT x ≠ [] := by
  obtain ⟨c, t, rfl⟩ := List.exists_cons_of_ne_nil hx
  intro h
  have : encL c = [] := (List.append_eq_nil_iff.mp h).1
  unfold encL encS at this
  split at this <;> simp at this
theorem bm_ne {h₀ h : Heap} {L eb bm : Addr} {its : Array Value} {n : Nat} {rest : List (Addr × Obj)} (N : News h₀ L h ((bm, bmObj eb) :: (eb, { cls := .type "list", data := .seq its n }) :: rest)) : bm ≠ eb := fun q => by
  have a := (N _ (.head _)).1
  have b := (N _ (.tail _ (.head _))).1
  dsimp only at a b
  rw [q, b] at a
  exact absurd (congrArg Obj.cls (Option.some.inj a)) (show ¬ (Value.type "list" = Value.type "builtin_function_or_method") by decide)
local macro_rules | `(tactic| walk_at "eval Name") => `(tactic| ((with_reducible show wpAny _ _ (eval (PySem.Expr.Name (Str.ofString "_QUOPRI_BODY_ENCODE_MAP") _) _) _ _ _); refine ld_global_at (by assumption) (TopH.ns (by assumption)) (g_BEM _) ?_))
local macro_rules | `(tactic| walk_at "eval Name") => `(tactic| ((with_reducible show wpAny _ _ (eval (PySem.Expr.Name (Str.ofString "CRLF") _) _) _ _ _); refine ld_global_at (by assumption) (TopH.ns (by assumption)) (g_CRLF _) ?_))
local macro_rules | `(tactic| walk_at "callWith") => `(tactic| ((with_reducible show wpAny _ _ (callWith _ (Value.ref _) [] _ _) _ _ _); refine callWith_bm1 ?_))
local macro_rules | `(tactic| walk_at "getMethod str") => `(tactic| refine gm_translate ?_)
local macro_rules | `(tactic| walk_at "exec For") => `(tactic| (refine For_invV _ rfl rfl ?_))
theorem be_tail {w : World} {A : Around} {s₀ s : Shared} {L : Addr} {nm : Str} {Q : Value → Shared → Prop} {mean mg mb} {b ee : List Nat} {n : Nat} {eb bm : Addr} {tb te tn ts tm : Tok} {m : Str → Option Value} (T : Top vq (looseW vq looseN) mean mg mb s₀.heap)
    (Y : TopH w s₀.heap) (hh : A.handled = none) (hroom : A.depth < recursionLimit) (F : Fr s₀.heap L s.heap m) (hm : ∀ p ∈ beBase (mkS b) (mkS ee) n eb bm tb te tn ts tm, m p.1 = some p.2)
    (N : News s₀.heap L s.heap [(eb, lst [] 0), (bm, bmObj eb)]) (hne : bm ≠ eb) (e : SameBut' s₀ s) (hn : 4 ≤ n) (hb : b.length ≤ 12000) (hb8 : ∀ c ∈ b, c < 256) (hb0 : b ≠ []) (he : ee.length ≤ 2)
    (hw : ((beItems n ee b).map (·.length)).sum + (beItems n ee b).length * 64 ≤ 16777216)
    (h : ∀ tok s', Ext s₀ s' → Q (.str (Txt.join (mkS ee) (beItems n ee b)) tok) s') :
    wpAny (model PR w) A (execs ((fBody (stm 17)).drop 7) (envOf nm (fScope (stm 17)) L 50 (.ref 49))) (fun f s' => Q (match f with | .ret v => v | _ => .none) s') (fun _ _ => False) s := by
  w_on
  obtain ⟨hp, tk, rfl⟩ := e
  have hbl : (mkS b).length ≤ 12000 := by rw [mkS_length]; exact hb
  have hmb := mkS_length b
  have hme : (mkS ee).length ≤ 2 := by rw [mkS_length]; exact he
  have hbp : 0 < b.length := List.length_pos_iff.mpr hb0
  rw [← over_eq hm] at F
  unfold beBase at F
  have hlt : ∀ p ∈ [(eb, lst [] 0), (bm, bmObj eb)], p.1 < hp.objs.size := fun p hp => Heap.lt_size (N p hp).1
  refine wpAny_execs_cons ?_
  refine For_invV s₀.heap rfl rfl ?_
  repeat' walk1
  rename_i l hw5 kk hlines hstrs hshort hisl F2 N3
  dsimp only at hisl F2 N3 ⊢
  have hlL := (N3 _ (.head _)).2.1
  have N4 := News.sub (b := [(eb, lst [] 0), (bm, bmObj eb)]) N3 (fun p hp => .tail _ hp)
  clear N3
  refine iter_list (vs := strValues l) (fun i m news => ∃ vs ep, news = [(eb, lst vs ep), (bm, bmObj eb)] ∧ StrsAre vs (outs n ee ((Txt.lines (mkS b)).take i)) ∧ ∀ p ∈ beBase (mkS b) (mkS ee) n eb bm tb te tn ts tm, m p.1 = some p.2) hh hisl hlL (fun p hp => Nat.ne_of_lt (hlt p hp)) F2 N4 ⟨[], 0, rfl, .nil, ?_⟩ ?_ ?_
  · unfold beBase; walk_at "known"
  · rintro i v m₁ news₁ h' tk' own hv hadr hoff ⟨vs, ep, rfl, hv', hm'⟩ F' N'
    obtain ⟨y, t, rfl, hy⟩ := hstrs.item i v hv
    have hyl : y ∈ l.map (·.1) := List.mem_of_getElem? hy
    rw [hlines] at hy
    rw [← mkS_of y] at F'
    refine be_line (B := mkS b) (l := y.cps.toList) T Y hroom hne (fun p hp => hoff p hp eb (.head _)) hn ?_ ?_ he (os := outs n ee ((Txt.lines (mkS b)).take i)) ?_ F' hm' N' hv' ⟨_, _, rfl⟩ ?_
    · have := hshort y hyl; rw [Array.length_toList]; show y.length ≤ _; omega
    · intro c hc
      exact hb8 c (mem_lines (by rw [← hlines]; exact hyl) hc)
    · rw [← outs_take hy]
      have := outs_mono (n := n) (ee := ee) (ls := Txt.lines (mkS b)) (i + 1)
      have h2 : (outs n ee (Txt.lines (mkS b))).length ≤ (beItems n ee b).length := by unfold beItems; rw [List.length_append]; omega
      omega
    · rintro s' m' vs' ep' ⟨h2, tk2, rfl⟩ F2 hm2 N2 hv2
      rw [← outs_take hy] at hv2
      exact ⟨h2, tk2, m', _, [(eb, lst vs' ep'), (bm, bmObj eb)], rfl, F2, N2, fun p hp => List.mem_append_left _ hp, fun p hp => List.mem_append_right [(eb, lst vs' ep'), (bm, bmObj eb)] hp, rfl, vs', ep', rfl, hv2, hm2⟩
  · rintro m₁ news₁ h' tk' ⟨vs, ep, rfl, hv, hm'⟩ _ F' N'
    have hlen : (strValues l).length = (Txt.lines (mkS b)).length := by rw [← hlines, hstrs.length]
    rw [hlen, List.take_length] at hv
    rw [← over_eq hm'] at F'
    unfold beBase at F'
    dsimp only
    obtain ⟨c, hc⟩ : ∃ c, b.getLast? = some c := ⟨_, List.getLast?_eq_some_getLast hb0⟩
    have hc8 : c < 256 := hb8 c (List.mem_of_getLast? hc)
    have hit := item_last b hc
    have hbl := crlf_in c hc8
    have hvl := hv.length
    have hol : (outs n ee (Txt.lines (mkS b))).length ≤ (beItems n ee b).length := by unfold beItems; rw [List.length_append]; omega
    have hvs : vs.length ≤ 1000000 := by omega
    repeat' walk1
    · have ho : (Builtin.Str.occurrences (Str.ofString "\r\n") (Txt.item (mkS b) (-1)) 0 (Str.ofString "\r\n").length 1).isEmpty = true := by assumption
      rw [hit, hbl] at ho
      have hnb : ¬ (c = 13 ∨ c = 10) := by simpa using ho
      have hbi : beItems n ee b = outs n ee (Txt.lines (mkS b)) := by unfold beItems trailS; rw [hc]; dsimp only; rw [if_neg hnb, List.append_nil]
      rw [hbi] at hw h
      refine join_listC (items := vs.toArray) ⟨_, (N' _ (.head _)).1, rfl, ep, rfl⟩ (by simpa using hv) (by omega) hw fun t' k => ?_
      exact h _ _ ⟨F'.keep, ⟨_, _, rfl⟩⟩
    · have ho : (Builtin.Str.occurrences (Str.ofString "\r\n") (Txt.item (mkS b) (-1)) 0 (Str.ofString "\r\n").length 1).isEmpty = false := by assumption
      have hb : c = 13 ∨ c = 10 := by rw [hit, hbl] at ho; by_cases q : c = 13; exact .inl q; exact .inr (by simpa [q] using ho)
      have hbi : beItems n ee b = outs n ee (Txt.lines (mkS b)) ++ [mkS []] := by unfold beItems trailS; rw [hc]; dsimp only; rw [if_pos hb]
      rw [hbi] at hw h
      refine at_bm F' N' hne (fun _ h => nomatch h) hvs ?_
      intro h3 F3 N3
      dsimp only
      repeat' walk1
      refine join_listC (items := (vs ++ [Value.str (mkS []) _]).toArray) ⟨_, (N3 _ (.head _)).1, rfl, ep + 1, rfl⟩ (by simpa using hv.append' (.cons (mkS []) _ .nil)) (by omega) hw fun t' k => ?_
      exact h _ _ ⟨F3.keep, ⟨_, _, rfl⟩⟩
theorem be_main {w : World} {A : Around} {s₀ s : Shared} {L : Addr} {nm : Str} {Q : Value → Shared → Prop} {mean mg mb} {x ee : List Nat} {n : Nat} {t1 t2 t3 : Tok} (T : Top vq (looseW vq looseN) mean mg mb s₀.heap)
    (Y : TopH w s₀.heap) (hh : A.handled = none) (hroom : A.depth < recursionLimit)
    (F : Fr s₀.heap L s.heap (mp [("eol", .str (mkS ee) t3), ("maxlinelen", .int (n : Int) t2), ("body", .str (mkS x) t1)])) (e : SameBut' s₀ s) (hn : 4 ≤ n) (hx : x.length ≤ 4000) (hx8 : ∀ c ∈ x, c < 256) (hx0 : x ≠ []) (he : ee.length ≤ 2)
    (hw : ((beItems n ee (encT x)).map (·.length)).sum + (beItems n ee (encT x)).length * 64 ≤ 16777216)
    (h : ∀ tok s', Ext s₀ s' → Q (.str (Txt.join (mkS ee) (beItems n ee (encT x))) tok) s') :
    wpAny (model PR w) A (execs (fBody (stm 17)) (envOf nm (fScope (stm 17)) L 50 (.ref 49))) (fun f s' => Q (match f with | .ret v => v | _ => .none) s') (fun _ _ => False) s := by
  w_on
  obtain ⟨hp, tk, rfl⟩ := e
  have N : News s₀.heap L hp [] := .nil
  have hmx := mkS_length x
  have hmxl : (mkS x).length ≤ 4000 := by omega
  have hme : (mkS ee).length ≤ 2 := by rw [mkS_length]; exact he
  have hxl : 0 < x.length := List.length_pos_iff.mpr hx0
  refine wpAny_execs_cons ?_
  repeat' walk1
  · exfalso; omega
  · dsimp only [List.cons_append, List.nil_append]
    refine translate_call (y := encS) ?hl bem_get encS_len hx8 hmxl (by omega) fun tok tk => ?_
    case hl => exact bem_is (fr_top F Y)
    rw [mkS_toList, encT_eq]
    have hb : (⟨(encT x).toArray⟩ : Str) = mkS (encT x) := rfl
    rw [hb]
    dsimp only
    have hbl : (mkS (encT x)).length ≤ 12000 := by rw [mkS_length]; have := trS_len encS_len x hx8; rw [encT_eq] at this; omega
    repeat' walk1
    refine bm_make (by assumption) (by assumption) ?_
    intro h1 F1 N1
    have hne := bm_ne N1
    have N2 := News.sub (b := [(_, lst [] 0), (_, bmObj _)]) N1 (by intro p hp; rcases List.mem_cons.mp hp with rfl | hp; exact .tail _ (.head _); rw [List.mem_singleton.mp hp]; exact .head _)
    dsimp only at F1 N2 hne ⊢
    clear N1
    walk1
    dsimp only
    refine' be_tail (b := encT x) (eb := _) (bm := _) T Y hh hroom (by assumption) ?hm (by assumption) hne ⟨_, _, rfl⟩ hn ?_ ?_ ?_ he hw h
    case hm => unfold beBase; walk_at "known"
    · rw [mkS_length] at hbl; exact hbl
    · exact encT_lt hx8
    · exact encT_ne hx0
  · exfalso; omega
end Mine
end
end
section
set_option maxRecDepth 100000
set_option maxHeartbeats 1000000
namespace Mine
open PySem PySem.W PySem.Calls PyProof.Rows PySem.StrLaws PySem.Builtin.Str
/-- splitlines, where CR, LF and CRLF alone end a line -/
noncomputable def goL : List Nat → List Nat → List (List Nat)
  | cur, [] => if cur = [] then [] else [cur]
  | cur, 13 :: 10 :: t => cur :: goL [] t
  | cur, 13 :: t => cur :: goL [] t
  | cur, 10 :: t => cur :: goL [] t
  | cur, c :: t => goL (cur ++ [c]) t
theorem goL_crlf (cur t : List Nat) : goL cur (13 :: 10 :: t) = cur :: goL [] t := by rw [goL]
theorem goL_cr (cur t : List Nat) (h : t.head? ≠ some 10) : goL cur (13 :: t) = cur :: goL [] t := by
  cases t with
  | nil => simp [goL]
  | cons d t => rw [goL]; intro r hr; cases hr; exact h rfl
theorem goL_lf (cur t : List Nat) : goL cur (10 :: t) = cur :: goL [] t := by rw [goL]
theorem goL_other (cur t : List Nat) (c : Nat) (h1 : c ≠ 13) (h2 : c ≠ 10) : goL cur (c :: t) = goL (cur ++ [c]) t := by
  rw [goL]
  · intro r hc; exact absurd hc h1
  · exact h1
  · exact h2
noncomputable def spanS (b : List Nat) (p : Nat × Nat × Nat) : Str := strSub (mkS b) p.1 p.2.1
theorem strSub_mk (b : List Nat) (i j : Nat) : strSub (mkS b) i j = mkS ((b.drop i).take (j - i)) := by
  have h := strSub_toList (mkS b) i j
  rw [mkS_toList] at h
  rw [← h, mkS_of]
theorem ls_go (b : List Nat) (hB : ∀ c ∈ b, Unicode.isLineBreak c = (c == 10 || c == 13)) : ∀ (m cur : Nat) (lines : Array (Nat × Nat × Nat)) (start : Nat), cur + m = b.length →
    (start ≤ cur → (lsEnd (mkS b) (Id.run (forIn (m := Id) (List.range' cur m) ((lines, start) : LsSt) (lsBody (mkS b))))).map (spanS b) = lines.toList.map (spanS b) ++ (goL ((b.drop start).take (cur - start)) (b.drop cur)).map mkS) ∧
    (start = cur + 1 → b[cur]? = some 10 → (lsEnd (mkS b) (Id.run (forIn (m := Id) (List.range' cur m) ((lines, start) : LsSt) (lsBody (mkS b))))).map (spanS b) = lines.toList.map (spanS b) ++ (goL [] (b.drop (cur + 1))).map mkS)
  | 0, cur, lines, start, hm => by
    have hlen := mkS_length b
    refine ⟨fun hs => ?_, fun hs h10 => ?_⟩
    · show (lsEnd (mkS b) (lines, start)).map (spanS b) = _
      unfold lsEnd
      dsimp only
      have hd : b.drop cur = [] := List.drop_eq_nil_of_le (by omega)
      rw [hd, goL]
      by_cases hlt : start < (mkS b).length
      · rw [if_pos hlt, Array.toList_push, List.map_append]
        have hne : (b.drop start).take (cur - start) ≠ [] := List.ne_nil_of_length_pos (by rw [List.length_take, List.length_drop]; omega)
        rw [if_neg hne]
        have : spanS b (start, (mkS b).length, (mkS b).length) = mkS ((b.drop start).take (cur - start)) := by
          unfold spanS; rw [strSub_mk]; congr 2; show (mkS b).length - start = cur - start; omega
        simp [this]
      · rw [if_neg hlt]
        have he : (b.drop start).take (cur - start) = [] := by rw [show cur - start = 0 by omega]; rfl
        rw [if_pos he]; simp
    · have := (List.getElem?_eq_some_iff.mp h10).1
      omega
  | m + 1, cur, lines, start, hm => by
    have hlen := mkS_length b
    have hcl : cur < b.length := by omega
    obtain ⟨c, hc⟩ : ∃ c, b[cur]? = some c := ⟨b[cur], by simp⟩
    have hcb : c ∈ b := List.mem_of_getElem? hc
    have hgd : (mkS b).cps.getD cur 0 = c := by
      show b.toArray.getD cur 0 = c
      simp [Array.getD, hcl]
      have := hc
      rw [List.getElem?_eq_getElem hcl] at this
      exact Option.some.inj this
    have hdc : b.drop cur = c :: b.drop (cur + 1) := by
      rw [List.drop_eq_getElem_cons hcl]
      have := hc
      rw [List.getElem?_eq_getElem hcl] at this
      rw [Option.some.inj this]
    have hg1 : (mkS b).cps[cur + 1]? = b[cur + 1]? := by show b.toArray[cur + 1]? = _; simp
    have step : ∀ st : LsSt, Id.run (forIn (m := Id) (List.range' cur (m + 1)) st (lsBody (mkS b))) =
        Id.run (forIn (m := Id) (List.range' (cur + 1) m) (if (decide (st.snd ≤ cur) && Unicode.isLineBreak c) = true then (st.fst.push (st.snd, cur, lsNext (mkS b) cur), lsNext (mkS b) cur) else (st.fst, st.snd)) (lsBody (mkS b))) := by
      intro st
      rw [List.range'_succ, List.forIn_cons]
      conv => lhs; unfold lsBody
      rw [hgd]
      split <;> rfl
    refine ⟨fun hs => ?_, fun hs h10 => ?_⟩
    · rw [step, hdc]
      dsimp only
      by_cases hbr : c = 10 ∨ c = 13
      · have hcond : (decide (start ≤ cur) && Unicode.isLineBreak c) = true := by
          rw [hB c hcb, Bool.and_eq_true]
          exact ⟨decide_eq_true hs, by rcases hbr with rfl | rfl <;> rfl⟩
        rw [if_pos hcond]
        have hpush : spanS b (start, cur, lsNext (mkS b) cur) = mkS ((b.drop start).take (cur - start)) := strSub_mk _ _ _
        by_cases h1310 : c = 13 ∧ b[cur + 1]? = some 10
        · have hnx : lsNext (mkS b) cur = cur + 2 := by unfold lsNext; rw [hgd, hg1, h1310.1, h1310.2]; rfl
          obtain ⟨rfl, h10⟩ := h1310
          have hl2 : cur + 1 < b.length := (List.getElem?_eq_some_iff.mp h10).1
          have hd2 : b.drop (cur + 1) = 10 :: b.drop (cur + 2) := by
            rw [List.drop_eq_getElem_cons hl2]
            rw [List.getElem?_eq_getElem hl2] at h10
            rw [Option.some.inj h10]
          rw [hnx]
          rw [hnx] at hpush
          rw [((ls_go b hB m (cur + 1) _ (cur + 2) (by omega)).2 rfl h10), hd2, goL_crlf]
          simp [hpush]
        · have hnx : lsNext (mkS b) cur = cur + 1 := by
            unfold lsNext; rw [hgd, hg1]
            rw [if_neg]
            intro hq
            rw [Bool.and_eq_true] at hq
            exact h1310 ⟨eq_of_beq hq.1, eq_of_beq hq.2⟩
          rw [hnx]
          rw [hnx] at hpush
          rw [((ls_go b hB m (cur + 1) _ (cur + 1) (by omega)).1 (Nat.le_refl _))]
          have hgo : goL ((b.drop start).take (cur - start)) (c :: b.drop (cur + 1)) = (b.drop start).take (cur - start) :: goL [] (b.drop (cur + 1)) := by
            rcases hbr with rfl | rfl
            · exact goL_lf _ _
            · refine goL_cr _ _ fun q => h1310 ⟨rfl, ?_⟩
              rw [List.head?_drop] at q; exact q
          rw [hgo, Nat.sub_self, List.take_zero]
          simp [hpush]
      · have hcond : ¬ (decide (start ≤ cur) && Unicode.isLineBreak c) = true := by
          rw [hB c hcb, Bool.and_eq_true]
          rintro ⟨_, q⟩
          exact hbr (by simpa using q)
        rw [if_neg hcond, ((ls_go b hB m (cur + 1) _ start (by omega)).1 (by omega)), goL_other _ _ c (fun q => hbr (.inr q)) (fun q => hbr (.inl q))]
        congr 3
        rw [show cur + 1 - start = (cur - start) + 1 by omega, List.take_add_one]
        congr 1
        rw [List.getElem?_drop, show start + (cur - start) = cur by omega, hc]; rfl
    · rw [step]
      dsimp only
      have hcond : ¬ (decide (start ≤ cur) && Unicode.isLineBreak c) = true := by
        rw [Bool.and_eq_true, decide_eq_true_eq]; rintro ⟨q, _⟩; omega
      rw [if_neg hcond, ((ls_go b hB m (cur + 1) _ start (by omega)).1 (by omega))]
      rw [hs, Nat.sub_self, List.take_zero]
theorem lines_go (b : List Nat) (hB : ∀ c ∈ b, Unicode.isLineBreak c = (c == 10 || c == 13)) : Txt.lines (mkS b) = (goL [] b).map mkS := by
  have h := (ls_go b hB b.length 0 #[] 0 (by omega)).1 (Nat.le_refl _)
  rw [show (#[] : Array (Nat × Nat × Nat)).toList.map (spanS b) = [] from rfl, List.nil_append, List.drop_zero, Nat.sub_self, List.take_zero] at h
  have e : linesOf (mkS b) = (lineSpans (mkS b)).map (spanS b) := by
    unfold linesOf lineCuts
    rw [List.map_map]
    rfl
  rw [ls_eq, mkS_length] at e
  rw [← h, ← e]
  unfold Txt.lines
  split
  · rename_i hq
    have hq' := eq_of_beq hq
    unfold linesOf
    rw [hq']
    show [mkS b] = [strSub (mkS b) 0 (mkS b).length]
    rw [strSub_mk, mkS_length, List.drop_zero, Nat.sub_zero, List.take_length]
  · rfl
end Mine
end
section
set_option maxRecDepth 100000
set_option maxHeartbeats 1000000
namespace Mine
open PySem PySem.W PySem.Calls PyProof.Rows
/-- the rows of a text: CRLF, CR and LF part them alike -/
noncomputable def rowsA : List Nat → List Nat → List (List Nat)
  | cur, [] => [cur]
  | cur, 13 :: 10 :: t => cur :: rowsA [] t
  | cur, 13 :: t => cur :: rowsA [] t
  | cur, 10 :: t => cur :: rowsA [] t
  | cur, c :: t => rowsA (cur ++ [c]) t
noncomputable def rowsOf (x : List Nat) : List (List Nat) := rowsA [] x
theorem rowsA_crlf (cur t : List Nat) : rowsA cur (13 :: 10 :: t) = cur :: rowsA [] t := by rw [rowsA]
theorem rowsA_cr (cur t : List Nat) (h : t.head? ≠ some 10) : rowsA cur (13 :: t) = cur :: rowsA [] t := by
  cases t with
  | nil => simp [rowsA]
  | cons d t => rw [rowsA]; intro r hr; cases hr; exact h rfl
theorem rowsA_lf (cur t : List Nat) : rowsA cur (10 :: t) = cur :: rowsA [] t := by rw [rowsA]
theorem rowsA_other (cur t : List Nat) (c : Nat) (h1 : c ≠ 13) (h2 : c ≠ 10) : rowsA cur (c :: t) = rowsA (cur ++ [c]) t := by
  rw [rowsA]
  · intro r hc; exact absurd hc h1
  · exact h1
  · exact h2
noncomputable def crlfB (c : Nat) : Bool := c == 13 || c == 10
noncomputable def trail (x : List Nat) : List (List Nat) := match x.getLast? with | some c => if c = 13 ∨ c = 10 then [[]] else [] | none => []
theorem encL_nl {c : Nat} (h : c = 13 ∨ c = 10) : encL c = [c] := by rcases h with rfl | rfl <;> rfl
theorem hexD_ge (d : Nat) : 48 ≤ hexD d := by unfold hexD; split <;> omega
theorem encL_other {c : Nat} (h1 : c ≠ 13) (h2 : c ≠ 10) : ∀ d ∈ encL c, d ≠ 13 ∧ d ≠ 10 := by
  intro d hd
  unfold encL encS at hd
  have g1 := hexD_ge (c / 16)
  have g2 := hexD_ge (c % 16)
  split at hd
  · have : d = c := by simpa using hd
    subst this; exact ⟨h1, h2⟩
  · have : d = 61 ∨ d = hexD (c / 16) ∨ d = hexD (c % 16) := by simpa using hd
    omega
theorem encL_ne (c : Nat) : encL c ≠ [] := by unfold encL encS; split <;> simp
theorem goL_append : ∀ (e cur t : List Nat), (∀ d ∈ e, d ≠ 13 ∧ d ≠ 10) → goL cur (e ++ t) = goL (cur ++ e) t
  | [], cur, t, _ => by simp
  | d :: e, cur, t, h => by
    rw [List.cons_append, goL_other _ _ d (h d (.head _)).1 (h d (.head _)).2, goL_append e _ t fun q hq => h q (.tail _ hq)]
    simp
theorem trail_cons {c : Nat} {t : List Nat} (h : t ≠ []) : trail (c :: t) = trail t := by
  unfold trail; rw [List.getLast?_cons]; cases ht : t.getLast? with
  | none => exact absurd (List.getLast?_eq_none_iff.mp ht) h
  | some d => rfl
theorem encT_cons (c : Nat) (t : List Nat) : encT (c :: t) = encL c ++ encT t := rfl
theorem encT_append (a b : List Nat) : encT (a ++ b) = encT a ++ encT b := by unfold encT; simp
theorem encT_head {t : List Nat} (h : t.head? ≠ some 10) : (encT t).head? ≠ some 10 := by
  cases t with
  | nil => simp [encT]
  | cons c t =>
    rw [encT_cons]
    have hc : c ≠ 10 := fun q => h (by rw [q]; rfl)
    by_cases h13 : c = 13
    · subst h13; simp [encL_nl]
    · obtain ⟨d, r, hd⟩ := List.exists_cons_of_ne_nil (encL_ne c)
      rw [hd]
      intro q
      have : d = 10 := by simpa using q
      exact (encL_other h13 hc d (by rw [hd]; exact .head _)).2 this
theorem goL_rows : ∀ (k : Nat) (x cur : List Nat), x.length ≤ k → (x ≠ [] ∨ cur ≠ []) → goL (encT cur) (encT x) ++ trail x = (rowsA cur x).map encT
  | 0, x, cur, hk, hne => by
    have hx : x = [] := List.length_eq_zero_iff.mp (by omega)
    subst hx
    have hc : cur ≠ [] := hne.resolve_left fun q => q rfl
    show goL (encT cur) [] ++ [] = [encT cur]
    rw [goL, if_neg (encT_ne hc), List.append_nil]
  | k + 1, [], cur, hk, hne => by
    have hc : cur ≠ [] := hne.resolve_left fun q => q rfl
    show goL (encT cur) [] ++ [] = [encT cur]
    rw [goL, if_neg (encT_ne hc), List.append_nil]
  | k + 1, c :: t, cur, hk, hne => by
    have hk' : t.length ≤ k := by simpa using hk
    have nl : ∀ (t' : List Nat), t'.length ≤ k → goL [] (encT t') ++ (if t' = [] then [[]] else trail t') = (rowsA [] t').map encT := by
      intro t' ht'
      by_cases h0 : t' = []
      · subst h0; rfl
      · rw [if_neg h0]; exact goL_rows k t' [] ht' (.inl h0)
    by_cases h13 : c = 13
    · subst h13
      by_cases h10 : ∃ r, t = 10 :: r
      · obtain ⟨r, rfl⟩ := h10
        rw [rowsA_crlf, show encT (13 :: 10 :: r) = 13 :: 10 :: encT r from rfl, goL_crlf, List.map_cons, ← nl r (by simp at hk'; omega), List.cons_append]
        congr 2
        by_cases h0 : r = []
        · subst h0; rfl
        · rw [if_neg h0, trail_cons (by simp), trail_cons h0]
      · have hh : t.head? ≠ some 10 := by
          intro q
          cases t with
          | nil => cases q
          | cons d t => exact h10 ⟨t, by rw [show d = 10 by simpa using q]⟩
        rw [rowsA_cr _ _ hh, show encT (13 :: t) = 13 :: encT t from rfl, goL_cr _ _ (encT_head hh), List.map_cons, ← nl t hk', List.cons_append]
        congr 2
        by_cases h0 : t = []
        · subst h0; rfl
        · rw [if_neg h0, trail_cons h0]
    · by_cases h10 : c = 10
      · subst h10
        rw [rowsA_lf, show encT (10 :: t) = 10 :: encT t from rfl, goL_lf, List.map_cons, ← nl t hk', List.cons_append]
        congr 2
        by_cases h0 : t = []
        · subst h0; rfl
        · rw [if_neg h0, trail_cons h0]
      · rw [rowsA_other _ _ c h13 h10, encT_cons, goL_append _ _ _ (encL_other h13 h10), ← show encT (cur ++ [c]) = encT cur ++ encL c by rw [encT_append]; simp [encT], ← goL_rows k t (cur ++ [c]) hk' (.inr (by simp))]
        congr 1
        by_cases h0 : t = []
        · subst h0
          unfold trail
          simp [h13, h10]
        · rw [trail_cons h0]
theorem encL_chars {c : Nat} (hc : c < 256) : ∀ d ∈ encL c, d = 9 ∨ d = 10 ∨ d = 13 ∨ (32 ≤ d ∧ d < 127) := by
  intro d hd
  unfold encL encS at hd
  split at hd
  · rename_i h
    have : d = c := by simpa using hd
    subst this
    simp at h
    omega
  · have h1 : hexD (c / 16) < 127 := by unfold hexD; split <;> omega
    have g1 := hexD_ge (c / 16)
    have g2 := hexD_ge (c % 16)
    have h2 : hexD (c % 16) < 127 := by unfold hexD; split <;> omega
    have : d = 61 ∨ d = hexD (c / 16) ∨ d = hexD (c % 16) := by simpa using hd
    omega
theorem encT_breaks {x : List Nat} (hx : ∀ c ∈ x, c < 256) : ∀ c ∈ encT x, Unicode.isLineBreak c = (c == 10 || c == 13) := by
  intro d hd
  obtain ⟨c, hc, hd⟩ := List.mem_flatMap.mp hd
  have h := encL_chars (hx c hc) d hd
  have all : ∀ d : Fin 127, (d.val = 9 ∨ d.val = 10 ∨ d.val = 13 ∨ 32 ≤ d.val) → Unicode.isLineBreak d.val = (d.val == 10 || d.val == 13) := by decide +kernel
  exact all ⟨d, by omega⟩ (by show d = 9 ∨ d = 10 ∨ d = 13 ∨ 32 ≤ d; omega)
theorem lineOut_nil (n : Nat) (ee : List Nat) : lineOut n ee [] = [[]] := by
  unfold lineOut
  rw [soft_stop (by simp)]
  rfl
noncomputable def outRow (n : Nat) (ee row : List Nat) : List (List Nat) := lineOut n ee (encT row)
noncomputable def outRows (n : Nat) (ee : List Nat) (rows : List (List Nat)) : List (List Nat) := rows.flatMap (outRow n ee)
theorem last_enc {x : List Nat} (hx : x ≠ []) : trailS (encT x) = (trail x).map mkS := by
  unfold trailS
  obtain ⟨x', c, rfl⟩ : ∃ x' c, x = x' ++ [c] := ⟨x.dropLast, x.getLast hx, (List.dropLast_concat_getLast hx).symm⟩
  have e1 : encT (x' ++ [c]) = encT x' ++ encL c := by rw [encT_append]; simp [encT]
  have e2 : (encT x' ++ encL c).getLast? = (encL c).getLast? := by
    rw [List.getLast?_append]
    cases h : (encL c).getLast? with
    | none => exact absurd (List.getLast?_eq_none_iff.mp h) (encL_ne c)
    | some d => rfl
  have e3 : trail (x' ++ [c]) = if c = 13 ∨ c = 10 then [[]] else [] := by unfold trail; simp
  rw [e1, e2, e3]
  by_cases h : c = 13 ∨ c = 10
  · rw [if_pos h, encL_nl h]
    show (if c = 13 ∨ c = 10 then [mkS []] else []) = _
    rw [if_pos h]; rfl
  · rw [if_neg h]
    cases hd : (encL c).getLast? with
    | none => rfl
    | some d =>
      have := encL_other (fun q => h (.inl q)) (fun q => h (.inr q)) d (List.mem_of_getLast? hd)
      show (if d = 13 ∨ d = 10 then [mkS []] else []) = _
      rw [if_neg (by omega)]; rfl
theorem beItems_rows {n : Nat} {ee x : List Nat} (hx0 : x ≠ []) (hx : ∀ c ∈ x, c < 256) : beItems n ee (encT x) = (outRows n ee (rowsOf x)).map mkS := by
  unfold beItems
  rw [last_enc hx0, lines_go _ (encT_breaks hx)]
  have hg := goL_rows x.length x [] (Nat.le_refl _) (.inl hx0)
  have e1 : outs n ee ((goL [] (encT x)).map mkS) = ((goL [] (encT x)).flatMap (lineOut n ee)).map mkS := by
    unfold outs
    rw [List.flatMap_map, List.map_flatMap]
    rfl
  have e2 : (trail x).map mkS = ((trail x).flatMap (lineOut n ee)).map mkS := by
    unfold trail
    split
    · split
      · rw [List.flatMap_cons, lineOut_nil]; rfl
      · rfl
    · rfl
  rw [e1, e2, ← List.map_append, ← List.flatMap_append]
  have hg' : goL [] (encT x) ++ trail x = (rowsA [] x).map encT := hg
  rw [hg']
  unfold outRows outRow rowsOf
  rw [List.flatMap_map]
theorem soft_count (n : Nat) (r : List Nat) : (soft n r).1.length ≤ r.length ∧ ((soft n r).1.map (·.length)).sum + (soft n r).2.length ≤ 2 * r.length := by
  refine soft_ind n (P := fun r o => o.1.length ≤ r.length ∧ (o.1.map (·.length)).sum + o.2.length ≤ 2 * r.length) ?_ ?_ ?_ (fun r => by simp; omega) _ r (Nat.le_refl _)
  · intro r h h4 ih
    rw [List.length_drop] at ih
    simp only [List.length_cons, List.map_cons, List.sum_cons, List.length_take]
    omega
  · intro r h h4 ih
    rw [List.length_drop] at ih
    simp only [List.length_cons, List.map_cons, List.sum_cons, List.length_take]
    omega
  · intro r h h4 ih
    rw [List.length_drop] at ih
    simp only [List.length_cons, List.map_cons, List.sum_cons, List.length_append, List.length_take, List.length_nil]
    omega
theorem tail_count {n : Nat} {ee l r : List Nat} (he : ee.length ≤ 2) : (lineTail n ee l r).length ≤ r.length + 6 := by
  unfold lineTail
  split
  · split
    · split
      · simp [hexL]; omega
      · split
        · simp; omega
        · simp [hexL]; omega
    · omega
  · omega
theorem lineOut_count {n : Nat} {ee l : List Nat} (he : ee.length ≤ 2) : (lineOut n ee l).length ≤ l.length + 1 ∧ ((lineOut n ee l).map (·.length)).sum ≤ 2 * l.length + 6 := by
  have h := soft_count n l
  have ht := tail_count (n := n) (l := l) (r := (soft n l).2) he
  unfold lineOut
  rw [List.length_append, List.map_append, List.sum_append]
  simp only [List.length_cons, List.length_nil, List.map_cons, List.map_nil, List.sum_cons, List.sum_nil]
  omega
theorem encL_len {c : Nat} : (encL c).length ≤ 3 := by
  unfold encL encS; split
  · exact (by decide : 1 ≤ 3)
  · exact (by decide : 3 ≤ 3)
theorem encT_len (x : List Nat) : (encT x).length ≤ 3 * x.length := by
  induction x with
  | nil => exact Nat.le_refl _
  | cons c t ih => rw [encT_cons, List.length_append, List.length_cons]; have := encL_len (c := c); omega
noncomputable def rowSum (rows : List (List Nat)) : Nat := (rows.map (·.length)).sum
theorem rowsA_count : ∀ (k : Nat) (x cur : List Nat), x.length ≤ k → (rowsA cur x).length ≤ x.length + 1 ∧ rowSum (rowsA cur x) ≤ cur.length + x.length
  | 0, x, cur, hk => by
    have hx : x = [] := List.length_eq_zero_iff.mp (by omega)
    subst hx; simp [rowsA, rowSum]
  | k + 1, [], cur, hk => by simp [rowsA, rowSum]
  | k + 1, c :: t, cur, hk => by
    have hk' : t.length ≤ k := by simpa using hk
    by_cases h13 : c = 13
    · subst h13
      by_cases h10 : ∃ r, t = 10 :: r
      · obtain ⟨r, rfl⟩ := h10
        rw [rowsA_crlf]
        have := rowsA_count k r [] (by simp at hk'; omega)
        simp only [List.length_cons, rowSum, List.map_cons, List.sum_cons, List.length_nil] at this ⊢
        omega
      · have hh : t.head? ≠ some 10 := by
          intro q
          cases t with
          | nil => cases q
          | cons d t => exact h10 ⟨t, by rw [show d = 10 by simpa using q]⟩
        rw [rowsA_cr _ _ hh]
        have := rowsA_count k t [] hk'
        simp only [List.length_cons, rowSum, List.map_cons, List.sum_cons, List.length_nil] at this ⊢
        omega
    · by_cases h10 : c = 10
      · subst h10
        rw [rowsA_lf]
        have := rowsA_count k t [] hk'
        simp only [List.length_cons, rowSum, List.map_cons, List.sum_cons, List.length_nil] at this ⊢
        omega
      · rw [rowsA_other _ _ c h13 h10]
        have := rowsA_count k t (cur ++ [c]) hk'
        simp only [List.length_append, List.length_cons, List.length_nil] at this ⊢
        omega
theorem outRows_count {n : Nat} {ee : List Nat} (he : ee.length ≤ 2) : ∀ rows : List (List Nat), (outRows n ee rows).length ≤ 3 * rowSum rows + rows.length ∧ ((outRows n ee rows).map (·.length)).sum ≤ 6 * rowSum rows + 6 * rows.length
  | [] => by simp [outRows, rowSum]
  | r :: rows => by
    have ih := outRows_count (n := n) he rows
    have h1 := lineOut_count (n := n) (l := encT r) he
    have h2 := encT_len r
    have e : outRows n ee (r :: rows) = outRow n ee r ++ outRows n ee rows := rfl
    rw [e, List.length_append, List.map_append, List.sum_append]
    unfold outRow
    simp only [rowSum, List.map_cons, List.sum_cons, List.length_cons] at ih ⊢
    omega
theorem weight_ok {n : Nat} {ee x : List Nat} (he : ee.length ≤ 2) (hx : x.length ≤ 4000) :
    (((outRows n ee (rowsOf x)).map mkS).map (·.length)).sum + ((outRows n ee (rowsOf x)).map mkS).length * 64 ≤ 16777216 := by
  have h1 := outRows_count (n := n) he (rowsOf x)
  have h2 := rowsA_count x.length x [] (Nat.le_refl _)
  have e : ((outRows n ee (rowsOf x)).map mkS).map (·.length) = (outRows n ee (rowsOf x)).map (·.length) := by
    rw [List.map_map]; exact List.map_congr_left fun l _ => mkS_length l
  rw [e, List.length_map]
  unfold rowsOf at h1 ⊢
  simp only [List.length_nil] at h2
  omega
end Mine
end
section
set_option maxRecDepth 100000
set_option maxHeartbeats 4000000
namespace Mine
theorem anew20 : True := by
  w_top off
  first | walk1 | trivial
open PySem PySem.W PySem.Calls PyProof.Rows
noncomputable def beRes (n : Nat) (ee x : List Nat) : Str := Txt.join (mkS ee) ((outRows n ee (rowsOf x)).map mkS)
theorem beRes_nil (n : Nat) (ee : List Nat) : beRes n ee [] = mkS [] := by
  have e : outRows n ee (rowsOf []) = [[]] := by
    show outRow n ee [] ++ [] = [[]]
    unfold outRow
    rw [show encT [] = [] from rfl, lineOut_nil]; rfl
  unfold beRes
  rw [e]; rfl
theorem be_empty {w : World} {A : Around} {s₀ s : Shared} {L : Addr} {nm : Str} {Q : Value → Shared → Prop} {ee : List Nat} {n : Nat} {t1 t2 t3 : Tok}
    (F : Fr s₀.heap L s.heap (mp [("eol", .str (mkS ee) t3), ("maxlinelen", .int (n : Int) t2), ("body", .str (mkS []) t1)])) (e : SameBut' s₀ s) (hn : 4 ≤ n)
    (h : ∀ tok s', Ext s₀ s' → Q (.str (mkS []) tok) s') :
    wpAny (model PR w) A (execs (fBody (stm 17)) (envOf nm (fScope (stm 17)) L 50 (.ref 49))) (fun f s' => Q (match f with | .ret v => v | _ => .none) s') (fun _ _ => False) s := by
  w_on
  obtain ⟨hp, tk, rfl⟩ := e
  have hl0 : (mkS []).length = 0 := rfl
  refine wpAny_execs_cons ?_
  repeat' walk1
  · exfalso; omega
  · exact h _ _ ⟨F.keep, ⟨_, _, rfl⟩⟩
theorem be_body {w : World} {A : Around} {s₀ s : Shared} {L : Addr} {nm : Str} {Q : Value → Shared → Prop} {mean mg mb} {x ee : List Nat} {n : Nat} {t1 t2 t3 : Tok} (T : Top vq (looseW vq looseN) mean mg mb s₀.heap)
    (Y : TopH w s₀.heap) (hh : A.handled = none) (hroom : A.depth < recursionLimit)
    (F : Fr s₀.heap L s.heap (mp [("eol", .str (mkS ee) t3), ("maxlinelen", .int (n : Int) t2), ("body", .str (mkS x) t1)])) (e : SameBut' s₀ s) (hn : 4 ≤ n) (hx : x.length ≤ 4000) (hx8 : ∀ c ∈ x, c < 256) (he : ee.length ≤ 2)
    (h : ∀ tok s', Ext s₀ s' → Q (.str (beRes n ee x) tok) s') :
    wpAny (model PR w) A (execs (fBody (stm 17)) (envOf nm (fScope (stm 17)) L 50 (.ref 49))) (fun f s' => Q (match f with | .ret v => v | _ => .none) s') (fun _ _ => False) s := by
  by_cases hx0 : x = []
  · subst hx0
    rw [beRes_nil] at h
    exact be_empty F e hn h
  · refine be_main T Y hh hroom F e hn hx hx8 hx0 he ?_ ?_
    · rw [beItems_rows hx0 hx8]; exact weight_ok he hx
    · rw [beItems_rows hx0 hx8]; exact h
theorem be_call3 {w : World} {A : Around} {s : Shared} {Q : Value → Shared → Prop} {E : Value → Shared → Prop} {mean mg mb} {x ee : List Nat} {n : Nat} {t1 t2 t3 : Tok} (T : Top vq (looseW vq looseN) mean mg mb s.heap)
    (Y : TopH w s.heap) (hh : A.handled = none) (hroom : A.depth + 1 < recursionLimit) (hn : 4 ≤ n) (hx : x.length ≤ 4000) (hx8 : ∀ c ∈ x, c < 256) (he : ee.length ≤ 2)
    (h : ∀ tok s', Ext s s' → Q (.str (beRes n ee x) tok) s') : wpAny (model PR w) A (call (.ref 50) [.str (mkS x) t1, .int (n : Int) t2, .str (mkS ee) t3]) Q E s :=
  call_def (binds := [("body", .str (mkS x) t1), ("maxlinelen", .int (n : Int) t2), ("eol", .str (mkS ee) t3)]) (by omega) (Y 50 _ rfl) rfl T.nolimit ⟨49, _, _, _, rfl, Y 49 _ rfl, rfl, rfl⟩ rfl (fun _ => rfl)
    (BindsTo.of_defaults (T := 43) rfl (Y 43 _ rfl) rfl rfl rfl) (by decide +kernel) (locs rfl)
    (fun L s₁ A' F e a => be_body T Y (by rw [a.hh]; exact hh) (by rw [a.hd]; exact hroom) F e hn hx hx8 he h) rfl rfl rfl
theorem be_call1 {w : World} {A : Around} {s : Shared} {Q : Value → Shared → Prop} {E : Value → Shared → Prop} {mean mg mb} {x : List Nat} {t1 : Tok} (T : Top vq (looseW vq looseN) mean mg mb s.heap)
    (Y : TopH w s.heap) (hh : A.handled = none) (hroom : A.depth + 1 < recursionLimit) (hx : x.length ≤ 4000) (hx8 : ∀ c ∈ x, c < 256)
    (h : ∀ tok s', Ext s s' → Q (.str (beRes 76 [10] x) tok) s') : wpAny (model PR w) A (call (.ref 50) [.str (mkS x) t1]) Q E s :=
  call_def (binds := [("body", .str (mkS x) t1), ("maxlinelen", .int ((76 : Nat) : Int) 1743), ("eol", .str (mkS [10]) 189)]) (by omega) (Y 50 _ rfl) rfl T.nolimit ⟨49, _, _, _, rfl, Y 49 _ rfl, rfl, rfl⟩ rfl (fun _ => rfl)
    (BindsTo.of_defaults (T := 43) rfl (Y 43 _ rfl) rfl rfl rfl) (by decide +kernel) (locs rfl)
    (fun L s₁ A' F e a => be_body T Y (by rw [a.hh]; exact hh) (by rw [a.hd]; exact hroom) F e (by decide) hx hx8 (by decide) h) rfl rfl rfl
end Mine
end
section
set_option maxRecDepth 100000
set_option maxHeartbeats 4000000
namespace Mine
theorem anew21 : True := by
  w_top off
  first | walk1 | trivial
open PySem PySem.W PySem.Calls PyProof.Rows
section
variable {prog : Program} {w : World} {A : Around} {E : Value → Shared → Prop} {s : Shared} {h₀ : Heap} {L : Addr} {m : Str → Option Value} {l : Addr} {us : List Value} {x v : Value} {ep : Nat} {own : List (Addr × Obj)}
theorem last_item {value slice : PySem.Expr} {u : Tok} {Q : Value → Shared → Prop} (N : News h₀ L s.heap ((l, lst (us ++ [x]) ep) :: own)) (h : Q x s)
    (hs : subscripted slice false (.ref l) (.int (-1) u) = operate [.ref l, .int (-1) u] (getItem (.ref l) (.int (-1) u)) := by with_unfolding_all rfl) :
    wpAny (model prog w) A (subscriptTail value slice (.ref l) (.int (-1) u)) Q E s := by
  have hl : s.heap.IsList l (us ++ [x]).toArray := ⟨_, N.get (.head _), rfl, ep, rfl⟩
  have hz : (us ++ [x]).toArray.size = us.length + 1 := by simp
  have hk : ((-1 : Int) + ((us ++ [x]).toArray.size : Int)).toNat = us.length := by rw [hz]; omega
  exact tail_any hl.typeIs slot_list_getitem.lookup (wpAny_getItem_list_neg hl (by decide) (by rw [hz]; omega) (by decide) (by rw [hk]; simp) h) hs
theorem set_last {t : Tok} {Q : Unit → Shared → Prop} (F : Fr h₀ L s.heap m) (N : News h₀ L s.heap ((l, lst (us ++ [x]) ep) :: own)) (hoff : ∀ p ∈ own, p.1 ≠ l)
    (h : ∀ h' ep', Fr h₀ L h' m → News h₀ L h' ((l, lst (us ++ [v]) ep') :: own) → Q () { s with heap := h' }) :
    wpAny (model prog w) A (setItem (.ref l) (.int (-1) t) v) Q E s := by
  have ho := N.get (.head _)
  have hl : s.heap.IsList l (us ++ [x]).toArray := ⟨_, ho, rfl, ep, rfl⟩
  have hz : (us ++ [x]).toArray.size = us.length + 1 := by simp
  have hidx := seqIndex_neg (k := -1) (n := (us ++ [x]).toArray.size) (by decide) (by rw [hz]; omega)
  have hk : ((-1 : Int) + ((us ++ [x]).toArray.size : Int)).toNat = us.length := by rw [hz]; omega
  rw [hk] at hidx
  unfold setItem
  try with_reducible refine wpAny_holding ?_
  first | refine wpAny_bind (wpAny_pure ?_) | skip
  refine wpAny_bind (wpAny_sequenceKey hl.typeIs (by decide) ?_)
  refine wpAny_bind (wpAny_callSpecial?_slot (name := Str.ofString "__setitem__") hl.typeIs slot_list_setitem
    (wpAny_call_entry slot_list_setitem hl.typeIs entry_list_setitem ?_ (args_list_setitem _ _ _)))
  show wpAny _ _ (Builtin.List.listSubscript? (.int (-1) t) >>= _) _ _ s
  refine wpAny_bind (wpAny_listSubscript_int (fitsIndex_neg (by decide) (by decide)) ?_)
  show wpAny _ _ ((Builtin.List.listItems (.ref l) >>= fun xs => pure ((seqIndex? (-1) xs.size).bind fun i => xs[i]?.map (i, ·))) >>= _) _ _ s
  refine wpAny_bind (wpAny_bind ?_)
  show wpAny _ _ (seqItems? (.ref l) >>= _) _ _ s
  refine wpAny_bind (wpAny_seqItems ho rfl (wpAny_pure (wpAny_pure ?_)))
  have hx : (us ++ [x]).toArray[us.length]? = some x := by simp
  rw [hidx]
  simp only [Option.bind_some, hx, Option.map_some]
  show wpAny _ _ (setSeqItemAt l us.length v >>= _) _ _ s
  refine wpAny_bind (wpAny_setSeqItemAt ho rfl ?_)
  have hset : (us ++ [x]).toArray.setIfInBounds us.length v = (us ++ [v]).toArray := by
    apply Array.ext'
    simp
  have hfin : (s.heap.update l (Obj.mapSeq (·.setIfInBounds us.length v))).get? l = some (lst (us ++ [v]) ep) := by
    rw [Heap.get?_update_self _ ho rfl]
    show some ({ cls := .type "list", data := .seq ((us ++ [x]).toArray.setIfInBounds us.length v) _ } : Obj) = _
    rw [hset, if_pos (by simp)]
  have hs := Heap.SameBut.update s.heap l (Obj.mapSeq (·.setIfInBounds us.length v))
  have hq := h _ ep (F.change hs (N _ (.head _)).2.1 (N _ (.head _)).2.2) (N.setHead hoff hs hfin)
  first
    | exact wpAny_bind (wpAny_pure (wpAny_pure ⟨.none, rfl, wpAny_pure hq⟩))
    | exact wpAny_pure ⟨.none, rfl, wpAny_pure hq⟩
end
/-- one turn of the law's greedy lines: what is done, the line that grows, what is left -/
noncomputable def lStep (n : Nat) (st : List (List Nat) × List Nat × Nat) (sg : List Nat) : List (List Nat) × List Nat × Nat :=
  if st.2.1.length + st.2.2 > n ∧ (st.2.1 ++ sg).length > n - 1 then (st.1 ++ [st.2.1 ++ [61]], sg, st.2.2 - sg.length) else (st.1, st.2.1 ++ sg, st.2.2 - sg.length)
noncomputable def llBase (row : Str) (n : Nat) (ls D : Addr) (tr tn : Tok) : List (Str × Value) := [("row", .str row tr), ("length", .int (n : Int) tn), ("lines", .ref ls), ("signs", .ref D)]
local macro_rules | `(tactic| walk_at "eval Name") => `(tactic| first
  | refine nm_local rfl rfl (Fr.ns (by assumption)) rfl ?_
  | refine nm_boot rfl rfl rfl rfl (by assumption) (Fr.keep (by assumption)) (fr_top (by assumption) (by assumption)) (gn_len _) bo_len (by decide) ?_)
local macro_rules | `(tactic| walk_at "storeName") => `(tactic| (refine storeX_L (by assumption) (by assumption) ?_; intro _ _ _))
local macro_rules | `(tactic| walk_at "subscriptTail Name UnaryOp ref int") => `(tactic| (refine last_item (by assumption) ?_))
local macro_rules | `(tactic| walk_at "setItem ref int") => `(tactic| (refine set_last (by assumption) (by assumption) (by assumption) ?_; intro _ _ _ _))
local macro_rules | `(tactic| walk_at "call builtin:list.append") => `(tactic| (refine app_news (by assumption) (by assumption) (by assumption) ?_ ?_; rotate_left; intro _ _ _))
local macro_rules | `(tactic| walk_at "known") => `(tactic| (repeat' (first | exact List.forall_mem_nil _ | refine List.forall_mem_cons.mpr ⟨rfl, ?_⟩)))
theorem ll_end {s₀ s : Shared} {L ls D : Addr} {Q : Flow → Shared → Prop} {own : List (Addr × Obj)} {row : Str} {n : Nat} {tr tn : Tok} {st : List (List Nat) × List Nat × Nat}
    (h : ∀ (s' : Shared) m' us' ep' tc' tf', SameBut' s s' → Fr s₀.heap L s'.heap m' → (∀ p ∈ (("left" : Str), Value.int (st.2.2 : Int) tf') :: llBase row n ls D tr tn, m' p.1 = some p.2) →
      News s₀.heap L s'.heap ((ls, lst (us' ++ [.str (mkS st.2.1) tc']) ep') :: own) → StrsAre us' (st.1.map mkS) → Q .next s')
    {s' : Shared} {m' : Str → Option Value} {us' : List Value} {ep' : Nat} {tc' tf' : Tok} {lv : Int} {lV : Str} (e : SameBut' s s') (F : Fr s₀.heap L s'.heap m') (hm : ∀ p ∈ (("left" : Str), Value.int lv tf') :: llBase row n ls D tr tn, m' p.1 = some p.2)
    (hlv : lv = (st.2.2 : Int)) (N : News s₀.heap L s'.heap ((ls, lst (us' ++ [.str lV tc']) ep') :: own)) (hlV : lV = mkS st.2.1) (hus' : StrsAre us' (st.1.map mkS)) : Q .next s' := by
  subst hlv hlV
  exact h s' m' us' ep' tc' tf' e F hm N hus'
theorem ll_turn {w : World} {A : Around} {s₀ s : Shared} {L ls D : Addr} {nm : Str} {Q : Flow → Shared → Prop} {E : Value → Shared → Prop} {mean mg mb} {m : Str → Option Value} {own : List (Addr × Obj)} (T : Top vq (looseW vq looseN) mean mg mb s₀.heap)
    (Y : TopH w s₀.heap) (hh : A.handled = none) {row : Str} {n lf ep : Nat} {tr tn tf tc ts : Tok} {cur sg : List Nat} {us : List Value} {done : List (List Nat)} 
    (F : Fr s₀.heap L s.heap (over (("sign", .str (mkS sg) ts) :: ("left", .int (lf : Int) tf) :: llBase row n ls D tr tn) m)) (N : News s₀.heap L s.heap ((ls, lst (us ++ [.str (mkS cur) tc]) ep) :: own)) (hus : StrsAre us (done.map mkS)) (hoff : ∀ p ∈ own, p.1 ≠ ls)
    (hn : 4 ≤ n) (hlf : sg.length ≤ lf) (hc : cur.length ≤ 20000) (hs : sg.length ≤ 3) (hu : us.length ≤ 100000)
    (h : ∀ s' m' us' ep' tc' tf', SameBut' s s' → Fr s₀.heap L s'.heap m' → (∀ p ∈ (("left" : Str), Value.int ((lStep n (done, cur, lf) sg).2.2 : Int) tf') :: llBase row n ls D tr tn, m' p.1 = some p.2) →
      News s₀.heap L s'.heap ((ls, lst (us' ++ [.str (mkS (lStep n (done, cur, lf) sg).2.1) tc']) ep') :: own) → StrsAre us' ((lStep n (done, cur, lf) sg).1.map mkS) → Q .next s') :
    wpAny (model PR w) A (execs (sBody (nth (fBody (stm 21)) 4)) (envX nm (fScope (stm 21)) L 69 (.ref 68) [("plain", L + 1)])) Q E s := by
  w_on
  unfold llBase at F
  have hmc := mkS_length cur
  have hms := mkS_length sg
  refine wpAny_execs_cons ?_
  repeat' walk1
  · have hst : lStep n (done, cur, lf) sg = (done ++ [cur ++ [61]], sg, lf - sg.length) := by
      unfold lStep; dsimp only; rw [if_pos]; rw [List.length_append]; omega
    rw [hst] at h
    refine' ll_end h ⟨_, _, rfl⟩ (by assumption) ?hm1 ?_ (by assumption) ?_ ?_
    case hm1 => unfold llBase; walk_at "known"
    · dsimp only; omega
    · exact mkS_append [] sg
    · rw [List.map_append]
      refine hus.append' ?_
      have e : mkS cur ++ Str.ofString "=" = mkS (cur ++ [61]) := mkS_append cur [61]
      rw [e]
      exact .cons _ _ .nil
  · rw [List.length_append, List.length_singleton]; omega
  · have hst : lStep n (done, cur, lf) sg = (done, cur ++ sg, lf - sg.length) := by
      unfold lStep; dsimp only; rw [if_neg]; rw [List.length_append]; omega
    rw [hst] at h
    refine' ll_end h ⟨_, _, rfl⟩ (by assumption) ?hm2 ?_ (by assumption) ?_ ?_
    case hm2 => unfold llBase; walk_at "known"
    · dsimp only; omega
    · exact mkS_append cur sg
    · exact hus
  · have hst : lStep n (done, cur, lf) sg = (done, cur ++ sg, lf - sg.length) := by
      unfold lStep; dsimp only; rw [if_neg]; rw [List.length_append]; omega
    rw [hst] at h
    refine' ll_end h ⟨_, _, rfl⟩ (by assumption) ?hm3 ?_ (by assumption) ?_ ?_
    case hm3 => unfold llBase; walk_at "known"
    · dsimp only; omega
    · exact mkS_append cur sg
    · exact hus
end Mine
end
section
set_option maxRecDepth 100000
set_option maxHeartbeats 4000000
namespace Mine
theorem anew22 : True := by
  w_top off
  first | walk1 | trivial
open PySem PySem.W PySem.Calls PyProof.Rows
theorem join_chs (xs : List Nat) : Txt.join (mkS []) (xs.map chS) = mkS xs := by
  have key : ∀ (xs : List Nat) (acc : Array Nat), (xs.map chS).foldl (fun (acc : Array Nat) p => acc ++ (mkS []).cps ++ p.cps) acc = acc ++ xs.toArray := by
    intro xs
    induction xs with
    | nil => intro acc; simp
    | cons c xs ih => intro acc; rw [List.map_cons, List.foldl_cons, ih]; simp [mkS, chS]
  cases xs with
  | nil => rfl
  | cons c xs =>
    show (⟨((xs.map chS)).foldl (fun acc p => acc ++ (mkS []).cps ++ p.cps) (chS c).cps⟩ : Str) = _
    rw [key]
    simp [mkS, chS]
theorem tx_body {w : World} {A : Around} {s₀ s : Shared} {L l : Addr} {nm : Str} {Q : Value → Shared → Prop} {mean mg mb} {vs : List Value} {ns : List Int} (T : Top vq (looseW vq looseN) mean mg mb s₀.heap) (hh : A.handled = none)
    (F : Fr s₀.heap L s.heap (mp [("numbers", .ref l)])) (hl : s₀.heap.IsList l vs.toArray) (hi : IntsAre vs ns) (e : SameBut' s₀ s)
    (h : ∀ x tok s', Ext s₀ s' → x.length ≤ 4000 → (∀ c ∈ x, c < 256) → Q (.str (mkS x) tok) s') :
    wpAny (model PR w) A (execs (fBody (stm 19)) (envOf nm (fScope (stm 19)) L 57 (.ref 56))) (fun f s' => Q (match f with | .ret v => v | _ => .none) s') (fun _ _ => False) s := by
  w_on
  obtain ⟨hp, tk, rfl⟩ := e
  have N : News s₀.heap L hp [] := .nil
  have hlt : l < s₀.heap.objs.size := by obtain ⟨o, ho, _⟩ := hl; exact Heap.lt_size ho
  have hlL : l ≠ L := Nat.ne_of_lt (Nat.lt_of_lt_of_le hlt F.above)
  refine wpAny_execs_cons ?_
  iterate 5 walk1
  rename_i h1 F1 N1 h2 F2 N2
  dsimp only at F2 N2 ⊢
  clear F1 N1 N
  have hsg : l ≠ hp.objs.size := Nat.ne_of_lt (Nat.lt_trans (Nat.lt_of_lt_of_le hlt F.above) F.ns.lt)
  generalize hp.objs.size = sg at F2 N2 hsg
  refine wpAny_execs_cons ?_
  refine For_invV s₀.heap rfl rfl ?_
  walk1
  refine iter_list (vs := vs) (fun i m news => ∃ ws ep xs, news = [(sg, lst ws ep)] ∧ StrsAre ws (xs.map chS) ∧ xs.length ≤ 4000 ∧ (∀ c ∈ xs, c < 256) ∧ m "signs" = some (.ref sg)) hh (hl.at fun o e => F2.keep l o e) hlL
    (fun p hp => by rw [List.mem_singleton.mp hp]; exact hsg.symm) F2 N2 ⟨[], 0, [], rfl, .nil, Nat.zero_le _, (fun _ h => nomatch h), rfl⟩ ?_ ?_
  · rintro i v m₁ news₁ h' tk' own hvi hadr hoff ⟨ws, ep, xs, rfl, hv, hxl, hx8, hm⟩ F' N'
    obtain ⟨t, hx⟩ := hi.get i (ns[i]'(by have := (List.getElem?_eq_some_iff.mp hvi).1; rw [hi.length] at this; exact this)) (by simp)
    generalize (ns[i]'(by have := (List.getElem?_eq_some_iff.mp hvi).1; rw [hi.length] at this; exact this)) = n at hx
    rw [hvi] at hx
    obtain rfl : v = .int n t := Option.some.inj hx
    rw [← over_eq (l := [("signs", .ref sg)]) (m := m₁) (List.forall_mem_cons.mpr ⟨hm, List.forall_mem_nil _⟩)] at F'
    clear F2 N2 F
    refine wpAny_execs_cons ?_
    replace F' : Fr s₀.heap L h' _ := F'
    replace N' : News s₀.heap L h' ((sg, lst ws ep) :: own) := N'
    iterate 10 walk1
    refine tx_while (sg := sg) (own := own) (k := _) T hh (fun p hp => hoff p hp sg (.head _)) ⟨_, _, ws, ep, xs, _, ⟨_, _, rfl⟩, by assumption, rfl, rfl, by split <;> omega, by assumption, hv, hxl, hx8, rfl⟩ ?_
    rintro s' k' ⟨r, t2, ws', ep', xs', m', ⟨h3, tk3, rfl⟩, F3, hm3, _, _, N3, hv3, hxl3, hx83, _⟩
    dsimp only
    repeat' walk1
    exact ⟨h3, _, m', _, [(sg, lst ws' ep')], rfl, F3, N3, fun p hp => by rw [List.mem_singleton.mp hp]; exact .head _, fun p hp => .tail _ hp, rfl, ws', ep', xs', rfl, hv3, hxl3, hx83, hm3⟩
  · rintro m₁ news₁ h' tk' ⟨ws, ep, xs, rfl, hv, hxl, hx8, hm⟩ _ F' N'
    rw [← over_eq (l := [("signs", .ref sg)]) (m := m₁) (List.forall_mem_cons.mpr ⟨hm, List.forall_mem_nil _⟩)] at F'
    clear F2 N2 F
    replace F' : Fr s₀.heap L h' _ := F'
    replace N' : News s₀.heap L h' [(sg, lst ws ep)] := N'
    dsimp only
    repeat' walk1
    have hsum : ((xs.map chS).map (·.length)).sum = xs.length := by
      rw [List.map_map]
      clear hv hxl hx8
      induction xs with
      | nil => rfl
      | cons c xs ih => rw [List.map_cons, List.sum_cons, ih, List.length_cons]; show 1 + _ = _; omega
    refine join_listC (x := mkS []) (items := ws.toArray) ⟨_, (N' _ (.head _)).1, rfl, ep, rfl⟩ (by simpa using hv) (by decide) (by rw [hsum, List.length_map]; omega) fun t' k => ?_
    rw [join_chs]
    exact h _ _ _ ⟨F'.keep, ⟨_, _, rfl⟩⟩ hxl hx8
theorem tx_call {w : World} {A : Around} {s : Shared} {Q : Value → Shared → Prop} {E : Value → Shared → Prop} {mean mg mb} {l : Addr} {vs : List Value} {ns : List Int} (T : Top vq (looseW vq looseN) mean mg mb s.heap) (Y : TopH w s.heap)
    (hh : A.handled = none) (hroom : A.depth < recursionLimit) (hl : s.heap.IsList l vs.toArray) (hi : IntsAre vs ns)
    (h : ∀ x tok s', Ext s s' → x.length ≤ 4000 → (∀ c ∈ x, c < 256) → Q (.str (mkS x) tok) s') : wpAny (model PR w) A (call (.ref 57) [.ref l]) Q E s :=
  call_def (binds := [("numbers", .ref l)]) hroom (Y 57 _ rfl) rfl T.nolimit ⟨56, _, _, _, rfl, Y 56 _ rfl, rfl, rfl⟩ rfl (fun _ => rfl) (BindsTo.of_eq rfl) (by decide +kernel) (locs rfl)
    (fun L s₁ A' F e a => tx_body T (by rw [a.hh]; exact hh) F hl hi e h) rfl rfl rfl
end Mine
end
section
open PySem PySem.W PySem.Calls PyProof.Rows Mine
local macro_rules | `(tactic| walk_at "storeName") => `(tactic| (refine storeX_L (by assumption) (by assumption) ?_; intro _ _ _))
local macro_rules | `(tactic| walk_at "known") => `(tactic| (repeat' (first | exact List.forall_mem_nil _ | refine List.forall_mem_cons.mpr ⟨rfl, ?_⟩)))
section
set_option maxRecDepth 100000
set_option maxHeartbeats 4000000
namespace Mine
open PySem PySem.W PySem.Calls PyProof.Rows
noncomputable def octL (c : Nat) : List Nat := (octetS (mkS plainL) c).cps.toList
theorem octL_eq (x : List Nat) : x.map (octetS (mkS plainL)) = (x.map octL).map mkS := by
  rw [List.map_map]; exact List.map_congr_left fun c _ => (mkS_of _).symm
noncomputable def lTail (x : List Nat) : Nat := match x.getLast? with | some c => if c = 32 ∨ c = 9 then 2 else 0 | none => 0
noncomputable def lenS (sgs : List (List Nat)) : Nat := (sgs.map List.length).sum
theorem sum_mkS (sgs : List (List Nat)) : ((sgs.map mkS).map (·.length)).sum = lenS sgs := by
  unfold lenS; rw [List.map_map]; exact congrArg List.sum (List.map_congr_left fun c _ => mkS_length c)
theorem octL_len (c : Nat) : (octL c).length ≤ 3 := by
  unfold octL octetS
  split
  · exact (by decide : 3 ≤ 3)
  · exact (by decide : 1 ≤ 3)
theorem lenS_oct (x : List Nat) : lenS (x.map octL) ≤ 3 * x.length := by
  unfold lenS
  induction x with
  | nil => exact Nat.le_refl _
  | cons c x ih => have := octL_len c; rw [List.map_cons, List.map_cons, List.sum_cons, List.length_cons]; omega
theorem join_nil (sgs : List (List Nat)) : Txt.join (mkS []) (sgs.map mkS) = mkS sgs.flatten := by
  have key : ∀ (xs : List (List Nat)) (acc : Array Nat), (xs.map mkS).foldl (fun (acc : Array Nat) p => acc ++ (mkS []).cps ++ p.cps) acc = acc ++ xs.flatten.toArray := by
    intro xs
    induction xs with
    | nil => intro acc; simp
    | cons c xs ih => intro acc; rw [List.map_cons, List.foldl_cons, ih]; simp [mkS]
  cases sgs with
  | nil => rfl
  | cons c xs =>
    show (⟨((xs.map mkS)).foldl (fun acc p => acc ++ (mkS []).cps ++ p.cps) (mkS c).cps⟩ : Str) = _
    rw [key]
    simp [mkS]
theorem lenS_flat (sgs : List (List Nat)) : sgs.flatten.length = lenS sgs := List.length_flatten
local macro_rules | `(tactic| walk_at "eval Name") => `(tactic| first
  | refine nm_local rfl rfl (Fr.ns (by assumption)) rfl ?_
  | refine nm_boot rfl rfl rfl rfl (by assumption) (Fr.keep (by assumption)) (fr_top (by assumption) (by assumption)) (gn_len _) bo_len (by decide) ?_)
theorem last_itemM {prog : Program} {w : World} {A : Around} {E : Value → Shared → Prop} {s : Shared} {h₀ : Heap} {L : Addr} {l : Addr} {us : List Value} {x : Value} {ep : Nat} {news : List (Addr × Obj)} {value slice : PySem.Expr} {u : Tok} {Q : Value → Shared → Prop} (N : News h₀ L s.heap news) (hm : (l, lst (us ++ [x]) ep) ∈ news) (h : Q x s)
    (hs : subscripted slice false (.ref l) (.int (-1) u) = operate [.ref l, .int (-1) u] (getItem (.ref l) (.int (-1) u)) := by with_unfolding_all rfl) :
    wpAny (model prog w) A (subscriptTail value slice (.ref l) (.int (-1) u)) Q E s :=
  last_item (own := []) (News.sub N fun p hp => by rw [List.mem_singleton.mp hp]; exact hm) h hs
local macro_rules | `(tactic| walk_at "subscriptTail Name UnaryOp ref int") => `(tactic| (refine last_itemM (by assumption) (by first | exact .head _ | exact .tail _ (.head _) | exact .tail _ (.tail _ (.head _))) ?_))
theorem pick_init (us : List Value) (v : Value) : slicePick (us ++ [v]).toArray none (some (-1)) none = us.toArray := by
  have := slicePick_butLast (us ++ [v]).toArray 1 (Nat.le_refl _)
  refine this.trans ?_
  simp
theorem slice_init (l : List Nat) : Txt.slice (mkS l) none (some (-1)) = mkS l.dropLast := by
  by_cases h : l = []
  · subst h; rfl
  · have hl : 0 < l.length := List.length_pos_iff.mpr h
    have := slice_sm l (a := 0) hl
    rw [List.drop_zero] at this
    rw [← this]
    rfl
local macro_rules | `(tactic| walk_at "subscriptTail Subscript Name UnaryOp Slice str ref") => `(tactic| ((with_reducible rename Fr _ _ _ _ => F'); (with_reducible rename News _ _ _ _ => N'); refine slice_strN_ns_len (s := ⟨_, _, _, _, _⟩) F' N' ?_; intro _ _ _ _ _ _))
local macro_rules | `(tactic| walk_at "eval Name") => `(tactic| ((with_reducible show wpAny _ _ (eval (PySem.Expr.Name (Str.ofString "_law_octet") _) _) _ _ _); refine nm_glob rfl rfl rfl (fr_top (by assumption) (by assumption)) (g_octet _) ?_))
local macro_rules | `(tactic| walk_at "callWith") => `(tactic| ((with_reducible show wpAny _ _ (callWith _ (Value.ref 64) [] _ _) _ _ _); refine callWith_fn ?_))
theorem lStep_left (n : Nat) (st : List (List Nat) × List Nat × Nat) (sg : List Nat) : (lStep n st sg).2.2 = st.2.2 - sg.length := by unfold lStep; split <;> rfl
theorem lStep_cur (n : Nat) (st : List (List Nat) × List Nat × Nat) (sg : List Nat) : (lStep n st sg).2.1.length ≤ st.2.1.length + sg.length := by
  unfold lStep; split
  · dsimp only; omega
  · dsimp only; rw [List.length_append]; omega
theorem lStep_done (n : Nat) (st : List (List Nat) × List Nat × Nat) (sg : List Nat) : (lStep n st sg).1.length ≤ st.1.length + 1 := by
  unfold lStep; split
  · dsimp only; rw [List.length_append]; exact Nat.le_refl _
  · dsimp only; omega
noncomputable def lRun (n t : Nat) (sgs : List (List Nat)) : List (List Nat) × List Nat × Nat := sgs.foldl (lStep n) ([], [], t)
theorem fold_facts (n : Nat) : ∀ (sgs : List (List Nat)) (st : List (List Nat) × List Nat × Nat), (sgs.foldl (lStep n) st).2.2 = st.2.2 - lenS sgs ∧ (sgs.foldl (lStep n) st).2.1.length ≤ st.2.1.length + lenS sgs ∧ (sgs.foldl (lStep n) st).1.length ≤ st.1.length + sgs.length
  | [], st => ⟨rfl, Nat.le_refl _, Nat.le_refl _⟩
  | sg :: sgs, st => by
    obtain ⟨a, b, c⟩ := fold_facts n sgs (lStep n st sg)
    have h1 := lStep_left n st sg
    have h2 := lStep_cur n st sg
    have h3 := lStep_done n st sg
    have h4 : lenS (sg :: sgs) = sg.length + lenS sgs := rfl
    rw [List.foldl_cons, List.length_cons]
    refine ⟨by omega, by omega, by omega⟩
theorem lenS_split (sgs : List (List Nat)) (i : Nat) : lenS (sgs.take i) + lenS (sgs.drop i) = lenS sgs := by
  unfold lenS
  rw [← List.sum_append, ← List.map_append, List.take_append_drop]
theorem lRun_take {n t : Nat} {sgs : List (List Nat)} {i : Nat} {sg : List Nat} (h : sgs[i]? = some sg) : lRun n t (sgs.take (i + 1)) = lStep n (lRun n t (sgs.take i)) sg := by
  unfold lRun
  rw [List.take_add_one, h]; simp
noncomputable def lEnds (n : Nat) (x : List Nat) (done : List (List Nat)) (cur : List Nat) (lf : Nat) : List (List Nat) :=
  if lf = 2 ∧ cur.length + 2 > n then done ++ [cur ++ [61], []] else if lf = 2 then done ++ [cur.dropLast ++ (hexS (x.getLastD 0)).cps.toList] else done ++ [cur]
noncomputable def lLines (n : Nat) (x : List Nat) : List (List Nat) :=
  lEnds n x (lRun n (lenS (x.map octL) + lTail x) (x.map octL)).1 (lRun n (lenS (x.map octL) + lTail x) (x.map octL)).2.1 (lTail x)
end Mine
end
section
set_option maxRecDepth 100000
set_option maxHeartbeats 1000000
namespace Mine
theorem anew24 : True := by
  w_top off
  first | walk1 | trivial
open PySem PySem.W PySem.Calls PyProof.Rows
local macro_rules | `(tactic| walk_at "eval Name") => `(tactic| first
  | refine nm_local rfl rfl (Fr.ns (by assumption)) rfl ?_
  | refine nm_boot rfl rfl rfl rfl (by assumption) (Fr.keep (by assumption)) (fr_top (by assumption) (by assumption)) (gn_len _) bo_len (by decide) ?_)
local macro_rules | `(tactic| walk_at "subscriptTail Name UnaryOp ref int") => `(tactic| (refine last_itemM (by assumption) (by first | exact .head _ | exact .tail _ (.head _) | exact .tail _ (.tail _ (.head _))) ?_))
local macro_rules | `(tactic| walk_at "subscriptTail Subscript Name UnaryOp Slice str ref") => `(tactic| ((with_reducible rename Fr _ _ _ _ => F'); (with_reducible rename News _ _ _ _ => N'); refine slice_strN_ns_len (s := ⟨_, _, _, _, _⟩) F' N' ?_; intro _ _ _ _ _ _))
local macro_rules | `(tactic| walk_at "eval Name") => `(tactic| ((with_reducible show wpAny _ _ (eval (PySem.Expr.Name (Str.ofString "_law_octet") _) _) _ _ _); refine nm_glob rfl rfl rfl (fr_top (by assumption) (by assumption)) (g_octet _) ?_))
local macro_rules | `(tactic| walk_at "callWith") => `(tactic| ((with_reducible show wpAny _ _ (callWith _ (Value.ref 64) [] _ _) _ _ _); refine callWith_fn ?_))
theorem octet_nil (c : Nat) (hc : c < 256) : octetS (Str.ofString "") c = hexS c := by
  have : ∀ c : Fin 256, (Builtin.Str.occurrences (Str.ofString "") ⟨#[c.val]⟩ 0 (Str.ofString "").length 1).isEmpty = true := by decide +kernel
  unfold octetS
  rw [if_pos (this ⟨c, hc⟩)]
  rfl
theorem ll_ends {w : World} {A : Around} {s₀ s : Shared} {L ls D : Addr} {nm : Str} {Q : Value → Shared → Prop} {mean mg mb} {x : List Nat} {n lf ep : Nat} {tr tn tc tf : Tok} {m : Str → Option Value} {us : List Value} {done : List (List Nat)} {cur : List Nat} (T : Top vq (looseW vq looseN) mean mg mb s₀.heap)
    (Y : TopH w s₀.heap) (hh : A.handled = none) (hroom : A.depth < recursionLimit)
    (F : Fr s₀.heap L s.heap (over ((("left" : Str), Value.int (lf : Int) tf) :: llBase (mkS x) n ls D tr tn) m))
    (N : News s₀.heap L s.heap [(ls, lst (us ++ [.str (mkS cur) tc]) ep)]) (hus : StrsAre us (done.map mkS)) (e : SameBut' s₀ s) (hn : 4 ≤ n) (hx : x.length ≤ 4000) (hx8 : ∀ c ∈ x, c < 256) (hul : us.length ≤ 4000) (hcl : cur.length ≤ 12000)
    (hx0 : lf = 2 → 0 < x.length)
    (h : ∀ D' vs ep' s', Ext s₀ s' → s'.heap.get? D' = some (lst vs ep') → s₀.heap.get? D' = none → StrsAre vs ((lEnds n x done cur lf).map mkS) → Q (.ref D') s') :
    wpAny (model PR w) A (execs ((fBody (stm 21)).drop 5) (envX nm (fScope (stm 21)) L 69 (.ref 68) [("plain", L + 1)])) (fun f s' => Q (match f with | .ret v => v | _ => .none) s') (fun _ _ => False) s := by
  w_on
  obtain ⟨hp, tk, rfl⟩ := e
  unfold llBase at F
  have hmc := mkS_length cur
  have hmx := mkS_length x
  refine wpAny_execs_cons ?_
  unfold lEnds at h
  repeat' walk1
  · (with_reducible rename News _ _ _ _ => hN)
    have e2 : lf = 2 := by omega
    rw [if_pos ⟨e2, by omega⟩] at h
    refine add_lists (vs := us) (by assumption) hN ⟨_, (hN _ (.tail _ (.head _))).1, rfl, _, by show Data.seq (slicePick _ _ _ _) _ = _; rw [pick_init]⟩ ⟨_, (hN _ (.head _)).1, rfl, _, rfl⟩ ?_ (by rw [sizeLine_eq]; show us.length + 2 ≤ _; omega)
    intro h5 F5 N5
    dsimp only
    repeat' walk1
    refine h _ _ _ _ ⟨F5.keep, ⟨_, _, rfl⟩⟩ (N5 _ (.head _)).1 (N5 _ (.head _)).2.2 ?_
    rw [List.map_append]
    refine hus.append' ?_
    have e : mkS cur ++ Str.ofString "=" = mkS (cur ++ [61]) := mkS_append cur [61]
    rw [e]
    exact .cons _ _ (.cons (mkS []) _ .nil)
  · (with_reducible rename News _ _ _ _ => hN)
    (with_reducible rename Fr _ _ _ _ => hF)
    have e2 : lf = 2 := by omega
    rw [if_neg (by omega), if_pos e2] at h
    dsimp only at hN hF ⊢
    have hxne : x ≠ [] := List.length_pos_iff.mp (hx0 e2)
    obtain ⟨c, hc⟩ : ∃ c, x.getLast? = some c := ⟨_, List.getLast?_eq_some_getLast hxne⟩
    have hc8 : c < 256 := hx8 c (List.mem_of_getLast? hc)
    have hcd : x.getLastD 0 = c := by rw [List.getLastD_eq_getLast?, hc]; rfl
    have hF' := hF
    clear F N
    rw [item_last x hc]
    refine at_octet T (fr_top hF Y) hF.keep hroom hc8 fun tok s' X => ?_
    have F4 := fr_ext hF' X
    have N4 := news_ext hN X
    obtain ⟨_, h4, tk4, rfl⟩ := X
    rw [octet_nil c hc8, slice_init]
    dsimp only at F4 N4 ⊢
    clear hF hN hF'
    have hdl : (mkS cur.dropLast).length ≤ 12000 := by rw [mkS_length, List.length_dropLast]; omega
    have hhx : (hexS c).length = 3 := rfl
    repeat' walk1
    (with_reducible rename News _ _ _ _ => hN)
    refine add_lists (vs := us) (by assumption) hN ⟨_, (hN _ (.tail _ (.head _))).1, rfl, _, by show Data.seq (slicePick _ _ _ _) _ = _; rw [pick_init]⟩ ⟨_, (hN _ (.head _)).1, rfl, _, rfl⟩ ?_ (by rw [sizeLine_eq]; show us.length + 1 ≤ _; omega)
    intro h5 F5 N5
    dsimp only
    repeat' walk1
    refine h _ _ _ _ ⟨F5.keep, ⟨_, _, rfl⟩⟩ (N5 _ (.head _)).1 (N5 _ (.head _)).2.2 ?_
    rw [List.map_append, hcd]
    refine hus.append' ?_
    have e : mkS cur.dropLast ++ hexS c = mkS (cur.dropLast ++ (hexS c).cps.toList) := mkS_append cur.dropLast (hexS c).cps.toList
    rw [e]
    exact .cons _ _ .nil
  · exfalso; omega
  · exfalso; omega
  · rw [if_neg (by omega), if_neg (by omega)] at h
    refine h ls _ _ _ ⟨F.keep, ⟨_, _, rfl⟩⟩ (N _ (.head _)).1 (N _ (.head _)).2.2 ?_
    rw [List.map_append]
    exact hus.append' (.cons _ _ .nil)
end Mine
end
section
set_option maxRecDepth 100000
set_option maxHeartbeats 4000000
namespace Mine
theorem anew25 : True := by
  w_top off
  first | walk1 | trivial
open PySem PySem.W PySem.Calls PyProof.Rows
local macro_rules | `(tactic| walk_at "eval Name") => `(tactic| first
  | refine nm_local rfl rfl (Fr.ns (by assumption)) rfl ?_
  | refine nm_boot rfl rfl rfl rfl (by assumption) (Fr.keep (by assumption)) (fr_top (by assumption) (by assumption)) (gn_len _) bo_len (by decide) ?_)
local macro_rules | `(tactic| walk_at "subscriptTail Name UnaryOp ref int") => `(tactic| (refine last_itemM (by assumption) (by first | exact .head _ | exact .tail _ (.head _) | exact .tail _ (.tail _ (.head _))) ?_))
local macro_rules | `(tactic| walk_at "subscriptTail Subscript Name UnaryOp Slice str ref") => `(tactic| ((with_reducible rename Fr _ _ _ _ => F'); (with_reducible rename News _ _ _ _ => N'); refine slice_strN_ns_len (s := ⟨_, _, _, _, _⟩) F' N' ?_; intro _ _ _ _ _ _))
local macro_rules | `(tactic| walk_at "eval Name") => `(tactic| ((with_reducible show wpAny _ _ (eval (PySem.Expr.Name (Str.ofString "_law_octet") _) _) _ _ _); refine nm_glob rfl rfl rfl (fr_top (by assumption) (by assumption)) (g_octet _) ?_))
local macro_rules | `(tactic| walk_at "callWith") => `(tactic| ((with_reducible show wpAny _ _ (callWith _ (Value.ref 64) [] _ _) _ _ _); refine callWith_fn ?_))
theorem ll_loop {w : World} {A : Around} {s₀ s : Shared} {L ls D : Addr} {nm : Str} {Q : Value → Shared → Prop} {mean mg mb} {x : List Nat} {n tl ep ep2 : Nat} {tr tn tc tf : Tok} {ys : List Value} {m : Str → Option Value} (T : Top vq (looseW vq looseN) mean mg mb s₀.heap)
    (Y : TopH w s₀.heap) (hh : A.handled = none) (hroom : A.depth < recursionLimit)
    (F : Fr s₀.heap L s.heap m) (hm : ∀ p ∈ (("left" : Str), Value.int ((lenS (x.map octL) + tl : Nat) : Int) tf) :: llBase (mkS x) n ls D tr tn, m p.1 = some p.2)
    (N : News s₀.heap L s.heap [(ls, lst [.str (mkS []) tc] ep), (D, lst ys ep2)]) (hne : D ≠ ls) (hv : StrsAre ys ((x.map octL).map mkS)) (htl : tl = lTail x) (e : SameBut' s₀ s) (hn : 4 ≤ n) (hx : x.length ≤ 4000) (hx8 : ∀ c ∈ x, c < 256)
    (h : ∀ D' vs ep' s', Ext s₀ s' → s'.heap.get? D' = some (lst vs ep') → s₀.heap.get? D' = none → StrsAre vs ((lLines n x).map mkS) → Q (.ref D') s') :
    wpAny (model PR w) A (execs ((fBody (stm 21)).drop 4) (envX nm (fScope (stm 21)) L 69 (.ref 68) [("plain", L + 1)])) (fun f s' => Q (match f with | .ret v => v | _ => .none) s') (fun _ _ => False) s := by
  w_on
  obtain ⟨hp, tk, rfl⟩ := e
  have hlS := lenS_oct x
  rw [← over_eq hm] at F
  unfold llBase at F
  refine wpAny_execs_cons ?_
  refine For_invV s₀.heap rfl rfl ?_
  walk1
  refine iter_list (vs := ys) (fun i m news => ∃ us tc ep tf, news = [(ls, lst (us ++ [.str (mkS (lRun n (lenS (x.map octL) + tl) ((x.map octL).take i)).2.1) tc]) ep)] ∧ StrsAre us ((lRun n (lenS (x.map octL) + tl) ((x.map octL).take i)).1.map mkS) ∧
    ∀ p ∈ (("left" : Str), Value.int ((lRun n (lenS (x.map octL) + tl) ((x.map octL).take i)).2.2 : Int) tf) :: llBase (mkS x) n ls D tr tn, m p.1 = some p.2) hh ⟨_, (N _ (.tail _ (.head _))).1, rfl, _, rfl⟩ (N _ (.tail _ (.head _))).2.1
    (fun p hp => by rw [List.mem_singleton.mp hp]; exact hne.symm) F (News.sub N fun p hp => by rw [List.mem_singleton.mp hp]; exact .head _) ⟨[], tc, ep, tf, rfl, .nil, ?_⟩ ?_ ?_
  · rw [List.take_zero]; unfold llBase; walk_at "known"
  · rintro i v m₁ news₁ h' tk' own hvi hadr hoff ⟨us, tc, ep, tf, rfl, hus, hm₁⟩ F' N'
    obtain ⟨y, t, rfl, hy⟩ := hv.item i v hvi
    rw [List.getElem?_map] at hy
    obtain ⟨sg, hsg, rfl⟩ := Option.map_eq_some_iff.mp hy
    have hff := fold_facts n ((x.map octL).take i) ([], [], lenS (x.map octL) + tl)
    have hsp := lenS_split (x.map octL) i
    have hdr : lenS ((x.map octL).drop i) = sg.length + lenS ((x.map octL).drop (i + 1)) := by
      rw [List.drop_eq_getElem_cons (List.getElem?_eq_some_iff.mp hsg).1, (List.getElem?_eq_some_iff.mp hsg).2]; rfl
    have hi : i < x.length := by have := (List.getElem?_eq_some_iff.mp hsg).1; rwa [List.length_map] at this
    have hsg3 : sg.length ≤ 3 := by
      rw [List.getElem?_map] at hsg
      obtain ⟨c, _, rfl⟩ := Option.map_eq_some_iff.mp hsg
      exact octL_len c
    rw [lRun_take hsg]
    have hful := hus.length
    rw [List.length_map] at hful
    change _ ∧ (lRun n (lenS (x.map octL) + tl) ((x.map octL).take i)).2.1.length ≤ _ ∧ (lRun n (lenS (x.map octL) + tl) ((x.map octL).take i)).1.length ≤ _ at hff
    change (lRun n (lenS (x.map octL) + tl) ((x.map octL).take i)).2.2 = _ ∧ _ at hff
    have htk : ((x.map octL).take i).length ≤ i := List.length_take_le _ _
    generalize lRun n (lenS (x.map octL) + tl) ((x.map octL).take i) = st at hus hm₁ N' hff hful ⊢
    obtain ⟨done, cur, lf⟩ := st
    dsimp only at hus hm₁ N' hff hful
    dsimp only [List.length_nil] at hff
    have hkey : ∀ p ∈ (("left" : Str), Value.int (lf : Int) tf) :: llBase (mkS x) n ls D tr tn, (if p.1 = "sign" then some (Value.str (mkS sg) t) else m₁ p.1) = some p.2 := by
      intro p hp
      rw [if_neg, hm₁ p hp]
      revert p hp
      unfold llBase
      repeat' (first | exact List.forall_mem_nil _ | refine List.forall_mem_cons.mpr ⟨by dsimp only; decide +kernel, ?_⟩)
    rw [← over_eq (m := fun y => if y = "sign" then some (Value.str (mkS sg) t) else m₁ y) (l := (("sign" : Str), Value.str (mkS sg) t) :: ("left", Value.int (lf : Int) tf) :: llBase (mkS x) n ls D tr tn) (List.forall_mem_cons.mpr ⟨rfl, hkey⟩)] at F'
    replace F' : Fr s₀.heap L h' _ := F'
    replace N' : News s₀.heap L h' ((ls, lst (us ++ [.str (mkS cur) tc]) ep) :: own) := N'
    refine ll_turn (s := { s₀ with heap := h', toks := tk' }) T Y hh F' N' hus (fun p hp => hoff p hp ls (.head _)) hn (by omega) (by omega) hsg3 (by omega) ?_
    rintro s' m' us' ep' tc' tf' ⟨h2, tk2, rfl⟩ F2 hm2 N2 hus2
    exact ⟨h2, tk2, m', _, [(ls, lst (us' ++ [.str (mkS (lStep n (done, cur, lf) sg).2.1) tc']) ep')], rfl, F2, N2, fun p hp => by rw [List.mem_singleton.mp hp]; exact .head _, fun p hp => .tail _ hp, rfl, us', tc', ep', tf', rfl, hus2, hm2⟩
  · rintro m₁ news₁ h' tk' ⟨us, tc, ep, tf, rfl, hus, hm₁⟩ _ F' N'
    have hyl : ys.length = (x.map octL).length := by rw [hv.length, List.length_map]
    rw [hyl, List.take_length] at hus hm₁ N'
    have hff := fold_facts n (x.map octL) ([], [], lenS (x.map octL) + tl)
    have hful := hus.length
    rw [List.length_map] at hful
    unfold lLines at h
    rw [← htl] at h
    change (lRun n (lenS (x.map octL) + tl) (x.map octL)).2.2 = _ ∧ (lRun n (lenS (x.map octL) + tl) (x.map octL)).2.1.length ≤ _ ∧ (lRun n (lenS (x.map octL) + tl) (x.map octL)).1.length ≤ _ at hff
    generalize lRun n (lenS (x.map octL) + tl) (x.map octL) = st at hus hm₁ N' hff hful h
    obtain ⟨done, cur, lf⟩ := st
    dsimp only at hus hm₁ N' hff hful h
    dsimp only [List.length_nil] at hff
    rw [List.length_map] at hff
    obtain rfl : lf = tl := by omega
    rw [← over_eq hm₁] at F'
    replace F' : Fr s₀.heap L h' _ := F'
    replace N' : News s₀.heap L h' [(ls, lst (us ++ [.str (mkS cur) tc]) ep)] := N'
    exact ll_ends (s := { s₀ with heap := h', toks := tk' }) T Y hh hroom F' N' hus ⟨_, _, rfl⟩ hn hx hx8 (by omega) (by omega) (fun e2 => by
      cases x with
      | nil => rw [htl] at e2; cases e2
      | cons c x => exact Nat.succ_pos _) h
end Mine
end
section
set_option maxRecDepth 100000
set_option maxHeartbeats 4000000
namespace Mine
theorem anew26 : True := by
  w_top off
  first | walk1 | trivial
open PySem PySem.W PySem.Calls PyProof.Rows
local macro_rules | `(tactic| walk_at "eval Name") => `(tactic| first
  | refine nm_local rfl rfl (Fr.ns (by assumption)) rfl ?_
  | refine nm_boot rfl rfl rfl rfl (by assumption) (Fr.keep (by assumption)) (fr_top (by assumption) (by assumption)) (gn_len _) bo_len (by decide) ?_)
local macro_rules | `(tactic| walk_at "subscriptTail Name UnaryOp ref int") => `(tactic| (refine last_itemM (by assumption) (by first | exact .head _ | exact .tail _ (.head _) | exact .tail _ (.tail _ (.head _))) ?_))
local macro_rules | `(tactic| walk_at "subscriptTail Subscript Name UnaryOp Slice str ref") => `(tactic| ((with_reducible rename Fr _ _ _ _ => F'); (with_reducible rename News _ _ _ _ => N'); refine slice_strN_ns_len (s := ⟨_, _, _, _, _⟩) F' N' ?_; intro _ _ _ _ _ _))
local macro_rules | `(tactic| walk_at "eval Name") => `(tactic| ((with_reducible show wpAny _ _ (eval (PySem.Expr.Name (Str.ofString "_law_octet") _) _) _ _ _); refine nm_glob rfl rfl rfl (fr_top (by assumption) (by assumption)) (g_octet _) ?_))
local macro_rules | `(tactic| walk_at "callWith") => `(tactic| ((with_reducible show wpAny _ _ (callWith _ (Value.ref 64) [] _ _) _ _ _); refine callWith_fn ?_))
theorem slice_last (x : List Nat) : Txt.slice (mkS x) (some (-1)) none = mkS (x.drop (x.length - 1)) := by
  by_cases h : x = []
  · subst h; rfl
  · have hl : 0 < x.length := List.length_pos_iff.mpr h
    have e : Txt.slice (mkS x) (some (-1)) none = Txt.slice (mkS x) (some ((x.length - 1 : Nat) : Int)) none := by
      unfold Txt.slice
      have : Builtin.Str.strSliceIndices (some (-1)) none 1 (mkS x).length = Builtin.Str.strSliceIndices (some ((x.length - 1 : Nat) : Int)) none 1 (mkS x).length := by
        rw [mkS_length]
        simp only [Builtin.Str.strSliceIndices]
        have h1 : ¬ (((x.length - 1 : Nat) : Int) < 0) := by omega
        have h2 : ((-1 : Int) < 0) := by decide
        simp only [h1, h2, if_true, if_false, show (1 : Int) > 0 by decide]
        congr 1
        omega
      rw [this]
    rw [e, slice_sn x (by omega)]
theorem in_tail (x : List Nat) : ([Str.ofString " ", Str.ofString "\t"].any fun y => y == Txt.slice (mkS x) (some (-1)) none) = decide (lTail x = 2) := by
  rw [slice_last]
  cases hx : x.getLast? with
  | none =>
    rw [List.getLast?_eq_none_iff] at hx
    subst hx
    decide +kernel
  | some c =>
    obtain ⟨ys, rfl⟩ := List.getLast?_eq_some_iff.mp hx
    have e : (ys ++ [c]).drop ((ys ++ [c]).length - 1) = [c] := by simp
    rw [e]
    unfold lTail
    rw [hx]
    dsimp only
    have h1 : (Str.ofString " " == mkS [c]) = decide (c = 32) := by
      rw [show Str.ofString " " = mkS [32] from rfl]
      by_cases h : c = 32
      · subst h; decide
      · rw [decide_eq_false h, beq_eq_false_iff_ne]; intro q; exact h (List.cons.inj (mkS_inj q)).1.symm
    have h2 : (Str.ofString "\t" == mkS [c]) = decide (c = 9) := by
      rw [show Str.ofString "\t" = mkS [9] from rfl]
      by_cases h : c = 9
      · subst h; decide
      · rw [decide_eq_false h, beq_eq_false_iff_ne]; intro q; exact h (List.cons.inj (mkS_inj q)).1.symm
    simp only [List.any_cons, List.any_nil, h1, h2, Bool.or_false]
    by_cases h3 : c = 32 <;> by_cases h4 : c = 9 <;> simp [h3, h4]
theorem tail_zero {x : List Nat} (h : ¬ lTail x = 2) : lTail x = 0 := by
  unfold lTail at h ⊢
  split
  · split
    · rename_i c e hc; rw [e] at h; dsimp only at h; rw [if_pos hc] at h; exact absurd rfl h
    · rfl
  · rfl
theorem ll_body {w : World} {A : Around} {s₀ s : Shared} {L : Addr} {nm : Str} {Q : Value → Shared → Prop} {mean mg mb} {x : List Nat} {n : Nat} {t1 t2 : Tok} {oc : Obj} {m : Str → Option Value} (T : Top vq (looseW vq looseN) mean mg mb s₀.heap)
    (Y : TopH w s₀.heap) (hh : A.handled = none) (hroom : A.depth < recursionLimit)
    (F : Fr s₀.heap L s.heap m) (hm : m = mp [("length", .int (n : Int) t2), ("row", .str (mkS x) t1)]) (N : News s₀.heap L s.heap [(L + 1, oc)]) (hoc : oc.data = .cell none) (e : SameBut' s₀ s) (hn : 4 ≤ n) (hx : x.length ≤ 4000) (hx8 : ∀ c ∈ x, c < 256)
    (h : ∀ D' vs ep' s', Ext s₀ s' → s'.heap.get? D' = some (lst vs ep') → s₀.heap.get? D' = none → StrsAre vs ((lLines n x).map mkS) → Q (.ref D') s') :
    wpAny (model PR w) A (execs (fBody (stm 21)) (envX nm (fScope (stm 21)) L 69 (.ref 68) [("plain", L + 1)])) (fun f s' => Q (match f with | .ret v => v | _ => .none) s') (fun _ _ => False) s := by
  w_on
  subst hm
  obtain ⟨hp, tk, rfl⟩ := e
  have hmx := mkS_length x
  refine wpAny_execs_cons ?_
  iterate 8 walk1
  refine ll_plain (s₀ := s₀) T Y hh F N rfl fun D h' tk ys n' F' N' hv => ?_
  dsimp only
  repeat' walk1
  refine join_listC (x := mkS []) (items := ys.toArray) (ys := plainL.tail.map chS) ⟨_, (N' _ (.head _)).1, rfl, _, rfl⟩ hv (by decide) (by decide +kernel) fun t' k => ?_
  rw [join_chs]
  have hpl : (mkS plainL.tail).length ≤ 200 := by decide +kernel
  have ep : mkS plainL = Str.ofString "\t" ++ mkS plainL.tail := (mkS_append [9] plainL.tail).symm
  dsimp only
  walk1
  rw [← ep]
  have N1 : News s₀.heap L h' [(L + 1, oc)] := News.sub N' fun p hp => .tail _ hp
  refine storeX_C (c := L + 1) F' N1 rfl (.head (fun _ h => nomatch h)) hoc fun h1 oc1 F1 N2 hoc1 => ?_
  clear N1 N' F N F' hv
  dsimp only at N2 ⊢
  refine wpAny_execs_cons ?_
  refine ll_signs (x := x) T Y hh hroom F1 N2 hx hx8 rfl (.head _) hoc1 fun D h2 tk2 ys n2 F2 N3 hv => ?_
  clear F1 N2
  rw [octL_eq] at hv
  have hsum : (((x.map octL).map mkS).map (·.length)).sum = lenS (x.map octL) := by
    exact sum_mkS _
  dsimp only
  have hlS := lenS_oct x
  repeat' walk1
  refine join_listC (x := mkS []) (items := ys.toArray) (ys := (x.map octL).map mkS) ⟨_, (N3 _ (.head _)).1, rfl, _, rfl⟩ hv (by decide) (by rw [hsum, List.length_map, List.length_map]; omega) fun t3 k3 => ?_
  rw [join_nil]
  have hfl : (mkS (x.map octL).flatten).length = lenS (x.map octL) := by rw [mkS_length, lenS_flat]
  dsimp only
  have hsl := slice_last x
  have hLD : D ≠ L := (N3 _ (.head _)).2.1
  iterate 24 walk1
  · (with_reducible rename _ = true => hany)
    rw [in_tail] at hany
    iterate 9 walk1
    (with_reducible rename News _ _ _ _ => hN0)
    have hDlt := Heap.lt_size (hN0 _ (.tail _ (.head _))).1
    iterate 2 walk1
    (with_reducible rename News _ _ _ _ => hN)
    (with_reducible rename Fr _ _ _ _ => hF)
    dsimp only at hN hF hDlt ⊢
    have hN2 := News.sub (b := [_, (D, lst ys n2)]) hN (List.forall_mem_cons.mpr ⟨.head _, List.forall_mem_cons.mpr ⟨.tail _ (.tail _ (.head _)), List.forall_mem_nil _⟩⟩)
    refine' ll_loop (x := x) (tl := 2) T Y hh hroom hF ?hm1 hN2 (Nat.ne_of_lt hDlt) hv ?_ ⟨_, _, rfl⟩ hn hx hx8 h
    case hm1 => unfold llBase; rw [show ((lenS (x.map octL) + 2 : Nat) : Int) = ((mkS (x.map octL).flatten).length : Int) + 2 by omega]; walk_at "known"
    · exact (of_decide_eq_true hany).symm
  · (with_reducible rename _ = false => hany)
    rw [in_tail] at hany
    iterate 9 walk1
    (with_reducible rename News _ _ _ _ => hN0)
    have hDlt := Heap.lt_size (hN0 _ (.tail _ (.head _))).1
    iterate 2 walk1
    (with_reducible rename News _ _ _ _ => hN)
    (with_reducible rename Fr _ _ _ _ => hF)
    dsimp only at hN hF hDlt ⊢
    have hN2 := News.sub (b := [_, (D, lst ys n2)]) hN (List.forall_mem_cons.mpr ⟨.head _, List.forall_mem_cons.mpr ⟨.tail _ (.tail _ (.head _)), List.forall_mem_nil _⟩⟩)
    refine' ll_loop (x := x) (tl := 0) T Y hh hroom hF ?hm2 hN2 (Nat.ne_of_lt hDlt) hv ?_ ⟨_, _, rfl⟩ hn hx hx8 h
    case hm2 => unfold llBase; rw [show ((lenS (x.map octL) + 0 : Nat) : Int) = ((mkS (x.map octL).flatten).length : Int) + 0 by omega]; walk_at "known"
    · exact (tail_zero (of_decide_eq_false hany)).symm
end Mine
end
end
section
set_option maxRecDepth 100000
set_option maxHeartbeats 1000000
namespace Mine
open PySem PySem.W PySem.Calls PyProof.Rows
theorem mp_two (a b : Str) (v u : Value) : (fun y => if y = a then some v else if y = b then some u else none) = mp [(a, v), (b, u)] := by
  funext y
  show _ = List.lookup y [(a, v), (b, u)]
  rw [List.lookup_cons, List.lookup_cons]
  by_cases h1 : y = a
  · subst h1; simp
  · rw [if_neg h1, beq_eq_false_iff_ne.mpr h1]
    by_cases h2 : y = b
    · subst h2; simp
    · rw [if_neg h2, beq_eq_false_iff_ne.mpr h2]; rfl
theorem bind_two {k : Str → Option NameKind} (a b : Str) (v u : Value) (ha : k a = some .local) (hb : k b = some .local) : bindL k [(a, v), (b, u)] (fun _ => none) = mp [(b, u), (a, v)] := by
  rw [bindL, if_pos ha, bindL, if_pos hb, bindL]
  exact mp_two b a u v
theorem ll_call {w : World} {A : Around} {s : Shared} {Q : Value → Shared → Prop} {E : Value → Shared → Prop} {mean mg mb} {x : List Nat} {n : Nat} {t1 t2 : Tok} (T : Top vq (looseW vq looseN) mean mg mb s.heap)
    (Y : TopH w s.heap) (hh : A.handled = none) (hroom : A.depth + 1 < recursionLimit) (hn : 4 ≤ n) (hx : x.length ≤ 4000) (hx8 : ∀ c ∈ x, c < 256)
    (h : ∀ D' vs ep' s', Ext s s' → s'.heap.get? D' = some (lst vs ep') → s.heap.get? D' = none → StrsAre vs ((lLines n x).map mkS) → Q (.ref D') s') : wpAny (model PR w) A (call (.ref 69) [.str (mkS x) t1, .int (n : Int) t2]) Q E s :=
  call_defC (binds := [("row", .str (mkS x) t1), ("length", .int (n : Int) t2)]) (cn := "plain") (by omega) (Y 69 _ rfl) rfl T.nolimit ⟨68, _, _, _, rfl, Y 68 _ rfl, rfl, rfl⟩ rfl (fun _ => rfl)
    rfl rfl (fun _ => rfl) (locs rfl) (fun _ => rfl)
    (fun L s₁ A' oc F N hoc e a => ll_body T Y (by rw [a.hh]; exact hh) (by rw [a.hd]; exact hroom) F (bind_two "row" "length" _ _ rfl rfl) N hoc e hn hx hx8 h) rfl rfl rfl
end Mine
end
section
set_option maxRecDepth 100000
set_option maxHeartbeats 1000000
namespace Mine
open PySem PySem.W PySem.Calls PyProof.Rows
theorem compTurn_two0 (elt t1 i1 t2 i2 : PySem.Expr) (scope : Scope) (pos : Pos) (it acc : Value) (env : Env) :
    compTurn (.ListComp elt [⟨t1, i1, [], 0⟩, ⟨t2, i2, [], 0⟩] scope pos) 0 it acc env = (standAt i1.pos >>= fun _ => pyNext it >>= fun r => match r with
      | none => pure (.done .next)
      | some v => letOwnedTupleGo t1 it v >>= fun _ => assign t1 env v >>= fun _ =>
        (eval i2 env >>= fun x => standAt i2.pos >>= fun _ => foldedSetIterable i2 env x >>= fun x => holding [x] (pyIter x) >>= fun it2 =>
          runOwn (.compStart (.ListComp elt [⟨t1, i1, [], 0⟩, ⟨t2, i2, [], 0⟩] scope pos) 1 it2 acc env) env >>= fun _ =>
          again (.compLoop (.ListComp elt [⟨t1, i1, [], 0⟩, ⟨t2, i2, [], 0⟩] scope pos) 0 it acc env))) := by rfl
theorem compTurn_two1 (elt t1 i1 t2 i2 : PySem.Expr) (scope : Scope) (pos : Pos) (it acc : Value) (env : Env) :
    compTurn (.ListComp elt [⟨t1, i1, [], 0⟩, ⟨t2, i2, [], 0⟩] scope pos) 1 it acc env = (standAt i2.pos >>= fun _ => pyNext it >>= fun r => match r with
      | none => pure (.done .next)
      | some v => letOwnedTupleGo t2 it v >>= fun _ => assign t2 env v >>= fun _ =>
        (eval elt env >>= fun x => call (.builtin "list.append") [acc, x] >>= fun _ => pure ()) >>= fun _ =>
          again (.compLoop (.ListComp elt [⟨t1, i1, [], 0⟩, ⟨t2, i2, [], 0⟩] scope pos) 1 it acc env)) := by rfl
section
variable {prog : Program} {w : World} {A : Around} {R : Result → Shared → Prop} {s : Shared} {t1 i1 i2 : PySem.Expr} {scope : Scope} {pos py pt2 : Pos} {y : Str} {cenv : Env}
/-- the inner loop of a comprehension with two generators: every item of a list is appended -/
theorem comp2_inner {I2 l D : Addr} {ws : List Value} {ys : List Value} {m : Str → Option Value} (hh : A.handled = none) (hk : cenv.scope.kind = .function)
    (hy : cenv.kindOf y = some .local) (hyd : (y == ("__debug__" : Str)) = false) (hDC : D ≠ cenv.locals) (hDI : D ≠ I2) (hDl : D ≠ l) (hCI : cenv.locals ≠ I2) (hCl : cenv.locals ≠ l) (hlI : l ≠ I2)
    (hit : s.heap.IsListIter I2 l 0) (hl : s.heap.IsList l ws.toArray) (hacc : s.heap.PlainList D ys.toArray) (hn : s.heap.Ns cenv.locals m) (hsz : ys.length + ws.length ≤ sizeLine)
    (hR : ∀ h' tk m', h'.Ns cenv.locals m' → h'.PlainList D (ys ++ ws).toArray → (∀ b o, b ≠ cenv.locals → b ≠ I2 → b ≠ D → s.heap.get? b = some o → h'.get? b = some o) → R (.ok .next) { s with heap := h', toks := tk }) :
    codeAny (model prog w) A (.compLoop (.ListComp (.Name y py) [⟨t1, i1, [], 0⟩, ⟨.Name y pt2, i2, [], 0⟩] scope pos) 1 (.ref I2) (.ref D) cenv) R s := by
  have W := Walks.list (prog := prog) (w := w) (A := A) hh I2 l hlI ws.toArray
  rw [List.size_toArray] at W
  refine codeAny_loop rfl (fun k s' => ∃ h' tk m' i, s' = { s with heap := h', toks := tk } ∧ (h'.IsListIter I2 l i ∧ h'.IsList l ws.toArray) ∧ h'.PlainList D (ys ++ ws.take i).toArray ∧ h'.Ns cenv.locals m' ∧ i ≤ ws.length ∧ k = ws.length + 1 - i ∧
    (∀ b o, b ≠ cenv.locals → b ≠ I2 → b ≠ D → s.heap.get? b = some o → h'.get? b = some o)) ?_ (ws.length + 1) ⟨s.heap, s.toks, m, 0, rfl, ⟨hit, hl⟩, by simpa using hacc, hn, Nat.zero_le _, rfl, fun _ _ _ _ _ e => e⟩
  rintro k s' ⟨h₁, tk, m', i, rfl, hst, hac, hn', hi, rfl, hk'⟩
  show wpAny _ A ((compTurn (.ListComp (.Name y py) [⟨t1, i1, [], 0⟩, ⟨.Name y pt2, i2, [], 0⟩] scope pos) 1 (.ref I2) (.ref D) cenv).onRaise (fun x => do noteFrame x cenv; theTreesLotGoes x)) _ _ _
  refine wpAny_noted ?_
  rw [compTurn_two1]
  refine wpAny_bind (wpAny_standAt (wpAny_bind ?_))
  by_cases hlt : i < ws.length
  · refine W.item i _ _ _ hlt hst fun v h₂ tk₂ hv hst₂ hk₂ => ?_
    refine wpAny_bind (wpAny_of_eq (a := ()) rfl ?_)
    refine wpAny_bind (wpAny_assign_Name (wpAny_storeName_local hy (hn'.at' fun o e => hk₂ _ o (by simpa using hCI) e) (fun h₃ hn₃ hs₃ => ?_) (by rw [hk]; rfl)))
    refine wpAny_bind (wpAny_bind (nm_local (v := v) hk hy hn₃ (if_pos rfl) ?_ hyd))
    have hv' : ws[i]? = some v := by simpa using hv
    have hac₃ : h₃.PlainList D (ys ++ ws.take i).toArray := hac.at fun o e => hs₃.extBut _ o hDC (hk₂ _ o (by simpa using hDI) e)
    refine wpAny_bind (wpAny_list_append_plain (hsz := by rw [List.size_toArray, List.length_append, List.length_take]; omega) hac₃ fun h₅ hl₅ hs₅ => ?_)
    refine wpAny_pure (wpAny_pure ⟨rfl, ws.length + 1 - (i + 1), by omega, h₅, _, _, i + 1, rfl, ⟨?_, ?_⟩, ?_, hn₃.sameBut hs₅ (Ne.symm hDC), hlt, rfl, ?_⟩)
    · exact (hst₂.1.at fun o e => hs₃.extBut _ o (Ne.symm hCI) e).at fun o e => hs₅.extBut _ o (Ne.symm hDI) e
    · exact (hst₂.2.at fun o e => hs₃.extBut _ o (Ne.symm hCl) e).at fun o e => hs₅.extBut _ o (Ne.symm hDl) e
    · have e : ys ++ ws.take (i + 1) = (ys ++ ws.take i) ++ [v] := by rw [List.take_add_one, hv']; simp
      rw [e]
      rw [List.push_toArray] at hl₅
      exact hl₅
    · intro b o hC hI hD e
      exact hs₅.extBut _ _ hD (hs₃.extBut _ _ hC (hk₂ _ _ (by simpa using hI) (hk' b o hC hI hD e)))
  · obtain rfl : i = ws.length := by omega
    refine W.done _ _ _ hst fun h₂ tk₂ hk₂ => ?_
    rw [List.take_length] at hac
    refine wpAny_pure (hR h₂ tk₂ m' (hn'.at' fun o e => hk₂ _ o (by simpa using hCI) e) (hac.at fun o e => hk₂ _ o (by simpa using hDI) e) fun b o hC hI hD e => hk₂ _ _ (by simpa using hI) (hk' b o hC hI hD e))
theorem compStart_two1 {elt t2 : PySem.Expr} {it acc : Value} (h0 : codeAny (model prog w) A (.compLoop (.ListComp elt [⟨t1, i1, [], 0⟩, ⟨t2, i2, [], 0⟩] scope pos) 1 it acc cenv) R s)
    (h : wpAny (model prog w) A (pyIter it) (fun it' s' => codeAny (model prog w) A (.compLoop (.ListComp elt [⟨t1, i1, [], 0⟩, ⟨t2, i2, [], 0⟩] scope pos) 1 it' acc cenv) R s')
      (notedBy (model prog w) A cenv fun x s' => R (.error x) s') s) :
    codeAny (model prog w) A (.compStart (.ListComp elt [⟨t1, i1, [], 0⟩, ⟨t2, i2, [], 0⟩] scope pos) 1 it acc cenv) R s := by
  refine codeAny_of_tree ?_
  show wpAny _ _ ((compStart (.ListComp elt [⟨t1, i1, [], 0⟩, ⟨t2, i2, [], 0⟩] scope pos) 1 it acc cenv).onRaise (fun x => do noteFrame x cenv; standAt theWindowsPlace)) _ _ s
  refine wpAny_notedAt ?_
  unfold compStart
  show wpAny _ _ (ask >>= _) _ _ s
  refine wpAny_bind (wpAny_askSetting (wpAny_ite ?_))
  split
  · first
      | exact wpAny_bind (wpAny_pure (wpAny_pure (And.intro rfl h0)))
      | exact wpAny_pure (And.intro rfl h0)
  · first
      | exact wpAny_bind (wpAny_rule (wpAny_bind (wpAny_standAt (wpAny_bind (wpAny_mono h (fun it' s' h' => wpAny_pure (And.intro rfl h')) fun _ _ x => x)))))
      | (refine wpAny_bind (wpAny_rule ?_); show wpAny _ _ (standAt i2.pos >>= _) _ _ s; exact wpAny_bind (wpAny_standAt (wpAny_bind (wpAny_mono h (fun it' s' h' => wpAny_pure (And.intro rfl h')) fun _ _ x => x))))
inductive FlatBy (G : Value → List Value → Prop) : List Value → List Value → Prop
  | nil : FlatBy G [] []
  | snoc {vs ys : List Value} {v : Value} {ws : List Value} : FlatBy G vs ys → G v ws → FlatBy G (vs ++ [v]) (ys ++ ws)
theorem comp2_outer {x : Str} {px : Pos} {I D : Addr} {fp wr : List Addr} {n : Nat} {P : Nat → Value → Prop} {St : Nat → Heap → Prop} {G : Value → List Value → Prop} {m : Str → Option Value} (W : Walks prog w A I fp wr n P St) (hh : A.handled = none) (hk : cenv.scope.kind = .function)
    (hx : cenv.kindOf x = some .local) (hy : cenv.kindOf y = some .local) (hyd : (y == ("__debug__" : Str)) = false) (hDC : D ≠ cenv.locals) (hDf : D ∉ fp) (hCf : cenv.locals ∉ fp)
    (hlive : ∀ i h, St i h → ∀ b ∈ fp, ∃ o, h.get? b = some o) (hst : St 0 s.heap) (hacc : s.heap.PlainList D #[]) (hn : s.heap.Ns cenv.locals m)
    (hs : ∀ v, foldedSetIterable i2 cenv v = pure v)
    (hi2 : ∀ i v s₂ m₂ E', P i v → s₂.heap.Ns cenv.locals m₂ → m₂ x = some v → (∀ b o, b ≠ cenv.locals → b ∉ wr → b ≠ D → s.heap.get? b = some o → s₂.heap.get? b = some o) →
      wpAny (model prog w) A (eval i2 cenv) (fun r s₃ => ∃ l ws ep, r = .ref l ∧ G v ws ∧ s₃.heap.get? l = some (lst ws ep) ∧ s₂.heap.get? l = none ∧ Keeps s₂ s₃) E' s₂)
    (hsz : ∀ vs ys, (∀ j v, vs[j]? = some v → P j v) → vs.length ≤ n → FlatBy G vs ys → ys.length ≤ sizeLine)
    (hR : ∀ h' tk m' ys (vs : List Value), h'.Ns cenv.locals m' → h'.PlainList D ys.toArray → vs.length = n → (∀ j v, vs[j]? = some v → P j v) → FlatBy G vs ys →
      (∀ b o, b ≠ cenv.locals → b ∉ wr → b ≠ D → s.heap.get? b = some o → h'.get? b = some o) → R (.ok .next) { s with heap := h', toks := tk }) :
    codeAny (model prog w) A (.compLoop (.ListComp (.Name y py) [⟨.Name x px, i1, [], 0⟩, ⟨.Name y pt2, i2, [], 0⟩] scope pos) 0 (.ref I) (.ref D) cenv) R s := by
  refine codeAny_loop rfl (fun k s' => ∃ h' tk m' ys, ∃ vs : List Value, s' = { s with heap := h', toks := tk } ∧ St vs.length h' ∧ h'.PlainList D ys.toArray ∧ h'.Ns cenv.locals m' ∧ (∀ j v, vs[j]? = some v → P j v) ∧
      FlatBy G vs ys ∧ vs.length ≤ n ∧ k = n + 1 - vs.length ∧ (∀ b o, b ≠ cenv.locals → b ∉ wr → b ≠ D → s.heap.get? b = some o → h'.get? b = some o)) ?_ (n + 1)
    ⟨s.heap, s.toks, m, [], [], rfl, hst, hacc, hn, by simp, .nil, Nat.zero_le _, rfl, fun _ _ _ _ _ e => e⟩
  rintro k s' ⟨H, tk, m', ys, vs, rfl, hst', hacc', hn', hP, hF, hi, rfl, hkp⟩
  have hCw : cenv.locals ∉ wr := fun h => hCf (W.sub _ h)
  have hDw : D ∉ wr := fun h => hDf (W.sub _ h)
  show wpAny _ A ((compTurn (.ListComp (.Name y py) [⟨.Name x px, i1, [], 0⟩, ⟨.Name y pt2, i2, [], 0⟩] scope pos) 0 (.ref I) (.ref D) cenv).onRaise (fun x => do noteFrame x cenv; theTreesLotGoes x)) _ _ _
  refine wpAny_noted ?_
  rw [compTurn_two0]
  refine wpAny_bind (wpAny_standAt (wpAny_bind ?_))
  by_cases hlt : vs.length < n
  · refine W.item vs.length _ _ _ hlt hst' fun v h₁ tk₁ hPv hst₁ hk₁ => ?_
    refine wpAny_bind (wpAny_of_eq (a := ()) rfl ?_)
    refine wpAny_bind (wpAny_assign_Name (wpAny_storeName_local hx (hn'.at' fun o e => hk₁ _ o hCw e) (fun h₂ hn₂ hs₂ => ?_) (by rw [hk]; rfl)))
    have up₂ : ∀ b o, b ≠ cenv.locals → b ∉ wr → H.get? b = some o → h₂.get? b = some o := fun b o hbC hbf e => hs₂.extBut b o hbC (hk₁ b o hbf e)
    have hst₂ : St (vs.length + 1) h₂ := W.frame _ _ _ hst₁ fun b hb o e => hs₂.extBut b o (fun h => hCf (h ▸ hb)) e
    have hac₂ : h₂.PlainList D ys.toArray := hacc'.at fun o e => up₂ D o hDC hDw e
    refine wpAny_bind (wpAny_mono (hi2 vs.length v _ _ _ hPv hn₂ (if_pos rfl) (fun b o hbC hbf hbD e => up₂ b o hbC hbf (hkp b o hbC hbf hbD e))) (fun r s₃ h₃ => ?_) fun _ _ e => e)
    obtain ⟨l, ws, ep, rfl, hG, hl, hl0, H3, tk₃, rfl, hk₃⟩ := h₃
    dsimp only at hl hl0 hk₃
    refine wpAny_bind (wpAny_standAt (wpAny_bind (wpAny_of_eq (hs _) (wpAny_bind (wpAny_holding ?_)))))
    have hil : H3.IsList l ws.toArray := ⟨_, hl, rfl, ep, rfl⟩
    refine wpAny_pyIter_list hil ?_
    have hst₃ : St (vs.length + 1) H3 := W.frame _ _ _ hst₂ fun b _ o e => hk₃ b o e
    have hac₃ : H3.PlainList D ys.toArray := hac₂.at fun o e => hk₃ _ o e
    have hn₃ := hn₂.at' fun o e => hk₃ _ o e
    have alive : ∀ b o, h₂.get? b = some o → b ≠ l := fun b o e q => by rw [q, hl0] at e; cases e
    have aliveS : ∀ b o, H3.get? b = some o → b ≠ H3.objs.size := fun b o e => Nat.ne_of_lt (Heap.lt_size e)
    obtain ⟨oD, hoD⟩ : ∃ o, h₂.get? D = some o := by obtain ⟨k, hk⟩ := hac₂; exact ⟨_, hk⟩
    obtain ⟨oC, hoC⟩ : ∃ o, h₂.get? cenv.locals = some o := by obtain ⟨o, _, _, ho, _⟩ := hn₂; exact ⟨o, ho⟩
    have hP' : ∀ j u, (vs ++ [v])[j]? = some u → P j u := fun j u hj => by
      rcases Nat.lt_trichotomy j vs.length with h | h | h
      · exact hP j u (by rwa [List.getElem?_append_left h] at hj)
      · subst h; simp at hj; subst hj; exact hPv
      · have hnone : (vs ++ [v])[j]? = none := List.getElem?_eq_none (by rw [List.length_append, List.length_singleton]; omega)
        rw [hnone] at hj; cases hj
    have hF' : FlatBy G (vs ++ [v]) (ys ++ ws) := .snoc hF hG
    have hsz' := hsz _ _ hP' (by rw [List.length_append, List.length_singleton]; exact hlt) hF'
    rw [List.length_append] at hsz'
    dsimp only
    have hit4 : (H3.push { cls := .type "list_iterator", data := .fields #[.ref l, .int 0 0] }).IsListIter H3.objs.size l 0 := ⟨_, Heap.get?_push_size _ rfl, rfl, rfl⟩
    have up4 : ∀ b o, H3.get? b = some o → (H3.push { cls := .type "list_iterator", data := .fields #[.ref l, .int 0 0] }).get? b = some o := fun b o e => Heap.get?_push_of_some _ e
    refine wpAny_bind (wpAny_runOwn (compStart_two1 ?_ (wpAny_pyIter_listiter hit4 ?_)))
    all_goals
      refine comp2_inner (m := _) hh hk hy hyd hDC (aliveS D _ (hk₃ _ _ hoD)) (alive D _ hoD) (aliveS _ _ (hk₃ _ _ hoC)) (alive _ _ hoC) (aliveS l _ hl) hit4 (hil.at fun o e => up4 _ o e) (hac₃.at fun o e => up4 _ o e) (hn₃.at' fun o e => up4 _ o e) hsz' ?_
      intro h₅ tk₅ m₅ hn₅ hac₅ hk₅
      have up5 : ∀ b o, b ≠ cenv.locals → b ≠ D → h₂.get? b = some o → h₅.get? b = some o := fun b o hC hD e => hk₅ b o hC (aliveS b _ (hk₃ _ _ e)) hD (up4 _ _ (hk₃ _ _ e))
      refine wpAny_pure ⟨rfl, n + 1 - (vs.length + 1), by omega, h₅, tk₅, m₅, ys ++ ws, vs ++ [v], rfl, ?_, hac₅, hn₅, hP', hF', (by rw [List.length_append, List.length_singleton]; exact hlt), (by rw [List.length_append, List.length_singleton]), ?_⟩
      · rw [List.length_append, List.length_singleton]
        exact W.frame _ _ _ hst₂ fun b hb o e => up5 b o (fun q => hCf (q ▸ hb)) (fun q => hDf (q ▸ hb)) e
      · intro b o hbC hbf hbD e
        exact up5 b o hbC hbD (up₂ b o hbC hbf (hkp b o hbC hbf hbD e))
  · have hin : vs.length = n := by omega
    refine W.done _ _ _ (hin ▸ hst') fun h₁ tk₁ hk₁ => ?_
    exact wpAny_pure (hR h₁ tk₁ m' ys vs (hn'.at' fun o e => hk₁ _ o hCw e) (hacc'.at fun o e => hk₁ _ o hDw e) hin hP hF fun b o hbC hbf hbD e => hk₁ b o hbf (hkp b o hbC hbf hbD e))
end
theorem compStart_two0 {prog : Program} {w : World} {A : Around} {R : Result → Shared → Prop} {s : Shared} {elt t1 i1 : PySem.Expr} {rest : List Comprehension} {scope : Scope} {pos : Pos} {cenv : Env} {it acc : Value} (h0 : codeAny (model prog w) A (.compLoop (.ListComp elt (⟨t1, i1, [], 0⟩ :: rest) scope pos) 0 it acc cenv) R s)
    (h : wpAny (model prog w) A (pyIter it) (fun it' s' => codeAny (model prog w) A (.compLoop (.ListComp elt (⟨t1, i1, [], 0⟩ :: rest) scope pos) 0 it' acc cenv) R s') (notedBy (model prog w) A cenv fun x s' => R (.error x) s') s) :
    codeAny (model prog w) A (.compStart (.ListComp elt (⟨t1, i1, [], 0⟩ :: rest) scope pos) 0 it acc cenv) R s := codeAny_compStart_list h0 h
section
variable {prog : Program} {w : World} {A : Around} {E : Value → Shared → Prop} {env : Env}
theorem wpAny_ListComp_two {s : Shared} {i1 i2 : PySem.Expr} {x y : Str} {px py pt2 : Pos} {scope : Scope} {cl : List (Str × Addr)} {pos : Pos} {Q : Value → Shared → Prop} (hh : A.handled = none)
    (hclos : closureFor scope env = pure cl) (hcell : ∀ z ∈ scope.names, z.2 ≠ .cell) (hkind : scope.kind = .function)
    (hnames : ∀ z ∈ scope.names, z.2 = .local → scope.names.lookup z.1 = some .local) (hx : scope.names.lookup x = some .local) (hy : scope.names.lookup y = some .local) (hyd : (y == ("__debug__" : Str)) = false)
    (hs2 : ∀ C v, foldedSetIterable i2 (compEnvC scope cl C env) v = pure v)
    (h : wpAny (model prog w) A (eval i1 env) (fun xv s₁ => wpAny (model prog w) A (pyIter xv) (fun it s₂ => ∃ I fp wr n P St G, it = .ref I ∧ Walks prog w A I fp wr n P St ∧ (∀ i h, St i h → ∀ b ∈ fp, ∃ o, h.get? b = some o) ∧ St 0 s₂.heap ∧ (∀ b ∈ fp, b < s₂.heap.objs.size) ∧
      (∀ C i v s₃ m₃ E', s₂.heap.objs.size ≤ C → P i v → s₃.heap.Ns C m₃ → m₃ x = some v → (∀ b o, b ∉ wr → s₂.heap.get? b = some o → s₃.heap.get? b = some o) →
        wpAny (model prog w) A (eval i2 (compEnvC scope cl C env)) (fun r s₄ => ∃ l ws ep, r = .ref l ∧ G v ws ∧ s₄.heap.get? l = some (lst ws ep) ∧ s₃.heap.get? l = none ∧ Keeps s₃ s₄) E' s₃) ∧
      (∀ vs ys, (∀ j v, vs[j]? = some v → P j v) → vs.length ≤ n → FlatBy G vs ys → ys.length ≤ sizeLine) ∧
      (∀ D h' tk ys (vs : List Value), s₂.heap.get? D = none → h'.PlainList D ys.toArray → vs.length = n → (∀ j v, vs[j]? = some v → P j v) → FlatBy G vs ys →
        (∀ b o, b ∉ wr → s₂.heap.get? b = some o → h'.get? b = some o) → Q (.ref D) { s₂ with heap := h', toks := tk })) E s₁) E s)
    (hs : ∀ x, foldedSetIterable i1 env x = pure x := by intro _; rfl) :
    wpAny (model prog w) A (eval (.ListComp (.Name y py) [⟨.Name x px, i1, [], 0⟩, ⟨.Name y pt2, i2, [], 0⟩] scope pos) env) Q E s := by
  rw [eval_ListComp]
  refine wpAny_comprehension_free (use := none) rfl hs hclos hkind hnames (wpAny_mono h (fun xv s₁ h₁ => wpAny_mono h₁ (fun it s₂ h₂ => ?_) fun _ _ e => e) fun _ _ e => e)
  obtain ⟨I, fp, wr, n, P, St, G, rfl, W, hlive, hst, hfp, hi2, hsz, hQ⟩ := h₂
  refine wpAny_newObj_type (wpAny_newFunctionEnv hcell (by intro y hy; simp at hy) (fun h₁ hns₁ hsb₁ => ?_) hkind)
  dsimp only at hns₁ hsb₁ ⊢
  generalize hH2 : s₂.heap.push { cls := .type "list", dict := none, data := .seq ([] : List Value).toArray } = H2 at hns₁ hsb₁ ⊢
  have hC : H2.objs.size = s₂.heap.objs.size + 1 := by rw [← hH2, Heap.size_push]
  have hDC : s₂.heap.objs.size ≠ H2.objs.size := by rw [hC]; exact Nat.ne_of_lt (Nat.lt_succ_self _)
  have hCle : s₂.heap.objs.size ≤ H2.objs.size := by rw [hC]; exact Nat.le_succ _
  have below : ∀ b, b < s₂.heap.objs.size → b ≠ H2.objs.size ∧ b ≠ s₂.heap.objs.size := fun b hb => ⟨by rw [hC]; exact Nat.ne_of_lt (Nat.lt_succ_of_lt hb), Nat.ne_of_lt hb⟩
  have hDf : s₂.heap.objs.size ∉ fp := fun hm => Nat.lt_irrefl _ (hfp _ hm)
  have hCf : H2.objs.size ∉ fp := fun hm => by have := hfp _ hm; rw [hC] at this; exact Nat.lt_irrefl _ (Nat.lt_of_succ_lt this)
  have old : ∀ b o, s₂.heap.get? b = some o → h₁.get? b = some o := fun b o e => hsb₁.extBut b o (below b (Heap.lt_size e)).1 (Heap.get?_push_of_some _ (hH2 ▸ Heap.get?_push_of_some _ e))
  have hacc : h₁.PlainList s₂.heap.objs.size #[] := ⟨_, hsb₁.extBut _ _ hDC (Heap.get?_push_of_some _ (hH2 ▸ Heap.get?_push_size _ rfl))⟩
  have hst₁ : St 0 h₁ := W.frame _ _ _ hst fun b _ o e => old b o e
  have fresh : ∀ a, s₂.heap.objs.size ≤ a → s₂.heap.get? a = none := fun a ha => by
    cases e : s₂.heap.get? a with
    | none => rfl
    | some o' => exact absurd (Heap.lt_size e) (Nat.not_lt.mpr ha)
  have loop : ∀ s₃ : Shared, s₃ = { s₂ with heap := h₁, toks := s₂.toks + ([] : List (Str × Value)).length } →
      codeAny (model prog w) A (.compLoop (.ListComp (.Name y py) [⟨.Name x px, i1, [], 0⟩, ⟨.Name y pt2, i2, [], 0⟩] scope pos) 0 (.ref I) (.ref s₂.heap.objs.size) (compEnvC scope cl H2.objs.size env))
        (compPost (model prog w) A E none Q (.ref s₂.heap.objs.size) H2.objs.size) s₃ := by
    rintro s₃ rfl
    refine comp2_outer (cenv := compEnvC scope cl H2.objs.size env) (G := G) W hh (by simp [compEnvC, relabel, hkind]) (lookup_relabel_local hx) (lookup_relabel_local hy) hyd hDC hDf hCf hlive hst₁ hacc hns₁ (hs2 _)
      (fun i v s₃ m₃ E' hv hn hm hk => hi2 _ i v s₃ m₃ _ hCle hv hn hm (fun b o hbf e => hk b o (below b (Heap.lt_size e)).1 hbf (below b (Heap.lt_size e)).2 (old b o e))) hsz fun h' tk m' ys vs hn ha hlen hP hF hk => ?_
    refine ⟨m', hn, fun h'' hs'' => hQ _ h'' tk ys vs (fresh _ (Nat.le_refl _)) (ha.extBut hs''.extBut hDC) hlen hP hF fun b o hbf e => ?_⟩
    have hb := below b (Heap.lt_size e)
    exact hs''.extBut b o hb.1 (hk b o hb.1 hbf hb.2 (old b o e))
  exact compStart_two0 (loop _ rfl) (W.self 0 _ _ _ hst₁ (loop _ rfl))
end
end Mine
end
section
set_option maxRecDepth 100000
set_option maxHeartbeats 1000000
namespace Mine
theorem anew29 : True := by
  w_top off
  first | walk1 | trivial
open PySem PySem.W PySem.Calls PyProof.Rows
def RaisesVE (s₀ : Shared) (L : Addr) (m : Str → Option Value) (e : Value) (s' : Shared) : Prop := ∃ ea h vs, e = .ref ea ∧ Heap.MadeExcOf h s'.heap ea (.type "ValueError") vs ∧ Fr s₀.heap L h m ∧ SameBut' s₀ s'
theorem bo_ValueError : bootBuiltins "ValueError" = some (.type "ValueError") := by kernel_rfl
theorem be_raise_body {w : World} {A : Around} {s₀ s : Shared} {L : Addr} {nm : Str} {Q : Flow → Shared → Prop} {mean mg mb} {x : Str} {ee : Str} {n : Int} {t1 t2 t3 : Tok} (T : Top vq (looseW vq looseN) mean mg mb s₀.heap)
    (Y : TopH w s₀.heap) (hh : A.handled = none)
    (F : Fr s₀.heap L s.heap (mp [("eol", .str ee t3), ("maxlinelen", .int n t2), ("body", .str x t1)])) (e : SameBut' s₀ s) (hn : n < 4) :
    wpAny (model PR w) A (execs (fBody (stm 17)) (envOf nm (fScope (stm 17)) L 50 (.ref 49))) Q (RaisesVE s₀ L (mp [("eol", .str ee t3), ("maxlinelen", .int n t2), ("body", .str x t1)])) s := by
  w_on
  obtain ⟨hp, tk, rfl⟩ := e
  have N : News s₀.heap L hp [] := .nil
  refine wpAny_execs_cons ?_
  iterate 8 walk1
  · refine wpAny_Raise_call PySem.F.excCall_ValueError PySem.F.excRaise_ValueError hh rfl ?_
    refine nm_boot rfl rfl rfl rfl T F.keep (fr_top F Y) (gn_ValueError _) bo_ValueError (by decide) ⟨rfl, ?_⟩
    refine evalArgs_plain (spliced_cons (wpAny_Constant_str (k := 0) (pos := default) (spliced_nil ?_)))
    refine ⟨rfl, by rw [sizeLine_eq]; show 1 ≤ _; omega, fun h' e hm => ?_⟩
    exact ⟨e, hp, _, rfl, Heap.MadeExc.of hm, F, ⟨_, _, rfl⟩⟩
  · exfalso; omega
theorem be_raise {w : World} {A : Around} {s : Shared} {Q : Value → Shared → Prop} {E : Value → Shared → Prop} {mean mg mb} {x ee : Str} {n : Int} {t1 t2 t3 : Tok} {base g : Heap} {outer : List Env} {news : List (Addr × Obj)} (T : Top vq (looseW vq looseN) mean mg mb s.heap)
    (Y : TopH w s.heap) (hh : A.handled = none) (hroom : A.depth < recursionLimit) (hn : n < 4) (K : Below A base outer g) (hg : ∀ b o, g.get? b = some o → s.heap.get? b = some o) (hgs : g.objs.size ≤ s.heap.objs.size)
    (N : ∀ p ∈ news, s.heap.get? p.1 = some p.2 ∧ g.get? p.1 = none)
    (h : ∀ e t vs h' tk, RaisedK base outer e (.type "ValueError") t vs news h' → g.UpToSlots h' → E (.ref e) { s with heap := h', toks := tk }) :
    wpAny (model PR w) A (call (.ref 50) [.str x t1, .int n t2, .str ee t3]) Q E s := by
  refine wpAny_call (codeAny_call_def (a := 50) (fd := _) (binds := [("body", .str x t1), ("maxlinelen", .int n t2), ("eol", .str ee t3)]) hroom (Y 50 _ rfl) rfl T.nolimit ⟨49, _, _, _, rfl, Y 49 _ rfl, rfl, rfl⟩ rfl
    (BindsTo.of_defaults (T := 43) rfl (Y 43 _ rfl) rfl rfl rfl) (by decide +kernel) (locs rfl) (fun h₁ hns hk₁ => ?_))
  have F : Fr s.heap s.heap.objs.size h₁ (mp [("eol", .str ee t3), ("maxlinelen", .int n t2), ("body", .str x t1)]) := ⟨hns, hk₁, Nat.le_refl _⟩
  refine wpAny_mono (be_raise_body (A := A.deeper _) (Q := fun _ _ => False) T Y hh F ⟨_, _, rfl⟩ hn) (fun f s' q => q.elim) (fun e s' q => ?_)
  obtain ⟨ea, h2, vs, rfl, hm, Fh, ⟨h3, tk3, rfl⟩⟩ := q
  refine leave_raiseK (L := s.heap.objs.size) K hm ⟨Fh.ns, fun b o e => Fh.keep b o (hg b o e), hgs⟩ (fun p hp => ⟨Fh.keep _ _ (N p hp).1, fun q => ?_, (N p hp).2⟩) (fun h' t r u => h ea t vs h' tk3 r u)
  have := Heap.lt_size (N p hp).1
  rw [q] at this
  exact Nat.lt_irrefl _ this
end Mine
end
section
set_option maxRecDepth 100000
set_option maxHeartbeats 1000000
namespace Mine
open PySem PySem.W PySem.Calls PyProof.Rows
/-- a ValueError out of a callee, caught by the frame's own clause; for any function frame -/
theorem caught_X {w : World} {A₀ : Around} {s' : Shared} {h₀ h : Heap} {outer : List Env} {L e t : Addr} {m : Str → Option Value} {env : Env} {vs : List Value} {b₀ : Stmt} {suite : List Stmt} {pos np : Pos} {rest : List ExceptHandler} {Q : Flow → Shared → Prop} {news : List (Addr × Obj)} {mean mg mb}
    (K : Below A₀ h₀ outer h₀) (F : Fr h₀ L h m) (hsm : h.UpToSlots s'.heap) (R : RaisedK h₀ (env :: outer) e (.type "ValueError") t vs news s'.heap)
    (T : Top vq (looseW vq looseN) mean mg mb h₀) (Y : TopH w h₀) (hf : env.frame = some L) (hk : env.scope.kind = .function) (hx : env.kindOf "ValueError" = some .globalImplicit) (hg : env.globals = mainGlobals) (hb : env.builtins = builtinsNs)
    (k : ∀ h', Fr h₀ L h' m → News h₀ L h' news → wpAny (model PR w) ((A₀.deeper env).mark (some (.ref e))) (execs (b₀ :: suite) env) Q (fun _ _ => False) { s' with heap := h' }) :
    wpAny (model PR w) (A₀.deeper env) (noteFrame (.ref e) env)
      (fun _ s₂ => wpAny (model PR w) (A₀.deeper env) (setFlight (.ref e) none) (fun _ s₃ =>
        wpAny (model PR w) (A₀.deeper env) (handleBy (.ref e) env (.ExceptHandler (some (.Name "ValueError" np)) none (b₀ :: suite) pos :: rest)) Q (fun _ _ => False) s₃) (fun _ _ => False) s₂) (fun _ _ => False) s' := by
  obtain ⟨⟨B, hB, hl, hfl, hnew⟩, htup⟩ := R
  have hL : B.get? L = none := by
    obtain ⟨_, ⟨L', _, hf', hn', _⟩, _⟩ := hfl.2.2.1
    rw [hf] at hf'
    obtain rfl : L = L' := Option.some.inj hf'
    exact hn'
  refine wpAny_looks_onW (Around.frames_deeper K.stack) hf hfl fun h₄ hheld₄ hsm₄ => ?_
  refine wpAny_landsW hheld₄ fun h₅ hheld hsm₅' => ?_
  have hsm₅ := hsm₄.trans hsm₅'
  have hheld' := flyingW_base hB hheld
  have F₅ := F.of_stays hheld'.1 (hsm.trans hsm₅)
  obtain ⟨ob, hob, hobc⟩ := hheld'.there
  refine wpAny_handleBy_builtin (X := "ValueError") (T := "ValueError") (b := true) PySem.F.isExc_ValueError PySem.F.notTuple_ValueError (by rw [isSubtype_type]; kernel_rfl) (nm_boot hk hx hg hb T F₅.keep (fr_top F₅ Y) (gn_ValueError _) bo_ValueError (by decide) ⟨rfl, ⟨ob, hob, hobc⟩, ?_⟩)
  refine lands_againW hheld fun h₆ hfl₆ hsm₆ => ?_
  have hfl₆' := flyingW_base hB hfl₆
  have F₆ := F.of_stays hfl₆'.1 ((hsm.trans hsm₅).trans hsm₆)
  exact wpAny_passesOwnAt PassesOwnAt.never (k h₆ F₆ fun q hq => ⟨hfl₆.1 _ _ (hl q hq).1, (fun z => by have := (hl q hq).1; rw [z, hL] at this; cases this), (hl q hq).2⟩)
end Mine
end
section
set_option maxRecDepth 100000
set_option maxHeartbeats 1000000
namespace Mine
theorem anew31 : True := by
  w_top off
  first | walk1 | trivial
open PySem PySem.W PySem.Calls PyProof.Rows
noncomputable abbrev lawEnv (nm : Str) (L : Addr) : Env := envX nm (fScope (stm 22)) L 74 (.ref 73) [("length", L + 1)]
/-- the comprehension of statement 5 (76) and of statement 7 (length) -/
noncomputable def comp76 : PySem.Expr := match nth (fBody (stm 22)) 5 with
  | .If (.Compare _ _ [.Call _ [e] _ _] _) _ _ _ => e
  | _ => .Constant .none 0 default
noncomputable def compN : PySem.Expr := match nth (fBody (stm 22)) 7 with
  | .Return (some (.BoolOp _ [_, .Compare _ _ [.Call _ [e] _ _] _] _)) _ => e
  | _ => .Constant .none 0 default
def gL (n : Nat) (v : Value) (ws : List Value) : Prop := ∃ (x : List Nat) (t : Tok), v = .str (mkS x) t ∧ StrsAre ws ((lLines n x).map mkS)
theorem at_lines {w : World} {A : Around} {s : Shared} {h₀ : Heap} {Q : Value → Shared → Prop} {E : Value → Shared → Prop} {mean mg mb} {x : List Nat} {n : Nat} {t1 t2 : Tok} (T : Top vq (looseW vq looseN) mean mg mb h₀) (Y : TopH w s.heap) (keep : ∀ b o, h₀.get? b = some o → s.heap.get? b = some o)
    (hh : A.handled = none) (hroom : A.depth + 1 < recursionLimit) (hn : 4 ≤ n) (hx : x.length ≤ 4000) (hx8 : ∀ c ∈ x, c < 256)
    (h : ∀ D' vs ep' s', Ext s s' → s'.heap.get? D' = some (lst vs ep') → s.heap.get? D' = none → StrsAre vs ((lLines n x).map mkS) → Q (.ref D') s') : AtFn (model PR w) A Q E 69 [.str (mkS x) t1, .int (n : Int) t2] s :=
  ⟨⟨_, _, Y 69 _ rfl, rfl⟩, ll_call (T.keeps keep) Y hh hroom hn hx hx8 h⟩
def KL (n : Nat) (v : Value) (s : Shared) (r : Value) (s' : Shared) : Prop := ∃ l ws ep, r = .ref l ∧ gL n v ws ∧ s'.heap.get? l = some (lst ws ep) ∧ s.heap.get? l = none ∧ Keeps s s'
theorem flat_rows {n : Nat} {us ys : List Value} (hF : FlatBy (gL n) us ys) : ∀ {rows : List (List Nat)}, (∀ (j : Nat) (v : Value), us[j]? = some v → ∃ r t, rows[j]? = some r ∧ v = .str (mkS r) t) → StrsAre ys (((rows.take us.length).flatMap (lLines n)).map mkS) ∧ us.length ≤ rows.length := by
  induction hF with
  | nil => intro rows _; exact ⟨.nil, Nat.zero_le _⟩
  | @snoc us ys v ws hF hG ih =>
    intro rows hj
    obtain ⟨ih1, ih2⟩ := ih (rows := rows) (fun j v e => hj j v (by
      have := (List.getElem?_eq_some_iff.mp e).1
      rw [List.getElem?_append_left this]; exact e))
    obtain ⟨r, t, hr, rfl⟩ := hj us.length v (by simp)
    obtain ⟨x, t', e, hw⟩ := hG
    injection e with e _
    cases mkS_inj e
    have hlt := (List.getElem?_eq_some_iff.mp hr).1
    refine ⟨?_, by rw [List.length_append, List.length_singleton]; exact hlt⟩
    rw [List.length_append, List.length_singleton, List.take_add_one, hr]
    rw [List.flatMap_append, List.map_append]
    refine ih1.append' ?_
    simpa using hw
theorem flat_len (n : Nat) (rows : List (List Nat)) (k : Nat) : ((rows.take k).flatMap (lLines n)).length ≤ (rows.flatMap (lLines n)).length := by
  have e : rows.flatMap (lLines n) = (rows.take k).flatMap (lLines n) ++ (rows.drop k).flatMap (lLines n) := by rw [← List.flatMap_append, List.take_append_drop]
  rw [e, List.length_append]; omega
local macro_rules | `(tactic| walk_at "eval Name") => `(tactic| first
  | refine nm_local rfl rfl (by assumption) (by assumption) ?_
  | refine nm_cell rfl rfl rfl (by assumption) ?_
  | ((with_reducible show wpAny _ _ (eval (PySem.Expr.Name (Str.ofString "_law_lines") _) _) _ _ _); refine nm_glob rfl rfl rfl (by assumption) (g_lines _) ?_))
local macro_rules | `(tactic| walk_at "callWith") => `(tactic| ((with_reducible show wpAny _ _ (callWith _ (Value.ref 69) [] _ _) _ _ _); refine callWith_fn ?_))
theorem law_comp76 {w : World} {A : Around} {s₀ s : Shared} {L R : Addr} {nm : Str} {Q : Value → Shared → Prop} {E : Value → Shared → Prop} {mean mg mb} {m : Str → Option Value} {news : List (Addr × Obj)} (T : Top vq (looseW vq looseN) mean mg mb s₀.heap)
    (Y : TopH w s₀.heap) (hh : A.handled = none) (hroom : A.depth + 1 < recursionLimit) (F : Fr s₀.heap L s.heap m) (N : News s₀.heap L s.heap news) {rows : List (List Nat)} {vs : List Value} {ep : Nat} (hm : m "rows" = some (.ref R)) (hR : (R, lst vs ep) ∈ news) (hv : StrsAre vs (rows.map mkS))
    (hrl : ∀ r ∈ rows, r.length ≤ 4000 ∧ ∀ c ∈ r, c < 256) (hsz : (rows.flatMap (lLines 76)).length ≤ sizeLine)
    (h : ∀ D h' tk ys n, Fr s₀.heap L h' m → News s₀.heap L h' ((D, lst ys n) :: news) → StrsAre ys ((rows.flatMap (lLines 76)).map mkS) → Q (.ref D) { s with heap := h', toks := tk }) :
    wpAny (model PR w) A (eval comp76 (lawEnv nm L)) Q E s := by
  w_on
  refine wpAny_ListComp_two (cl := []) hh ?hclos ?hcell ?hkind ?hnames ?hx ?hy ?hyd ?hs2 ?_
  case hclos => rfl
  case hcell => decide +kernel
  case hkind => rfl
  case hnames => decide +kernel
  case hx => rfl
  case hy => rfl
  case hyd => decide
  case hs2 => intro _ _; rfl
  refine nm_local rfl rfl F.ns hm ?_
  have hRl : s.heap.IsList R vs.toArray := ⟨_, (N _ hR).1, rfl, ep, rfl⟩
  refine wpAny_pyIter_list hRl ?_
  have hRne : R ≠ s.heap.objs.size := Nat.ne_of_lt (Heap.lt_size (N _ hR).1)
  have W := walks_lt (Walks.list (prog := PR) (w := w) (A := A) hh s.heap.objs.size R hRne vs.toArray)
  have hvr : ∀ (j : Nat) (v : Value), vs.toArray[j]? = some v → ∃ r t, rows[j]? = some r ∧ v = .str (mkS r) t := fun j v hj => by
    obtain ⟨y, t, rfl, hy⟩ := hv.item j v (by simpa using hj)
    rw [List.getElem?_map] at hy
    obtain ⟨r, hr, rfl⟩ := Option.map_eq_some_iff.mp hy
    exact ⟨r, t, hr, rfl⟩
  have hvl : vs.length = rows.length := by rw [hv.length, List.length_map]
  refine ⟨_, _, _, _, _, _, gL 76, rfl, W, ?_, ?_, ?_, ?_, ?_, ?_⟩
  · rintro i h ⟨⟨o1, ho1, _⟩, ⟨o2, ho2, _⟩⟩ b hb
    rcases List.mem_cons.mp hb with rfl | hb
    · exact ⟨o1, ho1⟩
    · rw [List.mem_singleton.mp hb]; exact ⟨o2, ho2⟩
  · exact ⟨⟨_, Heap.get?_push_size _ rfl, rfl, rfl⟩, hRl.at fun o e => Heap.get?_push_of_some _ e⟩
  · intro b hb
    rw [Heap.size_push]
    rcases List.mem_cons.mp hb with rfl | hb
    · exact Nat.lt_succ_self _
    · rw [List.mem_singleton.mp hb]; exact Nat.lt_succ_of_lt (Heap.lt_size (N _ hR).1)
  · intro C i v s₃ m₃ E' hC hP hn hm hk
    obtain ⟨hi, hP⟩ := hP
    obtain ⟨r, t, hr, rfl⟩ := hvr i v hP
    obtain ⟨hr1, hr2⟩ := hrl r (List.mem_of_getElem? hr)
    have k₃ : ∀ b o, s₀.heap.get? b = some o → s₃.heap.get? b = some o := fun b o e => hk b o (fun q => by
      rw [List.mem_singleton] at q
      have := next_is_new F
      subst q
      rw [this] at e; cases e) (Heap.get?_push_of_some _ (F.keep b o e))
    have Y₃ : TopH w s₃.heap := fun b o e => k₃ b o (Y b o e)
    refine wpAny_mono (Q := fun y s₄ => KL 76 (.str (mkS r) t) s₃ y s₄) ?_ (fun _ _ z => z) (fun _ _ z => z)
    clear F N hk W
    repeat' walk1
    refine at_lines (n := 76) T Y₃ k₃ hh hroom (by decide) hr1 hr2 fun D' ws ep' s' X hD hD0 hw => ?_
    obtain ⟨X, h', tk, rfl⟩ := X
    exact ⟨D', ws, ep', rfl, ⟨r, t, rfl, hw⟩, hD, hD0, _, _, rfl, X⟩
  · intro us ys hP hul hF
    obtain ⟨hys, _⟩ := flat_rows hF (fun j v hj => hvr j v (hP j v hj).2)
    have := hys.length
    rw [this, List.length_map]
    refine Nat.le_trans ?_ hsz
    exact flat_len _ _ _
  · intro D h' tk ys us hD hpl hul hP hF hk
    obtain ⟨F₂, n₂, N₂⟩ := comp_news (s₂ := { s with heap := s.heap.push _, toks := s.toks }) (F.push _) (fun p hp => ⟨Heap.get?_push_of_some _ (N p hp).1, (N p hp).2⟩) (fr_low F news N) hD hpl hk
    obtain ⟨hys, _⟩ := flat_rows hF (fun j v hj => hvr j v (hP j v hj).2)
    have hul' : us.length = rows.length := by rw [hul, List.size_toArray, hvl]
    rw [hul', List.take_length] at hys
    exact h D h' tk _ n₂ F₂ N₂ hys
theorem law_compN {w : World} {A : Around} {s₀ s : Shared} {L R : Addr} {nm : Str} {Q : Value → Shared → Prop} {E : Value → Shared → Prop} {mean mg mb} {m : Str → Option Value} {news : List (Addr × Obj)} (T : Top vq (looseW vq looseN) mean mg mb s₀.heap)
    (Y : TopH w s₀.heap) (hh : A.handled = none) (hroom : A.depth + 1 < recursionLimit) (F : Fr s₀.heap L s.heap m) (N : News s₀.heap L s.heap news) {rows : List (List Nat)} {vs : List Value} {ep : Nat} (hm : m "rows" = some (.ref R)) (hR : (R, lst vs ep) ∈ news) (hv : StrsAre vs (rows.map mkS))
    {n : Nat} {tn : Tok} {oc : Obj} (hn : 4 ≤ n) (hoc : (L + 1, oc) ∈ news) (hoc' : oc.data = .cell (some (.int (n : Int) tn)))
    (hrl : ∀ r ∈ rows, r.length ≤ 4000 ∧ ∀ c ∈ r, c < 256) (hsz : (rows.flatMap (lLines n)).length ≤ sizeLine)
    (h : ∀ D h' tk ys k, Fr s₀.heap L h' m → News s₀.heap L h' ((D, lst ys k) :: news) → StrsAre ys ((rows.flatMap (lLines n)).map mkS) → Q (.ref D) { s with heap := h', toks := tk }) :
    wpAny (model PR w) A (eval compN (lawEnv nm L)) Q E s := by
  w_on
  refine wpAny_ListComp_two (cl := [("length", L + 1)]) hh ?hclos ?hcell ?hkind ?hnames ?hx ?hy ?hyd ?hs2 ?_
  case hclos => rfl
  case hcell => decide +kernel
  case hkind => rfl
  case hnames => decide +kernel
  case hx => rfl
  case hy => rfl
  case hyd => decide
  case hs2 => intro _ _; rfl
  refine nm_local rfl rfl F.ns hm ?_
  have hRl : s.heap.IsList R vs.toArray := ⟨_, (N _ hR).1, rfl, ep, rfl⟩
  refine wpAny_pyIter_list hRl ?_
  have hRne : R ≠ s.heap.objs.size := Nat.ne_of_lt (Heap.lt_size (N _ hR).1)
  have W := walks_lt (Walks.list (prog := PR) (w := w) (A := A) hh s.heap.objs.size R hRne vs.toArray)
  have hvr : ∀ (j : Nat) (v : Value), vs.toArray[j]? = some v → ∃ r t, rows[j]? = some r ∧ v = .str (mkS r) t := fun j v hj => by
    obtain ⟨y, t, rfl, hy⟩ := hv.item j v (by simpa using hj)
    rw [List.getElem?_map] at hy
    obtain ⟨r, hr, rfl⟩ := Option.map_eq_some_iff.mp hy
    exact ⟨r, t, hr, rfl⟩
  have hvl : vs.length = rows.length := by rw [hv.length, List.length_map]
  refine ⟨_, _, _, _, _, _, gL n, rfl, W, ?_, ?_, ?_, ?_, ?_, ?_⟩
  · rintro i h ⟨⟨o1, ho1, _⟩, ⟨o2, ho2, _⟩⟩ b hb
    rcases List.mem_cons.mp hb with rfl | hb
    · exact ⟨o1, ho1⟩
    · rw [List.mem_singleton.mp hb]; exact ⟨o2, ho2⟩
  · exact ⟨⟨_, Heap.get?_push_size _ rfl, rfl, rfl⟩, hRl.at fun o e => Heap.get?_push_of_some _ e⟩
  · intro b hb
    rw [Heap.size_push]
    rcases List.mem_cons.mp hb with rfl | hb
    · exact Nat.lt_succ_self _
    · rw [List.mem_singleton.mp hb]; exact Nat.lt_succ_of_lt (Heap.lt_size (N _ hR).1)
  · intro C i v s₃ m₃ E' hC hP hnS hm hk
    obtain ⟨hi, hP⟩ := hP
    obtain ⟨r, t, hr, rfl⟩ := hvr i v hP
    obtain ⟨hr1, hr2⟩ := hrl r (List.mem_of_getElem? hr)
    have k₃ : ∀ b o, s₀.heap.get? b = some o → s₃.heap.get? b = some o := fun b o e => hk b o (fun q => by
      rw [List.mem_singleton] at q
      have := next_is_new F
      subst q
      rw [this] at e; cases e) (Heap.get?_push_of_some _ (F.keep b o e))
    have Y₃ : TopH w s₃.heap := fun b o e => k₃ b o (Y b o e)
    have hcl : s₃.heap.IsCell (L + 1) (some (.int (n : Int) tn)) := ⟨oc, hk _ _ (fun q => by
      rw [List.mem_singleton] at q
      have := Heap.lt_size (N _ hoc).1
      rw [q] at this; exact absurd this (Nat.lt_irrefl _)) (Heap.get?_push_of_some _ (N _ hoc).1), hoc'⟩
    refine wpAny_mono (Q := fun y s₄ => KL n (.str (mkS r) t) s₃ y s₄) ?_ (fun _ _ z => z) (fun _ _ z => z)
    clear F N hk W
    repeat' walk1
    refine at_lines (n := n) T Y₃ k₃ hh hroom hn hr1 hr2 fun D' ws ep' s' X hD hD0 hw => ?_
    obtain ⟨X, h', tk, rfl⟩ := X
    exact ⟨D', ws, ep', rfl, ⟨r, t, rfl, hw⟩, hD, hD0, _, _, rfl, X⟩
  · intro us ys hP hul hF
    obtain ⟨hys, _⟩ := flat_rows hF (fun j v hj => hvr j v (hP j v hj).2)
    have := hys.length
    rw [this, List.length_map]
    refine Nat.le_trans ?_ hsz
    exact flat_len _ _ _
  · intro D h' tk ys us hD hpl hul hP hF hk
    obtain ⟨F₂, n₂, N₂⟩ := comp_news (s₂ := { s with heap := s.heap.push _, toks := s.toks }) (F.push _) (fun p hp => ⟨Heap.get?_push_of_some _ (N p hp).1, (N p hp).2⟩) (fr_low F news N) hD hpl hk
    obtain ⟨hys, _⟩ := flat_rows hF (fun j v hj => hvr j v (hP j v hj).2)
    have hul' : us.length = rows.length := by rw [hul, List.size_toArray, hvl]
    rw [hul', List.take_length] at hys
    exact h D h' tk _ n₂ F₂ N₂ hys
end Mine
end
section
set_option maxRecDepth 100000
set_option maxHeartbeats 1000000
namespace Mine
open PySem PySem.W PySem.Calls PyProof.Rows
/-- one octet's signs: itself, or = and two figures -/
def Tk (sg : List Nat) : Prop := (∃ c, sg = [c] ∧ c ≠ 61) ∨ (∃ a b, sg = [61, a, b] ∧ a ≠ 61 ∧ b ≠ 61)
theorem Tk.len {sg : List Nat} (h : Tk sg) : 1 ≤ sg.length ∧ sg.length ≤ 3 := by
  rcases h with ⟨c, rfl, _⟩ | ⟨a, b, rfl, _⟩ <;> simp
theorem split_at (m : Nat) : ∀ (sgs : List (List Nat)) (k : Nat), k ≤ m → m < k + sgs.flatten.length → ∃ p sg q, sgs = p ++ sg :: q ∧ k + p.flatten.length ≤ m ∧ m < k + p.flatten.length + sg.length
  | [], k, h1, h2 => by simp at h2; omega
  | sg :: sgs, k, h1, h2 => by
    by_cases h : m < k + sg.length
    · exact ⟨[], sg, sgs, rfl, by simpa using h1, by simpa using h⟩
    · rw [List.flatten_cons, List.length_append] at h2
      obtain ⟨p, g, q, e, a, b⟩ := split_at m sgs (k + sg.length) (by omega) (by omega)
      refine ⟨sg :: p, g, q, by rw [e]; rfl, ?_, ?_⟩
      · rw [List.flatten_cons, List.length_append]; omega
      · rw [List.flatten_cons, List.length_append]; omega
theorem tk_ends {g : List Nat} (h : Tk g) : (∀ i, i + 1 = g.length → g[i]? ≠ some 61) ∧ (∀ i, i + 2 = g.length → g[i]? ≠ some 61) := by
  rcases h with ⟨c, rfl, hc⟩ | ⟨a, b, rfl, ha, hb⟩
  · refine ⟨fun i hi => ?_, fun i hi => ?_⟩
    · obtain rfl : i = 0 := by simpa using hi
      simpa using hc
    · simp at hi
  · refine ⟨fun i hi => ?_, fun i hi => ?_⟩
    · obtain rfl : i = 2 := by simpa using hi
      simpa using hb
    · obtain rfl : i = 1 := by simpa using hi
      simpa using ha
theorem ends_ok : ∀ (p : List (List Nat)), (∀ g ∈ p, Tk g) → (∀ i, i + 1 = p.flatten.length → p.flatten[i]? ≠ some 61) ∧ (∀ i, i + 2 = p.flatten.length → p.flatten[i]? ≠ some 61)
  | [], _ => by constructor <;> · intro i hi; simp
  | g :: p, hT => by
    obtain ⟨i1, i2⟩ := ends_ok p fun x hx => hT x (.tail _ hx)
    obtain ⟨g1, g2⟩ := tk_ends (hT g (.head _))
    have gl := (hT g (.head _)).len
    rw [List.flatten_cons, List.length_append]
    refine ⟨fun i hi => ?_, fun i hi => ?_⟩
    · by_cases h : i < g.length
      · rw [List.getElem?_append_left h]; exact g1 i (by omega)
      · rw [List.getElem?_append_right (by omega)]; exact i1 _ (by omega)
    · by_cases h : i < g.length
      · rw [List.getElem?_append_left h]
        by_cases h' : i + 1 = g.length
        · exact g1 i h'
        · exact g2 i (by omega)
      · rw [List.getElem?_append_right (by omega)]; exact i2 _ (by omega)
theorem soft_split {n : Nat} (hn : 4 ≤ n) {sgs : List (List Nat)} (hT : ∀ g ∈ sgs, Tk g) (hlt : n < sgs.flatten.length) :
    ∃ p sg q, sgs = p ++ sg :: q ∧ p ≠ [] ∧ p.flatten.length ≤ n - 1 ∧ n - 1 < p.flatten.length + sg.length ∧ soft n sgs.flatten = ((p.flatten ++ [61]) :: (soft n (sg :: q).flatten).1, (soft n (sg :: q).flatten).2) := by
  obtain ⟨p, sg, q, e, h1, h2⟩ := split_at (n - 1) sgs 0 (by omega) (by omega)
  rw [Nat.zero_add] at h1 h2
  have hsg := hT sg (by rw [e]; simp)
  have hl := hsg.len
  have hp : p ≠ [] := by
    rintro rfl
    simp at h2
    omega
  refine ⟨p, sg, q, e, hp, h1, h2, ?_⟩
  obtain ⟨e1, e2⟩ := ends_ok p fun x hx => hT x (by rw [e]; exact List.mem_append_left _ hx)
  have hf : sgs.flatten = p.flatten ++ (sg :: q).flatten := by rw [e, List.flatten_append]
  rw [hf] at hlt ⊢
  have lt' : n < ((p.flatten ++ (sg :: q).flatten).drop 0).length := by simpa using hlt
  have three : p.flatten.length = n - 1 → soft n (p.flatten ++ (sg :: q).flatten) = ((p.flatten ++ [61]) :: (soft n (sg :: q).flatten).1, (soft n (sg :: q).flatten).2) := fun hP => by
    have := soft_three (l := p.flatten ++ (sg :: q).flatten) (a := 0) hn lt' (by
      rw [Nat.zero_add, List.getElem?_append_left (by omega)]; exact e2 _ (by omega)) (by
      rw [Nat.zero_add, List.getElem?_append_left (by omega)]; exact e1 _ (by omega))
    rw [List.drop_zero, Nat.zero_add, List.take_left' hP, List.drop_left' hP] at this
    exact this
  rcases hsg with ⟨c, rfl, hc⟩ | ⟨a, b, rfl, ha, hb⟩
  · have h2' : n - 1 < p.flatten.length + 1 := h2
    exact three (by omega)
  · have h2' : n - 1 < p.flatten.length + 3 := h2
    have hP : p.flatten.length = n - 3 ∨ p.flatten.length = n - 2 ∨ p.flatten.length = n - 1 := by omega
    have re : p.flatten ++ ([61, a, b] :: q).flatten = (p.flatten ++ [61]) ++ ([a, b] ++ q.flatten) := by simp
    have h61 : (p.flatten ++ ([61, a, b] :: q).flatten)[p.flatten.length]? = some 61 := by
      rw [List.getElem?_append_right (Nat.le_refl _), Nat.sub_self]; rfl
    rcases hP with hP | hP | hP
    · have := soft_one (l := p.flatten ++ ([61, a, b] :: q).flatten) (a := 0) hn lt' (by rw [Nat.zero_add, ← hP]; exact h61)
      rw [List.drop_zero, Nat.zero_add, List.drop_left' hP] at this
      rw [this]
      congr 2
      rw [re]
      exact List.take_left' (by rw [List.length_append, List.length_singleton]; omega)
    · have := soft_two (l := p.flatten ++ ([61, a, b] :: q).flatten) (a := 0) hn lt' (by
        rw [Nat.zero_add, List.getElem?_append_left (by omega)]; exact e1 _ (by omega)) (by rw [Nat.zero_add, ← hP]; exact h61)
      rw [List.drop_zero, Nat.zero_add, List.drop_left' hP] at this
      rw [this]
      congr 2
      rw [re]
      exact List.take_left' (by rw [List.length_append, List.length_singleton]; omega)
    · exact three hP
/-- texts parted by ee -/
noncomputable def jn (ee : List Nat) : List (List Nat) → List Nat
  | [] => []
  | [a] => a
  | a :: b :: t => a ++ ee ++ jn ee (b :: t)
theorem jn_cons {ee a : List Nat} {t : List (List Nat)} (h : t ≠ []) : jn ee (a :: t) = a ++ ee ++ jn ee t := by
  cases t with
  | nil => exact absurd rfl h
  | cons b t => rfl
theorem jn_append {ee : List Nat} : ∀ {xs ys : List (List Nat)}, xs ≠ [] → ys ≠ [] → jn ee (xs ++ ys) = jn ee xs ++ ee ++ jn ee ys
  | [], _, h, _ => absurd rfl h
  | [a], ys, _, hy => by rw [List.singleton_append, jn_cons hy]; rfl
  | a :: b :: t, ys, _, hy => by
    rw [List.cons_append, jn_cons (by simp), jn_append (xs := b :: t) (by simp) hy, jn_cons (t := b :: t) (by simp)]
    simp
theorem jn_flat {ee : List Nat} {α : Type} {f g : α → List (List Nat)} : ∀ {rows : List α}, (∀ r ∈ rows, f r ≠ [] ∧ g r ≠ [] ∧ jn ee (f r) = jn ee (g r)) → jn ee (rows.flatMap f) = jn ee (rows.flatMap g)
  | [], _ => rfl
  | [r], h => by simpa using (h r (.head _)).2.2
  | r :: r' :: rows, h => by
    have ih := jn_flat (ee := ee) (rows := r' :: rows) fun x hx => h x (.tail _ hx)
    obtain ⟨a, b, c⟩ := h r (.head _)
    obtain ⟨a', b', _⟩ := h r' (.tail _ (.head _))
    rw [List.flatMap_cons, List.flatMap_cons (f := g)]
    rw [jn_append a (by simp [a']), jn_append b (by simp [b']), c, ih]
theorem join_mk (ee : List Nat) : ∀ ls : List (List Nat), Txt.join (mkS ee) (ls.map mkS) = mkS (jn ee ls) := by
  have key : ∀ (xs : List (List Nat)) (acc : List Nat), (xs.map mkS).foldl (fun (acc : Array Nat) p => acc ++ (mkS ee).cps ++ p.cps) acc.toArray = (jn ee (acc :: xs)).toArray := by
    intro xs
    induction xs with
    | nil => intro acc; rfl
    | cons c xs ih =>
      intro acc
      rw [List.map_cons, List.foldl_cons]
      have : acc.toArray ++ (mkS ee).cps ++ (mkS c).cps = (acc ++ ee ++ c).toArray := by simp [mkS]
      rw [this, ih]
      cases xs with
      | nil => rfl
      | cons d xs => simp [jn]
  intro ls
  cases ls with
  | nil => rfl
  | cons c xs =>
    show (⟨((xs.map mkS)).foldl (fun acc p => acc ++ (mkS ee).cps ++ p.cps) (mkS c).cps⟩ : Str) = _
    exact congrArg Str.mk (key xs c)
end Mine
end
section
set_option maxRecDepth 100000
set_option maxHeartbeats 1000000
namespace Mine
open PySem PySem.W PySem.Calls PyProof.Rows
noncomputable def lrun (n t : Nat) (sgs : List (List Nat)) : List (List Nat) × List Nat × Nat := lRun n (lenS sgs + t) sgs
theorem lenS_cons (sg : List Nat) (sgs : List (List Nat)) : lenS (sg :: sgs) = sg.length + lenS sgs := rfl
theorem lenS_app (a b : List (List Nat)) : lenS (a ++ b) = lenS a + lenS b := by unfold lenS; rw [List.map_append, List.sum_append]
theorem fold_done (n : Nat) (d : List (List Nat)) : ∀ (sgs : List (List Nat)) (d' : List (List Nat)) (cur : List Nat) (lf : Nat), sgs.foldl (lStep n) (d ++ d', cur, lf) = (d ++ (sgs.foldl (lStep n) (d', cur, lf)).1, (sgs.foldl (lStep n) (d', cur, lf)).2)
  | [], _, _, _ => rfl
  | sg :: sgs, d', cur, lf => by
    have : lStep n (d ++ d', cur, lf) sg = (d ++ (lStep n (d', cur, lf) sg).1, (lStep n (d', cur, lf) sg).2) := by
      unfold lStep; dsimp only; split <;> simp
    rw [List.foldl_cons, List.foldl_cons, this]
    exact fold_done n d sgs _ _ _
theorem fold_go (n : Nat) : ∀ (p : List (List Nat)) (cur : List Nat) (lf : Nat), (cur.length + lf ≤ n ∨ cur.length + lenS p ≤ n - 1) → lenS p ≤ lf → p.foldl (lStep n) ([], cur, lf) = ([], cur ++ p.flatten, lf - lenS p)
  | [], cur, lf, _, _ => by simp [lenS]
  | sg :: p, cur, lf, h, hl => by
    rw [lenS_cons] at h hl
    have hst : lStep n ([], cur, lf) sg = ([], cur ++ sg, lf - sg.length) := by
      unfold lStep; dsimp only; rw [if_neg]; rw [List.length_append]; omega
    rw [List.foldl_cons, hst, fold_go n p _ _ (by rw [List.length_append]; omega) (by omega), lenS_cons]
    rw [List.flatten_cons, List.append_assoc, Nat.sub_sub]
theorem run_split {n t : Nat} (hn : 4 ≤ n) {p : List (List Nat)} {sg : List Nat} {q : List (List Nat)} (hs : sg.length ≤ 3) (h1 : p.flatten.length ≤ n - 1) (h2 : n - 1 < p.flatten.length + sg.length) (hlt : n < lenS (p ++ sg :: q) + t) :
    lrun n t (p ++ sg :: q) = ((p.flatten ++ [61]) :: (lrun n t (sg :: q)).1, (lrun n t (sg :: q)).2) := by
  have hp := lenS_flat p
  unfold lrun lRun
  rw [List.foldl_append, fold_go n p [] _ (.inr (by rw [List.length_nil]; omega)) (by rw [lenS_app]; omega)]
  rw [List.nil_append, List.foldl_cons, List.foldl_cons]
  rw [lenS_app, lenS_cons] at hlt ⊢
  have s1 : lStep n ([], p.flatten, lenS p + (sg.length + lenS q) + t - lenS p) sg = ([p.flatten ++ [61]], sg, lenS q + t) := by
    unfold lStep; dsimp only
    rw [if_pos (by rw [List.length_append]; omega), List.nil_append]
    congr 2
    omega
  have s2 : lStep n ([], [], sg.length + lenS q + t) sg = ([], sg, lenS q + t) := by
    unfold lStep; dsimp only
    rw [if_neg (by rw [List.length_append, List.length_nil]; omega), List.nil_append]
    congr 2
    omega
  rw [s1, s2]
  exact fold_done n [p.flatten ++ [61]] q [] sg (lenS q + t)
theorem soft_run {n t : Nat} (hn : 4 ≤ n) : ∀ (k : Nat) (sgs : List (List Nat)), sgs.length ≤ k → (∀ g ∈ sgs, Tk g) →
    ∃ S p q, sgs = p ++ q ∧ (sgs ≠ [] → q ≠ []) ∧ soft n sgs.flatten = (S, q.flatten) ∧ lenS q ≤ n ∧ lrun n t sgs = (S ++ (lrun n t q).1, (lrun n t q).2)
  | 0, sgs, hk, _ => by
    have : sgs = [] := List.length_eq_zero_iff.mp (by omega)
    subst this
    exact ⟨[], [], [], rfl, fun h => h, soft_stop (by simp), Nat.zero_le _, rfl⟩
  | k + 1, sgs, hk, hT => by
    by_cases hlt : n < sgs.flatten.length
    · obtain ⟨p, sg, q, rfl, hp, h1, h2, hs⟩ := soft_split hn hT hlt
      have hl := List.length_pos_iff.mpr hp
      obtain ⟨S, p', q', e, hq, hs', hle, hr⟩ := soft_run (t := t) hn k (sg :: q) (by rw [List.length_append] at hk; omega) fun g hg => hT g (List.mem_append_right _ hg)
      refine ⟨(p.flatten ++ [61]) :: S, p ++ p', q', by rw [e, List.append_assoc], fun _ => hq (by simp), ?_, hle, ?_⟩
      · rw [hs, hs']
      · have := lenS_flat (p ++ sg :: q)
        rw [run_split hn (hT sg (by simp)).len.2 h1 h2 (by omega), hr]; rfl
    · exact ⟨[], [], sgs, rfl, fun h => h, soft_stop hlt, by have := lenS_flat sgs; omega, rfl⟩
theorem jn_two (ee a b : List Nat) : ∀ S : List (List Nat), jn ee (S ++ [a, b]) = jn ee (S ++ [a ++ ee ++ b])
  | [] => by simp [jn]
  | s :: S => by
    rw [List.cons_append, List.cons_append, jn_cons (by simp), jn_cons (by simp), jn_two ee a b S]
theorem mem_plain (c : Nat) : c ∈ plainL ↔ c = 9 ∨ (32 ≤ c ∧ c < 127 ∧ c ≠ 61) := by
  unfold plainL
  rw [List.mem_cons, List.mem_filter, List.mem_range'_1]
  simp
  omega
theorem oct_enc {c : Nat} (hc : c < 256) (h1 : c ≠ 13) (h2 : c ≠ 10) : octL c = encL c := by
  have hf := StrLaws.found_one (mkS plainL) c
  rw [mkS_toList] at hf
  unfold octL octetS encL encS
  by_cases hm : c ∈ plainL
  · rw [decide_eq_true hm] at hf
    rw [if_neg (by intro q; rw [q] at hf; cases hf)]
    have := (mem_plain c).mp hm
    rw [if_pos]
    simp
    omega
  · rw [decide_eq_false hm] at hf
    rw [if_pos (by simpa using hf), if_neg]
    have hn : ¬ (c = 9 ∨ (32 ≤ c ∧ c < 127 ∧ c ≠ 61)) := fun q => hm ((mem_plain c).mpr q)
    intro q
    simp at q
    omega
theorem hexD_61 (d : Nat) : hexD d ≠ 61 := by unfold hexD; split <;> omega
theorem enc_tk (c : Nat) : Tk (encL c) := by
  unfold encL encS
  split
  · rename_i h
    refine .inl ⟨c, rfl, ?_⟩
    rintro rfl
    simp at h
  · exact .inr ⟨_, _, rfl, hexD_61 _, hexD_61 _⟩
theorem enc_flat {x : List Nat} (h : ∀ c ∈ x, c < 256 ∧ c ≠ 13 ∧ c ≠ 10) : encT x = (x.map octL).flatten := by
  unfold encT
  rw [← List.flatMap_def]
  induction x with
  | nil => rfl
  | cons c x ih =>
    have hc := h c (.head _)
    rw [List.flatMap_cons, List.flatMap_cons, oct_enc hc.1 hc.2.1 hc.2.2, ih fun d hd => h d (.tail _ hd)]
theorem enc_last {x : List Nat} {c : Nat} (h : x.getLast? = some c) : (encT x).getLast? = (encL c).getLast? := by
  obtain ⟨y, rfl⟩ : ∃ y, x = y ++ [c] := by
    have hne : x ≠ [] := by rintro rfl; cases h
    refine ⟨x.dropLast, ?_⟩
    rw [List.getLast?_eq_some_getLast hne] at h
    rw [← Option.some.inj h]; exact (List.dropLast_concat_getLast hne).symm
  rw [encT_append, List.getLast?_append]
  have : encT [c] = encL c := by unfold encT; simp
  rw [this]
  cases hq : (encL c).getLast? with
  | none => exact absurd (List.getLast?_eq_none_iff.mp hq) (encL_ne c)
  | some d => rfl
theorem encL_blank {c : Nat} (h : c = 32 ∨ c = 9) : encL c = [c] := by rcases h with rfl | rfl <;> rfl
theorem encL_last {c d : Nat} (h : ¬ (c = 32 ∨ c = 9)) (hd : (encL c).getLast? = some d) : ¬ (d = 32 ∨ d = 9) := by
  unfold encL encS at hd
  split at hd
  · have : c = d := by simpa using hd
    omega
  · have : hexD (c % 16) = d := by simpa using hd
    have := hexD_ge (c % 16)
    omega
/-- the lines of the code and of the law, joined, are one text -/
theorem row_eq {n : Nat} (hn : 4 ≤ n) (ee : List Nat) {x : List Nat} (h : ∀ c ∈ x, c < 256 ∧ c ≠ 13 ∧ c ≠ 10) : jn ee (lineOut n ee (encT x)) = jn ee (lLines n x) := by
  have hT : ∀ g ∈ x.map octL, Tk g := fun g hg => by
    obtain ⟨c, hc, rfl⟩ := List.mem_map.mp hg
    have := h c hc
    rw [oct_enc this.1 this.2.1 this.2.2]; exact enc_tk c
  have he := enc_flat h
  by_cases hb : ∃ c, x.getLast? = some c ∧ (c = 32 ∨ c = 9)
  · obtain ⟨c, hl, hc⟩ := hb
    have ht : lTail x = 2 := by unfold lTail; rw [hl]; dsimp only; rw [if_pos hc]
    obtain ⟨S, p, q, e, hq, hs, hle, hr⟩ := soft_run (t := 2) hn (x.map octL).length (x.map octL) (Nat.le_refl _) hT
    have hx0 : x ≠ [] := by rintro rfl; cases hl
    have hq0 : q ≠ [] := hq (by simpa using hx0)
    have hxl : (x.map octL).getLast? = some [c] := by
      rw [List.getLast?_map, hl, Option.map_some, oct_enc (h c (List.mem_of_getLast? hl)).1 (by omega) (by omega), encL_blank hc]
    obtain ⟨q0, rfl⟩ : ∃ q0, q = q0 ++ [[c]] := by
      refine ⟨q.dropLast, ?_⟩
      have : (p ++ q).getLast? = some (q.getLast hq0) := by
        rw [List.getLast?_append, List.getLast?_eq_some_getLast hq0]; rfl
      rw [← e, hxl] at this
      rw [Option.some.inj this]; exact (List.dropLast_concat_getLast hq0).symm
    have hlen : lenS (q0 ++ [[c]]) = lenS q0 + 1 := by rw [lenS_app]; rfl
    have hfl := lenS_flat (q0 ++ [[c]])
    have hfl0 := lenS_flat q0
    have hfe : (q0 ++ [[c]]).flatten = q0.flatten ++ [c] := by simp
    have hel : (encT x).getLast? = some c := by rw [enc_last hl, encL_blank hc]; rfl
    have hlD : x.getLastD 0 = c := by rw [List.getLastD_eq_getLast?, hl]; rfl
    have hhx : (hexS c).cps.toList = hexL c := rfl
    have hL : lLines n x = lEnds n x (S ++ (lrun n 2 (q0 ++ [[c]])).1) (lrun n 2 (q0 ++ [[c]])).2.1 2 := by
      unfold lLines
      rw [ht]
      have : lRun n (lenS (x.map octL) + 2) (x.map octL) = lrun n 2 (x.map octL) := rfl
      rw [this, hr]
    have hO : lineOut n ee (encT x) = S ++ [lineTail n ee (encT x) (q0.flatten ++ [c])] := by
      unfold lineOut
      rw [he, hs, hfe]
    rw [hO, hL]
    unfold lineTail lEnds
    rw [hel, hlD, hhx]
    dsimp only
    rw [if_pos hc, List.dropLast_concat]
    have hl1 : (q0.flatten ++ [c]).length = lenS q0 + 1 := by rw [List.length_append, hfl0]; rfl
    have hgo : lenS q0 + 1 ≤ n - 1 → lrun n 2 (q0 ++ [[c]]) = ([], q0.flatten ++ [c], 2) := fun hle => by
      unfold lrun lRun
      rw [fold_go n _ [] _ (.inr (by rw [List.length_nil]; omega)) (by omega), List.nil_append, hfe]
      congr 2
      omega
    by_cases h1 : lenS q0 + 3 ≤ n
    · rw [hgo (by omega), if_pos (by omega)]
      dsimp only
      rw [if_neg (by omega), if_pos rfl, List.append_nil, List.dropLast_concat]
    · by_cases h2 : lenS q0 + 2 = n
      · rw [hgo (by omega), if_neg (by omega), if_pos (by omega)]
        dsimp only
        rw [if_pos (by omega), List.append_nil, jn_two]
        simp
      · have h3 : lenS q0 + 1 = n := by omega
        have hrs : lrun n 2 (q0 ++ [[c]]) = ([q0.flatten ++ [61]], [c], 2) := by
          rw [run_split hn (by simp) (by omega) (by rw [hfl0]; show _ < _ + 1; omega) (by omega)]
          have : lrun n 2 [[c]] = ([], [c], 2) := by
            unfold lrun lRun
            rw [fold_go n _ [] _ (.inr (by show 0 + 1 ≤ _; omega)) (by omega)]
            rfl
          rw [this]
        rw [hrs, if_neg (by omega), if_neg (by omega)]
        dsimp only
        rw [if_neg (by show ¬ (2 = 2 ∧ 1 + 2 > n); omega), if_pos rfl]
        show jn ee _ = jn ee ((S ++ [q0.flatten ++ [61]]) ++ [[] ++ hexL c])
        have e2 : (S ++ [q0.flatten ++ [61]]) ++ [[] ++ hexL c] = S ++ [q0.flatten ++ [61], hexL c] := by simp
        rw [e2, jn_two]
        simp
  · obtain ⟨S, p, q, e, hq, hs, hle, hr⟩ := soft_run (t := 0) hn (x.map octL).length (x.map octL) (Nat.le_refl _) hT
    have ht : lTail x = 0 := by
      unfold lTail
      split
      · rename_i c hc
        rw [if_neg fun z => hb ⟨c, hc, z⟩]
      · rfl
    have hL : lLines n x = lEnds n x (S ++ (lrun n 0 q).1) (lrun n 0 q).2.1 0 := by
      unfold lLines
      rw [ht]
      have : lRun n (lenS (x.map octL) + 0) (x.map octL) = lrun n 0 (x.map octL) := rfl
      rw [this, hr]
    have hg : lrun n 0 q = ([], q.flatten, 0) := by
      unfold lrun lRun
      rw [fold_go n _ [] _ (.inl (by rw [List.length_nil]; omega)) (by omega), List.nil_append]
      congr 2
      omega
    have hO : lineOut n ee (encT x) = S ++ [lineTail n ee (encT x) q.flatten] := by
      unfold lineOut
      rw [he, hs]
    have hlt : lineTail n ee (encT x) q.flatten = q.flatten := by
      unfold lineTail
      split
      · rename_i d hd
        rw [if_neg]
        cases hx : x.getLast? with
        | none => rw [List.getLast?_eq_none_iff.mp hx] at hd; cases hd
        | some c =>
          rw [enc_last hx] at hd
          exact encL_last (fun z => hb ⟨c, hx, z⟩) hd
      · rfl
    rw [hO, hL, hg, hlt]
    unfold lEnds
    dsimp only
    rw [if_neg (by omega), if_neg (by omega), List.append_nil]
theorem rows_ok : ∀ (k : Nat) (x cur : List Nat), x.length ≤ k → (∀ c ∈ x, c < 256) → (∀ c ∈ cur, c < 256 ∧ c ≠ 13 ∧ c ≠ 10) → ∀ r ∈ rowsA cur x, ∀ c ∈ r, c < 256 ∧ c ≠ 13 ∧ c ≠ 10
  | _, [], cur, _, _, hc => by
    intro r hr
    rw [rowsA, List.mem_singleton] at hr
    subst hr; exact hc
  | 0, c :: t, cur, hk, _, _ => by simp at hk
  | k + 1, c :: t, cur, hk, hx, hc => by
    have hk' : t.length ≤ k := by simpa using hk
    have hn : ∀ c ∈ ([] : List Nat), c < 256 ∧ c ≠ 13 ∧ c ≠ 10 := fun _ q => by cases q
    have hxt : ∀ c ∈ t, c < 256 := fun d hd => hx d (.tail _ hd)
    intro r hr
    by_cases h13 : c = 13
    · subst h13
      by_cases h10 : ∃ r, t = 10 :: r
      · obtain ⟨t', rfl⟩ := h10
        rw [rowsA_crlf] at hr
        rcases List.mem_cons.mp hr with rfl | hr
        · exact hc
        · exact rows_ok k t' [] (by simp at hk'; omega) (fun d hd => hxt d (.tail _ hd)) hn r hr
      · have hh : t.head? ≠ some 10 := by
          intro q
          cases t with
          | nil => cases q
          | cons d t => exact h10 ⟨t, by rw [show d = 10 by simpa using q]⟩
        rw [rowsA_cr _ _ hh] at hr
        rcases List.mem_cons.mp hr with rfl | hr
        · exact hc
        · exact rows_ok k t [] hk' hxt hn r hr
    · by_cases h10 : c = 10
      · subst h10
        rw [rowsA_lf] at hr
        rcases List.mem_cons.mp hr with rfl | hr
        · exact hc
        · exact rows_ok k t [] hk' hxt hn r hr
      · rw [rowsA_other _ _ c h13 h10] at hr
        refine rows_ok k t (cur ++ [c]) hk' hxt (fun d hd => ?_) r hr
        rcases List.mem_append.mp hd with hd | hd
        · exact hc d hd
        · rw [List.mem_singleton.mp hd]; exact ⟨hx c (.head _), h13, h10⟩
theorem lLines_ne (n : Nat) (x : List Nat) : lLines n x ≠ [] := by unfold lLines lEnds; split <;> (try split) <;> simp
theorem beRes_eq {n : Nat} (hn : 4 ≤ n) (ee : List Nat) {x : List Nat} (hx : ∀ c ∈ x, c < 256) : beRes n ee x = mkS (jn ee ((rowsOf x).flatMap (lLines n))) := by
  unfold beRes
  rw [join_mk]
  congr 1
  unfold outRows
  refine jn_flat fun r hr => ⟨by unfold outRow lineOut; simp, lLines_ne n r, ?_⟩
  exact row_eq hn ee (rows_ok x.length x [] (Nat.le_refl _) hx (fun _ q => by cases q) r hr)
end Mine
end
section
set_option maxRecDepth 100000
set_option maxHeartbeats 1000000
namespace Mine
open PySem PySem.W PySem.Calls PyProof.Rows PySem.StrLaws PySem.Builtin.Str
/-- the parts of a text between the places of y (k signs of the last one are still to be passed over) -/
noncomputable def splA (y : List Nat) : List Nat → Nat → List Nat → List (List Nat)
  | cur, _, [] => [cur]
  | cur, k + 1, _ :: t => splA y cur k t
  | cur, 0, c :: t => if (c :: t).take y.length = y then cur :: splA y [] (y.length - 1) t else splA y (cur ++ [c]) 0 t
/-- the text with z in the places of y -/
noncomputable def rep (y z : List Nat) : Nat → List Nat → List Nat
  | _, [] => []
  | k + 1, _ :: t => rep y z k t
  | 0, c :: t => if (c :: t).take y.length = y then z ++ rep y z (y.length - 1) t else c :: rep y z 0 t
theorem splA_ne (y : List Nat) : ∀ (cur : List Nat) (k : Nat) (l : List Nat), splA y cur k l ≠ []
  | _, _, [] => by unfold splA; simp
  | cur, k + 1, _ :: t => by unfold splA; exact splA_ne y cur k t
  | cur, 0, c :: t => by
    unfold splA
    split
    · simp
    · exact splA_ne y _ 0 t
theorem jn_spl (y z : List Nat) : ∀ (cur : List Nat) (k : Nat) (l : List Nat), jn z (splA y cur k l) = cur ++ rep y z k l
  | cur, _, [] => by unfold splA rep; simp [jn]
  | cur, k + 1, _ :: t => by unfold splA rep; exact jn_spl y z cur k t
  | cur, 0, c :: t => by
    unfold splA rep
    split
    · rw [jn_cons (splA_ne _ _ _ _), jn_spl y z [] _ t]; simp
    · rw [jn_spl y z _ 0 t]; simp
theorem subAt_mk (x y : List Nat) (i : Nat) : subAt (mkS x) (mkS y) i = ((x.drop i).take y.length == y) := by
  rw [subAt_eq, mkS_toList, mkS_toList, mkS_length]
theorem occ_go (x y : List Nat) (hy : y ≠ []) : ∀ (m cur : Nat) (found : Array Nat) (free : Nat), cur + m = x.length + 1 → found.size ≤ cur →
    ∃ C, (forIn (m := Id) (List.range' cur m) (found, free) (occBody (mkS x) (mkS y) x.length (x.length + 1))).run.fst.toList = found.toList ++ C ∧
      (∀ a, free ≤ cur → a ≤ cur → partsFrom (mkS x) y.length a C = (splA y ((x.drop a).take (cur - a)) 0 (x.drop cur)).map mkS) ∧
      (cur ≤ free → free ≤ x.length → partsFrom (mkS x) y.length free C = (splA y [] (free - cur) (x.drop cur)).map mkS)
  | 0, cur, found, free, hm, hf => by
    refine ⟨[], ?_, fun a h1 h2 => ?_, fun h1 h2 => by omega⟩
    · show found.toList = found.toList ++ []
      simp
    · have hd : x.drop cur = [] := List.drop_eq_nil_of_le (by omega)
      rw [hd]
      show [strSub (mkS x) a (mkS x).length] = [mkS _]
      rw [strSub_mk, mkS_length]
      congr 2
      rw [List.take_of_length_le (by rw [List.length_drop]; omega), List.take_of_length_le (by rw [List.length_drop]; omega)]
  | m + 1, cur, found, free, hm, hf => by
    have hyl : 0 < y.length := List.length_pos_iff.mpr hy
    rw [List.range'_succ, List.forIn_cons]
    unfold occBody
    rw [subAt_mk, mkS_length]
    by_cases hc : ((found.size < x.length + 1 ∧ free ≤ cur) ∧ cur + y.length ≤ x.length) ∧ ((x.drop cur).take y.length == y) = true
    · rw [if_pos hc]
      obtain ⟨C, e, _, h2⟩ := occ_go x y hy m (cur + 1) (found.push cur) (cur + y.length) (by omega) (by rw [Array.size_push]; omega)
      refine ⟨cur :: C, ?_, fun a hf1 ha => ?_, fun hf1 hf2 => ?_⟩
      · show (forIn (m := Id) (List.range' (cur + 1) m) (found.push cur, cur + y.length) (occBody (mkS x) (mkS y) x.length (x.length + 1))).run.fst.toList = _
        rw [e, Array.toList_push, List.append_assoc]; rfl
      · have hlt : cur < x.length := by omega
        have hcd : x.drop cur = x[cur] :: x.drop (cur + 1) := List.drop_eq_getElem_cons hlt
        have hpre : (x[cur] :: x.drop (cur + 1)).take y.length = y := by rw [← hcd]; exact eq_of_beq hc.2
        rw [hcd, splA, if_pos hpre, List.map_cons]
        show strSub (mkS x) a cur :: partsFrom (mkS x) y.length (cur + y.length) C = _
        rw [strSub_mk, h2 (by omega) hc.1.2]
        congr 3
        omega
      · obtain rfl : free = cur := by omega
        have hlt : free < x.length := by omega
        have hcd : x.drop free = x[free] :: x.drop (free + 1) := List.drop_eq_getElem_cons hlt
        have hpre : (x[free] :: x.drop (free + 1)).take y.length = y := by rw [← hcd]; exact eq_of_beq hc.2
        rw [Nat.sub_self, hcd, splA, if_pos hpre, List.map_cons]
        show strSub (mkS x) free free :: partsFrom (mkS x) y.length (free + y.length) C = _
        rw [strSub_mk, h2 (by omega) hc.1.2, Nat.sub_self, List.take_zero]
        congr 3
        omega
    · rw [if_neg hc]
      obtain ⟨C, e, h1, h2⟩ := occ_go x y hy m (cur + 1) found free (by omega) (by omega)
      have one : ∀ a, free ≤ cur → a ≤ cur → partsFrom (mkS x) y.length a C = (splA y ((x.drop a).take (cur - a)) 0 (x.drop cur)).map mkS := fun a hf1 ha => by
        rw [h1 a (by omega) (by omega)]
        by_cases hlt : cur < x.length
        · have hcd : x.drop cur = x[cur] :: x.drop (cur + 1) := List.drop_eq_getElem_cons hlt
          have hpre : ¬ (x[cur] :: x.drop (cur + 1)).take y.length = y := fun q => hc ⟨⟨⟨by omega, hf1⟩, by
            have := congrArg List.length q
            rw [List.length_take, ← hcd, List.length_drop] at this
            omega⟩, by rw [hcd, q]; simp⟩
          conv => rhs; rw [hcd, splA, if_neg hpre]
          congr 2
          rw [show cur + 1 - a = (cur - a) + 1 by omega, List.take_add_one]
          congr 1
          rw [List.getElem?_drop, show a + (cur - a) = cur by omega, List.getElem?_eq_getElem hlt]; rfl
        · have hd1 : x.drop cur = [] := List.drop_eq_nil_of_le (by omega)
          have hd2 : x.drop (cur + 1) = [] := List.drop_eq_nil_of_le (by omega)
          rw [hd1, hd2, splA, splA]
          congr 2
          rw [List.take_of_length_le (by rw [List.length_drop]; omega), List.take_of_length_le (by rw [List.length_drop]; omega)]
      refine ⟨C, ?_, one, fun hf1 hf2 => ?_⟩
      · exact e
      · by_cases hq : free = cur
        · subst hq
          rw [one free (Nat.le_refl _) (Nat.le_refl _), Nat.sub_self, List.take_zero]
        · have hlt : cur < x.length := by omega
          have hcd : x.drop cur = x[cur] :: x.drop (cur + 1) := List.drop_eq_getElem_cons hlt
          rw [h2 (by omega) hf2, hcd, show free - cur = (free - (cur + 1)) + 1 by omega, splA]
theorem occ_parts (x y : List Nat) (hy : y ≠ []) : partsFrom (mkS x) y.length 0 (occurrences (mkS x) (mkS y) 0 (mkS x).length ((mkS x).length + 1)) = (splA y [] 0 x).map mkS := by
  rw [occ_eq, mkS_length]
  obtain ⟨C, e, h1, _⟩ := occ_go x y hy (x.length + 1 - 0) 0 #[] 0 (by omega) (Nat.le_refl _)
  rw [e]
  have := h1 0 (Nat.le_refl _) (Nat.le_refl _)
  rw [Nat.sub_self, List.take_zero, List.drop_zero] at this
  simpa using this
theorem kind_one {y : List Nat} (h : ∀ c ∈ y, c < 256) : Builtin.Str.strKind (mkS y) = 1 := by
  unfold Builtin.Str.strKind
  rw [if_pos]
  rw [Array.all_eq_true']
  intro c hc
  exact decide_eq_true (h c (by simpa [mkS] using hc))
theorem kind_pos (x : Str) : 1 ≤ Builtin.Str.strKind x := by unfold Builtin.Str.strKind; split <;> (try split) <;> omega
theorem split_mk (x y : List Nat) (hy : y ≠ []) (hk : ∀ c ∈ y, c < 256) : Txt.split (mkS x) (mkS y) = (splA y [] 0 x).map mkS := by
  have hp := occ_parts x y hy
  have hlen := mkS_length y
  unfold Txt.split
  split
  · rename_i h
    rw [Bool.or_eq_true, decide_eq_true_eq, decide_eq_true_eq, kind_one hk] at h
    have hk1 := kind_pos (mkS x)
    have hlt : (mkS x).length < (mkS y).length := h.resolve_right (by omega)
    obtain ⟨f, hc⟩ := occ_chain (mkS x) (mkS y) ((mkS x).length + 1)
    cases ho : occurrences (mkS x) (mkS y) 0 (mkS x).length ((mkS x).length + 1) with
    | nil =>
      rw [ho] at hp
      rw [← hp]
      show [mkS x] = [strSub (mkS x) 0 (mkS x).length]
      rw [sub_whole]
    | cons i r =>
      rw [ho] at hc
      have := hc.2.1.1
      omega
  · split
    · rename_i h
      rw [List.isEmpty_iff.mp h] at hp
      rw [← hp]
      show [mkS x] = [strSub (mkS x) 0 (mkS x).length]
      rw [sub_whole]
    · rw [partsBetween_eq, hlen]; exact hp
theorem replace_mk (x y z : List Nat) (hy : y ≠ []) : Txt.replace (mkS x) (mkS y) (mkS z) = mkS (rep y z 0 x) := by
  have hp := occ_parts x y hy
  have hlen := mkS_length y
  have hj := jn_spl y z [] 0 x
  rw [List.nil_append] at hj
  have hyl : 0 < y.length := List.length_pos_iff.mpr hy
  have h0 : ((mkS y).length == 0) = false := by rw [hlen]; exact beq_eq_false_iff_ne.mpr (by omega)
  unfold Txt.replace
  rw [h0, Bool.false_and, Bool.or_false]
  split
  · rename_i h
    rw [List.isEmpty_iff.mp h] at hp
    rw [← hj]
    have e : splA y [] 0 x = [x] := by
      have : [strSub (mkS x) 0 (mkS x).length] = (splA y [] 0 x).map mkS := hp
      rw [sub_whole] at this
      cases hs : splA y [] 0 x with
      | nil => rw [hs] at this; cases this
      | cons a l =>
        rw [hs] at this
        cases l with
        | nil => 
          have := List.cons.inj this
          rw [mkS_inj this.1]
        | cons b l => cases this
    rw [e]; rfl
  · rw [partsBetween_eq, hlen, hp, ← hj]; exact join_mk z _
theorem rows_spl : ∀ (k : Nat) (x cur : List Nat), x.length ≤ k → splA [10] cur 0 (rep [13] [10] 0 (rep [13, 10] [10] 0 x)) = rowsA cur x
  | _, [], cur, _ => rfl
  | 0, c :: t, cur, hk => by simp at hk
  | k + 1, c :: t, cur, hk => by
    have hk' : t.length ≤ k := by simpa using hk
    have nl : ∀ (l : List Nat), splA [10] cur 0 (10 :: l) = cur :: splA [10] [] 0 l := fun l => by
      rw [splA, if_pos (by simp)]; rfl
    by_cases h13 : c = 13
    · subst h13
      by_cases h10 : ∃ r, t = 10 :: r
      · obtain ⟨r, rfl⟩ := h10
        rw [rowsA_crlf, ← rows_spl k r [] (by simp at hk'; omega)]
        have e1 : rep [13, 10] [10] 0 (13 :: 10 :: r) = 10 :: rep [13, 10] [10] 0 r := by
          rw [rep, if_pos (by simp)]
          show [10] ++ rep [13, 10] [10] 1 (10 :: r) = _
          rw [rep]; rfl
        have e2 : ∀ l, rep [13] [10] 0 (10 :: l) = 10 :: rep [13] [10] 0 l := fun l => by rw [rep, if_neg (by simp)]
        rw [e1, e2, nl]
      · have hh : t.head? ≠ some 10 := by
          intro q
          cases t with
          | nil => cases q
          | cons d t => exact h10 ⟨t, by rw [show d = 10 by simpa using q]⟩
        rw [rowsA_cr _ _ hh, ← rows_spl k t [] hk']
        have e1 : rep [13, 10] [10] 0 (13 :: t) = 13 :: rep [13, 10] [10] 0 t := by
          rw [rep, if_neg]
          intro q
          cases t with
          | nil => simp at q
          | cons d t => simp at q; exact hh (by rw [q]; rfl)
        have e2 : ∀ l, rep [13] [10] 0 (13 :: l) = 10 :: rep [13] [10] 0 l := fun l => by rw [rep, if_pos (by simp)]; rfl
        rw [e1, e2, nl]
    · by_cases h10 : c = 10
      · subst h10
        rw [rowsA_lf, ← rows_spl k t [] hk']
        have e1 : rep [13, 10] [10] 0 (10 :: t) = 10 :: rep [13, 10] [10] 0 t := by rw [rep, if_neg (by simp)]
        have e2 : ∀ l, rep [13] [10] 0 (10 :: l) = 10 :: rep [13] [10] 0 l := fun l => by rw [rep, if_neg (by simp)]
        rw [e1, e2, nl]
      · rw [rowsA_other _ _ c h13 h10, ← rows_spl k t (cur ++ [c]) hk']
        have e1 : rep [13, 10] [10] 0 (c :: t) = c :: rep [13, 10] [10] 0 t := by rw [rep, if_neg (by simp [h13])]
        have e2 : ∀ l, rep [13] [10] 0 (c :: l) = c :: rep [13] [10] 0 l := fun l => by rw [rep, if_neg (by simp [h13])]
        rw [e1, e2, splA, if_neg (by simp [h10])]
/-- the law's rows -/
theorem law_rows (x : List Nat) : Txt.split (Txt.replace (Txt.replace (mkS x) (mkS [13, 10]) (mkS [10])) (mkS [13]) (mkS [10])) (mkS [10]) = (rowsOf x).map mkS := by
  rw [replace_mk _ _ _ (by simp), replace_mk _ _ _ (by simp), split_mk _ _ (by simp) (by simp)]
  congr 1
  exact rows_spl x.length x [] (Nat.le_refl _)
theorem rep_len (y z : List Nat) (hz : z.length ≤ 1) : ∀ (k : Nat) (l : List Nat), (rep y z k l).length ≤ l.length
  | _, [] => by unfold rep; exact Nat.le_refl _
  | k + 1, _ :: t => by unfold rep; have := rep_len y z hz k t; rw [List.length_cons]; omega
  | 0, c :: t => by
    unfold rep
    split
    · have := rep_len y z hz (y.length - 1) t; rw [List.length_append, List.length_cons]; omega
    · have := rep_len y z hz 0 t; rw [List.length_cons, List.length_cons]; omega
end Mine
end
section
set_option maxRecDepth 100000
set_option maxHeartbeats 1000000
namespace Mine
theorem anew35 : True := by
  w_top off
  first | walk1 | trivial
open PySem PySem.W PySem.Calls PyProof.Rows
local macro_rules | `(tactic| walk_at "eval Name") => `(tactic| first
  | refine nm_local rfl rfl (Fr.ns (by assumption)) rfl ?_
  | ((with_reducible show wpAny _ _ (eval (PySem.Expr.Name (Str.ofString "body_encode") _) _) _ _ _); refine nm_glob rfl rfl rfl (fr_top (by assumption) (by assumption)) (g_be _) ?_))
local macro_rules | `(tactic| walk_at "storeName") => `(tactic| (refine storeX_L (by assumption) (by assumption) ?_; intro _ _ _))
local macro_rules | `(tactic| walk_at "callWith") => `(tactic| ((with_reducible show wpAny _ _ (callWith _ (Value.ref 50) [] _ _) _ _ _); refine callWith_fn ?_))
theorem rep1 {w : World} {A : Around} {E : Value → Shared → Prop} {s : Shared} {x : List Nat} {ys zs : Str} {t u v : Tok} {Q : Value → Shared → Prop} (y z : List Nat) (ey : ys = mkS y) (ez : zs = mkS z) (hu : u ≠ 0) (hv : v ≠ 0) (huv : u ≠ v) (hy : y ≠ []) (hyz : (mkS y == mkS z) = false) (hx : x.length ≤ 4000) (hz : z.length ≤ 1) (hs : 1 ≤ s.toks)
    (hq : ∀ t' k, 1 ≤ k → Q (.str (mkS (rep y z 0 x)) t') { s with toks := k }) : wpAny (model PR w) A (call (.builtin "str.replace") [.str (mkS x) t, .str ys u, .str zs v]) Q E s := by
  subst ey ez
  refine wpAny_with_toks (n := 1) hs ?_
  refine SC.replaceW hu hv huv hyz (by rw [mkS_length]; omega) (by rw [mkS_length]; omega) fun t' k hk => ?_
  rw [replace_mk _ _ _ hy]
  exact hq t' k hk
theorem spl1 {w : World} {A : Around} {E : Value → Shared → Prop} {s : Shared} {h₀ : Heap} {L : Addr} {m : Str → Option Value} {news : List (Addr × Obj)} {x : List Nat} {ys : Str} {t u : Tok} {Q : Value → Shared → Prop} (y : List Nat) (F : Fr h₀ L s.heap m) (N : News h₀ L s.heap news) (ey : ys = mkS y) (hy : y ≠ []) (hk : ∀ c ∈ y, c < 256) (hx : x.length ≤ 100000)
    (h : ∀ h' k vs, StrsAre vs ((splA y [] 0 x).map mkS) → Fr h₀ L h' m → News h₀ L h' ((s.heap.objs.size, lst vs 0) :: news) → Q (.ref s.heap.objs.size) { s with heap := h', toks := k }) :
    wpAny (model PR w) A (call (.builtin "str.split") [.str (mkS x) t, .str ys u]) Q E s := by
  subst ey
  have hyl := List.length_pos_iff.mpr hy
  refine splitN1A F N (by rw [mkS_length]; exact beq_eq_false_iff_ne.mpr (by omega)) (fun l h' k e hS _ _ F' N' => ?_) (by rw [mkS_length, sizeLine_eq]; omega)
  rw [split_mk x y hy hk] at e
  rw [e] at hS
  exact h h' k _ hS F' N'
theorem o_crlf : Str.ofString "\r\n" = mkS [13, 10] := by decide +kernel
theorem o_cr : Str.ofString "\r" = mkS [13] := by decide +kernel
theorem o_lf : Str.ofString "\n" = mkS [10] := by decide +kernel
local macro_rules | `(tactic| walk_at "call builtin:str.replace") => `(tactic| (refine rep1 [13, 10] [10] o_crlf o_lf (Nat.pos_iff_ne_zero.mp ?_) (Nat.pos_iff_ne_zero.mp ?_) (Nat.ne_of_lt ?_) (by simp) (by decide) ?_ (by decide) ?_ ?_; (iterate 3 (· dsimp only; omega)); (· omega); (· dsimp only; omega); intro _ _ _; dsimp only))
local macro_rules | `(tactic| walk_at "call builtin:str.replace") => `(tactic| (refine rep1 [13] [10] o_cr o_lf (Nat.pos_iff_ne_zero.mp ?_) (Nat.pos_iff_ne_zero.mp ?_) (Nat.ne_of_lt ?_) (by simp) (by decide) ?_ (by decide) ?_ ?_; (iterate 3 (· dsimp only; omega)); (· omega); (· dsimp only; omega); intro _ _ _; dsimp only))
local macro_rules | `(tactic| walk_at "call builtin:str.split") => `(tactic| (refine spl1 [10] (by assumption) (by assumption) o_lf (by simp) (by simp) ?_ ?_; (· omega); intro _ _ _ _ _ _; dsimp only))
noncomputable def lawBase (x ee : List Nat) (R : Addr) (tx te : Tok) : List (Str × Value) := [("text", .str (mkS x) tx), ("eol", .str (mkS ee) te), ("rows", .ref R)]
local macro_rules | `(tactic| walk_at "known") => `(tactic| (repeat' (first | exact List.forall_mem_nil _ | refine List.forall_mem_cons.mpr ⟨rfl, ?_⟩)))
theorem law_d {w : World} {A : Around} {s₀ s : Shared} {L : Addr} {nm : Str} {Q : Flow → Shared → Prop} {E : Value → Shared → Prop} {mean mg mb} {m : Str → Option Value} {oc : Obj} {x ee : List Nat} {tx te : Tok} (T : Top vq (looseW vq looseN) mean mg mb s₀.heap)
    (Y : TopH w s₀.heap) (hh : A.handled = none)
    (F : Fr s₀.heap L s.heap (over [("text", .str (mkS x) tx), ("eol", .str (mkS ee) te)] m)) (N : News s₀.heap L s.heap [(L + 1, oc)]) (e : SameBut' s₀ s) (hx : x.length ≤ 4000) (htk : 1 ≤ s.toks)
    (h : ∀ s' m' R vs ep, SameBut' s₀ s' → Fr s₀.heap L s'.heap m' → (∀ p ∈ lawBase x ee R tx te, m' p.1 = some p.2) → News s₀.heap L s'.heap [(R, lst vs ep), (L + 1, oc)] → StrsAre vs ((rowsOf x).map mkS) → wpAny (model PR w) A (execs ((fBody (stm 22)).drop 5) (lawEnv nm L)) Q E s') :
    wpAny (model PR w) A (execs ((fBody (stm 22)).drop 4) (lawEnv nm L)) Q E s := by
  w_on
  obtain ⟨hp, tk, rfl⟩ := e
  have hmx := mkS_length x
  dsimp only at htk
  have hr1 := rep_len [13, 10] [10] (by decide) 0 x
  have hr2 := rep_len [13] [10] (by decide) 0 (rep [13, 10] [10] 0 x)
  refine wpAny_execs_cons ?_
  iterate 28 walk1
  (with_reducible rename StrsAre _ _ => hS)
  rw [rows_spl x.length x [] (Nat.le_refl _)] at hS
  refine' h _ _ _ _ _ ⟨_, _, rfl⟩ (by assumption) ?_ (by assumption) hS
  unfold lawBase
  walk_at "known"
end Mine
end
section
set_option maxRecDepth 100000
set_option maxHeartbeats 1000000
namespace Mine
open PySem PySem.W PySem.Calls PyProof.Rows
theorem fold_tot (n : Nat) : ∀ (sgs : List (List Nat)) (st : List (List Nat) × List Nat × Nat), lenS (sgs.foldl (lStep n) st).1 + (sgs.foldl (lStep n) st).2.1.length ≤ lenS st.1 + st.2.1.length + lenS sgs + sgs.length
  | [], st => by simp [lenS]
  | sg :: sgs, st => by
    have ih := fold_tot n sgs (lStep n st sg)
    rw [List.foldl_cons, lenS_cons, List.length_cons]
    have : lenS (lStep n st sg).1 + (lStep n st sg).2.1.length ≤ lenS st.1 + st.2.1.length + sg.length + 1 := by
      unfold lStep
      split
      · dsimp only
        rw [lenS_app, lenS_cons, List.length_append]
        show _ + (_ + 1 + 0) + _ ≤ _
        omega
      · dsimp only; rw [List.length_append]; omega
    omega
theorem lLines_count (n : Nat) (x : List Nat) : (lLines n x).length ≤ x.length + 2 ∧ lenS (lLines n x) ≤ 4 * x.length + 4 := by
  have h1 := fold_facts n (x.map octL) ([], [], lenS (x.map octL) + lTail x)
  have h2 := fold_tot n (x.map octL) ([], [], lenS (x.map octL) + lTail x)
  have h3 := lenS_oct x
  rw [List.length_map] at h1 h2
  simp only [List.length_nil, Nat.zero_add] at h1 h2
  have e0 : lenS [] = 0 := rfl
  rw [e0] at h2
  unfold lLines lRun lEnds
  generalize (x.map octL).foldl (lStep n) ([], [], lenS (x.map octL) + lTail x) = st at h1 h2
  obtain ⟨done, cur, lf⟩ := st
  dsimp only at h1 h2 ⊢
  split
  · rw [List.length_append, lenS_app, lenS_cons, lenS_cons, List.length_append]
    show _ + 2 ≤ _ ∧ _ + (_ + 1 + (0 + 0)) ≤ _
    omega
  · split
    · rw [List.length_append, lenS_app, lenS_cons, List.length_append, List.length_dropLast]
      show _ + 1 ≤ _ ∧ _ + (_ + 3 + 0) ≤ _
      omega
    · rw [List.length_append, lenS_app, lenS_cons]
      show _ + 1 ≤ _ ∧ _ + (_ + 0) ≤ _
      omega
theorem lrows_count (n : Nat) : ∀ rows : List (List Nat), (rows.flatMap (lLines n)).length ≤ rowSum rows + 2 * rows.length ∧ lenS (rows.flatMap (lLines n)) ≤ 4 * rowSum rows + 4 * rows.length
  | [] => by simp [rowSum, lenS]
  | r :: rows => by
    have ih := lrows_count n rows
    have h1 := lLines_count n r
    rw [List.flatMap_cons, List.length_append, lenS_app]
    simp only [rowSum, List.map_cons, List.sum_cons, List.length_cons] at ih ⊢
    omega
theorem lrows_weight {n : Nat} {x : List Nat} (hx : x.length ≤ 4000) :
    ((((rowsOf x).flatMap (lLines n)).map mkS).map (·.length)).sum + (((rowsOf x).flatMap (lLines n)).map mkS).length * 64 ≤ 16777216 ∧ ((rowsOf x).flatMap (lLines n)).length ≤ 12100 := by
  have h1 := lrows_count n (rowsOf x)
  have h2 := rowsA_count x.length x [] (Nat.le_refl _)
  rw [sum_mkS, List.length_map]
  unfold rowsOf at h1 ⊢
  simp only [List.length_nil] at h2
  omega
theorem rows_short : ∀ {x : List Nat} {r : List Nat}, r ∈ rowsOf x → r.length ≤ x.length := by
  intro x r hr
  have h2 := rowsA_count x.length x [] (Nat.le_refl _)
  simp only [List.length_nil, Nat.zero_add] at h2
  have : ∀ (l : List (List Nat)), r ∈ l → r.length ≤ rowSum l := by
    intro l
    induction l with
    | nil => intro h; cases h
    | cons a l ih =>
      intro h
      simp only [rowSum, List.map_cons, List.sum_cons] at ih ⊢
      rcases List.mem_cons.mp h with rfl | h
      · omega
      · have := ih h; omega
  have := this _ hr
  unfold rowsOf at this
  omega
theorem rows_fine {x : List Nat} (hx : x.length ≤ 4000) (hx8 : ∀ c ∈ x, c < 256) : ∀ r ∈ rowsOf x, r.length ≤ 4000 ∧ ∀ c ∈ r, c < 256 := fun r hr =>
  ⟨Nat.le_trans (rows_short hr) hx, fun c hc => (rows_ok x.length x [] (Nat.le_refl _) hx8 (fun _ q => by cases q) r hr c hc).1⟩
end Mine
end
section
open PySem PySem.W PySem.Calls PyProof.Rows Mine
local macro_rules | `(tactic| walk_at "storeName") => `(tactic| (refine storeX_L (by assumption) (by assumption) ?_; intro _ _ _))
section
set_option maxRecDepth 100000
set_option maxHeartbeats 1000000
set_option linter.unusedVariables false
namespace Mine
theorem anew37 : True := by
  w_top off
  first | walk1 | trivial
open PySem PySem.W PySem.Calls PyProof.Rows
local macro_rules | `(tactic| walk_at "eval Name") => `(tactic| first
  | refine nm_local rfl rfl (Fr.ns (by assumption)) rfl ?_
  | ((with_reducible show wpAny _ _ (eval (PySem.Expr.Name (Str.ofString "body_encode") _) _) _ _ _); refine nm_glob rfl rfl rfl (fr_top (by assumption) (by assumption)) (g_be _) ?_))
local macro_rules | `(tactic| walk_at "callWith") => `(tactic| ((with_reducible show wpAny _ _ (callWith _ (Value.ref 50) [] _ _) _ _ _); refine callWith_fn ?_))
theorem at_be1 {w : World} {A : Around} {s : Shared} {h₀ : Heap} {L : Addr} {m : Str → Option Value} {news : List (Addr × Obj)} {Q : Value → Shared → Prop} {E : Value → Shared → Prop} {mean mg mb} {x : List Nat} {t1 : Tok} (T : Top vq (looseW vq looseN) mean mg mb h₀) (Y : TopH w h₀) (F : Fr h₀ L s.heap m) (N : News h₀ L s.heap news)
    (hh : A.handled = none) (hroom : A.depth + 1 < recursionLimit) (hx : x.length ≤ 4000) (hx8 : ∀ c ∈ x, c < 256)
    (h : ∀ tok h' tk, Fr h₀ L h' m → News h₀ L h' news → Q (.str (beRes 76 [10] x) tok) { s with heap := h', toks := tk }) : AtFn (model PR w) A Q E 50 [.str (mkS x) t1] s := by
  have Ys := fr_top F Y
  refine ⟨⟨_, _, Ys 50 _ rfl, rfl⟩, be_call1 (T.keeps F.keep) Ys hh hroom hx hx8 fun tok s' X => ?_⟩
  have F' := fr_ext F X
  have N' := news_ext N X
  obtain ⟨_, h', tk, rfl⟩ := X
  exact h tok h' tk F' N'
theorem law_e {w : World} {A : Around} {s₀ s : Shared} {L R : Addr} {nm : Str} {Q : Flow → Shared → Prop} {E : Value → Shared → Prop} {mean mg mb} {m : Str → Option Value} {oc : Obj} {x ee : List Nat} {tx te : Tok} {vs : List Value} {ep : Nat} (T : Top vq (looseW vq looseN) mean mg mb s₀.heap)
    (Y : TopH w s₀.heap) (hh : A.handled = none) (hroom : A.depth + 1 < recursionLimit)
    (F : Fr s₀.heap L s.heap m) (hm : ∀ p ∈ lawBase x ee R tx te, m p.1 = some p.2) (N : News s₀.heap L s.heap [(R, lst vs ep), (L + 1, oc)]) (hv : StrsAre vs ((rowsOf x).map mkS)) (e : SameBut' s₀ s) (hx : x.length ≤ 4000) (hx8 : ∀ c ∈ x, c < 256)
    (h : ∀ s', SameBut' s₀ s' → Fr s₀.heap L s'.heap m → News s₀.heap L s'.heap [(R, lst vs ep), (L + 1, oc)] → wpAny (model PR w) A (execs ((fBody (stm 22)).drop 6) (lawEnv nm L)) Q E s') :
    wpAny (model PR w) A (execs ((fBody (stm 22)).drop 5) (lawEnv nm L)) Q E s := by
  w_on
  obtain ⟨hp, tk, rfl⟩ := e
  rw [← over_eq hm] at F
  unfold lawBase at F
  refine wpAny_execs_cons ?_
  iterate 8 walk1
  refine at_be1 T Y F N hh hroom hx hx8 fun tok h' tk' F' N' => ?_
  dsimp only
  clear F N
  iterate 4 walk1
  walk1
  refine law_comp76 T Y hh hroom F' N' rfl (.head _) hv (rows_fine hx hx8) (by have := (lrows_weight (n := 76) hx).2; rw [sizeLine_eq]; omega) ?_
  intro D h2 tk2 ys k F2 N2 hys
  dsimp only
  clear F' N'
  walk1
  refine join_listC (items := ys.toArray) (ys := ((rowsOf x).flatMap (lLines 76)).map mkS) ⟨_, (N2 _ (.head _)).1, rfl, k, rfl⟩ (by simpa using hys) (by decide) (lrows_weight hx).1 fun t' k' => ?_
  have hb : Txt.join (Str.ofString "\n") (((rowsOf x).flatMap (lLines 76)).map mkS) = beRes 76 [10] x := by
    rw [beRes_eq (by decide) [10] hx8, o_lf, join_mk]
  rw [hb]
  dsimp only
  have N3 := News.sub (b := [(R, lst vs ep), (L + 1, oc)]) N2 (fun p hp => .tail _ hp)
  have F3 : Fr s₀.heap L h2 (over (lawBase x ee R tx te) m) := F2
  rw [over_eq hm] at F3
  clear F2 N2
  iterate 3 walk1
  · rename_i hf
    exfalso
    simp at hf
  · walk1
    exact h _ ⟨_, _, rfl⟩ F3 N3
end Mine
end
section
set_option maxRecDepth 100000
set_option maxHeartbeats 1000000
set_option linter.unusedVariables false
namespace Mine
theorem anew38 : True := by
  w_top off
  first | walk1 | trivial
open PySem PySem.W PySem.Calls PyProof.Rows
theorem cell_of {h₀ h : Heap} {L c : Addr} {news : List (Addr × Obj)} {oc : Obj} {v : Value} (N : News h₀ L h news) (hoc : oc.data = .cell (some v)) (hm : (c, oc) ∈ news) : h.IsCell c (some v) := ⟨oc, (N _ hm).1, hoc⟩
local macro_rules | `(tactic| walk_at "eval Name") => `(tactic| first
  | refine nm_local rfl rfl (Fr.ns (by assumption)) rfl ?_
  | refine nm_cell rfl rfl rfl (cell_of (by assumption) (by assumption) (by first | exact .head _ | exact .tail _ (.head _) | exact .tail _ (.tail _ (.head _)))) ?_
  | ((with_reducible show wpAny _ _ (eval (PySem.Expr.Name (Str.ofString "body_encode") _) _) _ _ _); refine nm_glob rfl rfl rfl (fr_top (by assumption) (by assumption)) (g_be _) ?_))
local macro_rules | `(tactic| walk_at "callWith") => `(tactic| ((with_reducible show wpAny _ _ (callWith _ (Value.ref 50) [] _ _) _ _ _); refine callWith_fn ?_))
theorem at_be3 {w : World} {A : Around} {s : Shared} {h₀ : Heap} {L : Addr} {m : Str → Option Value} {news : List (Addr × Obj)} {Q : Value → Shared → Prop} {E : Value → Shared → Prop} {mean mg mb} {x ee : List Nat} {n : Nat} {t1 t2 t3 : Tok} (T : Top vq (looseW vq looseN) mean mg mb h₀) (Y : TopH w h₀) (F : Fr h₀ L s.heap m) (N : News h₀ L s.heap news)
    (hh : A.handled = none) (hroom : A.depth + 1 < recursionLimit) (hn : 4 ≤ n) (hx : x.length ≤ 4000) (hx8 : ∀ c ∈ x, c < 256) (he : ee.length ≤ 2)
    (h : ∀ tok h' tk, Fr h₀ L h' m → News h₀ L h' news → Q (.str (beRes n ee x) tok) { s with heap := h', toks := tk }) : AtFn (model PR w) A Q E 50 [.str (mkS x) t1, .int (n : Int) t2, .str (mkS ee) t3] s := by
  have Ys := fr_top F Y
  refine ⟨⟨_, _, Ys 50 _ rfl, rfl⟩, be_call3 (T.keeps F.keep) Ys hh hroom hn hx hx8 he fun tok s' X => ?_⟩
  have F' := fr_ext F X
  have N' := news_ext N X
  obtain ⟨_, h', tk, rfl⟩ := X
  exact h tok h' tk F' N'
theorem law_f {w : World} {A : Around} {s₀ s : Shared} {L R : Addr} {nm : Str} {Q : Flow → Shared → Prop} {E : Value → Shared → Prop} {mean mg mb} {m : Str → Option Value} {oc : Obj} {x ee : List Nat} {tx te tn : Tok} {n : Nat} {vs : List Value} {ep : Nat} (T : Top vq (looseW vq looseN) mean mg mb s₀.heap)
    (Y : TopH w s₀.heap) (hh : A.handled = none) (hroom : A.depth + 1 < recursionLimit) (hn : 4 ≤ n) (hoc : oc.data = .cell (some (.int (n : Int) tn)))
    (F : Fr s₀.heap L s.heap m) (hm : ∀ p ∈ lawBase x ee R tx te, m p.1 = some p.2) (N : News s₀.heap L s.heap [(R, lst vs ep), (L + 1, oc)]) (hv : StrsAre vs ((rowsOf x).map mkS)) (e : SameBut' s₀ s) (hx : x.length ≤ 4000) (hx8 : ∀ c ∈ x, c < 256) (he : ee.length ≤ 2)
    (h : ∀ s', Ext s₀ s' → Q (.ret (.bool true)) s') :
    wpAny (model PR w) A (execs ((fBody (stm 22)).drop 6) (lawEnv nm L)) Q E s := by
  w_on
  obtain ⟨hp, tk, rfl⟩ := e
  rw [← over_eq hm] at F
  unfold lawBase at F
  refine wpAny_execs_cons ?_
  repeat' walk1
  refine at_be3 T Y F N hh hroom hn hx hx8 he fun tok h' tk' F' N' => ?_
  dsimp only
  clear F N
  repeat' walk1
  · (with_reducible rename Fr _ _ _ _ => F2)
    (with_reducible rename News _ _ _ _ => N2)
    refine law_compN (n := n) (tn := tn) (oc := oc) T Y hh hroom F2 N2 rfl (.head _) hv hn (.tail _ (.head _)) hoc (rows_fine hx hx8) (by have := (lrows_weight (n := n) hx).2; rw [sizeLine_eq]; omega) ?_
    intro D h3 tk3 ys k F3 N3 hys
    dsimp only
    clear F2 N2
    walk1
    have hel : (mkS ee).length ≤ 2 := by rw [mkS_length]; exact he
    refine join_listC (items := ys.toArray) (ys := ((rowsOf x).flatMap (lLines n)).map mkS) ⟨_, (N3 _ (.head _)).1, rfl, k, rfl⟩ (by simpa using hys) (by omega) (lrows_weight hx).1 fun t' k' => ?_
    have hb : Txt.join (mkS ee) (((rowsOf x).flatMap (lLines n)).map mkS) = beRes n ee x := by
      rw [beRes_eq hn ee hx8, join_mk]
    rw [hb]
    dsimp only
    repeat' walk1
    rw [show (beRes n ee x == beRes n ee x) = true by simp]
    exact h _ ⟨F3.keep, ⟨_, _, rfl⟩⟩
  · exfalso; omega
end Mine
end
section
set_option maxRecDepth 100000
set_option maxHeartbeats 1000000
set_option linter.unusedVariables false
namespace Mine
theorem anew39 : True := by
  w_top off
  first | walk1 | trivial
open PySem PySem.W PySem.Calls PyProof.Rows
local macro_rules | `(tactic| walk_at "eval Name") => `(tactic| first
  | refine nm_local rfl rfl (Fr.ns (by assumption)) rfl ?_
  | refine nm_cell rfl rfl rfl (cell_of (by assumption) (by assumption) (by first | exact .head _ | exact .tail _ (.head _) | exact .tail _ (.tail _ (.head _)))) ?_
  | ((with_reducible show wpAny _ _ (eval (PySem.Expr.Name (Str.ofString "body_encode") _) _) _ _ _); refine nm_glob rfl rfl rfl (fr_top (by assumption) (by assumption)) (g_be _) ?_))
local macro_rules | `(tactic| walk_at "callWith") => `(tactic| ((with_reducible show wpAny _ _ (callWith _ (Value.ref 50) [] _ _) _ _ _); refine callWith_fn ?_))
theorem law_g {w : World} {A₀ : Around} {s₀ s : Shared} {L R : Addr} {nm : Str} {Q : Flow → Shared → Prop} {mean mg mb} {m : Str → Option Value} {oc : Obj} {x ee : List Nat} {tx te tn : Tok} {n : Int} {vs : List Value} {ep : Nat} (T : Top vq (looseW vq looseN) mean mg mb s₀.heap)
    (Y : TopH w s₀.heap) (K : Below A₀ s₀.heap [] s₀.heap) (hh : A₀.handled = none) (hroom : A₀.depth + 2 < recursionLimit) (hn : n < 4) (hoc : oc.data = .cell (some (.int n tn)))
    (F : Fr s₀.heap L s.heap m) (hm : ∀ p ∈ lawBase x ee R tx te, m p.1 = some p.2) (N : News s₀.heap L s.heap [(R, lst vs ep), (L + 1, oc)]) (e : SameBut' s₀ s)
    (h : ∀ s', Ext s₀ s' → Q (.ret (.bool true)) s') :
    wpAny (model PR w) (A₀.deeper (lawEnv nm L)) (execs ((fBody (stm 22)).drop 6) (lawEnv nm L)) Q (fun _ _ => False) s := by
  w_on
  obtain ⟨hp, tk, rfl⟩ := e
  rw [← over_eq hm] at F
  unfold lawBase at F
  have hhD : (A₀.deeper (lawEnv nm L)).handled = none := hh
  have hrD : (A₀.deeper (lawEnv nm L)).depth < recursionLimit := by show A₀.depth + 1 < _; omega
  refine wpAny_execs_cons ?_
  repeat' walk1
  obtain ⟨FG, BG, st, _⟩ := groundX (R := fun _ _ => True) (A := A₀.deeper (lawEnv nm L)) (env := lawEnv nm L) K F N (Around.frames_deeper K.stack) rfl rfl
  have Ys := fr_top F Y
  refine ⟨⟨_, _, Ys 50 _ rfl, rfl⟩, be_raise (news := [(R, lst vs ep), (L + 1, oc)]) (T.keeps F.keep) Ys hhD hrD hn BG (fun b o e => of_hideAll _ e) (Nat.le_of_eq (hideAll_size _ _)) (fun p hp => ⟨(N p hp).1, hideAll_none _ (List.mem_map_of_mem hp)⟩) ?_⟩
  intro e t us h' tk' hR hU
  refine caught_X K FG hU hR T Y rfl rfl rfl rfl rfl ?_
  intro h2 F2 N2
  clear F N FG
  dsimp only
  refine wpAny_execs_cons ?_
  repeat' walk1
  rw [decide_eq_true hn]
  exact h _ ⟨F2.keep, ⟨_, _, rfl⟩⟩
/-- statements 4 to the end -/
theorem law_h {w : World} {A₀ : Around} {s₀ s : Shared} {L : Addr} {nm : Str} {Q : Flow → Shared → Prop} {mean mg mb} {m : Str → Option Value} {oc : Obj} {x ee : List Nat} {tx te tn : Tok} {n : Int} (T : Top vq (looseW vq looseN) mean mg mb s₀.heap)
    (Y : TopH w s₀.heap) (K : Below A₀ s₀.heap [] s₀.heap) (hh : A₀.handled = none) (hroom : A₀.depth + 2 < recursionLimit) (hoc : oc.data = .cell (some (.int n tn)))
    (F : Fr s₀.heap L s.heap m) (hm : ∀ p ∈ [(("text" : Str), Value.str (mkS x) tx), ("eol", .str (mkS ee) te)], m p.1 = some p.2) (N : News s₀.heap L s.heap [(L + 1, oc)]) (e : SameBut' s₀ s) (hx : x.length ≤ 4000) (hx8 : ∀ c ∈ x, c < 256) (he : ee.length ≤ 2) (htk : 1 ≤ s.toks)
    (h : ∀ s', Ext s₀ s' → Q (.ret (.bool true)) s') :
    wpAny (model PR w) (A₀.deeper (lawEnv nm L)) (execs ((fBody (stm 22)).drop 4) (lawEnv nm L)) Q (fun _ _ => False) s := by
  have hhD : (A₀.deeper (lawEnv nm L)).handled = none := hh
  have hrD : (A₀.deeper (lawEnv nm L)).depth + 1 < recursionLimit := by show A₀.depth + 1 + 1 < _; omega
  refine law_d T Y hhD (fr_over F hm) N e hx htk fun s' m' R vs ep e' F' hm' N' hv => ?_
  refine law_e T Y hhD hrD F' hm' N' hv e' hx hx8 fun s2 e2 F2 N2 => ?_
  by_cases hn : n < 4
  · exact law_g T Y K hh hroom hn hoc F2 hm' N2 e2 h
  · obtain ⟨k, rfl⟩ : ∃ k : Nat, n = k := ⟨n.toNat, by omega⟩
    exact law_f T Y hhD hrD (by omega) hoc F2 hm' N2 hv e2 hx hx8 he h
end Mine
end
section
set_option maxRecDepth 100000
set_option maxHeartbeats 1000000
set_option linter.unusedVariables false
namespace Mine
theorem anew40 : True := by
  w_top off
  first | walk1 | trivial
open PySem PySem.W PySem.Calls PyProof.Rows
local macro_rules | `(tactic| walk_at "eval Name") => `(tactic| first
  | refine nm_local rfl rfl (Fr.ns (by assumption)) rfl ?_
  | ((with_reducible show wpAny _ _ (eval (PySem.Expr.Name (Str.ofString "len") _) _) _ _ _); refine nm_boot rfl rfl rfl rfl (by assumption) (Fr.keep (by assumption)) (fr_top (by assumption) (by assumption)) (gn_len _) bo_len (by decide) ?_)
  | ((with_reducible show wpAny _ _ (eval (PySem.Expr.Name (Str.ofString "_law_text") _) _) _ _ _); refine nm_glob rfl rfl rfl (fr_top (by assumption) (by assumption)) (g_text _) ?_))
local macro_rules | `(tactic| walk_at "callWith") => `(tactic| ((with_reducible show wpAny _ _ (callWith _ (Value.ref 57) [] _ _) _ _ _); refine callWith_fn ?_))
local macro_rules | `(tactic| walk_at "known") => `(tactic| (repeat' (first | exact List.forall_mem_nil _ | refine List.forall_mem_cons.mpr ⟨rfl, ?_⟩)))
theorem head_int {vs : List Value} {ns : List Int} (hi : IntsAre vs ns) (t : Tok) : ∃ hd th, (vs ++ [Value.int 40 t])[((0 : Int)).toNat]? = some (.int hd th) := by
  cases hi with
  | nil => exact ⟨40, t, rfl⟩
  | cons n t' _ => exact ⟨n, t', rfl⟩
theorem eol_pick {k : Int} (h0 : 0 ≤ k) (h1 : k < 3) (t1 t2 t3 : Tok) : ∃ ee te, ([Value.str (Str.ofString "\n") t1, .str (Str.ofString "\r\n") t2, .str (Str.ofString "\r") t3] : List Value)[k.toNat]? = some (.str (mkS ee) te) ∧ ee.length ≤ 2 := by
  have : k.toNat = 0 ∨ k.toNat = 1 ∨ k.toNat = 2 := by omega
  rcases this with h | h | h <;> rw [h]
  · exact ⟨[10], t1, rfl, by decide⟩
  · exact ⟨[13, 10], t2, rfl, by decide⟩
  · exact ⟨[13], t3, rfl, by decide⟩
theorem law_p0 {w : World} {A : Around} {s₀ s : Shared} {L l : Addr} {nm : Str} {Q : Flow → Shared → Prop} {E : Value → Shared → Prop} {mean mg mb} {vs : List Value} {ns : List Int} {oc : Obj} (T : Top vq (looseW vq looseN) mean mg mb s₀.heap)
    (Y : TopH w s₀.heap) (hh : A.handled = none)
    (F : Fr s₀.heap L s.heap (mp [("script", .ref l)])) (N : News s₀.heap L s.heap [(L + 1, oc)]) (e : SameBut' s₀ s) (hl : s₀.heap.IsList l vs.toArray) (hi : IntsAre vs ns) (hlen : vs.length ≤ 63)
    (h : ∀ s' m' hd th ee te, SameBut' s₀ s' → 1 ≤ s'.toks → ee.length ≤ 2 → Fr s₀.heap L s'.heap m' → (∀ p ∈ [(("script" : Str), Value.ref l), ("head", .int hd th), ("eol", .str (mkS ee) te)], m' p.1 = some p.2) → News s₀.heap L s'.heap [(L + 1, oc)] →
      wpAny (model PR w) A (execs ((fBody (stm 22)).drop 2) (lawEnv nm L)) Q E s') :
    wpAny (model PR w) A (execs (fBody (stm 22)) (lawEnv nm L)) Q E s := by
  w_on
  obtain ⟨hp, tk, rfl⟩ := e
  have hl' : hp.IsList l vs.toArray := hl.at fun o e => F.keep _ o e
  refine wpAny_execs_cons ?_
  iterate 11 walk1
  (with_reducible rename News _ _ _ _ => hN)
  obtain ⟨hd, th, hv0⟩ := head_int hi (tk + 0)
  refine list_item (vs := vs ++ [.int 40 _]) (k := 0) (v := .int hd th) ⟨_, (hN _ (.head _)).1, rfl, _, rfl⟩ (by decide) (by decide) hv0 ?_
  have N2 : News s₀.heap L _ [(L + 1, oc)] := News.sub hN fun p hp => .tail _ (.tail _ hp)
  clear hN
  have hm0 : 0 ≤ hd.fmod 3 := Int.fmod_nonneg_of_pos _ (by decide)
  have hm1 : hd.fmod 3 < 3 := Int.fmod_lt_of_pos _ (by decide)
  dsimp only at N2 ⊢
  iterate 17 walk1
  (with_reducible rename News _ _ _ _ => hN)
  dsimp only at hN ⊢
  obtain ⟨ee, te, hve, hel⟩ := eol_pick hm0 hm1 _ _ _
  refine list_item (k := hd.fmod 3) (v := .str (mkS ee) te) ⟨_, (hN _ (.head _)).1, rfl, _, rfl⟩ hm0 (by omega) hve ?_
  have N3 : News s₀.heap L _ [(L + 1, oc)] := News.sub hN fun p hp => .tail _ hp
  clear hN
  try dsimp only
  walk1
  refine' h _ _ hd th ee te ⟨_, _, rfl⟩ ?_ hel (by assumption) ?_ (by assumption)
  · dsimp only; omega
  · walk_at "known"
end Mine
end
section
set_option maxRecDepth 100000
set_option maxHeartbeats 1000000
set_option linter.unusedVariables false
namespace Mine
theorem anew41 : True := by
  w_top off
  first | walk1 | trivial
open PySem PySem.W PySem.Calls PyProof.Rows
local macro_rules | `(tactic| walk_at "eval Name") => `(tactic| first
  | refine nm_local rfl rfl (Fr.ns (by assumption)) rfl ?_
  | ((with_reducible show wpAny _ _ (eval (PySem.Expr.Name (Str.ofString "len") _) _) _ _ _); refine nm_boot rfl rfl rfl rfl (by assumption) (Fr.keep (by assumption)) (fr_top (by assumption) (by assumption)) (gn_len _) bo_len (by decide) ?_)
  | ((with_reducible show wpAny _ _ (eval (PySem.Expr.Name (Str.ofString "_law_text") _) _) _ _ _); refine nm_glob rfl rfl rfl (fr_top (by assumption) (by assumption)) (g_text _) ?_))
local macro_rules | `(tactic| walk_at "callWith") => `(tactic| ((with_reducible show wpAny _ _ (callWith _ (Value.ref 57) [] _ _) _ _ _); refine callWith_fn ?_))
local macro_rules | `(tactic| walk_at "known") => `(tactic| (repeat' (first | exact List.forall_mem_nil _ | refine List.forall_mem_cons.mpr ⟨rfl, ?_⟩)))
theorem store_len {w : World} {A : Around} {E : Value → Shared → Prop} {s : Shared} {h₀ : Heap} {L : Addr} {m : Str → Option Value} {nm : Str} {v : Value} {oc : Obj} {Q : Unit → Shared → Prop} (F : Fr h₀ L s.heap m) (N : News h₀ L s.heap [(L + 1, oc)]) (hoc : oc.data = .cell none)
    (h : ∀ h' o', Fr h₀ L h' m → News h₀ L h' [(L + 1, o')] → o'.data = .cell (some v) → Q () { s with heap := h' }) : wpAny (model PR w) A (storeName (lawEnv nm L) "length" v) Q E s :=
  storeX_C (g := fun o' => [(L + 1, o')]) F N rfl (by constructor; intro p hp; cases hp) hoc h rfl rfl
theorem law_p1 {w : World} {A : Around} {s₀ s : Shared} {L l : Addr} {nm : Str} {Q : Flow → Shared → Prop} {E : Value → Shared → Prop} {mean mg mb} {oc : Obj} {m : Str → Option Value} {hd : Int} {th te : Tok} {ee : List Nat} (T : Top vq (looseW vq looseN) mean mg mb s₀.heap)
    (Y : TopH w s₀.heap) (hh : A.handled = none)
    (F : Fr s₀.heap L s.heap m) (hm : ∀ p ∈ [(("script" : Str), Value.ref l), ("head", .int hd th), ("eol", .str (mkS ee) te)], m p.1 = some p.2) (N : News s₀.heap L s.heap [(L + 1, oc)]) (hoc : oc.data = .cell none) (e : SameBut' s₀ s) (htk : 1 ≤ s.toks)
    (h : ∀ s' oc' n tn, SameBut' s₀ s' → 1 ≤ s'.toks → oc'.data = .cell (some (.int n tn)) → Fr s₀.heap L s'.heap m → News s₀.heap L s'.heap [(L + 1, oc')] →
      wpAny (model PR w) A (execs ((fBody (stm 22)).drop 3) (lawEnv nm L)) Q E s') :
    wpAny (model PR w) A (execs ((fBody (stm 22)).drop 2) (lawEnv nm L)) Q E s := by
  w_on
  obtain ⟨hp, tk, rfl⟩ := e
  rw [← over_eq hm] at F
  dsimp only at htk
  refine wpAny_execs_cons ?_
  repeat' walk1
  all_goals refine store_len F N hoc ?_
  all_goals intro h' o' F' N' ho'
  all_goals rw [over_eq hm] at F'
  · exact h _ o' _ _ ⟨_, _, rfl⟩ (by dsimp only; omega) ho' F' N'
  · exact h _ o' _ _ ⟨_, _, rfl⟩ (by dsimp only; omega) ho' F' N'
theorem at_text {w : World} {A : Around} {s : Shared} {h₀ : Heap} {L l : Addr} {m : Str → Option Value} {news : List (Addr × Obj)} {Q : Value → Shared → Prop} {E : Value → Shared → Prop} {mean mg mb} {vs : List Value} {ns : List Int} (T : Top vq (looseW vq looseN) mean mg mb h₀) (Y : TopH w h₀) (F : Fr h₀ L s.heap m) (N : News h₀ L s.heap news)
    (hh : A.handled = none) (hroom : A.depth < recursionLimit) (hl : s.heap.IsList l vs.toArray) (hi : IntsAre vs ns) (hs : 1 ≤ s.toks)
    (h : ∀ x tok h' tk, 1 ≤ tk → x.length ≤ 4000 → (∀ c ∈ x, c < 256) → Fr h₀ L h' m → News h₀ L h' news → Q (.str (mkS x) tok) { s with heap := h', toks := tk }) : AtFn (model PR w) A Q E 57 [.ref l] s := by
  have Ys := fr_top F Y
  refine ⟨⟨_, _, Ys 57 _ rfl, rfl⟩, wpAny_with_toks (n := 1) hs ?_⟩
  refine tx_call (T.keeps F.keep) Ys hh hroom hl hi fun x tok s' X hx hx8 ht => ?_
  have F' := fr_ext F X
  have N' := news_ext N X
  obtain ⟨_, h', tk, rfl⟩ := X
  exact h x tok h' tk ht hx hx8 F' N'
noncomputable def cafe : List Nat := [67, 97, 102, 233, 32, 61, 32, 49, 9, 13, 10, 32, 10, 13, 98, 97, 114, 32]
theorem o_cafe : Str.ofString "Café = 1\t\r\n \n\rbar " = mkS cafe := by decide +kernel
theorem law_p2 {w : World} {A : Around} {s₀ s : Shared} {L l : Addr} {nm : Str} {Q : Flow → Shared → Prop} {E : Value → Shared → Prop} {mean mg mb} {oc : Obj} {m : Str → Option Value} {te : Tok} {ee : List Nat} {vs : List Value} {ns : List Int} (T : Top vq (looseW vq looseN) mean mg mb s₀.heap)
    (Y : TopH w s₀.heap) (hh : A.handled = none) (hroom : A.depth < recursionLimit) (hl : s₀.heap.IsList l vs.toArray) (hi : IntsAre vs ns) (hlen : vs.length ≤ 63)
    (F : Fr s₀.heap L s.heap m) (hm : ∀ p ∈ [(("script" : Str), Value.ref l), ("eol", .str (mkS ee) te)], m p.1 = some p.2) (N : News s₀.heap L s.heap [(L + 1, oc)]) (e : SameBut' s₀ s) (htk : 1 ≤ s.toks)
    (h : ∀ s' m' x tx, SameBut' s₀ s' → 1 ≤ s'.toks → x.length ≤ 4000 → (∀ c ∈ x, c < 256) → Fr s₀.heap L s'.heap m' → (∀ p ∈ [(("text" : Str), Value.str (mkS x) tx), ("eol", .str (mkS ee) te)], m' p.1 = some p.2) → News s₀.heap L s'.heap [(L + 1, oc)] →
      wpAny (model PR w) A (execs ((fBody (stm 22)).drop 4) (lawEnv nm L)) Q E s') :
    wpAny (model PR w) A (execs ((fBody (stm 22)).drop 3) (lawEnv nm L)) Q E s := by
  w_on
  obtain ⟨hp, tk, rfl⟩ := e
  have hl' : hp.IsList l vs.toArray := hl.at fun o e => F.keep _ o e
  rw [← over_eq hm] at F
  dsimp only at htk
  refine wpAny_execs_cons ?_
  repeat' walk1
  refine len_list (items := vs.toArray) hl' (by rw [List.size_toArray]; omega) ?_
  rw [List.size_toArray]
  dsimp only
  iterate 4 walk1
  · repeat' walk1
    (with_reducible rename Fr _ _ _ (over _ _) => F2)
    (with_reducible rename News _ _ _ _ => N2)
    have hsl : slicePick vs.toArray (some 1) none none = (vs.drop 1).toArray := slicePick_from' vs.toArray 1
    rw [hsl] at N2
    have N3 : News s₀.heap L _ [(L + 1, oc)] := News.sub N2 fun p hp => .tail _ hp
    have hd : IntsAre (vs.drop 1) (ns.drop 1) := by cases hi with | nil => exact .nil | cons _ _ hi => exact hi
    refine at_text T Y F2 N3 hh hroom ⟨_, (N2 _ (.head _)).1, rfl, _, rfl⟩ hd (by dsimp only; omega) ?_
    intro x tok h2 tk2 ht hx hx8 F3 N4
    clear F2 N2 N3 F N
    dsimp only
    walk1
    refine' h _ _ x tok ⟨_, _, rfl⟩ ?_ hx hx8 (by assumption) ?_ (by assumption)
    · dsimp only; omega
    · walk_at "known"
  · walk1
    walk1
    refine' h _ _ cafe _ ⟨_, _, rfl⟩ ?a (by decide) (by decide) (by assumption) ?b (by assumption)
    case b =>
      refine List.forall_mem_cons.mpr ⟨?_, ?_⟩
      · rw [← o_cafe]; rfl
      · walk_at "known"
    case a => dsimp only; omega
end Mine
end
end
section
set_option maxRecDepth 100000
set_option maxHeartbeats 4000000
namespace Mine
open PySem PySem.W PySem.Calls PyProof.Rows
theorem hw1 : PySem.Challenge.rw_dp0020_01.row.toRowW.promised := by w_witness2
theorem top1 (walk : WalkO vq looseN (fun _ _ => True) (fun w h => ∀ b o, (Hf w.params).get? b = some o → h.get? b = some o) PySem.Challenge.rw_dp0020_01.row.toRowW
      { name := "law", params := fArgs (stm 22), body := fBody (stm 22), scope := fScope (stm 22), pos := ⟨89, 0, 101, 102⟩ } [] fun f vs => PySem.call f vs) : PySem.Challenge.rw_dp0020_01.Holds := by
  w_on
  o_law
  refine holds_open (q := vq) (loose := looseN) (Xt := fun s => recOk [] s) (XP := fun _ _ => True) (Yf := fun s => s.heap) (Ya := fun w => Hf w.params)
    (YP := fun w h => ∀ b o, (Hf w.params).get? b = some o → h.get? b = some o) (N := 34980) left1 (fun w s e b o h => e ▸ h) (fun w h h' y k b o e => k b o (y b o e)) (fun _ _ => trivial) (fun _ _ _ _ _ => trivial)
    (by kernel_rfl) (by kernel_rfl) (by kernel_rfl) (fun s e => recFacts_of e) (by rfl) (by assumption) (by decide +kernel) ⟨rfl, rfl, rfl, rfl, rfl, by decide +kernel⟩ hw1 walk
end Mine
end
section
set_option maxRecDepth 100000
set_option maxHeartbeats 4000000
set_option linter.unusedVariables false
namespace Mine
theorem anew43 : True := by
  w_top off
  first | walk1 | trivial
open PySem PySem.W PySem.Calls PyProof.Rows
theorem bind_one {k : Str → Option NameKind} (a : Str) (v : Value) (ha : k a = some .local) : bindL k [(a, v)] (fun _ => none) = mp [(a, v)] := by
  rw [bindL, if_pos ha, bindL]
  funext y
  show _ = List.lookup y [(a, v)]
  rw [List.lookup_cons]
  by_cases h1 : y = a
  · subst h1; simp
  · rw [if_neg h1, beq_eq_false_iff_ne.mpr h1]; rfl
theorem law_call {w : World} {s : Shared} {Q : Value → Shared → Prop} {E : Value → Shared → Prop} {mean mg mb} {l : Addr} {vs : List Value} {ns : List Int} (T : Top vq (looseW vq looseN) mean mg mb s.heap) (Y : TopH w s.heap)
    (hl : s.heap.IsList l vs.toArray) (hi : IntsAre vs ns) (hlen : vs.length ≤ 63) (h : ∀ s', Ext s s' → Q (.bool true) s') : wpAny (model PR w) callerA (call (.ref 74) [.ref l]) Q E s := by
  have K := below_caller s.heap
  have hr : callerA.depth + 2 < recursionLimit := by decide +kernel
  refine wpAny_call (codeAny_call_cells (a := 74) (body := fBody (stm 22)) (binds := [("script", .ref l)]) (by omega) (Y 74 _ rfl) rfl T.nolimit ⟨73, _, _, _, rfl, Y 73 _ rfl, rfl, rfl⟩ rfl rfl rfl (fun x hx => .inl (locs rfl x hx)) (fun s₁ x => ?_) rfl rfl rfl)
  have hc := x.cell "length" (s.heap.objs.size + 1) rfl
  obtain ⟨oc, hoc, hocd⟩ := hc
  have hhD : (callerA.deeper (lawEnv "law" s.heap.objs.size)).handled = none := rfl
  have hrD : (callerA.deeper (lawEnv "law" s.heap.objs.size)).depth < recursionLimit := by show callerA.depth + 1 < _; omega
  have F : Fr s.heap s.heap.objs.size s₁.heap (mp [("script", .ref l)]) := by
    have F0 : Fr s.heap s.heap.objs.size s₁.heap _ := ⟨x.toInCall.ns, x.toInCall.keep, Nat.le_refl _⟩
    have e : (bindL (lawEnv "law" s.heap.objs.size).kindOf [("script", .ref l)] fun _ => none) = mp [("script", .ref l)] := bind_one "script" _ rfl
    rw [← e]; exact F0
  have N : News s.heap s.heap.objs.size s₁.heap [(s.heap.objs.size + 1, oc)] := by
    intro p hp
    rw [List.mem_singleton.mp hp]
    refine ⟨hoc, by simp, ?_⟩
    cases hq : s.heap.get? (s.heap.objs.size + 1) with
    | none => rfl
    | some o' => exact (Nat.lt_irrefl _ (Nat.lt_trans (Nat.lt_succ_self _) (Heap.lt_size hq))).elim
  have hoc0 : oc.data = .cell none := hocd
  have e := x.toInCall.same
  refine wpAny_mono (Q := fun f s' => f = .ret (.bool true) ∧ Ext s s') (E := fun _ _ => False) ?_ (fun f s' q => ?_) (fun _ _ z => z.elim)
  · show wpAny (model PR w) (callerA.deeper (lawEnv "law" s.heap.objs.size)) (execs (fBody (stm 22)) (lawEnv "law" s.heap.objs.size)) _ _ s₁
    refine law_p0 T Y hhD F N e hl hi hlen fun s2 m2 hd th ee te e2 t2 hee F2 hm2 N2 => ?_
    refine law_p1 T Y hhD F2 hm2 N2 hoc0 e2 t2 fun s3 oc3 n tn e3 t3 hoc3 F3 N3 => ?_
    refine law_p2 (ee := ee) (te := te) T Y hhD hrD hl hi hlen F3 (fun p hp => ?_) N3 e3 t3 fun s4 m4 x tx e4 t4 hx hx8 F4 hm4 N4 => ?_
    · rcases List.mem_cons.mp hp with rfl | hp
      · exact hm2 _ (.head _)
      · rw [List.mem_singleton.mp hp]; exact hm2 _ (.tail _ (.tail _ (.head _)))
    exact law_h T Y K rfl hr hoc3 F4 hm4 N4 e4 hx hx8 hee t4 fun s' X => ⟨rfl, X⟩
  · obtain ⟨rfl, X⟩ := q
    exact h s' X
theorem g_law (P : Params) : gN P "law" = some (.ref 74) := by kernel_rfl
theorem walk1 : WalkO vq looseN (fun _ _ => True) (fun w h => ∀ b o, (Hf w.params).get? b = some o → h.get? b = some o) PySem.Challenge.rw_dp0020_01.row.toRowW
      { name := "law", params := fArgs (stm 22), body := fBody (stm 22), scope := fScope (stm 22), pos := ⟨89, 0, 101, 102⟩ } [] fun f vs => PySem.call f vs := by
  w_on
  intro w s₀ s₁ mg mb G Y fa o pm cd doc dV kV ho hd hcd hD hmg hg args vals as hpre hlay hrd hwl hlo
  refine Ground.open G ?_
  intro T B D TE TW
  wrow_args hpre hlay hrd hwl hlo
  have hmg' : gN w.params "law" = some (.ref fa) := by
    rw [(TopH.ns (w := w) Y).eq_nsMap, ← Heap.Ns.eq_nsMap T.g]; exact hmg
  rw [g_law] at hmg'
  obtain rfl : 74 = fa := by injection hmg' with q; injection q
  rename_i ns _ _ _ _ _ _ _ l vs _ hL _ _ _ hI _ hlen _
  refine law_call T Y hL hI (by rw [hI.length]; omega) fun s' X => ?_
  obtain ⟨k, hp', tk, rfl⟩ := X
  refine GoodW.toG ⟨.inl ⟨.bool true, .bool true, [], rfl, fun _ => rfl, .bool true, ?_, fun _ => ⟨.nil, fun _ h => nomatch h⟩⟩, k, rfl, hg⟩
  exact postW_of (by wrow_shape) (by wtm_val) (by first | rfl | (str_meet; first | done | w_fin))
theorem holds1 : PySem.Challenge.rw_dp0020_01.Holds := top1 walk1
end Mine
end
theorem PySem.Challenge.cw_dp0020_01_holds : PySem.Challenge.rw_dp0020_01.Holds :=
  Mine.holds1
