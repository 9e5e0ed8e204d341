import PyProof.Rows.All
import Wide.All
import OpenK.AllK
import Wide.FinOn
import PySem.Challenge.RW_wy0071_01
open PySem PySem.W PyProof.Rows
set_option Elab.async false
namespace Mine
theorem ints3 {h₀ : Heap} {L : Addr} {h : Heap} {l : Addr} {a b c : Int} {t u v : Tok} {n : Nat} {rest : List (Addr × Obj)}
    (hN : News h₀ L h ((l, W.listOf #[Value.int a t, Value.int b u, Value.int c v] n) :: rest)) :
    IntsAre [Value.int a t, Value.int b u, Value.int c v] [a, b, c] := by
  clear hN
  exact .cons _ _ (.cons _ _ (.cons _ _ .nil))
end Mine
local macro_rules | `(tactic| walk_at "exec For Name BinOp cons nil") => `(tactic| (k_here; (rename Fr _ _ _ _ => lF'); (with_unfolding_all refine' For_invVF lF' ?k1 ?k2 ?_; (case k1 => exact rfl); (case k2 => exact rfl); k_whole)))
set_option maxRecDepth 100000 in
set_option maxHeartbeats 8000000 in
theorem PySem.Challenge.cw_wy0071_01_holds : PySem.Challenge.rw_wy0071_01.Holds := by
  (k_with "pyIter ref" => (k_of "number" => k_search (fun pre => True)))
  (k_with "pyIter ref" => (k_of "more" => ((rename News _ _ _ _ => lN9); (have hI9 := Mine.ints3 lN9); k_search (fun pre => True))))
  open_k
