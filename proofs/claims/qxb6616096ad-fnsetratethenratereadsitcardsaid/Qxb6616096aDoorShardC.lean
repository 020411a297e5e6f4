import Derived.Test.Qxb6616096aDoorShardZ
import Derived.Test.Qxb6616096aDoorAsm
namespace Go.Proofs.Qxb6616096aDoor
open Go.RowKit
set_option linter.unusedVariables false
set_option maxRecDepth 100000
open Pl

theorem shard_c {mn mx it ic dc : Nat} {per : Int} (hp : per ≤ 9223372036854775807) {tok pha las : Nat → Int} {own : Nat → Nat} {has : Nat → Bool} (b A LB KB Bt Bp Bl Bo Bh n : Nat) (m o e d f : Int) (W : World) (hn : n ≤ 65536) (h : LimOK (b : Int) mn mx it per) (ho : ∀ j, j < n → has j = true → mn ≤ own j ∧ own j ≤ mx)
    (hA : Adap A LB KB (b : Int) mn mx it ic dc per m o e d f W) (hF : Five Bt Bp Bl Bo Bh n tok pha las own has W) (hT : Tab W) :
    Calls Tryd.prog 10 #[.pointer (some ⟨A, 0, Option.none⟩), .slice (some ⟨Bt, 0, Option.none⟩) n n, .slice (some ⟨Bp, 0, Option.none⟩) n n, .slice (some ⟨Bl, 0, Option.none⟩) n n, .slice (some ⟨Bo, 0, Option.none⟩) n n, .slice (some ⟨Bh, 0, Option.none⟩) n n] W fun e' w' => RetShard W n tok pha las own has (OKr b) e' w' := by
  refine shard_w A LB KB Bt Bp Bl Bo Bh n (b : Int) mn mx it ic dc per m o e d f tok pha las own has (OKr b) W hn hA hF ?_ ?_ ?_
  · exact fun w' => newKeyTable_c w'
  · exact fun t w' => limit_c (b : Int) per mn mx it ic dc t w'
  · intro j hj hh
    obtain ⟨m', o', e', d', f', hr, hc⟩ := rate_okr h hp (own j) (ho j hj hh).1 (ho j hj hh).2
    exact ⟨m', o', e', d', f', hr, fun w' hb => hc w' (hT.below hb)⟩

end Go.Proofs.Qxb6616096aDoor
